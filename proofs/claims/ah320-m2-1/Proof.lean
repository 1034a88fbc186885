import JvmDerived
import JvmDerived.Pilot.@@N@@Statement
import JvmDerived.Pilot.@@N@@Code
set_option linter.unusedVariables false
set_option linter.unusedSimpArgs false
namespace Jvm.RoadKit
open Sem ClassFile Op Lib Jvm.Stand Jvm.Free Jvm.LawKit
section New
variable {p : Program} {l : Launch} {e : Env} {R : Room} {s : State} {m : MethodId} {args : Array Value} {below : List Frame} {meth : Method} {c : Code} {T : State} {locs : List Loc} {cells slots : Nat}
theorem retI (X : Stand p l e R s m args below meth c T locs cells slots) (hx : p.tables.exec = Jvm.exec) {pc : Nat} {Ls : Array Slot} {z : Int32} {rest : List Value} (hret : meth.sig.returnType = some .int) (hd : decode c.code pc = .ok (.ireturn, 1)) {fs : List Frame}
    (hl : ∀ (f : JFrame) (acts : List Action), f.method = m → f.locked = none → f.entered = [] → (doReturn e (T.setTop f) acts (some (.int z))).1 = T.setFrames fs) : Steps p.tables e below (T.setTop (mkF m pc Ls (.int z :: rest))) (T.setFrames fs) := by
  have hm' : T.vm.method? m = some meth := X.method'
  have hn : narrow .int (.int z) = .int z := rfl
  show Steps p.tables e below (T.setTop { method := m, pc := pc, locals := Ls, stack := _ :: rest, locked := none }) _
  jvm_step X.here [X.here.top, hx, hd, hm', hret, hn]
  first | (intro acts; rw [hl _ acts rfl rfl rfl]) | rw [hl _ _ rfl rfl rfl]
  exact Steps.refl _
theorem retJ (X : Stand p l e R s m args below meth c T locs cells slots) (hx : p.tables.exec = Jvm.exec) {pc : Nat} {Ls : Array Slot} {z : Int64} {rest : List Value} (hret : meth.sig.returnType = some .long) (hd : decode c.code pc = .ok (.lreturn, 1)) {fs : List Frame}
    (hl : ∀ (f : JFrame) (acts : List Action), f.method = m → f.locked = none → f.entered = [] → (doReturn e (T.setTop f) acts (some (.long z))).1 = T.setFrames fs) : Steps p.tables e below (T.setTop (mkF m pc Ls (.long z :: rest))) (T.setFrames fs) := by
  have hm' : T.vm.method? m = some meth := X.method'
  have hn : narrow .long (.long z) = .long z := rfl
  show Steps p.tables e below (T.setTop { method := m, pc := pc, locals := Ls, stack := _ :: rest, locked := none }) _
  jvm_step X.here [X.here.top, hx, hd, hm', hret, hn]
  first | (intro acts; rw [hl _ acts rfl rfl rfl]) | rw [hl _ _ rfl rfl rfl]
  exact Steps.refl _
end New
end Jvm.RoadKit
namespace Jvm.Pilot.@@N@@
open Jvm Jvm.ClassFile Sem Op Lib Jvm.Free Jvm.Stand Jvm.LawKit Jvm.RoadKit Bundle Jvm.Pilot.@@N@@.Jvm.D
/-! THE WALK's GOAL, AND ONE LAW A STEP (each in the form: where the run goes on, it ends well; so it does from here) -/
def Go (p : Program) (e : Env) (below : List Frame) (K : Outcome → State → Prop) (u : State) : Prop := ∃ s₂ o, Steps p.tables e below u s₂ ∧ s₂.status = .running ∧ Ended s₂ below o ∧ K o s₂
theorem Go.step {p : Program} {e : Env} {below : List Frame} {K : Outcome → State → Prop} {u u' : State} (h : ∀ t, Steps p.tables e below u' t → Steps p.tables e below u t) (g : Go p e below K u') : Go p e below K u := by
  obtain ⟨a, o, h1, h2⟩ := g; exact ⟨a, o, h _ h1, h2⟩
def Ends (s : State) (Q : Option Value → Heap → List Loc → Prop) (kc ks : Nat) (o : Outcome) (U : State) : Prop := ∃ v L, o = .returned v ∧ Q v U.heap L ∧ FrameEnd s o U L kc ks
/-- where the run stands, with all that a step asks -/
def Sx (Z : State) (own : String) (bytes : ByteArray) (ml : Nat) (p : Program) (l : Launch) (e : Env) (R : Room) (s : State) (m : MethodId) (args : Array Value) (below : List Frame) (meth : Method) (c : Code) (T : State) (locs : List Loc) (cells slots : Nat) (h : Heap) : Prop :=
  Stand p l e R s m args below meth c T locs cells slots ∧ p.tables.exec = Jvm.exec ∧ c.code = bytes ∧ c.maxLocals = ml ∧ s.vm.findClass own = some m.cls ∧ Z.Warmed39 s.vm ∧ T.heap = h
/-- what a method owes: called at the heap h0 with these arguments it returns, and Q holds -/
abbrev Rm (l : Launch) (Z : State) (y : MethodName) (bytes : ByteArray) (ml : Nat) (ret : Option FieldType) (ws : List Jvm.Cond) (rm : Room) (as' : Array Value) (h0 : Heap) (Q : Option Value → Heap → List Loc → Prop) : Prop :=
  MetFree l y (head1 (Jvm.Cond.code y bytes ml ret :: ws) rm) (fun a U => a = as' ∧ Z.Warmed39 U.vm ∧ U.heap = h0) (fun _ _ _ _ _ => True) (fun _ U o U' => ∃ v L, o = .returned v ∧ Q v U'.heap L ∧ FrameEnd U o U' L rm.cells rm.slots)
theorem Rm.of {l : Launch} {Z : State} {y : MethodName} {bytes : ByteArray} {ml : Nat} {ret : Option FieldType} {ws : List Jvm.Cond} {rm : Room} {as' : Array Value} {h0 : Heap} {Q : Option Value → Heap → List Loc → Prop} (hpl : plainFor y = true)
    (body : ∀ (p : Program) (e : Env) (s : State) (m : MethodId) (below : List Frame) (meth : Method) (c : Code) (T : State), Sx Z y.cls bytes ml p l e rm s m as' below meth c T [] 0 0 h0 → meth.name = y.name → meth.sig.returnType = ret → meth.locks = false → Go p e below (Ends s Q rm.cells rm.slots) (T.setTop (entryFrame m as' ml))) : Rm l Z y bytes ml ret ws rm as' h0 Q := by
  refine MetFree.of_bodySF hpl hisR ?_
  intro p e s m args below meth c s₁ Bd hml0 hP hK
  obtain ⟨rfl, hZ, hh⟩ := hP
  have X0 : Stand p l e rm s m args below meth c s₁ [] 0 0 := Stand.of_body Bd
  exact body p e s m below meth c s₁ ⟨X0, Bd.exec, Bd.bytes, hml0, findClass_of_methodNamed Bd.named, hZ, by rw [← hh, Bd.state]; rfl⟩ (name_of_methodNamed Bd.named Bd.method).1 Bd.returns (BodyLoose.notSynchronized Bd)
theorem Rm.weaken {l : Launch} {Z : State} {y : MethodName} {bytes : ByteArray} {ml : Nat} {ret : Option FieldType} {ws : List Jvm.Cond} {rm : Room} {as' : Array Value} {h0 : Heap} {Q Q' : Option Value → Heap → List Loc → Prop} (M : Rm l Z y bytes ml ret ws rm as' h0 Q) (hq : ∀ v h L, Q v h L → Q' v h L) : Rm l Z y bytes ml ret ws rm as' h0 Q' := by
  intro p e ha hc hk s m args below hf happ hP hK
  obtain ⟨n, o, h1, h2, h3, v, L, e1, q, r⟩ := M p e ha hc hk s m args below hf happ hP hK
  exact ⟨n, o, h1, h2, h3, v, L, e1, hq _ _ _ q, r⟩
/-- a boolean as an int -/
def b2i (b : Bool) : Int32 := if b then 1 else 0
theorem m1_int : (-1 : Int32).toInt = -1 := rfl
theorem b2i_t : b2i true = 1 := rfl
theorem b2i_f : b2i false = 0 := rfl
theorem nar_b2i (b : Bool) : nar .boolean (b2i b) = b2i b := by cases b <;> rfl
theorem bne {b : Bool} (h : b = true) : ¬ b2i b = 0 := by subst h; decide
theorem beq0 {b : Bool} (h : ¬ b = true) : b2i b = 0 := by simp at h; subst h; rfl
theorem Fr.one {k : Nat} {a : Addr} {sl : Nat} (g : k ≤ a) : Fr k [⟨a, sl⟩] := fun y hy => by cases List.mem_singleton.mp hy; exact g
/-- an array and all that it holds -/
def Av (Z : State) (h : Heap) (a : Addr) (ty : FieldType) (vs : List Value) : Prop := ∃ c : Cell, Arr Z h a c ty ∧ c.slots.toList = vs ∧ vs.length < 2147483648
section Facts
variable {Z : State} {h h' : Heap} {a b : Addr} {ty : FieldType} {vs : List Value} {sl : Nat} {v : Value} {ws : List Addr}
theorem Av.lt (F : Av Z h a ty vs) : a < h.size := by obtain ⟨c, A, -⟩ := F; exact A.lt
theorem Av.ext (F : Av Z h a ty vs) (E : Ext h h') : Av Z h' a ty vs := by obtain ⟨c, A, r⟩ := F; exact ⟨c, A.ext E, r⟩
theorem Av.other (F : Av Z h b ty vs) (W : Wr h h' a sl v) (q : b ≠ a) : Av Z h' b ty vs := by obtain ⟨c, A, r⟩ := F; exact ⟨c, A.other W q, r⟩
theorem Av.keep (F : Av Z h a ty vs) (K : Keep h h' ws) (q : a ∉ ws) : Av Z h' a ty vs := by obtain ⟨c, A, r⟩ := F; exact ⟨c, ⟨K.2.1 a c A.1 q, A.2⟩, r⟩
theorem Av.set (F : Av Z h a ty vs) (W : Wr h h' a sl v) : Av Z h' a ty (vs.set sl v) := by
  obtain ⟨c, A, e, r⟩ := F
  refine ⟨_, A.same W, ?_, by simpa using r⟩
  subst e
  simp [Cell.setSlot]
theorem Av.eq {vs' : List Value} (F : Av Z h a ty vs) (e : vs = vs') : Av Z h a ty vs' := e ▸ F
/-- an array of which the length is known alone -/
def AvN (Z : State) (h : Heap) (a : Addr) (ty : FieldType) (z : Int32) : Prop := ∃ vs, Av Z h a ty vs ∧ vs.length.toInt32 = z
theorem AvN.lt {z : Int32} (F : AvN Z h a ty z) : a < h.size := by obtain ⟨vs, A, -⟩ := F; exact A.lt
theorem AvN.ext {z : Int32} (F : AvN Z h a ty z) (E : Ext h h') : AvN Z h' a ty z := by obtain ⟨vs, A, r⟩ := F; exact ⟨vs, A.ext E, r⟩
theorem AvN.other {z : Int32} (F : AvN Z h b ty z) (W : Wr h h' a sl v) (q : b ≠ a) : AvN Z h' b ty z := by obtain ⟨vs, A, r⟩ := F; exact ⟨vs, A.other W q, r⟩
theorem AvN.keep {z : Int32} (F : AvN Z h a ty z) (K : Keep h h' ws) (q : a ∉ ws) : AvN Z h' a ty z := by obtain ⟨vs, A, r⟩ := F; exact ⟨vs, A.keep K q, r⟩
theorem Av.len (F : Av Z h a ty vs) : vs.length.toInt32.toInt = vs.length := by obtain ⟨_, _, _, r⟩ := F; exact len_toInt r
/-- an array over objects of the class C -/
def OvA (Z : State) (h : Heap) (a : Addr) (C : String) : Prop := ∃ cl : Cell, Arr Z h a cl (.object C) ∧ Ovr Z cl.cls C
theorem OvA.lt {C : String} (F : OvA Z h a C) : a < h.size := by obtain ⟨_, A, _⟩ := F; exact A.lt
theorem OvA.ext {C : String} (F : OvA Z h a C) (E : Ext h h') : OvA Z h' a C := by obtain ⟨cl, A, r⟩ := F; exact ⟨cl, A.ext E, r⟩
theorem OvA.keep {C : String} (F : OvA Z h a C) (K : Keep h h' ws) (q : a ∉ ws) : OvA Z h' a C := by obtain ⟨c, A, r⟩ := F; exact ⟨c, ⟨K.2.1 a c A.1 q, A.2⟩, r⟩
theorem OvA.wr {C : String} (F : OvA Z h a C) (W : Wr h h' b sl v) : OvA Z h' a C := by
  obtain ⟨cl, A, r⟩ := F
  by_cases q : a = b
  · subst q; exact ⟨_, A.same W, r⟩
  · exact ⟨cl, A.other W q, r⟩
theorem OvA.sto {C : String} (F : OvA Z h a C) (I : Ins Z h b C true) : Sto Z h a (.ref b) := by obtain ⟨cl, A, r⟩ := F; exact Sto.of A r I
theorem fit0 : ∀ v ∈ ([] : List Value), fits ty v = true := fun _ q => nomatch q
theorem fitS (q : fits ty v = true) (r : ∀ w ∈ vs, fits ty w = true) : ∀ w ∈ v :: vs, fits ty w = true := fun w hw => (List.mem_cons.mp hw).elim (fun e => e ▸ q) (r w)
theorem Sta.keep {C n d : String} (F : Sta Z h C n d v) (K : Keep h h' ws) (q : ∀ x ∈ ws, ∀ c : Cell, h[x]? = some c → c.vm.isStatics = false) : Sta Z h' C n d v := by
  obtain ⟨cf, i, k, f, st, cell, h1, h2, h3, h4, h5, h6, h7⟩ := F
  exact ⟨cf, i, k, f, st, cell, h1, h2, h3, h4, K.2.1 _ _ h5 (fun hm => by rw [q _ hm _ h5] at h6; cases h6), h6, h7⟩
end Facts
section Walk
variable {Z : State} {a0 : Array Value} {own : String} {bytes : ByteArray} {ml : Nat} {p : Program} {l : Launch} {e : Env} {R : Room} {s : State} {m : MethodId} {args : Array Value} {below : List Frame} {meth : Method} {c : Code} {T : State} {locs : List Loc} {cells slots : Nat} {h : Heap} {K : Outcome → State → Prop} {pc pc' : Nat} {Ls Ls' : Array Slot} {st : List Value}
theorem Go.lit32 {x z : Int32} (q : x = z) (k : Go p e below K (T.setTop (mkF m pc Ls (.int z :: st)))) : Go p e below K (T.setTop (mkF m pc Ls (.int x :: st))) := q ▸ k
theorem Go.lit64 {x z : Int64} (q : x = z) (k : Go p e below K (T.setTop (mkF m pc Ls (.long z :: st)))) : Go p e below K (T.setTop (mkF m pc Ls (.long x :: st))) := q ▸ k
theorem Go.at_ {f f' : JFrame} (q : f = f') (k : Go p e below K (T.setTop f')) : Go p e below K (T.setTop f) := q ▸ k
theorem g_iload (X : Sx Z own bytes ml p l e R s m args below meth c T locs cells slots h) {i : Nat} {v : Int32} (hd : decode bytes pc = .ok (.iload i, 2)) (hp : pc + 2 = pc') (hl : Ls[i]? = some (.val (.int v))) (k : Go p e below K (T.setTop (mkF m pc' Ls (.int v :: st)))) : Go p e below K (T.setTop (mkF m pc Ls (st))) := by
  subst hp; exact Go.step (fun t q => XS.iload X.1.here X.2.1 rfl (hb X.2.2.1 hd) hl q) k
theorem g_iloadN (X : Sx Z own bytes ml p l e R s m args below meth c T locs cells slots h) {i : Fin 4} {v : Int32} (hd : decode bytes pc = .ok (.iload_n i, 1)) (hp : pc + 1 = pc') (hl : Ls[i.val]? = some (.val (.int v))) (k : Go p e below K (T.setTop (mkF m pc' Ls (.int v :: st)))) : Go p e below K (T.setTop (mkF m pc Ls (st))) := by
  subst hp; exact Go.step (fun t q => XS.iloadN X.1.here X.2.1 rfl (hb X.2.2.1 hd) hl q) k
theorem g_lload (X : Sx Z own bytes ml p l e R s m args below meth c T locs cells slots h) {i : Nat} {v : Int64} (hd : decode bytes pc = .ok (.lload i, 2)) (hp : pc + 2 = pc') (hl : Ls[i]? = some (.val (.long v))) (k : Go p e below K (T.setTop (mkF m pc' Ls (.long v :: st)))) : Go p e below K (T.setTop (mkF m pc Ls (st))) := by
  subst hp; exact Go.step (fun t q => XS.lload X.1.here X.2.1 rfl (hb X.2.2.1 hd) hl q) k
theorem g_lloadN (X : Sx Z own bytes ml p l e R s m args below meth c T locs cells slots h) {i : Fin 4} {v : Int64} (hd : decode bytes pc = .ok (.lload_n i, 1)) (hp : pc + 1 = pc') (hl : Ls[i.val]? = some (.val (.long v))) (k : Go p e below K (T.setTop (mkF m pc' Ls (.long v :: st)))) : Go p e below K (T.setTop (mkF m pc Ls (st))) := by
  subst hp; exact Go.step (fun t q => XS.lloadN X.1.here X.2.1 rfl (hb X.2.2.1 hd) hl q) k
theorem g_aload (X : Sx Z own bytes ml p l e R s m args below meth c T locs cells slots h) {i : Nat} {v : Value} (hd : decode bytes pc = .ok (.aload i, 2)) (hp : pc + 2 = pc') (hl : Ls[i]? = some (.val v)) (hv : v.isRef = true) (k : Go p e below K (T.setTop (mkF m pc' Ls (v :: st)))) : Go p e below K (T.setTop (mkF m pc Ls (st))) := by
  subst hp; exact Go.step (fun t q => XS.aload X.1.here X.2.1 rfl (hb X.2.2.1 hd) hl hv q) k
theorem g_aloadN (X : Sx Z own bytes ml p l e R s m args below meth c T locs cells slots h) {i : Fin 4} {v : Value} (hd : decode bytes pc = .ok (.aload_n i, 1)) (hp : pc + 1 = pc') (hl : Ls[i.val]? = some (.val v)) (hv : v.isRef = true) (k : Go p e below K (T.setTop (mkF m pc' Ls (v :: st)))) : Go p e below K (T.setTop (mkF m pc Ls (st))) := by
  subst hp; exact Go.step (fun t q => XS.aloadN X.1.here X.2.1 rfl (hb X.2.2.1 hd) hl hv q) k
theorem g_istore (X : Sx Z own bytes ml p l e R s m args below meth c T locs cells slots h) {i : Nat} {v : Int32} (hd : decode bytes pc = .ok (.istore i, 2)) (hp : pc + 2 = pc') (hl : storeLocals Ls i (.int v) = some Ls') (k : Go p e below K (T.setTop (mkF m pc' Ls' (st)))) : Go p e below K (T.setTop (mkF m pc Ls (.int v :: st))) := by
  subst hp; exact Go.step (fun t q => XS.istore X.1.here X.2.1 rfl (hb X.2.2.1 hd) rfl hl q) k
theorem g_istoreN (X : Sx Z own bytes ml p l e R s m args below meth c T locs cells slots h) {i : Fin 4} {v : Int32} (hd : decode bytes pc = .ok (.istore_n i, 1)) (hp : pc + 1 = pc') (hl : storeLocals Ls i.val (.int v) = some Ls') (k : Go p e below K (T.setTop (mkF m pc' Ls' (st)))) : Go p e below K (T.setTop (mkF m pc Ls (.int v :: st))) := by
  subst hp; exact Go.step (fun t q => XS.istoreN X.1.here X.2.1 rfl (hb X.2.2.1 hd) rfl hl q) k
theorem g_lstore (X : Sx Z own bytes ml p l e R s m args below meth c T locs cells slots h) {i : Nat} {v : Int64} (hd : decode bytes pc = .ok (.lstore i, 2)) (hp : pc + 2 = pc') (hl : storeLocals Ls i (.long v) = some Ls') (k : Go p e below K (T.setTop (mkF m pc' Ls' (st)))) : Go p e below K (T.setTop (mkF m pc Ls (.long v :: st))) := by
  subst hp; exact Go.step (fun t q => XS.lstore X.1.here X.2.1 rfl (hb X.2.2.1 hd) rfl hl q) k
theorem g_lstoreN (X : Sx Z own bytes ml p l e R s m args below meth c T locs cells slots h) {i : Fin 4} {v : Int64} (hd : decode bytes pc = .ok (.lstore_n i, 1)) (hp : pc + 1 = pc') (hl : storeLocals Ls i.val (.long v) = some Ls') (k : Go p e below K (T.setTop (mkF m pc' Ls' (st)))) : Go p e below K (T.setTop (mkF m pc Ls (.long v :: st))) := by
  subst hp; exact Go.step (fun t q => XS.lstoreN X.1.here X.2.1 rfl (hb X.2.2.1 hd) rfl hl q) k
theorem g_astore (X : Sx Z own bytes ml p l e R s m args below meth c T locs cells slots h) {i : Nat} {v : Value} (hd : decode bytes pc = .ok (.astore i, 2)) (hp : pc + 2 = pc') (hv : v.isRef = true) (hl : storeLocals Ls i v = some Ls') (k : Go p e below K (T.setTop (mkF m pc' Ls' (st)))) : Go p e below K (T.setTop (mkF m pc Ls (v :: st))) := by
  subst hp; exact Go.step (fun t q => XS.astore X.1.here X.2.1 rfl (hb X.2.2.1 hd) rfl hv hl q) k
theorem g_astoreN (X : Sx Z own bytes ml p l e R s m args below meth c T locs cells slots h) {i : Fin 4} {v : Value} (hd : decode bytes pc = .ok (.astore_n i, 1)) (hp : pc + 1 = pc') (hv : v.isRef = true) (hl : storeLocals Ls i.val v = some Ls') (k : Go p e below K (T.setTop (mkF m pc' Ls' (st)))) : Go p e below K (T.setTop (mkF m pc Ls (v :: st))) := by
  subst hp; exact Go.step (fun t q => XS.astoreN X.1.here X.2.1 rfl (hb X.2.2.1 hd) rfl hv hl q) k
theorem g_iconst (X : Sx Z own bytes ml p l e R s m args below meth c T locs cells slots h) {i : Int} (v : Int32) (hd : decode bytes pc = .ok (.iconst i, 1)) (hp : pc + 1 = pc') (hv : Int32.ofInt i = v) (k : Go p e below K (T.setTop (mkF m pc' Ls (.int v :: st)))) : Go p e below K (T.setTop (mkF m pc Ls (st))) := by
  subst hv; subst hp; exact Go.step (fun t q => XS.iconst X.1.here X.2.1 rfl (hb X.2.2.1 hd)  q) k
theorem g_bipush (X : Sx Z own bytes ml p l e R s m args below meth c T locs cells slots h) {i : Int} (v : Int32) (hd : decode bytes pc = .ok (.bipush i, 2)) (hp : pc + 2 = pc') (hv : (Int8.ofInt i).toInt32 = v) (k : Go p e below K (T.setTop (mkF m pc' Ls (.int v :: st)))) : Go p e below K (T.setTop (mkF m pc Ls (st))) := by
  subst hv; subst hp; exact Go.step (fun t q => XS.bipush X.1.here X.2.1 rfl (hb X.2.2.1 hd)  q) k
theorem g_sipush (X : Sx Z own bytes ml p l e R s m args below meth c T locs cells slots h) {i : Int} (v : Int32) (hd : decode bytes pc = .ok (.sipush i, 3)) (hp : pc + 3 = pc') (hv : (Int16.ofInt i).toInt32 = v) (k : Go p e below K (T.setTop (mkF m pc' Ls (.int v :: st)))) : Go p e below K (T.setTop (mkF m pc Ls (st))) := by
  subst hv; subst hp; exact Go.step (fun t q => XS.sipush X.1.here X.2.1 rfl (hb X.2.2.1 hd)  q) k
theorem g_lconst (X : Sx Z own bytes ml p l e R s m args below meth c T locs cells slots h) {i : Fin 2} (v : Int64) (hd : decode bytes pc = .ok (.lconst i, 1)) (hp : pc + 1 = pc') (hv : Int64.ofNat i = v) (k : Go p e below K (T.setTop (mkF m pc' Ls (.long v :: st)))) : Go p e below K (T.setTop (mkF m pc Ls (st))) := by
  subst hv; subst hp; exact Go.step (fun t q => XS.lconst X.1.here X.2.1 rfl (hb X.2.2.1 hd)  q) k
theorem g_aconst_null (X : Sx Z own bytes ml p l e R s m args below meth c T locs cells slots h) (hd : decode bytes pc = .ok (.aconst_null, 1)) (hp : pc + 1 = pc') (k : Go p e below K (T.setTop (mkF m pc' Ls (.null :: st)))) : Go p e below K (T.setTop (mkF m pc Ls (st))) := by
  subst hp; exact Go.step (fun t q => XS.aconstNull X.1.here X.2.1 rfl (hb X.2.2.1 hd)  q) k
theorem g_ldc (X : Sx Z own bytes ml p l e R s m args below meth c T locs cells slots h) {i : Nat} {v : Int32} (w : (Cond.constant own i v).before a0 Z = true) (hd : decode bytes pc = .ok (.ldc i, 2)) (hp : pc + 2 = pc') (k : Go p e below K (T.setTop (mkF m pc' Ls (.int v :: st)))) : Go p e below K (T.setTop (mkF m pc Ls (st))) := by
  subst hp; exact Go.step (fun t q => X.1.ldcInt X.2.1 X.2.2.2.2.1 (mvT X.2.2.2.2.2.1 w) (g := mkF m pc Ls st) rfl (hb X.2.2.1 hd) _ q) k
theorem g_ldcw (X : Sx Z own bytes ml p l e R s m args below meth c T locs cells slots h) {i : Nat} {v : Int32} (w : (Cond.constant own i v).before a0 Z = true) (hd : decode bytes pc = .ok (.ldc_w i, 3)) (hp : pc + 3 = pc') (k : Go p e below K (T.setTop (mkF m pc' Ls (.int v :: st)))) : Go p e below K (T.setTop (mkF m pc Ls (st))) := by
  subst hp; exact Go.step (fun t q => X.1.ldcwInt X.2.1 X.2.2.2.2.1 (mvT X.2.2.2.2.2.1 w) (g := mkF m pc Ls st) rfl (hb X.2.2.1 hd) _ q) k
theorem g_ldc2 (X : Sx Z own bytes ml p l e R s m args below meth c T locs cells slots h) {i : Nat} {v : Int64} (w : (Cond.constantLong own i v).before a0 Z = true) (hd : decode bytes pc = .ok (.ldc2_w i, 3)) (hp : pc + 3 = pc') (k : Go p e below K (T.setTop (mkF m pc' Ls (.long v :: st)))) : Go p e below K (T.setTop (mkF m pc Ls (st))) := by
  subst hp; exact Go.step (fun t q => X.1.ldc2Long X.2.1 X.2.2.2.2.1 (mvT X.2.2.2.2.2.1 w) (g := mkF m pc Ls st) rfl (hb X.2.2.1 hd) _ q) k
theorem g_iadd (X : Sx Z own bytes ml p l e R s m args below meth c T locs cells slots h) {x y : Int32} (hd : decode bytes pc = .ok (.iadd, 1)) (hp : pc + 1 = pc') (k : Go p e below K (T.setTop (mkF m pc' Ls (.int (x + y) :: st)))) : Go p e below K (T.setTop (mkF m pc Ls (.int y :: .int x :: st))) := by
  subst hp; exact Go.step (fun t q => XS.iadd X.1.here X.2.1 rfl (hb X.2.2.1 hd) rfl q) k
theorem g_isub (X : Sx Z own bytes ml p l e R s m args below meth c T locs cells slots h) {x y : Int32} (hd : decode bytes pc = .ok (.isub, 1)) (hp : pc + 1 = pc') (k : Go p e below K (T.setTop (mkF m pc' Ls (.int (x - y) :: st)))) : Go p e below K (T.setTop (mkF m pc Ls (.int y :: .int x :: st))) := by
  subst hp; exact Go.step (fun t q => XS.isub X.1.here X.2.1 rfl (hb X.2.2.1 hd) rfl q) k
theorem g_imul (X : Sx Z own bytes ml p l e R s m args below meth c T locs cells slots h) {x y : Int32} (hd : decode bytes pc = .ok (.imul, 1)) (hp : pc + 1 = pc') (k : Go p e below K (T.setTop (mkF m pc' Ls (.int (x * y) :: st)))) : Go p e below K (T.setTop (mkF m pc Ls (.int y :: .int x :: st))) := by
  subst hp; exact Go.step (fun t q => XS.imul X.1.here X.2.1 rfl (hb X.2.2.1 hd) rfl q) k
theorem g_iand (X : Sx Z own bytes ml p l e R s m args below meth c T locs cells slots h) {x y : Int32} (hd : decode bytes pc = .ok (.iand, 1)) (hp : pc + 1 = pc') (k : Go p e below K (T.setTop (mkF m pc' Ls (.int (x &&& y) :: st)))) : Go p e below K (T.setTop (mkF m pc Ls (.int y :: .int x :: st))) := by
  subst hp; exact Go.step (fun t q => XS.iand X.1.here X.2.1 rfl (hb X.2.2.1 hd) rfl q) k
theorem g_ior (X : Sx Z own bytes ml p l e R s m args below meth c T locs cells slots h) {x y : Int32} (hd : decode bytes pc = .ok (.ior, 1)) (hp : pc + 1 = pc') (k : Go p e below K (T.setTop (mkF m pc' Ls (.int (x ||| y) :: st)))) : Go p e below K (T.setTop (mkF m pc Ls (.int y :: .int x :: st))) := by
  subst hp; exact Go.step (fun t q => XS.ior X.1.here X.2.1 rfl (hb X.2.2.1 hd) rfl q) k
theorem g_ixor (X : Sx Z own bytes ml p l e R s m args below meth c T locs cells slots h) {x y : Int32} (hd : decode bytes pc = .ok (.ixor, 1)) (hp : pc + 1 = pc') (k : Go p e below K (T.setTop (mkF m pc' Ls (.int (x ^^^ y) :: st)))) : Go p e below K (T.setTop (mkF m pc Ls (.int y :: .int x :: st))) := by
  subst hp; exact Go.step (fun t q => XS.ixor X.1.here X.2.1 rfl (hb X.2.2.1 hd) rfl q) k
theorem g_ishl (X : Sx Z own bytes ml p l e R s m args below meth c T locs cells slots h) {x y : Int32} (hd : decode bytes pc = .ok (.ishl, 1)) (hp : pc + 1 = pc') (k : Go p e below K (T.setTop (mkF m pc' Ls (.int (x <<< (y &&& 31)) :: st)))) : Go p e below K (T.setTop (mkF m pc Ls (.int y :: .int x :: st))) := by
  subst hp; exact Go.step (fun t q => XS.ishl X.1.here X.2.1 rfl (hb X.2.2.1 hd) rfl q) k
theorem g_ishr (X : Sx Z own bytes ml p l e R s m args below meth c T locs cells slots h) {x y : Int32} (hd : decode bytes pc = .ok (.ishr, 1)) (hp : pc + 1 = pc') (k : Go p e below K (T.setTop (mkF m pc' Ls (.int (x >>> (y &&& 31)) :: st)))) : Go p e below K (T.setTop (mkF m pc Ls (.int y :: .int x :: st))) := by
  subst hp; exact Go.step (fun t q => XS.ishr X.1.here X.2.1 rfl (hb X.2.2.1 hd) rfl q) k
theorem g_iushr (X : Sx Z own bytes ml p l e R s m args below meth c T locs cells slots h) {x y : Int32} (hd : decode bytes pc = .ok (.iushr, 1)) (hp : pc + 1 = pc') (k : Go p e below K (T.setTop (mkF m pc' Ls (.int ((x.toUInt32 >>> (y &&& 31).toUInt32).toInt32) :: st)))) : Go p e below K (T.setTop (mkF m pc Ls (.int y :: .int x :: st))) := by
  subst hp; exact Go.step (fun t q => XS.iushr X.1.here X.2.1 rfl (hb X.2.2.1 hd) rfl q) k
theorem g_idiv (X : Sx Z own bytes ml p l e R s m args below meth c T locs cells slots h) {x y : Int32} (hd : decode bytes pc = .ok (.idiv, 1)) (hp : pc + 1 = pc') (hy : y ≠ 0) (k : Go p e below K (T.setTop (mkF m pc' Ls (.int (x / y) :: st)))) : Go p e below K (T.setTop (mkF m pc Ls (.int y :: .int x :: st))) := by
  subst hp; exact Go.step (fun t q => XS.idiv X.1.here X.2.1 rfl (hb X.2.2.1 hd) rfl hy q) k
theorem g_irem (X : Sx Z own bytes ml p l e R s m args below meth c T locs cells slots h) {x y : Int32} (hd : decode bytes pc = .ok (.irem, 1)) (hp : pc + 1 = pc') (hy : y ≠ 0) (k : Go p e below K (T.setTop (mkF m pc' Ls (.int (x % y) :: st)))) : Go p e below K (T.setTop (mkF m pc Ls (.int y :: .int x :: st))) := by
  subst hp; exact Go.step (fun t q => iremM (g := mkF m pc Ls (.int y :: .int x :: st)) X.1 X.2.1 rfl (hb X.2.2.1 hd) rfl hy q) k
theorem g_ladd (X : Sx Z own bytes ml p l e R s m args below meth c T locs cells slots h) {x y : Int64} (hd : decode bytes pc = .ok (.ladd, 1)) (hp : pc + 1 = pc') (k : Go p e below K (T.setTop (mkF m pc' Ls (.long (x + y) :: st)))) : Go p e below K (T.setTop (mkF m pc Ls (.long y :: .long x :: st))) := by
  subst hp; exact Go.step (fun t q => XS.ladd X.1.here X.2.1 rfl (hb X.2.2.1 hd) rfl q) k
theorem g_lsub (X : Sx Z own bytes ml p l e R s m args below meth c T locs cells slots h) {x y : Int64} (hd : decode bytes pc = .ok (.lsub, 1)) (hp : pc + 1 = pc') (k : Go p e below K (T.setTop (mkF m pc' Ls (.long (x - y) :: st)))) : Go p e below K (T.setTop (mkF m pc Ls (.long y :: .long x :: st))) := by
  subst hp; exact Go.step (fun t q => XS.lsub X.1.here X.2.1 rfl (hb X.2.2.1 hd) rfl q) k
theorem g_lmul (X : Sx Z own bytes ml p l e R s m args below meth c T locs cells slots h) {x y : Int64} (hd : decode bytes pc = .ok (.lmul, 1)) (hp : pc + 1 = pc') (k : Go p e below K (T.setTop (mkF m pc' Ls (.long (x * y) :: st)))) : Go p e below K (T.setTop (mkF m pc Ls (.long y :: .long x :: st))) := by
  subst hp; exact Go.step (fun t q => XS.lmul X.1.here X.2.1 rfl (hb X.2.2.1 hd) rfl q) k
theorem g_land (X : Sx Z own bytes ml p l e R s m args below meth c T locs cells slots h) {x y : Int64} (hd : decode bytes pc = .ok (.land, 1)) (hp : pc + 1 = pc') (k : Go p e below K (T.setTop (mkF m pc' Ls (.long (x &&& y) :: st)))) : Go p e below K (T.setTop (mkF m pc Ls (.long y :: .long x :: st))) := by
  subst hp; exact Go.step (fun t q => XS.land X.1.here X.2.1 rfl (hb X.2.2.1 hd) rfl q) k
theorem g_lor (X : Sx Z own bytes ml p l e R s m args below meth c T locs cells slots h) {x y : Int64} (hd : decode bytes pc = .ok (.lor, 1)) (hp : pc + 1 = pc') (k : Go p e below K (T.setTop (mkF m pc' Ls (.long (x ||| y) :: st)))) : Go p e below K (T.setTop (mkF m pc Ls (.long y :: .long x :: st))) := by
  subst hp; exact Go.step (fun t q => XS.lor X.1.here X.2.1 rfl (hb X.2.2.1 hd) rfl q) k
theorem g_lxor (X : Sx Z own bytes ml p l e R s m args below meth c T locs cells slots h) {x y : Int64} (hd : decode bytes pc = .ok (.lxor, 1)) (hp : pc + 1 = pc') (k : Go p e below K (T.setTop (mkF m pc' Ls (.long (x ^^^ y) :: st)))) : Go p e below K (T.setTop (mkF m pc Ls (.long y :: .long x :: st))) := by
  subst hp; exact Go.step (fun t q => XS.lxor X.1.here X.2.1 rfl (hb X.2.2.1 hd) rfl q) k
theorem g_lshl (X : Sx Z own bytes ml p l e R s m args below meth c T locs cells slots h) {x : Int64} {y : Int32} (hd : decode bytes pc = .ok (.lshl, 1)) (hp : pc + 1 = pc') (k : Go p e below K (T.setTop (mkF m pc' Ls (.long (x <<< (y &&& 0x3f).toInt64) :: st)))) : Go p e below K (T.setTop (mkF m pc Ls (.int y :: .long x :: st))) := by
  subst hp; exact Go.step (fun t q => XS.lshl X.1.here X.2.1 rfl (hb X.2.2.1 hd) rfl q) k
theorem g_lshr (X : Sx Z own bytes ml p l e R s m args below meth c T locs cells slots h) {x : Int64} {y : Int32} (hd : decode bytes pc = .ok (.lshr, 1)) (hp : pc + 1 = pc') (k : Go p e below K (T.setTop (mkF m pc' Ls (.long (x >>> (y &&& 0x3f).toInt64) :: st)))) : Go p e below K (T.setTop (mkF m pc Ls (.int y :: .long x :: st))) := by
  subst hp; exact Go.step (fun t q => XS.lshr X.1.here X.2.1 rfl (hb X.2.2.1 hd) rfl q) k
theorem g_lushr (X : Sx Z own bytes ml p l e R s m args below meth c T locs cells slots h) {x : Int64} {y : Int32} (hd : decode bytes pc = .ok (.lushr, 1)) (hp : pc + 1 = pc') (k : Go p e below K (T.setTop (mkF m pc' Ls (.long ((x.toUInt64 >>> (y &&& 0x3f).toInt64.toUInt64).toInt64) :: st)))) : Go p e below K (T.setTop (mkF m pc Ls (.int y :: .long x :: st))) := by
  subst hp; exact Go.step (fun t q => XS.lushr X.1.here X.2.1 rfl (hb X.2.2.1 hd) rfl q) k
theorem g_ldiv (X : Sx Z own bytes ml p l e R s m args below meth c T locs cells slots h) {x y : Int64} (hd : decode bytes pc = .ok (.ldiv, 1)) (hp : pc + 1 = pc') (hy : y ≠ 0) (k : Go p e below K (T.setTop (mkF m pc' Ls (.long (x / y) :: st)))) : Go p e below K (T.setTop (mkF m pc Ls (.long y :: .long x :: st))) := by
  subst hp; exact Go.step (fun t q => XS.ldiv X.1.here X.2.1 rfl (hb X.2.2.1 hd) rfl hy q) k
theorem g_lrem (X : Sx Z own bytes ml p l e R s m args below meth c T locs cells slots h) {x y : Int64} (hd : decode bytes pc = .ok (.lrem, 1)) (hp : pc + 1 = pc') (hy : y ≠ 0) (k : Go p e below K (T.setTop (mkF m pc' Ls (.long (x % y) :: st)))) : Go p e below K (T.setTop (mkF m pc Ls (.long y :: .long x :: st))) := by
  rw [← lrem_mod] at k; subst hp; exact Go.step (fun t q => XS.lrem X.1.here X.2.1 rfl (hb X.2.2.1 hd) rfl hy q) k
theorem g_lcmp (X : Sx Z own bytes ml p l e R s m args below meth c T locs cells slots h) {x y : Int64} (hd : decode bytes pc = .ok (.lcmp, 1)) (hp : pc + 1 = pc') (k : Go p e below K (T.setTop (mkF m pc' Ls (.int (lcmpW x y) :: st)))) : Go p e below K (T.setTop (mkF m pc Ls (.long y :: .long x :: st))) := by
  subst hp; exact Go.step (fun t q => XS.lcmp X.1.here X.2.1 rfl (hb X.2.2.1 hd) rfl q) k
theorem g_ineg (X : Sx Z own bytes ml p l e R s m args below meth c T locs cells slots h) {x : Int32} (hd : decode bytes pc = .ok (.ineg, 1)) (hp : pc + 1 = pc') (k : Go p e below K (T.setTop (mkF m pc' Ls (.int (-x) :: st)))) : Go p e below K (T.setTop (mkF m pc Ls (.int x :: st))) := by
  subst hp; exact Go.step (fun t q => XS.ineg X.1.here X.2.1 rfl (hb X.2.2.1 hd) rfl q) k
theorem g_i2b (X : Sx Z own bytes ml p l e R s m args below meth c T locs cells slots h) {x : Int32} (hd : decode bytes pc = .ok (.i2b, 1)) (hp : pc + 1 = pc') (k : Go p e below K (T.setTop (mkF m pc' Ls (.int (x.toInt8.toInt32) :: st)))) : Go p e below K (T.setTop (mkF m pc Ls (.int x :: st))) := by
  subst hp; exact Go.step (fun t q => XS.i2b X.1.here X.2.1 rfl (hb X.2.2.1 hd) rfl q) k
theorem g_i2c (X : Sx Z own bytes ml p l e R s m args below meth c T locs cells slots h) {x : Int32} (hd : decode bytes pc = .ok (.i2c, 1)) (hp : pc + 1 = pc') (k : Go p e below K (T.setTop (mkF m pc' Ls (.int (x.toUInt32.toUInt16.toUInt32.toInt32) :: st)))) : Go p e below K (T.setTop (mkF m pc Ls (.int x :: st))) := by
  subst hp; exact Go.step (fun t q => XS.i2c X.1.here X.2.1 rfl (hb X.2.2.1 hd) rfl q) k
theorem g_i2s (X : Sx Z own bytes ml p l e R s m args below meth c T locs cells slots h) {x : Int32} (hd : decode bytes pc = .ok (.i2s, 1)) (hp : pc + 1 = pc') (k : Go p e below K (T.setTop (mkF m pc' Ls (.int (x.toInt16.toInt32) :: st)))) : Go p e below K (T.setTop (mkF m pc Ls (.int x :: st))) := by
  subst hp; exact Go.step (fun t q => XS.i2s X.1.here X.2.1 rfl (hb X.2.2.1 hd) rfl q) k
theorem g_i2l (X : Sx Z own bytes ml p l e R s m args below meth c T locs cells slots h) {x : Int32} (hd : decode bytes pc = .ok (.i2l, 1)) (hp : pc + 1 = pc') (k : Go p e below K (T.setTop (mkF m pc' Ls (.long (x.toInt64) :: st)))) : Go p e below K (T.setTop (mkF m pc Ls (.int x :: st))) := by
  subst hp; exact Go.step (fun t q => XS.i2l X.1.here X.2.1 rfl (hb X.2.2.1 hd) rfl q) k
theorem g_l2i (X : Sx Z own bytes ml p l e R s m args below meth c T locs cells slots h) {x : Int64} (hd : decode bytes pc = .ok (.l2i, 1)) (hp : pc + 1 = pc') (k : Go p e below K (T.setTop (mkF m pc' Ls (.int (x.toInt32) :: st)))) : Go p e below K (T.setTop (mkF m pc Ls (.long x :: st))) := by
  subst hp; exact Go.step (fun t q => XS.l2i X.1.here X.2.1 rfl (hb X.2.2.1 hd) rfl q) k
theorem g_lneg (X : Sx Z own bytes ml p l e R s m args below meth c T locs cells slots h) {x : Int64} (hd : decode bytes pc = .ok (.lneg, 1)) (hp : pc + 1 = pc') (k : Go p e below K (T.setTop (mkF m pc' Ls (.long (-x) :: st)))) : Go p e below K (T.setTop (mkF m pc Ls (.long x :: st))) := by
  subst hp; exact Go.step (fun t q => XS.lneg X.1.here X.2.1 rfl (hb X.2.2.1 hd) rfl q) k
theorem g_iinc (X : Sx Z own bytes ml p l e R s m args below meth c T locs cells slots h) {i : Nat} {q x : Int32} {n : Int} (hd : decode bytes pc = .ok (.iinc i n, 3)) (hp : pc + 3 = pc') (hq : Int32.ofInt n = q) (hl : Ls[i]? = some (.val (.int x))) (hl' : storeLocals Ls i (.int (x + q)) = some Ls') (k : Go p e below K (T.setTop (mkF m pc' Ls' (st)))) : Go p e below K (T.setTop (mkF m pc Ls (st))) := by
  subst hq; subst hp; exact Go.step (fun t q => XS.iinc X.1.here X.2.1 rfl (hb X.2.2.1 hd) hl hl' q) k
theorem g_dup (X : Sx Z own bytes ml p l e R s m args below meth c T locs cells slots h) {v : Value} (hd : decode bytes pc = .ok (.dup, 1)) (hp : pc + 1 = pc') (hc : v.category = 1) (k : Go p e below K (T.setTop (mkF m pc' Ls (v :: v :: st)))) : Go p e below K (T.setTop (mkF m pc Ls (v :: st))) := by
  subst hp; exact Go.step (fun t q => XS.dup X.1.here X.2.1 rfl (hb X.2.2.1 hd) rfl hc q) k
theorem g_pop (X : Sx Z own bytes ml p l e R s m args below meth c T locs cells slots h) {v : Value} (hd : decode bytes pc = .ok (.pop, 1)) (hp : pc + 1 = pc') (hc : v.category = 1) (k : Go p e below K (T.setTop (mkF m pc' Ls (st)))) : Go p e below K (T.setTop (mkF m pc Ls (v :: st))) := by
  subst hp; exact Go.step (fun t q => XS.pop X.1.here X.2.1 rfl (hb X.2.2.1 hd) rfl hc q) k
theorem g_dup_x1 (X : Sx Z own bytes ml p l e R s m args below meth c T locs cells slots h) {v w : Value} (hd : decode bytes pc = .ok (.dup_x1, 1)) (hp : pc + 1 = pc') (hc : v.category = 1) (hc' : w.category = 1) (k : Go p e below K (T.setTop (mkF m pc' Ls (v :: w :: v :: st)))) : Go p e below K (T.setTop (mkF m pc Ls (v :: w :: st))) := by
  subst hp; exact Go.step (fun t q => XS.dupX1 X.1.here X.2.1 rfl (hb X.2.2.1 hd) rfl hc hc' q) k
theorem g_dup2 (X : Sx Z own bytes ml p l e R s m args below meth c T locs cells slots h) {v w : Value} (hd : decode bytes pc = .ok (.dup2, 1)) (hp : pc + 1 = pc') (hc : v.category = 1) (hc' : w.category = 1) (k : Go p e below K (T.setTop (mkF m pc' Ls (v :: w :: v :: w :: st)))) : Go p e below K (T.setTop (mkF m pc Ls (v :: w :: st))) := by
  subst hp; exact Go.step (fun t q => Jvm.Free.XT.dup2 X.1.here X.2.1 rfl (hb X.2.2.1 hd) rfl hc hc' q) k
theorem g_dup2L (X : Sx Z own bytes ml p l e R s m args below meth c T locs cells slots h) {v : Int64} (hd : decode bytes pc = .ok (.dup2, 1)) (hp : pc + 1 = pc') (k : Go p e below K (T.setTop (mkF m pc' Ls (.long v :: .long v :: st)))) : Go p e below K (T.setTop (mkF m pc Ls (.long v :: st))) := by
  subst hp; exact Go.step (fun t q => Jvm.Free.XT.dup2L X.1.here X.2.1 rfl (hb X.2.2.1 hd) rfl q) k
theorem g_dload (X : Sx Z own bytes ml p l e R s m args below meth c T locs cells slots h) {i : Nat} {v : UInt64} (hd : decode bytes pc = .ok (.dload i, 2)) (hp : pc + 2 = pc') (hl : Ls[i]? = some (.val (.double v))) (k : Go p e below K (T.setTop (mkF m pc' Ls (.double v :: st)))) : Go p e below K (T.setTop (mkF m pc Ls (st))) := by
  subst hp; exact Go.step (fun t q => XS.dload X.1.here X.2.1 rfl (hb X.2.2.1 hd) hl q) k
theorem g_dloadN (X : Sx Z own bytes ml p l e R s m args below meth c T locs cells slots h) {i : Fin 4} {v : UInt64} (hd : decode bytes pc = .ok (.dload_n i, 1)) (hp : pc + 1 = pc') (hl : Ls[i.val]? = some (.val (.double v))) (k : Go p e below K (T.setTop (mkF m pc' Ls (.double v :: st)))) : Go p e below K (T.setTop (mkF m pc Ls (st))) := by
  subst hp; exact Go.step (fun t q => XS.dloadN X.1.here X.2.1 rfl (hb X.2.2.1 hd) hl q) k
theorem g_i2d (X : Sx Z own bytes ml p l e R s m args below meth c T locs cells slots h) {x : Int32} (hd : decode bytes pc = .ok (.i2d, 1)) (hp : pc + 1 = pc') (k : Go p e below K (T.setTop (mkF m pc' Ls (.double (FP.i2d x) :: st)))) : Go p e below K (T.setTop (mkF m pc Ls (.int x :: st))) := by
  subst hp; exact Go.step (fun t q => XS.i2dS X.1.here X.2.1 rfl (hb X.2.2.1 hd) rfl rfl q) k
theorem g_dcmp (X : Sx Z own bytes ml p l e R s m args below meth c T locs cells slots h) {o : CmpOp} {x y : UInt64} (hd : decode bytes pc = .ok (.dcmp o, 1)) (hp : pc + 1 = pc') (k : ∀ v : Int32, Go p e below K (T.setTop (mkF m pc' Ls (.int v :: st)))) : Go p e below K (T.setTop (mkF m pc Ls (.double y :: .double x :: st))) := by
  subst hp; exact Go.step (fun t q => XS.dcmpS X.1.here X.2.1 rfl (hb X.2.2.1 hd) rfl rfl q) (k _)
theorem g_goto (X : Sx Z own bytes ml p l e R s m args below meth c T locs cells slots h) {o : Int} (hd : decode bytes pc = .ok (.goto o, 3)) (ho : 0 ≤ (pc : Int) + o) (hp : ((pc : Int) + o).toNat = pc') (k : Go p e below K (T.setTop (mkF m pc' Ls (st)))) : Go p e below K (T.setTop (mkF m pc Ls (st))) := by
  exact Go.step (fun t q => XS.goto X.1.here X.2.1 rfl rfl (hb X.2.2.1 hd) ho hp q) k
theorem g_ifY (X : Sx Z own bytes ml p l e R s m args below meth c T locs cells slots h) {cd : ClassFile.Cond} {x : Int32} {o : Int} (hd : decode bytes pc = .ok (.ifCond cd o, 3)) (hc : ifCond.holds cd x = true) (ho : 0 ≤ (pc : Int) + o) (hp : ((pc : Int) + o).toNat = pc') (k : Go p e below K (T.setTop (mkF m pc' Ls (st)))) : Go p e below K (T.setTop (mkF m pc Ls (.int x :: st))) := by
  exact Go.step (fun t q => XS.ifYes X.1.here X.2.1 rfl rfl (hb X.2.2.1 hd) rfl hc ho hp q) k
theorem g_ifN (X : Sx Z own bytes ml p l e R s m args below meth c T locs cells slots h) {cd : ClassFile.Cond} {x : Int32} {o : Int} (hd : decode bytes pc = .ok (.ifCond cd o, 3)) (hc : ifCond.holds cd x = false) (hp : pc + 3 = pc') (k : Go p e below K (T.setTop (mkF m pc' Ls (st)))) : Go p e below K (T.setTop (mkF m pc Ls (.int x :: st))) := by
  subst hp; exact Go.step (fun t q => XS.ifNo X.1.here X.2.1 rfl (hb X.2.2.1 hd) rfl hc q) k
theorem g_icY (X : Sx Z own bytes ml p l e R s m args below meth c T locs cells slots h) {cd : ClassFile.Cond} {x y : Int32} {o : Int} (hd : decode bytes pc = .ok (.if_icmp cd o, 3)) (hc : if_icmp.holds cd x y = true) (ho : 0 ≤ (pc : Int) + o) (hp : ((pc : Int) + o).toNat = pc') (k : Go p e below K (T.setTop (mkF m pc' Ls (st)))) : Go p e below K (T.setTop (mkF m pc Ls (.int y :: .int x :: st))) := by
  exact Go.step (fun t q => XS.icmpYes X.1.here X.2.1 rfl rfl (hb X.2.2.1 hd) rfl hc ho hp q) k
theorem g_icN (X : Sx Z own bytes ml p l e R s m args below meth c T locs cells slots h) {cd : ClassFile.Cond} {x y : Int32} {o : Int} (hd : decode bytes pc = .ok (.if_icmp cd o, 3)) (hc : if_icmp.holds cd x y = false) (hp : pc + 3 = pc') (k : Go p e below K (T.setTop (mkF m pc' Ls (st)))) : Go p e below K (T.setTop (mkF m pc Ls (.int y :: .int x :: st))) := by
  subst hp; exact Go.step (fun t q => XS.icmpNo X.1.here X.2.1 rfl (hb X.2.2.1 hd) rfl hc q) k
theorem g_nullY (X : Sx Z own bytes ml p l e R s m args below meth c T locs cells slots h) {o : Int} (hd : decode bytes pc = .ok (.ifnull o, 3)) (ho : 0 ≤ (pc : Int) + o) (hp : ((pc : Int) + o).toNat = pc') (k : Go p e below K (T.setTop (mkF m pc' Ls (st)))) : Go p e below K (T.setTop (mkF m pc Ls (.null :: st))) := by
  exact Go.step (fun t q => XS.ifnullYes X.1.here X.2.1 rfl rfl (hb X.2.2.1 hd) rfl ho hp q) k
theorem g_nullN (X : Sx Z own bytes ml p l e R s m args below meth c T locs cells slots h) {o : Int} {b : Addr} (hd : decode bytes pc = .ok (.ifnull o, 3)) (hp : pc + 3 = pc') (k : Go p e below K (T.setTop (mkF m pc' Ls (st)))) : Go p e below K (T.setTop (mkF m pc Ls (.ref b :: st))) := by
  subst hp; exact Go.step (fun t q => XS.ifnullNo X.1.here X.2.1 rfl (hb X.2.2.1 hd) rfl q) k
theorem g_nonnullY (X : Sx Z own bytes ml p l e R s m args below meth c T locs cells slots h) {o : Int} {b : Addr} (hd : decode bytes pc = .ok (.ifnonnull o, 3)) (ho : 0 ≤ (pc : Int) + o) (hp : ((pc : Int) + o).toNat = pc') (k : Go p e below K (T.setTop (mkF m pc' Ls (st)))) : Go p e below K (T.setTop (mkF m pc Ls (.ref b :: st))) := by
  exact Go.step (fun t q => XS.ifnonnullYes X.1.here X.2.1 rfl rfl (hb X.2.2.1 hd) rfl ho hp q) k
theorem g_nonnullN (X : Sx Z own bytes ml p l e R s m args below meth c T locs cells slots h) {o : Int} (hd : decode bytes pc = .ok (.ifnonnull o, 3)) (hp : pc + 3 = pc') (k : Go p e below K (T.setTop (mkF m pc' Ls (st)))) : Go p e below K (T.setTop (mkF m pc Ls (.null :: st))) := by
  subst hp; exact Go.step (fun t q => XS.ifnonnullNo X.1.here X.2.1 rfl (hb X.2.2.1 hd) rfl q) k
theorem g_acmp (X : Sx Z own bytes ml p l e R s m args below meth c T locs cells slots h) {cd : ACond} {x y : Value} {o : Int} {same : Bool} (hd : decode bytes pc = .ok (.if_acmp cd o, 3)) (h1 : x.isRef = true) (h2 : y.isRef = true) (hq : decide (x = y) = same) (ho : 0 ≤ (pc : Int) + o) (hp : pc' = if acV cd same = true then ((pc : Int) + o).toNat else pc + 3) (k : Go p e below K (T.setTop (mkF m pc' Ls (st)))) : Go p e below K (T.setTop (mkF m pc Ls (y :: x :: st))) := by
  exact Go.step (fun t q => acmp (g := mkF m pc Ls (y :: x :: st)) X.1 X.2.1 rfl h1 h2 rfl (hb X.2.2.1 hd) rfl hq ho hp q) k
theorem g_tswIn (X : Sx Z own bytes ml p l e R s m args below meth c T locs cells slots h) {dflt low high : Int} {offs : Array Int} {len : Nat} {o : Int} {i : Int32} (hd : decode bytes pc = .ok (.tableswitch dflt low high offs, len)) (hin : ¬ (i.toInt < low ∨ i.toInt > high)) (hoff : offs[(i.toInt - low).toNat]? = some o) (ho : 0 ≤ (pc : Int) + o) (hp : ((pc : Int) + o).toNat = pc') (k : Go p e below K (T.setTop (mkF m pc' Ls (st)))) : Go p e below K (T.setTop (mkF m pc Ls (.int i :: st))) := by
  exact Go.step (fun t q => XS.tswIn X.1.here X.2.1 rfl rfl (hb X.2.2.1 hd) rfl hin hoff ho hp q) k
theorem g_tswOut (X : Sx Z own bytes ml p l e R s m args below meth c T locs cells slots h) {dflt low high : Int} {offs : Array Int} {len : Nat} {i : Int32} (hd : decode bytes pc = .ok (.tableswitch dflt low high offs, len)) (hin : i.toInt < low ∨ i.toInt > high) (ho : 0 ≤ (pc : Int) + dflt) (hp : ((pc : Int) + dflt).toNat = pc') (k : Go p e below K (T.setTop (mkF m pc' Ls (st)))) : Go p e below K (T.setTop (mkF m pc Ls (.int i :: st))) := by
  exact Go.step (fun t q => XS.tswOut X.1.here X.2.1 rfl rfl (hb X.2.2.1 hd) rfl hin ho hp q) k
theorem g_iaload (X : Sx Z own bytes ml p l e R s m args below meth c T locs cells slots h) {a : Addr} {vs : List Value} {j : Int32} {x : Int32} (A : Av Z h a .int vs) (n : Nat) (hd : decode bytes pc = .ok (.iaload, 1)) (hp : pc + 1 = pc') (hj : ¬ j < 0) (hn : j.toNatClampNeg = n) (hv : vs[n]? = some (.int x)) (k : Go p e below K (T.setTop (mkF m pc' Ls (.int x :: st)))) : Go p e below K (T.setTop (mkF m pc Ls (.int j :: .ref a :: st))) := by
  obtain ⟨cl, A, rfl, r⟩ := A; subst hn; subst hp
  have hv' : cl.slots[j.toNatClampNeg]? = some (.int x) := by rw [← Array.getElem?_toList]; exact hv
  exact Go.step (fun t q => X.1.iaload X.2.1 (j := j) (by rw [X.2.2.2.2.2.2]; exact A.1) (State.isArrayOf_alike X.2.2.2.2.2.1.alike A.2.1) A.2.2 (fun hh => hh.elim hj (fun hh => absurd (Array.getElem?_eq_some_iff.mp hv').1 (Nat.not_lt.mpr hh))) hv' (g := mkF m pc Ls (.int j :: .ref a :: st)) rfl rfl (hb X.2.2.1 hd) _ q) k
theorem g_caload (X : Sx Z own bytes ml p l e R s m args below meth c T locs cells slots h) {a : Addr} {vs : List Value} {j : Int32} {x : Int32} (A : Av Z h a .char vs) (n : Nat) (hd : decode bytes pc = .ok (.caload, 1)) (hp : pc + 1 = pc') (hj : ¬ j < 0) (hn : j.toNatClampNeg = n) (hv : vs[n]? = some (.int x)) (k : Go p e below K (T.setTop (mkF m pc' Ls (.int x :: st)))) : Go p e below K (T.setTop (mkF m pc Ls (.int j :: .ref a :: st))) := by
  obtain ⟨cl, A, rfl, r⟩ := A; subst hn; subst hp
  have hv' : cl.slots[j.toNatClampNeg]? = some (.int x) := by rw [← Array.getElem?_toList]; exact hv
  exact Go.step (fun t q => X.1.caload X.2.1 (j := j) (by rw [X.2.2.2.2.2.2]; exact A.1) (State.isArrayOf_alike X.2.2.2.2.2.1.alike A.2.1) A.2.2 (fun hh => hh.elim hj (fun hh => absurd (Array.getElem?_eq_some_iff.mp hv').1 (Nat.not_lt.mpr hh))) hv' (g := mkF m pc Ls (.int j :: .ref a :: st)) rfl rfl (hb X.2.2.1 hd) _ q) k
theorem g_saload (X : Sx Z own bytes ml p l e R s m args below meth c T locs cells slots h) {a : Addr} {vs : List Value} {j : Int32} {x : Int32} (A : Av Z h a .short vs) (n : Nat) (hd : decode bytes pc = .ok (.saload, 1)) (hp : pc + 1 = pc') (hj : ¬ j < 0) (hn : j.toNatClampNeg = n) (hv : vs[n]? = some (.int x)) (k : Go p e below K (T.setTop (mkF m pc' Ls (.int x :: st)))) : Go p e below K (T.setTop (mkF m pc Ls (.int j :: .ref a :: st))) := by
  obtain ⟨cl, A, rfl, r⟩ := A; subst hn; subst hp
  have hv' : cl.slots[j.toNatClampNeg]? = some (.int x) := by rw [← Array.getElem?_toList]; exact hv
  exact Go.step (fun t q => X.1.saload X.2.1 (j := j) (by rw [X.2.2.2.2.2.2]; exact A.1) (State.isArrayOf_alike X.2.2.2.2.2.1.alike A.2.1) A.2.2 (fun hh => hh.elim hj (fun hh => absurd (Array.getElem?_eq_some_iff.mp hv').1 (Nat.not_lt.mpr hh))) hv' (g := mkF m pc Ls (.int j :: .ref a :: st)) rfl rfl (hb X.2.2.1 hd) _ q) k
theorem g_baload (X : Sx Z own bytes ml p l e R s m args below meth c T locs cells slots h) {a : Addr} {vs : List Value} {j : Int32} {x : Int32} (A : Av Z h a .byte vs) (n : Nat) (hd : decode bytes pc = .ok (.baload, 1)) (hp : pc + 1 = pc') (hj : ¬ j < 0) (hn : j.toNatClampNeg = n) (hv : vs[n]? = some (.int x)) (k : Go p e below K (T.setTop (mkF m pc' Ls (.int x :: st)))) : Go p e below K (T.setTop (mkF m pc Ls (.int j :: .ref a :: st))) := by
  obtain ⟨cl, A, rfl, r⟩ := A; subst hn; subst hp
  have hv' : cl.slots[j.toNatClampNeg]? = some (.int x) := by rw [← Array.getElem?_toList]; exact hv
  exact Go.step (fun t q => X.1.baloadBytes X.2.1 (j := j) (by rw [X.2.2.2.2.2.2]; exact A.1) (State.isArrayOf_alike X.2.2.2.2.2.1.alike A.2.1) A.2.2 (fun hh => hh.elim hj (fun hh => absurd (Array.getElem?_eq_some_iff.mp hv').1 (Nat.not_lt.mpr hh))) hv' (g := mkF m pc Ls (.int j :: .ref a :: st)) rfl rfl (hb X.2.2.1 hd) _ q) k
theorem g_laload (X : Sx Z own bytes ml p l e R s m args below meth c T locs cells slots h) {a : Addr} {vs : List Value} {j : Int32} {x : Int64} (A : Av Z h a .long vs) (n : Nat) (hd : decode bytes pc = .ok (.laload, 1)) (hp : pc + 1 = pc') (hj : ¬ j < 0) (hn : j.toNatClampNeg = n) (hv : vs[n]? = some (.long x)) (k : Go p e below K (T.setTop (mkF m pc' Ls (.long x :: st)))) : Go p e below K (T.setTop (mkF m pc Ls (.int j :: .ref a :: st))) := by
  obtain ⟨cl, A, rfl, r⟩ := A; subst hn; subst hp
  have hv' : cl.slots[j.toNatClampNeg]? = some (.long x) := by rw [← Array.getElem?_toList]; exact hv
  exact Go.step (fun t q => X.1.laload X.2.1 (j := j) (by rw [X.2.2.2.2.2.2]; exact A.1) (State.isArrayOf_alike X.2.2.2.2.2.1.alike A.2.1) A.2.2 (fun hh => hh.elim hj (fun hh => absurd (Array.getElem?_eq_some_iff.mp hv').1 (Nat.not_lt.mpr hh))) hv' (g := mkF m pc Ls (.int j :: .ref a :: st)) rfl rfl (hb X.2.2.1 hd) _ q) k
theorem g_aaload (X : Sx Z own bytes ml p l e R s m args below meth c T locs cells slots h) {a : Addr} {vs : List Value} {j : Int32} {v : Value} {ty : FieldType} (A : Av Z h a ty vs) (n : Nat) (hd : decode bytes pc = .ok (.aaload, 1)) (hp : pc + 1 = pc') (hty : ty.isReference = true) (hj : ¬ j < 0) (hn : j.toNatClampNeg = n) (hv : vs[n]? = some v) (k : Go p e below K (T.setTop (mkF m pc' Ls (v :: st)))) : Go p e below K (T.setTop (mkF m pc Ls (.int j :: .ref a :: st))) := by
  obtain ⟨cl, A, rfl, r⟩ := A; subst hn; subst hp
  have hv' : cl.slots[j.toNatClampNeg]? = some v := by rw [← Array.getElem?_toList]; exact hv
  exact Go.step (fun t q => X.1.aaload X.2.1 (j := j) (by rw [X.2.2.2.2.2.2]; exact A.1) (State.isArrayOf_alike X.2.2.2.2.2.1.alike A.2.1) hty A.2.2 (fun hh => hh.elim hj (fun hh => absurd (Array.getElem?_eq_some_iff.mp hv').1 (Nat.not_lt.mpr hh))) hv' (g := mkF m pc Ls (.int j :: .ref a :: st)) rfl rfl (hb X.2.2.1 hd) _ q) k
theorem g_arraylength (X : Sx Z own bytes ml p l e R s m args below meth c T locs cells slots h) {a : Addr} {vs : List Value} {ty : FieldType} (A : Av Z h a ty vs) (hd : decode bytes pc = .ok (.arraylength, 1)) (hp : pc + 1 = pc') {z : Int32} (hz : vs.length.toInt32 = z) (k : Go p e below K (T.setTop (mkF m pc' Ls (.int z :: st)))) : Go p e below K (T.setTop (mkF m pc Ls (.ref a :: st))) := by
  obtain ⟨cl, A, rfl, r⟩ := A; subst hp
  rw [Array.length_toList] at hz; subst hz
  exact Go.step (fun t q => X.1.arraylength X.2.1 (by rw [X.2.2.2.2.2.2]; exact A.1) (State.isArrayOf_alike X.2.2.2.2.2.1.alike A.2.1) (g := mkF m pc Ls (.ref a :: st)) rfl rfl (hb X.2.2.1 hd) _ q) k
theorem g_iastore (X : Sx Z own bytes ml p l e R s m args below meth c T locs cells slots h) {a : Addr} {vs : List Value} {j : Int32} {x : Int32} (A : Av Z h a .int vs) (n : Nat) (hd : decode bytes pc = .ok (.iastore, 1)) (hp : pc + 1 = pc') (hj : ¬ j < 0) (hn : j.toNatClampNeg = n) (hlt : n < vs.length) (k : ∀ T' h', Sx Z own bytes ml p l e R s m args below meth c T' (locs ++ [⟨a, n⟩]) cells slots h' → Wr h h' a n (.int x) → Av Z h' a .int (vs.set n (.int x)) → Go p e below K (T'.setTop (mkF m pc' Ls (st)))) : Go p e below K (T.setTop (mkF m pc Ls (.int x :: .int j :: .ref a :: st))) := by
  obtain ⟨cl, A, rfl, r⟩ := A; subst hn; subst hp
  obtain ⟨T', h', X', e', W, stp⟩ := stI X.1 X.2.1 X.2.2.2.2.2.1 X.2.2.2.2.2.2 A (j := j) (fun hh => hh.elim hj (fun hh => absurd hlt (by simpa using hh))) (g := mkF m pc Ls (.int x :: .int j :: .ref a :: st)) rfl rfl (hb X.2.2.1 hd)
  exact Go.step (fun t q => stp _ q) (k T' h' ⟨X', X.2.1, X.2.2.1, X.2.2.2.1, X.2.2.2.2.1, X.2.2.2.2.2.1, e'⟩ W (Av.set ⟨cl, A, rfl, r⟩ W))
theorem g_lastore (X : Sx Z own bytes ml p l e R s m args below meth c T locs cells slots h) {a : Addr} {vs : List Value} {j : Int32} {x : Int64} (A : Av Z h a .long vs) (n : Nat) (hd : decode bytes pc = .ok (.lastore, 1)) (hp : pc + 1 = pc') (hj : ¬ j < 0) (hn : j.toNatClampNeg = n) (hlt : n < vs.length) (k : ∀ T' h', Sx Z own bytes ml p l e R s m args below meth c T' (locs ++ [⟨a, n⟩]) cells slots h' → Wr h h' a n (.long x) → Av Z h' a .long (vs.set n (.long x)) → Go p e below K (T'.setTop (mkF m pc' Ls (st)))) : Go p e below K (T.setTop (mkF m pc Ls (.long x :: .int j :: .ref a :: st))) := by
  obtain ⟨cl, A, rfl, r⟩ := A; subst hn; subst hp
  obtain ⟨T', h', X', e', W, stp⟩ := stJ X.1 X.2.1 X.2.2.2.2.2.1 X.2.2.2.2.2.2 A (j := j) (fun hh => hh.elim hj (fun hh => absurd hlt (by simpa using hh))) (g := mkF m pc Ls (.long x :: .int j :: .ref a :: st)) rfl rfl (hb X.2.2.1 hd)
  exact Go.step (fun t q => stp _ q) (k T' h' ⟨X', X.2.1, X.2.2.1, X.2.2.2.1, X.2.2.2.2.1, X.2.2.2.2.2.1, e'⟩ W (Av.set ⟨cl, A, rfl, r⟩ W))
theorem g_castore (X : Sx Z own bytes ml p l e R s m args below meth c T locs cells slots h) {a : Addr} {vs : List Value} {j : Int32} {x : Int32} (A : Av Z h a .char vs) (n : Nat) (hd : decode bytes pc = .ok (.castore, 1)) (hp : pc + 1 = pc') (hj : ¬ j < 0) (hn : j.toNatClampNeg = n) (hlt : n < vs.length) (k : ∀ T' h', Sx Z own bytes ml p l e R s m args below meth c T' (locs ++ [⟨a, n⟩]) cells slots h' → Wr h h' a n (.int (nar .char x)) → Av Z h' a .char (vs.set n (.int (nar .char x))) → Go p e below K (T'.setTop (mkF m pc' Ls (st)))) : Go p e below K (T.setTop (mkF m pc Ls (.int x :: .int j :: .ref a :: st))) := by
  obtain ⟨cl, A, rfl, r⟩ := A; subst hn; subst hp
  obtain ⟨T', h', X', e', W, stp⟩ := stC X.1 X.2.1 X.2.2.2.2.2.1 X.2.2.2.2.2.2 A (j := j) (fun hh => hh.elim hj (fun hh => absurd hlt (by simpa using hh))) (g := mkF m pc Ls (.int x :: .int j :: .ref a :: st)) rfl rfl (hb X.2.2.1 hd)
  exact Go.step (fun t q => stp _ q) (k T' h' ⟨X', X.2.1, X.2.2.1, X.2.2.2.1, X.2.2.2.2.1, X.2.2.2.2.2.1, e'⟩ W (Av.set ⟨cl, A, rfl, r⟩ W))
theorem g_sastore (X : Sx Z own bytes ml p l e R s m args below meth c T locs cells slots h) {a : Addr} {vs : List Value} {j : Int32} {x : Int32} (A : Av Z h a .short vs) (n : Nat) (hd : decode bytes pc = .ok (.sastore, 1)) (hp : pc + 1 = pc') (hj : ¬ j < 0) (hn : j.toNatClampNeg = n) (hlt : n < vs.length) (k : ∀ T' h', Sx Z own bytes ml p l e R s m args below meth c T' (locs ++ [⟨a, n⟩]) cells slots h' → Wr h h' a n (.int (nar .short x)) → Av Z h' a .short (vs.set n (.int (nar .short x))) → Go p e below K (T'.setTop (mkF m pc' Ls (st)))) : Go p e below K (T.setTop (mkF m pc Ls (.int x :: .int j :: .ref a :: st))) := by
  obtain ⟨cl, A, rfl, r⟩ := A; subst hn; subst hp
  obtain ⟨T', h', X', e', W, stp⟩ := stS X.1 X.2.1 X.2.2.2.2.2.1 X.2.2.2.2.2.2 A (j := j) (fun hh => hh.elim hj (fun hh => absurd hlt (by simpa using hh))) (g := mkF m pc Ls (.int x :: .int j :: .ref a :: st)) rfl rfl (hb X.2.2.1 hd)
  exact Go.step (fun t q => stp _ q) (k T' h' ⟨X', X.2.1, X.2.2.1, X.2.2.2.1, X.2.2.2.2.1, X.2.2.2.2.2.1, e'⟩ W (Av.set ⟨cl, A, rfl, r⟩ W))
theorem g_bastore (X : Sx Z own bytes ml p l e R s m args below meth c T locs cells slots h) {a : Addr} {vs : List Value} {j : Int32} {x : Int32} (A : Av Z h a .byte vs) (n : Nat) (hd : decode bytes pc = .ok (.bastore, 1)) (hp : pc + 1 = pc') (hj : ¬ j < 0) (hn : j.toNatClampNeg = n) (hlt : n < vs.length) (k : ∀ T' h', Sx Z own bytes ml p l e R s m args below meth c T' (locs ++ [⟨a, n⟩]) cells slots h' → Wr h h' a n (.int (nar .byte x)) → Av Z h' a .byte (vs.set n (.int (nar .byte x))) → Go p e below K (T'.setTop (mkF m pc' Ls (st)))) : Go p e below K (T.setTop (mkF m pc Ls (.int x :: .int j :: .ref a :: st))) := by
  obtain ⟨cl, A, rfl, r⟩ := A; subst hn; subst hp
  obtain ⟨T', h', X', e', W, stp⟩ := stB X.1 X.2.1 X.2.2.2.2.2.1 X.2.2.2.2.2.2 A (j := j) (fun hh => hh.elim hj (fun hh => absurd hlt (by simpa using hh))) (g := mkF m pc Ls (.int x :: .int j :: .ref a :: st)) rfl rfl (hb X.2.2.1 hd)
  exact Go.step (fun t q => stp _ q) (k T' h' ⟨X', X.2.1, X.2.2.1, X.2.2.2.1, X.2.2.2.2.1, X.2.2.2.2.2.1, e'⟩ W (Av.set ⟨cl, A, rfl, r⟩ W))
theorem g_arraylengthN (X : Sx Z own bytes ml p l e R s m args below meth c T locs cells slots h) {a : Addr} {ty : FieldType} {z : Int32} (A : AvN Z h a ty z) (hd : decode bytes pc = .ok (.arraylength, 1)) (hp : pc + 1 = pc') (k : Go p e below K (T.setTop (mkF m pc' Ls (.int z :: st)))) : Go p e below K (T.setTop (mkF m pc Ls (.ref a :: st))) := by
  obtain ⟨vs, A, hz⟩ := A; exact g_arraylength X A hd hp hz k
theorem g_iastoreN (X : Sx Z own bytes ml p l e R s m args below meth c T locs cells slots h) {a : Addr} {j x z : Int32} (A : AvN Z h a .int z) (hd : decode bytes pc = .ok (.iastore, 1)) (hp : pc + 1 = pc') (hj : ¬ j < 0) (hjz : j < z) (k : ∀ T' h', Sx Z own bytes ml p l e R s m args below meth c T' (locs ++ [⟨a, j.toNatClampNeg⟩]) cells slots h' → Wr h h' a j.toNatClampNeg (.int x) → AvN Z h' a .int z → Go p e below K (T'.setTop (mkF m pc' Ls (st)))) : Go p e below K (T.setTop (mkF m pc Ls (.int x :: .int j :: .ref a :: st))) := by
  obtain ⟨vs, A, hz⟩ := A
  have hl := A.len
  refine g_iastore X A _ hd hp hj rfl ?_ (fun T' h' X' W V => k T' h' X' W ⟨_, V, by rw [List.length_set]; exact hz⟩)
  rw [hz] at hl
  rw [Int32.lt_iff_toInt_lt] at hj hjz
  simp only [Int32.toNatClampNeg, Int32.reduceToInt] at hj ⊢
  omega
theorem g_aastore (X : Sx Z own bytes ml p l e R s m args below meth c T locs cells slots h) {a : Addr} {vs : List Value} {j : Int32} {v : Value} {ty : FieldType} (A : Av Z h a ty vs) (S : Sto Z h a v) (n : Nat) (hd : decode bytes pc = .ok (.aastore, 1)) (hp : pc + 1 = pc') (hty : ty.isReference = true) (hj : ¬ j < 0) (hn : j.toNatClampNeg = n) (hlt : n < vs.length) (k : ∀ T' h', Sx Z own bytes ml p l e R s m args below meth c T' (locs ++ [⟨a, n⟩]) cells slots h' → Wr h h' a n v → Av Z h' a ty (vs.set n v) → Go p e below K (T'.setTop (mkF m pc' Ls (st)))) : Go p e below K (T.setTop (mkF m pc Ls (v :: .int j :: .ref a :: st))) := by
  obtain ⟨cl, A, rfl, r⟩ := A; subst hn; subst hp
  obtain ⟨T', h', X', e', W, stp⟩ := stR X.1 X.2.1 X.2.2.2.2.2.1 X.2.2.2.2.2.2 A (j := j) (fun hh => hh.elim hj (fun hh => absurd hlt (by simpa using hh))) hty S (g := mkF m pc Ls (v :: .int j :: .ref a :: st)) rfl rfl (hb X.2.2.1 hd)
  exact Go.step (fun t q => stp _ q) (k T' h' ⟨X', X.2.1, X.2.2.1, X.2.2.2.1, X.2.2.2.2.1, X.2.2.2.2.2.1, e'⟩ W (Av.set ⟨cl, A, rfl, r⟩ W))
theorem g_newarray (X : Sx Z own bytes ml p l e R s m args below meth c T locs cells slots h) {aty : ArrayType} {z : Int32} {vs : List Value} {ad : String} (n : Nat) (w : (Cond.arrayClass (newarray.typeOf aty)).before a0 Z = true) (hd : decode bytes pc = .ok (.newarray aty, 2)) (hp : pc + 2 = pc') (hz : ¬ z < 0) (hn : z.toNatClampNeg = n) (cap : Nat) (hcap : n ≤ cap) (hbig : cap * 8 ≤ 536870912) (hc : cells + 1 ≤ R.cells) (hl : slots + cap ≤ R.slots) (hvs : List.replicate n (defaultValue (newarray.typeOf aty)) = vs) (had : "[" ++ (newarray.typeOf aty).toString = ad) (k : ∀ T' h' (a : Addr), a = h.size → Sx Z own bytes ml p l e R s m args below meth c T' locs (cells + 1) (slots + cap) h' → Ext h h' → Exa Z h' a ad → Av Z h' a (newarray.typeOf aty) vs → Go p e below K (T'.setTop (mkF m pc' Ls (.ref a :: st)))) : Go p e below K (T.setTop (mkF m pc Ls (.int z :: st))) := by
  subst hn; subst hp; subst hvs
  obtain ⟨T', h', cA, X', e', E, A, B, stp⟩ := newPE X.1 X.2.1 X.2.2.2.2.2.1 w X.2.2.2.2.2.2 (g := mkF m pc Ls (.int z :: st)) rfl (hb X.2.2.1 hd) rfl hz hcap hbig hc hl had
  refine Go.step (fun t q => stp _ q) (k T' h' _ rfl ⟨X', X.2.1, X.2.2.1, X.2.2.2.1, X.2.2.2.2.1, X.2.2.2.2.2.1, e'⟩ E B ⟨_, A, by simp [newA], ?_⟩)
  simp only [List.length_replicate]
  exact (back32 hz).2
theorem g_anewarray (X : Sx Z own bytes ml p l e R s m args below meth c T locs cells slots h) {i : Nat} {C : String} {z : Int32} {vs : List Value} {ad : String} (n : Nat) (w1 : (Cond.classLink own i C).before a0 Z = true) (w2 : (Cond.arrayOver (.object C)).before a0 Z = true) (hd : decode bytes pc = .ok (.anewarray i, 3)) (hp : pc + 3 = pc') (hz : ¬ z < 0) (hn : z.toNatClampNeg = n) (cap : Nat) (hcap : n ≤ cap) (hbig : cap * 8 ≤ 536870912) (hc : cells + 1 ≤ R.cells) (hl : slots + cap ≤ R.slots) (hvs : List.replicate n .null = vs) (had : "[" ++ (FieldType.object C).toString = ad) (k : ∀ T' h' (a : Addr), a = h.size → Sx Z own bytes ml p l e R s m args below meth c T' locs (cells + 1) (slots + cap) h' → Ext h h' → Exa Z h' a ad → Av Z h' a (.object C) vs → OvA Z h' a C → Go p e below K (T'.setTop (mkF m pc' Ls (.ref a :: st)))) : Go p e below K (T.setTop (mkF m pc Ls (.int z :: st))) := by
  subst hn; subst hp; subst hvs
  obtain ⟨T', h', cA, X', e', E, A, B, O, stp⟩ := newRE X.1 X.2.1 X.2.2.2.2.2.1 X.2.2.2.2.1 w1 w2 X.2.2.2.2.2.2 (g := mkF m pc Ls (.int z :: st)) rfl (hb X.2.2.1 hd) rfl hz hcap hbig hc hl had
  refine Go.step (fun t q => stp _ q) (k T' h' _ rfl ⟨X', X.2.1, X.2.2.1, X.2.2.2.1, X.2.2.2.2.1, X.2.2.2.2.2.1, e'⟩ E B ⟨_, A, by simp [newA, defaultValue], ?_⟩ ⟨_, A, O⟩)
  simp only [List.length_replicate]
  exact (back32 hz).2
theorem g_new (X : Sx Z own bytes ml p l e R s m args below meth c T locs cells slots h) {i n : Nat} {C : String} (w1 : (Cond.classLink own i C).before a0 Z = true) (w2 : (Cond.instantiable C n).before a0 Z = true) (w3 : (Cond.initialized C).before a0 Z = true) (hd : decode bytes pc = .ok (.new i, 3)) (hp : pc + 3 = pc') (hc : cells + 1 ≤ R.cells) (hl : slots + n ≤ R.slots) (k : ∀ T' h' (a : Addr), a = h.size → Sx Z own bytes ml p l e R s m args below meth c T' locs (cells + 1) (slots + n) h' → Ext h h' → Exa Z h' a C → (∀ {O nm d : String} {ty : FieldType}, Laid Z a0 C O nm d → parseFieldDescriptor d = some ty → Fld Z h' a O nm d (defaultValue ty)) → Go p e below K (T'.setTop (mkF m pc' Ls (.ref a :: st)))) : Go p e below K (T.setTop (mkF m pc Ls (st))) := by
  subst hp
  obtain ⟨T', h', X', e', E, A, D, -, stp⟩ := newO X.1 X.2.1 X.2.2.2.2.2.1 X.2.2.2.2.1 w1 w2 w3 X.2.2.2.2.2.2 (g := mkF m pc Ls st) rfl (hb X.2.2.1 hd) hc hl
  exact Go.step (fun t q => stp _ q) (k T' h' _ rfl ⟨X', X.2.1, X.2.2.1, X.2.2.2.1, X.2.2.2.2.1, X.2.2.2.2.2.1, e'⟩ E A D)
theorem g_getfield (X : Sx Z own bytes ml p l e R s m args below meth c T locs cells slots h) {i : Nat} {R0 O nm d host : String} {a : Addr} {v : Value} (w : (Cond.fieldLink own i R0 nm d).before a0 Z = true ∨ (Cond.fieldLinkNest own i R0 nm d host).before a0 Z = true) (via : Via Z R0 O nm d) (F : Fld Z h a O nm d v) (hd : decode bytes pc = .ok (.getfield i, 3)) (hp : pc + 3 = pc') (k : ∀ T', Sx Z own bytes ml p l e R s m args below meth c T' locs cells slots h → Go p e below K (T'.setTop (mkF m pc' Ls (v :: st)))) : Go p e below K (T.setTop (mkF m pc Ls (.ref a :: st))) := by
  subst hp
  obtain ⟨T', X', e', stp⟩ := getF X.1 X.2.1 X.2.2.2.2.2.1 X.2.2.2.2.1 w via X.2.2.2.2.2.2 F (g := mkF m pc Ls (.ref a :: st)) rfl rfl (hb X.2.2.1 hd)
  exact Go.step (fun t q => stp _ q) (k T' ⟨X', X.2.1, X.2.2.1, X.2.2.2.1, X.2.2.2.2.1, X.2.2.2.2.2.1, e'⟩)
theorem g_getstatic (X : Sx Z own bytes ml p l e R s m args below meth c T locs cells slots h) {i : Nat} {R0 O nm d host : String} {v : Value} (w : (Cond.fieldLink own i R0 nm d).before a0 Z = true ∨ (Cond.fieldLinkNest own i R0 nm d host).before a0 Z = true) (via : Via Z R0 O nm d) (F : Sta Z h O nm d v) (hd : decode bytes pc = .ok (.getstatic i, 3)) (hp : pc + 3 = pc') (k : ∀ T', Sx Z own bytes ml p l e R s m args below meth c T' locs cells slots h → Go p e below K (T'.setTop (mkF m pc' Ls (v :: st)))) : Go p e below K (T.setTop (mkF m pc Ls (st))) := by
  subst hp
  obtain ⟨T', X', e', stp⟩ := getS2 X.1 X.2.1 X.2.2.2.2.2.1 X.2.2.2.2.1 w via X.2.2.2.2.2.2 F (g := mkF m pc Ls st) rfl (hb X.2.2.1 hd)
  exact Go.step (fun t q => stp _ q) (k T' ⟨X', X.2.1, X.2.2.1, X.2.2.2.1, X.2.2.2.2.1, X.2.2.2.2.2.1, e'⟩)
theorem g_putfield (X : Sx Z own bytes ml p l e R s m args below meth c T locs cells slots h) {i kk : Nat} {R0 O nm d host C : String} {a : Addr} {v old : Value} {ty : FieldType} (w : (Cond.fieldLink own i R0 nm d).before a0 Z = true ∨ (Cond.fieldLinkNest own i R0 nm d host).before a0 Z = true) (via : Via Z R0 O nm d) (F : Fld Z h a O nm d old) (E : Exa Z h a C) (L : (Cond.lays C O nm d).before a0 Z = true ∨ ((Cond.laysFinal C O nm d).before a0 Z = true ∧ own = O ∧ meth.name = "<init>")) (wi : (Cond.instantiable C kk).before a0 Z = true) (hty : parseFieldDescriptor d = some ty) (hn : narrow ty v = v) (hf : fits ty v = true) (hd : decode bytes pc = .ok (.putfield i, 3)) (hp : pc + 3 = pc') (k : ∀ T' h', Sx Z own bytes ml p l e R s m args below meth c T' (locs ++ [⟨a, RoadKit.slotOf Z O nm d⟩]) cells slots h' → Wr h h' a (RoadKit.slotOf Z O nm d) v → Go p e below K (T'.setTop (mkF m pc' Ls (st)))) : Go p e below K (T.setTop (mkF m pc Ls (v :: .ref a :: st))) := by
  subst hp
  obtain ⟨T', h', X', e', W, stp⟩ := putF X.1 X.2.1 X.2.2.2.2.2.1 X.2.2.2.2.1 w via X.2.2.2.2.2.2 F E L wi hty hn hf (g := mkF m pc Ls (v :: .ref a :: st)) rfl rfl (hb X.2.2.1 hd)
  exact Go.step (fun t q => stp _ q) (k T' h' ⟨X', X.2.1, X.2.2.1, X.2.2.2.1, X.2.2.2.2.1, X.2.2.2.2.2.1, e'⟩ W)
theorem g_putfieldN (X : Sx Z own bytes ml p l e R s m args below meth c T locs cells slots h) {i kk : Nat} {R0 O nm d C : String} {a : Addr} {v v' old : Value} {ty : FieldType} (w : (Cond.fieldLink own i R0 nm d).before a0 Z = true) (via : Via Z R0 O nm d) (F : Fld Z h a O nm d old) (E : Exa Z h a C) (L : (Cond.lays C O nm d).before a0 Z = true ∨ ((Cond.laysFinal C O nm d).before a0 Z = true ∧ own = O ∧ meth.name = "<init>")) (wi : (Cond.instantiable C kk).before a0 Z = true) (hty : parseFieldDescriptor d = some ty) (hn : narrow ty v = v') (hf : fits ty v' = true) (hd : decode bytes pc = .ok (.putfield i, 3)) (hp : pc + 3 = pc') (k : ∀ T' h', Sx Z own bytes ml p l e R s m args below meth c T' (locs ++ [⟨a, RoadKit.slotOf Z O nm d⟩]) cells slots h' → Wr h h' a (RoadKit.slotOf Z O nm d) v' → Go p e below K (T'.setTop (mkF m pc' Ls (st)))) : Go p e below K (T.setTop (mkF m pc Ls (v :: .ref a :: st))) := by
  subst hp
  obtain ⟨T', h', X', e', W, stp⟩ := putFN X.1 X.2.1 X.2.2.2.2.2.1 X.2.2.2.2.1 w via X.2.2.2.2.2.2 F E L wi hty hn hf (g := mkF m pc Ls (v :: .ref a :: st)) rfl rfl (hb X.2.2.1 hd)
  exact Go.step (fun t q => stp _ q) (k T' h' ⟨X', X.2.1, X.2.2.1, X.2.2.2.1, X.2.2.2.2.1, X.2.2.2.2.2.1, e'⟩ W)
theorem g_initO (X : Sx Z own bytes ml p l e R s m args below meth c T locs cells slots h) {i W : Nat} {a : Addr} (w1 : (Cond.methodLink own i Lib.objectInit).before a0 Z = true) (w2 : (Cond.instanceMethod Lib.objectInit).before a0 Z = true) (w3 : (Cond.code Lib.objectInit ⟨#[0xb1]⟩ 1 none).before a0 Z = true) (hd : decode bytes pc = .ok (.invokespecial i, 3)) (hp : pc + 3 = pc') (hsz : Ls.size = ml) (hf : 1 ≤ R.frames) (hW : (st.map fun v => v.category).sum ≤ W) (hl : W + 12 ≤ R.locals) (k : ∀ T', Sx Z own bytes ml p l e R s m args below meth c T' locs cells slots h → Go p e below K (T'.setTop (mkF m pc' Ls (st)))) : Go p e below K (T.setTop (mkF m pc Ls (.ref a :: st))) := by
  subst hp
  obtain ⟨T', X', e', stp⟩ := initO X.1 X.2.1 X.2.2.2.2.2.1 X.2.2.2.2.1 w1 w2 w3 X.2.2.2.2.2.2 (g := mkF m pc Ls (.ref a :: st)) rfl (by rw [X.2.2.2.1]; exact hsz) rfl (hb X.2.2.1 hd) hf (W := W) (by simpa using hW) hl
  exact Go.step (fun t q => stp _ q) (k T' ⟨X', X.2.1, X.2.2.1, X.2.2.2.1, X.2.2.2.2.1, X.2.2.2.2.2.1, e'⟩)
theorem g_checkcast (X : Sx Z own bytes ml p l e R s m args below meth c T locs cells slots h) {i : Nat} {K0 : String} {a : Addr} (w : (Cond.classLink own i K0).before a0 Z = true) (F : Ins Z h a K0 true) (hd : decode bytes pc = .ok (.checkcast i, 3)) (hp : pc + 3 = pc') (k : ∀ T', Sx Z own bytes ml p l e R s m args below meth c T' locs cells slots h → Go p e below K (T'.setTop (mkF m pc' Ls (.ref a :: st)))) : Go p e below K (T.setTop (mkF m pc Ls (.ref a :: st))) := by
  subst hp
  obtain ⟨T', X', e', stp⟩ := castY X.1 X.2.1 X.2.2.2.2.2.1 X.2.2.2.2.1 w X.2.2.2.2.2.2 F (g := mkF m pc Ls (.ref a :: st)) rfl rfl (hb X.2.2.1 hd)
  exact Go.step (fun t q => stp _ q) (k T' ⟨X', X.2.1, X.2.2.1, X.2.2.2.1, X.2.2.2.2.1, X.2.2.2.2.2.1, e'⟩)
theorem g_clone (X : Sx Z own bytes ml p l e R s m args below meth c T locs cells slots h) {i W : Nat} {ad : String} {a : Addr} {ty : FieldType} {vs : List Value} (w1 : (Cond.methodLink own i ⟨ad, "clone", "()Ljava/lang/Object;"⟩).before a0 Z = true) (w2 : (Cond.sameMethod ad "java/lang/Object" "clone" "()Ljava/lang/Object;").before a0 Z = true) (w3 : (Cond.native ⟨"java/lang/Object", "clone", "()Ljava/lang/Object;"⟩).before a0 Z = true) (w4 : (Cond.instanceMethod ⟨"java/lang/Object", "clone", "()Ljava/lang/Object;"⟩).before a0 Z = true) (w5 : (Cond.selects ad ⟨ad, "clone", "()Ljava/lang/Object;"⟩ ⟨"java/lang/Object", "clone", "()Ljava/lang/Object;"⟩).before a0 Z = true) (w6 : (Cond.castable ad "java/lang/Cloneable").before a0 Z = true) (A : Av Z h a ty vs) (E : Exa Z h a ad) (hfit : ∀ v ∈ vs, fits ty v = true) (hd : decode bytes pc = .ok (.invokevirtual i, 3)) (hp : pc + 3 = pc') (hsz : Ls.size = ml) (hf : 1 ≤ R.frames) (hW : (st.map fun v => v.category).sum ≤ W) (hl : W + 14 ≤ R.locals) (cap : Nat) (hcap : vs.length ≤ cap) (hc : cells + 1 ≤ R.cells) (hs : slots + cap ≤ R.slots) (k : ∀ T' h' (b : Addr), b = h.size → Sx Z own bytes ml p l e R s m args below meth c T' locs (cells + 1) (slots + cap) h' → Ext h h' → Exa Z h' b ad → Av Z h' b ty vs → Go p e below K (T'.setTop (mkF m pc' Ls (.ref b :: st)))) : Go p e below K (T.setTop (mkF m pc Ls (.ref a :: st))) := by
  subst hp
  obtain ⟨cl, A, rfl, r⟩ := A
  have FC : FitC Z cl := fitC_of A fun j hj v hv => hfit v (by rw [← Array.getElem?_toList] at hv; exact List.mem_of_getElem? hv)
  obtain ⟨T', h', X', e', Ex, A', E', stp⟩ := cloneA X.1 X.2.1 X.2.2.2.2.2.1 X.2.2.2.2.1 w1 w2 w3 w4 w5 w6 X.2.2.2.2.2.2 A E FC (g := mkF m pc Ls (.ref a :: st)) rfl (by rw [X.2.2.2.1]; exact hsz) rfl (hb X.2.2.1 hd) hf (W := W) (cap := cap) (by simpa using hW) hl (by simpa using hcap) hc hs
  exact Go.step (fun t q => stp _ q) (k T' h' _ rfl ⟨X', X.2.1, X.2.2.1, X.2.2.2.1, X.2.2.2.2.1, X.2.2.2.2.2.1, e'⟩ Ex E' ⟨_, A', rfl, r⟩)
theorem g_static (X : Sx Z own bytes ml p l e R s m args below meth c T locs cells slots h) {y : MethodName} {yb : ByteArray} {yl : Nat} {yr : Option FieldType} {rm : Room} {as' : Array Value} {Q : Option Value → Heap → List Loc → Prop} {i W : Nat} (argsL rest : List Value) (w1 : (Cond.methodLink own i y).before a0 Z = true) (w2 : (Cond.static y).before a0 Z = true) (w3 : (Cond.initialized y.cls).before a0 Z = true) (w4 : (Cond.code y yb yl yr).before a0 Z = true) (M : Rm l Z y yb yl yr [] rm as' h Q) (hd : decode bytes pc = .ok (.invokestatic i, 3)) (hp : pc + 3 = pc') (hy : y.cls ≠ "java/lang/invoke/MethodHandle" ∧ y.cls ≠ "java/lang/invoke/VarHandle") (hf : rm.frames + 1 ≤ R.frames) (hl : W + (yl + 11) + rm.locals ≤ R.locals) (hsz : Ls.size = ml) (ha : argsL.toArray = as') (hst : st = argsL.reverse ++ rest) (hlen : ∀ sig, parseMethodDescriptor y.desc = some sig → argsL.length = sig.parameters.length) (hW : (rest.map fun v => v.category).sum ≤ W) (hc : cells + rm.cells ≤ R.cells) (hs : slots + rm.slots ≤ R.slots) (k : ∀ v T' L, Sx Z own bytes ml p l e R s m args below meth c T' (locs ++ L) (cells + rm.cells) (slots + rm.slots) T'.heap → Q v T'.heap L → Go p e below K (T'.setTop (mkF m pc' Ls (v.toList ++ rest)))) : Go p e below K (T.setTop (mkF m pc Ls (st))) := by
  subst hp; subst hst
  have hZ := X.2.2.2.2.2.1
  obtain ⟨v, vm1, ⟨T', L', k', n'⟩, -, X', ⟨L, hQ, l1, l2, l3⟩, stp⟩ := Jvm.LawKit.callS X.1 X.2.1 X.2.2.2.2.1 (mvT hZ w1) (mvT hZ w2) (mvT hZ w3) (mvT hZ w4) hy (backOf (W := W) M hZ w4 w3 hf hl) (g := mkF m pc Ls (argsL.reverse ++ rest)) rfl (by rw [X.2.2.2.1]; exact hsz) (argsL := argsL) (rest := rest) hlen rfl (by simpa using hW) (hb X.2.2.1 hd) (fun _ _ => ⟨ha, X.2.2.2.2.2.2, hc, hs⟩)
  dsimp only [Pt.U, Pt.locs, Pt.cells, Pt.slots] at X' l1 l2 l3 stp hQ
  subst l1 l2 l3
  exact Go.step (fun t q => stp _ q) (k v T' L ⟨X', X.2.1, X.2.2.1, X.2.2.2.1, X.2.2.2.2.1, X.2.2.2.2.2.1, rfl⟩ hQ)
theorem g_special (X : Sx Z own bytes ml p l e R s m args below meth c T locs cells slots h) {y : MethodName} {yb : ByteArray} {yl : Nat} {rm : Room} {as' : Array Value} {Q : Option Value → Heap → List Loc → Prop} {i W : Nat} {a : Addr} (argsL rest : List Value) (hi : y.name = "<init>") (w1 : (Cond.methodLink own i y).before a0 Z = true) (w2 : (Cond.instanceMethod y).before a0 Z = true) (w3 : (Cond.initialized y.cls).before a0 Z = true) (w4 : (Cond.code y yb yl none).before a0 Z = true) (M : Rm l Z y yb yl none [] rm as' h Q) (hd : decode bytes pc = .ok (.invokespecial i, 3)) (hp : pc + 3 = pc') (hy : y.cls ≠ "java/lang/invoke/MethodHandle" ∧ y.cls ≠ "java/lang/invoke/VarHandle") (hf : rm.frames + 1 ≤ R.frames) (hl : W + (yl + 11) + rm.locals ≤ R.locals) (hsz : Ls.size = ml) (ha : (.ref a :: argsL).toArray = as') (hst : st = argsL.reverse ++ .ref a :: rest) (hlen : ∀ sig, parseMethodDescriptor y.desc = some sig → argsL.length = sig.parameters.length) (hW : (rest.map fun v => v.category).sum ≤ W) (hc : cells + rm.cells ≤ R.cells) (hs : slots + rm.slots ≤ R.slots) (k : ∀ v T' L, Sx Z own bytes ml p l e R s m args below meth c T' (locs ++ L) (cells + rm.cells) (slots + rm.slots) T'.heap → Q v T'.heap L → Go p e below K (T'.setTop (mkF m pc' Ls (v.toList ++ rest)))) : Go p e below K (T.setTop (mkF m pc Ls (st))) := by
  subst hp; subst hst
  have hZ := X.2.2.2.2.2.1
  obtain ⟨v, vm1, ⟨T', L', k', n'⟩, -, X', ⟨L, hQ, l1, l2, l3⟩, stp⟩ := X.1.specialBack X.2.1 (y := y) hi X.2.2.2.2.1 (mvT hZ w1) (mvT hZ w2) (mvT hZ w4) hy (backOf (W := W) M hZ w4 w3 hf hl) (g := mkF m pc Ls (argsL.reverse ++ .ref a :: rest)) rfl (by rw [X.2.2.2.1]; exact hsz) (Steps.refl _) (a := a) (argsL := argsL) (rest := rest) hlen rfl (by simpa using hW) (hb X.2.2.1 hd) (fun _ _ => ⟨ha, X.2.2.2.2.2.2, hc, hs⟩)
  dsimp only [Pt.U, Pt.locs, Pt.cells, Pt.slots] at X' l1 l2 l3 stp hQ
  subst l1 l2 l3
  exact Go.step (fun t q => stp.trans q) (k v T' L ⟨X', X.2.1, X.2.2.1, X.2.2.2.1, X.2.2.2.2.1, X.2.2.2.2.2.1, rfl⟩ hQ)
theorem g_virtual (X : Sx Z own bytes ml p l e R s m args below meth c T locs cells slots h) {y : MethodName} {yb : ByteArray} {yl : Nat} {yr : Option FieldType} {rm : Room} {as' : Array Value} {Q : Option Value → Heap → List Loc → Prop} {i W : Nat} {a : Addr} {C : String} (argsL rest : List Value) (E : Exa Z h a C) (w1 : (Cond.methodLink own i y).before a0 Z = true) (w2 : (Cond.declares y).before a0 Z = true) (w5 : (Cond.selects C y y).before a0 Z = true) (w6 : (Cond.instanceMethod y).before a0 Z = true) (w3 : (Cond.initialized y.cls).before a0 Z = true) (w4 : (Cond.code y yb yl yr).before a0 Z = true) (M : Rm l Z y yb yl yr [] rm as' h Q) (hd : decode bytes pc = .ok (.invokevirtual i, 3)) (hp : pc + 3 = pc') (hy : y.cls ≠ "java/lang/invoke/MethodHandle" ∧ y.cls ≠ "java/lang/invoke/VarHandle") (hf : rm.frames + 1 ≤ R.frames) (hl : W + (yl + 11) + rm.locals ≤ R.locals) (hsz : Ls.size = ml) (ha : (.ref a :: argsL).toArray = as') (hst : st = argsL.reverse ++ .ref a :: rest) (hlen : ∀ sig, parseMethodDescriptor y.desc = some sig → argsL.length = sig.parameters.length) (hW : (rest.map fun v => v.category).sum ≤ W) (hc : cells + rm.cells ≤ R.cells) (hs : slots + rm.slots ≤ R.slots) (k : ∀ v T' L, Sx Z own bytes ml p l e R s m args below meth c T' (locs ++ L) (cells + rm.cells) (slots + rm.slots) T'.heap → Q v T'.heap L → Go p e below K (T'.setTop (mkF m pc' Ls (v.toList ++ rest)))) : Go p e below K (T.setTop (mkF m pc Ls (st))) := by
  subst hp; subst hst
  have hZ := X.2.2.2.2.2.1
  obtain ⟨cq, kq, qa, qb, qc⟩ := isOf hZ X.2.2.2.2.2.2 E
  obtain ⟨v, vm1, ⟨T', L', k', n'⟩, -, X', ⟨L, hQ, l1, l2, l3⟩, stp⟩ := X.1.virtualBack X.2.1 (y := y) (z := y) X.2.2.2.2.1 (mvT hZ w1) (mvT hZ w2) (notFace_of_selects (args := #[]) (mvT hZ w5)) (mvT hZ w5) (mvT hZ w6) hy (backOf (W := W) M hZ w4 w3 hf hl) qa qc (g := mkF m pc Ls (argsL.reverse ++ .ref a :: rest)) rfl (by rw [X.2.2.2.1]; exact hsz) (Steps.refl _) (argsL := argsL) (rest := rest) hlen rfl (by simpa using hW) (hb X.2.2.1 hd) (fun _ _ => ⟨ha, X.2.2.2.2.2.2, hc, hs⟩)
  dsimp only [Pt.U, Pt.locs, Pt.cells, Pt.slots] at X' l1 l2 l3 stp hQ
  subst l1 l2 l3
  exact Go.step (fun t q => stp.trans q) (k v T' L ⟨X', X.2.1, X.2.2.1, X.2.2.2.1, X.2.2.2.2.1, X.2.2.2.2.2.1, rfl⟩ hQ)
theorem g_virtualUp (X : Sx Z own bytes ml p l e R s m args below meth c T locs cells slots h) {y : MethodName} {yb : ByteArray} {yl : Nat} {yr : Option FieldType} {rm : Room} {as' : Array Value} {Q : Option Value → Heap → List Loc → Prop} {i W : Nat} {a : Addr} {C owner : String} {x : MethodName} (argsL rest : List Value) (E : Exa Z h a C) (w1 : (Cond.methodLink own i x).before a0 Z = true) (w8 : (Cond.sameMethod x.cls owner x.name x.desc).before a0 Z = true) (w2 : (Cond.declares ⟨owner, x.name, x.desc⟩).before a0 Z = true) (w5 : (Cond.selects C x y).before a0 Z = true) (w6 : (Cond.instanceMethod y).before a0 Z = true) (w3 : (Cond.initialized y.cls).before a0 Z = true) (w4 : (Cond.code y yb yl yr).before a0 Z = true) (M : Rm l Z y yb yl yr [] rm as' h Q) (hd : decode bytes pc = .ok (.invokevirtual i, 3)) (hp : pc + 3 = pc') (hy : owner ≠ "java/lang/invoke/MethodHandle" ∧ owner ≠ "java/lang/invoke/VarHandle") (hf : rm.frames + 1 ≤ R.frames) (hl : W + (yl + 11) + rm.locals ≤ R.locals) (hsz : Ls.size = ml) (ha : (.ref a :: argsL).toArray = as') (hst : st = argsL.reverse ++ .ref a :: rest) (hlen : ∀ sig, parseMethodDescriptor x.desc = some sig → argsL.length = sig.parameters.length) (hW : (rest.map fun v => v.category).sum ≤ W) (hc : cells + rm.cells ≤ R.cells) (hs : slots + rm.slots ≤ R.slots) (k : ∀ v T' L, Sx Z own bytes ml p l e R s m args below meth c T' (locs ++ L) (cells + rm.cells) (slots + rm.slots) T'.heap → Q v T'.heap L → Go p e below K (T'.setTop (mkF m pc' Ls (v.toList ++ rest)))) : Go p e below K (T.setTop (mkF m pc Ls (st))) := by
  subst hp; subst hst
  have hZ := X.2.2.2.2.2.1
  obtain ⟨cq, kq, qa, qb, qc⟩ := isOf hZ X.2.2.2.2.2.2 E
  obtain ⟨v, vm1, ⟨T', L', k', n'⟩, -, X', ⟨L, hQ, l1, l2, l3⟩, stp⟩ := X.1.virtualBackUp X.2.1 (x := x) (y := y) X.2.2.2.2.1 (mvT hZ w1) (mvT hZ w8) (mvT hZ w2) hy (mvT hZ w5) (mvT hZ w6) (backOf (W := W) M hZ w4 w3 hf hl) qa qc (g := mkF m pc Ls (argsL.reverse ++ .ref a :: rest)) rfl (by rw [X.2.2.2.1]; exact hsz) (Steps.refl _) (argsL := argsL) (rest := rest) hlen rfl (by simpa using hW) (hb X.2.2.1 hd) (fun _ _ => ⟨ha, X.2.2.2.2.2.2, hc, hs⟩)
  dsimp only [Pt.U, Pt.locs, Pt.cells, Pt.slots] at X' l1 l2 l3 stp hQ
  subst l1 l2 l3
  exact Go.step (fun t q => stp.trans q) (k v T' L ⟨X', X.2.1, X.2.2.1, X.2.2.2.1, X.2.2.2.2.1, X.2.2.2.2.2.1, rfl⟩ hQ)
theorem g_private (X : Sx Z own bytes ml p l e R s m args below meth c T locs cells slots h) {y : MethodName} {yb : ByteArray} {yl : Nat} {yr : Option FieldType} {rm : Room} {as' : Array Value} {Q : Option Value → Heap → List Loc → Prop} {i W : Nat} {a : Addr} (argsL rest : List Value) (E : Exa Z h a y.cls) (w1 : (Cond.methodLink own i y).before a0 Z = true) (w5 : (Cond.selects y.cls y y).before a0 Z = true) (w6 : (Cond.instanceMethod y).before a0 Z = true) (w7 : (Cond.privateMethod y).before a0 Z = true) (w3 : (Cond.initialized y.cls).before a0 Z = true) (w4 : (Cond.code y yb yl yr).before a0 Z = true) (M : Rm l Z y yb yl yr [] rm as' h Q) (hd : decode bytes pc = .ok (.invokevirtual i, 3)) (hp : pc + 3 = pc') (hy : y.cls ≠ "java/lang/invoke/MethodHandle" ∧ y.cls ≠ "java/lang/invoke/VarHandle") (hf : rm.frames + 1 ≤ R.frames) (hl : W + (yl + 11) + rm.locals ≤ R.locals) (hsz : Ls.size = ml) (ha : (.ref a :: argsL).toArray = as') (hst : st = argsL.reverse ++ .ref a :: rest) (hlen : ∀ sig, parseMethodDescriptor y.desc = some sig → argsL.length = sig.parameters.length) (hW : (rest.map fun v => v.category).sum ≤ W) (hc : cells + rm.cells ≤ R.cells) (hs : slots + rm.slots ≤ R.slots) (k : ∀ v T' L, Sx Z own bytes ml p l e R s m args below meth c T' (locs ++ L) (cells + rm.cells) (slots + rm.slots) T'.heap → Q v T'.heap L → Go p e below K (T'.setTop (mkF m pc' Ls (v.toList ++ rest)))) : Go p e below K (T.setTop (mkF m pc Ls (st))) := by
  subst hp; subst hst
  have hZ := X.2.2.2.2.2.1
  obtain ⟨cq, q1, q2⟩ := E.cell
  obtain ⟨v, vm1, ⟨T', L', k', n'⟩, -, X', ⟨L, hQ, l1, l2, l3⟩, stp⟩ := X.1.privateBack X.2.1 (y := y) X.2.2.2.2.1 (mvT hZ w1) (mvT hZ w6) (mvT hZ w5) (Cond.privateMethod_at (mvP hZ w7 (args := #[]))) (mvT hZ w4) hy (backOf (W := W) M hZ w4 w3 hf hl) (g := mkF m pc Ls (argsL.reverse ++ .ref a :: rest)) rfl (by rw [X.2.2.2.1]; exact hsz) (Steps.refl _) (a := a) (by rw [X.2.2.2.2.2.2]; exact q1) q2 (argsL := argsL) (rest := rest) hlen rfl (by simpa using hW) (hb X.2.2.1 hd) (fun _ _ => ⟨ha, X.2.2.2.2.2.2, hc, hs⟩)
  dsimp only [Pt.U, Pt.locs, Pt.cells, Pt.slots] at X' l1 l2 l3 stp hQ
  subst l1 l2 l3
  exact Go.step (fun t q => stp.trans q) (k v T' L ⟨X', X.2.1, X.2.2.1, X.2.2.2.1, X.2.2.2.2.1, X.2.2.2.2.2.1, rfl⟩ hQ)
theorem g_specialB (X : Sx Z own bytes ml p l e R s m args below meth c T locs cells slots h) {y : MethodName} {as' : Array Value} {Q : Option Value → Heap → List Loc → Prop} {i W kc ks : Nat} {a : Addr} {yb : ByteArray} {yl : Nat} (argsL rest : List Value) (hi : y.name = "<init>") (w1 : (Cond.methodLink own i y).before a0 Z = true) (w2 : (Cond.instanceMethod y).before a0 Z = true) (w4 : (Cond.code y yb yl none).before a0 Z = true) (hK : Back l R p e below s args y 3 W (fun A a => a = as' ∧ A.U.heap = h ∧ A.cells + kc ≤ R.cells ∧ A.slots + ks ≤ R.slots) (fun A _ v B => ∃ L, Q v B.U.heap L ∧ B.locs = A.locs ++ L ∧ B.cells = A.cells + kc ∧ B.slots = A.slots + ks)) (hd : decode bytes pc = .ok (.invokespecial i, 3)) (hp : pc + 3 = pc') (hy : y.cls ≠ "java/lang/invoke/MethodHandle" ∧ y.cls ≠ "java/lang/invoke/VarHandle") (hsz : Ls.size = ml) (ha : (.ref a :: argsL).toArray = as') (hst : st = argsL.reverse ++ .ref a :: rest) (hlen : ∀ sig, parseMethodDescriptor y.desc = some sig → argsL.length = sig.parameters.length) (hW : (rest.map fun v => v.category).sum ≤ W) (hc : cells + kc ≤ R.cells) (hs : slots + ks ≤ R.slots) (k : ∀ v T' L, Sx Z own bytes ml p l e R s m args below meth c T' (locs ++ L) (cells + kc) (slots + ks) T'.heap → Q v T'.heap L → Go p e below K (T'.setTop (mkF m pc' Ls (v.toList ++ rest)))) : Go p e below K (T.setTop (mkF m pc Ls (st))) := by
  subst hp; subst hst
  have hZ := X.2.2.2.2.2.1
  obtain ⟨v, vm1, ⟨T', L', k', n'⟩, -, X', ⟨L, hQ, l1, l2, l3⟩, stp⟩ := X.1.specialBack X.2.1 (y := y) hi X.2.2.2.2.1 (mvT hZ w1) (mvT hZ w2) (mvT hZ w4) hy hK (g := mkF m pc Ls (argsL.reverse ++ .ref a :: rest)) rfl (by rw [X.2.2.2.1]; exact hsz) (Steps.refl _) (a := a) (argsL := argsL) (rest := rest) hlen rfl (by simpa using hW) (hb X.2.2.1 hd) (fun _ _ => ⟨ha, X.2.2.2.2.2.2, hc, hs⟩)
  dsimp only [Pt.U, Pt.locs, Pt.cells, Pt.slots] at X' l1 l2 l3 stp hQ
  subst l1 l2 l3
  exact Go.step (fun t q => stp.trans q) (k v T' L ⟨X', X.2.1, X.2.2.1, X.2.2.2.1, X.2.2.2.2.1, X.2.2.2.2.2.1, rfl⟩ hQ)
theorem g_virtualB (X : Sx Z own bytes ml p l e R s m args below meth c T locs cells slots h) {y : MethodName} {as' : Array Value} {Q : Option Value → Heap → List Loc → Prop} {i W kc ks : Nat} {a : Addr} {C : String} (argsL rest : List Value) (E : Exa Z h a C) (w1 : (Cond.methodLink own i y).before a0 Z = true) (w2 : (Cond.declares y).before a0 Z = true) (w5 : (Cond.selects C y y).before a0 Z = true) (w6 : (Cond.instanceMethod y).before a0 Z = true) (hK : Back l R p e below s args y 3 W (fun A a => a = as' ∧ A.U.heap = h ∧ A.cells + kc ≤ R.cells ∧ A.slots + ks ≤ R.slots) (fun A _ v B => ∃ L, Q v B.U.heap L ∧ B.locs = A.locs ++ L ∧ B.cells = A.cells + kc ∧ B.slots = A.slots + ks)) (hd : decode bytes pc = .ok (.invokevirtual i, 3)) (hp : pc + 3 = pc') (hy : y.cls ≠ "java/lang/invoke/MethodHandle" ∧ y.cls ≠ "java/lang/invoke/VarHandle") (hsz : Ls.size = ml) (ha : (.ref a :: argsL).toArray = as') (hst : st = argsL.reverse ++ .ref a :: rest) (hlen : ∀ sig, parseMethodDescriptor y.desc = some sig → argsL.length = sig.parameters.length) (hW : (rest.map fun v => v.category).sum ≤ W) (hc : cells + kc ≤ R.cells) (hs : slots + ks ≤ R.slots) (k : ∀ v T' L, Sx Z own bytes ml p l e R s m args below meth c T' (locs ++ L) (cells + kc) (slots + ks) T'.heap → Q v T'.heap L → Go p e below K (T'.setTop (mkF m pc' Ls (v.toList ++ rest)))) : Go p e below K (T.setTop (mkF m pc Ls (st))) := by
  subst hp; subst hst
  have hZ := X.2.2.2.2.2.1
  obtain ⟨cq, kq, qa, qb, qc⟩ := isOf hZ X.2.2.2.2.2.2 E
  obtain ⟨v, vm1, ⟨T', L', k', n'⟩, -, X', ⟨L, hQ, l1, l2, l3⟩, stp⟩ := X.1.virtualBack X.2.1 (y := y) (z := y) X.2.2.2.2.1 (mvT hZ w1) (mvT hZ w2) (notFace_of_selects (args := #[]) (mvT hZ w5)) (mvT hZ w5) (mvT hZ w6) hy hK qa qc (g := mkF m pc Ls (argsL.reverse ++ .ref a :: rest)) rfl (by rw [X.2.2.2.1]; exact hsz) (Steps.refl _) (argsL := argsL) (rest := rest) hlen rfl (by simpa using hW) (hb X.2.2.1 hd) (fun _ _ => ⟨ha, X.2.2.2.2.2.2, hc, hs⟩)
  dsimp only [Pt.U, Pt.locs, Pt.cells, Pt.slots] at X' l1 l2 l3 stp hQ
  subst l1 l2 l3
  exact Go.step (fun t q => stp.trans q) (k v T' L ⟨X', X.2.1, X.2.2.1, X.2.2.2.1, X.2.2.2.2.1, X.2.2.2.2.2.1, rfl⟩ hQ)
theorem g_ireturn (X : Sx Z own bytes ml p l e R s m args below meth c T locs cells slots h) {Q : Option Value → Heap → List Loc → Prop} {kc ks : Nat} {z : Int32} (hd : decode bytes pc = .ok (.ireturn, 1)) (hret : meth.sig.returnType = some .int) (hlk : meth.locks = false) (hc : cells ≤ kc) (hs : slots ≤ ks) (q : Q (some (.int z)) h locs) : Go p e below (Ends s Q kc ks) (T.setTop (mkF m pc Ls (.int z :: st))) := by
  obtain ⟨fs, hr, hrun, hended, hW, hsame⟩ := X.1.leave (v := (some (.int z))) (fun h => by rw [hret] at h; cases h) hlk
  refine ⟨_, _, retI X.1 X.2.1 hret (hb X.2.2.1 hd) hr, hrun, hended, _, _, rfl, ?_, ⟨_, rfl⟩, hW, hsame.mono hc hs⟩
  show Q _ T.heap _
  rw [X.2.2.2.2.2.2]; exact q
theorem g_lreturn (X : Sx Z own bytes ml p l e R s m args below meth c T locs cells slots h) {Q : Option Value → Heap → List Loc → Prop} {kc ks : Nat} {z : Int64} (hd : decode bytes pc = .ok (.lreturn, 1)) (hret : meth.sig.returnType = some .long) (hlk : meth.locks = false) (hc : cells ≤ kc) (hs : slots ≤ ks) (q : Q (some (.long z)) h locs) : Go p e below (Ends s Q kc ks) (T.setTop (mkF m pc Ls (.long z :: st))) := by
  obtain ⟨fs, hr, hrun, hended, hW, hsame⟩ := X.1.leave (v := (some (.long z))) (fun h => by rw [hret] at h; cases h) hlk
  refine ⟨_, _, retJ X.1 X.2.1 hret (hb X.2.2.1 hd) hr, hrun, hended, _, _, rfl, ?_, ⟨_, rfl⟩, hW, hsame.mono hc hs⟩
  show Q _ T.heap _
  rw [X.2.2.2.2.2.2]; exact q
theorem g_ireturnN (X : Sx Z own bytes ml p l e R s m args below meth c T locs cells slots h) {Q : Option Value → Heap → List Loc → Prop} {kc ks : Nat} {z : Int32} {t : FieldType} (ht : t = .boolean ∨ t = .byte ∨ t = .char ∨ t = .short) (hd : decode bytes pc = .ok (.ireturn, 1)) (hret : meth.sig.returnType = some t) (hlk : meth.locks = false) (hc : cells ≤ kc) (hs : slots ≤ ks) (q : Q (some (.int (nar t z))) h locs) : Go p e below (Ends s Q kc ks) (T.setTop (mkF m pc Ls (.int z :: st))) := by
  obtain ⟨fs, hr, hrun, hended, hW, hsame⟩ := X.1.leave (v := (some (.int (nar t z)))) (fun h => by rw [hret] at h; cases h) hlk
  refine ⟨_, _, retN X.1 X.2.1 hret ht (hb X.2.2.1 hd) hr, hrun, hended, _, _, rfl, ?_, ⟨_, rfl⟩, hW, hsame.mono hc hs⟩
  show Q _ T.heap _
  rw [X.2.2.2.2.2.2]; exact q
theorem g_areturn (X : Sx Z own bytes ml p l e R s m args below meth c T locs cells slots h) {Q : Option Value → Heap → List Loc → Prop} {kc ks : Nat} {w : Value} {t : FieldType} (hw : w.isRef = true) (ht : t.isReference = true) (hd : decode bytes pc = .ok (.areturn, 1)) (hret : meth.sig.returnType = some t) (hlk : meth.locks = false) (hc : cells ≤ kc) (hs : slots ≤ ks) (q : Q (some w) h locs) : Go p e below (Ends s Q kc ks) (T.setTop (mkF m pc Ls ([w]))) := by
  obtain ⟨fs, hr, hrun, hended, hW, hsame⟩ := X.1.leave (v := (some w)) (fun h => by rw [hret] at h; cases h) hlk
  refine ⟨_, _, X.1.areturnOut X.2.1 hw hret ht (hb X.2.2.1 hd) hr, hrun, hended, _, _, rfl, ?_, ⟨_, rfl⟩, hW, hsame.mono hc hs⟩
  show Q _ T.heap _
  rw [X.2.2.2.2.2.2]; exact q
theorem g_return (X : Sx Z own bytes ml p l e R s m args below meth c T locs cells slots h) {Q : Option Value → Heap → List Loc → Prop} {kc ks : Nat} (hd : decode bytes pc = .ok (.return_, 1)) (hret : meth.sig.returnType = none) (hlk : meth.locks = false) (hc : cells ≤ kc) (hs : slots ≤ ks) (q : Q none h locs) : Go p e below (Ends s Q kc ks) (T.setTop (mkF m pc Ls ([]))) := by
  obtain ⟨fs, hr, hrun, hended, hW, hsame⟩ := X.1.leave (v := none) (fun _ => rfl) hlk
  refine ⟨_, _, X.1.returnOut X.2.1 hret (hb X.2.2.1 hd) hr, hrun, hended, _, _, rfl, ?_, ⟨_, rfl⟩, hW, hsame.mono hc hs⟩
  show Q _ T.heap _
  rw [X.2.2.2.2.2.2]; exact q
/-- a loop that writes nothing: F: the frame at its head; I: what holds there; mu: the turns left -/
theorem loopP {α : Type} (X : Sx Z own bytes ml p l e R s m args below meth c T locs cells slots h) (F : α → JFrame) (I : α → Prop) (mu : α → Nat)
    (hstep : ∀ (a : α) (T : State), Sx Z own bytes ml p l e R s m args below meth c T locs cells slots h → I a → (∀ (a' : α) (T' : State), mu a' < mu a → Sx Z own bytes ml p l e R s m args below meth c T' locs cells slots h → I a' → Go p e below K (T'.setTop (F a'))) → Go p e below K (T.setTop (F a))) (b : α) (hI : I b) : Go p e below K (T.setTop (F b)) := by
  have main : ∀ (n : Nat) (a : α) (T : State), mu a < n → Sx Z own bytes ml p l e R s m args below meth c T locs cells slots h → I a → Go p e below K (T.setTop (F a)) := by
    intro n
    induction n with
    | zero => intro a T q; exact absurd q (Nat.not_lt_zero _)
    | succ n ih => intro a T q X hI; exact hstep a T X hI (fun a' T' q' X' hI' => ih a' T' (Nat.lt_of_lt_of_le q' (Nat.le_of_lt_succ q)) X' hI')
  exact main _ b T (Nat.lt_succ_self _) X hI
/-- a loop that writes -/
theorem loopW {α : Type} (X : Sx Z own bytes ml p l e R s m args below meth c T locs cells slots h) (F : α → JFrame) (I : α → Heap → List Loc → Prop) (mu : α → Nat)
    (hstep : ∀ (a : α) (T : State) (h : Heap) (locs : List Loc), Sx Z own bytes ml p l e R s m args below meth c T locs cells slots h → I a h locs → (∀ (a' : α) (T' : State) (h' : Heap) (locs' : List Loc), mu a' < mu a → Sx Z own bytes ml p l e R s m args below meth c T' locs' cells slots h' → I a' h' locs' → Go p e below K (T'.setTop (F a'))) → Go p e below K (T.setTop (F a))) (b : α) (hI : I b h locs) : Go p e below K (T.setTop (F b)) := by
  have main : ∀ (n : Nat) (a : α) (T : State) (h : Heap) (locs : List Loc), mu a < n → Sx Z own bytes ml p l e R s m args below meth c T locs cells slots h → I a h locs → Go p e below K (T.setTop (F a)) := by
    intro n
    induction n with
    | zero => intro a T h locs q; exact absurd q (Nat.not_lt_zero _)
    | succ n ih => intro a T h locs q X hI; exact hstep a T h locs X hI (fun a' T' h' locs' q' X' hI' => ih a' T' h' locs' (Nat.lt_of_lt_of_le q' (Nat.le_of_lt_succ q)) X' hI')
  exact main _ b T h locs (Nat.lt_succ_self _) X hI
/-- two ways that meet again -/
theorem joinA {α : Type} (X : Sx Z own bytes ml p l e R s m args below meth c T locs cells slots h) (F : α → JFrame) (r : α → Prop) {f : JFrame} (k : ∀ (T' : State), Sx Z own bytes ml p l e R s m args below meth c T' locs cells slots h → ∀ v : α, r v → Go p e below K (T'.setTop (F v)))
    (b : (∀ (T' : State), Sx Z own bytes ml p l e R s m args below meth c T' locs cells slots h → ∀ v : α, r v → Go p e below K (T'.setTop (F v))) → Go p e below K (T.setTop f)) : Go p e below K (T.setTop f) := b k
end Walk
theorem narT : nar .boolean (1 : Int32) = b2i true := rfl
theorem narF : nar .boolean (0 : Int32) = b2i false := rfl
/-- the sheet's k-th word -/
theorem tb {a0 : Array Value} {Z : State} (hw : ∀ d ∈ tables_1, d.before a0 Z = true) (k : Nat) {d : Jvm.Cond} (hd : tables_1[k]? = some d) : d.before a0 Z = true := hw d (List.mem_of_getElem? hd)
/-- what a method says that writes and makes nothing: it returns this -/
def Pu (val : Value) (h0 : Heap) (v : Option Value) (h : Heap) (L : List Loc) : Prop := v = some val ∧ L = [] ∧ h = h0
theorem pureX {Z : State} {own : String} {bytes : ByteArray} {ml : Nat} {p : Program} {l : Launch} {e : Env} {R : Room} {s : State} {m : MethodId} {args : Array Value} {below : List Frame} {meth : Method} {c : Code} {T : State} {locs L : List Loc} {cells slots : Nat} {h : Heap} {val : Value} {v : Option Value}
    (X : Sx Z own bytes ml p l e R s m args below meth c T (locs ++ L) (cells + 0) (slots + 0) T.heap) (q : Pu val h v T.heap L) : v = some val ∧ Sx Z own bytes ml p l e R s m args below meth c T locs cells slots h := by
  obtain ⟨q1, rfl, q3⟩ := q
  rw [List.append_nil] at X
  exact ⟨q1, X.1, X.2.1, X.2.2.1, X.2.2.2.1, X.2.2.2.2.1, X.2.2.2.2.2.1, q3⟩
theorem pn_0 : plainName "java/lang/Record" = true := by first | (simp [plainName, overriddenIn]; done) | decide +kernel
theorem d2_0 : decode jdk_30_method_1_code 0 = .ok (.aload_n 0, 1) := by decide +kernel
theorem d2_1 : decode jdk_30_method_1_code 1 = .ok (.invokespecial 1, 3) := by decide +kernel
theorem d2_4 : decode jdk_30_method_1_code 4 = .ok (.return_, 1) := by decide +kernel
theorem ef_rRec (m : MethodId) (x0 : Addr) : entryFrame m #[(.ref x0)] 1 = mkF m 0 #[.val (.ref x0)] [] := by first | (simp [entryFrame, mkF, argsToLocals, Value.category]; done) | rfl
set_option maxRecDepth 65536 in
set_option maxHeartbeats 40000000 in
theorem rRec (l : Launch) (Z : State) (aa : Array Value) (hw : ∀ d ∈ tables_1, d.before aa Z = true) (ws : List Jvm.Cond) (a0 : Addr) (h0 : Heap) (n0 : Nat) (Z0 : n0 ≤ h0.size) :
    Rm l Z (⟨"java/lang/Record", "<init>", "()V"⟩ : MethodName) jdk_30_method_1_code 1 none ws ({ frames := 1, cells := 0, slots := 0, locals := 12 } : Room) #[(.ref a0)] h0 (fun v h L => v = none ∧ Fr n0 L ∧ Keep h0 h []) := by
  refine Rm.of (plainFor_of_name pn_0) ?_
  intro p e s m below meth cc T X hnm hret hlk
  refine Go.at_ (ef_rRec m a0) ?_
  have N := Fr.nil n0
  have Kp := Keep.refl h0 []
  refine g_aloadN X d2_0 (pc' := 1) rfl rfl rfl ?_
  refine g_initO X (W := 0) (tb hw 12 rfl) (tb hw 13 rfl) (tb hw 14 rfl) d2_1 (pc' := 4) rfl rfl (by decide) (Nat.le_refl _) (by decide) ?_
  intro T X
  refine g_return X d2_4 hret hlk (by decide) (by decide) ?_
  exact ⟨rfl, N, Kp⟩
theorem pn_1 : plainName "com/example/understory/understory/games/logger/Choice$Actions" = true := by first | (simp [plainName, overriddenIn]; done) | decide +kernel
theorem d1_0 : decode prog_12_method_1_code 0 = .ok (.aload_n 0, 1) := by decide +kernel
theorem d1_1 : decode prog_12_method_1_code 1 = .ok (.invokespecial 1, 3) := by decide +kernel
theorem pd_0 : parseMethodDescriptor "()V" = some ⟨[], none⟩ := by decide +kernel
theorem d1_4 : decode prog_12_method_1_code 4 = .ok (.aload_n 0, 1) := by decide +kernel
theorem d1_5 : decode prog_12_method_1_code 5 = .ok (.aload_n 1, 1) := by decide +kernel
theorem d1_6 : decode prog_12_method_1_code 6 = .ok (.putfield 7, 3) := by decide +kernel
theorem d1_9 : decode prog_12_method_1_code 9 = .ok (.aload_n 0, 1) := by decide +kernel
theorem d1_10 : decode prog_12_method_1_code 10 = .ok (.aload_n 2, 1) := by decide +kernel
theorem d1_11 : decode prog_12_method_1_code 11 = .ok (.putfield 13, 3) := by decide +kernel
theorem d1_14 : decode prog_12_method_1_code 14 = .ok (.aload_n 0, 1) := by decide +kernel
theorem d1_15 : decode prog_12_method_1_code 15 = .ok (.iload_n 3, 1) := by decide +kernel
theorem d1_16 : decode prog_12_method_1_code 16 = .ok (.putfield 16, 3) := by decide +kernel
theorem d1_19 : decode prog_12_method_1_code 19 = .ok (.aload_n 0, 1) := by decide +kernel
theorem d1_20 : decode prog_12_method_1_code 20 = .ok (.aload 4, 2) := by decide +kernel
theorem d1_22 : decode prog_12_method_1_code 22 = .ok (.putfield 20, 3) := by decide +kernel
theorem d1_25 : decode prog_12_method_1_code 25 = .ok (.return_, 1) := by decide +kernel
theorem ef_rInit (m : MethodId) (x0 : Addr) (x1 : Addr) (x2 : Addr) (x3 : Int32) (x4 : Addr) : entryFrame m #[(.ref x0), (.ref x1), (.ref x2), (.int x3), (.ref x4)] 5 = mkF m 0 #[.val (.ref x0), .val (.ref x1), .val (.ref x2), .val (.int x3), .val (.ref x4)] [] := by first | (simp [entryFrame, mkF, argsToLocals, Value.category]; done) | rfl
set_option maxRecDepth 65536 in
set_option maxHeartbeats 40000000 in
theorem rInit (l : Launch) (Z : State) (aa : Array Value) (hw : ∀ d ∈ tables_1, d.before aa Z = true) (ws : List Jvm.Cond) (a0 : Addr) (a1 : Addr) (a2 : Addr) (i3 : Int32) (a4 : Addr) (h0 : Heap) (n0 : Nat) (Z0 : n0 ≤ h0.size) (E_a0 : Exa Z h0 a0 "com/example/understory/understory/games/logger/Choice$Actions") (F_a0_plant : Fld Z h0 a0 "com/example/understory/understory/games/logger/Choice$Actions" "plant" "[I" .null) (F_a0_protest : Fld Z h0 a0 "com/example/understory/understory/games/logger/Choice$Actions" "protest" "[I" .null) (F_a0_protesters : Fld Z h0 a0 "com/example/understory/understory/games/logger/Choice$Actions" "protesters" "I" (.int (0 : Int32))) (F_a0_chop : Fld Z h0 a0 "com/example/understory/understory/games/logger/Choice$Actions" "chop" "[I" .null) (g_a0 : n0 ≤ a0) :
    Rm l Z (⟨"com/example/understory/understory/games/logger/Choice$Actions", "<init>", "([I[II[I)V"⟩ : MethodName) prog_12_method_1_code 5 none ws ({ frames := 2, cells := 0, slots := 0, locals := 24 } : Room) #[(.ref a0), (.ref a1), (.ref a2), (.int i3), (.ref a4)] h0 (fun v h L => v = none ∧ Fr n0 L ∧ Keep h0 h [a0] ∧ Exa Z h a0 "com/example/understory/understory/games/logger/Choice$Actions" ∧ Fld Z h a0 "com/example/understory/understory/games/logger/Choice$Actions" "plant" "[I" (.ref a1) ∧ Fld Z h a0 "com/example/understory/understory/games/logger/Choice$Actions" "protest" "[I" (.ref a2) ∧ Fld Z h a0 "com/example/understory/understory/games/logger/Choice$Actions" "protesters" "I" (.int i3) ∧ Fld Z h a0 "com/example/understory/understory/games/logger/Choice$Actions" "chop" "[I" (.ref a4)) := by
  refine Rm.of (plainFor_of_name pn_1) ?_
  intro p e s m below meth cc T X hnm hret hlk
  refine Go.at_ (ef_rInit m a0 a1 a2 i3 a4) ?_
  have N := Fr.nil n0
  have Kp := Keep.refl h0 [a0]
  refine g_aloadN X d1_0 (pc' := 1) rfl rfl rfl ?_
  refine g_special X (W := 0) (a := a0) [] [] rfl (tb hw 7 rfl) (tb hw 8 rfl) (tb hw 10 rfl) (tb hw 11 rfl) (rRec l Z aa hw [] a0 _ n0 Z0) d1_1 (pc' := 4) rfl (by decide) (by decide) (by decide) rfl rfl rfl (lenOf pd_0 rfl) (Nat.le_refl _) (by decide) (by decide) ?_
  intro v T L X q
  obtain ⟨rfl, Nq, Kq⟩ := q
  replace N := N.app Nq
  replace E_a0 := E_a0.keep Kq
  replace F_a0_plant := F_a0_plant.keep Kq nin0
  replace F_a0_protest := F_a0_protest.keep Kq nin0
  replace F_a0_protesters := F_a0_protesters.keep Kq nin0
  replace F_a0_chop := F_a0_chop.keep Kq nin0
  replace Z0 := Nat.le_trans Z0 Kq.1
  replace Kp := Kp.trans Kq all0
  show Go p e below _ (T.setTop (mkF m 4 #[.val (.ref a0), .val (.ref a1), .val (.ref a2), .val (.int i3), .val (.ref a4)] []))
  refine g_aloadN X d1_4 (pc' := 5) rfl rfl rfl ?_
  refine g_aloadN X d1_5 (pc' := 6) rfl rfl rfl ?_
  refine g_putfield X (host := "") (Or.inl (tb hw 15 rfl)) Via.refl F_a0_plant E_a0 (Or.inr ⟨(tb hw 16 rfl), rfl, hnm⟩) (tb hw 2 rfl) (ty := (.array .int)) (by decide) rfl rfl d1_6 (pc' := 9) rfl ?_
  intro T h X W
  replace E_a0 := E_a0.wr W
  replace F_a0_plant := F_a0_plant.same W
  replace F_a0_protest := F_a0_protest.other W (Or.inr (slot_ne (Or.inr (tb hw 18 rfl)) (Or.inr (tb hw 16 rfl)) (by decide) (t := (.array .int)) (t' := (.array .int)) (by decide) (by decide)))
  replace F_a0_protesters := F_a0_protesters.other W (Or.inr (slot_ne (Or.inr (tb hw 20 rfl)) (Or.inr (tb hw 16 rfl)) (by decide) (t := .int) (t' := (.array .int)) (by decide) (by decide)))
  replace F_a0_chop := F_a0_chop.other W (Or.inr (slot_ne (Or.inr (tb hw 22 rfl)) (Or.inr (tb hw 16 rfl)) (by decide) (t := (.array .int)) (t' := (.array .int)) (by decide) (by decide)))
  replace Z0 := Nat.le_trans Z0 (Nat.le_of_eq W.size.symm)
  replace N := Fr.snoc X.1 N g_a0
  replace Kp := Kp.wr W (Or.inl (List.mem_of_getElem? (i := 0) rfl))
  refine g_aloadN X d1_9 (pc' := 10) rfl rfl rfl ?_
  refine g_aloadN X d1_10 (pc' := 11) rfl rfl rfl ?_
  refine g_putfield X (host := "") (Or.inl (tb hw 17 rfl)) Via.refl F_a0_protest E_a0 (Or.inr ⟨(tb hw 18 rfl), rfl, hnm⟩) (tb hw 2 rfl) (ty := (.array .int)) (by decide) rfl rfl d1_11 (pc' := 14) rfl ?_
  intro T h X W
  replace E_a0 := E_a0.wr W
  replace F_a0_plant := F_a0_plant.other W (Or.inr (slot_ne (Or.inr (tb hw 16 rfl)) (Or.inr (tb hw 18 rfl)) (by decide) (t := (.array .int)) (t' := (.array .int)) (by decide) (by decide)))
  replace F_a0_protest := F_a0_protest.same W
  replace F_a0_protesters := F_a0_protesters.other W (Or.inr (slot_ne (Or.inr (tb hw 20 rfl)) (Or.inr (tb hw 18 rfl)) (by decide) (t := .int) (t' := (.array .int)) (by decide) (by decide)))
  replace F_a0_chop := F_a0_chop.other W (Or.inr (slot_ne (Or.inr (tb hw 22 rfl)) (Or.inr (tb hw 18 rfl)) (by decide) (t := (.array .int)) (t' := (.array .int)) (by decide) (by decide)))
  replace Z0 := Nat.le_trans Z0 (Nat.le_of_eq W.size.symm)
  replace N := Fr.snoc X.1 N g_a0
  replace Kp := Kp.wr W (Or.inl (List.mem_of_getElem? (i := 0) rfl))
  refine g_aloadN X d1_14 (pc' := 15) rfl rfl rfl ?_
  refine g_iloadN X d1_15 (pc' := 16) rfl rfl ?_
  refine g_putfield X (host := "") (Or.inl (tb hw 19 rfl)) Via.refl F_a0_protesters E_a0 (Or.inr ⟨(tb hw 20 rfl), rfl, hnm⟩) (tb hw 2 rfl) (ty := .int) (by decide) rfl rfl d1_16 (pc' := 19) rfl ?_
  intro T h X W
  replace E_a0 := E_a0.wr W
  replace F_a0_plant := F_a0_plant.other W (Or.inr (slot_ne (Or.inr (tb hw 16 rfl)) (Or.inr (tb hw 20 rfl)) (by decide) (t := (.array .int)) (t' := .int) (by decide) (by decide)))
  replace F_a0_protest := F_a0_protest.other W (Or.inr (slot_ne (Or.inr (tb hw 18 rfl)) (Or.inr (tb hw 20 rfl)) (by decide) (t := (.array .int)) (t' := .int) (by decide) (by decide)))
  replace F_a0_protesters := F_a0_protesters.same W
  replace F_a0_chop := F_a0_chop.other W (Or.inr (slot_ne (Or.inr (tb hw 22 rfl)) (Or.inr (tb hw 20 rfl)) (by decide) (t := (.array .int)) (t' := .int) (by decide) (by decide)))
  replace Z0 := Nat.le_trans Z0 (Nat.le_of_eq W.size.symm)
  replace N := Fr.snoc X.1 N g_a0
  replace Kp := Kp.wr W (Or.inl (List.mem_of_getElem? (i := 0) rfl))
  refine g_aloadN X d1_19 (pc' := 20) rfl rfl rfl ?_
  refine g_aload X d1_20 (pc' := 22) rfl rfl rfl ?_
  refine g_putfield X (host := "") (Or.inl (tb hw 21 rfl)) Via.refl F_a0_chop E_a0 (Or.inr ⟨(tb hw 22 rfl), rfl, hnm⟩) (tb hw 2 rfl) (ty := (.array .int)) (by decide) rfl rfl d1_22 (pc' := 25) rfl ?_
  intro T h X W
  replace E_a0 := E_a0.wr W
  replace F_a0_plant := F_a0_plant.other W (Or.inr (slot_ne (Or.inr (tb hw 16 rfl)) (Or.inr (tb hw 22 rfl)) (by decide) (t := (.array .int)) (t' := (.array .int)) (by decide) (by decide)))
  replace F_a0_protest := F_a0_protest.other W (Or.inr (slot_ne (Or.inr (tb hw 18 rfl)) (Or.inr (tb hw 22 rfl)) (by decide) (t := (.array .int)) (t' := (.array .int)) (by decide) (by decide)))
  replace F_a0_protesters := F_a0_protesters.other W (Or.inr (slot_ne (Or.inr (tb hw 20 rfl)) (Or.inr (tb hw 22 rfl)) (by decide) (t := .int) (t' := (.array .int)) (by decide) (by decide)))
  replace F_a0_chop := F_a0_chop.same W
  replace Z0 := Nat.le_trans Z0 (Nat.le_of_eq W.size.symm)
  replace N := Fr.snoc X.1 N g_a0
  replace Kp := Kp.wr W (Or.inl (List.mem_of_getElem? (i := 0) rfl))
  refine g_return X d1_25 hret hlk (by decide) (by decide) ?_
  exact ⟨rfl, N, Kp, E_a0, F_a0_plant, F_a0_protest, F_a0_protesters, F_a0_chop⟩
theorem d4_0 : decode prog_12_method_2_code 0 = .ok (.aload_n 0, 1) := by decide +kernel
theorem d4_1 : decode prog_12_method_2_code 1 = .ok (.getfield 7, 3) := by decide +kernel
theorem d4_4 : decode prog_12_method_2_code 4 = .ok (.arraylength, 1) := by decide +kernel
theorem d4_5 : decode prog_12_method_2_code 5 = .ok (.ifCond .ne 23, 3) := by decide +kernel
theorem d4_8 : decode prog_12_method_2_code 8 = .ok (.aload_n 0, 1) := by decide +kernel
theorem d4_9 : decode prog_12_method_2_code 9 = .ok (.getfield 13, 3) := by decide +kernel
theorem d4_12 : decode prog_12_method_2_code 12 = .ok (.arraylength, 1) := by decide +kernel
theorem d4_13 : decode prog_12_method_2_code 13 = .ok (.ifCond .ne 15, 3) := by decide +kernel
theorem d4_16 : decode prog_12_method_2_code 16 = .ok (.aload_n 0, 1) := by decide +kernel
theorem d4_17 : decode prog_12_method_2_code 17 = .ok (.getfield 20, 3) := by decide +kernel
theorem d4_20 : decode prog_12_method_2_code 20 = .ok (.arraylength, 1) := by decide +kernel
theorem d4_21 : decode prog_12_method_2_code 21 = .ok (.ifCond .ne 7, 3) := by decide +kernel
theorem d4_24 : decode prog_12_method_2_code 24 = .ok (.iconst 1, 1) := by decide +kernel
theorem d4_25 : decode prog_12_method_2_code 25 = .ok (.goto 4, 3) := by decide +kernel
theorem d4_29 : decode prog_12_method_2_code 29 = .ok (.ireturn, 1) := by decide +kernel
theorem d4_28 : decode prog_12_method_2_code 28 = .ok (.iconst 0, 1) := by decide +kernel
def fN (z1 : Int32) (z2 : Int32) (z3 : Int32) : Bool := if z1 = (0 : Int32) then (if z2 = (0 : Int32) then (if z3 = (0 : Int32) then (true) else (false)) else (false)) else (false)
theorem ef_rN (m : MethodId) (x0 : Addr) : entryFrame m #[(.ref x0)] 1 = mkF m 0 #[.val (.ref x0)] [] := by first | (simp [entryFrame, mkF, argsToLocals, Value.category]; done) | rfl
set_option maxRecDepth 65536 in
set_option maxHeartbeats 40000000 in
theorem rN (l : Launch) (Z : State) (aa : Array Value) (hw : ∀ d ∈ tables_1, d.before aa Z = true) (ws : List Jvm.Cond) (a0 : Addr) (w1 : Addr) (w2 : Addr) (w3 : Addr) (z1 : Int32) (z2 : Int32) (z3 : Int32) (h0 : Heap) (E_a0 : Exa Z h0 a0 "com/example/understory/understory/games/logger/Choice$Actions") (F_a0_plant : Fld Z h0 a0 "com/example/understory/understory/games/logger/Choice$Actions" "plant" "[I" (.ref w1)) (F_a0_protest : Fld Z h0 a0 "com/example/understory/understory/games/logger/Choice$Actions" "protest" "[I" (.ref w2)) (F_a0_chop : Fld Z h0 a0 "com/example/understory/understory/games/logger/Choice$Actions" "chop" "[I" (.ref w3)) (V_w1 : AvN Z h0 w1 .int z1) (V_w2 : AvN Z h0 w2 .int z2) (V_w3 : AvN Z h0 w3 .int z3) :
    Rm l Z (⟨"com/example/understory/understory/games/logger/Choice$Actions", "none", "()Z"⟩ : MethodName) prog_12_method_2_code 1 (some .boolean) ws ({ frames := 0, cells := 0, slots := 0, locals := 0 } : Room) #[(.ref a0)] h0 (Pu (.int (b2i (fN z1 z2 z3))) h0) := by
  refine Rm.of (plainFor_of_name pn_1) ?_
  intro p e s m below meth cc T X hnm hret hlk
  refine Go.at_ (ef_rN m a0) ?_
  refine g_aloadN X d4_0 (pc' := 1) rfl rfl rfl ?_
  refine g_getfield X (host := "") (Or.inl (tb hw 15 rfl)) Via.refl F_a0_plant d4_1 (pc' := 4) rfl ?_
  intro T X
  refine g_arraylengthN X V_w1 d4_4 (pc' := 5) rfl ?_
  by_cases hc5_1 : z1 = (0 : Int32)
  · skip
    refine g_ifN X d4_5 ((if0 _ _).trans (teq hc5_1).2) (pc' := 8) rfl ?_
    refine g_aloadN X d4_8 (pc' := 9) rfl rfl rfl ?_
    refine g_getfield X (host := "") (Or.inl (tb hw 17 rfl)) Via.refl F_a0_protest d4_9 (pc' := 12) rfl ?_
    intro T X
    refine g_arraylengthN X V_w2 d4_12 (pc' := 13) rfl ?_
    by_cases hc13_2 : z2 = (0 : Int32)
    · skip
      refine g_ifN X d4_13 ((if0 _ _).trans (teq hc13_2).2) (pc' := 16) rfl ?_
      refine g_aloadN X d4_16 (pc' := 17) rfl rfl rfl ?_
      refine g_getfield X (host := "") (Or.inl (tb hw 21 rfl)) Via.refl F_a0_chop d4_17 (pc' := 20) rfl ?_
      intro T X
      refine g_arraylengthN X V_w3 d4_20 (pc' := 21) rfl ?_
      by_cases hc21_3 : z3 = (0 : Int32)
      · skip
        refine g_ifN X d4_21 ((if0 _ _).trans (teq hc21_3).2) (pc' := 24) rfl ?_
        refine g_iconst X (1 : Int32) d4_24 (pc' := 25) rfl rfl ?_
        refine g_goto X d4_25 (pc' := 29) (by decide) (by decide) ?_
        refine g_ireturnN X (t := .boolean) (by simp) d4_29 hret hlk (by decide) (by decide) ?_
        exact ⟨congrArg (fun z => some (Value.int z)) (Eq.trans narT (congrArg b2i (Eq.symm (show fN z1 z2 z3 = _ from (Eq.trans (if_pos hc5_1) (Eq.trans (if_pos hc13_2) (Eq.trans (if_pos hc21_3) rfl))))))), rfl, rfl⟩
      · skip
        refine g_ifY X d4_21 ((if0 _ _).trans (feq hc21_3).2) (pc' := 28) (by decide) (by decide) ?_
        refine g_iconst X (0 : Int32) d4_28 (pc' := 29) rfl rfl ?_
        refine g_ireturnN X (t := .boolean) (by simp) d4_29 hret hlk (by decide) (by decide) ?_
        exact ⟨congrArg (fun z => some (Value.int z)) (Eq.trans narF (congrArg b2i (Eq.symm (show fN z1 z2 z3 = _ from (Eq.trans (if_pos hc5_1) (Eq.trans (if_pos hc13_2) (Eq.trans (if_neg hc21_3) rfl))))))), rfl, rfl⟩
    · skip
      refine g_ifY X d4_13 ((if0 _ _).trans (feq hc13_2).2) (pc' := 28) (by decide) (by decide) ?_
      refine g_iconst X (0 : Int32) d4_28 (pc' := 29) rfl rfl ?_
      refine g_ireturnN X (t := .boolean) (by simp) d4_29 hret hlk (by decide) (by decide) ?_
      exact ⟨congrArg (fun z => some (Value.int z)) (Eq.trans narF (congrArg b2i (Eq.symm (show fN z1 z2 z3 = _ from (Eq.trans (if_pos hc5_1) (Eq.trans (if_neg hc13_2) rfl)))))), rfl, rfl⟩
  · skip
    refine g_ifY X d4_5 ((if0 _ _).trans (feq hc5_1).2) (pc' := 28) (by decide) (by decide) ?_
    refine g_iconst X (0 : Int32) d4_28 (pc' := 29) rfl rfl ?_
    refine g_ireturnN X (t := .boolean) (by simp) d4_29 hret hlk (by decide) (by decide) ?_
    exact ⟨congrArg (fun z => some (Value.int z)) (Eq.trans narF (congrArg b2i (Eq.symm (show fN z1 z2 z3 = _ from (Eq.trans (if_neg hc5_1) rfl))))), rfl, rfl⟩
theorem m3 {i v : Int32} (e : i &&& 3 = v) : 0 ≤ v.toInt ∧ v.toInt ≤ 3 ∧ ¬ v < 0 ∧ v.toNatClampNeg ≤ 3 := by
  have q : v.toInt = i.toInt % 4 := by rw [← e]; exact c_mask i 3 2 (by decide) (by decide)
  refine ⟨by omega, by omega, ?_, ?_⟩
  · rw [Int32.lt_iff_toInt_lt]; simp only [Int32.reduceToInt]; omega
  · simp only [Int32.toNatClampNeg]; omega
theorem less1 {v : Int32} (h : 0 < v) : ¬ (v - 1) < 0 ∧ (v - 1) < v := by
  have r := rng32 v
  rw [Int32.lt_iff_toInt_lt] at h; simp only [Int32.reduceToInt] at h
  have e : (v - 1).toInt = v.toInt - 1 := by rw [Int32.toInt_sub]; simp only [Int32.reduceToInt]; exact Int.bmod_eq_of_le (by omega) (by omega)
  rw [Int32.lt_iff_toInt_lt, Int32.lt_iff_toInt_lt, e]; simp only [Int32.reduceToInt]; omega
theorem pn_2 : plainName "com/example/understory/understory/games/logger/ActionsNonePinLaw" = true := by first | (simp [plainName, overriddenIn]; done) | decide +kernel
theorem pd_1 : parseMethodDescriptor "([I[II[I)V" = some ⟨[(.array .int), (.array .int), .int, (.array .int)], none⟩ := by decide +kernel
theorem pd_2 : parseMethodDescriptor "()Z" = some ⟨[], some .boolean⟩ := by decide +kernel
theorem ef_rLaw (m : MethodId) (x0 : Int32) (x1 : Int32) (x2 : Int32) (x3 : Int32) (x4 : Int32) : entryFrame m #[(.int x0), (.int x1), (.int x2), (.int x3), (.int x4)] maxLocals = mkF m 0 #[.val (.int x0), .val (.int x1), .val (.int x2), .val (.int x3), .val (.int x4), .unset, .unset, .unset, .unset, .unset, .unset, .unset, .unset] [] := by first | (simp [entryFrame, mkF, argsToLocals, Value.category, maxLocals]; done) | rfl
set_option maxRecDepth 65536 in
set_option maxHeartbeats 40000000 in
theorem rLaw (l : Launch) (Z : State) (aa : Array Value) (hw : ∀ d ∈ tables_1, d.before aa Z = true) (ws : List Jvm.Cond) (i0 : Int32) (i1 : Int32) (i2 : Int32) (i3 : Int32) (i4 : Int32) (h0 : Heap) (n0 : Nat) (Z0 : n0 ≤ h0.size) :
    Rm l Z x code maxLocals ret ws room_1 #[(.int i0), (.int i1), (.int i2), (.int i3), (.int i4)] h0 (fun v h L => v = some (.int 1) ∧ Fr n0 L) := by
  refine Rm.of (plainFor_of_name pn_2) ?_
  intro p e s m below meth cc T X hnm hret hlk
  refine Go.at_ (ef_rLaw m i0 i1 i2 i3 i4) ?_
  have N := Fr.nil n0
  refine g_iloadN X at_0 (pc' := 1) rfl rfl ?_
  refine g_iconst X (3 : Int32) at_1 (pc' := 2) rfl rfl ?_
  refine g_iand X at_2 (pc' := 3) rfl ?_
  generalize ev3_1 : (i0 &&& (3 : Int32)) = v3_1
  refine g_istore X at_3 (pc' := 5) (Ls' := #[.val (.int i0), .val (.int i1), .val (.int i2), .val (.int i3), .val (.int i4), .val (.int v3_1), .unset, .unset, .unset, .unset, .unset, .unset, .unset]) rfl rfl ?_
  refine g_iloadN X at_5 (pc' := 6) rfl rfl ?_
  refine g_iconst X (3 : Int32) at_6 (pc' := 7) rfl rfl ?_
  refine g_iand X at_7 (pc' := 8) rfl ?_
  generalize ev8_2 : (i1 &&& (3 : Int32)) = v8_2
  refine g_istore X at_8 (pc' := 10) (Ls' := #[.val (.int i0), .val (.int i1), .val (.int i2), .val (.int i3), .val (.int i4), .val (.int v3_1), .val (.int v8_2), .unset, .unset, .unset, .unset, .unset, .unset]) rfl rfl ?_
  refine g_iloadN X at_10 (pc' := 11) rfl rfl ?_
  refine g_iconst X (3 : Int32) at_11 (pc' := 12) rfl rfl ?_
  refine g_iand X at_12 (pc' := 13) rfl ?_
  generalize ev13_3 : (i2 &&& (3 : Int32)) = v13_3
  refine g_istore X at_13 (pc' := 15) (Ls' := #[.val (.int i0), .val (.int i1), .val (.int i2), .val (.int i3), .val (.int i4), .val (.int v3_1), .val (.int v8_2), .val (.int v13_3), .unset, .unset, .unset, .unset, .unset]) rfl rfl ?_
  refine g_iload X at_15 (pc' := 17) rfl rfl ?_
  refine g_newarray X _ (tb hw 0 rfl) at_17 (pc' := 19) rfl (m3 ev3_1).2.2.1 rfl 3 (m3 ev3_1).2.2.2 (by decide) (by decide) (by decide) rfl (ad := "[I") (by decide) ?_
  intro T h b17_4 s_b17_4 X Ex E_b17_4 V_b17_4
  have g_b17_4 : n0 ≤ b17_4 := by rw [s_b17_4]; exact Z0
  replace Z0 := Nat.le_trans Z0 Ex.1
  replace V_b17_4 : AvN Z h b17_4 .int v3_1 := ⟨_, V_b17_4, by rw [List.length_replicate]; exact (back32 (m3 ev3_1).2.2.1).1⟩
  refine g_astore X at_19 (pc' := 21) (Ls' := #[.val (.int i0), .val (.int i1), .val (.int i2), .val (.int i3), .val (.int i4), .val (.int v3_1), .val (.int v8_2), .val (.int v13_3), .val (.ref b17_4), .unset, .unset, .unset, .unset]) rfl rfl rfl ?_
  refine g_iload X at_21 (pc' := 23) rfl rfl ?_
  refine g_newarray X _ (tb hw 0 rfl) at_23 (pc' := 25) rfl (m3 ev8_2).2.2.1 rfl 3 (m3 ev8_2).2.2.2 (by decide) (by decide) (by decide) rfl (ad := "[I") (by decide) ?_
  intro T h b23_5 s_b23_5 X Ex E_b23_5 V_b23_5
  have ne_b17_4_b23_5 : b17_4 ≠ b23_5 := Nat.ne_of_lt (by rw [s_b23_5]; exact E_b17_4.lt)
  have g_b23_5 : n0 ≤ b23_5 := by rw [s_b23_5]; exact Z0
  replace E_b17_4 := E_b17_4.ext Ex
  replace V_b17_4 := V_b17_4.ext Ex
  replace Z0 := Nat.le_trans Z0 Ex.1
  replace V_b23_5 : AvN Z h b23_5 .int v8_2 := ⟨_, V_b23_5, by rw [List.length_replicate]; exact (back32 (m3 ev8_2).2.2.1).1⟩
  refine g_astore X at_25 (pc' := 27) (Ls' := #[.val (.int i0), .val (.int i1), .val (.int i2), .val (.int i3), .val (.int i4), .val (.int v3_1), .val (.int v8_2), .val (.int v13_3), .val (.ref b17_4), .val (.ref b23_5), .unset, .unset, .unset]) rfl rfl rfl ?_
  refine g_iload X at_27 (pc' := 29) rfl rfl ?_
  refine g_newarray X _ (tb hw 0 rfl) at_29 (pc' := 31) rfl (m3 ev13_3).2.2.1 rfl 3 (m3 ev13_3).2.2.2 (by decide) (by decide) (by decide) rfl (ad := "[I") (by decide) ?_
  intro T h b29_6 s_b29_6 X Ex E_b29_6 V_b29_6
  have ne_b17_4_b29_6 : b17_4 ≠ b29_6 := Nat.ne_of_lt (by rw [s_b29_6]; exact E_b17_4.lt)
  have ne_b23_5_b29_6 : b23_5 ≠ b29_6 := Nat.ne_of_lt (by rw [s_b29_6]; exact E_b23_5.lt)
  have g_b29_6 : n0 ≤ b29_6 := by rw [s_b29_6]; exact Z0
  replace E_b17_4 := E_b17_4.ext Ex
  replace V_b17_4 := V_b17_4.ext Ex
  replace E_b23_5 := E_b23_5.ext Ex
  replace V_b23_5 := V_b23_5.ext Ex
  replace Z0 := Nat.le_trans Z0 Ex.1
  replace V_b29_6 : AvN Z h b29_6 .int v13_3 := ⟨_, V_b29_6, by rw [List.length_replicate]; exact (back32 (m3 ev13_3).2.2.1).1⟩
  refine g_astore X at_31 (pc' := 33) (Ls' := #[.val (.int i0), .val (.int i1), .val (.int i2), .val (.int i3), .val (.int i4), .val (.int v3_1), .val (.int v8_2), .val (.int v13_3), .val (.ref b17_4), .val (.ref b23_5), .val (.ref b29_6), .unset, .unset]) rfl rfl rfl ?_
  refine g_iload X at_33 (pc' := 35) rfl rfl ?_
  by_cases hc35_7 : (0 : Int32) < v3_1
  · skip
    refine g_ifN X at_35 ((if0 _ _).trans (tlt hc35_7).2.2.2) (pc' := 38) rfl ?_
    refine g_aload X at_38 (pc' := 40) rfl rfl rfl ?_
    refine g_iconst X (0 : Int32) at_40 (pc' := 41) rfl rfl ?_
    refine g_iload X at_41 (pc' := 43) rfl rfl ?_
    refine g_iastoreN X V_b17_4 at_43 (pc' := 44) rfl (by decide) hc35_7 ?_
    intro T h X W V_b17_4
    replace E_b17_4 := E_b17_4.wr W
    replace E_b23_5 := E_b23_5.wr W
    replace V_b23_5 := V_b23_5.other W (Ne.symm ne_b17_4_b23_5)
    replace E_b29_6 := E_b29_6.wr W
    replace V_b29_6 := V_b29_6.other W (Ne.symm ne_b17_4_b29_6)
    replace Z0 := Nat.le_trans Z0 (Nat.le_of_eq W.size.symm)
    replace N := Fr.snoc X.1 N g_b17_4
    refine g_iload X at_44 (pc' := 46) rfl rfl ?_
    by_cases hc46_8 : (0 : Int32) < v8_2
    · skip
      refine g_ifN X at_46 ((if0 _ _).trans (tlt hc46_8).2.2.2) (pc' := 49) rfl ?_
      refine g_aload X at_49 (pc' := 51) rfl rfl rfl ?_
      refine g_iload X at_51 (pc' := 53) rfl rfl ?_
      refine g_iconst X (1 : Int32) at_53 (pc' := 54) rfl rfl ?_
      refine g_isub X at_54 (pc' := 55) rfl ?_
      refine g_iload X at_55 (pc' := 57) rfl rfl ?_
      refine g_iastoreN X V_b23_5 at_57 (pc' := 58) rfl (less1 hc46_8).1 (less1 hc46_8).2 ?_
      intro T h X W V_b23_5
      replace E_b17_4 := E_b17_4.wr W
      replace V_b17_4 := V_b17_4.other W ne_b17_4_b23_5
      replace E_b23_5 := E_b23_5.wr W
      replace E_b29_6 := E_b29_6.wr W
      replace V_b29_6 := V_b29_6.other W (Ne.symm ne_b23_5_b29_6)
      replace Z0 := Nat.le_trans Z0 (Nat.le_of_eq W.size.symm)
      replace N := Fr.snoc X.1 N g_b23_5
      refine g_iload X at_58 (pc' := 60) rfl rfl ?_
      by_cases hc60_9 : (0 : Int32) < v13_3
      · skip
        refine g_ifN X at_60 ((if0 _ _).trans (tlt hc60_9).2.2.2) (pc' := 63) rfl ?_
        refine g_aload X at_63 (pc' := 65) rfl rfl rfl ?_
        refine g_iconst X (0 : Int32) at_65 (pc' := 66) rfl rfl ?_
        refine g_iloadN X at_66 (pc' := 67) rfl rfl ?_
        refine g_iastoreN X V_b29_6 at_67 (pc' := 68) rfl (by decide) hc60_9 ?_
        intro T h X W V_b29_6
        replace E_b17_4 := E_b17_4.wr W
        replace V_b17_4 := V_b17_4.other W ne_b17_4_b29_6
        replace E_b23_5 := E_b23_5.wr W
        replace V_b23_5 := V_b23_5.other W ne_b23_5_b29_6
        replace E_b29_6 := E_b29_6.wr W
        replace Z0 := Nat.le_trans Z0 (Nat.le_of_eq W.size.symm)
        replace N := Fr.snoc X.1 N g_b29_6
        refine g_new X (tb hw 1 rfl) (tb hw 2 rfl) (tb hw 3 rfl) at_68 (pc' := 71) rfl (by decide) (by decide) ?_
        intro T h b68_10 s_b68_10 X Ex E_b68_10 D_b68_10
        have ne_b17_4_b68_10 : b17_4 ≠ b68_10 := Nat.ne_of_lt (by rw [s_b68_10]; exact E_b17_4.lt)
        have ne_b23_5_b68_10 : b23_5 ≠ b68_10 := Nat.ne_of_lt (by rw [s_b68_10]; exact E_b23_5.lt)
        have ne_b29_6_b68_10 : b29_6 ≠ b68_10 := Nat.ne_of_lt (by rw [s_b68_10]; exact E_b29_6.lt)
        have g_b68_10 : n0 ≤ b68_10 := by rw [s_b68_10]; exact Z0
        replace E_b17_4 := E_b17_4.ext Ex
        replace V_b17_4 := V_b17_4.ext Ex
        replace E_b23_5 := E_b23_5.ext Ex
        replace V_b23_5 := V_b23_5.ext Ex
        replace E_b29_6 := E_b29_6.ext Ex
        replace V_b29_6 := V_b29_6.ext Ex
        replace Z0 := Nat.le_trans Z0 Ex.1
        have F_b68_10_plant : Fld Z h b68_10 "com/example/understory/understory/games/logger/Choice$Actions" "plant" "[I" .null := D_b68_10 (Or.inr (tb hw 16 rfl)) (ty := (.array .int)) (by decide)
        have F_b68_10_protest : Fld Z h b68_10 "com/example/understory/understory/games/logger/Choice$Actions" "protest" "[I" .null := D_b68_10 (Or.inr (tb hw 18 rfl)) (ty := (.array .int)) (by decide)
        have F_b68_10_protesters : Fld Z h b68_10 "com/example/understory/understory/games/logger/Choice$Actions" "protesters" "I" (.int (0 : Int32)) := D_b68_10 (Or.inr (tb hw 20 rfl)) (ty := .int) (by decide)
        have F_b68_10_chop : Fld Z h b68_10 "com/example/understory/understory/games/logger/Choice$Actions" "chop" "[I" .null := D_b68_10 (Or.inr (tb hw 22 rfl)) (ty := (.array .int)) (by decide)
        refine g_dup X at_71 (pc' := 72) rfl rfl ?_
        refine g_aload X at_72 (pc' := 74) rfl rfl rfl ?_
        refine g_aload X at_74 (pc' := 76) rfl rfl rfl ?_
        refine g_iloadN X at_76 (pc' := 77) rfl rfl ?_
        refine g_aload X at_77 (pc' := 79) rfl rfl rfl ?_
        refine g_special X (W := 1) (a := b68_10) [(.ref b17_4), (.ref b23_5), (.int i3), (.ref b29_6)] [(.ref b68_10)] rfl (tb hw 4 rfl) (tb hw 5 rfl) (tb hw 3 rfl) (tb hw 6 rfl) (rInit l Z aa hw [] b68_10 b17_4 b23_5 i3 b29_6 _ n0 Z0 E_b68_10 F_b68_10_plant F_b68_10_protest F_b68_10_protesters F_b68_10_chop g_b68_10) at_79 (pc' := 82) rfl (by decide) (by decide) (by decide) rfl rfl rfl (lenOf pd_1 rfl) (Nat.le_refl _) (by decide) (by decide) ?_
        intro v T L X q
        obtain ⟨rfl, Nq, Kq, E_b68_10', F_b68_10_plant', F_b68_10_protest', F_b68_10_protesters', F_b68_10_chop'⟩ := q
        replace N := N.app Nq
        replace E_b17_4 := E_b17_4.keep Kq
        replace V_b17_4 := V_b17_4.keep Kq (ninS ne_b17_4_b68_10 nin0)
        replace E_b23_5 := E_b23_5.keep Kq
        replace V_b23_5 := V_b23_5.keep Kq (ninS ne_b23_5_b68_10 nin0)
        replace E_b29_6 := E_b29_6.keep Kq
        replace V_b29_6 := V_b29_6.keep Kq (ninS ne_b29_6_b68_10 nin0)
        replace Z0 := Nat.le_trans Z0 Kq.1
        replace E_b68_10 := E_b68_10'
        replace F_b68_10_plant := F_b68_10_plant'
        replace F_b68_10_protest := F_b68_10_protest'
        replace F_b68_10_protesters := F_b68_10_protesters'
        replace F_b68_10_chop := F_b68_10_chop'
        show Go p e below _ (T.setTop (mkF m 82 #[.val (.int i0), .val (.int i1), .val (.int i2), .val (.int i3), .val (.int i4), .val (.int v3_1), .val (.int v8_2), .val (.int v13_3), .val (.ref b17_4), .val (.ref b23_5), .val (.ref b29_6), .unset, .unset] [(.ref b68_10)]))
        refine g_astore X at_82 (pc' := 84) (Ls' := #[.val (.int i0), .val (.int i1), .val (.int i2), .val (.int i3), .val (.int i4), .val (.int v3_1), .val (.int v8_2), .val (.int v13_3), .val (.ref b17_4), .val (.ref b23_5), .val (.ref b29_6), .val (.ref b68_10), .unset]) rfl rfl rfl ?_
        refine g_iload X at_84 (pc' := 86) rfl rfl ?_
        by_cases hc86_11 : v3_1 = (0 : Int32)
        · skip
          refine g_ifN X at_86 ((if0 _ _).trans (teq hc86_11).2) (pc' := 89) rfl ?_
          refine g_iload X at_89 (pc' := 91) rfl rfl ?_
          by_cases hc91_12 : v8_2 = (0 : Int32)
          · skip
            refine g_ifN X at_91 ((if0 _ _).trans (teq hc91_12).2) (pc' := 94) rfl ?_
            refine g_iload X at_94 (pc' := 96) rfl rfl ?_
            by_cases hc96_13 : v13_3 = (0 : Int32)
            · skip
              refine g_ifN X at_96 ((if0 _ _).trans (teq hc96_13).2) (pc' := 99) rfl ?_
              refine g_iconst X (1 : Int32) at_99 (pc' := 100) rfl rfl ?_
              refine g_goto X at_100 (pc' := 104) (by decide) (by decide) ?_
              refine g_istore X at_104 (pc' := 106) (Ls' := #[.val (.int i0), .val (.int i1), .val (.int i2), .val (.int i3), .val (.int i4), .val (.int v3_1), .val (.int v8_2), .val (.int v13_3), .val (.ref b17_4), .val (.ref b23_5), .val (.ref b29_6), .val (.ref b68_10), .val (.int (1 : Int32))]) rfl rfl ?_
              refine g_aload X at_106 (pc' := 108) rfl rfl rfl ?_
              refine g_virtual X (W := 0) (a := b68_10) (C := "com/example/understory/understory/games/logger/Choice$Actions") [] [] E_b68_10 (tb hw 23 rfl) (tb hw 24 rfl) (tb hw 26 rfl) (tb hw 25 rfl) (tb hw 3 rfl) (tb hw 27 rfl) (rN l Z aa hw [] b68_10 b17_4 b23_5 b29_6 v3_1 v8_2 v13_3 _ E_b68_10 F_b68_10_plant F_b68_10_protest F_b68_10_chop V_b17_4 V_b23_5 V_b29_6) at_108 (pc' := 111) rfl (by decide) (by decide) (by decide) rfl rfl rfl (lenOf pd_2 rfl) (Nat.le_refl _) (by decide) (by decide) ?_
              intro v T L X q
              obtain ⟨rfl, X⟩ := pureX X q
              show Go p e below _ (T.setTop (mkF m 111 #[.val (.int i0), .val (.int i1), .val (.int i2), .val (.int i3), .val (.int i4), .val (.int v3_1), .val (.int v8_2), .val (.int v13_3), .val (.ref b17_4), .val (.ref b23_5), .val (.ref b29_6), .val (.ref b68_10), .val (.int (1 : Int32))] [(.int (b2i (fN v3_1 v8_2 v13_3)))]))
              refine g_iload X at_111 (pc' := 113) rfl rfl ?_
              refine g_icN X at_113 (teq (show (b2i (fN v3_1 v8_2 v13_3)) = (1 : Int32) from (by simp [fN, b2i, hc86_11, hc91_12, hc96_13]))).2 (pc' := 116) rfl ?_
              refine g_iconst X (1 : Int32) at_116 (pc' := 117) rfl rfl ?_
              refine g_goto X at_117 (pc' := 121) (by decide) (by decide) ?_
              refine g_ireturnN X (t := .boolean) (by simp) at_121 hret hlk (by decide) (by decide) ?_
              exact ⟨rfl, N⟩
            · skip
              refine g_ifY X at_96 ((if0 _ _).trans (feq hc96_13).2) (pc' := 103) (by decide) (by decide) ?_
              refine g_iconst X (0 : Int32) at_103 (pc' := 104) rfl rfl ?_
              refine g_istore X at_104 (pc' := 106) (Ls' := #[.val (.int i0), .val (.int i1), .val (.int i2), .val (.int i3), .val (.int i4), .val (.int v3_1), .val (.int v8_2), .val (.int v13_3), .val (.ref b17_4), .val (.ref b23_5), .val (.ref b29_6), .val (.ref b68_10), .val (.int (0 : Int32))]) rfl rfl ?_
              refine g_aload X at_106 (pc' := 108) rfl rfl rfl ?_
              refine g_virtual X (W := 0) (a := b68_10) (C := "com/example/understory/understory/games/logger/Choice$Actions") [] [] E_b68_10 (tb hw 23 rfl) (tb hw 24 rfl) (tb hw 26 rfl) (tb hw 25 rfl) (tb hw 3 rfl) (tb hw 27 rfl) (rN l Z aa hw [] b68_10 b17_4 b23_5 b29_6 v3_1 v8_2 v13_3 _ E_b68_10 F_b68_10_plant F_b68_10_protest F_b68_10_chop V_b17_4 V_b23_5 V_b29_6) at_108 (pc' := 111) rfl (by decide) (by decide) (by decide) rfl rfl rfl (lenOf pd_2 rfl) (Nat.le_refl _) (by decide) (by decide) ?_
              intro v T L X q
              obtain ⟨rfl, X⟩ := pureX X q
              show Go p e below _ (T.setTop (mkF m 111 #[.val (.int i0), .val (.int i1), .val (.int i2), .val (.int i3), .val (.int i4), .val (.int v3_1), .val (.int v8_2), .val (.int v13_3), .val (.ref b17_4), .val (.ref b23_5), .val (.ref b29_6), .val (.ref b68_10), .val (.int (0 : Int32))] [(.int (b2i (fN v3_1 v8_2 v13_3)))]))
              refine g_iload X at_111 (pc' := 113) rfl rfl ?_
              refine g_icN X at_113 (teq (show (b2i (fN v3_1 v8_2 v13_3)) = (0 : Int32) from (by simp [fN, b2i, hc86_11, hc91_12, hc96_13]))).2 (pc' := 116) rfl ?_
              refine g_iconst X (1 : Int32) at_116 (pc' := 117) rfl rfl ?_
              refine g_goto X at_117 (pc' := 121) (by decide) (by decide) ?_
              refine g_ireturnN X (t := .boolean) (by simp) at_121 hret hlk (by decide) (by decide) ?_
              exact ⟨rfl, N⟩
          · skip
            refine g_ifY X at_91 ((if0 _ _).trans (feq hc91_12).2) (pc' := 103) (by decide) (by decide) ?_
            refine g_iconst X (0 : Int32) at_103 (pc' := 104) rfl rfl ?_
            refine g_istore X at_104 (pc' := 106) (Ls' := #[.val (.int i0), .val (.int i1), .val (.int i2), .val (.int i3), .val (.int i4), .val (.int v3_1), .val (.int v8_2), .val (.int v13_3), .val (.ref b17_4), .val (.ref b23_5), .val (.ref b29_6), .val (.ref b68_10), .val (.int (0 : Int32))]) rfl rfl ?_
            refine g_aload X at_106 (pc' := 108) rfl rfl rfl ?_
            refine g_virtual X (W := 0) (a := b68_10) (C := "com/example/understory/understory/games/logger/Choice$Actions") [] [] E_b68_10 (tb hw 23 rfl) (tb hw 24 rfl) (tb hw 26 rfl) (tb hw 25 rfl) (tb hw 3 rfl) (tb hw 27 rfl) (rN l Z aa hw [] b68_10 b17_4 b23_5 b29_6 v3_1 v8_2 v13_3 _ E_b68_10 F_b68_10_plant F_b68_10_protest F_b68_10_chop V_b17_4 V_b23_5 V_b29_6) at_108 (pc' := 111) rfl (by decide) (by decide) (by decide) rfl rfl rfl (lenOf pd_2 rfl) (Nat.le_refl _) (by decide) (by decide) ?_
            intro v T L X q
            obtain ⟨rfl, X⟩ := pureX X q
            show Go p e below _ (T.setTop (mkF m 111 #[.val (.int i0), .val (.int i1), .val (.int i2), .val (.int i3), .val (.int i4), .val (.int v3_1), .val (.int v8_2), .val (.int v13_3), .val (.ref b17_4), .val (.ref b23_5), .val (.ref b29_6), .val (.ref b68_10), .val (.int (0 : Int32))] [(.int (b2i (fN v3_1 v8_2 v13_3)))]))
            refine g_iload X at_111 (pc' := 113) rfl rfl ?_
            refine g_icN X at_113 (teq (show (b2i (fN v3_1 v8_2 v13_3)) = (0 : Int32) from (by simp [fN, b2i, hc86_11, hc91_12]))).2 (pc' := 116) rfl ?_
            refine g_iconst X (1 : Int32) at_116 (pc' := 117) rfl rfl ?_
            refine g_goto X at_117 (pc' := 121) (by decide) (by decide) ?_
            refine g_ireturnN X (t := .boolean) (by simp) at_121 hret hlk (by decide) (by decide) ?_
            exact ⟨rfl, N⟩
        · skip
          refine g_ifY X at_86 ((if0 _ _).trans (feq hc86_11).2) (pc' := 103) (by decide) (by decide) ?_
          refine g_iconst X (0 : Int32) at_103 (pc' := 104) rfl rfl ?_
          refine g_istore X at_104 (pc' := 106) (Ls' := #[.val (.int i0), .val (.int i1), .val (.int i2), .val (.int i3), .val (.int i4), .val (.int v3_1), .val (.int v8_2), .val (.int v13_3), .val (.ref b17_4), .val (.ref b23_5), .val (.ref b29_6), .val (.ref b68_10), .val (.int (0 : Int32))]) rfl rfl ?_
          refine g_aload X at_106 (pc' := 108) rfl rfl rfl ?_
          refine g_virtual X (W := 0) (a := b68_10) (C := "com/example/understory/understory/games/logger/Choice$Actions") [] [] E_b68_10 (tb hw 23 rfl) (tb hw 24 rfl) (tb hw 26 rfl) (tb hw 25 rfl) (tb hw 3 rfl) (tb hw 27 rfl) (rN l Z aa hw [] b68_10 b17_4 b23_5 b29_6 v3_1 v8_2 v13_3 _ E_b68_10 F_b68_10_plant F_b68_10_protest F_b68_10_chop V_b17_4 V_b23_5 V_b29_6) at_108 (pc' := 111) rfl (by decide) (by decide) (by decide) rfl rfl rfl (lenOf pd_2 rfl) (Nat.le_refl _) (by decide) (by decide) ?_
          intro v T L X q
          obtain ⟨rfl, X⟩ := pureX X q
          show Go p e below _ (T.setTop (mkF m 111 #[.val (.int i0), .val (.int i1), .val (.int i2), .val (.int i3), .val (.int i4), .val (.int v3_1), .val (.int v8_2), .val (.int v13_3), .val (.ref b17_4), .val (.ref b23_5), .val (.ref b29_6), .val (.ref b68_10), .val (.int (0 : Int32))] [(.int (b2i (fN v3_1 v8_2 v13_3)))]))
          refine g_iload X at_111 (pc' := 113) rfl rfl ?_
          refine g_icN X at_113 (teq (show (b2i (fN v3_1 v8_2 v13_3)) = (0 : Int32) from (by simp [fN, b2i, hc86_11]))).2 (pc' := 116) rfl ?_
          refine g_iconst X (1 : Int32) at_116 (pc' := 117) rfl rfl ?_
          refine g_goto X at_117 (pc' := 121) (by decide) (by decide) ?_
          refine g_ireturnN X (t := .boolean) (by simp) at_121 hret hlk (by decide) (by decide) ?_
          exact ⟨rfl, N⟩
      · skip
        refine g_ifY X at_60 ((if0 _ _).trans (flt hc60_9).2.2.2) (pc' := 68) (by decide) (by decide) ?_
        refine g_new X (tb hw 1 rfl) (tb hw 2 rfl) (tb hw 3 rfl) at_68 (pc' := 71) rfl (by decide) (by decide) ?_
        intro T h b68_14 s_b68_14 X Ex E_b68_14 D_b68_14
        have ne_b17_4_b68_14 : b17_4 ≠ b68_14 := Nat.ne_of_lt (by rw [s_b68_14]; exact E_b17_4.lt)
        have ne_b23_5_b68_14 : b23_5 ≠ b68_14 := Nat.ne_of_lt (by rw [s_b68_14]; exact E_b23_5.lt)
        have ne_b29_6_b68_14 : b29_6 ≠ b68_14 := Nat.ne_of_lt (by rw [s_b68_14]; exact E_b29_6.lt)
        have g_b68_14 : n0 ≤ b68_14 := by rw [s_b68_14]; exact Z0
        replace E_b17_4 := E_b17_4.ext Ex
        replace V_b17_4 := V_b17_4.ext Ex
        replace E_b23_5 := E_b23_5.ext Ex
        replace V_b23_5 := V_b23_5.ext Ex
        replace E_b29_6 := E_b29_6.ext Ex
        replace V_b29_6 := V_b29_6.ext Ex
        replace Z0 := Nat.le_trans Z0 Ex.1
        have F_b68_14_plant : Fld Z h b68_14 "com/example/understory/understory/games/logger/Choice$Actions" "plant" "[I" .null := D_b68_14 (Or.inr (tb hw 16 rfl)) (ty := (.array .int)) (by decide)
        have F_b68_14_protest : Fld Z h b68_14 "com/example/understory/understory/games/logger/Choice$Actions" "protest" "[I" .null := D_b68_14 (Or.inr (tb hw 18 rfl)) (ty := (.array .int)) (by decide)
        have F_b68_14_protesters : Fld Z h b68_14 "com/example/understory/understory/games/logger/Choice$Actions" "protesters" "I" (.int (0 : Int32)) := D_b68_14 (Or.inr (tb hw 20 rfl)) (ty := .int) (by decide)
        have F_b68_14_chop : Fld Z h b68_14 "com/example/understory/understory/games/logger/Choice$Actions" "chop" "[I" .null := D_b68_14 (Or.inr (tb hw 22 rfl)) (ty := (.array .int)) (by decide)
        refine g_dup X at_71 (pc' := 72) rfl rfl ?_
        refine g_aload X at_72 (pc' := 74) rfl rfl rfl ?_
        refine g_aload X at_74 (pc' := 76) rfl rfl rfl ?_
        refine g_iloadN X at_76 (pc' := 77) rfl rfl ?_
        refine g_aload X at_77 (pc' := 79) rfl rfl rfl ?_
        refine g_special X (W := 1) (a := b68_14) [(.ref b17_4), (.ref b23_5), (.int i3), (.ref b29_6)] [(.ref b68_14)] rfl (tb hw 4 rfl) (tb hw 5 rfl) (tb hw 3 rfl) (tb hw 6 rfl) (rInit l Z aa hw [] b68_14 b17_4 b23_5 i3 b29_6 _ n0 Z0 E_b68_14 F_b68_14_plant F_b68_14_protest F_b68_14_protesters F_b68_14_chop g_b68_14) at_79 (pc' := 82) rfl (by decide) (by decide) (by decide) rfl rfl rfl (lenOf pd_1 rfl) (Nat.le_refl _) (by decide) (by decide) ?_
        intro v T L X q
        obtain ⟨rfl, Nq, Kq, E_b68_14', F_b68_14_plant', F_b68_14_protest', F_b68_14_protesters', F_b68_14_chop'⟩ := q
        replace N := N.app Nq
        replace E_b17_4 := E_b17_4.keep Kq
        replace V_b17_4 := V_b17_4.keep Kq (ninS ne_b17_4_b68_14 nin0)
        replace E_b23_5 := E_b23_5.keep Kq
        replace V_b23_5 := V_b23_5.keep Kq (ninS ne_b23_5_b68_14 nin0)
        replace E_b29_6 := E_b29_6.keep Kq
        replace V_b29_6 := V_b29_6.keep Kq (ninS ne_b29_6_b68_14 nin0)
        replace Z0 := Nat.le_trans Z0 Kq.1
        replace E_b68_14 := E_b68_14'
        replace F_b68_14_plant := F_b68_14_plant'
        replace F_b68_14_protest := F_b68_14_protest'
        replace F_b68_14_protesters := F_b68_14_protesters'
        replace F_b68_14_chop := F_b68_14_chop'
        show Go p e below _ (T.setTop (mkF m 82 #[.val (.int i0), .val (.int i1), .val (.int i2), .val (.int i3), .val (.int i4), .val (.int v3_1), .val (.int v8_2), .val (.int v13_3), .val (.ref b17_4), .val (.ref b23_5), .val (.ref b29_6), .unset, .unset] [(.ref b68_14)]))
        refine g_astore X at_82 (pc' := 84) (Ls' := #[.val (.int i0), .val (.int i1), .val (.int i2), .val (.int i3), .val (.int i4), .val (.int v3_1), .val (.int v8_2), .val (.int v13_3), .val (.ref b17_4), .val (.ref b23_5), .val (.ref b29_6), .val (.ref b68_14), .unset]) rfl rfl rfl ?_
        refine g_iload X at_84 (pc' := 86) rfl rfl ?_
        by_cases hc86_15 : v3_1 = (0 : Int32)
        · skip
          refine g_ifN X at_86 ((if0 _ _).trans (teq hc86_15).2) (pc' := 89) rfl ?_
          refine g_iload X at_89 (pc' := 91) rfl rfl ?_
          by_cases hc91_16 : v8_2 = (0 : Int32)
          · skip
            refine g_ifN X at_91 ((if0 _ _).trans (teq hc91_16).2) (pc' := 94) rfl ?_
            refine g_iload X at_94 (pc' := 96) rfl rfl ?_
            by_cases hc96_17 : v13_3 = (0 : Int32)
            · skip
              refine g_ifN X at_96 ((if0 _ _).trans (teq hc96_17).2) (pc' := 99) rfl ?_
              refine g_iconst X (1 : Int32) at_99 (pc' := 100) rfl rfl ?_
              refine g_goto X at_100 (pc' := 104) (by decide) (by decide) ?_
              refine g_istore X at_104 (pc' := 106) (Ls' := #[.val (.int i0), .val (.int i1), .val (.int i2), .val (.int i3), .val (.int i4), .val (.int v3_1), .val (.int v8_2), .val (.int v13_3), .val (.ref b17_4), .val (.ref b23_5), .val (.ref b29_6), .val (.ref b68_14), .val (.int (1 : Int32))]) rfl rfl ?_
              refine g_aload X at_106 (pc' := 108) rfl rfl rfl ?_
              refine g_virtual X (W := 0) (a := b68_14) (C := "com/example/understory/understory/games/logger/Choice$Actions") [] [] E_b68_14 (tb hw 23 rfl) (tb hw 24 rfl) (tb hw 26 rfl) (tb hw 25 rfl) (tb hw 3 rfl) (tb hw 27 rfl) (rN l Z aa hw [] b68_14 b17_4 b23_5 b29_6 v3_1 v8_2 v13_3 _ E_b68_14 F_b68_14_plant F_b68_14_protest F_b68_14_chop V_b17_4 V_b23_5 V_b29_6) at_108 (pc' := 111) rfl (by decide) (by decide) (by decide) rfl rfl rfl (lenOf pd_2 rfl) (Nat.le_refl _) (by decide) (by decide) ?_
              intro v T L X q
              obtain ⟨rfl, X⟩ := pureX X q
              show Go p e below _ (T.setTop (mkF m 111 #[.val (.int i0), .val (.int i1), .val (.int i2), .val (.int i3), .val (.int i4), .val (.int v3_1), .val (.int v8_2), .val (.int v13_3), .val (.ref b17_4), .val (.ref b23_5), .val (.ref b29_6), .val (.ref b68_14), .val (.int (1 : Int32))] [(.int (b2i (fN v3_1 v8_2 v13_3)))]))
              refine g_iload X at_111 (pc' := 113) rfl rfl ?_
              refine g_icN X at_113 (teq (show (b2i (fN v3_1 v8_2 v13_3)) = (1 : Int32) from (by simp [fN, b2i, hc86_15, hc91_16, hc96_17]))).2 (pc' := 116) rfl ?_
              refine g_iconst X (1 : Int32) at_116 (pc' := 117) rfl rfl ?_
              refine g_goto X at_117 (pc' := 121) (by decide) (by decide) ?_
              refine g_ireturnN X (t := .boolean) (by simp) at_121 hret hlk (by decide) (by decide) ?_
              exact ⟨rfl, N⟩
            · skip
              refine g_ifY X at_96 ((if0 _ _).trans (feq hc96_17).2) (pc' := 103) (by decide) (by decide) ?_
              refine g_iconst X (0 : Int32) at_103 (pc' := 104) rfl rfl ?_
              refine g_istore X at_104 (pc' := 106) (Ls' := #[.val (.int i0), .val (.int i1), .val (.int i2), .val (.int i3), .val (.int i4), .val (.int v3_1), .val (.int v8_2), .val (.int v13_3), .val (.ref b17_4), .val (.ref b23_5), .val (.ref b29_6), .val (.ref b68_14), .val (.int (0 : Int32))]) rfl rfl ?_
              refine g_aload X at_106 (pc' := 108) rfl rfl rfl ?_
              refine g_virtual X (W := 0) (a := b68_14) (C := "com/example/understory/understory/games/logger/Choice$Actions") [] [] E_b68_14 (tb hw 23 rfl) (tb hw 24 rfl) (tb hw 26 rfl) (tb hw 25 rfl) (tb hw 3 rfl) (tb hw 27 rfl) (rN l Z aa hw [] b68_14 b17_4 b23_5 b29_6 v3_1 v8_2 v13_3 _ E_b68_14 F_b68_14_plant F_b68_14_protest F_b68_14_chop V_b17_4 V_b23_5 V_b29_6) at_108 (pc' := 111) rfl (by decide) (by decide) (by decide) rfl rfl rfl (lenOf pd_2 rfl) (Nat.le_refl _) (by decide) (by decide) ?_
              intro v T L X q
              obtain ⟨rfl, X⟩ := pureX X q
              show Go p e below _ (T.setTop (mkF m 111 #[.val (.int i0), .val (.int i1), .val (.int i2), .val (.int i3), .val (.int i4), .val (.int v3_1), .val (.int v8_2), .val (.int v13_3), .val (.ref b17_4), .val (.ref b23_5), .val (.ref b29_6), .val (.ref b68_14), .val (.int (0 : Int32))] [(.int (b2i (fN v3_1 v8_2 v13_3)))]))
              refine g_iload X at_111 (pc' := 113) rfl rfl ?_
              refine g_icN X at_113 (teq (show (b2i (fN v3_1 v8_2 v13_3)) = (0 : Int32) from (by simp [fN, b2i, hc86_15, hc91_16, hc96_17]))).2 (pc' := 116) rfl ?_
              refine g_iconst X (1 : Int32) at_116 (pc' := 117) rfl rfl ?_
              refine g_goto X at_117 (pc' := 121) (by decide) (by decide) ?_
              refine g_ireturnN X (t := .boolean) (by simp) at_121 hret hlk (by decide) (by decide) ?_
              exact ⟨rfl, N⟩
          · skip
            refine g_ifY X at_91 ((if0 _ _).trans (feq hc91_16).2) (pc' := 103) (by decide) (by decide) ?_
            refine g_iconst X (0 : Int32) at_103 (pc' := 104) rfl rfl ?_
            refine g_istore X at_104 (pc' := 106) (Ls' := #[.val (.int i0), .val (.int i1), .val (.int i2), .val (.int i3), .val (.int i4), .val (.int v3_1), .val (.int v8_2), .val (.int v13_3), .val (.ref b17_4), .val (.ref b23_5), .val (.ref b29_6), .val (.ref b68_14), .val (.int (0 : Int32))]) rfl rfl ?_
            refine g_aload X at_106 (pc' := 108) rfl rfl rfl ?_
            refine g_virtual X (W := 0) (a := b68_14) (C := "com/example/understory/understory/games/logger/Choice$Actions") [] [] E_b68_14 (tb hw 23 rfl) (tb hw 24 rfl) (tb hw 26 rfl) (tb hw 25 rfl) (tb hw 3 rfl) (tb hw 27 rfl) (rN l Z aa hw [] b68_14 b17_4 b23_5 b29_6 v3_1 v8_2 v13_3 _ E_b68_14 F_b68_14_plant F_b68_14_protest F_b68_14_chop V_b17_4 V_b23_5 V_b29_6) at_108 (pc' := 111) rfl (by decide) (by decide) (by decide) rfl rfl rfl (lenOf pd_2 rfl) (Nat.le_refl _) (by decide) (by decide) ?_
            intro v T L X q
            obtain ⟨rfl, X⟩ := pureX X q
            show Go p e below _ (T.setTop (mkF m 111 #[.val (.int i0), .val (.int i1), .val (.int i2), .val (.int i3), .val (.int i4), .val (.int v3_1), .val (.int v8_2), .val (.int v13_3), .val (.ref b17_4), .val (.ref b23_5), .val (.ref b29_6), .val (.ref b68_14), .val (.int (0 : Int32))] [(.int (b2i (fN v3_1 v8_2 v13_3)))]))
            refine g_iload X at_111 (pc' := 113) rfl rfl ?_
            refine g_icN X at_113 (teq (show (b2i (fN v3_1 v8_2 v13_3)) = (0 : Int32) from (by simp [fN, b2i, hc86_15, hc91_16]))).2 (pc' := 116) rfl ?_
            refine g_iconst X (1 : Int32) at_116 (pc' := 117) rfl rfl ?_
            refine g_goto X at_117 (pc' := 121) (by decide) (by decide) ?_
            refine g_ireturnN X (t := .boolean) (by simp) at_121 hret hlk (by decide) (by decide) ?_
            exact ⟨rfl, N⟩
        · skip
          refine g_ifY X at_86 ((if0 _ _).trans (feq hc86_15).2) (pc' := 103) (by decide) (by decide) ?_
          refine g_iconst X (0 : Int32) at_103 (pc' := 104) rfl rfl ?_
          refine g_istore X at_104 (pc' := 106) (Ls' := #[.val (.int i0), .val (.int i1), .val (.int i2), .val (.int i3), .val (.int i4), .val (.int v3_1), .val (.int v8_2), .val (.int v13_3), .val (.ref b17_4), .val (.ref b23_5), .val (.ref b29_6), .val (.ref b68_14), .val (.int (0 : Int32))]) rfl rfl ?_
          refine g_aload X at_106 (pc' := 108) rfl rfl rfl ?_
          refine g_virtual X (W := 0) (a := b68_14) (C := "com/example/understory/understory/games/logger/Choice$Actions") [] [] E_b68_14 (tb hw 23 rfl) (tb hw 24 rfl) (tb hw 26 rfl) (tb hw 25 rfl) (tb hw 3 rfl) (tb hw 27 rfl) (rN l Z aa hw [] b68_14 b17_4 b23_5 b29_6 v3_1 v8_2 v13_3 _ E_b68_14 F_b68_14_plant F_b68_14_protest F_b68_14_chop V_b17_4 V_b23_5 V_b29_6) at_108 (pc' := 111) rfl (by decide) (by decide) (by decide) rfl rfl rfl (lenOf pd_2 rfl) (Nat.le_refl _) (by decide) (by decide) ?_
          intro v T L X q
          obtain ⟨rfl, X⟩ := pureX X q
          show Go p e below _ (T.setTop (mkF m 111 #[.val (.int i0), .val (.int i1), .val (.int i2), .val (.int i3), .val (.int i4), .val (.int v3_1), .val (.int v8_2), .val (.int v13_3), .val (.ref b17_4), .val (.ref b23_5), .val (.ref b29_6), .val (.ref b68_14), .val (.int (0 : Int32))] [(.int (b2i (fN v3_1 v8_2 v13_3)))]))
          refine g_iload X at_111 (pc' := 113) rfl rfl ?_
          refine g_icN X at_113 (teq (show (b2i (fN v3_1 v8_2 v13_3)) = (0 : Int32) from (by simp [fN, b2i, hc86_15]))).2 (pc' := 116) rfl ?_
          refine g_iconst X (1 : Int32) at_116 (pc' := 117) rfl rfl ?_
          refine g_goto X at_117 (pc' := 121) (by decide) (by decide) ?_
          refine g_ireturnN X (t := .boolean) (by simp) at_121 hret hlk (by decide) (by decide) ?_
          exact ⟨rfl, N⟩
    · skip
      refine g_ifY X at_46 ((if0 _ _).trans (flt hc46_8).2.2.2) (pc' := 58) (by decide) (by decide) ?_
      refine g_iload X at_58 (pc' := 60) rfl rfl ?_
      by_cases hc60_18 : (0 : Int32) < v13_3
      · skip
        refine g_ifN X at_60 ((if0 _ _).trans (tlt hc60_18).2.2.2) (pc' := 63) rfl ?_
        refine g_aload X at_63 (pc' := 65) rfl rfl rfl ?_
        refine g_iconst X (0 : Int32) at_65 (pc' := 66) rfl rfl ?_
        refine g_iloadN X at_66 (pc' := 67) rfl rfl ?_
        refine g_iastoreN X V_b29_6 at_67 (pc' := 68) rfl (by decide) hc60_18 ?_
        intro T h X W V_b29_6
        replace E_b17_4 := E_b17_4.wr W
        replace V_b17_4 := V_b17_4.other W ne_b17_4_b29_6
        replace E_b23_5 := E_b23_5.wr W
        replace V_b23_5 := V_b23_5.other W ne_b23_5_b29_6
        replace E_b29_6 := E_b29_6.wr W
        replace Z0 := Nat.le_trans Z0 (Nat.le_of_eq W.size.symm)
        replace N := Fr.snoc X.1 N g_b29_6
        refine g_new X (tb hw 1 rfl) (tb hw 2 rfl) (tb hw 3 rfl) at_68 (pc' := 71) rfl (by decide) (by decide) ?_
        intro T h b68_19 s_b68_19 X Ex E_b68_19 D_b68_19
        have ne_b17_4_b68_19 : b17_4 ≠ b68_19 := Nat.ne_of_lt (by rw [s_b68_19]; exact E_b17_4.lt)
        have ne_b23_5_b68_19 : b23_5 ≠ b68_19 := Nat.ne_of_lt (by rw [s_b68_19]; exact E_b23_5.lt)
        have ne_b29_6_b68_19 : b29_6 ≠ b68_19 := Nat.ne_of_lt (by rw [s_b68_19]; exact E_b29_6.lt)
        have g_b68_19 : n0 ≤ b68_19 := by rw [s_b68_19]; exact Z0
        replace E_b17_4 := E_b17_4.ext Ex
        replace V_b17_4 := V_b17_4.ext Ex
        replace E_b23_5 := E_b23_5.ext Ex
        replace V_b23_5 := V_b23_5.ext Ex
        replace E_b29_6 := E_b29_6.ext Ex
        replace V_b29_6 := V_b29_6.ext Ex
        replace Z0 := Nat.le_trans Z0 Ex.1
        have F_b68_19_plant : Fld Z h b68_19 "com/example/understory/understory/games/logger/Choice$Actions" "plant" "[I" .null := D_b68_19 (Or.inr (tb hw 16 rfl)) (ty := (.array .int)) (by decide)
        have F_b68_19_protest : Fld Z h b68_19 "com/example/understory/understory/games/logger/Choice$Actions" "protest" "[I" .null := D_b68_19 (Or.inr (tb hw 18 rfl)) (ty := (.array .int)) (by decide)
        have F_b68_19_protesters : Fld Z h b68_19 "com/example/understory/understory/games/logger/Choice$Actions" "protesters" "I" (.int (0 : Int32)) := D_b68_19 (Or.inr (tb hw 20 rfl)) (ty := .int) (by decide)
        have F_b68_19_chop : Fld Z h b68_19 "com/example/understory/understory/games/logger/Choice$Actions" "chop" "[I" .null := D_b68_19 (Or.inr (tb hw 22 rfl)) (ty := (.array .int)) (by decide)
        refine g_dup X at_71 (pc' := 72) rfl rfl ?_
        refine g_aload X at_72 (pc' := 74) rfl rfl rfl ?_
        refine g_aload X at_74 (pc' := 76) rfl rfl rfl ?_
        refine g_iloadN X at_76 (pc' := 77) rfl rfl ?_
        refine g_aload X at_77 (pc' := 79) rfl rfl rfl ?_
        refine g_special X (W := 1) (a := b68_19) [(.ref b17_4), (.ref b23_5), (.int i3), (.ref b29_6)] [(.ref b68_19)] rfl (tb hw 4 rfl) (tb hw 5 rfl) (tb hw 3 rfl) (tb hw 6 rfl) (rInit l Z aa hw [] b68_19 b17_4 b23_5 i3 b29_6 _ n0 Z0 E_b68_19 F_b68_19_plant F_b68_19_protest F_b68_19_protesters F_b68_19_chop g_b68_19) at_79 (pc' := 82) rfl (by decide) (by decide) (by decide) rfl rfl rfl (lenOf pd_1 rfl) (Nat.le_refl _) (by decide) (by decide) ?_
        intro v T L X q
        obtain ⟨rfl, Nq, Kq, E_b68_19', F_b68_19_plant', F_b68_19_protest', F_b68_19_protesters', F_b68_19_chop'⟩ := q
        replace N := N.app Nq
        replace E_b17_4 := E_b17_4.keep Kq
        replace V_b17_4 := V_b17_4.keep Kq (ninS ne_b17_4_b68_19 nin0)
        replace E_b23_5 := E_b23_5.keep Kq
        replace V_b23_5 := V_b23_5.keep Kq (ninS ne_b23_5_b68_19 nin0)
        replace E_b29_6 := E_b29_6.keep Kq
        replace V_b29_6 := V_b29_6.keep Kq (ninS ne_b29_6_b68_19 nin0)
        replace Z0 := Nat.le_trans Z0 Kq.1
        replace E_b68_19 := E_b68_19'
        replace F_b68_19_plant := F_b68_19_plant'
        replace F_b68_19_protest := F_b68_19_protest'
        replace F_b68_19_protesters := F_b68_19_protesters'
        replace F_b68_19_chop := F_b68_19_chop'
        show Go p e below _ (T.setTop (mkF m 82 #[.val (.int i0), .val (.int i1), .val (.int i2), .val (.int i3), .val (.int i4), .val (.int v3_1), .val (.int v8_2), .val (.int v13_3), .val (.ref b17_4), .val (.ref b23_5), .val (.ref b29_6), .unset, .unset] [(.ref b68_19)]))
        refine g_astore X at_82 (pc' := 84) (Ls' := #[.val (.int i0), .val (.int i1), .val (.int i2), .val (.int i3), .val (.int i4), .val (.int v3_1), .val (.int v8_2), .val (.int v13_3), .val (.ref b17_4), .val (.ref b23_5), .val (.ref b29_6), .val (.ref b68_19), .unset]) rfl rfl rfl ?_
        refine g_iload X at_84 (pc' := 86) rfl rfl ?_
        by_cases hc86_20 : v3_1 = (0 : Int32)
        · skip
          refine g_ifN X at_86 ((if0 _ _).trans (teq hc86_20).2) (pc' := 89) rfl ?_
          refine g_iload X at_89 (pc' := 91) rfl rfl ?_
          by_cases hc91_21 : v8_2 = (0 : Int32)
          · skip
            refine g_ifN X at_91 ((if0 _ _).trans (teq hc91_21).2) (pc' := 94) rfl ?_
            refine g_iload X at_94 (pc' := 96) rfl rfl ?_
            by_cases hc96_22 : v13_3 = (0 : Int32)
            · skip
              refine g_ifN X at_96 ((if0 _ _).trans (teq hc96_22).2) (pc' := 99) rfl ?_
              refine g_iconst X (1 : Int32) at_99 (pc' := 100) rfl rfl ?_
              refine g_goto X at_100 (pc' := 104) (by decide) (by decide) ?_
              refine g_istore X at_104 (pc' := 106) (Ls' := #[.val (.int i0), .val (.int i1), .val (.int i2), .val (.int i3), .val (.int i4), .val (.int v3_1), .val (.int v8_2), .val (.int v13_3), .val (.ref b17_4), .val (.ref b23_5), .val (.ref b29_6), .val (.ref b68_19), .val (.int (1 : Int32))]) rfl rfl ?_
              refine g_aload X at_106 (pc' := 108) rfl rfl rfl ?_
              refine g_virtual X (W := 0) (a := b68_19) (C := "com/example/understory/understory/games/logger/Choice$Actions") [] [] E_b68_19 (tb hw 23 rfl) (tb hw 24 rfl) (tb hw 26 rfl) (tb hw 25 rfl) (tb hw 3 rfl) (tb hw 27 rfl) (rN l Z aa hw [] b68_19 b17_4 b23_5 b29_6 v3_1 v8_2 v13_3 _ E_b68_19 F_b68_19_plant F_b68_19_protest F_b68_19_chop V_b17_4 V_b23_5 V_b29_6) at_108 (pc' := 111) rfl (by decide) (by decide) (by decide) rfl rfl rfl (lenOf pd_2 rfl) (Nat.le_refl _) (by decide) (by decide) ?_
              intro v T L X q
              obtain ⟨rfl, X⟩ := pureX X q
              show Go p e below _ (T.setTop (mkF m 111 #[.val (.int i0), .val (.int i1), .val (.int i2), .val (.int i3), .val (.int i4), .val (.int v3_1), .val (.int v8_2), .val (.int v13_3), .val (.ref b17_4), .val (.ref b23_5), .val (.ref b29_6), .val (.ref b68_19), .val (.int (1 : Int32))] [(.int (b2i (fN v3_1 v8_2 v13_3)))]))
              refine g_iload X at_111 (pc' := 113) rfl rfl ?_
              refine g_icN X at_113 (teq (show (b2i (fN v3_1 v8_2 v13_3)) = (1 : Int32) from (by simp [fN, b2i, hc86_20, hc91_21, hc96_22]))).2 (pc' := 116) rfl ?_
              refine g_iconst X (1 : Int32) at_116 (pc' := 117) rfl rfl ?_
              refine g_goto X at_117 (pc' := 121) (by decide) (by decide) ?_
              refine g_ireturnN X (t := .boolean) (by simp) at_121 hret hlk (by decide) (by decide) ?_
              exact ⟨rfl, N⟩
            · skip
              refine g_ifY X at_96 ((if0 _ _).trans (feq hc96_22).2) (pc' := 103) (by decide) (by decide) ?_
              refine g_iconst X (0 : Int32) at_103 (pc' := 104) rfl rfl ?_
              refine g_istore X at_104 (pc' := 106) (Ls' := #[.val (.int i0), .val (.int i1), .val (.int i2), .val (.int i3), .val (.int i4), .val (.int v3_1), .val (.int v8_2), .val (.int v13_3), .val (.ref b17_4), .val (.ref b23_5), .val (.ref b29_6), .val (.ref b68_19), .val (.int (0 : Int32))]) rfl rfl ?_
              refine g_aload X at_106 (pc' := 108) rfl rfl rfl ?_
              refine g_virtual X (W := 0) (a := b68_19) (C := "com/example/understory/understory/games/logger/Choice$Actions") [] [] E_b68_19 (tb hw 23 rfl) (tb hw 24 rfl) (tb hw 26 rfl) (tb hw 25 rfl) (tb hw 3 rfl) (tb hw 27 rfl) (rN l Z aa hw [] b68_19 b17_4 b23_5 b29_6 v3_1 v8_2 v13_3 _ E_b68_19 F_b68_19_plant F_b68_19_protest F_b68_19_chop V_b17_4 V_b23_5 V_b29_6) at_108 (pc' := 111) rfl (by decide) (by decide) (by decide) rfl rfl rfl (lenOf pd_2 rfl) (Nat.le_refl _) (by decide) (by decide) ?_
              intro v T L X q
              obtain ⟨rfl, X⟩ := pureX X q
              show Go p e below _ (T.setTop (mkF m 111 #[.val (.int i0), .val (.int i1), .val (.int i2), .val (.int i3), .val (.int i4), .val (.int v3_1), .val (.int v8_2), .val (.int v13_3), .val (.ref b17_4), .val (.ref b23_5), .val (.ref b29_6), .val (.ref b68_19), .val (.int (0 : Int32))] [(.int (b2i (fN v3_1 v8_2 v13_3)))]))
              refine g_iload X at_111 (pc' := 113) rfl rfl ?_
              refine g_icN X at_113 (teq (show (b2i (fN v3_1 v8_2 v13_3)) = (0 : Int32) from (by simp [fN, b2i, hc86_20, hc91_21, hc96_22]))).2 (pc' := 116) rfl ?_
              refine g_iconst X (1 : Int32) at_116 (pc' := 117) rfl rfl ?_
              refine g_goto X at_117 (pc' := 121) (by decide) (by decide) ?_
              refine g_ireturnN X (t := .boolean) (by simp) at_121 hret hlk (by decide) (by decide) ?_
              exact ⟨rfl, N⟩
          · skip
            refine g_ifY X at_91 ((if0 _ _).trans (feq hc91_21).2) (pc' := 103) (by decide) (by decide) ?_
            refine g_iconst X (0 : Int32) at_103 (pc' := 104) rfl rfl ?_
            refine g_istore X at_104 (pc' := 106) (Ls' := #[.val (.int i0), .val (.int i1), .val (.int i2), .val (.int i3), .val (.int i4), .val (.int v3_1), .val (.int v8_2), .val (.int v13_3), .val (.ref b17_4), .val (.ref b23_5), .val (.ref b29_6), .val (.ref b68_19), .val (.int (0 : Int32))]) rfl rfl ?_
            refine g_aload X at_106 (pc' := 108) rfl rfl rfl ?_
            refine g_virtual X (W := 0) (a := b68_19) (C := "com/example/understory/understory/games/logger/Choice$Actions") [] [] E_b68_19 (tb hw 23 rfl) (tb hw 24 rfl) (tb hw 26 rfl) (tb hw 25 rfl) (tb hw 3 rfl) (tb hw 27 rfl) (rN l Z aa hw [] b68_19 b17_4 b23_5 b29_6 v3_1 v8_2 v13_3 _ E_b68_19 F_b68_19_plant F_b68_19_protest F_b68_19_chop V_b17_4 V_b23_5 V_b29_6) at_108 (pc' := 111) rfl (by decide) (by decide) (by decide) rfl rfl rfl (lenOf pd_2 rfl) (Nat.le_refl _) (by decide) (by decide) ?_
            intro v T L X q
            obtain ⟨rfl, X⟩ := pureX X q
            show Go p e below _ (T.setTop (mkF m 111 #[.val (.int i0), .val (.int i1), .val (.int i2), .val (.int i3), .val (.int i4), .val (.int v3_1), .val (.int v8_2), .val (.int v13_3), .val (.ref b17_4), .val (.ref b23_5), .val (.ref b29_6), .val (.ref b68_19), .val (.int (0 : Int32))] [(.int (b2i (fN v3_1 v8_2 v13_3)))]))
            refine g_iload X at_111 (pc' := 113) rfl rfl ?_
            refine g_icN X at_113 (teq (show (b2i (fN v3_1 v8_2 v13_3)) = (0 : Int32) from (by simp [fN, b2i, hc86_20, hc91_21]))).2 (pc' := 116) rfl ?_
            refine g_iconst X (1 : Int32) at_116 (pc' := 117) rfl rfl ?_
            refine g_goto X at_117 (pc' := 121) (by decide) (by decide) ?_
            refine g_ireturnN X (t := .boolean) (by simp) at_121 hret hlk (by decide) (by decide) ?_
            exact ⟨rfl, N⟩
        · skip
          refine g_ifY X at_86 ((if0 _ _).trans (feq hc86_20).2) (pc' := 103) (by decide) (by decide) ?_
          refine g_iconst X (0 : Int32) at_103 (pc' := 104) rfl rfl ?_
          refine g_istore X at_104 (pc' := 106) (Ls' := #[.val (.int i0), .val (.int i1), .val (.int i2), .val (.int i3), .val (.int i4), .val (.int v3_1), .val (.int v8_2), .val (.int v13_3), .val (.ref b17_4), .val (.ref b23_5), .val (.ref b29_6), .val (.ref b68_19), .val (.int (0 : Int32))]) rfl rfl ?_
          refine g_aload X at_106 (pc' := 108) rfl rfl rfl ?_
          refine g_virtual X (W := 0) (a := b68_19) (C := "com/example/understory/understory/games/logger/Choice$Actions") [] [] E_b68_19 (tb hw 23 rfl) (tb hw 24 rfl) (tb hw 26 rfl) (tb hw 25 rfl) (tb hw 3 rfl) (tb hw 27 rfl) (rN l Z aa hw [] b68_19 b17_4 b23_5 b29_6 v3_1 v8_2 v13_3 _ E_b68_19 F_b68_19_plant F_b68_19_protest F_b68_19_chop V_b17_4 V_b23_5 V_b29_6) at_108 (pc' := 111) rfl (by decide) (by decide) (by decide) rfl rfl rfl (lenOf pd_2 rfl) (Nat.le_refl _) (by decide) (by decide) ?_
          intro v T L X q
          obtain ⟨rfl, X⟩ := pureX X q
          show Go p e below _ (T.setTop (mkF m 111 #[.val (.int i0), .val (.int i1), .val (.int i2), .val (.int i3), .val (.int i4), .val (.int v3_1), .val (.int v8_2), .val (.int v13_3), .val (.ref b17_4), .val (.ref b23_5), .val (.ref b29_6), .val (.ref b68_19), .val (.int (0 : Int32))] [(.int (b2i (fN v3_1 v8_2 v13_3)))]))
          refine g_iload X at_111 (pc' := 113) rfl rfl ?_
          refine g_icN X at_113 (teq (show (b2i (fN v3_1 v8_2 v13_3)) = (0 : Int32) from (by simp [fN, b2i, hc86_20]))).2 (pc' := 116) rfl ?_
          refine g_iconst X (1 : Int32) at_116 (pc' := 117) rfl rfl ?_
          refine g_goto X at_117 (pc' := 121) (by decide) (by decide) ?_
          refine g_ireturnN X (t := .boolean) (by simp) at_121 hret hlk (by decide) (by decide) ?_
          exact ⟨rfl, N⟩
      · skip
        refine g_ifY X at_60 ((if0 _ _).trans (flt hc60_18).2.2.2) (pc' := 68) (by decide) (by decide) ?_
        refine g_new X (tb hw 1 rfl) (tb hw 2 rfl) (tb hw 3 rfl) at_68 (pc' := 71) rfl (by decide) (by decide) ?_
        intro T h b68_23 s_b68_23 X Ex E_b68_23 D_b68_23
        have ne_b17_4_b68_23 : b17_4 ≠ b68_23 := Nat.ne_of_lt (by rw [s_b68_23]; exact E_b17_4.lt)
        have ne_b23_5_b68_23 : b23_5 ≠ b68_23 := Nat.ne_of_lt (by rw [s_b68_23]; exact E_b23_5.lt)
        have ne_b29_6_b68_23 : b29_6 ≠ b68_23 := Nat.ne_of_lt (by rw [s_b68_23]; exact E_b29_6.lt)
        have g_b68_23 : n0 ≤ b68_23 := by rw [s_b68_23]; exact Z0
        replace E_b17_4 := E_b17_4.ext Ex
        replace V_b17_4 := V_b17_4.ext Ex
        replace E_b23_5 := E_b23_5.ext Ex
        replace V_b23_5 := V_b23_5.ext Ex
        replace E_b29_6 := E_b29_6.ext Ex
        replace V_b29_6 := V_b29_6.ext Ex
        replace Z0 := Nat.le_trans Z0 Ex.1
        have F_b68_23_plant : Fld Z h b68_23 "com/example/understory/understory/games/logger/Choice$Actions" "plant" "[I" .null := D_b68_23 (Or.inr (tb hw 16 rfl)) (ty := (.array .int)) (by decide)
        have F_b68_23_protest : Fld Z h b68_23 "com/example/understory/understory/games/logger/Choice$Actions" "protest" "[I" .null := D_b68_23 (Or.inr (tb hw 18 rfl)) (ty := (.array .int)) (by decide)
        have F_b68_23_protesters : Fld Z h b68_23 "com/example/understory/understory/games/logger/Choice$Actions" "protesters" "I" (.int (0 : Int32)) := D_b68_23 (Or.inr (tb hw 20 rfl)) (ty := .int) (by decide)
        have F_b68_23_chop : Fld Z h b68_23 "com/example/understory/understory/games/logger/Choice$Actions" "chop" "[I" .null := D_b68_23 (Or.inr (tb hw 22 rfl)) (ty := (.array .int)) (by decide)
        refine g_dup X at_71 (pc' := 72) rfl rfl ?_
        refine g_aload X at_72 (pc' := 74) rfl rfl rfl ?_
        refine g_aload X at_74 (pc' := 76) rfl rfl rfl ?_
        refine g_iloadN X at_76 (pc' := 77) rfl rfl ?_
        refine g_aload X at_77 (pc' := 79) rfl rfl rfl ?_
        refine g_special X (W := 1) (a := b68_23) [(.ref b17_4), (.ref b23_5), (.int i3), (.ref b29_6)] [(.ref b68_23)] rfl (tb hw 4 rfl) (tb hw 5 rfl) (tb hw 3 rfl) (tb hw 6 rfl) (rInit l Z aa hw [] b68_23 b17_4 b23_5 i3 b29_6 _ n0 Z0 E_b68_23 F_b68_23_plant F_b68_23_protest F_b68_23_protesters F_b68_23_chop g_b68_23) at_79 (pc' := 82) rfl (by decide) (by decide) (by decide) rfl rfl rfl (lenOf pd_1 rfl) (Nat.le_refl _) (by decide) (by decide) ?_
        intro v T L X q
        obtain ⟨rfl, Nq, Kq, E_b68_23', F_b68_23_plant', F_b68_23_protest', F_b68_23_protesters', F_b68_23_chop'⟩ := q
        replace N := N.app Nq
        replace E_b17_4 := E_b17_4.keep Kq
        replace V_b17_4 := V_b17_4.keep Kq (ninS ne_b17_4_b68_23 nin0)
        replace E_b23_5 := E_b23_5.keep Kq
        replace V_b23_5 := V_b23_5.keep Kq (ninS ne_b23_5_b68_23 nin0)
        replace E_b29_6 := E_b29_6.keep Kq
        replace V_b29_6 := V_b29_6.keep Kq (ninS ne_b29_6_b68_23 nin0)
        replace Z0 := Nat.le_trans Z0 Kq.1
        replace E_b68_23 := E_b68_23'
        replace F_b68_23_plant := F_b68_23_plant'
        replace F_b68_23_protest := F_b68_23_protest'
        replace F_b68_23_protesters := F_b68_23_protesters'
        replace F_b68_23_chop := F_b68_23_chop'
        show Go p e below _ (T.setTop (mkF m 82 #[.val (.int i0), .val (.int i1), .val (.int i2), .val (.int i3), .val (.int i4), .val (.int v3_1), .val (.int v8_2), .val (.int v13_3), .val (.ref b17_4), .val (.ref b23_5), .val (.ref b29_6), .unset, .unset] [(.ref b68_23)]))
        refine g_astore X at_82 (pc' := 84) (Ls' := #[.val (.int i0), .val (.int i1), .val (.int i2), .val (.int i3), .val (.int i4), .val (.int v3_1), .val (.int v8_2), .val (.int v13_3), .val (.ref b17_4), .val (.ref b23_5), .val (.ref b29_6), .val (.ref b68_23), .unset]) rfl rfl rfl ?_
        refine g_iload X at_84 (pc' := 86) rfl rfl ?_
        by_cases hc86_24 : v3_1 = (0 : Int32)
        · skip
          refine g_ifN X at_86 ((if0 _ _).trans (teq hc86_24).2) (pc' := 89) rfl ?_
          refine g_iload X at_89 (pc' := 91) rfl rfl ?_
          by_cases hc91_25 : v8_2 = (0 : Int32)
          · skip
            refine g_ifN X at_91 ((if0 _ _).trans (teq hc91_25).2) (pc' := 94) rfl ?_
            refine g_iload X at_94 (pc' := 96) rfl rfl ?_
            by_cases hc96_26 : v13_3 = (0 : Int32)
            · skip
              refine g_ifN X at_96 ((if0 _ _).trans (teq hc96_26).2) (pc' := 99) rfl ?_
              refine g_iconst X (1 : Int32) at_99 (pc' := 100) rfl rfl ?_
              refine g_goto X at_100 (pc' := 104) (by decide) (by decide) ?_
              refine g_istore X at_104 (pc' := 106) (Ls' := #[.val (.int i0), .val (.int i1), .val (.int i2), .val (.int i3), .val (.int i4), .val (.int v3_1), .val (.int v8_2), .val (.int v13_3), .val (.ref b17_4), .val (.ref b23_5), .val (.ref b29_6), .val (.ref b68_23), .val (.int (1 : Int32))]) rfl rfl ?_
              refine g_aload X at_106 (pc' := 108) rfl rfl rfl ?_
              refine g_virtual X (W := 0) (a := b68_23) (C := "com/example/understory/understory/games/logger/Choice$Actions") [] [] E_b68_23 (tb hw 23 rfl) (tb hw 24 rfl) (tb hw 26 rfl) (tb hw 25 rfl) (tb hw 3 rfl) (tb hw 27 rfl) (rN l Z aa hw [] b68_23 b17_4 b23_5 b29_6 v3_1 v8_2 v13_3 _ E_b68_23 F_b68_23_plant F_b68_23_protest F_b68_23_chop V_b17_4 V_b23_5 V_b29_6) at_108 (pc' := 111) rfl (by decide) (by decide) (by decide) rfl rfl rfl (lenOf pd_2 rfl) (Nat.le_refl _) (by decide) (by decide) ?_
              intro v T L X q
              obtain ⟨rfl, X⟩ := pureX X q
              show Go p e below _ (T.setTop (mkF m 111 #[.val (.int i0), .val (.int i1), .val (.int i2), .val (.int i3), .val (.int i4), .val (.int v3_1), .val (.int v8_2), .val (.int v13_3), .val (.ref b17_4), .val (.ref b23_5), .val (.ref b29_6), .val (.ref b68_23), .val (.int (1 : Int32))] [(.int (b2i (fN v3_1 v8_2 v13_3)))]))
              refine g_iload X at_111 (pc' := 113) rfl rfl ?_
              refine g_icN X at_113 (teq (show (b2i (fN v3_1 v8_2 v13_3)) = (1 : Int32) from (by simp [fN, b2i, hc86_24, hc91_25, hc96_26]))).2 (pc' := 116) rfl ?_
              refine g_iconst X (1 : Int32) at_116 (pc' := 117) rfl rfl ?_
              refine g_goto X at_117 (pc' := 121) (by decide) (by decide) ?_
              refine g_ireturnN X (t := .boolean) (by simp) at_121 hret hlk (by decide) (by decide) ?_
              exact ⟨rfl, N⟩
            · skip
              refine g_ifY X at_96 ((if0 _ _).trans (feq hc96_26).2) (pc' := 103) (by decide) (by decide) ?_
              refine g_iconst X (0 : Int32) at_103 (pc' := 104) rfl rfl ?_
              refine g_istore X at_104 (pc' := 106) (Ls' := #[.val (.int i0), .val (.int i1), .val (.int i2), .val (.int i3), .val (.int i4), .val (.int v3_1), .val (.int v8_2), .val (.int v13_3), .val (.ref b17_4), .val (.ref b23_5), .val (.ref b29_6), .val (.ref b68_23), .val (.int (0 : Int32))]) rfl rfl ?_
              refine g_aload X at_106 (pc' := 108) rfl rfl rfl ?_
              refine g_virtual X (W := 0) (a := b68_23) (C := "com/example/understory/understory/games/logger/Choice$Actions") [] [] E_b68_23 (tb hw 23 rfl) (tb hw 24 rfl) (tb hw 26 rfl) (tb hw 25 rfl) (tb hw 3 rfl) (tb hw 27 rfl) (rN l Z aa hw [] b68_23 b17_4 b23_5 b29_6 v3_1 v8_2 v13_3 _ E_b68_23 F_b68_23_plant F_b68_23_protest F_b68_23_chop V_b17_4 V_b23_5 V_b29_6) at_108 (pc' := 111) rfl (by decide) (by decide) (by decide) rfl rfl rfl (lenOf pd_2 rfl) (Nat.le_refl _) (by decide) (by decide) ?_
              intro v T L X q
              obtain ⟨rfl, X⟩ := pureX X q
              show Go p e below _ (T.setTop (mkF m 111 #[.val (.int i0), .val (.int i1), .val (.int i2), .val (.int i3), .val (.int i4), .val (.int v3_1), .val (.int v8_2), .val (.int v13_3), .val (.ref b17_4), .val (.ref b23_5), .val (.ref b29_6), .val (.ref b68_23), .val (.int (0 : Int32))] [(.int (b2i (fN v3_1 v8_2 v13_3)))]))
              refine g_iload X at_111 (pc' := 113) rfl rfl ?_
              refine g_icN X at_113 (teq (show (b2i (fN v3_1 v8_2 v13_3)) = (0 : Int32) from (by simp [fN, b2i, hc86_24, hc91_25, hc96_26]))).2 (pc' := 116) rfl ?_
              refine g_iconst X (1 : Int32) at_116 (pc' := 117) rfl rfl ?_
              refine g_goto X at_117 (pc' := 121) (by decide) (by decide) ?_
              refine g_ireturnN X (t := .boolean) (by simp) at_121 hret hlk (by decide) (by decide) ?_
              exact ⟨rfl, N⟩
          · skip
            refine g_ifY X at_91 ((if0 _ _).trans (feq hc91_25).2) (pc' := 103) (by decide) (by decide) ?_
            refine g_iconst X (0 : Int32) at_103 (pc' := 104) rfl rfl ?_
            refine g_istore X at_104 (pc' := 106) (Ls' := #[.val (.int i0), .val (.int i1), .val (.int i2), .val (.int i3), .val (.int i4), .val (.int v3_1), .val (.int v8_2), .val (.int v13_3), .val (.ref b17_4), .val (.ref b23_5), .val (.ref b29_6), .val (.ref b68_23), .val (.int (0 : Int32))]) rfl rfl ?_
            refine g_aload X at_106 (pc' := 108) rfl rfl rfl ?_
            refine g_virtual X (W := 0) (a := b68_23) (C := "com/example/understory/understory/games/logger/Choice$Actions") [] [] E_b68_23 (tb hw 23 rfl) (tb hw 24 rfl) (tb hw 26 rfl) (tb hw 25 rfl) (tb hw 3 rfl) (tb hw 27 rfl) (rN l Z aa hw [] b68_23 b17_4 b23_5 b29_6 v3_1 v8_2 v13_3 _ E_b68_23 F_b68_23_plant F_b68_23_protest F_b68_23_chop V_b17_4 V_b23_5 V_b29_6) at_108 (pc' := 111) rfl (by decide) (by decide) (by decide) rfl rfl rfl (lenOf pd_2 rfl) (Nat.le_refl _) (by decide) (by decide) ?_
            intro v T L X q
            obtain ⟨rfl, X⟩ := pureX X q
            show Go p e below _ (T.setTop (mkF m 111 #[.val (.int i0), .val (.int i1), .val (.int i2), .val (.int i3), .val (.int i4), .val (.int v3_1), .val (.int v8_2), .val (.int v13_3), .val (.ref b17_4), .val (.ref b23_5), .val (.ref b29_6), .val (.ref b68_23), .val (.int (0 : Int32))] [(.int (b2i (fN v3_1 v8_2 v13_3)))]))
            refine g_iload X at_111 (pc' := 113) rfl rfl ?_
            refine g_icN X at_113 (teq (show (b2i (fN v3_1 v8_2 v13_3)) = (0 : Int32) from (by simp [fN, b2i, hc86_24, hc91_25]))).2 (pc' := 116) rfl ?_
            refine g_iconst X (1 : Int32) at_116 (pc' := 117) rfl rfl ?_
            refine g_goto X at_117 (pc' := 121) (by decide) (by decide) ?_
            refine g_ireturnN X (t := .boolean) (by simp) at_121 hret hlk (by decide) (by decide) ?_
            exact ⟨rfl, N⟩
        · skip
          refine g_ifY X at_86 ((if0 _ _).trans (feq hc86_24).2) (pc' := 103) (by decide) (by decide) ?_
          refine g_iconst X (0 : Int32) at_103 (pc' := 104) rfl rfl ?_
          refine g_istore X at_104 (pc' := 106) (Ls' := #[.val (.int i0), .val (.int i1), .val (.int i2), .val (.int i3), .val (.int i4), .val (.int v3_1), .val (.int v8_2), .val (.int v13_3), .val (.ref b17_4), .val (.ref b23_5), .val (.ref b29_6), .val (.ref b68_23), .val (.int (0 : Int32))]) rfl rfl ?_
          refine g_aload X at_106 (pc' := 108) rfl rfl rfl ?_
          refine g_virtual X (W := 0) (a := b68_23) (C := "com/example/understory/understory/games/logger/Choice$Actions") [] [] E_b68_23 (tb hw 23 rfl) (tb hw 24 rfl) (tb hw 26 rfl) (tb hw 25 rfl) (tb hw 3 rfl) (tb hw 27 rfl) (rN l Z aa hw [] b68_23 b17_4 b23_5 b29_6 v3_1 v8_2 v13_3 _ E_b68_23 F_b68_23_plant F_b68_23_protest F_b68_23_chop V_b17_4 V_b23_5 V_b29_6) at_108 (pc' := 111) rfl (by decide) (by decide) (by decide) rfl rfl rfl (lenOf pd_2 rfl) (Nat.le_refl _) (by decide) (by decide) ?_
          intro v T L X q
          obtain ⟨rfl, X⟩ := pureX X q
          show Go p e below _ (T.setTop (mkF m 111 #[.val (.int i0), .val (.int i1), .val (.int i2), .val (.int i3), .val (.int i4), .val (.int v3_1), .val (.int v8_2), .val (.int v13_3), .val (.ref b17_4), .val (.ref b23_5), .val (.ref b29_6), .val (.ref b68_23), .val (.int (0 : Int32))] [(.int (b2i (fN v3_1 v8_2 v13_3)))]))
          refine g_iload X at_111 (pc' := 113) rfl rfl ?_
          refine g_icN X at_113 (teq (show (b2i (fN v3_1 v8_2 v13_3)) = (0 : Int32) from (by simp [fN, b2i, hc86_24]))).2 (pc' := 116) rfl ?_
          refine g_iconst X (1 : Int32) at_116 (pc' := 117) rfl rfl ?_
          refine g_goto X at_117 (pc' := 121) (by decide) (by decide) ?_
          refine g_ireturnN X (t := .boolean) (by simp) at_121 hret hlk (by decide) (by decide) ?_
          exact ⟨rfl, N⟩
  · skip
    refine g_ifY X at_35 ((if0 _ _).trans (flt hc35_7).2.2.2) (pc' := 44) (by decide) (by decide) ?_
    refine g_iload X at_44 (pc' := 46) rfl rfl ?_
    by_cases hc46_27 : (0 : Int32) < v8_2
    · skip
      refine g_ifN X at_46 ((if0 _ _).trans (tlt hc46_27).2.2.2) (pc' := 49) rfl ?_
      refine g_aload X at_49 (pc' := 51) rfl rfl rfl ?_
      refine g_iload X at_51 (pc' := 53) rfl rfl ?_
      refine g_iconst X (1 : Int32) at_53 (pc' := 54) rfl rfl ?_
      refine g_isub X at_54 (pc' := 55) rfl ?_
      refine g_iload X at_55 (pc' := 57) rfl rfl ?_
      refine g_iastoreN X V_b23_5 at_57 (pc' := 58) rfl (less1 hc46_27).1 (less1 hc46_27).2 ?_
      intro T h X W V_b23_5
      replace E_b17_4 := E_b17_4.wr W
      replace V_b17_4 := V_b17_4.other W ne_b17_4_b23_5
      replace E_b23_5 := E_b23_5.wr W
      replace E_b29_6 := E_b29_6.wr W
      replace V_b29_6 := V_b29_6.other W (Ne.symm ne_b23_5_b29_6)
      replace Z0 := Nat.le_trans Z0 (Nat.le_of_eq W.size.symm)
      replace N := Fr.snoc X.1 N g_b23_5
      refine g_iload X at_58 (pc' := 60) rfl rfl ?_
      by_cases hc60_28 : (0 : Int32) < v13_3
      · skip
        refine g_ifN X at_60 ((if0 _ _).trans (tlt hc60_28).2.2.2) (pc' := 63) rfl ?_
        refine g_aload X at_63 (pc' := 65) rfl rfl rfl ?_
        refine g_iconst X (0 : Int32) at_65 (pc' := 66) rfl rfl ?_
        refine g_iloadN X at_66 (pc' := 67) rfl rfl ?_
        refine g_iastoreN X V_b29_6 at_67 (pc' := 68) rfl (by decide) hc60_28 ?_
        intro T h X W V_b29_6
        replace E_b17_4 := E_b17_4.wr W
        replace V_b17_4 := V_b17_4.other W ne_b17_4_b29_6
        replace E_b23_5 := E_b23_5.wr W
        replace V_b23_5 := V_b23_5.other W ne_b23_5_b29_6
        replace E_b29_6 := E_b29_6.wr W
        replace Z0 := Nat.le_trans Z0 (Nat.le_of_eq W.size.symm)
        replace N := Fr.snoc X.1 N g_b29_6
        refine g_new X (tb hw 1 rfl) (tb hw 2 rfl) (tb hw 3 rfl) at_68 (pc' := 71) rfl (by decide) (by decide) ?_
        intro T h b68_29 s_b68_29 X Ex E_b68_29 D_b68_29
        have ne_b17_4_b68_29 : b17_4 ≠ b68_29 := Nat.ne_of_lt (by rw [s_b68_29]; exact E_b17_4.lt)
        have ne_b23_5_b68_29 : b23_5 ≠ b68_29 := Nat.ne_of_lt (by rw [s_b68_29]; exact E_b23_5.lt)
        have ne_b29_6_b68_29 : b29_6 ≠ b68_29 := Nat.ne_of_lt (by rw [s_b68_29]; exact E_b29_6.lt)
        have g_b68_29 : n0 ≤ b68_29 := by rw [s_b68_29]; exact Z0
        replace E_b17_4 := E_b17_4.ext Ex
        replace V_b17_4 := V_b17_4.ext Ex
        replace E_b23_5 := E_b23_5.ext Ex
        replace V_b23_5 := V_b23_5.ext Ex
        replace E_b29_6 := E_b29_6.ext Ex
        replace V_b29_6 := V_b29_6.ext Ex
        replace Z0 := Nat.le_trans Z0 Ex.1
        have F_b68_29_plant : Fld Z h b68_29 "com/example/understory/understory/games/logger/Choice$Actions" "plant" "[I" .null := D_b68_29 (Or.inr (tb hw 16 rfl)) (ty := (.array .int)) (by decide)
        have F_b68_29_protest : Fld Z h b68_29 "com/example/understory/understory/games/logger/Choice$Actions" "protest" "[I" .null := D_b68_29 (Or.inr (tb hw 18 rfl)) (ty := (.array .int)) (by decide)
        have F_b68_29_protesters : Fld Z h b68_29 "com/example/understory/understory/games/logger/Choice$Actions" "protesters" "I" (.int (0 : Int32)) := D_b68_29 (Or.inr (tb hw 20 rfl)) (ty := .int) (by decide)
        have F_b68_29_chop : Fld Z h b68_29 "com/example/understory/understory/games/logger/Choice$Actions" "chop" "[I" .null := D_b68_29 (Or.inr (tb hw 22 rfl)) (ty := (.array .int)) (by decide)
        refine g_dup X at_71 (pc' := 72) rfl rfl ?_
        refine g_aload X at_72 (pc' := 74) rfl rfl rfl ?_
        refine g_aload X at_74 (pc' := 76) rfl rfl rfl ?_
        refine g_iloadN X at_76 (pc' := 77) rfl rfl ?_
        refine g_aload X at_77 (pc' := 79) rfl rfl rfl ?_
        refine g_special X (W := 1) (a := b68_29) [(.ref b17_4), (.ref b23_5), (.int i3), (.ref b29_6)] [(.ref b68_29)] rfl (tb hw 4 rfl) (tb hw 5 rfl) (tb hw 3 rfl) (tb hw 6 rfl) (rInit l Z aa hw [] b68_29 b17_4 b23_5 i3 b29_6 _ n0 Z0 E_b68_29 F_b68_29_plant F_b68_29_protest F_b68_29_protesters F_b68_29_chop g_b68_29) at_79 (pc' := 82) rfl (by decide) (by decide) (by decide) rfl rfl rfl (lenOf pd_1 rfl) (Nat.le_refl _) (by decide) (by decide) ?_
        intro v T L X q
        obtain ⟨rfl, Nq, Kq, E_b68_29', F_b68_29_plant', F_b68_29_protest', F_b68_29_protesters', F_b68_29_chop'⟩ := q
        replace N := N.app Nq
        replace E_b17_4 := E_b17_4.keep Kq
        replace V_b17_4 := V_b17_4.keep Kq (ninS ne_b17_4_b68_29 nin0)
        replace E_b23_5 := E_b23_5.keep Kq
        replace V_b23_5 := V_b23_5.keep Kq (ninS ne_b23_5_b68_29 nin0)
        replace E_b29_6 := E_b29_6.keep Kq
        replace V_b29_6 := V_b29_6.keep Kq (ninS ne_b29_6_b68_29 nin0)
        replace Z0 := Nat.le_trans Z0 Kq.1
        replace E_b68_29 := E_b68_29'
        replace F_b68_29_plant := F_b68_29_plant'
        replace F_b68_29_protest := F_b68_29_protest'
        replace F_b68_29_protesters := F_b68_29_protesters'
        replace F_b68_29_chop := F_b68_29_chop'
        show Go p e below _ (T.setTop (mkF m 82 #[.val (.int i0), .val (.int i1), .val (.int i2), .val (.int i3), .val (.int i4), .val (.int v3_1), .val (.int v8_2), .val (.int v13_3), .val (.ref b17_4), .val (.ref b23_5), .val (.ref b29_6), .unset, .unset] [(.ref b68_29)]))
        refine g_astore X at_82 (pc' := 84) (Ls' := #[.val (.int i0), .val (.int i1), .val (.int i2), .val (.int i3), .val (.int i4), .val (.int v3_1), .val (.int v8_2), .val (.int v13_3), .val (.ref b17_4), .val (.ref b23_5), .val (.ref b29_6), .val (.ref b68_29), .unset]) rfl rfl rfl ?_
        refine g_iload X at_84 (pc' := 86) rfl rfl ?_
        by_cases hc86_30 : v3_1 = (0 : Int32)
        · skip
          refine g_ifN X at_86 ((if0 _ _).trans (teq hc86_30).2) (pc' := 89) rfl ?_
          refine g_iload X at_89 (pc' := 91) rfl rfl ?_
          by_cases hc91_31 : v8_2 = (0 : Int32)
          · skip
            refine g_ifN X at_91 ((if0 _ _).trans (teq hc91_31).2) (pc' := 94) rfl ?_
            refine g_iload X at_94 (pc' := 96) rfl rfl ?_
            by_cases hc96_32 : v13_3 = (0 : Int32)
            · skip
              refine g_ifN X at_96 ((if0 _ _).trans (teq hc96_32).2) (pc' := 99) rfl ?_
              refine g_iconst X (1 : Int32) at_99 (pc' := 100) rfl rfl ?_
              refine g_goto X at_100 (pc' := 104) (by decide) (by decide) ?_
              refine g_istore X at_104 (pc' := 106) (Ls' := #[.val (.int i0), .val (.int i1), .val (.int i2), .val (.int i3), .val (.int i4), .val (.int v3_1), .val (.int v8_2), .val (.int v13_3), .val (.ref b17_4), .val (.ref b23_5), .val (.ref b29_6), .val (.ref b68_29), .val (.int (1 : Int32))]) rfl rfl ?_
              refine g_aload X at_106 (pc' := 108) rfl rfl rfl ?_
              refine g_virtual X (W := 0) (a := b68_29) (C := "com/example/understory/understory/games/logger/Choice$Actions") [] [] E_b68_29 (tb hw 23 rfl) (tb hw 24 rfl) (tb hw 26 rfl) (tb hw 25 rfl) (tb hw 3 rfl) (tb hw 27 rfl) (rN l Z aa hw [] b68_29 b17_4 b23_5 b29_6 v3_1 v8_2 v13_3 _ E_b68_29 F_b68_29_plant F_b68_29_protest F_b68_29_chop V_b17_4 V_b23_5 V_b29_6) at_108 (pc' := 111) rfl (by decide) (by decide) (by decide) rfl rfl rfl (lenOf pd_2 rfl) (Nat.le_refl _) (by decide) (by decide) ?_
              intro v T L X q
              obtain ⟨rfl, X⟩ := pureX X q
              show Go p e below _ (T.setTop (mkF m 111 #[.val (.int i0), .val (.int i1), .val (.int i2), .val (.int i3), .val (.int i4), .val (.int v3_1), .val (.int v8_2), .val (.int v13_3), .val (.ref b17_4), .val (.ref b23_5), .val (.ref b29_6), .val (.ref b68_29), .val (.int (1 : Int32))] [(.int (b2i (fN v3_1 v8_2 v13_3)))]))
              refine g_iload X at_111 (pc' := 113) rfl rfl ?_
              refine g_icN X at_113 (teq (show (b2i (fN v3_1 v8_2 v13_3)) = (1 : Int32) from (by simp [fN, b2i, hc86_30, hc91_31, hc96_32]))).2 (pc' := 116) rfl ?_
              refine g_iconst X (1 : Int32) at_116 (pc' := 117) rfl rfl ?_
              refine g_goto X at_117 (pc' := 121) (by decide) (by decide) ?_
              refine g_ireturnN X (t := .boolean) (by simp) at_121 hret hlk (by decide) (by decide) ?_
              exact ⟨rfl, N⟩
            · skip
              refine g_ifY X at_96 ((if0 _ _).trans (feq hc96_32).2) (pc' := 103) (by decide) (by decide) ?_
              refine g_iconst X (0 : Int32) at_103 (pc' := 104) rfl rfl ?_
              refine g_istore X at_104 (pc' := 106) (Ls' := #[.val (.int i0), .val (.int i1), .val (.int i2), .val (.int i3), .val (.int i4), .val (.int v3_1), .val (.int v8_2), .val (.int v13_3), .val (.ref b17_4), .val (.ref b23_5), .val (.ref b29_6), .val (.ref b68_29), .val (.int (0 : Int32))]) rfl rfl ?_
              refine g_aload X at_106 (pc' := 108) rfl rfl rfl ?_
              refine g_virtual X (W := 0) (a := b68_29) (C := "com/example/understory/understory/games/logger/Choice$Actions") [] [] E_b68_29 (tb hw 23 rfl) (tb hw 24 rfl) (tb hw 26 rfl) (tb hw 25 rfl) (tb hw 3 rfl) (tb hw 27 rfl) (rN l Z aa hw [] b68_29 b17_4 b23_5 b29_6 v3_1 v8_2 v13_3 _ E_b68_29 F_b68_29_plant F_b68_29_protest F_b68_29_chop V_b17_4 V_b23_5 V_b29_6) at_108 (pc' := 111) rfl (by decide) (by decide) (by decide) rfl rfl rfl (lenOf pd_2 rfl) (Nat.le_refl _) (by decide) (by decide) ?_
              intro v T L X q
              obtain ⟨rfl, X⟩ := pureX X q
              show Go p e below _ (T.setTop (mkF m 111 #[.val (.int i0), .val (.int i1), .val (.int i2), .val (.int i3), .val (.int i4), .val (.int v3_1), .val (.int v8_2), .val (.int v13_3), .val (.ref b17_4), .val (.ref b23_5), .val (.ref b29_6), .val (.ref b68_29), .val (.int (0 : Int32))] [(.int (b2i (fN v3_1 v8_2 v13_3)))]))
              refine g_iload X at_111 (pc' := 113) rfl rfl ?_
              refine g_icN X at_113 (teq (show (b2i (fN v3_1 v8_2 v13_3)) = (0 : Int32) from (by simp [fN, b2i, hc86_30, hc91_31, hc96_32]))).2 (pc' := 116) rfl ?_
              refine g_iconst X (1 : Int32) at_116 (pc' := 117) rfl rfl ?_
              refine g_goto X at_117 (pc' := 121) (by decide) (by decide) ?_
              refine g_ireturnN X (t := .boolean) (by simp) at_121 hret hlk (by decide) (by decide) ?_
              exact ⟨rfl, N⟩
          · skip
            refine g_ifY X at_91 ((if0 _ _).trans (feq hc91_31).2) (pc' := 103) (by decide) (by decide) ?_
            refine g_iconst X (0 : Int32) at_103 (pc' := 104) rfl rfl ?_
            refine g_istore X at_104 (pc' := 106) (Ls' := #[.val (.int i0), .val (.int i1), .val (.int i2), .val (.int i3), .val (.int i4), .val (.int v3_1), .val (.int v8_2), .val (.int v13_3), .val (.ref b17_4), .val (.ref b23_5), .val (.ref b29_6), .val (.ref b68_29), .val (.int (0 : Int32))]) rfl rfl ?_
            refine g_aload X at_106 (pc' := 108) rfl rfl rfl ?_
            refine g_virtual X (W := 0) (a := b68_29) (C := "com/example/understory/understory/games/logger/Choice$Actions") [] [] E_b68_29 (tb hw 23 rfl) (tb hw 24 rfl) (tb hw 26 rfl) (tb hw 25 rfl) (tb hw 3 rfl) (tb hw 27 rfl) (rN l Z aa hw [] b68_29 b17_4 b23_5 b29_6 v3_1 v8_2 v13_3 _ E_b68_29 F_b68_29_plant F_b68_29_protest F_b68_29_chop V_b17_4 V_b23_5 V_b29_6) at_108 (pc' := 111) rfl (by decide) (by decide) (by decide) rfl rfl rfl (lenOf pd_2 rfl) (Nat.le_refl _) (by decide) (by decide) ?_
            intro v T L X q
            obtain ⟨rfl, X⟩ := pureX X q
            show Go p e below _ (T.setTop (mkF m 111 #[.val (.int i0), .val (.int i1), .val (.int i2), .val (.int i3), .val (.int i4), .val (.int v3_1), .val (.int v8_2), .val (.int v13_3), .val (.ref b17_4), .val (.ref b23_5), .val (.ref b29_6), .val (.ref b68_29), .val (.int (0 : Int32))] [(.int (b2i (fN v3_1 v8_2 v13_3)))]))
            refine g_iload X at_111 (pc' := 113) rfl rfl ?_
            refine g_icN X at_113 (teq (show (b2i (fN v3_1 v8_2 v13_3)) = (0 : Int32) from (by simp [fN, b2i, hc86_30, hc91_31]))).2 (pc' := 116) rfl ?_
            refine g_iconst X (1 : Int32) at_116 (pc' := 117) rfl rfl ?_
            refine g_goto X at_117 (pc' := 121) (by decide) (by decide) ?_
            refine g_ireturnN X (t := .boolean) (by simp) at_121 hret hlk (by decide) (by decide) ?_
            exact ⟨rfl, N⟩
        · skip
          refine g_ifY X at_86 ((if0 _ _).trans (feq hc86_30).2) (pc' := 103) (by decide) (by decide) ?_
          refine g_iconst X (0 : Int32) at_103 (pc' := 104) rfl rfl ?_
          refine g_istore X at_104 (pc' := 106) (Ls' := #[.val (.int i0), .val (.int i1), .val (.int i2), .val (.int i3), .val (.int i4), .val (.int v3_1), .val (.int v8_2), .val (.int v13_3), .val (.ref b17_4), .val (.ref b23_5), .val (.ref b29_6), .val (.ref b68_29), .val (.int (0 : Int32))]) rfl rfl ?_
          refine g_aload X at_106 (pc' := 108) rfl rfl rfl ?_
          refine g_virtual X (W := 0) (a := b68_29) (C := "com/example/understory/understory/games/logger/Choice$Actions") [] [] E_b68_29 (tb hw 23 rfl) (tb hw 24 rfl) (tb hw 26 rfl) (tb hw 25 rfl) (tb hw 3 rfl) (tb hw 27 rfl) (rN l Z aa hw [] b68_29 b17_4 b23_5 b29_6 v3_1 v8_2 v13_3 _ E_b68_29 F_b68_29_plant F_b68_29_protest F_b68_29_chop V_b17_4 V_b23_5 V_b29_6) at_108 (pc' := 111) rfl (by decide) (by decide) (by decide) rfl rfl rfl (lenOf pd_2 rfl) (Nat.le_refl _) (by decide) (by decide) ?_
          intro v T L X q
          obtain ⟨rfl, X⟩ := pureX X q
          show Go p e below _ (T.setTop (mkF m 111 #[.val (.int i0), .val (.int i1), .val (.int i2), .val (.int i3), .val (.int i4), .val (.int v3_1), .val (.int v8_2), .val (.int v13_3), .val (.ref b17_4), .val (.ref b23_5), .val (.ref b29_6), .val (.ref b68_29), .val (.int (0 : Int32))] [(.int (b2i (fN v3_1 v8_2 v13_3)))]))
          refine g_iload X at_111 (pc' := 113) rfl rfl ?_
          refine g_icN X at_113 (teq (show (b2i (fN v3_1 v8_2 v13_3)) = (0 : Int32) from (by simp [fN, b2i, hc86_30]))).2 (pc' := 116) rfl ?_
          refine g_iconst X (1 : Int32) at_116 (pc' := 117) rfl rfl ?_
          refine g_goto X at_117 (pc' := 121) (by decide) (by decide) ?_
          refine g_ireturnN X (t := .boolean) (by simp) at_121 hret hlk (by decide) (by decide) ?_
          exact ⟨rfl, N⟩
      · skip
        refine g_ifY X at_60 ((if0 _ _).trans (flt hc60_28).2.2.2) (pc' := 68) (by decide) (by decide) ?_
        refine g_new X (tb hw 1 rfl) (tb hw 2 rfl) (tb hw 3 rfl) at_68 (pc' := 71) rfl (by decide) (by decide) ?_
        intro T h b68_33 s_b68_33 X Ex E_b68_33 D_b68_33
        have ne_b17_4_b68_33 : b17_4 ≠ b68_33 := Nat.ne_of_lt (by rw [s_b68_33]; exact E_b17_4.lt)
        have ne_b23_5_b68_33 : b23_5 ≠ b68_33 := Nat.ne_of_lt (by rw [s_b68_33]; exact E_b23_5.lt)
        have ne_b29_6_b68_33 : b29_6 ≠ b68_33 := Nat.ne_of_lt (by rw [s_b68_33]; exact E_b29_6.lt)
        have g_b68_33 : n0 ≤ b68_33 := by rw [s_b68_33]; exact Z0
        replace E_b17_4 := E_b17_4.ext Ex
        replace V_b17_4 := V_b17_4.ext Ex
        replace E_b23_5 := E_b23_5.ext Ex
        replace V_b23_5 := V_b23_5.ext Ex
        replace E_b29_6 := E_b29_6.ext Ex
        replace V_b29_6 := V_b29_6.ext Ex
        replace Z0 := Nat.le_trans Z0 Ex.1
        have F_b68_33_plant : Fld Z h b68_33 "com/example/understory/understory/games/logger/Choice$Actions" "plant" "[I" .null := D_b68_33 (Or.inr (tb hw 16 rfl)) (ty := (.array .int)) (by decide)
        have F_b68_33_protest : Fld Z h b68_33 "com/example/understory/understory/games/logger/Choice$Actions" "protest" "[I" .null := D_b68_33 (Or.inr (tb hw 18 rfl)) (ty := (.array .int)) (by decide)
        have F_b68_33_protesters : Fld Z h b68_33 "com/example/understory/understory/games/logger/Choice$Actions" "protesters" "I" (.int (0 : Int32)) := D_b68_33 (Or.inr (tb hw 20 rfl)) (ty := .int) (by decide)
        have F_b68_33_chop : Fld Z h b68_33 "com/example/understory/understory/games/logger/Choice$Actions" "chop" "[I" .null := D_b68_33 (Or.inr (tb hw 22 rfl)) (ty := (.array .int)) (by decide)
        refine g_dup X at_71 (pc' := 72) rfl rfl ?_
        refine g_aload X at_72 (pc' := 74) rfl rfl rfl ?_
        refine g_aload X at_74 (pc' := 76) rfl rfl rfl ?_
        refine g_iloadN X at_76 (pc' := 77) rfl rfl ?_
        refine g_aload X at_77 (pc' := 79) rfl rfl rfl ?_
        refine g_special X (W := 1) (a := b68_33) [(.ref b17_4), (.ref b23_5), (.int i3), (.ref b29_6)] [(.ref b68_33)] rfl (tb hw 4 rfl) (tb hw 5 rfl) (tb hw 3 rfl) (tb hw 6 rfl) (rInit l Z aa hw [] b68_33 b17_4 b23_5 i3 b29_6 _ n0 Z0 E_b68_33 F_b68_33_plant F_b68_33_protest F_b68_33_protesters F_b68_33_chop g_b68_33) at_79 (pc' := 82) rfl (by decide) (by decide) (by decide) rfl rfl rfl (lenOf pd_1 rfl) (Nat.le_refl _) (by decide) (by decide) ?_
        intro v T L X q
        obtain ⟨rfl, Nq, Kq, E_b68_33', F_b68_33_plant', F_b68_33_protest', F_b68_33_protesters', F_b68_33_chop'⟩ := q
        replace N := N.app Nq
        replace E_b17_4 := E_b17_4.keep Kq
        replace V_b17_4 := V_b17_4.keep Kq (ninS ne_b17_4_b68_33 nin0)
        replace E_b23_5 := E_b23_5.keep Kq
        replace V_b23_5 := V_b23_5.keep Kq (ninS ne_b23_5_b68_33 nin0)
        replace E_b29_6 := E_b29_6.keep Kq
        replace V_b29_6 := V_b29_6.keep Kq (ninS ne_b29_6_b68_33 nin0)
        replace Z0 := Nat.le_trans Z0 Kq.1
        replace E_b68_33 := E_b68_33'
        replace F_b68_33_plant := F_b68_33_plant'
        replace F_b68_33_protest := F_b68_33_protest'
        replace F_b68_33_protesters := F_b68_33_protesters'
        replace F_b68_33_chop := F_b68_33_chop'
        show Go p e below _ (T.setTop (mkF m 82 #[.val (.int i0), .val (.int i1), .val (.int i2), .val (.int i3), .val (.int i4), .val (.int v3_1), .val (.int v8_2), .val (.int v13_3), .val (.ref b17_4), .val (.ref b23_5), .val (.ref b29_6), .unset, .unset] [(.ref b68_33)]))
        refine g_astore X at_82 (pc' := 84) (Ls' := #[.val (.int i0), .val (.int i1), .val (.int i2), .val (.int i3), .val (.int i4), .val (.int v3_1), .val (.int v8_2), .val (.int v13_3), .val (.ref b17_4), .val (.ref b23_5), .val (.ref b29_6), .val (.ref b68_33), .unset]) rfl rfl rfl ?_
        refine g_iload X at_84 (pc' := 86) rfl rfl ?_
        by_cases hc86_34 : v3_1 = (0 : Int32)
        · skip
          refine g_ifN X at_86 ((if0 _ _).trans (teq hc86_34).2) (pc' := 89) rfl ?_
          refine g_iload X at_89 (pc' := 91) rfl rfl ?_
          by_cases hc91_35 : v8_2 = (0 : Int32)
          · skip
            refine g_ifN X at_91 ((if0 _ _).trans (teq hc91_35).2) (pc' := 94) rfl ?_
            refine g_iload X at_94 (pc' := 96) rfl rfl ?_
            by_cases hc96_36 : v13_3 = (0 : Int32)
            · skip
              refine g_ifN X at_96 ((if0 _ _).trans (teq hc96_36).2) (pc' := 99) rfl ?_
              refine g_iconst X (1 : Int32) at_99 (pc' := 100) rfl rfl ?_
              refine g_goto X at_100 (pc' := 104) (by decide) (by decide) ?_
              refine g_istore X at_104 (pc' := 106) (Ls' := #[.val (.int i0), .val (.int i1), .val (.int i2), .val (.int i3), .val (.int i4), .val (.int v3_1), .val (.int v8_2), .val (.int v13_3), .val (.ref b17_4), .val (.ref b23_5), .val (.ref b29_6), .val (.ref b68_33), .val (.int (1 : Int32))]) rfl rfl ?_
              refine g_aload X at_106 (pc' := 108) rfl rfl rfl ?_
              refine g_virtual X (W := 0) (a := b68_33) (C := "com/example/understory/understory/games/logger/Choice$Actions") [] [] E_b68_33 (tb hw 23 rfl) (tb hw 24 rfl) (tb hw 26 rfl) (tb hw 25 rfl) (tb hw 3 rfl) (tb hw 27 rfl) (rN l Z aa hw [] b68_33 b17_4 b23_5 b29_6 v3_1 v8_2 v13_3 _ E_b68_33 F_b68_33_plant F_b68_33_protest F_b68_33_chop V_b17_4 V_b23_5 V_b29_6) at_108 (pc' := 111) rfl (by decide) (by decide) (by decide) rfl rfl rfl (lenOf pd_2 rfl) (Nat.le_refl _) (by decide) (by decide) ?_
              intro v T L X q
              obtain ⟨rfl, X⟩ := pureX X q
              show Go p e below _ (T.setTop (mkF m 111 #[.val (.int i0), .val (.int i1), .val (.int i2), .val (.int i3), .val (.int i4), .val (.int v3_1), .val (.int v8_2), .val (.int v13_3), .val (.ref b17_4), .val (.ref b23_5), .val (.ref b29_6), .val (.ref b68_33), .val (.int (1 : Int32))] [(.int (b2i (fN v3_1 v8_2 v13_3)))]))
              refine g_iload X at_111 (pc' := 113) rfl rfl ?_
              refine g_icN X at_113 (teq (show (b2i (fN v3_1 v8_2 v13_3)) = (1 : Int32) from (by simp [fN, b2i, hc86_34, hc91_35, hc96_36]))).2 (pc' := 116) rfl ?_
              refine g_iconst X (1 : Int32) at_116 (pc' := 117) rfl rfl ?_
              refine g_goto X at_117 (pc' := 121) (by decide) (by decide) ?_
              refine g_ireturnN X (t := .boolean) (by simp) at_121 hret hlk (by decide) (by decide) ?_
              exact ⟨rfl, N⟩
            · skip
              refine g_ifY X at_96 ((if0 _ _).trans (feq hc96_36).2) (pc' := 103) (by decide) (by decide) ?_
              refine g_iconst X (0 : Int32) at_103 (pc' := 104) rfl rfl ?_
              refine g_istore X at_104 (pc' := 106) (Ls' := #[.val (.int i0), .val (.int i1), .val (.int i2), .val (.int i3), .val (.int i4), .val (.int v3_1), .val (.int v8_2), .val (.int v13_3), .val (.ref b17_4), .val (.ref b23_5), .val (.ref b29_6), .val (.ref b68_33), .val (.int (0 : Int32))]) rfl rfl ?_
              refine g_aload X at_106 (pc' := 108) rfl rfl rfl ?_
              refine g_virtual X (W := 0) (a := b68_33) (C := "com/example/understory/understory/games/logger/Choice$Actions") [] [] E_b68_33 (tb hw 23 rfl) (tb hw 24 rfl) (tb hw 26 rfl) (tb hw 25 rfl) (tb hw 3 rfl) (tb hw 27 rfl) (rN l Z aa hw [] b68_33 b17_4 b23_5 b29_6 v3_1 v8_2 v13_3 _ E_b68_33 F_b68_33_plant F_b68_33_protest F_b68_33_chop V_b17_4 V_b23_5 V_b29_6) at_108 (pc' := 111) rfl (by decide) (by decide) (by decide) rfl rfl rfl (lenOf pd_2 rfl) (Nat.le_refl _) (by decide) (by decide) ?_
              intro v T L X q
              obtain ⟨rfl, X⟩ := pureX X q
              show Go p e below _ (T.setTop (mkF m 111 #[.val (.int i0), .val (.int i1), .val (.int i2), .val (.int i3), .val (.int i4), .val (.int v3_1), .val (.int v8_2), .val (.int v13_3), .val (.ref b17_4), .val (.ref b23_5), .val (.ref b29_6), .val (.ref b68_33), .val (.int (0 : Int32))] [(.int (b2i (fN v3_1 v8_2 v13_3)))]))
              refine g_iload X at_111 (pc' := 113) rfl rfl ?_
              refine g_icN X at_113 (teq (show (b2i (fN v3_1 v8_2 v13_3)) = (0 : Int32) from (by simp [fN, b2i, hc86_34, hc91_35, hc96_36]))).2 (pc' := 116) rfl ?_
              refine g_iconst X (1 : Int32) at_116 (pc' := 117) rfl rfl ?_
              refine g_goto X at_117 (pc' := 121) (by decide) (by decide) ?_
              refine g_ireturnN X (t := .boolean) (by simp) at_121 hret hlk (by decide) (by decide) ?_
              exact ⟨rfl, N⟩
          · skip
            refine g_ifY X at_91 ((if0 _ _).trans (feq hc91_35).2) (pc' := 103) (by decide) (by decide) ?_
            refine g_iconst X (0 : Int32) at_103 (pc' := 104) rfl rfl ?_
            refine g_istore X at_104 (pc' := 106) (Ls' := #[.val (.int i0), .val (.int i1), .val (.int i2), .val (.int i3), .val (.int i4), .val (.int v3_1), .val (.int v8_2), .val (.int v13_3), .val (.ref b17_4), .val (.ref b23_5), .val (.ref b29_6), .val (.ref b68_33), .val (.int (0 : Int32))]) rfl rfl ?_
            refine g_aload X at_106 (pc' := 108) rfl rfl rfl ?_
            refine g_virtual X (W := 0) (a := b68_33) (C := "com/example/understory/understory/games/logger/Choice$Actions") [] [] E_b68_33 (tb hw 23 rfl) (tb hw 24 rfl) (tb hw 26 rfl) (tb hw 25 rfl) (tb hw 3 rfl) (tb hw 27 rfl) (rN l Z aa hw [] b68_33 b17_4 b23_5 b29_6 v3_1 v8_2 v13_3 _ E_b68_33 F_b68_33_plant F_b68_33_protest F_b68_33_chop V_b17_4 V_b23_5 V_b29_6) at_108 (pc' := 111) rfl (by decide) (by decide) (by decide) rfl rfl rfl (lenOf pd_2 rfl) (Nat.le_refl _) (by decide) (by decide) ?_
            intro v T L X q
            obtain ⟨rfl, X⟩ := pureX X q
            show Go p e below _ (T.setTop (mkF m 111 #[.val (.int i0), .val (.int i1), .val (.int i2), .val (.int i3), .val (.int i4), .val (.int v3_1), .val (.int v8_2), .val (.int v13_3), .val (.ref b17_4), .val (.ref b23_5), .val (.ref b29_6), .val (.ref b68_33), .val (.int (0 : Int32))] [(.int (b2i (fN v3_1 v8_2 v13_3)))]))
            refine g_iload X at_111 (pc' := 113) rfl rfl ?_
            refine g_icN X at_113 (teq (show (b2i (fN v3_1 v8_2 v13_3)) = (0 : Int32) from (by simp [fN, b2i, hc86_34, hc91_35]))).2 (pc' := 116) rfl ?_
            refine g_iconst X (1 : Int32) at_116 (pc' := 117) rfl rfl ?_
            refine g_goto X at_117 (pc' := 121) (by decide) (by decide) ?_
            refine g_ireturnN X (t := .boolean) (by simp) at_121 hret hlk (by decide) (by decide) ?_
            exact ⟨rfl, N⟩
        · skip
          refine g_ifY X at_86 ((if0 _ _).trans (feq hc86_34).2) (pc' := 103) (by decide) (by decide) ?_
          refine g_iconst X (0 : Int32) at_103 (pc' := 104) rfl rfl ?_
          refine g_istore X at_104 (pc' := 106) (Ls' := #[.val (.int i0), .val (.int i1), .val (.int i2), .val (.int i3), .val (.int i4), .val (.int v3_1), .val (.int v8_2), .val (.int v13_3), .val (.ref b17_4), .val (.ref b23_5), .val (.ref b29_6), .val (.ref b68_33), .val (.int (0 : Int32))]) rfl rfl ?_
          refine g_aload X at_106 (pc' := 108) rfl rfl rfl ?_
          refine g_virtual X (W := 0) (a := b68_33) (C := "com/example/understory/understory/games/logger/Choice$Actions") [] [] E_b68_33 (tb hw 23 rfl) (tb hw 24 rfl) (tb hw 26 rfl) (tb hw 25 rfl) (tb hw 3 rfl) (tb hw 27 rfl) (rN l Z aa hw [] b68_33 b17_4 b23_5 b29_6 v3_1 v8_2 v13_3 _ E_b68_33 F_b68_33_plant F_b68_33_protest F_b68_33_chop V_b17_4 V_b23_5 V_b29_6) at_108 (pc' := 111) rfl (by decide) (by decide) (by decide) rfl rfl rfl (lenOf pd_2 rfl) (Nat.le_refl _) (by decide) (by decide) ?_
          intro v T L X q
          obtain ⟨rfl, X⟩ := pureX X q
          show Go p e below _ (T.setTop (mkF m 111 #[.val (.int i0), .val (.int i1), .val (.int i2), .val (.int i3), .val (.int i4), .val (.int v3_1), .val (.int v8_2), .val (.int v13_3), .val (.ref b17_4), .val (.ref b23_5), .val (.ref b29_6), .val (.ref b68_33), .val (.int (0 : Int32))] [(.int (b2i (fN v3_1 v8_2 v13_3)))]))
          refine g_iload X at_111 (pc' := 113) rfl rfl ?_
          refine g_icN X at_113 (teq (show (b2i (fN v3_1 v8_2 v13_3)) = (0 : Int32) from (by simp [fN, b2i, hc86_34]))).2 (pc' := 116) rfl ?_
          refine g_iconst X (1 : Int32) at_116 (pc' := 117) rfl rfl ?_
          refine g_goto X at_117 (pc' := 121) (by decide) (by decide) ?_
          refine g_ireturnN X (t := .boolean) (by simp) at_121 hret hlk (by decide) (by decide) ?_
          exact ⟨rfl, N⟩
    · skip
      refine g_ifY X at_46 ((if0 _ _).trans (flt hc46_27).2.2.2) (pc' := 58) (by decide) (by decide) ?_
      refine g_iload X at_58 (pc' := 60) rfl rfl ?_
      by_cases hc60_37 : (0 : Int32) < v13_3
      · skip
        refine g_ifN X at_60 ((if0 _ _).trans (tlt hc60_37).2.2.2) (pc' := 63) rfl ?_
        refine g_aload X at_63 (pc' := 65) rfl rfl rfl ?_
        refine g_iconst X (0 : Int32) at_65 (pc' := 66) rfl rfl ?_
        refine g_iloadN X at_66 (pc' := 67) rfl rfl ?_
        refine g_iastoreN X V_b29_6 at_67 (pc' := 68) rfl (by decide) hc60_37 ?_
        intro T h X W V_b29_6
        replace E_b17_4 := E_b17_4.wr W
        replace V_b17_4 := V_b17_4.other W ne_b17_4_b29_6
        replace E_b23_5 := E_b23_5.wr W
        replace V_b23_5 := V_b23_5.other W ne_b23_5_b29_6
        replace E_b29_6 := E_b29_6.wr W
        replace Z0 := Nat.le_trans Z0 (Nat.le_of_eq W.size.symm)
        replace N := Fr.snoc X.1 N g_b29_6
        refine g_new X (tb hw 1 rfl) (tb hw 2 rfl) (tb hw 3 rfl) at_68 (pc' := 71) rfl (by decide) (by decide) ?_
        intro T h b68_38 s_b68_38 X Ex E_b68_38 D_b68_38
        have ne_b17_4_b68_38 : b17_4 ≠ b68_38 := Nat.ne_of_lt (by rw [s_b68_38]; exact E_b17_4.lt)
        have ne_b23_5_b68_38 : b23_5 ≠ b68_38 := Nat.ne_of_lt (by rw [s_b68_38]; exact E_b23_5.lt)
        have ne_b29_6_b68_38 : b29_6 ≠ b68_38 := Nat.ne_of_lt (by rw [s_b68_38]; exact E_b29_6.lt)
        have g_b68_38 : n0 ≤ b68_38 := by rw [s_b68_38]; exact Z0
        replace E_b17_4 := E_b17_4.ext Ex
        replace V_b17_4 := V_b17_4.ext Ex
        replace E_b23_5 := E_b23_5.ext Ex
        replace V_b23_5 := V_b23_5.ext Ex
        replace E_b29_6 := E_b29_6.ext Ex
        replace V_b29_6 := V_b29_6.ext Ex
        replace Z0 := Nat.le_trans Z0 Ex.1
        have F_b68_38_plant : Fld Z h b68_38 "com/example/understory/understory/games/logger/Choice$Actions" "plant" "[I" .null := D_b68_38 (Or.inr (tb hw 16 rfl)) (ty := (.array .int)) (by decide)
        have F_b68_38_protest : Fld Z h b68_38 "com/example/understory/understory/games/logger/Choice$Actions" "protest" "[I" .null := D_b68_38 (Or.inr (tb hw 18 rfl)) (ty := (.array .int)) (by decide)
        have F_b68_38_protesters : Fld Z h b68_38 "com/example/understory/understory/games/logger/Choice$Actions" "protesters" "I" (.int (0 : Int32)) := D_b68_38 (Or.inr (tb hw 20 rfl)) (ty := .int) (by decide)
        have F_b68_38_chop : Fld Z h b68_38 "com/example/understory/understory/games/logger/Choice$Actions" "chop" "[I" .null := D_b68_38 (Or.inr (tb hw 22 rfl)) (ty := (.array .int)) (by decide)
        refine g_dup X at_71 (pc' := 72) rfl rfl ?_
        refine g_aload X at_72 (pc' := 74) rfl rfl rfl ?_
        refine g_aload X at_74 (pc' := 76) rfl rfl rfl ?_
        refine g_iloadN X at_76 (pc' := 77) rfl rfl ?_
        refine g_aload X at_77 (pc' := 79) rfl rfl rfl ?_
        refine g_special X (W := 1) (a := b68_38) [(.ref b17_4), (.ref b23_5), (.int i3), (.ref b29_6)] [(.ref b68_38)] rfl (tb hw 4 rfl) (tb hw 5 rfl) (tb hw 3 rfl) (tb hw 6 rfl) (rInit l Z aa hw [] b68_38 b17_4 b23_5 i3 b29_6 _ n0 Z0 E_b68_38 F_b68_38_plant F_b68_38_protest F_b68_38_protesters F_b68_38_chop g_b68_38) at_79 (pc' := 82) rfl (by decide) (by decide) (by decide) rfl rfl rfl (lenOf pd_1 rfl) (Nat.le_refl _) (by decide) (by decide) ?_
        intro v T L X q
        obtain ⟨rfl, Nq, Kq, E_b68_38', F_b68_38_plant', F_b68_38_protest', F_b68_38_protesters', F_b68_38_chop'⟩ := q
        replace N := N.app Nq
        replace E_b17_4 := E_b17_4.keep Kq
        replace V_b17_4 := V_b17_4.keep Kq (ninS ne_b17_4_b68_38 nin0)
        replace E_b23_5 := E_b23_5.keep Kq
        replace V_b23_5 := V_b23_5.keep Kq (ninS ne_b23_5_b68_38 nin0)
        replace E_b29_6 := E_b29_6.keep Kq
        replace V_b29_6 := V_b29_6.keep Kq (ninS ne_b29_6_b68_38 nin0)
        replace Z0 := Nat.le_trans Z0 Kq.1
        replace E_b68_38 := E_b68_38'
        replace F_b68_38_plant := F_b68_38_plant'
        replace F_b68_38_protest := F_b68_38_protest'
        replace F_b68_38_protesters := F_b68_38_protesters'
        replace F_b68_38_chop := F_b68_38_chop'
        show Go p e below _ (T.setTop (mkF m 82 #[.val (.int i0), .val (.int i1), .val (.int i2), .val (.int i3), .val (.int i4), .val (.int v3_1), .val (.int v8_2), .val (.int v13_3), .val (.ref b17_4), .val (.ref b23_5), .val (.ref b29_6), .unset, .unset] [(.ref b68_38)]))
        refine g_astore X at_82 (pc' := 84) (Ls' := #[.val (.int i0), .val (.int i1), .val (.int i2), .val (.int i3), .val (.int i4), .val (.int v3_1), .val (.int v8_2), .val (.int v13_3), .val (.ref b17_4), .val (.ref b23_5), .val (.ref b29_6), .val (.ref b68_38), .unset]) rfl rfl rfl ?_
        refine g_iload X at_84 (pc' := 86) rfl rfl ?_
        by_cases hc86_39 : v3_1 = (0 : Int32)
        · skip
          refine g_ifN X at_86 ((if0 _ _).trans (teq hc86_39).2) (pc' := 89) rfl ?_
          refine g_iload X at_89 (pc' := 91) rfl rfl ?_
          by_cases hc91_40 : v8_2 = (0 : Int32)
          · skip
            refine g_ifN X at_91 ((if0 _ _).trans (teq hc91_40).2) (pc' := 94) rfl ?_
            refine g_iload X at_94 (pc' := 96) rfl rfl ?_
            by_cases hc96_41 : v13_3 = (0 : Int32)
            · skip
              refine g_ifN X at_96 ((if0 _ _).trans (teq hc96_41).2) (pc' := 99) rfl ?_
              refine g_iconst X (1 : Int32) at_99 (pc' := 100) rfl rfl ?_
              refine g_goto X at_100 (pc' := 104) (by decide) (by decide) ?_
              refine g_istore X at_104 (pc' := 106) (Ls' := #[.val (.int i0), .val (.int i1), .val (.int i2), .val (.int i3), .val (.int i4), .val (.int v3_1), .val (.int v8_2), .val (.int v13_3), .val (.ref b17_4), .val (.ref b23_5), .val (.ref b29_6), .val (.ref b68_38), .val (.int (1 : Int32))]) rfl rfl ?_
              refine g_aload X at_106 (pc' := 108) rfl rfl rfl ?_
              refine g_virtual X (W := 0) (a := b68_38) (C := "com/example/understory/understory/games/logger/Choice$Actions") [] [] E_b68_38 (tb hw 23 rfl) (tb hw 24 rfl) (tb hw 26 rfl) (tb hw 25 rfl) (tb hw 3 rfl) (tb hw 27 rfl) (rN l Z aa hw [] b68_38 b17_4 b23_5 b29_6 v3_1 v8_2 v13_3 _ E_b68_38 F_b68_38_plant F_b68_38_protest F_b68_38_chop V_b17_4 V_b23_5 V_b29_6) at_108 (pc' := 111) rfl (by decide) (by decide) (by decide) rfl rfl rfl (lenOf pd_2 rfl) (Nat.le_refl _) (by decide) (by decide) ?_
              intro v T L X q
              obtain ⟨rfl, X⟩ := pureX X q
              show Go p e below _ (T.setTop (mkF m 111 #[.val (.int i0), .val (.int i1), .val (.int i2), .val (.int i3), .val (.int i4), .val (.int v3_1), .val (.int v8_2), .val (.int v13_3), .val (.ref b17_4), .val (.ref b23_5), .val (.ref b29_6), .val (.ref b68_38), .val (.int (1 : Int32))] [(.int (b2i (fN v3_1 v8_2 v13_3)))]))
              refine g_iload X at_111 (pc' := 113) rfl rfl ?_
              refine g_icN X at_113 (teq (show (b2i (fN v3_1 v8_2 v13_3)) = (1 : Int32) from (by simp [fN, b2i, hc86_39, hc91_40, hc96_41]))).2 (pc' := 116) rfl ?_
              refine g_iconst X (1 : Int32) at_116 (pc' := 117) rfl rfl ?_
              refine g_goto X at_117 (pc' := 121) (by decide) (by decide) ?_
              refine g_ireturnN X (t := .boolean) (by simp) at_121 hret hlk (by decide) (by decide) ?_
              exact ⟨rfl, N⟩
            · skip
              refine g_ifY X at_96 ((if0 _ _).trans (feq hc96_41).2) (pc' := 103) (by decide) (by decide) ?_
              refine g_iconst X (0 : Int32) at_103 (pc' := 104) rfl rfl ?_
              refine g_istore X at_104 (pc' := 106) (Ls' := #[.val (.int i0), .val (.int i1), .val (.int i2), .val (.int i3), .val (.int i4), .val (.int v3_1), .val (.int v8_2), .val (.int v13_3), .val (.ref b17_4), .val (.ref b23_5), .val (.ref b29_6), .val (.ref b68_38), .val (.int (0 : Int32))]) rfl rfl ?_
              refine g_aload X at_106 (pc' := 108) rfl rfl rfl ?_
              refine g_virtual X (W := 0) (a := b68_38) (C := "com/example/understory/understory/games/logger/Choice$Actions") [] [] E_b68_38 (tb hw 23 rfl) (tb hw 24 rfl) (tb hw 26 rfl) (tb hw 25 rfl) (tb hw 3 rfl) (tb hw 27 rfl) (rN l Z aa hw [] b68_38 b17_4 b23_5 b29_6 v3_1 v8_2 v13_3 _ E_b68_38 F_b68_38_plant F_b68_38_protest F_b68_38_chop V_b17_4 V_b23_5 V_b29_6) at_108 (pc' := 111) rfl (by decide) (by decide) (by decide) rfl rfl rfl (lenOf pd_2 rfl) (Nat.le_refl _) (by decide) (by decide) ?_
              intro v T L X q
              obtain ⟨rfl, X⟩ := pureX X q
              show Go p e below _ (T.setTop (mkF m 111 #[.val (.int i0), .val (.int i1), .val (.int i2), .val (.int i3), .val (.int i4), .val (.int v3_1), .val (.int v8_2), .val (.int v13_3), .val (.ref b17_4), .val (.ref b23_5), .val (.ref b29_6), .val (.ref b68_38), .val (.int (0 : Int32))] [(.int (b2i (fN v3_1 v8_2 v13_3)))]))
              refine g_iload X at_111 (pc' := 113) rfl rfl ?_
              refine g_icN X at_113 (teq (show (b2i (fN v3_1 v8_2 v13_3)) = (0 : Int32) from (by simp [fN, b2i, hc86_39, hc91_40, hc96_41]))).2 (pc' := 116) rfl ?_
              refine g_iconst X (1 : Int32) at_116 (pc' := 117) rfl rfl ?_
              refine g_goto X at_117 (pc' := 121) (by decide) (by decide) ?_
              refine g_ireturnN X (t := .boolean) (by simp) at_121 hret hlk (by decide) (by decide) ?_
              exact ⟨rfl, N⟩
          · skip
            refine g_ifY X at_91 ((if0 _ _).trans (feq hc91_40).2) (pc' := 103) (by decide) (by decide) ?_
            refine g_iconst X (0 : Int32) at_103 (pc' := 104) rfl rfl ?_
            refine g_istore X at_104 (pc' := 106) (Ls' := #[.val (.int i0), .val (.int i1), .val (.int i2), .val (.int i3), .val (.int i4), .val (.int v3_1), .val (.int v8_2), .val (.int v13_3), .val (.ref b17_4), .val (.ref b23_5), .val (.ref b29_6), .val (.ref b68_38), .val (.int (0 : Int32))]) rfl rfl ?_
            refine g_aload X at_106 (pc' := 108) rfl rfl rfl ?_
            refine g_virtual X (W := 0) (a := b68_38) (C := "com/example/understory/understory/games/logger/Choice$Actions") [] [] E_b68_38 (tb hw 23 rfl) (tb hw 24 rfl) (tb hw 26 rfl) (tb hw 25 rfl) (tb hw 3 rfl) (tb hw 27 rfl) (rN l Z aa hw [] b68_38 b17_4 b23_5 b29_6 v3_1 v8_2 v13_3 _ E_b68_38 F_b68_38_plant F_b68_38_protest F_b68_38_chop V_b17_4 V_b23_5 V_b29_6) at_108 (pc' := 111) rfl (by decide) (by decide) (by decide) rfl rfl rfl (lenOf pd_2 rfl) (Nat.le_refl _) (by decide) (by decide) ?_
            intro v T L X q
            obtain ⟨rfl, X⟩ := pureX X q
            show Go p e below _ (T.setTop (mkF m 111 #[.val (.int i0), .val (.int i1), .val (.int i2), .val (.int i3), .val (.int i4), .val (.int v3_1), .val (.int v8_2), .val (.int v13_3), .val (.ref b17_4), .val (.ref b23_5), .val (.ref b29_6), .val (.ref b68_38), .val (.int (0 : Int32))] [(.int (b2i (fN v3_1 v8_2 v13_3)))]))
            refine g_iload X at_111 (pc' := 113) rfl rfl ?_
            refine g_icN X at_113 (teq (show (b2i (fN v3_1 v8_2 v13_3)) = (0 : Int32) from (by simp [fN, b2i, hc86_39, hc91_40]))).2 (pc' := 116) rfl ?_
            refine g_iconst X (1 : Int32) at_116 (pc' := 117) rfl rfl ?_
            refine g_goto X at_117 (pc' := 121) (by decide) (by decide) ?_
            refine g_ireturnN X (t := .boolean) (by simp) at_121 hret hlk (by decide) (by decide) ?_
            exact ⟨rfl, N⟩
        · skip
          refine g_ifY X at_86 ((if0 _ _).trans (feq hc86_39).2) (pc' := 103) (by decide) (by decide) ?_
          refine g_iconst X (0 : Int32) at_103 (pc' := 104) rfl rfl ?_
          refine g_istore X at_104 (pc' := 106) (Ls' := #[.val (.int i0), .val (.int i1), .val (.int i2), .val (.int i3), .val (.int i4), .val (.int v3_1), .val (.int v8_2), .val (.int v13_3), .val (.ref b17_4), .val (.ref b23_5), .val (.ref b29_6), .val (.ref b68_38), .val (.int (0 : Int32))]) rfl rfl ?_
          refine g_aload X at_106 (pc' := 108) rfl rfl rfl ?_
          refine g_virtual X (W := 0) (a := b68_38) (C := "com/example/understory/understory/games/logger/Choice$Actions") [] [] E_b68_38 (tb hw 23 rfl) (tb hw 24 rfl) (tb hw 26 rfl) (tb hw 25 rfl) (tb hw 3 rfl) (tb hw 27 rfl) (rN l Z aa hw [] b68_38 b17_4 b23_5 b29_6 v3_1 v8_2 v13_3 _ E_b68_38 F_b68_38_plant F_b68_38_protest F_b68_38_chop V_b17_4 V_b23_5 V_b29_6) at_108 (pc' := 111) rfl (by decide) (by decide) (by decide) rfl rfl rfl (lenOf pd_2 rfl) (Nat.le_refl _) (by decide) (by decide) ?_
          intro v T L X q
          obtain ⟨rfl, X⟩ := pureX X q
          show Go p e below _ (T.setTop (mkF m 111 #[.val (.int i0), .val (.int i1), .val (.int i2), .val (.int i3), .val (.int i4), .val (.int v3_1), .val (.int v8_2), .val (.int v13_3), .val (.ref b17_4), .val (.ref b23_5), .val (.ref b29_6), .val (.ref b68_38), .val (.int (0 : Int32))] [(.int (b2i (fN v3_1 v8_2 v13_3)))]))
          refine g_iload X at_111 (pc' := 113) rfl rfl ?_
          refine g_icN X at_113 (teq (show (b2i (fN v3_1 v8_2 v13_3)) = (0 : Int32) from (by simp [fN, b2i, hc86_39]))).2 (pc' := 116) rfl ?_
          refine g_iconst X (1 : Int32) at_116 (pc' := 117) rfl rfl ?_
          refine g_goto X at_117 (pc' := 121) (by decide) (by decide) ?_
          refine g_ireturnN X (t := .boolean) (by simp) at_121 hret hlk (by decide) (by decide) ?_
          exact ⟨rfl, N⟩
      · skip
        refine g_ifY X at_60 ((if0 _ _).trans (flt hc60_37).2.2.2) (pc' := 68) (by decide) (by decide) ?_
        refine g_new X (tb hw 1 rfl) (tb hw 2 rfl) (tb hw 3 rfl) at_68 (pc' := 71) rfl (by decide) (by decide) ?_
        intro T h b68_42 s_b68_42 X Ex E_b68_42 D_b68_42
        have ne_b17_4_b68_42 : b17_4 ≠ b68_42 := Nat.ne_of_lt (by rw [s_b68_42]; exact E_b17_4.lt)
        have ne_b23_5_b68_42 : b23_5 ≠ b68_42 := Nat.ne_of_lt (by rw [s_b68_42]; exact E_b23_5.lt)
        have ne_b29_6_b68_42 : b29_6 ≠ b68_42 := Nat.ne_of_lt (by rw [s_b68_42]; exact E_b29_6.lt)
        have g_b68_42 : n0 ≤ b68_42 := by rw [s_b68_42]; exact Z0
        replace E_b17_4 := E_b17_4.ext Ex
        replace V_b17_4 := V_b17_4.ext Ex
        replace E_b23_5 := E_b23_5.ext Ex
        replace V_b23_5 := V_b23_5.ext Ex
        replace E_b29_6 := E_b29_6.ext Ex
        replace V_b29_6 := V_b29_6.ext Ex
        replace Z0 := Nat.le_trans Z0 Ex.1
        have F_b68_42_plant : Fld Z h b68_42 "com/example/understory/understory/games/logger/Choice$Actions" "plant" "[I" .null := D_b68_42 (Or.inr (tb hw 16 rfl)) (ty := (.array .int)) (by decide)
        have F_b68_42_protest : Fld Z h b68_42 "com/example/understory/understory/games/logger/Choice$Actions" "protest" "[I" .null := D_b68_42 (Or.inr (tb hw 18 rfl)) (ty := (.array .int)) (by decide)
        have F_b68_42_protesters : Fld Z h b68_42 "com/example/understory/understory/games/logger/Choice$Actions" "protesters" "I" (.int (0 : Int32)) := D_b68_42 (Or.inr (tb hw 20 rfl)) (ty := .int) (by decide)
        have F_b68_42_chop : Fld Z h b68_42 "com/example/understory/understory/games/logger/Choice$Actions" "chop" "[I" .null := D_b68_42 (Or.inr (tb hw 22 rfl)) (ty := (.array .int)) (by decide)
        refine g_dup X at_71 (pc' := 72) rfl rfl ?_
        refine g_aload X at_72 (pc' := 74) rfl rfl rfl ?_
        refine g_aload X at_74 (pc' := 76) rfl rfl rfl ?_
        refine g_iloadN X at_76 (pc' := 77) rfl rfl ?_
        refine g_aload X at_77 (pc' := 79) rfl rfl rfl ?_
        refine g_special X (W := 1) (a := b68_42) [(.ref b17_4), (.ref b23_5), (.int i3), (.ref b29_6)] [(.ref b68_42)] rfl (tb hw 4 rfl) (tb hw 5 rfl) (tb hw 3 rfl) (tb hw 6 rfl) (rInit l Z aa hw [] b68_42 b17_4 b23_5 i3 b29_6 _ n0 Z0 E_b68_42 F_b68_42_plant F_b68_42_protest F_b68_42_protesters F_b68_42_chop g_b68_42) at_79 (pc' := 82) rfl (by decide) (by decide) (by decide) rfl rfl rfl (lenOf pd_1 rfl) (Nat.le_refl _) (by decide) (by decide) ?_
        intro v T L X q
        obtain ⟨rfl, Nq, Kq, E_b68_42', F_b68_42_plant', F_b68_42_protest', F_b68_42_protesters', F_b68_42_chop'⟩ := q
        replace N := N.app Nq
        replace E_b17_4 := E_b17_4.keep Kq
        replace V_b17_4 := V_b17_4.keep Kq (ninS ne_b17_4_b68_42 nin0)
        replace E_b23_5 := E_b23_5.keep Kq
        replace V_b23_5 := V_b23_5.keep Kq (ninS ne_b23_5_b68_42 nin0)
        replace E_b29_6 := E_b29_6.keep Kq
        replace V_b29_6 := V_b29_6.keep Kq (ninS ne_b29_6_b68_42 nin0)
        replace Z0 := Nat.le_trans Z0 Kq.1
        replace E_b68_42 := E_b68_42'
        replace F_b68_42_plant := F_b68_42_plant'
        replace F_b68_42_protest := F_b68_42_protest'
        replace F_b68_42_protesters := F_b68_42_protesters'
        replace F_b68_42_chop := F_b68_42_chop'
        show Go p e below _ (T.setTop (mkF m 82 #[.val (.int i0), .val (.int i1), .val (.int i2), .val (.int i3), .val (.int i4), .val (.int v3_1), .val (.int v8_2), .val (.int v13_3), .val (.ref b17_4), .val (.ref b23_5), .val (.ref b29_6), .unset, .unset] [(.ref b68_42)]))
        refine g_astore X at_82 (pc' := 84) (Ls' := #[.val (.int i0), .val (.int i1), .val (.int i2), .val (.int i3), .val (.int i4), .val (.int v3_1), .val (.int v8_2), .val (.int v13_3), .val (.ref b17_4), .val (.ref b23_5), .val (.ref b29_6), .val (.ref b68_42), .unset]) rfl rfl rfl ?_
        refine g_iload X at_84 (pc' := 86) rfl rfl ?_
        by_cases hc86_43 : v3_1 = (0 : Int32)
        · skip
          refine g_ifN X at_86 ((if0 _ _).trans (teq hc86_43).2) (pc' := 89) rfl ?_
          refine g_iload X at_89 (pc' := 91) rfl rfl ?_
          by_cases hc91_44 : v8_2 = (0 : Int32)
          · skip
            refine g_ifN X at_91 ((if0 _ _).trans (teq hc91_44).2) (pc' := 94) rfl ?_
            refine g_iload X at_94 (pc' := 96) rfl rfl ?_
            by_cases hc96_45 : v13_3 = (0 : Int32)
            · skip
              refine g_ifN X at_96 ((if0 _ _).trans (teq hc96_45).2) (pc' := 99) rfl ?_
              refine g_iconst X (1 : Int32) at_99 (pc' := 100) rfl rfl ?_
              refine g_goto X at_100 (pc' := 104) (by decide) (by decide) ?_
              refine g_istore X at_104 (pc' := 106) (Ls' := #[.val (.int i0), .val (.int i1), .val (.int i2), .val (.int i3), .val (.int i4), .val (.int v3_1), .val (.int v8_2), .val (.int v13_3), .val (.ref b17_4), .val (.ref b23_5), .val (.ref b29_6), .val (.ref b68_42), .val (.int (1 : Int32))]) rfl rfl ?_
              refine g_aload X at_106 (pc' := 108) rfl rfl rfl ?_
              refine g_virtual X (W := 0) (a := b68_42) (C := "com/example/understory/understory/games/logger/Choice$Actions") [] [] E_b68_42 (tb hw 23 rfl) (tb hw 24 rfl) (tb hw 26 rfl) (tb hw 25 rfl) (tb hw 3 rfl) (tb hw 27 rfl) (rN l Z aa hw [] b68_42 b17_4 b23_5 b29_6 v3_1 v8_2 v13_3 _ E_b68_42 F_b68_42_plant F_b68_42_protest F_b68_42_chop V_b17_4 V_b23_5 V_b29_6) at_108 (pc' := 111) rfl (by decide) (by decide) (by decide) rfl rfl rfl (lenOf pd_2 rfl) (Nat.le_refl _) (by decide) (by decide) ?_
              intro v T L X q
              obtain ⟨rfl, X⟩ := pureX X q
              show Go p e below _ (T.setTop (mkF m 111 #[.val (.int i0), .val (.int i1), .val (.int i2), .val (.int i3), .val (.int i4), .val (.int v3_1), .val (.int v8_2), .val (.int v13_3), .val (.ref b17_4), .val (.ref b23_5), .val (.ref b29_6), .val (.ref b68_42), .val (.int (1 : Int32))] [(.int (b2i (fN v3_1 v8_2 v13_3)))]))
              refine g_iload X at_111 (pc' := 113) rfl rfl ?_
              refine g_icN X at_113 (teq (show (b2i (fN v3_1 v8_2 v13_3)) = (1 : Int32) from (by simp [fN, b2i, hc86_43, hc91_44, hc96_45]))).2 (pc' := 116) rfl ?_
              refine g_iconst X (1 : Int32) at_116 (pc' := 117) rfl rfl ?_
              refine g_goto X at_117 (pc' := 121) (by decide) (by decide) ?_
              refine g_ireturnN X (t := .boolean) (by simp) at_121 hret hlk (by decide) (by decide) ?_
              exact ⟨rfl, N⟩
            · skip
              refine g_ifY X at_96 ((if0 _ _).trans (feq hc96_45).2) (pc' := 103) (by decide) (by decide) ?_
              refine g_iconst X (0 : Int32) at_103 (pc' := 104) rfl rfl ?_
              refine g_istore X at_104 (pc' := 106) (Ls' := #[.val (.int i0), .val (.int i1), .val (.int i2), .val (.int i3), .val (.int i4), .val (.int v3_1), .val (.int v8_2), .val (.int v13_3), .val (.ref b17_4), .val (.ref b23_5), .val (.ref b29_6), .val (.ref b68_42), .val (.int (0 : Int32))]) rfl rfl ?_
              refine g_aload X at_106 (pc' := 108) rfl rfl rfl ?_
              refine g_virtual X (W := 0) (a := b68_42) (C := "com/example/understory/understory/games/logger/Choice$Actions") [] [] E_b68_42 (tb hw 23 rfl) (tb hw 24 rfl) (tb hw 26 rfl) (tb hw 25 rfl) (tb hw 3 rfl) (tb hw 27 rfl) (rN l Z aa hw [] b68_42 b17_4 b23_5 b29_6 v3_1 v8_2 v13_3 _ E_b68_42 F_b68_42_plant F_b68_42_protest F_b68_42_chop V_b17_4 V_b23_5 V_b29_6) at_108 (pc' := 111) rfl (by decide) (by decide) (by decide) rfl rfl rfl (lenOf pd_2 rfl) (Nat.le_refl _) (by decide) (by decide) ?_
              intro v T L X q
              obtain ⟨rfl, X⟩ := pureX X q
              show Go p e below _ (T.setTop (mkF m 111 #[.val (.int i0), .val (.int i1), .val (.int i2), .val (.int i3), .val (.int i4), .val (.int v3_1), .val (.int v8_2), .val (.int v13_3), .val (.ref b17_4), .val (.ref b23_5), .val (.ref b29_6), .val (.ref b68_42), .val (.int (0 : Int32))] [(.int (b2i (fN v3_1 v8_2 v13_3)))]))
              refine g_iload X at_111 (pc' := 113) rfl rfl ?_
              refine g_icN X at_113 (teq (show (b2i (fN v3_1 v8_2 v13_3)) = (0 : Int32) from (by simp [fN, b2i, hc86_43, hc91_44, hc96_45]))).2 (pc' := 116) rfl ?_
              refine g_iconst X (1 : Int32) at_116 (pc' := 117) rfl rfl ?_
              refine g_goto X at_117 (pc' := 121) (by decide) (by decide) ?_
              refine g_ireturnN X (t := .boolean) (by simp) at_121 hret hlk (by decide) (by decide) ?_
              exact ⟨rfl, N⟩
          · skip
            refine g_ifY X at_91 ((if0 _ _).trans (feq hc91_44).2) (pc' := 103) (by decide) (by decide) ?_
            refine g_iconst X (0 : Int32) at_103 (pc' := 104) rfl rfl ?_
            refine g_istore X at_104 (pc' := 106) (Ls' := #[.val (.int i0), .val (.int i1), .val (.int i2), .val (.int i3), .val (.int i4), .val (.int v3_1), .val (.int v8_2), .val (.int v13_3), .val (.ref b17_4), .val (.ref b23_5), .val (.ref b29_6), .val (.ref b68_42), .val (.int (0 : Int32))]) rfl rfl ?_
            refine g_aload X at_106 (pc' := 108) rfl rfl rfl ?_
            refine g_virtual X (W := 0) (a := b68_42) (C := "com/example/understory/understory/games/logger/Choice$Actions") [] [] E_b68_42 (tb hw 23 rfl) (tb hw 24 rfl) (tb hw 26 rfl) (tb hw 25 rfl) (tb hw 3 rfl) (tb hw 27 rfl) (rN l Z aa hw [] b68_42 b17_4 b23_5 b29_6 v3_1 v8_2 v13_3 _ E_b68_42 F_b68_42_plant F_b68_42_protest F_b68_42_chop V_b17_4 V_b23_5 V_b29_6) at_108 (pc' := 111) rfl (by decide) (by decide) (by decide) rfl rfl rfl (lenOf pd_2 rfl) (Nat.le_refl _) (by decide) (by decide) ?_
            intro v T L X q
            obtain ⟨rfl, X⟩ := pureX X q
            show Go p e below _ (T.setTop (mkF m 111 #[.val (.int i0), .val (.int i1), .val (.int i2), .val (.int i3), .val (.int i4), .val (.int v3_1), .val (.int v8_2), .val (.int v13_3), .val (.ref b17_4), .val (.ref b23_5), .val (.ref b29_6), .val (.ref b68_42), .val (.int (0 : Int32))] [(.int (b2i (fN v3_1 v8_2 v13_3)))]))
            refine g_iload X at_111 (pc' := 113) rfl rfl ?_
            refine g_icN X at_113 (teq (show (b2i (fN v3_1 v8_2 v13_3)) = (0 : Int32) from (by simp [fN, b2i, hc86_43, hc91_44]))).2 (pc' := 116) rfl ?_
            refine g_iconst X (1 : Int32) at_116 (pc' := 117) rfl rfl ?_
            refine g_goto X at_117 (pc' := 121) (by decide) (by decide) ?_
            refine g_ireturnN X (t := .boolean) (by simp) at_121 hret hlk (by decide) (by decide) ?_
            exact ⟨rfl, N⟩
        · skip
          refine g_ifY X at_86 ((if0 _ _).trans (feq hc86_43).2) (pc' := 103) (by decide) (by decide) ?_
          refine g_iconst X (0 : Int32) at_103 (pc' := 104) rfl rfl ?_
          refine g_istore X at_104 (pc' := 106) (Ls' := #[.val (.int i0), .val (.int i1), .val (.int i2), .val (.int i3), .val (.int i4), .val (.int v3_1), .val (.int v8_2), .val (.int v13_3), .val (.ref b17_4), .val (.ref b23_5), .val (.ref b29_6), .val (.ref b68_42), .val (.int (0 : Int32))]) rfl rfl ?_
          refine g_aload X at_106 (pc' := 108) rfl rfl rfl ?_
          refine g_virtual X (W := 0) (a := b68_42) (C := "com/example/understory/understory/games/logger/Choice$Actions") [] [] E_b68_42 (tb hw 23 rfl) (tb hw 24 rfl) (tb hw 26 rfl) (tb hw 25 rfl) (tb hw 3 rfl) (tb hw 27 rfl) (rN l Z aa hw [] b68_42 b17_4 b23_5 b29_6 v3_1 v8_2 v13_3 _ E_b68_42 F_b68_42_plant F_b68_42_protest F_b68_42_chop V_b17_4 V_b23_5 V_b29_6) at_108 (pc' := 111) rfl (by decide) (by decide) (by decide) rfl rfl rfl (lenOf pd_2 rfl) (Nat.le_refl _) (by decide) (by decide) ?_
          intro v T L X q
          obtain ⟨rfl, X⟩ := pureX X q
          show Go p e below _ (T.setTop (mkF m 111 #[.val (.int i0), .val (.int i1), .val (.int i2), .val (.int i3), .val (.int i4), .val (.int v3_1), .val (.int v8_2), .val (.int v13_3), .val (.ref b17_4), .val (.ref b23_5), .val (.ref b29_6), .val (.ref b68_42), .val (.int (0 : Int32))] [(.int (b2i (fN v3_1 v8_2 v13_3)))]))
          refine g_iload X at_111 (pc' := 113) rfl rfl ?_
          refine g_icN X at_113 (teq (show (b2i (fN v3_1 v8_2 v13_3)) = (0 : Int32) from (by simp [fN, b2i, hc86_43]))).2 (pc' := 116) rfl ?_
          refine g_iconst X (1 : Int32) at_116 (pc' := 117) rfl rfl ?_
          refine g_goto X at_117 (pc' := 121) (by decide) (by decide) ?_
          refine g_ireturnN X (t := .boolean) (by simp) at_121 hret hlk (by decide) (by decide) ?_
          exact ⟨rfl, N⟩
set_option maxRecDepth 65536 in
set_option maxHeartbeats 40000000 in
theorem comes_1 {Post : Tables → Env → Array Value → State → Outcome → State → Prop} (hpost : ∀ tb e args s v u, (limb_1_1.after args s (.returned v) u = true ∧ limb_1_2.after args s (.returned v) u = true ∧ True) → FrameEnd s (.returned v) u (Jvm.fieldLocs frame_1_writes args s ++ Jvm.arrayLocs frame_1_arrays args s ++ Jvm.staticLocs frame_1_statics s) 16 128 → Post tb e args s (.returned v) u) :
    ArmFor flags0 classFile x code maxLocals ret World_1 tables_1 room_1 Calls_1 rest_1 Pre_1 Post := by
  intro l hfl _ _ p e ha hc hk s m args below hf hA hF happ hP
  obtain ⟨hcalls, hrest, hpre⟩ := hP
  obtain ⟨-, -, -, hnamed, -, -, -, hat⟩ := (Spec.applies_iff hf).mp happ
  obtain ⟨hg, hn⟩ := and_e (Cond.before_iff.mp (show (Jvm.Cond.and given_1 narrow_1).before args s = true from hpre))
  obtain ⟨g1, g2⟩ := and_e hg
  obtain ⟨g3, g4⟩ := and_e g2
  obtain ⟨g5, g6⟩ := and_e g4
  obtain ⟨g7, g8⟩ := and_e g6
  obtain ⟨g9, g10⟩ := and_e g8
  obtain ⟨w0, w1, w2, w3, w4, rfl⟩ : ∃ w0 w1 w2 w3 w4 : Value, args = #[w0, w1, w2, w3, w4] := by
    have hs : args.size = 5 := by simpa [Cond.value, given_1] using g1
    obtain ⟨L⟩ := args
    match L, hs with
    | [w0, w1, w2, w3, w4], _ => exact ⟨w0, w1, w2, w3, w4, rfl⟩
  have hw := fun d (hd : d ∈ tables_1) => atoms_spec (ws := Jvm.Cond.code x code maxLocals ret :: tables_1) hat d (List.mem_cons_of_mem _ hd)
  have hfit : Fit s := fun {y c} hc i hi => by
    obtain ⟨ha, rfl⟩ := Array.getElem?_eq_some_iff.mp hc
    have q := List.all_eq_true.mp ((Array.all_eq_true_iff_forall_mem.mp hF) _ (Array.getElem_mem ha)) i (List.mem_range.mpr hi)
    simpa [Array.getElem?_eq_getElem hi] using q
  obtain ⟨i0, ei0⟩ := is_v g3
  obtain rfl : w0 = (.int i0) := Option.some.inj ei0
  obtain ⟨i1, ei1⟩ := is_v g5
  obtain rfl : w1 = (.int i1) := Option.some.inj ei1
  obtain ⟨i2, ei2⟩ := is_v g7
  obtain rfl : w2 = (.int i2) := Option.some.inj ei2
  obtain ⟨i3, ei3⟩ := is_v g9
  obtain rfl : w3 = (.int i3) := Option.some.inj ei3
  obtain ⟨i4, ei4⟩ := is_v g10
  obtain rfl : w4 = (.int i4) := Option.some.inj ei4
  obtain ⟨n, o, h1, h2, h3, _, L, rfl, ⟨rfl, N⟩, hq⟩ := rLaw l s _ hw tables_1 i0 i1 i2 i3 i4 s.heap s.heap.size (Nat.le_refl _) p e ha hc hk s m _ below hf ((Spec.applies_iff_loose hf).mp happ).1 ⟨rfl, State.Warmed39.refl s, rfl⟩ trivial
  refine ⟨n, _, h1, h2, h3, hpost _ _ _ _ _ _ ⟨Cond.after_iff.mpr rfl, Cond.after_iff.mpr (eq_i res_at (Term.int_eval (1)) rfl), trivial⟩ ⟨hq.1, hq.2.1, (hq.2.2.sift fun y hy => Or.inr (N y hy)).mono (by decide) (by decide)⟩⟩
theorem main_1_1 : Claimed_1_1 := comes_1 fun _ _ _ _ _ _ h hF => ⟨h.1, hF⟩
theorem main_1_2 : Claimed_1_2 := comes_1 fun _ _ _ _ _ _ h hF => ⟨h.2.1, hF⟩
end Jvm.Pilot.@@N@@
namespace Jvm.Pilot.@@N@@
open Jvm Jvm.ClassFile Sem Op Lib Jvm.Free Jvm.Stand Jvm.Pilot.@@N@@.Jvm.D
/-! MADE BY PROGRAM (witnessworld.py) out of the Statement's table words and the real class files: 11 classes; the members and pool entries that the words name. The judged class is class 1, her method 1. -/
namespace start1
open Jvm.ClassFile
def u (s : String) : CpInfo := .utf8 (stringToUtf16 s)
/-- a pool by its gaps: so many unusable entries, then the entry; so many at the end -/
def gap : Nat → List CpInfo → List CpInfo
  | 0, r => r
  | n + 1, r => .unusable :: gap n r
def poolList (es : List (Nat × CpInfo)) (last : Nat) : List CpInfo := es.foldr (fun e r => gap e.1 (e.2 :: r)) (gap last [])
def pool (es : List (Nat × CpInfo)) (last : Nat) : Array CpInfo := ⟨poolList es last⟩
def fileOf (pool : Array CpInfo) (this : Nat) (attrs : Array Attribute := #[]) (ms : Array MethodInfo := #[]) (fl : Nat := 33) (sup : Nat := 0) (ifs : Array Nat := #[]) (fds : Array FieldInfo := #[]) : ClassFile where
  minorVersion := 0
  majorVersion := 65
  constantPool := pool
  accessFlags := fl
  thisClass := this
  superClass := sup
  interfaces := ifs
  fields := fds
  methods := ms
  attributes := attrs
def plain (name : String) (sup : Option ClassId) : Class where
  name := name
  kind := .ordinary
  loader := none
  accessFlags := 33
  super := sup
  interfaces := #[]
  cf := none
  fields := #[]
  methods := #[]
  instanceTypes := #[]
  staticTypes := #[]
  resolved := #[]
  callSites := []
  init := .initialized
  statics := none
  mirror := none

def pool0 : Array CpInfo := pool [(5, u "<init>"), (0, u "()V"), (1, .class_ 10), (1, u "java/lang/Object")] 113

def k0c0 : Code := { maxStack := 0, maxLocals := 1, code := object_method_1_code, exceptionTable := #[], attributes := #[] }
def k0m0 : Method := { name := "<init>", desc := "()V", sig := { parameters := [], returnType := none }, accessFlags := 1, code := some k0c0 }
/-- java/lang/Object -/
def k0 : Class := { plain "java/lang/Object" none with
  accessFlags := 33
  interfaces := #[]
  cf := some (fileOf pool0 8 #[] #[{ accessFlags := 1, nameIndex := 5, descriptorIndex := 6, attributes := #[] }] 33 0 #[] #[])
  fields := #[]
  methods := #[k0m0]
  instanceTypes := #[]
  staticTypes := #[]
  resolved := Array.replicate 124 none
  statics := none }

def pool1 : Array CpInfo := pool [(2, .class_ 4), (1, u "java/lang/Object"), (0, u "<init>"), (0, u "()V"), (0, .class_ 8), (0, u "com/example/understory/understory/games/logger/Choice$Actions"), (0, .methodref 7 10), (0, .nameAndType 5 11), (0, u "([I[II[I)V"), (0, .methodref 7 13), (0, .nameAndType 14 15), (0, u "none"), (0, u "()Z"), (0, .class_ 17), (0, u "com/example/understory/understory/games/logger/ActionsNonePinLaw"), (2, u "law"), (0, u "(IIIII)Z")] 9

def k1m0 : Method := { name := "<init>", desc := "()V", sig := { parameters := [], returnType := none }, accessFlags := 1, code := none }
def k1c1 : Code := { maxStack := 6, maxLocals := 13, code := code, exceptionTable := #[], attributes := #[] }
def k1m1 : Method := { name := "law", desc := "(IIIII)Z", sig := { parameters := [.int, .int, .int, .int, .int], returnType := some .boolean }, accessFlags := 9, code := some k1c1 }
/-- com/example/understory/understory/games/logger/ActionsNonePinLaw -/
def k1 : Class := { plain "com/example/understory/understory/games/logger/ActionsNonePinLaw" (some 0) with
  accessFlags := 49
  interfaces := #[]
  cf := some (fileOf pool1 16 #[] #[{ accessFlags := 1, nameIndex := 5, descriptorIndex := 6, attributes := #[] }, { accessFlags := 9, nameIndex := 20, descriptorIndex := 21, attributes := #[] }] 49 2 #[] #[])
  fields := #[]
  methods := #[k1m0, k1m1]
  instanceTypes := #[]
  staticTypes := #[]
  resolved := Array.replicate 31 none
  statics := none }

def pool2 : Array CpInfo := pool [(1, .methodref 2 3), (0, .class_ 4), (0, .nameAndType 5 6), (0, u "java/lang/Object"), (0, u "<init>"), (0, u "()V"), (0, .class_ 8), (0, u "java/lang/Record")] 13

def k2c0 : Code := { maxStack := 1, maxLocals := 1, code := jdk_30_method_1_code, exceptionTable := #[], attributes := #[] }
def k2m0 : Method := { name := "<init>", desc := "()V", sig := { parameters := [], returnType := none }, accessFlags := 4, code := some k2c0 }
/-- java/lang/Record -/
def k2 : Class := { plain "java/lang/Record" (some 0) with
  accessFlags := 1057
  interfaces := #[]
  cf := some (fileOf pool2 7 #[] #[{ accessFlags := 4, nameIndex := 5, descriptorIndex := 6, attributes := #[] }] 1057 2 #[] #[])
  fields := #[]
  methods := #[k2m0]
  instanceTypes := #[]
  staticTypes := #[]
  resolved := Array.replicate 22 none
  statics := none }

def pool3 : Array CpInfo := pool [(1, .class_ 2), (0, u "com/example/understory/understory/games/logger/Choice$Done"), (5, .class_ 10), (1, u "com/example/understory/understory/games/logger/Choice"), (0, u "DONE"), (0, u "Lcom/example/understory/understory/games/logger/Choice;"), (0, .class_ 14), (0, u "java/lang/Object"), (6, .class_ 22), (0, u "com/example/understory/understory/games/logger/Choice$Actions"), (0, .class_ 24), (0, u "com/example/understory/understory/games/logger/Choice$Sprout"), (0, .class_ 26), (0, u "com/example/understory/understory/games/logger/Choice$Path"), (0, .class_ 28), (0, u "com/example/understory/understory/games/logger/Choice$Corner")] 7

/-- com/example/understory/understory/games/logger/Choice -/
def k3 : Class := { plain "com/example/understory/understory/games/logger/Choice" (some 0) with
  accessFlags := 1536
  interfaces := #[]
  cf := some (fileOf pool3 8 #[.nestMembers #[21, 23, 25, 27, 1]] #[] 1536 13 #[] #[{ accessFlags := 25, nameIndex := 11, descriptorIndex := 12, attributes := #[] }])
  fields := #[{ name := "DONE", type := (.object "com/example/understory/understory/games/logger/Choice"), accessFlags := 25, slot := 0, constantValue := 0 }]
  methods := #[]
  instanceTypes := #[]
  staticTypes := #[(.object "com/example/understory/understory/games/logger/Choice")]
  resolved := Array.replicate 36 none
  statics := none }

def pool4 : Array CpInfo := pool [(1, .methodref 2 3), (0, .class_ 4), (0, .nameAndType 5 6), (0, u "java/lang/Record"), (0, u "<init>"), (0, u "()V"), (0, .fieldref 8 9), (0, .class_ 10), (0, .nameAndType 11 12), (0, u "com/example/understory/understory/games/logger/Choice$Actions"), (0, u "plant"), (0, u "[I"), (0, .fieldref 8 14), (0, .nameAndType 15 12), (0, u "protest"), (0, .fieldref 8 17), (0, .nameAndType 18 19), (0, u "protesters"), (0, u "I"), (0, .fieldref 8 21), (0, .nameAndType 22 12), (0, u "chop"), (32, .class_ 56), (0, u "com/example/understory/understory/games/logger/Choice"), (0, u "([I[II[I)V"), (3, u "none"), (0, u "()Z")] 35

def k4c0 : Code := { maxStack := 2, maxLocals := 5, code := prog_12_method_1_code, exceptionTable := #[], attributes := #[] }
def k4m0 : Method := { name := "<init>", desc := "([I[II[I)V", sig := { parameters := [(.array .int), (.array .int), .int, (.array .int)], returnType := none }, accessFlags := 1, code := some k4c0 }
def k4c1 : Code := { maxStack := 1, maxLocals := 1, code := prog_12_method_2_code, exceptionTable := #[], attributes := #[] }
def k4m1 : Method := { name := "none", desc := "()Z", sig := { parameters := [], returnType := some .boolean }, accessFlags := 0, code := some k4c1 }
/-- com/example/understory/understory/games/logger/Choice$Actions -/
def k4 : Class := { plain "com/example/understory/understory/games/logger/Choice$Actions" (some 2) with
  accessFlags := 49
  interfaces := #[3]
  cf := some (fileOf pool4 8 #[.nestHost 55] #[{ accessFlags := 1, nameIndex := 5, descriptorIndex := 57, attributes := #[] }, { accessFlags := 0, nameIndex := 61, descriptorIndex := 62, attributes := #[] }] 49 2 #[55] #[{ accessFlags := 18, nameIndex := 11, descriptorIndex := 12, attributes := #[] }, { accessFlags := 18, nameIndex := 15, descriptorIndex := 12, attributes := #[] }, { accessFlags := 18, nameIndex := 18, descriptorIndex := 19, attributes := #[] }, { accessFlags := 18, nameIndex := 22, descriptorIndex := 12, attributes := #[] }])
  fields := #[{ name := "plant", type := (.array .int), accessFlags := 18, slot := 0, constantValue := 0 }, { name := "protest", type := (.array .int), accessFlags := 18, slot := 1, constantValue := 0 }, { name := "protesters", type := .int, accessFlags := 18, slot := 2, constantValue := 0 }, { name := "chop", type := (.array .int), accessFlags := 18, slot := 3, constantValue := 0 }]
  methods := #[k4m0, k4m1]
  instanceTypes := #[(.array .int), (.array .int), .int, (.array .int)]
  staticTypes := #[]
  resolved := Array.replicate 98 none
  statics := none }

def pool5 : Array CpInfo := pool [(1, u "java/lang/Cloneable"), (0, .class_ 1), (0, u "java/lang/Object"), (0, .class_ 3)] 3

/-- java/lang/Cloneable -/
def k5 : Class := { plain "java/lang/Cloneable" (some 0) with
  accessFlags := 1537
  interfaces := #[]
  cf := some (fileOf pool5 2 #[] #[] 1537 4 #[] #[])
  fields := #[]
  methods := #[]
  instanceTypes := #[]
  staticTypes := #[]
  resolved := Array.replicate 8 none
  statics := none }

def pool6 : Array CpInfo := pool [(1, u "java/io/Serializable"), (0, .class_ 1), (0, u "java/lang/Object"), (0, .class_ 3)] 3

/-- java/io/Serializable -/
def k6 : Class := { plain "java/io/Serializable" (some 0) with
  accessFlags := 1537
  interfaces := #[]
  cf := some (fileOf pool6 2 #[] #[] 1537 4 #[] #[])
  fields := #[]
  methods := #[]
  instanceTypes := #[]
  staticTypes := #[]
  resolved := Array.replicate 8 none
  statics := none }

/-- the primitive byte -/
def k7 : Class := { plain "byte" none with kind := .primitive 'B', accessFlags := 0x411 }
/-- [B -/
def k8 : Class := { plain "[B" (some 0) with kind := .array 7 .byte, interfaces := #[5, 6], accessFlags := 1041 }

/-- the primitive int -/
def k9 : Class := { plain "int" none with kind := .primitive 'I', accessFlags := 0x411 }
/-- [I -/
def k10 : Class := { plain "[I" (some 0) with kind := .array 9 .int, interfaces := #[5, 6], accessFlags := 1041 }

def heap : Heap := #[]
def classes : Array Class := #[k0, k1, k2, k3, k4, k5, k6, k7, k8, k9, k10]
def interned : List (Array UInt16 × Addr) := []
def slotsUsed : Nat := 0
def theMethod : MethodId := ⟨1, 1⟩
def args0 : Array Value := #[.int 5, .int 7, .int 3, .int 4, .int 9]
def aboutOver (below : List Frame) : State where
  vm := { classes := classes, interned := interned.toArray }
  heap := heap
  slotsUsed := slotsUsed
  threads := #[{ frames := .invoking theMethod args0 :: below }]
def below0 : List Frame := [.native { method := ⟨0, 0⟩, args := #[] }]
def about1 : State := aboutOver below0
def p0 : Program := .bare "" "" ""
def e0 : Env := launch0.env 0 0 0
theorem w_frames : about1.frames = Frame.invoking theMethod args0 :: below0 := rfl
set_option maxRecDepth 65536 in
theorem w_args : argsFit about1.vm theMethod args0 = true := by decide +kernel
set_option maxRecDepth 65536 in
theorem w_heap : heapFits about1 = true := by decide +kernel
set_option maxRecDepth 65536 in
theorem w_runnable : about1.curStatus? = some .runnable := by decide +kernel
set_option maxRecDepth 65536 in
theorem w_alone : about1.alone = true := by decide +kernel
set_option maxRecDepth 65536 in
theorem w_named : about1.methodNamed? x = some theMethod := by decide +kernel
set_option maxRecDepth 65536 in
theorem w_hears : about1.hears theMethod below0 = true := by decide +kernel
set_option maxRecDepth 65536 in
theorem w_ripe : about1.ripe theMethod args0 below0 = true := by decide +kernel
theorem w_running : about1.status = .running := rfl
set_option maxRecDepth 65536 in
theorem w_room : about1.hasRoom e0.platform room_1 = true :=
  launch0.hasRoom_least _ room_1 (by decide +kernel) (by decide +kernel) (by decide +kernel) (by decide +kernel) (by decide +kernel) (by decide +kernel)
theorem allAtoms_all (ts : List Jvm.Cond) (a : Array Jvm.Value) (st : Jvm.State) : (allAtoms ts).before a st = ts.all (fun c => c.before a st) := by
  induction ts with
  | nil => rfl
  | cons c t ih =>
    show (Jvm.Cond.and c (allAtoms t)).before a st = _
    rw [Jvm.Cond.before_and, ih, List.all_cons]
def words1 : List Jvm.Cond := Jvm.Cond.code x code maxLocals ret :: tables_1
/-- a 'code' word, met by the world's own term for the bytes: nothing is compared byte by byte -/
theorem code_word {y : MethodName} {bytes : ByteArray} {mx : Nat} {rt : Option FieldType} {a : Array Value} {s : State} {m : MethodId} {meth : Method} {c : Code} (h1 : s.methodNamed? y = some m) (h2 : s.vm.method? m = some meth) (h3 : meth.code = some c) (h4 : c.code = bytes)
    (h5 : (c.maxLocals == mx && c.exceptionTable.isEmpty && decide (c.maxStack ≤ mostOperands) && decide (meth.sig.returnType = rt) && !meth.locks && decide (parseMethodDescriptor y.desc = some meth.sig)) = true) : (Jvm.Cond.code y bytes mx rt).before a s = true := by
  simp only [Bool.and_eq_true, beq_iff_eq, Bool.not_eq_true', decide_eq_true_eq] at h5
  obtain ⟨⟨⟨⟨⟨g1, g2⟩, g3⟩, g4⟩, g5⟩, g6⟩ := h5
  simp [Cond.before, Cond.holds, Cond.value, h1, h2, h3, h4, g1, g2, g3, g4, g5, g6]
def isCode : Jvm.Cond → Bool
  | .code _ _ _ _ => true
  | _ => false
theorem all_split {L : List Jvm.Cond} {P : Jvm.Cond → Bool} (h1 : L.all (fun c => isCode c || P c) = true) (h2 : ∀ c ∈ L.filter isCode, P c = true) : L.all P = true := by
  refine List.all_eq_true.mpr fun c hc => ?_
  have h := List.all_eq_true.mp h1 c hc
  rcases Bool.eq_false_or_eq_true (isCode c) with hi | hi
  · exact h2 c (List.mem_filter.mpr ⟨hc, hi⟩)
  · simpa [hi] using h
set_option maxRecDepth 65536 in
theorem w_c0 : (Jvm.Cond.code x code maxLocals ret).before args0 about1 = true := code_word (m := ⟨1, 1⟩) (meth := k1m1) (c := k1c1) (by decide +kernel) rfl rfl rfl (by decide +kernel)
set_option maxRecDepth 65536 in
theorem w_c1 : (Jvm.Cond.code ({ cls := "com/example/understory/understory/games/logger/Choice$Actions", name := "<init>", desc := "([I[II[I)V" } : Jvm.MethodName) prog_12_method_1_code (5 : Nat) (Option.none : Option Jvm.ClassFile.FieldType)).before args0 about1 = true := code_word (m := ⟨4, 0⟩) (meth := k4m0) (c := k4c0) (by decide +kernel) rfl rfl rfl (by decide +kernel)
set_option maxRecDepth 65536 in
theorem w_c2 : (Jvm.Cond.code ({ cls := "java/lang/Record", name := "<init>", desc := "()V" } : Jvm.MethodName) jdk_30_method_1_code (1 : Nat) (Option.none : Option Jvm.ClassFile.FieldType)).before args0 about1 = true := code_word (m := ⟨2, 0⟩) (meth := k2m0) (c := k2c0) (by decide +kernel) rfl rfl rfl (by decide +kernel)
set_option maxRecDepth 65536 in
theorem w_c3 : (Jvm.Cond.code ({ cls := "java/lang/Object", name := "<init>", desc := "()V" } : Jvm.MethodName) object_method_1_code (1 : Nat) (Option.none : Option Jvm.ClassFile.FieldType)).before args0 about1 = true := code_word (m := ⟨0, 0⟩) (meth := k0m0) (c := k0c0) (by decide +kernel) rfl rfl rfl (by decide +kernel)
set_option maxRecDepth 65536 in
theorem w_c4 : (Jvm.Cond.code ({ cls := "com/example/understory/understory/games/logger/Choice$Actions", name := "none", desc := "()Z" } : Jvm.MethodName) prog_12_method_2_code (1 : Nat) (Option.some Jvm.ClassFile.FieldType.boolean)).before args0 about1 = true := code_word (m := ⟨4, 1⟩) (meth := k4m1) (c := k4c1) (by decide +kernel) rfl rfl rfl (by decide +kernel)
def codes1 : List Jvm.Cond := [Jvm.Cond.code x code maxLocals ret, Jvm.Cond.code ({ cls := "com/example/understory/understory/games/logger/Choice$Actions", name := "<init>", desc := "([I[II[I)V" } : Jvm.MethodName) prog_12_method_1_code (5 : Nat) (Option.none : Option Jvm.ClassFile.FieldType), Jvm.Cond.code ({ cls := "java/lang/Record", name := "<init>", desc := "()V" } : Jvm.MethodName) jdk_30_method_1_code (1 : Nat) (Option.none : Option Jvm.ClassFile.FieldType), Jvm.Cond.code ({ cls := "java/lang/Object", name := "<init>", desc := "()V" } : Jvm.MethodName) object_method_1_code (1 : Nat) (Option.none : Option Jvm.ClassFile.FieldType), Jvm.Cond.code ({ cls := "com/example/understory/understory/games/logger/Choice$Actions", name := "none", desc := "()Z" } : Jvm.MethodName) prog_12_method_2_code (1 : Nat) (Option.some Jvm.ClassFile.FieldType.boolean)]
set_option maxRecDepth 65536 in
theorem codes_eq : words1.filter isCode = codes1 := rfl
theorem w_codes : ∀ c ∈ words1.filter isCode, c.before args0 about1 = true := by
  rw [codes_eq]
  intro c hc
  simp only [codes1, List.mem_cons, List.not_mem_nil, or_false] at hc
  rcases hc with rfl | rfl | rfl | rfl | rfl
  · exact w_c0
  · exact w_c1
  · exact w_c2
  · exact w_c3
  · exact w_c4
set_option maxRecDepth 65536 in
theorem w_t1 : (words1.take 24).all (fun c => isCode c || c.before args0 about1) = true := by decide +kernel
set_option maxRecDepth 65536 in
theorem w_t2 : (words1.drop 24).all (fun c => isCode c || c.before args0 about1) = true := by decide +kernel
theorem w_tables : (allAtoms (Jvm.Cond.code x code maxLocals ret :: tables_1)).before args0 about1 = true := by
  rw [allAtoms_all]
  show words1.all (fun c => c.before args0 about1) = true
  refine all_split ?_ w_codes
  rw [← List.take_append_drop 24 words1, List.all_append, w_t1, w_t2]
  rfl
set_option maxRecDepth 65536 in
theorem w_case : (Jvm.Cond.and given_1 narrow_1).before args0 about1 = true := by decide +kernel
theorem w_applies : (headSpec (Jvm.Cond.code x code maxLocals ret :: tables_1) room_1).applies x e0.platform about1 = true :=
  (Spec.applies_iff w_frames).mpr ⟨w_running, w_runnable, w_alone, w_named, w_hears, w_ripe, w_room, w_tables⟩
theorem atStart : AtStart classFile x code maxLocals ret World_1 tables_1 room_1 Calls_1 rest_1 Pre_1 launch0 p0 e0 about1 theMethod args0 below0 :=
  ⟨lists_1, trivial, launch0.admits_env _ _ _, launch0.least_env, fairChoices_fair.cas, fairChoices_fair.clock, w_frames, w_args, w_heap, w_applies, trivial, trivial, w_case⟩
end start1
theorem witness_1 : WitnessClaimed_1 := ⟨start1.p0, start1.e0, start1.about1, start1.theMethod, start1.args0, start1.below0, start1.atStart⟩
end Jvm.Pilot.@@N@@
