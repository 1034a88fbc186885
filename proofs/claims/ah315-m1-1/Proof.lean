import JvmDerived
import JvmDerived.Pilot.@@N@@Statement
import JvmDerived.Pilot.@@N@@Code
set_option linter.unusedVariables false
set_option linter.unusedSimpArgs false
namespace Jvm.RoadKit
open Sem ClassFile Op Lib Jvm.Stand Jvm.Free Jvm.LawKit
section New
variable {p : Program} {l : Launch} {e : Env} {R : Room} {s : State} {m : MethodId} {args : Array Value} {below : List Frame} {meth : Method} {c : Code} {T : State} {locs : List Loc} {cells slots : Nat}
theorem retI (X : Stand p l e R s m args below meth c T locs cells slots) (hx : p.tables.exec = Jvm.exec) {pc : Nat} {Ls : Array Slot} {z : Int32} {rest : List Value} (hret : meth.sig.returnType = some .int) (hd : decode c.code pc = .ok (.ireturn, 1)) {fs : List Frame}
    (hl : ∀ (f : JFrame) (acts : List Action), f.method = m → f.locked = none → f.entered = [] → (doReturn e (T.setTop f) acts (some (.int z))).1 = T.setFrames fs) : Steps p.tables e below (T.setTop (mkF m pc Ls (.int z :: rest))) (T.setFrames fs) := by
  have hm' : T.vm.method? m = some meth := X.method'
  have hn : narrow .int (.int z) = .int z := rfl
  show Steps p.tables e below (T.setTop { method := m, pc := pc, locals := Ls, stack := _ :: rest, locked := none }) _
  jvm_step X.here [X.here.top, hx, hd, hm', hret, hn]
  first | (intro acts; rw [hl _ acts rfl rfl rfl]) | rw [hl _ _ rfl rfl rfl]
  exact Steps.refl _
theorem retJ (X : Stand p l e R s m args below meth c T locs cells slots) (hx : p.tables.exec = Jvm.exec) {pc : Nat} {Ls : Array Slot} {z : Int64} {rest : List Value} (hret : meth.sig.returnType = some .long) (hd : decode c.code pc = .ok (.lreturn, 1)) {fs : List Frame}
    (hl : ∀ (f : JFrame) (acts : List Action), f.method = m → f.locked = none → f.entered = [] → (doReturn e (T.setTop f) acts (some (.long z))).1 = T.setFrames fs) : Steps p.tables e below (T.setTop (mkF m pc Ls (.long z :: rest))) (T.setFrames fs) := by
  have hm' : T.vm.method? m = some meth := X.method'
  have hn : narrow .long (.long z) = .long z := rfl
  show Steps p.tables e below (T.setTop { method := m, pc := pc, locals := Ls, stack := _ :: rest, locked := none }) _
  jvm_step X.here [X.here.top, hx, hd, hm', hret, hn]
  first | (intro acts; rw [hl _ acts rfl rfl rfl]) | rw [hl _ _ rfl rfl rfl]
  exact Steps.refl _
end New
end Jvm.RoadKit
namespace Jvm.Pilot.@@N@@
open Jvm Jvm.ClassFile Sem Op Lib Jvm.Free Jvm.Stand Jvm.LawKit Jvm.RoadKit Bundle Jvm.Pilot.@@N@@.Jvm.D
/-! THE WALK's GOAL, AND ONE LAW A STEP (each in the form: where the run goes on, it ends well; so it does from here) -/
def Go (p : Program) (e : Env) (below : List Frame) (K : Outcome → State → Prop) (u : State) : Prop := ∃ s₂ o, Steps p.tables e below u s₂ ∧ s₂.status = .running ∧ Ended s₂ below o ∧ K o s₂
theorem Go.step {p : Program} {e : Env} {below : List Frame} {K : Outcome → State → Prop} {u u' : State} (h : ∀ t, Steps p.tables e below u' t → Steps p.tables e below u t) (g : Go p e below K u') : Go p e below K u := by
  obtain ⟨a, o, h1, h2⟩ := g; exact ⟨a, o, h _ h1, h2⟩
def Ends (s : State) (Q : Option Value → Heap → List Loc → Prop) (kc ks : Nat) (o : Outcome) (U : State) : Prop := ∃ v L, o = .returned v ∧ Q v U.heap L ∧ FrameEnd s o U L kc ks
/-- where the run stands, with all that a step asks -/
def Sx (Z : State) (own : String) (bytes : ByteArray) (ml : Nat) (p : Program) (l : Launch) (e : Env) (R : Room) (s : State) (m : MethodId) (args : Array Value) (below : List Frame) (meth : Method) (c : Code) (T : State) (locs : List Loc) (cells slots : Nat) (h : Heap) : Prop :=
  Stand p l e R s m args below meth c T locs cells slots ∧ p.tables.exec = Jvm.exec ∧ c.code = bytes ∧ c.maxLocals = ml ∧ s.vm.findClass own = some m.cls ∧ Z.Warmed39 s.vm ∧ T.heap = h
/-- what a method owes: called at the heap h0 with these arguments it returns, and Q holds -/
abbrev Rm (l : Launch) (Z : State) (y : MethodName) (bytes : ByteArray) (ml : Nat) (ret : Option FieldType) (ws : List Jvm.Cond) (rm : Room) (as' : Array Value) (h0 : Heap) (Q : Option Value → Heap → List Loc → Prop) : Prop :=
  MetFree l y (head1 (Jvm.Cond.code y bytes ml ret :: ws) rm) (fun a U => a = as' ∧ Z.Warmed39 U.vm ∧ U.heap = h0) (fun _ _ _ _ _ => True) (fun _ U o U' => ∃ v L, o = .returned v ∧ Q v U'.heap L ∧ FrameEnd U o U' L rm.cells rm.slots)
theorem Rm.of {l : Launch} {Z : State} {y : MethodName} {bytes : ByteArray} {ml : Nat} {ret : Option FieldType} {ws : List Jvm.Cond} {rm : Room} {as' : Array Value} {h0 : Heap} {Q : Option Value → Heap → List Loc → Prop} (hpl : plainFor y = true)
    (body : ∀ (p : Program) (e : Env) (s : State) (m : MethodId) (below : List Frame) (meth : Method) (c : Code) (T : State), Sx Z y.cls bytes ml p l e rm s m as' below meth c T [] 0 0 h0 → meth.name = y.name → meth.sig.returnType = ret → meth.locks = false → Go p e below (Ends s Q rm.cells rm.slots) (T.setTop (entryFrame m as' ml))) : Rm l Z y bytes ml ret ws rm as' h0 Q := by
  refine MetFree.of_bodySF hpl hisR ?_
  intro p e s m args below meth c s₁ Bd hml0 hP hK
  obtain ⟨rfl, hZ, hh⟩ := hP
  have X0 : Stand p l e rm s m args below meth c s₁ [] 0 0 := Stand.of_body Bd
  exact body p e s m below meth c s₁ ⟨X0, Bd.exec, Bd.bytes, hml0, findClass_of_methodNamed Bd.named, hZ, by rw [← hh, Bd.state]; rfl⟩ (name_of_methodNamed Bd.named Bd.method).1 Bd.returns (BodyLoose.notSynchronized Bd)
theorem Rm.weaken {l : Launch} {Z : State} {y : MethodName} {bytes : ByteArray} {ml : Nat} {ret : Option FieldType} {ws : List Jvm.Cond} {rm : Room} {as' : Array Value} {h0 : Heap} {Q Q' : Option Value → Heap → List Loc → Prop} (M : Rm l Z y bytes ml ret ws rm as' h0 Q) (hq : ∀ v h L, Q v h L → Q' v h L) : Rm l Z y bytes ml ret ws rm as' h0 Q' := by
  intro p e ha hc hk s m args below hf happ hP hK
  obtain ⟨n, o, h1, h2, h3, v, L, e1, q, r⟩ := M p e ha hc hk s m args below hf happ hP hK
  exact ⟨n, o, h1, h2, h3, v, L, e1, hq _ _ _ q, r⟩
/-- a boolean as an int -/
def b2i (b : Bool) : Int32 := if b then 1 else 0
theorem m1_int : (-1 : Int32).toInt = -1 := rfl
theorem b2i_t : b2i true = 1 := rfl
theorem b2i_f : b2i false = 0 := rfl
theorem nar_b2i (b : Bool) : nar .boolean (b2i b) = b2i b := by cases b <;> rfl
theorem bne {b : Bool} (h : b = true) : ¬ b2i b = 0 := by subst h; decide
theorem beq0 {b : Bool} (h : ¬ b = true) : b2i b = 0 := by simp at h; subst h; rfl
theorem Fr.one {k : Nat} {a : Addr} {sl : Nat} (g : k ≤ a) : Fr k [⟨a, sl⟩] := fun y hy => by cases List.mem_singleton.mp hy; exact g
/-- an array and all that it holds -/
def Av (Z : State) (h : Heap) (a : Addr) (ty : FieldType) (vs : List Value) : Prop := ∃ c : Cell, Arr Z h a c ty ∧ c.slots.toList = vs ∧ vs.length < 2147483648
section Facts
variable {Z : State} {h h' : Heap} {a b : Addr} {ty : FieldType} {vs : List Value} {sl : Nat} {v : Value} {ws : List Addr}
theorem Av.lt (F : Av Z h a ty vs) : a < h.size := by obtain ⟨c, A, -⟩ := F; exact A.lt
theorem Av.ext (F : Av Z h a ty vs) (E : Ext h h') : Av Z h' a ty vs := by obtain ⟨c, A, r⟩ := F; exact ⟨c, A.ext E, r⟩
theorem Av.other (F : Av Z h b ty vs) (W : Wr h h' a sl v) (q : b ≠ a) : Av Z h' b ty vs := by obtain ⟨c, A, r⟩ := F; exact ⟨c, A.other W q, r⟩
theorem Av.keep (F : Av Z h a ty vs) (K : Keep h h' ws) (q : a ∉ ws) : Av Z h' a ty vs := by obtain ⟨c, A, r⟩ := F; exact ⟨c, ⟨K.2.1 a c A.1 q, A.2⟩, r⟩
theorem Av.set (F : Av Z h a ty vs) (W : Wr h h' a sl v) : Av Z h' a ty (vs.set sl v) := by
  obtain ⟨c, A, e, r⟩ := F
  refine ⟨_, A.same W, ?_, by simpa using r⟩
  subst e
  simp [Cell.setSlot]
theorem Av.eq {vs' : List Value} (F : Av Z h a ty vs) (e : vs = vs') : Av Z h a ty vs' := e ▸ F
/-- an array of which the length is known alone -/
def AvN (Z : State) (h : Heap) (a : Addr) (ty : FieldType) (z : Int32) : Prop := ∃ vs, Av Z h a ty vs ∧ vs.length.toInt32 = z
theorem AvN.lt {z : Int32} (F : AvN Z h a ty z) : a < h.size := by obtain ⟨vs, A, -⟩ := F; exact A.lt
theorem AvN.ext {z : Int32} (F : AvN Z h a ty z) (E : Ext h h') : AvN Z h' a ty z := by obtain ⟨vs, A, r⟩ := F; exact ⟨vs, A.ext E, r⟩
theorem AvN.other {z : Int32} (F : AvN Z h b ty z) (W : Wr h h' a sl v) (q : b ≠ a) : AvN Z h' b ty z := by obtain ⟨vs, A, r⟩ := F; exact ⟨vs, A.other W q, r⟩
theorem AvN.keep {z : Int32} (F : AvN Z h a ty z) (K : Keep h h' ws) (q : a ∉ ws) : AvN Z h' a ty z := by obtain ⟨vs, A, r⟩ := F; exact ⟨vs, A.keep K q, r⟩
theorem Av.len (F : Av Z h a ty vs) : vs.length.toInt32.toInt = vs.length := by obtain ⟨_, _, _, r⟩ := F; exact len_toInt r
/-- an array over objects of the class C -/
def OvA (Z : State) (h : Heap) (a : Addr) (C : String) : Prop := ∃ cl : Cell, Arr Z h a cl (.object C) ∧ Ovr Z cl.cls C
theorem OvA.lt {C : String} (F : OvA Z h a C) : a < h.size := by obtain ⟨_, A, _⟩ := F; exact A.lt
theorem OvA.ext {C : String} (F : OvA Z h a C) (E : Ext h h') : OvA Z h' a C := by obtain ⟨cl, A, r⟩ := F; exact ⟨cl, A.ext E, r⟩
theorem OvA.keep {C : String} (F : OvA Z h a C) (K : Keep h h' ws) (q : a ∉ ws) : OvA Z h' a C := by obtain ⟨c, A, r⟩ := F; exact ⟨c, ⟨K.2.1 a c A.1 q, A.2⟩, r⟩
theorem OvA.wr {C : String} (F : OvA Z h a C) (W : Wr h h' b sl v) : OvA Z h' a C := by
  obtain ⟨cl, A, r⟩ := F
  by_cases q : a = b
  · subst q; exact ⟨_, A.same W, r⟩
  · exact ⟨cl, A.other W q, r⟩
theorem OvA.sto {C : String} (F : OvA Z h a C) (I : Ins Z h b C true) : Sto Z h a (.ref b) := by obtain ⟨cl, A, r⟩ := F; exact Sto.of A r I
theorem fit0 : ∀ v ∈ ([] : List Value), fits ty v = true := fun _ q => nomatch q
theorem fitS (q : fits ty v = true) (r : ∀ w ∈ vs, fits ty w = true) : ∀ w ∈ v :: vs, fits ty w = true := fun w hw => (List.mem_cons.mp hw).elim (fun e => e ▸ q) (r w)
theorem Sta.keep {C n d : String} (F : Sta Z h C n d v) (K : Keep h h' ws) (q : ∀ x ∈ ws, ∀ c : Cell, h[x]? = some c → c.vm.isStatics = false) : Sta Z h' C n d v := by
  obtain ⟨cf, i, k, f, st, cell, h1, h2, h3, h4, h5, h6, h7⟩ := F
  exact ⟨cf, i, k, f, st, cell, h1, h2, h3, h4, K.2.1 _ _ h5 (fun hm => by rw [q _ hm _ h5] at h6; cases h6), h6, h7⟩
end Facts
section Walk
variable {Z : State} {a0 : Array Value} {own : String} {bytes : ByteArray} {ml : Nat} {p : Program} {l : Launch} {e : Env} {R : Room} {s : State} {m : MethodId} {args : Array Value} {below : List Frame} {meth : Method} {c : Code} {T : State} {locs : List Loc} {cells slots : Nat} {h : Heap} {K : Outcome → State → Prop} {pc pc' : Nat} {Ls Ls' : Array Slot} {st : List Value}
theorem Go.lit32 {x z : Int32} (q : x = z) (k : Go p e below K (T.setTop (mkF m pc Ls (.int z :: st)))) : Go p e below K (T.setTop (mkF m pc Ls (.int x :: st))) := q ▸ k
theorem Go.lit64 {x z : Int64} (q : x = z) (k : Go p e below K (T.setTop (mkF m pc Ls (.long z :: st)))) : Go p e below K (T.setTop (mkF m pc Ls (.long x :: st))) := q ▸ k
theorem Go.at_ {f f' : JFrame} (q : f = f') (k : Go p e below K (T.setTop f')) : Go p e below K (T.setTop f) := q ▸ k
theorem g_iload (X : Sx Z own bytes ml p l e R s m args below meth c T locs cells slots h) {i : Nat} {v : Int32} (hd : decode bytes pc = .ok (.iload i, 2)) (hp : pc + 2 = pc') (hl : Ls[i]? = some (.val (.int v))) (k : Go p e below K (T.setTop (mkF m pc' Ls (.int v :: st)))) : Go p e below K (T.setTop (mkF m pc Ls (st))) := by
  subst hp; exact Go.step (fun t q => XS.iload X.1.here X.2.1 rfl (hb X.2.2.1 hd) hl q) k
theorem g_iloadN (X : Sx Z own bytes ml p l e R s m args below meth c T locs cells slots h) {i : Fin 4} {v : Int32} (hd : decode bytes pc = .ok (.iload_n i, 1)) (hp : pc + 1 = pc') (hl : Ls[i.val]? = some (.val (.int v))) (k : Go p e below K (T.setTop (mkF m pc' Ls (.int v :: st)))) : Go p e below K (T.setTop (mkF m pc Ls (st))) := by
  subst hp; exact Go.step (fun t q => XS.iloadN X.1.here X.2.1 rfl (hb X.2.2.1 hd) hl q) k
theorem g_lload (X : Sx Z own bytes ml p l e R s m args below meth c T locs cells slots h) {i : Nat} {v : Int64} (hd : decode bytes pc = .ok (.lload i, 2)) (hp : pc + 2 = pc') (hl : Ls[i]? = some (.val (.long v))) (k : Go p e below K (T.setTop (mkF m pc' Ls (.long v :: st)))) : Go p e below K (T.setTop (mkF m pc Ls (st))) := by
  subst hp; exact Go.step (fun t q => XS.lload X.1.here X.2.1 rfl (hb X.2.2.1 hd) hl q) k
theorem g_lloadN (X : Sx Z own bytes ml p l e R s m args below meth c T locs cells slots h) {i : Fin 4} {v : Int64} (hd : decode bytes pc = .ok (.lload_n i, 1)) (hp : pc + 1 = pc') (hl : Ls[i.val]? = some (.val (.long v))) (k : Go p e below K (T.setTop (mkF m pc' Ls (.long v :: st)))) : Go p e below K (T.setTop (mkF m pc Ls (st))) := by
  subst hp; exact Go.step (fun t q => XS.lloadN X.1.here X.2.1 rfl (hb X.2.2.1 hd) hl q) k
theorem g_aload (X : Sx Z own bytes ml p l e R s m args below meth c T locs cells slots h) {i : Nat} {v : Value} (hd : decode bytes pc = .ok (.aload i, 2)) (hp : pc + 2 = pc') (hl : Ls[i]? = some (.val v)) (hv : v.isRef = true) (k : Go p e below K (T.setTop (mkF m pc' Ls (v :: st)))) : Go p e below K (T.setTop (mkF m pc Ls (st))) := by
  subst hp; exact Go.step (fun t q => XS.aload X.1.here X.2.1 rfl (hb X.2.2.1 hd) hl hv q) k
theorem g_aloadN (X : Sx Z own bytes ml p l e R s m args below meth c T locs cells slots h) {i : Fin 4} {v : Value} (hd : decode bytes pc = .ok (.aload_n i, 1)) (hp : pc + 1 = pc') (hl : Ls[i.val]? = some (.val v)) (hv : v.isRef = true) (k : Go p e below K (T.setTop (mkF m pc' Ls (v :: st)))) : Go p e below K (T.setTop (mkF m pc Ls (st))) := by
  subst hp; exact Go.step (fun t q => XS.aloadN X.1.here X.2.1 rfl (hb X.2.2.1 hd) hl hv q) k
theorem g_istore (X : Sx Z own bytes ml p l e R s m args below meth c T locs cells slots h) {i : Nat} {v : Int32} (hd : decode bytes pc = .ok (.istore i, 2)) (hp : pc + 2 = pc') (hl : storeLocals Ls i (.int v) = some Ls') (k : Go p e below K (T.setTop (mkF m pc' Ls' (st)))) : Go p e below K (T.setTop (mkF m pc Ls (.int v :: st))) := by
  subst hp; exact Go.step (fun t q => XS.istore X.1.here X.2.1 rfl (hb X.2.2.1 hd) rfl hl q) k
theorem g_istoreN (X : Sx Z own bytes ml p l e R s m args below meth c T locs cells slots h) {i : Fin 4} {v : Int32} (hd : decode bytes pc = .ok (.istore_n i, 1)) (hp : pc + 1 = pc') (hl : storeLocals Ls i.val (.int v) = some Ls') (k : Go p e below K (T.setTop (mkF m pc' Ls' (st)))) : Go p e below K (T.setTop (mkF m pc Ls (.int v :: st))) := by
  subst hp; exact Go.step (fun t q => XS.istoreN X.1.here X.2.1 rfl (hb X.2.2.1 hd) rfl hl q) k
theorem g_lstore (X : Sx Z own bytes ml p l e R s m args below meth c T locs cells slots h) {i : Nat} {v : Int64} (hd : decode bytes pc = .ok (.lstore i, 2)) (hp : pc + 2 = pc') (hl : storeLocals Ls i (.long v) = some Ls') (k : Go p e below K (T.setTop (mkF m pc' Ls' (st)))) : Go p e below K (T.setTop (mkF m pc Ls (.long v :: st))) := by
  subst hp; exact Go.step (fun t q => XS.lstore X.1.here X.2.1 rfl (hb X.2.2.1 hd) rfl hl q) k
theorem g_lstoreN (X : Sx Z own bytes ml p l e R s m args below meth c T locs cells slots h) {i : Fin 4} {v : Int64} (hd : decode bytes pc = .ok (.lstore_n i, 1)) (hp : pc + 1 = pc') (hl : storeLocals Ls i.val (.long v) = some Ls') (k : Go p e below K (T.setTop (mkF m pc' Ls' (st)))) : Go p e below K (T.setTop (mkF m pc Ls (.long v :: st))) := by
  subst hp; exact Go.step (fun t q => XS.lstoreN X.1.here X.2.1 rfl (hb X.2.2.1 hd) rfl hl q) k
theorem g_astore (X : Sx Z own bytes ml p l e R s m args below meth c T locs cells slots h) {i : Nat} {v : Value} (hd : decode bytes pc = .ok (.astore i, 2)) (hp : pc + 2 = pc') (hv : v.isRef = true) (hl : storeLocals Ls i v = some Ls') (k : Go p e below K (T.setTop (mkF m pc' Ls' (st)))) : Go p e below K (T.setTop (mkF m pc Ls (v :: st))) := by
  subst hp; exact Go.step (fun t q => XS.astore X.1.here X.2.1 rfl (hb X.2.2.1 hd) rfl hv hl q) k
theorem g_astoreN (X : Sx Z own bytes ml p l e R s m args below meth c T locs cells slots h) {i : Fin 4} {v : Value} (hd : decode bytes pc = .ok (.astore_n i, 1)) (hp : pc + 1 = pc') (hv : v.isRef = true) (hl : storeLocals Ls i.val v = some Ls') (k : Go p e below K (T.setTop (mkF m pc' Ls' (st)))) : Go p e below K (T.setTop (mkF m pc Ls (v :: st))) := by
  subst hp; exact Go.step (fun t q => XS.astoreN X.1.here X.2.1 rfl (hb X.2.2.1 hd) rfl hv hl q) k
theorem g_iconst (X : Sx Z own bytes ml p l e R s m args below meth c T locs cells slots h) {i : Int} (v : Int32) (hd : decode bytes pc = .ok (.iconst i, 1)) (hp : pc + 1 = pc') (hv : Int32.ofInt i = v) (k : Go p e below K (T.setTop (mkF m pc' Ls (.int v :: st)))) : Go p e below K (T.setTop (mkF m pc Ls (st))) := by
  subst hv; subst hp; exact Go.step (fun t q => XS.iconst X.1.here X.2.1 rfl (hb X.2.2.1 hd)  q) k
theorem g_bipush (X : Sx Z own bytes ml p l e R s m args below meth c T locs cells slots h) {i : Int} (v : Int32) (hd : decode bytes pc = .ok (.bipush i, 2)) (hp : pc + 2 = pc') (hv : (Int8.ofInt i).toInt32 = v) (k : Go p e below K (T.setTop (mkF m pc' Ls (.int v :: st)))) : Go p e below K (T.setTop (mkF m pc Ls (st))) := by
  subst hv; subst hp; exact Go.step (fun t q => XS.bipush X.1.here X.2.1 rfl (hb X.2.2.1 hd)  q) k
theorem g_sipush (X : Sx Z own bytes ml p l e R s m args below meth c T locs cells slots h) {i : Int} (v : Int32) (hd : decode bytes pc = .ok (.sipush i, 3)) (hp : pc + 3 = pc') (hv : (Int16.ofInt i).toInt32 = v) (k : Go p e below K (T.setTop (mkF m pc' Ls (.int v :: st)))) : Go p e below K (T.setTop (mkF m pc Ls (st))) := by
  subst hv; subst hp; exact Go.step (fun t q => XS.sipush X.1.here X.2.1 rfl (hb X.2.2.1 hd)  q) k
theorem g_lconst (X : Sx Z own bytes ml p l e R s m args below meth c T locs cells slots h) {i : Fin 2} (v : Int64) (hd : decode bytes pc = .ok (.lconst i, 1)) (hp : pc + 1 = pc') (hv : Int64.ofNat i = v) (k : Go p e below K (T.setTop (mkF m pc' Ls (.long v :: st)))) : Go p e below K (T.setTop (mkF m pc Ls (st))) := by
  subst hv; subst hp; exact Go.step (fun t q => XS.lconst X.1.here X.2.1 rfl (hb X.2.2.1 hd)  q) k
theorem g_aconst_null (X : Sx Z own bytes ml p l e R s m args below meth c T locs cells slots h) (hd : decode bytes pc = .ok (.aconst_null, 1)) (hp : pc + 1 = pc') (k : Go p e below K (T.setTop (mkF m pc' Ls (.null :: st)))) : Go p e below K (T.setTop (mkF m pc Ls (st))) := by
  subst hp; exact Go.step (fun t q => XS.aconstNull X.1.here X.2.1 rfl (hb X.2.2.1 hd)  q) k
theorem g_ldc (X : Sx Z own bytes ml p l e R s m args below meth c T locs cells slots h) {i : Nat} {v : Int32} (w : (Cond.constant own i v).before a0 Z = true) (hd : decode bytes pc = .ok (.ldc i, 2)) (hp : pc + 2 = pc') (k : Go p e below K (T.setTop (mkF m pc' Ls (.int v :: st)))) : Go p e below K (T.setTop (mkF m pc Ls (st))) := by
  subst hp; exact Go.step (fun t q => X.1.ldcInt X.2.1 X.2.2.2.2.1 (mvT X.2.2.2.2.2.1 w) (g := mkF m pc Ls st) rfl (hb X.2.2.1 hd) _ q) k
theorem g_ldcw (X : Sx Z own bytes ml p l e R s m args below meth c T locs cells slots h) {i : Nat} {v : Int32} (w : (Cond.constant own i v).before a0 Z = true) (hd : decode bytes pc = .ok (.ldc_w i, 3)) (hp : pc + 3 = pc') (k : Go p e below K (T.setTop (mkF m pc' Ls (.int v :: st)))) : Go p e below K (T.setTop (mkF m pc Ls (st))) := by
  subst hp; exact Go.step (fun t q => X.1.ldcwInt X.2.1 X.2.2.2.2.1 (mvT X.2.2.2.2.2.1 w) (g := mkF m pc Ls st) rfl (hb X.2.2.1 hd) _ q) k
theorem g_ldc2 (X : Sx Z own bytes ml p l e R s m args below meth c T locs cells slots h) {i : Nat} {v : Int64} (w : (Cond.constantLong own i v).before a0 Z = true) (hd : decode bytes pc = .ok (.ldc2_w i, 3)) (hp : pc + 3 = pc') (k : Go p e below K (T.setTop (mkF m pc' Ls (.long v :: st)))) : Go p e below K (T.setTop (mkF m pc Ls (st))) := by
  subst hp; exact Go.step (fun t q => X.1.ldc2Long X.2.1 X.2.2.2.2.1 (mvT X.2.2.2.2.2.1 w) (g := mkF m pc Ls st) rfl (hb X.2.2.1 hd) _ q) k
theorem g_iadd (X : Sx Z own bytes ml p l e R s m args below meth c T locs cells slots h) {x y : Int32} (hd : decode bytes pc = .ok (.iadd, 1)) (hp : pc + 1 = pc') (k : Go p e below K (T.setTop (mkF m pc' Ls (.int (x + y) :: st)))) : Go p e below K (T.setTop (mkF m pc Ls (.int y :: .int x :: st))) := by
  subst hp; exact Go.step (fun t q => XS.iadd X.1.here X.2.1 rfl (hb X.2.2.1 hd) rfl q) k
theorem g_isub (X : Sx Z own bytes ml p l e R s m args below meth c T locs cells slots h) {x y : Int32} (hd : decode bytes pc = .ok (.isub, 1)) (hp : pc + 1 = pc') (k : Go p e below K (T.setTop (mkF m pc' Ls (.int (x - y) :: st)))) : Go p e below K (T.setTop (mkF m pc Ls (.int y :: .int x :: st))) := by
  subst hp; exact Go.step (fun t q => XS.isub X.1.here X.2.1 rfl (hb X.2.2.1 hd) rfl q) k
theorem g_imul (X : Sx Z own bytes ml p l e R s m args below meth c T locs cells slots h) {x y : Int32} (hd : decode bytes pc = .ok (.imul, 1)) (hp : pc + 1 = pc') (k : Go p e below K (T.setTop (mkF m pc' Ls (.int (x * y) :: st)))) : Go p e below K (T.setTop (mkF m pc Ls (.int y :: .int x :: st))) := by
  subst hp; exact Go.step (fun t q => XS.imul X.1.here X.2.1 rfl (hb X.2.2.1 hd) rfl q) k
theorem g_iand (X : Sx Z own bytes ml p l e R s m args below meth c T locs cells slots h) {x y : Int32} (hd : decode bytes pc = .ok (.iand, 1)) (hp : pc + 1 = pc') (k : Go p e below K (T.setTop (mkF m pc' Ls (.int (x &&& y) :: st)))) : Go p e below K (T.setTop (mkF m pc Ls (.int y :: .int x :: st))) := by
  subst hp; exact Go.step (fun t q => XS.iand X.1.here X.2.1 rfl (hb X.2.2.1 hd) rfl q) k
theorem g_ior (X : Sx Z own bytes ml p l e R s m args below meth c T locs cells slots h) {x y : Int32} (hd : decode bytes pc = .ok (.ior, 1)) (hp : pc + 1 = pc') (k : Go p e below K (T.setTop (mkF m pc' Ls (.int (x ||| y) :: st)))) : Go p e below K (T.setTop (mkF m pc Ls (.int y :: .int x :: st))) := by
  subst hp; exact Go.step (fun t q => XS.ior X.1.here X.2.1 rfl (hb X.2.2.1 hd) rfl q) k
theorem g_ixor (X : Sx Z own bytes ml p l e R s m args below meth c T locs cells slots h) {x y : Int32} (hd : decode bytes pc = .ok (.ixor, 1)) (hp : pc + 1 = pc') (k : Go p e below K (T.setTop (mkF m pc' Ls (.int (x ^^^ y) :: st)))) : Go p e below K (T.setTop (mkF m pc Ls (.int y :: .int x :: st))) := by
  subst hp; exact Go.step (fun t q => XS.ixor X.1.here X.2.1 rfl (hb X.2.2.1 hd) rfl q) k
theorem g_ishl (X : Sx Z own bytes ml p l e R s m args below meth c T locs cells slots h) {x y : Int32} (hd : decode bytes pc = .ok (.ishl, 1)) (hp : pc + 1 = pc') (k : Go p e below K (T.setTop (mkF m pc' Ls (.int (x <<< (y &&& 31)) :: st)))) : Go p e below K (T.setTop (mkF m pc Ls (.int y :: .int x :: st))) := by
  subst hp; exact Go.step (fun t q => XS.ishl X.1.here X.2.1 rfl (hb X.2.2.1 hd) rfl q) k
theorem g_ishr (X : Sx Z own bytes ml p l e R s m args below meth c T locs cells slots h) {x y : Int32} (hd : decode bytes pc = .ok (.ishr, 1)) (hp : pc + 1 = pc') (k : Go p e below K (T.setTop (mkF m pc' Ls (.int (x >>> (y &&& 31)) :: st)))) : Go p e below K (T.setTop (mkF m pc Ls (.int y :: .int x :: st))) := by
  subst hp; exact Go.step (fun t q => XS.ishr X.1.here X.2.1 rfl (hb X.2.2.1 hd) rfl q) k
theorem g_iushr (X : Sx Z own bytes ml p l e R s m args below meth c T locs cells slots h) {x y : Int32} (hd : decode bytes pc = .ok (.iushr, 1)) (hp : pc + 1 = pc') (k : Go p e below K (T.setTop (mkF m pc' Ls (.int ((x.toUInt32 >>> (y &&& 31).toUInt32).toInt32) :: st)))) : Go p e below K (T.setTop (mkF m pc Ls (.int y :: .int x :: st))) := by
  subst hp; exact Go.step (fun t q => XS.iushr X.1.here X.2.1 rfl (hb X.2.2.1 hd) rfl q) k
theorem g_idiv (X : Sx Z own bytes ml p l e R s m args below meth c T locs cells slots h) {x y : Int32} (hd : decode bytes pc = .ok (.idiv, 1)) (hp : pc + 1 = pc') (hy : y ≠ 0) (k : Go p e below K (T.setTop (mkF m pc' Ls (.int (x / y) :: st)))) : Go p e below K (T.setTop (mkF m pc Ls (.int y :: .int x :: st))) := by
  subst hp; exact Go.step (fun t q => XS.idiv X.1.here X.2.1 rfl (hb X.2.2.1 hd) rfl hy q) k
theorem g_irem (X : Sx Z own bytes ml p l e R s m args below meth c T locs cells slots h) {x y : Int32} (hd : decode bytes pc = .ok (.irem, 1)) (hp : pc + 1 = pc') (hy : y ≠ 0) (k : Go p e below K (T.setTop (mkF m pc' Ls (.int (x % y) :: st)))) : Go p e below K (T.setTop (mkF m pc Ls (.int y :: .int x :: st))) := by
  subst hp; exact Go.step (fun t q => iremM (g := mkF m pc Ls (.int y :: .int x :: st)) X.1 X.2.1 rfl (hb X.2.2.1 hd) rfl hy q) k
theorem g_ladd (X : Sx Z own bytes ml p l e R s m args below meth c T locs cells slots h) {x y : Int64} (hd : decode bytes pc = .ok (.ladd, 1)) (hp : pc + 1 = pc') (k : Go p e below K (T.setTop (mkF m pc' Ls (.long (x + y) :: st)))) : Go p e below K (T.setTop (mkF m pc Ls (.long y :: .long x :: st))) := by
  subst hp; exact Go.step (fun t q => XS.ladd X.1.here X.2.1 rfl (hb X.2.2.1 hd) rfl q) k
theorem g_lsub (X : Sx Z own bytes ml p l e R s m args below meth c T locs cells slots h) {x y : Int64} (hd : decode bytes pc = .ok (.lsub, 1)) (hp : pc + 1 = pc') (k : Go p e below K (T.setTop (mkF m pc' Ls (.long (x - y) :: st)))) : Go p e below K (T.setTop (mkF m pc Ls (.long y :: .long x :: st))) := by
  subst hp; exact Go.step (fun t q => XS.lsub X.1.here X.2.1 rfl (hb X.2.2.1 hd) rfl q) k
theorem g_lmul (X : Sx Z own bytes ml p l e R s m args below meth c T locs cells slots h) {x y : Int64} (hd : decode bytes pc = .ok (.lmul, 1)) (hp : pc + 1 = pc') (k : Go p e below K (T.setTop (mkF m pc' Ls (.long (x * y) :: st)))) : Go p e below K (T.setTop (mkF m pc Ls (.long y :: .long x :: st))) := by
  subst hp; exact Go.step (fun t q => XS.lmul X.1.here X.2.1 rfl (hb X.2.2.1 hd) rfl q) k
theorem g_land (X : Sx Z own bytes ml p l e R s m args below meth c T locs cells slots h) {x y : Int64} (hd : decode bytes pc = .ok (.land, 1)) (hp : pc + 1 = pc') (k : Go p e below K (T.setTop (mkF m pc' Ls (.long (x &&& y) :: st)))) : Go p e below K (T.setTop (mkF m pc Ls (.long y :: .long x :: st))) := by
  subst hp; exact Go.step (fun t q => XS.land X.1.here X.2.1 rfl (hb X.2.2.1 hd) rfl q) k
theorem g_lor (X : Sx Z own bytes ml p l e R s m args below meth c T locs cells slots h) {x y : Int64} (hd : decode bytes pc = .ok (.lor, 1)) (hp : pc + 1 = pc') (k : Go p e below K (T.setTop (mkF m pc' Ls (.long (x ||| y) :: st)))) : Go p e below K (T.setTop (mkF m pc Ls (.long y :: .long x :: st))) := by
  subst hp; exact Go.step (fun t q => XS.lor X.1.here X.2.1 rfl (hb X.2.2.1 hd) rfl q) k
theorem g_lxor (X : Sx Z own bytes ml p l e R s m args below meth c T locs cells slots h) {x y : Int64} (hd : decode bytes pc = .ok (.lxor, 1)) (hp : pc + 1 = pc') (k : Go p e below K (T.setTop (mkF m pc' Ls (.long (x ^^^ y) :: st)))) : Go p e below K (T.setTop (mkF m pc Ls (.long y :: .long x :: st))) := by
  subst hp; exact Go.step (fun t q => XS.lxor X.1.here X.2.1 rfl (hb X.2.2.1 hd) rfl q) k
theorem g_lshl (X : Sx Z own bytes ml p l e R s m args below meth c T locs cells slots h) {x : Int64} {y : Int32} (hd : decode bytes pc = .ok (.lshl, 1)) (hp : pc + 1 = pc') (k : Go p e below K (T.setTop (mkF m pc' Ls (.long (x <<< (y &&& 0x3f).toInt64) :: st)))) : Go p e below K (T.setTop (mkF m pc Ls (.int y :: .long x :: st))) := by
  subst hp; exact Go.step (fun t q => XS.lshl X.1.here X.2.1 rfl (hb X.2.2.1 hd) rfl q) k
theorem g_lshr (X : Sx Z own bytes ml p l e R s m args below meth c T locs cells slots h) {x : Int64} {y : Int32} (hd : decode bytes pc = .ok (.lshr, 1)) (hp : pc + 1 = pc') (k : Go p e below K (T.setTop (mkF m pc' Ls (.long (x >>> (y &&& 0x3f).toInt64) :: st)))) : Go p e below K (T.setTop (mkF m pc Ls (.int y :: .long x :: st))) := by
  subst hp; exact Go.step (fun t q => XS.lshr X.1.here X.2.1 rfl (hb X.2.2.1 hd) rfl q) k
theorem g_lushr (X : Sx Z own bytes ml p l e R s m args below meth c T locs cells slots h) {x : Int64} {y : Int32} (hd : decode bytes pc = .ok (.lushr, 1)) (hp : pc + 1 = pc') (k : Go p e below K (T.setTop (mkF m pc' Ls (.long ((x.toUInt64 >>> (y &&& 0x3f).toInt64.toUInt64).toInt64) :: st)))) : Go p e below K (T.setTop (mkF m pc Ls (.int y :: .long x :: st))) := by
  subst hp; exact Go.step (fun t q => XS.lushr X.1.here X.2.1 rfl (hb X.2.2.1 hd) rfl q) k
theorem g_ldiv (X : Sx Z own bytes ml p l e R s m args below meth c T locs cells slots h) {x y : Int64} (hd : decode bytes pc = .ok (.ldiv, 1)) (hp : pc + 1 = pc') (hy : y ≠ 0) (k : Go p e below K (T.setTop (mkF m pc' Ls (.long (x / y) :: st)))) : Go p e below K (T.setTop (mkF m pc Ls (.long y :: .long x :: st))) := by
  subst hp; exact Go.step (fun t q => XS.ldiv X.1.here X.2.1 rfl (hb X.2.2.1 hd) rfl hy q) k
theorem g_lrem (X : Sx Z own bytes ml p l e R s m args below meth c T locs cells slots h) {x y : Int64} (hd : decode bytes pc = .ok (.lrem, 1)) (hp : pc + 1 = pc') (hy : y ≠ 0) (k : Go p e below K (T.setTop (mkF m pc' Ls (.long (x % y) :: st)))) : Go p e below K (T.setTop (mkF m pc Ls (.long y :: .long x :: st))) := by
  rw [← lrem_mod] at k; subst hp; exact Go.step (fun t q => XS.lrem X.1.here X.2.1 rfl (hb X.2.2.1 hd) rfl hy q) k
theorem g_lcmp (X : Sx Z own bytes ml p l e R s m args below meth c T locs cells slots h) {x y : Int64} (hd : decode bytes pc = .ok (.lcmp, 1)) (hp : pc + 1 = pc') (k : Go p e below K (T.setTop (mkF m pc' Ls (.int (lcmpW x y) :: st)))) : Go p e below K (T.setTop (mkF m pc Ls (.long y :: .long x :: st))) := by
  subst hp; exact Go.step (fun t q => XS.lcmp X.1.here X.2.1 rfl (hb X.2.2.1 hd) rfl q) k
theorem g_ineg (X : Sx Z own bytes ml p l e R s m args below meth c T locs cells slots h) {x : Int32} (hd : decode bytes pc = .ok (.ineg, 1)) (hp : pc + 1 = pc') (k : Go p e below K (T.setTop (mkF m pc' Ls (.int (-x) :: st)))) : Go p e below K (T.setTop (mkF m pc Ls (.int x :: st))) := by
  subst hp; exact Go.step (fun t q => XS.ineg X.1.here X.2.1 rfl (hb X.2.2.1 hd) rfl q) k
theorem g_i2b (X : Sx Z own bytes ml p l e R s m args below meth c T locs cells slots h) {x : Int32} (hd : decode bytes pc = .ok (.i2b, 1)) (hp : pc + 1 = pc') (k : Go p e below K (T.setTop (mkF m pc' Ls (.int (x.toInt8.toInt32) :: st)))) : Go p e below K (T.setTop (mkF m pc Ls (.int x :: st))) := by
  subst hp; exact Go.step (fun t q => XS.i2b X.1.here X.2.1 rfl (hb X.2.2.1 hd) rfl q) k
theorem g_i2c (X : Sx Z own bytes ml p l e R s m args below meth c T locs cells slots h) {x : Int32} (hd : decode bytes pc = .ok (.i2c, 1)) (hp : pc + 1 = pc') (k : Go p e below K (T.setTop (mkF m pc' Ls (.int (x.toUInt32.toUInt16.toUInt32.toInt32) :: st)))) : Go p e below K (T.setTop (mkF m pc Ls (.int x :: st))) := by
  subst hp; exact Go.step (fun t q => XS.i2c X.1.here X.2.1 rfl (hb X.2.2.1 hd) rfl q) k
theorem g_i2s (X : Sx Z own bytes ml p l e R s m args below meth c T locs cells slots h) {x : Int32} (hd : decode bytes pc = .ok (.i2s, 1)) (hp : pc + 1 = pc') (k : Go p e below K (T.setTop (mkF m pc' Ls (.int (x.toInt16.toInt32) :: st)))) : Go p e below K (T.setTop (mkF m pc Ls (.int x :: st))) := by
  subst hp; exact Go.step (fun t q => XS.i2s X.1.here X.2.1 rfl (hb X.2.2.1 hd) rfl q) k
theorem g_i2l (X : Sx Z own bytes ml p l e R s m args below meth c T locs cells slots h) {x : Int32} (hd : decode bytes pc = .ok (.i2l, 1)) (hp : pc + 1 = pc') (k : Go p e below K (T.setTop (mkF m pc' Ls (.long (x.toInt64) :: st)))) : Go p e below K (T.setTop (mkF m pc Ls (.int x :: st))) := by
  subst hp; exact Go.step (fun t q => XS.i2l X.1.here X.2.1 rfl (hb X.2.2.1 hd) rfl q) k
theorem g_l2i (X : Sx Z own bytes ml p l e R s m args below meth c T locs cells slots h) {x : Int64} (hd : decode bytes pc = .ok (.l2i, 1)) (hp : pc + 1 = pc') (k : Go p e below K (T.setTop (mkF m pc' Ls (.int (x.toInt32) :: st)))) : Go p e below K (T.setTop (mkF m pc Ls (.long x :: st))) := by
  subst hp; exact Go.step (fun t q => XS.l2i X.1.here X.2.1 rfl (hb X.2.2.1 hd) rfl q) k
theorem g_lneg (X : Sx Z own bytes ml p l e R s m args below meth c T locs cells slots h) {x : Int64} (hd : decode bytes pc = .ok (.lneg, 1)) (hp : pc + 1 = pc') (k : Go p e below K (T.setTop (mkF m pc' Ls (.long (-x) :: st)))) : Go p e below K (T.setTop (mkF m pc Ls (.long x :: st))) := by
  subst hp; exact Go.step (fun t q => XS.lneg X.1.here X.2.1 rfl (hb X.2.2.1 hd) rfl q) k
theorem g_iinc (X : Sx Z own bytes ml p l e R s m args below meth c T locs cells slots h) {i : Nat} {q x : Int32} {n : Int} (hd : decode bytes pc = .ok (.iinc i n, 3)) (hp : pc + 3 = pc') (hq : Int32.ofInt n = q) (hl : Ls[i]? = some (.val (.int x))) (hl' : storeLocals Ls i (.int (x + q)) = some Ls') (k : Go p e below K (T.setTop (mkF m pc' Ls' (st)))) : Go p e below K (T.setTop (mkF m pc Ls (st))) := by
  subst hq; subst hp; exact Go.step (fun t q => XS.iinc X.1.here X.2.1 rfl (hb X.2.2.1 hd) hl hl' q) k
theorem g_dup (X : Sx Z own bytes ml p l e R s m args below meth c T locs cells slots h) {v : Value} (hd : decode bytes pc = .ok (.dup, 1)) (hp : pc + 1 = pc') (hc : v.category = 1) (k : Go p e below K (T.setTop (mkF m pc' Ls (v :: v :: st)))) : Go p e below K (T.setTop (mkF m pc Ls (v :: st))) := by
  subst hp; exact Go.step (fun t q => XS.dup X.1.here X.2.1 rfl (hb X.2.2.1 hd) rfl hc q) k
theorem g_pop (X : Sx Z own bytes ml p l e R s m args below meth c T locs cells slots h) {v : Value} (hd : decode bytes pc = .ok (.pop, 1)) (hp : pc + 1 = pc') (hc : v.category = 1) (k : Go p e below K (T.setTop (mkF m pc' Ls (st)))) : Go p e below K (T.setTop (mkF m pc Ls (v :: st))) := by
  subst hp; exact Go.step (fun t q => XS.pop X.1.here X.2.1 rfl (hb X.2.2.1 hd) rfl hc q) k
theorem g_dup_x1 (X : Sx Z own bytes ml p l e R s m args below meth c T locs cells slots h) {v w : Value} (hd : decode bytes pc = .ok (.dup_x1, 1)) (hp : pc + 1 = pc') (hc : v.category = 1) (hc' : w.category = 1) (k : Go p e below K (T.setTop (mkF m pc' Ls (v :: w :: v :: st)))) : Go p e below K (T.setTop (mkF m pc Ls (v :: w :: st))) := by
  subst hp; exact Go.step (fun t q => XS.dupX1 X.1.here X.2.1 rfl (hb X.2.2.1 hd) rfl hc hc' q) k
theorem g_dup2 (X : Sx Z own bytes ml p l e R s m args below meth c T locs cells slots h) {v w : Value} (hd : decode bytes pc = .ok (.dup2, 1)) (hp : pc + 1 = pc') (hc : v.category = 1) (hc' : w.category = 1) (k : Go p e below K (T.setTop (mkF m pc' Ls (v :: w :: v :: w :: st)))) : Go p e below K (T.setTop (mkF m pc Ls (v :: w :: st))) := by
  subst hp; exact Go.step (fun t q => Jvm.Free.XT.dup2 X.1.here X.2.1 rfl (hb X.2.2.1 hd) rfl hc hc' q) k
theorem g_dup2L (X : Sx Z own bytes ml p l e R s m args below meth c T locs cells slots h) {v : Int64} (hd : decode bytes pc = .ok (.dup2, 1)) (hp : pc + 1 = pc') (k : Go p e below K (T.setTop (mkF m pc' Ls (.long v :: .long v :: st)))) : Go p e below K (T.setTop (mkF m pc Ls (.long v :: st))) := by
  subst hp; exact Go.step (fun t q => Jvm.Free.XT.dup2L X.1.here X.2.1 rfl (hb X.2.2.1 hd) rfl q) k
theorem g_dload (X : Sx Z own bytes ml p l e R s m args below meth c T locs cells slots h) {i : Nat} {v : UInt64} (hd : decode bytes pc = .ok (.dload i, 2)) (hp : pc + 2 = pc') (hl : Ls[i]? = some (.val (.double v))) (k : Go p e below K (T.setTop (mkF m pc' Ls (.double v :: st)))) : Go p e below K (T.setTop (mkF m pc Ls (st))) := by
  subst hp; exact Go.step (fun t q => XS.dload X.1.here X.2.1 rfl (hb X.2.2.1 hd) hl q) k
theorem g_dloadN (X : Sx Z own bytes ml p l e R s m args below meth c T locs cells slots h) {i : Fin 4} {v : UInt64} (hd : decode bytes pc = .ok (.dload_n i, 1)) (hp : pc + 1 = pc') (hl : Ls[i.val]? = some (.val (.double v))) (k : Go p e below K (T.setTop (mkF m pc' Ls (.double v :: st)))) : Go p e below K (T.setTop (mkF m pc Ls (st))) := by
  subst hp; exact Go.step (fun t q => XS.dloadN X.1.here X.2.1 rfl (hb X.2.2.1 hd) hl q) k
theorem g_i2d (X : Sx Z own bytes ml p l e R s m args below meth c T locs cells slots h) {x : Int32} (hd : decode bytes pc = .ok (.i2d, 1)) (hp : pc + 1 = pc') (k : Go p e below K (T.setTop (mkF m pc' Ls (.double (FP.i2d x) :: st)))) : Go p e below K (T.setTop (mkF m pc Ls (.int x :: st))) := by
  subst hp; exact Go.step (fun t q => XS.i2dS X.1.here X.2.1 rfl (hb X.2.2.1 hd) rfl rfl q) k
theorem g_dcmp (X : Sx Z own bytes ml p l e R s m args below meth c T locs cells slots h) {o : CmpOp} {x y : UInt64} (hd : decode bytes pc = .ok (.dcmp o, 1)) (hp : pc + 1 = pc') (k : ∀ v : Int32, Go p e below K (T.setTop (mkF m pc' Ls (.int v :: st)))) : Go p e below K (T.setTop (mkF m pc Ls (.double y :: .double x :: st))) := by
  subst hp; exact Go.step (fun t q => XS.dcmpS X.1.here X.2.1 rfl (hb X.2.2.1 hd) rfl rfl q) (k _)
theorem g_goto (X : Sx Z own bytes ml p l e R s m args below meth c T locs cells slots h) {o : Int} (hd : decode bytes pc = .ok (.goto o, 3)) (ho : 0 ≤ (pc : Int) + o) (hp : ((pc : Int) + o).toNat = pc') (k : Go p e below K (T.setTop (mkF m pc' Ls (st)))) : Go p e below K (T.setTop (mkF m pc Ls (st))) := by
  exact Go.step (fun t q => XS.goto X.1.here X.2.1 rfl rfl (hb X.2.2.1 hd) ho hp q) k
theorem g_ifY (X : Sx Z own bytes ml p l e R s m args below meth c T locs cells slots h) {cd : ClassFile.Cond} {x : Int32} {o : Int} (hd : decode bytes pc = .ok (.ifCond cd o, 3)) (hc : ifCond.holds cd x = true) (ho : 0 ≤ (pc : Int) + o) (hp : ((pc : Int) + o).toNat = pc') (k : Go p e below K (T.setTop (mkF m pc' Ls (st)))) : Go p e below K (T.setTop (mkF m pc Ls (.int x :: st))) := by
  exact Go.step (fun t q => XS.ifYes X.1.here X.2.1 rfl rfl (hb X.2.2.1 hd) rfl hc ho hp q) k
theorem g_ifN (X : Sx Z own bytes ml p l e R s m args below meth c T locs cells slots h) {cd : ClassFile.Cond} {x : Int32} {o : Int} (hd : decode bytes pc = .ok (.ifCond cd o, 3)) (hc : ifCond.holds cd x = false) (hp : pc + 3 = pc') (k : Go p e below K (T.setTop (mkF m pc' Ls (st)))) : Go p e below K (T.setTop (mkF m pc Ls (.int x :: st))) := by
  subst hp; exact Go.step (fun t q => XS.ifNo X.1.here X.2.1 rfl (hb X.2.2.1 hd) rfl hc q) k
theorem g_icY (X : Sx Z own bytes ml p l e R s m args below meth c T locs cells slots h) {cd : ClassFile.Cond} {x y : Int32} {o : Int} (hd : decode bytes pc = .ok (.if_icmp cd o, 3)) (hc : if_icmp.holds cd x y = true) (ho : 0 ≤ (pc : Int) + o) (hp : ((pc : Int) + o).toNat = pc') (k : Go p e below K (T.setTop (mkF m pc' Ls (st)))) : Go p e below K (T.setTop (mkF m pc Ls (.int y :: .int x :: st))) := by
  exact Go.step (fun t q => XS.icmpYes X.1.here X.2.1 rfl rfl (hb X.2.2.1 hd) rfl hc ho hp q) k
theorem g_icN (X : Sx Z own bytes ml p l e R s m args below meth c T locs cells slots h) {cd : ClassFile.Cond} {x y : Int32} {o : Int} (hd : decode bytes pc = .ok (.if_icmp cd o, 3)) (hc : if_icmp.holds cd x y = false) (hp : pc + 3 = pc') (k : Go p e below K (T.setTop (mkF m pc' Ls (st)))) : Go p e below K (T.setTop (mkF m pc Ls (.int y :: .int x :: st))) := by
  subst hp; exact Go.step (fun t q => XS.icmpNo X.1.here X.2.1 rfl (hb X.2.2.1 hd) rfl hc q) k
theorem g_nullY (X : Sx Z own bytes ml p l e R s m args below meth c T locs cells slots h) {o : Int} (hd : decode bytes pc = .ok (.ifnull o, 3)) (ho : 0 ≤ (pc : Int) + o) (hp : ((pc : Int) + o).toNat = pc') (k : Go p e below K (T.setTop (mkF m pc' Ls (st)))) : Go p e below K (T.setTop (mkF m pc Ls (.null :: st))) := by
  exact Go.step (fun t q => XS.ifnullYes X.1.here X.2.1 rfl rfl (hb X.2.2.1 hd) rfl ho hp q) k
theorem g_nullN (X : Sx Z own bytes ml p l e R s m args below meth c T locs cells slots h) {o : Int} {b : Addr} (hd : decode bytes pc = .ok (.ifnull o, 3)) (hp : pc + 3 = pc') (k : Go p e below K (T.setTop (mkF m pc' Ls (st)))) : Go p e below K (T.setTop (mkF m pc Ls (.ref b :: st))) := by
  subst hp; exact Go.step (fun t q => XS.ifnullNo X.1.here X.2.1 rfl (hb X.2.2.1 hd) rfl q) k
theorem g_nonnullY (X : Sx Z own bytes ml p l e R s m args below meth c T locs cells slots h) {o : Int} {b : Addr} (hd : decode bytes pc = .ok (.ifnonnull o, 3)) (ho : 0 ≤ (pc : Int) + o) (hp : ((pc : Int) + o).toNat = pc') (k : Go p e below K (T.setTop (mkF m pc' Ls (st)))) : Go p e below K (T.setTop (mkF m pc Ls (.ref b :: st))) := by
  exact Go.step (fun t q => XS.ifnonnullYes X.1.here X.2.1 rfl rfl (hb X.2.2.1 hd) rfl ho hp q) k
theorem g_nonnullN (X : Sx Z own bytes ml p l e R s m args below meth c T locs cells slots h) {o : Int} (hd : decode bytes pc = .ok (.ifnonnull o, 3)) (hp : pc + 3 = pc') (k : Go p e below K (T.setTop (mkF m pc' Ls (st)))) : Go p e below K (T.setTop (mkF m pc Ls (.null :: st))) := by
  subst hp; exact Go.step (fun t q => XS.ifnonnullNo X.1.here X.2.1 rfl (hb X.2.2.1 hd) rfl q) k
theorem g_acmp (X : Sx Z own bytes ml p l e R s m args below meth c T locs cells slots h) {cd : ACond} {x y : Value} {o : Int} {same : Bool} (hd : decode bytes pc = .ok (.if_acmp cd o, 3)) (h1 : x.isRef = true) (h2 : y.isRef = true) (hq : decide (x = y) = same) (ho : 0 ≤ (pc : Int) + o) (hp : pc' = if acV cd same = true then ((pc : Int) + o).toNat else pc + 3) (k : Go p e below K (T.setTop (mkF m pc' Ls (st)))) : Go p e below K (T.setTop (mkF m pc Ls (y :: x :: st))) := by
  exact Go.step (fun t q => acmp (g := mkF m pc Ls (y :: x :: st)) X.1 X.2.1 rfl h1 h2 rfl (hb X.2.2.1 hd) rfl hq ho hp q) k
theorem g_tswIn (X : Sx Z own bytes ml p l e R s m args below meth c T locs cells slots h) {dflt low high : Int} {offs : Array Int} {len : Nat} {o : Int} {i : Int32} (hd : decode bytes pc = .ok (.tableswitch dflt low high offs, len)) (hin : ¬ (i.toInt < low ∨ i.toInt > high)) (hoff : offs[(i.toInt - low).toNat]? = some o) (ho : 0 ≤ (pc : Int) + o) (hp : ((pc : Int) + o).toNat = pc') (k : Go p e below K (T.setTop (mkF m pc' Ls (st)))) : Go p e below K (T.setTop (mkF m pc Ls (.int i :: st))) := by
  exact Go.step (fun t q => XS.tswIn X.1.here X.2.1 rfl rfl (hb X.2.2.1 hd) rfl hin hoff ho hp q) k
theorem g_tswOut (X : Sx Z own bytes ml p l e R s m args below meth c T locs cells slots h) {dflt low high : Int} {offs : Array Int} {len : Nat} {i : Int32} (hd : decode bytes pc = .ok (.tableswitch dflt low high offs, len)) (hin : i.toInt < low ∨ i.toInt > high) (ho : 0 ≤ (pc : Int) + dflt) (hp : ((pc : Int) + dflt).toNat = pc') (k : Go p e below K (T.setTop (mkF m pc' Ls (st)))) : Go p e below K (T.setTop (mkF m pc Ls (.int i :: st))) := by
  exact Go.step (fun t q => XS.tswOut X.1.here X.2.1 rfl rfl (hb X.2.2.1 hd) rfl hin ho hp q) k
theorem g_iaload (X : Sx Z own bytes ml p l e R s m args below meth c T locs cells slots h) {a : Addr} {vs : List Value} {j : Int32} {x : Int32} (A : Av Z h a .int vs) (n : Nat) (hd : decode bytes pc = .ok (.iaload, 1)) (hp : pc + 1 = pc') (hj : ¬ j < 0) (hn : j.toNatClampNeg = n) (hv : vs[n]? = some (.int x)) (k : Go p e below K (T.setTop (mkF m pc' Ls (.int x :: st)))) : Go p e below K (T.setTop (mkF m pc Ls (.int j :: .ref a :: st))) := by
  obtain ⟨cl, A, rfl, r⟩ := A; subst hn; subst hp
  have hv' : cl.slots[j.toNatClampNeg]? = some (.int x) := by rw [← Array.getElem?_toList]; exact hv
  exact Go.step (fun t q => X.1.iaload X.2.1 (j := j) (by rw [X.2.2.2.2.2.2]; exact A.1) (State.isArrayOf_alike X.2.2.2.2.2.1.alike A.2.1) A.2.2 (fun hh => hh.elim hj (fun hh => absurd (Array.getElem?_eq_some_iff.mp hv').1 (Nat.not_lt.mpr hh))) hv' (g := mkF m pc Ls (.int j :: .ref a :: st)) rfl rfl (hb X.2.2.1 hd) _ q) k
theorem g_caload (X : Sx Z own bytes ml p l e R s m args below meth c T locs cells slots h) {a : Addr} {vs : List Value} {j : Int32} {x : Int32} (A : Av Z h a .char vs) (n : Nat) (hd : decode bytes pc = .ok (.caload, 1)) (hp : pc + 1 = pc') (hj : ¬ j < 0) (hn : j.toNatClampNeg = n) (hv : vs[n]? = some (.int x)) (k : Go p e below K (T.setTop (mkF m pc' Ls (.int x :: st)))) : Go p e below K (T.setTop (mkF m pc Ls (.int j :: .ref a :: st))) := by
  obtain ⟨cl, A, rfl, r⟩ := A; subst hn; subst hp
  have hv' : cl.slots[j.toNatClampNeg]? = some (.int x) := by rw [← Array.getElem?_toList]; exact hv
  exact Go.step (fun t q => X.1.caload X.2.1 (j := j) (by rw [X.2.2.2.2.2.2]; exact A.1) (State.isArrayOf_alike X.2.2.2.2.2.1.alike A.2.1) A.2.2 (fun hh => hh.elim hj (fun hh => absurd (Array.getElem?_eq_some_iff.mp hv').1 (Nat.not_lt.mpr hh))) hv' (g := mkF m pc Ls (.int j :: .ref a :: st)) rfl rfl (hb X.2.2.1 hd) _ q) k
theorem g_saload (X : Sx Z own bytes ml p l e R s m args below meth c T locs cells slots h) {a : Addr} {vs : List Value} {j : Int32} {x : Int32} (A : Av Z h a .short vs) (n : Nat) (hd : decode bytes pc = .ok (.saload, 1)) (hp : pc + 1 = pc') (hj : ¬ j < 0) (hn : j.toNatClampNeg = n) (hv : vs[n]? = some (.int x)) (k : Go p e below K (T.setTop (mkF m pc' Ls (.int x :: st)))) : Go p e below K (T.setTop (mkF m pc Ls (.int j :: .ref a :: st))) := by
  obtain ⟨cl, A, rfl, r⟩ := A; subst hn; subst hp
  have hv' : cl.slots[j.toNatClampNeg]? = some (.int x) := by rw [← Array.getElem?_toList]; exact hv
  exact Go.step (fun t q => X.1.saload X.2.1 (j := j) (by rw [X.2.2.2.2.2.2]; exact A.1) (State.isArrayOf_alike X.2.2.2.2.2.1.alike A.2.1) A.2.2 (fun hh => hh.elim hj (fun hh => absurd (Array.getElem?_eq_some_iff.mp hv').1 (Nat.not_lt.mpr hh))) hv' (g := mkF m pc Ls (.int j :: .ref a :: st)) rfl rfl (hb X.2.2.1 hd) _ q) k
theorem g_baload (X : Sx Z own bytes ml p l e R s m args below meth c T locs cells slots h) {a : Addr} {vs : List Value} {j : Int32} {x : Int32} (A : Av Z h a .byte vs) (n : Nat) (hd : decode bytes pc = .ok (.baload, 1)) (hp : pc + 1 = pc') (hj : ¬ j < 0) (hn : j.toNatClampNeg = n) (hv : vs[n]? = some (.int x)) (k : Go p e below K (T.setTop (mkF m pc' Ls (.int x :: st)))) : Go p e below K (T.setTop (mkF m pc Ls (.int j :: .ref a :: st))) := by
  obtain ⟨cl, A, rfl, r⟩ := A; subst hn; subst hp
  have hv' : cl.slots[j.toNatClampNeg]? = some (.int x) := by rw [← Array.getElem?_toList]; exact hv
  exact Go.step (fun t q => X.1.baloadBytes X.2.1 (j := j) (by rw [X.2.2.2.2.2.2]; exact A.1) (State.isArrayOf_alike X.2.2.2.2.2.1.alike A.2.1) A.2.2 (fun hh => hh.elim hj (fun hh => absurd (Array.getElem?_eq_some_iff.mp hv').1 (Nat.not_lt.mpr hh))) hv' (g := mkF m pc Ls (.int j :: .ref a :: st)) rfl rfl (hb X.2.2.1 hd) _ q) k
theorem g_laload (X : Sx Z own bytes ml p l e R s m args below meth c T locs cells slots h) {a : Addr} {vs : List Value} {j : Int32} {x : Int64} (A : Av Z h a .long vs) (n : Nat) (hd : decode bytes pc = .ok (.laload, 1)) (hp : pc + 1 = pc') (hj : ¬ j < 0) (hn : j.toNatClampNeg = n) (hv : vs[n]? = some (.long x)) (k : Go p e below K (T.setTop (mkF m pc' Ls (.long x :: st)))) : Go p e below K (T.setTop (mkF m pc Ls (.int j :: .ref a :: st))) := by
  obtain ⟨cl, A, rfl, r⟩ := A; subst hn; subst hp
  have hv' : cl.slots[j.toNatClampNeg]? = some (.long x) := by rw [← Array.getElem?_toList]; exact hv
  exact Go.step (fun t q => X.1.laload X.2.1 (j := j) (by rw [X.2.2.2.2.2.2]; exact A.1) (State.isArrayOf_alike X.2.2.2.2.2.1.alike A.2.1) A.2.2 (fun hh => hh.elim hj (fun hh => absurd (Array.getElem?_eq_some_iff.mp hv').1 (Nat.not_lt.mpr hh))) hv' (g := mkF m pc Ls (.int j :: .ref a :: st)) rfl rfl (hb X.2.2.1 hd) _ q) k
theorem g_aaload (X : Sx Z own bytes ml p l e R s m args below meth c T locs cells slots h) {a : Addr} {vs : List Value} {j : Int32} {v : Value} {ty : FieldType} (A : Av Z h a ty vs) (n : Nat) (hd : decode bytes pc = .ok (.aaload, 1)) (hp : pc + 1 = pc') (hty : ty.isReference = true) (hj : ¬ j < 0) (hn : j.toNatClampNeg = n) (hv : vs[n]? = some v) (k : Go p e below K (T.setTop (mkF m pc' Ls (v :: st)))) : Go p e below K (T.setTop (mkF m pc Ls (.int j :: .ref a :: st))) := by
  obtain ⟨cl, A, rfl, r⟩ := A; subst hn; subst hp
  have hv' : cl.slots[j.toNatClampNeg]? = some v := by rw [← Array.getElem?_toList]; exact hv
  exact Go.step (fun t q => X.1.aaload X.2.1 (j := j) (by rw [X.2.2.2.2.2.2]; exact A.1) (State.isArrayOf_alike X.2.2.2.2.2.1.alike A.2.1) hty A.2.2 (fun hh => hh.elim hj (fun hh => absurd (Array.getElem?_eq_some_iff.mp hv').1 (Nat.not_lt.mpr hh))) hv' (g := mkF m pc Ls (.int j :: .ref a :: st)) rfl rfl (hb X.2.2.1 hd) _ q) k
theorem g_arraylength (X : Sx Z own bytes ml p l e R s m args below meth c T locs cells slots h) {a : Addr} {vs : List Value} {ty : FieldType} (A : Av Z h a ty vs) (hd : decode bytes pc = .ok (.arraylength, 1)) (hp : pc + 1 = pc') {z : Int32} (hz : vs.length.toInt32 = z) (k : Go p e below K (T.setTop (mkF m pc' Ls (.int z :: st)))) : Go p e below K (T.setTop (mkF m pc Ls (.ref a :: st))) := by
  obtain ⟨cl, A, rfl, r⟩ := A; subst hp
  rw [Array.length_toList] at hz; subst hz
  exact Go.step (fun t q => X.1.arraylength X.2.1 (by rw [X.2.2.2.2.2.2]; exact A.1) (State.isArrayOf_alike X.2.2.2.2.2.1.alike A.2.1) (g := mkF m pc Ls (.ref a :: st)) rfl rfl (hb X.2.2.1 hd) _ q) k
theorem g_iastore (X : Sx Z own bytes ml p l e R s m args below meth c T locs cells slots h) {a : Addr} {vs : List Value} {j : Int32} {x : Int32} (A : Av Z h a .int vs) (n : Nat) (hd : decode bytes pc = .ok (.iastore, 1)) (hp : pc + 1 = pc') (hj : ¬ j < 0) (hn : j.toNatClampNeg = n) (hlt : n < vs.length) (k : ∀ T' h', Sx Z own bytes ml p l e R s m args below meth c T' (locs ++ [⟨a, n⟩]) cells slots h' → Wr h h' a n (.int x) → Av Z h' a .int (vs.set n (.int x)) → Go p e below K (T'.setTop (mkF m pc' Ls (st)))) : Go p e below K (T.setTop (mkF m pc Ls (.int x :: .int j :: .ref a :: st))) := by
  obtain ⟨cl, A, rfl, r⟩ := A; subst hn; subst hp
  obtain ⟨T', h', X', e', W, stp⟩ := stI X.1 X.2.1 X.2.2.2.2.2.1 X.2.2.2.2.2.2 A (j := j) (fun hh => hh.elim hj (fun hh => absurd hlt (by simpa using hh))) (g := mkF m pc Ls (.int x :: .int j :: .ref a :: st)) rfl rfl (hb X.2.2.1 hd)
  exact Go.step (fun t q => stp _ q) (k T' h' ⟨X', X.2.1, X.2.2.1, X.2.2.2.1, X.2.2.2.2.1, X.2.2.2.2.2.1, e'⟩ W (Av.set ⟨cl, A, rfl, r⟩ W))
theorem g_lastore (X : Sx Z own bytes ml p l e R s m args below meth c T locs cells slots h) {a : Addr} {vs : List Value} {j : Int32} {x : Int64} (A : Av Z h a .long vs) (n : Nat) (hd : decode bytes pc = .ok (.lastore, 1)) (hp : pc + 1 = pc') (hj : ¬ j < 0) (hn : j.toNatClampNeg = n) (hlt : n < vs.length) (k : ∀ T' h', Sx Z own bytes ml p l e R s m args below meth c T' (locs ++ [⟨a, n⟩]) cells slots h' → Wr h h' a n (.long x) → Av Z h' a .long (vs.set n (.long x)) → Go p e below K (T'.setTop (mkF m pc' Ls (st)))) : Go p e below K (T.setTop (mkF m pc Ls (.long x :: .int j :: .ref a :: st))) := by
  obtain ⟨cl, A, rfl, r⟩ := A; subst hn; subst hp
  obtain ⟨T', h', X', e', W, stp⟩ := stJ X.1 X.2.1 X.2.2.2.2.2.1 X.2.2.2.2.2.2 A (j := j) (fun hh => hh.elim hj (fun hh => absurd hlt (by simpa using hh))) (g := mkF m pc Ls (.long x :: .int j :: .ref a :: st)) rfl rfl (hb X.2.2.1 hd)
  exact Go.step (fun t q => stp _ q) (k T' h' ⟨X', X.2.1, X.2.2.1, X.2.2.2.1, X.2.2.2.2.1, X.2.2.2.2.2.1, e'⟩ W (Av.set ⟨cl, A, rfl, r⟩ W))
theorem g_castore (X : Sx Z own bytes ml p l e R s m args below meth c T locs cells slots h) {a : Addr} {vs : List Value} {j : Int32} {x : Int32} (A : Av Z h a .char vs) (n : Nat) (hd : decode bytes pc = .ok (.castore, 1)) (hp : pc + 1 = pc') (hj : ¬ j < 0) (hn : j.toNatClampNeg = n) (hlt : n < vs.length) (k : ∀ T' h', Sx Z own bytes ml p l e R s m args below meth c T' (locs ++ [⟨a, n⟩]) cells slots h' → Wr h h' a n (.int (nar .char x)) → Av Z h' a .char (vs.set n (.int (nar .char x))) → Go p e below K (T'.setTop (mkF m pc' Ls (st)))) : Go p e below K (T.setTop (mkF m pc Ls (.int x :: .int j :: .ref a :: st))) := by
  obtain ⟨cl, A, rfl, r⟩ := A; subst hn; subst hp
  obtain ⟨T', h', X', e', W, stp⟩ := stC X.1 X.2.1 X.2.2.2.2.2.1 X.2.2.2.2.2.2 A (j := j) (fun hh => hh.elim hj (fun hh => absurd hlt (by simpa using hh))) (g := mkF m pc Ls (.int x :: .int j :: .ref a :: st)) rfl rfl (hb X.2.2.1 hd)
  exact Go.step (fun t q => stp _ q) (k T' h' ⟨X', X.2.1, X.2.2.1, X.2.2.2.1, X.2.2.2.2.1, X.2.2.2.2.2.1, e'⟩ W (Av.set ⟨cl, A, rfl, r⟩ W))
theorem g_sastore (X : Sx Z own bytes ml p l e R s m args below meth c T locs cells slots h) {a : Addr} {vs : List Value} {j : Int32} {x : Int32} (A : Av Z h a .short vs) (n : Nat) (hd : decode bytes pc = .ok (.sastore, 1)) (hp : pc + 1 = pc') (hj : ¬ j < 0) (hn : j.toNatClampNeg = n) (hlt : n < vs.length) (k : ∀ T' h', Sx Z own bytes ml p l e R s m args below meth c T' (locs ++ [⟨a, n⟩]) cells slots h' → Wr h h' a n (.int (nar .short x)) → Av Z h' a .short (vs.set n (.int (nar .short x))) → Go p e below K (T'.setTop (mkF m pc' Ls (st)))) : Go p e below K (T.setTop (mkF m pc Ls (.int x :: .int j :: .ref a :: st))) := by
  obtain ⟨cl, A, rfl, r⟩ := A; subst hn; subst hp
  obtain ⟨T', h', X', e', W, stp⟩ := stS X.1 X.2.1 X.2.2.2.2.2.1 X.2.2.2.2.2.2 A (j := j) (fun hh => hh.elim hj (fun hh => absurd hlt (by simpa using hh))) (g := mkF m pc Ls (.int x :: .int j :: .ref a :: st)) rfl rfl (hb X.2.2.1 hd)
  exact Go.step (fun t q => stp _ q) (k T' h' ⟨X', X.2.1, X.2.2.1, X.2.2.2.1, X.2.2.2.2.1, X.2.2.2.2.2.1, e'⟩ W (Av.set ⟨cl, A, rfl, r⟩ W))
theorem g_bastore (X : Sx Z own bytes ml p l e R s m args below meth c T locs cells slots h) {a : Addr} {vs : List Value} {j : Int32} {x : Int32} (A : Av Z h a .byte vs) (n : Nat) (hd : decode bytes pc = .ok (.bastore, 1)) (hp : pc + 1 = pc') (hj : ¬ j < 0) (hn : j.toNatClampNeg = n) (hlt : n < vs.length) (k : ∀ T' h', Sx Z own bytes ml p l e R s m args below meth c T' (locs ++ [⟨a, n⟩]) cells slots h' → Wr h h' a n (.int (nar .byte x)) → Av Z h' a .byte (vs.set n (.int (nar .byte x))) → Go p e below K (T'.setTop (mkF m pc' Ls (st)))) : Go p e below K (T.setTop (mkF m pc Ls (.int x :: .int j :: .ref a :: st))) := by
  obtain ⟨cl, A, rfl, r⟩ := A; subst hn; subst hp
  obtain ⟨T', h', X', e', W, stp⟩ := stB X.1 X.2.1 X.2.2.2.2.2.1 X.2.2.2.2.2.2 A (j := j) (fun hh => hh.elim hj (fun hh => absurd hlt (by simpa using hh))) (g := mkF m pc Ls (.int x :: .int j :: .ref a :: st)) rfl rfl (hb X.2.2.1 hd)
  exact Go.step (fun t q => stp _ q) (k T' h' ⟨X', X.2.1, X.2.2.1, X.2.2.2.1, X.2.2.2.2.1, X.2.2.2.2.2.1, e'⟩ W (Av.set ⟨cl, A, rfl, r⟩ W))
theorem g_arraylengthN (X : Sx Z own bytes ml p l e R s m args below meth c T locs cells slots h) {a : Addr} {ty : FieldType} {z : Int32} (A : AvN Z h a ty z) (hd : decode bytes pc = .ok (.arraylength, 1)) (hp : pc + 1 = pc') (k : Go p e below K (T.setTop (mkF m pc' Ls (.int z :: st)))) : Go p e below K (T.setTop (mkF m pc Ls (.ref a :: st))) := by
  obtain ⟨vs, A, hz⟩ := A; exact g_arraylength X A hd hp hz k
theorem g_iastoreN (X : Sx Z own bytes ml p l e R s m args below meth c T locs cells slots h) {a : Addr} {j x z : Int32} (A : AvN Z h a .int z) (hd : decode bytes pc = .ok (.iastore, 1)) (hp : pc + 1 = pc') (hj : ¬ j < 0) (hjz : j < z) (k : ∀ T' h', Sx Z own bytes ml p l e R s m args below meth c T' (locs ++ [⟨a, j.toNatClampNeg⟩]) cells slots h' → Wr h h' a j.toNatClampNeg (.int x) → AvN Z h' a .int z → Go p e below K (T'.setTop (mkF m pc' Ls (st)))) : Go p e below K (T.setTop (mkF m pc Ls (.int x :: .int j :: .ref a :: st))) := by
  obtain ⟨vs, A, hz⟩ := A
  have hl := A.len
  refine g_iastore X A _ hd hp hj rfl ?_ (fun T' h' X' W V => k T' h' X' W ⟨_, V, by rw [List.length_set]; exact hz⟩)
  rw [hz] at hl
  rw [Int32.lt_iff_toInt_lt] at hj hjz
  simp only [Int32.toNatClampNeg, Int32.reduceToInt] at hj ⊢
  omega
theorem g_aastore (X : Sx Z own bytes ml p l e R s m args below meth c T locs cells slots h) {a : Addr} {vs : List Value} {j : Int32} {v : Value} {ty : FieldType} (A : Av Z h a ty vs) (S : Sto Z h a v) (n : Nat) (hd : decode bytes pc = .ok (.aastore, 1)) (hp : pc + 1 = pc') (hty : ty.isReference = true) (hj : ¬ j < 0) (hn : j.toNatClampNeg = n) (hlt : n < vs.length) (k : ∀ T' h', Sx Z own bytes ml p l e R s m args below meth c T' (locs ++ [⟨a, n⟩]) cells slots h' → Wr h h' a n v → Av Z h' a ty (vs.set n v) → Go p e below K (T'.setTop (mkF m pc' Ls (st)))) : Go p e below K (T.setTop (mkF m pc Ls (v :: .int j :: .ref a :: st))) := by
  obtain ⟨cl, A, rfl, r⟩ := A; subst hn; subst hp
  obtain ⟨T', h', X', e', W, stp⟩ := stR X.1 X.2.1 X.2.2.2.2.2.1 X.2.2.2.2.2.2 A (j := j) (fun hh => hh.elim hj (fun hh => absurd hlt (by simpa using hh))) hty S (g := mkF m pc Ls (v :: .int j :: .ref a :: st)) rfl rfl (hb X.2.2.1 hd)
  exact Go.step (fun t q => stp _ q) (k T' h' ⟨X', X.2.1, X.2.2.1, X.2.2.2.1, X.2.2.2.2.1, X.2.2.2.2.2.1, e'⟩ W (Av.set ⟨cl, A, rfl, r⟩ W))
theorem g_newarray (X : Sx Z own bytes ml p l e R s m args below meth c T locs cells slots h) {aty : ArrayType} {z : Int32} {vs : List Value} {ad : String} (n : Nat) (w : (Cond.arrayClass (newarray.typeOf aty)).before a0 Z = true) (hd : decode bytes pc = .ok (.newarray aty, 2)) (hp : pc + 2 = pc') (hz : ¬ z < 0) (hn : z.toNatClampNeg = n) (cap : Nat) (hcap : n ≤ cap) (hbig : cap * 8 ≤ 536870912) (hc : cells + 1 ≤ R.cells) (hl : slots + cap ≤ R.slots) (hvs : List.replicate n (defaultValue (newarray.typeOf aty)) = vs) (had : "[" ++ (newarray.typeOf aty).toString = ad) (k : ∀ T' h' (a : Addr), a = h.size → Sx Z own bytes ml p l e R s m args below meth c T' locs (cells + 1) (slots + cap) h' → Ext h h' → Exa Z h' a ad → Av Z h' a (newarray.typeOf aty) vs → Go p e below K (T'.setTop (mkF m pc' Ls (.ref a :: st)))) : Go p e below K (T.setTop (mkF m pc Ls (.int z :: st))) := by
  subst hn; subst hp; subst hvs
  obtain ⟨T', h', cA, X', e', E, A, B, stp⟩ := newPE X.1 X.2.1 X.2.2.2.2.2.1 w X.2.2.2.2.2.2 (g := mkF m pc Ls (.int z :: st)) rfl (hb X.2.2.1 hd) rfl hz hcap hbig hc hl had
  refine Go.step (fun t q => stp _ q) (k T' h' _ rfl ⟨X', X.2.1, X.2.2.1, X.2.2.2.1, X.2.2.2.2.1, X.2.2.2.2.2.1, e'⟩ E B ⟨_, A, by simp [newA], ?_⟩)
  simp only [List.length_replicate]
  exact (back32 hz).2
theorem g_anewarray (X : Sx Z own bytes ml p l e R s m args below meth c T locs cells slots h) {i : Nat} {C : String} {z : Int32} {vs : List Value} {ad : String} (n : Nat) (w1 : (Cond.classLink own i C).before a0 Z = true) (w2 : (Cond.arrayOver (.object C)).before a0 Z = true) (hd : decode bytes pc = .ok (.anewarray i, 3)) (hp : pc + 3 = pc') (hz : ¬ z < 0) (hn : z.toNatClampNeg = n) (cap : Nat) (hcap : n ≤ cap) (hbig : cap * 8 ≤ 536870912) (hc : cells + 1 ≤ R.cells) (hl : slots + cap ≤ R.slots) (hvs : List.replicate n .null = vs) (had : "[" ++ (FieldType.object C).toString = ad) (k : ∀ T' h' (a : Addr), a = h.size → Sx Z own bytes ml p l e R s m args below meth c T' locs (cells + 1) (slots + cap) h' → Ext h h' → Exa Z h' a ad → Av Z h' a (.object C) vs → OvA Z h' a C → Go p e below K (T'.setTop (mkF m pc' Ls (.ref a :: st)))) : Go p e below K (T.setTop (mkF m pc Ls (.int z :: st))) := by
  subst hn; subst hp; subst hvs
  obtain ⟨T', h', cA, X', e', E, A, B, O, stp⟩ := newRE X.1 X.2.1 X.2.2.2.2.2.1 X.2.2.2.2.1 w1 w2 X.2.2.2.2.2.2 (g := mkF m pc Ls (.int z :: st)) rfl (hb X.2.2.1 hd) rfl hz hcap hbig hc hl had
  refine Go.step (fun t q => stp _ q) (k T' h' _ rfl ⟨X', X.2.1, X.2.2.1, X.2.2.2.1, X.2.2.2.2.1, X.2.2.2.2.2.1, e'⟩ E B ⟨_, A, by simp [newA, defaultValue], ?_⟩ ⟨_, A, O⟩)
  simp only [List.length_replicate]
  exact (back32 hz).2
theorem g_new (X : Sx Z own bytes ml p l e R s m args below meth c T locs cells slots h) {i n : Nat} {C : String} (w1 : (Cond.classLink own i C).before a0 Z = true) (w2 : (Cond.instantiable C n).before a0 Z = true) (w3 : (Cond.initialized C).before a0 Z = true) (hd : decode bytes pc = .ok (.new i, 3)) (hp : pc + 3 = pc') (hc : cells + 1 ≤ R.cells) (hl : slots + n ≤ R.slots) (k : ∀ T' h' (a : Addr), a = h.size → Sx Z own bytes ml p l e R s m args below meth c T' locs (cells + 1) (slots + n) h' → Ext h h' → Exa Z h' a C → (∀ {O nm d : String} {ty : FieldType}, Laid Z a0 C O nm d → parseFieldDescriptor d = some ty → Fld Z h' a O nm d (defaultValue ty)) → Go p e below K (T'.setTop (mkF m pc' Ls (.ref a :: st)))) : Go p e below K (T.setTop (mkF m pc Ls (st))) := by
  subst hp
  obtain ⟨T', h', X', e', E, A, D, -, stp⟩ := newO X.1 X.2.1 X.2.2.2.2.2.1 X.2.2.2.2.1 w1 w2 w3 X.2.2.2.2.2.2 (g := mkF m pc Ls st) rfl (hb X.2.2.1 hd) hc hl
  exact Go.step (fun t q => stp _ q) (k T' h' _ rfl ⟨X', X.2.1, X.2.2.1, X.2.2.2.1, X.2.2.2.2.1, X.2.2.2.2.2.1, e'⟩ E A D)
theorem g_getfield (X : Sx Z own bytes ml p l e R s m args below meth c T locs cells slots h) {i : Nat} {R0 O nm d host : String} {a : Addr} {v : Value} (w : (Cond.fieldLink own i R0 nm d).before a0 Z = true ∨ (Cond.fieldLinkNest own i R0 nm d host).before a0 Z = true) (via : Via Z R0 O nm d) (F : Fld Z h a O nm d v) (hd : decode bytes pc = .ok (.getfield i, 3)) (hp : pc + 3 = pc') (k : ∀ T', Sx Z own bytes ml p l e R s m args below meth c T' locs cells slots h → Go p e below K (T'.setTop (mkF m pc' Ls (v :: st)))) : Go p e below K (T.setTop (mkF m pc Ls (.ref a :: st))) := by
  subst hp
  obtain ⟨T', X', e', stp⟩ := getF X.1 X.2.1 X.2.2.2.2.2.1 X.2.2.2.2.1 w via X.2.2.2.2.2.2 F (g := mkF m pc Ls (.ref a :: st)) rfl rfl (hb X.2.2.1 hd)
  exact Go.step (fun t q => stp _ q) (k T' ⟨X', X.2.1, X.2.2.1, X.2.2.2.1, X.2.2.2.2.1, X.2.2.2.2.2.1, e'⟩)
theorem g_getstatic (X : Sx Z own bytes ml p l e R s m args below meth c T locs cells slots h) {i : Nat} {R0 O nm d host : String} {v : Value} (w : (Cond.fieldLink own i R0 nm d).before a0 Z = true ∨ (Cond.fieldLinkNest own i R0 nm d host).before a0 Z = true) (via : Via Z R0 O nm d) (F : Sta Z h O nm d v) (hd : decode bytes pc = .ok (.getstatic i, 3)) (hp : pc + 3 = pc') (k : ∀ T', Sx Z own bytes ml p l e R s m args below meth c T' locs cells slots h → Go p e below K (T'.setTop (mkF m pc' Ls (v :: st)))) : Go p e below K (T.setTop (mkF m pc Ls (st))) := by
  subst hp
  obtain ⟨T', X', e', stp⟩ := getS2 X.1 X.2.1 X.2.2.2.2.2.1 X.2.2.2.2.1 w via X.2.2.2.2.2.2 F (g := mkF m pc Ls st) rfl (hb X.2.2.1 hd)
  exact Go.step (fun t q => stp _ q) (k T' ⟨X', X.2.1, X.2.2.1, X.2.2.2.1, X.2.2.2.2.1, X.2.2.2.2.2.1, e'⟩)
theorem g_putfield (X : Sx Z own bytes ml p l e R s m args below meth c T locs cells slots h) {i kk : Nat} {R0 O nm d host C : String} {a : Addr} {v old : Value} {ty : FieldType} (w : (Cond.fieldLink own i R0 nm d).before a0 Z = true ∨ (Cond.fieldLinkNest own i R0 nm d host).before a0 Z = true) (via : Via Z R0 O nm d) (F : Fld Z h a O nm d old) (E : Exa Z h a C) (L : (Cond.lays C O nm d).before a0 Z = true ∨ ((Cond.laysFinal C O nm d).before a0 Z = true ∧ own = O ∧ meth.name = "<init>")) (wi : (Cond.instantiable C kk).before a0 Z = true) (hty : parseFieldDescriptor d = some ty) (hn : narrow ty v = v) (hf : fits ty v = true) (hd : decode bytes pc = .ok (.putfield i, 3)) (hp : pc + 3 = pc') (k : ∀ T' h', Sx Z own bytes ml p l e R s m args below meth c T' (locs ++ [⟨a, RoadKit.slotOf Z O nm d⟩]) cells slots h' → Wr h h' a (RoadKit.slotOf Z O nm d) v → Go p e below K (T'.setTop (mkF m pc' Ls (st)))) : Go p e below K (T.setTop (mkF m pc Ls (v :: .ref a :: st))) := by
  subst hp
  obtain ⟨T', h', X', e', W, stp⟩ := putF X.1 X.2.1 X.2.2.2.2.2.1 X.2.2.2.2.1 w via X.2.2.2.2.2.2 F E L wi hty hn hf (g := mkF m pc Ls (v :: .ref a :: st)) rfl rfl (hb X.2.2.1 hd)
  exact Go.step (fun t q => stp _ q) (k T' h' ⟨X', X.2.1, X.2.2.1, X.2.2.2.1, X.2.2.2.2.1, X.2.2.2.2.2.1, e'⟩ W)
theorem g_putfieldN (X : Sx Z own bytes ml p l e R s m args below meth c T locs cells slots h) {i kk : Nat} {R0 O nm d C : String} {a : Addr} {v v' old : Value} {ty : FieldType} (w : (Cond.fieldLink own i R0 nm d).before a0 Z = true) (via : Via Z R0 O nm d) (F : Fld Z h a O nm d old) (E : Exa Z h a C) (L : (Cond.lays C O nm d).before a0 Z = true ∨ ((Cond.laysFinal C O nm d).before a0 Z = true ∧ own = O ∧ meth.name = "<init>")) (wi : (Cond.instantiable C kk).before a0 Z = true) (hty : parseFieldDescriptor d = some ty) (hn : narrow ty v = v') (hf : fits ty v' = true) (hd : decode bytes pc = .ok (.putfield i, 3)) (hp : pc + 3 = pc') (k : ∀ T' h', Sx Z own bytes ml p l e R s m args below meth c T' (locs ++ [⟨a, RoadKit.slotOf Z O nm d⟩]) cells slots h' → Wr h h' a (RoadKit.slotOf Z O nm d) v' → Go p e below K (T'.setTop (mkF m pc' Ls (st)))) : Go p e below K (T.setTop (mkF m pc Ls (v :: .ref a :: st))) := by
  subst hp
  obtain ⟨T', h', X', e', W, stp⟩ := putFN X.1 X.2.1 X.2.2.2.2.2.1 X.2.2.2.2.1 w via X.2.2.2.2.2.2 F E L wi hty hn hf (g := mkF m pc Ls (v :: .ref a :: st)) rfl rfl (hb X.2.2.1 hd)
  exact Go.step (fun t q => stp _ q) (k T' h' ⟨X', X.2.1, X.2.2.1, X.2.2.2.1, X.2.2.2.2.1, X.2.2.2.2.2.1, e'⟩ W)
theorem g_initO (X : Sx Z own bytes ml p l e R s m args below meth c T locs cells slots h) {i W : Nat} {a : Addr} (w1 : (Cond.methodLink own i Lib.objectInit).before a0 Z = true) (w2 : (Cond.instanceMethod Lib.objectInit).before a0 Z = true) (w3 : (Cond.code Lib.objectInit ⟨#[0xb1]⟩ 1 none).before a0 Z = true) (hd : decode bytes pc = .ok (.invokespecial i, 3)) (hp : pc + 3 = pc') (hsz : Ls.size = ml) (hf : 1 ≤ R.frames) (hW : (st.map fun v => v.category).sum ≤ W) (hl : W + 12 ≤ R.locals) (k : ∀ T', Sx Z own bytes ml p l e R s m args below meth c T' locs cells slots h → Go p e below K (T'.setTop (mkF m pc' Ls (st)))) : Go p e below K (T.setTop (mkF m pc Ls (.ref a :: st))) := by
  subst hp
  obtain ⟨T', X', e', stp⟩ := initO X.1 X.2.1 X.2.2.2.2.2.1 X.2.2.2.2.1 w1 w2 w3 X.2.2.2.2.2.2 (g := mkF m pc Ls (.ref a :: st)) rfl (by rw [X.2.2.2.1]; exact hsz) rfl (hb X.2.2.1 hd) hf (W := W) (by simpa using hW) hl
  exact Go.step (fun t q => stp _ q) (k T' ⟨X', X.2.1, X.2.2.1, X.2.2.2.1, X.2.2.2.2.1, X.2.2.2.2.2.1, e'⟩)
theorem g_checkcast (X : Sx Z own bytes ml p l e R s m args below meth c T locs cells slots h) {i : Nat} {K0 : String} {a : Addr} (w : (Cond.classLink own i K0).before a0 Z = true) (F : Ins Z h a K0 true) (hd : decode bytes pc = .ok (.checkcast i, 3)) (hp : pc + 3 = pc') (k : ∀ T', Sx Z own bytes ml p l e R s m args below meth c T' locs cells slots h → Go p e below K (T'.setTop (mkF m pc' Ls (.ref a :: st)))) : Go p e below K (T.setTop (mkF m pc Ls (.ref a :: st))) := by
  subst hp
  obtain ⟨T', X', e', stp⟩ := castY X.1 X.2.1 X.2.2.2.2.2.1 X.2.2.2.2.1 w X.2.2.2.2.2.2 F (g := mkF m pc Ls (.ref a :: st)) rfl rfl (hb X.2.2.1 hd)
  exact Go.step (fun t q => stp _ q) (k T' ⟨X', X.2.1, X.2.2.1, X.2.2.2.1, X.2.2.2.2.1, X.2.2.2.2.2.1, e'⟩)
theorem g_clone (X : Sx Z own bytes ml p l e R s m args below meth c T locs cells slots h) {i W : Nat} {ad : String} {a : Addr} {ty : FieldType} {vs : List Value} (w1 : (Cond.methodLink own i ⟨ad, "clone", "()Ljava/lang/Object;"⟩).before a0 Z = true) (w2 : (Cond.sameMethod ad "java/lang/Object" "clone" "()Ljava/lang/Object;").before a0 Z = true) (w3 : (Cond.native ⟨"java/lang/Object", "clone", "()Ljava/lang/Object;"⟩).before a0 Z = true) (w4 : (Cond.instanceMethod ⟨"java/lang/Object", "clone", "()Ljava/lang/Object;"⟩).before a0 Z = true) (w5 : (Cond.selects ad ⟨ad, "clone", "()Ljava/lang/Object;"⟩ ⟨"java/lang/Object", "clone", "()Ljava/lang/Object;"⟩).before a0 Z = true) (w6 : (Cond.castable ad "java/lang/Cloneable").before a0 Z = true) (A : Av Z h a ty vs) (E : Exa Z h a ad) (hfit : ∀ v ∈ vs, fits ty v = true) (hd : decode bytes pc = .ok (.invokevirtual i, 3)) (hp : pc + 3 = pc') (hsz : Ls.size = ml) (hf : 1 ≤ R.frames) (hW : (st.map fun v => v.category).sum ≤ W) (hl : W + 14 ≤ R.locals) (cap : Nat) (hcap : vs.length ≤ cap) (hc : cells + 1 ≤ R.cells) (hs : slots + cap ≤ R.slots) (k : ∀ T' h' (b : Addr), b = h.size → Sx Z own bytes ml p l e R s m args below meth c T' locs (cells + 1) (slots + cap) h' → Ext h h' → Exa Z h' b ad → Av Z h' b ty vs → Go p e below K (T'.setTop (mkF m pc' Ls (.ref b :: st)))) : Go p e below K (T.setTop (mkF m pc Ls (.ref a :: st))) := by
  subst hp
  obtain ⟨cl, A, rfl, r⟩ := A
  have FC : FitC Z cl := fitC_of A fun j hj v hv => hfit v (by rw [← Array.getElem?_toList] at hv; exact List.mem_of_getElem? hv)
  obtain ⟨T', h', X', e', Ex, A', E', stp⟩ := cloneA X.1 X.2.1 X.2.2.2.2.2.1 X.2.2.2.2.1 w1 w2 w3 w4 w5 w6 X.2.2.2.2.2.2 A E FC (g := mkF m pc Ls (.ref a :: st)) rfl (by rw [X.2.2.2.1]; exact hsz) rfl (hb X.2.2.1 hd) hf (W := W) (cap := cap) (by simpa using hW) hl (by simpa using hcap) hc hs
  exact Go.step (fun t q => stp _ q) (k T' h' _ rfl ⟨X', X.2.1, X.2.2.1, X.2.2.2.1, X.2.2.2.2.1, X.2.2.2.2.2.1, e'⟩ Ex E' ⟨_, A', rfl, r⟩)
theorem g_static (X : Sx Z own bytes ml p l e R s m args below meth c T locs cells slots h) {y : MethodName} {yb : ByteArray} {yl : Nat} {yr : Option FieldType} {rm : Room} {as' : Array Value} {Q : Option Value → Heap → List Loc → Prop} {i W : Nat} (argsL rest : List Value) (w1 : (Cond.methodLink own i y).before a0 Z = true) (w2 : (Cond.static y).before a0 Z = true) (w3 : (Cond.initialized y.cls).before a0 Z = true) (w4 : (Cond.code y yb yl yr).before a0 Z = true) (M : Rm l Z y yb yl yr [] rm as' h Q) (hd : decode bytes pc = .ok (.invokestatic i, 3)) (hp : pc + 3 = pc') (hy : y.cls ≠ "java/lang/invoke/MethodHandle" ∧ y.cls ≠ "java/lang/invoke/VarHandle") (hf : rm.frames + 1 ≤ R.frames) (hl : W + (yl + 11) + rm.locals ≤ R.locals) (hsz : Ls.size = ml) (ha : argsL.toArray = as') (hst : st = argsL.reverse ++ rest) (hlen : ∀ sig, parseMethodDescriptor y.desc = some sig → argsL.length = sig.parameters.length) (hW : (rest.map fun v => v.category).sum ≤ W) (hc : cells + rm.cells ≤ R.cells) (hs : slots + rm.slots ≤ R.slots) (k : ∀ v T' L, Sx Z own bytes ml p l e R s m args below meth c T' (locs ++ L) (cells + rm.cells) (slots + rm.slots) T'.heap → Q v T'.heap L → Go p e below K (T'.setTop (mkF m pc' Ls (v.toList ++ rest)))) : Go p e below K (T.setTop (mkF m pc Ls (st))) := by
  subst hp; subst hst
  have hZ := X.2.2.2.2.2.1
  obtain ⟨v, vm1, ⟨T', L', k', n'⟩, -, X', ⟨L, hQ, l1, l2, l3⟩, stp⟩ := Jvm.LawKit.callS X.1 X.2.1 X.2.2.2.2.1 (mvT hZ w1) (mvT hZ w2) (mvT hZ w3) (mvT hZ w4) hy (backOf (W := W) M hZ w4 w3 hf hl) (g := mkF m pc Ls (argsL.reverse ++ rest)) rfl (by rw [X.2.2.2.1]; exact hsz) (argsL := argsL) (rest := rest) hlen rfl (by simpa using hW) (hb X.2.2.1 hd) (fun _ _ => ⟨ha, X.2.2.2.2.2.2, hc, hs⟩)
  dsimp only [Pt.U, Pt.locs, Pt.cells, Pt.slots] at X' l1 l2 l3 stp hQ
  subst l1 l2 l3
  exact Go.step (fun t q => stp _ q) (k v T' L ⟨X', X.2.1, X.2.2.1, X.2.2.2.1, X.2.2.2.2.1, X.2.2.2.2.2.1, rfl⟩ hQ)
theorem g_special (X : Sx Z own bytes ml p l e R s m args below meth c T locs cells slots h) {y : MethodName} {yb : ByteArray} {yl : Nat} {rm : Room} {as' : Array Value} {Q : Option Value → Heap → List Loc → Prop} {i W : Nat} {a : Addr} (argsL rest : List Value) (hi : y.name = "<init>") (w1 : (Cond.methodLink own i y).before a0 Z = true) (w2 : (Cond.instanceMethod y).before a0 Z = true) (w3 : (Cond.initialized y.cls).before a0 Z = true) (w4 : (Cond.code y yb yl none).before a0 Z = true) (M : Rm l Z y yb yl none [] rm as' h Q) (hd : decode bytes pc = .ok (.invokespecial i, 3)) (hp : pc + 3 = pc') (hy : y.cls ≠ "java/lang/invoke/MethodHandle" ∧ y.cls ≠ "java/lang/invoke/VarHandle") (hf : rm.frames + 1 ≤ R.frames) (hl : W + (yl + 11) + rm.locals ≤ R.locals) (hsz : Ls.size = ml) (ha : (.ref a :: argsL).toArray = as') (hst : st = argsL.reverse ++ .ref a :: rest) (hlen : ∀ sig, parseMethodDescriptor y.desc = some sig → argsL.length = sig.parameters.length) (hW : (rest.map fun v => v.category).sum ≤ W) (hc : cells + rm.cells ≤ R.cells) (hs : slots + rm.slots ≤ R.slots) (k : ∀ v T' L, Sx Z own bytes ml p l e R s m args below meth c T' (locs ++ L) (cells + rm.cells) (slots + rm.slots) T'.heap → Q v T'.heap L → Go p e below K (T'.setTop (mkF m pc' Ls (v.toList ++ rest)))) : Go p e below K (T.setTop (mkF m pc Ls (st))) := by
  subst hp; subst hst
  have hZ := X.2.2.2.2.2.1
  obtain ⟨v, vm1, ⟨T', L', k', n'⟩, -, X', ⟨L, hQ, l1, l2, l3⟩, stp⟩ := X.1.specialBack X.2.1 (y := y) hi X.2.2.2.2.1 (mvT hZ w1) (mvT hZ w2) (mvT hZ w4) hy (backOf (W := W) M hZ w4 w3 hf hl) (g := mkF m pc Ls (argsL.reverse ++ .ref a :: rest)) rfl (by rw [X.2.2.2.1]; exact hsz) (Steps.refl _) (a := a) (argsL := argsL) (rest := rest) hlen rfl (by simpa using hW) (hb X.2.2.1 hd) (fun _ _ => ⟨ha, X.2.2.2.2.2.2, hc, hs⟩)
  dsimp only [Pt.U, Pt.locs, Pt.cells, Pt.slots] at X' l1 l2 l3 stp hQ
  subst l1 l2 l3
  exact Go.step (fun t q => stp.trans q) (k v T' L ⟨X', X.2.1, X.2.2.1, X.2.2.2.1, X.2.2.2.2.1, X.2.2.2.2.2.1, rfl⟩ hQ)
theorem g_virtual (X : Sx Z own bytes ml p l e R s m args below meth c T locs cells slots h) {y : MethodName} {yb : ByteArray} {yl : Nat} {yr : Option FieldType} {rm : Room} {as' : Array Value} {Q : Option Value → Heap → List Loc → Prop} {i W : Nat} {a : Addr} {C : String} (argsL rest : List Value) (E : Exa Z h a C) (w1 : (Cond.methodLink own i y).before a0 Z = true) (w2 : (Cond.declares y).before a0 Z = true) (w5 : (Cond.selects C y y).before a0 Z = true) (w6 : (Cond.instanceMethod y).before a0 Z = true) (w3 : (Cond.initialized y.cls).before a0 Z = true) (w4 : (Cond.code y yb yl yr).before a0 Z = true) (M : Rm l Z y yb yl yr [] rm as' h Q) (hd : decode bytes pc = .ok (.invokevirtual i, 3)) (hp : pc + 3 = pc') (hy : y.cls ≠ "java/lang/invoke/MethodHandle" ∧ y.cls ≠ "java/lang/invoke/VarHandle") (hf : rm.frames + 1 ≤ R.frames) (hl : W + (yl + 11) + rm.locals ≤ R.locals) (hsz : Ls.size = ml) (ha : (.ref a :: argsL).toArray = as') (hst : st = argsL.reverse ++ .ref a :: rest) (hlen : ∀ sig, parseMethodDescriptor y.desc = some sig → argsL.length = sig.parameters.length) (hW : (rest.map fun v => v.category).sum ≤ W) (hc : cells + rm.cells ≤ R.cells) (hs : slots + rm.slots ≤ R.slots) (k : ∀ v T' L, Sx Z own bytes ml p l e R s m args below meth c T' (locs ++ L) (cells + rm.cells) (slots + rm.slots) T'.heap → Q v T'.heap L → Go p e below K (T'.setTop (mkF m pc' Ls (v.toList ++ rest)))) : Go p e below K (T.setTop (mkF m pc Ls (st))) := by
  subst hp; subst hst
  have hZ := X.2.2.2.2.2.1
  obtain ⟨cq, kq, qa, qb, qc⟩ := isOf hZ X.2.2.2.2.2.2 E
  obtain ⟨v, vm1, ⟨T', L', k', n'⟩, -, X', ⟨L, hQ, l1, l2, l3⟩, stp⟩ := X.1.virtualBack X.2.1 (y := y) (z := y) X.2.2.2.2.1 (mvT hZ w1) (mvT hZ w2) (notFace_of_selects (args := #[]) (mvT hZ w5)) (mvT hZ w5) (mvT hZ w6) hy (backOf (W := W) M hZ w4 w3 hf hl) qa qc (g := mkF m pc Ls (argsL.reverse ++ .ref a :: rest)) rfl (by rw [X.2.2.2.1]; exact hsz) (Steps.refl _) (argsL := argsL) (rest := rest) hlen rfl (by simpa using hW) (hb X.2.2.1 hd) (fun _ _ => ⟨ha, X.2.2.2.2.2.2, hc, hs⟩)
  dsimp only [Pt.U, Pt.locs, Pt.cells, Pt.slots] at X' l1 l2 l3 stp hQ
  subst l1 l2 l3
  exact Go.step (fun t q => stp.trans q) (k v T' L ⟨X', X.2.1, X.2.2.1, X.2.2.2.1, X.2.2.2.2.1, X.2.2.2.2.2.1, rfl⟩ hQ)
theorem g_virtualUp (X : Sx Z own bytes ml p l e R s m args below meth c T locs cells slots h) {y : MethodName} {yb : ByteArray} {yl : Nat} {yr : Option FieldType} {rm : Room} {as' : Array Value} {Q : Option Value → Heap → List Loc → Prop} {i W : Nat} {a : Addr} {C owner : String} {x : MethodName} (argsL rest : List Value) (E : Exa Z h a C) (w1 : (Cond.methodLink own i x).before a0 Z = true) (w8 : (Cond.sameMethod x.cls owner x.name x.desc).before a0 Z = true) (w2 : (Cond.declares ⟨owner, x.name, x.desc⟩).before a0 Z = true) (w5 : (Cond.selects C x y).before a0 Z = true) (w6 : (Cond.instanceMethod y).before a0 Z = true) (w3 : (Cond.initialized y.cls).before a0 Z = true) (w4 : (Cond.code y yb yl yr).before a0 Z = true) (M : Rm l Z y yb yl yr [] rm as' h Q) (hd : decode bytes pc = .ok (.invokevirtual i, 3)) (hp : pc + 3 = pc') (hy : owner ≠ "java/lang/invoke/MethodHandle" ∧ owner ≠ "java/lang/invoke/VarHandle") (hf : rm.frames + 1 ≤ R.frames) (hl : W + (yl + 11) + rm.locals ≤ R.locals) (hsz : Ls.size = ml) (ha : (.ref a :: argsL).toArray = as') (hst : st = argsL.reverse ++ .ref a :: rest) (hlen : ∀ sig, parseMethodDescriptor x.desc = some sig → argsL.length = sig.parameters.length) (hW : (rest.map fun v => v.category).sum ≤ W) (hc : cells + rm.cells ≤ R.cells) (hs : slots + rm.slots ≤ R.slots) (k : ∀ v T' L, Sx Z own bytes ml p l e R s m args below meth c T' (locs ++ L) (cells + rm.cells) (slots + rm.slots) T'.heap → Q v T'.heap L → Go p e below K (T'.setTop (mkF m pc' Ls (v.toList ++ rest)))) : Go p e below K (T.setTop (mkF m pc Ls (st))) := by
  subst hp; subst hst
  have hZ := X.2.2.2.2.2.1
  obtain ⟨cq, kq, qa, qb, qc⟩ := isOf hZ X.2.2.2.2.2.2 E
  obtain ⟨v, vm1, ⟨T', L', k', n'⟩, -, X', ⟨L, hQ, l1, l2, l3⟩, stp⟩ := X.1.virtualBackUp X.2.1 (x := x) (y := y) X.2.2.2.2.1 (mvT hZ w1) (mvT hZ w8) (mvT hZ w2) hy (mvT hZ w5) (mvT hZ w6) (backOf (W := W) M hZ w4 w3 hf hl) qa qc (g := mkF m pc Ls (argsL.reverse ++ .ref a :: rest)) rfl (by rw [X.2.2.2.1]; exact hsz) (Steps.refl _) (argsL := argsL) (rest := rest) hlen rfl (by simpa using hW) (hb X.2.2.1 hd) (fun _ _ => ⟨ha, X.2.2.2.2.2.2, hc, hs⟩)
  dsimp only [Pt.U, Pt.locs, Pt.cells, Pt.slots] at X' l1 l2 l3 stp hQ
  subst l1 l2 l3
  exact Go.step (fun t q => stp.trans q) (k v T' L ⟨X', X.2.1, X.2.2.1, X.2.2.2.1, X.2.2.2.2.1, X.2.2.2.2.2.1, rfl⟩ hQ)
theorem g_private (X : Sx Z own bytes ml p l e R s m args below meth c T locs cells slots h) {y : MethodName} {yb : ByteArray} {yl : Nat} {yr : Option FieldType} {rm : Room} {as' : Array Value} {Q : Option Value → Heap → List Loc → Prop} {i W : Nat} {a : Addr} (argsL rest : List Value) (E : Exa Z h a y.cls) (w1 : (Cond.methodLink own i y).before a0 Z = true) (w5 : (Cond.selects y.cls y y).before a0 Z = true) (w6 : (Cond.instanceMethod y).before a0 Z = true) (w7 : (Cond.privateMethod y).before a0 Z = true) (w3 : (Cond.initialized y.cls).before a0 Z = true) (w4 : (Cond.code y yb yl yr).before a0 Z = true) (M : Rm l Z y yb yl yr [] rm as' h Q) (hd : decode bytes pc = .ok (.invokevirtual i, 3)) (hp : pc + 3 = pc') (hy : y.cls ≠ "java/lang/invoke/MethodHandle" ∧ y.cls ≠ "java/lang/invoke/VarHandle") (hf : rm.frames + 1 ≤ R.frames) (hl : W + (yl + 11) + rm.locals ≤ R.locals) (hsz : Ls.size = ml) (ha : (.ref a :: argsL).toArray = as') (hst : st = argsL.reverse ++ .ref a :: rest) (hlen : ∀ sig, parseMethodDescriptor y.desc = some sig → argsL.length = sig.parameters.length) (hW : (rest.map fun v => v.category).sum ≤ W) (hc : cells + rm.cells ≤ R.cells) (hs : slots + rm.slots ≤ R.slots) (k : ∀ v T' L, Sx Z own bytes ml p l e R s m args below meth c T' (locs ++ L) (cells + rm.cells) (slots + rm.slots) T'.heap → Q v T'.heap L → Go p e below K (T'.setTop (mkF m pc' Ls (v.toList ++ rest)))) : Go p e below K (T.setTop (mkF m pc Ls (st))) := by
  subst hp; subst hst
  have hZ := X.2.2.2.2.2.1
  obtain ⟨cq, q1, q2⟩ := E.cell
  obtain ⟨v, vm1, ⟨T', L', k', n'⟩, -, X', ⟨L, hQ, l1, l2, l3⟩, stp⟩ := X.1.privateBack X.2.1 (y := y) X.2.2.2.2.1 (mvT hZ w1) (mvT hZ w6) (mvT hZ w5) (Cond.privateMethod_at (mvP hZ w7 (args := #[]))) (mvT hZ w4) hy (backOf (W := W) M hZ w4 w3 hf hl) (g := mkF m pc Ls (argsL.reverse ++ .ref a :: rest)) rfl (by rw [X.2.2.2.1]; exact hsz) (Steps.refl _) (a := a) (by rw [X.2.2.2.2.2.2]; exact q1) q2 (argsL := argsL) (rest := rest) hlen rfl (by simpa using hW) (hb X.2.2.1 hd) (fun _ _ => ⟨ha, X.2.2.2.2.2.2, hc, hs⟩)
  dsimp only [Pt.U, Pt.locs, Pt.cells, Pt.slots] at X' l1 l2 l3 stp hQ
  subst l1 l2 l3
  exact Go.step (fun t q => stp.trans q) (k v T' L ⟨X', X.2.1, X.2.2.1, X.2.2.2.1, X.2.2.2.2.1, X.2.2.2.2.2.1, rfl⟩ hQ)
theorem g_specialB (X : Sx Z own bytes ml p l e R s m args below meth c T locs cells slots h) {y : MethodName} {as' : Array Value} {Q : Option Value → Heap → List Loc → Prop} {i W kc ks : Nat} {a : Addr} {yb : ByteArray} {yl : Nat} (argsL rest : List Value) (hi : y.name = "<init>") (w1 : (Cond.methodLink own i y).before a0 Z = true) (w2 : (Cond.instanceMethod y).before a0 Z = true) (w4 : (Cond.code y yb yl none).before a0 Z = true) (hK : Back l R p e below s args y 3 W (fun A a => a = as' ∧ A.U.heap = h ∧ A.cells + kc ≤ R.cells ∧ A.slots + ks ≤ R.slots) (fun A _ v B => ∃ L, Q v B.U.heap L ∧ B.locs = A.locs ++ L ∧ B.cells = A.cells + kc ∧ B.slots = A.slots + ks)) (hd : decode bytes pc = .ok (.invokespecial i, 3)) (hp : pc + 3 = pc') (hy : y.cls ≠ "java/lang/invoke/MethodHandle" ∧ y.cls ≠ "java/lang/invoke/VarHandle") (hsz : Ls.size = ml) (ha : (.ref a :: argsL).toArray = as') (hst : st = argsL.reverse ++ .ref a :: rest) (hlen : ∀ sig, parseMethodDescriptor y.desc = some sig → argsL.length = sig.parameters.length) (hW : (rest.map fun v => v.category).sum ≤ W) (hc : cells + kc ≤ R.cells) (hs : slots + ks ≤ R.slots) (k : ∀ v T' L, Sx Z own bytes ml p l e R s m args below meth c T' (locs ++ L) (cells + kc) (slots + ks) T'.heap → Q v T'.heap L → Go p e below K (T'.setTop (mkF m pc' Ls (v.toList ++ rest)))) : Go p e below K (T.setTop (mkF m pc Ls (st))) := by
  subst hp; subst hst
  have hZ := X.2.2.2.2.2.1
  obtain ⟨v, vm1, ⟨T', L', k', n'⟩, -, X', ⟨L, hQ, l1, l2, l3⟩, stp⟩ := X.1.specialBack X.2.1 (y := y) hi X.2.2.2.2.1 (mvT hZ w1) (mvT hZ w2) (mvT hZ w4) hy hK (g := mkF m pc Ls (argsL.reverse ++ .ref a :: rest)) rfl (by rw [X.2.2.2.1]; exact hsz) (Steps.refl _) (a := a) (argsL := argsL) (rest := rest) hlen rfl (by simpa using hW) (hb X.2.2.1 hd) (fun _ _ => ⟨ha, X.2.2.2.2.2.2, hc, hs⟩)
  dsimp only [Pt.U, Pt.locs, Pt.cells, Pt.slots] at X' l1 l2 l3 stp hQ
  subst l1 l2 l3
  exact Go.step (fun t q => stp.trans q) (k v T' L ⟨X', X.2.1, X.2.2.1, X.2.2.2.1, X.2.2.2.2.1, X.2.2.2.2.2.1, rfl⟩ hQ)
theorem g_virtualB (X : Sx Z own bytes ml p l e R s m args below meth c T locs cells slots h) {y : MethodName} {as' : Array Value} {Q : Option Value → Heap → List Loc → Prop} {i W kc ks : Nat} {a : Addr} {C : String} (argsL rest : List Value) (E : Exa Z h a C) (w1 : (Cond.methodLink own i y).before a0 Z = true) (w2 : (Cond.declares y).before a0 Z = true) (w5 : (Cond.selects C y y).before a0 Z = true) (w6 : (Cond.instanceMethod y).before a0 Z = true) (hK : Back l R p e below s args y 3 W (fun A a => a = as' ∧ A.U.heap = h ∧ A.cells + kc ≤ R.cells ∧ A.slots + ks ≤ R.slots) (fun A _ v B => ∃ L, Q v B.U.heap L ∧ B.locs = A.locs ++ L ∧ B.cells = A.cells + kc ∧ B.slots = A.slots + ks)) (hd : decode bytes pc = .ok (.invokevirtual i, 3)) (hp : pc + 3 = pc') (hy : y.cls ≠ "java/lang/invoke/MethodHandle" ∧ y.cls ≠ "java/lang/invoke/VarHandle") (hsz : Ls.size = ml) (ha : (.ref a :: argsL).toArray = as') (hst : st = argsL.reverse ++ .ref a :: rest) (hlen : ∀ sig, parseMethodDescriptor y.desc = some sig → argsL.length = sig.parameters.length) (hW : (rest.map fun v => v.category).sum ≤ W) (hc : cells + kc ≤ R.cells) (hs : slots + ks ≤ R.slots) (k : ∀ v T' L, Sx Z own bytes ml p l e R s m args below meth c T' (locs ++ L) (cells + kc) (slots + ks) T'.heap → Q v T'.heap L → Go p e below K (T'.setTop (mkF m pc' Ls (v.toList ++ rest)))) : Go p e below K (T.setTop (mkF m pc Ls (st))) := by
  subst hp; subst hst
  have hZ := X.2.2.2.2.2.1
  obtain ⟨cq, kq, qa, qb, qc⟩ := isOf hZ X.2.2.2.2.2.2 E
  obtain ⟨v, vm1, ⟨T', L', k', n'⟩, -, X', ⟨L, hQ, l1, l2, l3⟩, stp⟩ := X.1.virtualBack X.2.1 (y := y) (z := y) X.2.2.2.2.1 (mvT hZ w1) (mvT hZ w2) (notFace_of_selects (args := #[]) (mvT hZ w5)) (mvT hZ w5) (mvT hZ w6) hy hK qa qc (g := mkF m pc Ls (argsL.reverse ++ .ref a :: rest)) rfl (by rw [X.2.2.2.1]; exact hsz) (Steps.refl _) (argsL := argsL) (rest := rest) hlen rfl (by simpa using hW) (hb X.2.2.1 hd) (fun _ _ => ⟨ha, X.2.2.2.2.2.2, hc, hs⟩)
  dsimp only [Pt.U, Pt.locs, Pt.cells, Pt.slots] at X' l1 l2 l3 stp hQ
  subst l1 l2 l3
  exact Go.step (fun t q => stp.trans q) (k v T' L ⟨X', X.2.1, X.2.2.1, X.2.2.2.1, X.2.2.2.2.1, X.2.2.2.2.2.1, rfl⟩ hQ)
theorem g_ireturn (X : Sx Z own bytes ml p l e R s m args below meth c T locs cells slots h) {Q : Option Value → Heap → List Loc → Prop} {kc ks : Nat} {z : Int32} (hd : decode bytes pc = .ok (.ireturn, 1)) (hret : meth.sig.returnType = some .int) (hlk : meth.locks = false) (hc : cells ≤ kc) (hs : slots ≤ ks) (q : Q (some (.int z)) h locs) : Go p e below (Ends s Q kc ks) (T.setTop (mkF m pc Ls (.int z :: st))) := by
  obtain ⟨fs, hr, hrun, hended, hW, hsame⟩ := X.1.leave (v := (some (.int z))) (fun h => by rw [hret] at h; cases h) hlk
  refine ⟨_, _, retI X.1 X.2.1 hret (hb X.2.2.1 hd) hr, hrun, hended, _, _, rfl, ?_, ⟨_, rfl⟩, hW, hsame.mono hc hs⟩
  show Q _ T.heap _
  rw [X.2.2.2.2.2.2]; exact q
theorem g_lreturn (X : Sx Z own bytes ml p l e R s m args below meth c T locs cells slots h) {Q : Option Value → Heap → List Loc → Prop} {kc ks : Nat} {z : Int64} (hd : decode bytes pc = .ok (.lreturn, 1)) (hret : meth.sig.returnType = some .long) (hlk : meth.locks = false) (hc : cells ≤ kc) (hs : slots ≤ ks) (q : Q (some (.long z)) h locs) : Go p e below (Ends s Q kc ks) (T.setTop (mkF m pc Ls (.long z :: st))) := by
  obtain ⟨fs, hr, hrun, hended, hW, hsame⟩ := X.1.leave (v := (some (.long z))) (fun h => by rw [hret] at h; cases h) hlk
  refine ⟨_, _, retJ X.1 X.2.1 hret (hb X.2.2.1 hd) hr, hrun, hended, _, _, rfl, ?_, ⟨_, rfl⟩, hW, hsame.mono hc hs⟩
  show Q _ T.heap _
  rw [X.2.2.2.2.2.2]; exact q
theorem g_ireturnN (X : Sx Z own bytes ml p l e R s m args below meth c T locs cells slots h) {Q : Option Value → Heap → List Loc → Prop} {kc ks : Nat} {z : Int32} {t : FieldType} (ht : t = .boolean ∨ t = .byte ∨ t = .char ∨ t = .short) (hd : decode bytes pc = .ok (.ireturn, 1)) (hret : meth.sig.returnType = some t) (hlk : meth.locks = false) (hc : cells ≤ kc) (hs : slots ≤ ks) (q : Q (some (.int (nar t z))) h locs) : Go p e below (Ends s Q kc ks) (T.setTop (mkF m pc Ls (.int z :: st))) := by
  obtain ⟨fs, hr, hrun, hended, hW, hsame⟩ := X.1.leave (v := (some (.int (nar t z)))) (fun h => by rw [hret] at h; cases h) hlk
  refine ⟨_, _, retN X.1 X.2.1 hret ht (hb X.2.2.1 hd) hr, hrun, hended, _, _, rfl, ?_, ⟨_, rfl⟩, hW, hsame.mono hc hs⟩
  show Q _ T.heap _
  rw [X.2.2.2.2.2.2]; exact q
theorem g_areturn (X : Sx Z own bytes ml p l e R s m args below meth c T locs cells slots h) {Q : Option Value → Heap → List Loc → Prop} {kc ks : Nat} {w : Value} {t : FieldType} (hw : w.isRef = true) (ht : t.isReference = true) (hd : decode bytes pc = .ok (.areturn, 1)) (hret : meth.sig.returnType = some t) (hlk : meth.locks = false) (hc : cells ≤ kc) (hs : slots ≤ ks) (q : Q (some w) h locs) : Go p e below (Ends s Q kc ks) (T.setTop (mkF m pc Ls ([w]))) := by
  obtain ⟨fs, hr, hrun, hended, hW, hsame⟩ := X.1.leave (v := (some w)) (fun h => by rw [hret] at h; cases h) hlk
  refine ⟨_, _, X.1.areturnOut X.2.1 hw hret ht (hb X.2.2.1 hd) hr, hrun, hended, _, _, rfl, ?_, ⟨_, rfl⟩, hW, hsame.mono hc hs⟩
  show Q _ T.heap _
  rw [X.2.2.2.2.2.2]; exact q
theorem g_return (X : Sx Z own bytes ml p l e R s m args below meth c T locs cells slots h) {Q : Option Value → Heap → List Loc → Prop} {kc ks : Nat} (hd : decode bytes pc = .ok (.return_, 1)) (hret : meth.sig.returnType = none) (hlk : meth.locks = false) (hc : cells ≤ kc) (hs : slots ≤ ks) (q : Q none h locs) : Go p e below (Ends s Q kc ks) (T.setTop (mkF m pc Ls ([]))) := by
  obtain ⟨fs, hr, hrun, hended, hW, hsame⟩ := X.1.leave (v := none) (fun _ => rfl) hlk
  refine ⟨_, _, X.1.returnOut X.2.1 hret (hb X.2.2.1 hd) hr, hrun, hended, _, _, rfl, ?_, ⟨_, rfl⟩, hW, hsame.mono hc hs⟩
  show Q _ T.heap _
  rw [X.2.2.2.2.2.2]; exact q
/-- a loop that writes nothing: F: the frame at its head; I: what holds there; mu: the turns left -/
theorem loopP {α : Type} (X : Sx Z own bytes ml p l e R s m args below meth c T locs cells slots h) (F : α → JFrame) (I : α → Prop) (mu : α → Nat)
    (hstep : ∀ (a : α) (T : State), Sx Z own bytes ml p l e R s m args below meth c T locs cells slots h → I a → (∀ (a' : α) (T' : State), mu a' < mu a → Sx Z own bytes ml p l e R s m args below meth c T' locs cells slots h → I a' → Go p e below K (T'.setTop (F a'))) → Go p e below K (T.setTop (F a))) (b : α) (hI : I b) : Go p e below K (T.setTop (F b)) := by
  have main : ∀ (n : Nat) (a : α) (T : State), mu a < n → Sx Z own bytes ml p l e R s m args below meth c T locs cells slots h → I a → Go p e below K (T.setTop (F a)) := by
    intro n
    induction n with
    | zero => intro a T q; exact absurd q (Nat.not_lt_zero _)
    | succ n ih => intro a T q X hI; exact hstep a T X hI (fun a' T' q' X' hI' => ih a' T' (Nat.lt_of_lt_of_le q' (Nat.le_of_lt_succ q)) X' hI')
  exact main _ b T (Nat.lt_succ_self _) X hI
/-- a loop that writes -/
theorem loopW {α : Type} (X : Sx Z own bytes ml p l e R s m args below meth c T locs cells slots h) (F : α → JFrame) (I : α → Heap → List Loc → Prop) (mu : α → Nat)
    (hstep : ∀ (a : α) (T : State) (h : Heap) (locs : List Loc), Sx Z own bytes ml p l e R s m args below meth c T locs cells slots h → I a h locs → (∀ (a' : α) (T' : State) (h' : Heap) (locs' : List Loc), mu a' < mu a → Sx Z own bytes ml p l e R s m args below meth c T' locs' cells slots h' → I a' h' locs' → Go p e below K (T'.setTop (F a'))) → Go p e below K (T.setTop (F a))) (b : α) (hI : I b h locs) : Go p e below K (T.setTop (F b)) := by
  have main : ∀ (n : Nat) (a : α) (T : State) (h : Heap) (locs : List Loc), mu a < n → Sx Z own bytes ml p l e R s m args below meth c T locs cells slots h → I a h locs → Go p e below K (T.setTop (F a)) := by
    intro n
    induction n with
    | zero => intro a T h locs q; exact absurd q (Nat.not_lt_zero _)
    | succ n ih => intro a T h locs q X hI; exact hstep a T h locs X hI (fun a' T' h' locs' q' X' hI' => ih a' T' h' locs' (Nat.lt_of_lt_of_le q' (Nat.le_of_lt_succ q)) X' hI')
  exact main _ b T h locs (Nat.lt_succ_self _) X hI
/-- two ways that meet again -/
theorem joinA {α : Type} (X : Sx Z own bytes ml p l e R s m args below meth c T locs cells slots h) (F : α → JFrame) (r : α → Prop) {f : JFrame} (k : ∀ (T' : State), Sx Z own bytes ml p l e R s m args below meth c T' locs cells slots h → ∀ v : α, r v → Go p e below K (T'.setTop (F v)))
    (b : (∀ (T' : State), Sx Z own bytes ml p l e R s m args below meth c T' locs cells slots h → ∀ v : α, r v → Go p e below K (T'.setTop (F v))) → Go p e below K (T.setTop f)) : Go p e below K (T.setTop f) := b k
end Walk
theorem narT : nar .boolean (1 : Int32) = b2i true := rfl
theorem narF : nar .boolean (0 : Int32) = b2i false := rfl
/-- the sheet's k-th word -/
theorem tb {a0 : Array Value} {Z : State} (hw : ∀ d ∈ tables_1, d.before a0 Z = true) (k : Nat) {d : Jvm.Cond} (hd : tables_1[k]? = some d) : d.before a0 Z = true := hw d (List.mem_of_getElem? hd)
/-- what a method says that writes and makes nothing: it returns this -/
def Pu (val : Value) (h0 : Heap) (v : Option Value) (h : Heap) (L : List Loc) : Prop := v = some val ∧ L = [] ∧ h = h0
theorem pureX {Z : State} {own : String} {bytes : ByteArray} {ml : Nat} {p : Program} {l : Launch} {e : Env} {R : Room} {s : State} {m : MethodId} {args : Array Value} {below : List Frame} {meth : Method} {c : Code} {T : State} {locs L : List Loc} {cells slots : Nat} {h : Heap} {val : Value} {v : Option Value}
    (X : Sx Z own bytes ml p l e R s m args below meth c T (locs ++ L) (cells + 0) (slots + 0) T.heap) (q : Pu val h v T.heap L) : v = some val ∧ Sx Z own bytes ml p l e R s m args below meth c T locs cells slots h := by
  obtain ⟨q1, rfl, q3⟩ := q
  rw [List.append_nil] at X
  exact ⟨q1, X.1, X.2.1, X.2.2.1, X.2.2.2.1, X.2.2.2.2.1, X.2.2.2.2.2.1, q3⟩
theorem pn_0 : plainName "com/example/scheherazade/scheherazade/core/Utf8" = true := by first | (simp [plainName, overriddenIn]; done) | decide +kernel
theorem d1_0 : decode prog_16_method_9_code 0 = .ok (.aload_n 0, 1) := by decide +kernel
theorem d1_1 : decode prog_16_method_9_code 1 = .ok (.iload_n 1, 1) := by decide +kernel
theorem d1_2 : decode prog_16_method_9_code 2 = .ok (.baload, 1) := by decide +kernel
theorem d1_3 : decode prog_16_method_9_code 3 = .ok (.i2l, 1) := by decide +kernel
theorem d1_4 : decode prog_16_method_9_code 4 = .ok (.ldc2_w 47, 3) := by decide +kernel
theorem d1_7 : decode prog_16_method_9_code 7 = .ok (.land, 1) := by decide +kernel
theorem d1_8 : decode prog_16_method_9_code 8 = .ok (.aload_n 0, 1) := by decide +kernel
theorem d1_9 : decode prog_16_method_9_code 9 = .ok (.iload_n 1, 1) := by decide +kernel
theorem d1_10 : decode prog_16_method_9_code 10 = .ok (.iconst 1, 1) := by decide +kernel
theorem d1_11 : decode prog_16_method_9_code 11 = .ok (.iadd, 1) := by decide +kernel
theorem d1_12 : decode prog_16_method_9_code 12 = .ok (.baload, 1) := by decide +kernel
theorem d1_13 : decode prog_16_method_9_code 13 = .ok (.i2l, 1) := by decide +kernel
theorem d1_14 : decode prog_16_method_9_code 14 = .ok (.ldc2_w 47, 3) := by decide +kernel
theorem d1_17 : decode prog_16_method_9_code 17 = .ok (.land, 1) := by decide +kernel
theorem d1_18 : decode prog_16_method_9_code 18 = .ok (.bipush 8, 2) := by decide +kernel
theorem d1_20 : decode prog_16_method_9_code 20 = .ok (.lshl, 1) := by decide +kernel
theorem d1_21 : decode prog_16_method_9_code 21 = .ok (.lor, 1) := by decide +kernel
theorem d1_22 : decode prog_16_method_9_code 22 = .ok (.aload_n 0, 1) := by decide +kernel
theorem d1_23 : decode prog_16_method_9_code 23 = .ok (.iload_n 1, 1) := by decide +kernel
theorem d1_24 : decode prog_16_method_9_code 24 = .ok (.iconst 2, 1) := by decide +kernel
theorem d1_25 : decode prog_16_method_9_code 25 = .ok (.iadd, 1) := by decide +kernel
theorem d1_26 : decode prog_16_method_9_code 26 = .ok (.baload, 1) := by decide +kernel
theorem d1_27 : decode prog_16_method_9_code 27 = .ok (.i2l, 1) := by decide +kernel
theorem d1_28 : decode prog_16_method_9_code 28 = .ok (.ldc2_w 47, 3) := by decide +kernel
theorem d1_31 : decode prog_16_method_9_code 31 = .ok (.land, 1) := by decide +kernel
theorem d1_32 : decode prog_16_method_9_code 32 = .ok (.bipush 16, 2) := by decide +kernel
theorem d1_34 : decode prog_16_method_9_code 34 = .ok (.lshl, 1) := by decide +kernel
theorem d1_35 : decode prog_16_method_9_code 35 = .ok (.lor, 1) := by decide +kernel
theorem d1_36 : decode prog_16_method_9_code 36 = .ok (.aload_n 0, 1) := by decide +kernel
theorem d1_37 : decode prog_16_method_9_code 37 = .ok (.iload_n 1, 1) := by decide +kernel
theorem d1_38 : decode prog_16_method_9_code 38 = .ok (.iconst 3, 1) := by decide +kernel
theorem d1_39 : decode prog_16_method_9_code 39 = .ok (.iadd, 1) := by decide +kernel
theorem d1_40 : decode prog_16_method_9_code 40 = .ok (.baload, 1) := by decide +kernel
theorem d1_41 : decode prog_16_method_9_code 41 = .ok (.i2l, 1) := by decide +kernel
theorem d1_42 : decode prog_16_method_9_code 42 = .ok (.ldc2_w 47, 3) := by decide +kernel
theorem d1_45 : decode prog_16_method_9_code 45 = .ok (.land, 1) := by decide +kernel
theorem d1_46 : decode prog_16_method_9_code 46 = .ok (.bipush 24, 2) := by decide +kernel
theorem d1_48 : decode prog_16_method_9_code 48 = .ok (.lshl, 1) := by decide +kernel
theorem d1_49 : decode prog_16_method_9_code 49 = .ok (.lor, 1) := by decide +kernel
theorem d1_50 : decode prog_16_method_9_code 50 = .ok (.aload_n 0, 1) := by decide +kernel
theorem d1_51 : decode prog_16_method_9_code 51 = .ok (.iload_n 1, 1) := by decide +kernel
theorem d1_52 : decode prog_16_method_9_code 52 = .ok (.iconst 4, 1) := by decide +kernel
theorem d1_53 : decode prog_16_method_9_code 53 = .ok (.iadd, 1) := by decide +kernel
theorem d1_54 : decode prog_16_method_9_code 54 = .ok (.baload, 1) := by decide +kernel
theorem d1_55 : decode prog_16_method_9_code 55 = .ok (.i2l, 1) := by decide +kernel
theorem d1_56 : decode prog_16_method_9_code 56 = .ok (.ldc2_w 47, 3) := by decide +kernel
theorem d1_59 : decode prog_16_method_9_code 59 = .ok (.land, 1) := by decide +kernel
theorem d1_60 : decode prog_16_method_9_code 60 = .ok (.bipush 32, 2) := by decide +kernel
theorem d1_62 : decode prog_16_method_9_code 62 = .ok (.lshl, 1) := by decide +kernel
theorem d1_63 : decode prog_16_method_9_code 63 = .ok (.lor, 1) := by decide +kernel
theorem d1_64 : decode prog_16_method_9_code 64 = .ok (.aload_n 0, 1) := by decide +kernel
theorem d1_65 : decode prog_16_method_9_code 65 = .ok (.iload_n 1, 1) := by decide +kernel
theorem d1_66 : decode prog_16_method_9_code 66 = .ok (.iconst 5, 1) := by decide +kernel
theorem d1_67 : decode prog_16_method_9_code 67 = .ok (.iadd, 1) := by decide +kernel
theorem d1_68 : decode prog_16_method_9_code 68 = .ok (.baload, 1) := by decide +kernel
theorem d1_69 : decode prog_16_method_9_code 69 = .ok (.i2l, 1) := by decide +kernel
theorem d1_70 : decode prog_16_method_9_code 70 = .ok (.ldc2_w 47, 3) := by decide +kernel
theorem d1_73 : decode prog_16_method_9_code 73 = .ok (.land, 1) := by decide +kernel
theorem d1_74 : decode prog_16_method_9_code 74 = .ok (.bipush 40, 2) := by decide +kernel
theorem d1_76 : decode prog_16_method_9_code 76 = .ok (.lshl, 1) := by decide +kernel
theorem d1_77 : decode prog_16_method_9_code 77 = .ok (.lor, 1) := by decide +kernel
theorem d1_78 : decode prog_16_method_9_code 78 = .ok (.aload_n 0, 1) := by decide +kernel
theorem d1_79 : decode prog_16_method_9_code 79 = .ok (.iload_n 1, 1) := by decide +kernel
theorem d1_80 : decode prog_16_method_9_code 80 = .ok (.bipush 6, 2) := by decide +kernel
theorem d1_82 : decode prog_16_method_9_code 82 = .ok (.iadd, 1) := by decide +kernel
theorem d1_83 : decode prog_16_method_9_code 83 = .ok (.baload, 1) := by decide +kernel
theorem d1_84 : decode prog_16_method_9_code 84 = .ok (.i2l, 1) := by decide +kernel
theorem d1_85 : decode prog_16_method_9_code 85 = .ok (.ldc2_w 47, 3) := by decide +kernel
theorem d1_88 : decode prog_16_method_9_code 88 = .ok (.land, 1) := by decide +kernel
theorem d1_89 : decode prog_16_method_9_code 89 = .ok (.bipush 48, 2) := by decide +kernel
theorem d1_91 : decode prog_16_method_9_code 91 = .ok (.lshl, 1) := by decide +kernel
theorem d1_92 : decode prog_16_method_9_code 92 = .ok (.lor, 1) := by decide +kernel
theorem d1_93 : decode prog_16_method_9_code 93 = .ok (.aload_n 0, 1) := by decide +kernel
theorem d1_94 : decode prog_16_method_9_code 94 = .ok (.iload_n 1, 1) := by decide +kernel
theorem d1_95 : decode prog_16_method_9_code 95 = .ok (.bipush 7, 2) := by decide +kernel
theorem d1_97 : decode prog_16_method_9_code 97 = .ok (.iadd, 1) := by decide +kernel
theorem d1_98 : decode prog_16_method_9_code 98 = .ok (.baload, 1) := by decide +kernel
theorem d1_99 : decode prog_16_method_9_code 99 = .ok (.i2l, 1) := by decide +kernel
theorem d1_100 : decode prog_16_method_9_code 100 = .ok (.bipush 56, 2) := by decide +kernel
theorem d1_102 : decode prog_16_method_9_code 102 = .ok (.lshl, 1) := by decide +kernel
theorem d1_103 : decode prog_16_method_9_code 103 = .ok (.lor, 1) := by decide +kernel
theorem d1_104 : decode prog_16_method_9_code 104 = .ok (.lreturn, 1) := by decide +kernel
def fW0 (u0 : Int32) (u1 : Int32) (u2 : Int32) (u3 : Int32) (u4 : Int32) (u5 : Int32) (u6 : Int32) (u7 : Int32) (u8 : Int32) (u9 : Int32) (u10 : Int32) (u11 : Int32) : Int64 := (((((((((u0.toInt64) &&& (255 : Int64)) ||| (((u1.toInt64) &&& (255 : Int64)) <<< ((8 : Int32) &&& 0x3f).toInt64)) ||| (((u2.toInt64) &&& (255 : Int64)) <<< ((16 : Int32) &&& 0x3f).toInt64)) ||| (((u3.toInt64) &&& (255 : Int64)) <<< ((24 : Int32) &&& 0x3f).toInt64)) ||| (((u4.toInt64) &&& (255 : Int64)) <<< ((32 : Int32) &&& 0x3f).toInt64)) ||| (((u5.toInt64) &&& (255 : Int64)) <<< ((40 : Int32) &&& 0x3f).toInt64)) ||| (((u6.toInt64) &&& (255 : Int64)) <<< ((48 : Int32) &&& 0x3f).toInt64)) ||| ((u7.toInt64) <<< ((56 : Int32) &&& 0x3f).toInt64))
theorem ef_rW0 (m : MethodId) (x0 : Addr) (x1 : Int32) : entryFrame m #[(.ref x0), (.int x1)] 2 = mkF m 0 #[.val (.ref x0), .val (.int x1)] [] := by first | (simp [entryFrame, mkF, argsToLocals, Value.category]; done) | rfl
set_option maxRecDepth 65536 in
set_option maxHeartbeats 40000000 in
theorem rW0 (l : Launch) (Z : State) (aa : Array Value) (hw : ∀ d ∈ tables_1, d.before aa Z = true) (ws : List Jvm.Cond) (w0 : Addr) (u0 : Int32) (u1 : Int32) (u2 : Int32) (u3 : Int32) (u4 : Int32) (u5 : Int32) (u6 : Int32) (u7 : Int32) (u8 : Int32) (u9 : Int32) (u10 : Int32) (u11 : Int32) (h0 : Heap) (V_w0 : Av Z h0 w0 .byte [(.int u0), (.int u1), (.int u2), (.int u3), (.int u4), (.int u5), (.int u6), (.int u7), (.int u8), (.int u9), (.int u10), (.int u11)]) :
    Rm l Z (⟨"com/example/scheherazade/scheherazade/core/Utf8", "word", "([BI)J"⟩ : MethodName) prog_16_method_9_code 2 (some .long) ws ({ frames := 0, cells := 0, slots := 0, locals := 0 } : Room) #[(.ref w0), (.int (0 : Int32))] h0 (Pu (.long (fW0 u0 u1 u2 u3 u4 u5 u6 u7 u8 u9 u10 u11)) h0) := by
  refine Rm.of (plainFor_of_name pn_0) ?_
  intro p e s m below meth cc T X hnm hret hlk
  refine Go.at_ (ef_rW0 m w0 (0 : Int32)) ?_
  refine g_aloadN X d1_0 (pc' := 1) rfl rfl rfl ?_
  refine g_iloadN X d1_1 (pc' := 2) rfl rfl ?_
  refine g_baload X V_w0 0 d1_2 (pc' := 3) rfl (by decide) (by decide) rfl ?_
  refine g_i2l X d1_3 (pc' := 4) rfl ?_
  refine g_ldc2 X (tb hw 5 rfl) d1_4 (pc' := 7) rfl ?_
  refine g_land X d1_7 (pc' := 8) rfl ?_
  refine g_aloadN X d1_8 (pc' := 9) rfl rfl rfl ?_
  refine g_iloadN X d1_9 (pc' := 10) rfl rfl ?_
  refine g_iconst X (1 : Int32) d1_10 (pc' := 11) rfl rfl ?_
  refine g_iadd X d1_11 (pc' := 12) rfl ?_
  refine Go.lit32 (z := (1 : Int32)) (by decide) ?_
  refine g_baload X V_w0 1 d1_12 (pc' := 13) rfl (by decide) (by decide) rfl ?_
  refine g_i2l X d1_13 (pc' := 14) rfl ?_
  refine g_ldc2 X (tb hw 5 rfl) d1_14 (pc' := 17) rfl ?_
  refine g_land X d1_17 (pc' := 18) rfl ?_
  refine g_bipush X (8 : Int32) d1_18 (pc' := 20) rfl rfl ?_
  refine g_lshl X d1_20 (pc' := 21) rfl ?_
  refine g_lor X d1_21 (pc' := 22) rfl ?_
  refine g_aloadN X d1_22 (pc' := 23) rfl rfl rfl ?_
  refine g_iloadN X d1_23 (pc' := 24) rfl rfl ?_
  refine g_iconst X (2 : Int32) d1_24 (pc' := 25) rfl rfl ?_
  refine g_iadd X d1_25 (pc' := 26) rfl ?_
  refine Go.lit32 (z := (2 : Int32)) (by decide) ?_
  refine g_baload X V_w0 2 d1_26 (pc' := 27) rfl (by decide) (by decide) rfl ?_
  refine g_i2l X d1_27 (pc' := 28) rfl ?_
  refine g_ldc2 X (tb hw 5 rfl) d1_28 (pc' := 31) rfl ?_
  refine g_land X d1_31 (pc' := 32) rfl ?_
  refine g_bipush X (16 : Int32) d1_32 (pc' := 34) rfl rfl ?_
  refine g_lshl X d1_34 (pc' := 35) rfl ?_
  refine g_lor X d1_35 (pc' := 36) rfl ?_
  refine g_aloadN X d1_36 (pc' := 37) rfl rfl rfl ?_
  refine g_iloadN X d1_37 (pc' := 38) rfl rfl ?_
  refine g_iconst X (3 : Int32) d1_38 (pc' := 39) rfl rfl ?_
  refine g_iadd X d1_39 (pc' := 40) rfl ?_
  refine Go.lit32 (z := (3 : Int32)) (by decide) ?_
  refine g_baload X V_w0 3 d1_40 (pc' := 41) rfl (by decide) (by decide) rfl ?_
  refine g_i2l X d1_41 (pc' := 42) rfl ?_
  refine g_ldc2 X (tb hw 5 rfl) d1_42 (pc' := 45) rfl ?_
  refine g_land X d1_45 (pc' := 46) rfl ?_
  refine g_bipush X (24 : Int32) d1_46 (pc' := 48) rfl rfl ?_
  refine g_lshl X d1_48 (pc' := 49) rfl ?_
  refine g_lor X d1_49 (pc' := 50) rfl ?_
  refine g_aloadN X d1_50 (pc' := 51) rfl rfl rfl ?_
  refine g_iloadN X d1_51 (pc' := 52) rfl rfl ?_
  refine g_iconst X (4 : Int32) d1_52 (pc' := 53) rfl rfl ?_
  refine g_iadd X d1_53 (pc' := 54) rfl ?_
  refine Go.lit32 (z := (4 : Int32)) (by decide) ?_
  refine g_baload X V_w0 4 d1_54 (pc' := 55) rfl (by decide) (by decide) rfl ?_
  refine g_i2l X d1_55 (pc' := 56) rfl ?_
  refine g_ldc2 X (tb hw 5 rfl) d1_56 (pc' := 59) rfl ?_
  refine g_land X d1_59 (pc' := 60) rfl ?_
  refine g_bipush X (32 : Int32) d1_60 (pc' := 62) rfl rfl ?_
  refine g_lshl X d1_62 (pc' := 63) rfl ?_
  refine g_lor X d1_63 (pc' := 64) rfl ?_
  refine g_aloadN X d1_64 (pc' := 65) rfl rfl rfl ?_
  refine g_iloadN X d1_65 (pc' := 66) rfl rfl ?_
  refine g_iconst X (5 : Int32) d1_66 (pc' := 67) rfl rfl ?_
  refine g_iadd X d1_67 (pc' := 68) rfl ?_
  refine Go.lit32 (z := (5 : Int32)) (by decide) ?_
  refine g_baload X V_w0 5 d1_68 (pc' := 69) rfl (by decide) (by decide) rfl ?_
  refine g_i2l X d1_69 (pc' := 70) rfl ?_
  refine g_ldc2 X (tb hw 5 rfl) d1_70 (pc' := 73) rfl ?_
  refine g_land X d1_73 (pc' := 74) rfl ?_
  refine g_bipush X (40 : Int32) d1_74 (pc' := 76) rfl rfl ?_
  refine g_lshl X d1_76 (pc' := 77) rfl ?_
  refine g_lor X d1_77 (pc' := 78) rfl ?_
  refine g_aloadN X d1_78 (pc' := 79) rfl rfl rfl ?_
  refine g_iloadN X d1_79 (pc' := 80) rfl rfl ?_
  refine g_bipush X (6 : Int32) d1_80 (pc' := 82) rfl rfl ?_
  refine g_iadd X d1_82 (pc' := 83) rfl ?_
  refine Go.lit32 (z := (6 : Int32)) (by decide) ?_
  refine g_baload X V_w0 6 d1_83 (pc' := 84) rfl (by decide) (by decide) rfl ?_
  refine g_i2l X d1_84 (pc' := 85) rfl ?_
  refine g_ldc2 X (tb hw 5 rfl) d1_85 (pc' := 88) rfl ?_
  refine g_land X d1_88 (pc' := 89) rfl ?_
  refine g_bipush X (48 : Int32) d1_89 (pc' := 91) rfl rfl ?_
  refine g_lshl X d1_91 (pc' := 92) rfl ?_
  refine g_lor X d1_92 (pc' := 93) rfl ?_
  refine g_aloadN X d1_93 (pc' := 94) rfl rfl rfl ?_
  refine g_iloadN X d1_94 (pc' := 95) rfl rfl ?_
  refine g_bipush X (7 : Int32) d1_95 (pc' := 97) rfl rfl ?_
  refine g_iadd X d1_97 (pc' := 98) rfl ?_
  refine Go.lit32 (z := (7 : Int32)) (by decide) ?_
  refine g_baload X V_w0 7 d1_98 (pc' := 99) rfl (by decide) (by decide) rfl ?_
  refine g_i2l X d1_99 (pc' := 100) rfl ?_
  refine g_bipush X (56 : Int32) d1_100 (pc' := 102) rfl rfl ?_
  refine g_lshl X d1_102 (pc' := 103) rfl ?_
  refine g_lor X d1_103 (pc' := 104) rfl ?_
  refine g_lreturn X d1_104 hret hlk (by decide) (by decide) ?_
  exact ⟨congrArg (fun z => some (Value.long z)) (Eq.symm (show fW0 u0 u1 u2 u3 u4 u5 u6 u7 u8 u9 u10 u11 = _ from rfl)), rfl, rfl⟩
def fW1 (u0 : Int32) (u1 : Int32) (u2 : Int32) (u3 : Int32) (u4 : Int32) (u5 : Int32) (u6 : Int32) (u7 : Int32) (u8 : Int32) (u9 : Int32) (u10 : Int32) (u11 : Int32) : Int64 := (((((((((u1.toInt64) &&& (255 : Int64)) ||| (((u2.toInt64) &&& (255 : Int64)) <<< ((8 : Int32) &&& 0x3f).toInt64)) ||| (((u3.toInt64) &&& (255 : Int64)) <<< ((16 : Int32) &&& 0x3f).toInt64)) ||| (((u4.toInt64) &&& (255 : Int64)) <<< ((24 : Int32) &&& 0x3f).toInt64)) ||| (((u5.toInt64) &&& (255 : Int64)) <<< ((32 : Int32) &&& 0x3f).toInt64)) ||| (((u6.toInt64) &&& (255 : Int64)) <<< ((40 : Int32) &&& 0x3f).toInt64)) ||| (((u7.toInt64) &&& (255 : Int64)) <<< ((48 : Int32) &&& 0x3f).toInt64)) ||| ((u8.toInt64) <<< ((56 : Int32) &&& 0x3f).toInt64))
theorem ef_rW1 (m : MethodId) (x0 : Addr) (x1 : Int32) : entryFrame m #[(.ref x0), (.int x1)] 2 = mkF m 0 #[.val (.ref x0), .val (.int x1)] [] := by first | (simp [entryFrame, mkF, argsToLocals, Value.category]; done) | rfl
set_option maxRecDepth 65536 in
set_option maxHeartbeats 40000000 in
theorem rW1 (l : Launch) (Z : State) (aa : Array Value) (hw : ∀ d ∈ tables_1, d.before aa Z = true) (ws : List Jvm.Cond) (w0 : Addr) (u0 : Int32) (u1 : Int32) (u2 : Int32) (u3 : Int32) (u4 : Int32) (u5 : Int32) (u6 : Int32) (u7 : Int32) (u8 : Int32) (u9 : Int32) (u10 : Int32) (u11 : Int32) (h0 : Heap) (V_w0 : Av Z h0 w0 .byte [(.int u0), (.int u1), (.int u2), (.int u3), (.int u4), (.int u5), (.int u6), (.int u7), (.int u8), (.int u9), (.int u10), (.int u11)]) :
    Rm l Z (⟨"com/example/scheherazade/scheherazade/core/Utf8", "word", "([BI)J"⟩ : MethodName) prog_16_method_9_code 2 (some .long) ws ({ frames := 0, cells := 0, slots := 0, locals := 0 } : Room) #[(.ref w0), (.int (1 : Int32))] h0 (Pu (.long (fW1 u0 u1 u2 u3 u4 u5 u6 u7 u8 u9 u10 u11)) h0) := by
  refine Rm.of (plainFor_of_name pn_0) ?_
  intro p e s m below meth cc T X hnm hret hlk
  refine Go.at_ (ef_rW1 m w0 (1 : Int32)) ?_
  refine g_aloadN X d1_0 (pc' := 1) rfl rfl rfl ?_
  refine g_iloadN X d1_1 (pc' := 2) rfl rfl ?_
  refine g_baload X V_w0 1 d1_2 (pc' := 3) rfl (by decide) (by decide) rfl ?_
  refine g_i2l X d1_3 (pc' := 4) rfl ?_
  refine g_ldc2 X (tb hw 5 rfl) d1_4 (pc' := 7) rfl ?_
  refine g_land X d1_7 (pc' := 8) rfl ?_
  refine g_aloadN X d1_8 (pc' := 9) rfl rfl rfl ?_
  refine g_iloadN X d1_9 (pc' := 10) rfl rfl ?_
  refine g_iconst X (1 : Int32) d1_10 (pc' := 11) rfl rfl ?_
  refine g_iadd X d1_11 (pc' := 12) rfl ?_
  refine Go.lit32 (z := (2 : Int32)) (by decide) ?_
  refine g_baload X V_w0 2 d1_12 (pc' := 13) rfl (by decide) (by decide) rfl ?_
  refine g_i2l X d1_13 (pc' := 14) rfl ?_
  refine g_ldc2 X (tb hw 5 rfl) d1_14 (pc' := 17) rfl ?_
  refine g_land X d1_17 (pc' := 18) rfl ?_
  refine g_bipush X (8 : Int32) d1_18 (pc' := 20) rfl rfl ?_
  refine g_lshl X d1_20 (pc' := 21) rfl ?_
  refine g_lor X d1_21 (pc' := 22) rfl ?_
  refine g_aloadN X d1_22 (pc' := 23) rfl rfl rfl ?_
  refine g_iloadN X d1_23 (pc' := 24) rfl rfl ?_
  refine g_iconst X (2 : Int32) d1_24 (pc' := 25) rfl rfl ?_
  refine g_iadd X d1_25 (pc' := 26) rfl ?_
  refine Go.lit32 (z := (3 : Int32)) (by decide) ?_
  refine g_baload X V_w0 3 d1_26 (pc' := 27) rfl (by decide) (by decide) rfl ?_
  refine g_i2l X d1_27 (pc' := 28) rfl ?_
  refine g_ldc2 X (tb hw 5 rfl) d1_28 (pc' := 31) rfl ?_
  refine g_land X d1_31 (pc' := 32) rfl ?_
  refine g_bipush X (16 : Int32) d1_32 (pc' := 34) rfl rfl ?_
  refine g_lshl X d1_34 (pc' := 35) rfl ?_
  refine g_lor X d1_35 (pc' := 36) rfl ?_
  refine g_aloadN X d1_36 (pc' := 37) rfl rfl rfl ?_
  refine g_iloadN X d1_37 (pc' := 38) rfl rfl ?_
  refine g_iconst X (3 : Int32) d1_38 (pc' := 39) rfl rfl ?_
  refine g_iadd X d1_39 (pc' := 40) rfl ?_
  refine Go.lit32 (z := (4 : Int32)) (by decide) ?_
  refine g_baload X V_w0 4 d1_40 (pc' := 41) rfl (by decide) (by decide) rfl ?_
  refine g_i2l X d1_41 (pc' := 42) rfl ?_
  refine g_ldc2 X (tb hw 5 rfl) d1_42 (pc' := 45) rfl ?_
  refine g_land X d1_45 (pc' := 46) rfl ?_
  refine g_bipush X (24 : Int32) d1_46 (pc' := 48) rfl rfl ?_
  refine g_lshl X d1_48 (pc' := 49) rfl ?_
  refine g_lor X d1_49 (pc' := 50) rfl ?_
  refine g_aloadN X d1_50 (pc' := 51) rfl rfl rfl ?_
  refine g_iloadN X d1_51 (pc' := 52) rfl rfl ?_
  refine g_iconst X (4 : Int32) d1_52 (pc' := 53) rfl rfl ?_
  refine g_iadd X d1_53 (pc' := 54) rfl ?_
  refine Go.lit32 (z := (5 : Int32)) (by decide) ?_
  refine g_baload X V_w0 5 d1_54 (pc' := 55) rfl (by decide) (by decide) rfl ?_
  refine g_i2l X d1_55 (pc' := 56) rfl ?_
  refine g_ldc2 X (tb hw 5 rfl) d1_56 (pc' := 59) rfl ?_
  refine g_land X d1_59 (pc' := 60) rfl ?_
  refine g_bipush X (32 : Int32) d1_60 (pc' := 62) rfl rfl ?_
  refine g_lshl X d1_62 (pc' := 63) rfl ?_
  refine g_lor X d1_63 (pc' := 64) rfl ?_
  refine g_aloadN X d1_64 (pc' := 65) rfl rfl rfl ?_
  refine g_iloadN X d1_65 (pc' := 66) rfl rfl ?_
  refine g_iconst X (5 : Int32) d1_66 (pc' := 67) rfl rfl ?_
  refine g_iadd X d1_67 (pc' := 68) rfl ?_
  refine Go.lit32 (z := (6 : Int32)) (by decide) ?_
  refine g_baload X V_w0 6 d1_68 (pc' := 69) rfl (by decide) (by decide) rfl ?_
  refine g_i2l X d1_69 (pc' := 70) rfl ?_
  refine g_ldc2 X (tb hw 5 rfl) d1_70 (pc' := 73) rfl ?_
  refine g_land X d1_73 (pc' := 74) rfl ?_
  refine g_bipush X (40 : Int32) d1_74 (pc' := 76) rfl rfl ?_
  refine g_lshl X d1_76 (pc' := 77) rfl ?_
  refine g_lor X d1_77 (pc' := 78) rfl ?_
  refine g_aloadN X d1_78 (pc' := 79) rfl rfl rfl ?_
  refine g_iloadN X d1_79 (pc' := 80) rfl rfl ?_
  refine g_bipush X (6 : Int32) d1_80 (pc' := 82) rfl rfl ?_
  refine g_iadd X d1_82 (pc' := 83) rfl ?_
  refine Go.lit32 (z := (7 : Int32)) (by decide) ?_
  refine g_baload X V_w0 7 d1_83 (pc' := 84) rfl (by decide) (by decide) rfl ?_
  refine g_i2l X d1_84 (pc' := 85) rfl ?_
  refine g_ldc2 X (tb hw 5 rfl) d1_85 (pc' := 88) rfl ?_
  refine g_land X d1_88 (pc' := 89) rfl ?_
  refine g_bipush X (48 : Int32) d1_89 (pc' := 91) rfl rfl ?_
  refine g_lshl X d1_91 (pc' := 92) rfl ?_
  refine g_lor X d1_92 (pc' := 93) rfl ?_
  refine g_aloadN X d1_93 (pc' := 94) rfl rfl rfl ?_
  refine g_iloadN X d1_94 (pc' := 95) rfl rfl ?_
  refine g_bipush X (7 : Int32) d1_95 (pc' := 97) rfl rfl ?_
  refine g_iadd X d1_97 (pc' := 98) rfl ?_
  refine Go.lit32 (z := (8 : Int32)) (by decide) ?_
  refine g_baload X V_w0 8 d1_98 (pc' := 99) rfl (by decide) (by decide) rfl ?_
  refine g_i2l X d1_99 (pc' := 100) rfl ?_
  refine g_bipush X (56 : Int32) d1_100 (pc' := 102) rfl rfl ?_
  refine g_lshl X d1_102 (pc' := 103) rfl ?_
  refine g_lor X d1_103 (pc' := 104) rfl ?_
  refine g_lreturn X d1_104 hret hlk (by decide) (by decide) ?_
  exact ⟨congrArg (fun z => some (Value.long z)) (Eq.symm (show fW1 u0 u1 u2 u3 u4 u5 u6 u7 u8 u9 u10 u11 = _ from rfl)), rfl, rfl⟩
def fW2 (u0 : Int32) (u1 : Int32) (u2 : Int32) (u3 : Int32) (u4 : Int32) (u5 : Int32) (u6 : Int32) (u7 : Int32) (u8 : Int32) (u9 : Int32) (u10 : Int32) (u11 : Int32) : Int64 := (((((((((u2.toInt64) &&& (255 : Int64)) ||| (((u3.toInt64) &&& (255 : Int64)) <<< ((8 : Int32) &&& 0x3f).toInt64)) ||| (((u4.toInt64) &&& (255 : Int64)) <<< ((16 : Int32) &&& 0x3f).toInt64)) ||| (((u5.toInt64) &&& (255 : Int64)) <<< ((24 : Int32) &&& 0x3f).toInt64)) ||| (((u6.toInt64) &&& (255 : Int64)) <<< ((32 : Int32) &&& 0x3f).toInt64)) ||| (((u7.toInt64) &&& (255 : Int64)) <<< ((40 : Int32) &&& 0x3f).toInt64)) ||| (((u8.toInt64) &&& (255 : Int64)) <<< ((48 : Int32) &&& 0x3f).toInt64)) ||| ((u9.toInt64) <<< ((56 : Int32) &&& 0x3f).toInt64))
theorem ef_rW2 (m : MethodId) (x0 : Addr) (x1 : Int32) : entryFrame m #[(.ref x0), (.int x1)] 2 = mkF m 0 #[.val (.ref x0), .val (.int x1)] [] := by first | (simp [entryFrame, mkF, argsToLocals, Value.category]; done) | rfl
set_option maxRecDepth 65536 in
set_option maxHeartbeats 40000000 in
theorem rW2 (l : Launch) (Z : State) (aa : Array Value) (hw : ∀ d ∈ tables_1, d.before aa Z = true) (ws : List Jvm.Cond) (w0 : Addr) (u0 : Int32) (u1 : Int32) (u2 : Int32) (u3 : Int32) (u4 : Int32) (u5 : Int32) (u6 : Int32) (u7 : Int32) (u8 : Int32) (u9 : Int32) (u10 : Int32) (u11 : Int32) (h0 : Heap) (V_w0 : Av Z h0 w0 .byte [(.int u0), (.int u1), (.int u2), (.int u3), (.int u4), (.int u5), (.int u6), (.int u7), (.int u8), (.int u9), (.int u10), (.int u11)]) :
    Rm l Z (⟨"com/example/scheherazade/scheherazade/core/Utf8", "word", "([BI)J"⟩ : MethodName) prog_16_method_9_code 2 (some .long) ws ({ frames := 0, cells := 0, slots := 0, locals := 0 } : Room) #[(.ref w0), (.int (2 : Int32))] h0 (Pu (.long (fW2 u0 u1 u2 u3 u4 u5 u6 u7 u8 u9 u10 u11)) h0) := by
  refine Rm.of (plainFor_of_name pn_0) ?_
  intro p e s m below meth cc T X hnm hret hlk
  refine Go.at_ (ef_rW2 m w0 (2 : Int32)) ?_
  refine g_aloadN X d1_0 (pc' := 1) rfl rfl rfl ?_
  refine g_iloadN X d1_1 (pc' := 2) rfl rfl ?_
  refine g_baload X V_w0 2 d1_2 (pc' := 3) rfl (by decide) (by decide) rfl ?_
  refine g_i2l X d1_3 (pc' := 4) rfl ?_
  refine g_ldc2 X (tb hw 5 rfl) d1_4 (pc' := 7) rfl ?_
  refine g_land X d1_7 (pc' := 8) rfl ?_
  refine g_aloadN X d1_8 (pc' := 9) rfl rfl rfl ?_
  refine g_iloadN X d1_9 (pc' := 10) rfl rfl ?_
  refine g_iconst X (1 : Int32) d1_10 (pc' := 11) rfl rfl ?_
  refine g_iadd X d1_11 (pc' := 12) rfl ?_
  refine Go.lit32 (z := (3 : Int32)) (by decide) ?_
  refine g_baload X V_w0 3 d1_12 (pc' := 13) rfl (by decide) (by decide) rfl ?_
  refine g_i2l X d1_13 (pc' := 14) rfl ?_
  refine g_ldc2 X (tb hw 5 rfl) d1_14 (pc' := 17) rfl ?_
  refine g_land X d1_17 (pc' := 18) rfl ?_
  refine g_bipush X (8 : Int32) d1_18 (pc' := 20) rfl rfl ?_
  refine g_lshl X d1_20 (pc' := 21) rfl ?_
  refine g_lor X d1_21 (pc' := 22) rfl ?_
  refine g_aloadN X d1_22 (pc' := 23) rfl rfl rfl ?_
  refine g_iloadN X d1_23 (pc' := 24) rfl rfl ?_
  refine g_iconst X (2 : Int32) d1_24 (pc' := 25) rfl rfl ?_
  refine g_iadd X d1_25 (pc' := 26) rfl ?_
  refine Go.lit32 (z := (4 : Int32)) (by decide) ?_
  refine g_baload X V_w0 4 d1_26 (pc' := 27) rfl (by decide) (by decide) rfl ?_
  refine g_i2l X d1_27 (pc' := 28) rfl ?_
  refine g_ldc2 X (tb hw 5 rfl) d1_28 (pc' := 31) rfl ?_
  refine g_land X d1_31 (pc' := 32) rfl ?_
  refine g_bipush X (16 : Int32) d1_32 (pc' := 34) rfl rfl ?_
  refine g_lshl X d1_34 (pc' := 35) rfl ?_
  refine g_lor X d1_35 (pc' := 36) rfl ?_
  refine g_aloadN X d1_36 (pc' := 37) rfl rfl rfl ?_
  refine g_iloadN X d1_37 (pc' := 38) rfl rfl ?_
  refine g_iconst X (3 : Int32) d1_38 (pc' := 39) rfl rfl ?_
  refine g_iadd X d1_39 (pc' := 40) rfl ?_
  refine Go.lit32 (z := (5 : Int32)) (by decide) ?_
  refine g_baload X V_w0 5 d1_40 (pc' := 41) rfl (by decide) (by decide) rfl ?_
  refine g_i2l X d1_41 (pc' := 42) rfl ?_
  refine g_ldc2 X (tb hw 5 rfl) d1_42 (pc' := 45) rfl ?_
  refine g_land X d1_45 (pc' := 46) rfl ?_
  refine g_bipush X (24 : Int32) d1_46 (pc' := 48) rfl rfl ?_
  refine g_lshl X d1_48 (pc' := 49) rfl ?_
  refine g_lor X d1_49 (pc' := 50) rfl ?_
  refine g_aloadN X d1_50 (pc' := 51) rfl rfl rfl ?_
  refine g_iloadN X d1_51 (pc' := 52) rfl rfl ?_
  refine g_iconst X (4 : Int32) d1_52 (pc' := 53) rfl rfl ?_
  refine g_iadd X d1_53 (pc' := 54) rfl ?_
  refine Go.lit32 (z := (6 : Int32)) (by decide) ?_
  refine g_baload X V_w0 6 d1_54 (pc' := 55) rfl (by decide) (by decide) rfl ?_
  refine g_i2l X d1_55 (pc' := 56) rfl ?_
  refine g_ldc2 X (tb hw 5 rfl) d1_56 (pc' := 59) rfl ?_
  refine g_land X d1_59 (pc' := 60) rfl ?_
  refine g_bipush X (32 : Int32) d1_60 (pc' := 62) rfl rfl ?_
  refine g_lshl X d1_62 (pc' := 63) rfl ?_
  refine g_lor X d1_63 (pc' := 64) rfl ?_
  refine g_aloadN X d1_64 (pc' := 65) rfl rfl rfl ?_
  refine g_iloadN X d1_65 (pc' := 66) rfl rfl ?_
  refine g_iconst X (5 : Int32) d1_66 (pc' := 67) rfl rfl ?_
  refine g_iadd X d1_67 (pc' := 68) rfl ?_
  refine Go.lit32 (z := (7 : Int32)) (by decide) ?_
  refine g_baload X V_w0 7 d1_68 (pc' := 69) rfl (by decide) (by decide) rfl ?_
  refine g_i2l X d1_69 (pc' := 70) rfl ?_
  refine g_ldc2 X (tb hw 5 rfl) d1_70 (pc' := 73) rfl ?_
  refine g_land X d1_73 (pc' := 74) rfl ?_
  refine g_bipush X (40 : Int32) d1_74 (pc' := 76) rfl rfl ?_
  refine g_lshl X d1_76 (pc' := 77) rfl ?_
  refine g_lor X d1_77 (pc' := 78) rfl ?_
  refine g_aloadN X d1_78 (pc' := 79) rfl rfl rfl ?_
  refine g_iloadN X d1_79 (pc' := 80) rfl rfl ?_
  refine g_bipush X (6 : Int32) d1_80 (pc' := 82) rfl rfl ?_
  refine g_iadd X d1_82 (pc' := 83) rfl ?_
  refine Go.lit32 (z := (8 : Int32)) (by decide) ?_
  refine g_baload X V_w0 8 d1_83 (pc' := 84) rfl (by decide) (by decide) rfl ?_
  refine g_i2l X d1_84 (pc' := 85) rfl ?_
  refine g_ldc2 X (tb hw 5 rfl) d1_85 (pc' := 88) rfl ?_
  refine g_land X d1_88 (pc' := 89) rfl ?_
  refine g_bipush X (48 : Int32) d1_89 (pc' := 91) rfl rfl ?_
  refine g_lshl X d1_91 (pc' := 92) rfl ?_
  refine g_lor X d1_92 (pc' := 93) rfl ?_
  refine g_aloadN X d1_93 (pc' := 94) rfl rfl rfl ?_
  refine g_iloadN X d1_94 (pc' := 95) rfl rfl ?_
  refine g_bipush X (7 : Int32) d1_95 (pc' := 97) rfl rfl ?_
  refine g_iadd X d1_97 (pc' := 98) rfl ?_
  refine Go.lit32 (z := (9 : Int32)) (by decide) ?_
  refine g_baload X V_w0 9 d1_98 (pc' := 99) rfl (by decide) (by decide) rfl ?_
  refine g_i2l X d1_99 (pc' := 100) rfl ?_
  refine g_bipush X (56 : Int32) d1_100 (pc' := 102) rfl rfl ?_
  refine g_lshl X d1_102 (pc' := 103) rfl ?_
  refine g_lor X d1_103 (pc' := 104) rfl ?_
  refine g_lreturn X d1_104 hret hlk (by decide) (by decide) ?_
  exact ⟨congrArg (fun z => some (Value.long z)) (Eq.symm (show fW2 u0 u1 u2 u3 u4 u5 u6 u7 u8 u9 u10 u11 = _ from rfl)), rfl, rfl⟩
def fW3 (u0 : Int32) (u1 : Int32) (u2 : Int32) (u3 : Int32) (u4 : Int32) (u5 : Int32) (u6 : Int32) (u7 : Int32) (u8 : Int32) (u9 : Int32) (u10 : Int32) (u11 : Int32) : Int64 := (((((((((u3.toInt64) &&& (255 : Int64)) ||| (((u4.toInt64) &&& (255 : Int64)) <<< ((8 : Int32) &&& 0x3f).toInt64)) ||| (((u5.toInt64) &&& (255 : Int64)) <<< ((16 : Int32) &&& 0x3f).toInt64)) ||| (((u6.toInt64) &&& (255 : Int64)) <<< ((24 : Int32) &&& 0x3f).toInt64)) ||| (((u7.toInt64) &&& (255 : Int64)) <<< ((32 : Int32) &&& 0x3f).toInt64)) ||| (((u8.toInt64) &&& (255 : Int64)) <<< ((40 : Int32) &&& 0x3f).toInt64)) ||| (((u9.toInt64) &&& (255 : Int64)) <<< ((48 : Int32) &&& 0x3f).toInt64)) ||| ((u10.toInt64) <<< ((56 : Int32) &&& 0x3f).toInt64))
theorem ef_rW3 (m : MethodId) (x0 : Addr) (x1 : Int32) : entryFrame m #[(.ref x0), (.int x1)] 2 = mkF m 0 #[.val (.ref x0), .val (.int x1)] [] := by first | (simp [entryFrame, mkF, argsToLocals, Value.category]; done) | rfl
set_option maxRecDepth 65536 in
set_option maxHeartbeats 40000000 in
theorem rW3 (l : Launch) (Z : State) (aa : Array Value) (hw : ∀ d ∈ tables_1, d.before aa Z = true) (ws : List Jvm.Cond) (w0 : Addr) (u0 : Int32) (u1 : Int32) (u2 : Int32) (u3 : Int32) (u4 : Int32) (u5 : Int32) (u6 : Int32) (u7 : Int32) (u8 : Int32) (u9 : Int32) (u10 : Int32) (u11 : Int32) (h0 : Heap) (V_w0 : Av Z h0 w0 .byte [(.int u0), (.int u1), (.int u2), (.int u3), (.int u4), (.int u5), (.int u6), (.int u7), (.int u8), (.int u9), (.int u10), (.int u11)]) :
    Rm l Z (⟨"com/example/scheherazade/scheherazade/core/Utf8", "word", "([BI)J"⟩ : MethodName) prog_16_method_9_code 2 (some .long) ws ({ frames := 0, cells := 0, slots := 0, locals := 0 } : Room) #[(.ref w0), (.int (3 : Int32))] h0 (Pu (.long (fW3 u0 u1 u2 u3 u4 u5 u6 u7 u8 u9 u10 u11)) h0) := by
  refine Rm.of (plainFor_of_name pn_0) ?_
  intro p e s m below meth cc T X hnm hret hlk
  refine Go.at_ (ef_rW3 m w0 (3 : Int32)) ?_
  refine g_aloadN X d1_0 (pc' := 1) rfl rfl rfl ?_
  refine g_iloadN X d1_1 (pc' := 2) rfl rfl ?_
  refine g_baload X V_w0 3 d1_2 (pc' := 3) rfl (by decide) (by decide) rfl ?_
  refine g_i2l X d1_3 (pc' := 4) rfl ?_
  refine g_ldc2 X (tb hw 5 rfl) d1_4 (pc' := 7) rfl ?_
  refine g_land X d1_7 (pc' := 8) rfl ?_
  refine g_aloadN X d1_8 (pc' := 9) rfl rfl rfl ?_
  refine g_iloadN X d1_9 (pc' := 10) rfl rfl ?_
  refine g_iconst X (1 : Int32) d1_10 (pc' := 11) rfl rfl ?_
  refine g_iadd X d1_11 (pc' := 12) rfl ?_
  refine Go.lit32 (z := (4 : Int32)) (by decide) ?_
  refine g_baload X V_w0 4 d1_12 (pc' := 13) rfl (by decide) (by decide) rfl ?_
  refine g_i2l X d1_13 (pc' := 14) rfl ?_
  refine g_ldc2 X (tb hw 5 rfl) d1_14 (pc' := 17) rfl ?_
  refine g_land X d1_17 (pc' := 18) rfl ?_
  refine g_bipush X (8 : Int32) d1_18 (pc' := 20) rfl rfl ?_
  refine g_lshl X d1_20 (pc' := 21) rfl ?_
  refine g_lor X d1_21 (pc' := 22) rfl ?_
  refine g_aloadN X d1_22 (pc' := 23) rfl rfl rfl ?_
  refine g_iloadN X d1_23 (pc' := 24) rfl rfl ?_
  refine g_iconst X (2 : Int32) d1_24 (pc' := 25) rfl rfl ?_
  refine g_iadd X d1_25 (pc' := 26) rfl ?_
  refine Go.lit32 (z := (5 : Int32)) (by decide) ?_
  refine g_baload X V_w0 5 d1_26 (pc' := 27) rfl (by decide) (by decide) rfl ?_
  refine g_i2l X d1_27 (pc' := 28) rfl ?_
  refine g_ldc2 X (tb hw 5 rfl) d1_28 (pc' := 31) rfl ?_
  refine g_land X d1_31 (pc' := 32) rfl ?_
  refine g_bipush X (16 : Int32) d1_32 (pc' := 34) rfl rfl ?_
  refine g_lshl X d1_34 (pc' := 35) rfl ?_
  refine g_lor X d1_35 (pc' := 36) rfl ?_
  refine g_aloadN X d1_36 (pc' := 37) rfl rfl rfl ?_
  refine g_iloadN X d1_37 (pc' := 38) rfl rfl ?_
  refine g_iconst X (3 : Int32) d1_38 (pc' := 39) rfl rfl ?_
  refine g_iadd X d1_39 (pc' := 40) rfl ?_
  refine Go.lit32 (z := (6 : Int32)) (by decide) ?_
  refine g_baload X V_w0 6 d1_40 (pc' := 41) rfl (by decide) (by decide) rfl ?_
  refine g_i2l X d1_41 (pc' := 42) rfl ?_
  refine g_ldc2 X (tb hw 5 rfl) d1_42 (pc' := 45) rfl ?_
  refine g_land X d1_45 (pc' := 46) rfl ?_
  refine g_bipush X (24 : Int32) d1_46 (pc' := 48) rfl rfl ?_
  refine g_lshl X d1_48 (pc' := 49) rfl ?_
  refine g_lor X d1_49 (pc' := 50) rfl ?_
  refine g_aloadN X d1_50 (pc' := 51) rfl rfl rfl ?_
  refine g_iloadN X d1_51 (pc' := 52) rfl rfl ?_
  refine g_iconst X (4 : Int32) d1_52 (pc' := 53) rfl rfl ?_
  refine g_iadd X d1_53 (pc' := 54) rfl ?_
  refine Go.lit32 (z := (7 : Int32)) (by decide) ?_
  refine g_baload X V_w0 7 d1_54 (pc' := 55) rfl (by decide) (by decide) rfl ?_
  refine g_i2l X d1_55 (pc' := 56) rfl ?_
  refine g_ldc2 X (tb hw 5 rfl) d1_56 (pc' := 59) rfl ?_
  refine g_land X d1_59 (pc' := 60) rfl ?_
  refine g_bipush X (32 : Int32) d1_60 (pc' := 62) rfl rfl ?_
  refine g_lshl X d1_62 (pc' := 63) rfl ?_
  refine g_lor X d1_63 (pc' := 64) rfl ?_
  refine g_aloadN X d1_64 (pc' := 65) rfl rfl rfl ?_
  refine g_iloadN X d1_65 (pc' := 66) rfl rfl ?_
  refine g_iconst X (5 : Int32) d1_66 (pc' := 67) rfl rfl ?_
  refine g_iadd X d1_67 (pc' := 68) rfl ?_
  refine Go.lit32 (z := (8 : Int32)) (by decide) ?_
  refine g_baload X V_w0 8 d1_68 (pc' := 69) rfl (by decide) (by decide) rfl ?_
  refine g_i2l X d1_69 (pc' := 70) rfl ?_
  refine g_ldc2 X (tb hw 5 rfl) d1_70 (pc' := 73) rfl ?_
  refine g_land X d1_73 (pc' := 74) rfl ?_
  refine g_bipush X (40 : Int32) d1_74 (pc' := 76) rfl rfl ?_
  refine g_lshl X d1_76 (pc' := 77) rfl ?_
  refine g_lor X d1_77 (pc' := 78) rfl ?_
  refine g_aloadN X d1_78 (pc' := 79) rfl rfl rfl ?_
  refine g_iloadN X d1_79 (pc' := 80) rfl rfl ?_
  refine g_bipush X (6 : Int32) d1_80 (pc' := 82) rfl rfl ?_
  refine g_iadd X d1_82 (pc' := 83) rfl ?_
  refine Go.lit32 (z := (9 : Int32)) (by decide) ?_
  refine g_baload X V_w0 9 d1_83 (pc' := 84) rfl (by decide) (by decide) rfl ?_
  refine g_i2l X d1_84 (pc' := 85) rfl ?_
  refine g_ldc2 X (tb hw 5 rfl) d1_85 (pc' := 88) rfl ?_
  refine g_land X d1_88 (pc' := 89) rfl ?_
  refine g_bipush X (48 : Int32) d1_89 (pc' := 91) rfl rfl ?_
  refine g_lshl X d1_91 (pc' := 92) rfl ?_
  refine g_lor X d1_92 (pc' := 93) rfl ?_
  refine g_aloadN X d1_93 (pc' := 94) rfl rfl rfl ?_
  refine g_iloadN X d1_94 (pc' := 95) rfl rfl ?_
  refine g_bipush X (7 : Int32) d1_95 (pc' := 97) rfl rfl ?_
  refine g_iadd X d1_97 (pc' := 98) rfl ?_
  refine Go.lit32 (z := (10 : Int32)) (by decide) ?_
  refine g_baload X V_w0 10 d1_98 (pc' := 99) rfl (by decide) (by decide) rfl ?_
  refine g_i2l X d1_99 (pc' := 100) rfl ?_
  refine g_bipush X (56 : Int32) d1_100 (pc' := 102) rfl rfl ?_
  refine g_lshl X d1_102 (pc' := 103) rfl ?_
  refine g_lor X d1_103 (pc' := 104) rfl ?_
  refine g_lreturn X d1_104 hret hlk (by decide) (by decide) ?_
  exact ⟨congrArg (fun z => some (Value.long z)) (Eq.symm (show fW3 u0 u1 u2 u3 u4 u5 u6 u7 u8 u9 u10 u11 = _ from rfl)), rfl, rfl⟩
theorem p4 {o p : Int32} (e : o &&& 3 = p) : p = 0 ∨ p = 1 ∨ p = 2 ∨ p = 3 := by
  have q : p.toInt = o.toInt % 4 := by rw [← e]; exact c_mask o 3 2 (by decide) (by decide)
  simp only [← Int32.toInt_inj, Int32.reduceToInt]; omega
/-- eight bytes put together -/
def put8 (x0 x1 x2 x3 x4 x5 x6 x7 : Int32) : Int64 := ((((((((x0.toInt64 &&& 255) ||| ((x1.toInt64 &&& 255) <<< ((8 : Int32) &&& 0x3f).toInt64)) ||| ((x2.toInt64 &&& 255) <<< ((16 : Int32) &&& 0x3f).toInt64)) ||| ((x3.toInt64 &&& 255) <<< ((24 : Int32) &&& 0x3f).toInt64)) ||| ((x4.toInt64 &&& 255) <<< ((32 : Int32) &&& 0x3f).toInt64)) ||| ((x5.toInt64 &&& 255) <<< ((40 : Int32) &&& 0x3f).toInt64)) ||| ((x6.toInt64 &&& 255) <<< ((48 : Int32) &&& 0x3f).toInt64)) ||| (x7.toInt64 <<< ((56 : Int32) &&& 0x3f).toInt64))
theorem m255 (x : Int32) : (x.toInt64 &&& 255).toInt = x.toInt % 256 := by
  have q := c_maskL x.toInt64 255 8 (by decide) (by decide)
  rw [q, Int32.toInt_toInt64]; rfl
theorem shl8 (x : Int32) (q : Int32) (k : Nat) (P : Int) (hk : q.toBitVec.toNat % 64 = k) (hP : P = (2 ^ k : Nat)) (hs : P ≤ 281474976710656) (h0 : 0 < P) : ((x.toInt64 &&& 255) <<< (q &&& 0x3f).toInt64).toInt = x.toInt % 256 * P := by
  have a := c_lshl (x.toInt64 &&& 255) q k hk
  rw [← hP, m255] at a
  have r := rng64 ((x.toInt64 &&& 255) <<< (q &&& 0x3f).toInt64)
  have b1 : 0 ≤ x.toInt % 256 := by omega
  have b2 : x.toInt % 256 ≤ 255 := by omega
  have c1 : 0 ≤ x.toInt % 256 * P := Int.mul_nonneg b1 (by omega)
  have c2 : x.toInt % 256 * P ≤ 255 * P := Int.mul_le_mul_of_nonneg_right b2 (by omega)
  generalize x.toInt % 256 * P = y at *
  omega
theorem put8_int (x0 x1 x2 x3 x4 x5 x6 x7 : Int32) (h1 : -128 ≤ x7.toInt) (h2 : x7.toInt < 128) : (put8 x0 x1 x2 x3 x4 x5 x6 x7).toInt = x0.toInt % 256 + x1.toInt % 256 * 256 + x2.toInt % 256 * 65536 + x3.toInt % 256 * 16777216 + x4.toInt % 256 * 4294967296 + x5.toInt % 256 * 1099511627776 + x6.toInt % 256 * 281474976710656 + x7.toInt * 72057594037927936 := by
  have a0 := m255 x0
  have a1 := shl8 x1 8 8 256 (by decide) (by decide) (by decide) (by decide)
  have a2 := shl8 x2 16 16 65536 (by decide) (by decide) (by decide) (by decide)
  have a3 := shl8 x3 24 24 16777216 (by decide) (by decide) (by decide) (by decide)
  have a4 := shl8 x4 32 32 4294967296 (by decide) (by decide) (by decide) (by decide)
  have a5 := shl8 x5 40 40 1099511627776 (by decide) (by decide) (by decide) (by decide)
  have a6 := shl8 x6 48 48 281474976710656 (by decide) (by decide) (by decide) (by decide)
  have a7 := c_lshl x7.toInt64 56 56 (by decide)
  rw [Int32.toInt_toInt64] at a7
  have r7 := rng64 (x7.toInt64 <<< ((56 : Int32) &&& 0x3f).toInt64)
  have a7' : (x7.toInt64 <<< ((56 : Int32) &&& 0x3f).toInt64).toInt = x7.toInt * 72057594037927936 := by
    simp only [Nat.reducePow, Int.cast_ofNat_Int] at a7
    omega
  unfold put8
  generalize (x0.toInt64 &&& 255) = y0 at *
  generalize ((x1.toInt64 &&& 255) <<< ((8 : Int32) &&& 0x3f).toInt64) = y1 at *
  generalize ((x2.toInt64 &&& 255) <<< ((16 : Int32) &&& 0x3f).toInt64) = y2 at *
  generalize ((x3.toInt64 &&& 255) <<< ((24 : Int32) &&& 0x3f).toInt64) = y3 at *
  generalize ((x4.toInt64 &&& 255) <<< ((32 : Int32) &&& 0x3f).toInt64) = y4 at *
  generalize ((x5.toInt64 &&& 255) <<< ((40 : Int32) &&& 0x3f).toInt64) = y5 at *
  generalize ((x6.toInt64 &&& 255) <<< ((48 : Int32) &&& 0x3f).toInt64) = y6 at *
  generalize (x7.toInt64 <<< ((56 : Int32) &&& 0x3f).toInt64) = y7 at *
  have s1 := c_orL' y0 y1 8 (by decide) 256 rfl (by omega) (by omega) (by omega)
  have t1 := rng64 (y0 ||| y1)
  generalize (y0 ||| y1) = z1 at *
  have u1 : z1.toInt = y0.toInt + y1.toInt := by omega
  have s2 := c_orL' z1 y2 16 (by decide) 65536 rfl (by omega) (by omega) (by omega)
  have t2 := rng64 (z1 ||| y2)
  generalize (z1 ||| y2) = z2 at *
  have u2 : z2.toInt = z1.toInt + y2.toInt := by omega
  have s3 := c_orL' z2 y3 24 (by decide) 16777216 rfl (by omega) (by omega) (by omega)
  have t3 := rng64 (z2 ||| y3)
  generalize (z2 ||| y3) = z3 at *
  have u3 : z3.toInt = z2.toInt + y3.toInt := by omega
  have s4 := c_orL' z3 y4 32 (by decide) 4294967296 rfl (by omega) (by omega) (by omega)
  have t4 := rng64 (z3 ||| y4)
  generalize (z3 ||| y4) = z4 at *
  have u4 : z4.toInt = z3.toInt + y4.toInt := by omega
  have s5 := c_orL' z4 y5 40 (by decide) 1099511627776 rfl (by omega) (by omega) (by omega)
  have t5 := rng64 (z4 ||| y5)
  generalize (z4 ||| y5) = z5 at *
  have u5 : z5.toInt = z4.toInt + y5.toInt := by omega
  have s6 := c_orL' z5 y6 48 (by decide) 281474976710656 rfl (by omega) (by omega) (by omega)
  have t6 := rng64 (z5 ||| y6)
  generalize (z5 ||| y6) = z6 at *
  have u6 : z6.toInt = z5.toInt + y6.toInt := by omega
  have s7 := c_orL' z6 y7 56 (by decide) 72057594037927936 rfl (by omega) (by omega) (by omega)
  have t7 := rng64 (z6 ||| y7)
  generalize (z6 ||| y7) = z7 at *
  omega
/-- a byte of a long, as the law stores it -/
def byteOf (w : Int64) (q : Int32) : Int32 := nar .byte (((w.toUInt64 >>> (q &&& 0x3f).toInt64.toUInt64).toInt64).toInt32.toInt8.toInt32)
theorem byteOf_int (w : Int64) (q : Int32) (k : Nat) (P : Int) (hk : q.toBitVec.toNat % 64 = k) (hP : P = (2 ^ k : Nat)) (h0 : 0 < k) : ((byteOf w q).toInt - (w.toInt % 18446744073709551616) / P) % 256 = 0 ∧ -128 ≤ (byteOf w q).toInt ∧ (byteOf w q).toInt < 128 := by
  have a := c_lushr w q k hk h0
  rw [← hP] at a
  unfold byteOf nar
  generalize ((w.toUInt64 >>> (q &&& 0x3f).toInt64.toUInt64).toInt64) = y at *
  have b := c_l2i y
  have d := c_i2b y.toInt32
  have d2 := c_i2b y.toInt32.toInt8.toInt32
  rw [← a]
  generalize y.toInt32.toInt8.toInt32 = y1 at *
  refine ⟨?_, d2.2.1, d2.2.2⟩
  have d3 := d2.1
  have d4 := d.1
  generalize y1.toInt8.toInt32.toInt = q1 at *
  generalize y1.toInt = q2 at *
  generalize y.toInt32.toInt = q3 at *
  omega
theorem byte0_int (w : Int64) : ((nar .byte (w.toInt32.toInt8.toInt32)).toInt - w.toInt) % 256 = 0 := by
  have b := c_l2i w
  have d := c_i2b w.toInt32
  have d2 := c_i2b w.toInt32.toInt8.toInt32
  show ((w.toInt32.toInt8.toInt32).toInt8.toInt32.toInt - w.toInt) % 256 = 0
  have d3 := d2.1
  have d4 := d.1
  generalize w.toInt32.toInt8.toInt32.toInt8.toInt32.toInt = q1 at *
  generalize w.toInt32.toInt8.toInt32.toInt = q2 at *
  generalize w.toInt32.toInt = q3 at *
  omega
theorem whole (w : Int64) : put8 (nar .byte (w.toInt32.toInt8.toInt32)) (byteOf w 8) (byteOf w 16) (byteOf w 24) (byteOf w 32) (byteOf w 40) (byteOf w 48) (byteOf w 56) = w := by
  have a0 := byte0_int w
  have a1 := byteOf_int w 8 8 256 (by decide) rfl (by decide)
  have a2 := byteOf_int w 16 16 65536 (by decide) rfl (by decide)
  have a3 := byteOf_int w 24 24 16777216 (by decide) rfl (by decide)
  have a4 := byteOf_int w 32 32 4294967296 (by decide) rfl (by decide)
  have a5 := byteOf_int w 40 40 1099511627776 (by decide) rfl (by decide)
  have a6 := byteOf_int w 48 48 281474976710656 (by decide) rfl (by decide)
  have a7 := byteOf_int w 56 56 72057594037927936 (by decide) rfl (by decide)
  apply Int64.toInt_inj.mp
  rw [put8_int _ _ _ _ _ _ _ _ a7.2.1 a7.2.2]
  have r := rng64 w
  generalize (byteOf w 8).toInt = b1 at *
  generalize (byteOf w 16).toInt = b2 at *
  generalize (byteOf w 24).toInt = b3 at *
  generalize (byteOf w 32).toInt = b4 at *
  generalize (byteOf w 40).toInt = b5 at *
  generalize (byteOf w 48).toInt = b6 at *
  generalize (byteOf w 56).toInt = b7 at *
  generalize (nar .byte (w.toInt32.toInt8.toInt32)).toInt = b0 at *
  generalize w.toInt = W at *
  omega
theorem pn_1 : plainName "com/example/scheherazade/scheherazade/core/Utf8WordPinLaw" = true := by first | (simp [plainName, overriddenIn]; done) | decide +kernel
theorem pd_0 : parseMethodDescriptor "([BI)J" = some ⟨[(.array .byte), .int], some .long⟩ := by decide +kernel
theorem ef_rLaw (m : MethodId) (x0 : Int64) (x1 : Int32) (x2 : Int32) (x3 : Int32) (x4 : Int32) : entryFrame m #[(.long x0), (.int x1), (.int x2), (.int x3), (.int x4)] maxLocals = mkF m 0 #[.val (.long x0), .second, .val (.int x1), .val (.int x2), .val (.int x3), .val (.int x4), .unset, .unset] [] := by first | (simp [entryFrame, mkF, argsToLocals, Value.category, maxLocals]; done) | rfl
set_option maxRecDepth 65536 in
set_option maxHeartbeats 40000000 in
theorem rLaw (l : Launch) (Z : State) (aa : Array Value) (hw : ∀ d ∈ tables_1, d.before aa Z = true) (ws : List Jvm.Cond) (j0 : Int64) (i1 : Int32) (i2 : Int32) (i3 : Int32) (i4 : Int32) (h0 : Heap) (n0 : Nat) (Z0 : n0 ≤ h0.size) :
    Rm l Z x code maxLocals ret ws room_1 #[(.long j0), (.int i1), (.int i2), (.int i3), (.int i4)] h0 (fun v h L => v = some (.int 1) ∧ Fr n0 L) := by
  refine Rm.of (plainFor_of_name pn_1) ?_
  intro p e s m below meth cc T X hnm hret hlk
  refine Go.at_ (ef_rLaw m j0 i1 i2 i3 i4) ?_
  have N := Fr.nil n0
  refine g_iloadN X at_0 (pc' := 1) rfl rfl ?_
  refine g_iconst X (3 : Int32) at_1 (pc' := 2) rfl rfl ?_
  refine g_iand X at_2 (pc' := 3) rfl ?_
  generalize ev3_1 : (i1 &&& (3 : Int32)) = v3_1
  refine g_istore X at_3 (pc' := 5) (Ls' := #[.val (.long j0), .second, .val (.int i1), .val (.int i2), .val (.int i3), .val (.int i4), .val (.int v3_1), .unset]) rfl rfl ?_
  rcases (p4 ev3_1 : v3_1 = (0 : Int32) ∨ v3_1 = (1 : Int32) ∨ v3_1 = (2 : Int32) ∨ v3_1 = (3 : Int32)) with hs | hs | hs | hs
  · subst hs
    show Go p e below _ (T.setTop (mkF m 5 #[.val (.long j0), .second, .val (.int i1), .val (.int i2), .val (.int i3), .val (.int i4), .val (.int (0 : Int32)), .unset] []))
    refine g_bipush X (12 : Int32) at_5 (pc' := 7) rfl rfl ?_
    refine g_newarray X 12 (tb hw 0 rfl) at_7 (pc' := 9) rfl (by decide) (by decide) 12 (by decide) (by decide) (by decide) (by decide) (vs := [(.int (0 : Int32)), (.int (0 : Int32)), (.int (0 : Int32)), (.int (0 : Int32)), (.int (0 : Int32)), (.int (0 : Int32)), (.int (0 : Int32)), (.int (0 : Int32)), (.int (0 : Int32)), (.int (0 : Int32)), (.int (0 : Int32)), (.int (0 : Int32))]) rfl (ad := "[B") (by decide) ?_
    intro T h b7_2 s_b7_2 X Ex E_b7_2 V_b7_2
    have g_b7_2 : n0 ≤ b7_2 := by rw [s_b7_2]; exact Z0
    replace Z0 := Nat.le_trans Z0 Ex.1
    refine g_astore X at_9 (pc' := 11) (Ls' := #[.val (.long j0), .second, .val (.int i1), .val (.int i2), .val (.int i3), .val (.int i4), .val (.int (0 : Int32)), .val (.ref b7_2)]) rfl rfl rfl ?_
    refine g_aload X at_11 (pc' := 13) rfl rfl rfl ?_
    refine g_iconst X (0 : Int32) at_13 (pc' := 14) rfl rfl ?_
    refine g_iloadN X at_14 (pc' := 15) rfl rfl ?_
    refine g_i2b X at_15 (pc' := 16) rfl ?_
    generalize ev16_3 : (i2.toInt8.toInt32) = v16_3
    refine g_bastore X V_b7_2 0 at_16 (pc' := 17) rfl (by decide) (by decide) (Nat.le_of_ble_eq_true rfl) ?_
    intro T h X W V_b7_2
    replace V_b7_2 : Av Z h b7_2 .byte [(.int (nar .byte v16_3)), (.int (0 : Int32)), (.int (0 : Int32)), (.int (0 : Int32)), (.int (0 : Int32)), (.int (0 : Int32)), (.int (0 : Int32)), (.int (0 : Int32)), (.int (0 : Int32)), (.int (0 : Int32)), (.int (0 : Int32)), (.int (0 : Int32))] := V_b7_2
    replace E_b7_2 := E_b7_2.wr W
    replace Z0 := Nat.le_trans Z0 (Nat.le_of_eq W.size.symm)
    replace N := Fr.snoc X.1 N g_b7_2
    refine g_aload X at_17 (pc' := 19) rfl rfl rfl ?_
    refine g_iconst X (1 : Int32) at_19 (pc' := 20) rfl rfl ?_
    refine g_iloadN X at_20 (pc' := 21) rfl rfl ?_
    refine g_bipush X (8 : Int32) at_21 (pc' := 23) rfl rfl ?_
    refine g_iushr X at_23 (pc' := 24) rfl ?_
    refine g_i2b X at_24 (pc' := 25) rfl ?_
    generalize ev25_4 : (((i2.toUInt32 >>> ((8 : Int32) &&& 31).toUInt32).toInt32).toInt8.toInt32) = v25_4
    refine g_bastore X V_b7_2 1 at_25 (pc' := 26) rfl (by decide) (by decide) (Nat.le_of_ble_eq_true rfl) ?_
    intro T h X W V_b7_2
    replace V_b7_2 : Av Z h b7_2 .byte [(.int (nar .byte v16_3)), (.int (nar .byte v25_4)), (.int (0 : Int32)), (.int (0 : Int32)), (.int (0 : Int32)), (.int (0 : Int32)), (.int (0 : Int32)), (.int (0 : Int32)), (.int (0 : Int32)), (.int (0 : Int32)), (.int (0 : Int32)), (.int (0 : Int32))] := V_b7_2
    replace E_b7_2 := E_b7_2.wr W
    replace Z0 := Nat.le_trans Z0 (Nat.le_of_eq W.size.symm)
    replace N := Fr.snoc X.1 N g_b7_2
    refine g_aload X at_26 (pc' := 28) rfl rfl rfl ?_
    refine g_iconst X (2 : Int32) at_28 (pc' := 29) rfl rfl ?_
    refine g_iloadN X at_29 (pc' := 30) rfl rfl ?_
    refine g_bipush X (16 : Int32) at_30 (pc' := 32) rfl rfl ?_
    refine g_iushr X at_32 (pc' := 33) rfl ?_
    refine g_i2b X at_33 (pc' := 34) rfl ?_
    generalize ev34_5 : (((i2.toUInt32 >>> ((16 : Int32) &&& 31).toUInt32).toInt32).toInt8.toInt32) = v34_5
    refine g_bastore X V_b7_2 2 at_34 (pc' := 35) rfl (by decide) (by decide) (Nat.le_of_ble_eq_true rfl) ?_
    intro T h X W V_b7_2
    replace V_b7_2 : Av Z h b7_2 .byte [(.int (nar .byte v16_3)), (.int (nar .byte v25_4)), (.int (nar .byte v34_5)), (.int (0 : Int32)), (.int (0 : Int32)), (.int (0 : Int32)), (.int (0 : Int32)), (.int (0 : Int32)), (.int (0 : Int32)), (.int (0 : Int32)), (.int (0 : Int32)), (.int (0 : Int32))] := V_b7_2
    replace E_b7_2 := E_b7_2.wr W
    replace Z0 := Nat.le_trans Z0 (Nat.le_of_eq W.size.symm)
    replace N := Fr.snoc X.1 N g_b7_2
    refine g_aload X at_35 (pc' := 37) rfl rfl rfl ?_
    refine g_iconst X (3 : Int32) at_37 (pc' := 38) rfl rfl ?_
    refine g_iloadN X at_38 (pc' := 39) rfl rfl ?_
    refine g_bipush X (24 : Int32) at_39 (pc' := 41) rfl rfl ?_
    refine g_iushr X at_41 (pc' := 42) rfl ?_
    refine g_i2b X at_42 (pc' := 43) rfl ?_
    generalize ev43_6 : (((i2.toUInt32 >>> ((24 : Int32) &&& 31).toUInt32).toInt32).toInt8.toInt32) = v43_6
    refine g_bastore X V_b7_2 3 at_43 (pc' := 44) rfl (by decide) (by decide) (Nat.le_of_ble_eq_true rfl) ?_
    intro T h X W V_b7_2
    replace V_b7_2 : Av Z h b7_2 .byte [(.int (nar .byte v16_3)), (.int (nar .byte v25_4)), (.int (nar .byte v34_5)), (.int (nar .byte v43_6)), (.int (0 : Int32)), (.int (0 : Int32)), (.int (0 : Int32)), (.int (0 : Int32)), (.int (0 : Int32)), (.int (0 : Int32)), (.int (0 : Int32)), (.int (0 : Int32))] := V_b7_2
    replace E_b7_2 := E_b7_2.wr W
    replace Z0 := Nat.le_trans Z0 (Nat.le_of_eq W.size.symm)
    replace N := Fr.snoc X.1 N g_b7_2
    refine g_aload X at_44 (pc' := 46) rfl rfl rfl ?_
    refine g_iconst X (4 : Int32) at_46 (pc' := 47) rfl rfl ?_
    refine g_iload X at_47 (pc' := 49) rfl rfl ?_
    refine g_i2b X at_49 (pc' := 50) rfl ?_
    generalize ev50_7 : (i3.toInt8.toInt32) = v50_7
    refine g_bastore X V_b7_2 4 at_50 (pc' := 51) rfl (by decide) (by decide) (Nat.le_of_ble_eq_true rfl) ?_
    intro T h X W V_b7_2
    replace V_b7_2 : Av Z h b7_2 .byte [(.int (nar .byte v16_3)), (.int (nar .byte v25_4)), (.int (nar .byte v34_5)), (.int (nar .byte v43_6)), (.int (nar .byte v50_7)), (.int (0 : Int32)), (.int (0 : Int32)), (.int (0 : Int32)), (.int (0 : Int32)), (.int (0 : Int32)), (.int (0 : Int32)), (.int (0 : Int32))] := V_b7_2
    replace E_b7_2 := E_b7_2.wr W
    replace Z0 := Nat.le_trans Z0 (Nat.le_of_eq W.size.symm)
    replace N := Fr.snoc X.1 N g_b7_2
    refine g_aload X at_51 (pc' := 53) rfl rfl rfl ?_
    refine g_iconst X (5 : Int32) at_53 (pc' := 54) rfl rfl ?_
    refine g_iload X at_54 (pc' := 56) rfl rfl ?_
    refine g_bipush X (8 : Int32) at_56 (pc' := 58) rfl rfl ?_
    refine g_iushr X at_58 (pc' := 59) rfl ?_
    refine g_i2b X at_59 (pc' := 60) rfl ?_
    generalize ev60_8 : (((i3.toUInt32 >>> ((8 : Int32) &&& 31).toUInt32).toInt32).toInt8.toInt32) = v60_8
    refine g_bastore X V_b7_2 5 at_60 (pc' := 61) rfl (by decide) (by decide) (Nat.le_of_ble_eq_true rfl) ?_
    intro T h X W V_b7_2
    replace V_b7_2 : Av Z h b7_2 .byte [(.int (nar .byte v16_3)), (.int (nar .byte v25_4)), (.int (nar .byte v34_5)), (.int (nar .byte v43_6)), (.int (nar .byte v50_7)), (.int (nar .byte v60_8)), (.int (0 : Int32)), (.int (0 : Int32)), (.int (0 : Int32)), (.int (0 : Int32)), (.int (0 : Int32)), (.int (0 : Int32))] := V_b7_2
    replace E_b7_2 := E_b7_2.wr W
    replace Z0 := Nat.le_trans Z0 (Nat.le_of_eq W.size.symm)
    replace N := Fr.snoc X.1 N g_b7_2
    refine g_aload X at_61 (pc' := 63) rfl rfl rfl ?_
    refine g_bipush X (6 : Int32) at_63 (pc' := 65) rfl rfl ?_
    refine g_iload X at_65 (pc' := 67) rfl rfl ?_
    refine g_bipush X (16 : Int32) at_67 (pc' := 69) rfl rfl ?_
    refine g_iushr X at_69 (pc' := 70) rfl ?_
    refine g_i2b X at_70 (pc' := 71) rfl ?_
    generalize ev71_9 : (((i3.toUInt32 >>> ((16 : Int32) &&& 31).toUInt32).toInt32).toInt8.toInt32) = v71_9
    refine g_bastore X V_b7_2 6 at_71 (pc' := 72) rfl (by decide) (by decide) (Nat.le_of_ble_eq_true rfl) ?_
    intro T h X W V_b7_2
    replace V_b7_2 : Av Z h b7_2 .byte [(.int (nar .byte v16_3)), (.int (nar .byte v25_4)), (.int (nar .byte v34_5)), (.int (nar .byte v43_6)), (.int (nar .byte v50_7)), (.int (nar .byte v60_8)), (.int (nar .byte v71_9)), (.int (0 : Int32)), (.int (0 : Int32)), (.int (0 : Int32)), (.int (0 : Int32)), (.int (0 : Int32))] := V_b7_2
    replace E_b7_2 := E_b7_2.wr W
    replace Z0 := Nat.le_trans Z0 (Nat.le_of_eq W.size.symm)
    replace N := Fr.snoc X.1 N g_b7_2
    refine g_aload X at_72 (pc' := 74) rfl rfl rfl ?_
    refine g_bipush X (7 : Int32) at_74 (pc' := 76) rfl rfl ?_
    refine g_iload X at_76 (pc' := 78) rfl rfl ?_
    refine g_bipush X (24 : Int32) at_78 (pc' := 80) rfl rfl ?_
    refine g_iushr X at_80 (pc' := 81) rfl ?_
    refine g_i2b X at_81 (pc' := 82) rfl ?_
    generalize ev82_10 : (((i3.toUInt32 >>> ((24 : Int32) &&& 31).toUInt32).toInt32).toInt8.toInt32) = v82_10
    refine g_bastore X V_b7_2 7 at_82 (pc' := 83) rfl (by decide) (by decide) (Nat.le_of_ble_eq_true rfl) ?_
    intro T h X W V_b7_2
    replace V_b7_2 : Av Z h b7_2 .byte [(.int (nar .byte v16_3)), (.int (nar .byte v25_4)), (.int (nar .byte v34_5)), (.int (nar .byte v43_6)), (.int (nar .byte v50_7)), (.int (nar .byte v60_8)), (.int (nar .byte v71_9)), (.int (nar .byte v82_10)), (.int (0 : Int32)), (.int (0 : Int32)), (.int (0 : Int32)), (.int (0 : Int32))] := V_b7_2
    replace E_b7_2 := E_b7_2.wr W
    replace Z0 := Nat.le_trans Z0 (Nat.le_of_eq W.size.symm)
    replace N := Fr.snoc X.1 N g_b7_2
    refine g_aload X at_83 (pc' := 85) rfl rfl rfl ?_
    refine g_bipush X (8 : Int32) at_85 (pc' := 87) rfl rfl ?_
    refine g_iload X at_87 (pc' := 89) rfl rfl ?_
    refine g_i2b X at_89 (pc' := 90) rfl ?_
    generalize ev90_11 : (i4.toInt8.toInt32) = v90_11
    refine g_bastore X V_b7_2 8 at_90 (pc' := 91) rfl (by decide) (by decide) (Nat.le_of_ble_eq_true rfl) ?_
    intro T h X W V_b7_2
    replace V_b7_2 : Av Z h b7_2 .byte [(.int (nar .byte v16_3)), (.int (nar .byte v25_4)), (.int (nar .byte v34_5)), (.int (nar .byte v43_6)), (.int (nar .byte v50_7)), (.int (nar .byte v60_8)), (.int (nar .byte v71_9)), (.int (nar .byte v82_10)), (.int (nar .byte v90_11)), (.int (0 : Int32)), (.int (0 : Int32)), (.int (0 : Int32))] := V_b7_2
    replace E_b7_2 := E_b7_2.wr W
    replace Z0 := Nat.le_trans Z0 (Nat.le_of_eq W.size.symm)
    replace N := Fr.snoc X.1 N g_b7_2
    refine g_aload X at_91 (pc' := 93) rfl rfl rfl ?_
    refine g_bipush X (9 : Int32) at_93 (pc' := 95) rfl rfl ?_
    refine g_iload X at_95 (pc' := 97) rfl rfl ?_
    refine g_bipush X (8 : Int32) at_97 (pc' := 99) rfl rfl ?_
    refine g_iushr X at_99 (pc' := 100) rfl ?_
    refine g_i2b X at_100 (pc' := 101) rfl ?_
    generalize ev101_12 : (((i4.toUInt32 >>> ((8 : Int32) &&& 31).toUInt32).toInt32).toInt8.toInt32) = v101_12
    refine g_bastore X V_b7_2 9 at_101 (pc' := 102) rfl (by decide) (by decide) (Nat.le_of_ble_eq_true rfl) ?_
    intro T h X W V_b7_2
    replace V_b7_2 : Av Z h b7_2 .byte [(.int (nar .byte v16_3)), (.int (nar .byte v25_4)), (.int (nar .byte v34_5)), (.int (nar .byte v43_6)), (.int (nar .byte v50_7)), (.int (nar .byte v60_8)), (.int (nar .byte v71_9)), (.int (nar .byte v82_10)), (.int (nar .byte v90_11)), (.int (nar .byte v101_12)), (.int (0 : Int32)), (.int (0 : Int32))] := V_b7_2
    replace E_b7_2 := E_b7_2.wr W
    replace Z0 := Nat.le_trans Z0 (Nat.le_of_eq W.size.symm)
    replace N := Fr.snoc X.1 N g_b7_2
    refine g_aload X at_102 (pc' := 104) rfl rfl rfl ?_
    refine g_bipush X (10 : Int32) at_104 (pc' := 106) rfl rfl ?_
    refine g_iload X at_106 (pc' := 108) rfl rfl ?_
    refine g_bipush X (16 : Int32) at_108 (pc' := 110) rfl rfl ?_
    refine g_iushr X at_110 (pc' := 111) rfl ?_
    refine g_i2b X at_111 (pc' := 112) rfl ?_
    generalize ev112_13 : (((i4.toUInt32 >>> ((16 : Int32) &&& 31).toUInt32).toInt32).toInt8.toInt32) = v112_13
    refine g_bastore X V_b7_2 10 at_112 (pc' := 113) rfl (by decide) (by decide) (Nat.le_of_ble_eq_true rfl) ?_
    intro T h X W V_b7_2
    replace V_b7_2 : Av Z h b7_2 .byte [(.int (nar .byte v16_3)), (.int (nar .byte v25_4)), (.int (nar .byte v34_5)), (.int (nar .byte v43_6)), (.int (nar .byte v50_7)), (.int (nar .byte v60_8)), (.int (nar .byte v71_9)), (.int (nar .byte v82_10)), (.int (nar .byte v90_11)), (.int (nar .byte v101_12)), (.int (nar .byte v112_13)), (.int (0 : Int32))] := V_b7_2
    replace E_b7_2 := E_b7_2.wr W
    replace Z0 := Nat.le_trans Z0 (Nat.le_of_eq W.size.symm)
    replace N := Fr.snoc X.1 N g_b7_2
    refine g_aload X at_113 (pc' := 115) rfl rfl rfl ?_
    refine g_bipush X (11 : Int32) at_115 (pc' := 117) rfl rfl ?_
    refine g_iload X at_117 (pc' := 119) rfl rfl ?_
    refine g_bipush X (24 : Int32) at_119 (pc' := 121) rfl rfl ?_
    refine g_iushr X at_121 (pc' := 122) rfl ?_
    refine g_i2b X at_122 (pc' := 123) rfl ?_
    generalize ev123_14 : (((i4.toUInt32 >>> ((24 : Int32) &&& 31).toUInt32).toInt32).toInt8.toInt32) = v123_14
    refine g_bastore X V_b7_2 11 at_123 (pc' := 124) rfl (by decide) (by decide) (Nat.le_of_ble_eq_true rfl) ?_
    intro T h X W V_b7_2
    replace V_b7_2 : Av Z h b7_2 .byte [(.int (nar .byte v16_3)), (.int (nar .byte v25_4)), (.int (nar .byte v34_5)), (.int (nar .byte v43_6)), (.int (nar .byte v50_7)), (.int (nar .byte v60_8)), (.int (nar .byte v71_9)), (.int (nar .byte v82_10)), (.int (nar .byte v90_11)), (.int (nar .byte v101_12)), (.int (nar .byte v112_13)), (.int (nar .byte v123_14))] := V_b7_2
    replace E_b7_2 := E_b7_2.wr W
    replace Z0 := Nat.le_trans Z0 (Nat.le_of_eq W.size.symm)
    replace N := Fr.snoc X.1 N g_b7_2
    refine g_aload X at_124 (pc' := 126) rfl rfl rfl ?_
    refine g_iload X at_126 (pc' := 128) rfl rfl ?_
    refine g_lloadN X at_128 (pc' := 129) rfl rfl ?_
    refine g_l2i X at_129 (pc' := 130) rfl ?_
    refine g_i2b X at_130 (pc' := 131) rfl ?_
    generalize ev131_15 : ((j0.toInt32).toInt8.toInt32) = v131_15
    refine g_bastore X V_b7_2 0 at_131 (pc' := 132) rfl (by decide) (by decide) (Nat.le_of_ble_eq_true rfl) ?_
    intro T h X W V_b7_2
    replace V_b7_2 : Av Z h b7_2 .byte [(.int (nar .byte v131_15)), (.int (nar .byte v25_4)), (.int (nar .byte v34_5)), (.int (nar .byte v43_6)), (.int (nar .byte v50_7)), (.int (nar .byte v60_8)), (.int (nar .byte v71_9)), (.int (nar .byte v82_10)), (.int (nar .byte v90_11)), (.int (nar .byte v101_12)), (.int (nar .byte v112_13)), (.int (nar .byte v123_14))] := V_b7_2
    replace E_b7_2 := E_b7_2.wr W
    replace Z0 := Nat.le_trans Z0 (Nat.le_of_eq W.size.symm)
    replace N := Fr.snoc X.1 N g_b7_2
    refine g_aload X at_132 (pc' := 134) rfl rfl rfl ?_
    refine g_iload X at_134 (pc' := 136) rfl rfl ?_
    refine g_iconst X (1 : Int32) at_136 (pc' := 137) rfl rfl ?_
    refine g_iadd X at_137 (pc' := 138) rfl ?_
    refine Go.lit32 (z := (1 : Int32)) (by decide) ?_
    refine g_lloadN X at_138 (pc' := 139) rfl rfl ?_
    refine g_bipush X (8 : Int32) at_139 (pc' := 141) rfl rfl ?_
    refine g_lushr X at_141 (pc' := 142) rfl ?_
    refine g_l2i X at_142 (pc' := 143) rfl ?_
    refine g_i2b X at_143 (pc' := 144) rfl ?_
    generalize ev144_16 : ((((j0.toUInt64 >>> ((8 : Int32) &&& 0x3f).toInt64.toUInt64).toInt64).toInt32).toInt8.toInt32) = v144_16
    refine g_bastore X V_b7_2 1 at_144 (pc' := 145) rfl (by decide) (by decide) (Nat.le_of_ble_eq_true rfl) ?_
    intro T h X W V_b7_2
    replace V_b7_2 : Av Z h b7_2 .byte [(.int (nar .byte v131_15)), (.int (nar .byte v144_16)), (.int (nar .byte v34_5)), (.int (nar .byte v43_6)), (.int (nar .byte v50_7)), (.int (nar .byte v60_8)), (.int (nar .byte v71_9)), (.int (nar .byte v82_10)), (.int (nar .byte v90_11)), (.int (nar .byte v101_12)), (.int (nar .byte v112_13)), (.int (nar .byte v123_14))] := V_b7_2
    replace E_b7_2 := E_b7_2.wr W
    replace Z0 := Nat.le_trans Z0 (Nat.le_of_eq W.size.symm)
    replace N := Fr.snoc X.1 N g_b7_2
    refine g_aload X at_145 (pc' := 147) rfl rfl rfl ?_
    refine g_iload X at_147 (pc' := 149) rfl rfl ?_
    refine g_iconst X (2 : Int32) at_149 (pc' := 150) rfl rfl ?_
    refine g_iadd X at_150 (pc' := 151) rfl ?_
    refine Go.lit32 (z := (2 : Int32)) (by decide) ?_
    refine g_lloadN X at_151 (pc' := 152) rfl rfl ?_
    refine g_bipush X (16 : Int32) at_152 (pc' := 154) rfl rfl ?_
    refine g_lushr X at_154 (pc' := 155) rfl ?_
    refine g_l2i X at_155 (pc' := 156) rfl ?_
    refine g_i2b X at_156 (pc' := 157) rfl ?_
    generalize ev157_17 : ((((j0.toUInt64 >>> ((16 : Int32) &&& 0x3f).toInt64.toUInt64).toInt64).toInt32).toInt8.toInt32) = v157_17
    refine g_bastore X V_b7_2 2 at_157 (pc' := 158) rfl (by decide) (by decide) (Nat.le_of_ble_eq_true rfl) ?_
    intro T h X W V_b7_2
    replace V_b7_2 : Av Z h b7_2 .byte [(.int (nar .byte v131_15)), (.int (nar .byte v144_16)), (.int (nar .byte v157_17)), (.int (nar .byte v43_6)), (.int (nar .byte v50_7)), (.int (nar .byte v60_8)), (.int (nar .byte v71_9)), (.int (nar .byte v82_10)), (.int (nar .byte v90_11)), (.int (nar .byte v101_12)), (.int (nar .byte v112_13)), (.int (nar .byte v123_14))] := V_b7_2
    replace E_b7_2 := E_b7_2.wr W
    replace Z0 := Nat.le_trans Z0 (Nat.le_of_eq W.size.symm)
    replace N := Fr.snoc X.1 N g_b7_2
    refine g_aload X at_158 (pc' := 160) rfl rfl rfl ?_
    refine g_iload X at_160 (pc' := 162) rfl rfl ?_
    refine g_iconst X (3 : Int32) at_162 (pc' := 163) rfl rfl ?_
    refine g_iadd X at_163 (pc' := 164) rfl ?_
    refine Go.lit32 (z := (3 : Int32)) (by decide) ?_
    refine g_lloadN X at_164 (pc' := 165) rfl rfl ?_
    refine g_bipush X (24 : Int32) at_165 (pc' := 167) rfl rfl ?_
    refine g_lushr X at_167 (pc' := 168) rfl ?_
    refine g_l2i X at_168 (pc' := 169) rfl ?_
    refine g_i2b X at_169 (pc' := 170) rfl ?_
    generalize ev170_18 : ((((j0.toUInt64 >>> ((24 : Int32) &&& 0x3f).toInt64.toUInt64).toInt64).toInt32).toInt8.toInt32) = v170_18
    refine g_bastore X V_b7_2 3 at_170 (pc' := 171) rfl (by decide) (by decide) (Nat.le_of_ble_eq_true rfl) ?_
    intro T h X W V_b7_2
    replace V_b7_2 : Av Z h b7_2 .byte [(.int (nar .byte v131_15)), (.int (nar .byte v144_16)), (.int (nar .byte v157_17)), (.int (nar .byte v170_18)), (.int (nar .byte v50_7)), (.int (nar .byte v60_8)), (.int (nar .byte v71_9)), (.int (nar .byte v82_10)), (.int (nar .byte v90_11)), (.int (nar .byte v101_12)), (.int (nar .byte v112_13)), (.int (nar .byte v123_14))] := V_b7_2
    replace E_b7_2 := E_b7_2.wr W
    replace Z0 := Nat.le_trans Z0 (Nat.le_of_eq W.size.symm)
    replace N := Fr.snoc X.1 N g_b7_2
    refine g_aload X at_171 (pc' := 173) rfl rfl rfl ?_
    refine g_iload X at_173 (pc' := 175) rfl rfl ?_
    refine g_iconst X (4 : Int32) at_175 (pc' := 176) rfl rfl ?_
    refine g_iadd X at_176 (pc' := 177) rfl ?_
    refine Go.lit32 (z := (4 : Int32)) (by decide) ?_
    refine g_lloadN X at_177 (pc' := 178) rfl rfl ?_
    refine g_bipush X (32 : Int32) at_178 (pc' := 180) rfl rfl ?_
    refine g_lushr X at_180 (pc' := 181) rfl ?_
    refine g_l2i X at_181 (pc' := 182) rfl ?_
    refine g_i2b X at_182 (pc' := 183) rfl ?_
    generalize ev183_19 : ((((j0.toUInt64 >>> ((32 : Int32) &&& 0x3f).toInt64.toUInt64).toInt64).toInt32).toInt8.toInt32) = v183_19
    refine g_bastore X V_b7_2 4 at_183 (pc' := 184) rfl (by decide) (by decide) (Nat.le_of_ble_eq_true rfl) ?_
    intro T h X W V_b7_2
    replace V_b7_2 : Av Z h b7_2 .byte [(.int (nar .byte v131_15)), (.int (nar .byte v144_16)), (.int (nar .byte v157_17)), (.int (nar .byte v170_18)), (.int (nar .byte v183_19)), (.int (nar .byte v60_8)), (.int (nar .byte v71_9)), (.int (nar .byte v82_10)), (.int (nar .byte v90_11)), (.int (nar .byte v101_12)), (.int (nar .byte v112_13)), (.int (nar .byte v123_14))] := V_b7_2
    replace E_b7_2 := E_b7_2.wr W
    replace Z0 := Nat.le_trans Z0 (Nat.le_of_eq W.size.symm)
    replace N := Fr.snoc X.1 N g_b7_2
    refine g_aload X at_184 (pc' := 186) rfl rfl rfl ?_
    refine g_iload X at_186 (pc' := 188) rfl rfl ?_
    refine g_iconst X (5 : Int32) at_188 (pc' := 189) rfl rfl ?_
    refine g_iadd X at_189 (pc' := 190) rfl ?_
    refine Go.lit32 (z := (5 : Int32)) (by decide) ?_
    refine g_lloadN X at_190 (pc' := 191) rfl rfl ?_
    refine g_bipush X (40 : Int32) at_191 (pc' := 193) rfl rfl ?_
    refine g_lushr X at_193 (pc' := 194) rfl ?_
    refine g_l2i X at_194 (pc' := 195) rfl ?_
    refine g_i2b X at_195 (pc' := 196) rfl ?_
    generalize ev196_20 : ((((j0.toUInt64 >>> ((40 : Int32) &&& 0x3f).toInt64.toUInt64).toInt64).toInt32).toInt8.toInt32) = v196_20
    refine g_bastore X V_b7_2 5 at_196 (pc' := 197) rfl (by decide) (by decide) (Nat.le_of_ble_eq_true rfl) ?_
    intro T h X W V_b7_2
    replace V_b7_2 : Av Z h b7_2 .byte [(.int (nar .byte v131_15)), (.int (nar .byte v144_16)), (.int (nar .byte v157_17)), (.int (nar .byte v170_18)), (.int (nar .byte v183_19)), (.int (nar .byte v196_20)), (.int (nar .byte v71_9)), (.int (nar .byte v82_10)), (.int (nar .byte v90_11)), (.int (nar .byte v101_12)), (.int (nar .byte v112_13)), (.int (nar .byte v123_14))] := V_b7_2
    replace E_b7_2 := E_b7_2.wr W
    replace Z0 := Nat.le_trans Z0 (Nat.le_of_eq W.size.symm)
    replace N := Fr.snoc X.1 N g_b7_2
    refine g_aload X at_197 (pc' := 199) rfl rfl rfl ?_
    refine g_iload X at_199 (pc' := 201) rfl rfl ?_
    refine g_bipush X (6 : Int32) at_201 (pc' := 203) rfl rfl ?_
    refine g_iadd X at_203 (pc' := 204) rfl ?_
    refine Go.lit32 (z := (6 : Int32)) (by decide) ?_
    refine g_lloadN X at_204 (pc' := 205) rfl rfl ?_
    refine g_bipush X (48 : Int32) at_205 (pc' := 207) rfl rfl ?_
    refine g_lushr X at_207 (pc' := 208) rfl ?_
    refine g_l2i X at_208 (pc' := 209) rfl ?_
    refine g_i2b X at_209 (pc' := 210) rfl ?_
    generalize ev210_21 : ((((j0.toUInt64 >>> ((48 : Int32) &&& 0x3f).toInt64.toUInt64).toInt64).toInt32).toInt8.toInt32) = v210_21
    refine g_bastore X V_b7_2 6 at_210 (pc' := 211) rfl (by decide) (by decide) (Nat.le_of_ble_eq_true rfl) ?_
    intro T h X W V_b7_2
    replace V_b7_2 : Av Z h b7_2 .byte [(.int (nar .byte v131_15)), (.int (nar .byte v144_16)), (.int (nar .byte v157_17)), (.int (nar .byte v170_18)), (.int (nar .byte v183_19)), (.int (nar .byte v196_20)), (.int (nar .byte v210_21)), (.int (nar .byte v82_10)), (.int (nar .byte v90_11)), (.int (nar .byte v101_12)), (.int (nar .byte v112_13)), (.int (nar .byte v123_14))] := V_b7_2
    replace E_b7_2 := E_b7_2.wr W
    replace Z0 := Nat.le_trans Z0 (Nat.le_of_eq W.size.symm)
    replace N := Fr.snoc X.1 N g_b7_2
    refine g_aload X at_211 (pc' := 213) rfl rfl rfl ?_
    refine g_iload X at_213 (pc' := 215) rfl rfl ?_
    refine g_bipush X (7 : Int32) at_215 (pc' := 217) rfl rfl ?_
    refine g_iadd X at_217 (pc' := 218) rfl ?_
    refine Go.lit32 (z := (7 : Int32)) (by decide) ?_
    refine g_lloadN X at_218 (pc' := 219) rfl rfl ?_
    refine g_bipush X (56 : Int32) at_219 (pc' := 221) rfl rfl ?_
    refine g_lushr X at_221 (pc' := 222) rfl ?_
    refine g_l2i X at_222 (pc' := 223) rfl ?_
    refine g_i2b X at_223 (pc' := 224) rfl ?_
    generalize ev224_22 : ((((j0.toUInt64 >>> ((56 : Int32) &&& 0x3f).toInt64.toUInt64).toInt64).toInt32).toInt8.toInt32) = v224_22
    refine g_bastore X V_b7_2 7 at_224 (pc' := 225) rfl (by decide) (by decide) (Nat.le_of_ble_eq_true rfl) ?_
    intro T h X W V_b7_2
    replace V_b7_2 : Av Z h b7_2 .byte [(.int (nar .byte v131_15)), (.int (nar .byte v144_16)), (.int (nar .byte v157_17)), (.int (nar .byte v170_18)), (.int (nar .byte v183_19)), (.int (nar .byte v196_20)), (.int (nar .byte v210_21)), (.int (nar .byte v224_22)), (.int (nar .byte v90_11)), (.int (nar .byte v101_12)), (.int (nar .byte v112_13)), (.int (nar .byte v123_14))] := V_b7_2
    replace E_b7_2 := E_b7_2.wr W
    replace Z0 := Nat.le_trans Z0 (Nat.le_of_eq W.size.symm)
    replace N := Fr.snoc X.1 N g_b7_2
    refine g_aload X at_225 (pc' := 227) rfl rfl rfl ?_
    refine g_iload X at_227 (pc' := 229) rfl rfl ?_
    refine g_static X (W := 0) [(.ref b7_2), (.int (0 : Int32))] [] (tb hw 1 rfl) (tb hw 2 rfl) (tb hw 3 rfl) (tb hw 4 rfl) (rW0 l Z aa hw [] b7_2 (nar .byte v131_15) (nar .byte v144_16) (nar .byte v157_17) (nar .byte v170_18) (nar .byte v183_19) (nar .byte v196_20) (nar .byte v210_21) (nar .byte v224_22) (nar .byte v90_11) (nar .byte v101_12) (nar .byte v112_13) (nar .byte v123_14) _ V_b7_2) at_229 (pc' := 232) rfl (by decide) (by decide) (by decide) rfl rfl rfl (lenOf pd_0 rfl) (Nat.le_refl _) (by decide) (by decide) ?_
    intro v T L X q
    obtain ⟨rfl, X⟩ := pureX X q
    show Go p e below _ (T.setTop (mkF m 232 #[.val (.long j0), .second, .val (.int i1), .val (.int i2), .val (.int i3), .val (.int i4), .val (.int (0 : Int32)), .val (.ref b7_2)] [(.long (fW0 (nar .byte v131_15) (nar .byte v144_16) (nar .byte v157_17) (nar .byte v170_18) (nar .byte v183_19) (nar .byte v196_20) (nar .byte v210_21) (nar .byte v224_22) (nar .byte v90_11) (nar .byte v101_12) (nar .byte v112_13) (nar .byte v123_14)))]))
    refine g_lloadN X at_232 (pc' := 233) rfl rfl ?_
    refine g_lcmp X at_233 (pc' := 234) rfl ?_
    refine g_ifN X at_234 ((if0 _ _).trans (teq ((lw_eq (fW0 (nar .byte v131_15) (nar .byte v144_16) (nar .byte v157_17) (nar .byte v170_18) (nar .byte v183_19) (nar .byte v196_20) (nar .byte v210_21) (nar .byte v224_22) (nar .byte v90_11) (nar .byte v101_12) (nar .byte v112_13) (nar .byte v123_14)) j0).mpr (show (fW0 (nar .byte v131_15) (nar .byte v144_16) (nar .byte v157_17) (nar .byte v170_18) (nar .byte v183_19) (nar .byte v196_20) (nar .byte v210_21) (nar .byte v224_22) (nar .byte v90_11) (nar .byte v101_12) (nar .byte v112_13) (nar .byte v123_14)) = j0 from (by subst_vars; exact whole _)))).2) (pc' := 237) rfl ?_
    refine g_iconst X (1 : Int32) at_237 (pc' := 238) rfl rfl ?_
    refine g_goto X at_238 (pc' := 242) (by decide) (by decide) ?_
    refine g_ireturnN X (t := .boolean) (by simp) at_242 hret hlk (by decide) (by decide) ?_
    exact ⟨rfl, N⟩
  · subst hs
    show Go p e below _ (T.setTop (mkF m 5 #[.val (.long j0), .second, .val (.int i1), .val (.int i2), .val (.int i3), .val (.int i4), .val (.int (1 : Int32)), .unset] []))
    refine g_bipush X (12 : Int32) at_5 (pc' := 7) rfl rfl ?_
    refine g_newarray X 12 (tb hw 0 rfl) at_7 (pc' := 9) rfl (by decide) (by decide) 12 (by decide) (by decide) (by decide) (by decide) (vs := [(.int (0 : Int32)), (.int (0 : Int32)), (.int (0 : Int32)), (.int (0 : Int32)), (.int (0 : Int32)), (.int (0 : Int32)), (.int (0 : Int32)), (.int (0 : Int32)), (.int (0 : Int32)), (.int (0 : Int32)), (.int (0 : Int32)), (.int (0 : Int32))]) rfl (ad := "[B") (by decide) ?_
    intro T h b7_23 s_b7_23 X Ex E_b7_23 V_b7_23
    have g_b7_23 : n0 ≤ b7_23 := by rw [s_b7_23]; exact Z0
    replace Z0 := Nat.le_trans Z0 Ex.1
    refine g_astore X at_9 (pc' := 11) (Ls' := #[.val (.long j0), .second, .val (.int i1), .val (.int i2), .val (.int i3), .val (.int i4), .val (.int (1 : Int32)), .val (.ref b7_23)]) rfl rfl rfl ?_
    refine g_aload X at_11 (pc' := 13) rfl rfl rfl ?_
    refine g_iconst X (0 : Int32) at_13 (pc' := 14) rfl rfl ?_
    refine g_iloadN X at_14 (pc' := 15) rfl rfl ?_
    refine g_i2b X at_15 (pc' := 16) rfl ?_
    generalize ev16_24 : (i2.toInt8.toInt32) = v16_24
    refine g_bastore X V_b7_23 0 at_16 (pc' := 17) rfl (by decide) (by decide) (Nat.le_of_ble_eq_true rfl) ?_
    intro T h X W V_b7_23
    replace V_b7_23 : Av Z h b7_23 .byte [(.int (nar .byte v16_24)), (.int (0 : Int32)), (.int (0 : Int32)), (.int (0 : Int32)), (.int (0 : Int32)), (.int (0 : Int32)), (.int (0 : Int32)), (.int (0 : Int32)), (.int (0 : Int32)), (.int (0 : Int32)), (.int (0 : Int32)), (.int (0 : Int32))] := V_b7_23
    replace E_b7_23 := E_b7_23.wr W
    replace Z0 := Nat.le_trans Z0 (Nat.le_of_eq W.size.symm)
    replace N := Fr.snoc X.1 N g_b7_23
    refine g_aload X at_17 (pc' := 19) rfl rfl rfl ?_
    refine g_iconst X (1 : Int32) at_19 (pc' := 20) rfl rfl ?_
    refine g_iloadN X at_20 (pc' := 21) rfl rfl ?_
    refine g_bipush X (8 : Int32) at_21 (pc' := 23) rfl rfl ?_
    refine g_iushr X at_23 (pc' := 24) rfl ?_
    refine g_i2b X at_24 (pc' := 25) rfl ?_
    generalize ev25_25 : (((i2.toUInt32 >>> ((8 : Int32) &&& 31).toUInt32).toInt32).toInt8.toInt32) = v25_25
    refine g_bastore X V_b7_23 1 at_25 (pc' := 26) rfl (by decide) (by decide) (Nat.le_of_ble_eq_true rfl) ?_
    intro T h X W V_b7_23
    replace V_b7_23 : Av Z h b7_23 .byte [(.int (nar .byte v16_24)), (.int (nar .byte v25_25)), (.int (0 : Int32)), (.int (0 : Int32)), (.int (0 : Int32)), (.int (0 : Int32)), (.int (0 : Int32)), (.int (0 : Int32)), (.int (0 : Int32)), (.int (0 : Int32)), (.int (0 : Int32)), (.int (0 : Int32))] := V_b7_23
    replace E_b7_23 := E_b7_23.wr W
    replace Z0 := Nat.le_trans Z0 (Nat.le_of_eq W.size.symm)
    replace N := Fr.snoc X.1 N g_b7_23
    refine g_aload X at_26 (pc' := 28) rfl rfl rfl ?_
    refine g_iconst X (2 : Int32) at_28 (pc' := 29) rfl rfl ?_
    refine g_iloadN X at_29 (pc' := 30) rfl rfl ?_
    refine g_bipush X (16 : Int32) at_30 (pc' := 32) rfl rfl ?_
    refine g_iushr X at_32 (pc' := 33) rfl ?_
    refine g_i2b X at_33 (pc' := 34) rfl ?_
    generalize ev34_26 : (((i2.toUInt32 >>> ((16 : Int32) &&& 31).toUInt32).toInt32).toInt8.toInt32) = v34_26
    refine g_bastore X V_b7_23 2 at_34 (pc' := 35) rfl (by decide) (by decide) (Nat.le_of_ble_eq_true rfl) ?_
    intro T h X W V_b7_23
    replace V_b7_23 : Av Z h b7_23 .byte [(.int (nar .byte v16_24)), (.int (nar .byte v25_25)), (.int (nar .byte v34_26)), (.int (0 : Int32)), (.int (0 : Int32)), (.int (0 : Int32)), (.int (0 : Int32)), (.int (0 : Int32)), (.int (0 : Int32)), (.int (0 : Int32)), (.int (0 : Int32)), (.int (0 : Int32))] := V_b7_23
    replace E_b7_23 := E_b7_23.wr W
    replace Z0 := Nat.le_trans Z0 (Nat.le_of_eq W.size.symm)
    replace N := Fr.snoc X.1 N g_b7_23
    refine g_aload X at_35 (pc' := 37) rfl rfl rfl ?_
    refine g_iconst X (3 : Int32) at_37 (pc' := 38) rfl rfl ?_
    refine g_iloadN X at_38 (pc' := 39) rfl rfl ?_
    refine g_bipush X (24 : Int32) at_39 (pc' := 41) rfl rfl ?_
    refine g_iushr X at_41 (pc' := 42) rfl ?_
    refine g_i2b X at_42 (pc' := 43) rfl ?_
    generalize ev43_27 : (((i2.toUInt32 >>> ((24 : Int32) &&& 31).toUInt32).toInt32).toInt8.toInt32) = v43_27
    refine g_bastore X V_b7_23 3 at_43 (pc' := 44) rfl (by decide) (by decide) (Nat.le_of_ble_eq_true rfl) ?_
    intro T h X W V_b7_23
    replace V_b7_23 : Av Z h b7_23 .byte [(.int (nar .byte v16_24)), (.int (nar .byte v25_25)), (.int (nar .byte v34_26)), (.int (nar .byte v43_27)), (.int (0 : Int32)), (.int (0 : Int32)), (.int (0 : Int32)), (.int (0 : Int32)), (.int (0 : Int32)), (.int (0 : Int32)), (.int (0 : Int32)), (.int (0 : Int32))] := V_b7_23
    replace E_b7_23 := E_b7_23.wr W
    replace Z0 := Nat.le_trans Z0 (Nat.le_of_eq W.size.symm)
    replace N := Fr.snoc X.1 N g_b7_23
    refine g_aload X at_44 (pc' := 46) rfl rfl rfl ?_
    refine g_iconst X (4 : Int32) at_46 (pc' := 47) rfl rfl ?_
    refine g_iload X at_47 (pc' := 49) rfl rfl ?_
    refine g_i2b X at_49 (pc' := 50) rfl ?_
    generalize ev50_28 : (i3.toInt8.toInt32) = v50_28
    refine g_bastore X V_b7_23 4 at_50 (pc' := 51) rfl (by decide) (by decide) (Nat.le_of_ble_eq_true rfl) ?_
    intro T h X W V_b7_23
    replace V_b7_23 : Av Z h b7_23 .byte [(.int (nar .byte v16_24)), (.int (nar .byte v25_25)), (.int (nar .byte v34_26)), (.int (nar .byte v43_27)), (.int (nar .byte v50_28)), (.int (0 : Int32)), (.int (0 : Int32)), (.int (0 : Int32)), (.int (0 : Int32)), (.int (0 : Int32)), (.int (0 : Int32)), (.int (0 : Int32))] := V_b7_23
    replace E_b7_23 := E_b7_23.wr W
    replace Z0 := Nat.le_trans Z0 (Nat.le_of_eq W.size.symm)
    replace N := Fr.snoc X.1 N g_b7_23
    refine g_aload X at_51 (pc' := 53) rfl rfl rfl ?_
    refine g_iconst X (5 : Int32) at_53 (pc' := 54) rfl rfl ?_
    refine g_iload X at_54 (pc' := 56) rfl rfl ?_
    refine g_bipush X (8 : Int32) at_56 (pc' := 58) rfl rfl ?_
    refine g_iushr X at_58 (pc' := 59) rfl ?_
    refine g_i2b X at_59 (pc' := 60) rfl ?_
    generalize ev60_29 : (((i3.toUInt32 >>> ((8 : Int32) &&& 31).toUInt32).toInt32).toInt8.toInt32) = v60_29
    refine g_bastore X V_b7_23 5 at_60 (pc' := 61) rfl (by decide) (by decide) (Nat.le_of_ble_eq_true rfl) ?_
    intro T h X W V_b7_23
    replace V_b7_23 : Av Z h b7_23 .byte [(.int (nar .byte v16_24)), (.int (nar .byte v25_25)), (.int (nar .byte v34_26)), (.int (nar .byte v43_27)), (.int (nar .byte v50_28)), (.int (nar .byte v60_29)), (.int (0 : Int32)), (.int (0 : Int32)), (.int (0 : Int32)), (.int (0 : Int32)), (.int (0 : Int32)), (.int (0 : Int32))] := V_b7_23
    replace E_b7_23 := E_b7_23.wr W
    replace Z0 := Nat.le_trans Z0 (Nat.le_of_eq W.size.symm)
    replace N := Fr.snoc X.1 N g_b7_23
    refine g_aload X at_61 (pc' := 63) rfl rfl rfl ?_
    refine g_bipush X (6 : Int32) at_63 (pc' := 65) rfl rfl ?_
    refine g_iload X at_65 (pc' := 67) rfl rfl ?_
    refine g_bipush X (16 : Int32) at_67 (pc' := 69) rfl rfl ?_
    refine g_iushr X at_69 (pc' := 70) rfl ?_
    refine g_i2b X at_70 (pc' := 71) rfl ?_
    generalize ev71_30 : (((i3.toUInt32 >>> ((16 : Int32) &&& 31).toUInt32).toInt32).toInt8.toInt32) = v71_30
    refine g_bastore X V_b7_23 6 at_71 (pc' := 72) rfl (by decide) (by decide) (Nat.le_of_ble_eq_true rfl) ?_
    intro T h X W V_b7_23
    replace V_b7_23 : Av Z h b7_23 .byte [(.int (nar .byte v16_24)), (.int (nar .byte v25_25)), (.int (nar .byte v34_26)), (.int (nar .byte v43_27)), (.int (nar .byte v50_28)), (.int (nar .byte v60_29)), (.int (nar .byte v71_30)), (.int (0 : Int32)), (.int (0 : Int32)), (.int (0 : Int32)), (.int (0 : Int32)), (.int (0 : Int32))] := V_b7_23
    replace E_b7_23 := E_b7_23.wr W
    replace Z0 := Nat.le_trans Z0 (Nat.le_of_eq W.size.symm)
    replace N := Fr.snoc X.1 N g_b7_23
    refine g_aload X at_72 (pc' := 74) rfl rfl rfl ?_
    refine g_bipush X (7 : Int32) at_74 (pc' := 76) rfl rfl ?_
    refine g_iload X at_76 (pc' := 78) rfl rfl ?_
    refine g_bipush X (24 : Int32) at_78 (pc' := 80) rfl rfl ?_
    refine g_iushr X at_80 (pc' := 81) rfl ?_
    refine g_i2b X at_81 (pc' := 82) rfl ?_
    generalize ev82_31 : (((i3.toUInt32 >>> ((24 : Int32) &&& 31).toUInt32).toInt32).toInt8.toInt32) = v82_31
    refine g_bastore X V_b7_23 7 at_82 (pc' := 83) rfl (by decide) (by decide) (Nat.le_of_ble_eq_true rfl) ?_
    intro T h X W V_b7_23
    replace V_b7_23 : Av Z h b7_23 .byte [(.int (nar .byte v16_24)), (.int (nar .byte v25_25)), (.int (nar .byte v34_26)), (.int (nar .byte v43_27)), (.int (nar .byte v50_28)), (.int (nar .byte v60_29)), (.int (nar .byte v71_30)), (.int (nar .byte v82_31)), (.int (0 : Int32)), (.int (0 : Int32)), (.int (0 : Int32)), (.int (0 : Int32))] := V_b7_23
    replace E_b7_23 := E_b7_23.wr W
    replace Z0 := Nat.le_trans Z0 (Nat.le_of_eq W.size.symm)
    replace N := Fr.snoc X.1 N g_b7_23
    refine g_aload X at_83 (pc' := 85) rfl rfl rfl ?_
    refine g_bipush X (8 : Int32) at_85 (pc' := 87) rfl rfl ?_
    refine g_iload X at_87 (pc' := 89) rfl rfl ?_
    refine g_i2b X at_89 (pc' := 90) rfl ?_
    generalize ev90_32 : (i4.toInt8.toInt32) = v90_32
    refine g_bastore X V_b7_23 8 at_90 (pc' := 91) rfl (by decide) (by decide) (Nat.le_of_ble_eq_true rfl) ?_
    intro T h X W V_b7_23
    replace V_b7_23 : Av Z h b7_23 .byte [(.int (nar .byte v16_24)), (.int (nar .byte v25_25)), (.int (nar .byte v34_26)), (.int (nar .byte v43_27)), (.int (nar .byte v50_28)), (.int (nar .byte v60_29)), (.int (nar .byte v71_30)), (.int (nar .byte v82_31)), (.int (nar .byte v90_32)), (.int (0 : Int32)), (.int (0 : Int32)), (.int (0 : Int32))] := V_b7_23
    replace E_b7_23 := E_b7_23.wr W
    replace Z0 := Nat.le_trans Z0 (Nat.le_of_eq W.size.symm)
    replace N := Fr.snoc X.1 N g_b7_23
    refine g_aload X at_91 (pc' := 93) rfl rfl rfl ?_
    refine g_bipush X (9 : Int32) at_93 (pc' := 95) rfl rfl ?_
    refine g_iload X at_95 (pc' := 97) rfl rfl ?_
    refine g_bipush X (8 : Int32) at_97 (pc' := 99) rfl rfl ?_
    refine g_iushr X at_99 (pc' := 100) rfl ?_
    refine g_i2b X at_100 (pc' := 101) rfl ?_
    generalize ev101_33 : (((i4.toUInt32 >>> ((8 : Int32) &&& 31).toUInt32).toInt32).toInt8.toInt32) = v101_33
    refine g_bastore X V_b7_23 9 at_101 (pc' := 102) rfl (by decide) (by decide) (Nat.le_of_ble_eq_true rfl) ?_
    intro T h X W V_b7_23
    replace V_b7_23 : Av Z h b7_23 .byte [(.int (nar .byte v16_24)), (.int (nar .byte v25_25)), (.int (nar .byte v34_26)), (.int (nar .byte v43_27)), (.int (nar .byte v50_28)), (.int (nar .byte v60_29)), (.int (nar .byte v71_30)), (.int (nar .byte v82_31)), (.int (nar .byte v90_32)), (.int (nar .byte v101_33)), (.int (0 : Int32)), (.int (0 : Int32))] := V_b7_23
    replace E_b7_23 := E_b7_23.wr W
    replace Z0 := Nat.le_trans Z0 (Nat.le_of_eq W.size.symm)
    replace N := Fr.snoc X.1 N g_b7_23
    refine g_aload X at_102 (pc' := 104) rfl rfl rfl ?_
    refine g_bipush X (10 : Int32) at_104 (pc' := 106) rfl rfl ?_
    refine g_iload X at_106 (pc' := 108) rfl rfl ?_
    refine g_bipush X (16 : Int32) at_108 (pc' := 110) rfl rfl ?_
    refine g_iushr X at_110 (pc' := 111) rfl ?_
    refine g_i2b X at_111 (pc' := 112) rfl ?_
    generalize ev112_34 : (((i4.toUInt32 >>> ((16 : Int32) &&& 31).toUInt32).toInt32).toInt8.toInt32) = v112_34
    refine g_bastore X V_b7_23 10 at_112 (pc' := 113) rfl (by decide) (by decide) (Nat.le_of_ble_eq_true rfl) ?_
    intro T h X W V_b7_23
    replace V_b7_23 : Av Z h b7_23 .byte [(.int (nar .byte v16_24)), (.int (nar .byte v25_25)), (.int (nar .byte v34_26)), (.int (nar .byte v43_27)), (.int (nar .byte v50_28)), (.int (nar .byte v60_29)), (.int (nar .byte v71_30)), (.int (nar .byte v82_31)), (.int (nar .byte v90_32)), (.int (nar .byte v101_33)), (.int (nar .byte v112_34)), (.int (0 : Int32))] := V_b7_23
    replace E_b7_23 := E_b7_23.wr W
    replace Z0 := Nat.le_trans Z0 (Nat.le_of_eq W.size.symm)
    replace N := Fr.snoc X.1 N g_b7_23
    refine g_aload X at_113 (pc' := 115) rfl rfl rfl ?_
    refine g_bipush X (11 : Int32) at_115 (pc' := 117) rfl rfl ?_
    refine g_iload X at_117 (pc' := 119) rfl rfl ?_
    refine g_bipush X (24 : Int32) at_119 (pc' := 121) rfl rfl ?_
    refine g_iushr X at_121 (pc' := 122) rfl ?_
    refine g_i2b X at_122 (pc' := 123) rfl ?_
    generalize ev123_35 : (((i4.toUInt32 >>> ((24 : Int32) &&& 31).toUInt32).toInt32).toInt8.toInt32) = v123_35
    refine g_bastore X V_b7_23 11 at_123 (pc' := 124) rfl (by decide) (by decide) (Nat.le_of_ble_eq_true rfl) ?_
    intro T h X W V_b7_23
    replace V_b7_23 : Av Z h b7_23 .byte [(.int (nar .byte v16_24)), (.int (nar .byte v25_25)), (.int (nar .byte v34_26)), (.int (nar .byte v43_27)), (.int (nar .byte v50_28)), (.int (nar .byte v60_29)), (.int (nar .byte v71_30)), (.int (nar .byte v82_31)), (.int (nar .byte v90_32)), (.int (nar .byte v101_33)), (.int (nar .byte v112_34)), (.int (nar .byte v123_35))] := V_b7_23
    replace E_b7_23 := E_b7_23.wr W
    replace Z0 := Nat.le_trans Z0 (Nat.le_of_eq W.size.symm)
    replace N := Fr.snoc X.1 N g_b7_23
    refine g_aload X at_124 (pc' := 126) rfl rfl rfl ?_
    refine g_iload X at_126 (pc' := 128) rfl rfl ?_
    refine g_lloadN X at_128 (pc' := 129) rfl rfl ?_
    refine g_l2i X at_129 (pc' := 130) rfl ?_
    refine g_i2b X at_130 (pc' := 131) rfl ?_
    generalize ev131_36 : ((j0.toInt32).toInt8.toInt32) = v131_36
    refine g_bastore X V_b7_23 1 at_131 (pc' := 132) rfl (by decide) (by decide) (Nat.le_of_ble_eq_true rfl) ?_
    intro T h X W V_b7_23
    replace V_b7_23 : Av Z h b7_23 .byte [(.int (nar .byte v16_24)), (.int (nar .byte v131_36)), (.int (nar .byte v34_26)), (.int (nar .byte v43_27)), (.int (nar .byte v50_28)), (.int (nar .byte v60_29)), (.int (nar .byte v71_30)), (.int (nar .byte v82_31)), (.int (nar .byte v90_32)), (.int (nar .byte v101_33)), (.int (nar .byte v112_34)), (.int (nar .byte v123_35))] := V_b7_23
    replace E_b7_23 := E_b7_23.wr W
    replace Z0 := Nat.le_trans Z0 (Nat.le_of_eq W.size.symm)
    replace N := Fr.snoc X.1 N g_b7_23
    refine g_aload X at_132 (pc' := 134) rfl rfl rfl ?_
    refine g_iload X at_134 (pc' := 136) rfl rfl ?_
    refine g_iconst X (1 : Int32) at_136 (pc' := 137) rfl rfl ?_
    refine g_iadd X at_137 (pc' := 138) rfl ?_
    refine Go.lit32 (z := (2 : Int32)) (by decide) ?_
    refine g_lloadN X at_138 (pc' := 139) rfl rfl ?_
    refine g_bipush X (8 : Int32) at_139 (pc' := 141) rfl rfl ?_
    refine g_lushr X at_141 (pc' := 142) rfl ?_
    refine g_l2i X at_142 (pc' := 143) rfl ?_
    refine g_i2b X at_143 (pc' := 144) rfl ?_
    generalize ev144_37 : ((((j0.toUInt64 >>> ((8 : Int32) &&& 0x3f).toInt64.toUInt64).toInt64).toInt32).toInt8.toInt32) = v144_37
    refine g_bastore X V_b7_23 2 at_144 (pc' := 145) rfl (by decide) (by decide) (Nat.le_of_ble_eq_true rfl) ?_
    intro T h X W V_b7_23
    replace V_b7_23 : Av Z h b7_23 .byte [(.int (nar .byte v16_24)), (.int (nar .byte v131_36)), (.int (nar .byte v144_37)), (.int (nar .byte v43_27)), (.int (nar .byte v50_28)), (.int (nar .byte v60_29)), (.int (nar .byte v71_30)), (.int (nar .byte v82_31)), (.int (nar .byte v90_32)), (.int (nar .byte v101_33)), (.int (nar .byte v112_34)), (.int (nar .byte v123_35))] := V_b7_23
    replace E_b7_23 := E_b7_23.wr W
    replace Z0 := Nat.le_trans Z0 (Nat.le_of_eq W.size.symm)
    replace N := Fr.snoc X.1 N g_b7_23
    refine g_aload X at_145 (pc' := 147) rfl rfl rfl ?_
    refine g_iload X at_147 (pc' := 149) rfl rfl ?_
    refine g_iconst X (2 : Int32) at_149 (pc' := 150) rfl rfl ?_
    refine g_iadd X at_150 (pc' := 151) rfl ?_
    refine Go.lit32 (z := (3 : Int32)) (by decide) ?_
    refine g_lloadN X at_151 (pc' := 152) rfl rfl ?_
    refine g_bipush X (16 : Int32) at_152 (pc' := 154) rfl rfl ?_
    refine g_lushr X at_154 (pc' := 155) rfl ?_
    refine g_l2i X at_155 (pc' := 156) rfl ?_
    refine g_i2b X at_156 (pc' := 157) rfl ?_
    generalize ev157_38 : ((((j0.toUInt64 >>> ((16 : Int32) &&& 0x3f).toInt64.toUInt64).toInt64).toInt32).toInt8.toInt32) = v157_38
    refine g_bastore X V_b7_23 3 at_157 (pc' := 158) rfl (by decide) (by decide) (Nat.le_of_ble_eq_true rfl) ?_
    intro T h X W V_b7_23
    replace V_b7_23 : Av Z h b7_23 .byte [(.int (nar .byte v16_24)), (.int (nar .byte v131_36)), (.int (nar .byte v144_37)), (.int (nar .byte v157_38)), (.int (nar .byte v50_28)), (.int (nar .byte v60_29)), (.int (nar .byte v71_30)), (.int (nar .byte v82_31)), (.int (nar .byte v90_32)), (.int (nar .byte v101_33)), (.int (nar .byte v112_34)), (.int (nar .byte v123_35))] := V_b7_23
    replace E_b7_23 := E_b7_23.wr W
    replace Z0 := Nat.le_trans Z0 (Nat.le_of_eq W.size.symm)
    replace N := Fr.snoc X.1 N g_b7_23
    refine g_aload X at_158 (pc' := 160) rfl rfl rfl ?_
    refine g_iload X at_160 (pc' := 162) rfl rfl ?_
    refine g_iconst X (3 : Int32) at_162 (pc' := 163) rfl rfl ?_
    refine g_iadd X at_163 (pc' := 164) rfl ?_
    refine Go.lit32 (z := (4 : Int32)) (by decide) ?_
    refine g_lloadN X at_164 (pc' := 165) rfl rfl ?_
    refine g_bipush X (24 : Int32) at_165 (pc' := 167) rfl rfl ?_
    refine g_lushr X at_167 (pc' := 168) rfl ?_
    refine g_l2i X at_168 (pc' := 169) rfl ?_
    refine g_i2b X at_169 (pc' := 170) rfl ?_
    generalize ev170_39 : ((((j0.toUInt64 >>> ((24 : Int32) &&& 0x3f).toInt64.toUInt64).toInt64).toInt32).toInt8.toInt32) = v170_39
    refine g_bastore X V_b7_23 4 at_170 (pc' := 171) rfl (by decide) (by decide) (Nat.le_of_ble_eq_true rfl) ?_
    intro T h X W V_b7_23
    replace V_b7_23 : Av Z h b7_23 .byte [(.int (nar .byte v16_24)), (.int (nar .byte v131_36)), (.int (nar .byte v144_37)), (.int (nar .byte v157_38)), (.int (nar .byte v170_39)), (.int (nar .byte v60_29)), (.int (nar .byte v71_30)), (.int (nar .byte v82_31)), (.int (nar .byte v90_32)), (.int (nar .byte v101_33)), (.int (nar .byte v112_34)), (.int (nar .byte v123_35))] := V_b7_23
    replace E_b7_23 := E_b7_23.wr W
    replace Z0 := Nat.le_trans Z0 (Nat.le_of_eq W.size.symm)
    replace N := Fr.snoc X.1 N g_b7_23
    refine g_aload X at_171 (pc' := 173) rfl rfl rfl ?_
    refine g_iload X at_173 (pc' := 175) rfl rfl ?_
    refine g_iconst X (4 : Int32) at_175 (pc' := 176) rfl rfl ?_
    refine g_iadd X at_176 (pc' := 177) rfl ?_
    refine Go.lit32 (z := (5 : Int32)) (by decide) ?_
    refine g_lloadN X at_177 (pc' := 178) rfl rfl ?_
    refine g_bipush X (32 : Int32) at_178 (pc' := 180) rfl rfl ?_
    refine g_lushr X at_180 (pc' := 181) rfl ?_
    refine g_l2i X at_181 (pc' := 182) rfl ?_
    refine g_i2b X at_182 (pc' := 183) rfl ?_
    generalize ev183_40 : ((((j0.toUInt64 >>> ((32 : Int32) &&& 0x3f).toInt64.toUInt64).toInt64).toInt32).toInt8.toInt32) = v183_40
    refine g_bastore X V_b7_23 5 at_183 (pc' := 184) rfl (by decide) (by decide) (Nat.le_of_ble_eq_true rfl) ?_
    intro T h X W V_b7_23
    replace V_b7_23 : Av Z h b7_23 .byte [(.int (nar .byte v16_24)), (.int (nar .byte v131_36)), (.int (nar .byte v144_37)), (.int (nar .byte v157_38)), (.int (nar .byte v170_39)), (.int (nar .byte v183_40)), (.int (nar .byte v71_30)), (.int (nar .byte v82_31)), (.int (nar .byte v90_32)), (.int (nar .byte v101_33)), (.int (nar .byte v112_34)), (.int (nar .byte v123_35))] := V_b7_23
    replace E_b7_23 := E_b7_23.wr W
    replace Z0 := Nat.le_trans Z0 (Nat.le_of_eq W.size.symm)
    replace N := Fr.snoc X.1 N g_b7_23
    refine g_aload X at_184 (pc' := 186) rfl rfl rfl ?_
    refine g_iload X at_186 (pc' := 188) rfl rfl ?_
    refine g_iconst X (5 : Int32) at_188 (pc' := 189) rfl rfl ?_
    refine g_iadd X at_189 (pc' := 190) rfl ?_
    refine Go.lit32 (z := (6 : Int32)) (by decide) ?_
    refine g_lloadN X at_190 (pc' := 191) rfl rfl ?_
    refine g_bipush X (40 : Int32) at_191 (pc' := 193) rfl rfl ?_
    refine g_lushr X at_193 (pc' := 194) rfl ?_
    refine g_l2i X at_194 (pc' := 195) rfl ?_
    refine g_i2b X at_195 (pc' := 196) rfl ?_
    generalize ev196_41 : ((((j0.toUInt64 >>> ((40 : Int32) &&& 0x3f).toInt64.toUInt64).toInt64).toInt32).toInt8.toInt32) = v196_41
    refine g_bastore X V_b7_23 6 at_196 (pc' := 197) rfl (by decide) (by decide) (Nat.le_of_ble_eq_true rfl) ?_
    intro T h X W V_b7_23
    replace V_b7_23 : Av Z h b7_23 .byte [(.int (nar .byte v16_24)), (.int (nar .byte v131_36)), (.int (nar .byte v144_37)), (.int (nar .byte v157_38)), (.int (nar .byte v170_39)), (.int (nar .byte v183_40)), (.int (nar .byte v196_41)), (.int (nar .byte v82_31)), (.int (nar .byte v90_32)), (.int (nar .byte v101_33)), (.int (nar .byte v112_34)), (.int (nar .byte v123_35))] := V_b7_23
    replace E_b7_23 := E_b7_23.wr W
    replace Z0 := Nat.le_trans Z0 (Nat.le_of_eq W.size.symm)
    replace N := Fr.snoc X.1 N g_b7_23
    refine g_aload X at_197 (pc' := 199) rfl rfl rfl ?_
    refine g_iload X at_199 (pc' := 201) rfl rfl ?_
    refine g_bipush X (6 : Int32) at_201 (pc' := 203) rfl rfl ?_
    refine g_iadd X at_203 (pc' := 204) rfl ?_
    refine Go.lit32 (z := (7 : Int32)) (by decide) ?_
    refine g_lloadN X at_204 (pc' := 205) rfl rfl ?_
    refine g_bipush X (48 : Int32) at_205 (pc' := 207) rfl rfl ?_
    refine g_lushr X at_207 (pc' := 208) rfl ?_
    refine g_l2i X at_208 (pc' := 209) rfl ?_
    refine g_i2b X at_209 (pc' := 210) rfl ?_
    generalize ev210_42 : ((((j0.toUInt64 >>> ((48 : Int32) &&& 0x3f).toInt64.toUInt64).toInt64).toInt32).toInt8.toInt32) = v210_42
    refine g_bastore X V_b7_23 7 at_210 (pc' := 211) rfl (by decide) (by decide) (Nat.le_of_ble_eq_true rfl) ?_
    intro T h X W V_b7_23
    replace V_b7_23 : Av Z h b7_23 .byte [(.int (nar .byte v16_24)), (.int (nar .byte v131_36)), (.int (nar .byte v144_37)), (.int (nar .byte v157_38)), (.int (nar .byte v170_39)), (.int (nar .byte v183_40)), (.int (nar .byte v196_41)), (.int (nar .byte v210_42)), (.int (nar .byte v90_32)), (.int (nar .byte v101_33)), (.int (nar .byte v112_34)), (.int (nar .byte v123_35))] := V_b7_23
    replace E_b7_23 := E_b7_23.wr W
    replace Z0 := Nat.le_trans Z0 (Nat.le_of_eq W.size.symm)
    replace N := Fr.snoc X.1 N g_b7_23
    refine g_aload X at_211 (pc' := 213) rfl rfl rfl ?_
    refine g_iload X at_213 (pc' := 215) rfl rfl ?_
    refine g_bipush X (7 : Int32) at_215 (pc' := 217) rfl rfl ?_
    refine g_iadd X at_217 (pc' := 218) rfl ?_
    refine Go.lit32 (z := (8 : Int32)) (by decide) ?_
    refine g_lloadN X at_218 (pc' := 219) rfl rfl ?_
    refine g_bipush X (56 : Int32) at_219 (pc' := 221) rfl rfl ?_
    refine g_lushr X at_221 (pc' := 222) rfl ?_
    refine g_l2i X at_222 (pc' := 223) rfl ?_
    refine g_i2b X at_223 (pc' := 224) rfl ?_
    generalize ev224_43 : ((((j0.toUInt64 >>> ((56 : Int32) &&& 0x3f).toInt64.toUInt64).toInt64).toInt32).toInt8.toInt32) = v224_43
    refine g_bastore X V_b7_23 8 at_224 (pc' := 225) rfl (by decide) (by decide) (Nat.le_of_ble_eq_true rfl) ?_
    intro T h X W V_b7_23
    replace V_b7_23 : Av Z h b7_23 .byte [(.int (nar .byte v16_24)), (.int (nar .byte v131_36)), (.int (nar .byte v144_37)), (.int (nar .byte v157_38)), (.int (nar .byte v170_39)), (.int (nar .byte v183_40)), (.int (nar .byte v196_41)), (.int (nar .byte v210_42)), (.int (nar .byte v224_43)), (.int (nar .byte v101_33)), (.int (nar .byte v112_34)), (.int (nar .byte v123_35))] := V_b7_23
    replace E_b7_23 := E_b7_23.wr W
    replace Z0 := Nat.le_trans Z0 (Nat.le_of_eq W.size.symm)
    replace N := Fr.snoc X.1 N g_b7_23
    refine g_aload X at_225 (pc' := 227) rfl rfl rfl ?_
    refine g_iload X at_227 (pc' := 229) rfl rfl ?_
    refine g_static X (W := 0) [(.ref b7_23), (.int (1 : Int32))] [] (tb hw 1 rfl) (tb hw 2 rfl) (tb hw 3 rfl) (tb hw 4 rfl) (rW1 l Z aa hw [] b7_23 (nar .byte v16_24) (nar .byte v131_36) (nar .byte v144_37) (nar .byte v157_38) (nar .byte v170_39) (nar .byte v183_40) (nar .byte v196_41) (nar .byte v210_42) (nar .byte v224_43) (nar .byte v101_33) (nar .byte v112_34) (nar .byte v123_35) _ V_b7_23) at_229 (pc' := 232) rfl (by decide) (by decide) (by decide) rfl rfl rfl (lenOf pd_0 rfl) (Nat.le_refl _) (by decide) (by decide) ?_
    intro v T L X q
    obtain ⟨rfl, X⟩ := pureX X q
    show Go p e below _ (T.setTop (mkF m 232 #[.val (.long j0), .second, .val (.int i1), .val (.int i2), .val (.int i3), .val (.int i4), .val (.int (1 : Int32)), .val (.ref b7_23)] [(.long (fW1 (nar .byte v16_24) (nar .byte v131_36) (nar .byte v144_37) (nar .byte v157_38) (nar .byte v170_39) (nar .byte v183_40) (nar .byte v196_41) (nar .byte v210_42) (nar .byte v224_43) (nar .byte v101_33) (nar .byte v112_34) (nar .byte v123_35)))]))
    refine g_lloadN X at_232 (pc' := 233) rfl rfl ?_
    refine g_lcmp X at_233 (pc' := 234) rfl ?_
    refine g_ifN X at_234 ((if0 _ _).trans (teq ((lw_eq (fW1 (nar .byte v16_24) (nar .byte v131_36) (nar .byte v144_37) (nar .byte v157_38) (nar .byte v170_39) (nar .byte v183_40) (nar .byte v196_41) (nar .byte v210_42) (nar .byte v224_43) (nar .byte v101_33) (nar .byte v112_34) (nar .byte v123_35)) j0).mpr (show (fW1 (nar .byte v16_24) (nar .byte v131_36) (nar .byte v144_37) (nar .byte v157_38) (nar .byte v170_39) (nar .byte v183_40) (nar .byte v196_41) (nar .byte v210_42) (nar .byte v224_43) (nar .byte v101_33) (nar .byte v112_34) (nar .byte v123_35)) = j0 from (by subst_vars; exact whole _)))).2) (pc' := 237) rfl ?_
    refine g_iconst X (1 : Int32) at_237 (pc' := 238) rfl rfl ?_
    refine g_goto X at_238 (pc' := 242) (by decide) (by decide) ?_
    refine g_ireturnN X (t := .boolean) (by simp) at_242 hret hlk (by decide) (by decide) ?_
    exact ⟨rfl, N⟩
  · subst hs
    show Go p e below _ (T.setTop (mkF m 5 #[.val (.long j0), .second, .val (.int i1), .val (.int i2), .val (.int i3), .val (.int i4), .val (.int (2 : Int32)), .unset] []))
    refine g_bipush X (12 : Int32) at_5 (pc' := 7) rfl rfl ?_
    refine g_newarray X 12 (tb hw 0 rfl) at_7 (pc' := 9) rfl (by decide) (by decide) 12 (by decide) (by decide) (by decide) (by decide) (vs := [(.int (0 : Int32)), (.int (0 : Int32)), (.int (0 : Int32)), (.int (0 : Int32)), (.int (0 : Int32)), (.int (0 : Int32)), (.int (0 : Int32)), (.int (0 : Int32)), (.int (0 : Int32)), (.int (0 : Int32)), (.int (0 : Int32)), (.int (0 : Int32))]) rfl (ad := "[B") (by decide) ?_
    intro T h b7_44 s_b7_44 X Ex E_b7_44 V_b7_44
    have g_b7_44 : n0 ≤ b7_44 := by rw [s_b7_44]; exact Z0
    replace Z0 := Nat.le_trans Z0 Ex.1
    refine g_astore X at_9 (pc' := 11) (Ls' := #[.val (.long j0), .second, .val (.int i1), .val (.int i2), .val (.int i3), .val (.int i4), .val (.int (2 : Int32)), .val (.ref b7_44)]) rfl rfl rfl ?_
    refine g_aload X at_11 (pc' := 13) rfl rfl rfl ?_
    refine g_iconst X (0 : Int32) at_13 (pc' := 14) rfl rfl ?_
    refine g_iloadN X at_14 (pc' := 15) rfl rfl ?_
    refine g_i2b X at_15 (pc' := 16) rfl ?_
    generalize ev16_45 : (i2.toInt8.toInt32) = v16_45
    refine g_bastore X V_b7_44 0 at_16 (pc' := 17) rfl (by decide) (by decide) (Nat.le_of_ble_eq_true rfl) ?_
    intro T h X W V_b7_44
    replace V_b7_44 : Av Z h b7_44 .byte [(.int (nar .byte v16_45)), (.int (0 : Int32)), (.int (0 : Int32)), (.int (0 : Int32)), (.int (0 : Int32)), (.int (0 : Int32)), (.int (0 : Int32)), (.int (0 : Int32)), (.int (0 : Int32)), (.int (0 : Int32)), (.int (0 : Int32)), (.int (0 : Int32))] := V_b7_44
    replace E_b7_44 := E_b7_44.wr W
    replace Z0 := Nat.le_trans Z0 (Nat.le_of_eq W.size.symm)
    replace N := Fr.snoc X.1 N g_b7_44
    refine g_aload X at_17 (pc' := 19) rfl rfl rfl ?_
    refine g_iconst X (1 : Int32) at_19 (pc' := 20) rfl rfl ?_
    refine g_iloadN X at_20 (pc' := 21) rfl rfl ?_
    refine g_bipush X (8 : Int32) at_21 (pc' := 23) rfl rfl ?_
    refine g_iushr X at_23 (pc' := 24) rfl ?_
    refine g_i2b X at_24 (pc' := 25) rfl ?_
    generalize ev25_46 : (((i2.toUInt32 >>> ((8 : Int32) &&& 31).toUInt32).toInt32).toInt8.toInt32) = v25_46
    refine g_bastore X V_b7_44 1 at_25 (pc' := 26) rfl (by decide) (by decide) (Nat.le_of_ble_eq_true rfl) ?_
    intro T h X W V_b7_44
    replace V_b7_44 : Av Z h b7_44 .byte [(.int (nar .byte v16_45)), (.int (nar .byte v25_46)), (.int (0 : Int32)), (.int (0 : Int32)), (.int (0 : Int32)), (.int (0 : Int32)), (.int (0 : Int32)), (.int (0 : Int32)), (.int (0 : Int32)), (.int (0 : Int32)), (.int (0 : Int32)), (.int (0 : Int32))] := V_b7_44
    replace E_b7_44 := E_b7_44.wr W
    replace Z0 := Nat.le_trans Z0 (Nat.le_of_eq W.size.symm)
    replace N := Fr.snoc X.1 N g_b7_44
    refine g_aload X at_26 (pc' := 28) rfl rfl rfl ?_
    refine g_iconst X (2 : Int32) at_28 (pc' := 29) rfl rfl ?_
    refine g_iloadN X at_29 (pc' := 30) rfl rfl ?_
    refine g_bipush X (16 : Int32) at_30 (pc' := 32) rfl rfl ?_
    refine g_iushr X at_32 (pc' := 33) rfl ?_
    refine g_i2b X at_33 (pc' := 34) rfl ?_
    generalize ev34_47 : (((i2.toUInt32 >>> ((16 : Int32) &&& 31).toUInt32).toInt32).toInt8.toInt32) = v34_47
    refine g_bastore X V_b7_44 2 at_34 (pc' := 35) rfl (by decide) (by decide) (Nat.le_of_ble_eq_true rfl) ?_
    intro T h X W V_b7_44
    replace V_b7_44 : Av Z h b7_44 .byte [(.int (nar .byte v16_45)), (.int (nar .byte v25_46)), (.int (nar .byte v34_47)), (.int (0 : Int32)), (.int (0 : Int32)), (.int (0 : Int32)), (.int (0 : Int32)), (.int (0 : Int32)), (.int (0 : Int32)), (.int (0 : Int32)), (.int (0 : Int32)), (.int (0 : Int32))] := V_b7_44
    replace E_b7_44 := E_b7_44.wr W
    replace Z0 := Nat.le_trans Z0 (Nat.le_of_eq W.size.symm)
    replace N := Fr.snoc X.1 N g_b7_44
    refine g_aload X at_35 (pc' := 37) rfl rfl rfl ?_
    refine g_iconst X (3 : Int32) at_37 (pc' := 38) rfl rfl ?_
    refine g_iloadN X at_38 (pc' := 39) rfl rfl ?_
    refine g_bipush X (24 : Int32) at_39 (pc' := 41) rfl rfl ?_
    refine g_iushr X at_41 (pc' := 42) rfl ?_
    refine g_i2b X at_42 (pc' := 43) rfl ?_
    generalize ev43_48 : (((i2.toUInt32 >>> ((24 : Int32) &&& 31).toUInt32).toInt32).toInt8.toInt32) = v43_48
    refine g_bastore X V_b7_44 3 at_43 (pc' := 44) rfl (by decide) (by decide) (Nat.le_of_ble_eq_true rfl) ?_
    intro T h X W V_b7_44
    replace V_b7_44 : Av Z h b7_44 .byte [(.int (nar .byte v16_45)), (.int (nar .byte v25_46)), (.int (nar .byte v34_47)), (.int (nar .byte v43_48)), (.int (0 : Int32)), (.int (0 : Int32)), (.int (0 : Int32)), (.int (0 : Int32)), (.int (0 : Int32)), (.int (0 : Int32)), (.int (0 : Int32)), (.int (0 : Int32))] := V_b7_44
    replace E_b7_44 := E_b7_44.wr W
    replace Z0 := Nat.le_trans Z0 (Nat.le_of_eq W.size.symm)
    replace N := Fr.snoc X.1 N g_b7_44
    refine g_aload X at_44 (pc' := 46) rfl rfl rfl ?_
    refine g_iconst X (4 : Int32) at_46 (pc' := 47) rfl rfl ?_
    refine g_iload X at_47 (pc' := 49) rfl rfl ?_
    refine g_i2b X at_49 (pc' := 50) rfl ?_
    generalize ev50_49 : (i3.toInt8.toInt32) = v50_49
    refine g_bastore X V_b7_44 4 at_50 (pc' := 51) rfl (by decide) (by decide) (Nat.le_of_ble_eq_true rfl) ?_
    intro T h X W V_b7_44
    replace V_b7_44 : Av Z h b7_44 .byte [(.int (nar .byte v16_45)), (.int (nar .byte v25_46)), (.int (nar .byte v34_47)), (.int (nar .byte v43_48)), (.int (nar .byte v50_49)), (.int (0 : Int32)), (.int (0 : Int32)), (.int (0 : Int32)), (.int (0 : Int32)), (.int (0 : Int32)), (.int (0 : Int32)), (.int (0 : Int32))] := V_b7_44
    replace E_b7_44 := E_b7_44.wr W
    replace Z0 := Nat.le_trans Z0 (Nat.le_of_eq W.size.symm)
    replace N := Fr.snoc X.1 N g_b7_44
    refine g_aload X at_51 (pc' := 53) rfl rfl rfl ?_
    refine g_iconst X (5 : Int32) at_53 (pc' := 54) rfl rfl ?_
    refine g_iload X at_54 (pc' := 56) rfl rfl ?_
    refine g_bipush X (8 : Int32) at_56 (pc' := 58) rfl rfl ?_
    refine g_iushr X at_58 (pc' := 59) rfl ?_
    refine g_i2b X at_59 (pc' := 60) rfl ?_
    generalize ev60_50 : (((i3.toUInt32 >>> ((8 : Int32) &&& 31).toUInt32).toInt32).toInt8.toInt32) = v60_50
    refine g_bastore X V_b7_44 5 at_60 (pc' := 61) rfl (by decide) (by decide) (Nat.le_of_ble_eq_true rfl) ?_
    intro T h X W V_b7_44
    replace V_b7_44 : Av Z h b7_44 .byte [(.int (nar .byte v16_45)), (.int (nar .byte v25_46)), (.int (nar .byte v34_47)), (.int (nar .byte v43_48)), (.int (nar .byte v50_49)), (.int (nar .byte v60_50)), (.int (0 : Int32)), (.int (0 : Int32)), (.int (0 : Int32)), (.int (0 : Int32)), (.int (0 : Int32)), (.int (0 : Int32))] := V_b7_44
    replace E_b7_44 := E_b7_44.wr W
    replace Z0 := Nat.le_trans Z0 (Nat.le_of_eq W.size.symm)
    replace N := Fr.snoc X.1 N g_b7_44
    refine g_aload X at_61 (pc' := 63) rfl rfl rfl ?_
    refine g_bipush X (6 : Int32) at_63 (pc' := 65) rfl rfl ?_
    refine g_iload X at_65 (pc' := 67) rfl rfl ?_
    refine g_bipush X (16 : Int32) at_67 (pc' := 69) rfl rfl ?_
    refine g_iushr X at_69 (pc' := 70) rfl ?_
    refine g_i2b X at_70 (pc' := 71) rfl ?_
    generalize ev71_51 : (((i3.toUInt32 >>> ((16 : Int32) &&& 31).toUInt32).toInt32).toInt8.toInt32) = v71_51
    refine g_bastore X V_b7_44 6 at_71 (pc' := 72) rfl (by decide) (by decide) (Nat.le_of_ble_eq_true rfl) ?_
    intro T h X W V_b7_44
    replace V_b7_44 : Av Z h b7_44 .byte [(.int (nar .byte v16_45)), (.int (nar .byte v25_46)), (.int (nar .byte v34_47)), (.int (nar .byte v43_48)), (.int (nar .byte v50_49)), (.int (nar .byte v60_50)), (.int (nar .byte v71_51)), (.int (0 : Int32)), (.int (0 : Int32)), (.int (0 : Int32)), (.int (0 : Int32)), (.int (0 : Int32))] := V_b7_44
    replace E_b7_44 := E_b7_44.wr W
    replace Z0 := Nat.le_trans Z0 (Nat.le_of_eq W.size.symm)
    replace N := Fr.snoc X.1 N g_b7_44
    refine g_aload X at_72 (pc' := 74) rfl rfl rfl ?_
    refine g_bipush X (7 : Int32) at_74 (pc' := 76) rfl rfl ?_
    refine g_iload X at_76 (pc' := 78) rfl rfl ?_
    refine g_bipush X (24 : Int32) at_78 (pc' := 80) rfl rfl ?_
    refine g_iushr X at_80 (pc' := 81) rfl ?_
    refine g_i2b X at_81 (pc' := 82) rfl ?_
    generalize ev82_52 : (((i3.toUInt32 >>> ((24 : Int32) &&& 31).toUInt32).toInt32).toInt8.toInt32) = v82_52
    refine g_bastore X V_b7_44 7 at_82 (pc' := 83) rfl (by decide) (by decide) (Nat.le_of_ble_eq_true rfl) ?_
    intro T h X W V_b7_44
    replace V_b7_44 : Av Z h b7_44 .byte [(.int (nar .byte v16_45)), (.int (nar .byte v25_46)), (.int (nar .byte v34_47)), (.int (nar .byte v43_48)), (.int (nar .byte v50_49)), (.int (nar .byte v60_50)), (.int (nar .byte v71_51)), (.int (nar .byte v82_52)), (.int (0 : Int32)), (.int (0 : Int32)), (.int (0 : Int32)), (.int (0 : Int32))] := V_b7_44
    replace E_b7_44 := E_b7_44.wr W
    replace Z0 := Nat.le_trans Z0 (Nat.le_of_eq W.size.symm)
    replace N := Fr.snoc X.1 N g_b7_44
    refine g_aload X at_83 (pc' := 85) rfl rfl rfl ?_
    refine g_bipush X (8 : Int32) at_85 (pc' := 87) rfl rfl ?_
    refine g_iload X at_87 (pc' := 89) rfl rfl ?_
    refine g_i2b X at_89 (pc' := 90) rfl ?_
    generalize ev90_53 : (i4.toInt8.toInt32) = v90_53
    refine g_bastore X V_b7_44 8 at_90 (pc' := 91) rfl (by decide) (by decide) (Nat.le_of_ble_eq_true rfl) ?_
    intro T h X W V_b7_44
    replace V_b7_44 : Av Z h b7_44 .byte [(.int (nar .byte v16_45)), (.int (nar .byte v25_46)), (.int (nar .byte v34_47)), (.int (nar .byte v43_48)), (.int (nar .byte v50_49)), (.int (nar .byte v60_50)), (.int (nar .byte v71_51)), (.int (nar .byte v82_52)), (.int (nar .byte v90_53)), (.int (0 : Int32)), (.int (0 : Int32)), (.int (0 : Int32))] := V_b7_44
    replace E_b7_44 := E_b7_44.wr W
    replace Z0 := Nat.le_trans Z0 (Nat.le_of_eq W.size.symm)
    replace N := Fr.snoc X.1 N g_b7_44
    refine g_aload X at_91 (pc' := 93) rfl rfl rfl ?_
    refine g_bipush X (9 : Int32) at_93 (pc' := 95) rfl rfl ?_
    refine g_iload X at_95 (pc' := 97) rfl rfl ?_
    refine g_bipush X (8 : Int32) at_97 (pc' := 99) rfl rfl ?_
    refine g_iushr X at_99 (pc' := 100) rfl ?_
    refine g_i2b X at_100 (pc' := 101) rfl ?_
    generalize ev101_54 : (((i4.toUInt32 >>> ((8 : Int32) &&& 31).toUInt32).toInt32).toInt8.toInt32) = v101_54
    refine g_bastore X V_b7_44 9 at_101 (pc' := 102) rfl (by decide) (by decide) (Nat.le_of_ble_eq_true rfl) ?_
    intro T h X W V_b7_44
    replace V_b7_44 : Av Z h b7_44 .byte [(.int (nar .byte v16_45)), (.int (nar .byte v25_46)), (.int (nar .byte v34_47)), (.int (nar .byte v43_48)), (.int (nar .byte v50_49)), (.int (nar .byte v60_50)), (.int (nar .byte v71_51)), (.int (nar .byte v82_52)), (.int (nar .byte v90_53)), (.int (nar .byte v101_54)), (.int (0 : Int32)), (.int (0 : Int32))] := V_b7_44
    replace E_b7_44 := E_b7_44.wr W
    replace Z0 := Nat.le_trans Z0 (Nat.le_of_eq W.size.symm)
    replace N := Fr.snoc X.1 N g_b7_44
    refine g_aload X at_102 (pc' := 104) rfl rfl rfl ?_
    refine g_bipush X (10 : Int32) at_104 (pc' := 106) rfl rfl ?_
    refine g_iload X at_106 (pc' := 108) rfl rfl ?_
    refine g_bipush X (16 : Int32) at_108 (pc' := 110) rfl rfl ?_
    refine g_iushr X at_110 (pc' := 111) rfl ?_
    refine g_i2b X at_111 (pc' := 112) rfl ?_
    generalize ev112_55 : (((i4.toUInt32 >>> ((16 : Int32) &&& 31).toUInt32).toInt32).toInt8.toInt32) = v112_55
    refine g_bastore X V_b7_44 10 at_112 (pc' := 113) rfl (by decide) (by decide) (Nat.le_of_ble_eq_true rfl) ?_
    intro T h X W V_b7_44
    replace V_b7_44 : Av Z h b7_44 .byte [(.int (nar .byte v16_45)), (.int (nar .byte v25_46)), (.int (nar .byte v34_47)), (.int (nar .byte v43_48)), (.int (nar .byte v50_49)), (.int (nar .byte v60_50)), (.int (nar .byte v71_51)), (.int (nar .byte v82_52)), (.int (nar .byte v90_53)), (.int (nar .byte v101_54)), (.int (nar .byte v112_55)), (.int (0 : Int32))] := V_b7_44
    replace E_b7_44 := E_b7_44.wr W
    replace Z0 := Nat.le_trans Z0 (Nat.le_of_eq W.size.symm)
    replace N := Fr.snoc X.1 N g_b7_44
    refine g_aload X at_113 (pc' := 115) rfl rfl rfl ?_
    refine g_bipush X (11 : Int32) at_115 (pc' := 117) rfl rfl ?_
    refine g_iload X at_117 (pc' := 119) rfl rfl ?_
    refine g_bipush X (24 : Int32) at_119 (pc' := 121) rfl rfl ?_
    refine g_iushr X at_121 (pc' := 122) rfl ?_
    refine g_i2b X at_122 (pc' := 123) rfl ?_
    generalize ev123_56 : (((i4.toUInt32 >>> ((24 : Int32) &&& 31).toUInt32).toInt32).toInt8.toInt32) = v123_56
    refine g_bastore X V_b7_44 11 at_123 (pc' := 124) rfl (by decide) (by decide) (Nat.le_of_ble_eq_true rfl) ?_
    intro T h X W V_b7_44
    replace V_b7_44 : Av Z h b7_44 .byte [(.int (nar .byte v16_45)), (.int (nar .byte v25_46)), (.int (nar .byte v34_47)), (.int (nar .byte v43_48)), (.int (nar .byte v50_49)), (.int (nar .byte v60_50)), (.int (nar .byte v71_51)), (.int (nar .byte v82_52)), (.int (nar .byte v90_53)), (.int (nar .byte v101_54)), (.int (nar .byte v112_55)), (.int (nar .byte v123_56))] := V_b7_44
    replace E_b7_44 := E_b7_44.wr W
    replace Z0 := Nat.le_trans Z0 (Nat.le_of_eq W.size.symm)
    replace N := Fr.snoc X.1 N g_b7_44
    refine g_aload X at_124 (pc' := 126) rfl rfl rfl ?_
    refine g_iload X at_126 (pc' := 128) rfl rfl ?_
    refine g_lloadN X at_128 (pc' := 129) rfl rfl ?_
    refine g_l2i X at_129 (pc' := 130) rfl ?_
    refine g_i2b X at_130 (pc' := 131) rfl ?_
    generalize ev131_57 : ((j0.toInt32).toInt8.toInt32) = v131_57
    refine g_bastore X V_b7_44 2 at_131 (pc' := 132) rfl (by decide) (by decide) (Nat.le_of_ble_eq_true rfl) ?_
    intro T h X W V_b7_44
    replace V_b7_44 : Av Z h b7_44 .byte [(.int (nar .byte v16_45)), (.int (nar .byte v25_46)), (.int (nar .byte v131_57)), (.int (nar .byte v43_48)), (.int (nar .byte v50_49)), (.int (nar .byte v60_50)), (.int (nar .byte v71_51)), (.int (nar .byte v82_52)), (.int (nar .byte v90_53)), (.int (nar .byte v101_54)), (.int (nar .byte v112_55)), (.int (nar .byte v123_56))] := V_b7_44
    replace E_b7_44 := E_b7_44.wr W
    replace Z0 := Nat.le_trans Z0 (Nat.le_of_eq W.size.symm)
    replace N := Fr.snoc X.1 N g_b7_44
    refine g_aload X at_132 (pc' := 134) rfl rfl rfl ?_
    refine g_iload X at_134 (pc' := 136) rfl rfl ?_
    refine g_iconst X (1 : Int32) at_136 (pc' := 137) rfl rfl ?_
    refine g_iadd X at_137 (pc' := 138) rfl ?_
    refine Go.lit32 (z := (3 : Int32)) (by decide) ?_
    refine g_lloadN X at_138 (pc' := 139) rfl rfl ?_
    refine g_bipush X (8 : Int32) at_139 (pc' := 141) rfl rfl ?_
    refine g_lushr X at_141 (pc' := 142) rfl ?_
    refine g_l2i X at_142 (pc' := 143) rfl ?_
    refine g_i2b X at_143 (pc' := 144) rfl ?_
    generalize ev144_58 : ((((j0.toUInt64 >>> ((8 : Int32) &&& 0x3f).toInt64.toUInt64).toInt64).toInt32).toInt8.toInt32) = v144_58
    refine g_bastore X V_b7_44 3 at_144 (pc' := 145) rfl (by decide) (by decide) (Nat.le_of_ble_eq_true rfl) ?_
    intro T h X W V_b7_44
    replace V_b7_44 : Av Z h b7_44 .byte [(.int (nar .byte v16_45)), (.int (nar .byte v25_46)), (.int (nar .byte v131_57)), (.int (nar .byte v144_58)), (.int (nar .byte v50_49)), (.int (nar .byte v60_50)), (.int (nar .byte v71_51)), (.int (nar .byte v82_52)), (.int (nar .byte v90_53)), (.int (nar .byte v101_54)), (.int (nar .byte v112_55)), (.int (nar .byte v123_56))] := V_b7_44
    replace E_b7_44 := E_b7_44.wr W
    replace Z0 := Nat.le_trans Z0 (Nat.le_of_eq W.size.symm)
    replace N := Fr.snoc X.1 N g_b7_44
    refine g_aload X at_145 (pc' := 147) rfl rfl rfl ?_
    refine g_iload X at_147 (pc' := 149) rfl rfl ?_
    refine g_iconst X (2 : Int32) at_149 (pc' := 150) rfl rfl ?_
    refine g_iadd X at_150 (pc' := 151) rfl ?_
    refine Go.lit32 (z := (4 : Int32)) (by decide) ?_
    refine g_lloadN X at_151 (pc' := 152) rfl rfl ?_
    refine g_bipush X (16 : Int32) at_152 (pc' := 154) rfl rfl ?_
    refine g_lushr X at_154 (pc' := 155) rfl ?_
    refine g_l2i X at_155 (pc' := 156) rfl ?_
    refine g_i2b X at_156 (pc' := 157) rfl ?_
    generalize ev157_59 : ((((j0.toUInt64 >>> ((16 : Int32) &&& 0x3f).toInt64.toUInt64).toInt64).toInt32).toInt8.toInt32) = v157_59
    refine g_bastore X V_b7_44 4 at_157 (pc' := 158) rfl (by decide) (by decide) (Nat.le_of_ble_eq_true rfl) ?_
    intro T h X W V_b7_44
    replace V_b7_44 : Av Z h b7_44 .byte [(.int (nar .byte v16_45)), (.int (nar .byte v25_46)), (.int (nar .byte v131_57)), (.int (nar .byte v144_58)), (.int (nar .byte v157_59)), (.int (nar .byte v60_50)), (.int (nar .byte v71_51)), (.int (nar .byte v82_52)), (.int (nar .byte v90_53)), (.int (nar .byte v101_54)), (.int (nar .byte v112_55)), (.int (nar .byte v123_56))] := V_b7_44
    replace E_b7_44 := E_b7_44.wr W
    replace Z0 := Nat.le_trans Z0 (Nat.le_of_eq W.size.symm)
    replace N := Fr.snoc X.1 N g_b7_44
    refine g_aload X at_158 (pc' := 160) rfl rfl rfl ?_
    refine g_iload X at_160 (pc' := 162) rfl rfl ?_
    refine g_iconst X (3 : Int32) at_162 (pc' := 163) rfl rfl ?_
    refine g_iadd X at_163 (pc' := 164) rfl ?_
    refine Go.lit32 (z := (5 : Int32)) (by decide) ?_
    refine g_lloadN X at_164 (pc' := 165) rfl rfl ?_
    refine g_bipush X (24 : Int32) at_165 (pc' := 167) rfl rfl ?_
    refine g_lushr X at_167 (pc' := 168) rfl ?_
    refine g_l2i X at_168 (pc' := 169) rfl ?_
    refine g_i2b X at_169 (pc' := 170) rfl ?_
    generalize ev170_60 : ((((j0.toUInt64 >>> ((24 : Int32) &&& 0x3f).toInt64.toUInt64).toInt64).toInt32).toInt8.toInt32) = v170_60
    refine g_bastore X V_b7_44 5 at_170 (pc' := 171) rfl (by decide) (by decide) (Nat.le_of_ble_eq_true rfl) ?_
    intro T h X W V_b7_44
    replace V_b7_44 : Av Z h b7_44 .byte [(.int (nar .byte v16_45)), (.int (nar .byte v25_46)), (.int (nar .byte v131_57)), (.int (nar .byte v144_58)), (.int (nar .byte v157_59)), (.int (nar .byte v170_60)), (.int (nar .byte v71_51)), (.int (nar .byte v82_52)), (.int (nar .byte v90_53)), (.int (nar .byte v101_54)), (.int (nar .byte v112_55)), (.int (nar .byte v123_56))] := V_b7_44
    replace E_b7_44 := E_b7_44.wr W
    replace Z0 := Nat.le_trans Z0 (Nat.le_of_eq W.size.symm)
    replace N := Fr.snoc X.1 N g_b7_44
    refine g_aload X at_171 (pc' := 173) rfl rfl rfl ?_
    refine g_iload X at_173 (pc' := 175) rfl rfl ?_
    refine g_iconst X (4 : Int32) at_175 (pc' := 176) rfl rfl ?_
    refine g_iadd X at_176 (pc' := 177) rfl ?_
    refine Go.lit32 (z := (6 : Int32)) (by decide) ?_
    refine g_lloadN X at_177 (pc' := 178) rfl rfl ?_
    refine g_bipush X (32 : Int32) at_178 (pc' := 180) rfl rfl ?_
    refine g_lushr X at_180 (pc' := 181) rfl ?_
    refine g_l2i X at_181 (pc' := 182) rfl ?_
    refine g_i2b X at_182 (pc' := 183) rfl ?_
    generalize ev183_61 : ((((j0.toUInt64 >>> ((32 : Int32) &&& 0x3f).toInt64.toUInt64).toInt64).toInt32).toInt8.toInt32) = v183_61
    refine g_bastore X V_b7_44 6 at_183 (pc' := 184) rfl (by decide) (by decide) (Nat.le_of_ble_eq_true rfl) ?_
    intro T h X W V_b7_44
    replace V_b7_44 : Av Z h b7_44 .byte [(.int (nar .byte v16_45)), (.int (nar .byte v25_46)), (.int (nar .byte v131_57)), (.int (nar .byte v144_58)), (.int (nar .byte v157_59)), (.int (nar .byte v170_60)), (.int (nar .byte v183_61)), (.int (nar .byte v82_52)), (.int (nar .byte v90_53)), (.int (nar .byte v101_54)), (.int (nar .byte v112_55)), (.int (nar .byte v123_56))] := V_b7_44
    replace E_b7_44 := E_b7_44.wr W
    replace Z0 := Nat.le_trans Z0 (Nat.le_of_eq W.size.symm)
    replace N := Fr.snoc X.1 N g_b7_44
    refine g_aload X at_184 (pc' := 186) rfl rfl rfl ?_
    refine g_iload X at_186 (pc' := 188) rfl rfl ?_
    refine g_iconst X (5 : Int32) at_188 (pc' := 189) rfl rfl ?_
    refine g_iadd X at_189 (pc' := 190) rfl ?_
    refine Go.lit32 (z := (7 : Int32)) (by decide) ?_
    refine g_lloadN X at_190 (pc' := 191) rfl rfl ?_
    refine g_bipush X (40 : Int32) at_191 (pc' := 193) rfl rfl ?_
    refine g_lushr X at_193 (pc' := 194) rfl ?_
    refine g_l2i X at_194 (pc' := 195) rfl ?_
    refine g_i2b X at_195 (pc' := 196) rfl ?_
    generalize ev196_62 : ((((j0.toUInt64 >>> ((40 : Int32) &&& 0x3f).toInt64.toUInt64).toInt64).toInt32).toInt8.toInt32) = v196_62
    refine g_bastore X V_b7_44 7 at_196 (pc' := 197) rfl (by decide) (by decide) (Nat.le_of_ble_eq_true rfl) ?_
    intro T h X W V_b7_44
    replace V_b7_44 : Av Z h b7_44 .byte [(.int (nar .byte v16_45)), (.int (nar .byte v25_46)), (.int (nar .byte v131_57)), (.int (nar .byte v144_58)), (.int (nar .byte v157_59)), (.int (nar .byte v170_60)), (.int (nar .byte v183_61)), (.int (nar .byte v196_62)), (.int (nar .byte v90_53)), (.int (nar .byte v101_54)), (.int (nar .byte v112_55)), (.int (nar .byte v123_56))] := V_b7_44
    replace E_b7_44 := E_b7_44.wr W
    replace Z0 := Nat.le_trans Z0 (Nat.le_of_eq W.size.symm)
    replace N := Fr.snoc X.1 N g_b7_44
    refine g_aload X at_197 (pc' := 199) rfl rfl rfl ?_
    refine g_iload X at_199 (pc' := 201) rfl rfl ?_
    refine g_bipush X (6 : Int32) at_201 (pc' := 203) rfl rfl ?_
    refine g_iadd X at_203 (pc' := 204) rfl ?_
    refine Go.lit32 (z := (8 : Int32)) (by decide) ?_
    refine g_lloadN X at_204 (pc' := 205) rfl rfl ?_
    refine g_bipush X (48 : Int32) at_205 (pc' := 207) rfl rfl ?_
    refine g_lushr X at_207 (pc' := 208) rfl ?_
    refine g_l2i X at_208 (pc' := 209) rfl ?_
    refine g_i2b X at_209 (pc' := 210) rfl ?_
    generalize ev210_63 : ((((j0.toUInt64 >>> ((48 : Int32) &&& 0x3f).toInt64.toUInt64).toInt64).toInt32).toInt8.toInt32) = v210_63
    refine g_bastore X V_b7_44 8 at_210 (pc' := 211) rfl (by decide) (by decide) (Nat.le_of_ble_eq_true rfl) ?_
    intro T h X W V_b7_44
    replace V_b7_44 : Av Z h b7_44 .byte [(.int (nar .byte v16_45)), (.int (nar .byte v25_46)), (.int (nar .byte v131_57)), (.int (nar .byte v144_58)), (.int (nar .byte v157_59)), (.int (nar .byte v170_60)), (.int (nar .byte v183_61)), (.int (nar .byte v196_62)), (.int (nar .byte v210_63)), (.int (nar .byte v101_54)), (.int (nar .byte v112_55)), (.int (nar .byte v123_56))] := V_b7_44
    replace E_b7_44 := E_b7_44.wr W
    replace Z0 := Nat.le_trans Z0 (Nat.le_of_eq W.size.symm)
    replace N := Fr.snoc X.1 N g_b7_44
    refine g_aload X at_211 (pc' := 213) rfl rfl rfl ?_
    refine g_iload X at_213 (pc' := 215) rfl rfl ?_
    refine g_bipush X (7 : Int32) at_215 (pc' := 217) rfl rfl ?_
    refine g_iadd X at_217 (pc' := 218) rfl ?_
    refine Go.lit32 (z := (9 : Int32)) (by decide) ?_
    refine g_lloadN X at_218 (pc' := 219) rfl rfl ?_
    refine g_bipush X (56 : Int32) at_219 (pc' := 221) rfl rfl ?_
    refine g_lushr X at_221 (pc' := 222) rfl ?_
    refine g_l2i X at_222 (pc' := 223) rfl ?_
    refine g_i2b X at_223 (pc' := 224) rfl ?_
    generalize ev224_64 : ((((j0.toUInt64 >>> ((56 : Int32) &&& 0x3f).toInt64.toUInt64).toInt64).toInt32).toInt8.toInt32) = v224_64
    refine g_bastore X V_b7_44 9 at_224 (pc' := 225) rfl (by decide) (by decide) (Nat.le_of_ble_eq_true rfl) ?_
    intro T h X W V_b7_44
    replace V_b7_44 : Av Z h b7_44 .byte [(.int (nar .byte v16_45)), (.int (nar .byte v25_46)), (.int (nar .byte v131_57)), (.int (nar .byte v144_58)), (.int (nar .byte v157_59)), (.int (nar .byte v170_60)), (.int (nar .byte v183_61)), (.int (nar .byte v196_62)), (.int (nar .byte v210_63)), (.int (nar .byte v224_64)), (.int (nar .byte v112_55)), (.int (nar .byte v123_56))] := V_b7_44
    replace E_b7_44 := E_b7_44.wr W
    replace Z0 := Nat.le_trans Z0 (Nat.le_of_eq W.size.symm)
    replace N := Fr.snoc X.1 N g_b7_44
    refine g_aload X at_225 (pc' := 227) rfl rfl rfl ?_
    refine g_iload X at_227 (pc' := 229) rfl rfl ?_
    refine g_static X (W := 0) [(.ref b7_44), (.int (2 : Int32))] [] (tb hw 1 rfl) (tb hw 2 rfl) (tb hw 3 rfl) (tb hw 4 rfl) (rW2 l Z aa hw [] b7_44 (nar .byte v16_45) (nar .byte v25_46) (nar .byte v131_57) (nar .byte v144_58) (nar .byte v157_59) (nar .byte v170_60) (nar .byte v183_61) (nar .byte v196_62) (nar .byte v210_63) (nar .byte v224_64) (nar .byte v112_55) (nar .byte v123_56) _ V_b7_44) at_229 (pc' := 232) rfl (by decide) (by decide) (by decide) rfl rfl rfl (lenOf pd_0 rfl) (Nat.le_refl _) (by decide) (by decide) ?_
    intro v T L X q
    obtain ⟨rfl, X⟩ := pureX X q
    show Go p e below _ (T.setTop (mkF m 232 #[.val (.long j0), .second, .val (.int i1), .val (.int i2), .val (.int i3), .val (.int i4), .val (.int (2 : Int32)), .val (.ref b7_44)] [(.long (fW2 (nar .byte v16_45) (nar .byte v25_46) (nar .byte v131_57) (nar .byte v144_58) (nar .byte v157_59) (nar .byte v170_60) (nar .byte v183_61) (nar .byte v196_62) (nar .byte v210_63) (nar .byte v224_64) (nar .byte v112_55) (nar .byte v123_56)))]))
    refine g_lloadN X at_232 (pc' := 233) rfl rfl ?_
    refine g_lcmp X at_233 (pc' := 234) rfl ?_
    refine g_ifN X at_234 ((if0 _ _).trans (teq ((lw_eq (fW2 (nar .byte v16_45) (nar .byte v25_46) (nar .byte v131_57) (nar .byte v144_58) (nar .byte v157_59) (nar .byte v170_60) (nar .byte v183_61) (nar .byte v196_62) (nar .byte v210_63) (nar .byte v224_64) (nar .byte v112_55) (nar .byte v123_56)) j0).mpr (show (fW2 (nar .byte v16_45) (nar .byte v25_46) (nar .byte v131_57) (nar .byte v144_58) (nar .byte v157_59) (nar .byte v170_60) (nar .byte v183_61) (nar .byte v196_62) (nar .byte v210_63) (nar .byte v224_64) (nar .byte v112_55) (nar .byte v123_56)) = j0 from (by subst_vars; exact whole _)))).2) (pc' := 237) rfl ?_
    refine g_iconst X (1 : Int32) at_237 (pc' := 238) rfl rfl ?_
    refine g_goto X at_238 (pc' := 242) (by decide) (by decide) ?_
    refine g_ireturnN X (t := .boolean) (by simp) at_242 hret hlk (by decide) (by decide) ?_
    exact ⟨rfl, N⟩
  · subst hs
    show Go p e below _ (T.setTop (mkF m 5 #[.val (.long j0), .second, .val (.int i1), .val (.int i2), .val (.int i3), .val (.int i4), .val (.int (3 : Int32)), .unset] []))
    refine g_bipush X (12 : Int32) at_5 (pc' := 7) rfl rfl ?_
    refine g_newarray X 12 (tb hw 0 rfl) at_7 (pc' := 9) rfl (by decide) (by decide) 12 (by decide) (by decide) (by decide) (by decide) (vs := [(.int (0 : Int32)), (.int (0 : Int32)), (.int (0 : Int32)), (.int (0 : Int32)), (.int (0 : Int32)), (.int (0 : Int32)), (.int (0 : Int32)), (.int (0 : Int32)), (.int (0 : Int32)), (.int (0 : Int32)), (.int (0 : Int32)), (.int (0 : Int32))]) rfl (ad := "[B") (by decide) ?_
    intro T h b7_65 s_b7_65 X Ex E_b7_65 V_b7_65
    have g_b7_65 : n0 ≤ b7_65 := by rw [s_b7_65]; exact Z0
    replace Z0 := Nat.le_trans Z0 Ex.1
    refine g_astore X at_9 (pc' := 11) (Ls' := #[.val (.long j0), .second, .val (.int i1), .val (.int i2), .val (.int i3), .val (.int i4), .val (.int (3 : Int32)), .val (.ref b7_65)]) rfl rfl rfl ?_
    refine g_aload X at_11 (pc' := 13) rfl rfl rfl ?_
    refine g_iconst X (0 : Int32) at_13 (pc' := 14) rfl rfl ?_
    refine g_iloadN X at_14 (pc' := 15) rfl rfl ?_
    refine g_i2b X at_15 (pc' := 16) rfl ?_
    generalize ev16_66 : (i2.toInt8.toInt32) = v16_66
    refine g_bastore X V_b7_65 0 at_16 (pc' := 17) rfl (by decide) (by decide) (Nat.le_of_ble_eq_true rfl) ?_
    intro T h X W V_b7_65
    replace V_b7_65 : Av Z h b7_65 .byte [(.int (nar .byte v16_66)), (.int (0 : Int32)), (.int (0 : Int32)), (.int (0 : Int32)), (.int (0 : Int32)), (.int (0 : Int32)), (.int (0 : Int32)), (.int (0 : Int32)), (.int (0 : Int32)), (.int (0 : Int32)), (.int (0 : Int32)), (.int (0 : Int32))] := V_b7_65
    replace E_b7_65 := E_b7_65.wr W
    replace Z0 := Nat.le_trans Z0 (Nat.le_of_eq W.size.symm)
    replace N := Fr.snoc X.1 N g_b7_65
    refine g_aload X at_17 (pc' := 19) rfl rfl rfl ?_
    refine g_iconst X (1 : Int32) at_19 (pc' := 20) rfl rfl ?_
    refine g_iloadN X at_20 (pc' := 21) rfl rfl ?_
    refine g_bipush X (8 : Int32) at_21 (pc' := 23) rfl rfl ?_
    refine g_iushr X at_23 (pc' := 24) rfl ?_
    refine g_i2b X at_24 (pc' := 25) rfl ?_
    generalize ev25_67 : (((i2.toUInt32 >>> ((8 : Int32) &&& 31).toUInt32).toInt32).toInt8.toInt32) = v25_67
    refine g_bastore X V_b7_65 1 at_25 (pc' := 26) rfl (by decide) (by decide) (Nat.le_of_ble_eq_true rfl) ?_
    intro T h X W V_b7_65
    replace V_b7_65 : Av Z h b7_65 .byte [(.int (nar .byte v16_66)), (.int (nar .byte v25_67)), (.int (0 : Int32)), (.int (0 : Int32)), (.int (0 : Int32)), (.int (0 : Int32)), (.int (0 : Int32)), (.int (0 : Int32)), (.int (0 : Int32)), (.int (0 : Int32)), (.int (0 : Int32)), (.int (0 : Int32))] := V_b7_65
    replace E_b7_65 := E_b7_65.wr W
    replace Z0 := Nat.le_trans Z0 (Nat.le_of_eq W.size.symm)
    replace N := Fr.snoc X.1 N g_b7_65
    refine g_aload X at_26 (pc' := 28) rfl rfl rfl ?_
    refine g_iconst X (2 : Int32) at_28 (pc' := 29) rfl rfl ?_
    refine g_iloadN X at_29 (pc' := 30) rfl rfl ?_
    refine g_bipush X (16 : Int32) at_30 (pc' := 32) rfl rfl ?_
    refine g_iushr X at_32 (pc' := 33) rfl ?_
    refine g_i2b X at_33 (pc' := 34) rfl ?_
    generalize ev34_68 : (((i2.toUInt32 >>> ((16 : Int32) &&& 31).toUInt32).toInt32).toInt8.toInt32) = v34_68
    refine g_bastore X V_b7_65 2 at_34 (pc' := 35) rfl (by decide) (by decide) (Nat.le_of_ble_eq_true rfl) ?_
    intro T h X W V_b7_65
    replace V_b7_65 : Av Z h b7_65 .byte [(.int (nar .byte v16_66)), (.int (nar .byte v25_67)), (.int (nar .byte v34_68)), (.int (0 : Int32)), (.int (0 : Int32)), (.int (0 : Int32)), (.int (0 : Int32)), (.int (0 : Int32)), (.int (0 : Int32)), (.int (0 : Int32)), (.int (0 : Int32)), (.int (0 : Int32))] := V_b7_65
    replace E_b7_65 := E_b7_65.wr W
    replace Z0 := Nat.le_trans Z0 (Nat.le_of_eq W.size.symm)
    replace N := Fr.snoc X.1 N g_b7_65
    refine g_aload X at_35 (pc' := 37) rfl rfl rfl ?_
    refine g_iconst X (3 : Int32) at_37 (pc' := 38) rfl rfl ?_
    refine g_iloadN X at_38 (pc' := 39) rfl rfl ?_
    refine g_bipush X (24 : Int32) at_39 (pc' := 41) rfl rfl ?_
    refine g_iushr X at_41 (pc' := 42) rfl ?_
    refine g_i2b X at_42 (pc' := 43) rfl ?_
    generalize ev43_69 : (((i2.toUInt32 >>> ((24 : Int32) &&& 31).toUInt32).toInt32).toInt8.toInt32) = v43_69
    refine g_bastore X V_b7_65 3 at_43 (pc' := 44) rfl (by decide) (by decide) (Nat.le_of_ble_eq_true rfl) ?_
    intro T h X W V_b7_65
    replace V_b7_65 : Av Z h b7_65 .byte [(.int (nar .byte v16_66)), (.int (nar .byte v25_67)), (.int (nar .byte v34_68)), (.int (nar .byte v43_69)), (.int (0 : Int32)), (.int (0 : Int32)), (.int (0 : Int32)), (.int (0 : Int32)), (.int (0 : Int32)), (.int (0 : Int32)), (.int (0 : Int32)), (.int (0 : Int32))] := V_b7_65
    replace E_b7_65 := E_b7_65.wr W
    replace Z0 := Nat.le_trans Z0 (Nat.le_of_eq W.size.symm)
    replace N := Fr.snoc X.1 N g_b7_65
    refine g_aload X at_44 (pc' := 46) rfl rfl rfl ?_
    refine g_iconst X (4 : Int32) at_46 (pc' := 47) rfl rfl ?_
    refine g_iload X at_47 (pc' := 49) rfl rfl ?_
    refine g_i2b X at_49 (pc' := 50) rfl ?_
    generalize ev50_70 : (i3.toInt8.toInt32) = v50_70
    refine g_bastore X V_b7_65 4 at_50 (pc' := 51) rfl (by decide) (by decide) (Nat.le_of_ble_eq_true rfl) ?_
    intro T h X W V_b7_65
    replace V_b7_65 : Av Z h b7_65 .byte [(.int (nar .byte v16_66)), (.int (nar .byte v25_67)), (.int (nar .byte v34_68)), (.int (nar .byte v43_69)), (.int (nar .byte v50_70)), (.int (0 : Int32)), (.int (0 : Int32)), (.int (0 : Int32)), (.int (0 : Int32)), (.int (0 : Int32)), (.int (0 : Int32)), (.int (0 : Int32))] := V_b7_65
    replace E_b7_65 := E_b7_65.wr W
    replace Z0 := Nat.le_trans Z0 (Nat.le_of_eq W.size.symm)
    replace N := Fr.snoc X.1 N g_b7_65
    refine g_aload X at_51 (pc' := 53) rfl rfl rfl ?_
    refine g_iconst X (5 : Int32) at_53 (pc' := 54) rfl rfl ?_
    refine g_iload X at_54 (pc' := 56) rfl rfl ?_
    refine g_bipush X (8 : Int32) at_56 (pc' := 58) rfl rfl ?_
    refine g_iushr X at_58 (pc' := 59) rfl ?_
    refine g_i2b X at_59 (pc' := 60) rfl ?_
    generalize ev60_71 : (((i3.toUInt32 >>> ((8 : Int32) &&& 31).toUInt32).toInt32).toInt8.toInt32) = v60_71
    refine g_bastore X V_b7_65 5 at_60 (pc' := 61) rfl (by decide) (by decide) (Nat.le_of_ble_eq_true rfl) ?_
    intro T h X W V_b7_65
    replace V_b7_65 : Av Z h b7_65 .byte [(.int (nar .byte v16_66)), (.int (nar .byte v25_67)), (.int (nar .byte v34_68)), (.int (nar .byte v43_69)), (.int (nar .byte v50_70)), (.int (nar .byte v60_71)), (.int (0 : Int32)), (.int (0 : Int32)), (.int (0 : Int32)), (.int (0 : Int32)), (.int (0 : Int32)), (.int (0 : Int32))] := V_b7_65
    replace E_b7_65 := E_b7_65.wr W
    replace Z0 := Nat.le_trans Z0 (Nat.le_of_eq W.size.symm)
    replace N := Fr.snoc X.1 N g_b7_65
    refine g_aload X at_61 (pc' := 63) rfl rfl rfl ?_
    refine g_bipush X (6 : Int32) at_63 (pc' := 65) rfl rfl ?_
    refine g_iload X at_65 (pc' := 67) rfl rfl ?_
    refine g_bipush X (16 : Int32) at_67 (pc' := 69) rfl rfl ?_
    refine g_iushr X at_69 (pc' := 70) rfl ?_
    refine g_i2b X at_70 (pc' := 71) rfl ?_
    generalize ev71_72 : (((i3.toUInt32 >>> ((16 : Int32) &&& 31).toUInt32).toInt32).toInt8.toInt32) = v71_72
    refine g_bastore X V_b7_65 6 at_71 (pc' := 72) rfl (by decide) (by decide) (Nat.le_of_ble_eq_true rfl) ?_
    intro T h X W V_b7_65
    replace V_b7_65 : Av Z h b7_65 .byte [(.int (nar .byte v16_66)), (.int (nar .byte v25_67)), (.int (nar .byte v34_68)), (.int (nar .byte v43_69)), (.int (nar .byte v50_70)), (.int (nar .byte v60_71)), (.int (nar .byte v71_72)), (.int (0 : Int32)), (.int (0 : Int32)), (.int (0 : Int32)), (.int (0 : Int32)), (.int (0 : Int32))] := V_b7_65
    replace E_b7_65 := E_b7_65.wr W
    replace Z0 := Nat.le_trans Z0 (Nat.le_of_eq W.size.symm)
    replace N := Fr.snoc X.1 N g_b7_65
    refine g_aload X at_72 (pc' := 74) rfl rfl rfl ?_
    refine g_bipush X (7 : Int32) at_74 (pc' := 76) rfl rfl ?_
    refine g_iload X at_76 (pc' := 78) rfl rfl ?_
    refine g_bipush X (24 : Int32) at_78 (pc' := 80) rfl rfl ?_
    refine g_iushr X at_80 (pc' := 81) rfl ?_
    refine g_i2b X at_81 (pc' := 82) rfl ?_
    generalize ev82_73 : (((i3.toUInt32 >>> ((24 : Int32) &&& 31).toUInt32).toInt32).toInt8.toInt32) = v82_73
    refine g_bastore X V_b7_65 7 at_82 (pc' := 83) rfl (by decide) (by decide) (Nat.le_of_ble_eq_true rfl) ?_
    intro T h X W V_b7_65
    replace V_b7_65 : Av Z h b7_65 .byte [(.int (nar .byte v16_66)), (.int (nar .byte v25_67)), (.int (nar .byte v34_68)), (.int (nar .byte v43_69)), (.int (nar .byte v50_70)), (.int (nar .byte v60_71)), (.int (nar .byte v71_72)), (.int (nar .byte v82_73)), (.int (0 : Int32)), (.int (0 : Int32)), (.int (0 : Int32)), (.int (0 : Int32))] := V_b7_65
    replace E_b7_65 := E_b7_65.wr W
    replace Z0 := Nat.le_trans Z0 (Nat.le_of_eq W.size.symm)
    replace N := Fr.snoc X.1 N g_b7_65
    refine g_aload X at_83 (pc' := 85) rfl rfl rfl ?_
    refine g_bipush X (8 : Int32) at_85 (pc' := 87) rfl rfl ?_
    refine g_iload X at_87 (pc' := 89) rfl rfl ?_
    refine g_i2b X at_89 (pc' := 90) rfl ?_
    generalize ev90_74 : (i4.toInt8.toInt32) = v90_74
    refine g_bastore X V_b7_65 8 at_90 (pc' := 91) rfl (by decide) (by decide) (Nat.le_of_ble_eq_true rfl) ?_
    intro T h X W V_b7_65
    replace V_b7_65 : Av Z h b7_65 .byte [(.int (nar .byte v16_66)), (.int (nar .byte v25_67)), (.int (nar .byte v34_68)), (.int (nar .byte v43_69)), (.int (nar .byte v50_70)), (.int (nar .byte v60_71)), (.int (nar .byte v71_72)), (.int (nar .byte v82_73)), (.int (nar .byte v90_74)), (.int (0 : Int32)), (.int (0 : Int32)), (.int (0 : Int32))] := V_b7_65
    replace E_b7_65 := E_b7_65.wr W
    replace Z0 := Nat.le_trans Z0 (Nat.le_of_eq W.size.symm)
    replace N := Fr.snoc X.1 N g_b7_65
    refine g_aload X at_91 (pc' := 93) rfl rfl rfl ?_
    refine g_bipush X (9 : Int32) at_93 (pc' := 95) rfl rfl ?_
    refine g_iload X at_95 (pc' := 97) rfl rfl ?_
    refine g_bipush X (8 : Int32) at_97 (pc' := 99) rfl rfl ?_
    refine g_iushr X at_99 (pc' := 100) rfl ?_
    refine g_i2b X at_100 (pc' := 101) rfl ?_
    generalize ev101_75 : (((i4.toUInt32 >>> ((8 : Int32) &&& 31).toUInt32).toInt32).toInt8.toInt32) = v101_75
    refine g_bastore X V_b7_65 9 at_101 (pc' := 102) rfl (by decide) (by decide) (Nat.le_of_ble_eq_true rfl) ?_
    intro T h X W V_b7_65
    replace V_b7_65 : Av Z h b7_65 .byte [(.int (nar .byte v16_66)), (.int (nar .byte v25_67)), (.int (nar .byte v34_68)), (.int (nar .byte v43_69)), (.int (nar .byte v50_70)), (.int (nar .byte v60_71)), (.int (nar .byte v71_72)), (.int (nar .byte v82_73)), (.int (nar .byte v90_74)), (.int (nar .byte v101_75)), (.int (0 : Int32)), (.int (0 : Int32))] := V_b7_65
    replace E_b7_65 := E_b7_65.wr W
    replace Z0 := Nat.le_trans Z0 (Nat.le_of_eq W.size.symm)
    replace N := Fr.snoc X.1 N g_b7_65
    refine g_aload X at_102 (pc' := 104) rfl rfl rfl ?_
    refine g_bipush X (10 : Int32) at_104 (pc' := 106) rfl rfl ?_
    refine g_iload X at_106 (pc' := 108) rfl rfl ?_
    refine g_bipush X (16 : Int32) at_108 (pc' := 110) rfl rfl ?_
    refine g_iushr X at_110 (pc' := 111) rfl ?_
    refine g_i2b X at_111 (pc' := 112) rfl ?_
    generalize ev112_76 : (((i4.toUInt32 >>> ((16 : Int32) &&& 31).toUInt32).toInt32).toInt8.toInt32) = v112_76
    refine g_bastore X V_b7_65 10 at_112 (pc' := 113) rfl (by decide) (by decide) (Nat.le_of_ble_eq_true rfl) ?_
    intro T h X W V_b7_65
    replace V_b7_65 : Av Z h b7_65 .byte [(.int (nar .byte v16_66)), (.int (nar .byte v25_67)), (.int (nar .byte v34_68)), (.int (nar .byte v43_69)), (.int (nar .byte v50_70)), (.int (nar .byte v60_71)), (.int (nar .byte v71_72)), (.int (nar .byte v82_73)), (.int (nar .byte v90_74)), (.int (nar .byte v101_75)), (.int (nar .byte v112_76)), (.int (0 : Int32))] := V_b7_65
    replace E_b7_65 := E_b7_65.wr W
    replace Z0 := Nat.le_trans Z0 (Nat.le_of_eq W.size.symm)
    replace N := Fr.snoc X.1 N g_b7_65
    refine g_aload X at_113 (pc' := 115) rfl rfl rfl ?_
    refine g_bipush X (11 : Int32) at_115 (pc' := 117) rfl rfl ?_
    refine g_iload X at_117 (pc' := 119) rfl rfl ?_
    refine g_bipush X (24 : Int32) at_119 (pc' := 121) rfl rfl ?_
    refine g_iushr X at_121 (pc' := 122) rfl ?_
    refine g_i2b X at_122 (pc' := 123) rfl ?_
    generalize ev123_77 : (((i4.toUInt32 >>> ((24 : Int32) &&& 31).toUInt32).toInt32).toInt8.toInt32) = v123_77
    refine g_bastore X V_b7_65 11 at_123 (pc' := 124) rfl (by decide) (by decide) (Nat.le_of_ble_eq_true rfl) ?_
    intro T h X W V_b7_65
    replace V_b7_65 : Av Z h b7_65 .byte [(.int (nar .byte v16_66)), (.int (nar .byte v25_67)), (.int (nar .byte v34_68)), (.int (nar .byte v43_69)), (.int (nar .byte v50_70)), (.int (nar .byte v60_71)), (.int (nar .byte v71_72)), (.int (nar .byte v82_73)), (.int (nar .byte v90_74)), (.int (nar .byte v101_75)), (.int (nar .byte v112_76)), (.int (nar .byte v123_77))] := V_b7_65
    replace E_b7_65 := E_b7_65.wr W
    replace Z0 := Nat.le_trans Z0 (Nat.le_of_eq W.size.symm)
    replace N := Fr.snoc X.1 N g_b7_65
    refine g_aload X at_124 (pc' := 126) rfl rfl rfl ?_
    refine g_iload X at_126 (pc' := 128) rfl rfl ?_
    refine g_lloadN X at_128 (pc' := 129) rfl rfl ?_
    refine g_l2i X at_129 (pc' := 130) rfl ?_
    refine g_i2b X at_130 (pc' := 131) rfl ?_
    generalize ev131_78 : ((j0.toInt32).toInt8.toInt32) = v131_78
    refine g_bastore X V_b7_65 3 at_131 (pc' := 132) rfl (by decide) (by decide) (Nat.le_of_ble_eq_true rfl) ?_
    intro T h X W V_b7_65
    replace V_b7_65 : Av Z h b7_65 .byte [(.int (nar .byte v16_66)), (.int (nar .byte v25_67)), (.int (nar .byte v34_68)), (.int (nar .byte v131_78)), (.int (nar .byte v50_70)), (.int (nar .byte v60_71)), (.int (nar .byte v71_72)), (.int (nar .byte v82_73)), (.int (nar .byte v90_74)), (.int (nar .byte v101_75)), (.int (nar .byte v112_76)), (.int (nar .byte v123_77))] := V_b7_65
    replace E_b7_65 := E_b7_65.wr W
    replace Z0 := Nat.le_trans Z0 (Nat.le_of_eq W.size.symm)
    replace N := Fr.snoc X.1 N g_b7_65
    refine g_aload X at_132 (pc' := 134) rfl rfl rfl ?_
    refine g_iload X at_134 (pc' := 136) rfl rfl ?_
    refine g_iconst X (1 : Int32) at_136 (pc' := 137) rfl rfl ?_
    refine g_iadd X at_137 (pc' := 138) rfl ?_
    refine Go.lit32 (z := (4 : Int32)) (by decide) ?_
    refine g_lloadN X at_138 (pc' := 139) rfl rfl ?_
    refine g_bipush X (8 : Int32) at_139 (pc' := 141) rfl rfl ?_
    refine g_lushr X at_141 (pc' := 142) rfl ?_
    refine g_l2i X at_142 (pc' := 143) rfl ?_
    refine g_i2b X at_143 (pc' := 144) rfl ?_
    generalize ev144_79 : ((((j0.toUInt64 >>> ((8 : Int32) &&& 0x3f).toInt64.toUInt64).toInt64).toInt32).toInt8.toInt32) = v144_79
    refine g_bastore X V_b7_65 4 at_144 (pc' := 145) rfl (by decide) (by decide) (Nat.le_of_ble_eq_true rfl) ?_
    intro T h X W V_b7_65
    replace V_b7_65 : Av Z h b7_65 .byte [(.int (nar .byte v16_66)), (.int (nar .byte v25_67)), (.int (nar .byte v34_68)), (.int (nar .byte v131_78)), (.int (nar .byte v144_79)), (.int (nar .byte v60_71)), (.int (nar .byte v71_72)), (.int (nar .byte v82_73)), (.int (nar .byte v90_74)), (.int (nar .byte v101_75)), (.int (nar .byte v112_76)), (.int (nar .byte v123_77))] := V_b7_65
    replace E_b7_65 := E_b7_65.wr W
    replace Z0 := Nat.le_trans Z0 (Nat.le_of_eq W.size.symm)
    replace N := Fr.snoc X.1 N g_b7_65
    refine g_aload X at_145 (pc' := 147) rfl rfl rfl ?_
    refine g_iload X at_147 (pc' := 149) rfl rfl ?_
    refine g_iconst X (2 : Int32) at_149 (pc' := 150) rfl rfl ?_
    refine g_iadd X at_150 (pc' := 151) rfl ?_
    refine Go.lit32 (z := (5 : Int32)) (by decide) ?_
    refine g_lloadN X at_151 (pc' := 152) rfl rfl ?_
    refine g_bipush X (16 : Int32) at_152 (pc' := 154) rfl rfl ?_
    refine g_lushr X at_154 (pc' := 155) rfl ?_
    refine g_l2i X at_155 (pc' := 156) rfl ?_
    refine g_i2b X at_156 (pc' := 157) rfl ?_
    generalize ev157_80 : ((((j0.toUInt64 >>> ((16 : Int32) &&& 0x3f).toInt64.toUInt64).toInt64).toInt32).toInt8.toInt32) = v157_80
    refine g_bastore X V_b7_65 5 at_157 (pc' := 158) rfl (by decide) (by decide) (Nat.le_of_ble_eq_true rfl) ?_
    intro T h X W V_b7_65
    replace V_b7_65 : Av Z h b7_65 .byte [(.int (nar .byte v16_66)), (.int (nar .byte v25_67)), (.int (nar .byte v34_68)), (.int (nar .byte v131_78)), (.int (nar .byte v144_79)), (.int (nar .byte v157_80)), (.int (nar .byte v71_72)), (.int (nar .byte v82_73)), (.int (nar .byte v90_74)), (.int (nar .byte v101_75)), (.int (nar .byte v112_76)), (.int (nar .byte v123_77))] := V_b7_65
    replace E_b7_65 := E_b7_65.wr W
    replace Z0 := Nat.le_trans Z0 (Nat.le_of_eq W.size.symm)
    replace N := Fr.snoc X.1 N g_b7_65
    refine g_aload X at_158 (pc' := 160) rfl rfl rfl ?_
    refine g_iload X at_160 (pc' := 162) rfl rfl ?_
    refine g_iconst X (3 : Int32) at_162 (pc' := 163) rfl rfl ?_
    refine g_iadd X at_163 (pc' := 164) rfl ?_
    refine Go.lit32 (z := (6 : Int32)) (by decide) ?_
    refine g_lloadN X at_164 (pc' := 165) rfl rfl ?_
    refine g_bipush X (24 : Int32) at_165 (pc' := 167) rfl rfl ?_
    refine g_lushr X at_167 (pc' := 168) rfl ?_
    refine g_l2i X at_168 (pc' := 169) rfl ?_
    refine g_i2b X at_169 (pc' := 170) rfl ?_
    generalize ev170_81 : ((((j0.toUInt64 >>> ((24 : Int32) &&& 0x3f).toInt64.toUInt64).toInt64).toInt32).toInt8.toInt32) = v170_81
    refine g_bastore X V_b7_65 6 at_170 (pc' := 171) rfl (by decide) (by decide) (Nat.le_of_ble_eq_true rfl) ?_
    intro T h X W V_b7_65
    replace V_b7_65 : Av Z h b7_65 .byte [(.int (nar .byte v16_66)), (.int (nar .byte v25_67)), (.int (nar .byte v34_68)), (.int (nar .byte v131_78)), (.int (nar .byte v144_79)), (.int (nar .byte v157_80)), (.int (nar .byte v170_81)), (.int (nar .byte v82_73)), (.int (nar .byte v90_74)), (.int (nar .byte v101_75)), (.int (nar .byte v112_76)), (.int (nar .byte v123_77))] := V_b7_65
    replace E_b7_65 := E_b7_65.wr W
    replace Z0 := Nat.le_trans Z0 (Nat.le_of_eq W.size.symm)
    replace N := Fr.snoc X.1 N g_b7_65
    refine g_aload X at_171 (pc' := 173) rfl rfl rfl ?_
    refine g_iload X at_173 (pc' := 175) rfl rfl ?_
    refine g_iconst X (4 : Int32) at_175 (pc' := 176) rfl rfl ?_
    refine g_iadd X at_176 (pc' := 177) rfl ?_
    refine Go.lit32 (z := (7 : Int32)) (by decide) ?_
    refine g_lloadN X at_177 (pc' := 178) rfl rfl ?_
    refine g_bipush X (32 : Int32) at_178 (pc' := 180) rfl rfl ?_
    refine g_lushr X at_180 (pc' := 181) rfl ?_
    refine g_l2i X at_181 (pc' := 182) rfl ?_
    refine g_i2b X at_182 (pc' := 183) rfl ?_
    generalize ev183_82 : ((((j0.toUInt64 >>> ((32 : Int32) &&& 0x3f).toInt64.toUInt64).toInt64).toInt32).toInt8.toInt32) = v183_82
    refine g_bastore X V_b7_65 7 at_183 (pc' := 184) rfl (by decide) (by decide) (Nat.le_of_ble_eq_true rfl) ?_
    intro T h X W V_b7_65
    replace V_b7_65 : Av Z h b7_65 .byte [(.int (nar .byte v16_66)), (.int (nar .byte v25_67)), (.int (nar .byte v34_68)), (.int (nar .byte v131_78)), (.int (nar .byte v144_79)), (.int (nar .byte v157_80)), (.int (nar .byte v170_81)), (.int (nar .byte v183_82)), (.int (nar .byte v90_74)), (.int (nar .byte v101_75)), (.int (nar .byte v112_76)), (.int (nar .byte v123_77))] := V_b7_65
    replace E_b7_65 := E_b7_65.wr W
    replace Z0 := Nat.le_trans Z0 (Nat.le_of_eq W.size.symm)
    replace N := Fr.snoc X.1 N g_b7_65
    refine g_aload X at_184 (pc' := 186) rfl rfl rfl ?_
    refine g_iload X at_186 (pc' := 188) rfl rfl ?_
    refine g_iconst X (5 : Int32) at_188 (pc' := 189) rfl rfl ?_
    refine g_iadd X at_189 (pc' := 190) rfl ?_
    refine Go.lit32 (z := (8 : Int32)) (by decide) ?_
    refine g_lloadN X at_190 (pc' := 191) rfl rfl ?_
    refine g_bipush X (40 : Int32) at_191 (pc' := 193) rfl rfl ?_
    refine g_lushr X at_193 (pc' := 194) rfl ?_
    refine g_l2i X at_194 (pc' := 195) rfl ?_
    refine g_i2b X at_195 (pc' := 196) rfl ?_
    generalize ev196_83 : ((((j0.toUInt64 >>> ((40 : Int32) &&& 0x3f).toInt64.toUInt64).toInt64).toInt32).toInt8.toInt32) = v196_83
    refine g_bastore X V_b7_65 8 at_196 (pc' := 197) rfl (by decide) (by decide) (Nat.le_of_ble_eq_true rfl) ?_
    intro T h X W V_b7_65
    replace V_b7_65 : Av Z h b7_65 .byte [(.int (nar .byte v16_66)), (.int (nar .byte v25_67)), (.int (nar .byte v34_68)), (.int (nar .byte v131_78)), (.int (nar .byte v144_79)), (.int (nar .byte v157_80)), (.int (nar .byte v170_81)), (.int (nar .byte v183_82)), (.int (nar .byte v196_83)), (.int (nar .byte v101_75)), (.int (nar .byte v112_76)), (.int (nar .byte v123_77))] := V_b7_65
    replace E_b7_65 := E_b7_65.wr W
    replace Z0 := Nat.le_trans Z0 (Nat.le_of_eq W.size.symm)
    replace N := Fr.snoc X.1 N g_b7_65
    refine g_aload X at_197 (pc' := 199) rfl rfl rfl ?_
    refine g_iload X at_199 (pc' := 201) rfl rfl ?_
    refine g_bipush X (6 : Int32) at_201 (pc' := 203) rfl rfl ?_
    refine g_iadd X at_203 (pc' := 204) rfl ?_
    refine Go.lit32 (z := (9 : Int32)) (by decide) ?_
    refine g_lloadN X at_204 (pc' := 205) rfl rfl ?_
    refine g_bipush X (48 : Int32) at_205 (pc' := 207) rfl rfl ?_
    refine g_lushr X at_207 (pc' := 208) rfl ?_
    refine g_l2i X at_208 (pc' := 209) rfl ?_
    refine g_i2b X at_209 (pc' := 210) rfl ?_
    generalize ev210_84 : ((((j0.toUInt64 >>> ((48 : Int32) &&& 0x3f).toInt64.toUInt64).toInt64).toInt32).toInt8.toInt32) = v210_84
    refine g_bastore X V_b7_65 9 at_210 (pc' := 211) rfl (by decide) (by decide) (Nat.le_of_ble_eq_true rfl) ?_
    intro T h X W V_b7_65
    replace V_b7_65 : Av Z h b7_65 .byte [(.int (nar .byte v16_66)), (.int (nar .byte v25_67)), (.int (nar .byte v34_68)), (.int (nar .byte v131_78)), (.int (nar .byte v144_79)), (.int (nar .byte v157_80)), (.int (nar .byte v170_81)), (.int (nar .byte v183_82)), (.int (nar .byte v196_83)), (.int (nar .byte v210_84)), (.int (nar .byte v112_76)), (.int (nar .byte v123_77))] := V_b7_65
    replace E_b7_65 := E_b7_65.wr W
    replace Z0 := Nat.le_trans Z0 (Nat.le_of_eq W.size.symm)
    replace N := Fr.snoc X.1 N g_b7_65
    refine g_aload X at_211 (pc' := 213) rfl rfl rfl ?_
    refine g_iload X at_213 (pc' := 215) rfl rfl ?_
    refine g_bipush X (7 : Int32) at_215 (pc' := 217) rfl rfl ?_
    refine g_iadd X at_217 (pc' := 218) rfl ?_
    refine Go.lit32 (z := (10 : Int32)) (by decide) ?_
    refine g_lloadN X at_218 (pc' := 219) rfl rfl ?_
    refine g_bipush X (56 : Int32) at_219 (pc' := 221) rfl rfl ?_
    refine g_lushr X at_221 (pc' := 222) rfl ?_
    refine g_l2i X at_222 (pc' := 223) rfl ?_
    refine g_i2b X at_223 (pc' := 224) rfl ?_
    generalize ev224_85 : ((((j0.toUInt64 >>> ((56 : Int32) &&& 0x3f).toInt64.toUInt64).toInt64).toInt32).toInt8.toInt32) = v224_85
    refine g_bastore X V_b7_65 10 at_224 (pc' := 225) rfl (by decide) (by decide) (Nat.le_of_ble_eq_true rfl) ?_
    intro T h X W V_b7_65
    replace V_b7_65 : Av Z h b7_65 .byte [(.int (nar .byte v16_66)), (.int (nar .byte v25_67)), (.int (nar .byte v34_68)), (.int (nar .byte v131_78)), (.int (nar .byte v144_79)), (.int (nar .byte v157_80)), (.int (nar .byte v170_81)), (.int (nar .byte v183_82)), (.int (nar .byte v196_83)), (.int (nar .byte v210_84)), (.int (nar .byte v224_85)), (.int (nar .byte v123_77))] := V_b7_65
    replace E_b7_65 := E_b7_65.wr W
    replace Z0 := Nat.le_trans Z0 (Nat.le_of_eq W.size.symm)
    replace N := Fr.snoc X.1 N g_b7_65
    refine g_aload X at_225 (pc' := 227) rfl rfl rfl ?_
    refine g_iload X at_227 (pc' := 229) rfl rfl ?_
    refine g_static X (W := 0) [(.ref b7_65), (.int (3 : Int32))] [] (tb hw 1 rfl) (tb hw 2 rfl) (tb hw 3 rfl) (tb hw 4 rfl) (rW3 l Z aa hw [] b7_65 (nar .byte v16_66) (nar .byte v25_67) (nar .byte v34_68) (nar .byte v131_78) (nar .byte v144_79) (nar .byte v157_80) (nar .byte v170_81) (nar .byte v183_82) (nar .byte v196_83) (nar .byte v210_84) (nar .byte v224_85) (nar .byte v123_77) _ V_b7_65) at_229 (pc' := 232) rfl (by decide) (by decide) (by decide) rfl rfl rfl (lenOf pd_0 rfl) (Nat.le_refl _) (by decide) (by decide) ?_
    intro v T L X q
    obtain ⟨rfl, X⟩ := pureX X q
    show Go p e below _ (T.setTop (mkF m 232 #[.val (.long j0), .second, .val (.int i1), .val (.int i2), .val (.int i3), .val (.int i4), .val (.int (3 : Int32)), .val (.ref b7_65)] [(.long (fW3 (nar .byte v16_66) (nar .byte v25_67) (nar .byte v34_68) (nar .byte v131_78) (nar .byte v144_79) (nar .byte v157_80) (nar .byte v170_81) (nar .byte v183_82) (nar .byte v196_83) (nar .byte v210_84) (nar .byte v224_85) (nar .byte v123_77)))]))
    refine g_lloadN X at_232 (pc' := 233) rfl rfl ?_
    refine g_lcmp X at_233 (pc' := 234) rfl ?_
    refine g_ifN X at_234 ((if0 _ _).trans (teq ((lw_eq (fW3 (nar .byte v16_66) (nar .byte v25_67) (nar .byte v34_68) (nar .byte v131_78) (nar .byte v144_79) (nar .byte v157_80) (nar .byte v170_81) (nar .byte v183_82) (nar .byte v196_83) (nar .byte v210_84) (nar .byte v224_85) (nar .byte v123_77)) j0).mpr (show (fW3 (nar .byte v16_66) (nar .byte v25_67) (nar .byte v34_68) (nar .byte v131_78) (nar .byte v144_79) (nar .byte v157_80) (nar .byte v170_81) (nar .byte v183_82) (nar .byte v196_83) (nar .byte v210_84) (nar .byte v224_85) (nar .byte v123_77)) = j0 from (by subst_vars; exact whole _)))).2) (pc' := 237) rfl ?_
    refine g_iconst X (1 : Int32) at_237 (pc' := 238) rfl rfl ?_
    refine g_goto X at_238 (pc' := 242) (by decide) (by decide) ?_
    refine g_ireturnN X (t := .boolean) (by simp) at_242 hret hlk (by decide) (by decide) ?_
    exact ⟨rfl, N⟩
set_option maxRecDepth 65536 in
set_option maxHeartbeats 40000000 in
theorem comes_1 {Post : Tables → Env → Array Value → State → Outcome → State → Prop} (hpost : ∀ tb e args s v u, (limb_1_1.after args s (.returned v) u = true ∧ limb_1_2.after args s (.returned v) u = true ∧ True) → FrameEnd s (.returned v) u (Jvm.fieldLocs frame_1_writes args s ++ Jvm.arrayLocs frame_1_arrays args s ++ Jvm.staticLocs frame_1_statics s) 16 128 → Post tb e args s (.returned v) u) :
    ArmFor flags0 classFile x code maxLocals ret World_1 tables_1 room_1 Calls_1 rest_1 Pre_1 Post := by
  intro l hfl _ _ p e ha hc hk s m args below hf hA hF happ hP
  obtain ⟨hcalls, hrest, hpre⟩ := hP
  obtain ⟨-, -, -, hnamed, -, -, -, hat⟩ := (Spec.applies_iff hf).mp happ
  obtain ⟨hg, hn⟩ := and_e (Cond.before_iff.mp (show (Jvm.Cond.and given_1 narrow_1).before args s = true from hpre))
  obtain ⟨g1, g2⟩ := and_e hg
  obtain ⟨g3, g4⟩ := and_e g2
  obtain ⟨g5, g6⟩ := and_e g4
  obtain ⟨g7, g8⟩ := and_e g6
  obtain ⟨g9, g10⟩ := and_e g8
  obtain ⟨w0, w1, w2, w3, w4, rfl⟩ : ∃ w0 w1 w2 w3 w4 : Value, args = #[w0, w1, w2, w3, w4] := by
    have hs : args.size = 5 := by simpa [Cond.value, given_1] using g1
    obtain ⟨L⟩ := args
    match L, hs with
    | [w0, w1, w2, w3, w4], _ => exact ⟨w0, w1, w2, w3, w4, rfl⟩
  have hw := fun d (hd : d ∈ tables_1) => atoms_spec (ws := Jvm.Cond.code x code maxLocals ret :: tables_1) hat d (List.mem_cons_of_mem _ hd)
  have hfit : Fit s := fun {y c} hc i hi => by
    obtain ⟨ha, rfl⟩ := Array.getElem?_eq_some_iff.mp hc
    have q := List.all_eq_true.mp ((Array.all_eq_true_iff_forall_mem.mp hF) _ (Array.getElem_mem ha)) i (List.mem_range.mpr hi)
    simpa [Array.getElem?_eq_getElem hi] using q
  obtain ⟨i0, ei0⟩ := isL_v g3
  obtain rfl : w0 = (.long i0) := Option.some.inj ei0
  obtain ⟨i1, ei1⟩ := is_v g5
  obtain rfl : w1 = (.int i1) := Option.some.inj ei1
  obtain ⟨i2, ei2⟩ := is_v g7
  obtain rfl : w2 = (.int i2) := Option.some.inj ei2
  obtain ⟨i3, ei3⟩ := is_v g9
  obtain rfl : w3 = (.int i3) := Option.some.inj ei3
  obtain ⟨i4, ei4⟩ := is_v g10
  obtain rfl : w4 = (.int i4) := Option.some.inj ei4
  obtain ⟨n, o, h1, h2, h3, _, L, rfl, ⟨rfl, N⟩, hq⟩ := rLaw l s _ hw tables_1 i0 i1 i2 i3 i4 s.heap s.heap.size (Nat.le_refl _) p e ha hc hk s m _ below hf ((Spec.applies_iff_loose hf).mp happ).1 ⟨rfl, State.Warmed39.refl s, rfl⟩ trivial
  refine ⟨n, _, h1, h2, h3, hpost _ _ _ _ _ _ ⟨Cond.after_iff.mpr rfl, Cond.after_iff.mpr (eq_i res_at (Term.int_eval (1)) rfl), trivial⟩ ⟨hq.1, hq.2.1, (hq.2.2.sift fun y hy => Or.inr (N y hy)).mono (by decide) (by decide)⟩⟩
theorem main_1_1 : Claimed_1_1 := comes_1 fun _ _ _ _ _ _ h hF => ⟨h.1, hF⟩
theorem main_1_2 : Claimed_1_2 := comes_1 fun _ _ _ _ _ _ h hF => ⟨h.2.1, hF⟩
end Jvm.Pilot.@@N@@
namespace Jvm.Pilot.@@N@@
open Jvm Jvm.ClassFile Sem Op Lib Jvm.Free Jvm.Stand Jvm.Pilot.@@N@@.Jvm.D
/-! MADE BY PROGRAM (witnessworld.py) out of the Statement's table words and the real class files: 9 classes; the members and pool entries that the words name. The judged class is class 1, her method 1. -/
namespace start1
open Jvm.ClassFile
def u (s : String) : CpInfo := .utf8 (stringToUtf16 s)
/-- a pool by its gaps: so many unusable entries, then the entry; so many at the end -/
def gap : Nat → List CpInfo → List CpInfo
  | 0, r => r
  | n + 1, r => .unusable :: gap n r
def poolList (es : List (Nat × CpInfo)) (last : Nat) : List CpInfo := es.foldr (fun e r => gap e.1 (e.2 :: r)) (gap last [])
def pool (es : List (Nat × CpInfo)) (last : Nat) : Array CpInfo := ⟨poolList es last⟩
def fileOf (pool : Array CpInfo) (this : Nat) (attrs : Array Attribute := #[]) (ms : Array MethodInfo := #[]) (fl : Nat := 33) (sup : Nat := 0) (ifs : Array Nat := #[]) (fds : Array FieldInfo := #[]) : ClassFile where
  minorVersion := 0
  majorVersion := 65
  constantPool := pool
  accessFlags := fl
  thisClass := this
  superClass := sup
  interfaces := ifs
  fields := fds
  methods := ms
  attributes := attrs
def plain (name : String) (sup : Option ClassId) : Class where
  name := name
  kind := .ordinary
  loader := none
  accessFlags := 33
  super := sup
  interfaces := #[]
  cf := none
  fields := #[]
  methods := #[]
  instanceTypes := #[]
  staticTypes := #[]
  resolved := #[]
  callSites := []
  init := .initialized
  statics := none
  mirror := none

def pool0 : Array CpInfo := pool [(5, u "<init>"), (0, u "()V"), (1, .class_ 10), (1, u "java/lang/Object")] 113

def k0m0 : Method := { name := "<init>", desc := "()V", sig := { parameters := [], returnType := none }, accessFlags := 1, code := none }
/-- java/lang/Object -/
def k0 : Class := { plain "java/lang/Object" none with
  accessFlags := 33
  interfaces := #[]
  cf := some (fileOf pool0 8 #[] #[{ accessFlags := 1, nameIndex := 5, descriptorIndex := 6, attributes := #[] }] 33 0 #[] #[])
  fields := #[]
  methods := #[k0m0]
  instanceTypes := #[]
  staticTypes := #[]
  resolved := Array.replicate 124 none
  statics := none }

def pool1 : Array CpInfo := pool [(2, .class_ 4), (1, u "java/lang/Object"), (0, u "<init>"), (0, u "()V"), (0, .methodref 8 9), (0, .class_ 10), (0, .nameAndType 11 12), (0, u "com/example/scheherazade/scheherazade/core/Utf8"), (0, u "word"), (0, u "([BI)J"), (0, .class_ 14), (0, u "com/example/scheherazade/scheherazade/core/Utf8WordPinLaw"), (2, u "law"), (0, u "(JIIII)Z")] 5

def k1m0 : Method := { name := "<init>", desc := "()V", sig := { parameters := [], returnType := none }, accessFlags := 1, code := none }
def k1c1 : Code := { maxStack := 5, maxLocals := 8, code := code, exceptionTable := #[], attributes := #[] }
def k1m1 : Method := { name := "law", desc := "(JIIII)Z", sig := { parameters := [.long, .int, .int, .int, .int], returnType := some .boolean }, accessFlags := 9, code := some k1c1 }
/-- com/example/scheherazade/scheherazade/core/Utf8WordPinLaw -/
def k1 : Class := { plain "com/example/scheherazade/scheherazade/core/Utf8WordPinLaw" (some 0) with
  accessFlags := 49
  interfaces := #[]
  cf := some (fileOf pool1 13 #[] #[{ accessFlags := 1, nameIndex := 5, descriptorIndex := 6, attributes := #[] }, { accessFlags := 9, nameIndex := 17, descriptorIndex := 18, attributes := #[] }] 49 2 #[] #[])
  fields := #[]
  methods := #[k1m0, k1m1]
  instanceTypes := #[]
  staticTypes := #[]
  resolved := Array.replicate 24 none
  statics := none }

def pool2 : Array CpInfo := pool [(1, .class_ 2), (0, u "com/example/scheherazade/scheherazade/core/Utf8"), (1, .class_ 6), (1, u "java/lang/Object"), (0, u "<init>"), (0, u "()V"), (38, .long 255), (1, u "WIDTH_SHIFT"), (0, u "I"), (2, u "CODE_POINT"), (0, u "INCOMPLETE"), (1, u "MALFORMED"), (10, u "word"), (0, u "([BI)J")] 4

def k2m0 : Method := { name := "<init>", desc := "()V", sig := { parameters := [], returnType := none }, accessFlags := 2, code := none }
def k2c1 : Code := { maxStack := 6, maxLocals := 2, code := prog_16_method_9_code, exceptionTable := #[], attributes := #[] }
def k2m1 : Method := { name := "word", desc := "([BI)J", sig := { parameters := [(.array .byte), .int], returnType := some .long }, accessFlags := 8, code := some k2c1 }
/-- com/example/scheherazade/scheherazade/core/Utf8 -/
def k2 : Class := { plain "com/example/scheherazade/scheherazade/core/Utf8" (some 0) with
  accessFlags := 32
  interfaces := #[]
  cf := some (fileOf pool2 1 #[] #[{ accessFlags := 2, nameIndex := 7, descriptorIndex := 8, attributes := #[] }, { accessFlags := 8, nameIndex := 67, descriptorIndex := 68, attributes := #[] }] 32 4 #[] #[{ accessFlags := 24, nameIndex := 49, descriptorIndex := 50, attributes := #[] }, { accessFlags := 24, nameIndex := 53, descriptorIndex := 50, attributes := #[] }, { accessFlags := 24, nameIndex := 54, descriptorIndex := 50, attributes := #[] }, { accessFlags := 24, nameIndex := 56, descriptorIndex := 50, attributes := #[] }])
  fields := #[{ name := "WIDTH_SHIFT", type := .int, accessFlags := 24, slot := 0, constantValue := 0 }, { name := "CODE_POINT", type := .int, accessFlags := 24, slot := 1, constantValue := 0 }, { name := "INCOMPLETE", type := .int, accessFlags := 24, slot := 2, constantValue := 0 }, { name := "MALFORMED", type := .int, accessFlags := 24, slot := 3, constantValue := 0 }]
  methods := #[k2m0, k2m1]
  instanceTypes := #[]
  staticTypes := #[.int, .int, .int, .int]
  resolved := Array.replicate 73 none
  statics := none }

def pool3 : Array CpInfo := pool [(1, u "java/lang/Cloneable"), (0, .class_ 1), (0, u "java/lang/Object"), (0, .class_ 3)] 3

/-- java/lang/Cloneable -/
def k3 : Class := { plain "java/lang/Cloneable" (some 0) with
  accessFlags := 1537
  interfaces := #[]
  cf := some (fileOf pool3 2 #[] #[] 1537 4 #[] #[])
  fields := #[]
  methods := #[]
  instanceTypes := #[]
  staticTypes := #[]
  resolved := Array.replicate 8 none
  statics := none }

def pool4 : Array CpInfo := pool [(1, u "java/io/Serializable"), (0, .class_ 1), (0, u "java/lang/Object"), (0, .class_ 3)] 3

/-- java/io/Serializable -/
def k4 : Class := { plain "java/io/Serializable" (some 0) with
  accessFlags := 1537
  interfaces := #[]
  cf := some (fileOf pool4 2 #[] #[] 1537 4 #[] #[])
  fields := #[]
  methods := #[]
  instanceTypes := #[]
  staticTypes := #[]
  resolved := Array.replicate 8 none
  statics := none }

/-- the primitive byte -/
def k5 : Class := { plain "byte" none with kind := .primitive 'B', accessFlags := 0x411 }
/-- [B -/
def k6 : Class := { plain "[B" (some 0) with kind := .array 5 .byte, interfaces := #[3, 4], accessFlags := 1041 }

/-- the primitive int -/
def k7 : Class := { plain "int" none with kind := .primitive 'I', accessFlags := 0x411 }
/-- [I -/
def k8 : Class := { plain "[I" (some 0) with kind := .array 7 .int, interfaces := #[3, 4], accessFlags := 1041 }

def heap : Heap := #[]
def classes : Array Class := #[k0, k1, k2, k3, k4, k5, k6, k7, k8]
def interned : List (Array UInt16 × Addr) := []
def slotsUsed : Nat := 0
def theMethod : MethodId := ⟨1, 1⟩
def args0 : Array Value := #[.long 5, .int 7, .int 3, .int 4, .int 9]
def aboutOver (below : List Frame) : State where
  vm := { classes := classes, interned := interned.toArray }
  heap := heap
  slotsUsed := slotsUsed
  threads := #[{ frames := .invoking theMethod args0 :: below }]
def below0 : List Frame := [.native { method := ⟨0, 0⟩, args := #[] }]
def about1 : State := aboutOver below0
def p0 : Program := .bare "" "" ""
def e0 : Env := launch0.env 0 0 0
theorem w_frames : about1.frames = Frame.invoking theMethod args0 :: below0 := rfl
set_option maxRecDepth 65536 in
theorem w_args : argsFit about1.vm theMethod args0 = true := by decide +kernel
set_option maxRecDepth 65536 in
theorem w_heap : heapFits about1 = true := by decide +kernel
set_option maxRecDepth 65536 in
theorem w_runnable : about1.curStatus? = some .runnable := by decide +kernel
set_option maxRecDepth 65536 in
theorem w_alone : about1.alone = true := by decide +kernel
set_option maxRecDepth 65536 in
theorem w_named : about1.methodNamed? x = some theMethod := by decide +kernel
set_option maxRecDepth 65536 in
theorem w_hears : about1.hears theMethod below0 = true := by decide +kernel
set_option maxRecDepth 65536 in
theorem w_ripe : about1.ripe theMethod args0 below0 = true := by decide +kernel
theorem w_running : about1.status = .running := rfl
set_option maxRecDepth 65536 in
theorem w_room : about1.hasRoom e0.platform room_1 = true :=
  launch0.hasRoom_least _ room_1 (by decide +kernel) (by decide +kernel) (by decide +kernel) (by decide +kernel) (by decide +kernel) (by decide +kernel)
theorem allAtoms_all (ts : List Jvm.Cond) (a : Array Jvm.Value) (st : Jvm.State) : (allAtoms ts).before a st = ts.all (fun c => c.before a st) := by
  induction ts with
  | nil => rfl
  | cons c t ih =>
    show (Jvm.Cond.and c (allAtoms t)).before a st = _
    rw [Jvm.Cond.before_and, ih, List.all_cons]
def words1 : List Jvm.Cond := Jvm.Cond.code x code maxLocals ret :: tables_1
/-- a 'code' word, met by the world's own term for the bytes: nothing is compared byte by byte -/
theorem code_word {y : MethodName} {bytes : ByteArray} {mx : Nat} {rt : Option FieldType} {a : Array Value} {s : State} {m : MethodId} {meth : Method} {c : Code} (h1 : s.methodNamed? y = some m) (h2 : s.vm.method? m = some meth) (h3 : meth.code = some c) (h4 : c.code = bytes)
    (h5 : (c.maxLocals == mx && c.exceptionTable.isEmpty && decide (c.maxStack ≤ mostOperands) && decide (meth.sig.returnType = rt) && !meth.locks && decide (parseMethodDescriptor y.desc = some meth.sig)) = true) : (Jvm.Cond.code y bytes mx rt).before a s = true := by
  simp only [Bool.and_eq_true, beq_iff_eq, Bool.not_eq_true', decide_eq_true_eq] at h5
  obtain ⟨⟨⟨⟨⟨g1, g2⟩, g3⟩, g4⟩, g5⟩, g6⟩ := h5
  simp [Cond.before, Cond.holds, Cond.value, h1, h2, h3, h4, g1, g2, g3, g4, g5, g6]
def isCode : Jvm.Cond → Bool
  | .code _ _ _ _ => true
  | _ => false
theorem all_split {L : List Jvm.Cond} {P : Jvm.Cond → Bool} (h1 : L.all (fun c => isCode c || P c) = true) (h2 : ∀ c ∈ L.filter isCode, P c = true) : L.all P = true := by
  refine List.all_eq_true.mpr fun c hc => ?_
  have h := List.all_eq_true.mp h1 c hc
  rcases Bool.eq_false_or_eq_true (isCode c) with hi | hi
  · exact h2 c (List.mem_filter.mpr ⟨hc, hi⟩)
  · simpa [hi] using h
set_option maxRecDepth 65536 in
theorem w_c0 : (Jvm.Cond.code x code maxLocals ret).before args0 about1 = true := code_word (m := ⟨1, 1⟩) (meth := k1m1) (c := k1c1) (by decide +kernel) rfl rfl rfl (by decide +kernel)
set_option maxRecDepth 65536 in
theorem w_c1 : (Jvm.Cond.code ({ cls := "com/example/scheherazade/scheherazade/core/Utf8", name := "word", desc := "([BI)J" } : Jvm.MethodName) prog_16_method_9_code (2 : Nat) (Option.some Jvm.ClassFile.FieldType.long)).before args0 about1 = true := code_word (m := ⟨2, 1⟩) (meth := k2m1) (c := k2c1) (by decide +kernel) rfl rfl rfl (by decide +kernel)
def codes1 : List Jvm.Cond := [Jvm.Cond.code x code maxLocals ret, Jvm.Cond.code ({ cls := "com/example/scheherazade/scheherazade/core/Utf8", name := "word", desc := "([BI)J" } : Jvm.MethodName) prog_16_method_9_code (2 : Nat) (Option.some Jvm.ClassFile.FieldType.long)]
set_option maxRecDepth 65536 in
theorem codes_eq : words1.filter isCode = codes1 := rfl
theorem w_codes : ∀ c ∈ words1.filter isCode, c.before args0 about1 = true := by
  rw [codes_eq]
  intro c hc
  simp only [codes1, List.mem_cons, List.not_mem_nil, or_false] at hc
  rcases hc with rfl | rfl
  · exact w_c0
  · exact w_c1
set_option maxRecDepth 65536 in
theorem w_t1 : words1.all (fun c => isCode c || c.before args0 about1) = true := by decide +kernel
theorem w_tables : (allAtoms (Jvm.Cond.code x code maxLocals ret :: tables_1)).before args0 about1 = true := by
  rw [allAtoms_all]
  show words1.all (fun c => c.before args0 about1) = true
  refine all_split ?_ w_codes
  rw [w_t1]
set_option maxRecDepth 65536 in
theorem w_case : (Jvm.Cond.and given_1 narrow_1).before args0 about1 = true := by decide +kernel
theorem w_applies : (headSpec (Jvm.Cond.code x code maxLocals ret :: tables_1) room_1).applies x e0.platform about1 = true :=
  (Spec.applies_iff w_frames).mpr ⟨w_running, w_runnable, w_alone, w_named, w_hears, w_ripe, w_room, w_tables⟩
theorem atStart : AtStart classFile x code maxLocals ret World_1 tables_1 room_1 Calls_1 rest_1 Pre_1 launch0 p0 e0 about1 theMethod args0 below0 :=
  ⟨lists_1, trivial, launch0.admits_env _ _ _, launch0.least_env, fairChoices_fair.cas, fairChoices_fair.clock, w_frames, w_args, w_heap, w_applies, trivial, trivial, w_case⟩
end start1
theorem witness_1 : WitnessClaimed_1 := ⟨start1.p0, start1.e0, start1.about1, start1.theMethod, start1.args0, start1.below0, start1.atStart⟩
end Jvm.Pilot.@@N@@
