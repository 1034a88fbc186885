import JvmDerived
import JvmDerived.Pilot.@@N@@Statement
import JvmDerived.Pilot.@@N@@Code
set_option linter.unusedVariables false
set_option linter.unusedSimpArgs false
namespace Jvm.RoadKit
open Sem ClassFile Op Lib Jvm.Stand Jvm.Free Jvm.LawKit
section New
variable {p : Program} {l : Launch} {e : Env} {R : Room} {s : State} {m : MethodId} {args : Array Value} {below : List Frame} {meth : Method} {c : Code} {T : State} {locs : List Loc} {cells slots : Nat}
theorem retI (X : Stand p l e R s m args below meth c T locs cells slots) (hx : p.tables.exec = Jvm.exec) {pc : Nat} {Ls : Array Slot} {z : Int32} {rest : List Value} (hret : meth.sig.returnType = some .int) (hd : decode c.code pc = .ok (.ireturn, 1)) {fs : List Frame}
    (hl : ∀ (f : JFrame) (acts : List Action), f.method = m → f.locked = none → f.entered = [] → (doReturn e (T.setTop f) acts (some (.int z))).1 = T.setFrames fs) : Steps p.tables e below (T.setTop (mkF m pc Ls (.int z :: rest))) (T.setFrames fs) := by
  have hm' : T.vm.method? m = some meth := X.method'
  have hn : narrow .int (.int z) = .int z := rfl
  show Steps p.tables e below (T.setTop { method := m, pc := pc, locals := Ls, stack := _ :: rest, locked := none }) _
  jvm_step X.here [X.here.top, hx, hd, hm', hret, hn]
  first | (intro acts; rw [hl _ acts rfl rfl rfl]) | rw [hl _ _ rfl rfl rfl]
  exact Steps.refl _
theorem retJ (X : Stand p l e R s m args below meth c T locs cells slots) (hx : p.tables.exec = Jvm.exec) {pc : Nat} {Ls : Array Slot} {z : Int64} {rest : List Value} (hret : meth.sig.returnType = some .long) (hd : decode c.code pc = .ok (.lreturn, 1)) {fs : List Frame}
    (hl : ∀ (f : JFrame) (acts : List Action), f.method = m → f.locked = none → f.entered = [] → (doReturn e (T.setTop f) acts (some (.long z))).1 = T.setFrames fs) : Steps p.tables e below (T.setTop (mkF m pc Ls (.long z :: rest))) (T.setFrames fs) := by
  have hm' : T.vm.method? m = some meth := X.method'
  have hn : narrow .long (.long z) = .long z := rfl
  show Steps p.tables e below (T.setTop { method := m, pc := pc, locals := Ls, stack := _ :: rest, locked := none }) _
  jvm_step X.here [X.here.top, hx, hd, hm', hret, hn]
  first | (intro acts; rw [hl _ acts rfl rfl rfl]) | rw [hl _ _ rfl rfl rfl]
  exact Steps.refl _
end New
end Jvm.RoadKit
namespace Jvm.Pilot.@@N@@
open Jvm Jvm.ClassFile Sem Op Lib Jvm.Free Jvm.Stand Jvm.LawKit Jvm.RoadKit Bundle Jvm.Pilot.@@N@@.Jvm.D
/-! THE WALK's GOAL, AND ONE LAW A STEP (each in the form: where the run goes on, it ends well; so it does from here) -/
def Go (p : Program) (e : Env) (below : List Frame) (K : Outcome → State → Prop) (u : State) : Prop := ∃ s₂ o, Steps p.tables e below u s₂ ∧ s₂.status = .running ∧ Ended s₂ below o ∧ K o s₂
theorem Go.step {p : Program} {e : Env} {below : List Frame} {K : Outcome → State → Prop} {u u' : State} (h : ∀ t, Steps p.tables e below u' t → Steps p.tables e below u t) (g : Go p e below K u') : Go p e below K u := by
  obtain ⟨a, o, h1, h2⟩ := g; exact ⟨a, o, h _ h1, h2⟩
def Ends (s : State) (Q : Option Value → Heap → List Loc → Prop) (kc ks : Nat) (o : Outcome) (U : State) : Prop := ∃ v L, o = .returned v ∧ Q v U.heap L ∧ FrameEnd s o U L kc ks
/-- where the run stands, with all that a step asks -/
def Sx (Z : State) (own : String) (bytes : ByteArray) (ml : Nat) (p : Program) (l : Launch) (e : Env) (R : Room) (s : State) (m : MethodId) (args : Array Value) (below : List Frame) (meth : Method) (c : Code) (T : State) (locs : List Loc) (cells slots : Nat) (h : Heap) : Prop :=
  Stand p l e R s m args below meth c T locs cells slots ∧ p.tables.exec = Jvm.exec ∧ c.code = bytes ∧ c.maxLocals = ml ∧ s.vm.findClass own = some m.cls ∧ Z.Warmed39 s.vm ∧ T.heap = h
/-- what a method owes: called at the heap h0 with these arguments it returns, and Q holds -/
abbrev Rm (l : Launch) (Z : State) (y : MethodName) (bytes : ByteArray) (ml : Nat) (ret : Option FieldType) (ws : List Jvm.Cond) (rm : Room) (as' : Array Value) (h0 : Heap) (Q : Option Value → Heap → List Loc → Prop) : Prop :=
  MetFree l y (head1 (Jvm.Cond.code y bytes ml ret :: ws) rm) (fun a U => a = as' ∧ Z.Warmed39 U.vm ∧ U.heap = h0) (fun _ _ _ _ _ => True) (fun _ U o U' => ∃ v L, o = .returned v ∧ Q v U'.heap L ∧ FrameEnd U o U' L rm.cells rm.slots)
theorem Rm.of {l : Launch} {Z : State} {y : MethodName} {bytes : ByteArray} {ml : Nat} {ret : Option FieldType} {ws : List Jvm.Cond} {rm : Room} {as' : Array Value} {h0 : Heap} {Q : Option Value → Heap → List Loc → Prop} (hpl : plainFor y = true)
    (body : ∀ (p : Program) (e : Env) (s : State) (m : MethodId) (below : List Frame) (meth : Method) (c : Code) (T : State), Sx Z y.cls bytes ml p l e rm s m as' below meth c T [] 0 0 h0 → meth.name = y.name → meth.sig.returnType = ret → meth.locks = false → Go p e below (Ends s Q rm.cells rm.slots) (T.setTop (entryFrame m as' ml))) : Rm l Z y bytes ml ret ws rm as' h0 Q := by
  refine MetFree.of_bodySF hpl hisR ?_
  intro p e s m args below meth c s₁ Bd hml0 hP hK
  obtain ⟨rfl, hZ, hh⟩ := hP
  have X0 : Stand p l e rm s m args below meth c s₁ [] 0 0 := Stand.of_body Bd
  exact body p e s m below meth c s₁ ⟨X0, Bd.exec, Bd.bytes, hml0, findClass_of_methodNamed Bd.named, hZ, by rw [← hh, Bd.state]; rfl⟩ (name_of_methodNamed Bd.named Bd.method).1 Bd.returns (BodyLoose.notSynchronized Bd)
theorem Rm.weaken {l : Launch} {Z : State} {y : MethodName} {bytes : ByteArray} {ml : Nat} {ret : Option FieldType} {ws : List Jvm.Cond} {rm : Room} {as' : Array Value} {h0 : Heap} {Q Q' : Option Value → Heap → List Loc → Prop} (M : Rm l Z y bytes ml ret ws rm as' h0 Q) (hq : ∀ v h L, Q v h L → Q' v h L) : Rm l Z y bytes ml ret ws rm as' h0 Q' := by
  intro p e ha hc hk s m args below hf happ hP hK
  obtain ⟨n, o, h1, h2, h3, v, L, e1, q, r⟩ := M p e ha hc hk s m args below hf happ hP hK
  exact ⟨n, o, h1, h2, h3, v, L, e1, hq _ _ _ q, r⟩
/-- a boolean as an int -/
def b2i (b : Bool) : Int32 := if b then 1 else 0
theorem m1_int : (-1 : Int32).toInt = -1 := rfl
theorem b2i_t : b2i true = 1 := rfl
theorem b2i_f : b2i false = 0 := rfl
theorem nar_b2i (b : Bool) : nar .boolean (b2i b) = b2i b := by cases b <;> rfl
theorem bne {b : Bool} (h : b = true) : ¬ b2i b = 0 := by subst h; decide
theorem beq0 {b : Bool} (h : ¬ b = true) : b2i b = 0 := by simp at h; subst h; rfl
theorem Fr.one {k : Nat} {a : Addr} {sl : Nat} (g : k ≤ a) : Fr k [⟨a, sl⟩] := fun y hy => by cases List.mem_singleton.mp hy; exact g
/-- an array and all that it holds -/
def Av (Z : State) (h : Heap) (a : Addr) (ty : FieldType) (vs : List Value) : Prop := ∃ c : Cell, Arr Z h a c ty ∧ c.slots.toList = vs ∧ vs.length < 2147483648
section Facts
variable {Z : State} {h h' : Heap} {a b : Addr} {ty : FieldType} {vs : List Value} {sl : Nat} {v : Value} {ws : List Addr}
theorem Av.lt (F : Av Z h a ty vs) : a < h.size := by obtain ⟨c, A, -⟩ := F; exact A.lt
theorem Av.ext (F : Av Z h a ty vs) (E : Ext h h') : Av Z h' a ty vs := by obtain ⟨c, A, r⟩ := F; exact ⟨c, A.ext E, r⟩
theorem Av.other (F : Av Z h b ty vs) (W : Wr h h' a sl v) (q : b ≠ a) : Av Z h' b ty vs := by obtain ⟨c, A, r⟩ := F; exact ⟨c, A.other W q, r⟩
theorem Av.keep (F : Av Z h a ty vs) (K : Keep h h' ws) (q : a ∉ ws) : Av Z h' a ty vs := by obtain ⟨c, A, r⟩ := F; exact ⟨c, ⟨K.2.1 a c A.1 q, A.2⟩, r⟩
theorem Av.set (F : Av Z h a ty vs) (W : Wr h h' a sl v) : Av Z h' a ty (vs.set sl v) := by
  obtain ⟨c, A, e, r⟩ := F
  refine ⟨_, A.same W, ?_, by simpa using r⟩
  subst e
  simp [Cell.setSlot]
theorem Av.eq {vs' : List Value} (F : Av Z h a ty vs) (e : vs = vs') : Av Z h a ty vs' := e ▸ F
/-- an array of which the length is known alone -/
def AvN (Z : State) (h : Heap) (a : Addr) (ty : FieldType) (z : Int32) : Prop := ∃ vs, Av Z h a ty vs ∧ vs.length.toInt32 = z
theorem AvN.lt {z : Int32} (F : AvN Z h a ty z) : a < h.size := by obtain ⟨vs, A, -⟩ := F; exact A.lt
theorem AvN.ext {z : Int32} (F : AvN Z h a ty z) (E : Ext h h') : AvN Z h' a ty z := by obtain ⟨vs, A, r⟩ := F; exact ⟨vs, A.ext E, r⟩
theorem AvN.other {z : Int32} (F : AvN Z h b ty z) (W : Wr h h' a sl v) (q : b ≠ a) : AvN Z h' b ty z := by obtain ⟨vs, A, r⟩ := F; exact ⟨vs, A.other W q, r⟩
theorem AvN.keep {z : Int32} (F : AvN Z h a ty z) (K : Keep h h' ws) (q : a ∉ ws) : AvN Z h' a ty z := by obtain ⟨vs, A, r⟩ := F; exact ⟨vs, A.keep K q, r⟩
theorem Av.len (F : Av Z h a ty vs) : vs.length.toInt32.toInt = vs.length := by obtain ⟨_, _, _, r⟩ := F; exact len_toInt r
/-- an array over objects of the class C -/
def OvA (Z : State) (h : Heap) (a : Addr) (C : String) : Prop := ∃ cl : Cell, Arr Z h a cl (.object C) ∧ Ovr Z cl.cls C
theorem OvA.lt {C : String} (F : OvA Z h a C) : a < h.size := by obtain ⟨_, A, _⟩ := F; exact A.lt
theorem OvA.ext {C : String} (F : OvA Z h a C) (E : Ext h h') : OvA Z h' a C := by obtain ⟨cl, A, r⟩ := F; exact ⟨cl, A.ext E, r⟩
theorem OvA.keep {C : String} (F : OvA Z h a C) (K : Keep h h' ws) (q : a ∉ ws) : OvA Z h' a C := by obtain ⟨c, A, r⟩ := F; exact ⟨c, ⟨K.2.1 a c A.1 q, A.2⟩, r⟩
theorem OvA.wr {C : String} (F : OvA Z h a C) (W : Wr h h' b sl v) : OvA Z h' a C := by
  obtain ⟨cl, A, r⟩ := F
  by_cases q : a = b
  · subst q; exact ⟨_, A.same W, r⟩
  · exact ⟨cl, A.other W q, r⟩
theorem OvA.sto {C : String} (F : OvA Z h a C) (I : Ins Z h b C true) : Sto Z h a (.ref b) := by obtain ⟨cl, A, r⟩ := F; exact Sto.of A r I
theorem fit0 : ∀ v ∈ ([] : List Value), fits ty v = true := fun _ q => nomatch q
theorem fitS (q : fits ty v = true) (r : ∀ w ∈ vs, fits ty w = true) : ∀ w ∈ v :: vs, fits ty w = true := fun w hw => (List.mem_cons.mp hw).elim (fun e => e ▸ q) (r w)
theorem Sta.keep {C n d : String} (F : Sta Z h C n d v) (K : Keep h h' ws) (q : ∀ x ∈ ws, ∀ c : Cell, h[x]? = some c → c.vm.isStatics = false) : Sta Z h' C n d v := by
  obtain ⟨cf, i, k, f, st, cell, h1, h2, h3, h4, h5, h6, h7⟩ := F
  exact ⟨cf, i, k, f, st, cell, h1, h2, h3, h4, K.2.1 _ _ h5 (fun hm => by rw [q _ hm _ h5] at h6; cases h6), h6, h7⟩
end Facts
section Walk
variable {Z : State} {a0 : Array Value} {own : String} {bytes : ByteArray} {ml : Nat} {p : Program} {l : Launch} {e : Env} {R : Room} {s : State} {m : MethodId} {args : Array Value} {below : List Frame} {meth : Method} {c : Code} {T : State} {locs : List Loc} {cells slots : Nat} {h : Heap} {K : Outcome → State → Prop} {pc pc' : Nat} {Ls Ls' : Array Slot} {st : List Value}
theorem Go.lit32 {x z : Int32} (q : x = z) (k : Go p e below K (T.setTop (mkF m pc Ls (.int z :: st)))) : Go p e below K (T.setTop (mkF m pc Ls (.int x :: st))) := q ▸ k
theorem Go.lit64 {x z : Int64} (q : x = z) (k : Go p e below K (T.setTop (mkF m pc Ls (.long z :: st)))) : Go p e below K (T.setTop (mkF m pc Ls (.long x :: st))) := q ▸ k
theorem Go.at_ {f f' : JFrame} (q : f = f') (k : Go p e below K (T.setTop f')) : Go p e below K (T.setTop f) := q ▸ k
theorem g_iload (X : Sx Z own bytes ml p l e R s m args below meth c T locs cells slots h) {i : Nat} {v : Int32} (hd : decode bytes pc = .ok (.iload i, 2)) (hp : pc + 2 = pc') (hl : Ls[i]? = some (.val (.int v))) (k : Go p e below K (T.setTop (mkF m pc' Ls (.int v :: st)))) : Go p e below K (T.setTop (mkF m pc Ls (st))) := by
  subst hp; exact Go.step (fun t q => XS.iload X.1.here X.2.1 rfl (hb X.2.2.1 hd) hl q) k
theorem g_iloadN (X : Sx Z own bytes ml p l e R s m args below meth c T locs cells slots h) {i : Fin 4} {v : Int32} (hd : decode bytes pc = .ok (.iload_n i, 1)) (hp : pc + 1 = pc') (hl : Ls[i.val]? = some (.val (.int v))) (k : Go p e below K (T.setTop (mkF m pc' Ls (.int v :: st)))) : Go p e below K (T.setTop (mkF m pc Ls (st))) := by
  subst hp; exact Go.step (fun t q => XS.iloadN X.1.here X.2.1 rfl (hb X.2.2.1 hd) hl q) k
theorem g_lload (X : Sx Z own bytes ml p l e R s m args below meth c T locs cells slots h) {i : Nat} {v : Int64} (hd : decode bytes pc = .ok (.lload i, 2)) (hp : pc + 2 = pc') (hl : Ls[i]? = some (.val (.long v))) (k : Go p e below K (T.setTop (mkF m pc' Ls (.long v :: st)))) : Go p e below K (T.setTop (mkF m pc Ls (st))) := by
  subst hp; exact Go.step (fun t q => XS.lload X.1.here X.2.1 rfl (hb X.2.2.1 hd) hl q) k
theorem g_lloadN (X : Sx Z own bytes ml p l e R s m args below meth c T locs cells slots h) {i : Fin 4} {v : Int64} (hd : decode bytes pc = .ok (.lload_n i, 1)) (hp : pc + 1 = pc') (hl : Ls[i.val]? = some (.val (.long v))) (k : Go p e below K (T.setTop (mkF m pc' Ls (.long v :: st)))) : Go p e below K (T.setTop (mkF m pc Ls (st))) := by
  subst hp; exact Go.step (fun t q => XS.lloadN X.1.here X.2.1 rfl (hb X.2.2.1 hd) hl q) k
theorem g_aload (X : Sx Z own bytes ml p l e R s m args below meth c T locs cells slots h) {i : Nat} {v : Value} (hd : decode bytes pc = .ok (.aload i, 2)) (hp : pc + 2 = pc') (hl : Ls[i]? = some (.val v)) (hv : v.isRef = true) (k : Go p e below K (T.setTop (mkF m pc' Ls (v :: st)))) : Go p e below K (T.setTop (mkF m pc Ls (st))) := by
  subst hp; exact Go.step (fun t q => XS.aload X.1.here X.2.1 rfl (hb X.2.2.1 hd) hl hv q) k
theorem g_aloadN (X : Sx Z own bytes ml p l e R s m args below meth c T locs cells slots h) {i : Fin 4} {v : Value} (hd : decode bytes pc = .ok (.aload_n i, 1)) (hp : pc + 1 = pc') (hl : Ls[i.val]? = some (.val v)) (hv : v.isRef = true) (k : Go p e below K (T.setTop (mkF m pc' Ls (v :: st)))) : Go p e below K (T.setTop (mkF m pc Ls (st))) := by
  subst hp; exact Go.step (fun t q => XS.aloadN X.1.here X.2.1 rfl (hb X.2.2.1 hd) hl hv q) k
theorem g_istore (X : Sx Z own bytes ml p l e R s m args below meth c T locs cells slots h) {i : Nat} {v : Int32} (hd : decode bytes pc = .ok (.istore i, 2)) (hp : pc + 2 = pc') (hl : storeLocals Ls i (.int v) = some Ls') (k : Go p e below K (T.setTop (mkF m pc' Ls' (st)))) : Go p e below K (T.setTop (mkF m pc Ls (.int v :: st))) := by
  subst hp; exact Go.step (fun t q => XS.istore X.1.here X.2.1 rfl (hb X.2.2.1 hd) rfl hl q) k
theorem g_istoreN (X : Sx Z own bytes ml p l e R s m args below meth c T locs cells slots h) {i : Fin 4} {v : Int32} (hd : decode bytes pc = .ok (.istore_n i, 1)) (hp : pc + 1 = pc') (hl : storeLocals Ls i.val (.int v) = some Ls') (k : Go p e below K (T.setTop (mkF m pc' Ls' (st)))) : Go p e below K (T.setTop (mkF m pc Ls (.int v :: st))) := by
  subst hp; exact Go.step (fun t q => XS.istoreN X.1.here X.2.1 rfl (hb X.2.2.1 hd) rfl hl q) k
theorem g_lstore (X : Sx Z own bytes ml p l e R s m args below meth c T locs cells slots h) {i : Nat} {v : Int64} (hd : decode bytes pc = .ok (.lstore i, 2)) (hp : pc + 2 = pc') (hl : storeLocals Ls i (.long v) = some Ls') (k : Go p e below K (T.setTop (mkF m pc' Ls' (st)))) : Go p e below K (T.setTop (mkF m pc Ls (.long v :: st))) := by
  subst hp; exact Go.step (fun t q => XS.lstore X.1.here X.2.1 rfl (hb X.2.2.1 hd) rfl hl q) k
theorem g_lstoreN (X : Sx Z own bytes ml p l e R s m args below meth c T locs cells slots h) {i : Fin 4} {v : Int64} (hd : decode bytes pc = .ok (.lstore_n i, 1)) (hp : pc + 1 = pc') (hl : storeLocals Ls i.val (.long v) = some Ls') (k : Go p e below K (T.setTop (mkF m pc' Ls' (st)))) : Go p e below K (T.setTop (mkF m pc Ls (.long v :: st))) := by
  subst hp; exact Go.step (fun t q => XS.lstoreN X.1.here X.2.1 rfl (hb X.2.2.1 hd) rfl hl q) k
theorem g_astore (X : Sx Z own bytes ml p l e R s m args below meth c T locs cells slots h) {i : Nat} {v : Value} (hd : decode bytes pc = .ok (.astore i, 2)) (hp : pc + 2 = pc') (hv : v.isRef = true) (hl : storeLocals Ls i v = some Ls') (k : Go p e below K (T.setTop (mkF m pc' Ls' (st)))) : Go p e below K (T.setTop (mkF m pc Ls (v :: st))) := by
  subst hp; exact Go.step (fun t q => XS.astore X.1.here X.2.1 rfl (hb X.2.2.1 hd) rfl hv hl q) k
theorem g_astoreN (X : Sx Z own bytes ml p l e R s m args below meth c T locs cells slots h) {i : Fin 4} {v : Value} (hd : decode bytes pc = .ok (.astore_n i, 1)) (hp : pc + 1 = pc') (hv : v.isRef = true) (hl : storeLocals Ls i.val v = some Ls') (k : Go p e below K (T.setTop (mkF m pc' Ls' (st)))) : Go p e below K (T.setTop (mkF m pc Ls (v :: st))) := by
  subst hp; exact Go.step (fun t q => XS.astoreN X.1.here X.2.1 rfl (hb X.2.2.1 hd) rfl hv hl q) k
theorem g_iconst (X : Sx Z own bytes ml p l e R s m args below meth c T locs cells slots h) {i : Int} (v : Int32) (hd : decode bytes pc = .ok (.iconst i, 1)) (hp : pc + 1 = pc') (hv : Int32.ofInt i = v) (k : Go p e below K (T.setTop (mkF m pc' Ls (.int v :: st)))) : Go p e below K (T.setTop (mkF m pc Ls (st))) := by
  subst hv; subst hp; exact Go.step (fun t q => XS.iconst X.1.here X.2.1 rfl (hb X.2.2.1 hd)  q) k
theorem g_bipush (X : Sx Z own bytes ml p l e R s m args below meth c T locs cells slots h) {i : Int} (v : Int32) (hd : decode bytes pc = .ok (.bipush i, 2)) (hp : pc + 2 = pc') (hv : (Int8.ofInt i).toInt32 = v) (k : Go p e below K (T.setTop (mkF m pc' Ls (.int v :: st)))) : Go p e below K (T.setTop (mkF m pc Ls (st))) := by
  subst hv; subst hp; exact Go.step (fun t q => XS.bipush X.1.here X.2.1 rfl (hb X.2.2.1 hd)  q) k
theorem g_sipush (X : Sx Z own bytes ml p l e R s m args below meth c T locs cells slots h) {i : Int} (v : Int32) (hd : decode bytes pc = .ok (.sipush i, 3)) (hp : pc + 3 = pc') (hv : (Int16.ofInt i).toInt32 = v) (k : Go p e below K (T.setTop (mkF m pc' Ls (.int v :: st)))) : Go p e below K (T.setTop (mkF m pc Ls (st))) := by
  subst hv; subst hp; exact Go.step (fun t q => XS.sipush X.1.here X.2.1 rfl (hb X.2.2.1 hd)  q) k
theorem g_lconst (X : Sx Z own bytes ml p l e R s m args below meth c T locs cells slots h) {i : Fin 2} (v : Int64) (hd : decode bytes pc = .ok (.lconst i, 1)) (hp : pc + 1 = pc') (hv : Int64.ofNat i = v) (k : Go p e below K (T.setTop (mkF m pc' Ls (.long v :: st)))) : Go p e below K (T.setTop (mkF m pc Ls (st))) := by
  subst hv; subst hp; exact Go.step (fun t q => XS.lconst X.1.here X.2.1 rfl (hb X.2.2.1 hd)  q) k
theorem g_aconst_null (X : Sx Z own bytes ml p l e R s m args below meth c T locs cells slots h) (hd : decode bytes pc = .ok (.aconst_null, 1)) (hp : pc + 1 = pc') (k : Go p e below K (T.setTop (mkF m pc' Ls (.null :: st)))) : Go p e below K (T.setTop (mkF m pc Ls (st))) := by
  subst hp; exact Go.step (fun t q => XS.aconstNull X.1.here X.2.1 rfl (hb X.2.2.1 hd)  q) k
theorem g_ldc (X : Sx Z own bytes ml p l e R s m args below meth c T locs cells slots h) {i : Nat} {v : Int32} (w : (Cond.constant own i v).before a0 Z = true) (hd : decode bytes pc = .ok (.ldc i, 2)) (hp : pc + 2 = pc') (k : Go p e below K (T.setTop (mkF m pc' Ls (.int v :: st)))) : Go p e below K (T.setTop (mkF m pc Ls (st))) := by
  subst hp; exact Go.step (fun t q => X.1.ldcInt X.2.1 X.2.2.2.2.1 (mvT X.2.2.2.2.2.1 w) (g := mkF m pc Ls st) rfl (hb X.2.2.1 hd) _ q) k
theorem g_ldcw (X : Sx Z own bytes ml p l e R s m args below meth c T locs cells slots h) {i : Nat} {v : Int32} (w : (Cond.constant own i v).before a0 Z = true) (hd : decode bytes pc = .ok (.ldc_w i, 3)) (hp : pc + 3 = pc') (k : Go p e below K (T.setTop (mkF m pc' Ls (.int v :: st)))) : Go p e below K (T.setTop (mkF m pc Ls (st))) := by
  subst hp; exact Go.step (fun t q => X.1.ldcwInt X.2.1 X.2.2.2.2.1 (mvT X.2.2.2.2.2.1 w) (g := mkF m pc Ls st) rfl (hb X.2.2.1 hd) _ q) k
theorem g_ldc2 (X : Sx Z own bytes ml p l e R s m args below meth c T locs cells slots h) {i : Nat} {v : Int64} (w : (Cond.constantLong own i v).before a0 Z = true) (hd : decode bytes pc = .ok (.ldc2_w i, 3)) (hp : pc + 3 = pc') (k : Go p e below K (T.setTop (mkF m pc' Ls (.long v :: st)))) : Go p e below K (T.setTop (mkF m pc Ls (st))) := by
  subst hp; exact Go.step (fun t q => X.1.ldc2Long X.2.1 X.2.2.2.2.1 (mvT X.2.2.2.2.2.1 w) (g := mkF m pc Ls st) rfl (hb X.2.2.1 hd) _ q) k
theorem g_iadd (X : Sx Z own bytes ml p l e R s m args below meth c T locs cells slots h) {x y : Int32} (hd : decode bytes pc = .ok (.iadd, 1)) (hp : pc + 1 = pc') (k : Go p e below K (T.setTop (mkF m pc' Ls (.int (x + y) :: st)))) : Go p e below K (T.setTop (mkF m pc Ls (.int y :: .int x :: st))) := by
  subst hp; exact Go.step (fun t q => XS.iadd X.1.here X.2.1 rfl (hb X.2.2.1 hd) rfl q) k
theorem g_isub (X : Sx Z own bytes ml p l e R s m args below meth c T locs cells slots h) {x y : Int32} (hd : decode bytes pc = .ok (.isub, 1)) (hp : pc + 1 = pc') (k : Go p e below K (T.setTop (mkF m pc' Ls (.int (x - y) :: st)))) : Go p e below K (T.setTop (mkF m pc Ls (.int y :: .int x :: st))) := by
  subst hp; exact Go.step (fun t q => XS.isub X.1.here X.2.1 rfl (hb X.2.2.1 hd) rfl q) k
theorem g_imul (X : Sx Z own bytes ml p l e R s m args below meth c T locs cells slots h) {x y : Int32} (hd : decode bytes pc = .ok (.imul, 1)) (hp : pc + 1 = pc') (k : Go p e below K (T.setTop (mkF m pc' Ls (.int (x * y) :: st)))) : Go p e below K (T.setTop (mkF m pc Ls (.int y :: .int x :: st))) := by
  subst hp; exact Go.step (fun t q => XS.imul X.1.here X.2.1 rfl (hb X.2.2.1 hd) rfl q) k
theorem g_iand (X : Sx Z own bytes ml p l e R s m args below meth c T locs cells slots h) {x y : Int32} (hd : decode bytes pc = .ok (.iand, 1)) (hp : pc + 1 = pc') (k : Go p e below K (T.setTop (mkF m pc' Ls (.int (x &&& y) :: st)))) : Go p e below K (T.setTop (mkF m pc Ls (.int y :: .int x :: st))) := by
  subst hp; exact Go.step (fun t q => XS.iand X.1.here X.2.1 rfl (hb X.2.2.1 hd) rfl q) k
theorem g_ior (X : Sx Z own bytes ml p l e R s m args below meth c T locs cells slots h) {x y : Int32} (hd : decode bytes pc = .ok (.ior, 1)) (hp : pc + 1 = pc') (k : Go p e below K (T.setTop (mkF m pc' Ls (.int (x ||| y) :: st)))) : Go p e below K (T.setTop (mkF m pc Ls (.int y :: .int x :: st))) := by
  subst hp; exact Go.step (fun t q => XS.ior X.1.here X.2.1 rfl (hb X.2.2.1 hd) rfl q) k
theorem g_ixor (X : Sx Z own bytes ml p l e R s m args below meth c T locs cells slots h) {x y : Int32} (hd : decode bytes pc = .ok (.ixor, 1)) (hp : pc + 1 = pc') (k : Go p e below K (T.setTop (mkF m pc' Ls (.int (x ^^^ y) :: st)))) : Go p e below K (T.setTop (mkF m pc Ls (.int y :: .int x :: st))) := by
  subst hp; exact Go.step (fun t q => XS.ixor X.1.here X.2.1 rfl (hb X.2.2.1 hd) rfl q) k
theorem g_ishl (X : Sx Z own bytes ml p l e R s m args below meth c T locs cells slots h) {x y : Int32} (hd : decode bytes pc = .ok (.ishl, 1)) (hp : pc + 1 = pc') (k : Go p e below K (T.setTop (mkF m pc' Ls (.int (x <<< (y &&& 31)) :: st)))) : Go p e below K (T.setTop (mkF m pc Ls (.int y :: .int x :: st))) := by
  subst hp; exact Go.step (fun t q => XS.ishl X.1.here X.2.1 rfl (hb X.2.2.1 hd) rfl q) k
theorem g_ishr (X : Sx Z own bytes ml p l e R s m args below meth c T locs cells slots h) {x y : Int32} (hd : decode bytes pc = .ok (.ishr, 1)) (hp : pc + 1 = pc') (k : Go p e below K (T.setTop (mkF m pc' Ls (.int (x >>> (y &&& 31)) :: st)))) : Go p e below K (T.setTop (mkF m pc Ls (.int y :: .int x :: st))) := by
  subst hp; exact Go.step (fun t q => XS.ishr X.1.here X.2.1 rfl (hb X.2.2.1 hd) rfl q) k
theorem g_iushr (X : Sx Z own bytes ml p l e R s m args below meth c T locs cells slots h) {x y : Int32} (hd : decode bytes pc = .ok (.iushr, 1)) (hp : pc + 1 = pc') (k : Go p e below K (T.setTop (mkF m pc' Ls (.int ((x.toUInt32 >>> (y &&& 31).toUInt32).toInt32) :: st)))) : Go p e below K (T.setTop (mkF m pc Ls (.int y :: .int x :: st))) := by
  subst hp; exact Go.step (fun t q => XS.iushr X.1.here X.2.1 rfl (hb X.2.2.1 hd) rfl q) k
theorem g_idiv (X : Sx Z own bytes ml p l e R s m args below meth c T locs cells slots h) {x y : Int32} (hd : decode bytes pc = .ok (.idiv, 1)) (hp : pc + 1 = pc') (hy : y ≠ 0) (k : Go p e below K (T.setTop (mkF m pc' Ls (.int (x / y) :: st)))) : Go p e below K (T.setTop (mkF m pc Ls (.int y :: .int x :: st))) := by
  subst hp; exact Go.step (fun t q => XS.idiv X.1.here X.2.1 rfl (hb X.2.2.1 hd) rfl hy q) k
theorem g_irem (X : Sx Z own bytes ml p l e R s m args below meth c T locs cells slots h) {x y : Int32} (hd : decode bytes pc = .ok (.irem, 1)) (hp : pc + 1 = pc') (hy : y ≠ 0) (k : Go p e below K (T.setTop (mkF m pc' Ls (.int (x % y) :: st)))) : Go p e below K (T.setTop (mkF m pc Ls (.int y :: .int x :: st))) := by
  subst hp; exact Go.step (fun t q => iremM (g := mkF m pc Ls (.int y :: .int x :: st)) X.1 X.2.1 rfl (hb X.2.2.1 hd) rfl hy q) k
theorem g_ladd (X : Sx Z own bytes ml p l e R s m args below meth c T locs cells slots h) {x y : Int64} (hd : decode bytes pc = .ok (.ladd, 1)) (hp : pc + 1 = pc') (k : Go p e below K (T.setTop (mkF m pc' Ls (.long (x + y) :: st)))) : Go p e below K (T.setTop (mkF m pc Ls (.long y :: .long x :: st))) := by
  subst hp; exact Go.step (fun t q => XS.ladd X.1.here X.2.1 rfl (hb X.2.2.1 hd) rfl q) k
theorem g_lsub (X : Sx Z own bytes ml p l e R s m args below meth c T locs cells slots h) {x y : Int64} (hd : decode bytes pc = .ok (.lsub, 1)) (hp : pc + 1 = pc') (k : Go p e below K (T.setTop (mkF m pc' Ls (.long (x - y) :: st)))) : Go p e below K (T.setTop (mkF m pc Ls (.long y :: .long x :: st))) := by
  subst hp; exact Go.step (fun t q => XS.lsub X.1.here X.2.1 rfl (hb X.2.2.1 hd) rfl q) k
theorem g_lmul (X : Sx Z own bytes ml p l e R s m args below meth c T locs cells slots h) {x y : Int64} (hd : decode bytes pc = .ok (.lmul, 1)) (hp : pc + 1 = pc') (k : Go p e below K (T.setTop (mkF m pc' Ls (.long (x * y) :: st)))) : Go p e below K (T.setTop (mkF m pc Ls (.long y :: .long x :: st))) := by
  subst hp; exact Go.step (fun t q => XS.lmul X.1.here X.2.1 rfl (hb X.2.2.1 hd) rfl q) k
theorem g_land (X : Sx Z own bytes ml p l e R s m args below meth c T locs cells slots h) {x y : Int64} (hd : decode bytes pc = .ok (.land, 1)) (hp : pc + 1 = pc') (k : Go p e below K (T.setTop (mkF m pc' Ls (.long (x &&& y) :: st)))) : Go p e below K (T.setTop (mkF m pc Ls (.long y :: .long x :: st))) := by
  subst hp; exact Go.step (fun t q => XS.land X.1.here X.2.1 rfl (hb X.2.2.1 hd) rfl q) k
theorem g_lor (X : Sx Z own bytes ml p l e R s m args below meth c T locs cells slots h) {x y : Int64} (hd : decode bytes pc = .ok (.lor, 1)) (hp : pc + 1 = pc') (k : Go p e below K (T.setTop (mkF m pc' Ls (.long (x ||| y) :: st)))) : Go p e below K (T.setTop (mkF m pc Ls (.long y :: .long x :: st))) := by
  subst hp; exact Go.step (fun t q => XS.lor X.1.here X.2.1 rfl (hb X.2.2.1 hd) rfl q) k
theorem g_lxor (X : Sx Z own bytes ml p l e R s m args below meth c T locs cells slots h) {x y : Int64} (hd : decode bytes pc = .ok (.lxor, 1)) (hp : pc + 1 = pc') (k : Go p e below K (T.setTop (mkF m pc' Ls (.long (x ^^^ y) :: st)))) : Go p e below K (T.setTop (mkF m pc Ls (.long y :: .long x :: st))) := by
  subst hp; exact Go.step (fun t q => XS.lxor X.1.here X.2.1 rfl (hb X.2.2.1 hd) rfl q) k
theorem g_lshl (X : Sx Z own bytes ml p l e R s m args below meth c T locs cells slots h) {x : Int64} {y : Int32} (hd : decode bytes pc = .ok (.lshl, 1)) (hp : pc + 1 = pc') (k : Go p e below K (T.setTop (mkF m pc' Ls (.long (x <<< (y &&& 0x3f).toInt64) :: st)))) : Go p e below K (T.setTop (mkF m pc Ls (.int y :: .long x :: st))) := by
  subst hp; exact Go.step (fun t q => XS.lshl X.1.here X.2.1 rfl (hb X.2.2.1 hd) rfl q) k
theorem g_lshr (X : Sx Z own bytes ml p l e R s m args below meth c T locs cells slots h) {x : Int64} {y : Int32} (hd : decode bytes pc = .ok (.lshr, 1)) (hp : pc + 1 = pc') (k : Go p e below K (T.setTop (mkF m pc' Ls (.long (x >>> (y &&& 0x3f).toInt64) :: st)))) : Go p e below K (T.setTop (mkF m pc Ls (.int y :: .long x :: st))) := by
  subst hp; exact Go.step (fun t q => XS.lshr X.1.here X.2.1 rfl (hb X.2.2.1 hd) rfl q) k
theorem g_lushr (X : Sx Z own bytes ml p l e R s m args below meth c T locs cells slots h) {x : Int64} {y : Int32} (hd : decode bytes pc = .ok (.lushr, 1)) (hp : pc + 1 = pc') (k : Go p e below K (T.setTop (mkF m pc' Ls (.long ((x.toUInt64 >>> (y &&& 0x3f).toInt64.toUInt64).toInt64) :: st)))) : Go p e below K (T.setTop (mkF m pc Ls (.int y :: .long x :: st))) := by
  subst hp; exact Go.step (fun t q => XS.lushr X.1.here X.2.1 rfl (hb X.2.2.1 hd) rfl q) k
theorem g_ldiv (X : Sx Z own bytes ml p l e R s m args below meth c T locs cells slots h) {x y : Int64} (hd : decode bytes pc = .ok (.ldiv, 1)) (hp : pc + 1 = pc') (hy : y ≠ 0) (k : Go p e below K (T.setTop (mkF m pc' Ls (.long (x / y) :: st)))) : Go p e below K (T.setTop (mkF m pc Ls (.long y :: .long x :: st))) := by
  subst hp; exact Go.step (fun t q => XS.ldiv X.1.here X.2.1 rfl (hb X.2.2.1 hd) rfl hy q) k
theorem g_lrem (X : Sx Z own bytes ml p l e R s m args below meth c T locs cells slots h) {x y : Int64} (hd : decode bytes pc = .ok (.lrem, 1)) (hp : pc + 1 = pc') (hy : y ≠ 0) (k : Go p e below K (T.setTop (mkF m pc' Ls (.long (x % y) :: st)))) : Go p e below K (T.setTop (mkF m pc Ls (.long y :: .long x :: st))) := by
  rw [← lrem_mod] at k; subst hp; exact Go.step (fun t q => XS.lrem X.1.here X.2.1 rfl (hb X.2.2.1 hd) rfl hy q) k
theorem g_lcmp (X : Sx Z own bytes ml p l e R s m args below meth c T locs cells slots h) {x y : Int64} (hd : decode bytes pc = .ok (.lcmp, 1)) (hp : pc + 1 = pc') (k : Go p e below K (T.setTop (mkF m pc' Ls (.int (lcmpW x y) :: st)))) : Go p e below K (T.setTop (mkF m pc Ls (.long y :: .long x :: st))) := by
  subst hp; exact Go.step (fun t q => XS.lcmp X.1.here X.2.1 rfl (hb X.2.2.1 hd) rfl q) k
theorem g_ineg (X : Sx Z own bytes ml p l e R s m args below meth c T locs cells slots h) {x : Int32} (hd : decode bytes pc = .ok (.ineg, 1)) (hp : pc + 1 = pc') (k : Go p e below K (T.setTop (mkF m pc' Ls (.int (-x) :: st)))) : Go p e below K (T.setTop (mkF m pc Ls (.int x :: st))) := by
  subst hp; exact Go.step (fun t q => XS.ineg X.1.here X.2.1 rfl (hb X.2.2.1 hd) rfl q) k
theorem g_i2b (X : Sx Z own bytes ml p l e R s m args below meth c T locs cells slots h) {x : Int32} (hd : decode bytes pc = .ok (.i2b, 1)) (hp : pc + 1 = pc') (k : Go p e below K (T.setTop (mkF m pc' Ls (.int (x.toInt8.toInt32) :: st)))) : Go p e below K (T.setTop (mkF m pc Ls (.int x :: st))) := by
  subst hp; exact Go.step (fun t q => XS.i2b X.1.here X.2.1 rfl (hb X.2.2.1 hd) rfl q) k
theorem g_i2c (X : Sx Z own bytes ml p l e R s m args below meth c T locs cells slots h) {x : Int32} (hd : decode bytes pc = .ok (.i2c, 1)) (hp : pc + 1 = pc') (k : Go p e below K (T.setTop (mkF m pc' Ls (.int (x.toUInt32.toUInt16.toUInt32.toInt32) :: st)))) : Go p e below K (T.setTop (mkF m pc Ls (.int x :: st))) := by
  subst hp; exact Go.step (fun t q => XS.i2c X.1.here X.2.1 rfl (hb X.2.2.1 hd) rfl q) k
theorem g_i2s (X : Sx Z own bytes ml p l e R s m args below meth c T locs cells slots h) {x : Int32} (hd : decode bytes pc = .ok (.i2s, 1)) (hp : pc + 1 = pc') (k : Go p e below K (T.setTop (mkF m pc' Ls (.int (x.toInt16.toInt32) :: st)))) : Go p e below K (T.setTop (mkF m pc Ls (.int x :: st))) := by
  subst hp; exact Go.step (fun t q => XS.i2s X.1.here X.2.1 rfl (hb X.2.2.1 hd) rfl q) k
theorem g_i2l (X : Sx Z own bytes ml p l e R s m args below meth c T locs cells slots h) {x : Int32} (hd : decode bytes pc = .ok (.i2l, 1)) (hp : pc + 1 = pc') (k : Go p e below K (T.setTop (mkF m pc' Ls (.long (x.toInt64) :: st)))) : Go p e below K (T.setTop (mkF m pc Ls (.int x :: st))) := by
  subst hp; exact Go.step (fun t q => XS.i2l X.1.here X.2.1 rfl (hb X.2.2.1 hd) rfl q) k
theorem g_l2i (X : Sx Z own bytes ml p l e R s m args below meth c T locs cells slots h) {x : Int64} (hd : decode bytes pc = .ok (.l2i, 1)) (hp : pc + 1 = pc') (k : Go p e below K (T.setTop (mkF m pc' Ls (.int (x.toInt32) :: st)))) : Go p e below K (T.setTop (mkF m pc Ls (.long x :: st))) := by
  subst hp; exact Go.step (fun t q => XS.l2i X.1.here X.2.1 rfl (hb X.2.2.1 hd) rfl q) k
theorem g_lneg (X : Sx Z own bytes ml p l e R s m args below meth c T locs cells slots h) {x : Int64} (hd : decode bytes pc = .ok (.lneg, 1)) (hp : pc + 1 = pc') (k : Go p e below K (T.setTop (mkF m pc' Ls (.long (-x) :: st)))) : Go p e below K (T.setTop (mkF m pc Ls (.long x :: st))) := by
  subst hp; exact Go.step (fun t q => XS.lneg X.1.here X.2.1 rfl (hb X.2.2.1 hd) rfl q) k
theorem g_iinc (X : Sx Z own bytes ml p l e R s m args below meth c T locs cells slots h) {i : Nat} {q x : Int32} {n : Int} (hd : decode bytes pc = .ok (.iinc i n, 3)) (hp : pc + 3 = pc') (hq : Int32.ofInt n = q) (hl : Ls[i]? = some (.val (.int x))) (hl' : storeLocals Ls i (.int (x + q)) = some Ls') (k : Go p e below K (T.setTop (mkF m pc' Ls' (st)))) : Go p e below K (T.setTop (mkF m pc Ls (st))) := by
  subst hq; subst hp; exact Go.step (fun t q => XS.iinc X.1.here X.2.1 rfl (hb X.2.2.1 hd) hl hl' q) k
theorem g_dup (X : Sx Z own bytes ml p l e R s m args below meth c T locs cells slots h) {v : Value} (hd : decode bytes pc = .ok (.dup, 1)) (hp : pc + 1 = pc') (hc : v.category = 1) (k : Go p e below K (T.setTop (mkF m pc' Ls (v :: v :: st)))) : Go p e below K (T.setTop (mkF m pc Ls (v :: st))) := by
  subst hp; exact Go.step (fun t q => XS.dup X.1.here X.2.1 rfl (hb X.2.2.1 hd) rfl hc q) k
theorem g_pop (X : Sx Z own bytes ml p l e R s m args below meth c T locs cells slots h) {v : Value} (hd : decode bytes pc = .ok (.pop, 1)) (hp : pc + 1 = pc') (hc : v.category = 1) (k : Go p e below K (T.setTop (mkF m pc' Ls (st)))) : Go p e below K (T.setTop (mkF m pc Ls (v :: st))) := by
  subst hp; exact Go.step (fun t q => XS.pop X.1.here X.2.1 rfl (hb X.2.2.1 hd) rfl hc q) k
theorem g_dup_x1 (X : Sx Z own bytes ml p l e R s m args below meth c T locs cells slots h) {v w : Value} (hd : decode bytes pc = .ok (.dup_x1, 1)) (hp : pc + 1 = pc') (hc : v.category = 1) (hc' : w.category = 1) (k : Go p e below K (T.setTop (mkF m pc' Ls (v :: w :: v :: st)))) : Go p e below K (T.setTop (mkF m pc Ls (v :: w :: st))) := by
  subst hp; exact Go.step (fun t q => XS.dupX1 X.1.here X.2.1 rfl (hb X.2.2.1 hd) rfl hc hc' q) k
theorem g_dup2 (X : Sx Z own bytes ml p l e R s m args below meth c T locs cells slots h) {v w : Value} (hd : decode bytes pc = .ok (.dup2, 1)) (hp : pc + 1 = pc') (hc : v.category = 1) (hc' : w.category = 1) (k : Go p e below K (T.setTop (mkF m pc' Ls (v :: w :: v :: w :: st)))) : Go p e below K (T.setTop (mkF m pc Ls (v :: w :: st))) := by
  subst hp; exact Go.step (fun t q => Jvm.Free.XT.dup2 X.1.here X.2.1 rfl (hb X.2.2.1 hd) rfl hc hc' q) k
theorem g_dup2L (X : Sx Z own bytes ml p l e R s m args below meth c T locs cells slots h) {v : Int64} (hd : decode bytes pc = .ok (.dup2, 1)) (hp : pc + 1 = pc') (k : Go p e below K (T.setTop (mkF m pc' Ls (.long v :: .long v :: st)))) : Go p e below K (T.setTop (mkF m pc Ls (.long v :: st))) := by
  subst hp; exact Go.step (fun t q => Jvm.Free.XT.dup2L X.1.here X.2.1 rfl (hb X.2.2.1 hd) rfl q) k
theorem g_dload (X : Sx Z own bytes ml p l e R s m args below meth c T locs cells slots h) {i : Nat} {v : UInt64} (hd : decode bytes pc = .ok (.dload i, 2)) (hp : pc + 2 = pc') (hl : Ls[i]? = some (.val (.double v))) (k : Go p e below K (T.setTop (mkF m pc' Ls (.double v :: st)))) : Go p e below K (T.setTop (mkF m pc Ls (st))) := by
  subst hp; exact Go.step (fun t q => XS.dload X.1.here X.2.1 rfl (hb X.2.2.1 hd) hl q) k
theorem g_dloadN (X : Sx Z own bytes ml p l e R s m args below meth c T locs cells slots h) {i : Fin 4} {v : UInt64} (hd : decode bytes pc = .ok (.dload_n i, 1)) (hp : pc + 1 = pc') (hl : Ls[i.val]? = some (.val (.double v))) (k : Go p e below K (T.setTop (mkF m pc' Ls (.double v :: st)))) : Go p e below K (T.setTop (mkF m pc Ls (st))) := by
  subst hp; exact Go.step (fun t q => XS.dloadN X.1.here X.2.1 rfl (hb X.2.2.1 hd) hl q) k
theorem g_i2d (X : Sx Z own bytes ml p l e R s m args below meth c T locs cells slots h) {x : Int32} (hd : decode bytes pc = .ok (.i2d, 1)) (hp : pc + 1 = pc') (k : Go p e below K (T.setTop (mkF m pc' Ls (.double (FP.i2d x) :: st)))) : Go p e below K (T.setTop (mkF m pc Ls (.int x :: st))) := by
  subst hp; exact Go.step (fun t q => XS.i2dS X.1.here X.2.1 rfl (hb X.2.2.1 hd) rfl rfl q) k
theorem g_dcmp (X : Sx Z own bytes ml p l e R s m args below meth c T locs cells slots h) {o : CmpOp} {x y : UInt64} (hd : decode bytes pc = .ok (.dcmp o, 1)) (hp : pc + 1 = pc') (k : ∀ v : Int32, Go p e below K (T.setTop (mkF m pc' Ls (.int v :: st)))) : Go p e below K (T.setTop (mkF m pc Ls (.double y :: .double x :: st))) := by
  subst hp; exact Go.step (fun t q => XS.dcmpS X.1.here X.2.1 rfl (hb X.2.2.1 hd) rfl rfl q) (k _)
theorem g_goto (X : Sx Z own bytes ml p l e R s m args below meth c T locs cells slots h) {o : Int} (hd : decode bytes pc = .ok (.goto o, 3)) (ho : 0 ≤ (pc : Int) + o) (hp : ((pc : Int) + o).toNat = pc') (k : Go p e below K (T.setTop (mkF m pc' Ls (st)))) : Go p e below K (T.setTop (mkF m pc Ls (st))) := by
  exact Go.step (fun t q => XS.goto X.1.here X.2.1 rfl rfl (hb X.2.2.1 hd) ho hp q) k
theorem g_ifY (X : Sx Z own bytes ml p l e R s m args below meth c T locs cells slots h) {cd : ClassFile.Cond} {x : Int32} {o : Int} (hd : decode bytes pc = .ok (.ifCond cd o, 3)) (hc : ifCond.holds cd x = true) (ho : 0 ≤ (pc : Int) + o) (hp : ((pc : Int) + o).toNat = pc') (k : Go p e below K (T.setTop (mkF m pc' Ls (st)))) : Go p e below K (T.setTop (mkF m pc Ls (.int x :: st))) := by
  exact Go.step (fun t q => XS.ifYes X.1.here X.2.1 rfl rfl (hb X.2.2.1 hd) rfl hc ho hp q) k
theorem g_ifN (X : Sx Z own bytes ml p l e R s m args below meth c T locs cells slots h) {cd : ClassFile.Cond} {x : Int32} {o : Int} (hd : decode bytes pc = .ok (.ifCond cd o, 3)) (hc : ifCond.holds cd x = false) (hp : pc + 3 = pc') (k : Go p e below K (T.setTop (mkF m pc' Ls (st)))) : Go p e below K (T.setTop (mkF m pc Ls (.int x :: st))) := by
  subst hp; exact Go.step (fun t q => XS.ifNo X.1.here X.2.1 rfl (hb X.2.2.1 hd) rfl hc q) k
theorem g_icY (X : Sx Z own bytes ml p l e R s m args below meth c T locs cells slots h) {cd : ClassFile.Cond} {x y : Int32} {o : Int} (hd : decode bytes pc = .ok (.if_icmp cd o, 3)) (hc : if_icmp.holds cd x y = true) (ho : 0 ≤ (pc : Int) + o) (hp : ((pc : Int) + o).toNat = pc') (k : Go p e below K (T.setTop (mkF m pc' Ls (st)))) : Go p e below K (T.setTop (mkF m pc Ls (.int y :: .int x :: st))) := by
  exact Go.step (fun t q => XS.icmpYes X.1.here X.2.1 rfl rfl (hb X.2.2.1 hd) rfl hc ho hp q) k
theorem g_icN (X : Sx Z own bytes ml p l e R s m args below meth c T locs cells slots h) {cd : ClassFile.Cond} {x y : Int32} {o : Int} (hd : decode bytes pc = .ok (.if_icmp cd o, 3)) (hc : if_icmp.holds cd x y = false) (hp : pc + 3 = pc') (k : Go p e below K (T.setTop (mkF m pc' Ls (st)))) : Go p e below K (T.setTop (mkF m pc Ls (.int y :: .int x :: st))) := by
  subst hp; exact Go.step (fun t q => XS.icmpNo X.1.here X.2.1 rfl (hb X.2.2.1 hd) rfl hc q) k
theorem g_nullY (X : Sx Z own bytes ml p l e R s m args below meth c T locs cells slots h) {o : Int} (hd : decode bytes pc = .ok (.ifnull o, 3)) (ho : 0 ≤ (pc : Int) + o) (hp : ((pc : Int) + o).toNat = pc') (k : Go p e below K (T.setTop (mkF m pc' Ls (st)))) : Go p e below K (T.setTop (mkF m pc Ls (.null :: st))) := by
  exact Go.step (fun t q => XS.ifnullYes X.1.here X.2.1 rfl rfl (hb X.2.2.1 hd) rfl ho hp q) k
theorem g_nullN (X : Sx Z own bytes ml p l e R s m args below meth c T locs cells slots h) {o : Int} {b : Addr} (hd : decode bytes pc = .ok (.ifnull o, 3)) (hp : pc + 3 = pc') (k : Go p e below K (T.setTop (mkF m pc' Ls (st)))) : Go p e below K (T.setTop (mkF m pc Ls (.ref b :: st))) := by
  subst hp; exact Go.step (fun t q => XS.ifnullNo X.1.here X.2.1 rfl (hb X.2.2.1 hd) rfl q) k
theorem g_nonnullY (X : Sx Z own bytes ml p l e R s m args below meth c T locs cells slots h) {o : Int} {b : Addr} (hd : decode bytes pc = .ok (.ifnonnull o, 3)) (ho : 0 ≤ (pc : Int) + o) (hp : ((pc : Int) + o).toNat = pc') (k : Go p e below K (T.setTop (mkF m pc' Ls (st)))) : Go p e below K (T.setTop (mkF m pc Ls (.ref b :: st))) := by
  exact Go.step (fun t q => XS.ifnonnullYes X.1.here X.2.1 rfl rfl (hb X.2.2.1 hd) rfl ho hp q) k
theorem g_nonnullN (X : Sx Z own bytes ml p l e R s m args below meth c T locs cells slots h) {o : Int} (hd : decode bytes pc = .ok (.ifnonnull o, 3)) (hp : pc + 3 = pc') (k : Go p e below K (T.setTop (mkF m pc' Ls (st)))) : Go p e below K (T.setTop (mkF m pc Ls (.null :: st))) := by
  subst hp; exact Go.step (fun t q => XS.ifnonnullNo X.1.here X.2.1 rfl (hb X.2.2.1 hd) rfl q) k
theorem g_acmp (X : Sx Z own bytes ml p l e R s m args below meth c T locs cells slots h) {cd : ACond} {x y : Value} {o : Int} {same : Bool} (hd : decode bytes pc = .ok (.if_acmp cd o, 3)) (h1 : x.isRef = true) (h2 : y.isRef = true) (hq : decide (x = y) = same) (ho : 0 ≤ (pc : Int) + o) (hp : pc' = if acV cd same = true then ((pc : Int) + o).toNat else pc + 3) (k : Go p e below K (T.setTop (mkF m pc' Ls (st)))) : Go p e below K (T.setTop (mkF m pc Ls (y :: x :: st))) := by
  exact Go.step (fun t q => acmp (g := mkF m pc Ls (y :: x :: st)) X.1 X.2.1 rfl h1 h2 rfl (hb X.2.2.1 hd) rfl hq ho hp q) k
theorem g_tswIn (X : Sx Z own bytes ml p l e R s m args below meth c T locs cells slots h) {dflt low high : Int} {offs : Array Int} {len : Nat} {o : Int} {i : Int32} (hd : decode bytes pc = .ok (.tableswitch dflt low high offs, len)) (hin : ¬ (i.toInt < low ∨ i.toInt > high)) (hoff : offs[(i.toInt - low).toNat]? = some o) (ho : 0 ≤ (pc : Int) + o) (hp : ((pc : Int) + o).toNat = pc') (k : Go p e below K (T.setTop (mkF m pc' Ls (st)))) : Go p e below K (T.setTop (mkF m pc Ls (.int i :: st))) := by
  exact Go.step (fun t q => XS.tswIn X.1.here X.2.1 rfl rfl (hb X.2.2.1 hd) rfl hin hoff ho hp q) k
theorem g_tswOut (X : Sx Z own bytes ml p l e R s m args below meth c T locs cells slots h) {dflt low high : Int} {offs : Array Int} {len : Nat} {i : Int32} (hd : decode bytes pc = .ok (.tableswitch dflt low high offs, len)) (hin : i.toInt < low ∨ i.toInt > high) (ho : 0 ≤ (pc : Int) + dflt) (hp : ((pc : Int) + dflt).toNat = pc') (k : Go p e below K (T.setTop (mkF m pc' Ls (st)))) : Go p e below K (T.setTop (mkF m pc Ls (.int i :: st))) := by
  exact Go.step (fun t q => XS.tswOut X.1.here X.2.1 rfl rfl (hb X.2.2.1 hd) rfl hin ho hp q) k
theorem g_iaload (X : Sx Z own bytes ml p l e R s m args below meth c T locs cells slots h) {a : Addr} {vs : List Value} {j : Int32} {x : Int32} (A : Av Z h a .int vs) (n : Nat) (hd : decode bytes pc = .ok (.iaload, 1)) (hp : pc + 1 = pc') (hj : ¬ j < 0) (hn : j.toNatClampNeg = n) (hv : vs[n]? = some (.int x)) (k : Go p e below K (T.setTop (mkF m pc' Ls (.int x :: st)))) : Go p e below K (T.setTop (mkF m pc Ls (.int j :: .ref a :: st))) := by
  obtain ⟨cl, A, rfl, r⟩ := A; subst hn; subst hp
  have hv' : cl.slots[j.toNatClampNeg]? = some (.int x) := by rw [← Array.getElem?_toList]; exact hv
  exact Go.step (fun t q => X.1.iaload X.2.1 (j := j) (by rw [X.2.2.2.2.2.2]; exact A.1) (State.isArrayOf_alike X.2.2.2.2.2.1.alike A.2.1) A.2.2 (fun hh => hh.elim hj (fun hh => absurd (Array.getElem?_eq_some_iff.mp hv').1 (Nat.not_lt.mpr hh))) hv' (g := mkF m pc Ls (.int j :: .ref a :: st)) rfl rfl (hb X.2.2.1 hd) _ q) k
theorem g_caload (X : Sx Z own bytes ml p l e R s m args below meth c T locs cells slots h) {a : Addr} {vs : List Value} {j : Int32} {x : Int32} (A : Av Z h a .char vs) (n : Nat) (hd : decode bytes pc = .ok (.caload, 1)) (hp : pc + 1 = pc') (hj : ¬ j < 0) (hn : j.toNatClampNeg = n) (hv : vs[n]? = some (.int x)) (k : Go p e below K (T.setTop (mkF m pc' Ls (.int x :: st)))) : Go p e below K (T.setTop (mkF m pc Ls (.int j :: .ref a :: st))) := by
  obtain ⟨cl, A, rfl, r⟩ := A; subst hn; subst hp
  have hv' : cl.slots[j.toNatClampNeg]? = some (.int x) := by rw [← Array.getElem?_toList]; exact hv
  exact Go.step (fun t q => X.1.caload X.2.1 (j := j) (by rw [X.2.2.2.2.2.2]; exact A.1) (State.isArrayOf_alike X.2.2.2.2.2.1.alike A.2.1) A.2.2 (fun hh => hh.elim hj (fun hh => absurd (Array.getElem?_eq_some_iff.mp hv').1 (Nat.not_lt.mpr hh))) hv' (g := mkF m pc Ls (.int j :: .ref a :: st)) rfl rfl (hb X.2.2.1 hd) _ q) k
theorem g_saload (X : Sx Z own bytes ml p l e R s m args below meth c T locs cells slots h) {a : Addr} {vs : List Value} {j : Int32} {x : Int32} (A : Av Z h a .short vs) (n : Nat) (hd : decode bytes pc = .ok (.saload, 1)) (hp : pc + 1 = pc') (hj : ¬ j < 0) (hn : j.toNatClampNeg = n) (hv : vs[n]? = some (.int x)) (k : Go p e below K (T.setTop (mkF m pc' Ls (.int x :: st)))) : Go p e below K (T.setTop (mkF m pc Ls (.int j :: .ref a :: st))) := by
  obtain ⟨cl, A, rfl, r⟩ := A; subst hn; subst hp
  have hv' : cl.slots[j.toNatClampNeg]? = some (.int x) := by rw [← Array.getElem?_toList]; exact hv
  exact Go.step (fun t q => X.1.saload X.2.1 (j := j) (by rw [X.2.2.2.2.2.2]; exact A.1) (State.isArrayOf_alike X.2.2.2.2.2.1.alike A.2.1) A.2.2 (fun hh => hh.elim hj (fun hh => absurd (Array.getElem?_eq_some_iff.mp hv').1 (Nat.not_lt.mpr hh))) hv' (g := mkF m pc Ls (.int j :: .ref a :: st)) rfl rfl (hb X.2.2.1 hd) _ q) k
theorem g_baload (X : Sx Z own bytes ml p l e R s m args below meth c T locs cells slots h) {a : Addr} {vs : List Value} {j : Int32} {x : Int32} (A : Av Z h a .byte vs) (n : Nat) (hd : decode bytes pc = .ok (.baload, 1)) (hp : pc + 1 = pc') (hj : ¬ j < 0) (hn : j.toNatClampNeg = n) (hv : vs[n]? = some (.int x)) (k : Go p e below K (T.setTop (mkF m pc' Ls (.int x :: st)))) : Go p e below K (T.setTop (mkF m pc Ls (.int j :: .ref a :: st))) := by
  obtain ⟨cl, A, rfl, r⟩ := A; subst hn; subst hp
  have hv' : cl.slots[j.toNatClampNeg]? = some (.int x) := by rw [← Array.getElem?_toList]; exact hv
  exact Go.step (fun t q => X.1.baloadBytes X.2.1 (j := j) (by rw [X.2.2.2.2.2.2]; exact A.1) (State.isArrayOf_alike X.2.2.2.2.2.1.alike A.2.1) A.2.2 (fun hh => hh.elim hj (fun hh => absurd (Array.getElem?_eq_some_iff.mp hv').1 (Nat.not_lt.mpr hh))) hv' (g := mkF m pc Ls (.int j :: .ref a :: st)) rfl rfl (hb X.2.2.1 hd) _ q) k
theorem g_laload (X : Sx Z own bytes ml p l e R s m args below meth c T locs cells slots h) {a : Addr} {vs : List Value} {j : Int32} {x : Int64} (A : Av Z h a .long vs) (n : Nat) (hd : decode bytes pc = .ok (.laload, 1)) (hp : pc + 1 = pc') (hj : ¬ j < 0) (hn : j.toNatClampNeg = n) (hv : vs[n]? = some (.long x)) (k : Go p e below K (T.setTop (mkF m pc' Ls (.long x :: st)))) : Go p e below K (T.setTop (mkF m pc Ls (.int j :: .ref a :: st))) := by
  obtain ⟨cl, A, rfl, r⟩ := A; subst hn; subst hp
  have hv' : cl.slots[j.toNatClampNeg]? = some (.long x) := by rw [← Array.getElem?_toList]; exact hv
  exact Go.step (fun t q => X.1.laload X.2.1 (j := j) (by rw [X.2.2.2.2.2.2]; exact A.1) (State.isArrayOf_alike X.2.2.2.2.2.1.alike A.2.1) A.2.2 (fun hh => hh.elim hj (fun hh => absurd (Array.getElem?_eq_some_iff.mp hv').1 (Nat.not_lt.mpr hh))) hv' (g := mkF m pc Ls (.int j :: .ref a :: st)) rfl rfl (hb X.2.2.1 hd) _ q) k
theorem g_aaload (X : Sx Z own bytes ml p l e R s m args below meth c T locs cells slots h) {a : Addr} {vs : List Value} {j : Int32} {v : Value} {ty : FieldType} (A : Av Z h a ty vs) (n : Nat) (hd : decode bytes pc = .ok (.aaload, 1)) (hp : pc + 1 = pc') (hty : ty.isReference = true) (hj : ¬ j < 0) (hn : j.toNatClampNeg = n) (hv : vs[n]? = some v) (k : Go p e below K (T.setTop (mkF m pc' Ls (v :: st)))) : Go p e below K (T.setTop (mkF m pc Ls (.int j :: .ref a :: st))) := by
  obtain ⟨cl, A, rfl, r⟩ := A; subst hn; subst hp
  have hv' : cl.slots[j.toNatClampNeg]? = some v := by rw [← Array.getElem?_toList]; exact hv
  exact Go.step (fun t q => X.1.aaload X.2.1 (j := j) (by rw [X.2.2.2.2.2.2]; exact A.1) (State.isArrayOf_alike X.2.2.2.2.2.1.alike A.2.1) hty A.2.2 (fun hh => hh.elim hj (fun hh => absurd (Array.getElem?_eq_some_iff.mp hv').1 (Nat.not_lt.mpr hh))) hv' (g := mkF m pc Ls (.int j :: .ref a :: st)) rfl rfl (hb X.2.2.1 hd) _ q) k
theorem g_arraylength (X : Sx Z own bytes ml p l e R s m args below meth c T locs cells slots h) {a : Addr} {vs : List Value} {ty : FieldType} (A : Av Z h a ty vs) (hd : decode bytes pc = .ok (.arraylength, 1)) (hp : pc + 1 = pc') {z : Int32} (hz : vs.length.toInt32 = z) (k : Go p e below K (T.setTop (mkF m pc' Ls (.int z :: st)))) : Go p e below K (T.setTop (mkF m pc Ls (.ref a :: st))) := by
  obtain ⟨cl, A, rfl, r⟩ := A; subst hp
  rw [Array.length_toList] at hz; subst hz
  exact Go.step (fun t q => X.1.arraylength X.2.1 (by rw [X.2.2.2.2.2.2]; exact A.1) (State.isArrayOf_alike X.2.2.2.2.2.1.alike A.2.1) (g := mkF m pc Ls (.ref a :: st)) rfl rfl (hb X.2.2.1 hd) _ q) k
theorem g_iastore (X : Sx Z own bytes ml p l e R s m args below meth c T locs cells slots h) {a : Addr} {vs : List Value} {j : Int32} {x : Int32} (A : Av Z h a .int vs) (n : Nat) (hd : decode bytes pc = .ok (.iastore, 1)) (hp : pc + 1 = pc') (hj : ¬ j < 0) (hn : j.toNatClampNeg = n) (hlt : n < vs.length) (k : ∀ T' h', Sx Z own bytes ml p l e R s m args below meth c T' (locs ++ [⟨a, n⟩]) cells slots h' → Wr h h' a n (.int x) → Av Z h' a .int (vs.set n (.int x)) → Go p e below K (T'.setTop (mkF m pc' Ls (st)))) : Go p e below K (T.setTop (mkF m pc Ls (.int x :: .int j :: .ref a :: st))) := by
  obtain ⟨cl, A, rfl, r⟩ := A; subst hn; subst hp
  obtain ⟨T', h', X', e', W, stp⟩ := stI X.1 X.2.1 X.2.2.2.2.2.1 X.2.2.2.2.2.2 A (j := j) (fun hh => hh.elim hj (fun hh => absurd hlt (by simpa using hh))) (g := mkF m pc Ls (.int x :: .int j :: .ref a :: st)) rfl rfl (hb X.2.2.1 hd)
  exact Go.step (fun t q => stp _ q) (k T' h' ⟨X', X.2.1, X.2.2.1, X.2.2.2.1, X.2.2.2.2.1, X.2.2.2.2.2.1, e'⟩ W (Av.set ⟨cl, A, rfl, r⟩ W))
theorem g_lastore (X : Sx Z own bytes ml p l e R s m args below meth c T locs cells slots h) {a : Addr} {vs : List Value} {j : Int32} {x : Int64} (A : Av Z h a .long vs) (n : Nat) (hd : decode bytes pc = .ok (.lastore, 1)) (hp : pc + 1 = pc') (hj : ¬ j < 0) (hn : j.toNatClampNeg = n) (hlt : n < vs.length) (k : ∀ T' h', Sx Z own bytes ml p l e R s m args below meth c T' (locs ++ [⟨a, n⟩]) cells slots h' → Wr h h' a n (.long x) → Av Z h' a .long (vs.set n (.long x)) → Go p e below K (T'.setTop (mkF m pc' Ls (st)))) : Go p e below K (T.setTop (mkF m pc Ls (.long x :: .int j :: .ref a :: st))) := by
  obtain ⟨cl, A, rfl, r⟩ := A; subst hn; subst hp
  obtain ⟨T', h', X', e', W, stp⟩ := stJ X.1 X.2.1 X.2.2.2.2.2.1 X.2.2.2.2.2.2 A (j := j) (fun hh => hh.elim hj (fun hh => absurd hlt (by simpa using hh))) (g := mkF m pc Ls (.long x :: .int j :: .ref a :: st)) rfl rfl (hb X.2.2.1 hd)
  exact Go.step (fun t q => stp _ q) (k T' h' ⟨X', X.2.1, X.2.2.1, X.2.2.2.1, X.2.2.2.2.1, X.2.2.2.2.2.1, e'⟩ W (Av.set ⟨cl, A, rfl, r⟩ W))
theorem g_castore (X : Sx Z own bytes ml p l e R s m args below meth c T locs cells slots h) {a : Addr} {vs : List Value} {j : Int32} {x : Int32} (A : Av Z h a .char vs) (n : Nat) (hd : decode bytes pc = .ok (.castore, 1)) (hp : pc + 1 = pc') (hj : ¬ j < 0) (hn : j.toNatClampNeg = n) (hlt : n < vs.length) (k : ∀ T' h', Sx Z own bytes ml p l e R s m args below meth c T' (locs ++ [⟨a, n⟩]) cells slots h' → Wr h h' a n (.int (nar .char x)) → Av Z h' a .char (vs.set n (.int (nar .char x))) → Go p e below K (T'.setTop (mkF m pc' Ls (st)))) : Go p e below K (T.setTop (mkF m pc Ls (.int x :: .int j :: .ref a :: st))) := by
  obtain ⟨cl, A, rfl, r⟩ := A; subst hn; subst hp
  obtain ⟨T', h', X', e', W, stp⟩ := stC X.1 X.2.1 X.2.2.2.2.2.1 X.2.2.2.2.2.2 A (j := j) (fun hh => hh.elim hj (fun hh => absurd hlt (by simpa using hh))) (g := mkF m pc Ls (.int x :: .int j :: .ref a :: st)) rfl rfl (hb X.2.2.1 hd)
  exact Go.step (fun t q => stp _ q) (k T' h' ⟨X', X.2.1, X.2.2.1, X.2.2.2.1, X.2.2.2.2.1, X.2.2.2.2.2.1, e'⟩ W (Av.set ⟨cl, A, rfl, r⟩ W))
theorem g_sastore (X : Sx Z own bytes ml p l e R s m args below meth c T locs cells slots h) {a : Addr} {vs : List Value} {j : Int32} {x : Int32} (A : Av Z h a .short vs) (n : Nat) (hd : decode bytes pc = .ok (.sastore, 1)) (hp : pc + 1 = pc') (hj : ¬ j < 0) (hn : j.toNatClampNeg = n) (hlt : n < vs.length) (k : ∀ T' h', Sx Z own bytes ml p l e R s m args below meth c T' (locs ++ [⟨a, n⟩]) cells slots h' → Wr h h' a n (.int (nar .short x)) → Av Z h' a .short (vs.set n (.int (nar .short x))) → Go p e below K (T'.setTop (mkF m pc' Ls (st)))) : Go p e below K (T.setTop (mkF m pc Ls (.int x :: .int j :: .ref a :: st))) := by
  obtain ⟨cl, A, rfl, r⟩ := A; subst hn; subst hp
  obtain ⟨T', h', X', e', W, stp⟩ := stS X.1 X.2.1 X.2.2.2.2.2.1 X.2.2.2.2.2.2 A (j := j) (fun hh => hh.elim hj (fun hh => absurd hlt (by simpa using hh))) (g := mkF m pc Ls (.int x :: .int j :: .ref a :: st)) rfl rfl (hb X.2.2.1 hd)
  exact Go.step (fun t q => stp _ q) (k T' h' ⟨X', X.2.1, X.2.2.1, X.2.2.2.1, X.2.2.2.2.1, X.2.2.2.2.2.1, e'⟩ W (Av.set ⟨cl, A, rfl, r⟩ W))
theorem g_bastore (X : Sx Z own bytes ml p l e R s m args below meth c T locs cells slots h) {a : Addr} {vs : List Value} {j : Int32} {x : Int32} (A : Av Z h a .byte vs) (n : Nat) (hd : decode bytes pc = .ok (.bastore, 1)) (hp : pc + 1 = pc') (hj : ¬ j < 0) (hn : j.toNatClampNeg = n) (hlt : n < vs.length) (k : ∀ T' h', Sx Z own bytes ml p l e R s m args below meth c T' (locs ++ [⟨a, n⟩]) cells slots h' → Wr h h' a n (.int (nar .byte x)) → Av Z h' a .byte (vs.set n (.int (nar .byte x))) → Go p e below K (T'.setTop (mkF m pc' Ls (st)))) : Go p e below K (T.setTop (mkF m pc Ls (.int x :: .int j :: .ref a :: st))) := by
  obtain ⟨cl, A, rfl, r⟩ := A; subst hn; subst hp
  obtain ⟨T', h', X', e', W, stp⟩ := stB X.1 X.2.1 X.2.2.2.2.2.1 X.2.2.2.2.2.2 A (j := j) (fun hh => hh.elim hj (fun hh => absurd hlt (by simpa using hh))) (g := mkF m pc Ls (.int x :: .int j :: .ref a :: st)) rfl rfl (hb X.2.2.1 hd)
  exact Go.step (fun t q => stp _ q) (k T' h' ⟨X', X.2.1, X.2.2.1, X.2.2.2.1, X.2.2.2.2.1, X.2.2.2.2.2.1, e'⟩ W (Av.set ⟨cl, A, rfl, r⟩ W))
theorem g_arraylengthN (X : Sx Z own bytes ml p l e R s m args below meth c T locs cells slots h) {a : Addr} {ty : FieldType} {z : Int32} (A : AvN Z h a ty z) (hd : decode bytes pc = .ok (.arraylength, 1)) (hp : pc + 1 = pc') (k : Go p e below K (T.setTop (mkF m pc' Ls (.int z :: st)))) : Go p e below K (T.setTop (mkF m pc Ls (.ref a :: st))) := by
  obtain ⟨vs, A, hz⟩ := A; exact g_arraylength X A hd hp hz k
theorem g_iastoreN (X : Sx Z own bytes ml p l e R s m args below meth c T locs cells slots h) {a : Addr} {j x z : Int32} (A : AvN Z h a .int z) (hd : decode bytes pc = .ok (.iastore, 1)) (hp : pc + 1 = pc') (hj : ¬ j < 0) (hjz : j < z) (k : ∀ T' h', Sx Z own bytes ml p l e R s m args below meth c T' (locs ++ [⟨a, j.toNatClampNeg⟩]) cells slots h' → Wr h h' a j.toNatClampNeg (.int x) → AvN Z h' a .int z → Go p e below K (T'.setTop (mkF m pc' Ls (st)))) : Go p e below K (T.setTop (mkF m pc Ls (.int x :: .int j :: .ref a :: st))) := by
  obtain ⟨vs, A, hz⟩ := A
  have hl := A.len
  refine g_iastore X A _ hd hp hj rfl ?_ (fun T' h' X' W V => k T' h' X' W ⟨_, V, by rw [List.length_set]; exact hz⟩)
  rw [hz] at hl
  rw [Int32.lt_iff_toInt_lt] at hj hjz
  simp only [Int32.toNatClampNeg, Int32.reduceToInt] at hj ⊢
  omega
theorem g_aastore (X : Sx Z own bytes ml p l e R s m args below meth c T locs cells slots h) {a : Addr} {vs : List Value} {j : Int32} {v : Value} {ty : FieldType} (A : Av Z h a ty vs) (S : Sto Z h a v) (n : Nat) (hd : decode bytes pc = .ok (.aastore, 1)) (hp : pc + 1 = pc') (hty : ty.isReference = true) (hj : ¬ j < 0) (hn : j.toNatClampNeg = n) (hlt : n < vs.length) (k : ∀ T' h', Sx Z own bytes ml p l e R s m args below meth c T' (locs ++ [⟨a, n⟩]) cells slots h' → Wr h h' a n v → Av Z h' a ty (vs.set n v) → Go p e below K (T'.setTop (mkF m pc' Ls (st)))) : Go p e below K (T.setTop (mkF m pc Ls (v :: .int j :: .ref a :: st))) := by
  obtain ⟨cl, A, rfl, r⟩ := A; subst hn; subst hp
  obtain ⟨T', h', X', e', W, stp⟩ := stR X.1 X.2.1 X.2.2.2.2.2.1 X.2.2.2.2.2.2 A (j := j) (fun hh => hh.elim hj (fun hh => absurd hlt (by simpa using hh))) hty S (g := mkF m pc Ls (v :: .int j :: .ref a :: st)) rfl rfl (hb X.2.2.1 hd)
  exact Go.step (fun t q => stp _ q) (k T' h' ⟨X', X.2.1, X.2.2.1, X.2.2.2.1, X.2.2.2.2.1, X.2.2.2.2.2.1, e'⟩ W (Av.set ⟨cl, A, rfl, r⟩ W))
theorem g_newarray (X : Sx Z own bytes ml p l e R s m args below meth c T locs cells slots h) {aty : ArrayType} {z : Int32} {vs : List Value} {ad : String} (n : Nat) (w : (Cond.arrayClass (newarray.typeOf aty)).before a0 Z = true) (hd : decode bytes pc = .ok (.newarray aty, 2)) (hp : pc + 2 = pc') (hz : ¬ z < 0) (hn : z.toNatClampNeg = n) (cap : Nat) (hcap : n ≤ cap) (hbig : cap * 8 ≤ 536870912) (hc : cells + 1 ≤ R.cells) (hl : slots + cap ≤ R.slots) (hvs : List.replicate n (defaultValue (newarray.typeOf aty)) = vs) (had : "[" ++ (newarray.typeOf aty).toString = ad) (k : ∀ T' h' (a : Addr), a = h.size → Sx Z own bytes ml p l e R s m args below meth c T' locs (cells + 1) (slots + cap) h' → Ext h h' → Exa Z h' a ad → Av Z h' a (newarray.typeOf aty) vs → Go p e below K (T'.setTop (mkF m pc' Ls (.ref a :: st)))) : Go p e below K (T.setTop (mkF m pc Ls (.int z :: st))) := by
  subst hn; subst hp; subst hvs
  obtain ⟨T', h', cA, X', e', E, A, B, stp⟩ := newPE X.1 X.2.1 X.2.2.2.2.2.1 w X.2.2.2.2.2.2 (g := mkF m pc Ls (.int z :: st)) rfl (hb X.2.2.1 hd) rfl hz hcap hbig hc hl had
  refine Go.step (fun t q => stp _ q) (k T' h' _ rfl ⟨X', X.2.1, X.2.2.1, X.2.2.2.1, X.2.2.2.2.1, X.2.2.2.2.2.1, e'⟩ E B ⟨_, A, by simp [newA], ?_⟩)
  simp only [List.length_replicate]
  exact (back32 hz).2
theorem g_anewarray (X : Sx Z own bytes ml p l e R s m args below meth c T locs cells slots h) {i : Nat} {C : String} {z : Int32} {vs : List Value} {ad : String} (n : Nat) (w1 : (Cond.classLink own i C).before a0 Z = true) (w2 : (Cond.arrayOver (.object C)).before a0 Z = true) (hd : decode bytes pc = .ok (.anewarray i, 3)) (hp : pc + 3 = pc') (hz : ¬ z < 0) (hn : z.toNatClampNeg = n) (cap : Nat) (hcap : n ≤ cap) (hbig : cap * 8 ≤ 536870912) (hc : cells + 1 ≤ R.cells) (hl : slots + cap ≤ R.slots) (hvs : List.replicate n .null = vs) (had : "[" ++ (FieldType.object C).toString = ad) (k : ∀ T' h' (a : Addr), a = h.size → Sx Z own bytes ml p l e R s m args below meth c T' locs (cells + 1) (slots + cap) h' → Ext h h' → Exa Z h' a ad → Av Z h' a (.object C) vs → OvA Z h' a C → Go p e below K (T'.setTop (mkF m pc' Ls (.ref a :: st)))) : Go p e below K (T.setTop (mkF m pc Ls (.int z :: st))) := by
  subst hn; subst hp; subst hvs
  obtain ⟨T', h', cA, X', e', E, A, B, O, stp⟩ := newRE X.1 X.2.1 X.2.2.2.2.2.1 X.2.2.2.2.1 w1 w2 X.2.2.2.2.2.2 (g := mkF m pc Ls (.int z :: st)) rfl (hb X.2.2.1 hd) rfl hz hcap hbig hc hl had
  refine Go.step (fun t q => stp _ q) (k T' h' _ rfl ⟨X', X.2.1, X.2.2.1, X.2.2.2.1, X.2.2.2.2.1, X.2.2.2.2.2.1, e'⟩ E B ⟨_, A, by simp [newA, defaultValue], ?_⟩ ⟨_, A, O⟩)
  simp only [List.length_replicate]
  exact (back32 hz).2
theorem g_new (X : Sx Z own bytes ml p l e R s m args below meth c T locs cells slots h) {i n : Nat} {C : String} (w1 : (Cond.classLink own i C).before a0 Z = true) (w2 : (Cond.instantiable C n).before a0 Z = true) (w3 : (Cond.initialized C).before a0 Z = true) (hd : decode bytes pc = .ok (.new i, 3)) (hp : pc + 3 = pc') (hc : cells + 1 ≤ R.cells) (hl : slots + n ≤ R.slots) (k : ∀ T' h' (a : Addr), a = h.size → Sx Z own bytes ml p l e R s m args below meth c T' locs (cells + 1) (slots + n) h' → Ext h h' → Exa Z h' a C → (∀ {O nm d : String} {ty : FieldType}, Laid Z a0 C O nm d → parseFieldDescriptor d = some ty → Fld Z h' a O nm d (defaultValue ty)) → Go p e below K (T'.setTop (mkF m pc' Ls (.ref a :: st)))) : Go p e below K (T.setTop (mkF m pc Ls (st))) := by
  subst hp
  obtain ⟨T', h', X', e', E, A, D, -, stp⟩ := newO X.1 X.2.1 X.2.2.2.2.2.1 X.2.2.2.2.1 w1 w2 w3 X.2.2.2.2.2.2 (g := mkF m pc Ls st) rfl (hb X.2.2.1 hd) hc hl
  exact Go.step (fun t q => stp _ q) (k T' h' _ rfl ⟨X', X.2.1, X.2.2.1, X.2.2.2.1, X.2.2.2.2.1, X.2.2.2.2.2.1, e'⟩ E A D)
theorem g_getfield (X : Sx Z own bytes ml p l e R s m args below meth c T locs cells slots h) {i : Nat} {R0 O nm d host : String} {a : Addr} {v : Value} (w : (Cond.fieldLink own i R0 nm d).before a0 Z = true ∨ (Cond.fieldLinkNest own i R0 nm d host).before a0 Z = true) (via : Via Z R0 O nm d) (F : Fld Z h a O nm d v) (hd : decode bytes pc = .ok (.getfield i, 3)) (hp : pc + 3 = pc') (k : ∀ T', Sx Z own bytes ml p l e R s m args below meth c T' locs cells slots h → Go p e below K (T'.setTop (mkF m pc' Ls (v :: st)))) : Go p e below K (T.setTop (mkF m pc Ls (.ref a :: st))) := by
  subst hp
  obtain ⟨T', X', e', stp⟩ := getF X.1 X.2.1 X.2.2.2.2.2.1 X.2.2.2.2.1 w via X.2.2.2.2.2.2 F (g := mkF m pc Ls (.ref a :: st)) rfl rfl (hb X.2.2.1 hd)
  exact Go.step (fun t q => stp _ q) (k T' ⟨X', X.2.1, X.2.2.1, X.2.2.2.1, X.2.2.2.2.1, X.2.2.2.2.2.1, e'⟩)
theorem g_getstatic (X : Sx Z own bytes ml p l e R s m args below meth c T locs cells slots h) {i : Nat} {R0 O nm d host : String} {v : Value} (w : (Cond.fieldLink own i R0 nm d).before a0 Z = true ∨ (Cond.fieldLinkNest own i R0 nm d host).before a0 Z = true) (via : Via Z R0 O nm d) (F : Sta Z h O nm d v) (hd : decode bytes pc = .ok (.getstatic i, 3)) (hp : pc + 3 = pc') (k : ∀ T', Sx Z own bytes ml p l e R s m args below meth c T' locs cells slots h → Go p e below K (T'.setTop (mkF m pc' Ls (v :: st)))) : Go p e below K (T.setTop (mkF m pc Ls (st))) := by
  subst hp
  obtain ⟨T', X', e', stp⟩ := getS2 X.1 X.2.1 X.2.2.2.2.2.1 X.2.2.2.2.1 w via X.2.2.2.2.2.2 F (g := mkF m pc Ls st) rfl (hb X.2.2.1 hd)
  exact Go.step (fun t q => stp _ q) (k T' ⟨X', X.2.1, X.2.2.1, X.2.2.2.1, X.2.2.2.2.1, X.2.2.2.2.2.1, e'⟩)
theorem g_putfield (X : Sx Z own bytes ml p l e R s m args below meth c T locs cells slots h) {i kk : Nat} {R0 O nm d host C : String} {a : Addr} {v old : Value} {ty : FieldType} (w : (Cond.fieldLink own i R0 nm d).before a0 Z = true ∨ (Cond.fieldLinkNest own i R0 nm d host).before a0 Z = true) (via : Via Z R0 O nm d) (F : Fld Z h a O nm d old) (E : Exa Z h a C) (L : (Cond.lays C O nm d).before a0 Z = true ∨ ((Cond.laysFinal C O nm d).before a0 Z = true ∧ own = O ∧ meth.name = "<init>")) (wi : (Cond.instantiable C kk).before a0 Z = true) (hty : parseFieldDescriptor d = some ty) (hn : narrow ty v = v) (hf : fits ty v = true) (hd : decode bytes pc = .ok (.putfield i, 3)) (hp : pc + 3 = pc') (k : ∀ T' h', Sx Z own bytes ml p l e R s m args below meth c T' (locs ++ [⟨a, RoadKit.slotOf Z O nm d⟩]) cells slots h' → Wr h h' a (RoadKit.slotOf Z O nm d) v → Go p e below K (T'.setTop (mkF m pc' Ls (st)))) : Go p e below K (T.setTop (mkF m pc Ls (v :: .ref a :: st))) := by
  subst hp
  obtain ⟨T', h', X', e', W, stp⟩ := putF X.1 X.2.1 X.2.2.2.2.2.1 X.2.2.2.2.1 w via X.2.2.2.2.2.2 F E L wi hty hn hf (g := mkF m pc Ls (v :: .ref a :: st)) rfl rfl (hb X.2.2.1 hd)
  exact Go.step (fun t q => stp _ q) (k T' h' ⟨X', X.2.1, X.2.2.1, X.2.2.2.1, X.2.2.2.2.1, X.2.2.2.2.2.1, e'⟩ W)
theorem g_putfieldN (X : Sx Z own bytes ml p l e R s m args below meth c T locs cells slots h) {i kk : Nat} {R0 O nm d C : String} {a : Addr} {v v' old : Value} {ty : FieldType} (w : (Cond.fieldLink own i R0 nm d).before a0 Z = true) (via : Via Z R0 O nm d) (F : Fld Z h a O nm d old) (E : Exa Z h a C) (L : (Cond.lays C O nm d).before a0 Z = true ∨ ((Cond.laysFinal C O nm d).before a0 Z = true ∧ own = O ∧ meth.name = "<init>")) (wi : (Cond.instantiable C kk).before a0 Z = true) (hty : parseFieldDescriptor d = some ty) (hn : narrow ty v = v') (hf : fits ty v' = true) (hd : decode bytes pc = .ok (.putfield i, 3)) (hp : pc + 3 = pc') (k : ∀ T' h', Sx Z own bytes ml p l e R s m args below meth c T' (locs ++ [⟨a, RoadKit.slotOf Z O nm d⟩]) cells slots h' → Wr h h' a (RoadKit.slotOf Z O nm d) v' → Go p e below K (T'.setTop (mkF m pc' Ls (st)))) : Go p e below K (T.setTop (mkF m pc Ls (v :: .ref a :: st))) := by
  subst hp
  obtain ⟨T', h', X', e', W, stp⟩ := putFN X.1 X.2.1 X.2.2.2.2.2.1 X.2.2.2.2.1 w via X.2.2.2.2.2.2 F E L wi hty hn hf (g := mkF m pc Ls (v :: .ref a :: st)) rfl rfl (hb X.2.2.1 hd)
  exact Go.step (fun t q => stp _ q) (k T' h' ⟨X', X.2.1, X.2.2.1, X.2.2.2.1, X.2.2.2.2.1, X.2.2.2.2.2.1, e'⟩ W)
theorem g_initO (X : Sx Z own bytes ml p l e R s m args below meth c T locs cells slots h) {i W : Nat} {a : Addr} (w1 : (Cond.methodLink own i Lib.objectInit).before a0 Z = true) (w2 : (Cond.instanceMethod Lib.objectInit).before a0 Z = true) (w3 : (Cond.code Lib.objectInit ⟨#[0xb1]⟩ 1 none).before a0 Z = true) (hd : decode bytes pc = .ok (.invokespecial i, 3)) (hp : pc + 3 = pc') (hsz : Ls.size = ml) (hf : 1 ≤ R.frames) (hW : (st.map fun v => v.category).sum ≤ W) (hl : W + 12 ≤ R.locals) (k : ∀ T', Sx Z own bytes ml p l e R s m args below meth c T' locs cells slots h → Go p e below K (T'.setTop (mkF m pc' Ls (st)))) : Go p e below K (T.setTop (mkF m pc Ls (.ref a :: st))) := by
  subst hp
  obtain ⟨T', X', e', stp⟩ := initO X.1 X.2.1 X.2.2.2.2.2.1 X.2.2.2.2.1 w1 w2 w3 X.2.2.2.2.2.2 (g := mkF m pc Ls (.ref a :: st)) rfl (by rw [X.2.2.2.1]; exact hsz) rfl (hb X.2.2.1 hd) hf (W := W) (by simpa using hW) hl
  exact Go.step (fun t q => stp _ q) (k T' ⟨X', X.2.1, X.2.2.1, X.2.2.2.1, X.2.2.2.2.1, X.2.2.2.2.2.1, e'⟩)
theorem g_checkcast (X : Sx Z own bytes ml p l e R s m args below meth c T locs cells slots h) {i : Nat} {K0 : String} {a : Addr} (w : (Cond.classLink own i K0).before a0 Z = true) (F : Ins Z h a K0 true) (hd : decode bytes pc = .ok (.checkcast i, 3)) (hp : pc + 3 = pc') (k : ∀ T', Sx Z own bytes ml p l e R s m args below meth c T' locs cells slots h → Go p e below K (T'.setTop (mkF m pc' Ls (.ref a :: st)))) : Go p e below K (T.setTop (mkF m pc Ls (.ref a :: st))) := by
  subst hp
  obtain ⟨T', X', e', stp⟩ := castY X.1 X.2.1 X.2.2.2.2.2.1 X.2.2.2.2.1 w X.2.2.2.2.2.2 F (g := mkF m pc Ls (.ref a :: st)) rfl rfl (hb X.2.2.1 hd)
  exact Go.step (fun t q => stp _ q) (k T' ⟨X', X.2.1, X.2.2.1, X.2.2.2.1, X.2.2.2.2.1, X.2.2.2.2.2.1, e'⟩)
theorem g_clone (X : Sx Z own bytes ml p l e R s m args below meth c T locs cells slots h) {i W : Nat} {ad : String} {a : Addr} {ty : FieldType} {vs : List Value} (w1 : (Cond.methodLink own i ⟨ad, "clone", "()Ljava/lang/Object;"⟩).before a0 Z = true) (w2 : (Cond.sameMethod ad "java/lang/Object" "clone" "()Ljava/lang/Object;").before a0 Z = true) (w3 : (Cond.native ⟨"java/lang/Object", "clone", "()Ljava/lang/Object;"⟩).before a0 Z = true) (w4 : (Cond.instanceMethod ⟨"java/lang/Object", "clone", "()Ljava/lang/Object;"⟩).before a0 Z = true) (w5 : (Cond.selects ad ⟨ad, "clone", "()Ljava/lang/Object;"⟩ ⟨"java/lang/Object", "clone", "()Ljava/lang/Object;"⟩).before a0 Z = true) (w6 : (Cond.castable ad "java/lang/Cloneable").before a0 Z = true) (A : Av Z h a ty vs) (E : Exa Z h a ad) (hfit : ∀ v ∈ vs, fits ty v = true) (hd : decode bytes pc = .ok (.invokevirtual i, 3)) (hp : pc + 3 = pc') (hsz : Ls.size = ml) (hf : 1 ≤ R.frames) (hW : (st.map fun v => v.category).sum ≤ W) (hl : W + 14 ≤ R.locals) (cap : Nat) (hcap : vs.length ≤ cap) (hc : cells + 1 ≤ R.cells) (hs : slots + cap ≤ R.slots) (k : ∀ T' h' (b : Addr), b = h.size → Sx Z own bytes ml p l e R s m args below meth c T' locs (cells + 1) (slots + cap) h' → Ext h h' → Exa Z h' b ad → Av Z h' b ty vs → Go p e below K (T'.setTop (mkF m pc' Ls (.ref b :: st)))) : Go p e below K (T.setTop (mkF m pc Ls (.ref a :: st))) := by
  subst hp
  obtain ⟨cl, A, rfl, r⟩ := A
  have FC : FitC Z cl := fitC_of A fun j hj v hv => hfit v (by rw [← Array.getElem?_toList] at hv; exact List.mem_of_getElem? hv)
  obtain ⟨T', h', X', e', Ex, A', E', stp⟩ := cloneA X.1 X.2.1 X.2.2.2.2.2.1 X.2.2.2.2.1 w1 w2 w3 w4 w5 w6 X.2.2.2.2.2.2 A E FC (g := mkF m pc Ls (.ref a :: st)) rfl (by rw [X.2.2.2.1]; exact hsz) rfl (hb X.2.2.1 hd) hf (W := W) (cap := cap) (by simpa using hW) hl (by simpa using hcap) hc hs
  exact Go.step (fun t q => stp _ q) (k T' h' _ rfl ⟨X', X.2.1, X.2.2.1, X.2.2.2.1, X.2.2.2.2.1, X.2.2.2.2.2.1, e'⟩ Ex E' ⟨_, A', rfl, r⟩)
theorem g_static (X : Sx Z own bytes ml p l e R s m args below meth c T locs cells slots h) {y : MethodName} {yb : ByteArray} {yl : Nat} {yr : Option FieldType} {rm : Room} {as' : Array Value} {Q : Option Value → Heap → List Loc → Prop} {i W : Nat} (argsL rest : List Value) (w1 : (Cond.methodLink own i y).before a0 Z = true) (w2 : (Cond.static y).before a0 Z = true) (w3 : (Cond.initialized y.cls).before a0 Z = true) (w4 : (Cond.code y yb yl yr).before a0 Z = true) (M : Rm l Z y yb yl yr [] rm as' h Q) (hd : decode bytes pc = .ok (.invokestatic i, 3)) (hp : pc + 3 = pc') (hy : y.cls ≠ "java/lang/invoke/MethodHandle" ∧ y.cls ≠ "java/lang/invoke/VarHandle") (hf : rm.frames + 1 ≤ R.frames) (hl : W + (yl + 11) + rm.locals ≤ R.locals) (hsz : Ls.size = ml) (ha : argsL.toArray = as') (hst : st = argsL.reverse ++ rest) (hlen : ∀ sig, parseMethodDescriptor y.desc = some sig → argsL.length = sig.parameters.length) (hW : (rest.map fun v => v.category).sum ≤ W) (hc : cells + rm.cells ≤ R.cells) (hs : slots + rm.slots ≤ R.slots) (k : ∀ v T' L, Sx Z own bytes ml p l e R s m args below meth c T' (locs ++ L) (cells + rm.cells) (slots + rm.slots) T'.heap → Q v T'.heap L → Go p e below K (T'.setTop (mkF m pc' Ls (v.toList ++ rest)))) : Go p e below K (T.setTop (mkF m pc Ls (st))) := by
  subst hp; subst hst
  have hZ := X.2.2.2.2.2.1
  obtain ⟨v, vm1, ⟨T', L', k', n'⟩, -, X', ⟨L, hQ, l1, l2, l3⟩, stp⟩ := Jvm.LawKit.callS X.1 X.2.1 X.2.2.2.2.1 (mvT hZ w1) (mvT hZ w2) (mvT hZ w3) (mvT hZ w4) hy (backOf (W := W) M hZ w4 w3 hf hl) (g := mkF m pc Ls (argsL.reverse ++ rest)) rfl (by rw [X.2.2.2.1]; exact hsz) (argsL := argsL) (rest := rest) hlen rfl (by simpa using hW) (hb X.2.2.1 hd) (fun _ _ => ⟨ha, X.2.2.2.2.2.2, hc, hs⟩)
  dsimp only [Pt.U, Pt.locs, Pt.cells, Pt.slots] at X' l1 l2 l3 stp hQ
  subst l1 l2 l3
  exact Go.step (fun t q => stp _ q) (k v T' L ⟨X', X.2.1, X.2.2.1, X.2.2.2.1, X.2.2.2.2.1, X.2.2.2.2.2.1, rfl⟩ hQ)
theorem g_special (X : Sx Z own bytes ml p l e R s m args below meth c T locs cells slots h) {y : MethodName} {yb : ByteArray} {yl : Nat} {rm : Room} {as' : Array Value} {Q : Option Value → Heap → List Loc → Prop} {i W : Nat} {a : Addr} (argsL rest : List Value) (hi : y.name = "<init>") (w1 : (Cond.methodLink own i y).before a0 Z = true) (w2 : (Cond.instanceMethod y).before a0 Z = true) (w3 : (Cond.initialized y.cls).before a0 Z = true) (w4 : (Cond.code y yb yl none).before a0 Z = true) (M : Rm l Z y yb yl none [] rm as' h Q) (hd : decode bytes pc = .ok (.invokespecial i, 3)) (hp : pc + 3 = pc') (hy : y.cls ≠ "java/lang/invoke/MethodHandle" ∧ y.cls ≠ "java/lang/invoke/VarHandle") (hf : rm.frames + 1 ≤ R.frames) (hl : W + (yl + 11) + rm.locals ≤ R.locals) (hsz : Ls.size = ml) (ha : (.ref a :: argsL).toArray = as') (hst : st = argsL.reverse ++ .ref a :: rest) (hlen : ∀ sig, parseMethodDescriptor y.desc = some sig → argsL.length = sig.parameters.length) (hW : (rest.map fun v => v.category).sum ≤ W) (hc : cells + rm.cells ≤ R.cells) (hs : slots + rm.slots ≤ R.slots) (k : ∀ v T' L, Sx Z own bytes ml p l e R s m args below meth c T' (locs ++ L) (cells + rm.cells) (slots + rm.slots) T'.heap → Q v T'.heap L → Go p e below K (T'.setTop (mkF m pc' Ls (v.toList ++ rest)))) : Go p e below K (T.setTop (mkF m pc Ls (st))) := by
  subst hp; subst hst
  have hZ := X.2.2.2.2.2.1
  obtain ⟨v, vm1, ⟨T', L', k', n'⟩, -, X', ⟨L, hQ, l1, l2, l3⟩, stp⟩ := X.1.specialBack X.2.1 (y := y) hi X.2.2.2.2.1 (mvT hZ w1) (mvT hZ w2) (mvT hZ w4) hy (backOf (W := W) M hZ w4 w3 hf hl) (g := mkF m pc Ls (argsL.reverse ++ .ref a :: rest)) rfl (by rw [X.2.2.2.1]; exact hsz) (Steps.refl _) (a := a) (argsL := argsL) (rest := rest) hlen rfl (by simpa using hW) (hb X.2.2.1 hd) (fun _ _ => ⟨ha, X.2.2.2.2.2.2, hc, hs⟩)
  dsimp only [Pt.U, Pt.locs, Pt.cells, Pt.slots] at X' l1 l2 l3 stp hQ
  subst l1 l2 l3
  exact Go.step (fun t q => stp.trans q) (k v T' L ⟨X', X.2.1, X.2.2.1, X.2.2.2.1, X.2.2.2.2.1, X.2.2.2.2.2.1, rfl⟩ hQ)
theorem g_virtual (X : Sx Z own bytes ml p l e R s m args below meth c T locs cells slots h) {y : MethodName} {yb : ByteArray} {yl : Nat} {yr : Option FieldType} {rm : Room} {as' : Array Value} {Q : Option Value → Heap → List Loc → Prop} {i W : Nat} {a : Addr} {C : String} (argsL rest : List Value) (E : Exa Z h a C) (w1 : (Cond.methodLink own i y).before a0 Z = true) (w2 : (Cond.declares y).before a0 Z = true) (w5 : (Cond.selects C y y).before a0 Z = true) (w6 : (Cond.instanceMethod y).before a0 Z = true) (w3 : (Cond.initialized y.cls).before a0 Z = true) (w4 : (Cond.code y yb yl yr).before a0 Z = true) (M : Rm l Z y yb yl yr [] rm as' h Q) (hd : decode bytes pc = .ok (.invokevirtual i, 3)) (hp : pc + 3 = pc') (hy : y.cls ≠ "java/lang/invoke/MethodHandle" ∧ y.cls ≠ "java/lang/invoke/VarHandle") (hf : rm.frames + 1 ≤ R.frames) (hl : W + (yl + 11) + rm.locals ≤ R.locals) (hsz : Ls.size = ml) (ha : (.ref a :: argsL).toArray = as') (hst : st = argsL.reverse ++ .ref a :: rest) (hlen : ∀ sig, parseMethodDescriptor y.desc = some sig → argsL.length = sig.parameters.length) (hW : (rest.map fun v => v.category).sum ≤ W) (hc : cells + rm.cells ≤ R.cells) (hs : slots + rm.slots ≤ R.slots) (k : ∀ v T' L, Sx Z own bytes ml p l e R s m args below meth c T' (locs ++ L) (cells + rm.cells) (slots + rm.slots) T'.heap → Q v T'.heap L → Go p e below K (T'.setTop (mkF m pc' Ls (v.toList ++ rest)))) : Go p e below K (T.setTop (mkF m pc Ls (st))) := by
  subst hp; subst hst
  have hZ := X.2.2.2.2.2.1
  obtain ⟨cq, kq, qa, qb, qc⟩ := isOf hZ X.2.2.2.2.2.2 E
  obtain ⟨v, vm1, ⟨T', L', k', n'⟩, -, X', ⟨L, hQ, l1, l2, l3⟩, stp⟩ := X.1.virtualBack X.2.1 (y := y) (z := y) X.2.2.2.2.1 (mvT hZ w1) (mvT hZ w2) (notFace_of_selects (args := #[]) (mvT hZ w5)) (mvT hZ w5) (mvT hZ w6) hy (backOf (W := W) M hZ w4 w3 hf hl) qa qc (g := mkF m pc Ls (argsL.reverse ++ .ref a :: rest)) rfl (by rw [X.2.2.2.1]; exact hsz) (Steps.refl _) (argsL := argsL) (rest := rest) hlen rfl (by simpa using hW) (hb X.2.2.1 hd) (fun _ _ => ⟨ha, X.2.2.2.2.2.2, hc, hs⟩)
  dsimp only [Pt.U, Pt.locs, Pt.cells, Pt.slots] at X' l1 l2 l3 stp hQ
  subst l1 l2 l3
  exact Go.step (fun t q => stp.trans q) (k v T' L ⟨X', X.2.1, X.2.2.1, X.2.2.2.1, X.2.2.2.2.1, X.2.2.2.2.2.1, rfl⟩ hQ)
theorem g_virtualUp (X : Sx Z own bytes ml p l e R s m args below meth c T locs cells slots h) {y : MethodName} {yb : ByteArray} {yl : Nat} {yr : Option FieldType} {rm : Room} {as' : Array Value} {Q : Option Value → Heap → List Loc → Prop} {i W : Nat} {a : Addr} {C owner : String} {x : MethodName} (argsL rest : List Value) (E : Exa Z h a C) (w1 : (Cond.methodLink own i x).before a0 Z = true) (w8 : (Cond.sameMethod x.cls owner x.name x.desc).before a0 Z = true) (w2 : (Cond.declares ⟨owner, x.name, x.desc⟩).before a0 Z = true) (w5 : (Cond.selects C x y).before a0 Z = true) (w6 : (Cond.instanceMethod y).before a0 Z = true) (w3 : (Cond.initialized y.cls).before a0 Z = true) (w4 : (Cond.code y yb yl yr).before a0 Z = true) (M : Rm l Z y yb yl yr [] rm as' h Q) (hd : decode bytes pc = .ok (.invokevirtual i, 3)) (hp : pc + 3 = pc') (hy : owner ≠ "java/lang/invoke/MethodHandle" ∧ owner ≠ "java/lang/invoke/VarHandle") (hf : rm.frames + 1 ≤ R.frames) (hl : W + (yl + 11) + rm.locals ≤ R.locals) (hsz : Ls.size = ml) (ha : (.ref a :: argsL).toArray = as') (hst : st = argsL.reverse ++ .ref a :: rest) (hlen : ∀ sig, parseMethodDescriptor x.desc = some sig → argsL.length = sig.parameters.length) (hW : (rest.map fun v => v.category).sum ≤ W) (hc : cells + rm.cells ≤ R.cells) (hs : slots + rm.slots ≤ R.slots) (k : ∀ v T' L, Sx Z own bytes ml p l e R s m args below meth c T' (locs ++ L) (cells + rm.cells) (slots + rm.slots) T'.heap → Q v T'.heap L → Go p e below K (T'.setTop (mkF m pc' Ls (v.toList ++ rest)))) : Go p e below K (T.setTop (mkF m pc Ls (st))) := by
  subst hp; subst hst
  have hZ := X.2.2.2.2.2.1
  obtain ⟨cq, kq, qa, qb, qc⟩ := isOf hZ X.2.2.2.2.2.2 E
  obtain ⟨v, vm1, ⟨T', L', k', n'⟩, -, X', ⟨L, hQ, l1, l2, l3⟩, stp⟩ := X.1.virtualBackUp X.2.1 (x := x) (y := y) X.2.2.2.2.1 (mvT hZ w1) (mvT hZ w8) (mvT hZ w2) hy (mvT hZ w5) (mvT hZ w6) (backOf (W := W) M hZ w4 w3 hf hl) qa qc (g := mkF m pc Ls (argsL.reverse ++ .ref a :: rest)) rfl (by rw [X.2.2.2.1]; exact hsz) (Steps.refl _) (argsL := argsL) (rest := rest) hlen rfl (by simpa using hW) (hb X.2.2.1 hd) (fun _ _ => ⟨ha, X.2.2.2.2.2.2, hc, hs⟩)
  dsimp only [Pt.U, Pt.locs, Pt.cells, Pt.slots] at X' l1 l2 l3 stp hQ
  subst l1 l2 l3
  exact Go.step (fun t q => stp.trans q) (k v T' L ⟨X', X.2.1, X.2.2.1, X.2.2.2.1, X.2.2.2.2.1, X.2.2.2.2.2.1, rfl⟩ hQ)
theorem g_private (X : Sx Z own bytes ml p l e R s m args below meth c T locs cells slots h) {y : MethodName} {yb : ByteArray} {yl : Nat} {yr : Option FieldType} {rm : Room} {as' : Array Value} {Q : Option Value → Heap → List Loc → Prop} {i W : Nat} {a : Addr} (argsL rest : List Value) (E : Exa Z h a y.cls) (w1 : (Cond.methodLink own i y).before a0 Z = true) (w5 : (Cond.selects y.cls y y).before a0 Z = true) (w6 : (Cond.instanceMethod y).before a0 Z = true) (w7 : (Cond.privateMethod y).before a0 Z = true) (w3 : (Cond.initialized y.cls).before a0 Z = true) (w4 : (Cond.code y yb yl yr).before a0 Z = true) (M : Rm l Z y yb yl yr [] rm as' h Q) (hd : decode bytes pc = .ok (.invokevirtual i, 3)) (hp : pc + 3 = pc') (hy : y.cls ≠ "java/lang/invoke/MethodHandle" ∧ y.cls ≠ "java/lang/invoke/VarHandle") (hf : rm.frames + 1 ≤ R.frames) (hl : W + (yl + 11) + rm.locals ≤ R.locals) (hsz : Ls.size = ml) (ha : (.ref a :: argsL).toArray = as') (hst : st = argsL.reverse ++ .ref a :: rest) (hlen : ∀ sig, parseMethodDescriptor y.desc = some sig → argsL.length = sig.parameters.length) (hW : (rest.map fun v => v.category).sum ≤ W) (hc : cells + rm.cells ≤ R.cells) (hs : slots + rm.slots ≤ R.slots) (k : ∀ v T' L, Sx Z own bytes ml p l e R s m args below meth c T' (locs ++ L) (cells + rm.cells) (slots + rm.slots) T'.heap → Q v T'.heap L → Go p e below K (T'.setTop (mkF m pc' Ls (v.toList ++ rest)))) : Go p e below K (T.setTop (mkF m pc Ls (st))) := by
  subst hp; subst hst
  have hZ := X.2.2.2.2.2.1
  obtain ⟨cq, q1, q2⟩ := E.cell
  obtain ⟨v, vm1, ⟨T', L', k', n'⟩, -, X', ⟨L, hQ, l1, l2, l3⟩, stp⟩ := X.1.privateBack X.2.1 (y := y) X.2.2.2.2.1 (mvT hZ w1) (mvT hZ w6) (mvT hZ w5) (Cond.privateMethod_at (mvP hZ w7 (args := #[]))) (mvT hZ w4) hy (backOf (W := W) M hZ w4 w3 hf hl) (g := mkF m pc Ls (argsL.reverse ++ .ref a :: rest)) rfl (by rw [X.2.2.2.1]; exact hsz) (Steps.refl _) (a := a) (by rw [X.2.2.2.2.2.2]; exact q1) q2 (argsL := argsL) (rest := rest) hlen rfl (by simpa using hW) (hb X.2.2.1 hd) (fun _ _ => ⟨ha, X.2.2.2.2.2.2, hc, hs⟩)
  dsimp only [Pt.U, Pt.locs, Pt.cells, Pt.slots] at X' l1 l2 l3 stp hQ
  subst l1 l2 l3
  exact Go.step (fun t q => stp.trans q) (k v T' L ⟨X', X.2.1, X.2.2.1, X.2.2.2.1, X.2.2.2.2.1, X.2.2.2.2.2.1, rfl⟩ hQ)
theorem g_specialB (X : Sx Z own bytes ml p l e R s m args below meth c T locs cells slots h) {y : MethodName} {as' : Array Value} {Q : Option Value → Heap → List Loc → Prop} {i W kc ks : Nat} {a : Addr} {yb : ByteArray} {yl : Nat} (argsL rest : List Value) (hi : y.name = "<init>") (w1 : (Cond.methodLink own i y).before a0 Z = true) (w2 : (Cond.instanceMethod y).before a0 Z = true) (w4 : (Cond.code y yb yl none).before a0 Z = true) (hK : Back l R p e below s args y 3 W (fun A a => a = as' ∧ A.U.heap = h ∧ A.cells + kc ≤ R.cells ∧ A.slots + ks ≤ R.slots) (fun A _ v B => ∃ L, Q v B.U.heap L ∧ B.locs = A.locs ++ L ∧ B.cells = A.cells + kc ∧ B.slots = A.slots + ks)) (hd : decode bytes pc = .ok (.invokespecial i, 3)) (hp : pc + 3 = pc') (hy : y.cls ≠ "java/lang/invoke/MethodHandle" ∧ y.cls ≠ "java/lang/invoke/VarHandle") (hsz : Ls.size = ml) (ha : (.ref a :: argsL).toArray = as') (hst : st = argsL.reverse ++ .ref a :: rest) (hlen : ∀ sig, parseMethodDescriptor y.desc = some sig → argsL.length = sig.parameters.length) (hW : (rest.map fun v => v.category).sum ≤ W) (hc : cells + kc ≤ R.cells) (hs : slots + ks ≤ R.slots) (k : ∀ v T' L, Sx Z own bytes ml p l e R s m args below meth c T' (locs ++ L) (cells + kc) (slots + ks) T'.heap → Q v T'.heap L → Go p e below K (T'.setTop (mkF m pc' Ls (v.toList ++ rest)))) : Go p e below K (T.setTop (mkF m pc Ls (st))) := by
  subst hp; subst hst
  have hZ := X.2.2.2.2.2.1
  obtain ⟨v, vm1, ⟨T', L', k', n'⟩, -, X', ⟨L, hQ, l1, l2, l3⟩, stp⟩ := X.1.specialBack X.2.1 (y := y) hi X.2.2.2.2.1 (mvT hZ w1) (mvT hZ w2) (mvT hZ w4) hy hK (g := mkF m pc Ls (argsL.reverse ++ .ref a :: rest)) rfl (by rw [X.2.2.2.1]; exact hsz) (Steps.refl _) (a := a) (argsL := argsL) (rest := rest) hlen rfl (by simpa using hW) (hb X.2.2.1 hd) (fun _ _ => ⟨ha, X.2.2.2.2.2.2, hc, hs⟩)
  dsimp only [Pt.U, Pt.locs, Pt.cells, Pt.slots] at X' l1 l2 l3 stp hQ
  subst l1 l2 l3
  exact Go.step (fun t q => stp.trans q) (k v T' L ⟨X', X.2.1, X.2.2.1, X.2.2.2.1, X.2.2.2.2.1, X.2.2.2.2.2.1, rfl⟩ hQ)
theorem g_virtualB (X : Sx Z own bytes ml p l e R s m args below meth c T locs cells slots h) {y : MethodName} {as' : Array Value} {Q : Option Value → Heap → List Loc → Prop} {i W kc ks : Nat} {a : Addr} {C : String} (argsL rest : List Value) (E : Exa Z h a C) (w1 : (Cond.methodLink own i y).before a0 Z = true) (w2 : (Cond.declares y).before a0 Z = true) (w5 : (Cond.selects C y y).before a0 Z = true) (w6 : (Cond.instanceMethod y).before a0 Z = true) (hK : Back l R p e below s args y 3 W (fun A a => a = as' ∧ A.U.heap = h ∧ A.cells + kc ≤ R.cells ∧ A.slots + ks ≤ R.slots) (fun A _ v B => ∃ L, Q v B.U.heap L ∧ B.locs = A.locs ++ L ∧ B.cells = A.cells + kc ∧ B.slots = A.slots + ks)) (hd : decode bytes pc = .ok (.invokevirtual i, 3)) (hp : pc + 3 = pc') (hy : y.cls ≠ "java/lang/invoke/MethodHandle" ∧ y.cls ≠ "java/lang/invoke/VarHandle") (hsz : Ls.size = ml) (ha : (.ref a :: argsL).toArray = as') (hst : st = argsL.reverse ++ .ref a :: rest) (hlen : ∀ sig, parseMethodDescriptor y.desc = some sig → argsL.length = sig.parameters.length) (hW : (rest.map fun v => v.category).sum ≤ W) (hc : cells + kc ≤ R.cells) (hs : slots + ks ≤ R.slots) (k : ∀ v T' L, Sx Z own bytes ml p l e R s m args below meth c T' (locs ++ L) (cells + kc) (slots + ks) T'.heap → Q v T'.heap L → Go p e below K (T'.setTop (mkF m pc' Ls (v.toList ++ rest)))) : Go p e below K (T.setTop (mkF m pc Ls (st))) := by
  subst hp; subst hst
  have hZ := X.2.2.2.2.2.1
  obtain ⟨cq, kq, qa, qb, qc⟩ := isOf hZ X.2.2.2.2.2.2 E
  obtain ⟨v, vm1, ⟨T', L', k', n'⟩, -, X', ⟨L, hQ, l1, l2, l3⟩, stp⟩ := X.1.virtualBack X.2.1 (y := y) (z := y) X.2.2.2.2.1 (mvT hZ w1) (mvT hZ w2) (notFace_of_selects (args := #[]) (mvT hZ w5)) (mvT hZ w5) (mvT hZ w6) hy hK qa qc (g := mkF m pc Ls (argsL.reverse ++ .ref a :: rest)) rfl (by rw [X.2.2.2.1]; exact hsz) (Steps.refl _) (argsL := argsL) (rest := rest) hlen rfl (by simpa using hW) (hb X.2.2.1 hd) (fun _ _ => ⟨ha, X.2.2.2.2.2.2, hc, hs⟩)
  dsimp only [Pt.U, Pt.locs, Pt.cells, Pt.slots] at X' l1 l2 l3 stp hQ
  subst l1 l2 l3
  exact Go.step (fun t q => stp.trans q) (k v T' L ⟨X', X.2.1, X.2.2.1, X.2.2.2.1, X.2.2.2.2.1, X.2.2.2.2.2.1, rfl⟩ hQ)
theorem g_ireturn (X : Sx Z own bytes ml p l e R s m args below meth c T locs cells slots h) {Q : Option Value → Heap → List Loc → Prop} {kc ks : Nat} {z : Int32} (hd : decode bytes pc = .ok (.ireturn, 1)) (hret : meth.sig.returnType = some .int) (hlk : meth.locks = false) (hc : cells ≤ kc) (hs : slots ≤ ks) (q : Q (some (.int z)) h locs) : Go p e below (Ends s Q kc ks) (T.setTop (mkF m pc Ls (.int z :: st))) := by
  obtain ⟨fs, hr, hrun, hended, hW, hsame⟩ := X.1.leave (v := (some (.int z))) (fun h => by rw [hret] at h; cases h) hlk
  refine ⟨_, _, retI X.1 X.2.1 hret (hb X.2.2.1 hd) hr, hrun, hended, _, _, rfl, ?_, ⟨_, rfl⟩, hW, hsame.mono hc hs⟩
  show Q _ T.heap _
  rw [X.2.2.2.2.2.2]; exact q
theorem g_lreturn (X : Sx Z own bytes ml p l e R s m args below meth c T locs cells slots h) {Q : Option Value → Heap → List Loc → Prop} {kc ks : Nat} {z : Int64} (hd : decode bytes pc = .ok (.lreturn, 1)) (hret : meth.sig.returnType = some .long) (hlk : meth.locks = false) (hc : cells ≤ kc) (hs : slots ≤ ks) (q : Q (some (.long z)) h locs) : Go p e below (Ends s Q kc ks) (T.setTop (mkF m pc Ls (.long z :: st))) := by
  obtain ⟨fs, hr, hrun, hended, hW, hsame⟩ := X.1.leave (v := (some (.long z))) (fun h => by rw [hret] at h; cases h) hlk
  refine ⟨_, _, retJ X.1 X.2.1 hret (hb X.2.2.1 hd) hr, hrun, hended, _, _, rfl, ?_, ⟨_, rfl⟩, hW, hsame.mono hc hs⟩
  show Q _ T.heap _
  rw [X.2.2.2.2.2.2]; exact q
theorem g_ireturnN (X : Sx Z own bytes ml p l e R s m args below meth c T locs cells slots h) {Q : Option Value → Heap → List Loc → Prop} {kc ks : Nat} {z : Int32} {t : FieldType} (ht : t = .boolean ∨ t = .byte ∨ t = .char ∨ t = .short) (hd : decode bytes pc = .ok (.ireturn, 1)) (hret : meth.sig.returnType = some t) (hlk : meth.locks = false) (hc : cells ≤ kc) (hs : slots ≤ ks) (q : Q (some (.int (nar t z))) h locs) : Go p e below (Ends s Q kc ks) (T.setTop (mkF m pc Ls (.int z :: st))) := by
  obtain ⟨fs, hr, hrun, hended, hW, hsame⟩ := X.1.leave (v := (some (.int (nar t z)))) (fun h => by rw [hret] at h; cases h) hlk
  refine ⟨_, _, retN X.1 X.2.1 hret ht (hb X.2.2.1 hd) hr, hrun, hended, _, _, rfl, ?_, ⟨_, rfl⟩, hW, hsame.mono hc hs⟩
  show Q _ T.heap _
  rw [X.2.2.2.2.2.2]; exact q
theorem g_areturn (X : Sx Z own bytes ml p l e R s m args below meth c T locs cells slots h) {Q : Option Value → Heap → List Loc → Prop} {kc ks : Nat} {w : Value} {t : FieldType} (hw : w.isRef = true) (ht : t.isReference = true) (hd : decode bytes pc = .ok (.areturn, 1)) (hret : meth.sig.returnType = some t) (hlk : meth.locks = false) (hc : cells ≤ kc) (hs : slots ≤ ks) (q : Q (some w) h locs) : Go p e below (Ends s Q kc ks) (T.setTop (mkF m pc Ls ([w]))) := by
  obtain ⟨fs, hr, hrun, hended, hW, hsame⟩ := X.1.leave (v := (some w)) (fun h => by rw [hret] at h; cases h) hlk
  refine ⟨_, _, X.1.areturnOut X.2.1 hw hret ht (hb X.2.2.1 hd) hr, hrun, hended, _, _, rfl, ?_, ⟨_, rfl⟩, hW, hsame.mono hc hs⟩
  show Q _ T.heap _
  rw [X.2.2.2.2.2.2]; exact q
theorem g_return (X : Sx Z own bytes ml p l e R s m args below meth c T locs cells slots h) {Q : Option Value → Heap → List Loc → Prop} {kc ks : Nat} (hd : decode bytes pc = .ok (.return_, 1)) (hret : meth.sig.returnType = none) (hlk : meth.locks = false) (hc : cells ≤ kc) (hs : slots ≤ ks) (q : Q none h locs) : Go p e below (Ends s Q kc ks) (T.setTop (mkF m pc Ls ([]))) := by
  obtain ⟨fs, hr, hrun, hended, hW, hsame⟩ := X.1.leave (v := none) (fun _ => rfl) hlk
  refine ⟨_, _, X.1.returnOut X.2.1 hret (hb X.2.2.1 hd) hr, hrun, hended, _, _, rfl, ?_, ⟨_, rfl⟩, hW, hsame.mono hc hs⟩
  show Q _ T.heap _
  rw [X.2.2.2.2.2.2]; exact q
/-- a loop that writes nothing: F: the frame at its head; I: what holds there; mu: the turns left -/
theorem loopP {α : Type} (X : Sx Z own bytes ml p l e R s m args below meth c T locs cells slots h) (F : α → JFrame) (I : α → Prop) (mu : α → Nat)
    (hstep : ∀ (a : α) (T : State), Sx Z own bytes ml p l e R s m args below meth c T locs cells slots h → I a → (∀ (a' : α) (T' : State), mu a' < mu a → Sx Z own bytes ml p l e R s m args below meth c T' locs cells slots h → I a' → Go p e below K (T'.setTop (F a'))) → Go p e below K (T.setTop (F a))) (b : α) (hI : I b) : Go p e below K (T.setTop (F b)) := by
  have main : ∀ (n : Nat) (a : α) (T : State), mu a < n → Sx Z own bytes ml p l e R s m args below meth c T locs cells slots h → I a → Go p e below K (T.setTop (F a)) := by
    intro n
    induction n with
    | zero => intro a T q; exact absurd q (Nat.not_lt_zero _)
    | succ n ih => intro a T q X hI; exact hstep a T X hI (fun a' T' q' X' hI' => ih a' T' (Nat.lt_of_lt_of_le q' (Nat.le_of_lt_succ q)) X' hI')
  exact main _ b T (Nat.lt_succ_self _) X hI
/-- a loop that writes -/
theorem loopW {α : Type} (X : Sx Z own bytes ml p l e R s m args below meth c T locs cells slots h) (F : α → JFrame) (I : α → Heap → List Loc → Prop) (mu : α → Nat)
    (hstep : ∀ (a : α) (T : State) (h : Heap) (locs : List Loc), Sx Z own bytes ml p l e R s m args below meth c T locs cells slots h → I a h locs → (∀ (a' : α) (T' : State) (h' : Heap) (locs' : List Loc), mu a' < mu a → Sx Z own bytes ml p l e R s m args below meth c T' locs' cells slots h' → I a' h' locs' → Go p e below K (T'.setTop (F a'))) → Go p e below K (T.setTop (F a))) (b : α) (hI : I b h locs) : Go p e below K (T.setTop (F b)) := by
  have main : ∀ (n : Nat) (a : α) (T : State) (h : Heap) (locs : List Loc), mu a < n → Sx Z own bytes ml p l e R s m args below meth c T locs cells slots h → I a h locs → Go p e below K (T.setTop (F a)) := by
    intro n
    induction n with
    | zero => intro a T h locs q; exact absurd q (Nat.not_lt_zero _)
    | succ n ih => intro a T h locs q X hI; exact hstep a T h locs X hI (fun a' T' h' locs' q' X' hI' => ih a' T' h' locs' (Nat.lt_of_lt_of_le q' (Nat.le_of_lt_succ q)) X' hI')
  exact main _ b T h locs (Nat.lt_succ_self _) X hI
/-- two ways that meet again -/
theorem joinA {α : Type} (X : Sx Z own bytes ml p l e R s m args below meth c T locs cells slots h) (F : α → JFrame) (r : α → Prop) {f : JFrame} (k : ∀ (T' : State), Sx Z own bytes ml p l e R s m args below meth c T' locs cells slots h → ∀ v : α, r v → Go p e below K (T'.setTop (F v)))
    (b : (∀ (T' : State), Sx Z own bytes ml p l e R s m args below meth c T' locs cells slots h → ∀ v : α, r v → Go p e below K (T'.setTop (F v))) → Go p e below K (T.setTop f)) : Go p e below K (T.setTop f) := b k
end Walk
theorem narT : nar .boolean (1 : Int32) = b2i true := rfl
theorem narF : nar .boolean (0 : Int32) = b2i false := rfl
/-- the sheet's k-th word -/
theorem tb {a0 : Array Value} {Z : State} (hw : ∀ d ∈ tables_1, d.before a0 Z = true) (k : Nat) {d : Jvm.Cond} (hd : tables_1[k]? = some d) : d.before a0 Z = true := hw d (List.mem_of_getElem? hd)
/-- what a method says that writes and makes nothing: it returns this -/
def Pu (val : Value) (h0 : Heap) (v : Option Value) (h : Heap) (L : List Loc) : Prop := v = some val ∧ L = [] ∧ h = h0
theorem pureX {Z : State} {own : String} {bytes : ByteArray} {ml : Nat} {p : Program} {l : Launch} {e : Env} {R : Room} {s : State} {m : MethodId} {args : Array Value} {below : List Frame} {meth : Method} {c : Code} {T : State} {locs L : List Loc} {cells slots : Nat} {h : Heap} {val : Value} {v : Option Value}
    (X : Sx Z own bytes ml p l e R s m args below meth c T (locs ++ L) (cells + 0) (slots + 0) T.heap) (q : Pu val h v T.heap L) : v = some val ∧ Sx Z own bytes ml p l e R s m args below meth c T locs cells slots h := by
  obtain ⟨q1, rfl, q3⟩ := q
  rw [List.append_nil] at X
  exact ⟨q1, X.1, X.2.1, X.2.2.1, X.2.2.2.1, X.2.2.2.2.1, X.2.2.2.2.2.1, q3⟩
theorem pn_0 : plainName "com/example/ryazan/ryazan/numeric/SweepLimit" = true := by first | (simp [plainName, overriddenIn]; done) | decide +kernel
theorem d1_0 : decode prog_113_method_1_code 0 = .ok (.aload_n 0, 1) := by decide +kernel
theorem d1_1 : decode prog_113_method_1_code 1 = .ok (.invokespecial 1, 3) := by decide +kernel
theorem d1_4 : decode prog_113_method_1_code 4 = .ok (.aload_n 0, 1) := by decide +kernel
theorem d1_5 : decode prog_113_method_1_code 5 = .ok (.iconst (-1), 1) := by decide +kernel
theorem d1_6 : decode prog_113_method_1_code 6 = .ok (.putfield 7, 3) := by decide +kernel
theorem d1_9 : decode prog_113_method_1_code 9 = .ok (.return_, 1) := by decide +kernel
theorem ef_rInit (m : MethodId) (x0 : Addr) : entryFrame m #[(.ref x0)] 1 = mkF m 0 #[.val (.ref x0)] [] := by first | (simp [entryFrame, mkF, argsToLocals, Value.category]; done) | rfl
set_option maxRecDepth 65536 in
set_option maxHeartbeats 40000000 in
theorem rInit (l : Launch) (Z : State) (aa : Array Value) (hw : ∀ d ∈ tables_1, d.before aa Z = true) (ws : List Jvm.Cond) (a0 : Addr) (h0 : Heap) (n0 : Nat) (Z0 : n0 ≤ h0.size) (E_a0 : Exa Z h0 a0 "com/example/ryazan/ryazan/numeric/SweepLimit") (F_a0_sweeps : Fld Z h0 a0 "com/example/ryazan/ryazan/numeric/SweepLimit" "sweeps" "I" (.int (0 : Int32))) (F_a0_fewest : Fld Z h0 a0 "com/example/ryazan/ryazan/numeric/SweepLimit" "fewest" "[I" .null) (F_a0_narrowest : Fld Z h0 a0 "com/example/ryazan/ryazan/numeric/SweepLimit" "narrowest" "D" (.double (0 : UInt64))) (F_a0_progressed : Fld Z h0 a0 "com/example/ryazan/ryazan/numeric/SweepLimit" "progressed" "I" (.int (0 : Int32))) (g_a0 : n0 ≤ a0) :
    Rm l Z (⟨"com/example/ryazan/ryazan/numeric/SweepLimit", "<init>", "()V"⟩ : MethodName) prog_113_method_1_code 1 none ws ({ frames := 1, cells := 0, slots := 0, locals := 12 } : Room) #[(.ref a0)] h0 (fun v h L => v = none ∧ Fr n0 L ∧ Keep h0 h [a0] ∧ Exa Z h a0 "com/example/ryazan/ryazan/numeric/SweepLimit" ∧ Fld Z h a0 "com/example/ryazan/ryazan/numeric/SweepLimit" "sweeps" "I" (.int (-1 : Int32)) ∧ Fld Z h a0 "com/example/ryazan/ryazan/numeric/SweepLimit" "fewest" "[I" .null ∧ Fld Z h a0 "com/example/ryazan/ryazan/numeric/SweepLimit" "narrowest" "D" (.double (0 : UInt64)) ∧ Fld Z h a0 "com/example/ryazan/ryazan/numeric/SweepLimit" "progressed" "I" (.int (0 : Int32))) := by
  refine Rm.of (plainFor_of_name pn_0) ?_
  intro p e s m below meth cc T X hnm hret hlk
  refine Go.at_ (ef_rInit m a0) ?_
  have N := Fr.nil n0
  have Kp := Keep.refl h0 [a0]
  refine g_aloadN X d1_0 (pc' := 1) rfl rfl rfl ?_
  refine g_initO X (W := 0) (tb hw 7 rfl) (tb hw 8 rfl) (tb hw 9 rfl) d1_1 (pc' := 4) rfl rfl (by decide) (Nat.le_refl _) (by decide) ?_
  intro T X
  refine g_aloadN X d1_4 (pc' := 5) rfl rfl rfl ?_
  refine g_iconst X (-1 : Int32) d1_5 (pc' := 6) rfl rfl ?_
  refine g_putfield X (host := "") (Or.inl (tb hw 10 rfl)) Via.refl F_a0_sweeps E_a0 (Or.inl (tb hw 11 rfl)) (tb hw 2 rfl) (ty := .int) (by decide) rfl rfl d1_6 (pc' := 9) rfl ?_
  intro T h X W
  replace E_a0 := E_a0.wr W
  replace F_a0_sweeps := F_a0_sweeps.same W
  replace F_a0_fewest := F_a0_fewest.other W (Or.inr (slot_ne (Or.inl (tb hw 23 rfl)) (Or.inl (tb hw 11 rfl)) (by decide) (t := (.array .int)) (t' := .int) (by decide) (by decide)))
  replace F_a0_narrowest := F_a0_narrowest.other W (Or.inr (slot_ne (Or.inl (tb hw 25 rfl)) (Or.inl (tb hw 11 rfl)) (by decide) (t := .double) (t' := .int) (by decide) (by decide)))
  replace F_a0_progressed := F_a0_progressed.other W (Or.inr (slot_ne (Or.inl (tb hw 36 rfl)) (Or.inl (tb hw 11 rfl)) (by decide) (t := .int) (t' := .int) (by decide) (by decide)))
  replace Z0 := Nat.le_trans Z0 (Nat.le_of_eq W.size.symm)
  replace N := Fr.snoc X.1 N g_a0
  replace Kp := Kp.wr W (Or.inl (List.mem_of_getElem? (i := 0) rfl))
  refine g_return X d1_9 hret hlk (by decide) (by decide) ?_
  exact ⟨rfl, N, Kp, E_a0, F_a0_sweeps, F_a0_fewest, F_a0_narrowest, F_a0_progressed⟩
theorem d3_0 : decode prog_113_method_3_code 0 = .ok (.aload_n 0, 1) := by decide +kernel
theorem d3_1 : decode prog_113_method_3_code 1 = .ok (.getfield 7, 3) := by decide +kernel
theorem d3_4 : decode prog_113_method_3_code 4 = .ok (.ireturn, 1) := by decide +kernel
theorem ef_rSw (m : MethodId) (x0 : Addr) : entryFrame m #[(.ref x0)] 1 = mkF m 0 #[.val (.ref x0)] [] := by first | (simp [entryFrame, mkF, argsToLocals, Value.category]; done) | rfl
set_option maxRecDepth 65536 in
set_option maxHeartbeats 40000000 in
theorem rSw (l : Launch) (Z : State) (aa : Array Value) (hw : ∀ d ∈ tables_1, d.before aa Z = true) (ws : List Jvm.Cond) (a0 : Addr) (k : Int32) (h0 : Heap) (E_a0 : Exa Z h0 a0 "com/example/ryazan/ryazan/numeric/SweepLimit") (F_a0_sweeps : Fld Z h0 a0 "com/example/ryazan/ryazan/numeric/SweepLimit" "sweeps" "I" (.int k)) :
    Rm l Z (⟨"com/example/ryazan/ryazan/numeric/SweepLimit", "sweeps", "()I"⟩ : MethodName) prog_113_method_3_code 1 (some .int) ws ({ frames := 0, cells := 0, slots := 0, locals := 0 } : Room) #[(.ref a0)] h0 (Pu (.int k) h0) := by
  refine Rm.of (plainFor_of_name pn_0) ?_
  intro p e s m below meth cc T X hnm hret hlk
  refine Go.at_ (ef_rSw m a0) ?_
  refine g_aloadN X d3_0 (pc' := 1) rfl rfl rfl ?_
  refine g_getfield X (host := "") (Or.inl (tb hw 10 rfl)) Via.refl F_a0_sweeps d3_1 (pc' := 4) rfl ?_
  intro T X
  refine g_ireturn X d3_4 hret hlk (by decide) (by decide) ?_
  exact ⟨rfl, rfl, rfl⟩
/-- how far the sweeps may have gone -/
def Near (k p : Int32) : Prop := 0 ≤ (k + 1).toInt ∧ (k + 1).toInt ≤ 10 ∧ 0 ≤ p.toInt ∧ p.toInt ≤ (k + 1).toInt
theorem near1 {k p : Int32} (h : Near k p) : ¬ (k + 1) = (1000000 : Int32) := by
  intro e; have q := h.2.1; rw [e] at q; exact absurd q (by decide)
theorem near2 {k p : Int32} (h : Near k p) : ¬ (1000 : Int32) < ((k + 1) - p) := by
  obtain ⟨h1, h2, h3, h4⟩ := h
  have e : ((k + 1) - p).toInt = (k + 1).toInt - p.toInt := by rw [Int32.toInt_sub]; exact Int.bmod_eq_of_le (by omega) (by omega)
  rw [Int32.lt_iff_toInt_lt, e]; simp only [Int32.reduceToInt]; omega
theorem near3 {k p : Int32} (h : Near k p) : Near k (k + 1) := ⟨h.1, h.2.1, h.1, Int.le_refl _⟩
theorem ne_alias {a f w : Addr} {n : Nat} (h : f = w ∨ n ≤ f) (h1 : a ≠ w) (h2 : a < n) : a ≠ f := by
  rcases h with rfl | h
  · exact h1
  · exact Nat.ne_of_lt (Nat.lt_of_lt_of_le h2 h)
theorem d4_0 : decode prog_113_method_2_code 0 = .ok (.aload_n 0, 1) := by decide +kernel
theorem d4_1 : decode prog_113_method_2_code 1 = .ok (.dup, 1) := by decide +kernel
theorem d4_2 : decode prog_113_method_2_code 2 = .ok (.getfield 7, 3) := by decide +kernel
theorem d4_5 : decode prog_113_method_2_code 5 = .ok (.iconst 1, 1) := by decide +kernel
theorem d4_6 : decode prog_113_method_2_code 6 = .ok (.iadd, 1) := by decide +kernel
theorem d4_7 : decode prog_113_method_2_code 7 = .ok (.putfield 7, 3) := by decide +kernel
theorem d4_10 : decode prog_113_method_2_code 10 = .ok (.aload_n 0, 1) := by decide +kernel
theorem d4_11 : decode prog_113_method_2_code 11 = .ok (.getfield 13, 3) := by decide +kernel
theorem d4_14 : decode prog_113_method_2_code 14 = .ok (.ifnull 12, 3) := by decide +kernel
theorem d4_26 : decode prog_113_method_2_code 26 = .ok (.aload_n 0, 1) := by decide +kernel
theorem d4_27 : decode prog_113_method_2_code 27 = .ok (.dload_n 1, 1) := by decide +kernel
theorem d4_28 : decode prog_113_method_2_code 28 = .ok (.putfield 17, 3) := by decide +kernel
theorem d4_31 : decode prog_113_method_2_code 31 = .ok (.aload_n 0, 1) := by decide +kernel
theorem d4_32 : decode prog_113_method_2_code 32 = .ok (.aload_n 3, 1) := by decide +kernel
theorem d4_33 : decode prog_113_method_2_code 33 = .ok (.invokevirtual 21, 3) := by decide +kernel
theorem d4_36 : decode prog_113_method_2_code 36 = .ok (.checkcast 22, 3) := by decide +kernel
theorem d4_39 : decode prog_113_method_2_code 39 = .ok (.putfield 13, 3) := by decide +kernel
theorem d4_42 : decode prog_113_method_2_code 42 = .ok (.aload_n 0, 1) := by decide +kernel
theorem d4_43 : decode prog_113_method_2_code 43 = .ok (.aload_n 0, 1) := by decide +kernel
theorem d4_44 : decode prog_113_method_2_code 44 = .ok (.getfield 7, 3) := by decide +kernel
theorem d4_47 : decode prog_113_method_2_code 47 = .ok (.putfield 26, 3) := by decide +kernel
theorem d4_50 : decode prog_113_method_2_code 50 = .ok (.goto 61, 3) := by decide +kernel
theorem d4_111 : decode prog_113_method_2_code 111 = .ok (.aload_n 0, 1) := by decide +kernel
theorem d4_112 : decode prog_113_method_2_code 112 = .ok (.getfield 7, 3) := by decide +kernel
theorem d4_115 : decode prog_113_method_2_code 115 = .ok (.ldc 31, 2) := by decide +kernel
theorem d4_117 : decode prog_113_method_2_code 117 = .ok (.if_icmp .eq 18, 3) := by decide +kernel
theorem d4_120 : decode prog_113_method_2_code 120 = .ok (.aload_n 0, 1) := by decide +kernel
theorem d4_121 : decode prog_113_method_2_code 121 = .ok (.getfield 7, 3) := by decide +kernel
theorem d4_124 : decode prog_113_method_2_code 124 = .ok (.aload_n 0, 1) := by decide +kernel
theorem d4_125 : decode prog_113_method_2_code 125 = .ok (.getfield 26, 3) := by decide +kernel
theorem d4_128 : decode prog_113_method_2_code 128 = .ok (.isub, 1) := by decide +kernel
theorem d4_129 : decode prog_113_method_2_code 129 = .ok (.sipush 1000, 3) := by decide +kernel
theorem d4_132 : decode prog_113_method_2_code 132 = .ok (.if_icmp .le 7, 3) := by decide +kernel
theorem d4_139 : decode prog_113_method_2_code 139 = .ok (.iconst 0, 1) := by decide +kernel
theorem d4_140 : decode prog_113_method_2_code 140 = .ok (.ireturn, 1) := by decide +kernel
theorem ef_rR0n (m : MethodId) (x0 : Addr) (x1 : UInt64) (x2 : Addr) : entryFrame m #[(.ref x0), (.double x1), (.ref x2)] 5 = mkF m 0 #[.val (.ref x0), .val (.double x1), .second, .val (.ref x2), .unset] [] := by first | (simp [entryFrame, mkF, argsToLocals, Value.category]; done) | rfl
set_option maxRecDepth 65536 in
set_option maxHeartbeats 40000000 in
theorem rR0n (l : Launch) (Z : State) (aa : Array Value) (hw : ∀ d ∈ tables_1, d.before aa Z = true) (ws : List Jvm.Cond) (a0 : Addr) (d1 : UInt64) (w2 : Addr) (k : Int32) (dd : UInt64) (pg : Int32) (h0 : Heap) (n0 : Nat) (Z0 : n0 ≤ h0.size) (E_a0 : Exa Z h0 a0 "com/example/ryazan/ryazan/numeric/SweepLimit") (F_a0_sweeps : Fld Z h0 a0 "com/example/ryazan/ryazan/numeric/SweepLimit" "sweeps" "I" (.int k)) (F_a0_fewest : Fld Z h0 a0 "com/example/ryazan/ryazan/numeric/SweepLimit" "fewest" "[I" .null) (F_a0_narrowest : Fld Z h0 a0 "com/example/ryazan/ryazan/numeric/SweepLimit" "narrowest" "D" (.double dd)) (F_a0_progressed : Fld Z h0 a0 "com/example/ryazan/ryazan/numeric/SweepLimit" "progressed" "I" (.int pg)) (E_w2 : Exa Z h0 w2 "[I") (V_w2 : Av Z h0 w2 .int []) (g_a0 : n0 ≤ a0) (ne_w2_a0 : w2 ≠ a0) (hnr : Near k pg) :
    Rm l Z (⟨"com/example/ryazan/ryazan/numeric/SweepLimit", "reached", "(D[I)Z"⟩ : MethodName) prog_113_method_2_code 5 (some .boolean) ws ({ frames := 1, cells := 1, slots := 0, locals := 15 } : Room) #[(.ref a0), (.double d1), (.ref w2)] h0 (fun v h L => ∃ (p' : Int32) (f : Addr) (d' : UInt64), v = some (.int 0) ∧ Fr n0 L ∧ Keep h0 h [a0] ∧ n0 ≤ f ∧ (f = a0 ∨ h0.size ≤ f) ∧ Exa Z h a0 "com/example/ryazan/ryazan/numeric/SweepLimit" ∧ Fld Z h a0 "com/example/ryazan/ryazan/numeric/SweepLimit" "sweeps" "I" (.int (k + (1 : Int32))) ∧ Fld Z h a0 "com/example/ryazan/ryazan/numeric/SweepLimit" "progressed" "I" (.int p') ∧ Fld Z h a0 "com/example/ryazan/ryazan/numeric/SweepLimit" "narrowest" "D" (.double d') ∧ Fld Z h a0 "com/example/ryazan/ryazan/numeric/SweepLimit" "fewest" "[I" (.ref f) ∧ Exa Z h f "[I" ∧ Av Z h f .int [] ∧ Near k p') := by
  refine Rm.of (plainFor_of_name pn_0) ?_
  intro p e s m below meth cc T X hnm hret hlk
  refine Go.at_ (ef_rR0n m a0 d1 w2) ?_
  have N := Fr.nil n0
  have Kp := Keep.refl h0 [a0]
  refine g_aloadN X d4_0 (pc' := 1) rfl rfl rfl ?_
  refine g_dup X d4_1 (pc' := 2) rfl rfl ?_
  refine g_getfield X (host := "") (Or.inl (tb hw 10 rfl)) Via.refl F_a0_sweeps d4_2 (pc' := 5) rfl ?_
  intro T X
  refine g_iconst X (1 : Int32) d4_5 (pc' := 6) rfl rfl ?_
  refine g_iadd X d4_6 (pc' := 7) rfl ?_
  generalize ev7_1 : (k + (1 : Int32)) = v7_1
  refine g_putfield X (host := "") (Or.inl (tb hw 10 rfl)) Via.refl F_a0_sweeps E_a0 (Or.inl (tb hw 11 rfl)) (tb hw 2 rfl) (ty := .int) (by decide) rfl rfl d4_7 (pc' := 10) rfl ?_
  intro T h X W
  replace E_a0 := E_a0.wr W
  replace F_a0_sweeps := F_a0_sweeps.same W
  replace F_a0_fewest := F_a0_fewest.other W (Or.inr (slot_ne (Or.inl (tb hw 23 rfl)) (Or.inl (tb hw 11 rfl)) (by decide) (t := (.array .int)) (t' := .int) (by decide) (by decide)))
  replace F_a0_narrowest := F_a0_narrowest.other W (Or.inr (slot_ne (Or.inl (tb hw 25 rfl)) (Or.inl (tb hw 11 rfl)) (by decide) (t := .double) (t' := .int) (by decide) (by decide)))
  replace F_a0_progressed := F_a0_progressed.other W (Or.inr (slot_ne (Or.inl (tb hw 36 rfl)) (Or.inl (tb hw 11 rfl)) (by decide) (t := .int) (t' := .int) (by decide) (by decide)))
  replace E_w2 := E_w2.wr W
  replace V_w2 := V_w2.other W ne_w2_a0
  replace Z0 := Nat.le_trans Z0 (Nat.le_of_eq W.size.symm)
  replace N := Fr.snoc X.1 N g_a0
  replace Kp := Kp.wr W (Or.inl (List.mem_of_getElem? (i := 0) rfl))
  refine g_aloadN X d4_10 (pc' := 11) rfl rfl rfl ?_
  refine g_getfield X (host := "") (Or.inl (tb hw 22 rfl)) Via.refl F_a0_fewest d4_11 (pc' := 14) rfl ?_
  intro T X
  refine g_nullY X d4_14 (pc' := 26) (by decide) (by decide) ?_
  refine g_aloadN X d4_26 (pc' := 27) rfl rfl rfl ?_
  refine g_dloadN X d4_27 (pc' := 28) rfl rfl ?_
  refine g_putfield X (host := "") (Or.inl (tb hw 24 rfl)) Via.refl F_a0_narrowest E_a0 (Or.inl (tb hw 25 rfl)) (tb hw 2 rfl) (ty := .double) (by decide) rfl rfl d4_28 (pc' := 31) rfl ?_
  intro T h X W
  replace E_a0 := E_a0.wr W
  replace F_a0_sweeps := F_a0_sweeps.other W (Or.inr (slot_ne (Or.inl (tb hw 11 rfl)) (Or.inl (tb hw 25 rfl)) (by decide) (t := .int) (t' := .double) (by decide) (by decide)))
  replace F_a0_fewest := F_a0_fewest.other W (Or.inr (slot_ne (Or.inl (tb hw 23 rfl)) (Or.inl (tb hw 25 rfl)) (by decide) (t := (.array .int)) (t' := .double) (by decide) (by decide)))
  replace F_a0_narrowest := F_a0_narrowest.same W
  replace F_a0_progressed := F_a0_progressed.other W (Or.inr (slot_ne (Or.inl (tb hw 36 rfl)) (Or.inl (tb hw 25 rfl)) (by decide) (t := .int) (t' := .double) (by decide) (by decide)))
  replace E_w2 := E_w2.wr W
  replace V_w2 := V_w2.other W ne_w2_a0
  replace Z0 := Nat.le_trans Z0 (Nat.le_of_eq W.size.symm)
  replace N := Fr.snoc X.1 N g_a0
  replace Kp := Kp.wr W (Or.inl (List.mem_of_getElem? (i := 0) rfl))
  refine g_aloadN X d4_31 (pc' := 32) rfl rfl rfl ?_
  refine g_aloadN X d4_32 (pc' := 33) rfl rfl rfl ?_
  refine g_clone X (W := 1) (tb hw 26 rfl) (tb hw 27 rfl) (tb hw 31 rfl) (tb hw 29 rfl) (tb hw 30 rfl) (tb hw 32 rfl) V_w2 E_w2 fit0 d4_33 (pc' := 36) rfl rfl (by decide) (Nat.le_refl _) (by decide) 0 (Nat.le_of_ble_eq_true rfl) (by decide) (by decide) ?_
  intro T h b33_2 s_b33_2 X Ex E_b33_2 V_b33_2
  have ne_a0_b33_2 : a0 ≠ b33_2 := Nat.ne_of_lt (by rw [s_b33_2]; exact E_a0.lt)
  have ne_w2_b33_2 : w2 ≠ b33_2 := Nat.ne_of_lt (by rw [s_b33_2]; exact E_w2.lt)
  have g_b33_2 : n0 ≤ b33_2 := by rw [s_b33_2]; exact Z0
  have sz_b33_2 : h0.size ≤ b33_2 := by rw [s_b33_2]; exact Kp.1
  replace E_a0 := E_a0.ext Ex
  replace F_a0_sweeps := F_a0_sweeps.ext Ex
  replace F_a0_fewest := F_a0_fewest.ext Ex
  replace F_a0_narrowest := F_a0_narrowest.ext Ex
  replace F_a0_progressed := F_a0_progressed.ext Ex
  replace E_w2 := E_w2.ext Ex
  replace V_w2 := V_w2.ext Ex
  replace Z0 := Nat.le_trans Z0 Ex.1
  replace Kp := Kp.ext Ex
  refine g_checkcast X (tb hw 33 rfl) (Ins.self E_b33_2) d4_36 (pc' := 39) rfl ?_
  intro T X
  refine g_putfield X (host := "") (Or.inl (tb hw 22 rfl)) Via.refl F_a0_fewest E_a0 (Or.inl (tb hw 23 rfl)) (tb hw 2 rfl) (ty := (.array .int)) (by decide) rfl rfl d4_39 (pc' := 42) rfl ?_
  intro T h X W
  replace E_a0 := E_a0.wr W
  replace F_a0_sweeps := F_a0_sweeps.other W (Or.inr (slot_ne (Or.inl (tb hw 11 rfl)) (Or.inl (tb hw 23 rfl)) (by decide) (t := .int) (t' := (.array .int)) (by decide) (by decide)))
  replace F_a0_fewest := F_a0_fewest.same W
  replace F_a0_narrowest := F_a0_narrowest.other W (Or.inr (slot_ne (Or.inl (tb hw 25 rfl)) (Or.inl (tb hw 23 rfl)) (by decide) (t := .double) (t' := (.array .int)) (by decide) (by decide)))
  replace F_a0_progressed := F_a0_progressed.other W (Or.inr (slot_ne (Or.inl (tb hw 36 rfl)) (Or.inl (tb hw 23 rfl)) (by decide) (t := .int) (t' := (.array .int)) (by decide) (by decide)))
  replace E_w2 := E_w2.wr W
  replace V_w2 := V_w2.other W ne_w2_a0
  replace E_b33_2 := E_b33_2.wr W
  replace V_b33_2 := V_b33_2.other W (Ne.symm ne_a0_b33_2)
  replace Z0 := Nat.le_trans Z0 (Nat.le_of_eq W.size.symm)
  replace N := Fr.snoc X.1 N g_a0
  replace Kp := Kp.wr W (Or.inl (List.mem_of_getElem? (i := 0) rfl))
  refine g_aloadN X d4_42 (pc' := 43) rfl rfl rfl ?_
  refine g_aloadN X d4_43 (pc' := 44) rfl rfl rfl ?_
  refine g_getfield X (host := "") (Or.inl (tb hw 10 rfl)) Via.refl F_a0_sweeps d4_44 (pc' := 47) rfl ?_
  intro T X
  refine g_putfield X (host := "") (Or.inl (tb hw 35 rfl)) Via.refl F_a0_progressed E_a0 (Or.inl (tb hw 36 rfl)) (tb hw 2 rfl) (ty := .int) (by decide) rfl rfl d4_47 (pc' := 50) rfl ?_
  intro T h X W
  replace E_a0 := E_a0.wr W
  replace F_a0_sweeps := F_a0_sweeps.other W (Or.inr (slot_ne (Or.inl (tb hw 11 rfl)) (Or.inl (tb hw 36 rfl)) (by decide) (t := .int) (t' := .int) (by decide) (by decide)))
  replace F_a0_fewest := F_a0_fewest.other W (Or.inr (slot_ne (Or.inl (tb hw 23 rfl)) (Or.inl (tb hw 36 rfl)) (by decide) (t := (.array .int)) (t' := .int) (by decide) (by decide)))
  replace F_a0_narrowest := F_a0_narrowest.other W (Or.inr (slot_ne (Or.inl (tb hw 25 rfl)) (Or.inl (tb hw 36 rfl)) (by decide) (t := .double) (t' := .int) (by decide) (by decide)))
  replace F_a0_progressed := F_a0_progressed.same W
  replace E_w2 := E_w2.wr W
  replace V_w2 := V_w2.other W ne_w2_a0
  replace E_b33_2 := E_b33_2.wr W
  replace V_b33_2 := V_b33_2.other W (Ne.symm ne_a0_b33_2)
  replace Z0 := Nat.le_trans Z0 (Nat.le_of_eq W.size.symm)
  replace N := Fr.snoc X.1 N g_a0
  replace Kp := Kp.wr W (Or.inl (List.mem_of_getElem? (i := 0) rfl))
  refine g_goto X d4_50 (pc' := 111) (by decide) (by decide) ?_
  refine g_aloadN X d4_111 (pc' := 112) rfl rfl rfl ?_
  refine g_getfield X (host := "") (Or.inl (tb hw 10 rfl)) Via.refl F_a0_sweeps d4_112 (pc' := 115) rfl ?_
  intro T X
  refine g_ldc X (tb hw 37 rfl) d4_115 (pc' := 117) rfl ?_
  refine g_icN X d4_117 (feq (show ¬ (v7_1 = (1000000 : Int32)) from (by subst_vars; exact near1 hnr))).1 (pc' := 120) rfl ?_
  refine g_aloadN X d4_120 (pc' := 121) rfl rfl rfl ?_
  refine g_getfield X (host := "") (Or.inl (tb hw 10 rfl)) Via.refl F_a0_sweeps d4_121 (pc' := 124) rfl ?_
  intro T X
  refine g_aloadN X d4_124 (pc' := 125) rfl rfl rfl ?_
  refine g_getfield X (host := "") (Or.inl (tb hw 35 rfl)) Via.refl F_a0_progressed d4_125 (pc' := 128) rfl ?_
  intro T X
  refine g_isub X d4_128 (pc' := 129) rfl ?_
  refine g_sipush X (1000 : Int32) d4_129 (pc' := 132) rfl rfl ?_
  refine g_icY X d4_132 (flt (show ¬ ((1000 : Int32) < (v7_1 - v7_1)) from (by subst_vars; exact near2 (near3 hnr)))).2.2.2 (pc' := 139) (by decide) (by decide) ?_
  refine g_iconst X (0 : Int32) d4_139 (pc' := 140) rfl rfl ?_
  refine g_ireturnN X (t := .boolean) (by simp) d4_140 hret hlk (by decide) (by decide) ?_
  subst ev7_1
  exact ⟨_, b33_2, _, rfl, N, Kp, g_b33_2, Or.inr sz_b33_2, E_a0, F_a0_sweeps, F_a0_progressed, F_a0_narrowest, F_a0_fewest, E_b33_2, V_b33_2, near3 hnr⟩
theorem d4_17 : decode prog_113_method_2_code 17 = .ok (.dload_n 1, 1) := by decide +kernel
theorem d4_18 : decode prog_113_method_2_code 18 = .ok (.aload_n 0, 1) := by decide +kernel
theorem d4_19 : decode prog_113_method_2_code 19 = .ok (.getfield 17, 3) := by decide +kernel
theorem d4_22 : decode prog_113_method_2_code 22 = .ok (.dcmp .g, 1) := by decide +kernel
theorem d4_23 : decode prog_113_method_2_code 23 = .ok (.ifCond .ge 30, 3) := by decide +kernel
theorem d4_53 : decode prog_113_method_2_code 53 = .ok (.dload_n 1, 1) := by decide +kernel
theorem d4_54 : decode prog_113_method_2_code 54 = .ok (.aload_n 0, 1) := by decide +kernel
theorem d4_55 : decode prog_113_method_2_code 55 = .ok (.getfield 17, 3) := by decide +kernel
theorem d4_58 : decode prog_113_method_2_code 58 = .ok (.dcmp .l, 1) := by decide +kernel
theorem d4_59 : decode prog_113_method_2_code 59 = .ok (.ifCond .ne 52, 3) := by decide +kernel
theorem d4_62 : decode prog_113_method_2_code 62 = .ok (.iconst 0, 1) := by decide +kernel
theorem d4_63 : decode prog_113_method_2_code 63 = .ok (.istore 4, 2) := by decide +kernel
theorem d4_65 : decode prog_113_method_2_code 65 = .ok (.iload 4, 2) := by decide +kernel
theorem d4_67 : decode prog_113_method_2_code 67 = .ok (.aload_n 3, 1) := by decide +kernel
theorem d4_68 : decode prog_113_method_2_code 68 = .ok (.arraylength, 1) := by decide +kernel
theorem d4_69 : decode prog_113_method_2_code 69 = .ok (.if_icmp .ge 42, 3) := by decide +kernel
theorem ef_rR0 (m : MethodId) (x0 : Addr) (x1 : UInt64) (x2 : Addr) : entryFrame m #[(.ref x0), (.double x1), (.ref x2)] 5 = mkF m 0 #[.val (.ref x0), .val (.double x1), .second, .val (.ref x2), .unset] [] := by first | (simp [entryFrame, mkF, argsToLocals, Value.category]; done) | rfl
set_option maxRecDepth 65536 in
set_option maxHeartbeats 40000000 in
theorem rR0 (l : Launch) (Z : State) (aa : Array Value) (hw : ∀ d ∈ tables_1, d.before aa Z = true) (ws : List Jvm.Cond) (a0 : Addr) (d1 : UInt64) (w2 : Addr) (k : Int32) (w1 : Addr) (dd : UInt64) (pg : Int32) (h0 : Heap) (n0 : Nat) (Z0 : n0 ≤ h0.size) (E_a0 : Exa Z h0 a0 "com/example/ryazan/ryazan/numeric/SweepLimit") (F_a0_sweeps : Fld Z h0 a0 "com/example/ryazan/ryazan/numeric/SweepLimit" "sweeps" "I" (.int k)) (F_a0_fewest : Fld Z h0 a0 "com/example/ryazan/ryazan/numeric/SweepLimit" "fewest" "[I" (.ref w1)) (F_a0_narrowest : Fld Z h0 a0 "com/example/ryazan/ryazan/numeric/SweepLimit" "narrowest" "D" (.double dd)) (F_a0_progressed : Fld Z h0 a0 "com/example/ryazan/ryazan/numeric/SweepLimit" "progressed" "I" (.int pg)) (E_w2 : Exa Z h0 w2 "[I") (V_w2 : Av Z h0 w2 .int []) (E_w1 : Exa Z h0 w1 "[I") (V_w1 : Av Z h0 w1 .int []) (g_a0 : n0 ≤ a0) (g_w1 : n0 ≤ w1) (ne_a0_w1 : a0 ≠ w1) (ne_w2_a0 : w2 ≠ a0) (ne_w2_w1 : w2 ≠ w1) (hnr : Near k pg) :
    Rm l Z (⟨"com/example/ryazan/ryazan/numeric/SweepLimit", "reached", "(D[I)Z"⟩ : MethodName) prog_113_method_2_code 5 (some .boolean) ws ({ frames := 1, cells := 1, slots := 0, locals := 15 } : Room) #[(.ref a0), (.double d1), (.ref w2)] h0 (fun v h L => ∃ (p' : Int32) (f : Addr) (d' : UInt64), v = some (.int 0) ∧ Fr n0 L ∧ Keep h0 h [a0, w1] ∧ n0 ≤ f ∧ (f = w1 ∨ h0.size ≤ f) ∧ Exa Z h a0 "com/example/ryazan/ryazan/numeric/SweepLimit" ∧ Fld Z h a0 "com/example/ryazan/ryazan/numeric/SweepLimit" "sweeps" "I" (.int (k + (1 : Int32))) ∧ Fld Z h a0 "com/example/ryazan/ryazan/numeric/SweepLimit" "progressed" "I" (.int p') ∧ Fld Z h a0 "com/example/ryazan/ryazan/numeric/SweepLimit" "narrowest" "D" (.double d') ∧ Fld Z h a0 "com/example/ryazan/ryazan/numeric/SweepLimit" "fewest" "[I" (.ref f) ∧ Exa Z h f "[I" ∧ Av Z h f .int [] ∧ Near k p') := by
  refine Rm.of (plainFor_of_name pn_0) ?_
  intro p e s m below meth cc T X hnm hret hlk
  refine Go.at_ (ef_rR0 m a0 d1 w2) ?_
  have N := Fr.nil n0
  have Kp := Keep.refl h0 [a0, w1]
  refine g_aloadN X d4_0 (pc' := 1) rfl rfl rfl ?_
  refine g_dup X d4_1 (pc' := 2) rfl rfl ?_
  refine g_getfield X (host := "") (Or.inl (tb hw 10 rfl)) Via.refl F_a0_sweeps d4_2 (pc' := 5) rfl ?_
  intro T X
  refine g_iconst X (1 : Int32) d4_5 (pc' := 6) rfl rfl ?_
  refine g_iadd X d4_6 (pc' := 7) rfl ?_
  generalize ev7_1 : (k + (1 : Int32)) = v7_1
  refine g_putfield X (host := "") (Or.inl (tb hw 10 rfl)) Via.refl F_a0_sweeps E_a0 (Or.inl (tb hw 11 rfl)) (tb hw 2 rfl) (ty := .int) (by decide) rfl rfl d4_7 (pc' := 10) rfl ?_
  intro T h X W
  replace E_a0 := E_a0.wr W
  replace F_a0_sweeps := F_a0_sweeps.same W
  replace F_a0_fewest := F_a0_fewest.other W (Or.inr (slot_ne (Or.inl (tb hw 23 rfl)) (Or.inl (tb hw 11 rfl)) (by decide) (t := (.array .int)) (t' := .int) (by decide) (by decide)))
  replace F_a0_narrowest := F_a0_narrowest.other W (Or.inr (slot_ne (Or.inl (tb hw 25 rfl)) (Or.inl (tb hw 11 rfl)) (by decide) (t := .double) (t' := .int) (by decide) (by decide)))
  replace F_a0_progressed := F_a0_progressed.other W (Or.inr (slot_ne (Or.inl (tb hw 36 rfl)) (Or.inl (tb hw 11 rfl)) (by decide) (t := .int) (t' := .int) (by decide) (by decide)))
  replace E_w2 := E_w2.wr W
  replace V_w2 := V_w2.other W ne_w2_a0
  replace E_w1 := E_w1.wr W
  replace V_w1 := V_w1.other W (Ne.symm ne_a0_w1)
  replace Z0 := Nat.le_trans Z0 (Nat.le_of_eq W.size.symm)
  replace N := Fr.snoc X.1 N g_a0
  replace Kp := Kp.wr W (Or.inl (List.mem_of_getElem? (i := 0) rfl))
  refine g_aloadN X d4_10 (pc' := 11) rfl rfl rfl ?_
  refine g_getfield X (host := "") (Or.inl (tb hw 22 rfl)) Via.refl F_a0_fewest d4_11 (pc' := 14) rfl ?_
  intro T X
  refine g_nullN X d4_14 (pc' := 17) rfl ?_
  refine g_dloadN X d4_17 (pc' := 18) rfl rfl ?_
  refine g_aloadN X d4_18 (pc' := 19) rfl rfl rfl ?_
  refine g_getfield X (host := "") (Or.inl (tb hw 24 rfl)) Via.refl F_a0_narrowest d4_19 (pc' := 22) rfl ?_
  intro T X
  refine g_dcmp X d4_22 (pc' := 23) rfl ?_
  intro w22_2
  by_cases hc23_3 : w22_2 < (0 : Int32)
  · skip
    refine g_ifN X d4_23 ((if0 _ _).trans (tlt hc23_3).2.1) (pc' := 26) rfl ?_
    refine g_aloadN X d4_26 (pc' := 27) rfl rfl rfl ?_
    refine g_dloadN X d4_27 (pc' := 28) rfl rfl ?_
    refine g_putfield X (host := "") (Or.inl (tb hw 24 rfl)) Via.refl F_a0_narrowest E_a0 (Or.inl (tb hw 25 rfl)) (tb hw 2 rfl) (ty := .double) (by decide) rfl rfl d4_28 (pc' := 31) rfl ?_
    intro T h X W
    replace E_a0 := E_a0.wr W
    replace F_a0_sweeps := F_a0_sweeps.other W (Or.inr (slot_ne (Or.inl (tb hw 11 rfl)) (Or.inl (tb hw 25 rfl)) (by decide) (t := .int) (t' := .double) (by decide) (by decide)))
    replace F_a0_fewest := F_a0_fewest.other W (Or.inr (slot_ne (Or.inl (tb hw 23 rfl)) (Or.inl (tb hw 25 rfl)) (by decide) (t := (.array .int)) (t' := .double) (by decide) (by decide)))
    replace F_a0_narrowest := F_a0_narrowest.same W
    replace F_a0_progressed := F_a0_progressed.other W (Or.inr (slot_ne (Or.inl (tb hw 36 rfl)) (Or.inl (tb hw 25 rfl)) (by decide) (t := .int) (t' := .double) (by decide) (by decide)))
    replace E_w2 := E_w2.wr W
    replace V_w2 := V_w2.other W ne_w2_a0
    replace E_w1 := E_w1.wr W
    replace V_w1 := V_w1.other W (Ne.symm ne_a0_w1)
    replace Z0 := Nat.le_trans Z0 (Nat.le_of_eq W.size.symm)
    replace N := Fr.snoc X.1 N g_a0
    replace Kp := Kp.wr W (Or.inl (List.mem_of_getElem? (i := 0) rfl))
    refine g_aloadN X d4_31 (pc' := 32) rfl rfl rfl ?_
    refine g_aloadN X d4_32 (pc' := 33) rfl rfl rfl ?_
    refine g_clone X (W := 1) (tb hw 26 rfl) (tb hw 27 rfl) (tb hw 31 rfl) (tb hw 29 rfl) (tb hw 30 rfl) (tb hw 32 rfl) V_w2 E_w2 fit0 d4_33 (pc' := 36) rfl rfl (by decide) (Nat.le_refl _) (by decide) 0 (Nat.le_of_ble_eq_true rfl) (by decide) (by decide) ?_
    intro T h b33_4 s_b33_4 X Ex E_b33_4 V_b33_4
    have ne_a0_b33_4 : a0 ≠ b33_4 := Nat.ne_of_lt (by rw [s_b33_4]; exact E_a0.lt)
    have ne_w2_b33_4 : w2 ≠ b33_4 := Nat.ne_of_lt (by rw [s_b33_4]; exact E_w2.lt)
    have ne_w1_b33_4 : w1 ≠ b33_4 := Nat.ne_of_lt (by rw [s_b33_4]; exact E_w1.lt)
    have g_b33_4 : n0 ≤ b33_4 := by rw [s_b33_4]; exact Z0
    have sz_b33_4 : h0.size ≤ b33_4 := by rw [s_b33_4]; exact Kp.1
    replace E_a0 := E_a0.ext Ex
    replace F_a0_sweeps := F_a0_sweeps.ext Ex
    replace F_a0_fewest := F_a0_fewest.ext Ex
    replace F_a0_narrowest := F_a0_narrowest.ext Ex
    replace F_a0_progressed := F_a0_progressed.ext Ex
    replace E_w2 := E_w2.ext Ex
    replace V_w2 := V_w2.ext Ex
    replace E_w1 := E_w1.ext Ex
    replace V_w1 := V_w1.ext Ex
    replace Z0 := Nat.le_trans Z0 Ex.1
    replace Kp := Kp.ext Ex
    refine g_checkcast X (tb hw 33 rfl) (Ins.self E_b33_4) d4_36 (pc' := 39) rfl ?_
    intro T X
    refine g_putfield X (host := "") (Or.inl (tb hw 22 rfl)) Via.refl F_a0_fewest E_a0 (Or.inl (tb hw 23 rfl)) (tb hw 2 rfl) (ty := (.array .int)) (by decide) rfl rfl d4_39 (pc' := 42) rfl ?_
    intro T h X W
    replace E_a0 := E_a0.wr W
    replace F_a0_sweeps := F_a0_sweeps.other W (Or.inr (slot_ne (Or.inl (tb hw 11 rfl)) (Or.inl (tb hw 23 rfl)) (by decide) (t := .int) (t' := (.array .int)) (by decide) (by decide)))
    replace F_a0_fewest := F_a0_fewest.same W
    replace F_a0_narrowest := F_a0_narrowest.other W (Or.inr (slot_ne (Or.inl (tb hw 25 rfl)) (Or.inl (tb hw 23 rfl)) (by decide) (t := .double) (t' := (.array .int)) (by decide) (by decide)))
    replace F_a0_progressed := F_a0_progressed.other W (Or.inr (slot_ne (Or.inl (tb hw 36 rfl)) (Or.inl (tb hw 23 rfl)) (by decide) (t := .int) (t' := (.array .int)) (by decide) (by decide)))
    replace E_w2 := E_w2.wr W
    replace V_w2 := V_w2.other W ne_w2_a0
    replace E_w1 := E_w1.wr W
    replace V_w1 := V_w1.other W (Ne.symm ne_a0_w1)
    replace E_b33_4 := E_b33_4.wr W
    replace V_b33_4 := V_b33_4.other W (Ne.symm ne_a0_b33_4)
    replace Z0 := Nat.le_trans Z0 (Nat.le_of_eq W.size.symm)
    replace N := Fr.snoc X.1 N g_a0
    replace Kp := Kp.wr W (Or.inl (List.mem_of_getElem? (i := 0) rfl))
    refine g_aloadN X d4_42 (pc' := 43) rfl rfl rfl ?_
    refine g_aloadN X d4_43 (pc' := 44) rfl rfl rfl ?_
    refine g_getfield X (host := "") (Or.inl (tb hw 10 rfl)) Via.refl F_a0_sweeps d4_44 (pc' := 47) rfl ?_
    intro T X
    refine g_putfield X (host := "") (Or.inl (tb hw 35 rfl)) Via.refl F_a0_progressed E_a0 (Or.inl (tb hw 36 rfl)) (tb hw 2 rfl) (ty := .int) (by decide) rfl rfl d4_47 (pc' := 50) rfl ?_
    intro T h X W
    replace E_a0 := E_a0.wr W
    replace F_a0_sweeps := F_a0_sweeps.other W (Or.inr (slot_ne (Or.inl (tb hw 11 rfl)) (Or.inl (tb hw 36 rfl)) (by decide) (t := .int) (t' := .int) (by decide) (by decide)))
    replace F_a0_fewest := F_a0_fewest.other W (Or.inr (slot_ne (Or.inl (tb hw 23 rfl)) (Or.inl (tb hw 36 rfl)) (by decide) (t := (.array .int)) (t' := .int) (by decide) (by decide)))
    replace F_a0_narrowest := F_a0_narrowest.other W (Or.inr (slot_ne (Or.inl (tb hw 25 rfl)) (Or.inl (tb hw 36 rfl)) (by decide) (t := .double) (t' := .int) (by decide) (by decide)))
    replace F_a0_progressed := F_a0_progressed.same W
    replace E_w2 := E_w2.wr W
    replace V_w2 := V_w2.other W ne_w2_a0
    replace E_w1 := E_w1.wr W
    replace V_w1 := V_w1.other W (Ne.symm ne_a0_w1)
    replace E_b33_4 := E_b33_4.wr W
    replace V_b33_4 := V_b33_4.other W (Ne.symm ne_a0_b33_4)
    replace Z0 := Nat.le_trans Z0 (Nat.le_of_eq W.size.symm)
    replace N := Fr.snoc X.1 N g_a0
    replace Kp := Kp.wr W (Or.inl (List.mem_of_getElem? (i := 0) rfl))
    refine g_goto X d4_50 (pc' := 111) (by decide) (by decide) ?_
    refine g_aloadN X d4_111 (pc' := 112) rfl rfl rfl ?_
    refine g_getfield X (host := "") (Or.inl (tb hw 10 rfl)) Via.refl F_a0_sweeps d4_112 (pc' := 115) rfl ?_
    intro T X
    refine g_ldc X (tb hw 37 rfl) d4_115 (pc' := 117) rfl ?_
    refine g_icN X d4_117 (feq (show ¬ (v7_1 = (1000000 : Int32)) from (by subst_vars; exact near1 hnr))).1 (pc' := 120) rfl ?_
    refine g_aloadN X d4_120 (pc' := 121) rfl rfl rfl ?_
    refine g_getfield X (host := "") (Or.inl (tb hw 10 rfl)) Via.refl F_a0_sweeps d4_121 (pc' := 124) rfl ?_
    intro T X
    refine g_aloadN X d4_124 (pc' := 125) rfl rfl rfl ?_
    refine g_getfield X (host := "") (Or.inl (tb hw 35 rfl)) Via.refl F_a0_progressed d4_125 (pc' := 128) rfl ?_
    intro T X
    refine g_isub X d4_128 (pc' := 129) rfl ?_
    refine g_sipush X (1000 : Int32) d4_129 (pc' := 132) rfl rfl ?_
    refine g_icY X d4_132 (flt (show ¬ ((1000 : Int32) < (v7_1 - v7_1)) from (by subst_vars; exact near2 (near3 hnr)))).2.2.2 (pc' := 139) (by decide) (by decide) ?_
    refine g_iconst X (0 : Int32) d4_139 (pc' := 140) rfl rfl ?_
    refine g_ireturnN X (t := .boolean) (by simp) d4_140 hret hlk (by decide) (by decide) ?_
    subst ev7_1
    exact ⟨_, b33_4, _, rfl, N, Kp, g_b33_4, Or.inr sz_b33_4, E_a0, F_a0_sweeps, F_a0_progressed, F_a0_narrowest, F_a0_fewest, E_b33_4, V_b33_4, near3 hnr⟩
  · skip
    refine g_ifY X d4_23 ((if0 _ _).trans (flt hc23_3).2.1) (pc' := 53) (by decide) (by decide) ?_
    refine g_dloadN X d4_53 (pc' := 54) rfl rfl ?_
    refine g_aloadN X d4_54 (pc' := 55) rfl rfl rfl ?_
    refine g_getfield X (host := "") (Or.inl (tb hw 24 rfl)) Via.refl F_a0_narrowest d4_55 (pc' := 58) rfl ?_
    intro T X
    refine g_dcmp X d4_58 (pc' := 59) rfl ?_
    intro w58_5
    by_cases hc59_6 : w58_5 = (0 : Int32)
    · skip
      refine g_ifN X d4_59 ((if0 _ _).trans (teq hc59_6).2) (pc' := 62) rfl ?_
      refine g_iconst X (0 : Int32) d4_62 (pc' := 63) rfl rfl ?_
      refine g_istore X d4_63 (pc' := 65) (Ls' := #[.val (.ref a0), .val (.double d1), .second, .val (.ref w2), .val (.int (0 : Int32))]) rfl rfl ?_
      refine g_iload X d4_65 (pc' := 67) rfl rfl ?_
      refine g_aloadN X d4_67 (pc' := 68) rfl rfl rfl ?_
      refine g_arraylength X V_w2 d4_68 (pc' := 69) rfl (z := (0 : Int32)) rfl ?_
      refine g_icY X d4_69 (flt (show ¬ ((0 : Int32) < (0 : Int32)) from (by decide))).2.1 (pc' := 111) (by decide) (by decide) ?_
      refine g_aloadN X d4_111 (pc' := 112) rfl rfl rfl ?_
      refine g_getfield X (host := "") (Or.inl (tb hw 10 rfl)) Via.refl F_a0_sweeps d4_112 (pc' := 115) rfl ?_
      intro T X
      refine g_ldc X (tb hw 37 rfl) d4_115 (pc' := 117) rfl ?_
      refine g_icN X d4_117 (feq (show ¬ (v7_1 = (1000000 : Int32)) from (by subst_vars; exact near1 hnr))).1 (pc' := 120) rfl ?_
      refine g_aloadN X d4_120 (pc' := 121) rfl rfl rfl ?_
      refine g_getfield X (host := "") (Or.inl (tb hw 10 rfl)) Via.refl F_a0_sweeps d4_121 (pc' := 124) rfl ?_
      intro T X
      refine g_aloadN X d4_124 (pc' := 125) rfl rfl rfl ?_
      refine g_getfield X (host := "") (Or.inl (tb hw 35 rfl)) Via.refl F_a0_progressed d4_125 (pc' := 128) rfl ?_
      intro T X
      refine g_isub X d4_128 (pc' := 129) rfl ?_
      refine g_sipush X (1000 : Int32) d4_129 (pc' := 132) rfl rfl ?_
      refine g_icY X d4_132 (flt (show ¬ ((1000 : Int32) < (v7_1 - pg)) from (by subst_vars; exact near2 hnr))).2.2.2 (pc' := 139) (by decide) (by decide) ?_
      refine g_iconst X (0 : Int32) d4_139 (pc' := 140) rfl rfl ?_
      refine g_ireturnN X (t := .boolean) (by simp) d4_140 hret hlk (by decide) (by decide) ?_
      subst ev7_1
      exact ⟨_, w1, _, rfl, N, Kp, g_w1, Or.inl rfl, E_a0, F_a0_sweeps, F_a0_progressed, F_a0_narrowest, F_a0_fewest, E_w1, V_w1, hnr⟩
    · skip
      refine g_ifY X d4_59 ((if0 _ _).trans (feq hc59_6).2) (pc' := 111) (by decide) (by decide) ?_
      refine g_aloadN X d4_111 (pc' := 112) rfl rfl rfl ?_
      refine g_getfield X (host := "") (Or.inl (tb hw 10 rfl)) Via.refl F_a0_sweeps d4_112 (pc' := 115) rfl ?_
      intro T X
      refine g_ldc X (tb hw 37 rfl) d4_115 (pc' := 117) rfl ?_
      refine g_icN X d4_117 (feq (show ¬ (v7_1 = (1000000 : Int32)) from (by subst_vars; exact near1 hnr))).1 (pc' := 120) rfl ?_
      refine g_aloadN X d4_120 (pc' := 121) rfl rfl rfl ?_
      refine g_getfield X (host := "") (Or.inl (tb hw 10 rfl)) Via.refl F_a0_sweeps d4_121 (pc' := 124) rfl ?_
      intro T X
      refine g_aloadN X d4_124 (pc' := 125) rfl rfl rfl ?_
      refine g_getfield X (host := "") (Or.inl (tb hw 35 rfl)) Via.refl F_a0_progressed d4_125 (pc' := 128) rfl ?_
      intro T X
      refine g_isub X d4_128 (pc' := 129) rfl ?_
      refine g_sipush X (1000 : Int32) d4_129 (pc' := 132) rfl rfl ?_
      refine g_icY X d4_132 (flt (show ¬ ((1000 : Int32) < (v7_1 - pg)) from (by subst_vars; exact near2 hnr))).2.2.2 (pc' := 139) (by decide) (by decide) ?_
      refine g_iconst X (0 : Int32) d4_139 (pc' := 140) rfl rfl ?_
      refine g_ireturnN X (t := .boolean) (by simp) d4_140 hret hlk (by decide) (by decide) ?_
      subst ev7_1
      exact ⟨_, w1, _, rfl, N, Kp, g_w1, Or.inl rfl, E_a0, F_a0_sweeps, F_a0_progressed, F_a0_narrowest, F_a0_fewest, E_w1, V_w1, hnr⟩
theorem ef_rR2n (m : MethodId) (x0 : Addr) (x1 : UInt64) (x2 : Addr) : entryFrame m #[(.ref x0), (.double x1), (.ref x2)] 5 = mkF m 0 #[.val (.ref x0), .val (.double x1), .second, .val (.ref x2), .unset] [] := by first | (simp [entryFrame, mkF, argsToLocals, Value.category]; done) | rfl
set_option maxRecDepth 65536 in
set_option maxHeartbeats 40000000 in
theorem rR2n (l : Launch) (Z : State) (aa : Array Value) (hw : ∀ d ∈ tables_1, d.before aa Z = true) (ws : List Jvm.Cond) (a0 : Addr) (d1 : UInt64) (w2 : Addr) (k : Int32) (dd : UInt64) (pg : Int32) (x0 : Int32) (x1 : Int32) (h0 : Heap) (n0 : Nat) (Z0 : n0 ≤ h0.size) (E_a0 : Exa Z h0 a0 "com/example/ryazan/ryazan/numeric/SweepLimit") (F_a0_sweeps : Fld Z h0 a0 "com/example/ryazan/ryazan/numeric/SweepLimit" "sweeps" "I" (.int k)) (F_a0_fewest : Fld Z h0 a0 "com/example/ryazan/ryazan/numeric/SweepLimit" "fewest" "[I" .null) (F_a0_narrowest : Fld Z h0 a0 "com/example/ryazan/ryazan/numeric/SweepLimit" "narrowest" "D" (.double dd)) (F_a0_progressed : Fld Z h0 a0 "com/example/ryazan/ryazan/numeric/SweepLimit" "progressed" "I" (.int pg)) (E_w2 : Exa Z h0 w2 "[I") (V_w2 : Av Z h0 w2 .int [(.int x0), (.int x1)]) (g_a0 : n0 ≤ a0) (ne_w2_a0 : w2 ≠ a0) (hnr : Near k pg) :
    Rm l Z (⟨"com/example/ryazan/ryazan/numeric/SweepLimit", "reached", "(D[I)Z"⟩ : MethodName) prog_113_method_2_code 5 (some .boolean) ws ({ frames := 1, cells := 1, slots := 2, locals := 15 } : Room) #[(.ref a0), (.double d1), (.ref w2)] h0 (fun v h L => ∃ (p' : Int32) (f : Addr) (d' : UInt64) (z0 : Int32) (z1 : Int32), v = some (.int 0) ∧ Fr n0 L ∧ Keep h0 h [a0] ∧ n0 ≤ f ∧ (f = a0 ∨ h0.size ≤ f) ∧ Exa Z h a0 "com/example/ryazan/ryazan/numeric/SweepLimit" ∧ Fld Z h a0 "com/example/ryazan/ryazan/numeric/SweepLimit" "sweeps" "I" (.int (k + (1 : Int32))) ∧ Fld Z h a0 "com/example/ryazan/ryazan/numeric/SweepLimit" "progressed" "I" (.int p') ∧ Fld Z h a0 "com/example/ryazan/ryazan/numeric/SweepLimit" "narrowest" "D" (.double d') ∧ Fld Z h a0 "com/example/ryazan/ryazan/numeric/SweepLimit" "fewest" "[I" (.ref f) ∧ Exa Z h f "[I" ∧ Av Z h f .int [(.int z0), (.int z1)] ∧ Near k p') := by
  refine Rm.of (plainFor_of_name pn_0) ?_
  intro p e s m below meth cc T X hnm hret hlk
  refine Go.at_ (ef_rR2n m a0 d1 w2) ?_
  have N := Fr.nil n0
  have Kp := Keep.refl h0 [a0]
  refine g_aloadN X d4_0 (pc' := 1) rfl rfl rfl ?_
  refine g_dup X d4_1 (pc' := 2) rfl rfl ?_
  refine g_getfield X (host := "") (Or.inl (tb hw 10 rfl)) Via.refl F_a0_sweeps d4_2 (pc' := 5) rfl ?_
  intro T X
  refine g_iconst X (1 : Int32) d4_5 (pc' := 6) rfl rfl ?_
  refine g_iadd X d4_6 (pc' := 7) rfl ?_
  generalize ev7_1 : (k + (1 : Int32)) = v7_1
  refine g_putfield X (host := "") (Or.inl (tb hw 10 rfl)) Via.refl F_a0_sweeps E_a0 (Or.inl (tb hw 11 rfl)) (tb hw 2 rfl) (ty := .int) (by decide) rfl rfl d4_7 (pc' := 10) rfl ?_
  intro T h X W
  replace E_a0 := E_a0.wr W
  replace F_a0_sweeps := F_a0_sweeps.same W
  replace F_a0_fewest := F_a0_fewest.other W (Or.inr (slot_ne (Or.inl (tb hw 23 rfl)) (Or.inl (tb hw 11 rfl)) (by decide) (t := (.array .int)) (t' := .int) (by decide) (by decide)))
  replace F_a0_narrowest := F_a0_narrowest.other W (Or.inr (slot_ne (Or.inl (tb hw 25 rfl)) (Or.inl (tb hw 11 rfl)) (by decide) (t := .double) (t' := .int) (by decide) (by decide)))
  replace F_a0_progressed := F_a0_progressed.other W (Or.inr (slot_ne (Or.inl (tb hw 36 rfl)) (Or.inl (tb hw 11 rfl)) (by decide) (t := .int) (t' := .int) (by decide) (by decide)))
  replace E_w2 := E_w2.wr W
  replace V_w2 := V_w2.other W ne_w2_a0
  replace Z0 := Nat.le_trans Z0 (Nat.le_of_eq W.size.symm)
  replace N := Fr.snoc X.1 N g_a0
  replace Kp := Kp.wr W (Or.inl (List.mem_of_getElem? (i := 0) rfl))
  refine g_aloadN X d4_10 (pc' := 11) rfl rfl rfl ?_
  refine g_getfield X (host := "") (Or.inl (tb hw 22 rfl)) Via.refl F_a0_fewest d4_11 (pc' := 14) rfl ?_
  intro T X
  refine g_nullY X d4_14 (pc' := 26) (by decide) (by decide) ?_
  refine g_aloadN X d4_26 (pc' := 27) rfl rfl rfl ?_
  refine g_dloadN X d4_27 (pc' := 28) rfl rfl ?_
  refine g_putfield X (host := "") (Or.inl (tb hw 24 rfl)) Via.refl F_a0_narrowest E_a0 (Or.inl (tb hw 25 rfl)) (tb hw 2 rfl) (ty := .double) (by decide) rfl rfl d4_28 (pc' := 31) rfl ?_
  intro T h X W
  replace E_a0 := E_a0.wr W
  replace F_a0_sweeps := F_a0_sweeps.other W (Or.inr (slot_ne (Or.inl (tb hw 11 rfl)) (Or.inl (tb hw 25 rfl)) (by decide) (t := .int) (t' := .double) (by decide) (by decide)))
  replace F_a0_fewest := F_a0_fewest.other W (Or.inr (slot_ne (Or.inl (tb hw 23 rfl)) (Or.inl (tb hw 25 rfl)) (by decide) (t := (.array .int)) (t' := .double) (by decide) (by decide)))
  replace F_a0_narrowest := F_a0_narrowest.same W
  replace F_a0_progressed := F_a0_progressed.other W (Or.inr (slot_ne (Or.inl (tb hw 36 rfl)) (Or.inl (tb hw 25 rfl)) (by decide) (t := .int) (t' := .double) (by decide) (by decide)))
  replace E_w2 := E_w2.wr W
  replace V_w2 := V_w2.other W ne_w2_a0
  replace Z0 := Nat.le_trans Z0 (Nat.le_of_eq W.size.symm)
  replace N := Fr.snoc X.1 N g_a0
  replace Kp := Kp.wr W (Or.inl (List.mem_of_getElem? (i := 0) rfl))
  refine g_aloadN X d4_31 (pc' := 32) rfl rfl rfl ?_
  refine g_aloadN X d4_32 (pc' := 33) rfl rfl rfl ?_
  refine g_clone X (W := 1) (tb hw 26 rfl) (tb hw 27 rfl) (tb hw 31 rfl) (tb hw 29 rfl) (tb hw 30 rfl) (tb hw 32 rfl) V_w2 E_w2 (fitS rfl (fitS rfl fit0)) d4_33 (pc' := 36) rfl rfl (by decide) (Nat.le_refl _) (by decide) 2 (Nat.le_of_ble_eq_true rfl) (by decide) (by decide) ?_
  intro T h b33_2 s_b33_2 X Ex E_b33_2 V_b33_2
  have ne_a0_b33_2 : a0 ≠ b33_2 := Nat.ne_of_lt (by rw [s_b33_2]; exact E_a0.lt)
  have ne_w2_b33_2 : w2 ≠ b33_2 := Nat.ne_of_lt (by rw [s_b33_2]; exact E_w2.lt)
  have g_b33_2 : n0 ≤ b33_2 := by rw [s_b33_2]; exact Z0
  have sz_b33_2 : h0.size ≤ b33_2 := by rw [s_b33_2]; exact Kp.1
  replace E_a0 := E_a0.ext Ex
  replace F_a0_sweeps := F_a0_sweeps.ext Ex
  replace F_a0_fewest := F_a0_fewest.ext Ex
  replace F_a0_narrowest := F_a0_narrowest.ext Ex
  replace F_a0_progressed := F_a0_progressed.ext Ex
  replace E_w2 := E_w2.ext Ex
  replace V_w2 := V_w2.ext Ex
  replace Z0 := Nat.le_trans Z0 Ex.1
  replace Kp := Kp.ext Ex
  refine g_checkcast X (tb hw 33 rfl) (Ins.self E_b33_2) d4_36 (pc' := 39) rfl ?_
  intro T X
  refine g_putfield X (host := "") (Or.inl (tb hw 22 rfl)) Via.refl F_a0_fewest E_a0 (Or.inl (tb hw 23 rfl)) (tb hw 2 rfl) (ty := (.array .int)) (by decide) rfl rfl d4_39 (pc' := 42) rfl ?_
  intro T h X W
  replace E_a0 := E_a0.wr W
  replace F_a0_sweeps := F_a0_sweeps.other W (Or.inr (slot_ne (Or.inl (tb hw 11 rfl)) (Or.inl (tb hw 23 rfl)) (by decide) (t := .int) (t' := (.array .int)) (by decide) (by decide)))
  replace F_a0_fewest := F_a0_fewest.same W
  replace F_a0_narrowest := F_a0_narrowest.other W (Or.inr (slot_ne (Or.inl (tb hw 25 rfl)) (Or.inl (tb hw 23 rfl)) (by decide) (t := .double) (t' := (.array .int)) (by decide) (by decide)))
  replace F_a0_progressed := F_a0_progressed.other W (Or.inr (slot_ne (Or.inl (tb hw 36 rfl)) (Or.inl (tb hw 23 rfl)) (by decide) (t := .int) (t' := (.array .int)) (by decide) (by decide)))
  replace E_w2 := E_w2.wr W
  replace V_w2 := V_w2.other W ne_w2_a0
  replace E_b33_2 := E_b33_2.wr W
  replace V_b33_2 := V_b33_2.other W (Ne.symm ne_a0_b33_2)
  replace Z0 := Nat.le_trans Z0 (Nat.le_of_eq W.size.symm)
  replace N := Fr.snoc X.1 N g_a0
  replace Kp := Kp.wr W (Or.inl (List.mem_of_getElem? (i := 0) rfl))
  refine g_aloadN X d4_42 (pc' := 43) rfl rfl rfl ?_
  refine g_aloadN X d4_43 (pc' := 44) rfl rfl rfl ?_
  refine g_getfield X (host := "") (Or.inl (tb hw 10 rfl)) Via.refl F_a0_sweeps d4_44 (pc' := 47) rfl ?_
  intro T X
  refine g_putfield X (host := "") (Or.inl (tb hw 35 rfl)) Via.refl F_a0_progressed E_a0 (Or.inl (tb hw 36 rfl)) (tb hw 2 rfl) (ty := .int) (by decide) rfl rfl d4_47 (pc' := 50) rfl ?_
  intro T h X W
  replace E_a0 := E_a0.wr W
  replace F_a0_sweeps := F_a0_sweeps.other W (Or.inr (slot_ne (Or.inl (tb hw 11 rfl)) (Or.inl (tb hw 36 rfl)) (by decide) (t := .int) (t' := .int) (by decide) (by decide)))
  replace F_a0_fewest := F_a0_fewest.other W (Or.inr (slot_ne (Or.inl (tb hw 23 rfl)) (Or.inl (tb hw 36 rfl)) (by decide) (t := (.array .int)) (t' := .int) (by decide) (by decide)))
  replace F_a0_narrowest := F_a0_narrowest.other W (Or.inr (slot_ne (Or.inl (tb hw 25 rfl)) (Or.inl (tb hw 36 rfl)) (by decide) (t := .double) (t' := .int) (by decide) (by decide)))
  replace F_a0_progressed := F_a0_progressed.same W
  replace E_w2 := E_w2.wr W
  replace V_w2 := V_w2.other W ne_w2_a0
  replace E_b33_2 := E_b33_2.wr W
  replace V_b33_2 := V_b33_2.other W (Ne.symm ne_a0_b33_2)
  replace Z0 := Nat.le_trans Z0 (Nat.le_of_eq W.size.symm)
  replace N := Fr.snoc X.1 N g_a0
  replace Kp := Kp.wr W (Or.inl (List.mem_of_getElem? (i := 0) rfl))
  refine g_goto X d4_50 (pc' := 111) (by decide) (by decide) ?_
  refine g_aloadN X d4_111 (pc' := 112) rfl rfl rfl ?_
  refine g_getfield X (host := "") (Or.inl (tb hw 10 rfl)) Via.refl F_a0_sweeps d4_112 (pc' := 115) rfl ?_
  intro T X
  refine g_ldc X (tb hw 37 rfl) d4_115 (pc' := 117) rfl ?_
  refine g_icN X d4_117 (feq (show ¬ (v7_1 = (1000000 : Int32)) from (by subst_vars; exact near1 hnr))).1 (pc' := 120) rfl ?_
  refine g_aloadN X d4_120 (pc' := 121) rfl rfl rfl ?_
  refine g_getfield X (host := "") (Or.inl (tb hw 10 rfl)) Via.refl F_a0_sweeps d4_121 (pc' := 124) rfl ?_
  intro T X
  refine g_aloadN X d4_124 (pc' := 125) rfl rfl rfl ?_
  refine g_getfield X (host := "") (Or.inl (tb hw 35 rfl)) Via.refl F_a0_progressed d4_125 (pc' := 128) rfl ?_
  intro T X
  refine g_isub X d4_128 (pc' := 129) rfl ?_
  refine g_sipush X (1000 : Int32) d4_129 (pc' := 132) rfl rfl ?_
  refine g_icY X d4_132 (flt (show ¬ ((1000 : Int32) < (v7_1 - v7_1)) from (by subst_vars; exact near2 (near3 hnr)))).2.2.2 (pc' := 139) (by decide) (by decide) ?_
  refine g_iconst X (0 : Int32) d4_139 (pc' := 140) rfl rfl ?_
  refine g_ireturnN X (t := .boolean) (by simp) d4_140 hret hlk (by decide) (by decide) ?_
  subst ev7_1
  exact ⟨_, b33_2, _, _, _, rfl, N, Kp, g_b33_2, Or.inr sz_b33_2, E_a0, F_a0_sweeps, F_a0_progressed, F_a0_narrowest, F_a0_fewest, E_b33_2, V_b33_2, near3 hnr⟩
theorem d4_72 : decode prog_113_method_2_code 72 = .ok (.aload_n 3, 1) := by decide +kernel
theorem d4_73 : decode prog_113_method_2_code 73 = .ok (.iload 4, 2) := by decide +kernel
theorem d4_75 : decode prog_113_method_2_code 75 = .ok (.iaload, 1) := by decide +kernel
theorem d4_76 : decode prog_113_method_2_code 76 = .ok (.aload_n 0, 1) := by decide +kernel
theorem d4_77 : decode prog_113_method_2_code 77 = .ok (.getfield 13, 3) := by decide +kernel
theorem d4_80 : decode prog_113_method_2_code 80 = .ok (.iload 4, 2) := by decide +kernel
theorem d4_82 : decode prog_113_method_2_code 82 = .ok (.iaload, 1) := by decide +kernel
theorem d4_83 : decode prog_113_method_2_code 83 = .ok (.if_icmp .ge 22, 3) := by decide +kernel
theorem d4_86 : decode prog_113_method_2_code 86 = .ok (.aload_n 0, 1) := by decide +kernel
theorem d4_87 : decode prog_113_method_2_code 87 = .ok (.getfield 13, 3) := by decide +kernel
theorem d4_90 : decode prog_113_method_2_code 90 = .ok (.iload 4, 2) := by decide +kernel
theorem d4_92 : decode prog_113_method_2_code 92 = .ok (.aload_n 3, 1) := by decide +kernel
theorem d4_93 : decode prog_113_method_2_code 93 = .ok (.iload 4, 2) := by decide +kernel
theorem d4_95 : decode prog_113_method_2_code 95 = .ok (.iaload, 1) := by decide +kernel
theorem d4_96 : decode prog_113_method_2_code 96 = .ok (.iastore, 1) := by decide +kernel
theorem d4_97 : decode prog_113_method_2_code 97 = .ok (.aload_n 0, 1) := by decide +kernel
theorem d4_98 : decode prog_113_method_2_code 98 = .ok (.aload_n 0, 1) := by decide +kernel
theorem d4_99 : decode prog_113_method_2_code 99 = .ok (.getfield 7, 3) := by decide +kernel
theorem d4_102 : decode prog_113_method_2_code 102 = .ok (.putfield 26, 3) := by decide +kernel
theorem d4_105 : decode prog_113_method_2_code 105 = .ok (.iinc 4 1, 3) := by decide +kernel
theorem d4_108 : decode prog_113_method_2_code 108 = .ok (.goto (-43), 3) := by decide +kernel
theorem ef_rR2 (m : MethodId) (x0 : Addr) (x1 : UInt64) (x2 : Addr) : entryFrame m #[(.ref x0), (.double x1), (.ref x2)] 5 = mkF m 0 #[.val (.ref x0), .val (.double x1), .second, .val (.ref x2), .unset] [] := by first | (simp [entryFrame, mkF, argsToLocals, Value.category]; done) | rfl
set_option maxRecDepth 65536 in
set_option maxHeartbeats 40000000 in
theorem rR2 (l : Launch) (Z : State) (aa : Array Value) (hw : ∀ d ∈ tables_1, d.before aa Z = true) (ws : List Jvm.Cond) (a0 : Addr) (d1 : UInt64) (w2 : Addr) (k : Int32) (w1 : Addr) (dd : UInt64) (pg : Int32) (x0 : Int32) (x1 : Int32) (f0 : Int32) (f1 : Int32) (h0 : Heap) (n0 : Nat) (Z0 : n0 ≤ h0.size) (E_a0 : Exa Z h0 a0 "com/example/ryazan/ryazan/numeric/SweepLimit") (F_a0_sweeps : Fld Z h0 a0 "com/example/ryazan/ryazan/numeric/SweepLimit" "sweeps" "I" (.int k)) (F_a0_fewest : Fld Z h0 a0 "com/example/ryazan/ryazan/numeric/SweepLimit" "fewest" "[I" (.ref w1)) (F_a0_narrowest : Fld Z h0 a0 "com/example/ryazan/ryazan/numeric/SweepLimit" "narrowest" "D" (.double dd)) (F_a0_progressed : Fld Z h0 a0 "com/example/ryazan/ryazan/numeric/SweepLimit" "progressed" "I" (.int pg)) (E_w2 : Exa Z h0 w2 "[I") (V_w2 : Av Z h0 w2 .int [(.int x0), (.int x1)]) (E_w1 : Exa Z h0 w1 "[I") (V_w1 : Av Z h0 w1 .int [(.int f0), (.int f1)]) (g_a0 : n0 ≤ a0) (g_w1 : n0 ≤ w1) (ne_a0_w1 : a0 ≠ w1) (ne_w2_a0 : w2 ≠ a0) (ne_w2_w1 : w2 ≠ w1) (hnr : Near k pg) :
    Rm l Z (⟨"com/example/ryazan/ryazan/numeric/SweepLimit", "reached", "(D[I)Z"⟩ : MethodName) prog_113_method_2_code 5 (some .boolean) ws ({ frames := 1, cells := 1, slots := 2, locals := 15 } : Room) #[(.ref a0), (.double d1), (.ref w2)] h0 (fun v h L => ∃ (p' : Int32) (f : Addr) (d' : UInt64) (z0 : Int32) (z1 : Int32), v = some (.int 0) ∧ Fr n0 L ∧ Keep h0 h [a0, w1] ∧ n0 ≤ f ∧ (f = w1 ∨ h0.size ≤ f) ∧ Exa Z h a0 "com/example/ryazan/ryazan/numeric/SweepLimit" ∧ Fld Z h a0 "com/example/ryazan/ryazan/numeric/SweepLimit" "sweeps" "I" (.int (k + (1 : Int32))) ∧ Fld Z h a0 "com/example/ryazan/ryazan/numeric/SweepLimit" "progressed" "I" (.int p') ∧ Fld Z h a0 "com/example/ryazan/ryazan/numeric/SweepLimit" "narrowest" "D" (.double d') ∧ Fld Z h a0 "com/example/ryazan/ryazan/numeric/SweepLimit" "fewest" "[I" (.ref f) ∧ Exa Z h f "[I" ∧ Av Z h f .int [(.int z0), (.int z1)] ∧ Near k p') := by
  refine Rm.of (plainFor_of_name pn_0) ?_
  intro p e s m below meth cc T X hnm hret hlk
  refine Go.at_ (ef_rR2 m a0 d1 w2) ?_
  have N := Fr.nil n0
  have Kp := Keep.refl h0 [a0, w1]
  refine g_aloadN X d4_0 (pc' := 1) rfl rfl rfl ?_
  refine g_dup X d4_1 (pc' := 2) rfl rfl ?_
  refine g_getfield X (host := "") (Or.inl (tb hw 10 rfl)) Via.refl F_a0_sweeps d4_2 (pc' := 5) rfl ?_
  intro T X
  refine g_iconst X (1 : Int32) d4_5 (pc' := 6) rfl rfl ?_
  refine g_iadd X d4_6 (pc' := 7) rfl ?_
  generalize ev7_1 : (k + (1 : Int32)) = v7_1
  refine g_putfield X (host := "") (Or.inl (tb hw 10 rfl)) Via.refl F_a0_sweeps E_a0 (Or.inl (tb hw 11 rfl)) (tb hw 2 rfl) (ty := .int) (by decide) rfl rfl d4_7 (pc' := 10) rfl ?_
  intro T h X W
  replace E_a0 := E_a0.wr W
  replace F_a0_sweeps := F_a0_sweeps.same W
  replace F_a0_fewest := F_a0_fewest.other W (Or.inr (slot_ne (Or.inl (tb hw 23 rfl)) (Or.inl (tb hw 11 rfl)) (by decide) (t := (.array .int)) (t' := .int) (by decide) (by decide)))
  replace F_a0_narrowest := F_a0_narrowest.other W (Or.inr (slot_ne (Or.inl (tb hw 25 rfl)) (Or.inl (tb hw 11 rfl)) (by decide) (t := .double) (t' := .int) (by decide) (by decide)))
  replace F_a0_progressed := F_a0_progressed.other W (Or.inr (slot_ne (Or.inl (tb hw 36 rfl)) (Or.inl (tb hw 11 rfl)) (by decide) (t := .int) (t' := .int) (by decide) (by decide)))
  replace E_w2 := E_w2.wr W
  replace V_w2 := V_w2.other W ne_w2_a0
  replace E_w1 := E_w1.wr W
  replace V_w1 := V_w1.other W (Ne.symm ne_a0_w1)
  replace Z0 := Nat.le_trans Z0 (Nat.le_of_eq W.size.symm)
  replace N := Fr.snoc X.1 N g_a0
  replace Kp := Kp.wr W (Or.inl (List.mem_of_getElem? (i := 0) rfl))
  refine g_aloadN X d4_10 (pc' := 11) rfl rfl rfl ?_
  refine g_getfield X (host := "") (Or.inl (tb hw 22 rfl)) Via.refl F_a0_fewest d4_11 (pc' := 14) rfl ?_
  intro T X
  refine g_nullN X d4_14 (pc' := 17) rfl ?_
  refine g_dloadN X d4_17 (pc' := 18) rfl rfl ?_
  refine g_aloadN X d4_18 (pc' := 19) rfl rfl rfl ?_
  refine g_getfield X (host := "") (Or.inl (tb hw 24 rfl)) Via.refl F_a0_narrowest d4_19 (pc' := 22) rfl ?_
  intro T X
  refine g_dcmp X d4_22 (pc' := 23) rfl ?_
  intro w22_2
  by_cases hc23_3 : w22_2 < (0 : Int32)
  · skip
    refine g_ifN X d4_23 ((if0 _ _).trans (tlt hc23_3).2.1) (pc' := 26) rfl ?_
    refine g_aloadN X d4_26 (pc' := 27) rfl rfl rfl ?_
    refine g_dloadN X d4_27 (pc' := 28) rfl rfl ?_
    refine g_putfield X (host := "") (Or.inl (tb hw 24 rfl)) Via.refl F_a0_narrowest E_a0 (Or.inl (tb hw 25 rfl)) (tb hw 2 rfl) (ty := .double) (by decide) rfl rfl d4_28 (pc' := 31) rfl ?_
    intro T h X W
    replace E_a0 := E_a0.wr W
    replace F_a0_sweeps := F_a0_sweeps.other W (Or.inr (slot_ne (Or.inl (tb hw 11 rfl)) (Or.inl (tb hw 25 rfl)) (by decide) (t := .int) (t' := .double) (by decide) (by decide)))
    replace F_a0_fewest := F_a0_fewest.other W (Or.inr (slot_ne (Or.inl (tb hw 23 rfl)) (Or.inl (tb hw 25 rfl)) (by decide) (t := (.array .int)) (t' := .double) (by decide) (by decide)))
    replace F_a0_narrowest := F_a0_narrowest.same W
    replace F_a0_progressed := F_a0_progressed.other W (Or.inr (slot_ne (Or.inl (tb hw 36 rfl)) (Or.inl (tb hw 25 rfl)) (by decide) (t := .int) (t' := .double) (by decide) (by decide)))
    replace E_w2 := E_w2.wr W
    replace V_w2 := V_w2.other W ne_w2_a0
    replace E_w1 := E_w1.wr W
    replace V_w1 := V_w1.other W (Ne.symm ne_a0_w1)
    replace Z0 := Nat.le_trans Z0 (Nat.le_of_eq W.size.symm)
    replace N := Fr.snoc X.1 N g_a0
    replace Kp := Kp.wr W (Or.inl (List.mem_of_getElem? (i := 0) rfl))
    refine g_aloadN X d4_31 (pc' := 32) rfl rfl rfl ?_
    refine g_aloadN X d4_32 (pc' := 33) rfl rfl rfl ?_
    refine g_clone X (W := 1) (tb hw 26 rfl) (tb hw 27 rfl) (tb hw 31 rfl) (tb hw 29 rfl) (tb hw 30 rfl) (tb hw 32 rfl) V_w2 E_w2 (fitS rfl (fitS rfl fit0)) d4_33 (pc' := 36) rfl rfl (by decide) (Nat.le_refl _) (by decide) 2 (Nat.le_of_ble_eq_true rfl) (by decide) (by decide) ?_
    intro T h b33_4 s_b33_4 X Ex E_b33_4 V_b33_4
    have ne_a0_b33_4 : a0 ≠ b33_4 := Nat.ne_of_lt (by rw [s_b33_4]; exact E_a0.lt)
    have ne_w2_b33_4 : w2 ≠ b33_4 := Nat.ne_of_lt (by rw [s_b33_4]; exact E_w2.lt)
    have ne_w1_b33_4 : w1 ≠ b33_4 := Nat.ne_of_lt (by rw [s_b33_4]; exact E_w1.lt)
    have g_b33_4 : n0 ≤ b33_4 := by rw [s_b33_4]; exact Z0
    have sz_b33_4 : h0.size ≤ b33_4 := by rw [s_b33_4]; exact Kp.1
    replace E_a0 := E_a0.ext Ex
    replace F_a0_sweeps := F_a0_sweeps.ext Ex
    replace F_a0_fewest := F_a0_fewest.ext Ex
    replace F_a0_narrowest := F_a0_narrowest.ext Ex
    replace F_a0_progressed := F_a0_progressed.ext Ex
    replace E_w2 := E_w2.ext Ex
    replace V_w2 := V_w2.ext Ex
    replace E_w1 := E_w1.ext Ex
    replace V_w1 := V_w1.ext Ex
    replace Z0 := Nat.le_trans Z0 Ex.1
    replace Kp := Kp.ext Ex
    refine g_checkcast X (tb hw 33 rfl) (Ins.self E_b33_4) d4_36 (pc' := 39) rfl ?_
    intro T X
    refine g_putfield X (host := "") (Or.inl (tb hw 22 rfl)) Via.refl F_a0_fewest E_a0 (Or.inl (tb hw 23 rfl)) (tb hw 2 rfl) (ty := (.array .int)) (by decide) rfl rfl d4_39 (pc' := 42) rfl ?_
    intro T h X W
    replace E_a0 := E_a0.wr W
    replace F_a0_sweeps := F_a0_sweeps.other W (Or.inr (slot_ne (Or.inl (tb hw 11 rfl)) (Or.inl (tb hw 23 rfl)) (by decide) (t := .int) (t' := (.array .int)) (by decide) (by decide)))
    replace F_a0_fewest := F_a0_fewest.same W
    replace F_a0_narrowest := F_a0_narrowest.other W (Or.inr (slot_ne (Or.inl (tb hw 25 rfl)) (Or.inl (tb hw 23 rfl)) (by decide) (t := .double) (t' := (.array .int)) (by decide) (by decide)))
    replace F_a0_progressed := F_a0_progressed.other W (Or.inr (slot_ne (Or.inl (tb hw 36 rfl)) (Or.inl (tb hw 23 rfl)) (by decide) (t := .int) (t' := (.array .int)) (by decide) (by decide)))
    replace E_w2 := E_w2.wr W
    replace V_w2 := V_w2.other W ne_w2_a0
    replace E_w1 := E_w1.wr W
    replace V_w1 := V_w1.other W (Ne.symm ne_a0_w1)
    replace E_b33_4 := E_b33_4.wr W
    replace V_b33_4 := V_b33_4.other W (Ne.symm ne_a0_b33_4)
    replace Z0 := Nat.le_trans Z0 (Nat.le_of_eq W.size.symm)
    replace N := Fr.snoc X.1 N g_a0
    replace Kp := Kp.wr W (Or.inl (List.mem_of_getElem? (i := 0) rfl))
    refine g_aloadN X d4_42 (pc' := 43) rfl rfl rfl ?_
    refine g_aloadN X d4_43 (pc' := 44) rfl rfl rfl ?_
    refine g_getfield X (host := "") (Or.inl (tb hw 10 rfl)) Via.refl F_a0_sweeps d4_44 (pc' := 47) rfl ?_
    intro T X
    refine g_putfield X (host := "") (Or.inl (tb hw 35 rfl)) Via.refl F_a0_progressed E_a0 (Or.inl (tb hw 36 rfl)) (tb hw 2 rfl) (ty := .int) (by decide) rfl rfl d4_47 (pc' := 50) rfl ?_
    intro T h X W
    replace E_a0 := E_a0.wr W
    replace F_a0_sweeps := F_a0_sweeps.other W (Or.inr (slot_ne (Or.inl (tb hw 11 rfl)) (Or.inl (tb hw 36 rfl)) (by decide) (t := .int) (t' := .int) (by decide) (by decide)))
    replace F_a0_fewest := F_a0_fewest.other W (Or.inr (slot_ne (Or.inl (tb hw 23 rfl)) (Or.inl (tb hw 36 rfl)) (by decide) (t := (.array .int)) (t' := .int) (by decide) (by decide)))
    replace F_a0_narrowest := F_a0_narrowest.other W (Or.inr (slot_ne (Or.inl (tb hw 25 rfl)) (Or.inl (tb hw 36 rfl)) (by decide) (t := .double) (t' := .int) (by decide) (by decide)))
    replace F_a0_progressed := F_a0_progressed.same W
    replace E_w2 := E_w2.wr W
    replace V_w2 := V_w2.other W ne_w2_a0
    replace E_w1 := E_w1.wr W
    replace V_w1 := V_w1.other W (Ne.symm ne_a0_w1)
    replace E_b33_4 := E_b33_4.wr W
    replace V_b33_4 := V_b33_4.other W (Ne.symm ne_a0_b33_4)
    replace Z0 := Nat.le_trans Z0 (Nat.le_of_eq W.size.symm)
    replace N := Fr.snoc X.1 N g_a0
    replace Kp := Kp.wr W (Or.inl (List.mem_of_getElem? (i := 0) rfl))
    refine g_goto X d4_50 (pc' := 111) (by decide) (by decide) ?_
    refine g_aloadN X d4_111 (pc' := 112) rfl rfl rfl ?_
    refine g_getfield X (host := "") (Or.inl (tb hw 10 rfl)) Via.refl F_a0_sweeps d4_112 (pc' := 115) rfl ?_
    intro T X
    refine g_ldc X (tb hw 37 rfl) d4_115 (pc' := 117) rfl ?_
    refine g_icN X d4_117 (feq (show ¬ (v7_1 = (1000000 : Int32)) from (by subst_vars; exact near1 hnr))).1 (pc' := 120) rfl ?_
    refine g_aloadN X d4_120 (pc' := 121) rfl rfl rfl ?_
    refine g_getfield X (host := "") (Or.inl (tb hw 10 rfl)) Via.refl F_a0_sweeps d4_121 (pc' := 124) rfl ?_
    intro T X
    refine g_aloadN X d4_124 (pc' := 125) rfl rfl rfl ?_
    refine g_getfield X (host := "") (Or.inl (tb hw 35 rfl)) Via.refl F_a0_progressed d4_125 (pc' := 128) rfl ?_
    intro T X
    refine g_isub X d4_128 (pc' := 129) rfl ?_
    refine g_sipush X (1000 : Int32) d4_129 (pc' := 132) rfl rfl ?_
    refine g_icY X d4_132 (flt (show ¬ ((1000 : Int32) < (v7_1 - v7_1)) from (by subst_vars; exact near2 (near3 hnr)))).2.2.2 (pc' := 139) (by decide) (by decide) ?_
    refine g_iconst X (0 : Int32) d4_139 (pc' := 140) rfl rfl ?_
    refine g_ireturnN X (t := .boolean) (by simp) d4_140 hret hlk (by decide) (by decide) ?_
    subst ev7_1
    exact ⟨_, b33_4, _, _, _, rfl, N, Kp, g_b33_4, Or.inr sz_b33_4, E_a0, F_a0_sweeps, F_a0_progressed, F_a0_narrowest, F_a0_fewest, E_b33_4, V_b33_4, near3 hnr⟩
  · skip
    refine g_ifY X d4_23 ((if0 _ _).trans (flt hc23_3).2.1) (pc' := 53) (by decide) (by decide) ?_
    refine g_dloadN X d4_53 (pc' := 54) rfl rfl ?_
    refine g_aloadN X d4_54 (pc' := 55) rfl rfl rfl ?_
    refine g_getfield X (host := "") (Or.inl (tb hw 24 rfl)) Via.refl F_a0_narrowest d4_55 (pc' := 58) rfl ?_
    intro T X
    refine g_dcmp X d4_58 (pc' := 59) rfl ?_
    intro w58_5
    by_cases hc59_6 : w58_5 = (0 : Int32)
    · skip
      refine g_ifN X d4_59 ((if0 _ _).trans (teq hc59_6).2) (pc' := 62) rfl ?_
      refine g_iconst X (0 : Int32) d4_62 (pc' := 63) rfl rfl ?_
      refine g_istore X d4_63 (pc' := 65) (Ls' := #[.val (.ref a0), .val (.double d1), .second, .val (.ref w2), .val (.int (0 : Int32))]) rfl rfl ?_
      refine g_iload X d4_65 (pc' := 67) rfl rfl ?_
      refine g_aloadN X d4_67 (pc' := 68) rfl rfl rfl ?_
      refine g_arraylength X V_w2 d4_68 (pc' := 69) rfl (z := (2 : Int32)) rfl ?_
      refine g_icN X d4_69 (tlt (show (0 : Int32) < (2 : Int32) from (by decide))).2.1 (pc' := 72) rfl ?_
      refine g_aloadN X d4_72 (pc' := 73) rfl rfl rfl ?_
      refine g_iload X d4_73 (pc' := 75) rfl rfl ?_
      refine g_iaload X V_w2 0 d4_75 (pc' := 76) rfl (by decide) (by decide) rfl ?_
      refine g_aloadN X d4_76 (pc' := 77) rfl rfl rfl ?_
      refine g_getfield X (host := "") (Or.inl (tb hw 22 rfl)) Via.refl F_a0_fewest d4_77 (pc' := 80) rfl ?_
      intro T X
      refine g_iload X d4_80 (pc' := 82) rfl rfl ?_
      refine g_iaload X V_w1 0 d4_82 (pc' := 83) rfl (by decide) (by decide) rfl ?_
      by_cases hc83_7 : x0 < f0
      · skip
        refine g_icN X d4_83 (tlt hc83_7).2.1 (pc' := 86) rfl ?_
        refine g_aloadN X d4_86 (pc' := 87) rfl rfl rfl ?_
        refine g_getfield X (host := "") (Or.inl (tb hw 22 rfl)) Via.refl F_a0_fewest d4_87 (pc' := 90) rfl ?_
        intro T X
        refine g_iload X d4_90 (pc' := 92) rfl rfl ?_
        refine g_aloadN X d4_92 (pc' := 93) rfl rfl rfl ?_
        refine g_iload X d4_93 (pc' := 95) rfl rfl ?_
        refine g_iaload X V_w2 0 d4_95 (pc' := 96) rfl (by decide) (by decide) rfl ?_
        refine g_iastore X V_w1 0 d4_96 (pc' := 97) rfl (by decide) (by decide) (Nat.le_of_ble_eq_true rfl) ?_
        intro T h X W V_w1
        replace V_w1 : Av Z h w1 .int [(.int x0), (.int f1)] := V_w1
        replace E_a0 := E_a0.wr W
        replace F_a0_sweeps := F_a0_sweeps.other W (Or.inl ne_a0_w1)
        replace F_a0_fewest := F_a0_fewest.other W (Or.inl ne_a0_w1)
        replace F_a0_narrowest := F_a0_narrowest.other W (Or.inl ne_a0_w1)
        replace F_a0_progressed := F_a0_progressed.other W (Or.inl ne_a0_w1)
        replace E_w2 := E_w2.wr W
        replace V_w2 := V_w2.other W ne_w2_w1
        replace E_w1 := E_w1.wr W
        replace Z0 := Nat.le_trans Z0 (Nat.le_of_eq W.size.symm)
        replace N := Fr.snoc X.1 N g_w1
        replace Kp := Kp.wr W (Or.inl (List.mem_of_getElem? (i := 1) rfl))
        refine g_aloadN X d4_97 (pc' := 98) rfl rfl rfl ?_
        refine g_aloadN X d4_98 (pc' := 99) rfl rfl rfl ?_
        refine g_getfield X (host := "") (Or.inl (tb hw 10 rfl)) Via.refl F_a0_sweeps d4_99 (pc' := 102) rfl ?_
        intro T X
        refine g_putfield X (host := "") (Or.inl (tb hw 35 rfl)) Via.refl F_a0_progressed E_a0 (Or.inl (tb hw 36 rfl)) (tb hw 2 rfl) (ty := .int) (by decide) rfl rfl d4_102 (pc' := 105) rfl ?_
        intro T h X W
        replace E_a0 := E_a0.wr W
        replace F_a0_sweeps := F_a0_sweeps.other W (Or.inr (slot_ne (Or.inl (tb hw 11 rfl)) (Or.inl (tb hw 36 rfl)) (by decide) (t := .int) (t' := .int) (by decide) (by decide)))
        replace F_a0_fewest := F_a0_fewest.other W (Or.inr (slot_ne (Or.inl (tb hw 23 rfl)) (Or.inl (tb hw 36 rfl)) (by decide) (t := (.array .int)) (t' := .int) (by decide) (by decide)))
        replace F_a0_narrowest := F_a0_narrowest.other W (Or.inr (slot_ne (Or.inl (tb hw 25 rfl)) (Or.inl (tb hw 36 rfl)) (by decide) (t := .double) (t' := .int) (by decide) (by decide)))
        replace F_a0_progressed := F_a0_progressed.same W
        replace E_w2 := E_w2.wr W
        replace V_w2 := V_w2.other W ne_w2_a0
        replace E_w1 := E_w1.wr W
        replace V_w1 := V_w1.other W (Ne.symm ne_a0_w1)
        replace Z0 := Nat.le_trans Z0 (Nat.le_of_eq W.size.symm)
        replace N := Fr.snoc X.1 N g_a0
        replace Kp := Kp.wr W (Or.inl (List.mem_of_getElem? (i := 0) rfl))
        refine g_iinc X d4_105 (pc' := 108) (q := (1 : Int32)) (Ls' := #[.val (.ref a0), .val (.double d1), .second, .val (.ref w2), .val (.int (1 : Int32))]) rfl rfl rfl rfl ?_
        refine g_goto X d4_108 (pc' := 65) (by decide) (by decide) ?_
        refine g_iload X d4_65 (pc' := 67) rfl rfl ?_
        refine g_aloadN X d4_67 (pc' := 68) rfl rfl rfl ?_
        refine g_arraylength X V_w2 d4_68 (pc' := 69) rfl (z := (2 : Int32)) rfl ?_
        refine g_icN X d4_69 (tlt (show (1 : Int32) < (2 : Int32) from (by decide))).2.1 (pc' := 72) rfl ?_
        refine g_aloadN X d4_72 (pc' := 73) rfl rfl rfl ?_
        refine g_iload X d4_73 (pc' := 75) rfl rfl ?_
        refine g_iaload X V_w2 1 d4_75 (pc' := 76) rfl (by decide) (by decide) rfl ?_
        refine g_aloadN X d4_76 (pc' := 77) rfl rfl rfl ?_
        refine g_getfield X (host := "") (Or.inl (tb hw 22 rfl)) Via.refl F_a0_fewest d4_77 (pc' := 80) rfl ?_
        intro T X
        refine g_iload X d4_80 (pc' := 82) rfl rfl ?_
        refine g_iaload X V_w1 1 d4_82 (pc' := 83) rfl (by decide) (by decide) rfl ?_
        by_cases hc83_8 : x1 < f1
        · skip
          refine g_icN X d4_83 (tlt hc83_8).2.1 (pc' := 86) rfl ?_
          refine g_aloadN X d4_86 (pc' := 87) rfl rfl rfl ?_
          refine g_getfield X (host := "") (Or.inl (tb hw 22 rfl)) Via.refl F_a0_fewest d4_87 (pc' := 90) rfl ?_
          intro T X
          refine g_iload X d4_90 (pc' := 92) rfl rfl ?_
          refine g_aloadN X d4_92 (pc' := 93) rfl rfl rfl ?_
          refine g_iload X d4_93 (pc' := 95) rfl rfl ?_
          refine g_iaload X V_w2 1 d4_95 (pc' := 96) rfl (by decide) (by decide) rfl ?_
          refine g_iastore X V_w1 1 d4_96 (pc' := 97) rfl (by decide) (by decide) (Nat.le_of_ble_eq_true rfl) ?_
          intro T h X W V_w1
          replace V_w1 : Av Z h w1 .int [(.int x0), (.int x1)] := V_w1
          replace E_a0 := E_a0.wr W
          replace F_a0_sweeps := F_a0_sweeps.other W (Or.inl ne_a0_w1)
          replace F_a0_fewest := F_a0_fewest.other W (Or.inl ne_a0_w1)
          replace F_a0_narrowest := F_a0_narrowest.other W (Or.inl ne_a0_w1)
          replace F_a0_progressed := F_a0_progressed.other W (Or.inl ne_a0_w1)
          replace E_w2 := E_w2.wr W
          replace V_w2 := V_w2.other W ne_w2_w1
          replace E_w1 := E_w1.wr W
          replace Z0 := Nat.le_trans Z0 (Nat.le_of_eq W.size.symm)
          replace N := Fr.snoc X.1 N g_w1
          replace Kp := Kp.wr W (Or.inl (List.mem_of_getElem? (i := 1) rfl))
          refine g_aloadN X d4_97 (pc' := 98) rfl rfl rfl ?_
          refine g_aloadN X d4_98 (pc' := 99) rfl rfl rfl ?_
          refine g_getfield X (host := "") (Or.inl (tb hw 10 rfl)) Via.refl F_a0_sweeps d4_99 (pc' := 102) rfl ?_
          intro T X
          refine g_putfield X (host := "") (Or.inl (tb hw 35 rfl)) Via.refl F_a0_progressed E_a0 (Or.inl (tb hw 36 rfl)) (tb hw 2 rfl) (ty := .int) (by decide) rfl rfl d4_102 (pc' := 105) rfl ?_
          intro T h X W
          replace E_a0 := E_a0.wr W
          replace F_a0_sweeps := F_a0_sweeps.other W (Or.inr (slot_ne (Or.inl (tb hw 11 rfl)) (Or.inl (tb hw 36 rfl)) (by decide) (t := .int) (t' := .int) (by decide) (by decide)))
          replace F_a0_fewest := F_a0_fewest.other W (Or.inr (slot_ne (Or.inl (tb hw 23 rfl)) (Or.inl (tb hw 36 rfl)) (by decide) (t := (.array .int)) (t' := .int) (by decide) (by decide)))
          replace F_a0_narrowest := F_a0_narrowest.other W (Or.inr (slot_ne (Or.inl (tb hw 25 rfl)) (Or.inl (tb hw 36 rfl)) (by decide) (t := .double) (t' := .int) (by decide) (by decide)))
          replace F_a0_progressed := F_a0_progressed.same W
          replace E_w2 := E_w2.wr W
          replace V_w2 := V_w2.other W ne_w2_a0
          replace E_w1 := E_w1.wr W
          replace V_w1 := V_w1.other W (Ne.symm ne_a0_w1)
          replace Z0 := Nat.le_trans Z0 (Nat.le_of_eq W.size.symm)
          replace N := Fr.snoc X.1 N g_a0
          replace Kp := Kp.wr W (Or.inl (List.mem_of_getElem? (i := 0) rfl))
          refine g_iinc X d4_105 (pc' := 108) (q := (1 : Int32)) (Ls' := #[.val (.ref a0), .val (.double d1), .second, .val (.ref w2), .val (.int (2 : Int32))]) rfl rfl rfl rfl ?_
          refine g_goto X d4_108 (pc' := 65) (by decide) (by decide) ?_
          refine g_iload X d4_65 (pc' := 67) rfl rfl ?_
          refine g_aloadN X d4_67 (pc' := 68) rfl rfl rfl ?_
          refine g_arraylength X V_w2 d4_68 (pc' := 69) rfl (z := (2 : Int32)) rfl ?_
          refine g_icY X d4_69 (flt (show ¬ ((2 : Int32) < (2 : Int32)) from (by decide))).2.1 (pc' := 111) (by decide) (by decide) ?_
          refine g_aloadN X d4_111 (pc' := 112) rfl rfl rfl ?_
          refine g_getfield X (host := "") (Or.inl (tb hw 10 rfl)) Via.refl F_a0_sweeps d4_112 (pc' := 115) rfl ?_
          intro T X
          refine g_ldc X (tb hw 37 rfl) d4_115 (pc' := 117) rfl ?_
          refine g_icN X d4_117 (feq (show ¬ (v7_1 = (1000000 : Int32)) from (by subst_vars; exact near1 hnr))).1 (pc' := 120) rfl ?_
          refine g_aloadN X d4_120 (pc' := 121) rfl rfl rfl ?_
          refine g_getfield X (host := "") (Or.inl (tb hw 10 rfl)) Via.refl F_a0_sweeps d4_121 (pc' := 124) rfl ?_
          intro T X
          refine g_aloadN X d4_124 (pc' := 125) rfl rfl rfl ?_
          refine g_getfield X (host := "") (Or.inl (tb hw 35 rfl)) Via.refl F_a0_progressed d4_125 (pc' := 128) rfl ?_
          intro T X
          refine g_isub X d4_128 (pc' := 129) rfl ?_
          refine g_sipush X (1000 : Int32) d4_129 (pc' := 132) rfl rfl ?_
          refine g_icY X d4_132 (flt (show ¬ ((1000 : Int32) < (v7_1 - v7_1)) from (by subst_vars; exact near2 (near3 hnr)))).2.2.2 (pc' := 139) (by decide) (by decide) ?_
          refine g_iconst X (0 : Int32) d4_139 (pc' := 140) rfl rfl ?_
          refine g_ireturnN X (t := .boolean) (by simp) d4_140 hret hlk (by decide) (by decide) ?_
          subst ev7_1
          exact ⟨_, w1, _, _, _, rfl, N, Kp, g_w1, Or.inl rfl, E_a0, F_a0_sweeps, F_a0_progressed, F_a0_narrowest, F_a0_fewest, E_w1, V_w1, near3 hnr⟩
        · skip
          refine g_icY X d4_83 (flt hc83_8).2.1 (pc' := 105) (by decide) (by decide) ?_
          refine g_iinc X d4_105 (pc' := 108) (q := (1 : Int32)) (Ls' := #[.val (.ref a0), .val (.double d1), .second, .val (.ref w2), .val (.int (2 : Int32))]) rfl rfl rfl rfl ?_
          refine g_goto X d4_108 (pc' := 65) (by decide) (by decide) ?_
          refine g_iload X d4_65 (pc' := 67) rfl rfl ?_
          refine g_aloadN X d4_67 (pc' := 68) rfl rfl rfl ?_
          refine g_arraylength X V_w2 d4_68 (pc' := 69) rfl (z := (2 : Int32)) rfl ?_
          refine g_icY X d4_69 (flt (show ¬ ((2 : Int32) < (2 : Int32)) from (by decide))).2.1 (pc' := 111) (by decide) (by decide) ?_
          refine g_aloadN X d4_111 (pc' := 112) rfl rfl rfl ?_
          refine g_getfield X (host := "") (Or.inl (tb hw 10 rfl)) Via.refl F_a0_sweeps d4_112 (pc' := 115) rfl ?_
          intro T X
          refine g_ldc X (tb hw 37 rfl) d4_115 (pc' := 117) rfl ?_
          refine g_icN X d4_117 (feq (show ¬ (v7_1 = (1000000 : Int32)) from (by subst_vars; exact near1 hnr))).1 (pc' := 120) rfl ?_
          refine g_aloadN X d4_120 (pc' := 121) rfl rfl rfl ?_
          refine g_getfield X (host := "") (Or.inl (tb hw 10 rfl)) Via.refl F_a0_sweeps d4_121 (pc' := 124) rfl ?_
          intro T X
          refine g_aloadN X d4_124 (pc' := 125) rfl rfl rfl ?_
          refine g_getfield X (host := "") (Or.inl (tb hw 35 rfl)) Via.refl F_a0_progressed d4_125 (pc' := 128) rfl ?_
          intro T X
          refine g_isub X d4_128 (pc' := 129) rfl ?_
          refine g_sipush X (1000 : Int32) d4_129 (pc' := 132) rfl rfl ?_
          refine g_icY X d4_132 (flt (show ¬ ((1000 : Int32) < (v7_1 - v7_1)) from (by subst_vars; exact near2 (near3 hnr)))).2.2.2 (pc' := 139) (by decide) (by decide) ?_
          refine g_iconst X (0 : Int32) d4_139 (pc' := 140) rfl rfl ?_
          refine g_ireturnN X (t := .boolean) (by simp) d4_140 hret hlk (by decide) (by decide) ?_
          subst ev7_1
          exact ⟨_, w1, _, _, _, rfl, N, Kp, g_w1, Or.inl rfl, E_a0, F_a0_sweeps, F_a0_progressed, F_a0_narrowest, F_a0_fewest, E_w1, V_w1, near3 hnr⟩
      · skip
        refine g_icY X d4_83 (flt hc83_7).2.1 (pc' := 105) (by decide) (by decide) ?_
        refine g_iinc X d4_105 (pc' := 108) (q := (1 : Int32)) (Ls' := #[.val (.ref a0), .val (.double d1), .second, .val (.ref w2), .val (.int (1 : Int32))]) rfl rfl rfl rfl ?_
        refine g_goto X d4_108 (pc' := 65) (by decide) (by decide) ?_
        refine g_iload X d4_65 (pc' := 67) rfl rfl ?_
        refine g_aloadN X d4_67 (pc' := 68) rfl rfl rfl ?_
        refine g_arraylength X V_w2 d4_68 (pc' := 69) rfl (z := (2 : Int32)) rfl ?_
        refine g_icN X d4_69 (tlt (show (1 : Int32) < (2 : Int32) from (by decide))).2.1 (pc' := 72) rfl ?_
        refine g_aloadN X d4_72 (pc' := 73) rfl rfl rfl ?_
        refine g_iload X d4_73 (pc' := 75) rfl rfl ?_
        refine g_iaload X V_w2 1 d4_75 (pc' := 76) rfl (by decide) (by decide) rfl ?_
        refine g_aloadN X d4_76 (pc' := 77) rfl rfl rfl ?_
        refine g_getfield X (host := "") (Or.inl (tb hw 22 rfl)) Via.refl F_a0_fewest d4_77 (pc' := 80) rfl ?_
        intro T X
        refine g_iload X d4_80 (pc' := 82) rfl rfl ?_
        refine g_iaload X V_w1 1 d4_82 (pc' := 83) rfl (by decide) (by decide) rfl ?_
        by_cases hc83_9 : x1 < f1
        · skip
          refine g_icN X d4_83 (tlt hc83_9).2.1 (pc' := 86) rfl ?_
          refine g_aloadN X d4_86 (pc' := 87) rfl rfl rfl ?_
          refine g_getfield X (host := "") (Or.inl (tb hw 22 rfl)) Via.refl F_a0_fewest d4_87 (pc' := 90) rfl ?_
          intro T X
          refine g_iload X d4_90 (pc' := 92) rfl rfl ?_
          refine g_aloadN X d4_92 (pc' := 93) rfl rfl rfl ?_
          refine g_iload X d4_93 (pc' := 95) rfl rfl ?_
          refine g_iaload X V_w2 1 d4_95 (pc' := 96) rfl (by decide) (by decide) rfl ?_
          refine g_iastore X V_w1 1 d4_96 (pc' := 97) rfl (by decide) (by decide) (Nat.le_of_ble_eq_true rfl) ?_
          intro T h X W V_w1
          replace V_w1 : Av Z h w1 .int [(.int f0), (.int x1)] := V_w1
          replace E_a0 := E_a0.wr W
          replace F_a0_sweeps := F_a0_sweeps.other W (Or.inl ne_a0_w1)
          replace F_a0_fewest := F_a0_fewest.other W (Or.inl ne_a0_w1)
          replace F_a0_narrowest := F_a0_narrowest.other W (Or.inl ne_a0_w1)
          replace F_a0_progressed := F_a0_progressed.other W (Or.inl ne_a0_w1)
          replace E_w2 := E_w2.wr W
          replace V_w2 := V_w2.other W ne_w2_w1
          replace E_w1 := E_w1.wr W
          replace Z0 := Nat.le_trans Z0 (Nat.le_of_eq W.size.symm)
          replace N := Fr.snoc X.1 N g_w1
          replace Kp := Kp.wr W (Or.inl (List.mem_of_getElem? (i := 1) rfl))
          refine g_aloadN X d4_97 (pc' := 98) rfl rfl rfl ?_
          refine g_aloadN X d4_98 (pc' := 99) rfl rfl rfl ?_
          refine g_getfield X (host := "") (Or.inl (tb hw 10 rfl)) Via.refl F_a0_sweeps d4_99 (pc' := 102) rfl ?_
          intro T X
          refine g_putfield X (host := "") (Or.inl (tb hw 35 rfl)) Via.refl F_a0_progressed E_a0 (Or.inl (tb hw 36 rfl)) (tb hw 2 rfl) (ty := .int) (by decide) rfl rfl d4_102 (pc' := 105) rfl ?_
          intro T h X W
          replace E_a0 := E_a0.wr W
          replace F_a0_sweeps := F_a0_sweeps.other W (Or.inr (slot_ne (Or.inl (tb hw 11 rfl)) (Or.inl (tb hw 36 rfl)) (by decide) (t := .int) (t' := .int) (by decide) (by decide)))
          replace F_a0_fewest := F_a0_fewest.other W (Or.inr (slot_ne (Or.inl (tb hw 23 rfl)) (Or.inl (tb hw 36 rfl)) (by decide) (t := (.array .int)) (t' := .int) (by decide) (by decide)))
          replace F_a0_narrowest := F_a0_narrowest.other W (Or.inr (slot_ne (Or.inl (tb hw 25 rfl)) (Or.inl (tb hw 36 rfl)) (by decide) (t := .double) (t' := .int) (by decide) (by decide)))
          replace F_a0_progressed := F_a0_progressed.same W
          replace E_w2 := E_w2.wr W
          replace V_w2 := V_w2.other W ne_w2_a0
          replace E_w1 := E_w1.wr W
          replace V_w1 := V_w1.other W (Ne.symm ne_a0_w1)
          replace Z0 := Nat.le_trans Z0 (Nat.le_of_eq W.size.symm)
          replace N := Fr.snoc X.1 N g_a0
          replace Kp := Kp.wr W (Or.inl (List.mem_of_getElem? (i := 0) rfl))
          refine g_iinc X d4_105 (pc' := 108) (q := (1 : Int32)) (Ls' := #[.val (.ref a0), .val (.double d1), .second, .val (.ref w2), .val (.int (2 : Int32))]) rfl rfl rfl rfl ?_
          refine g_goto X d4_108 (pc' := 65) (by decide) (by decide) ?_
          refine g_iload X d4_65 (pc' := 67) rfl rfl ?_
          refine g_aloadN X d4_67 (pc' := 68) rfl rfl rfl ?_
          refine g_arraylength X V_w2 d4_68 (pc' := 69) rfl (z := (2 : Int32)) rfl ?_
          refine g_icY X d4_69 (flt (show ¬ ((2 : Int32) < (2 : Int32)) from (by decide))).2.1 (pc' := 111) (by decide) (by decide) ?_
          refine g_aloadN X d4_111 (pc' := 112) rfl rfl rfl ?_
          refine g_getfield X (host := "") (Or.inl (tb hw 10 rfl)) Via.refl F_a0_sweeps d4_112 (pc' := 115) rfl ?_
          intro T X
          refine g_ldc X (tb hw 37 rfl) d4_115 (pc' := 117) rfl ?_
          refine g_icN X d4_117 (feq (show ¬ (v7_1 = (1000000 : Int32)) from (by subst_vars; exact near1 hnr))).1 (pc' := 120) rfl ?_
          refine g_aloadN X d4_120 (pc' := 121) rfl rfl rfl ?_
          refine g_getfield X (host := "") (Or.inl (tb hw 10 rfl)) Via.refl F_a0_sweeps d4_121 (pc' := 124) rfl ?_
          intro T X
          refine g_aloadN X d4_124 (pc' := 125) rfl rfl rfl ?_
          refine g_getfield X (host := "") (Or.inl (tb hw 35 rfl)) Via.refl F_a0_progressed d4_125 (pc' := 128) rfl ?_
          intro T X
          refine g_isub X d4_128 (pc' := 129) rfl ?_
          refine g_sipush X (1000 : Int32) d4_129 (pc' := 132) rfl rfl ?_
          refine g_icY X d4_132 (flt (show ¬ ((1000 : Int32) < (v7_1 - v7_1)) from (by subst_vars; exact near2 (near3 hnr)))).2.2.2 (pc' := 139) (by decide) (by decide) ?_
          refine g_iconst X (0 : Int32) d4_139 (pc' := 140) rfl rfl ?_
          refine g_ireturnN X (t := .boolean) (by simp) d4_140 hret hlk (by decide) (by decide) ?_
          subst ev7_1
          exact ⟨_, w1, _, _, _, rfl, N, Kp, g_w1, Or.inl rfl, E_a0, F_a0_sweeps, F_a0_progressed, F_a0_narrowest, F_a0_fewest, E_w1, V_w1, near3 hnr⟩
        · skip
          refine g_icY X d4_83 (flt hc83_9).2.1 (pc' := 105) (by decide) (by decide) ?_
          refine g_iinc X d4_105 (pc' := 108) (q := (1 : Int32)) (Ls' := #[.val (.ref a0), .val (.double d1), .second, .val (.ref w2), .val (.int (2 : Int32))]) rfl rfl rfl rfl ?_
          refine g_goto X d4_108 (pc' := 65) (by decide) (by decide) ?_
          refine g_iload X d4_65 (pc' := 67) rfl rfl ?_
          refine g_aloadN X d4_67 (pc' := 68) rfl rfl rfl ?_
          refine g_arraylength X V_w2 d4_68 (pc' := 69) rfl (z := (2 : Int32)) rfl ?_
          refine g_icY X d4_69 (flt (show ¬ ((2 : Int32) < (2 : Int32)) from (by decide))).2.1 (pc' := 111) (by decide) (by decide) ?_
          refine g_aloadN X d4_111 (pc' := 112) rfl rfl rfl ?_
          refine g_getfield X (host := "") (Or.inl (tb hw 10 rfl)) Via.refl F_a0_sweeps d4_112 (pc' := 115) rfl ?_
          intro T X
          refine g_ldc X (tb hw 37 rfl) d4_115 (pc' := 117) rfl ?_
          refine g_icN X d4_117 (feq (show ¬ (v7_1 = (1000000 : Int32)) from (by subst_vars; exact near1 hnr))).1 (pc' := 120) rfl ?_
          refine g_aloadN X d4_120 (pc' := 121) rfl rfl rfl ?_
          refine g_getfield X (host := "") (Or.inl (tb hw 10 rfl)) Via.refl F_a0_sweeps d4_121 (pc' := 124) rfl ?_
          intro T X
          refine g_aloadN X d4_124 (pc' := 125) rfl rfl rfl ?_
          refine g_getfield X (host := "") (Or.inl (tb hw 35 rfl)) Via.refl F_a0_progressed d4_125 (pc' := 128) rfl ?_
          intro T X
          refine g_isub X d4_128 (pc' := 129) rfl ?_
          refine g_sipush X (1000 : Int32) d4_129 (pc' := 132) rfl rfl ?_
          refine g_icY X d4_132 (flt (show ¬ ((1000 : Int32) < (v7_1 - pg)) from (by subst_vars; exact near2 hnr))).2.2.2 (pc' := 139) (by decide) (by decide) ?_
          refine g_iconst X (0 : Int32) d4_139 (pc' := 140) rfl rfl ?_
          refine g_ireturnN X (t := .boolean) (by simp) d4_140 hret hlk (by decide) (by decide) ?_
          subst ev7_1
          exact ⟨_, w1, _, _, _, rfl, N, Kp, g_w1, Or.inl rfl, E_a0, F_a0_sweeps, F_a0_progressed, F_a0_narrowest, F_a0_fewest, E_w1, V_w1, hnr⟩
    · skip
      refine g_ifY X d4_59 ((if0 _ _).trans (feq hc59_6).2) (pc' := 111) (by decide) (by decide) ?_
      refine g_aloadN X d4_111 (pc' := 112) rfl rfl rfl ?_
      refine g_getfield X (host := "") (Or.inl (tb hw 10 rfl)) Via.refl F_a0_sweeps d4_112 (pc' := 115) rfl ?_
      intro T X
      refine g_ldc X (tb hw 37 rfl) d4_115 (pc' := 117) rfl ?_
      refine g_icN X d4_117 (feq (show ¬ (v7_1 = (1000000 : Int32)) from (by subst_vars; exact near1 hnr))).1 (pc' := 120) rfl ?_
      refine g_aloadN X d4_120 (pc' := 121) rfl rfl rfl ?_
      refine g_getfield X (host := "") (Or.inl (tb hw 10 rfl)) Via.refl F_a0_sweeps d4_121 (pc' := 124) rfl ?_
      intro T X
      refine g_aloadN X d4_124 (pc' := 125) rfl rfl rfl ?_
      refine g_getfield X (host := "") (Or.inl (tb hw 35 rfl)) Via.refl F_a0_progressed d4_125 (pc' := 128) rfl ?_
      intro T X
      refine g_isub X d4_128 (pc' := 129) rfl ?_
      refine g_sipush X (1000 : Int32) d4_129 (pc' := 132) rfl rfl ?_
      refine g_icY X d4_132 (flt (show ¬ ((1000 : Int32) < (v7_1 - pg)) from (by subst_vars; exact near2 hnr))).2.2.2 (pc' := 139) (by decide) (by decide) ?_
      refine g_iconst X (0 : Int32) d4_139 (pc' := 140) rfl rfl ?_
      refine g_ireturnN X (t := .boolean) (by simp) d4_140 hret hlk (by decide) (by decide) ?_
      subst ev7_1
      exact ⟨_, w1, _, _, _, rfl, N, Kp, g_w1, Or.inl rfl, E_a0, F_a0_sweeps, F_a0_progressed, F_a0_narrowest, F_a0_fewest, E_w1, V_w1, hnr⟩
theorem near_up {k p : Int32} (h : Near k p) (hk : (k + 1 + 1).toInt = (k + 1).toInt + 1 ∧ (k + 1 + 1).toInt ≤ 10) : Near (k + 1) p := by
  obtain ⟨h1, h2, h3, h4⟩ := h; obtain ⟨h5, h6⟩ := hk
  exact ⟨by omega, by omega, h3, by omega⟩
theorem pn_1 : plainName "com/example/ryazan/ryazan/numeric/SweepLimitReachedPinLaw" = true := by first | (simp [plainName, overriddenIn]; done) | decide +kernel
theorem pd_0 : parseMethodDescriptor "()V" = some ⟨[], none⟩ := by decide +kernel
theorem pd_1 : parseMethodDescriptor "()I" = some ⟨[], some .int⟩ := by decide +kernel
theorem pd_2 : parseMethodDescriptor "(D[I)Z" = some ⟨[.double, (.array .int)], some .boolean⟩ := by decide +kernel
theorem ef_rLaw (m : MethodId) (x0 : Int32) (x1 : Int32) (x2 : Int32) (x3 : Int32) (x4 : Int32) (x5 : Int32) : entryFrame m #[(.int x0), (.int x1), (.int x2), (.int x3), (.int x4), (.int x5)] maxLocals = mkF m 0 #[.val (.int x0), .val (.int x1), .val (.int x2), .val (.int x3), .val (.int x4), .val (.int x5), .unset, .unset, .unset, .unset, .unset, .unset, .unset, .unset, .unset, .unset, .unset, .unset, .unset, .unset, .unset, .unset, .unset, .unset, .unset, .unset, .unset] [] := by first | (simp [entryFrame, mkF, argsToLocals, Value.category, maxLocals]; done) | rfl
set_option maxRecDepth 65536 in
set_option maxHeartbeats 40000000 in
theorem rLaw (l : Launch) (Z : State) (aa : Array Value) (hw : ∀ d ∈ tables_1, d.before aa Z = true) (ws : List Jvm.Cond) (i0 : Int32) (i1 : Int32) (i2 : Int32) (i3 : Int32) (i4 : Int32) (i5 : Int32) (h0 : Heap) (n0 : Nat) (Z0 : n0 ≤ h0.size) :
    Rm l Z x code maxLocals ret ws room_1 #[(.int i0), (.int i1), (.int i2), (.int i3), (.int i4), (.int i5)] h0 (fun v h L => v = some (.int 1) ∧ Fr n0 L) := by
  refine Rm.of (plainFor_of_name pn_1) ?_
  intro p e s m below meth cc T X hnm hret hlk
  refine Go.at_ (ef_rLaw m i0 i1 i2 i3 i4 i5) ?_
  have N := Fr.nil n0
  refine g_iloadN X at_0 (pc' := 1) rfl rfl ?_
  refine g_iconst X (1 : Int32) at_1 (pc' := 2) rfl rfl ?_
  refine g_iand X at_2 (pc' := 3) rfl ?_
  by_cases hc3_1 : (i0 &&& (1 : Int32)) = (0 : Int32)
  · skip
    refine g_ifY X at_3 ((if0 _ _).trans (teq hc3_1).1) (pc' := 10) (by decide) (by decide) ?_
    refine g_iconst X (0 : Int32) at_10 (pc' := 11) rfl rfl ?_
    refine g_istore X at_11 (pc' := 13) (Ls' := #[.val (.int i0), .val (.int i1), .val (.int i2), .val (.int i3), .val (.int i4), .val (.int i5), .val (.int (0 : Int32)), .unset, .unset, .unset, .unset, .unset, .unset, .unset, .unset, .unset, .unset, .unset, .unset, .unset, .unset, .unset, .unset, .unset, .unset, .unset, .unset]) rfl rfl ?_
    refine g_iconst X (0 : Int32) at_13 (pc' := 14) rfl rfl ?_
    refine g_newarray X 0 (tb hw 0 rfl) at_14 (pc' := 16) rfl (by decide) (by decide) 0 (by decide) (by decide) (by decide) (by decide) (vs := []) rfl (ad := "[I") (by decide) ?_
    intro T h b14_2 s_b14_2 X Ex E_b14_2 V_b14_2
    have g_b14_2 : n0 ≤ b14_2 := by rw [s_b14_2]; exact Z0
    replace Z0 := Nat.le_trans Z0 Ex.1
    refine g_astore X at_16 (pc' := 18) (Ls' := #[.val (.int i0), .val (.int i1), .val (.int i2), .val (.int i3), .val (.int i4), .val (.int i5), .val (.int (0 : Int32)), .val (.ref b14_2), .unset, .unset, .unset, .unset, .unset, .unset, .unset, .unset, .unset, .unset, .unset, .unset, .unset, .unset, .unset, .unset, .unset, .unset, .unset]) rfl rfl rfl ?_
    refine g_iconst X (2 : Int32) at_18 (pc' := 19) rfl rfl ?_
    refine g_newarray X 2 (tb hw 0 rfl) at_19 (pc' := 21) rfl (by decide) (by decide) 2 (by decide) (by decide) (by decide) (by decide) (vs := [(.int (0 : Int32)), (.int (0 : Int32))]) rfl (ad := "[I") (by decide) ?_
    intro T h b19_3 s_b19_3 X Ex E_b19_3 V_b19_3
    have ne_b14_2_b19_3 : b14_2 ≠ b19_3 := Nat.ne_of_lt (by rw [s_b19_3]; exact E_b14_2.lt)
    have g_b19_3 : n0 ≤ b19_3 := by rw [s_b19_3]; exact Z0
    replace E_b14_2 := E_b14_2.ext Ex
    replace V_b14_2 := V_b14_2.ext Ex
    replace Z0 := Nat.le_trans Z0 Ex.1
    refine g_dup X at_21 (pc' := 22) rfl rfl ?_
    refine g_iconst X (0 : Int32) at_22 (pc' := 23) rfl rfl ?_
    refine g_iload X at_23 (pc' := 25) rfl rfl ?_
    refine g_iastore X V_b19_3 0 at_25 (pc' := 26) rfl (by decide) (by decide) (Nat.le_of_ble_eq_true rfl) ?_
    intro T h X W V_b19_3
    replace V_b19_3 : Av Z h b19_3 .int [(.int i4), (.int (0 : Int32))] := V_b19_3
    replace E_b14_2 := E_b14_2.wr W
    replace V_b14_2 := V_b14_2.other W ne_b14_2_b19_3
    replace E_b19_3 := E_b19_3.wr W
    replace Z0 := Nat.le_trans Z0 (Nat.le_of_eq W.size.symm)
    replace N := Fr.snoc X.1 N g_b19_3
    refine g_dup X at_26 (pc' := 27) rfl rfl ?_
    refine g_iconst X (1 : Int32) at_27 (pc' := 28) rfl rfl ?_
    refine g_iload X at_28 (pc' := 30) rfl rfl ?_
    refine g_iastore X V_b19_3 1 at_30 (pc' := 31) rfl (by decide) (by decide) (Nat.le_of_ble_eq_true rfl) ?_
    intro T h X W V_b19_3
    replace V_b19_3 : Av Z h b19_3 .int [(.int i4), (.int i5)] := V_b19_3
    replace E_b14_2 := E_b14_2.wr W
    replace V_b14_2 := V_b14_2.other W ne_b14_2_b19_3
    replace E_b19_3 := E_b19_3.wr W
    replace Z0 := Nat.le_trans Z0 (Nat.le_of_eq W.size.symm)
    replace N := Fr.snoc X.1 N g_b19_3
    refine g_astore X at_31 (pc' := 33) (Ls' := #[.val (.int i0), .val (.int i1), .val (.int i2), .val (.int i3), .val (.int i4), .val (.int i5), .val (.int (0 : Int32)), .val (.ref b14_2), .val (.ref b19_3), .unset, .unset, .unset, .unset, .unset, .unset, .unset, .unset, .unset, .unset, .unset, .unset, .unset, .unset, .unset, .unset, .unset, .unset]) rfl rfl rfl ?_
    refine g_iconst X (2 : Int32) at_33 (pc' := 34) rfl rfl ?_
    refine g_newarray X 2 (tb hw 0 rfl) at_34 (pc' := 36) rfl (by decide) (by decide) 2 (by decide) (by decide) (by decide) (by decide) (vs := [(.int (0 : Int32)), (.int (0 : Int32))]) rfl (ad := "[I") (by decide) ?_
    intro T h b34_4 s_b34_4 X Ex E_b34_4 V_b34_4
    have ne_b14_2_b34_4 : b14_2 ≠ b34_4 := Nat.ne_of_lt (by rw [s_b34_4]; exact E_b14_2.lt)
    have ne_b19_3_b34_4 : b19_3 ≠ b34_4 := Nat.ne_of_lt (by rw [s_b34_4]; exact E_b19_3.lt)
    have g_b34_4 : n0 ≤ b34_4 := by rw [s_b34_4]; exact Z0
    replace E_b14_2 := E_b14_2.ext Ex
    replace V_b14_2 := V_b14_2.ext Ex
    replace E_b19_3 := E_b19_3.ext Ex
    replace V_b19_3 := V_b19_3.ext Ex
    replace Z0 := Nat.le_trans Z0 Ex.1
    refine g_dup X at_36 (pc' := 37) rfl rfl ?_
    refine g_iconst X (0 : Int32) at_37 (pc' := 38) rfl rfl ?_
    refine g_iload X at_38 (pc' := 40) rfl rfl ?_
    refine g_iastore X V_b34_4 0 at_40 (pc' := 41) rfl (by decide) (by decide) (Nat.le_of_ble_eq_true rfl) ?_
    intro T h X W V_b34_4
    replace V_b34_4 : Av Z h b34_4 .int [(.int i5), (.int (0 : Int32))] := V_b34_4
    replace E_b14_2 := E_b14_2.wr W
    replace V_b14_2 := V_b14_2.other W ne_b14_2_b34_4
    replace E_b19_3 := E_b19_3.wr W
    replace V_b19_3 := V_b19_3.other W ne_b19_3_b34_4
    replace E_b34_4 := E_b34_4.wr W
    replace Z0 := Nat.le_trans Z0 (Nat.le_of_eq W.size.symm)
    replace N := Fr.snoc X.1 N g_b34_4
    refine g_dup X at_41 (pc' := 42) rfl rfl ?_
    refine g_iconst X (1 : Int32) at_42 (pc' := 43) rfl rfl ?_
    refine g_iload X at_43 (pc' := 45) rfl rfl ?_
    refine g_iastore X V_b34_4 1 at_45 (pc' := 46) rfl (by decide) (by decide) (Nat.le_of_ble_eq_true rfl) ?_
    intro T h X W V_b34_4
    replace V_b34_4 : Av Z h b34_4 .int [(.int i5), (.int i4)] := V_b34_4
    replace E_b14_2 := E_b14_2.wr W
    replace V_b14_2 := V_b14_2.other W ne_b14_2_b34_4
    replace E_b19_3 := E_b19_3.wr W
    replace V_b19_3 := V_b19_3.other W ne_b19_3_b34_4
    replace E_b34_4 := E_b34_4.wr W
    replace Z0 := Nat.le_trans Z0 (Nat.le_of_eq W.size.symm)
    replace N := Fr.snoc X.1 N g_b34_4
    refine g_astore X at_46 (pc' := 48) (Ls' := #[.val (.int i0), .val (.int i1), .val (.int i2), .val (.int i3), .val (.int i4), .val (.int i5), .val (.int (0 : Int32)), .val (.ref b14_2), .val (.ref b19_3), .val (.ref b34_4), .unset, .unset, .unset, .unset, .unset, .unset, .unset, .unset, .unset, .unset, .unset, .unset, .unset, .unset, .unset, .unset, .unset]) rfl rfl rfl ?_
    refine g_iconst X (2 : Int32) at_48 (pc' := 49) rfl rfl ?_
    refine g_newarray X 2 (tb hw 0 rfl) at_49 (pc' := 51) rfl (by decide) (by decide) 2 (by decide) (by decide) (by decide) (by decide) (vs := [(.int (0 : Int32)), (.int (0 : Int32))]) rfl (ad := "[I") (by decide) ?_
    intro T h b49_5 s_b49_5 X Ex E_b49_5 V_b49_5
    have ne_b14_2_b49_5 : b14_2 ≠ b49_5 := Nat.ne_of_lt (by rw [s_b49_5]; exact E_b14_2.lt)
    have ne_b19_3_b49_5 : b19_3 ≠ b49_5 := Nat.ne_of_lt (by rw [s_b49_5]; exact E_b19_3.lt)
    have ne_b34_4_b49_5 : b34_4 ≠ b49_5 := Nat.ne_of_lt (by rw [s_b49_5]; exact E_b34_4.lt)
    have g_b49_5 : n0 ≤ b49_5 := by rw [s_b49_5]; exact Z0
    replace E_b14_2 := E_b14_2.ext Ex
    replace V_b14_2 := V_b14_2.ext Ex
    replace E_b19_3 := E_b19_3.ext Ex
    replace V_b19_3 := V_b19_3.ext Ex
    replace E_b34_4 := E_b34_4.ext Ex
    replace V_b34_4 := V_b34_4.ext Ex
    replace Z0 := Nat.le_trans Z0 Ex.1
    refine g_dup X at_51 (pc' := 52) rfl rfl ?_
    refine g_iconst X (0 : Int32) at_52 (pc' := 53) rfl rfl ?_
    refine g_iload X at_53 (pc' := 55) rfl rfl ?_
    refine g_iconst X (1 : Int32) at_55 (pc' := 56) rfl rfl ?_
    refine g_isub X at_56 (pc' := 57) rfl ?_
    generalize ev57_6 : (i4 - (1 : Int32)) = v57_6
    refine g_iastore X V_b49_5 0 at_57 (pc' := 58) rfl (by decide) (by decide) (Nat.le_of_ble_eq_true rfl) ?_
    intro T h X W V_b49_5
    replace V_b49_5 : Av Z h b49_5 .int [(.int v57_6), (.int (0 : Int32))] := V_b49_5
    replace E_b14_2 := E_b14_2.wr W
    replace V_b14_2 := V_b14_2.other W ne_b14_2_b49_5
    replace E_b19_3 := E_b19_3.wr W
    replace V_b19_3 := V_b19_3.other W ne_b19_3_b49_5
    replace E_b34_4 := E_b34_4.wr W
    replace V_b34_4 := V_b34_4.other W ne_b34_4_b49_5
    replace E_b49_5 := E_b49_5.wr W
    replace Z0 := Nat.le_trans Z0 (Nat.le_of_eq W.size.symm)
    replace N := Fr.snoc X.1 N g_b49_5
    refine g_dup X at_58 (pc' := 59) rfl rfl ?_
    refine g_iconst X (1 : Int32) at_59 (pc' := 60) rfl rfl ?_
    refine g_iload X at_60 (pc' := 62) rfl rfl ?_
    refine g_iconst X (1 : Int32) at_62 (pc' := 63) rfl rfl ?_
    refine g_isub X at_63 (pc' := 64) rfl ?_
    generalize ev64_7 : (i5 - (1 : Int32)) = v64_7
    refine g_iastore X V_b49_5 1 at_64 (pc' := 65) rfl (by decide) (by decide) (Nat.le_of_ble_eq_true rfl) ?_
    intro T h X W V_b49_5
    replace V_b49_5 : Av Z h b49_5 .int [(.int v57_6), (.int v64_7)] := V_b49_5
    replace E_b14_2 := E_b14_2.wr W
    replace V_b14_2 := V_b14_2.other W ne_b14_2_b49_5
    replace E_b19_3 := E_b19_3.wr W
    replace V_b19_3 := V_b19_3.other W ne_b19_3_b49_5
    replace E_b34_4 := E_b34_4.wr W
    replace V_b34_4 := V_b34_4.other W ne_b34_4_b49_5
    replace E_b49_5 := E_b49_5.wr W
    replace Z0 := Nat.le_trans Z0 (Nat.le_of_eq W.size.symm)
    replace N := Fr.snoc X.1 N g_b49_5
    refine g_astore X at_65 (pc' := 67) (Ls' := #[.val (.int i0), .val (.int i1), .val (.int i2), .val (.int i3), .val (.int i4), .val (.int i5), .val (.int (0 : Int32)), .val (.ref b14_2), .val (.ref b19_3), .val (.ref b34_4), .val (.ref b49_5), .unset, .unset, .unset, .unset, .unset, .unset, .unset, .unset, .unset, .unset, .unset, .unset, .unset, .unset, .unset, .unset]) rfl rfl rfl ?_
    refine g_iconst X (2 : Int32) at_67 (pc' := 68) rfl rfl ?_
    refine g_newarray X 2 (tb hw 0 rfl) at_68 (pc' := 70) rfl (by decide) (by decide) 2 (by decide) (by decide) (by decide) (by decide) (vs := [(.int (0 : Int32)), (.int (0 : Int32))]) rfl (ad := "[I") (by decide) ?_
    intro T h b68_8 s_b68_8 X Ex E_b68_8 V_b68_8
    have ne_b14_2_b68_8 : b14_2 ≠ b68_8 := Nat.ne_of_lt (by rw [s_b68_8]; exact E_b14_2.lt)
    have ne_b19_3_b68_8 : b19_3 ≠ b68_8 := Nat.ne_of_lt (by rw [s_b68_8]; exact E_b19_3.lt)
    have ne_b34_4_b68_8 : b34_4 ≠ b68_8 := Nat.ne_of_lt (by rw [s_b68_8]; exact E_b34_4.lt)
    have ne_b49_5_b68_8 : b49_5 ≠ b68_8 := Nat.ne_of_lt (by rw [s_b68_8]; exact E_b49_5.lt)
    have g_b68_8 : n0 ≤ b68_8 := by rw [s_b68_8]; exact Z0
    replace E_b14_2 := E_b14_2.ext Ex
    replace V_b14_2 := V_b14_2.ext Ex
    replace E_b19_3 := E_b19_3.ext Ex
    replace V_b19_3 := V_b19_3.ext Ex
    replace E_b34_4 := E_b34_4.ext Ex
    replace V_b34_4 := V_b34_4.ext Ex
    replace E_b49_5 := E_b49_5.ext Ex
    replace V_b49_5 := V_b49_5.ext Ex
    replace Z0 := Nat.le_trans Z0 Ex.1
    refine g_dup X at_70 (pc' := 71) rfl rfl ?_
    refine g_iconst X (0 : Int32) at_71 (pc' := 72) rfl rfl ?_
    refine g_iload X at_72 (pc' := 74) rfl rfl ?_
    refine g_iastore X V_b68_8 0 at_74 (pc' := 75) rfl (by decide) (by decide) (Nat.le_of_ble_eq_true rfl) ?_
    intro T h X W V_b68_8
    replace V_b68_8 : Av Z h b68_8 .int [(.int i4), (.int (0 : Int32))] := V_b68_8
    replace E_b14_2 := E_b14_2.wr W
    replace V_b14_2 := V_b14_2.other W ne_b14_2_b68_8
    replace E_b19_3 := E_b19_3.wr W
    replace V_b19_3 := V_b19_3.other W ne_b19_3_b68_8
    replace E_b34_4 := E_b34_4.wr W
    replace V_b34_4 := V_b34_4.other W ne_b34_4_b68_8
    replace E_b49_5 := E_b49_5.wr W
    replace V_b49_5 := V_b49_5.other W ne_b49_5_b68_8
    replace E_b68_8 := E_b68_8.wr W
    replace Z0 := Nat.le_trans Z0 (Nat.le_of_eq W.size.symm)
    replace N := Fr.snoc X.1 N g_b68_8
    refine g_dup X at_75 (pc' := 76) rfl rfl ?_
    refine g_iconst X (1 : Int32) at_76 (pc' := 77) rfl rfl ?_
    refine g_iload X at_77 (pc' := 79) rfl rfl ?_
    refine g_iastore X V_b68_8 1 at_79 (pc' := 80) rfl (by decide) (by decide) (Nat.le_of_ble_eq_true rfl) ?_
    intro T h X W V_b68_8
    replace V_b68_8 : Av Z h b68_8 .int [(.int i4), (.int i4)] := V_b68_8
    replace E_b14_2 := E_b14_2.wr W
    replace V_b14_2 := V_b14_2.other W ne_b14_2_b68_8
    replace E_b19_3 := E_b19_3.wr W
    replace V_b19_3 := V_b19_3.other W ne_b19_3_b68_8
    replace E_b34_4 := E_b34_4.wr W
    replace V_b34_4 := V_b34_4.other W ne_b34_4_b68_8
    replace E_b49_5 := E_b49_5.wr W
    replace V_b49_5 := V_b49_5.other W ne_b49_5_b68_8
    replace E_b68_8 := E_b68_8.wr W
    replace Z0 := Nat.le_trans Z0 (Nat.le_of_eq W.size.symm)
    replace N := Fr.snoc X.1 N g_b68_8
    refine g_astore X at_80 (pc' := 82) (Ls' := #[.val (.int i0), .val (.int i1), .val (.int i2), .val (.int i3), .val (.int i4), .val (.int i5), .val (.int (0 : Int32)), .val (.ref b14_2), .val (.ref b19_3), .val (.ref b34_4), .val (.ref b49_5), .val (.ref b68_8), .unset, .unset, .unset, .unset, .unset, .unset, .unset, .unset, .unset, .unset, .unset, .unset, .unset, .unset, .unset]) rfl rfl rfl ?_
    refine g_iconst X (2 : Int32) at_82 (pc' := 83) rfl rfl ?_
    refine g_newarray X 2 (tb hw 0 rfl) at_83 (pc' := 85) rfl (by decide) (by decide) 2 (by decide) (by decide) (by decide) (by decide) (vs := [(.int (0 : Int32)), (.int (0 : Int32))]) rfl (ad := "[I") (by decide) ?_
    intro T h b83_9 s_b83_9 X Ex E_b83_9 V_b83_9
    have ne_b14_2_b83_9 : b14_2 ≠ b83_9 := Nat.ne_of_lt (by rw [s_b83_9]; exact E_b14_2.lt)
    have ne_b19_3_b83_9 : b19_3 ≠ b83_9 := Nat.ne_of_lt (by rw [s_b83_9]; exact E_b19_3.lt)
    have ne_b34_4_b83_9 : b34_4 ≠ b83_9 := Nat.ne_of_lt (by rw [s_b83_9]; exact E_b34_4.lt)
    have ne_b49_5_b83_9 : b49_5 ≠ b83_9 := Nat.ne_of_lt (by rw [s_b83_9]; exact E_b49_5.lt)
    have ne_b68_8_b83_9 : b68_8 ≠ b83_9 := Nat.ne_of_lt (by rw [s_b83_9]; exact E_b68_8.lt)
    have g_b83_9 : n0 ≤ b83_9 := by rw [s_b83_9]; exact Z0
    replace E_b14_2 := E_b14_2.ext Ex
    replace V_b14_2 := V_b14_2.ext Ex
    replace E_b19_3 := E_b19_3.ext Ex
    replace V_b19_3 := V_b19_3.ext Ex
    replace E_b34_4 := E_b34_4.ext Ex
    replace V_b34_4 := V_b34_4.ext Ex
    replace E_b49_5 := E_b49_5.ext Ex
    replace V_b49_5 := V_b49_5.ext Ex
    replace E_b68_8 := E_b68_8.ext Ex
    replace V_b68_8 := V_b68_8.ext Ex
    replace Z0 := Nat.le_trans Z0 Ex.1
    refine g_dup X at_85 (pc' := 86) rfl rfl ?_
    refine g_iconst X (0 : Int32) at_86 (pc' := 87) rfl rfl ?_
    refine g_iload X at_87 (pc' := 89) rfl rfl ?_
    refine g_iconst X (1 : Int32) at_89 (pc' := 90) rfl rfl ?_
    refine g_ishr X at_90 (pc' := 91) rfl ?_
    generalize ev91_10 : (i5 >>> ((1 : Int32) &&& 31)) = v91_10
    refine g_iastore X V_b83_9 0 at_91 (pc' := 92) rfl (by decide) (by decide) (Nat.le_of_ble_eq_true rfl) ?_
    intro T h X W V_b83_9
    replace V_b83_9 : Av Z h b83_9 .int [(.int v91_10), (.int (0 : Int32))] := V_b83_9
    replace E_b14_2 := E_b14_2.wr W
    replace V_b14_2 := V_b14_2.other W ne_b14_2_b83_9
    replace E_b19_3 := E_b19_3.wr W
    replace V_b19_3 := V_b19_3.other W ne_b19_3_b83_9
    replace E_b34_4 := E_b34_4.wr W
    replace V_b34_4 := V_b34_4.other W ne_b34_4_b83_9
    replace E_b49_5 := E_b49_5.wr W
    replace V_b49_5 := V_b49_5.other W ne_b49_5_b83_9
    replace E_b68_8 := E_b68_8.wr W
    replace V_b68_8 := V_b68_8.other W ne_b68_8_b83_9
    replace E_b83_9 := E_b83_9.wr W
    replace Z0 := Nat.le_trans Z0 (Nat.le_of_eq W.size.symm)
    replace N := Fr.snoc X.1 N g_b83_9
    refine g_dup X at_92 (pc' := 93) rfl rfl ?_
    refine g_iconst X (1 : Int32) at_93 (pc' := 94) rfl rfl ?_
    refine g_iload X at_94 (pc' := 96) rfl rfl ?_
    refine g_iconst X (1 : Int32) at_96 (pc' := 97) rfl rfl ?_
    refine g_ishr X at_97 (pc' := 98) rfl ?_
    generalize ev98_11 : (i4 >>> ((1 : Int32) &&& 31)) = v98_11
    refine g_iastore X V_b83_9 1 at_98 (pc' := 99) rfl (by decide) (by decide) (Nat.le_of_ble_eq_true rfl) ?_
    intro T h X W V_b83_9
    replace V_b83_9 : Av Z h b83_9 .int [(.int v91_10), (.int v98_11)] := V_b83_9
    replace E_b14_2 := E_b14_2.wr W
    replace V_b14_2 := V_b14_2.other W ne_b14_2_b83_9
    replace E_b19_3 := E_b19_3.wr W
    replace V_b19_3 := V_b19_3.other W ne_b19_3_b83_9
    replace E_b34_4 := E_b34_4.wr W
    replace V_b34_4 := V_b34_4.other W ne_b34_4_b83_9
    replace E_b49_5 := E_b49_5.wr W
    replace V_b49_5 := V_b49_5.other W ne_b49_5_b83_9
    replace E_b68_8 := E_b68_8.wr W
    replace V_b68_8 := V_b68_8.other W ne_b68_8_b83_9
    replace E_b83_9 := E_b83_9.wr W
    replace Z0 := Nat.le_trans Z0 (Nat.le_of_eq W.size.symm)
    replace N := Fr.snoc X.1 N g_b83_9
    refine g_astore X at_99 (pc' := 101) (Ls' := #[.val (.int i0), .val (.int i1), .val (.int i2), .val (.int i3), .val (.int i4), .val (.int i5), .val (.int (0 : Int32)), .val (.ref b14_2), .val (.ref b19_3), .val (.ref b34_4), .val (.ref b49_5), .val (.ref b68_8), .val (.ref b83_9), .unset, .unset, .unset, .unset, .unset, .unset, .unset, .unset, .unset, .unset, .unset, .unset, .unset, .unset]) rfl rfl rfl ?_
    refine g_iload X at_101 (pc' := 103) rfl rfl ?_
    refine g_ifY X at_103 ((if0 _ _).trans (teq (show (0 : Int32) = (0 : Int32) from (by decide))).1) (pc' := 111) (by decide) (by decide) ?_
    refine g_aload X at_111 (pc' := 113) rfl rfl rfl ?_
    refine g_astore X at_113 (pc' := 115) (Ls' := #[.val (.int i0), .val (.int i1), .val (.int i2), .val (.int i3), .val (.int i4), .val (.int i5), .val (.int (0 : Int32)), .val (.ref b14_2), .val (.ref b19_3), .val (.ref b34_4), .val (.ref b49_5), .val (.ref b68_8), .val (.ref b83_9), .val (.ref b19_3), .unset, .unset, .unset, .unset, .unset, .unset, .unset, .unset, .unset, .unset, .unset, .unset, .unset]) rfl rfl rfl ?_
    refine g_iload X at_115 (pc' := 117) rfl rfl ?_
    refine g_ifY X at_117 ((if0 _ _).trans (teq (show (0 : Int32) = (0 : Int32) from (by decide))).1) (pc' := 125) (by decide) (by decide) ?_
    refine g_aload X at_125 (pc' := 127) rfl rfl rfl ?_
    refine g_astore X at_127 (pc' := 129) (Ls' := #[.val (.int i0), .val (.int i1), .val (.int i2), .val (.int i3), .val (.int i4), .val (.int i5), .val (.int (0 : Int32)), .val (.ref b14_2), .val (.ref b19_3), .val (.ref b34_4), .val (.ref b49_5), .val (.ref b68_8), .val (.ref b83_9), .val (.ref b19_3), .val (.ref b34_4), .unset, .unset, .unset, .unset, .unset, .unset, .unset, .unset, .unset, .unset, .unset, .unset]) rfl rfl rfl ?_
    refine g_iload X at_129 (pc' := 131) rfl rfl ?_
    refine g_ifY X at_131 ((if0 _ _).trans (teq (show (0 : Int32) = (0 : Int32) from (by decide))).1) (pc' := 139) (by decide) (by decide) ?_
    refine g_aload X at_139 (pc' := 141) rfl rfl rfl ?_
    refine g_astore X at_141 (pc' := 143) (Ls' := #[.val (.int i0), .val (.int i1), .val (.int i2), .val (.int i3), .val (.int i4), .val (.int i5), .val (.int (0 : Int32)), .val (.ref b14_2), .val (.ref b19_3), .val (.ref b34_4), .val (.ref b49_5), .val (.ref b68_8), .val (.ref b83_9), .val (.ref b19_3), .val (.ref b34_4), .val (.ref b49_5), .unset, .unset, .unset, .unset, .unset, .unset, .unset, .unset, .unset, .unset, .unset]) rfl rfl rfl ?_
    refine g_iload X at_143 (pc' := 145) rfl rfl ?_
    refine g_ifY X at_145 ((if0 _ _).trans (teq (show (0 : Int32) = (0 : Int32) from (by decide))).1) (pc' := 153) (by decide) (by decide) ?_
    refine g_aload X at_153 (pc' := 155) rfl rfl rfl ?_
    refine g_astore X at_155 (pc' := 157) (Ls' := #[.val (.int i0), .val (.int i1), .val (.int i2), .val (.int i3), .val (.int i4), .val (.int i5), .val (.int (0 : Int32)), .val (.ref b14_2), .val (.ref b19_3), .val (.ref b34_4), .val (.ref b49_5), .val (.ref b68_8), .val (.ref b83_9), .val (.ref b19_3), .val (.ref b34_4), .val (.ref b49_5), .val (.ref b68_8), .unset, .unset, .unset, .unset, .unset, .unset, .unset, .unset, .unset, .unset]) rfl rfl rfl ?_
    refine g_iload X at_157 (pc' := 159) rfl rfl ?_
    refine g_ifY X at_159 ((if0 _ _).trans (teq (show (0 : Int32) = (0 : Int32) from (by decide))).1) (pc' := 167) (by decide) (by decide) ?_
    refine g_aload X at_167 (pc' := 169) rfl rfl rfl ?_
    refine g_astore X at_169 (pc' := 171) (Ls' := #[.val (.int i0), .val (.int i1), .val (.int i2), .val (.int i3), .val (.int i4), .val (.int i5), .val (.int (0 : Int32)), .val (.ref b14_2), .val (.ref b19_3), .val (.ref b34_4), .val (.ref b49_5), .val (.ref b68_8), .val (.ref b83_9), .val (.ref b19_3), .val (.ref b34_4), .val (.ref b49_5), .val (.ref b68_8), .val (.ref b83_9), .unset, .unset, .unset, .unset, .unset, .unset, .unset, .unset, .unset]) rfl rfl rfl ?_
    refine g_new X (tb hw 1 rfl) (tb hw 2 rfl) (tb hw 3 rfl) at_171 (pc' := 174) rfl (by decide) (by decide) ?_
    intro T h b171_12 s_b171_12 X Ex E_b171_12 D_b171_12
    have ne_b14_2_b171_12 : b14_2 ≠ b171_12 := Nat.ne_of_lt (by rw [s_b171_12]; exact E_b14_2.lt)
    have ne_b19_3_b171_12 : b19_3 ≠ b171_12 := Nat.ne_of_lt (by rw [s_b171_12]; exact E_b19_3.lt)
    have ne_b34_4_b171_12 : b34_4 ≠ b171_12 := Nat.ne_of_lt (by rw [s_b171_12]; exact E_b34_4.lt)
    have ne_b49_5_b171_12 : b49_5 ≠ b171_12 := Nat.ne_of_lt (by rw [s_b171_12]; exact E_b49_5.lt)
    have ne_b68_8_b171_12 : b68_8 ≠ b171_12 := Nat.ne_of_lt (by rw [s_b171_12]; exact E_b68_8.lt)
    have ne_b83_9_b171_12 : b83_9 ≠ b171_12 := Nat.ne_of_lt (by rw [s_b171_12]; exact E_b83_9.lt)
    have g_b171_12 : n0 ≤ b171_12 := by rw [s_b171_12]; exact Z0
    replace E_b14_2 := E_b14_2.ext Ex
    replace V_b14_2 := V_b14_2.ext Ex
    replace E_b19_3 := E_b19_3.ext Ex
    replace V_b19_3 := V_b19_3.ext Ex
    replace E_b34_4 := E_b34_4.ext Ex
    replace V_b34_4 := V_b34_4.ext Ex
    replace E_b49_5 := E_b49_5.ext Ex
    replace V_b49_5 := V_b49_5.ext Ex
    replace E_b68_8 := E_b68_8.ext Ex
    replace V_b68_8 := V_b68_8.ext Ex
    replace E_b83_9 := E_b83_9.ext Ex
    replace V_b83_9 := V_b83_9.ext Ex
    replace Z0 := Nat.le_trans Z0 Ex.1
    have F_b171_12_sweeps : Fld Z h b171_12 "com/example/ryazan/ryazan/numeric/SweepLimit" "sweeps" "I" (.int (0 : Int32)) := D_b171_12 (Or.inl (tb hw 11 rfl)) (ty := .int) (by decide)
    have F_b171_12_fewest : Fld Z h b171_12 "com/example/ryazan/ryazan/numeric/SweepLimit" "fewest" "[I" .null := D_b171_12 (Or.inl (tb hw 23 rfl)) (ty := (.array .int)) (by decide)
    have F_b171_12_narrowest : Fld Z h b171_12 "com/example/ryazan/ryazan/numeric/SweepLimit" "narrowest" "D" (.double (0 : UInt64)) := D_b171_12 (Or.inl (tb hw 25 rfl)) (ty := .double) (by decide)
    have F_b171_12_progressed : Fld Z h b171_12 "com/example/ryazan/ryazan/numeric/SweepLimit" "progressed" "I" (.int (0 : Int32)) := D_b171_12 (Or.inl (tb hw 36 rfl)) (ty := .int) (by decide)
    refine g_dup X at_174 (pc' := 175) rfl rfl ?_
    refine g_special X (W := 1) (a := b171_12) [] [(.ref b171_12)] rfl (tb hw 4 rfl) (tb hw 5 rfl) (tb hw 3 rfl) (tb hw 6 rfl) (rInit l Z aa hw [] b171_12 _ n0 Z0 E_b171_12 F_b171_12_sweeps F_b171_12_fewest F_b171_12_narrowest F_b171_12_progressed g_b171_12) at_175 (pc' := 178) rfl (by decide) (by decide) (by decide) rfl rfl rfl (lenOf pd_0 rfl) (Nat.le_refl _) (by decide) (by decide) ?_
    intro v T L X q
    obtain ⟨rfl, Nq, Kq, E_b171_12', F_b171_12_sweeps', F_b171_12_fewest', F_b171_12_narrowest', F_b171_12_progressed'⟩ := q
    replace N := N.app Nq
    replace E_b14_2 := E_b14_2.keep Kq
    replace V_b14_2 := V_b14_2.keep Kq (ninS ne_b14_2_b171_12 nin0)
    replace E_b19_3 := E_b19_3.keep Kq
    replace V_b19_3 := V_b19_3.keep Kq (ninS ne_b19_3_b171_12 nin0)
    replace E_b34_4 := E_b34_4.keep Kq
    replace V_b34_4 := V_b34_4.keep Kq (ninS ne_b34_4_b171_12 nin0)
    replace E_b49_5 := E_b49_5.keep Kq
    replace V_b49_5 := V_b49_5.keep Kq (ninS ne_b49_5_b171_12 nin0)
    replace E_b68_8 := E_b68_8.keep Kq
    replace V_b68_8 := V_b68_8.keep Kq (ninS ne_b68_8_b171_12 nin0)
    replace E_b83_9 := E_b83_9.keep Kq
    replace V_b83_9 := V_b83_9.keep Kq (ninS ne_b83_9_b171_12 nin0)
    replace Z0 := Nat.le_trans Z0 Kq.1
    replace E_b171_12 := E_b171_12'
    replace F_b171_12_sweeps := F_b171_12_sweeps'
    replace F_b171_12_fewest := F_b171_12_fewest'
    replace F_b171_12_narrowest := F_b171_12_narrowest'
    replace F_b171_12_progressed := F_b171_12_progressed'
    show Go p e below _ (T.setTop (mkF m 178 #[.val (.int i0), .val (.int i1), .val (.int i2), .val (.int i3), .val (.int i4), .val (.int i5), .val (.int (0 : Int32)), .val (.ref b14_2), .val (.ref b19_3), .val (.ref b34_4), .val (.ref b49_5), .val (.ref b68_8), .val (.ref b83_9), .val (.ref b19_3), .val (.ref b34_4), .val (.ref b49_5), .val (.ref b68_8), .val (.ref b83_9), .unset, .unset, .unset, .unset, .unset, .unset, .unset, .unset, .unset] [(.ref b171_12)]))
    refine g_astore X at_178 (pc' := 180) (Ls' := #[.val (.int i0), .val (.int i1), .val (.int i2), .val (.int i3), .val (.int i4), .val (.int i5), .val (.int (0 : Int32)), .val (.ref b14_2), .val (.ref b19_3), .val (.ref b34_4), .val (.ref b49_5), .val (.ref b68_8), .val (.ref b83_9), .val (.ref b19_3), .val (.ref b34_4), .val (.ref b49_5), .val (.ref b68_8), .val (.ref b83_9), .val (.ref b171_12), .unset, .unset, .unset, .unset, .unset, .unset, .unset, .unset]) rfl rfl rfl ?_
    have hnr : Near (-1 : Int32) (0 : Int32) := ⟨by decide, by decide, by decide, by decide⟩
    refine g_aload X at_180 (pc' := 182) rfl rfl rfl ?_
    refine g_virtual X (W := 0) (a := b171_12) (C := "com/example/ryazan/ryazan/numeric/SweepLimit") [] [] E_b171_12 (tb hw 12 rfl) (tb hw 13 rfl) (tb hw 15 rfl) (tb hw 14 rfl) (tb hw 3 rfl) (tb hw 16 rfl) (rSw l Z aa hw [] b171_12 (-1 : Int32) _ E_b171_12 F_b171_12_sweeps) at_182 (pc' := 185) rfl (by decide) (by decide) (by decide) rfl rfl rfl (lenOf pd_1 rfl) (Nat.le_refl _) (by decide) (by decide) ?_
    intro v T L X q
    obtain ⟨rfl, X⟩ := pureX X q
    show Go p e below _ (T.setTop (mkF m 185 #[.val (.int i0), .val (.int i1), .val (.int i2), .val (.int i3), .val (.int i4), .val (.int i5), .val (.int (0 : Int32)), .val (.ref b14_2), .val (.ref b19_3), .val (.ref b34_4), .val (.ref b49_5), .val (.ref b68_8), .val (.ref b83_9), .val (.ref b19_3), .val (.ref b34_4), .val (.ref b49_5), .val (.ref b68_8), .val (.ref b83_9), .val (.ref b171_12), .unset, .unset, .unset, .unset, .unset, .unset, .unset, .unset] [(.int (-1 : Int32))]))
    refine g_iconst X (-1 : Int32) at_185 (pc' := 186) rfl rfl ?_
    refine g_icN X at_186 (teq (show (-1 : Int32) = (-1 : Int32) from (by decide))).2 (pc' := 189) rfl ?_
    refine g_iconst X (1 : Int32) at_189 (pc' := 190) rfl rfl ?_
    refine g_goto X at_190 (pc' := 194) (by decide) (by decide) ?_
    refine g_istore X at_194 (pc' := 196) (Ls' := #[.val (.int i0), .val (.int i1), .val (.int i2), .val (.int i3), .val (.int i4), .val (.int i5), .val (.int (0 : Int32)), .val (.ref b14_2), .val (.ref b19_3), .val (.ref b34_4), .val (.ref b49_5), .val (.ref b68_8), .val (.ref b83_9), .val (.ref b19_3), .val (.ref b34_4), .val (.ref b49_5), .val (.ref b68_8), .val (.ref b83_9), .val (.ref b171_12), .val (.int (1 : Int32)), .unset, .unset, .unset, .unset, .unset, .unset, .unset]) rfl rfl ?_
    refine g_aload X at_196 (pc' := 198) rfl rfl rfl ?_
    refine g_iloadN X at_198 (pc' := 199) rfl rfl ?_
    refine g_i2d X at_199 (pc' := 200) rfl ?_
    refine g_aload X at_200 (pc' := 202) rfl rfl rfl ?_
    refine g_virtual X (W := 0) (a := b171_12) (C := "com/example/ryazan/ryazan/numeric/SweepLimit") [(.double (FP.i2d i1)), (.ref b19_3)] [] E_b171_12 (tb hw 17 rfl) (tb hw 18 rfl) (tb hw 20 rfl) (tb hw 19 rfl) (tb hw 3 rfl) (tb hw 21 rfl) (rR2n l Z aa hw [] b171_12 (FP.i2d i1) b19_3 (-1 : Int32) (0 : UInt64) (0 : Int32) i4 i5 _ n0 Z0 E_b171_12 F_b171_12_sweeps F_b171_12_fewest F_b171_12_narrowest F_b171_12_progressed E_b19_3 V_b19_3 g_b171_12 ne_b19_3_b171_12 hnr) at_202 (pc' := 205) rfl (by decide) (by decide) (by decide) rfl rfl rfl (lenOf pd_2 rfl) (Nat.le_refl _) (by decide) (by decide) ?_
    intro v T L X q
    obtain ⟨pp13, ff13, dd13, zz13_0, zz13_1, rfl, Nq, Kq, g_ff13, hal, E2, F2s, F2p, F2n, F2f, E_ff13, V_ff13, hnr⟩ := q
    replace N := N.app Nq
    have ne_b14_2_ff13 : b14_2 ≠ ff13 := ne_alias hal ne_b14_2_b171_12 E_b14_2.lt
    have ne_b19_3_ff13 : b19_3 ≠ ff13 := ne_alias hal ne_b19_3_b171_12 E_b19_3.lt
    have ne_b34_4_ff13 : b34_4 ≠ ff13 := ne_alias hal ne_b34_4_b171_12 E_b34_4.lt
    have ne_b49_5_ff13 : b49_5 ≠ ff13 := ne_alias hal ne_b49_5_b171_12 E_b49_5.lt
    have ne_b68_8_ff13 : b68_8 ≠ ff13 := ne_alias hal ne_b68_8_b171_12 E_b68_8.lt
    have ne_b83_9_ff13 : b83_9 ≠ ff13 := ne_alias hal ne_b83_9_b171_12 E_b83_9.lt
    have ne_b171_12_ff13 : b171_12 ≠ ff13 := fun q => ne_exa E2 E_ff13 (by decide) q
    replace E_b14_2 := E_b14_2.keep Kq
    replace V_b14_2 := V_b14_2.keep Kq (ninS ne_b14_2_b171_12 nin0)
    replace E_b19_3 := E_b19_3.keep Kq
    replace V_b19_3 := V_b19_3.keep Kq (ninS ne_b19_3_b171_12 nin0)
    replace E_b34_4 := E_b34_4.keep Kq
    replace V_b34_4 := V_b34_4.keep Kq (ninS ne_b34_4_b171_12 nin0)
    replace E_b49_5 := E_b49_5.keep Kq
    replace V_b49_5 := V_b49_5.keep Kq (ninS ne_b49_5_b171_12 nin0)
    replace E_b68_8 := E_b68_8.keep Kq
    replace V_b68_8 := V_b68_8.keep Kq (ninS ne_b68_8_b171_12 nin0)
    replace E_b83_9 := E_b83_9.keep Kq
    replace V_b83_9 := V_b83_9.keep Kq (ninS ne_b83_9_b171_12 nin0)
    replace Z0 := Nat.le_trans Z0 Kq.1
    replace E_b171_12 := E2; replace F_b171_12_sweeps := F2s; replace F_b171_12_progressed := F2p; replace F_b171_12_narrowest := F2n; replace F_b171_12_fewest := F2f
    have hnr := near_up hnr (by decide)
    replace F_b171_12_sweeps : Fld Z T.heap b171_12 "com/example/ryazan/ryazan/numeric/SweepLimit" "sweeps" "I" (.int (0 : Int32)) := F_b171_12_sweeps
    replace hnr : Near (0 : Int32) pp13 := hnr
    show Go p e below _ (T.setTop (mkF m 205 #[.val (.int i0), .val (.int i1), .val (.int i2), .val (.int i3), .val (.int i4), .val (.int i5), .val (.int (0 : Int32)), .val (.ref b14_2), .val (.ref b19_3), .val (.ref b34_4), .val (.ref b49_5), .val (.ref b68_8), .val (.ref b83_9), .val (.ref b19_3), .val (.ref b34_4), .val (.ref b49_5), .val (.ref b68_8), .val (.ref b83_9), .val (.ref b171_12), .val (.int (1 : Int32)), .unset, .unset, .unset, .unset, .unset, .unset, .unset] [(.int (0 : Int32))]))
    refine g_istore X at_205 (pc' := 207) (Ls' := #[.val (.int i0), .val (.int i1), .val (.int i2), .val (.int i3), .val (.int i4), .val (.int i5), .val (.int (0 : Int32)), .val (.ref b14_2), .val (.ref b19_3), .val (.ref b34_4), .val (.ref b49_5), .val (.ref b68_8), .val (.ref b83_9), .val (.ref b19_3), .val (.ref b34_4), .val (.ref b49_5), .val (.ref b68_8), .val (.ref b83_9), .val (.ref b171_12), .val (.int (1 : Int32)), .val (.int (0 : Int32)), .unset, .unset, .unset, .unset, .unset, .unset]) rfl rfl ?_
    refine g_aload X at_207 (pc' := 209) rfl rfl rfl ?_
    refine g_iloadN X at_209 (pc' := 210) rfl rfl ?_
    refine g_i2d X at_210 (pc' := 211) rfl ?_
    refine g_aload X at_211 (pc' := 213) rfl rfl rfl ?_
    refine g_virtual X (W := 0) (a := b171_12) (C := "com/example/ryazan/ryazan/numeric/SweepLimit") [(.double (FP.i2d i2)), (.ref b34_4)] [] E_b171_12 (tb hw 17 rfl) (tb hw 18 rfl) (tb hw 20 rfl) (tb hw 19 rfl) (tb hw 3 rfl) (tb hw 21 rfl) (rR2 l Z aa hw [] b171_12 (FP.i2d i2) b34_4 (0 : Int32) ff13 dd13 pp13 i5 i4 zz13_0 zz13_1 _ n0 Z0 E_b171_12 F_b171_12_sweeps F_b171_12_fewest F_b171_12_narrowest F_b171_12_progressed E_b34_4 V_b34_4 E_ff13 V_ff13 g_b171_12 g_ff13 ne_b171_12_ff13 ne_b34_4_b171_12 ne_b34_4_ff13 hnr) at_213 (pc' := 216) rfl (by decide) (by decide) (by decide) rfl rfl rfl (lenOf pd_2 rfl) (Nat.le_refl _) (by decide) (by decide) ?_
    intro v T L X q
    obtain ⟨pp14, ff14, dd14, zz14_0, zz14_1, rfl, Nq, Kq, g_ff14, hal, E2, F2s, F2p, F2n, F2f, E_ff14, V_ff14, hnr⟩ := q
    replace N := N.app Nq
    have ne_b14_2_ff14 : b14_2 ≠ ff14 := ne_alias hal ne_b14_2_ff13 E_b14_2.lt
    have ne_b19_3_ff14 : b19_3 ≠ ff14 := ne_alias hal ne_b19_3_ff13 E_b19_3.lt
    have ne_b34_4_ff14 : b34_4 ≠ ff14 := ne_alias hal ne_b34_4_ff13 E_b34_4.lt
    have ne_b49_5_ff14 : b49_5 ≠ ff14 := ne_alias hal ne_b49_5_ff13 E_b49_5.lt
    have ne_b68_8_ff14 : b68_8 ≠ ff14 := ne_alias hal ne_b68_8_ff13 E_b68_8.lt
    have ne_b83_9_ff14 : b83_9 ≠ ff14 := ne_alias hal ne_b83_9_ff13 E_b83_9.lt
    have ne_b171_12_ff14 : b171_12 ≠ ff14 := fun q => ne_exa E2 E_ff14 (by decide) q
    replace E_b14_2 := E_b14_2.keep Kq
    replace V_b14_2 := V_b14_2.keep Kq (ninS ne_b14_2_b171_12 (ninS ne_b14_2_ff13 nin0))
    replace E_b19_3 := E_b19_3.keep Kq
    replace V_b19_3 := V_b19_3.keep Kq (ninS ne_b19_3_b171_12 (ninS ne_b19_3_ff13 nin0))
    replace E_b34_4 := E_b34_4.keep Kq
    replace V_b34_4 := V_b34_4.keep Kq (ninS ne_b34_4_b171_12 (ninS ne_b34_4_ff13 nin0))
    replace E_b49_5 := E_b49_5.keep Kq
    replace V_b49_5 := V_b49_5.keep Kq (ninS ne_b49_5_b171_12 (ninS ne_b49_5_ff13 nin0))
    replace E_b68_8 := E_b68_8.keep Kq
    replace V_b68_8 := V_b68_8.keep Kq (ninS ne_b68_8_b171_12 (ninS ne_b68_8_ff13 nin0))
    replace E_b83_9 := E_b83_9.keep Kq
    replace V_b83_9 := V_b83_9.keep Kq (ninS ne_b83_9_b171_12 (ninS ne_b83_9_ff13 nin0))
    replace Z0 := Nat.le_trans Z0 Kq.1
    replace E_b171_12 := E2; replace F_b171_12_sweeps := F2s; replace F_b171_12_progressed := F2p; replace F_b171_12_narrowest := F2n; replace F_b171_12_fewest := F2f
    have hnr := near_up hnr (by decide)
    replace F_b171_12_sweeps : Fld Z T.heap b171_12 "com/example/ryazan/ryazan/numeric/SweepLimit" "sweeps" "I" (.int (1 : Int32)) := F_b171_12_sweeps
    replace hnr : Near (1 : Int32) pp14 := hnr
    show Go p e below _ (T.setTop (mkF m 216 #[.val (.int i0), .val (.int i1), .val (.int i2), .val (.int i3), .val (.int i4), .val (.int i5), .val (.int (0 : Int32)), .val (.ref b14_2), .val (.ref b19_3), .val (.ref b34_4), .val (.ref b49_5), .val (.ref b68_8), .val (.ref b83_9), .val (.ref b19_3), .val (.ref b34_4), .val (.ref b49_5), .val (.ref b68_8), .val (.ref b83_9), .val (.ref b171_12), .val (.int (1 : Int32)), .val (.int (0 : Int32)), .unset, .unset, .unset, .unset, .unset, .unset] [(.int (0 : Int32))]))
    refine g_istore X at_216 (pc' := 218) (Ls' := #[.val (.int i0), .val (.int i1), .val (.int i2), .val (.int i3), .val (.int i4), .val (.int i5), .val (.int (0 : Int32)), .val (.ref b14_2), .val (.ref b19_3), .val (.ref b34_4), .val (.ref b49_5), .val (.ref b68_8), .val (.ref b83_9), .val (.ref b19_3), .val (.ref b34_4), .val (.ref b49_5), .val (.ref b68_8), .val (.ref b83_9), .val (.ref b171_12), .val (.int (1 : Int32)), .val (.int (0 : Int32)), .val (.int (0 : Int32)), .unset, .unset, .unset, .unset, .unset]) rfl rfl ?_
    refine g_aload X at_218 (pc' := 220) rfl rfl rfl ?_
    refine g_virtual X (W := 0) (a := b171_12) (C := "com/example/ryazan/ryazan/numeric/SweepLimit") [] [] E_b171_12 (tb hw 12 rfl) (tb hw 13 rfl) (tb hw 15 rfl) (tb hw 14 rfl) (tb hw 3 rfl) (tb hw 16 rfl) (rSw l Z aa hw [] b171_12 (1 : Int32) _ E_b171_12 F_b171_12_sweeps) at_220 (pc' := 223) rfl (by decide) (by decide) (by decide) rfl rfl rfl (lenOf pd_1 rfl) (Nat.le_refl _) (by decide) (by decide) ?_
    intro v T L X q
    obtain ⟨rfl, X⟩ := pureX X q
    show Go p e below _ (T.setTop (mkF m 223 #[.val (.int i0), .val (.int i1), .val (.int i2), .val (.int i3), .val (.int i4), .val (.int i5), .val (.int (0 : Int32)), .val (.ref b14_2), .val (.ref b19_3), .val (.ref b34_4), .val (.ref b49_5), .val (.ref b68_8), .val (.ref b83_9), .val (.ref b19_3), .val (.ref b34_4), .val (.ref b49_5), .val (.ref b68_8), .val (.ref b83_9), .val (.ref b171_12), .val (.int (1 : Int32)), .val (.int (0 : Int32)), .val (.int (0 : Int32)), .unset, .unset, .unset, .unset, .unset] [(.int (1 : Int32))]))
    refine g_iconst X (1 : Int32) at_223 (pc' := 224) rfl rfl ?_
    refine g_icN X at_224 (teq (show (1 : Int32) = (1 : Int32) from (by decide))).2 (pc' := 227) rfl ?_
    refine g_iconst X (1 : Int32) at_227 (pc' := 228) rfl rfl ?_
    refine g_goto X at_228 (pc' := 232) (by decide) (by decide) ?_
    refine g_istore X at_232 (pc' := 234) (Ls' := #[.val (.int i0), .val (.int i1), .val (.int i2), .val (.int i3), .val (.int i4), .val (.int i5), .val (.int (0 : Int32)), .val (.ref b14_2), .val (.ref b19_3), .val (.ref b34_4), .val (.ref b49_5), .val (.ref b68_8), .val (.ref b83_9), .val (.ref b19_3), .val (.ref b34_4), .val (.ref b49_5), .val (.ref b68_8), .val (.ref b83_9), .val (.ref b171_12), .val (.int (1 : Int32)), .val (.int (0 : Int32)), .val (.int (0 : Int32)), .val (.int (1 : Int32)), .unset, .unset, .unset, .unset]) rfl rfl ?_
    refine g_aload X at_234 (pc' := 236) rfl rfl rfl ?_
    refine g_iloadN X at_236 (pc' := 237) rfl rfl ?_
    refine g_i2d X at_237 (pc' := 238) rfl ?_
    refine g_aload X at_238 (pc' := 240) rfl rfl rfl ?_
    refine g_virtual X (W := 0) (a := b171_12) (C := "com/example/ryazan/ryazan/numeric/SweepLimit") [(.double (FP.i2d i1)), (.ref b49_5)] [] E_b171_12 (tb hw 17 rfl) (tb hw 18 rfl) (tb hw 20 rfl) (tb hw 19 rfl) (tb hw 3 rfl) (tb hw 21 rfl) (rR2 l Z aa hw [] b171_12 (FP.i2d i1) b49_5 (1 : Int32) ff14 dd14 pp14 v57_6 v64_7 zz14_0 zz14_1 _ n0 Z0 E_b171_12 F_b171_12_sweeps F_b171_12_fewest F_b171_12_narrowest F_b171_12_progressed E_b49_5 V_b49_5 E_ff14 V_ff14 g_b171_12 g_ff14 ne_b171_12_ff14 ne_b49_5_b171_12 ne_b49_5_ff14 hnr) at_240 (pc' := 243) rfl (by decide) (by decide) (by decide) rfl rfl rfl (lenOf pd_2 rfl) (Nat.le_refl _) (by decide) (by decide) ?_
    intro v T L X q
    obtain ⟨pp15, ff15, dd15, zz15_0, zz15_1, rfl, Nq, Kq, g_ff15, hal, E2, F2s, F2p, F2n, F2f, E_ff15, V_ff15, hnr⟩ := q
    replace N := N.app Nq
    have ne_b14_2_ff15 : b14_2 ≠ ff15 := ne_alias hal ne_b14_2_ff14 E_b14_2.lt
    have ne_b19_3_ff15 : b19_3 ≠ ff15 := ne_alias hal ne_b19_3_ff14 E_b19_3.lt
    have ne_b34_4_ff15 : b34_4 ≠ ff15 := ne_alias hal ne_b34_4_ff14 E_b34_4.lt
    have ne_b49_5_ff15 : b49_5 ≠ ff15 := ne_alias hal ne_b49_5_ff14 E_b49_5.lt
    have ne_b68_8_ff15 : b68_8 ≠ ff15 := ne_alias hal ne_b68_8_ff14 E_b68_8.lt
    have ne_b83_9_ff15 : b83_9 ≠ ff15 := ne_alias hal ne_b83_9_ff14 E_b83_9.lt
    have ne_b171_12_ff15 : b171_12 ≠ ff15 := fun q => ne_exa E2 E_ff15 (by decide) q
    replace E_b14_2 := E_b14_2.keep Kq
    replace V_b14_2 := V_b14_2.keep Kq (ninS ne_b14_2_b171_12 (ninS ne_b14_2_ff14 nin0))
    replace E_b19_3 := E_b19_3.keep Kq
    replace V_b19_3 := V_b19_3.keep Kq (ninS ne_b19_3_b171_12 (ninS ne_b19_3_ff14 nin0))
    replace E_b34_4 := E_b34_4.keep Kq
    replace V_b34_4 := V_b34_4.keep Kq (ninS ne_b34_4_b171_12 (ninS ne_b34_4_ff14 nin0))
    replace E_b49_5 := E_b49_5.keep Kq
    replace V_b49_5 := V_b49_5.keep Kq (ninS ne_b49_5_b171_12 (ninS ne_b49_5_ff14 nin0))
    replace E_b68_8 := E_b68_8.keep Kq
    replace V_b68_8 := V_b68_8.keep Kq (ninS ne_b68_8_b171_12 (ninS ne_b68_8_ff14 nin0))
    replace E_b83_9 := E_b83_9.keep Kq
    replace V_b83_9 := V_b83_9.keep Kq (ninS ne_b83_9_b171_12 (ninS ne_b83_9_ff14 nin0))
    replace Z0 := Nat.le_trans Z0 Kq.1
    replace E_b171_12 := E2; replace F_b171_12_sweeps := F2s; replace F_b171_12_progressed := F2p; replace F_b171_12_narrowest := F2n; replace F_b171_12_fewest := F2f
    have hnr := near_up hnr (by decide)
    replace F_b171_12_sweeps : Fld Z T.heap b171_12 "com/example/ryazan/ryazan/numeric/SweepLimit" "sweeps" "I" (.int (2 : Int32)) := F_b171_12_sweeps
    replace hnr : Near (2 : Int32) pp15 := hnr
    show Go p e below _ (T.setTop (mkF m 243 #[.val (.int i0), .val (.int i1), .val (.int i2), .val (.int i3), .val (.int i4), .val (.int i5), .val (.int (0 : Int32)), .val (.ref b14_2), .val (.ref b19_3), .val (.ref b34_4), .val (.ref b49_5), .val (.ref b68_8), .val (.ref b83_9), .val (.ref b19_3), .val (.ref b34_4), .val (.ref b49_5), .val (.ref b68_8), .val (.ref b83_9), .val (.ref b171_12), .val (.int (1 : Int32)), .val (.int (0 : Int32)), .val (.int (0 : Int32)), .val (.int (1 : Int32)), .unset, .unset, .unset, .unset] [(.int (0 : Int32))]))
    refine g_istore X at_243 (pc' := 245) (Ls' := #[.val (.int i0), .val (.int i1), .val (.int i2), .val (.int i3), .val (.int i4), .val (.int i5), .val (.int (0 : Int32)), .val (.ref b14_2), .val (.ref b19_3), .val (.ref b34_4), .val (.ref b49_5), .val (.ref b68_8), .val (.ref b83_9), .val (.ref b19_3), .val (.ref b34_4), .val (.ref b49_5), .val (.ref b68_8), .val (.ref b83_9), .val (.ref b171_12), .val (.int (1 : Int32)), .val (.int (0 : Int32)), .val (.int (0 : Int32)), .val (.int (1 : Int32)), .val (.int (0 : Int32)), .unset, .unset, .unset]) rfl rfl ?_
    refine g_aload X at_245 (pc' := 247) rfl rfl rfl ?_
    refine g_iloadN X at_247 (pc' := 248) rfl rfl ?_
    refine g_i2d X at_248 (pc' := 249) rfl ?_
    refine g_aload X at_249 (pc' := 251) rfl rfl rfl ?_
    refine g_virtual X (W := 0) (a := b171_12) (C := "com/example/ryazan/ryazan/numeric/SweepLimit") [(.double (FP.i2d i3)), (.ref b68_8)] [] E_b171_12 (tb hw 17 rfl) (tb hw 18 rfl) (tb hw 20 rfl) (tb hw 19 rfl) (tb hw 3 rfl) (tb hw 21 rfl) (rR2 l Z aa hw [] b171_12 (FP.i2d i3) b68_8 (2 : Int32) ff15 dd15 pp15 i4 i4 zz15_0 zz15_1 _ n0 Z0 E_b171_12 F_b171_12_sweeps F_b171_12_fewest F_b171_12_narrowest F_b171_12_progressed E_b68_8 V_b68_8 E_ff15 V_ff15 g_b171_12 g_ff15 ne_b171_12_ff15 ne_b68_8_b171_12 ne_b68_8_ff15 hnr) at_251 (pc' := 254) rfl (by decide) (by decide) (by decide) rfl rfl rfl (lenOf pd_2 rfl) (Nat.le_refl _) (by decide) (by decide) ?_
    intro v T L X q
    obtain ⟨pp16, ff16, dd16, zz16_0, zz16_1, rfl, Nq, Kq, g_ff16, hal, E2, F2s, F2p, F2n, F2f, E_ff16, V_ff16, hnr⟩ := q
    replace N := N.app Nq
    have ne_b14_2_ff16 : b14_2 ≠ ff16 := ne_alias hal ne_b14_2_ff15 E_b14_2.lt
    have ne_b19_3_ff16 : b19_3 ≠ ff16 := ne_alias hal ne_b19_3_ff15 E_b19_3.lt
    have ne_b34_4_ff16 : b34_4 ≠ ff16 := ne_alias hal ne_b34_4_ff15 E_b34_4.lt
    have ne_b49_5_ff16 : b49_5 ≠ ff16 := ne_alias hal ne_b49_5_ff15 E_b49_5.lt
    have ne_b68_8_ff16 : b68_8 ≠ ff16 := ne_alias hal ne_b68_8_ff15 E_b68_8.lt
    have ne_b83_9_ff16 : b83_9 ≠ ff16 := ne_alias hal ne_b83_9_ff15 E_b83_9.lt
    have ne_b171_12_ff16 : b171_12 ≠ ff16 := fun q => ne_exa E2 E_ff16 (by decide) q
    replace E_b14_2 := E_b14_2.keep Kq
    replace V_b14_2 := V_b14_2.keep Kq (ninS ne_b14_2_b171_12 (ninS ne_b14_2_ff15 nin0))
    replace E_b19_3 := E_b19_3.keep Kq
    replace V_b19_3 := V_b19_3.keep Kq (ninS ne_b19_3_b171_12 (ninS ne_b19_3_ff15 nin0))
    replace E_b34_4 := E_b34_4.keep Kq
    replace V_b34_4 := V_b34_4.keep Kq (ninS ne_b34_4_b171_12 (ninS ne_b34_4_ff15 nin0))
    replace E_b49_5 := E_b49_5.keep Kq
    replace V_b49_5 := V_b49_5.keep Kq (ninS ne_b49_5_b171_12 (ninS ne_b49_5_ff15 nin0))
    replace E_b68_8 := E_b68_8.keep Kq
    replace V_b68_8 := V_b68_8.keep Kq (ninS ne_b68_8_b171_12 (ninS ne_b68_8_ff15 nin0))
    replace E_b83_9 := E_b83_9.keep Kq
    replace V_b83_9 := V_b83_9.keep Kq (ninS ne_b83_9_b171_12 (ninS ne_b83_9_ff15 nin0))
    replace Z0 := Nat.le_trans Z0 Kq.1
    replace E_b171_12 := E2; replace F_b171_12_sweeps := F2s; replace F_b171_12_progressed := F2p; replace F_b171_12_narrowest := F2n; replace F_b171_12_fewest := F2f
    have hnr := near_up hnr (by decide)
    replace F_b171_12_sweeps : Fld Z T.heap b171_12 "com/example/ryazan/ryazan/numeric/SweepLimit" "sweeps" "I" (.int (3 : Int32)) := F_b171_12_sweeps
    replace hnr : Near (3 : Int32) pp16 := hnr
    show Go p e below _ (T.setTop (mkF m 254 #[.val (.int i0), .val (.int i1), .val (.int i2), .val (.int i3), .val (.int i4), .val (.int i5), .val (.int (0 : Int32)), .val (.ref b14_2), .val (.ref b19_3), .val (.ref b34_4), .val (.ref b49_5), .val (.ref b68_8), .val (.ref b83_9), .val (.ref b19_3), .val (.ref b34_4), .val (.ref b49_5), .val (.ref b68_8), .val (.ref b83_9), .val (.ref b171_12), .val (.int (1 : Int32)), .val (.int (0 : Int32)), .val (.int (0 : Int32)), .val (.int (1 : Int32)), .val (.int (0 : Int32)), .unset, .unset, .unset] [(.int (0 : Int32))]))
    refine g_istore X at_254 (pc' := 256) (Ls' := #[.val (.int i0), .val (.int i1), .val (.int i2), .val (.int i3), .val (.int i4), .val (.int i5), .val (.int (0 : Int32)), .val (.ref b14_2), .val (.ref b19_3), .val (.ref b34_4), .val (.ref b49_5), .val (.ref b68_8), .val (.ref b83_9), .val (.ref b19_3), .val (.ref b34_4), .val (.ref b49_5), .val (.ref b68_8), .val (.ref b83_9), .val (.ref b171_12), .val (.int (1 : Int32)), .val (.int (0 : Int32)), .val (.int (0 : Int32)), .val (.int (1 : Int32)), .val (.int (0 : Int32)), .val (.int (0 : Int32)), .unset, .unset]) rfl rfl ?_
    refine g_aload X at_256 (pc' := 258) rfl rfl rfl ?_
    refine g_iloadN X at_258 (pc' := 259) rfl rfl ?_
    refine g_i2d X at_259 (pc' := 260) rfl ?_
    refine g_aload X at_260 (pc' := 262) rfl rfl rfl ?_
    refine g_virtual X (W := 0) (a := b171_12) (C := "com/example/ryazan/ryazan/numeric/SweepLimit") [(.double (FP.i2d i2)), (.ref b83_9)] [] E_b171_12 (tb hw 17 rfl) (tb hw 18 rfl) (tb hw 20 rfl) (tb hw 19 rfl) (tb hw 3 rfl) (tb hw 21 rfl) (rR2 l Z aa hw [] b171_12 (FP.i2d i2) b83_9 (3 : Int32) ff16 dd16 pp16 v91_10 v98_11 zz16_0 zz16_1 _ n0 Z0 E_b171_12 F_b171_12_sweeps F_b171_12_fewest F_b171_12_narrowest F_b171_12_progressed E_b83_9 V_b83_9 E_ff16 V_ff16 g_b171_12 g_ff16 ne_b171_12_ff16 ne_b83_9_b171_12 ne_b83_9_ff16 hnr) at_262 (pc' := 265) rfl (by decide) (by decide) (by decide) rfl rfl rfl (lenOf pd_2 rfl) (Nat.le_refl _) (by decide) (by decide) ?_
    intro v T L X q
    obtain ⟨pp17, ff17, dd17, zz17_0, zz17_1, rfl, Nq, Kq, g_ff17, hal, E2, F2s, F2p, F2n, F2f, E_ff17, V_ff17, hnr⟩ := q
    replace N := N.app Nq
    have ne_b14_2_ff17 : b14_2 ≠ ff17 := ne_alias hal ne_b14_2_ff16 E_b14_2.lt
    have ne_b19_3_ff17 : b19_3 ≠ ff17 := ne_alias hal ne_b19_3_ff16 E_b19_3.lt
    have ne_b34_4_ff17 : b34_4 ≠ ff17 := ne_alias hal ne_b34_4_ff16 E_b34_4.lt
    have ne_b49_5_ff17 : b49_5 ≠ ff17 := ne_alias hal ne_b49_5_ff16 E_b49_5.lt
    have ne_b68_8_ff17 : b68_8 ≠ ff17 := ne_alias hal ne_b68_8_ff16 E_b68_8.lt
    have ne_b83_9_ff17 : b83_9 ≠ ff17 := ne_alias hal ne_b83_9_ff16 E_b83_9.lt
    have ne_b171_12_ff17 : b171_12 ≠ ff17 := fun q => ne_exa E2 E_ff17 (by decide) q
    replace E_b14_2 := E_b14_2.keep Kq
    replace V_b14_2 := V_b14_2.keep Kq (ninS ne_b14_2_b171_12 (ninS ne_b14_2_ff16 nin0))
    replace E_b19_3 := E_b19_3.keep Kq
    replace V_b19_3 := V_b19_3.keep Kq (ninS ne_b19_3_b171_12 (ninS ne_b19_3_ff16 nin0))
    replace E_b34_4 := E_b34_4.keep Kq
    replace V_b34_4 := V_b34_4.keep Kq (ninS ne_b34_4_b171_12 (ninS ne_b34_4_ff16 nin0))
    replace E_b49_5 := E_b49_5.keep Kq
    replace V_b49_5 := V_b49_5.keep Kq (ninS ne_b49_5_b171_12 (ninS ne_b49_5_ff16 nin0))
    replace E_b68_8 := E_b68_8.keep Kq
    replace V_b68_8 := V_b68_8.keep Kq (ninS ne_b68_8_b171_12 (ninS ne_b68_8_ff16 nin0))
    replace E_b83_9 := E_b83_9.keep Kq
    replace V_b83_9 := V_b83_9.keep Kq (ninS ne_b83_9_b171_12 (ninS ne_b83_9_ff16 nin0))
    replace Z0 := Nat.le_trans Z0 Kq.1
    replace E_b171_12 := E2; replace F_b171_12_sweeps := F2s; replace F_b171_12_progressed := F2p; replace F_b171_12_narrowest := F2n; replace F_b171_12_fewest := F2f
    have hnr := near_up hnr (by decide)
    replace F_b171_12_sweeps : Fld Z T.heap b171_12 "com/example/ryazan/ryazan/numeric/SweepLimit" "sweeps" "I" (.int (4 : Int32)) := F_b171_12_sweeps
    replace hnr : Near (4 : Int32) pp17 := hnr
    show Go p e below _ (T.setTop (mkF m 265 #[.val (.int i0), .val (.int i1), .val (.int i2), .val (.int i3), .val (.int i4), .val (.int i5), .val (.int (0 : Int32)), .val (.ref b14_2), .val (.ref b19_3), .val (.ref b34_4), .val (.ref b49_5), .val (.ref b68_8), .val (.ref b83_9), .val (.ref b19_3), .val (.ref b34_4), .val (.ref b49_5), .val (.ref b68_8), .val (.ref b83_9), .val (.ref b171_12), .val (.int (1 : Int32)), .val (.int (0 : Int32)), .val (.int (0 : Int32)), .val (.int (1 : Int32)), .val (.int (0 : Int32)), .val (.int (0 : Int32)), .unset, .unset] [(.int (0 : Int32))]))
    refine g_istore X at_265 (pc' := 267) (Ls' := #[.val (.int i0), .val (.int i1), .val (.int i2), .val (.int i3), .val (.int i4), .val (.int i5), .val (.int (0 : Int32)), .val (.ref b14_2), .val (.ref b19_3), .val (.ref b34_4), .val (.ref b49_5), .val (.ref b68_8), .val (.ref b83_9), .val (.ref b19_3), .val (.ref b34_4), .val (.ref b49_5), .val (.ref b68_8), .val (.ref b83_9), .val (.ref b171_12), .val (.int (1 : Int32)), .val (.int (0 : Int32)), .val (.int (0 : Int32)), .val (.int (1 : Int32)), .val (.int (0 : Int32)), .val (.int (0 : Int32)), .val (.int (0 : Int32)), .unset]) rfl rfl ?_
    refine g_aload X at_267 (pc' := 269) rfl rfl rfl ?_
    refine g_virtual X (W := 0) (a := b171_12) (C := "com/example/ryazan/ryazan/numeric/SweepLimit") [] [] E_b171_12 (tb hw 12 rfl) (tb hw 13 rfl) (tb hw 15 rfl) (tb hw 14 rfl) (tb hw 3 rfl) (tb hw 16 rfl) (rSw l Z aa hw [] b171_12 (4 : Int32) _ E_b171_12 F_b171_12_sweeps) at_269 (pc' := 272) rfl (by decide) (by decide) (by decide) rfl rfl rfl (lenOf pd_1 rfl) (Nat.le_refl _) (by decide) (by decide) ?_
    intro v T L X q
    obtain ⟨rfl, X⟩ := pureX X q
    show Go p e below _ (T.setTop (mkF m 272 #[.val (.int i0), .val (.int i1), .val (.int i2), .val (.int i3), .val (.int i4), .val (.int i5), .val (.int (0 : Int32)), .val (.ref b14_2), .val (.ref b19_3), .val (.ref b34_4), .val (.ref b49_5), .val (.ref b68_8), .val (.ref b83_9), .val (.ref b19_3), .val (.ref b34_4), .val (.ref b49_5), .val (.ref b68_8), .val (.ref b83_9), .val (.ref b171_12), .val (.int (1 : Int32)), .val (.int (0 : Int32)), .val (.int (0 : Int32)), .val (.int (1 : Int32)), .val (.int (0 : Int32)), .val (.int (0 : Int32)), .val (.int (0 : Int32)), .unset] [(.int (4 : Int32))]))
    refine g_iconst X (4 : Int32) at_272 (pc' := 273) rfl rfl ?_
    refine g_icN X at_273 (teq (show (4 : Int32) = (4 : Int32) from (by decide))).2 (pc' := 276) rfl ?_
    refine g_iconst X (1 : Int32) at_276 (pc' := 277) rfl rfl ?_
    refine g_goto X at_277 (pc' := 281) (by decide) (by decide) ?_
    refine g_istore X at_281 (pc' := 283) (Ls' := #[.val (.int i0), .val (.int i1), .val (.int i2), .val (.int i3), .val (.int i4), .val (.int i5), .val (.int (0 : Int32)), .val (.ref b14_2), .val (.ref b19_3), .val (.ref b34_4), .val (.ref b49_5), .val (.ref b68_8), .val (.ref b83_9), .val (.ref b19_3), .val (.ref b34_4), .val (.ref b49_5), .val (.ref b68_8), .val (.ref b83_9), .val (.ref b171_12), .val (.int (1 : Int32)), .val (.int (0 : Int32)), .val (.int (0 : Int32)), .val (.int (1 : Int32)), .val (.int (0 : Int32)), .val (.int (0 : Int32)), .val (.int (0 : Int32)), .val (.int (1 : Int32))]) rfl rfl ?_
    refine g_iload X at_283 (pc' := 285) rfl rfl ?_
    refine g_ifN X at_285 ((if0 _ _).trans (feq (show ¬ ((1 : Int32) = (0 : Int32)) from (by decide))).1) (pc' := 288) rfl ?_
    refine g_iload X at_288 (pc' := 290) rfl rfl ?_
    refine g_ifN X at_290 ((if0 _ _).trans (feq (show ¬ ((1 : Int32) = (0 : Int32)) from (by decide))).1) (pc' := 293) rfl ?_
    refine g_iload X at_293 (pc' := 295) rfl rfl ?_
    refine g_ifN X at_295 ((if0 _ _).trans (feq (show ¬ ((1 : Int32) = (0 : Int32)) from (by decide))).1) (pc' := 298) rfl ?_
    refine g_iload X at_298 (pc' := 300) rfl rfl ?_
    refine g_ifN X at_300 ((if0 _ _).trans (teq (show (0 : Int32) = (0 : Int32) from (by decide))).2) (pc' := 303) rfl ?_
    refine g_iload X at_303 (pc' := 305) rfl rfl ?_
    refine g_ifN X at_305 ((if0 _ _).trans (teq (show (0 : Int32) = (0 : Int32) from (by decide))).2) (pc' := 308) rfl ?_
    refine g_iload X at_308 (pc' := 310) rfl rfl ?_
    refine g_ifN X at_310 ((if0 _ _).trans (teq (show (0 : Int32) = (0 : Int32) from (by decide))).2) (pc' := 313) rfl ?_
    refine g_iload X at_313 (pc' := 315) rfl rfl ?_
    refine g_ifN X at_315 ((if0 _ _).trans (teq (show (0 : Int32) = (0 : Int32) from (by decide))).2) (pc' := 318) rfl ?_
    refine g_iload X at_318 (pc' := 320) rfl rfl ?_
    refine g_ifN X at_320 ((if0 _ _).trans (teq (show (0 : Int32) = (0 : Int32) from (by decide))).2) (pc' := 323) rfl ?_
    refine g_iconst X (1 : Int32) at_323 (pc' := 324) rfl rfl ?_
    refine g_goto X at_324 (pc' := 328) (by decide) (by decide) ?_
    refine g_ireturnN X (t := .boolean) (by simp) at_328 hret hlk (by decide) (by decide) ?_
    exact ⟨rfl, N⟩
  · skip
    refine g_ifN X at_3 ((if0 _ _).trans (feq hc3_1).1) (pc' := 6) rfl ?_
    refine g_iconst X (1 : Int32) at_6 (pc' := 7) rfl rfl ?_
    refine g_goto X at_7 (pc' := 11) (by decide) (by decide) ?_
    refine g_istore X at_11 (pc' := 13) (Ls' := #[.val (.int i0), .val (.int i1), .val (.int i2), .val (.int i3), .val (.int i4), .val (.int i5), .val (.int (1 : Int32)), .unset, .unset, .unset, .unset, .unset, .unset, .unset, .unset, .unset, .unset, .unset, .unset, .unset, .unset, .unset, .unset, .unset, .unset, .unset, .unset]) rfl rfl ?_
    refine g_iconst X (0 : Int32) at_13 (pc' := 14) rfl rfl ?_
    refine g_newarray X 0 (tb hw 0 rfl) at_14 (pc' := 16) rfl (by decide) (by decide) 0 (by decide) (by decide) (by decide) (by decide) (vs := []) rfl (ad := "[I") (by decide) ?_
    intro T h b14_18 s_b14_18 X Ex E_b14_18 V_b14_18
    have g_b14_18 : n0 ≤ b14_18 := by rw [s_b14_18]; exact Z0
    replace Z0 := Nat.le_trans Z0 Ex.1
    refine g_astore X at_16 (pc' := 18) (Ls' := #[.val (.int i0), .val (.int i1), .val (.int i2), .val (.int i3), .val (.int i4), .val (.int i5), .val (.int (1 : Int32)), .val (.ref b14_18), .unset, .unset, .unset, .unset, .unset, .unset, .unset, .unset, .unset, .unset, .unset, .unset, .unset, .unset, .unset, .unset, .unset, .unset, .unset]) rfl rfl rfl ?_
    refine g_iconst X (2 : Int32) at_18 (pc' := 19) rfl rfl ?_
    refine g_newarray X 2 (tb hw 0 rfl) at_19 (pc' := 21) rfl (by decide) (by decide) 2 (by decide) (by decide) (by decide) (by decide) (vs := [(.int (0 : Int32)), (.int (0 : Int32))]) rfl (ad := "[I") (by decide) ?_
    intro T h b19_19 s_b19_19 X Ex E_b19_19 V_b19_19
    have ne_b14_18_b19_19 : b14_18 ≠ b19_19 := Nat.ne_of_lt (by rw [s_b19_19]; exact E_b14_18.lt)
    have g_b19_19 : n0 ≤ b19_19 := by rw [s_b19_19]; exact Z0
    replace E_b14_18 := E_b14_18.ext Ex
    replace V_b14_18 := V_b14_18.ext Ex
    replace Z0 := Nat.le_trans Z0 Ex.1
    refine g_dup X at_21 (pc' := 22) rfl rfl ?_
    refine g_iconst X (0 : Int32) at_22 (pc' := 23) rfl rfl ?_
    refine g_iload X at_23 (pc' := 25) rfl rfl ?_
    refine g_iastore X V_b19_19 0 at_25 (pc' := 26) rfl (by decide) (by decide) (Nat.le_of_ble_eq_true rfl) ?_
    intro T h X W V_b19_19
    replace V_b19_19 : Av Z h b19_19 .int [(.int i4), (.int (0 : Int32))] := V_b19_19
    replace E_b14_18 := E_b14_18.wr W
    replace V_b14_18 := V_b14_18.other W ne_b14_18_b19_19
    replace E_b19_19 := E_b19_19.wr W
    replace Z0 := Nat.le_trans Z0 (Nat.le_of_eq W.size.symm)
    replace N := Fr.snoc X.1 N g_b19_19
    refine g_dup X at_26 (pc' := 27) rfl rfl ?_
    refine g_iconst X (1 : Int32) at_27 (pc' := 28) rfl rfl ?_
    refine g_iload X at_28 (pc' := 30) rfl rfl ?_
    refine g_iastore X V_b19_19 1 at_30 (pc' := 31) rfl (by decide) (by decide) (Nat.le_of_ble_eq_true rfl) ?_
    intro T h X W V_b19_19
    replace V_b19_19 : Av Z h b19_19 .int [(.int i4), (.int i5)] := V_b19_19
    replace E_b14_18 := E_b14_18.wr W
    replace V_b14_18 := V_b14_18.other W ne_b14_18_b19_19
    replace E_b19_19 := E_b19_19.wr W
    replace Z0 := Nat.le_trans Z0 (Nat.le_of_eq W.size.symm)
    replace N := Fr.snoc X.1 N g_b19_19
    refine g_astore X at_31 (pc' := 33) (Ls' := #[.val (.int i0), .val (.int i1), .val (.int i2), .val (.int i3), .val (.int i4), .val (.int i5), .val (.int (1 : Int32)), .val (.ref b14_18), .val (.ref b19_19), .unset, .unset, .unset, .unset, .unset, .unset, .unset, .unset, .unset, .unset, .unset, .unset, .unset, .unset, .unset, .unset, .unset, .unset]) rfl rfl rfl ?_
    refine g_iconst X (2 : Int32) at_33 (pc' := 34) rfl rfl ?_
    refine g_newarray X 2 (tb hw 0 rfl) at_34 (pc' := 36) rfl (by decide) (by decide) 2 (by decide) (by decide) (by decide) (by decide) (vs := [(.int (0 : Int32)), (.int (0 : Int32))]) rfl (ad := "[I") (by decide) ?_
    intro T h b34_20 s_b34_20 X Ex E_b34_20 V_b34_20
    have ne_b14_18_b34_20 : b14_18 ≠ b34_20 := Nat.ne_of_lt (by rw [s_b34_20]; exact E_b14_18.lt)
    have ne_b19_19_b34_20 : b19_19 ≠ b34_20 := Nat.ne_of_lt (by rw [s_b34_20]; exact E_b19_19.lt)
    have g_b34_20 : n0 ≤ b34_20 := by rw [s_b34_20]; exact Z0
    replace E_b14_18 := E_b14_18.ext Ex
    replace V_b14_18 := V_b14_18.ext Ex
    replace E_b19_19 := E_b19_19.ext Ex
    replace V_b19_19 := V_b19_19.ext Ex
    replace Z0 := Nat.le_trans Z0 Ex.1
    refine g_dup X at_36 (pc' := 37) rfl rfl ?_
    refine g_iconst X (0 : Int32) at_37 (pc' := 38) rfl rfl ?_
    refine g_iload X at_38 (pc' := 40) rfl rfl ?_
    refine g_iastore X V_b34_20 0 at_40 (pc' := 41) rfl (by decide) (by decide) (Nat.le_of_ble_eq_true rfl) ?_
    intro T h X W V_b34_20
    replace V_b34_20 : Av Z h b34_20 .int [(.int i5), (.int (0 : Int32))] := V_b34_20
    replace E_b14_18 := E_b14_18.wr W
    replace V_b14_18 := V_b14_18.other W ne_b14_18_b34_20
    replace E_b19_19 := E_b19_19.wr W
    replace V_b19_19 := V_b19_19.other W ne_b19_19_b34_20
    replace E_b34_20 := E_b34_20.wr W
    replace Z0 := Nat.le_trans Z0 (Nat.le_of_eq W.size.symm)
    replace N := Fr.snoc X.1 N g_b34_20
    refine g_dup X at_41 (pc' := 42) rfl rfl ?_
    refine g_iconst X (1 : Int32) at_42 (pc' := 43) rfl rfl ?_
    refine g_iload X at_43 (pc' := 45) rfl rfl ?_
    refine g_iastore X V_b34_20 1 at_45 (pc' := 46) rfl (by decide) (by decide) (Nat.le_of_ble_eq_true rfl) ?_
    intro T h X W V_b34_20
    replace V_b34_20 : Av Z h b34_20 .int [(.int i5), (.int i4)] := V_b34_20
    replace E_b14_18 := E_b14_18.wr W
    replace V_b14_18 := V_b14_18.other W ne_b14_18_b34_20
    replace E_b19_19 := E_b19_19.wr W
    replace V_b19_19 := V_b19_19.other W ne_b19_19_b34_20
    replace E_b34_20 := E_b34_20.wr W
    replace Z0 := Nat.le_trans Z0 (Nat.le_of_eq W.size.symm)
    replace N := Fr.snoc X.1 N g_b34_20
    refine g_astore X at_46 (pc' := 48) (Ls' := #[.val (.int i0), .val (.int i1), .val (.int i2), .val (.int i3), .val (.int i4), .val (.int i5), .val (.int (1 : Int32)), .val (.ref b14_18), .val (.ref b19_19), .val (.ref b34_20), .unset, .unset, .unset, .unset, .unset, .unset, .unset, .unset, .unset, .unset, .unset, .unset, .unset, .unset, .unset, .unset, .unset]) rfl rfl rfl ?_
    refine g_iconst X (2 : Int32) at_48 (pc' := 49) rfl rfl ?_
    refine g_newarray X 2 (tb hw 0 rfl) at_49 (pc' := 51) rfl (by decide) (by decide) 2 (by decide) (by decide) (by decide) (by decide) (vs := [(.int (0 : Int32)), (.int (0 : Int32))]) rfl (ad := "[I") (by decide) ?_
    intro T h b49_21 s_b49_21 X Ex E_b49_21 V_b49_21
    have ne_b14_18_b49_21 : b14_18 ≠ b49_21 := Nat.ne_of_lt (by rw [s_b49_21]; exact E_b14_18.lt)
    have ne_b19_19_b49_21 : b19_19 ≠ b49_21 := Nat.ne_of_lt (by rw [s_b49_21]; exact E_b19_19.lt)
    have ne_b34_20_b49_21 : b34_20 ≠ b49_21 := Nat.ne_of_lt (by rw [s_b49_21]; exact E_b34_20.lt)
    have g_b49_21 : n0 ≤ b49_21 := by rw [s_b49_21]; exact Z0
    replace E_b14_18 := E_b14_18.ext Ex
    replace V_b14_18 := V_b14_18.ext Ex
    replace E_b19_19 := E_b19_19.ext Ex
    replace V_b19_19 := V_b19_19.ext Ex
    replace E_b34_20 := E_b34_20.ext Ex
    replace V_b34_20 := V_b34_20.ext Ex
    replace Z0 := Nat.le_trans Z0 Ex.1
    refine g_dup X at_51 (pc' := 52) rfl rfl ?_
    refine g_iconst X (0 : Int32) at_52 (pc' := 53) rfl rfl ?_
    refine g_iload X at_53 (pc' := 55) rfl rfl ?_
    refine g_iconst X (1 : Int32) at_55 (pc' := 56) rfl rfl ?_
    refine g_isub X at_56 (pc' := 57) rfl ?_
    generalize ev57_22 : (i4 - (1 : Int32)) = v57_22
    refine g_iastore X V_b49_21 0 at_57 (pc' := 58) rfl (by decide) (by decide) (Nat.le_of_ble_eq_true rfl) ?_
    intro T h X W V_b49_21
    replace V_b49_21 : Av Z h b49_21 .int [(.int v57_22), (.int (0 : Int32))] := V_b49_21
    replace E_b14_18 := E_b14_18.wr W
    replace V_b14_18 := V_b14_18.other W ne_b14_18_b49_21
    replace E_b19_19 := E_b19_19.wr W
    replace V_b19_19 := V_b19_19.other W ne_b19_19_b49_21
    replace E_b34_20 := E_b34_20.wr W
    replace V_b34_20 := V_b34_20.other W ne_b34_20_b49_21
    replace E_b49_21 := E_b49_21.wr W
    replace Z0 := Nat.le_trans Z0 (Nat.le_of_eq W.size.symm)
    replace N := Fr.snoc X.1 N g_b49_21
    refine g_dup X at_58 (pc' := 59) rfl rfl ?_
    refine g_iconst X (1 : Int32) at_59 (pc' := 60) rfl rfl ?_
    refine g_iload X at_60 (pc' := 62) rfl rfl ?_
    refine g_iconst X (1 : Int32) at_62 (pc' := 63) rfl rfl ?_
    refine g_isub X at_63 (pc' := 64) rfl ?_
    generalize ev64_23 : (i5 - (1 : Int32)) = v64_23
    refine g_iastore X V_b49_21 1 at_64 (pc' := 65) rfl (by decide) (by decide) (Nat.le_of_ble_eq_true rfl) ?_
    intro T h X W V_b49_21
    replace V_b49_21 : Av Z h b49_21 .int [(.int v57_22), (.int v64_23)] := V_b49_21
    replace E_b14_18 := E_b14_18.wr W
    replace V_b14_18 := V_b14_18.other W ne_b14_18_b49_21
    replace E_b19_19 := E_b19_19.wr W
    replace V_b19_19 := V_b19_19.other W ne_b19_19_b49_21
    replace E_b34_20 := E_b34_20.wr W
    replace V_b34_20 := V_b34_20.other W ne_b34_20_b49_21
    replace E_b49_21 := E_b49_21.wr W
    replace Z0 := Nat.le_trans Z0 (Nat.le_of_eq W.size.symm)
    replace N := Fr.snoc X.1 N g_b49_21
    refine g_astore X at_65 (pc' := 67) (Ls' := #[.val (.int i0), .val (.int i1), .val (.int i2), .val (.int i3), .val (.int i4), .val (.int i5), .val (.int (1 : Int32)), .val (.ref b14_18), .val (.ref b19_19), .val (.ref b34_20), .val (.ref b49_21), .unset, .unset, .unset, .unset, .unset, .unset, .unset, .unset, .unset, .unset, .unset, .unset, .unset, .unset, .unset, .unset]) rfl rfl rfl ?_
    refine g_iconst X (2 : Int32) at_67 (pc' := 68) rfl rfl ?_
    refine g_newarray X 2 (tb hw 0 rfl) at_68 (pc' := 70) rfl (by decide) (by decide) 2 (by decide) (by decide) (by decide) (by decide) (vs := [(.int (0 : Int32)), (.int (0 : Int32))]) rfl (ad := "[I") (by decide) ?_
    intro T h b68_24 s_b68_24 X Ex E_b68_24 V_b68_24
    have ne_b14_18_b68_24 : b14_18 ≠ b68_24 := Nat.ne_of_lt (by rw [s_b68_24]; exact E_b14_18.lt)
    have ne_b19_19_b68_24 : b19_19 ≠ b68_24 := Nat.ne_of_lt (by rw [s_b68_24]; exact E_b19_19.lt)
    have ne_b34_20_b68_24 : b34_20 ≠ b68_24 := Nat.ne_of_lt (by rw [s_b68_24]; exact E_b34_20.lt)
    have ne_b49_21_b68_24 : b49_21 ≠ b68_24 := Nat.ne_of_lt (by rw [s_b68_24]; exact E_b49_21.lt)
    have g_b68_24 : n0 ≤ b68_24 := by rw [s_b68_24]; exact Z0
    replace E_b14_18 := E_b14_18.ext Ex
    replace V_b14_18 := V_b14_18.ext Ex
    replace E_b19_19 := E_b19_19.ext Ex
    replace V_b19_19 := V_b19_19.ext Ex
    replace E_b34_20 := E_b34_20.ext Ex
    replace V_b34_20 := V_b34_20.ext Ex
    replace E_b49_21 := E_b49_21.ext Ex
    replace V_b49_21 := V_b49_21.ext Ex
    replace Z0 := Nat.le_trans Z0 Ex.1
    refine g_dup X at_70 (pc' := 71) rfl rfl ?_
    refine g_iconst X (0 : Int32) at_71 (pc' := 72) rfl rfl ?_
    refine g_iload X at_72 (pc' := 74) rfl rfl ?_
    refine g_iastore X V_b68_24 0 at_74 (pc' := 75) rfl (by decide) (by decide) (Nat.le_of_ble_eq_true rfl) ?_
    intro T h X W V_b68_24
    replace V_b68_24 : Av Z h b68_24 .int [(.int i4), (.int (0 : Int32))] := V_b68_24
    replace E_b14_18 := E_b14_18.wr W
    replace V_b14_18 := V_b14_18.other W ne_b14_18_b68_24
    replace E_b19_19 := E_b19_19.wr W
    replace V_b19_19 := V_b19_19.other W ne_b19_19_b68_24
    replace E_b34_20 := E_b34_20.wr W
    replace V_b34_20 := V_b34_20.other W ne_b34_20_b68_24
    replace E_b49_21 := E_b49_21.wr W
    replace V_b49_21 := V_b49_21.other W ne_b49_21_b68_24
    replace E_b68_24 := E_b68_24.wr W
    replace Z0 := Nat.le_trans Z0 (Nat.le_of_eq W.size.symm)
    replace N := Fr.snoc X.1 N g_b68_24
    refine g_dup X at_75 (pc' := 76) rfl rfl ?_
    refine g_iconst X (1 : Int32) at_76 (pc' := 77) rfl rfl ?_
    refine g_iload X at_77 (pc' := 79) rfl rfl ?_
    refine g_iastore X V_b68_24 1 at_79 (pc' := 80) rfl (by decide) (by decide) (Nat.le_of_ble_eq_true rfl) ?_
    intro T h X W V_b68_24
    replace V_b68_24 : Av Z h b68_24 .int [(.int i4), (.int i4)] := V_b68_24
    replace E_b14_18 := E_b14_18.wr W
    replace V_b14_18 := V_b14_18.other W ne_b14_18_b68_24
    replace E_b19_19 := E_b19_19.wr W
    replace V_b19_19 := V_b19_19.other W ne_b19_19_b68_24
    replace E_b34_20 := E_b34_20.wr W
    replace V_b34_20 := V_b34_20.other W ne_b34_20_b68_24
    replace E_b49_21 := E_b49_21.wr W
    replace V_b49_21 := V_b49_21.other W ne_b49_21_b68_24
    replace E_b68_24 := E_b68_24.wr W
    replace Z0 := Nat.le_trans Z0 (Nat.le_of_eq W.size.symm)
    replace N := Fr.snoc X.1 N g_b68_24
    refine g_astore X at_80 (pc' := 82) (Ls' := #[.val (.int i0), .val (.int i1), .val (.int i2), .val (.int i3), .val (.int i4), .val (.int i5), .val (.int (1 : Int32)), .val (.ref b14_18), .val (.ref b19_19), .val (.ref b34_20), .val (.ref b49_21), .val (.ref b68_24), .unset, .unset, .unset, .unset, .unset, .unset, .unset, .unset, .unset, .unset, .unset, .unset, .unset, .unset, .unset]) rfl rfl rfl ?_
    refine g_iconst X (2 : Int32) at_82 (pc' := 83) rfl rfl ?_
    refine g_newarray X 2 (tb hw 0 rfl) at_83 (pc' := 85) rfl (by decide) (by decide) 2 (by decide) (by decide) (by decide) (by decide) (vs := [(.int (0 : Int32)), (.int (0 : Int32))]) rfl (ad := "[I") (by decide) ?_
    intro T h b83_25 s_b83_25 X Ex E_b83_25 V_b83_25
    have ne_b14_18_b83_25 : b14_18 ≠ b83_25 := Nat.ne_of_lt (by rw [s_b83_25]; exact E_b14_18.lt)
    have ne_b19_19_b83_25 : b19_19 ≠ b83_25 := Nat.ne_of_lt (by rw [s_b83_25]; exact E_b19_19.lt)
    have ne_b34_20_b83_25 : b34_20 ≠ b83_25 := Nat.ne_of_lt (by rw [s_b83_25]; exact E_b34_20.lt)
    have ne_b49_21_b83_25 : b49_21 ≠ b83_25 := Nat.ne_of_lt (by rw [s_b83_25]; exact E_b49_21.lt)
    have ne_b68_24_b83_25 : b68_24 ≠ b83_25 := Nat.ne_of_lt (by rw [s_b83_25]; exact E_b68_24.lt)
    have g_b83_25 : n0 ≤ b83_25 := by rw [s_b83_25]; exact Z0
    replace E_b14_18 := E_b14_18.ext Ex
    replace V_b14_18 := V_b14_18.ext Ex
    replace E_b19_19 := E_b19_19.ext Ex
    replace V_b19_19 := V_b19_19.ext Ex
    replace E_b34_20 := E_b34_20.ext Ex
    replace V_b34_20 := V_b34_20.ext Ex
    replace E_b49_21 := E_b49_21.ext Ex
    replace V_b49_21 := V_b49_21.ext Ex
    replace E_b68_24 := E_b68_24.ext Ex
    replace V_b68_24 := V_b68_24.ext Ex
    replace Z0 := Nat.le_trans Z0 Ex.1
    refine g_dup X at_85 (pc' := 86) rfl rfl ?_
    refine g_iconst X (0 : Int32) at_86 (pc' := 87) rfl rfl ?_
    refine g_iload X at_87 (pc' := 89) rfl rfl ?_
    refine g_iconst X (1 : Int32) at_89 (pc' := 90) rfl rfl ?_
    refine g_ishr X at_90 (pc' := 91) rfl ?_
    generalize ev91_26 : (i5 >>> ((1 : Int32) &&& 31)) = v91_26
    refine g_iastore X V_b83_25 0 at_91 (pc' := 92) rfl (by decide) (by decide) (Nat.le_of_ble_eq_true rfl) ?_
    intro T h X W V_b83_25
    replace V_b83_25 : Av Z h b83_25 .int [(.int v91_26), (.int (0 : Int32))] := V_b83_25
    replace E_b14_18 := E_b14_18.wr W
    replace V_b14_18 := V_b14_18.other W ne_b14_18_b83_25
    replace E_b19_19 := E_b19_19.wr W
    replace V_b19_19 := V_b19_19.other W ne_b19_19_b83_25
    replace E_b34_20 := E_b34_20.wr W
    replace V_b34_20 := V_b34_20.other W ne_b34_20_b83_25
    replace E_b49_21 := E_b49_21.wr W
    replace V_b49_21 := V_b49_21.other W ne_b49_21_b83_25
    replace E_b68_24 := E_b68_24.wr W
    replace V_b68_24 := V_b68_24.other W ne_b68_24_b83_25
    replace E_b83_25 := E_b83_25.wr W
    replace Z0 := Nat.le_trans Z0 (Nat.le_of_eq W.size.symm)
    replace N := Fr.snoc X.1 N g_b83_25
    refine g_dup X at_92 (pc' := 93) rfl rfl ?_
    refine g_iconst X (1 : Int32) at_93 (pc' := 94) rfl rfl ?_
    refine g_iload X at_94 (pc' := 96) rfl rfl ?_
    refine g_iconst X (1 : Int32) at_96 (pc' := 97) rfl rfl ?_
    refine g_ishr X at_97 (pc' := 98) rfl ?_
    generalize ev98_27 : (i4 >>> ((1 : Int32) &&& 31)) = v98_27
    refine g_iastore X V_b83_25 1 at_98 (pc' := 99) rfl (by decide) (by decide) (Nat.le_of_ble_eq_true rfl) ?_
    intro T h X W V_b83_25
    replace V_b83_25 : Av Z h b83_25 .int [(.int v91_26), (.int v98_27)] := V_b83_25
    replace E_b14_18 := E_b14_18.wr W
    replace V_b14_18 := V_b14_18.other W ne_b14_18_b83_25
    replace E_b19_19 := E_b19_19.wr W
    replace V_b19_19 := V_b19_19.other W ne_b19_19_b83_25
    replace E_b34_20 := E_b34_20.wr W
    replace V_b34_20 := V_b34_20.other W ne_b34_20_b83_25
    replace E_b49_21 := E_b49_21.wr W
    replace V_b49_21 := V_b49_21.other W ne_b49_21_b83_25
    replace E_b68_24 := E_b68_24.wr W
    replace V_b68_24 := V_b68_24.other W ne_b68_24_b83_25
    replace E_b83_25 := E_b83_25.wr W
    replace Z0 := Nat.le_trans Z0 (Nat.le_of_eq W.size.symm)
    replace N := Fr.snoc X.1 N g_b83_25
    refine g_astore X at_99 (pc' := 101) (Ls' := #[.val (.int i0), .val (.int i1), .val (.int i2), .val (.int i3), .val (.int i4), .val (.int i5), .val (.int (1 : Int32)), .val (.ref b14_18), .val (.ref b19_19), .val (.ref b34_20), .val (.ref b49_21), .val (.ref b68_24), .val (.ref b83_25), .unset, .unset, .unset, .unset, .unset, .unset, .unset, .unset, .unset, .unset, .unset, .unset, .unset, .unset]) rfl rfl rfl ?_
    refine g_iload X at_101 (pc' := 103) rfl rfl ?_
    refine g_ifN X at_103 ((if0 _ _).trans (feq (show ¬ ((1 : Int32) = (0 : Int32)) from (by decide))).1) (pc' := 106) rfl ?_
    refine g_aload X at_106 (pc' := 108) rfl rfl rfl ?_
    refine g_goto X at_108 (pc' := 113) (by decide) (by decide) ?_
    refine g_astore X at_113 (pc' := 115) (Ls' := #[.val (.int i0), .val (.int i1), .val (.int i2), .val (.int i3), .val (.int i4), .val (.int i5), .val (.int (1 : Int32)), .val (.ref b14_18), .val (.ref b19_19), .val (.ref b34_20), .val (.ref b49_21), .val (.ref b68_24), .val (.ref b83_25), .val (.ref b14_18), .unset, .unset, .unset, .unset, .unset, .unset, .unset, .unset, .unset, .unset, .unset, .unset, .unset]) rfl rfl rfl ?_
    refine g_iload X at_115 (pc' := 117) rfl rfl ?_
    refine g_ifN X at_117 ((if0 _ _).trans (feq (show ¬ ((1 : Int32) = (0 : Int32)) from (by decide))).1) (pc' := 120) rfl ?_
    refine g_aload X at_120 (pc' := 122) rfl rfl rfl ?_
    refine g_goto X at_122 (pc' := 127) (by decide) (by decide) ?_
    refine g_astore X at_127 (pc' := 129) (Ls' := #[.val (.int i0), .val (.int i1), .val (.int i2), .val (.int i3), .val (.int i4), .val (.int i5), .val (.int (1 : Int32)), .val (.ref b14_18), .val (.ref b19_19), .val (.ref b34_20), .val (.ref b49_21), .val (.ref b68_24), .val (.ref b83_25), .val (.ref b14_18), .val (.ref b14_18), .unset, .unset, .unset, .unset, .unset, .unset, .unset, .unset, .unset, .unset, .unset, .unset]) rfl rfl rfl ?_
    refine g_iload X at_129 (pc' := 131) rfl rfl ?_
    refine g_ifN X at_131 ((if0 _ _).trans (feq (show ¬ ((1 : Int32) = (0 : Int32)) from (by decide))).1) (pc' := 134) rfl ?_
    refine g_aload X at_134 (pc' := 136) rfl rfl rfl ?_
    refine g_goto X at_136 (pc' := 141) (by decide) (by decide) ?_
    refine g_astore X at_141 (pc' := 143) (Ls' := #[.val (.int i0), .val (.int i1), .val (.int i2), .val (.int i3), .val (.int i4), .val (.int i5), .val (.int (1 : Int32)), .val (.ref b14_18), .val (.ref b19_19), .val (.ref b34_20), .val (.ref b49_21), .val (.ref b68_24), .val (.ref b83_25), .val (.ref b14_18), .val (.ref b14_18), .val (.ref b14_18), .unset, .unset, .unset, .unset, .unset, .unset, .unset, .unset, .unset, .unset, .unset]) rfl rfl rfl ?_
    refine g_iload X at_143 (pc' := 145) rfl rfl ?_
    refine g_ifN X at_145 ((if0 _ _).trans (feq (show ¬ ((1 : Int32) = (0 : Int32)) from (by decide))).1) (pc' := 148) rfl ?_
    refine g_aload X at_148 (pc' := 150) rfl rfl rfl ?_
    refine g_goto X at_150 (pc' := 155) (by decide) (by decide) ?_
    refine g_astore X at_155 (pc' := 157) (Ls' := #[.val (.int i0), .val (.int i1), .val (.int i2), .val (.int i3), .val (.int i4), .val (.int i5), .val (.int (1 : Int32)), .val (.ref b14_18), .val (.ref b19_19), .val (.ref b34_20), .val (.ref b49_21), .val (.ref b68_24), .val (.ref b83_25), .val (.ref b14_18), .val (.ref b14_18), .val (.ref b14_18), .val (.ref b14_18), .unset, .unset, .unset, .unset, .unset, .unset, .unset, .unset, .unset, .unset]) rfl rfl rfl ?_
    refine g_iload X at_157 (pc' := 159) rfl rfl ?_
    refine g_ifN X at_159 ((if0 _ _).trans (feq (show ¬ ((1 : Int32) = (0 : Int32)) from (by decide))).1) (pc' := 162) rfl ?_
    refine g_aload X at_162 (pc' := 164) rfl rfl rfl ?_
    refine g_goto X at_164 (pc' := 169) (by decide) (by decide) ?_
    refine g_astore X at_169 (pc' := 171) (Ls' := #[.val (.int i0), .val (.int i1), .val (.int i2), .val (.int i3), .val (.int i4), .val (.int i5), .val (.int (1 : Int32)), .val (.ref b14_18), .val (.ref b19_19), .val (.ref b34_20), .val (.ref b49_21), .val (.ref b68_24), .val (.ref b83_25), .val (.ref b14_18), .val (.ref b14_18), .val (.ref b14_18), .val (.ref b14_18), .val (.ref b14_18), .unset, .unset, .unset, .unset, .unset, .unset, .unset, .unset, .unset]) rfl rfl rfl ?_
    refine g_new X (tb hw 1 rfl) (tb hw 2 rfl) (tb hw 3 rfl) at_171 (pc' := 174) rfl (by decide) (by decide) ?_
    intro T h b171_28 s_b171_28 X Ex E_b171_28 D_b171_28
    have ne_b14_18_b171_28 : b14_18 ≠ b171_28 := Nat.ne_of_lt (by rw [s_b171_28]; exact E_b14_18.lt)
    have ne_b19_19_b171_28 : b19_19 ≠ b171_28 := Nat.ne_of_lt (by rw [s_b171_28]; exact E_b19_19.lt)
    have ne_b34_20_b171_28 : b34_20 ≠ b171_28 := Nat.ne_of_lt (by rw [s_b171_28]; exact E_b34_20.lt)
    have ne_b49_21_b171_28 : b49_21 ≠ b171_28 := Nat.ne_of_lt (by rw [s_b171_28]; exact E_b49_21.lt)
    have ne_b68_24_b171_28 : b68_24 ≠ b171_28 := Nat.ne_of_lt (by rw [s_b171_28]; exact E_b68_24.lt)
    have ne_b83_25_b171_28 : b83_25 ≠ b171_28 := Nat.ne_of_lt (by rw [s_b171_28]; exact E_b83_25.lt)
    have g_b171_28 : n0 ≤ b171_28 := by rw [s_b171_28]; exact Z0
    replace E_b14_18 := E_b14_18.ext Ex
    replace V_b14_18 := V_b14_18.ext Ex
    replace E_b19_19 := E_b19_19.ext Ex
    replace V_b19_19 := V_b19_19.ext Ex
    replace E_b34_20 := E_b34_20.ext Ex
    replace V_b34_20 := V_b34_20.ext Ex
    replace E_b49_21 := E_b49_21.ext Ex
    replace V_b49_21 := V_b49_21.ext Ex
    replace E_b68_24 := E_b68_24.ext Ex
    replace V_b68_24 := V_b68_24.ext Ex
    replace E_b83_25 := E_b83_25.ext Ex
    replace V_b83_25 := V_b83_25.ext Ex
    replace Z0 := Nat.le_trans Z0 Ex.1
    have F_b171_28_sweeps : Fld Z h b171_28 "com/example/ryazan/ryazan/numeric/SweepLimit" "sweeps" "I" (.int (0 : Int32)) := D_b171_28 (Or.inl (tb hw 11 rfl)) (ty := .int) (by decide)
    have F_b171_28_fewest : Fld Z h b171_28 "com/example/ryazan/ryazan/numeric/SweepLimit" "fewest" "[I" .null := D_b171_28 (Or.inl (tb hw 23 rfl)) (ty := (.array .int)) (by decide)
    have F_b171_28_narrowest : Fld Z h b171_28 "com/example/ryazan/ryazan/numeric/SweepLimit" "narrowest" "D" (.double (0 : UInt64)) := D_b171_28 (Or.inl (tb hw 25 rfl)) (ty := .double) (by decide)
    have F_b171_28_progressed : Fld Z h b171_28 "com/example/ryazan/ryazan/numeric/SweepLimit" "progressed" "I" (.int (0 : Int32)) := D_b171_28 (Or.inl (tb hw 36 rfl)) (ty := .int) (by decide)
    refine g_dup X at_174 (pc' := 175) rfl rfl ?_
    refine g_special X (W := 1) (a := b171_28) [] [(.ref b171_28)] rfl (tb hw 4 rfl) (tb hw 5 rfl) (tb hw 3 rfl) (tb hw 6 rfl) (rInit l Z aa hw [] b171_28 _ n0 Z0 E_b171_28 F_b171_28_sweeps F_b171_28_fewest F_b171_28_narrowest F_b171_28_progressed g_b171_28) at_175 (pc' := 178) rfl (by decide) (by decide) (by decide) rfl rfl rfl (lenOf pd_0 rfl) (Nat.le_refl _) (by decide) (by decide) ?_
    intro v T L X q
    obtain ⟨rfl, Nq, Kq, E_b171_28', F_b171_28_sweeps', F_b171_28_fewest', F_b171_28_narrowest', F_b171_28_progressed'⟩ := q
    replace N := N.app Nq
    replace E_b14_18 := E_b14_18.keep Kq
    replace V_b14_18 := V_b14_18.keep Kq (ninS ne_b14_18_b171_28 nin0)
    replace E_b19_19 := E_b19_19.keep Kq
    replace V_b19_19 := V_b19_19.keep Kq (ninS ne_b19_19_b171_28 nin0)
    replace E_b34_20 := E_b34_20.keep Kq
    replace V_b34_20 := V_b34_20.keep Kq (ninS ne_b34_20_b171_28 nin0)
    replace E_b49_21 := E_b49_21.keep Kq
    replace V_b49_21 := V_b49_21.keep Kq (ninS ne_b49_21_b171_28 nin0)
    replace E_b68_24 := E_b68_24.keep Kq
    replace V_b68_24 := V_b68_24.keep Kq (ninS ne_b68_24_b171_28 nin0)
    replace E_b83_25 := E_b83_25.keep Kq
    replace V_b83_25 := V_b83_25.keep Kq (ninS ne_b83_25_b171_28 nin0)
    replace Z0 := Nat.le_trans Z0 Kq.1
    replace E_b171_28 := E_b171_28'
    replace F_b171_28_sweeps := F_b171_28_sweeps'
    replace F_b171_28_fewest := F_b171_28_fewest'
    replace F_b171_28_narrowest := F_b171_28_narrowest'
    replace F_b171_28_progressed := F_b171_28_progressed'
    show Go p e below _ (T.setTop (mkF m 178 #[.val (.int i0), .val (.int i1), .val (.int i2), .val (.int i3), .val (.int i4), .val (.int i5), .val (.int (1 : Int32)), .val (.ref b14_18), .val (.ref b19_19), .val (.ref b34_20), .val (.ref b49_21), .val (.ref b68_24), .val (.ref b83_25), .val (.ref b14_18), .val (.ref b14_18), .val (.ref b14_18), .val (.ref b14_18), .val (.ref b14_18), .unset, .unset, .unset, .unset, .unset, .unset, .unset, .unset, .unset] [(.ref b171_28)]))
    refine g_astore X at_178 (pc' := 180) (Ls' := #[.val (.int i0), .val (.int i1), .val (.int i2), .val (.int i3), .val (.int i4), .val (.int i5), .val (.int (1 : Int32)), .val (.ref b14_18), .val (.ref b19_19), .val (.ref b34_20), .val (.ref b49_21), .val (.ref b68_24), .val (.ref b83_25), .val (.ref b14_18), .val (.ref b14_18), .val (.ref b14_18), .val (.ref b14_18), .val (.ref b14_18), .val (.ref b171_28), .unset, .unset, .unset, .unset, .unset, .unset, .unset, .unset]) rfl rfl rfl ?_
    have hnr : Near (-1 : Int32) (0 : Int32) := ⟨by decide, by decide, by decide, by decide⟩
    refine g_aload X at_180 (pc' := 182) rfl rfl rfl ?_
    refine g_virtual X (W := 0) (a := b171_28) (C := "com/example/ryazan/ryazan/numeric/SweepLimit") [] [] E_b171_28 (tb hw 12 rfl) (tb hw 13 rfl) (tb hw 15 rfl) (tb hw 14 rfl) (tb hw 3 rfl) (tb hw 16 rfl) (rSw l Z aa hw [] b171_28 (-1 : Int32) _ E_b171_28 F_b171_28_sweeps) at_182 (pc' := 185) rfl (by decide) (by decide) (by decide) rfl rfl rfl (lenOf pd_1 rfl) (Nat.le_refl _) (by decide) (by decide) ?_
    intro v T L X q
    obtain ⟨rfl, X⟩ := pureX X q
    show Go p e below _ (T.setTop (mkF m 185 #[.val (.int i0), .val (.int i1), .val (.int i2), .val (.int i3), .val (.int i4), .val (.int i5), .val (.int (1 : Int32)), .val (.ref b14_18), .val (.ref b19_19), .val (.ref b34_20), .val (.ref b49_21), .val (.ref b68_24), .val (.ref b83_25), .val (.ref b14_18), .val (.ref b14_18), .val (.ref b14_18), .val (.ref b14_18), .val (.ref b14_18), .val (.ref b171_28), .unset, .unset, .unset, .unset, .unset, .unset, .unset, .unset] [(.int (-1 : Int32))]))
    refine g_iconst X (-1 : Int32) at_185 (pc' := 186) rfl rfl ?_
    refine g_icN X at_186 (teq (show (-1 : Int32) = (-1 : Int32) from (by decide))).2 (pc' := 189) rfl ?_
    refine g_iconst X (1 : Int32) at_189 (pc' := 190) rfl rfl ?_
    refine g_goto X at_190 (pc' := 194) (by decide) (by decide) ?_
    refine g_istore X at_194 (pc' := 196) (Ls' := #[.val (.int i0), .val (.int i1), .val (.int i2), .val (.int i3), .val (.int i4), .val (.int i5), .val (.int (1 : Int32)), .val (.ref b14_18), .val (.ref b19_19), .val (.ref b34_20), .val (.ref b49_21), .val (.ref b68_24), .val (.ref b83_25), .val (.ref b14_18), .val (.ref b14_18), .val (.ref b14_18), .val (.ref b14_18), .val (.ref b14_18), .val (.ref b171_28), .val (.int (1 : Int32)), .unset, .unset, .unset, .unset, .unset, .unset, .unset]) rfl rfl ?_
    refine g_aload X at_196 (pc' := 198) rfl rfl rfl ?_
    refine g_iloadN X at_198 (pc' := 199) rfl rfl ?_
    refine g_i2d X at_199 (pc' := 200) rfl ?_
    refine g_aload X at_200 (pc' := 202) rfl rfl rfl ?_
    refine g_virtual X (W := 0) (a := b171_28) (C := "com/example/ryazan/ryazan/numeric/SweepLimit") [(.double (FP.i2d i1)), (.ref b14_18)] [] E_b171_28 (tb hw 17 rfl) (tb hw 18 rfl) (tb hw 20 rfl) (tb hw 19 rfl) (tb hw 3 rfl) (tb hw 21 rfl) (rR0n l Z aa hw [] b171_28 (FP.i2d i1) b14_18 (-1 : Int32) (0 : UInt64) (0 : Int32) _ n0 Z0 E_b171_28 F_b171_28_sweeps F_b171_28_fewest F_b171_28_narrowest F_b171_28_progressed E_b14_18 V_b14_18 g_b171_28 ne_b14_18_b171_28 hnr) at_202 (pc' := 205) rfl (by decide) (by decide) (by decide) rfl rfl rfl (lenOf pd_2 rfl) (Nat.le_refl _) (by decide) (by decide) ?_
    intro v T L X q
    obtain ⟨pp29, ff29, dd29, rfl, Nq, Kq, g_ff29, hal, E2, F2s, F2p, F2n, F2f, E_ff29, V_ff29, hnr⟩ := q
    replace N := N.app Nq
    have ne_b14_18_ff29 : b14_18 ≠ ff29 := ne_alias hal ne_b14_18_b171_28 E_b14_18.lt
    have ne_b19_19_ff29 : b19_19 ≠ ff29 := ne_alias hal ne_b19_19_b171_28 E_b19_19.lt
    have ne_b34_20_ff29 : b34_20 ≠ ff29 := ne_alias hal ne_b34_20_b171_28 E_b34_20.lt
    have ne_b49_21_ff29 : b49_21 ≠ ff29 := ne_alias hal ne_b49_21_b171_28 E_b49_21.lt
    have ne_b68_24_ff29 : b68_24 ≠ ff29 := ne_alias hal ne_b68_24_b171_28 E_b68_24.lt
    have ne_b83_25_ff29 : b83_25 ≠ ff29 := ne_alias hal ne_b83_25_b171_28 E_b83_25.lt
    have ne_b171_28_ff29 : b171_28 ≠ ff29 := fun q => ne_exa E2 E_ff29 (by decide) q
    replace E_b14_18 := E_b14_18.keep Kq
    replace V_b14_18 := V_b14_18.keep Kq (ninS ne_b14_18_b171_28 nin0)
    replace E_b19_19 := E_b19_19.keep Kq
    replace V_b19_19 := V_b19_19.keep Kq (ninS ne_b19_19_b171_28 nin0)
    replace E_b34_20 := E_b34_20.keep Kq
    replace V_b34_20 := V_b34_20.keep Kq (ninS ne_b34_20_b171_28 nin0)
    replace E_b49_21 := E_b49_21.keep Kq
    replace V_b49_21 := V_b49_21.keep Kq (ninS ne_b49_21_b171_28 nin0)
    replace E_b68_24 := E_b68_24.keep Kq
    replace V_b68_24 := V_b68_24.keep Kq (ninS ne_b68_24_b171_28 nin0)
    replace E_b83_25 := E_b83_25.keep Kq
    replace V_b83_25 := V_b83_25.keep Kq (ninS ne_b83_25_b171_28 nin0)
    replace Z0 := Nat.le_trans Z0 Kq.1
    replace E_b171_28 := E2; replace F_b171_28_sweeps := F2s; replace F_b171_28_progressed := F2p; replace F_b171_28_narrowest := F2n; replace F_b171_28_fewest := F2f
    have hnr := near_up hnr (by decide)
    replace F_b171_28_sweeps : Fld Z T.heap b171_28 "com/example/ryazan/ryazan/numeric/SweepLimit" "sweeps" "I" (.int (0 : Int32)) := F_b171_28_sweeps
    replace hnr : Near (0 : Int32) pp29 := hnr
    show Go p e below _ (T.setTop (mkF m 205 #[.val (.int i0), .val (.int i1), .val (.int i2), .val (.int i3), .val (.int i4), .val (.int i5), .val (.int (1 : Int32)), .val (.ref b14_18), .val (.ref b19_19), .val (.ref b34_20), .val (.ref b49_21), .val (.ref b68_24), .val (.ref b83_25), .val (.ref b14_18), .val (.ref b14_18), .val (.ref b14_18), .val (.ref b14_18), .val (.ref b14_18), .val (.ref b171_28), .val (.int (1 : Int32)), .unset, .unset, .unset, .unset, .unset, .unset, .unset] [(.int (0 : Int32))]))
    refine g_istore X at_205 (pc' := 207) (Ls' := #[.val (.int i0), .val (.int i1), .val (.int i2), .val (.int i3), .val (.int i4), .val (.int i5), .val (.int (1 : Int32)), .val (.ref b14_18), .val (.ref b19_19), .val (.ref b34_20), .val (.ref b49_21), .val (.ref b68_24), .val (.ref b83_25), .val (.ref b14_18), .val (.ref b14_18), .val (.ref b14_18), .val (.ref b14_18), .val (.ref b14_18), .val (.ref b171_28), .val (.int (1 : Int32)), .val (.int (0 : Int32)), .unset, .unset, .unset, .unset, .unset, .unset]) rfl rfl ?_
    refine g_aload X at_207 (pc' := 209) rfl rfl rfl ?_
    refine g_iloadN X at_209 (pc' := 210) rfl rfl ?_
    refine g_i2d X at_210 (pc' := 211) rfl ?_
    refine g_aload X at_211 (pc' := 213) rfl rfl rfl ?_
    refine g_virtual X (W := 0) (a := b171_28) (C := "com/example/ryazan/ryazan/numeric/SweepLimit") [(.double (FP.i2d i2)), (.ref b14_18)] [] E_b171_28 (tb hw 17 rfl) (tb hw 18 rfl) (tb hw 20 rfl) (tb hw 19 rfl) (tb hw 3 rfl) (tb hw 21 rfl) (rR0 l Z aa hw [] b171_28 (FP.i2d i2) b14_18 (0 : Int32) ff29 dd29 pp29 _ n0 Z0 E_b171_28 F_b171_28_sweeps F_b171_28_fewest F_b171_28_narrowest F_b171_28_progressed E_b14_18 V_b14_18 E_ff29 V_ff29 g_b171_28 g_ff29 ne_b171_28_ff29 ne_b14_18_b171_28 ne_b14_18_ff29 hnr) at_213 (pc' := 216) rfl (by decide) (by decide) (by decide) rfl rfl rfl (lenOf pd_2 rfl) (Nat.le_refl _) (by decide) (by decide) ?_
    intro v T L X q
    obtain ⟨pp30, ff30, dd30, rfl, Nq, Kq, g_ff30, hal, E2, F2s, F2p, F2n, F2f, E_ff30, V_ff30, hnr⟩ := q
    replace N := N.app Nq
    have ne_b14_18_ff30 : b14_18 ≠ ff30 := ne_alias hal ne_b14_18_ff29 E_b14_18.lt
    have ne_b19_19_ff30 : b19_19 ≠ ff30 := ne_alias hal ne_b19_19_ff29 E_b19_19.lt
    have ne_b34_20_ff30 : b34_20 ≠ ff30 := ne_alias hal ne_b34_20_ff29 E_b34_20.lt
    have ne_b49_21_ff30 : b49_21 ≠ ff30 := ne_alias hal ne_b49_21_ff29 E_b49_21.lt
    have ne_b68_24_ff30 : b68_24 ≠ ff30 := ne_alias hal ne_b68_24_ff29 E_b68_24.lt
    have ne_b83_25_ff30 : b83_25 ≠ ff30 := ne_alias hal ne_b83_25_ff29 E_b83_25.lt
    have ne_b171_28_ff30 : b171_28 ≠ ff30 := fun q => ne_exa E2 E_ff30 (by decide) q
    replace E_b14_18 := E_b14_18.keep Kq
    replace V_b14_18 := V_b14_18.keep Kq (ninS ne_b14_18_b171_28 (ninS ne_b14_18_ff29 nin0))
    replace E_b19_19 := E_b19_19.keep Kq
    replace V_b19_19 := V_b19_19.keep Kq (ninS ne_b19_19_b171_28 (ninS ne_b19_19_ff29 nin0))
    replace E_b34_20 := E_b34_20.keep Kq
    replace V_b34_20 := V_b34_20.keep Kq (ninS ne_b34_20_b171_28 (ninS ne_b34_20_ff29 nin0))
    replace E_b49_21 := E_b49_21.keep Kq
    replace V_b49_21 := V_b49_21.keep Kq (ninS ne_b49_21_b171_28 (ninS ne_b49_21_ff29 nin0))
    replace E_b68_24 := E_b68_24.keep Kq
    replace V_b68_24 := V_b68_24.keep Kq (ninS ne_b68_24_b171_28 (ninS ne_b68_24_ff29 nin0))
    replace E_b83_25 := E_b83_25.keep Kq
    replace V_b83_25 := V_b83_25.keep Kq (ninS ne_b83_25_b171_28 (ninS ne_b83_25_ff29 nin0))
    replace Z0 := Nat.le_trans Z0 Kq.1
    replace E_b171_28 := E2; replace F_b171_28_sweeps := F2s; replace F_b171_28_progressed := F2p; replace F_b171_28_narrowest := F2n; replace F_b171_28_fewest := F2f
    have hnr := near_up hnr (by decide)
    replace F_b171_28_sweeps : Fld Z T.heap b171_28 "com/example/ryazan/ryazan/numeric/SweepLimit" "sweeps" "I" (.int (1 : Int32)) := F_b171_28_sweeps
    replace hnr : Near (1 : Int32) pp30 := hnr
    show Go p e below _ (T.setTop (mkF m 216 #[.val (.int i0), .val (.int i1), .val (.int i2), .val (.int i3), .val (.int i4), .val (.int i5), .val (.int (1 : Int32)), .val (.ref b14_18), .val (.ref b19_19), .val (.ref b34_20), .val (.ref b49_21), .val (.ref b68_24), .val (.ref b83_25), .val (.ref b14_18), .val (.ref b14_18), .val (.ref b14_18), .val (.ref b14_18), .val (.ref b14_18), .val (.ref b171_28), .val (.int (1 : Int32)), .val (.int (0 : Int32)), .unset, .unset, .unset, .unset, .unset, .unset] [(.int (0 : Int32))]))
    refine g_istore X at_216 (pc' := 218) (Ls' := #[.val (.int i0), .val (.int i1), .val (.int i2), .val (.int i3), .val (.int i4), .val (.int i5), .val (.int (1 : Int32)), .val (.ref b14_18), .val (.ref b19_19), .val (.ref b34_20), .val (.ref b49_21), .val (.ref b68_24), .val (.ref b83_25), .val (.ref b14_18), .val (.ref b14_18), .val (.ref b14_18), .val (.ref b14_18), .val (.ref b14_18), .val (.ref b171_28), .val (.int (1 : Int32)), .val (.int (0 : Int32)), .val (.int (0 : Int32)), .unset, .unset, .unset, .unset, .unset]) rfl rfl ?_
    refine g_aload X at_218 (pc' := 220) rfl rfl rfl ?_
    refine g_virtual X (W := 0) (a := b171_28) (C := "com/example/ryazan/ryazan/numeric/SweepLimit") [] [] E_b171_28 (tb hw 12 rfl) (tb hw 13 rfl) (tb hw 15 rfl) (tb hw 14 rfl) (tb hw 3 rfl) (tb hw 16 rfl) (rSw l Z aa hw [] b171_28 (1 : Int32) _ E_b171_28 F_b171_28_sweeps) at_220 (pc' := 223) rfl (by decide) (by decide) (by decide) rfl rfl rfl (lenOf pd_1 rfl) (Nat.le_refl _) (by decide) (by decide) ?_
    intro v T L X q
    obtain ⟨rfl, X⟩ := pureX X q
    show Go p e below _ (T.setTop (mkF m 223 #[.val (.int i0), .val (.int i1), .val (.int i2), .val (.int i3), .val (.int i4), .val (.int i5), .val (.int (1 : Int32)), .val (.ref b14_18), .val (.ref b19_19), .val (.ref b34_20), .val (.ref b49_21), .val (.ref b68_24), .val (.ref b83_25), .val (.ref b14_18), .val (.ref b14_18), .val (.ref b14_18), .val (.ref b14_18), .val (.ref b14_18), .val (.ref b171_28), .val (.int (1 : Int32)), .val (.int (0 : Int32)), .val (.int (0 : Int32)), .unset, .unset, .unset, .unset, .unset] [(.int (1 : Int32))]))
    refine g_iconst X (1 : Int32) at_223 (pc' := 224) rfl rfl ?_
    refine g_icN X at_224 (teq (show (1 : Int32) = (1 : Int32) from (by decide))).2 (pc' := 227) rfl ?_
    refine g_iconst X (1 : Int32) at_227 (pc' := 228) rfl rfl ?_
    refine g_goto X at_228 (pc' := 232) (by decide) (by decide) ?_
    refine g_istore X at_232 (pc' := 234) (Ls' := #[.val (.int i0), .val (.int i1), .val (.int i2), .val (.int i3), .val (.int i4), .val (.int i5), .val (.int (1 : Int32)), .val (.ref b14_18), .val (.ref b19_19), .val (.ref b34_20), .val (.ref b49_21), .val (.ref b68_24), .val (.ref b83_25), .val (.ref b14_18), .val (.ref b14_18), .val (.ref b14_18), .val (.ref b14_18), .val (.ref b14_18), .val (.ref b171_28), .val (.int (1 : Int32)), .val (.int (0 : Int32)), .val (.int (0 : Int32)), .val (.int (1 : Int32)), .unset, .unset, .unset, .unset]) rfl rfl ?_
    refine g_aload X at_234 (pc' := 236) rfl rfl rfl ?_
    refine g_iloadN X at_236 (pc' := 237) rfl rfl ?_
    refine g_i2d X at_237 (pc' := 238) rfl ?_
    refine g_aload X at_238 (pc' := 240) rfl rfl rfl ?_
    refine g_virtual X (W := 0) (a := b171_28) (C := "com/example/ryazan/ryazan/numeric/SweepLimit") [(.double (FP.i2d i1)), (.ref b14_18)] [] E_b171_28 (tb hw 17 rfl) (tb hw 18 rfl) (tb hw 20 rfl) (tb hw 19 rfl) (tb hw 3 rfl) (tb hw 21 rfl) (rR0 l Z aa hw [] b171_28 (FP.i2d i1) b14_18 (1 : Int32) ff30 dd30 pp30 _ n0 Z0 E_b171_28 F_b171_28_sweeps F_b171_28_fewest F_b171_28_narrowest F_b171_28_progressed E_b14_18 V_b14_18 E_ff30 V_ff30 g_b171_28 g_ff30 ne_b171_28_ff30 ne_b14_18_b171_28 ne_b14_18_ff30 hnr) at_240 (pc' := 243) rfl (by decide) (by decide) (by decide) rfl rfl rfl (lenOf pd_2 rfl) (Nat.le_refl _) (by decide) (by decide) ?_
    intro v T L X q
    obtain ⟨pp31, ff31, dd31, rfl, Nq, Kq, g_ff31, hal, E2, F2s, F2p, F2n, F2f, E_ff31, V_ff31, hnr⟩ := q
    replace N := N.app Nq
    have ne_b14_18_ff31 : b14_18 ≠ ff31 := ne_alias hal ne_b14_18_ff30 E_b14_18.lt
    have ne_b19_19_ff31 : b19_19 ≠ ff31 := ne_alias hal ne_b19_19_ff30 E_b19_19.lt
    have ne_b34_20_ff31 : b34_20 ≠ ff31 := ne_alias hal ne_b34_20_ff30 E_b34_20.lt
    have ne_b49_21_ff31 : b49_21 ≠ ff31 := ne_alias hal ne_b49_21_ff30 E_b49_21.lt
    have ne_b68_24_ff31 : b68_24 ≠ ff31 := ne_alias hal ne_b68_24_ff30 E_b68_24.lt
    have ne_b83_25_ff31 : b83_25 ≠ ff31 := ne_alias hal ne_b83_25_ff30 E_b83_25.lt
    have ne_b171_28_ff31 : b171_28 ≠ ff31 := fun q => ne_exa E2 E_ff31 (by decide) q
    replace E_b14_18 := E_b14_18.keep Kq
    replace V_b14_18 := V_b14_18.keep Kq (ninS ne_b14_18_b171_28 (ninS ne_b14_18_ff30 nin0))
    replace E_b19_19 := E_b19_19.keep Kq
    replace V_b19_19 := V_b19_19.keep Kq (ninS ne_b19_19_b171_28 (ninS ne_b19_19_ff30 nin0))
    replace E_b34_20 := E_b34_20.keep Kq
    replace V_b34_20 := V_b34_20.keep Kq (ninS ne_b34_20_b171_28 (ninS ne_b34_20_ff30 nin0))
    replace E_b49_21 := E_b49_21.keep Kq
    replace V_b49_21 := V_b49_21.keep Kq (ninS ne_b49_21_b171_28 (ninS ne_b49_21_ff30 nin0))
    replace E_b68_24 := E_b68_24.keep Kq
    replace V_b68_24 := V_b68_24.keep Kq (ninS ne_b68_24_b171_28 (ninS ne_b68_24_ff30 nin0))
    replace E_b83_25 := E_b83_25.keep Kq
    replace V_b83_25 := V_b83_25.keep Kq (ninS ne_b83_25_b171_28 (ninS ne_b83_25_ff30 nin0))
    replace Z0 := Nat.le_trans Z0 Kq.1
    replace E_b171_28 := E2; replace F_b171_28_sweeps := F2s; replace F_b171_28_progressed := F2p; replace F_b171_28_narrowest := F2n; replace F_b171_28_fewest := F2f
    have hnr := near_up hnr (by decide)
    replace F_b171_28_sweeps : Fld Z T.heap b171_28 "com/example/ryazan/ryazan/numeric/SweepLimit" "sweeps" "I" (.int (2 : Int32)) := F_b171_28_sweeps
    replace hnr : Near (2 : Int32) pp31 := hnr
    show Go p e below _ (T.setTop (mkF m 243 #[.val (.int i0), .val (.int i1), .val (.int i2), .val (.int i3), .val (.int i4), .val (.int i5), .val (.int (1 : Int32)), .val (.ref b14_18), .val (.ref b19_19), .val (.ref b34_20), .val (.ref b49_21), .val (.ref b68_24), .val (.ref b83_25), .val (.ref b14_18), .val (.ref b14_18), .val (.ref b14_18), .val (.ref b14_18), .val (.ref b14_18), .val (.ref b171_28), .val (.int (1 : Int32)), .val (.int (0 : Int32)), .val (.int (0 : Int32)), .val (.int (1 : Int32)), .unset, .unset, .unset, .unset] [(.int (0 : Int32))]))
    refine g_istore X at_243 (pc' := 245) (Ls' := #[.val (.int i0), .val (.int i1), .val (.int i2), .val (.int i3), .val (.int i4), .val (.int i5), .val (.int (1 : Int32)), .val (.ref b14_18), .val (.ref b19_19), .val (.ref b34_20), .val (.ref b49_21), .val (.ref b68_24), .val (.ref b83_25), .val (.ref b14_18), .val (.ref b14_18), .val (.ref b14_18), .val (.ref b14_18), .val (.ref b14_18), .val (.ref b171_28), .val (.int (1 : Int32)), .val (.int (0 : Int32)), .val (.int (0 : Int32)), .val (.int (1 : Int32)), .val (.int (0 : Int32)), .unset, .unset, .unset]) rfl rfl ?_
    refine g_aload X at_245 (pc' := 247) rfl rfl rfl ?_
    refine g_iloadN X at_247 (pc' := 248) rfl rfl ?_
    refine g_i2d X at_248 (pc' := 249) rfl ?_
    refine g_aload X at_249 (pc' := 251) rfl rfl rfl ?_
    refine g_virtual X (W := 0) (a := b171_28) (C := "com/example/ryazan/ryazan/numeric/SweepLimit") [(.double (FP.i2d i3)), (.ref b14_18)] [] E_b171_28 (tb hw 17 rfl) (tb hw 18 rfl) (tb hw 20 rfl) (tb hw 19 rfl) (tb hw 3 rfl) (tb hw 21 rfl) (rR0 l Z aa hw [] b171_28 (FP.i2d i3) b14_18 (2 : Int32) ff31 dd31 pp31 _ n0 Z0 E_b171_28 F_b171_28_sweeps F_b171_28_fewest F_b171_28_narrowest F_b171_28_progressed E_b14_18 V_b14_18 E_ff31 V_ff31 g_b171_28 g_ff31 ne_b171_28_ff31 ne_b14_18_b171_28 ne_b14_18_ff31 hnr) at_251 (pc' := 254) rfl (by decide) (by decide) (by decide) rfl rfl rfl (lenOf pd_2 rfl) (Nat.le_refl _) (by decide) (by decide) ?_
    intro v T L X q
    obtain ⟨pp32, ff32, dd32, rfl, Nq, Kq, g_ff32, hal, E2, F2s, F2p, F2n, F2f, E_ff32, V_ff32, hnr⟩ := q
    replace N := N.app Nq
    have ne_b14_18_ff32 : b14_18 ≠ ff32 := ne_alias hal ne_b14_18_ff31 E_b14_18.lt
    have ne_b19_19_ff32 : b19_19 ≠ ff32 := ne_alias hal ne_b19_19_ff31 E_b19_19.lt
    have ne_b34_20_ff32 : b34_20 ≠ ff32 := ne_alias hal ne_b34_20_ff31 E_b34_20.lt
    have ne_b49_21_ff32 : b49_21 ≠ ff32 := ne_alias hal ne_b49_21_ff31 E_b49_21.lt
    have ne_b68_24_ff32 : b68_24 ≠ ff32 := ne_alias hal ne_b68_24_ff31 E_b68_24.lt
    have ne_b83_25_ff32 : b83_25 ≠ ff32 := ne_alias hal ne_b83_25_ff31 E_b83_25.lt
    have ne_b171_28_ff32 : b171_28 ≠ ff32 := fun q => ne_exa E2 E_ff32 (by decide) q
    replace E_b14_18 := E_b14_18.keep Kq
    replace V_b14_18 := V_b14_18.keep Kq (ninS ne_b14_18_b171_28 (ninS ne_b14_18_ff31 nin0))
    replace E_b19_19 := E_b19_19.keep Kq
    replace V_b19_19 := V_b19_19.keep Kq (ninS ne_b19_19_b171_28 (ninS ne_b19_19_ff31 nin0))
    replace E_b34_20 := E_b34_20.keep Kq
    replace V_b34_20 := V_b34_20.keep Kq (ninS ne_b34_20_b171_28 (ninS ne_b34_20_ff31 nin0))
    replace E_b49_21 := E_b49_21.keep Kq
    replace V_b49_21 := V_b49_21.keep Kq (ninS ne_b49_21_b171_28 (ninS ne_b49_21_ff31 nin0))
    replace E_b68_24 := E_b68_24.keep Kq
    replace V_b68_24 := V_b68_24.keep Kq (ninS ne_b68_24_b171_28 (ninS ne_b68_24_ff31 nin0))
    replace E_b83_25 := E_b83_25.keep Kq
    replace V_b83_25 := V_b83_25.keep Kq (ninS ne_b83_25_b171_28 (ninS ne_b83_25_ff31 nin0))
    replace Z0 := Nat.le_trans Z0 Kq.1
    replace E_b171_28 := E2; replace F_b171_28_sweeps := F2s; replace F_b171_28_progressed := F2p; replace F_b171_28_narrowest := F2n; replace F_b171_28_fewest := F2f
    have hnr := near_up hnr (by decide)
    replace F_b171_28_sweeps : Fld Z T.heap b171_28 "com/example/ryazan/ryazan/numeric/SweepLimit" "sweeps" "I" (.int (3 : Int32)) := F_b171_28_sweeps
    replace hnr : Near (3 : Int32) pp32 := hnr
    show Go p e below _ (T.setTop (mkF m 254 #[.val (.int i0), .val (.int i1), .val (.int i2), .val (.int i3), .val (.int i4), .val (.int i5), .val (.int (1 : Int32)), .val (.ref b14_18), .val (.ref b19_19), .val (.ref b34_20), .val (.ref b49_21), .val (.ref b68_24), .val (.ref b83_25), .val (.ref b14_18), .val (.ref b14_18), .val (.ref b14_18), .val (.ref b14_18), .val (.ref b14_18), .val (.ref b171_28), .val (.int (1 : Int32)), .val (.int (0 : Int32)), .val (.int (0 : Int32)), .val (.int (1 : Int32)), .val (.int (0 : Int32)), .unset, .unset, .unset] [(.int (0 : Int32))]))
    refine g_istore X at_254 (pc' := 256) (Ls' := #[.val (.int i0), .val (.int i1), .val (.int i2), .val (.int i3), .val (.int i4), .val (.int i5), .val (.int (1 : Int32)), .val (.ref b14_18), .val (.ref b19_19), .val (.ref b34_20), .val (.ref b49_21), .val (.ref b68_24), .val (.ref b83_25), .val (.ref b14_18), .val (.ref b14_18), .val (.ref b14_18), .val (.ref b14_18), .val (.ref b14_18), .val (.ref b171_28), .val (.int (1 : Int32)), .val (.int (0 : Int32)), .val (.int (0 : Int32)), .val (.int (1 : Int32)), .val (.int (0 : Int32)), .val (.int (0 : Int32)), .unset, .unset]) rfl rfl ?_
    refine g_aload X at_256 (pc' := 258) rfl rfl rfl ?_
    refine g_iloadN X at_258 (pc' := 259) rfl rfl ?_
    refine g_i2d X at_259 (pc' := 260) rfl ?_
    refine g_aload X at_260 (pc' := 262) rfl rfl rfl ?_
    refine g_virtual X (W := 0) (a := b171_28) (C := "com/example/ryazan/ryazan/numeric/SweepLimit") [(.double (FP.i2d i2)), (.ref b14_18)] [] E_b171_28 (tb hw 17 rfl) (tb hw 18 rfl) (tb hw 20 rfl) (tb hw 19 rfl) (tb hw 3 rfl) (tb hw 21 rfl) (rR0 l Z aa hw [] b171_28 (FP.i2d i2) b14_18 (3 : Int32) ff32 dd32 pp32 _ n0 Z0 E_b171_28 F_b171_28_sweeps F_b171_28_fewest F_b171_28_narrowest F_b171_28_progressed E_b14_18 V_b14_18 E_ff32 V_ff32 g_b171_28 g_ff32 ne_b171_28_ff32 ne_b14_18_b171_28 ne_b14_18_ff32 hnr) at_262 (pc' := 265) rfl (by decide) (by decide) (by decide) rfl rfl rfl (lenOf pd_2 rfl) (Nat.le_refl _) (by decide) (by decide) ?_
    intro v T L X q
    obtain ⟨pp33, ff33, dd33, rfl, Nq, Kq, g_ff33, hal, E2, F2s, F2p, F2n, F2f, E_ff33, V_ff33, hnr⟩ := q
    replace N := N.app Nq
    have ne_b14_18_ff33 : b14_18 ≠ ff33 := ne_alias hal ne_b14_18_ff32 E_b14_18.lt
    have ne_b19_19_ff33 : b19_19 ≠ ff33 := ne_alias hal ne_b19_19_ff32 E_b19_19.lt
    have ne_b34_20_ff33 : b34_20 ≠ ff33 := ne_alias hal ne_b34_20_ff32 E_b34_20.lt
    have ne_b49_21_ff33 : b49_21 ≠ ff33 := ne_alias hal ne_b49_21_ff32 E_b49_21.lt
    have ne_b68_24_ff33 : b68_24 ≠ ff33 := ne_alias hal ne_b68_24_ff32 E_b68_24.lt
    have ne_b83_25_ff33 : b83_25 ≠ ff33 := ne_alias hal ne_b83_25_ff32 E_b83_25.lt
    have ne_b171_28_ff33 : b171_28 ≠ ff33 := fun q => ne_exa E2 E_ff33 (by decide) q
    replace E_b14_18 := E_b14_18.keep Kq
    replace V_b14_18 := V_b14_18.keep Kq (ninS ne_b14_18_b171_28 (ninS ne_b14_18_ff32 nin0))
    replace E_b19_19 := E_b19_19.keep Kq
    replace V_b19_19 := V_b19_19.keep Kq (ninS ne_b19_19_b171_28 (ninS ne_b19_19_ff32 nin0))
    replace E_b34_20 := E_b34_20.keep Kq
    replace V_b34_20 := V_b34_20.keep Kq (ninS ne_b34_20_b171_28 (ninS ne_b34_20_ff32 nin0))
    replace E_b49_21 := E_b49_21.keep Kq
    replace V_b49_21 := V_b49_21.keep Kq (ninS ne_b49_21_b171_28 (ninS ne_b49_21_ff32 nin0))
    replace E_b68_24 := E_b68_24.keep Kq
    replace V_b68_24 := V_b68_24.keep Kq (ninS ne_b68_24_b171_28 (ninS ne_b68_24_ff32 nin0))
    replace E_b83_25 := E_b83_25.keep Kq
    replace V_b83_25 := V_b83_25.keep Kq (ninS ne_b83_25_b171_28 (ninS ne_b83_25_ff32 nin0))
    replace Z0 := Nat.le_trans Z0 Kq.1
    replace E_b171_28 := E2; replace F_b171_28_sweeps := F2s; replace F_b171_28_progressed := F2p; replace F_b171_28_narrowest := F2n; replace F_b171_28_fewest := F2f
    have hnr := near_up hnr (by decide)
    replace F_b171_28_sweeps : Fld Z T.heap b171_28 "com/example/ryazan/ryazan/numeric/SweepLimit" "sweeps" "I" (.int (4 : Int32)) := F_b171_28_sweeps
    replace hnr : Near (4 : Int32) pp33 := hnr
    show Go p e below _ (T.setTop (mkF m 265 #[.val (.int i0), .val (.int i1), .val (.int i2), .val (.int i3), .val (.int i4), .val (.int i5), .val (.int (1 : Int32)), .val (.ref b14_18), .val (.ref b19_19), .val (.ref b34_20), .val (.ref b49_21), .val (.ref b68_24), .val (.ref b83_25), .val (.ref b14_18), .val (.ref b14_18), .val (.ref b14_18), .val (.ref b14_18), .val (.ref b14_18), .val (.ref b171_28), .val (.int (1 : Int32)), .val (.int (0 : Int32)), .val (.int (0 : Int32)), .val (.int (1 : Int32)), .val (.int (0 : Int32)), .val (.int (0 : Int32)), .unset, .unset] [(.int (0 : Int32))]))
    refine g_istore X at_265 (pc' := 267) (Ls' := #[.val (.int i0), .val (.int i1), .val (.int i2), .val (.int i3), .val (.int i4), .val (.int i5), .val (.int (1 : Int32)), .val (.ref b14_18), .val (.ref b19_19), .val (.ref b34_20), .val (.ref b49_21), .val (.ref b68_24), .val (.ref b83_25), .val (.ref b14_18), .val (.ref b14_18), .val (.ref b14_18), .val (.ref b14_18), .val (.ref b14_18), .val (.ref b171_28), .val (.int (1 : Int32)), .val (.int (0 : Int32)), .val (.int (0 : Int32)), .val (.int (1 : Int32)), .val (.int (0 : Int32)), .val (.int (0 : Int32)), .val (.int (0 : Int32)), .unset]) rfl rfl ?_
    refine g_aload X at_267 (pc' := 269) rfl rfl rfl ?_
    refine g_virtual X (W := 0) (a := b171_28) (C := "com/example/ryazan/ryazan/numeric/SweepLimit") [] [] E_b171_28 (tb hw 12 rfl) (tb hw 13 rfl) (tb hw 15 rfl) (tb hw 14 rfl) (tb hw 3 rfl) (tb hw 16 rfl) (rSw l Z aa hw [] b171_28 (4 : Int32) _ E_b171_28 F_b171_28_sweeps) at_269 (pc' := 272) rfl (by decide) (by decide) (by decide) rfl rfl rfl (lenOf pd_1 rfl) (Nat.le_refl _) (by decide) (by decide) ?_
    intro v T L X q
    obtain ⟨rfl, X⟩ := pureX X q
    show Go p e below _ (T.setTop (mkF m 272 #[.val (.int i0), .val (.int i1), .val (.int i2), .val (.int i3), .val (.int i4), .val (.int i5), .val (.int (1 : Int32)), .val (.ref b14_18), .val (.ref b19_19), .val (.ref b34_20), .val (.ref b49_21), .val (.ref b68_24), .val (.ref b83_25), .val (.ref b14_18), .val (.ref b14_18), .val (.ref b14_18), .val (.ref b14_18), .val (.ref b14_18), .val (.ref b171_28), .val (.int (1 : Int32)), .val (.int (0 : Int32)), .val (.int (0 : Int32)), .val (.int (1 : Int32)), .val (.int (0 : Int32)), .val (.int (0 : Int32)), .val (.int (0 : Int32)), .unset] [(.int (4 : Int32))]))
    refine g_iconst X (4 : Int32) at_272 (pc' := 273) rfl rfl ?_
    refine g_icN X at_273 (teq (show (4 : Int32) = (4 : Int32) from (by decide))).2 (pc' := 276) rfl ?_
    refine g_iconst X (1 : Int32) at_276 (pc' := 277) rfl rfl ?_
    refine g_goto X at_277 (pc' := 281) (by decide) (by decide) ?_
    refine g_istore X at_281 (pc' := 283) (Ls' := #[.val (.int i0), .val (.int i1), .val (.int i2), .val (.int i3), .val (.int i4), .val (.int i5), .val (.int (1 : Int32)), .val (.ref b14_18), .val (.ref b19_19), .val (.ref b34_20), .val (.ref b49_21), .val (.ref b68_24), .val (.ref b83_25), .val (.ref b14_18), .val (.ref b14_18), .val (.ref b14_18), .val (.ref b14_18), .val (.ref b14_18), .val (.ref b171_28), .val (.int (1 : Int32)), .val (.int (0 : Int32)), .val (.int (0 : Int32)), .val (.int (1 : Int32)), .val (.int (0 : Int32)), .val (.int (0 : Int32)), .val (.int (0 : Int32)), .val (.int (1 : Int32))]) rfl rfl ?_
    refine g_iload X at_283 (pc' := 285) rfl rfl ?_
    refine g_ifN X at_285 ((if0 _ _).trans (feq (show ¬ ((1 : Int32) = (0 : Int32)) from (by decide))).1) (pc' := 288) rfl ?_
    refine g_iload X at_288 (pc' := 290) rfl rfl ?_
    refine g_ifN X at_290 ((if0 _ _).trans (feq (show ¬ ((1 : Int32) = (0 : Int32)) from (by decide))).1) (pc' := 293) rfl ?_
    refine g_iload X at_293 (pc' := 295) rfl rfl ?_
    refine g_ifN X at_295 ((if0 _ _).trans (feq (show ¬ ((1 : Int32) = (0 : Int32)) from (by decide))).1) (pc' := 298) rfl ?_
    refine g_iload X at_298 (pc' := 300) rfl rfl ?_
    refine g_ifN X at_300 ((if0 _ _).trans (teq (show (0 : Int32) = (0 : Int32) from (by decide))).2) (pc' := 303) rfl ?_
    refine g_iload X at_303 (pc' := 305) rfl rfl ?_
    refine g_ifN X at_305 ((if0 _ _).trans (teq (show (0 : Int32) = (0 : Int32) from (by decide))).2) (pc' := 308) rfl ?_
    refine g_iload X at_308 (pc' := 310) rfl rfl ?_
    refine g_ifN X at_310 ((if0 _ _).trans (teq (show (0 : Int32) = (0 : Int32) from (by decide))).2) (pc' := 313) rfl ?_
    refine g_iload X at_313 (pc' := 315) rfl rfl ?_
    refine g_ifN X at_315 ((if0 _ _).trans (teq (show (0 : Int32) = (0 : Int32) from (by decide))).2) (pc' := 318) rfl ?_
    refine g_iload X at_318 (pc' := 320) rfl rfl ?_
    refine g_ifN X at_320 ((if0 _ _).trans (teq (show (0 : Int32) = (0 : Int32) from (by decide))).2) (pc' := 323) rfl ?_
    refine g_iconst X (1 : Int32) at_323 (pc' := 324) rfl rfl ?_
    refine g_goto X at_324 (pc' := 328) (by decide) (by decide) ?_
    refine g_ireturnN X (t := .boolean) (by simp) at_328 hret hlk (by decide) (by decide) ?_
    exact ⟨rfl, N⟩
set_option maxRecDepth 65536 in
set_option maxHeartbeats 40000000 in
theorem comes_1 {Post : Tables → Env → Array Value → State → Outcome → State → Prop} (hpost : ∀ tb e args s v u, (limb_1_1.after args s (.returned v) u = true ∧ limb_1_2.after args s (.returned v) u = true ∧ True) → FrameEnd s (.returned v) u (Jvm.fieldLocs frame_1_writes args s ++ Jvm.arrayLocs frame_1_arrays args s ++ Jvm.staticLocs frame_1_statics s) 32 128 → Post tb e args s (.returned v) u) :
    ArmFor flags0 classFile x code maxLocals ret World_1 tables_1 room_1 Calls_1 rest_1 Pre_1 Post := by
  intro l hfl _ _ p e ha hc hk s m args below hf hA hF happ hP
  obtain ⟨hcalls, hrest, hpre⟩ := hP
  obtain ⟨-, -, -, hnamed, -, -, -, hat⟩ := (Spec.applies_iff hf).mp happ
  obtain ⟨hg, hn⟩ := and_e (Cond.before_iff.mp (show (Jvm.Cond.and given_1 narrow_1).before args s = true from hpre))
  obtain ⟨g1, g2⟩ := and_e hg
  obtain ⟨g3, g4⟩ := and_e g2
  obtain ⟨g5, g6⟩ := and_e g4
  obtain ⟨g7, g8⟩ := and_e g6
  obtain ⟨g9, g10⟩ := and_e g8
  obtain ⟨g11, g12⟩ := and_e g10
  obtain ⟨w0, w1, w2, w3, w4, w5, rfl⟩ : ∃ w0 w1 w2 w3 w4 w5 : Value, args = #[w0, w1, w2, w3, w4, w5] := by
    have hs : args.size = 6 := by simpa [Cond.value, given_1] using g1
    obtain ⟨L⟩ := args
    match L, hs with
    | [w0, w1, w2, w3, w4, w5], _ => exact ⟨w0, w1, w2, w3, w4, w5, rfl⟩
  have hw := fun d (hd : d ∈ tables_1) => atoms_spec (ws := Jvm.Cond.code x code maxLocals ret :: tables_1) hat d (List.mem_cons_of_mem _ hd)
  have hfit : Fit s := fun {y c} hc i hi => by
    obtain ⟨ha, rfl⟩ := Array.getElem?_eq_some_iff.mp hc
    have q := List.all_eq_true.mp ((Array.all_eq_true_iff_forall_mem.mp hF) _ (Array.getElem_mem ha)) i (List.mem_range.mpr hi)
    simpa [Array.getElem?_eq_getElem hi] using q
  obtain ⟨i0, ei0⟩ := is_v g3
  obtain rfl : w0 = (.int i0) := Option.some.inj ei0
  obtain ⟨i1, ei1⟩ := is_v g5
  obtain rfl : w1 = (.int i1) := Option.some.inj ei1
  obtain ⟨i2, ei2⟩ := is_v g7
  obtain rfl : w2 = (.int i2) := Option.some.inj ei2
  obtain ⟨i3, ei3⟩ := is_v g9
  obtain rfl : w3 = (.int i3) := Option.some.inj ei3
  obtain ⟨i4, ei4⟩ := is_v g11
  obtain rfl : w4 = (.int i4) := Option.some.inj ei4
  obtain ⟨i5, ei5⟩ := is_v g12
  obtain rfl : w5 = (.int i5) := Option.some.inj ei5
  obtain ⟨n, o, h1, h2, h3, _, L, rfl, ⟨rfl, N⟩, hq⟩ := rLaw l s _ hw tables_1 i0 i1 i2 i3 i4 i5 s.heap s.heap.size (Nat.le_refl _) p e ha hc hk s m _ below hf ((Spec.applies_iff_loose hf).mp happ).1 ⟨rfl, State.Warmed39.refl s, rfl⟩ trivial
  refine ⟨n, _, h1, h2, h3, hpost _ _ _ _ _ _ ⟨Cond.after_iff.mpr rfl, Cond.after_iff.mpr (eq_i res_at (Term.int_eval (1)) rfl), trivial⟩ ⟨hq.1, hq.2.1, (hq.2.2.sift fun y hy => Or.inr (N y hy)).mono (by decide) (by decide)⟩⟩
theorem main_1_1 : Claimed_1_1 := comes_1 fun _ _ _ _ _ _ h hF => ⟨h.1, hF⟩
theorem main_1_2 : Claimed_1_2 := comes_1 fun _ _ _ _ _ _ h hF => ⟨h.2.1, hF⟩
end Jvm.Pilot.@@N@@
namespace Jvm.Pilot.@@N@@
open Jvm Jvm.ClassFile Sem Op Lib Jvm.Free Jvm.Stand Jvm.Pilot.@@N@@.Jvm.D
/-! MADE BY PROGRAM (witnessworld.py) out of the Statement's table words and the real class files: 9 classes; the members and pool entries that the words name. The judged class is class 1, her method 1. -/
namespace start1
open Jvm.ClassFile
def u (s : String) : CpInfo := .utf8 (stringToUtf16 s)
/-- a pool by its gaps: so many unusable entries, then the entry; so many at the end -/
def gap : Nat → List CpInfo → List CpInfo
  | 0, r => r
  | n + 1, r => .unusable :: gap n r
def poolList (es : List (Nat × CpInfo)) (last : Nat) : List CpInfo := es.foldr (fun e r => gap e.1 (e.2 :: r)) (gap last [])
def pool (es : List (Nat × CpInfo)) (last : Nat) : Array CpInfo := ⟨poolList es last⟩
def fileOf (pool : Array CpInfo) (this : Nat) (attrs : Array Attribute := #[]) (ms : Array MethodInfo := #[]) (fl : Nat := 33) (sup : Nat := 0) (ifs : Array Nat := #[]) (fds : Array FieldInfo := #[]) : ClassFile where
  minorVersion := 0
  majorVersion := 65
  constantPool := pool
  accessFlags := fl
  thisClass := this
  superClass := sup
  interfaces := ifs
  fields := fds
  methods := ms
  attributes := attrs
def plain (name : String) (sup : Option ClassId) : Class where
  name := name
  kind := .ordinary
  loader := none
  accessFlags := 33
  super := sup
  interfaces := #[]
  cf := none
  fields := #[]
  methods := #[]
  instanceTypes := #[]
  staticTypes := #[]
  resolved := #[]
  callSites := []
  init := .initialized
  statics := none
  mirror := none

def pool0 : Array CpInfo := pool [(5, u "<init>"), (0, u "()V"), (1, .class_ 10), (1, u "java/lang/Object"), (85, u "clone"), (0, u "()Ljava/lang/Object;")] 26

def k0c0 : Code := { maxStack := 0, maxLocals := 1, code := object_method_1_code, exceptionTable := #[], attributes := #[] }
def k0m0 : Method := { name := "<init>", desc := "()V", sig := { parameters := [], returnType := none }, accessFlags := 1, code := some k0c0 }
def k0m1 : Method := { name := "clone", desc := "()Ljava/lang/Object;", sig := { parameters := [], returnType := some (.object "java/lang/Object") }, accessFlags := 260, code := none }
/-- java/lang/Object -/
def k0 : Class := { plain "java/lang/Object" none with
  accessFlags := 33
  interfaces := #[]
  cf := some (fileOf pool0 8 #[] #[{ accessFlags := 1, nameIndex := 5, descriptorIndex := 6, attributes := #[] }, { accessFlags := 260, nameIndex := 96, descriptorIndex := 97, attributes := #[] }] 33 0 #[] #[])
  fields := #[]
  methods := #[k0m0, k0m1]
  instanceTypes := #[]
  staticTypes := #[]
  resolved := Array.replicate 124 none
  statics := none }

def pool1 : Array CpInfo := pool [(2, .class_ 4), (0, .nameAndType 5 6), (0, u "java/lang/Object"), (0, u "<init>"), (0, u "()V"), (0, .class_ 8), (0, u "com/example/ryazan/ryazan/numeric/SweepLimit"), (0, .methodref 7 3), (0, .methodref 7 11), (0, .nameAndType 12 13), (0, u "sweeps"), (0, u "()I"), (0, .methodref 7 15), (0, .nameAndType 16 17), (0, u "reached"), (0, u "(D[I)Z"), (0, .class_ 19), (0, u "com/example/ryazan/ryazan/numeric/SweepLimitReachedPinLaw"), (2, u "law"), (0, u "(IIIIII)Z")] 5

def k1m0 : Method := { name := "<init>", desc := "()V", sig := { parameters := [], returnType := none }, accessFlags := 1, code := none }
def k1c1 : Code := { maxStack := 5, maxLocals := 27, code := code, exceptionTable := #[], attributes := #[] }
def k1m1 : Method := { name := "law", desc := "(IIIIII)Z", sig := { parameters := [.int, .int, .int, .int, .int, .int], returnType := some .boolean }, accessFlags := 9, code := some k1c1 }
/-- com/example/ryazan/ryazan/numeric/SweepLimitReachedPinLaw -/
def k1 : Class := { plain "com/example/ryazan/ryazan/numeric/SweepLimitReachedPinLaw" (some 0) with
  accessFlags := 49
  interfaces := #[]
  cf := some (fileOf pool1 18 #[] #[{ accessFlags := 1, nameIndex := 5, descriptorIndex := 6, attributes := #[] }, { accessFlags := 9, nameIndex := 22, descriptorIndex := 23, attributes := #[] }] 49 2 #[] #[])
  fields := #[]
  methods := #[k1m0, k1m1]
  instanceTypes := #[]
  staticTypes := #[]
  resolved := Array.replicate 29 none
  statics := none }

def pool2 : Array CpInfo := pool [(1, .methodref 2 3), (0, .class_ 4), (0, .nameAndType 5 6), (0, u "java/lang/Object"), (0, u "<init>"), (0, u "()V"), (0, .fieldref 8 9), (0, .class_ 10), (0, .nameAndType 11 12), (0, u "com/example/ryazan/ryazan/numeric/SweepLimit"), (0, u "sweeps"), (0, u "I"), (0, .fieldref 8 14), (0, .nameAndType 15 16), (0, u "fewest"), (0, u "[I"), (0, .fieldref 8 18), (0, .nameAndType 19 20), (0, u "narrowest"), (0, u "D"), (0, .methodref 22 23), (0, .class_ 16), (0, .nameAndType 24 25), (0, u "clone"), (0, u "()Ljava/lang/Object;"), (0, .fieldref 8 27), (0, .nameAndType 28 12), (0, u "progressed"), (2, .integer 1000000), (2, u "reached"), (0, u "(D[I)Z"), (1, u "()I")] 2

def k2c0 : Code := { maxStack := 2, maxLocals := 1, code := prog_113_method_1_code, exceptionTable := #[], attributes := #[] }
def k2m0 : Method := { name := "<init>", desc := "()V", sig := { parameters := [], returnType := none }, accessFlags := 1, code := some k2c0 }
def k2c1 : Code := { maxStack := 4, maxLocals := 5, code := prog_113_method_2_code, exceptionTable := #[], attributes := #[] }
def k2m1 : Method := { name := "reached", desc := "(D[I)Z", sig := { parameters := [.double, (.array .int)], returnType := some .boolean }, accessFlags := 129, code := some k2c1 }
def k2c2 : Code := { maxStack := 1, maxLocals := 1, code := prog_113_method_3_code, exceptionTable := #[], attributes := #[] }
def k2m2 : Method := { name := "sweeps", desc := "()I", sig := { parameters := [], returnType := some .int }, accessFlags := 1, code := some k2c2 }
/-- com/example/ryazan/ryazan/numeric/SweepLimit -/
def k2 : Class := { plain "com/example/ryazan/ryazan/numeric/SweepLimit" (some 0) with
  accessFlags := 33
  interfaces := #[]
  cf := some (fileOf pool2 8 #[] #[{ accessFlags := 1, nameIndex := 5, descriptorIndex := 6, attributes := #[] }, { accessFlags := 129, nameIndex := 34, descriptorIndex := 35, attributes := #[] }, { accessFlags := 1, nameIndex := 11, descriptorIndex := 37, attributes := #[] }] 33 2 #[] #[{ accessFlags := 2, nameIndex := 11, descriptorIndex := 12, attributes := #[] }, { accessFlags := 2, nameIndex := 19, descriptorIndex := 20, attributes := #[] }, { accessFlags := 2, nameIndex := 15, descriptorIndex := 16, attributes := #[] }, { accessFlags := 2, nameIndex := 28, descriptorIndex := 12, attributes := #[] }])
  fields := #[{ name := "sweeps", type := .int, accessFlags := 2, slot := 0, constantValue := 0 }, { name := "narrowest", type := .double, accessFlags := 2, slot := 1, constantValue := 0 }, { name := "fewest", type := (.array .int), accessFlags := 2, slot := 2, constantValue := 0 }, { name := "progressed", type := .int, accessFlags := 2, slot := 3, constantValue := 0 }]
  methods := #[k2m0, k2m1, k2m2]
  instanceTypes := #[.int, .double, (.array .int), .int]
  staticTypes := #[]
  resolved := Array.replicate 40 none
  statics := none }

def pool3 : Array CpInfo := pool [(1, .class_ 2), (0, u "java/lang/Cloneable"), (0, .class_ 4), (0, u "java/lang/Object")] 2

/-- java/lang/Cloneable -/
def k3 : Class := { plain "java/lang/Cloneable" (some 0) with
  accessFlags := 1537
  interfaces := #[]
  cf := some (fileOf pool3 1 #[] #[] 1537 3 #[] #[])
  fields := #[]
  methods := #[]
  instanceTypes := #[]
  staticTypes := #[]
  resolved := Array.replicate 7 none
  statics := none }

def pool4 : Array CpInfo := pool [(1, u "java/io/Serializable"), (0, .class_ 1), (0, u "java/lang/Object"), (0, .class_ 3)] 3

/-- java/io/Serializable -/
def k4 : Class := { plain "java/io/Serializable" (some 0) with
  accessFlags := 1537
  interfaces := #[]
  cf := some (fileOf pool4 2 #[] #[] 1537 4 #[] #[])
  fields := #[]
  methods := #[]
  instanceTypes := #[]
  staticTypes := #[]
  resolved := Array.replicate 8 none
  statics := none }

/-- the primitive byte -/
def k5 : Class := { plain "byte" none with kind := .primitive 'B', accessFlags := 0x411 }
/-- [B -/
def k6 : Class := { plain "[B" (some 0) with kind := .array 5 .byte, interfaces := #[3, 4], accessFlags := 1041 }

/-- the primitive int -/
def k7 : Class := { plain "int" none with kind := .primitive 'I', accessFlags := 0x411 }
/-- [I -/
def k8 : Class := { plain "[I" (some 0) with kind := .array 7 .int, interfaces := #[3, 4], accessFlags := 1041 }

def heap : Heap := #[]
def classes : Array Class := #[k0, k1, k2, k3, k4, k5, k6, k7, k8]
def interned : List (Array UInt16 × Addr) := []
def slotsUsed : Nat := 0
def theMethod : MethodId := ⟨1, 1⟩
def args0 : Array Value := #[.int 5, .int 7, .int 3, .int 9, .int 4, .int 8]
def aboutOver (below : List Frame) : State where
  vm := { classes := classes, interned := interned.toArray }
  heap := heap
  slotsUsed := slotsUsed
  threads := #[{ frames := .invoking theMethod args0 :: below }]
def below0 : List Frame := [.native { method := ⟨0, 0⟩, args := #[] }]
def about1 : State := aboutOver below0
def p0 : Program := .bare "" "" ""
def e0 : Env := launch0.env 0 0 0
theorem w_frames : about1.frames = Frame.invoking theMethod args0 :: below0 := rfl
set_option maxRecDepth 65536 in
theorem w_args : argsFit about1.vm theMethod args0 = true := by decide +kernel
set_option maxRecDepth 65536 in
theorem w_heap : heapFits about1 = true := by decide +kernel
set_option maxRecDepth 65536 in
theorem w_runnable : about1.curStatus? = some .runnable := by decide +kernel
set_option maxRecDepth 65536 in
theorem w_alone : about1.alone = true := by decide +kernel
set_option maxRecDepth 65536 in
theorem w_named : about1.methodNamed? x = some theMethod := by decide +kernel
set_option maxRecDepth 65536 in
theorem w_hears : about1.hears theMethod below0 = true := by decide +kernel
set_option maxRecDepth 65536 in
theorem w_ripe : about1.ripe theMethod args0 below0 = true := by decide +kernel
theorem w_running : about1.status = .running := rfl
set_option maxRecDepth 65536 in
theorem w_room : about1.hasRoom e0.platform room_1 = true :=
  launch0.hasRoom_least _ room_1 (by decide +kernel) (by decide +kernel) (by decide +kernel) (by decide +kernel) (by decide +kernel) (by decide +kernel)
theorem allAtoms_all (ts : List Jvm.Cond) (a : Array Jvm.Value) (st : Jvm.State) : (allAtoms ts).before a st = ts.all (fun c => c.before a st) := by
  induction ts with
  | nil => rfl
  | cons c t ih =>
    show (Jvm.Cond.and c (allAtoms t)).before a st = _
    rw [Jvm.Cond.before_and, ih, List.all_cons]
def words1 : List Jvm.Cond := Jvm.Cond.code x code maxLocals ret :: tables_1
/-- a 'code' word, met by the world's own term for the bytes: nothing is compared byte by byte -/
theorem code_word {y : MethodName} {bytes : ByteArray} {mx : Nat} {rt : Option FieldType} {a : Array Value} {s : State} {m : MethodId} {meth : Method} {c : Code} (h1 : s.methodNamed? y = some m) (h2 : s.vm.method? m = some meth) (h3 : meth.code = some c) (h4 : c.code = bytes)
    (h5 : (c.maxLocals == mx && c.exceptionTable.isEmpty && decide (c.maxStack ≤ mostOperands) && decide (meth.sig.returnType = rt) && !meth.locks && decide (parseMethodDescriptor y.desc = some meth.sig)) = true) : (Jvm.Cond.code y bytes mx rt).before a s = true := by
  simp only [Bool.and_eq_true, beq_iff_eq, Bool.not_eq_true', decide_eq_true_eq] at h5
  obtain ⟨⟨⟨⟨⟨g1, g2⟩, g3⟩, g4⟩, g5⟩, g6⟩ := h5
  simp [Cond.before, Cond.holds, Cond.value, h1, h2, h3, h4, g1, g2, g3, g4, g5, g6]
def isCode : Jvm.Cond → Bool
  | .code _ _ _ _ => true
  | _ => false
theorem all_split {L : List Jvm.Cond} {P : Jvm.Cond → Bool} (h1 : L.all (fun c => isCode c || P c) = true) (h2 : ∀ c ∈ L.filter isCode, P c = true) : L.all P = true := by
  refine List.all_eq_true.mpr fun c hc => ?_
  have h := List.all_eq_true.mp h1 c hc
  rcases Bool.eq_false_or_eq_true (isCode c) with hi | hi
  · exact h2 c (List.mem_filter.mpr ⟨hc, hi⟩)
  · simpa [hi] using h
set_option maxRecDepth 65536 in
theorem w_c0 : (Jvm.Cond.code x code maxLocals ret).before args0 about1 = true := code_word (m := ⟨1, 1⟩) (meth := k1m1) (c := k1c1) (by decide +kernel) rfl rfl rfl (by decide +kernel)
set_option maxRecDepth 65536 in
theorem w_c1 : (Jvm.Cond.code ({ cls := "com/example/ryazan/ryazan/numeric/SweepLimit", name := "<init>", desc := "()V" } : Jvm.MethodName) prog_113_method_1_code (1 : Nat) (Option.none : Option Jvm.ClassFile.FieldType)).before args0 about1 = true := code_word (m := ⟨2, 0⟩) (meth := k2m0) (c := k2c0) (by decide +kernel) rfl rfl rfl (by decide +kernel)
set_option maxRecDepth 65536 in
theorem w_c2 : (Jvm.Cond.code ({ cls := "java/lang/Object", name := "<init>", desc := "()V" } : Jvm.MethodName) object_method_1_code (1 : Nat) (Option.none : Option Jvm.ClassFile.FieldType)).before args0 about1 = true := code_word (m := ⟨0, 0⟩) (meth := k0m0) (c := k0c0) (by decide +kernel) rfl rfl rfl (by decide +kernel)
set_option maxRecDepth 65536 in
theorem w_c3 : (Jvm.Cond.code ({ cls := "com/example/ryazan/ryazan/numeric/SweepLimit", name := "sweeps", desc := "()I" } : Jvm.MethodName) prog_113_method_3_code (1 : Nat) (Option.some Jvm.ClassFile.FieldType.int)).before args0 about1 = true := code_word (m := ⟨2, 2⟩) (meth := k2m2) (c := k2c2) (by decide +kernel) rfl rfl rfl (by decide +kernel)
set_option maxRecDepth 65536 in
theorem w_c4 : (Jvm.Cond.code ({ cls := "com/example/ryazan/ryazan/numeric/SweepLimit", name := "reached", desc := "(D[I)Z" } : Jvm.MethodName) prog_113_method_2_code (5 : Nat) (Option.some Jvm.ClassFile.FieldType.boolean)).before args0 about1 = true := code_word (m := ⟨2, 1⟩) (meth := k2m1) (c := k2c1) (by decide +kernel) rfl rfl rfl (by decide +kernel)
def codes1 : List Jvm.Cond := [Jvm.Cond.code x code maxLocals ret, Jvm.Cond.code ({ cls := "com/example/ryazan/ryazan/numeric/SweepLimit", name := "<init>", desc := "()V" } : Jvm.MethodName) prog_113_method_1_code (1 : Nat) (Option.none : Option Jvm.ClassFile.FieldType), Jvm.Cond.code ({ cls := "java/lang/Object", name := "<init>", desc := "()V" } : Jvm.MethodName) object_method_1_code (1 : Nat) (Option.none : Option Jvm.ClassFile.FieldType), Jvm.Cond.code ({ cls := "com/example/ryazan/ryazan/numeric/SweepLimit", name := "sweeps", desc := "()I" } : Jvm.MethodName) prog_113_method_3_code (1 : Nat) (Option.some Jvm.ClassFile.FieldType.int), Jvm.Cond.code ({ cls := "com/example/ryazan/ryazan/numeric/SweepLimit", name := "reached", desc := "(D[I)Z" } : Jvm.MethodName) prog_113_method_2_code (5 : Nat) (Option.some Jvm.ClassFile.FieldType.boolean)]
set_option maxRecDepth 65536 in
theorem codes_eq : words1.filter isCode = codes1 := rfl
theorem w_codes : ∀ c ∈ words1.filter isCode, c.before args0 about1 = true := by
  rw [codes_eq]
  intro c hc
  simp only [codes1, List.mem_cons, List.not_mem_nil, or_false] at hc
  rcases hc with rfl | rfl | rfl | rfl | rfl
  · exact w_c0
  · exact w_c1
  · exact w_c2
  · exact w_c3
  · exact w_c4
set_option maxRecDepth 65536 in
theorem w_t1 : (words1.take 24).all (fun c => isCode c || c.before args0 about1) = true := by decide +kernel
set_option maxRecDepth 65536 in
theorem w_t2 : (words1.drop 24).all (fun c => isCode c || c.before args0 about1) = true := by decide +kernel
theorem w_tables : (allAtoms (Jvm.Cond.code x code maxLocals ret :: tables_1)).before args0 about1 = true := by
  rw [allAtoms_all]
  show words1.all (fun c => c.before args0 about1) = true
  refine all_split ?_ w_codes
  rw [← List.take_append_drop 24 words1, List.all_append, w_t1, w_t2]
  rfl
set_option maxRecDepth 65536 in
theorem w_case : (Jvm.Cond.and given_1 narrow_1).before args0 about1 = true := by decide +kernel
theorem w_applies : (headSpec (Jvm.Cond.code x code maxLocals ret :: tables_1) room_1).applies x e0.platform about1 = true :=
  (Spec.applies_iff w_frames).mpr ⟨w_running, w_runnable, w_alone, w_named, w_hears, w_ripe, w_room, w_tables⟩
theorem atStart : AtStart classFile x code maxLocals ret World_1 tables_1 room_1 Calls_1 rest_1 Pre_1 launch0 p0 e0 about1 theMethod args0 below0 :=
  ⟨lists_1, trivial, launch0.admits_env _ _ _, launch0.least_env, fairChoices_fair.cas, fairChoices_fair.clock, w_frames, w_args, w_heap, w_applies, trivial, trivial, w_case⟩
end start1
theorem witness_1 : WitnessClaimed_1 := ⟨start1.p0, start1.e0, start1.about1, start1.theMethod, start1.args0, start1.below0, start1.atStart⟩
end Jvm.Pilot.@@N@@
