import JvmDerived
import JvmDerived.Pilot.@@N@@Statement
import JvmDerived.Pilot.@@N@@Code
set_option linter.unusedVariables false
set_option linter.unusedSimpArgs false
namespace Jvm.RoadKit
open Sem ClassFile Op Lib Jvm.Stand Jvm.Free Jvm.LawKit
section New
variable {p : Program} {l : Launch} {e : Env} {R : Room} {s : State} {m : MethodId} {args : Array Value} {below : List Frame} {meth : Method} {c : Code} {T : State} {locs : List Loc} {cells slots : Nat}
theorem retI (X : Stand p l e R s m args below meth c T locs cells slots) (hx : p.tables.exec = Jvm.exec) {pc : Nat} {Ls : Array Slot} {z : Int32} {rest : List Value} (hret : meth.sig.returnType = some .int) (hd : decode c.code pc = .ok (.ireturn, 1)) {fs : List Frame}
    (hl : ∀ (f : JFrame) (acts : List Action), f.method = m → f.locked = none → f.entered = [] → (doReturn e (T.setTop f) acts (some (.int z))).1 = T.setFrames fs) : Steps p.tables e below (T.setTop (mkF m pc Ls (.int z :: rest))) (T.setFrames fs) := by
  have hm' : T.vm.method? m = some meth := X.method'
  have hn : narrow .int (.int z) = .int z := rfl
  show Steps p.tables e below (T.setTop { method := m, pc := pc, locals := Ls, stack := _ :: rest, locked := none }) _
  jvm_step X.here [X.here.top, hx, hd, hm', hret, hn]
  first | (intro acts; rw [hl _ acts rfl rfl rfl]) | rw [hl _ _ rfl rfl rfl]
  exact Steps.refl _
theorem retJ (X : Stand p l e R s m args below meth c T locs cells slots) (hx : p.tables.exec = Jvm.exec) {pc : Nat} {Ls : Array Slot} {z : Int64} {rest : List Value} (hret : meth.sig.returnType = some .long) (hd : decode c.code pc = .ok (.lreturn, 1)) {fs : List Frame}
    (hl : ∀ (f : JFrame) (acts : List Action), f.method = m → f.locked = none → f.entered = [] → (doReturn e (T.setTop f) acts (some (.long z))).1 = T.setFrames fs) : Steps p.tables e below (T.setTop (mkF m pc Ls (.long z :: rest))) (T.setFrames fs) := by
  have hm' : T.vm.method? m = some meth := X.method'
  have hn : narrow .long (.long z) = .long z := rfl
  show Steps p.tables e below (T.setTop { method := m, pc := pc, locals := Ls, stack := _ :: rest, locked := none }) _
  jvm_step X.here [X.here.top, hx, hd, hm', hret, hn]
  first | (intro acts; rw [hl _ acts rfl rfl rfl]) | rw [hl _ _ rfl rfl rfl]
  exact Steps.refl _
end New
end Jvm.RoadKit
namespace Jvm.Pilot.@@N@@
open Jvm Jvm.ClassFile Sem Op Lib Jvm.Free Jvm.Stand Jvm.LawKit Jvm.RoadKit Bundle Jvm.Pilot.@@N@@.Jvm.D
/-! THE WALK's GOAL, AND ONE LAW A STEP (each in the form: where the run goes on, it ends well; so it does from here) -/
def Go (p : Program) (e : Env) (below : List Frame) (K : Outcome → State → Prop) (u : State) : Prop := ∃ s₂ o, Steps p.tables e below u s₂ ∧ s₂.status = .running ∧ Ended s₂ below o ∧ K o s₂
theorem Go.step {p : Program} {e : Env} {below : List Frame} {K : Outcome → State → Prop} {u u' : State} (h : ∀ t, Steps p.tables e below u' t → Steps p.tables e below u t) (g : Go p e below K u') : Go p e below K u := by
  obtain ⟨a, o, h1, h2⟩ := g; exact ⟨a, o, h _ h1, h2⟩
def Ends (s : State) (Q : Option Value → Heap → List Loc → Prop) (kc ks : Nat) (o : Outcome) (U : State) : Prop := ∃ v L, o = .returned v ∧ Q v U.heap L ∧ FrameEnd s o U L kc ks
/-- where the run stands, with all that a step asks -/
def Sx (Z : State) (own : String) (bytes : ByteArray) (ml : Nat) (p : Program) (l : Launch) (e : Env) (R : Room) (s : State) (m : MethodId) (args : Array Value) (below : List Frame) (meth : Method) (c : Code) (T : State) (locs : List Loc) (cells slots : Nat) (h : Heap) : Prop :=
  Stand p l e R s m args below meth c T locs cells slots ∧ p.tables.exec = Jvm.exec ∧ c.code = bytes ∧ c.maxLocals = ml ∧ s.vm.findClass own = some m.cls ∧ Z.Warmed39 s.vm ∧ T.heap = h
/-- what a method owes: called at the heap h0 with these arguments it returns, and Q holds -/
abbrev Rm (l : Launch) (Z : State) (y : MethodName) (bytes : ByteArray) (ml : Nat) (ret : Option FieldType) (ws : List Jvm.Cond) (rm : Room) (as' : Array Value) (h0 : Heap) (Q : Option Value → Heap → List Loc → Prop) : Prop :=
  MetFree l y (head1 (Jvm.Cond.code y bytes ml ret :: ws) rm) (fun a U => a = as' ∧ Z.Warmed39 U.vm ∧ U.heap = h0) (fun _ _ _ _ _ => True) (fun _ U o U' => ∃ v L, o = .returned v ∧ Q v U'.heap L ∧ FrameEnd U o U' L rm.cells rm.slots)
theorem Rm.of {l : Launch} {Z : State} {y : MethodName} {bytes : ByteArray} {ml : Nat} {ret : Option FieldType} {ws : List Jvm.Cond} {rm : Room} {as' : Array Value} {h0 : Heap} {Q : Option Value → Heap → List Loc → Prop} (hpl : plainFor y = true)
    (body : ∀ (p : Program) (e : Env) (s : State) (m : MethodId) (below : List Frame) (meth : Method) (c : Code) (T : State), Sx Z y.cls bytes ml p l e rm s m as' below meth c T [] 0 0 h0 → meth.name = y.name → meth.sig.returnType = ret → meth.locks = false → Go p e below (Ends s Q rm.cells rm.slots) (T.setTop (entryFrame m as' ml))) : Rm l Z y bytes ml ret ws rm as' h0 Q := by
  refine MetFree.of_bodySF hpl hisR ?_
  intro p e s m args below meth c s₁ Bd hml0 hP hK
  obtain ⟨rfl, hZ, hh⟩ := hP
  have X0 : Stand p l e rm s m args below meth c s₁ [] 0 0 := Stand.of_body Bd
  exact body p e s m below meth c s₁ ⟨X0, Bd.exec, Bd.bytes, hml0, findClass_of_methodNamed Bd.named, hZ, by rw [← hh, Bd.state]; rfl⟩ (name_of_methodNamed Bd.named Bd.method).1 Bd.returns (BodyLoose.notSynchronized Bd)
theorem Fr.one {k : Nat} {a : Addr} {sl : Nat} (g : k ≤ a) : Fr k [⟨a, sl⟩] := fun y hy => by cases List.mem_singleton.mp hy; exact g
/-- an array and all that it holds -/
def Av (Z : State) (h : Heap) (a : Addr) (ty : FieldType) (vs : List Value) : Prop := ∃ c : Cell, Arr Z h a c ty ∧ c.slots.toList = vs ∧ vs.length < 2147483648
section Facts
variable {Z : State} {h h' : Heap} {a b : Addr} {ty : FieldType} {vs : List Value} {sl : Nat} {v : Value} {ws : List Addr}
theorem Av.lt (F : Av Z h a ty vs) : a < h.size := by obtain ⟨c, A, -⟩ := F; exact A.lt
theorem Av.ext (F : Av Z h a ty vs) (E : Ext h h') : Av Z h' a ty vs := by obtain ⟨c, A, r⟩ := F; exact ⟨c, A.ext E, r⟩
theorem Av.other (F : Av Z h b ty vs) (W : Wr h h' a sl v) (q : b ≠ a) : Av Z h' b ty vs := by obtain ⟨c, A, r⟩ := F; exact ⟨c, A.other W q, r⟩
theorem Av.keep (F : Av Z h a ty vs) (K : Keep h h' ws) (q : a ∉ ws) : Av Z h' a ty vs := by obtain ⟨c, A, r⟩ := F; exact ⟨c, ⟨K.2.1 a c A.1 q, A.2⟩, r⟩
theorem Av.set (F : Av Z h a ty vs) (W : Wr h h' a sl v) : Av Z h' a ty (vs.set sl v) := by
  obtain ⟨c, A, e, r⟩ := F
  refine ⟨_, A.same W, ?_, by simpa using r⟩
  subst e
  simp [Cell.setSlot]
theorem Av.eq {vs' : List Value} (F : Av Z h a ty vs) (e : vs = vs') : Av Z h a ty vs' := e ▸ F
/-- an array of which the length is known alone -/
def AvN (Z : State) (h : Heap) (a : Addr) (ty : FieldType) (z : Int32) : Prop := ∃ vs, Av Z h a ty vs ∧ vs.length.toInt32 = z
theorem AvN.lt {z : Int32} (F : AvN Z h a ty z) : a < h.size := by obtain ⟨vs, A, -⟩ := F; exact A.lt
theorem AvN.ext {z : Int32} (F : AvN Z h a ty z) (E : Ext h h') : AvN Z h' a ty z := by obtain ⟨vs, A, r⟩ := F; exact ⟨vs, A.ext E, r⟩
theorem AvN.other {z : Int32} (F : AvN Z h b ty z) (W : Wr h h' a sl v) (q : b ≠ a) : AvN Z h' b ty z := by obtain ⟨vs, A, r⟩ := F; exact ⟨vs, A.other W q, r⟩
theorem AvN.keep {z : Int32} (F : AvN Z h a ty z) (K : Keep h h' ws) (q : a ∉ ws) : AvN Z h' a ty z := by obtain ⟨vs, A, r⟩ := F; exact ⟨vs, A.keep K q, r⟩
/-- an array over objects of the class C -/
def OvA (Z : State) (h : Heap) (a : Addr) (C : String) : Prop := ∃ cl : Cell, Arr Z h a cl (.object C) ∧ Ovr Z cl.cls C
theorem OvA.lt {C : String} (F : OvA Z h a C) : a < h.size := by obtain ⟨_, A, _⟩ := F; exact A.lt
theorem OvA.ext {C : String} (F : OvA Z h a C) (E : Ext h h') : OvA Z h' a C := by obtain ⟨cl, A, r⟩ := F; exact ⟨cl, A.ext E, r⟩
theorem OvA.keep {C : String} (F : OvA Z h a C) (K : Keep h h' ws) (q : a ∉ ws) : OvA Z h' a C := by obtain ⟨c, A, r⟩ := F; exact ⟨c, ⟨K.2.1 a c A.1 q, A.2⟩, r⟩
theorem OvA.wr {C : String} (F : OvA Z h a C) (W : Wr h h' b sl v) : OvA Z h' a C := by
  obtain ⟨cl, A, r⟩ := F
  by_cases q : a = b
  · subst q; exact ⟨_, A.same W, r⟩
  · exact ⟨cl, A.other W q, r⟩
theorem Sta.keep {C n d : String} (F : Sta Z h C n d v) (K : Keep h h' ws) (q : ∀ x ∈ ws, ∀ c : Cell, h[x]? = some c → c.vm.isStatics = false) : Sta Z h' C n d v := by
  obtain ⟨cf, i, k, f, st, cell, h1, h2, h3, h4, h5, h6, h7⟩ := F
  exact ⟨cf, i, k, f, st, cell, h1, h2, h3, h4, K.2.1 _ _ h5 (fun hm => by rw [q _ hm _ h5] at h6; cases h6), h6, h7⟩
end Facts
section Walk
variable {Z : State} {a0 : Array Value} {own : String} {bytes : ByteArray} {ml : Nat} {p : Program} {l : Launch} {e : Env} {R : Room} {s : State} {m : MethodId} {args : Array Value} {below : List Frame} {meth : Method} {c : Code} {T : State} {locs : List Loc} {cells slots : Nat} {h : Heap} {K : Outcome → State → Prop} {pc pc' : Nat} {Ls Ls' : Array Slot} {st : List Value}
theorem Go.lit32 {x z : Int32} (q : x = z) (k : Go p e below K (T.setTop (mkF m pc Ls (.int z :: st)))) : Go p e below K (T.setTop (mkF m pc Ls (.int x :: st))) := q ▸ k
theorem Go.lit64 {x z : Int64} (q : x = z) (k : Go p e below K (T.setTop (mkF m pc Ls (.long z :: st)))) : Go p e below K (T.setTop (mkF m pc Ls (.long x :: st))) := q ▸ k
theorem Go.at_ {f f' : JFrame} (q : f = f') (k : Go p e below K (T.setTop f')) : Go p e below K (T.setTop f) := q ▸ k
theorem g_iload (X : Sx Z own bytes ml p l e R s m args below meth c T locs cells slots h) {i : Nat} {v : Int32} (hd : decode bytes pc = .ok (.iload i, 2)) (hp : pc + 2 = pc') (hl : Ls[i]? = some (.val (.int v))) (k : Go p e below K (T.setTop (mkF m pc' Ls (.int v :: st)))) : Go p e below K (T.setTop (mkF m pc Ls (st))) := by
  subst hp; exact Go.step (fun t q => XS.iload X.1.here X.2.1 rfl (hb X.2.2.1 hd) hl q) k
theorem g_iloadN (X : Sx Z own bytes ml p l e R s m args below meth c T locs cells slots h) {i : Fin 4} {v : Int32} (hd : decode bytes pc = .ok (.iload_n i, 1)) (hp : pc + 1 = pc') (hl : Ls[i.val]? = some (.val (.int v))) (k : Go p e below K (T.setTop (mkF m pc' Ls (.int v :: st)))) : Go p e below K (T.setTop (mkF m pc Ls (st))) := by
  subst hp; exact Go.step (fun t q => XS.iloadN X.1.here X.2.1 rfl (hb X.2.2.1 hd) hl q) k
theorem g_lloadN (X : Sx Z own bytes ml p l e R s m args below meth c T locs cells slots h) {i : Fin 4} {v : Int64} (hd : decode bytes pc = .ok (.lload_n i, 1)) (hp : pc + 1 = pc') (hl : Ls[i.val]? = some (.val (.long v))) (k : Go p e below K (T.setTop (mkF m pc' Ls (.long v :: st)))) : Go p e below K (T.setTop (mkF m pc Ls (st))) := by
  subst hp; exact Go.step (fun t q => XS.lloadN X.1.here X.2.1 rfl (hb X.2.2.1 hd) hl q) k
theorem g_aload (X : Sx Z own bytes ml p l e R s m args below meth c T locs cells slots h) {i : Nat} {v : Value} (hd : decode bytes pc = .ok (.aload i, 2)) (hp : pc + 2 = pc') (hl : Ls[i]? = some (.val v)) (hv : v.isRef = true) (k : Go p e below K (T.setTop (mkF m pc' Ls (v :: st)))) : Go p e below K (T.setTop (mkF m pc Ls (st))) := by
  subst hp; exact Go.step (fun t q => XS.aload X.1.here X.2.1 rfl (hb X.2.2.1 hd) hl hv q) k
theorem g_aloadN (X : Sx Z own bytes ml p l e R s m args below meth c T locs cells slots h) {i : Fin 4} {v : Value} (hd : decode bytes pc = .ok (.aload_n i, 1)) (hp : pc + 1 = pc') (hl : Ls[i.val]? = some (.val v)) (hv : v.isRef = true) (k : Go p e below K (T.setTop (mkF m pc' Ls (v :: st)))) : Go p e below K (T.setTop (mkF m pc Ls (st))) := by
  subst hp; exact Go.step (fun t q => XS.aloadN X.1.here X.2.1 rfl (hb X.2.2.1 hd) hl hv q) k
theorem g_istore (X : Sx Z own bytes ml p l e R s m args below meth c T locs cells slots h) {i : Nat} {v : Int32} (hd : decode bytes pc = .ok (.istore i, 2)) (hp : pc + 2 = pc') (hl : storeLocals Ls i (.int v) = some Ls') (k : Go p e below K (T.setTop (mkF m pc' Ls' (st)))) : Go p e below K (T.setTop (mkF m pc Ls (.int v :: st))) := by
  subst hp; exact Go.step (fun t q => XS.istore X.1.here X.2.1 rfl (hb X.2.2.1 hd) rfl hl q) k
theorem g_istoreN (X : Sx Z own bytes ml p l e R s m args below meth c T locs cells slots h) {i : Fin 4} {v : Int32} (hd : decode bytes pc = .ok (.istore_n i, 1)) (hp : pc + 1 = pc') (hl : storeLocals Ls i.val (.int v) = some Ls') (k : Go p e below K (T.setTop (mkF m pc' Ls' (st)))) : Go p e below K (T.setTop (mkF m pc Ls (.int v :: st))) := by
  subst hp; exact Go.step (fun t q => XS.istoreN X.1.here X.2.1 rfl (hb X.2.2.1 hd) rfl hl q) k
theorem g_astore (X : Sx Z own bytes ml p l e R s m args below meth c T locs cells slots h) {i : Nat} {v : Value} (hd : decode bytes pc = .ok (.astore i, 2)) (hp : pc + 2 = pc') (hv : v.isRef = true) (hl : storeLocals Ls i v = some Ls') (k : Go p e below K (T.setTop (mkF m pc' Ls' (st)))) : Go p e below K (T.setTop (mkF m pc Ls (v :: st))) := by
  subst hp; exact Go.step (fun t q => XS.astore X.1.here X.2.1 rfl (hb X.2.2.1 hd) rfl hv hl q) k
theorem g_astoreN (X : Sx Z own bytes ml p l e R s m args below meth c T locs cells slots h) {i : Fin 4} {v : Value} (hd : decode bytes pc = .ok (.astore_n i, 1)) (hp : pc + 1 = pc') (hv : v.isRef = true) (hl : storeLocals Ls i.val v = some Ls') (k : Go p e below K (T.setTop (mkF m pc' Ls' (st)))) : Go p e below K (T.setTop (mkF m pc Ls (v :: st))) := by
  subst hp; exact Go.step (fun t q => XS.astoreN X.1.here X.2.1 rfl (hb X.2.2.1 hd) rfl hv hl q) k
theorem g_iconst (X : Sx Z own bytes ml p l e R s m args below meth c T locs cells slots h) {i : Int} (v : Int32) (hd : decode bytes pc = .ok (.iconst i, 1)) (hp : pc + 1 = pc') (hv : Int32.ofInt i = v) (k : Go p e below K (T.setTop (mkF m pc' Ls (.int v :: st)))) : Go p e below K (T.setTop (mkF m pc Ls (st))) := by
  subst hv; subst hp; exact Go.step (fun t q => XS.iconst X.1.here X.2.1 rfl (hb X.2.2.1 hd)  q) k
theorem g_bipush (X : Sx Z own bytes ml p l e R s m args below meth c T locs cells slots h) {i : Int} (v : Int32) (hd : decode bytes pc = .ok (.bipush i, 2)) (hp : pc + 2 = pc') (hv : (Int8.ofInt i).toInt32 = v) (k : Go p e below K (T.setTop (mkF m pc' Ls (.int v :: st)))) : Go p e below K (T.setTop (mkF m pc Ls (st))) := by
  subst hv; subst hp; exact Go.step (fun t q => XS.bipush X.1.here X.2.1 rfl (hb X.2.2.1 hd)  q) k
theorem g_sipush (X : Sx Z own bytes ml p l e R s m args below meth c T locs cells slots h) {i : Int} (v : Int32) (hd : decode bytes pc = .ok (.sipush i, 3)) (hp : pc + 3 = pc') (hv : (Int16.ofInt i).toInt32 = v) (k : Go p e below K (T.setTop (mkF m pc' Ls (.int v :: st)))) : Go p e below K (T.setTop (mkF m pc Ls (st))) := by
  subst hv; subst hp; exact Go.step (fun t q => XS.sipush X.1.here X.2.1 rfl (hb X.2.2.1 hd)  q) k
theorem g_aconst_null (X : Sx Z own bytes ml p l e R s m args below meth c T locs cells slots h) (hd : decode bytes pc = .ok (.aconst_null, 1)) (hp : pc + 1 = pc') (k : Go p e below K (T.setTop (mkF m pc' Ls (.null :: st)))) : Go p e below K (T.setTop (mkF m pc Ls (st))) := by
  subst hp; exact Go.step (fun t q => XS.aconstNull X.1.here X.2.1 rfl (hb X.2.2.1 hd)  q) k
theorem g_ldc (X : Sx Z own bytes ml p l e R s m args below meth c T locs cells slots h) {i : Nat} {v : Int32} (w : (Cond.constant own i v).before a0 Z = true) (hd : decode bytes pc = .ok (.ldc i, 2)) (hp : pc + 2 = pc') (k : Go p e below K (T.setTop (mkF m pc' Ls (.int v :: st)))) : Go p e below K (T.setTop (mkF m pc Ls (st))) := by
  subst hp; exact Go.step (fun t q => X.1.ldcInt X.2.1 X.2.2.2.2.1 (mvT X.2.2.2.2.2.1 w) (g := mkF m pc Ls st) rfl (hb X.2.2.1 hd) _ q) k
theorem g_ldc2 (X : Sx Z own bytes ml p l e R s m args below meth c T locs cells slots h) {i : Nat} {v : Int64} (w : (Cond.constantLong own i v).before a0 Z = true) (hd : decode bytes pc = .ok (.ldc2_w i, 3)) (hp : pc + 3 = pc') (k : Go p e below K (T.setTop (mkF m pc' Ls (.long v :: st)))) : Go p e below K (T.setTop (mkF m pc Ls (st))) := by
  subst hp; exact Go.step (fun t q => X.1.ldc2Long X.2.1 X.2.2.2.2.1 (mvT X.2.2.2.2.2.1 w) (g := mkF m pc Ls st) rfl (hb X.2.2.1 hd) _ q) k
theorem g_iadd (X : Sx Z own bytes ml p l e R s m args below meth c T locs cells slots h) {x y : Int32} (hd : decode bytes pc = .ok (.iadd, 1)) (hp : pc + 1 = pc') (k : Go p e below K (T.setTop (mkF m pc' Ls (.int (x + y) :: st)))) : Go p e below K (T.setTop (mkF m pc Ls (.int y :: .int x :: st))) := by
  subst hp; exact Go.step (fun t q => XS.iadd X.1.here X.2.1 rfl (hb X.2.2.1 hd) rfl q) k
theorem g_isub (X : Sx Z own bytes ml p l e R s m args below meth c T locs cells slots h) {x y : Int32} (hd : decode bytes pc = .ok (.isub, 1)) (hp : pc + 1 = pc') (k : Go p e below K (T.setTop (mkF m pc' Ls (.int (x - y) :: st)))) : Go p e below K (T.setTop (mkF m pc Ls (.int y :: .int x :: st))) := by
  subst hp; exact Go.step (fun t q => XS.isub X.1.here X.2.1 rfl (hb X.2.2.1 hd) rfl q) k
theorem g_iand (X : Sx Z own bytes ml p l e R s m args below meth c T locs cells slots h) {x y : Int32} (hd : decode bytes pc = .ok (.iand, 1)) (hp : pc + 1 = pc') (k : Go p e below K (T.setTop (mkF m pc' Ls (.int (x &&& y) :: st)))) : Go p e below K (T.setTop (mkF m pc Ls (.int y :: .int x :: st))) := by
  subst hp; exact Go.step (fun t q => XS.iand X.1.here X.2.1 rfl (hb X.2.2.1 hd) rfl q) k
theorem g_ior (X : Sx Z own bytes ml p l e R s m args below meth c T locs cells slots h) {x y : Int32} (hd : decode bytes pc = .ok (.ior, 1)) (hp : pc + 1 = pc') (k : Go p e below K (T.setTop (mkF m pc' Ls (.int (x ||| y) :: st)))) : Go p e below K (T.setTop (mkF m pc Ls (.int y :: .int x :: st))) := by
  subst hp; exact Go.step (fun t q => XS.ior X.1.here X.2.1 rfl (hb X.2.2.1 hd) rfl q) k
theorem g_ishl (X : Sx Z own bytes ml p l e R s m args below meth c T locs cells slots h) {x y : Int32} (hd : decode bytes pc = .ok (.ishl, 1)) (hp : pc + 1 = pc') (k : Go p e below K (T.setTop (mkF m pc' Ls (.int (x <<< (y &&& 31)) :: st)))) : Go p e below K (T.setTop (mkF m pc Ls (.int y :: .int x :: st))) := by
  subst hp; exact Go.step (fun t q => XS.ishl X.1.here X.2.1 rfl (hb X.2.2.1 hd) rfl q) k
theorem g_ishr (X : Sx Z own bytes ml p l e R s m args below meth c T locs cells slots h) {x y : Int32} (hd : decode bytes pc = .ok (.ishr, 1)) (hp : pc + 1 = pc') (k : Go p e below K (T.setTop (mkF m pc' Ls (.int (x >>> (y &&& 31)) :: st)))) : Go p e below K (T.setTop (mkF m pc Ls (.int y :: .int x :: st))) := by
  subst hp; exact Go.step (fun t q => XS.ishr X.1.here X.2.1 rfl (hb X.2.2.1 hd) rfl q) k
theorem g_iushr (X : Sx Z own bytes ml p l e R s m args below meth c T locs cells slots h) {x y : Int32} (hd : decode bytes pc = .ok (.iushr, 1)) (hp : pc + 1 = pc') (k : Go p e below K (T.setTop (mkF m pc' Ls (.int ((x.toUInt32 >>> (y &&& 31).toUInt32).toInt32) :: st)))) : Go p e below K (T.setTop (mkF m pc Ls (.int y :: .int x :: st))) := by
  subst hp; exact Go.step (fun t q => XS.iushr X.1.here X.2.1 rfl (hb X.2.2.1 hd) rfl q) k
theorem g_irem (X : Sx Z own bytes ml p l e R s m args below meth c T locs cells slots h) {x y : Int32} (hd : decode bytes pc = .ok (.irem, 1)) (hp : pc + 1 = pc') (hy : y ≠ 0) (k : Go p e below K (T.setTop (mkF m pc' Ls (.int (x % y) :: st)))) : Go p e below K (T.setTop (mkF m pc Ls (.int y :: .int x :: st))) := by
  subst hp; exact Go.step (fun t q => iremM (g := mkF m pc Ls (.int y :: .int x :: st)) X.1 X.2.1 rfl (hb X.2.2.1 hd) rfl hy q) k
theorem g_lmul (X : Sx Z own bytes ml p l e R s m args below meth c T locs cells slots h) {x y : Int64} (hd : decode bytes pc = .ok (.lmul, 1)) (hp : pc + 1 = pc') (k : Go p e below K (T.setTop (mkF m pc' Ls (.long (x * y) :: st)))) : Go p e below K (T.setTop (mkF m pc Ls (.long y :: .long x :: st))) := by
  subst hp; exact Go.step (fun t q => XS.lmul X.1.here X.2.1 rfl (hb X.2.2.1 hd) rfl q) k
theorem g_lushr (X : Sx Z own bytes ml p l e R s m args below meth c T locs cells slots h) {x : Int64} {y : Int32} (hd : decode bytes pc = .ok (.lushr, 1)) (hp : pc + 1 = pc') (k : Go p e below K (T.setTop (mkF m pc' Ls (.long ((x.toUInt64 >>> (y &&& 0x3f).toInt64.toUInt64).toInt64) :: st)))) : Go p e below K (T.setTop (mkF m pc Ls (.int y :: .long x :: st))) := by
  subst hp; exact Go.step (fun t q => XS.lushr X.1.here X.2.1 rfl (hb X.2.2.1 hd) rfl q) k
theorem g_lcmp (X : Sx Z own bytes ml p l e R s m args below meth c T locs cells slots h) {x y : Int64} (hd : decode bytes pc = .ok (.lcmp, 1)) (hp : pc + 1 = pc') (k : Go p e below K (T.setTop (mkF m pc' Ls (.int (lcmpW x y) :: st)))) : Go p e below K (T.setTop (mkF m pc Ls (.long y :: .long x :: st))) := by
  subst hp; exact Go.step (fun t q => XS.lcmp X.1.here X.2.1 rfl (hb X.2.2.1 hd) rfl q) k
theorem g_i2b (X : Sx Z own bytes ml p l e R s m args below meth c T locs cells slots h) {x : Int32} (hd : decode bytes pc = .ok (.i2b, 1)) (hp : pc + 1 = pc') (k : Go p e below K (T.setTop (mkF m pc' Ls (.int (x.toInt8.toInt32) :: st)))) : Go p e below K (T.setTop (mkF m pc Ls (.int x :: st))) := by
  subst hp; exact Go.step (fun t q => XS.i2b X.1.here X.2.1 rfl (hb X.2.2.1 hd) rfl q) k
theorem g_i2c (X : Sx Z own bytes ml p l e R s m args below meth c T locs cells slots h) {x : Int32} (hd : decode bytes pc = .ok (.i2c, 1)) (hp : pc + 1 = pc') (k : Go p e below K (T.setTop (mkF m pc' Ls (.int (x.toUInt32.toUInt16.toUInt32.toInt32) :: st)))) : Go p e below K (T.setTop (mkF m pc Ls (.int x :: st))) := by
  subst hp; exact Go.step (fun t q => XS.i2c X.1.here X.2.1 rfl (hb X.2.2.1 hd) rfl q) k
theorem g_i2l (X : Sx Z own bytes ml p l e R s m args below meth c T locs cells slots h) {x : Int32} (hd : decode bytes pc = .ok (.i2l, 1)) (hp : pc + 1 = pc') (k : Go p e below K (T.setTop (mkF m pc' Ls (.long (x.toInt64) :: st)))) : Go p e below K (T.setTop (mkF m pc Ls (.int x :: st))) := by
  subst hp; exact Go.step (fun t q => XS.i2l X.1.here X.2.1 rfl (hb X.2.2.1 hd) rfl q) k
theorem g_l2i (X : Sx Z own bytes ml p l e R s m args below meth c T locs cells slots h) {x : Int64} (hd : decode bytes pc = .ok (.l2i, 1)) (hp : pc + 1 = pc') (k : Go p e below K (T.setTop (mkF m pc' Ls (.int (x.toInt32) :: st)))) : Go p e below K (T.setTop (mkF m pc Ls (.long x :: st))) := by
  subst hp; exact Go.step (fun t q => XS.l2i X.1.here X.2.1 rfl (hb X.2.2.1 hd) rfl q) k
theorem g_iinc (X : Sx Z own bytes ml p l e R s m args below meth c T locs cells slots h) {i : Nat} {q x : Int32} {n : Int} (hd : decode bytes pc = .ok (.iinc i n, 3)) (hp : pc + 3 = pc') (hq : Int32.ofInt n = q) (hl : Ls[i]? = some (.val (.int x))) (hl' : storeLocals Ls i (.int (x + q)) = some Ls') (k : Go p e below K (T.setTop (mkF m pc' Ls' (st)))) : Go p e below K (T.setTop (mkF m pc Ls (st))) := by
  subst hq; subst hp; exact Go.step (fun t q => XS.iinc X.1.here X.2.1 rfl (hb X.2.2.1 hd) hl hl' q) k
theorem g_dup (X : Sx Z own bytes ml p l e R s m args below meth c T locs cells slots h) {v : Value} (hd : decode bytes pc = .ok (.dup, 1)) (hp : pc + 1 = pc') (hc : v.category = 1) (k : Go p e below K (T.setTop (mkF m pc' Ls (v :: v :: st)))) : Go p e below K (T.setTop (mkF m pc Ls (v :: st))) := by
  subst hp; exact Go.step (fun t q => XS.dup X.1.here X.2.1 rfl (hb X.2.2.1 hd) rfl hc q) k
theorem g_pop (X : Sx Z own bytes ml p l e R s m args below meth c T locs cells slots h) {v : Value} (hd : decode bytes pc = .ok (.pop, 1)) (hp : pc + 1 = pc') (hc : v.category = 1) (k : Go p e below K (T.setTop (mkF m pc' Ls (st)))) : Go p e below K (T.setTop (mkF m pc Ls (v :: st))) := by
  subst hp; exact Go.step (fun t q => XS.pop X.1.here X.2.1 rfl (hb X.2.2.1 hd) rfl hc q) k
theorem g_goto (X : Sx Z own bytes ml p l e R s m args below meth c T locs cells slots h) {o : Int} (hd : decode bytes pc = .ok (.goto o, 3)) (ho : 0 ≤ (pc : Int) + o) (hp : ((pc : Int) + o).toNat = pc') (k : Go p e below K (T.setTop (mkF m pc' Ls (st)))) : Go p e below K (T.setTop (mkF m pc Ls (st))) := by
  exact Go.step (fun t q => XS.goto X.1.here X.2.1 rfl rfl (hb X.2.2.1 hd) ho hp q) k
theorem g_ifY (X : Sx Z own bytes ml p l e R s m args below meth c T locs cells slots h) {cd : ClassFile.Cond} {x : Int32} {o : Int} (hd : decode bytes pc = .ok (.ifCond cd o, 3)) (hc : ifCond.holds cd x = true) (ho : 0 ≤ (pc : Int) + o) (hp : ((pc : Int) + o).toNat = pc') (k : Go p e below K (T.setTop (mkF m pc' Ls (st)))) : Go p e below K (T.setTop (mkF m pc Ls (.int x :: st))) := by
  exact Go.step (fun t q => XS.ifYes X.1.here X.2.1 rfl rfl (hb X.2.2.1 hd) rfl hc ho hp q) k
theorem g_ifN (X : Sx Z own bytes ml p l e R s m args below meth c T locs cells slots h) {cd : ClassFile.Cond} {x : Int32} {o : Int} (hd : decode bytes pc = .ok (.ifCond cd o, 3)) (hc : ifCond.holds cd x = false) (hp : pc + 3 = pc') (k : Go p e below K (T.setTop (mkF m pc' Ls (st)))) : Go p e below K (T.setTop (mkF m pc Ls (.int x :: st))) := by
  subst hp; exact Go.step (fun t q => XS.ifNo X.1.here X.2.1 rfl (hb X.2.2.1 hd) rfl hc q) k
theorem g_icY (X : Sx Z own bytes ml p l e R s m args below meth c T locs cells slots h) {cd : ClassFile.Cond} {x y : Int32} {o : Int} (hd : decode bytes pc = .ok (.if_icmp cd o, 3)) (hc : if_icmp.holds cd x y = true) (ho : 0 ≤ (pc : Int) + o) (hp : ((pc : Int) + o).toNat = pc') (k : Go p e below K (T.setTop (mkF m pc' Ls (st)))) : Go p e below K (T.setTop (mkF m pc Ls (.int y :: .int x :: st))) := by
  exact Go.step (fun t q => XS.icmpYes X.1.here X.2.1 rfl rfl (hb X.2.2.1 hd) rfl hc ho hp q) k
theorem g_icN (X : Sx Z own bytes ml p l e R s m args below meth c T locs cells slots h) {cd : ClassFile.Cond} {x y : Int32} {o : Int} (hd : decode bytes pc = .ok (.if_icmp cd o, 3)) (hc : if_icmp.holds cd x y = false) (hp : pc + 3 = pc') (k : Go p e below K (T.setTop (mkF m pc' Ls (st)))) : Go p e below K (T.setTop (mkF m pc Ls (.int y :: .int x :: st))) := by
  subst hp; exact Go.step (fun t q => XS.icmpNo X.1.here X.2.1 rfl (hb X.2.2.1 hd) rfl hc q) k
theorem g_caload (X : Sx Z own bytes ml p l e R s m args below meth c T locs cells slots h) {a : Addr} {vs : List Value} {j : Int32} {x : Int32} (A : Av Z h a .char vs) (n : Nat) (hd : decode bytes pc = .ok (.caload, 1)) (hp : pc + 1 = pc') (hj : ¬ j < 0) (hn : j.toNatClampNeg = n) (hv : vs[n]? = some (.int x)) (k : Go p e below K (T.setTop (mkF m pc' Ls (.int x :: st)))) : Go p e below K (T.setTop (mkF m pc Ls (.int j :: .ref a :: st))) := by
  obtain ⟨cl, A, rfl, r⟩ := A; subst hn; subst hp
  have hv' : cl.slots[j.toNatClampNeg]? = some (.int x) := by rw [← Array.getElem?_toList]; exact hv
  exact Go.step (fun t q => X.1.caload X.2.1 (j := j) (by rw [X.2.2.2.2.2.2]; exact A.1) (State.isArrayOf_alike X.2.2.2.2.2.1.alike A.2.1) A.2.2 (fun hh => hh.elim hj (fun hh => absurd (Array.getElem?_eq_some_iff.mp hv').1 (Nat.not_lt.mpr hh))) hv' (g := mkF m pc Ls (.int j :: .ref a :: st)) rfl rfl (hb X.2.2.1 hd) _ q) k
theorem g_baload (X : Sx Z own bytes ml p l e R s m args below meth c T locs cells slots h) {a : Addr} {vs : List Value} {j : Int32} {x : Int32} (A : Av Z h a .byte vs) (n : Nat) (hd : decode bytes pc = .ok (.baload, 1)) (hp : pc + 1 = pc') (hj : ¬ j < 0) (hn : j.toNatClampNeg = n) (hv : vs[n]? = some (.int x)) (k : Go p e below K (T.setTop (mkF m pc' Ls (.int x :: st)))) : Go p e below K (T.setTop (mkF m pc Ls (.int j :: .ref a :: st))) := by
  obtain ⟨cl, A, rfl, r⟩ := A; subst hn; subst hp
  have hv' : cl.slots[j.toNatClampNeg]? = some (.int x) := by rw [← Array.getElem?_toList]; exact hv
  exact Go.step (fun t q => X.1.baloadBytes X.2.1 (j := j) (by rw [X.2.2.2.2.2.2]; exact A.1) (State.isArrayOf_alike X.2.2.2.2.2.1.alike A.2.1) A.2.2 (fun hh => hh.elim hj (fun hh => absurd (Array.getElem?_eq_some_iff.mp hv').1 (Nat.not_lt.mpr hh))) hv' (g := mkF m pc Ls (.int j :: .ref a :: st)) rfl rfl (hb X.2.2.1 hd) _ q) k
theorem g_arraylength (X : Sx Z own bytes ml p l e R s m args below meth c T locs cells slots h) {a : Addr} {vs : List Value} {ty : FieldType} (A : Av Z h a ty vs) (hd : decode bytes pc = .ok (.arraylength, 1)) (hp : pc + 1 = pc') {z : Int32} (hz : vs.length.toInt32 = z) (k : Go p e below K (T.setTop (mkF m pc' Ls (.int z :: st)))) : Go p e below K (T.setTop (mkF m pc Ls (.ref a :: st))) := by
  obtain ⟨cl, A, rfl, r⟩ := A; subst hp
  rw [Array.length_toList] at hz; subst hz
  exact Go.step (fun t q => X.1.arraylength X.2.1 (by rw [X.2.2.2.2.2.2]; exact A.1) (State.isArrayOf_alike X.2.2.2.2.2.1.alike A.2.1) (g := mkF m pc Ls (.ref a :: st)) rfl rfl (hb X.2.2.1 hd) _ q) k
theorem g_castore (X : Sx Z own bytes ml p l e R s m args below meth c T locs cells slots h) {a : Addr} {vs : List Value} {j : Int32} {x : Int32} (A : Av Z h a .char vs) (n : Nat) (hd : decode bytes pc = .ok (.castore, 1)) (hp : pc + 1 = pc') (hj : ¬ j < 0) (hn : j.toNatClampNeg = n) (hlt : n < vs.length) (k : ∀ T' h', Sx Z own bytes ml p l e R s m args below meth c T' (locs ++ [⟨a, n⟩]) cells slots h' → Wr h h' a n (.int (nar .char x)) → Av Z h' a .char (vs.set n (.int (nar .char x))) → Go p e below K (T'.setTop (mkF m pc' Ls (st)))) : Go p e below K (T.setTop (mkF m pc Ls (.int x :: .int j :: .ref a :: st))) := by
  obtain ⟨cl, A, rfl, r⟩ := A; subst hn; subst hp
  obtain ⟨T', h', X', e', W, stp⟩ := stC X.1 X.2.1 X.2.2.2.2.2.1 X.2.2.2.2.2.2 A (j := j) (fun hh => hh.elim hj (fun hh => absurd hlt (by simpa using hh))) (g := mkF m pc Ls (.int x :: .int j :: .ref a :: st)) rfl rfl (hb X.2.2.1 hd)
  exact Go.step (fun t q => stp _ q) (k T' h' ⟨X', X.2.1, X.2.2.1, X.2.2.2.1, X.2.2.2.2.1, X.2.2.2.2.2.1, e'⟩ W (Av.set ⟨cl, A, rfl, r⟩ W))
theorem g_bastore (X : Sx Z own bytes ml p l e R s m args below meth c T locs cells slots h) {a : Addr} {vs : List Value} {j : Int32} {x : Int32} (A : Av Z h a .byte vs) (n : Nat) (hd : decode bytes pc = .ok (.bastore, 1)) (hp : pc + 1 = pc') (hj : ¬ j < 0) (hn : j.toNatClampNeg = n) (hlt : n < vs.length) (k : ∀ T' h', Sx Z own bytes ml p l e R s m args below meth c T' (locs ++ [⟨a, n⟩]) cells slots h' → Wr h h' a n (.int (nar .byte x)) → Av Z h' a .byte (vs.set n (.int (nar .byte x))) → Go p e below K (T'.setTop (mkF m pc' Ls (st)))) : Go p e below K (T.setTop (mkF m pc Ls (.int x :: .int j :: .ref a :: st))) := by
  obtain ⟨cl, A, rfl, r⟩ := A; subst hn; subst hp
  obtain ⟨T', h', X', e', W, stp⟩ := stB X.1 X.2.1 X.2.2.2.2.2.1 X.2.2.2.2.2.2 A (j := j) (fun hh => hh.elim hj (fun hh => absurd hlt (by simpa using hh))) (g := mkF m pc Ls (.int x :: .int j :: .ref a :: st)) rfl rfl (hb X.2.2.1 hd)
  exact Go.step (fun t q => stp _ q) (k T' h' ⟨X', X.2.1, X.2.2.1, X.2.2.2.1, X.2.2.2.2.1, X.2.2.2.2.2.1, e'⟩ W (Av.set ⟨cl, A, rfl, r⟩ W))
theorem g_newarray (X : Sx Z own bytes ml p l e R s m args below meth c T locs cells slots h) {aty : ArrayType} {z : Int32} {vs : List Value} {ad : String} (n : Nat) (w : (Cond.arrayClass (newarray.typeOf aty)).before a0 Z = true) (hd : decode bytes pc = .ok (.newarray aty, 2)) (hp : pc + 2 = pc') (hz : ¬ z < 0) (hn : z.toNatClampNeg = n) (cap : Nat) (hcap : n ≤ cap) (hbig : cap * 8 ≤ 536870912) (hc : cells + 1 ≤ R.cells) (hl : slots + cap ≤ R.slots) (hvs : List.replicate n (defaultValue (newarray.typeOf aty)) = vs) (had : "[" ++ (newarray.typeOf aty).toString = ad) (k : ∀ T' h' (a : Addr), a = h.size → Sx Z own bytes ml p l e R s m args below meth c T' locs (cells + 1) (slots + cap) h' → Ext h h' → Exa Z h' a ad → Av Z h' a (newarray.typeOf aty) vs → Go p e below K (T'.setTop (mkF m pc' Ls (.ref a :: st)))) : Go p e below K (T.setTop (mkF m pc Ls (.int z :: st))) := by
  subst hn; subst hp; subst hvs
  obtain ⟨T', h', cA, X', e', E, A, B, stp⟩ := newPE X.1 X.2.1 X.2.2.2.2.2.1 w X.2.2.2.2.2.2 (g := mkF m pc Ls (.int z :: st)) rfl (hb X.2.2.1 hd) rfl hz hcap hbig hc hl had
  refine Go.step (fun t q => stp _ q) (k T' h' _ rfl ⟨X', X.2.1, X.2.2.1, X.2.2.2.1, X.2.2.2.2.1, X.2.2.2.2.2.1, e'⟩ E B ⟨_, A, by simp [newA], ?_⟩)
  simp only [List.length_replicate]
  exact (back32 hz).2
theorem g_new (X : Sx Z own bytes ml p l e R s m args below meth c T locs cells slots h) {i n : Nat} {C : String} (w1 : (Cond.classLink own i C).before a0 Z = true) (w2 : (Cond.instantiable C n).before a0 Z = true) (w3 : (Cond.initialized C).before a0 Z = true) (hd : decode bytes pc = .ok (.new i, 3)) (hp : pc + 3 = pc') (hc : cells + 1 ≤ R.cells) (hl : slots + n ≤ R.slots) (k : ∀ T' h' (a : Addr), a = h.size → Sx Z own bytes ml p l e R s m args below meth c T' locs (cells + 1) (slots + n) h' → Ext h h' → Exa Z h' a C → (∀ {O nm d : String} {ty : FieldType}, Laid Z a0 C O nm d → parseFieldDescriptor d = some ty → Fld Z h' a O nm d (defaultValue ty)) → Go p e below K (T'.setTop (mkF m pc' Ls (.ref a :: st)))) : Go p e below K (T.setTop (mkF m pc Ls (st))) := by
  subst hp
  obtain ⟨T', h', X', e', E, A, D, -, stp⟩ := newO X.1 X.2.1 X.2.2.2.2.2.1 X.2.2.2.2.1 w1 w2 w3 X.2.2.2.2.2.2 (g := mkF m pc Ls st) rfl (hb X.2.2.1 hd) hc hl
  exact Go.step (fun t q => stp _ q) (k T' h' _ rfl ⟨X', X.2.1, X.2.2.1, X.2.2.2.1, X.2.2.2.2.1, X.2.2.2.2.2.1, e'⟩ E A D)
theorem g_getfield (X : Sx Z own bytes ml p l e R s m args below meth c T locs cells slots h) {i : Nat} {R0 O nm d host : String} {a : Addr} {v : Value} (w : (Cond.fieldLink own i R0 nm d).before a0 Z = true ∨ (Cond.fieldLinkNest own i R0 nm d host).before a0 Z = true) (via : Via Z R0 O nm d) (F : Fld Z h a O nm d v) (hd : decode bytes pc = .ok (.getfield i, 3)) (hp : pc + 3 = pc') (k : ∀ T', Sx Z own bytes ml p l e R s m args below meth c T' locs cells slots h → Go p e below K (T'.setTop (mkF m pc' Ls (v :: st)))) : Go p e below K (T.setTop (mkF m pc Ls (.ref a :: st))) := by
  subst hp
  obtain ⟨T', X', e', stp⟩ := getF X.1 X.2.1 X.2.2.2.2.2.1 X.2.2.2.2.1 w via X.2.2.2.2.2.2 F (g := mkF m pc Ls (.ref a :: st)) rfl rfl (hb X.2.2.1 hd)
  exact Go.step (fun t q => stp _ q) (k T' ⟨X', X.2.1, X.2.2.1, X.2.2.2.1, X.2.2.2.2.1, X.2.2.2.2.2.1, e'⟩)
theorem g_getstatic (X : Sx Z own bytes ml p l e R s m args below meth c T locs cells slots h) {i : Nat} {R0 O nm d host : String} {v : Value} (w : (Cond.fieldLink own i R0 nm d).before a0 Z = true ∨ (Cond.fieldLinkNest own i R0 nm d host).before a0 Z = true) (via : Via Z R0 O nm d) (F : Sta Z h O nm d v) (hd : decode bytes pc = .ok (.getstatic i, 3)) (hp : pc + 3 = pc') (k : ∀ T', Sx Z own bytes ml p l e R s m args below meth c T' locs cells slots h → Go p e below K (T'.setTop (mkF m pc' Ls (v :: st)))) : Go p e below K (T.setTop (mkF m pc Ls (st))) := by
  subst hp
  obtain ⟨T', X', e', stp⟩ := getS2 X.1 X.2.1 X.2.2.2.2.2.1 X.2.2.2.2.1 w via X.2.2.2.2.2.2 F (g := mkF m pc Ls st) rfl (hb X.2.2.1 hd)
  exact Go.step (fun t q => stp _ q) (k T' ⟨X', X.2.1, X.2.2.1, X.2.2.2.1, X.2.2.2.2.1, X.2.2.2.2.2.1, e'⟩)
theorem g_putfield (X : Sx Z own bytes ml p l e R s m args below meth c T locs cells slots h) {i kk : Nat} {R0 O nm d host C : String} {a : Addr} {v old : Value} {ty : FieldType} (w : (Cond.fieldLink own i R0 nm d).before a0 Z = true ∨ (Cond.fieldLinkNest own i R0 nm d host).before a0 Z = true) (via : Via Z R0 O nm d) (F : Fld Z h a O nm d old) (E : Exa Z h a C) (L : (Cond.lays C O nm d).before a0 Z = true ∨ ((Cond.laysFinal C O nm d).before a0 Z = true ∧ own = O ∧ meth.name = "<init>")) (wi : (Cond.instantiable C kk).before a0 Z = true) (hty : parseFieldDescriptor d = some ty) (hn : narrow ty v = v) (hf : fits ty v = true) (hd : decode bytes pc = .ok (.putfield i, 3)) (hp : pc + 3 = pc') (k : ∀ T' h', Sx Z own bytes ml p l e R s m args below meth c T' (locs ++ [⟨a, RoadKit.slotOf Z O nm d⟩]) cells slots h' → Wr h h' a (RoadKit.slotOf Z O nm d) v → Go p e below K (T'.setTop (mkF m pc' Ls (st)))) : Go p e below K (T.setTop (mkF m pc Ls (v :: .ref a :: st))) := by
  subst hp
  obtain ⟨T', h', X', e', W, stp⟩ := putF X.1 X.2.1 X.2.2.2.2.2.1 X.2.2.2.2.1 w via X.2.2.2.2.2.2 F E L wi hty hn hf (g := mkF m pc Ls (v :: .ref a :: st)) rfl rfl (hb X.2.2.1 hd)
  exact Go.step (fun t q => stp _ q) (k T' h' ⟨X', X.2.1, X.2.2.1, X.2.2.2.1, X.2.2.2.2.1, X.2.2.2.2.2.1, e'⟩ W)
theorem g_putfieldN (X : Sx Z own bytes ml p l e R s m args below meth c T locs cells slots h) {i kk : Nat} {R0 O nm d C : String} {a : Addr} {v v' old : Value} {ty : FieldType} (w : (Cond.fieldLink own i R0 nm d).before a0 Z = true) (via : Via Z R0 O nm d) (F : Fld Z h a O nm d old) (E : Exa Z h a C) (L : (Cond.lays C O nm d).before a0 Z = true ∨ ((Cond.laysFinal C O nm d).before a0 Z = true ∧ own = O ∧ meth.name = "<init>")) (wi : (Cond.instantiable C kk).before a0 Z = true) (hty : parseFieldDescriptor d = some ty) (hn : narrow ty v = v') (hf : fits ty v' = true) (hd : decode bytes pc = .ok (.putfield i, 3)) (hp : pc + 3 = pc') (k : ∀ T' h', Sx Z own bytes ml p l e R s m args below meth c T' (locs ++ [⟨a, RoadKit.slotOf Z O nm d⟩]) cells slots h' → Wr h h' a (RoadKit.slotOf Z O nm d) v' → Go p e below K (T'.setTop (mkF m pc' Ls (st)))) : Go p e below K (T.setTop (mkF m pc Ls (v :: .ref a :: st))) := by
  subst hp
  obtain ⟨T', h', X', e', W, stp⟩ := putFN X.1 X.2.1 X.2.2.2.2.2.1 X.2.2.2.2.1 w via X.2.2.2.2.2.2 F E L wi hty hn hf (g := mkF m pc Ls (v :: .ref a :: st)) rfl rfl (hb X.2.2.1 hd)
  exact Go.step (fun t q => stp _ q) (k T' h' ⟨X', X.2.1, X.2.2.1, X.2.2.2.1, X.2.2.2.2.1, X.2.2.2.2.2.1, e'⟩ W)
theorem g_initO (X : Sx Z own bytes ml p l e R s m args below meth c T locs cells slots h) {i W : Nat} {a : Addr} (w1 : (Cond.methodLink own i Lib.objectInit).before a0 Z = true) (w2 : (Cond.instanceMethod Lib.objectInit).before a0 Z = true) (w3 : (Cond.code Lib.objectInit ⟨#[0xb1]⟩ 1 none).before a0 Z = true) (hd : decode bytes pc = .ok (.invokespecial i, 3)) (hp : pc + 3 = pc') (hsz : Ls.size = ml) (hf : 1 ≤ R.frames) (hW : (st.map fun v => v.category).sum ≤ W) (hl : W + 12 ≤ R.locals) (k : ∀ T', Sx Z own bytes ml p l e R s m args below meth c T' locs cells slots h → Go p e below K (T'.setTop (mkF m pc' Ls (st)))) : Go p e below K (T.setTop (mkF m pc Ls (.ref a :: st))) := by
  subst hp
  obtain ⟨T', X', e', stp⟩ := initO X.1 X.2.1 X.2.2.2.2.2.1 X.2.2.2.2.1 w1 w2 w3 X.2.2.2.2.2.2 (g := mkF m pc Ls (.ref a :: st)) rfl (by rw [X.2.2.2.1]; exact hsz) rfl (hb X.2.2.1 hd) hf (W := W) (by simpa using hW) hl
  exact Go.step (fun t q => stp _ q) (k T' ⟨X', X.2.1, X.2.2.1, X.2.2.2.1, X.2.2.2.2.1, X.2.2.2.2.2.1, e'⟩)
theorem g_static (X : Sx Z own bytes ml p l e R s m args below meth c T locs cells slots h) {y : MethodName} {yb : ByteArray} {yl : Nat} {yr : Option FieldType} {rm : Room} {as' : Array Value} {Q : Option Value → Heap → List Loc → Prop} {i W : Nat} (argsL rest : List Value) (w1 : (Cond.methodLink own i y).before a0 Z = true) (w2 : (Cond.static y).before a0 Z = true) (w3 : (Cond.initialized y.cls).before a0 Z = true) (w4 : (Cond.code y yb yl yr).before a0 Z = true) (M : Rm l Z y yb yl yr [] rm as' h Q) (hd : decode bytes pc = .ok (.invokestatic i, 3)) (hp : pc + 3 = pc') (hy : y.cls ≠ "java/lang/invoke/MethodHandle" ∧ y.cls ≠ "java/lang/invoke/VarHandle") (hf : rm.frames + 1 ≤ R.frames) (hl : W + (yl + 11) + rm.locals ≤ R.locals) (hsz : Ls.size = ml) (ha : argsL.toArray = as') (hst : st = argsL.reverse ++ rest) (hlen : ∀ sig, parseMethodDescriptor y.desc = some sig → argsL.length = sig.parameters.length) (hW : (rest.map fun v => v.category).sum ≤ W) (hc : cells + rm.cells ≤ R.cells) (hs : slots + rm.slots ≤ R.slots) (k : ∀ v T' L, Sx Z own bytes ml p l e R s m args below meth c T' (locs ++ L) (cells + rm.cells) (slots + rm.slots) T'.heap → Q v T'.heap L → Go p e below K (T'.setTop (mkF m pc' Ls (v.toList ++ rest)))) : Go p e below K (T.setTop (mkF m pc Ls (st))) := by
  subst hp; subst hst
  have hZ := X.2.2.2.2.2.1
  obtain ⟨v, vm1, ⟨T', L', k', n'⟩, -, X', ⟨L, hQ, l1, l2, l3⟩, stp⟩ := Jvm.LawKit.callS X.1 X.2.1 X.2.2.2.2.1 (mvT hZ w1) (mvT hZ w2) (mvT hZ w3) (mvT hZ w4) hy (backOf (W := W) M hZ w4 w3 hf hl) (g := mkF m pc Ls (argsL.reverse ++ rest)) rfl (by rw [X.2.2.2.1]; exact hsz) (argsL := argsL) (rest := rest) hlen rfl (by simpa using hW) (hb X.2.2.1 hd) (fun _ _ => ⟨ha, X.2.2.2.2.2.2, hc, hs⟩)
  dsimp only [Pt.U, Pt.locs, Pt.cells, Pt.slots] at X' l1 l2 l3 stp hQ
  subst l1 l2 l3
  exact Go.step (fun t q => stp _ q) (k v T' L ⟨X', X.2.1, X.2.2.1, X.2.2.2.1, X.2.2.2.2.1, X.2.2.2.2.2.1, rfl⟩ hQ)
theorem g_special (X : Sx Z own bytes ml p l e R s m args below meth c T locs cells slots h) {y : MethodName} {yb : ByteArray} {yl : Nat} {rm : Room} {as' : Array Value} {Q : Option Value → Heap → List Loc → Prop} {i W : Nat} {a : Addr} (argsL rest : List Value) (hi : y.name = "<init>") (w1 : (Cond.methodLink own i y).before a0 Z = true) (w2 : (Cond.instanceMethod y).before a0 Z = true) (w3 : (Cond.initialized y.cls).before a0 Z = true) (w4 : (Cond.code y yb yl none).before a0 Z = true) (M : Rm l Z y yb yl none [] rm as' h Q) (hd : decode bytes pc = .ok (.invokespecial i, 3)) (hp : pc + 3 = pc') (hy : y.cls ≠ "java/lang/invoke/MethodHandle" ∧ y.cls ≠ "java/lang/invoke/VarHandle") (hf : rm.frames + 1 ≤ R.frames) (hl : W + (yl + 11) + rm.locals ≤ R.locals) (hsz : Ls.size = ml) (ha : (.ref a :: argsL).toArray = as') (hst : st = argsL.reverse ++ .ref a :: rest) (hlen : ∀ sig, parseMethodDescriptor y.desc = some sig → argsL.length = sig.parameters.length) (hW : (rest.map fun v => v.category).sum ≤ W) (hc : cells + rm.cells ≤ R.cells) (hs : slots + rm.slots ≤ R.slots) (k : ∀ v T' L, Sx Z own bytes ml p l e R s m args below meth c T' (locs ++ L) (cells + rm.cells) (slots + rm.slots) T'.heap → Q v T'.heap L → Go p e below K (T'.setTop (mkF m pc' Ls (v.toList ++ rest)))) : Go p e below K (T.setTop (mkF m pc Ls (st))) := by
  subst hp; subst hst
  have hZ := X.2.2.2.2.2.1
  obtain ⟨v, vm1, ⟨T', L', k', n'⟩, -, X', ⟨L, hQ, l1, l2, l3⟩, stp⟩ := X.1.specialBack X.2.1 (y := y) hi X.2.2.2.2.1 (mvT hZ w1) (mvT hZ w2) (mvT hZ w4) hy (backOf (W := W) M hZ w4 w3 hf hl) (g := mkF m pc Ls (argsL.reverse ++ .ref a :: rest)) rfl (by rw [X.2.2.2.1]; exact hsz) (Steps.refl _) (a := a) (argsL := argsL) (rest := rest) hlen rfl (by simpa using hW) (hb X.2.2.1 hd) (fun _ _ => ⟨ha, X.2.2.2.2.2.2, hc, hs⟩)
  dsimp only [Pt.U, Pt.locs, Pt.cells, Pt.slots] at X' l1 l2 l3 stp hQ
  subst l1 l2 l3
  exact Go.step (fun t q => stp.trans q) (k v T' L ⟨X', X.2.1, X.2.2.1, X.2.2.2.1, X.2.2.2.2.1, X.2.2.2.2.2.1, rfl⟩ hQ)
theorem g_virtual (X : Sx Z own bytes ml p l e R s m args below meth c T locs cells slots h) {y : MethodName} {yb : ByteArray} {yl : Nat} {yr : Option FieldType} {rm : Room} {as' : Array Value} {Q : Option Value → Heap → List Loc → Prop} {i W : Nat} {a : Addr} {C : String} (argsL rest : List Value) (E : Exa Z h a C) (w1 : (Cond.methodLink own i y).before a0 Z = true) (w2 : (Cond.declares y).before a0 Z = true) (w5 : (Cond.selects C y y).before a0 Z = true) (w6 : (Cond.instanceMethod y).before a0 Z = true) (w3 : (Cond.initialized y.cls).before a0 Z = true) (w4 : (Cond.code y yb yl yr).before a0 Z = true) (M : Rm l Z y yb yl yr [] rm as' h Q) (hd : decode bytes pc = .ok (.invokevirtual i, 3)) (hp : pc + 3 = pc') (hy : y.cls ≠ "java/lang/invoke/MethodHandle" ∧ y.cls ≠ "java/lang/invoke/VarHandle") (hf : rm.frames + 1 ≤ R.frames) (hl : W + (yl + 11) + rm.locals ≤ R.locals) (hsz : Ls.size = ml) (ha : (.ref a :: argsL).toArray = as') (hst : st = argsL.reverse ++ .ref a :: rest) (hlen : ∀ sig, parseMethodDescriptor y.desc = some sig → argsL.length = sig.parameters.length) (hW : (rest.map fun v => v.category).sum ≤ W) (hc : cells + rm.cells ≤ R.cells) (hs : slots + rm.slots ≤ R.slots) (k : ∀ v T' L, Sx Z own bytes ml p l e R s m args below meth c T' (locs ++ L) (cells + rm.cells) (slots + rm.slots) T'.heap → Q v T'.heap L → Go p e below K (T'.setTop (mkF m pc' Ls (v.toList ++ rest)))) : Go p e below K (T.setTop (mkF m pc Ls (st))) := by
  subst hp; subst hst
  have hZ := X.2.2.2.2.2.1
  obtain ⟨cq, kq, qa, qb, qc⟩ := isOf hZ X.2.2.2.2.2.2 E
  obtain ⟨v, vm1, ⟨T', L', k', n'⟩, -, X', ⟨L, hQ, l1, l2, l3⟩, stp⟩ := X.1.virtualBack X.2.1 (y := y) (z := y) X.2.2.2.2.1 (mvT hZ w1) (mvT hZ w2) (notFace_of_selects (args := #[]) (mvT hZ w5)) (mvT hZ w5) (mvT hZ w6) hy (backOf (W := W) M hZ w4 w3 hf hl) qa qc (g := mkF m pc Ls (argsL.reverse ++ .ref a :: rest)) rfl (by rw [X.2.2.2.1]; exact hsz) (Steps.refl _) (argsL := argsL) (rest := rest) hlen rfl (by simpa using hW) (hb X.2.2.1 hd) (fun _ _ => ⟨ha, X.2.2.2.2.2.2, hc, hs⟩)
  dsimp only [Pt.U, Pt.locs, Pt.cells, Pt.slots] at X' l1 l2 l3 stp hQ
  subst l1 l2 l3
  exact Go.step (fun t q => stp.trans q) (k v T' L ⟨X', X.2.1, X.2.2.1, X.2.2.2.1, X.2.2.2.2.1, X.2.2.2.2.2.1, rfl⟩ hQ)
theorem g_private (X : Sx Z own bytes ml p l e R s m args below meth c T locs cells slots h) {y : MethodName} {yb : ByteArray} {yl : Nat} {yr : Option FieldType} {rm : Room} {as' : Array Value} {Q : Option Value → Heap → List Loc → Prop} {i W : Nat} {a : Addr} (argsL rest : List Value) (E : Exa Z h a y.cls) (w1 : (Cond.methodLink own i y).before a0 Z = true) (w5 : (Cond.selects y.cls y y).before a0 Z = true) (w6 : (Cond.instanceMethod y).before a0 Z = true) (w7 : (Cond.privateMethod y).before a0 Z = true) (w3 : (Cond.initialized y.cls).before a0 Z = true) (w4 : (Cond.code y yb yl yr).before a0 Z = true) (M : Rm l Z y yb yl yr [] rm as' h Q) (hd : decode bytes pc = .ok (.invokevirtual i, 3)) (hp : pc + 3 = pc') (hy : y.cls ≠ "java/lang/invoke/MethodHandle" ∧ y.cls ≠ "java/lang/invoke/VarHandle") (hf : rm.frames + 1 ≤ R.frames) (hl : W + (yl + 11) + rm.locals ≤ R.locals) (hsz : Ls.size = ml) (ha : (.ref a :: argsL).toArray = as') (hst : st = argsL.reverse ++ .ref a :: rest) (hlen : ∀ sig, parseMethodDescriptor y.desc = some sig → argsL.length = sig.parameters.length) (hW : (rest.map fun v => v.category).sum ≤ W) (hc : cells + rm.cells ≤ R.cells) (hs : slots + rm.slots ≤ R.slots) (k : ∀ v T' L, Sx Z own bytes ml p l e R s m args below meth c T' (locs ++ L) (cells + rm.cells) (slots + rm.slots) T'.heap → Q v T'.heap L → Go p e below K (T'.setTop (mkF m pc' Ls (v.toList ++ rest)))) : Go p e below K (T.setTop (mkF m pc Ls (st))) := by
  subst hp; subst hst
  have hZ := X.2.2.2.2.2.1
  obtain ⟨cq, q1, q2⟩ := E.cell
  obtain ⟨v, vm1, ⟨T', L', k', n'⟩, -, X', ⟨L, hQ, l1, l2, l3⟩, stp⟩ := X.1.privateBack X.2.1 (y := y) X.2.2.2.2.1 (mvT hZ w1) (mvT hZ w6) (mvT hZ w5) (Cond.privateMethod_at (mvP hZ w7 (args := #[]))) (mvT hZ w4) hy (backOf (W := W) M hZ w4 w3 hf hl) (g := mkF m pc Ls (argsL.reverse ++ .ref a :: rest)) rfl (by rw [X.2.2.2.1]; exact hsz) (Steps.refl _) (a := a) (by rw [X.2.2.2.2.2.2]; exact q1) q2 (argsL := argsL) (rest := rest) hlen rfl (by simpa using hW) (hb X.2.2.1 hd) (fun _ _ => ⟨ha, X.2.2.2.2.2.2, hc, hs⟩)
  dsimp only [Pt.U, Pt.locs, Pt.cells, Pt.slots] at X' l1 l2 l3 stp hQ
  subst l1 l2 l3
  exact Go.step (fun t q => stp.trans q) (k v T' L ⟨X', X.2.1, X.2.2.1, X.2.2.2.1, X.2.2.2.2.1, X.2.2.2.2.2.1, rfl⟩ hQ)
theorem g_ireturn (X : Sx Z own bytes ml p l e R s m args below meth c T locs cells slots h) {Q : Option Value → Heap → List Loc → Prop} {kc ks : Nat} {z : Int32} (hd : decode bytes pc = .ok (.ireturn, 1)) (hret : meth.sig.returnType = some .int) (hlk : meth.locks = false) (hc : cells ≤ kc) (hs : slots ≤ ks) (q : Q (some (.int z)) h locs) : Go p e below (Ends s Q kc ks) (T.setTop (mkF m pc Ls (.int z :: st))) := by
  obtain ⟨fs, hr, hrun, hended, hW, hsame⟩ := X.1.leave (v := (some (.int z))) (fun h => by rw [hret] at h; cases h) hlk
  refine ⟨_, _, retI X.1 X.2.1 hret (hb X.2.2.1 hd) hr, hrun, hended, _, _, rfl, ?_, ⟨_, rfl⟩, hW, hsame.mono hc hs⟩
  show Q _ T.heap _
  rw [X.2.2.2.2.2.2]; exact q
theorem g_lreturn (X : Sx Z own bytes ml p l e R s m args below meth c T locs cells slots h) {Q : Option Value → Heap → List Loc → Prop} {kc ks : Nat} {z : Int64} (hd : decode bytes pc = .ok (.lreturn, 1)) (hret : meth.sig.returnType = some .long) (hlk : meth.locks = false) (hc : cells ≤ kc) (hs : slots ≤ ks) (q : Q (some (.long z)) h locs) : Go p e below (Ends s Q kc ks) (T.setTop (mkF m pc Ls (.long z :: st))) := by
  obtain ⟨fs, hr, hrun, hended, hW, hsame⟩ := X.1.leave (v := (some (.long z))) (fun h => by rw [hret] at h; cases h) hlk
  refine ⟨_, _, retJ X.1 X.2.1 hret (hb X.2.2.1 hd) hr, hrun, hended, _, _, rfl, ?_, ⟨_, rfl⟩, hW, hsame.mono hc hs⟩
  show Q _ T.heap _
  rw [X.2.2.2.2.2.2]; exact q
theorem g_ireturnN (X : Sx Z own bytes ml p l e R s m args below meth c T locs cells slots h) {Q : Option Value → Heap → List Loc → Prop} {kc ks : Nat} {z : Int32} {t : FieldType} (ht : t = .boolean ∨ t = .byte ∨ t = .char ∨ t = .short) (hd : decode bytes pc = .ok (.ireturn, 1)) (hret : meth.sig.returnType = some t) (hlk : meth.locks = false) (hc : cells ≤ kc) (hs : slots ≤ ks) (q : Q (some (.int (nar t z))) h locs) : Go p e below (Ends s Q kc ks) (T.setTop (mkF m pc Ls (.int z :: st))) := by
  obtain ⟨fs, hr, hrun, hended, hW, hsame⟩ := X.1.leave (v := (some (.int (nar t z)))) (fun h => by rw [hret] at h; cases h) hlk
  refine ⟨_, _, retN X.1 X.2.1 hret ht (hb X.2.2.1 hd) hr, hrun, hended, _, _, rfl, ?_, ⟨_, rfl⟩, hW, hsame.mono hc hs⟩
  show Q _ T.heap _
  rw [X.2.2.2.2.2.2]; exact q
theorem g_areturn (X : Sx Z own bytes ml p l e R s m args below meth c T locs cells slots h) {Q : Option Value → Heap → List Loc → Prop} {kc ks : Nat} {w : Value} {t : FieldType} (hw : w.isRef = true) (ht : t.isReference = true) (hd : decode bytes pc = .ok (.areturn, 1)) (hret : meth.sig.returnType = some t) (hlk : meth.locks = false) (hc : cells ≤ kc) (hs : slots ≤ ks) (q : Q (some w) h locs) : Go p e below (Ends s Q kc ks) (T.setTop (mkF m pc Ls ([w]))) := by
  obtain ⟨fs, hr, hrun, hended, hW, hsame⟩ := X.1.leave (v := (some w)) (fun h => by rw [hret] at h; cases h) hlk
  refine ⟨_, _, X.1.areturnOut X.2.1 hw hret ht (hb X.2.2.1 hd) hr, hrun, hended, _, _, rfl, ?_, ⟨_, rfl⟩, hW, hsame.mono hc hs⟩
  show Q _ T.heap _
  rw [X.2.2.2.2.2.2]; exact q
theorem g_return (X : Sx Z own bytes ml p l e R s m args below meth c T locs cells slots h) {Q : Option Value → Heap → List Loc → Prop} {kc ks : Nat} (hd : decode bytes pc = .ok (.return_, 1)) (hret : meth.sig.returnType = none) (hlk : meth.locks = false) (hc : cells ≤ kc) (hs : slots ≤ ks) (q : Q none h locs) : Go p e below (Ends s Q kc ks) (T.setTop (mkF m pc Ls ([]))) := by
  obtain ⟨fs, hr, hrun, hended, hW, hsame⟩ := X.1.leave (v := none) (fun _ => rfl) hlk
  refine ⟨_, _, X.1.returnOut X.2.1 hret (hb X.2.2.1 hd) hr, hrun, hended, _, _, rfl, ?_, ⟨_, rfl⟩, hW, hsame.mono hc hs⟩
  show Q _ T.heap _
  rw [X.2.2.2.2.2.2]; exact q
/-- a loop that writes -/
theorem loopW {α : Type} (X : Sx Z own bytes ml p l e R s m args below meth c T locs cells slots h) (F : α → JFrame) (I : α → Heap → List Loc → Prop) (mu : α → Nat)
    (hstep : ∀ (a : α) (T : State) (h : Heap) (locs : List Loc), Sx Z own bytes ml p l e R s m args below meth c T locs cells slots h → I a h locs → (∀ (a' : α) (T' : State) (h' : Heap) (locs' : List Loc), mu a' < mu a → Sx Z own bytes ml p l e R s m args below meth c T' locs' cells slots h' → I a' h' locs' → Go p e below K (T'.setTop (F a'))) → Go p e below K (T.setTop (F a))) (b : α) (hI : I b h locs) : Go p e below K (T.setTop (F b)) := by
  have main : ∀ (n : Nat) (a : α) (T : State) (h : Heap) (locs : List Loc), mu a < n → Sx Z own bytes ml p l e R s m args below meth c T locs cells slots h → I a h locs → Go p e below K (T.setTop (F a)) := by
    intro n
    induction n with
    | zero => intro a T h locs q; exact absurd q (Nat.not_lt_zero _)
    | succ n ih => intro a T h locs q X hI; exact hstep a T h locs X hI (fun a' T' h' locs' q' X' hI' => ih a' T' h' locs' (Nat.lt_of_lt_of_le q' (Nat.le_of_lt_succ q)) X' hI')
  exact main _ b T h locs (Nat.lt_succ_self _) X hI
end Walk
/-- the sheet's k-th word -/
theorem tb {a0 : Array Value} {Z : State} (hw : ∀ d ∈ tables_1, d.before a0 Z = true) (k : Nat) {d : Jvm.Cond} (hd : tables_1[k]? = some d) : d.before a0 Z = true := hw d (List.mem_of_getElem? hd)
/-- what a method says that writes and makes nothing: it returns this -/
def Pu (val : Value) (h0 : Heap) (v : Option Value) (h : Heap) (L : List Loc) : Prop := v = some val ∧ L = [] ∧ h = h0
theorem pureX {Z : State} {own : String} {bytes : ByteArray} {ml : Nat} {p : Program} {l : Launch} {e : Env} {R : Room} {s : State} {m : MethodId} {args : Array Value} {below : List Frame} {meth : Method} {c : Code} {T : State} {locs L : List Loc} {cells slots : Nat} {h : Heap} {val : Value} {v : Option Value}
    (X : Sx Z own bytes ml p l e R s m args below meth c T (locs ++ L) (cells + 0) (slots + 0) T.heap) (q : Pu val h v T.heap L) : v = some val ∧ Sx Z own bytes ml p l e R s m args below meth c T locs cells slots h := by
  obtain ⟨q1, rfl, q3⟩ := q
  rw [List.append_nil] at X
  exact ⟨q1, X.1, X.2.1, X.2.2.1, X.2.2.2.1, X.2.2.2.2.1, X.2.2.2.2.2.1, q3⟩
theorem selP {Z : State} {a0 : Array Value} {y : MethodName} {n : Nat} (wi : (Cond.instantiable y.cls n).before a0 Z = true) (w6 : (Cond.instanceMethod y).before a0 Z = true) (w7 : (Cond.privateMethod y).before a0 Z = true) (hy : y.cls ≠ "java/lang/invoke/MethodHandle" ∧ y.cls ≠ "java/lang/invoke/VarHandle") : (Cond.selects y.cls y y).before a0 Z = true := by
  obtain ⟨c, k, h1, h2, -, h3, -⟩ := Cond.instantiable_spec wi
  exact Jvm.Stand.selects_self_of_private h1 h2 (by simp at h3; exact h3.1) (Cond.privateMethod_at w7) w6 hy
def PuV (h0 : Heap) (v : Option Value) (h : Heap) (L : List Loc) : Prop := v = none ∧ L = [] ∧ h = h0
theorem pureXV {Z : State} {own : String} {bytes : ByteArray} {ml : Nat} {p : Program} {l : Launch} {e : Env} {R : Room} {s : State} {m : MethodId} {args : Array Value} {below : List Frame} {meth : Method} {c : Code} {T : State} {locs L : List Loc} {cells slots : Nat} {h : Heap} {v : Option Value}
    (X : Sx Z own bytes ml p l e R s m args below meth c T (locs ++ L) (cells + 0) (slots + 0) T.heap) (q : PuV h v T.heap L) : v = none ∧ Sx Z own bytes ml p l e R s m args below meth c T locs cells slots h := by
  obtain ⟨q1, rfl, q3⟩ := q
  rw [List.append_nil] at X
  exact ⟨q1, X.1, X.2.1, X.2.2.1, X.2.2.2.1, X.2.2.2.2.1, X.2.2.2.2.2.1, q3⟩
theorem g_acopy0 {Z : State} {a0 : Array Value} {own : String} {bytes : ByteArray} {ml : Nat} {p : Program} {l : Launch} {e : Env} {R : Room} {s : State} {m : MethodId} {args : Array Value} {below : List Frame} {meth : Method} {c : Code} {T : State} {locs : List Loc} {cells slots : Nat} {h : Heap} {K : Outcome → State → Prop} {pc pc' : Nat} {Ls : Array Slot} {st : List Value}
    (X : Sx Z own bytes ml p l e R s m args below meth c T locs cells slots h) {i W : Nat} {src dst : Addr} {ty : FieldType} {vs ws : List Value} (w1 : (Cond.methodLink own i acN).before a0 Z = true) (w2 : (Cond.native acN).before a0 Z = true) (w3 : (Cond.static acN).before a0 Z = true) (w4 : (Cond.initialized "java/lang/System").before a0 Z = true) (A : Av Z h src ty vs) (B : Av Z h dst ty ws) (hr : refKind ty = false)
    (hd : decode bytes pc = .ok (.invokestatic i, 3)) (hp : pc + 3 = pc') (hsz : Ls.size = ml) (hf : 1 ≤ R.frames) (hW : (st.map fun v => v.category).sum ≤ W) (hl : W + 18 ≤ R.locals)
    (k : ∀ T', Sx Z own bytes ml p l e R s m args below meth c T' locs cells slots h → Go p e below K (T'.setTop (mkF m pc' Ls st))) :
    Go p e below K (T.setTop (mkF m pc Ls (.int 0 :: .int 0 :: .ref dst :: .int 0 :: .ref src :: st))) := by
  subst hp
  obtain ⟨ca, A, -, ra⟩ := A
  obtain ⟨cb, B, -, rb⟩ := B
  have hZ := X.2.2.2.2.2.1
  have eh := X.2.2.2.2.2.2
  obtain ⟨na, ka, hka, compa, kinda⟩ := State.isArrayOf_alike hZ.alike A.2.1
  obtain ⟨nb, kb, hkb, compb, kindb⟩ := State.isArrayOf_alike hZ.alike B.2.1
  obtain ⟨vm1, hW1, X', stp⟩ := X.1.arraycopyK X.2.1 X.2.2.2.2.1 (mvT hZ w1) (mvT hZ w2) (mvT hZ w3) (mvT hZ w4) (srcPos := 0) (destPos := 0) (n := 0) (src := src) (dst := dst) (cs := ca) (cd := cb) (by rw [eh]; exact A.1) (by rw [eh]; exact B.1) na nb A.2.2 B.2.2 hka hkb kinda kindb (by simp [hr]) (by decide) (by decide) (by decide) (by show ¬ ((0 : Int) + 0 > _); omega) (by show ¬ ((0 : Int) + 0 > _); omega) (fun _ _ j hj => absurd hj (Nat.not_lt_zero j)) (g := mkF m pc Ls (.int 0 :: .int 0 :: .ref dst :: .int 0 :: .ref src :: st)) rfl (by rw [X.2.2.2.1]; exact hsz) (rest := st) rfl (hb X.2.2.1 hd) hf (by
      have e1 : nativeFrameWords "java/lang/System" "arraycopy" 5 = 7 := by decide
      have e2 : 2 * (mkF m pc Ls (.int 0 :: .int 0 :: .ref dst :: .int 0 :: .ref src :: st)).monitorRoom = 0 := rfl
      omega)
  have e3 : copyLocs dst (0 : Int32).toNatClampNeg (0 : Int32).toNatClampNeg = [] := rfl
  rw [e3, List.append_nil] at X'
  refine Go.step (fun t q => stp _ q) (k _ ⟨X', X.2.1, X.2.2.1, X.2.2.2.1, X.2.2.2.2.1, hZ, ?_⟩)
  have e4 : copied ca cb 0 0 0 = cb := rfl
  show T.heap.setIfInBounds dst (copied ca cb 0 0 0) = h
  rw [e4, eh]
  apply Array.ext_getElem?
  intro j
  by_cases q : dst = j
  · subst q
    have hlt := (Array.getElem?_eq_some_iff.mp B.1).1
    rw [B.1]; simp [hlt]
  · simp [Array.getElem?_setIfInBounds, q]
theorem Av.empty {s : State} {args : Array Value} {t : Term} {ty : FieldType} {a : Addr} (n1 : (Cond.arrayOf t ty).value args s none s [] = some true) (ev : t.eval args s none [] s = some (.ref a)) (hl : (Term.length t).eval args s none [] s = some (.int 0)) : Av s s.heap a ty [] := by
  obtain ⟨c, A⟩ := Arr.start ev n1
  have hat : s.arrayAt? a = some c := A.fin (State.Warmed39.refl s).alike
  obtain ⟨a', cell, e1, e2, e3⟩ := Term.length_spec hl
  obtain rfl : a' = a := by simpa using e1.symm.trans ev
  obtain rfl : cell = c := Option.some.inj (e2.symm.trans hat)
  have lt := Jvm.Free.SBG.length_lt ev e2 hl
  have e4 : cell.slots.size.toInt32 = 0 := (Value.int.inj e3).symm
  have e5 := len_toInt lt
  rw [e4] at e5
  have e6 : cell.slots.size = 0 := by
    have q : (0 : Int32).toInt = 0 := rfl
    omega
  exact ⟨cell, A, List.eq_nil_of_length_eq_zero (by rw [Array.length_toList]; exact e6), by decide⟩
theorem narC {u : Int32} (h0 : 0 ≤ u.toInt) (h1 : u.toInt ≤ 65535) : nar .char u = u := by
  have a := c_i2c u
  apply Int32.toInt_inj.mp
  show (u.toUInt32.toUInt16.toUInt32.toInt32).toInt = _
  omega
theorem narR (u : Int32) : 0 ≤ (nar .char u).toInt ∧ (nar .char u).toInt ≤ 65535 := by
  have a := c_i2c u
  show 0 ≤ (u.toUInt32.toUInt16.toUInt32.toInt32).toInt ∧ (u.toUInt32.toUInt16.toUInt32.toInt32).toInt ≤ 65535
  omega
/-- a char's two bytes, and the char again -/
def loB (c : Int32) : Int32 := nar .byte ((c >>> ((0 : Int32) &&& 31)).toInt8.toInt32)
def hiB (c : Int32) : Int32 := nar .byte ((c >>> ((8 : Int32) &&& 31)).toInt8.toInt32)
def joinB (x y : Int32) : Int32 := ((((x &&& (255 : Int32)) <<< ((0 : Int32) &&& 31)) ||| ((y &&& (255 : Int32)) <<< ((8 : Int32) &&& 31))).toUInt32.toUInt16.toUInt32.toInt32)
theorem m255 (x : Int32) : (x &&& (255 : Int32)).toInt = x.toInt % 256 := c_mask x 255 8 (by decide) (by decide)
theorem joinC {c : Int32} (h0 : 0 ≤ c.toInt) (h1 : c.toInt ≤ 65535) : joinB (loB c) (hiB c) = c := by
  have a0 := c_ishr c 0 0 (by decide)
  have a1 := c_ishr c 8 8 (by decide)
  have b0 := c_i2b (c >>> ((0 : Int32) &&& 31))
  have b0' := c_i2b (c >>> ((0 : Int32) &&& 31)).toInt8.toInt32
  have b1 := c_i2b (c >>> ((8 : Int32) &&& 31))
  have b1' := c_i2b (c >>> ((8 : Int32) &&& 31)).toInt8.toInt32
  have d0 := m255 (loB c)
  have d1 := m255 (hiB c)
  have e0 : (loB c).toInt = ((c >>> ((0 : Int32) &&& 31)).toInt8.toInt32).toInt8.toInt32.toInt := rfl
  have e1 : (hiB c).toInt = ((c >>> ((8 : Int32) &&& 31)).toInt8.toInt32).toInt8.toInt32.toInt := rfl
  unfold joinB
  generalize loB c = u at *
  generalize hiB c = v at *
  generalize (c >>> ((0 : Int32) &&& 31)).toInt8.toInt32.toInt8.toInt32.toInt = r0 at *
  generalize (c >>> ((8 : Int32) &&& 31)).toInt8.toInt32.toInt8.toInt32.toInt = r1 at *
  generalize (c >>> ((0 : Int32) &&& 31)).toInt8.toInt32.toInt = r2 at *
  generalize (c >>> ((8 : Int32) &&& 31)).toInt8.toInt32.toInt = r3 at *
  have f0 := c_ishl (u &&& 255) 0 0 (by decide)
  have f1 := c_ishl (v &&& 255) 8 8 (by decide)
  have g0 := rng32 ((u &&& 255) <<< ((0 : Int32) &&& 31))
  have g1 := rng32 ((v &&& 255) <<< ((8 : Int32) &&& 31))
  generalize (u &&& 255) <<< ((0 : Int32) &&& 31) = x at *
  generalize (v &&& 255) <<< ((8 : Int32) &&& 31) = y at *
  simp only [Nat.reducePow, Int.cast_ofNat_Int] at a0 a1 f0 f1
  have k := c_or' x y 8 (by decide) 256 rfl (by omega) (by omega) (by omega)
  have kr := rng32 (x ||| y)
  have z := c_i2c (x ||| y)
  apply Int32.toInt_inj.mp
  generalize (x ||| y).toUInt32.toUInt16.toUInt32.toInt32.toInt = w at *
  generalize (x ||| y).toInt = w2 at *
  omega
theorem inflC {c : Int32} (h0 : 0 ≤ c.toInt) (h1 : ¬ (255 : Int32) < c) : nar .char ((nar .byte (c.toInt8.toInt32) &&& (255 : Int32)).toUInt32.toUInt16.toUInt32.toInt32) = c := by
  rw [Int32.lt_iff_toInt_lt] at h1; simp only [Int32.reduceToInt] at h1
  have b0 := c_i2b c
  have b1 := c_i2b c.toInt8.toInt32
  have d := m255 (nar .byte (c.toInt8.toInt32))
  have e : (nar .byte (c.toInt8.toInt32)).toInt = c.toInt8.toInt32.toInt8.toInt32.toInt := rfl
  have z := c_i2c (nar .byte (c.toInt8.toInt32) &&& 255)
  generalize (nar .byte (c.toInt8.toInt32) &&& 255) = x at *
  have q : x.toUInt32.toUInt16.toUInt32.toInt32 = c := by
    apply Int32.toInt_inj.mp
    generalize x.toUInt32.toUInt16.toUInt32.toInt32.toInt = w at *
    generalize c.toInt8.toInt32.toInt8.toInt32.toInt = w1 at *
    generalize c.toInt8.toInt32.toInt = w2 at *
    omega
  rw [q]; exact narC h0 (by omega)
theorem m7 {k v : Int32} (e : (k &&& 2147483647) % 7 = v) : 0 ≤ v.toInt ∧ v.toInt ≤ 6 := by
  have q : (k &&& 2147483647).toInt = k.toInt % 2147483648 := c_mask k 2147483647 31 (by decide) (by decide)
  have r := (c_irem (k &&& 2147483647) 7 7 rfl).1 (by omega)
  rw [e] at r; omega
theorem mEnd {k s v : Int32} (h0 : 0 ≤ s.toInt) (h1 : s.toInt ≤ 6) (e : s + ((k.toUInt32 >>> ((8 : Int32) &&& 31).toUInt32).toInt32) % ((7 : Int32) - s) = v) : s.toInt ≤ v.toInt ∧ v.toInt ≤ 6 := by
  have a := c_iushr k 8 8 (by decide) (by decide)
  have b := c_isub 7 s
  have br := rng32 ((7 : Int32) - s)
  simp only [Int32.reduceToInt] at b
  have kr := rng32 k
  have d : ((7 : Int32) - s).toInt = 7 - s.toInt := by omega
  generalize ((k.toUInt32 >>> ((8 : Int32) &&& 31).toUInt32).toInt32) = x at *
  simp only [Nat.reducePow, Int.cast_ofNat_Int] at a
  have f := (c_iremV x ((7 : Int32) - s)).1 (by omega) (by omega)
  generalize x % ((7 : Int32) - s) = y at *
  have g := c_iadd s y
  rw [e] at g
  have vr := rng32 v
  omega
theorem end_ne {s : Int32} (h0 : 0 ≤ s.toInt) (h1 : s.toInt ≤ 6) : ¬ ((7 : Int32) - s) = (0 : Int32) := by
  intro q
  have b := c_isub 7 s
  rw [q] at b
  simp only [Int32.reduceToInt] at b
  omega
theorem m15 {k v : Int32} (e : k &&& 15 = v) : 0 ≤ v.toInt ∧ v.toInt ≤ 15 := by
  have q : (k &&& 15).toInt = k.toInt % 16 := c_mask k 15 4 (by decide) (by decide)
  rw [e] at q; omega
/-- one sign handled -/
def stp (cs : List Int32) (s : Nat) (i : Nat) (x : List Int32 × Nat) : List Int32 × Nat :=
  if cs.getD i 0 = 32 then x
  else if s < x.2 ∧ cs.getD (i - 1) 0 = 32 then ((x.1.set x.2 32).set (x.2 + 1) (cs.getD i 0), x.2 + 1 + 1)
  else (x.1.set x.2 (cs.getD i 0), x.2 + 1)
def gst (cs : List Int32) (s e : Nat) (i : Nat) (x : List Int32 × Nat) : List Int32 × Nat := if s ≤ i ∧ i < e then stp cs s i x else x
def git (cs : List Int32) (s e : Nat) : Nat → List Int32 × Nat
  | 0 => (cs, s)
  | i + 1 => gst cs s e i (git cs s e i)
theorem git_s (cs : List Int32) (s e i : Nat) : git cs s e (i + 1) = gst cs s e i (git cs s e i) := rfl
theorem git_lo (cs : List Int32) (s e : Nat) : ∀ i, i ≤ s → git cs s e i = (cs, s)
  | 0, _ => rfl
  | i + 1, h => by rw [git_s, git_lo cs s e i (by omega)]; exact if_neg (by omega)
theorem git_hi (cs : List Int32) (s e : Nat) : ∀ d, git cs s e (e + d) = git cs s e e
  | 0 => rfl
  | d + 1 => by rw [← Nat.add_assoc, git_s, git_hi cs s e d]; exact if_neg (by omega)
theorem git_len (cs : List Int32) (s e : Nat) : ∀ i, (git cs s e i).1.length = cs.length
  | 0 => rfl
  | i + 1 => by
    rw [git_s]; unfold gst stp
    split
    · split
      · exact git_len cs s e i
      · split <;> simp only [List.length_set] <;> exact git_len cs s e i
    · exact git_len cs s e i
/-- the place: not behind what has been read, and one back behind a space -/
theorem git_k (cs : List Int32) (s e : Nat) : ∀ i, s ≤ i → s ≤ (git cs s e i).2 ∧ (git cs s e i).2 ≤ i ∧ (s < i → i ≤ e → cs.getD (i - 1) 0 = 32 → (git cs s e i).2 + 1 ≤ i)
  | 0, h => by obtain rfl : s = 0 := by omega
               exact ⟨Nat.le_refl _, Nat.le_refl _, fun h => absurd h (Nat.lt_irrefl _)⟩
  | i + 1, h => by
    by_cases hs : s ≤ i
    · obtain ⟨h1, h2, h3⟩ := git_k cs s e i hs
      rw [git_s]; unfold gst
      by_cases he : i < e
      · rw [if_pos ⟨hs, he⟩]; unfold stp
        rw [Nat.add_sub_cancel]
        by_cases hc : cs.getD i 0 = 32
        · rw [if_pos hc]; exact ⟨h1, by omega, fun _ _ _ => by omega⟩
        · rw [if_neg hc]
          by_cases hp : s < (git cs s e i).2 ∧ cs.getD (i - 1) 0 = 32
          · rw [if_pos hp]
            have := h3 (by omega) (by omega) hp.2
            exact ⟨by dsimp only; omega, by dsimp only; omega, fun _ _ q => absurd q hc⟩
          · rw [if_neg hp]; exact ⟨by dsimp only; omega, by dsimp only; omega, fun _ _ q => absurd q hc⟩
      · rw [if_neg (by omega)]; exact ⟨h1, by omega, fun _ q => by omega⟩
    · obtain rfl : s = i + 1 := by omega
      rw [git_lo cs (i + 1) e (i + 1) (Nat.le_refl _)]
      exact ⟨Nat.le_refl _, Nat.le_refl _, fun h => absurd h (Nat.lt_irrefl _)⟩
theorem getD_set_ne {l : List Int32} {n j : Nat} {v : Int32} (h : n ≠ j) : (l.set n v).getD j 0 = l.getD j 0 := by
  rw [List.getD_eq_getElem?_getD, List.getD_eq_getElem?_getD, List.getElem?_set_ne h]
theorem git_rest (cs : List Int32) (s e : Nat) : ∀ i, ∀ j, i ≤ j → (git cs s e i).1.getD j 0 = cs.getD j 0
  | 0, j, _ => rfl
  | i + 1, j, h => by
    have ih := git_rest cs s e i j (by omega)
    rw [git_s]; unfold gst
    by_cases hg : s ≤ i ∧ i < e
    · obtain ⟨h1, h2, h3⟩ := git_k cs s e i hg.1
      rw [if_pos hg]; unfold stp
      by_cases hc : cs.getD i 0 = 32
      · rw [if_pos hc]; exact ih
      · rw [if_neg hc]
        by_cases hp : s < (git cs s e i).2 ∧ cs.getD (i - 1) 0 = 32
        · have := h3 (by omega) (by omega) hp.2
          rw [if_pos hp]
          dsimp only
          rw [getD_set_ne (by omega), getD_set_ne (by omega)]; exact ih
        · rw [if_neg hp]
          dsimp only
          rw [getD_set_ne (by omega)]; exact ih
    · rw [if_neg hg]; exact ih
/-- what is asked of the six signs and of the range -/
def Rng (cs : List Int32) (s e : Nat) (i1 i2 : Int32) : Prop := cs.length = 6 ∧ i1.toInt = s ∧ i2.toInt = e ∧ s ≤ e ∧ e ≤ 6 ∧ ∀ c ∈ cs, 0 ≤ c.toInt ∧ c.toInt ≤ 65535
/-- the signs as they lie in the array, and what lies behind them -/
def arrT (R : List Int32) (tl : List Value) : List Value := R.map Value.int ++ tl
theorem lkT {R : List Int32} {tl : List Value} {n : Nat} (h : n < R.length) : (arrT R tl)[n]? = some (.int (R.getD n 0)) := by
  unfold arrT
  rw [List.getElem?_append_left (by simpa using h), List.getElem?_map, List.getD_eq_getElem?_getD, List.getElem?_eq_getElem h]; rfl
theorem stT {R : List Int32} {tl : List Value} {n : Nat} {v : Int32} (h : n < R.length) : (arrT R tl).set n (.int v) = arrT (R.set n v) tl := by
  unfold arrT
  rw [List.set_append_left _ _ (by simpa using h), List.map_set]
theorem lenT {R : List Int32} {tl : List Value} : (arrT R tl).length = R.length + tl.length := by unfold arrT; simp
theorem memD {cs : List Int32} {i : Nat} (h : i < cs.length) : cs.getD i 0 ∈ cs := by
  rw [List.getD_eq_getElem?_getD, List.getElem?_eq_getElem h]; simp
theorem nat32 {z : Int32} {n : Nat} (h : z.toInt = n) : ¬ z < 0 ∧ z.toNatClampNeg = n := by
  refine ⟨?_, ?_⟩
  · rw [Int32.lt_iff_toInt_lt, h]; simp only [Int32.reduceToInt]; omega
  · show z.toInt.toNat = n; omega
theorem inc32 {z : Int32} {n : Nat} (h : z.toInt = n) (hn : n ≤ 100) : (z + (1 : Int32)).toInt = (n + 1 : Nat) := by
  rw [Int32.toInt_add, h]; simp only [Int32.reduceToInt]; rw [Int.bmod_eq_of_le (by omega) (by omega)]; omega
/-- at the loop's head -/
def InvC (cs : List Int32) (s e : Nat) (i : Nat) (kk pp ii : Int32) (s6 : Slot) : Prop :=
  s ≤ i ∧ i ≤ e ∧ ii.toInt = i ∧ kk.toInt = (git cs s e i).2 ∧ pp = (if s < (git cs s e i).2 ∧ s < i ∧ cs.getD (i - 1) 0 = 32 then 1 else 0) ∧ One s6
theorem InvC.start {cs : List Int32} {s e : Nat} {i1 i2 : Int32} (r : Rng cs s e i1 i2) : InvC cs s e s i1 0 i1 .unset := by
  refine ⟨Nat.le_refl _, r.2.2.2.1, r.2.1, ?_, ?_, One.u⟩
  · rw [git_lo cs s e s (Nat.le_refl _)]; exact r.2.1
  · rw [if_neg]; rintro ⟨-, h, -⟩; exact absurd h (Nat.lt_irrefl _)
section C
variable {cs : List Int32} {s e i : Nat} {i1 i2 kk pp ii : Int32} {s6 : Slot}
theorem InvC.read (I : InvC cs s e i kk pp ii s6) (r : Rng cs s e i1 i2) (q : ii < i2) : i < e ∧ i < (git cs s e i).1.length ∧ ¬ ii < 0 ∧ ii.toNatClampNeg = i ∧ (git cs s e i).1.getD i 0 = cs.getD i 0 ∧ nar .char (cs.getD i 0) = cs.getD i 0 := by
  obtain ⟨h1, h2, h3, h4, h5, h6⟩ := I
  obtain ⟨r1, r2, r3, r4, r5, r6⟩ := r
  rw [Int32.lt_iff_toInt_lt, h3, r3] at q
  have m := r6 _ (memD (cs := cs) (i := i) (by omega))
  exact ⟨by omega, by rw [git_len]; omega, (nat32 h3).1, (nat32 h3).2, git_rest cs s e i i (Nat.le_refl _), narC m.1 m.2⟩
theorem InvC.place (I : InvC cs s e i kk pp ii s6) (r : Rng cs s e i1 i2) (q : ii < i2) : (git cs s e i).2 ≤ i ∧ (git cs s e i).2 < (git cs s e i).1.length ∧ ¬ kk < 0 ∧ kk.toNatClampNeg = (git cs s e i).2 ∧ (¬ pp = 0 → (git cs s e i).2 + 1 ≤ i ∧ s < (git cs s e i).2 ∧ cs.getD (i - 1) 0 = 32) ∧ (kk + (1 : Int32)).toInt = ((git cs s e i).2 + 1 : Nat) := by
  obtain ⟨h1, h2, h3, h4, h5, h6⟩ := I
  obtain ⟨r1, r2, r3, r4, r5, r6⟩ := r
  rw [Int32.lt_iff_toInt_lt, h3, r3] at q
  obtain ⟨g1, g2, g3⟩ := git_k cs s e i h1
  refine ⟨g2, by rw [git_len]; omega, (nat32 h4).1, (nat32 h4).2, fun hp => ?_, inc32 h4 (by omega)⟩
  by_cases hh : s < (git cs s e i).2 ∧ s < i ∧ cs.getD (i - 1) 0 = 32
  · exact ⟨g3 hh.2.1 (by omega) hh.2.2, hh.1, hh.2.2⟩
  · rw [if_neg hh] at h5; exact absurd h5 hp
theorem InvC.space (I : InvC cs s e i kk pp ii s6) (r : Rng cs s e i1 i2) (q : ii < i2) (hc : cs.getD i 0 = 32) {p' : Int32} (hp : (i1 < kk ∧ p' = 1) ∨ (¬ i1 < kk ∧ p' = 0)) {s6' : Slot} (hs : One s6') : e - (i + 1) < e - i ∧ git cs s e (i + 1) = git cs s e i ∧ InvC cs s e (i + 1) kk p' (ii + (1 : Int32)) s6' := by
  have R := I.read r q
  obtain ⟨h1, h2, h3, h4, h5, h6⟩ := I
  obtain ⟨r1, r2, r3, r4, r5, r6⟩ := r
  have g : git cs s e (i + 1) = git cs s e i := by rw [git_s]; unfold gst stp; rw [if_pos ⟨h1, R.1⟩, if_pos hc]
  refine ⟨by omega, g, by omega, by omega, inc32 h3 (by omega), by rw [g]; exact h4, ?_, hs⟩
  rw [g, Nat.add_sub_cancel]
  have e0 : i1 < kk ↔ s < (git cs s e i).2 := by rw [Int32.lt_iff_toInt_lt, r2, h4]; omega
  rcases hp with ⟨a, rfl⟩ | ⟨a, rfl⟩
  · rw [if_pos ⟨e0.mp a, by omega, hc⟩]
  · rw [if_neg (fun x => a (e0.mpr x.1))]
theorem InvC.plain (I : InvC cs s e i kk pp ii s6) (r : Rng cs s e i1 i2) (q : ii < i2) (hc : ¬ cs.getD i 0 = 32) (hp : pp = 0) {s6' : Slot} (hs : One s6') : e - (i + 1) < e - i ∧ (git cs s e (i + 1)).1 = (git cs s e i).1.set (git cs s e i).2 (cs.getD i 0) ∧ InvC cs s e (i + 1) (kk + (1 : Int32)) pp (ii + (1 : Int32)) s6' := by
  have R := I.read r q
  have P := I.place r q
  obtain ⟨h1, h2, h3, h4, h5, h6⟩ := I
  have hn : ¬ (s < (git cs s e i).2 ∧ cs.getD (i - 1) 0 = 32) := fun x => by
    have g := git_k cs s e i h1
    rw [if_pos ⟨x.1, by omega, x.2⟩, hp] at h5; exact absurd h5 (by decide)
  have g : git cs s e (i + 1) = ((git cs s e i).1.set (git cs s e i).2 (cs.getD i 0), (git cs s e i).2 + 1) := by rw [git_s]; unfold gst stp; rw [if_pos ⟨h1, R.1⟩, if_neg hc, if_neg hn]
  obtain ⟨r1, r2, r3, r4, r5, r6⟩ := r
  refine ⟨by omega, by rw [g], by omega, by omega, inc32 h3 (by omega), by rw [g]; exact P.2.2.2.2.2, ?_, hs⟩
  rw [Nat.add_sub_cancel, if_neg (fun x => hc x.2.2)]; exact hp
theorem InvC.pend (I : InvC cs s e i kk pp ii s6) (r : Rng cs s e i1 i2) (q : ii < i2) (hc : ¬ cs.getD i 0 = 32) (hp : ¬ pp = 0) {s6' : Slot} (hs : One s6') : e - (i + 1) < e - i ∧ (git cs s e (i + 1)).1 = ((git cs s e i).1.set (git cs s e i).2 32).set ((git cs s e i).2 + 1) (cs.getD i 0) ∧ InvC cs s e (i + 1) (kk + (1 : Int32) + (1 : Int32)) 0 (ii + (1 : Int32)) s6' := by
  have R := I.read r q
  have P := I.place r q
  obtain ⟨h1, h2, h3, h4, h5, h6⟩ := I
  have x := P.2.2.2.2.1 hp
  have g : git cs s e (i + 1) = (((git cs s e i).1.set (git cs s e i).2 32).set ((git cs s e i).2 + 1) (cs.getD i 0), (git cs s e i).2 + 1 + 1) := by rw [git_s]; unfold gst stp; rw [if_pos ⟨h1, R.1⟩, if_neg hc, if_pos ⟨x.2.1, x.2.2⟩]
  obtain ⟨r1, r2, r3, r4, r5, r6⟩ := r
  refine ⟨by omega, by rw [g], by omega, by omega, inc32 h3 (by omega), by rw [g]; exact inc32 P.2.2.2.2.2 (by omega), ?_, hs⟩
  rw [Nat.add_sub_cancel, if_neg (fun x => hc x.2.2)]
/-- the second place that is written -/
theorem InvC.next (I : InvC cs s e i kk pp ii s6) (r : Rng cs s e i1 i2) (q : ii < i2) (hp : ¬ pp = 0) : ¬ (kk + (1 : Int32)) < 0 ∧ (kk + (1 : Int32)).toNatClampNeg = (git cs s e i).2 + 1 ∧ (git cs s e i).2 + 1 < ((git cs s e i).1.set (git cs s e i).2 32).length := by
  have P := I.place r q
  have R := I.read r q
  have x := P.2.2.2.2.1 hp
  exact ⟨(nat32 P.2.2.2.2.2).1, (nat32 P.2.2.2.2.2).2, by rw [List.length_set]; omega⟩
theorem InvC.last (I : InvC cs s e i kk pp ii s6) (r : Rng cs s e i1 i2) (q : ¬ ii < i2) : i = e ∧ git cs s e 6 = git cs s e i ∧ kk.toInt = (git cs s e 6).2 := by
  obtain ⟨h1, h2, h3, h4, h5, h6⟩ := I
  obtain ⟨r1, r2, r3, r4, r5, r6⟩ := r
  rw [Int32.lt_iff_toInt_lt, h3, r3] at q
  obtain rfl : i = e := by omega
  have g : git cs s i 6 = git cs s i i := by
    have := git_hi cs s i (6 - i)
    rw [Nat.add_sub_cancel' r5] at this; exact this
  exact ⟨rfl, g, by rw [g]; exact h4⟩
end C

section P
variable {cs : List Int32} {s e i : Nat} {i1 i2 kk : Int32}
theorem put_out (h : ¬ (s ≤ i ∧ i < e)) : git cs s e (i + 1) = git cs s e i := by rw [git_s]; exact if_neg h
theorem put_space (hc : cs.getD i 0 = 32) : git cs s e (i + 1) = git cs s e i := by
  rw [git_s]; unfold gst stp
  rw [if_pos hc]
  split <;> rfl
theorem put_plain (h1 : s ≤ i) (h2 : i < e) (hc : ¬ cs.getD i 0 = 32) (hn : ¬ (s < (git cs s e i).2 ∧ cs.getD (i - 1) 0 = 32)) : git cs s e (i + 1) = ((git cs s e i).1.set (git cs s e i).2 (cs.getD i 0), (git cs s e i).2 + 1) := by
  rw [git_s]; unfold gst stp; rw [if_pos ⟨h1, h2⟩, if_neg hc, if_neg hn]
theorem put_pend (h1 : s ≤ i) (h2 : i < e) (hc : ¬ cs.getD i 0 = 32) (hn : s < (git cs s e i).2 ∧ cs.getD (i - 1) 0 = 32) : git cs s e (i + 1) = (((git cs s e i).1.set (git cs s e i).2 32).set ((git cs s e i).2 + 1) (cs.getD i 0), (git cs s e i).2 + 1 + 1) := by
  rw [git_s]; unfold gst stp; rw [if_pos ⟨h1, h2⟩, if_neg hc, if_pos hn]
end P

theorem pn_0 : plainName "java/lang/StringUTF16" = true := by first | (simp [plainName, overriddenIn]; done) | decide +kernel
theorem d32_0 : decode jdk_52_method_3_code 0 = .ok (.iload_n 0, 1) := by decide +kernel
theorem d32_1 : decode jdk_52_method_3_code 1 = .ok (.ifCond .ge 11, 3) := by decide +kernel
theorem d32_12 : decode jdk_52_method_3_code 12 = .ok (.iload_n 0, 1) := by decide +kernel
theorem d32_13 : decode jdk_52_method_3_code 13 = .ok (.ldc 20, 2) := by decide +kernel
theorem d32_15 : decode jdk_52_method_3_code 15 = .ok (.if_icmp .lt 40, 3) := by decide +kernel
theorem d32_55 : decode jdk_52_method_3_code 55 = .ok (.iload_n 0, 1) := by decide +kernel
theorem d32_56 : decode jdk_52_method_3_code 56 = .ok (.iconst 1, 1) := by decide +kernel
theorem d32_57 : decode jdk_52_method_3_code 57 = .ok (.ishl, 1) := by decide +kernel
theorem d32_58 : decode jdk_52_method_3_code 58 = .ok (.ireturn, 1) := by decide +kernel
theorem ef_rNbl (m : MethodId) (x0 : Int32) : entryFrame m #[(.int x0)] 1 = mkF m 0 #[.val (.int x0)] [] := by first | (simp [entryFrame, mkF, argsToLocals, Value.category]; done) | rfl
set_option maxRecDepth 65536 in
set_option maxHeartbeats 40000000 in
theorem rNbl (l : Launch) (Z : State) (aa : Array Value) (hw : ∀ d ∈ tables_1, d.before aa Z = true) (ws : List Jvm.Cond)  (h0 : Heap) :
    Rm l Z (⟨"java/lang/StringUTF16", "newBytesLength", "(I)I"⟩ : MethodName) jdk_52_method_3_code 1 (some .int) ws ({ frames := 0, cells := 0, slots := 0, locals := 0 } : Room) #[(.int (6 : Int32))] h0 (Pu (.int (12 : Int32)) h0) := by
 refine Rm.of (plainFor_of_name pn_0) ?_
 intro p e s m below meth cc T X hnm hret hlk
 refine Go.at_ (ef_rNbl m (6 : Int32)) ?_
 refine g_iloadN X d32_0 (pc' := 1) rfl rfl ?_
 refine g_ifY X d32_1 ((if0 _ _).trans (flt (show ¬ ((6 : Int32) < (0 : Int32)) from (by decide))).2.1) (pc' := 12) (by decide) (by decide) ?_
 refine g_iloadN X d32_12 (pc' := 13) rfl rfl ?_
 refine g_ldc X (tb hw 152 rfl) d32_13 (pc' := 15) rfl ?_
 refine g_icY X d32_15 (tlt (show (6 : Int32) < (1073741823 : Int32) from (by decide))).1 (pc' := 55) (by decide) (by decide) ?_
 refine g_iloadN X d32_55 (pc' := 56) rfl rfl ?_
 refine g_iconst X (1 : Int32) d32_56 (pc' := 57) rfl rfl ?_
 refine g_ishl X d32_57 (pc' := 58) rfl ?_
 refine Go.lit32 (z := (12 : Int32)) (by decide) ?_
 refine g_ireturn X d32_58 hret hlk (by decide) (by decide) ?_
 exact ⟨rfl, rfl, rfl⟩
theorem d31_0 : decode jdk_52_method_2_code 0 = .ok (.iload_n 0, 1) := by decide +kernel
theorem d31_1 : decode jdk_52_method_2_code 1 = .ok (.invokestatic 11, 3) := by decide +kernel
theorem pd_0 : parseMethodDescriptor "(I)I" = some ⟨[.int], some .int⟩ := by decide +kernel
theorem d31_4 : decode jdk_52_method_2_code 4 = .ok (.newarray .byte, 2) := by decide +kernel
theorem d31_6 : decode jdk_52_method_2_code 6 = .ok (.areturn, 1) := by decide +kernel
theorem ef_rNbf (m : MethodId) (x0 : Int32) : entryFrame m #[(.int x0)] 1 = mkF m 0 #[.val (.int x0)] [] := by first | (simp [entryFrame, mkF, argsToLocals, Value.category]; done) | rfl
set_option maxRecDepth 65536 in
set_option maxHeartbeats 40000000 in
theorem rNbf (l : Launch) (Z : State) (aa : Array Value) (hw : ∀ d ∈ tables_1, d.before aa Z = true) (ws : List Jvm.Cond)  (h0 : Heap) (n0 : Nat) (Z0 : n0 ≤ h0.size) (Od : Old Z n0 h0) :
    Rm l Z (⟨"java/lang/StringUTF16", "newBytesFor", "(I)[B"⟩ : MethodName) jdk_52_method_2_code 1 (some (.array .byte)) ws ({ frames := 1, cells := 1, slots := 12, locals := 12 } : Room) #[(.int (6 : Int32))] h0 (fun v h L => ∃ q0 : Addr, v = some (.ref q0) ∧ Fr n0 L ∧ Keep h0 h [] ∧ h0.size ≤ q0 ∧ n0 ≤ q0 ∧ Exa Z h q0 "[B" ∧ Av Z h q0 .byte [(.int (0 : Int32)), (.int (0 : Int32)), (.int (0 : Int32)), (.int (0 : Int32)), (.int (0 : Int32)), (.int (0 : Int32)), (.int (0 : Int32)), (.int (0 : Int32)), (.int (0 : Int32)), (.int (0 : Int32)), (.int (0 : Int32)), (.int (0 : Int32))]) := by
 refine Rm.of (plainFor_of_name pn_0) ?_
 intro p e s m below meth cc T X hnm hret hlk
 refine Go.at_ (ef_rNbf m (6 : Int32)) ?_
 have N := Fr.nil n0
 have Kp := Keep.refl h0 []
 refine g_iloadN X d31_0 (pc' := 1) rfl rfl ?_
 refine g_static X (W := 0) [(.int (6 : Int32))] [] (tb hw 149 rfl) (tb hw 150 rfl) (tb hw 35 rfl) (tb hw 151 rfl) (rNbl l Z aa hw []  _) d31_1 (pc' := 4) rfl (by decide) (by decide) (by decide) rfl rfl rfl (lenOf pd_0 rfl) (Nat.le_refl _) (by decide) (by decide) ?_
 intro v T L X q
 obtain ⟨rfl, X⟩ := pureX X q
 show Go p e below _ (T.setTop (mkF m 4 _ [(.int (12 : Int32))]))
 refine g_newarray X 12 (tb hw 37 rfl) d31_4 (pc' := 6) rfl (by decide) (by decide) 12 (by decide) (by decide) (by decide) (by decide) (vs := [(.int (0 : Int32)), (.int (0 : Int32)), (.int (0 : Int32)), (.int (0 : Int32)), (.int (0 : Int32)), (.int (0 : Int32)), (.int (0 : Int32)), (.int (0 : Int32)), (.int (0 : Int32)), (.int (0 : Int32)), (.int (0 : Int32)), (.int (0 : Int32))]) rfl (ad := "[B") (by decide) ?_
 intro T h qa qb X Ex qc qd
 have qe : n0 ≤ qa := by rw [qb]; exact Z0
 have qf : h0.size ≤ qa := by rw [qb]; exact Kp.1
 replace Z0 := Nat.le_trans Z0 Ex.1
 replace Kp := Kp.ext Ex
 replace Od := Od.ext Ex
 refine g_areturn X rfl rfl d31_6 hret hlk (by decide) (by decide) ?_
 exact ⟨qa, rfl, N, Kp, qf, qe, qc, qd⟩
theorem d33_0 : decode jdk_52_method_4_code 0 = .ok (.getstatic 44, 3) := by decide +kernel
theorem d33_3 : decode jdk_52_method_4_code 3 = .ok (.ifCond .ne 25, 3) := by decide +kernel
theorem d33_28 : decode jdk_52_method_4_code 28 = .ok (.iload_n 1, 1) := by decide +kernel
theorem d33_29 : decode jdk_52_method_4_code 29 = .ok (.iconst 1, 1) := by decide +kernel
theorem d33_30 : decode jdk_52_method_4_code 30 = .ok (.ishl, 1) := by decide +kernel
theorem d33_31 : decode jdk_52_method_4_code 31 = .ok (.istore_n 1, 1) := by decide +kernel
theorem d33_32 : decode jdk_52_method_4_code 32 = .ok (.aload_n 0, 1) := by decide +kernel
theorem d33_33 : decode jdk_52_method_4_code 33 = .ok (.iload_n 1, 1) := by decide +kernel
theorem d33_34 : decode jdk_52_method_4_code 34 = .ok (.iinc 1 1, 3) := by decide +kernel
theorem d33_37 : decode jdk_52_method_4_code 37 = .ok (.iload_n 2, 1) := by decide +kernel
theorem d33_38 : decode jdk_52_method_4_code 38 = .ok (.getstatic 59, 3) := by decide +kernel
theorem d33_41 : decode jdk_52_method_4_code 41 = .ok (.ishr, 1) := by decide +kernel
theorem d33_42 : decode jdk_52_method_4_code 42 = .ok (.i2b, 1) := by decide +kernel
theorem d33_43 : decode jdk_52_method_4_code 43 = .ok (.bastore, 1) := by decide +kernel
theorem d33_44 : decode jdk_52_method_4_code 44 = .ok (.aload_n 0, 1) := by decide +kernel
theorem d33_45 : decode jdk_52_method_4_code 45 = .ok (.iload_n 1, 1) := by decide +kernel
theorem d33_46 : decode jdk_52_method_4_code 46 = .ok (.iload_n 2, 1) := by decide +kernel
theorem d33_47 : decode jdk_52_method_4_code 47 = .ok (.getstatic 63, 3) := by decide +kernel
theorem d33_50 : decode jdk_52_method_4_code 50 = .ok (.ishr, 1) := by decide +kernel
theorem d33_51 : decode jdk_52_method_4_code 51 = .ok (.i2b, 1) := by decide +kernel
theorem d33_52 : decode jdk_52_method_4_code 52 = .ok (.bastore, 1) := by decide +kernel
theorem d33_53 : decode jdk_52_method_4_code 53 = .ok (.return_, 1) := by decide +kernel
theorem ef_rPc0 (m : MethodId) (x0 : Addr) (x1 : Int32) (x2 : Int32) : entryFrame m #[(.ref x0), (.int x1), (.int x2)] 3 = mkF m 0 #[.val (.ref x0), .val (.int x1), .val (.int x2)] [] := by first | (simp [entryFrame, mkF, argsToLocals, Value.category]; done) | rfl
set_option maxRecDepth 65536 in
set_option maxHeartbeats 40000000 in
theorem rPc0 (l : Launch) (Z : State) (aa : Array Value) (hw : ∀ d ∈ tables_1, d.before aa Z = true) (ws : List Jvm.Cond) (a0 : Addr) (i2 : Int32) (y0 : Int32) (y1 : Int32) (y2 : Int32) (y3 : Int32) (y4 : Int32) (y5 : Int32) (y6 : Int32) (y7 : Int32) (y8 : Int32) (y9 : Int32) (y10 : Int32) (y11 : Int32) (h0 : Heap) (n0 : Nat) (Z0 : n0 ≤ h0.size) (qa : Av Z h0 a0 .byte [(.int y0), (.int y1), (.int y2), (.int y3), (.int y4), (.int y5), (.int y6), (.int y7), (.int y8), (.int y9), (.int y10), (.int y11)]) (qb : n0 ≤ a0) (qd : Sta Z Z.heap "java/lang/StringUTF16" "$assertionsDisabled" "Z" (.int (1 : Int32))) (qe : Sta Z Z.heap "java/lang/StringUTF16" "HI_BYTE_SHIFT" "I" (.int (0 : Int32))) (qf : Sta Z Z.heap "java/lang/StringUTF16" "LO_BYTE_SHIFT" "I" (.int (8 : Int32))) (Od : Old Z n0 h0) :
    Rm l Z (⟨"java/lang/StringUTF16", "putChar", "([BII)V"⟩ : MethodName) jdk_52_method_4_code 3 none ws ({ frames := 0, cells := 0, slots := 0, locals := 0 } : Room) #[(.ref a0), (.int (0 : Int32)), (.int i2)] h0 (fun v h L => v = none ∧ Fr n0 L ∧ Keep h0 h [a0] ∧ Av Z h a0 .byte [(.int (nar .byte ((i2 >>> ((0 : Int32) &&& 31)).toInt8.toInt32))), (.int (nar .byte ((i2 >>> ((8 : Int32) &&& 31)).toInt8.toInt32))), (.int y2), (.int y3), (.int y4), (.int y5), (.int y6), (.int y7), (.int y8), (.int y9), (.int y10), (.int y11)]) := by
 refine Rm.of (plainFor_of_name pn_0) ?_
 intro p e s m below meth cc T X hnm hret hlk
 refine Go.at_ (ef_rPc0 m a0 (0 : Int32) i2) ?_
 have N := Fr.nil n0
 have Kp := Keep.refl h0 [a0]
 refine g_getstatic X (host := "") (Or.inl (tb hw 156 rfl)) Via.refl (qd.ext Od.2) d33_0 (pc' := 3) rfl ?_
 intro T X
 refine g_ifY X d33_3 ((if0 _ _).trans (feq (show ¬ ((1 : Int32) = (0 : Int32)) from (by decide))).2) (pc' := 28) (by decide) (by decide) ?_
 refine g_iloadN X d33_28 (pc' := 29) rfl rfl ?_
 refine g_iconst X (1 : Int32) d33_29 (pc' := 30) rfl rfl ?_
 refine g_ishl X d33_30 (pc' := 31) rfl ?_
 refine Go.lit32 (z := (0 : Int32)) (by decide) ?_
 refine g_istoreN X d33_31 (pc' := 32) (Ls' := #[.val (.ref a0), .val (.int (0 : Int32)), .val (.int i2)]) rfl rfl ?_
 refine g_aloadN X d33_32 (pc' := 33) rfl rfl rfl ?_
 refine g_iloadN X d33_33 (pc' := 34) rfl rfl ?_
 refine g_iinc X d33_34 (pc' := 37) (q := (1 : Int32)) (Ls' := #[.val (.ref a0), .val (.int (1 : Int32)), .val (.int i2)]) rfl rfl rfl rfl ?_
 refine g_iloadN X d33_37 (pc' := 38) rfl rfl ?_
 refine g_getstatic X (host := "") (Or.inl (tb hw 157 rfl)) Via.refl (qe.ext Od.2) d33_38 (pc' := 41) rfl ?_
 intro T X
 refine g_ishr X d33_41 (pc' := 42) rfl ?_
 refine g_i2b X d33_42 (pc' := 43) rfl ?_
 generalize qg : ((i2 >>> ((0 : Int32) &&& 31)).toInt8.toInt32) = qc
 refine g_bastore X qa 0 d33_43 (pc' := 44) rfl (by decide) (by decide) (Nat.le_of_ble_eq_true rfl) ?_
 intro T h X W qa
 replace qa : Av Z h a0 .byte [(.int (nar .byte qc)), (.int y1), (.int y2), (.int y3), (.int y4), (.int y5), (.int y6), (.int y7), (.int y8), (.int y9), (.int y10), (.int y11)] := qa
 replace Z0 := Nat.le_trans Z0 (Nat.le_of_eq W.size.symm)
 replace N := Fr.snoc X.1 N qb
 replace Kp := Kp.wr W (Or.inl (List.mem_of_getElem? (i := 0) rfl))
 replace Od := Od.wr W qb
 refine g_aloadN X d33_44 (pc' := 45) rfl rfl rfl ?_
 refine g_iloadN X d33_45 (pc' := 46) rfl rfl ?_
 refine g_iloadN X d33_46 (pc' := 47) rfl rfl ?_
 refine g_getstatic X (host := "") (Or.inl (tb hw 158 rfl)) Via.refl (qf.ext Od.2) d33_47 (pc' := 50) rfl ?_
 intro T X
 refine g_ishr X d33_50 (pc' := 51) rfl ?_
 refine g_i2b X d33_51 (pc' := 52) rfl ?_
 generalize qh : ((i2 >>> ((8 : Int32) &&& 31)).toInt8.toInt32) = qi
 refine g_bastore X qa 1 d33_52 (pc' := 53) rfl (by decide) (by decide) (Nat.le_of_ble_eq_true rfl) ?_
 intro T h X W qa
 replace qa : Av Z h a0 .byte [(.int (nar .byte qc)), (.int (nar .byte qi)), (.int y2), (.int y3), (.int y4), (.int y5), (.int y6), (.int y7), (.int y8), (.int y9), (.int y10), (.int y11)] := qa
 replace Z0 := Nat.le_trans Z0 (Nat.le_of_eq W.size.symm)
 replace N := Fr.snoc X.1 N qb
 replace Kp := Kp.wr W (Or.inl (List.mem_of_getElem? (i := 0) rfl))
 replace Od := Od.wr W qb
 refine g_return X d33_53 hret hlk (by decide) (by decide) ?_
 subst qg qh
 exact ⟨rfl, N, Kp, qa⟩
theorem ef_rPc1 (m : MethodId) (x0 : Addr) (x1 : Int32) (x2 : Int32) : entryFrame m #[(.ref x0), (.int x1), (.int x2)] 3 = mkF m 0 #[.val (.ref x0), .val (.int x1), .val (.int x2)] [] := by first | (simp [entryFrame, mkF, argsToLocals, Value.category]; done) | rfl
set_option maxRecDepth 65536 in
set_option maxHeartbeats 40000000 in
theorem rPc1 (l : Launch) (Z : State) (aa : Array Value) (hw : ∀ d ∈ tables_1, d.before aa Z = true) (ws : List Jvm.Cond) (a0 : Addr) (i2 : Int32) (y0 : Int32) (y1 : Int32) (y2 : Int32) (y3 : Int32) (y4 : Int32) (y5 : Int32) (y6 : Int32) (y7 : Int32) (y8 : Int32) (y9 : Int32) (y10 : Int32) (y11 : Int32) (h0 : Heap) (n0 : Nat) (Z0 : n0 ≤ h0.size) (qa : Av Z h0 a0 .byte [(.int y0), (.int y1), (.int y2), (.int y3), (.int y4), (.int y5), (.int y6), (.int y7), (.int y8), (.int y9), (.int y10), (.int y11)]) (qb : n0 ≤ a0) (qd : Sta Z Z.heap "java/lang/StringUTF16" "$assertionsDisabled" "Z" (.int (1 : Int32))) (qe : Sta Z Z.heap "java/lang/StringUTF16" "HI_BYTE_SHIFT" "I" (.int (0 : Int32))) (qf : Sta Z Z.heap "java/lang/StringUTF16" "LO_BYTE_SHIFT" "I" (.int (8 : Int32))) (Od : Old Z n0 h0) :
    Rm l Z (⟨"java/lang/StringUTF16", "putChar", "([BII)V"⟩ : MethodName) jdk_52_method_4_code 3 none ws ({ frames := 0, cells := 0, slots := 0, locals := 0 } : Room) #[(.ref a0), (.int (1 : Int32)), (.int i2)] h0 (fun v h L => v = none ∧ Fr n0 L ∧ Keep h0 h [a0] ∧ Av Z h a0 .byte [(.int y0), (.int y1), (.int (nar .byte ((i2 >>> ((0 : Int32) &&& 31)).toInt8.toInt32))), (.int (nar .byte ((i2 >>> ((8 : Int32) &&& 31)).toInt8.toInt32))), (.int y4), (.int y5), (.int y6), (.int y7), (.int y8), (.int y9), (.int y10), (.int y11)]) := by
 refine Rm.of (plainFor_of_name pn_0) ?_
 intro p e s m below meth cc T X hnm hret hlk
 refine Go.at_ (ef_rPc1 m a0 (1 : Int32) i2) ?_
 have N := Fr.nil n0
 have Kp := Keep.refl h0 [a0]
 refine g_getstatic X (host := "") (Or.inl (tb hw 156 rfl)) Via.refl (qd.ext Od.2) d33_0 (pc' := 3) rfl ?_
 intro T X
 refine g_ifY X d33_3 ((if0 _ _).trans (feq (show ¬ ((1 : Int32) = (0 : Int32)) from (by decide))).2) (pc' := 28) (by decide) (by decide) ?_
 refine g_iloadN X d33_28 (pc' := 29) rfl rfl ?_
 refine g_iconst X (1 : Int32) d33_29 (pc' := 30) rfl rfl ?_
 refine g_ishl X d33_30 (pc' := 31) rfl ?_
 refine Go.lit32 (z := (2 : Int32)) (by decide) ?_
 refine g_istoreN X d33_31 (pc' := 32) (Ls' := #[.val (.ref a0), .val (.int (2 : Int32)), .val (.int i2)]) rfl rfl ?_
 refine g_aloadN X d33_32 (pc' := 33) rfl rfl rfl ?_
 refine g_iloadN X d33_33 (pc' := 34) rfl rfl ?_
 refine g_iinc X d33_34 (pc' := 37) (q := (1 : Int32)) (Ls' := #[.val (.ref a0), .val (.int (3 : Int32)), .val (.int i2)]) rfl rfl rfl rfl ?_
 refine g_iloadN X d33_37 (pc' := 38) rfl rfl ?_
 refine g_getstatic X (host := "") (Or.inl (tb hw 157 rfl)) Via.refl (qe.ext Od.2) d33_38 (pc' := 41) rfl ?_
 intro T X
 refine g_ishr X d33_41 (pc' := 42) rfl ?_
 refine g_i2b X d33_42 (pc' := 43) rfl ?_
 generalize qg : ((i2 >>> ((0 : Int32) &&& 31)).toInt8.toInt32) = qc
 refine g_bastore X qa 2 d33_43 (pc' := 44) rfl (by decide) (by decide) (Nat.le_of_ble_eq_true rfl) ?_
 intro T h X W qa
 replace qa : Av Z h a0 .byte [(.int y0), (.int y1), (.int (nar .byte qc)), (.int y3), (.int y4), (.int y5), (.int y6), (.int y7), (.int y8), (.int y9), (.int y10), (.int y11)] := qa
 replace Z0 := Nat.le_trans Z0 (Nat.le_of_eq W.size.symm)
 replace N := Fr.snoc X.1 N qb
 replace Kp := Kp.wr W (Or.inl (List.mem_of_getElem? (i := 0) rfl))
 replace Od := Od.wr W qb
 refine g_aloadN X d33_44 (pc' := 45) rfl rfl rfl ?_
 refine g_iloadN X d33_45 (pc' := 46) rfl rfl ?_
 refine g_iloadN X d33_46 (pc' := 47) rfl rfl ?_
 refine g_getstatic X (host := "") (Or.inl (tb hw 158 rfl)) Via.refl (qf.ext Od.2) d33_47 (pc' := 50) rfl ?_
 intro T X
 refine g_ishr X d33_50 (pc' := 51) rfl ?_
 refine g_i2b X d33_51 (pc' := 52) rfl ?_
 generalize qh : ((i2 >>> ((8 : Int32) &&& 31)).toInt8.toInt32) = qi
 refine g_bastore X qa 3 d33_52 (pc' := 53) rfl (by decide) (by decide) (Nat.le_of_ble_eq_true rfl) ?_
 intro T h X W qa
 replace qa : Av Z h a0 .byte [(.int y0), (.int y1), (.int (nar .byte qc)), (.int (nar .byte qi)), (.int y4), (.int y5), (.int y6), (.int y7), (.int y8), (.int y9), (.int y10), (.int y11)] := qa
 replace Z0 := Nat.le_trans Z0 (Nat.le_of_eq W.size.symm)
 replace N := Fr.snoc X.1 N qb
 replace Kp := Kp.wr W (Or.inl (List.mem_of_getElem? (i := 0) rfl))
 replace Od := Od.wr W qb
 refine g_return X d33_53 hret hlk (by decide) (by decide) ?_
 subst qg qh
 exact ⟨rfl, N, Kp, qa⟩
theorem ef_rPc2 (m : MethodId) (x0 : Addr) (x1 : Int32) (x2 : Int32) : entryFrame m #[(.ref x0), (.int x1), (.int x2)] 3 = mkF m 0 #[.val (.ref x0), .val (.int x1), .val (.int x2)] [] := by first | (simp [entryFrame, mkF, argsToLocals, Value.category]; done) | rfl
set_option maxRecDepth 65536 in
set_option maxHeartbeats 40000000 in
theorem rPc2 (l : Launch) (Z : State) (aa : Array Value) (hw : ∀ d ∈ tables_1, d.before aa Z = true) (ws : List Jvm.Cond) (a0 : Addr) (i2 : Int32) (y0 : Int32) (y1 : Int32) (y2 : Int32) (y3 : Int32) (y4 : Int32) (y5 : Int32) (y6 : Int32) (y7 : Int32) (y8 : Int32) (y9 : Int32) (y10 : Int32) (y11 : Int32) (h0 : Heap) (n0 : Nat) (Z0 : n0 ≤ h0.size) (qa : Av Z h0 a0 .byte [(.int y0), (.int y1), (.int y2), (.int y3), (.int y4), (.int y5), (.int y6), (.int y7), (.int y8), (.int y9), (.int y10), (.int y11)]) (qb : n0 ≤ a0) (qd : Sta Z Z.heap "java/lang/StringUTF16" "$assertionsDisabled" "Z" (.int (1 : Int32))) (qe : Sta Z Z.heap "java/lang/StringUTF16" "HI_BYTE_SHIFT" "I" (.int (0 : Int32))) (qf : Sta Z Z.heap "java/lang/StringUTF16" "LO_BYTE_SHIFT" "I" (.int (8 : Int32))) (Od : Old Z n0 h0) :
    Rm l Z (⟨"java/lang/StringUTF16", "putChar", "([BII)V"⟩ : MethodName) jdk_52_method_4_code 3 none ws ({ frames := 0, cells := 0, slots := 0, locals := 0 } : Room) #[(.ref a0), (.int (2 : Int32)), (.int i2)] h0 (fun v h L => v = none ∧ Fr n0 L ∧ Keep h0 h [a0] ∧ Av Z h a0 .byte [(.int y0), (.int y1), (.int y2), (.int y3), (.int (nar .byte ((i2 >>> ((0 : Int32) &&& 31)).toInt8.toInt32))), (.int (nar .byte ((i2 >>> ((8 : Int32) &&& 31)).toInt8.toInt32))), (.int y6), (.int y7), (.int y8), (.int y9), (.int y10), (.int y11)]) := by
 refine Rm.of (plainFor_of_name pn_0) ?_
 intro p e s m below meth cc T X hnm hret hlk
 refine Go.at_ (ef_rPc2 m a0 (2 : Int32) i2) ?_
 have N := Fr.nil n0
 have Kp := Keep.refl h0 [a0]
 refine g_getstatic X (host := "") (Or.inl (tb hw 156 rfl)) Via.refl (qd.ext Od.2) d33_0 (pc' := 3) rfl ?_
 intro T X
 refine g_ifY X d33_3 ((if0 _ _).trans (feq (show ¬ ((1 : Int32) = (0 : Int32)) from (by decide))).2) (pc' := 28) (by decide) (by decide) ?_
 refine g_iloadN X d33_28 (pc' := 29) rfl rfl ?_
 refine g_iconst X (1 : Int32) d33_29 (pc' := 30) rfl rfl ?_
 refine g_ishl X d33_30 (pc' := 31) rfl ?_
 refine Go.lit32 (z := (4 : Int32)) (by decide) ?_
 refine g_istoreN X d33_31 (pc' := 32) (Ls' := #[.val (.ref a0), .val (.int (4 : Int32)), .val (.int i2)]) rfl rfl ?_
 refine g_aloadN X d33_32 (pc' := 33) rfl rfl rfl ?_
 refine g_iloadN X d33_33 (pc' := 34) rfl rfl ?_
 refine g_iinc X d33_34 (pc' := 37) (q := (1 : Int32)) (Ls' := #[.val (.ref a0), .val (.int (5 : Int32)), .val (.int i2)]) rfl rfl rfl rfl ?_
 refine g_iloadN X d33_37 (pc' := 38) rfl rfl ?_
 refine g_getstatic X (host := "") (Or.inl (tb hw 157 rfl)) Via.refl (qe.ext Od.2) d33_38 (pc' := 41) rfl ?_
 intro T X
 refine g_ishr X d33_41 (pc' := 42) rfl ?_
 refine g_i2b X d33_42 (pc' := 43) rfl ?_
 generalize qg : ((i2 >>> ((0 : Int32) &&& 31)).toInt8.toInt32) = qc
 refine g_bastore X qa 4 d33_43 (pc' := 44) rfl (by decide) (by decide) (Nat.le_of_ble_eq_true rfl) ?_
 intro T h X W qa
 replace qa : Av Z h a0 .byte [(.int y0), (.int y1), (.int y2), (.int y3), (.int (nar .byte qc)), (.int y5), (.int y6), (.int y7), (.int y8), (.int y9), (.int y10), (.int y11)] := qa
 replace Z0 := Nat.le_trans Z0 (Nat.le_of_eq W.size.symm)
 replace N := Fr.snoc X.1 N qb
 replace Kp := Kp.wr W (Or.inl (List.mem_of_getElem? (i := 0) rfl))
 replace Od := Od.wr W qb
 refine g_aloadN X d33_44 (pc' := 45) rfl rfl rfl ?_
 refine g_iloadN X d33_45 (pc' := 46) rfl rfl ?_
 refine g_iloadN X d33_46 (pc' := 47) rfl rfl ?_
 refine g_getstatic X (host := "") (Or.inl (tb hw 158 rfl)) Via.refl (qf.ext Od.2) d33_47 (pc' := 50) rfl ?_
 intro T X
 refine g_ishr X d33_50 (pc' := 51) rfl ?_
 refine g_i2b X d33_51 (pc' := 52) rfl ?_
 generalize qh : ((i2 >>> ((8 : Int32) &&& 31)).toInt8.toInt32) = qi
 refine g_bastore X qa 5 d33_52 (pc' := 53) rfl (by decide) (by decide) (Nat.le_of_ble_eq_true rfl) ?_
 intro T h X W qa
 replace qa : Av Z h a0 .byte [(.int y0), (.int y1), (.int y2), (.int y3), (.int (nar .byte qc)), (.int (nar .byte qi)), (.int y6), (.int y7), (.int y8), (.int y9), (.int y10), (.int y11)] := qa
 replace Z0 := Nat.le_trans Z0 (Nat.le_of_eq W.size.symm)
 replace N := Fr.snoc X.1 N qb
 replace Kp := Kp.wr W (Or.inl (List.mem_of_getElem? (i := 0) rfl))
 replace Od := Od.wr W qb
 refine g_return X d33_53 hret hlk (by decide) (by decide) ?_
 subst qg qh
 exact ⟨rfl, N, Kp, qa⟩
theorem ef_rPc3 (m : MethodId) (x0 : Addr) (x1 : Int32) (x2 : Int32) : entryFrame m #[(.ref x0), (.int x1), (.int x2)] 3 = mkF m 0 #[.val (.ref x0), .val (.int x1), .val (.int x2)] [] := by first | (simp [entryFrame, mkF, argsToLocals, Value.category]; done) | rfl
set_option maxRecDepth 65536 in
set_option maxHeartbeats 40000000 in
theorem rPc3 (l : Launch) (Z : State) (aa : Array Value) (hw : ∀ d ∈ tables_1, d.before aa Z = true) (ws : List Jvm.Cond) (a0 : Addr) (i2 : Int32) (y0 : Int32) (y1 : Int32) (y2 : Int32) (y3 : Int32) (y4 : Int32) (y5 : Int32) (y6 : Int32) (y7 : Int32) (y8 : Int32) (y9 : Int32) (y10 : Int32) (y11 : Int32) (h0 : Heap) (n0 : Nat) (Z0 : n0 ≤ h0.size) (qa : Av Z h0 a0 .byte [(.int y0), (.int y1), (.int y2), (.int y3), (.int y4), (.int y5), (.int y6), (.int y7), (.int y8), (.int y9), (.int y10), (.int y11)]) (qb : n0 ≤ a0) (qd : Sta Z Z.heap "java/lang/StringUTF16" "$assertionsDisabled" "Z" (.int (1 : Int32))) (qe : Sta Z Z.heap "java/lang/StringUTF16" "HI_BYTE_SHIFT" "I" (.int (0 : Int32))) (qf : Sta Z Z.heap "java/lang/StringUTF16" "LO_BYTE_SHIFT" "I" (.int (8 : Int32))) (Od : Old Z n0 h0) :
    Rm l Z (⟨"java/lang/StringUTF16", "putChar", "([BII)V"⟩ : MethodName) jdk_52_method_4_code 3 none ws ({ frames := 0, cells := 0, slots := 0, locals := 0 } : Room) #[(.ref a0), (.int (3 : Int32)), (.int i2)] h0 (fun v h L => v = none ∧ Fr n0 L ∧ Keep h0 h [a0] ∧ Av Z h a0 .byte [(.int y0), (.int y1), (.int y2), (.int y3), (.int y4), (.int y5), (.int (nar .byte ((i2 >>> ((0 : Int32) &&& 31)).toInt8.toInt32))), (.int (nar .byte ((i2 >>> ((8 : Int32) &&& 31)).toInt8.toInt32))), (.int y8), (.int y9), (.int y10), (.int y11)]) := by
 refine Rm.of (plainFor_of_name pn_0) ?_
 intro p e s m below meth cc T X hnm hret hlk
 refine Go.at_ (ef_rPc3 m a0 (3 : Int32) i2) ?_
 have N := Fr.nil n0
 have Kp := Keep.refl h0 [a0]
 refine g_getstatic X (host := "") (Or.inl (tb hw 156 rfl)) Via.refl (qd.ext Od.2) d33_0 (pc' := 3) rfl ?_
 intro T X
 refine g_ifY X d33_3 ((if0 _ _).trans (feq (show ¬ ((1 : Int32) = (0 : Int32)) from (by decide))).2) (pc' := 28) (by decide) (by decide) ?_
 refine g_iloadN X d33_28 (pc' := 29) rfl rfl ?_
 refine g_iconst X (1 : Int32) d33_29 (pc' := 30) rfl rfl ?_
 refine g_ishl X d33_30 (pc' := 31) rfl ?_
 refine Go.lit32 (z := (6 : Int32)) (by decide) ?_
 refine g_istoreN X d33_31 (pc' := 32) (Ls' := #[.val (.ref a0), .val (.int (6 : Int32)), .val (.int i2)]) rfl rfl ?_
 refine g_aloadN X d33_32 (pc' := 33) rfl rfl rfl ?_
 refine g_iloadN X d33_33 (pc' := 34) rfl rfl ?_
 refine g_iinc X d33_34 (pc' := 37) (q := (1 : Int32)) (Ls' := #[.val (.ref a0), .val (.int (7 : Int32)), .val (.int i2)]) rfl rfl rfl rfl ?_
 refine g_iloadN X d33_37 (pc' := 38) rfl rfl ?_
 refine g_getstatic X (host := "") (Or.inl (tb hw 157 rfl)) Via.refl (qe.ext Od.2) d33_38 (pc' := 41) rfl ?_
 intro T X
 refine g_ishr X d33_41 (pc' := 42) rfl ?_
 refine g_i2b X d33_42 (pc' := 43) rfl ?_
 generalize qg : ((i2 >>> ((0 : Int32) &&& 31)).toInt8.toInt32) = qc
 refine g_bastore X qa 6 d33_43 (pc' := 44) rfl (by decide) (by decide) (Nat.le_of_ble_eq_true rfl) ?_
 intro T h X W qa
 replace qa : Av Z h a0 .byte [(.int y0), (.int y1), (.int y2), (.int y3), (.int y4), (.int y5), (.int (nar .byte qc)), (.int y7), (.int y8), (.int y9), (.int y10), (.int y11)] := qa
 replace Z0 := Nat.le_trans Z0 (Nat.le_of_eq W.size.symm)
 replace N := Fr.snoc X.1 N qb
 replace Kp := Kp.wr W (Or.inl (List.mem_of_getElem? (i := 0) rfl))
 replace Od := Od.wr W qb
 refine g_aloadN X d33_44 (pc' := 45) rfl rfl rfl ?_
 refine g_iloadN X d33_45 (pc' := 46) rfl rfl ?_
 refine g_iloadN X d33_46 (pc' := 47) rfl rfl ?_
 refine g_getstatic X (host := "") (Or.inl (tb hw 158 rfl)) Via.refl (qf.ext Od.2) d33_47 (pc' := 50) rfl ?_
 intro T X
 refine g_ishr X d33_50 (pc' := 51) rfl ?_
 refine g_i2b X d33_51 (pc' := 52) rfl ?_
 generalize qh : ((i2 >>> ((8 : Int32) &&& 31)).toInt8.toInt32) = qi
 refine g_bastore X qa 7 d33_52 (pc' := 53) rfl (by decide) (by decide) (Nat.le_of_ble_eq_true rfl) ?_
 intro T h X W qa
 replace qa : Av Z h a0 .byte [(.int y0), (.int y1), (.int y2), (.int y3), (.int y4), (.int y5), (.int (nar .byte qc)), (.int (nar .byte qi)), (.int y8), (.int y9), (.int y10), (.int y11)] := qa
 replace Z0 := Nat.le_trans Z0 (Nat.le_of_eq W.size.symm)
 replace N := Fr.snoc X.1 N qb
 replace Kp := Kp.wr W (Or.inl (List.mem_of_getElem? (i := 0) rfl))
 replace Od := Od.wr W qb
 refine g_return X d33_53 hret hlk (by decide) (by decide) ?_
 subst qg qh
 exact ⟨rfl, N, Kp, qa⟩
theorem ef_rPc4 (m : MethodId) (x0 : Addr) (x1 : Int32) (x2 : Int32) : entryFrame m #[(.ref x0), (.int x1), (.int x2)] 3 = mkF m 0 #[.val (.ref x0), .val (.int x1), .val (.int x2)] [] := by first | (simp [entryFrame, mkF, argsToLocals, Value.category]; done) | rfl
set_option maxRecDepth 65536 in
set_option maxHeartbeats 40000000 in
theorem rPc4 (l : Launch) (Z : State) (aa : Array Value) (hw : ∀ d ∈ tables_1, d.before aa Z = true) (ws : List Jvm.Cond) (a0 : Addr) (i2 : Int32) (y0 : Int32) (y1 : Int32) (y2 : Int32) (y3 : Int32) (y4 : Int32) (y5 : Int32) (y6 : Int32) (y7 : Int32) (y8 : Int32) (y9 : Int32) (y10 : Int32) (y11 : Int32) (h0 : Heap) (n0 : Nat) (Z0 : n0 ≤ h0.size) (qa : Av Z h0 a0 .byte [(.int y0), (.int y1), (.int y2), (.int y3), (.int y4), (.int y5), (.int y6), (.int y7), (.int y8), (.int y9), (.int y10), (.int y11)]) (qb : n0 ≤ a0) (qd : Sta Z Z.heap "java/lang/StringUTF16" "$assertionsDisabled" "Z" (.int (1 : Int32))) (qe : Sta Z Z.heap "java/lang/StringUTF16" "HI_BYTE_SHIFT" "I" (.int (0 : Int32))) (qf : Sta Z Z.heap "java/lang/StringUTF16" "LO_BYTE_SHIFT" "I" (.int (8 : Int32))) (Od : Old Z n0 h0) :
    Rm l Z (⟨"java/lang/StringUTF16", "putChar", "([BII)V"⟩ : MethodName) jdk_52_method_4_code 3 none ws ({ frames := 0, cells := 0, slots := 0, locals := 0 } : Room) #[(.ref a0), (.int (4 : Int32)), (.int i2)] h0 (fun v h L => v = none ∧ Fr n0 L ∧ Keep h0 h [a0] ∧ Av Z h a0 .byte [(.int y0), (.int y1), (.int y2), (.int y3), (.int y4), (.int y5), (.int y6), (.int y7), (.int (nar .byte ((i2 >>> ((0 : Int32) &&& 31)).toInt8.toInt32))), (.int (nar .byte ((i2 >>> ((8 : Int32) &&& 31)).toInt8.toInt32))), (.int y10), (.int y11)]) := by
 refine Rm.of (plainFor_of_name pn_0) ?_
 intro p e s m below meth cc T X hnm hret hlk
 refine Go.at_ (ef_rPc4 m a0 (4 : Int32) i2) ?_
 have N := Fr.nil n0
 have Kp := Keep.refl h0 [a0]
 refine g_getstatic X (host := "") (Or.inl (tb hw 156 rfl)) Via.refl (qd.ext Od.2) d33_0 (pc' := 3) rfl ?_
 intro T X
 refine g_ifY X d33_3 ((if0 _ _).trans (feq (show ¬ ((1 : Int32) = (0 : Int32)) from (by decide))).2) (pc' := 28) (by decide) (by decide) ?_
 refine g_iloadN X d33_28 (pc' := 29) rfl rfl ?_
 refine g_iconst X (1 : Int32) d33_29 (pc' := 30) rfl rfl ?_
 refine g_ishl X d33_30 (pc' := 31) rfl ?_
 refine Go.lit32 (z := (8 : Int32)) (by decide) ?_
 refine g_istoreN X d33_31 (pc' := 32) (Ls' := #[.val (.ref a0), .val (.int (8 : Int32)), .val (.int i2)]) rfl rfl ?_
 refine g_aloadN X d33_32 (pc' := 33) rfl rfl rfl ?_
 refine g_iloadN X d33_33 (pc' := 34) rfl rfl ?_
 refine g_iinc X d33_34 (pc' := 37) (q := (1 : Int32)) (Ls' := #[.val (.ref a0), .val (.int (9 : Int32)), .val (.int i2)]) rfl rfl rfl rfl ?_
 refine g_iloadN X d33_37 (pc' := 38) rfl rfl ?_
 refine g_getstatic X (host := "") (Or.inl (tb hw 157 rfl)) Via.refl (qe.ext Od.2) d33_38 (pc' := 41) rfl ?_
 intro T X
 refine g_ishr X d33_41 (pc' := 42) rfl ?_
 refine g_i2b X d33_42 (pc' := 43) rfl ?_
 generalize qg : ((i2 >>> ((0 : Int32) &&& 31)).toInt8.toInt32) = qc
 refine g_bastore X qa 8 d33_43 (pc' := 44) rfl (by decide) (by decide) (Nat.le_of_ble_eq_true rfl) ?_
 intro T h X W qa
 replace qa : Av Z h a0 .byte [(.int y0), (.int y1), (.int y2), (.int y3), (.int y4), (.int y5), (.int y6), (.int y7), (.int (nar .byte qc)), (.int y9), (.int y10), (.int y11)] := qa
 replace Z0 := Nat.le_trans Z0 (Nat.le_of_eq W.size.symm)
 replace N := Fr.snoc X.1 N qb
 replace Kp := Kp.wr W (Or.inl (List.mem_of_getElem? (i := 0) rfl))
 replace Od := Od.wr W qb
 refine g_aloadN X d33_44 (pc' := 45) rfl rfl rfl ?_
 refine g_iloadN X d33_45 (pc' := 46) rfl rfl ?_
 refine g_iloadN X d33_46 (pc' := 47) rfl rfl ?_
 refine g_getstatic X (host := "") (Or.inl (tb hw 158 rfl)) Via.refl (qf.ext Od.2) d33_47 (pc' := 50) rfl ?_
 intro T X
 refine g_ishr X d33_50 (pc' := 51) rfl ?_
 refine g_i2b X d33_51 (pc' := 52) rfl ?_
 generalize qh : ((i2 >>> ((8 : Int32) &&& 31)).toInt8.toInt32) = qi
 refine g_bastore X qa 9 d33_52 (pc' := 53) rfl (by decide) (by decide) (Nat.le_of_ble_eq_true rfl) ?_
 intro T h X W qa
 replace qa : Av Z h a0 .byte [(.int y0), (.int y1), (.int y2), (.int y3), (.int y4), (.int y5), (.int y6), (.int y7), (.int (nar .byte qc)), (.int (nar .byte qi)), (.int y10), (.int y11)] := qa
 replace Z0 := Nat.le_trans Z0 (Nat.le_of_eq W.size.symm)
 replace N := Fr.snoc X.1 N qb
 replace Kp := Kp.wr W (Or.inl (List.mem_of_getElem? (i := 0) rfl))
 replace Od := Od.wr W qb
 refine g_return X d33_53 hret hlk (by decide) (by decide) ?_
 subst qg qh
 exact ⟨rfl, N, Kp, qa⟩
theorem ef_rPc5 (m : MethodId) (x0 : Addr) (x1 : Int32) (x2 : Int32) : entryFrame m #[(.ref x0), (.int x1), (.int x2)] 3 = mkF m 0 #[.val (.ref x0), .val (.int x1), .val (.int x2)] [] := by first | (simp [entryFrame, mkF, argsToLocals, Value.category]; done) | rfl
set_option maxRecDepth 65536 in
set_option maxHeartbeats 40000000 in
theorem rPc5 (l : Launch) (Z : State) (aa : Array Value) (hw : ∀ d ∈ tables_1, d.before aa Z = true) (ws : List Jvm.Cond) (a0 : Addr) (i2 : Int32) (y0 : Int32) (y1 : Int32) (y2 : Int32) (y3 : Int32) (y4 : Int32) (y5 : Int32) (y6 : Int32) (y7 : Int32) (y8 : Int32) (y9 : Int32) (y10 : Int32) (y11 : Int32) (h0 : Heap) (n0 : Nat) (Z0 : n0 ≤ h0.size) (qa : Av Z h0 a0 .byte [(.int y0), (.int y1), (.int y2), (.int y3), (.int y4), (.int y5), (.int y6), (.int y7), (.int y8), (.int y9), (.int y10), (.int y11)]) (qb : n0 ≤ a0) (qd : Sta Z Z.heap "java/lang/StringUTF16" "$assertionsDisabled" "Z" (.int (1 : Int32))) (qe : Sta Z Z.heap "java/lang/StringUTF16" "HI_BYTE_SHIFT" "I" (.int (0 : Int32))) (qf : Sta Z Z.heap "java/lang/StringUTF16" "LO_BYTE_SHIFT" "I" (.int (8 : Int32))) (Od : Old Z n0 h0) :
    Rm l Z (⟨"java/lang/StringUTF16", "putChar", "([BII)V"⟩ : MethodName) jdk_52_method_4_code 3 none ws ({ frames := 0, cells := 0, slots := 0, locals := 0 } : Room) #[(.ref a0), (.int (5 : Int32)), (.int i2)] h0 (fun v h L => v = none ∧ Fr n0 L ∧ Keep h0 h [a0] ∧ Av Z h a0 .byte [(.int y0), (.int y1), (.int y2), (.int y3), (.int y4), (.int y5), (.int y6), (.int y7), (.int y8), (.int y9), (.int (nar .byte ((i2 >>> ((0 : Int32) &&& 31)).toInt8.toInt32))), (.int (nar .byte ((i2 >>> ((8 : Int32) &&& 31)).toInt8.toInt32)))]) := by
 refine Rm.of (plainFor_of_name pn_0) ?_
 intro p e s m below meth cc T X hnm hret hlk
 refine Go.at_ (ef_rPc5 m a0 (5 : Int32) i2) ?_
 have N := Fr.nil n0
 have Kp := Keep.refl h0 [a0]
 refine g_getstatic X (host := "") (Or.inl (tb hw 156 rfl)) Via.refl (qd.ext Od.2) d33_0 (pc' := 3) rfl ?_
 intro T X
 refine g_ifY X d33_3 ((if0 _ _).trans (feq (show ¬ ((1 : Int32) = (0 : Int32)) from (by decide))).2) (pc' := 28) (by decide) (by decide) ?_
 refine g_iloadN X d33_28 (pc' := 29) rfl rfl ?_
 refine g_iconst X (1 : Int32) d33_29 (pc' := 30) rfl rfl ?_
 refine g_ishl X d33_30 (pc' := 31) rfl ?_
 refine Go.lit32 (z := (10 : Int32)) (by decide) ?_
 refine g_istoreN X d33_31 (pc' := 32) (Ls' := #[.val (.ref a0), .val (.int (10 : Int32)), .val (.int i2)]) rfl rfl ?_
 refine g_aloadN X d33_32 (pc' := 33) rfl rfl rfl ?_
 refine g_iloadN X d33_33 (pc' := 34) rfl rfl ?_
 refine g_iinc X d33_34 (pc' := 37) (q := (1 : Int32)) (Ls' := #[.val (.ref a0), .val (.int (11 : Int32)), .val (.int i2)]) rfl rfl rfl rfl ?_
 refine g_iloadN X d33_37 (pc' := 38) rfl rfl ?_
 refine g_getstatic X (host := "") (Or.inl (tb hw 157 rfl)) Via.refl (qe.ext Od.2) d33_38 (pc' := 41) rfl ?_
 intro T X
 refine g_ishr X d33_41 (pc' := 42) rfl ?_
 refine g_i2b X d33_42 (pc' := 43) rfl ?_
 generalize qg : ((i2 >>> ((0 : Int32) &&& 31)).toInt8.toInt32) = qc
 refine g_bastore X qa 10 d33_43 (pc' := 44) rfl (by decide) (by decide) (Nat.le_of_ble_eq_true rfl) ?_
 intro T h X W qa
 replace qa : Av Z h a0 .byte [(.int y0), (.int y1), (.int y2), (.int y3), (.int y4), (.int y5), (.int y6), (.int y7), (.int y8), (.int y9), (.int (nar .byte qc)), (.int y11)] := qa
 replace Z0 := Nat.le_trans Z0 (Nat.le_of_eq W.size.symm)
 replace N := Fr.snoc X.1 N qb
 replace Kp := Kp.wr W (Or.inl (List.mem_of_getElem? (i := 0) rfl))
 replace Od := Od.wr W qb
 refine g_aloadN X d33_44 (pc' := 45) rfl rfl rfl ?_
 refine g_iloadN X d33_45 (pc' := 46) rfl rfl ?_
 refine g_iloadN X d33_46 (pc' := 47) rfl rfl ?_
 refine g_getstatic X (host := "") (Or.inl (tb hw 158 rfl)) Via.refl (qf.ext Od.2) d33_47 (pc' := 50) rfl ?_
 intro T X
 refine g_ishr X d33_50 (pc' := 51) rfl ?_
 refine g_i2b X d33_51 (pc' := 52) rfl ?_
 generalize qh : ((i2 >>> ((8 : Int32) &&& 31)).toInt8.toInt32) = qi
 refine g_bastore X qa 11 d33_52 (pc' := 53) rfl (by decide) (by decide) (Nat.le_of_ble_eq_true rfl) ?_
 intro T h X W qa
 replace qa : Av Z h a0 .byte [(.int y0), (.int y1), (.int y2), (.int y3), (.int y4), (.int y5), (.int y6), (.int y7), (.int y8), (.int y9), (.int (nar .byte qc)), (.int (nar .byte qi))] := qa
 replace Z0 := Nat.le_trans Z0 (Nat.le_of_eq W.size.symm)
 replace N := Fr.snoc X.1 N qb
 replace Kp := Kp.wr W (Or.inl (List.mem_of_getElem? (i := 0) rfl))
 replace Od := Od.wr W qb
 refine g_return X d33_53 hret hlk (by decide) (by decide) ?_
 subst qg qh
 exact ⟨rfl, N, Kp, qa⟩
theorem d30_0 : decode jdk_52_method_14_code 0 = .ok (.iload_n 2, 1) := by decide +kernel
theorem d30_1 : decode jdk_52_method_14_code 1 = .ok (.invokestatic 107, 3) := by decide +kernel
theorem pd_1 : parseMethodDescriptor "(I)[B" = some ⟨[.int], some (.array .byte)⟩ := by decide +kernel
theorem d30_4 : decode jdk_52_method_14_code 4 = .ok (.astore_n 3, 1) := by decide +kernel
theorem d30_5 : decode jdk_52_method_14_code 5 = .ok (.iconst 0, 1) := by decide +kernel
theorem d30_6 : decode jdk_52_method_14_code 6 = .ok (.istore 4, 2) := by decide +kernel
theorem d30_8 : decode jdk_52_method_14_code 8 = .ok (.iload 4, 2) := by decide +kernel
theorem d30_10 : decode jdk_52_method_14_code 10 = .ok (.iload_n 2, 1) := by decide +kernel
theorem d30_11 : decode jdk_52_method_14_code 11 = .ok (.if_icmp .ge 21, 3) := by decide +kernel
theorem d30_14 : decode jdk_52_method_14_code 14 = .ok (.aload_n 3, 1) := by decide +kernel
theorem d30_15 : decode jdk_52_method_14_code 15 = .ok (.iload 4, 2) := by decide +kernel
theorem d30_17 : decode jdk_52_method_14_code 17 = .ok (.aload_n 0, 1) := by decide +kernel
theorem d30_18 : decode jdk_52_method_14_code 18 = .ok (.iload_n 1, 1) := by decide +kernel
theorem d30_19 : decode jdk_52_method_14_code 19 = .ok (.caload, 1) := by decide +kernel
theorem d30_20 : decode jdk_52_method_14_code 20 = .ok (.invokestatic 111, 3) := by decide +kernel
theorem pd_2 : parseMethodDescriptor "([BII)V" = some ⟨[(.array .byte), .int, .int], none⟩ := by decide +kernel
theorem d30_23 : decode jdk_52_method_14_code 23 = .ok (.iinc 1 1, 3) := by decide +kernel
theorem d30_26 : decode jdk_52_method_14_code 26 = .ok (.iinc 4 1, 3) := by decide +kernel
theorem d30_29 : decode jdk_52_method_14_code 29 = .ok (.goto (-21), 3) := by decide +kernel
theorem d30_32 : decode jdk_52_method_14_code 32 = .ok (.aload_n 3, 1) := by decide +kernel
theorem d30_33 : decode jdk_52_method_14_code 33 = .ok (.areturn, 1) := by decide +kernel
theorem ef_rTob (m : MethodId) (x0 : Addr) (x1 : Int32) (x2 : Int32) : entryFrame m #[(.ref x0), (.int x1), (.int x2)] 5 = mkF m 0 #[.val (.ref x0), .val (.int x1), .val (.int x2), .unset, .unset] [] := by first | (simp [entryFrame, mkF, argsToLocals, Value.category]; done) | rfl
set_option maxRecDepth 65536 in
set_option maxHeartbeats 40000000 in
theorem rTob (l : Launch) (Z : State) (aa : Array Value) (hw : ∀ d ∈ tables_1, d.before aa Z = true) (ws : List Jvm.Cond) (a0 : Addr) (c0 : Int32) (c1 : Int32) (c2 : Int32) (c3 : Int32) (c4 : Int32) (c5 : Int32) (h0 : Heap) (n0 : Nat) (Z0 : n0 ≤ h0.size) (qb : Av Z h0 a0 .char [(.int c0), (.int c1), (.int c2), (.int c3), (.int c4), (.int c5)]) (qh : Sta Z Z.heap "java/lang/StringUTF16" "$assertionsDisabled" "Z" (.int (1 : Int32))) (qi : Sta Z Z.heap "java/lang/StringUTF16" "HI_BYTE_SHIFT" "I" (.int (0 : Int32))) (qj : Sta Z Z.heap "java/lang/StringUTF16" "LO_BYTE_SHIFT" "I" (.int (8 : Int32))) (Od : Old Z n0 h0) :
    Rm l Z (⟨"java/lang/StringUTF16", "toBytes", "([CII)[B"⟩ : MethodName) jdk_52_method_14_code 5 (some (.array .byte)) ws ({ frames := 2, cells := 1, slots := 12, locals := 24 } : Room) #[(.ref a0), (.int (0 : Int32)), (.int (6 : Int32))] h0 (fun v h L => ∃ q0 : Addr, v = some (.ref q0) ∧ Fr n0 L ∧ Keep h0 h [] ∧ h0.size ≤ q0 ∧ n0 ≤ q0 ∧ Exa Z h q0 "[B" ∧ Av Z h q0 .byte [(.int (nar .byte ((c0 >>> ((0 : Int32) &&& 31)).toInt8.toInt32))), (.int (nar .byte ((c0 >>> ((8 : Int32) &&& 31)).toInt8.toInt32))), (.int (nar .byte ((c1 >>> ((0 : Int32) &&& 31)).toInt8.toInt32))), (.int (nar .byte ((c1 >>> ((8 : Int32) &&& 31)).toInt8.toInt32))), (.int (nar .byte ((c2 >>> ((0 : Int32) &&& 31)).toInt8.toInt32))), (.int (nar .byte ((c2 >>> ((8 : Int32) &&& 31)).toInt8.toInt32))), (.int (nar .byte ((c3 >>> ((0 : Int32) &&& 31)).toInt8.toInt32))), (.int (nar .byte ((c3 >>> ((8 : Int32) &&& 31)).toInt8.toInt32))), (.int (nar .byte ((c4 >>> ((0 : Int32) &&& 31)).toInt8.toInt32))), (.int (nar .byte ((c4 >>> ((8 : Int32) &&& 31)).toInt8.toInt32))), (.int (nar .byte ((c5 >>> ((0 : Int32) &&& 31)).toInt8.toInt32))), (.int (nar .byte ((c5 >>> ((8 : Int32) &&& 31)).toInt8.toInt32)))]) := by
 refine Rm.of (plainFor_of_name pn_0) ?_
 intro p e s m below meth cc T X hnm hret hlk
 refine Go.at_ (ef_rTob m a0 (0 : Int32) (6 : Int32)) ?_
 have N := Fr.nil n0
 have Kp := Keep.refl h0 []
 refine g_iloadN X d30_0 (pc' := 1) rfl rfl ?_
 refine g_static X (W := 0) [(.int (6 : Int32))] [] (tb hw 146 rfl) (tb hw 147 rfl) (tb hw 35 rfl) (tb hw 148 rfl) (rNbf l Z aa hw []  _ n0 Z0 Od) d30_1 (pc' := 4) rfl (by decide) (by decide) (by decide) rfl rfl rfl (lenOf pd_1 rfl) (Nat.le_refl _) (by decide) (by decide) ?_
 intro v T L X q
 obtain ⟨qa, rfl, Nq, Kq, ql, qc, qd, qe⟩ := q
 have qk : a0 ≠ qa := Nat.ne_of_lt (Nat.lt_of_lt_of_le qb.lt ql)
 have qg : h0.size ≤ qa := Nat.le_trans Kp.1 ql
 replace N := N.app Nq
 replace qb := qb.keep Kq nin0
 replace Od := Od.keep Kq all0
 replace Z0 := Nat.le_trans Z0 Kq.1
 replace Kp := Kp.trans Kq all0
 show Go p e below _ (T.setTop (mkF m 4 _ [(.ref qa)]))
 refine g_astoreN X d30_4 (pc' := 5) (Ls' := #[.val (.ref a0), .val (.int (0 : Int32)), .val (.int (6 : Int32)), .val (.ref qa), .unset]) rfl rfl rfl ?_
 refine g_iconst X (0 : Int32) d30_5 (pc' := 6) rfl rfl ?_
 refine g_istore X d30_6 (pc' := 8) (Ls' := #[.val (.ref a0), .val (.int (0 : Int32)), .val (.int (6 : Int32)), .val (.ref qa), .val (.int (0 : Int32))]) rfl rfl ?_
 refine g_iload X d30_8 (pc' := 10) rfl rfl ?_
 refine g_iloadN X d30_10 (pc' := 11) rfl rfl ?_
 refine g_icN X d30_11 (tlt (show (0 : Int32) < (6 : Int32) from (by decide))).2.1 (pc' := 14) rfl ?_
 refine g_aloadN X d30_14 (pc' := 15) rfl rfl rfl ?_
 refine g_iload X d30_15 (pc' := 17) rfl rfl ?_
 refine g_aloadN X d30_17 (pc' := 18) rfl rfl rfl ?_
 refine g_iloadN X d30_18 (pc' := 19) rfl rfl ?_
 refine g_caload X qb 0 d30_19 (pc' := 20) rfl (by decide) (by decide) rfl ?_
 refine g_static X (W := 0) [(.ref qa), (.int (0 : Int32)), (.int c0)] [] (tb hw 153 rfl) (tb hw 154 rfl) (tb hw 35 rfl) (tb hw 155 rfl) (rPc0 l Z aa hw [] qa c0 (0 : Int32) (0 : Int32) (0 : Int32) (0 : Int32) (0 : Int32) (0 : Int32) (0 : Int32) (0 : Int32) (0 : Int32) (0 : Int32) (0 : Int32) (0 : Int32) _ n0 Z0 qe qc qh qi qj Od) d30_20 (pc' := 23) rfl (by decide) (by decide) (by decide) rfl rfl rfl (lenOf pd_2 rfl) (Nat.le_refl _) (by decide) (by decide) ?_
 intro v T L X q
 obtain ⟨rfl, Nq, Kq, qf⟩ := q
 replace N := N.app Nq
 replace qb := qb.keep Kq (ninS qk nin0)
 replace Od := Od.keep Kq (allS qc all0)
 replace Z0 := Nat.le_trans Z0 Kq.1
 replace Kp := Kp.trans Kq (allS (Or.inr qg) all0)
 replace qe := qf
 replace qd := qd.keep Kq
 show Go p e below _ (T.setTop (mkF m 23 _ []))
 refine g_iinc X d30_23 (pc' := 26) (q := (1 : Int32)) (Ls' := #[.val (.ref a0), .val (.int (1 : Int32)), .val (.int (6 : Int32)), .val (.ref qa), .val (.int (0 : Int32))]) rfl rfl rfl rfl ?_
 refine g_iinc X d30_26 (pc' := 29) (q := (1 : Int32)) (Ls' := #[.val (.ref a0), .val (.int (1 : Int32)), .val (.int (6 : Int32)), .val (.ref qa), .val (.int (1 : Int32))]) rfl rfl rfl rfl ?_
 refine g_goto X d30_29 (pc' := 8) (by decide) (by decide) ?_
 refine g_iload X d30_8 (pc' := 10) rfl rfl ?_
 refine g_iloadN X d30_10 (pc' := 11) rfl rfl ?_
 refine g_icN X d30_11 (tlt (show (1 : Int32) < (6 : Int32) from (by decide))).2.1 (pc' := 14) rfl ?_
 refine g_aloadN X d30_14 (pc' := 15) rfl rfl rfl ?_
 refine g_iload X d30_15 (pc' := 17) rfl rfl ?_
 refine g_aloadN X d30_17 (pc' := 18) rfl rfl rfl ?_
 refine g_iloadN X d30_18 (pc' := 19) rfl rfl ?_
 refine g_caload X qb 1 d30_19 (pc' := 20) rfl (by decide) (by decide) rfl ?_
 refine g_static X (W := 0) [(.ref qa), (.int (1 : Int32)), (.int c1)] [] (tb hw 153 rfl) (tb hw 154 rfl) (tb hw 35 rfl) (tb hw 155 rfl) (rPc1 l Z aa hw [] qa c1 (nar .byte ((c0 >>> ((0 : Int32) &&& 31)).toInt8.toInt32)) (nar .byte ((c0 >>> ((8 : Int32) &&& 31)).toInt8.toInt32)) (0 : Int32) (0 : Int32) (0 : Int32) (0 : Int32) (0 : Int32) (0 : Int32) (0 : Int32) (0 : Int32) (0 : Int32) (0 : Int32) _ n0 Z0 qe qc qh qi qj Od) d30_20 (pc' := 23) rfl (by decide) (by decide) (by decide) rfl rfl rfl (lenOf pd_2 rfl) (Nat.le_refl _) (by decide) (by decide) ?_
 intro v T L X q
 obtain ⟨rfl, Nq, Kq, qf⟩ := q
 replace N := N.app Nq
 replace qb := qb.keep Kq (ninS qk nin0)
 replace Od := Od.keep Kq (allS qc all0)
 replace Z0 := Nat.le_trans Z0 Kq.1
 replace Kp := Kp.trans Kq (allS (Or.inr qg) all0)
 replace qe := qf
 replace qd := qd.keep Kq
 show Go p e below _ (T.setTop (mkF m 23 _ []))
 refine g_iinc X d30_23 (pc' := 26) (q := (1 : Int32)) (Ls' := #[.val (.ref a0), .val (.int (2 : Int32)), .val (.int (6 : Int32)), .val (.ref qa), .val (.int (1 : Int32))]) rfl rfl rfl rfl ?_
 refine g_iinc X d30_26 (pc' := 29) (q := (1 : Int32)) (Ls' := #[.val (.ref a0), .val (.int (2 : Int32)), .val (.int (6 : Int32)), .val (.ref qa), .val (.int (2 : Int32))]) rfl rfl rfl rfl ?_
 refine g_goto X d30_29 (pc' := 8) (by decide) (by decide) ?_
 refine g_iload X d30_8 (pc' := 10) rfl rfl ?_
 refine g_iloadN X d30_10 (pc' := 11) rfl rfl ?_
 refine g_icN X d30_11 (tlt (show (2 : Int32) < (6 : Int32) from (by decide))).2.1 (pc' := 14) rfl ?_
 refine g_aloadN X d30_14 (pc' := 15) rfl rfl rfl ?_
 refine g_iload X d30_15 (pc' := 17) rfl rfl ?_
 refine g_aloadN X d30_17 (pc' := 18) rfl rfl rfl ?_
 refine g_iloadN X d30_18 (pc' := 19) rfl rfl ?_
 refine g_caload X qb 2 d30_19 (pc' := 20) rfl (by decide) (by decide) rfl ?_
 refine g_static X (W := 0) [(.ref qa), (.int (2 : Int32)), (.int c2)] [] (tb hw 153 rfl) (tb hw 154 rfl) (tb hw 35 rfl) (tb hw 155 rfl) (rPc2 l Z aa hw [] qa c2 (nar .byte ((c0 >>> ((0 : Int32) &&& 31)).toInt8.toInt32)) (nar .byte ((c0 >>> ((8 : Int32) &&& 31)).toInt8.toInt32)) (nar .byte ((c1 >>> ((0 : Int32) &&& 31)).toInt8.toInt32)) (nar .byte ((c1 >>> ((8 : Int32) &&& 31)).toInt8.toInt32)) (0 : Int32) (0 : Int32) (0 : Int32) (0 : Int32) (0 : Int32) (0 : Int32) (0 : Int32) (0 : Int32) _ n0 Z0 qe qc qh qi qj Od) d30_20 (pc' := 23) rfl (by decide) (by decide) (by decide) rfl rfl rfl (lenOf pd_2 rfl) (Nat.le_refl _) (by decide) (by decide) ?_
 intro v T L X q
 obtain ⟨rfl, Nq, Kq, qf⟩ := q
 replace N := N.app Nq
 replace qb := qb.keep Kq (ninS qk nin0)
 replace Od := Od.keep Kq (allS qc all0)
 replace Z0 := Nat.le_trans Z0 Kq.1
 replace Kp := Kp.trans Kq (allS (Or.inr qg) all0)
 replace qe := qf
 replace qd := qd.keep Kq
 show Go p e below _ (T.setTop (mkF m 23 _ []))
 refine g_iinc X d30_23 (pc' := 26) (q := (1 : Int32)) (Ls' := #[.val (.ref a0), .val (.int (3 : Int32)), .val (.int (6 : Int32)), .val (.ref qa), .val (.int (2 : Int32))]) rfl rfl rfl rfl ?_
 refine g_iinc X d30_26 (pc' := 29) (q := (1 : Int32)) (Ls' := #[.val (.ref a0), .val (.int (3 : Int32)), .val (.int (6 : Int32)), .val (.ref qa), .val (.int (3 : Int32))]) rfl rfl rfl rfl ?_
 refine g_goto X d30_29 (pc' := 8) (by decide) (by decide) ?_
 refine g_iload X d30_8 (pc' := 10) rfl rfl ?_
 refine g_iloadN X d30_10 (pc' := 11) rfl rfl ?_
 refine g_icN X d30_11 (tlt (show (3 : Int32) < (6 : Int32) from (by decide))).2.1 (pc' := 14) rfl ?_
 refine g_aloadN X d30_14 (pc' := 15) rfl rfl rfl ?_
 refine g_iload X d30_15 (pc' := 17) rfl rfl ?_
 refine g_aloadN X d30_17 (pc' := 18) rfl rfl rfl ?_
 refine g_iloadN X d30_18 (pc' := 19) rfl rfl ?_
 refine g_caload X qb 3 d30_19 (pc' := 20) rfl (by decide) (by decide) rfl ?_
 refine g_static X (W := 0) [(.ref qa), (.int (3 : Int32)), (.int c3)] [] (tb hw 153 rfl) (tb hw 154 rfl) (tb hw 35 rfl) (tb hw 155 rfl) (rPc3 l Z aa hw [] qa c3 (nar .byte ((c0 >>> ((0 : Int32) &&& 31)).toInt8.toInt32)) (nar .byte ((c0 >>> ((8 : Int32) &&& 31)).toInt8.toInt32)) (nar .byte ((c1 >>> ((0 : Int32) &&& 31)).toInt8.toInt32)) (nar .byte ((c1 >>> ((8 : Int32) &&& 31)).toInt8.toInt32)) (nar .byte ((c2 >>> ((0 : Int32) &&& 31)).toInt8.toInt32)) (nar .byte ((c2 >>> ((8 : Int32) &&& 31)).toInt8.toInt32)) (0 : Int32) (0 : Int32) (0 : Int32) (0 : Int32) (0 : Int32) (0 : Int32) _ n0 Z0 qe qc qh qi qj Od) d30_20 (pc' := 23) rfl (by decide) (by decide) (by decide) rfl rfl rfl (lenOf pd_2 rfl) (Nat.le_refl _) (by decide) (by decide) ?_
 intro v T L X q
 obtain ⟨rfl, Nq, Kq, qf⟩ := q
 replace N := N.app Nq
 replace qb := qb.keep Kq (ninS qk nin0)
 replace Od := Od.keep Kq (allS qc all0)
 replace Z0 := Nat.le_trans Z0 Kq.1
 replace Kp := Kp.trans Kq (allS (Or.inr qg) all0)
 replace qe := qf
 replace qd := qd.keep Kq
 show Go p e below _ (T.setTop (mkF m 23 _ []))
 refine g_iinc X d30_23 (pc' := 26) (q := (1 : Int32)) (Ls' := #[.val (.ref a0), .val (.int (4 : Int32)), .val (.int (6 : Int32)), .val (.ref qa), .val (.int (3 : Int32))]) rfl rfl rfl rfl ?_
 refine g_iinc X d30_26 (pc' := 29) (q := (1 : Int32)) (Ls' := #[.val (.ref a0), .val (.int (4 : Int32)), .val (.int (6 : Int32)), .val (.ref qa), .val (.int (4 : Int32))]) rfl rfl rfl rfl ?_
 refine g_goto X d30_29 (pc' := 8) (by decide) (by decide) ?_
 refine g_iload X d30_8 (pc' := 10) rfl rfl ?_
 refine g_iloadN X d30_10 (pc' := 11) rfl rfl ?_
 refine g_icN X d30_11 (tlt (show (4 : Int32) < (6 : Int32) from (by decide))).2.1 (pc' := 14) rfl ?_
 refine g_aloadN X d30_14 (pc' := 15) rfl rfl rfl ?_
 refine g_iload X d30_15 (pc' := 17) rfl rfl ?_
 refine g_aloadN X d30_17 (pc' := 18) rfl rfl rfl ?_
 refine g_iloadN X d30_18 (pc' := 19) rfl rfl ?_
 refine g_caload X qb 4 d30_19 (pc' := 20) rfl (by decide) (by decide) rfl ?_
 refine g_static X (W := 0) [(.ref qa), (.int (4 : Int32)), (.int c4)] [] (tb hw 153 rfl) (tb hw 154 rfl) (tb hw 35 rfl) (tb hw 155 rfl) (rPc4 l Z aa hw [] qa c4 (nar .byte ((c0 >>> ((0 : Int32) &&& 31)).toInt8.toInt32)) (nar .byte ((c0 >>> ((8 : Int32) &&& 31)).toInt8.toInt32)) (nar .byte ((c1 >>> ((0 : Int32) &&& 31)).toInt8.toInt32)) (nar .byte ((c1 >>> ((8 : Int32) &&& 31)).toInt8.toInt32)) (nar .byte ((c2 >>> ((0 : Int32) &&& 31)).toInt8.toInt32)) (nar .byte ((c2 >>> ((8 : Int32) &&& 31)).toInt8.toInt32)) (nar .byte ((c3 >>> ((0 : Int32) &&& 31)).toInt8.toInt32)) (nar .byte ((c3 >>> ((8 : Int32) &&& 31)).toInt8.toInt32)) (0 : Int32) (0 : Int32) (0 : Int32) (0 : Int32) _ n0 Z0 qe qc qh qi qj Od) d30_20 (pc' := 23) rfl (by decide) (by decide) (by decide) rfl rfl rfl (lenOf pd_2 rfl) (Nat.le_refl _) (by decide) (by decide) ?_
 intro v T L X q
 obtain ⟨rfl, Nq, Kq, qf⟩ := q
 replace N := N.app Nq
 replace qb := qb.keep Kq (ninS qk nin0)
 replace Od := Od.keep Kq (allS qc all0)
 replace Z0 := Nat.le_trans Z0 Kq.1
 replace Kp := Kp.trans Kq (allS (Or.inr qg) all0)
 replace qe := qf
 replace qd := qd.keep Kq
 show Go p e below _ (T.setTop (mkF m 23 _ []))
 refine g_iinc X d30_23 (pc' := 26) (q := (1 : Int32)) (Ls' := #[.val (.ref a0), .val (.int (5 : Int32)), .val (.int (6 : Int32)), .val (.ref qa), .val (.int (4 : Int32))]) rfl rfl rfl rfl ?_
 refine g_iinc X d30_26 (pc' := 29) (q := (1 : Int32)) (Ls' := #[.val (.ref a0), .val (.int (5 : Int32)), .val (.int (6 : Int32)), .val (.ref qa), .val (.int (5 : Int32))]) rfl rfl rfl rfl ?_
 refine g_goto X d30_29 (pc' := 8) (by decide) (by decide) ?_
 refine g_iload X d30_8 (pc' := 10) rfl rfl ?_
 refine g_iloadN X d30_10 (pc' := 11) rfl rfl ?_
 refine g_icN X d30_11 (tlt (show (5 : Int32) < (6 : Int32) from (by decide))).2.1 (pc' := 14) rfl ?_
 refine g_aloadN X d30_14 (pc' := 15) rfl rfl rfl ?_
 refine g_iload X d30_15 (pc' := 17) rfl rfl ?_
 refine g_aloadN X d30_17 (pc' := 18) rfl rfl rfl ?_
 refine g_iloadN X d30_18 (pc' := 19) rfl rfl ?_
 refine g_caload X qb 5 d30_19 (pc' := 20) rfl (by decide) (by decide) rfl ?_
 refine g_static X (W := 0) [(.ref qa), (.int (5 : Int32)), (.int c5)] [] (tb hw 153 rfl) (tb hw 154 rfl) (tb hw 35 rfl) (tb hw 155 rfl) (rPc5 l Z aa hw [] qa c5 (nar .byte ((c0 >>> ((0 : Int32) &&& 31)).toInt8.toInt32)) (nar .byte ((c0 >>> ((8 : Int32) &&& 31)).toInt8.toInt32)) (nar .byte ((c1 >>> ((0 : Int32) &&& 31)).toInt8.toInt32)) (nar .byte ((c1 >>> ((8 : Int32) &&& 31)).toInt8.toInt32)) (nar .byte ((c2 >>> ((0 : Int32) &&& 31)).toInt8.toInt32)) (nar .byte ((c2 >>> ((8 : Int32) &&& 31)).toInt8.toInt32)) (nar .byte ((c3 >>> ((0 : Int32) &&& 31)).toInt8.toInt32)) (nar .byte ((c3 >>> ((8 : Int32) &&& 31)).toInt8.toInt32)) (nar .byte ((c4 >>> ((0 : Int32) &&& 31)).toInt8.toInt32)) (nar .byte ((c4 >>> ((8 : Int32) &&& 31)).toInt8.toInt32)) (0 : Int32) (0 : Int32) _ n0 Z0 qe qc qh qi qj Od) d30_20 (pc' := 23) rfl (by decide) (by decide) (by decide) rfl rfl rfl (lenOf pd_2 rfl) (Nat.le_refl _) (by decide) (by decide) ?_
 intro v T L X q
 obtain ⟨rfl, Nq, Kq, qf⟩ := q
 replace N := N.app Nq
 replace Od := Od.keep Kq (allS qc all0)
 replace Z0 := Nat.le_trans Z0 Kq.1
 replace Kp := Kp.trans Kq (allS (Or.inr qg) all0)
 replace qe := qf
 replace qd := qd.keep Kq
 show Go p e below _ (T.setTop (mkF m 23 _ []))
 refine g_iinc X d30_23 (pc' := 26) (q := (1 : Int32)) (Ls' := #[.val (.ref a0), .val (.int (6 : Int32)), .val (.int (6 : Int32)), .val (.ref qa), .val (.int (5 : Int32))]) rfl rfl rfl rfl ?_
 refine g_iinc X d30_26 (pc' := 29) (q := (1 : Int32)) (Ls' := #[.val (.ref a0), .val (.int (6 : Int32)), .val (.int (6 : Int32)), .val (.ref qa), .val (.int (6 : Int32))]) rfl rfl rfl rfl ?_
 refine g_goto X d30_29 (pc' := 8) (by decide) (by decide) ?_
 refine g_iload X d30_8 (pc' := 10) rfl rfl ?_
 refine g_iloadN X d30_10 (pc' := 11) rfl rfl ?_
 refine g_icY X d30_11 (flt (show ¬ ((6 : Int32) < (6 : Int32)) from (by decide))).2.1 (pc' := 32) (by decide) (by decide) ?_
 refine g_aloadN X d30_32 (pc' := 33) rfl rfl rfl ?_
 refine g_areturn X rfl rfl d30_33 hret hlk (by decide) (by decide) ?_
 exact ⟨qa, rfl, N, Kp, qg, qc, qd, qe⟩
theorem d34_0 : decode jdk_52_method_5_code 0 = .ok (.getstatic 44, 3) := by decide +kernel
theorem d34_3 : decode jdk_52_method_5_code 3 = .ok (.ifCond .ne 25, 3) := by decide +kernel
theorem d34_28 : decode jdk_52_method_5_code 28 = .ok (.iload_n 1, 1) := by decide +kernel
theorem d34_29 : decode jdk_52_method_5_code 29 = .ok (.iconst 1, 1) := by decide +kernel
theorem d34_30 : decode jdk_52_method_5_code 30 = .ok (.ishl, 1) := by decide +kernel
theorem d34_31 : decode jdk_52_method_5_code 31 = .ok (.istore_n 1, 1) := by decide +kernel
theorem d34_32 : decode jdk_52_method_5_code 32 = .ok (.aload_n 0, 1) := by decide +kernel
theorem d34_33 : decode jdk_52_method_5_code 33 = .ok (.iload_n 1, 1) := by decide +kernel
theorem d34_34 : decode jdk_52_method_5_code 34 = .ok (.iinc 1 1, 3) := by decide +kernel
theorem d34_37 : decode jdk_52_method_5_code 37 = .ok (.baload, 1) := by decide +kernel
theorem d34_38 : decode jdk_52_method_5_code 38 = .ok (.sipush 255, 3) := by decide +kernel
theorem d34_41 : decode jdk_52_method_5_code 41 = .ok (.iand, 1) := by decide +kernel
theorem d34_42 : decode jdk_52_method_5_code 42 = .ok (.getstatic 59, 3) := by decide +kernel
theorem d34_45 : decode jdk_52_method_5_code 45 = .ok (.ishl, 1) := by decide +kernel
theorem d34_46 : decode jdk_52_method_5_code 46 = .ok (.aload_n 0, 1) := by decide +kernel
theorem d34_47 : decode jdk_52_method_5_code 47 = .ok (.iload_n 1, 1) := by decide +kernel
theorem d34_48 : decode jdk_52_method_5_code 48 = .ok (.baload, 1) := by decide +kernel
theorem d34_49 : decode jdk_52_method_5_code 49 = .ok (.sipush 255, 3) := by decide +kernel
theorem d34_52 : decode jdk_52_method_5_code 52 = .ok (.iand, 1) := by decide +kernel
theorem d34_53 : decode jdk_52_method_5_code 53 = .ok (.getstatic 63, 3) := by decide +kernel
theorem d34_56 : decode jdk_52_method_5_code 56 = .ok (.ishl, 1) := by decide +kernel
theorem d34_57 : decode jdk_52_method_5_code 57 = .ok (.ior, 1) := by decide +kernel
theorem d34_58 : decode jdk_52_method_5_code 58 = .ok (.i2c, 1) := by decide +kernel
theorem d34_59 : decode jdk_52_method_5_code 59 = .ok (.ireturn, 1) := by decide +kernel
theorem ef_rGc0 (m : MethodId) (x0 : Addr) (x1 : Int32) : entryFrame m #[(.ref x0), (.int x1)] 2 = mkF m 0 #[.val (.ref x0), .val (.int x1)] [] := by first | (simp [entryFrame, mkF, argsToLocals, Value.category]; done) | rfl
set_option maxRecDepth 65536 in
set_option maxHeartbeats 40000000 in
theorem rGc0 (l : Launch) (Z : State) (aa : Array Value) (hw : ∀ d ∈ tables_1, d.before aa Z = true) (ws : List Jvm.Cond) (a0 : Addr) (y0 : Int32) (y1 : Int32) (y2 : Int32) (y3 : Int32) (y4 : Int32) (y5 : Int32) (y6 : Int32) (y7 : Int32) (y8 : Int32) (y9 : Int32) (y10 : Int32) (y11 : Int32) (h0 : Heap) (qa : Av Z h0 a0 .byte [(.int y0), (.int y1), (.int y2), (.int y3), (.int y4), (.int y5), (.int y6), (.int y7), (.int y8), (.int y9), (.int y10), (.int y11)]) (Pad : Sta Z h0 "java/lang/StringUTF16" "$assertionsDisabled" "Z" (.int (1 : Int32))) (Phi : Sta Z h0 "java/lang/StringUTF16" "HI_BYTE_SHIFT" "I" (.int (0 : Int32))) (Plo : Sta Z h0 "java/lang/StringUTF16" "LO_BYTE_SHIFT" "I" (.int (8 : Int32))) :
    Rm l Z (⟨"java/lang/StringUTF16", "getChar", "([BI)C"⟩ : MethodName) jdk_52_method_5_code 2 (some .char) ws ({ frames := 0, cells := 0, slots := 0, locals := 0 } : Room) #[(.ref a0), (.int (0 : Int32))] h0 (Pu (.int (nar .char ((((y0 &&& (255 : Int32)) <<< ((0 : Int32) &&& 31)) ||| ((y1 &&& (255 : Int32)) <<< ((8 : Int32) &&& 31))).toUInt32.toUInt16.toUInt32.toInt32))) h0) := by
 refine Rm.of (plainFor_of_name pn_0) ?_
 intro p e s m below meth cc T X hnm hret hlk
 refine Go.at_ (ef_rGc0 m a0 (0 : Int32)) ?_
 refine g_getstatic X (host := "") (Or.inl (tb hw 156 rfl)) Via.refl Pad d34_0 (pc' := 3) rfl ?_
 intro T X
 refine g_ifY X d34_3 ((if0 _ _).trans (feq (show ¬ ((1 : Int32) = (0 : Int32)) from (by decide))).2) (pc' := 28) (by decide) (by decide) ?_
 refine g_iloadN X d34_28 (pc' := 29) rfl rfl ?_
 refine g_iconst X (1 : Int32) d34_29 (pc' := 30) rfl rfl ?_
 refine g_ishl X d34_30 (pc' := 31) rfl ?_
 refine Go.lit32 (z := (0 : Int32)) (by decide) ?_
 refine g_istoreN X d34_31 (pc' := 32) (Ls' := #[.val (.ref a0), .val (.int (0 : Int32))]) rfl rfl ?_
 refine g_aloadN X d34_32 (pc' := 33) rfl rfl rfl ?_
 refine g_iloadN X d34_33 (pc' := 34) rfl rfl ?_
 refine g_iinc X d34_34 (pc' := 37) (q := (1 : Int32)) (Ls' := #[.val (.ref a0), .val (.int (1 : Int32))]) rfl rfl rfl rfl ?_
 refine g_baload X qa 0 d34_37 (pc' := 38) rfl (by decide) (by decide) rfl ?_
 refine g_sipush X (255 : Int32) d34_38 (pc' := 41) rfl rfl ?_
 refine g_iand X d34_41 (pc' := 42) rfl ?_
 refine g_getstatic X (host := "") (Or.inl (tb hw 157 rfl)) Via.refl Phi d34_42 (pc' := 45) rfl ?_
 intro T X
 refine g_ishl X d34_45 (pc' := 46) rfl ?_
 refine g_aloadN X d34_46 (pc' := 47) rfl rfl rfl ?_
 refine g_iloadN X d34_47 (pc' := 48) rfl rfl ?_
 refine g_baload X qa 1 d34_48 (pc' := 49) rfl (by decide) (by decide) rfl ?_
 refine g_sipush X (255 : Int32) d34_49 (pc' := 52) rfl rfl ?_
 refine g_iand X d34_52 (pc' := 53) rfl ?_
 refine g_getstatic X (host := "") (Or.inl (tb hw 158 rfl)) Via.refl Plo d34_53 (pc' := 56) rfl ?_
 intro T X
 refine g_ishl X d34_56 (pc' := 57) rfl ?_
 refine g_ior X d34_57 (pc' := 58) rfl ?_
 refine g_i2c X d34_58 (pc' := 59) rfl ?_
 refine g_ireturnN X (t := .char) (by simp) d34_59 hret hlk (by decide) (by decide) ?_
 exact ⟨rfl, rfl, rfl⟩
theorem ef_rGc1 (m : MethodId) (x0 : Addr) (x1 : Int32) : entryFrame m #[(.ref x0), (.int x1)] 2 = mkF m 0 #[.val (.ref x0), .val (.int x1)] [] := by first | (simp [entryFrame, mkF, argsToLocals, Value.category]; done) | rfl
set_option maxRecDepth 65536 in
set_option maxHeartbeats 40000000 in
theorem rGc1 (l : Launch) (Z : State) (aa : Array Value) (hw : ∀ d ∈ tables_1, d.before aa Z = true) (ws : List Jvm.Cond) (a0 : Addr) (y0 : Int32) (y1 : Int32) (y2 : Int32) (y3 : Int32) (y4 : Int32) (y5 : Int32) (y6 : Int32) (y7 : Int32) (y8 : Int32) (y9 : Int32) (y10 : Int32) (y11 : Int32) (h0 : Heap) (qa : Av Z h0 a0 .byte [(.int y0), (.int y1), (.int y2), (.int y3), (.int y4), (.int y5), (.int y6), (.int y7), (.int y8), (.int y9), (.int y10), (.int y11)]) (Pad : Sta Z h0 "java/lang/StringUTF16" "$assertionsDisabled" "Z" (.int (1 : Int32))) (Phi : Sta Z h0 "java/lang/StringUTF16" "HI_BYTE_SHIFT" "I" (.int (0 : Int32))) (Plo : Sta Z h0 "java/lang/StringUTF16" "LO_BYTE_SHIFT" "I" (.int (8 : Int32))) :
    Rm l Z (⟨"java/lang/StringUTF16", "getChar", "([BI)C"⟩ : MethodName) jdk_52_method_5_code 2 (some .char) ws ({ frames := 0, cells := 0, slots := 0, locals := 0 } : Room) #[(.ref a0), (.int (1 : Int32))] h0 (Pu (.int (nar .char ((((y2 &&& (255 : Int32)) <<< ((0 : Int32) &&& 31)) ||| ((y3 &&& (255 : Int32)) <<< ((8 : Int32) &&& 31))).toUInt32.toUInt16.toUInt32.toInt32))) h0) := by
 refine Rm.of (plainFor_of_name pn_0) ?_
 intro p e s m below meth cc T X hnm hret hlk
 refine Go.at_ (ef_rGc1 m a0 (1 : Int32)) ?_
 refine g_getstatic X (host := "") (Or.inl (tb hw 156 rfl)) Via.refl Pad d34_0 (pc' := 3) rfl ?_
 intro T X
 refine g_ifY X d34_3 ((if0 _ _).trans (feq (show ¬ ((1 : Int32) = (0 : Int32)) from (by decide))).2) (pc' := 28) (by decide) (by decide) ?_
 refine g_iloadN X d34_28 (pc' := 29) rfl rfl ?_
 refine g_iconst X (1 : Int32) d34_29 (pc' := 30) rfl rfl ?_
 refine g_ishl X d34_30 (pc' := 31) rfl ?_
 refine Go.lit32 (z := (2 : Int32)) (by decide) ?_
 refine g_istoreN X d34_31 (pc' := 32) (Ls' := #[.val (.ref a0), .val (.int (2 : Int32))]) rfl rfl ?_
 refine g_aloadN X d34_32 (pc' := 33) rfl rfl rfl ?_
 refine g_iloadN X d34_33 (pc' := 34) rfl rfl ?_
 refine g_iinc X d34_34 (pc' := 37) (q := (1 : Int32)) (Ls' := #[.val (.ref a0), .val (.int (3 : Int32))]) rfl rfl rfl rfl ?_
 refine g_baload X qa 2 d34_37 (pc' := 38) rfl (by decide) (by decide) rfl ?_
 refine g_sipush X (255 : Int32) d34_38 (pc' := 41) rfl rfl ?_
 refine g_iand X d34_41 (pc' := 42) rfl ?_
 refine g_getstatic X (host := "") (Or.inl (tb hw 157 rfl)) Via.refl Phi d34_42 (pc' := 45) rfl ?_
 intro T X
 refine g_ishl X d34_45 (pc' := 46) rfl ?_
 refine g_aloadN X d34_46 (pc' := 47) rfl rfl rfl ?_
 refine g_iloadN X d34_47 (pc' := 48) rfl rfl ?_
 refine g_baload X qa 3 d34_48 (pc' := 49) rfl (by decide) (by decide) rfl ?_
 refine g_sipush X (255 : Int32) d34_49 (pc' := 52) rfl rfl ?_
 refine g_iand X d34_52 (pc' := 53) rfl ?_
 refine g_getstatic X (host := "") (Or.inl (tb hw 158 rfl)) Via.refl Plo d34_53 (pc' := 56) rfl ?_
 intro T X
 refine g_ishl X d34_56 (pc' := 57) rfl ?_
 refine g_ior X d34_57 (pc' := 58) rfl ?_
 refine g_i2c X d34_58 (pc' := 59) rfl ?_
 refine g_ireturnN X (t := .char) (by simp) d34_59 hret hlk (by decide) (by decide) ?_
 exact ⟨rfl, rfl, rfl⟩
theorem ef_rGc2 (m : MethodId) (x0 : Addr) (x1 : Int32) : entryFrame m #[(.ref x0), (.int x1)] 2 = mkF m 0 #[.val (.ref x0), .val (.int x1)] [] := by first | (simp [entryFrame, mkF, argsToLocals, Value.category]; done) | rfl
set_option maxRecDepth 65536 in
set_option maxHeartbeats 40000000 in
theorem rGc2 (l : Launch) (Z : State) (aa : Array Value) (hw : ∀ d ∈ tables_1, d.before aa Z = true) (ws : List Jvm.Cond) (a0 : Addr) (y0 : Int32) (y1 : Int32) (y2 : Int32) (y3 : Int32) (y4 : Int32) (y5 : Int32) (y6 : Int32) (y7 : Int32) (y8 : Int32) (y9 : Int32) (y10 : Int32) (y11 : Int32) (h0 : Heap) (qa : Av Z h0 a0 .byte [(.int y0), (.int y1), (.int y2), (.int y3), (.int y4), (.int y5), (.int y6), (.int y7), (.int y8), (.int y9), (.int y10), (.int y11)]) (Pad : Sta Z h0 "java/lang/StringUTF16" "$assertionsDisabled" "Z" (.int (1 : Int32))) (Phi : Sta Z h0 "java/lang/StringUTF16" "HI_BYTE_SHIFT" "I" (.int (0 : Int32))) (Plo : Sta Z h0 "java/lang/StringUTF16" "LO_BYTE_SHIFT" "I" (.int (8 : Int32))) :
    Rm l Z (⟨"java/lang/StringUTF16", "getChar", "([BI)C"⟩ : MethodName) jdk_52_method_5_code 2 (some .char) ws ({ frames := 0, cells := 0, slots := 0, locals := 0 } : Room) #[(.ref a0), (.int (2 : Int32))] h0 (Pu (.int (nar .char ((((y4 &&& (255 : Int32)) <<< ((0 : Int32) &&& 31)) ||| ((y5 &&& (255 : Int32)) <<< ((8 : Int32) &&& 31))).toUInt32.toUInt16.toUInt32.toInt32))) h0) := by
 refine Rm.of (plainFor_of_name pn_0) ?_
 intro p e s m below meth cc T X hnm hret hlk
 refine Go.at_ (ef_rGc2 m a0 (2 : Int32)) ?_
 refine g_getstatic X (host := "") (Or.inl (tb hw 156 rfl)) Via.refl Pad d34_0 (pc' := 3) rfl ?_
 intro T X
 refine g_ifY X d34_3 ((if0 _ _).trans (feq (show ¬ ((1 : Int32) = (0 : Int32)) from (by decide))).2) (pc' := 28) (by decide) (by decide) ?_
 refine g_iloadN X d34_28 (pc' := 29) rfl rfl ?_
 refine g_iconst X (1 : Int32) d34_29 (pc' := 30) rfl rfl ?_
 refine g_ishl X d34_30 (pc' := 31) rfl ?_
 refine Go.lit32 (z := (4 : Int32)) (by decide) ?_
 refine g_istoreN X d34_31 (pc' := 32) (Ls' := #[.val (.ref a0), .val (.int (4 : Int32))]) rfl rfl ?_
 refine g_aloadN X d34_32 (pc' := 33) rfl rfl rfl ?_
 refine g_iloadN X d34_33 (pc' := 34) rfl rfl ?_
 refine g_iinc X d34_34 (pc' := 37) (q := (1 : Int32)) (Ls' := #[.val (.ref a0), .val (.int (5 : Int32))]) rfl rfl rfl rfl ?_
 refine g_baload X qa 4 d34_37 (pc' := 38) rfl (by decide) (by decide) rfl ?_
 refine g_sipush X (255 : Int32) d34_38 (pc' := 41) rfl rfl ?_
 refine g_iand X d34_41 (pc' := 42) rfl ?_
 refine g_getstatic X (host := "") (Or.inl (tb hw 157 rfl)) Via.refl Phi d34_42 (pc' := 45) rfl ?_
 intro T X
 refine g_ishl X d34_45 (pc' := 46) rfl ?_
 refine g_aloadN X d34_46 (pc' := 47) rfl rfl rfl ?_
 refine g_iloadN X d34_47 (pc' := 48) rfl rfl ?_
 refine g_baload X qa 5 d34_48 (pc' := 49) rfl (by decide) (by decide) rfl ?_
 refine g_sipush X (255 : Int32) d34_49 (pc' := 52) rfl rfl ?_
 refine g_iand X d34_52 (pc' := 53) rfl ?_
 refine g_getstatic X (host := "") (Or.inl (tb hw 158 rfl)) Via.refl Plo d34_53 (pc' := 56) rfl ?_
 intro T X
 refine g_ishl X d34_56 (pc' := 57) rfl ?_
 refine g_ior X d34_57 (pc' := 58) rfl ?_
 refine g_i2c X d34_58 (pc' := 59) rfl ?_
 refine g_ireturnN X (t := .char) (by simp) d34_59 hret hlk (by decide) (by decide) ?_
 exact ⟨rfl, rfl, rfl⟩
theorem ef_rGc3 (m : MethodId) (x0 : Addr) (x1 : Int32) : entryFrame m #[(.ref x0), (.int x1)] 2 = mkF m 0 #[.val (.ref x0), .val (.int x1)] [] := by first | (simp [entryFrame, mkF, argsToLocals, Value.category]; done) | rfl
set_option maxRecDepth 65536 in
set_option maxHeartbeats 40000000 in
theorem rGc3 (l : Launch) (Z : State) (aa : Array Value) (hw : ∀ d ∈ tables_1, d.before aa Z = true) (ws : List Jvm.Cond) (a0 : Addr) (y0 : Int32) (y1 : Int32) (y2 : Int32) (y3 : Int32) (y4 : Int32) (y5 : Int32) (y6 : Int32) (y7 : Int32) (y8 : Int32) (y9 : Int32) (y10 : Int32) (y11 : Int32) (h0 : Heap) (qa : Av Z h0 a0 .byte [(.int y0), (.int y1), (.int y2), (.int y3), (.int y4), (.int y5), (.int y6), (.int y7), (.int y8), (.int y9), (.int y10), (.int y11)]) (Pad : Sta Z h0 "java/lang/StringUTF16" "$assertionsDisabled" "Z" (.int (1 : Int32))) (Phi : Sta Z h0 "java/lang/StringUTF16" "HI_BYTE_SHIFT" "I" (.int (0 : Int32))) (Plo : Sta Z h0 "java/lang/StringUTF16" "LO_BYTE_SHIFT" "I" (.int (8 : Int32))) :
    Rm l Z (⟨"java/lang/StringUTF16", "getChar", "([BI)C"⟩ : MethodName) jdk_52_method_5_code 2 (some .char) ws ({ frames := 0, cells := 0, slots := 0, locals := 0 } : Room) #[(.ref a0), (.int (3 : Int32))] h0 (Pu (.int (nar .char ((((y6 &&& (255 : Int32)) <<< ((0 : Int32) &&& 31)) ||| ((y7 &&& (255 : Int32)) <<< ((8 : Int32) &&& 31))).toUInt32.toUInt16.toUInt32.toInt32))) h0) := by
 refine Rm.of (plainFor_of_name pn_0) ?_
 intro p e s m below meth cc T X hnm hret hlk
 refine Go.at_ (ef_rGc3 m a0 (3 : Int32)) ?_
 refine g_getstatic X (host := "") (Or.inl (tb hw 156 rfl)) Via.refl Pad d34_0 (pc' := 3) rfl ?_
 intro T X
 refine g_ifY X d34_3 ((if0 _ _).trans (feq (show ¬ ((1 : Int32) = (0 : Int32)) from (by decide))).2) (pc' := 28) (by decide) (by decide) ?_
 refine g_iloadN X d34_28 (pc' := 29) rfl rfl ?_
 refine g_iconst X (1 : Int32) d34_29 (pc' := 30) rfl rfl ?_
 refine g_ishl X d34_30 (pc' := 31) rfl ?_
 refine Go.lit32 (z := (6 : Int32)) (by decide) ?_
 refine g_istoreN X d34_31 (pc' := 32) (Ls' := #[.val (.ref a0), .val (.int (6 : Int32))]) rfl rfl ?_
 refine g_aloadN X d34_32 (pc' := 33) rfl rfl rfl ?_
 refine g_iloadN X d34_33 (pc' := 34) rfl rfl ?_
 refine g_iinc X d34_34 (pc' := 37) (q := (1 : Int32)) (Ls' := #[.val (.ref a0), .val (.int (7 : Int32))]) rfl rfl rfl rfl ?_
 refine g_baload X qa 6 d34_37 (pc' := 38) rfl (by decide) (by decide) rfl ?_
 refine g_sipush X (255 : Int32) d34_38 (pc' := 41) rfl rfl ?_
 refine g_iand X d34_41 (pc' := 42) rfl ?_
 refine g_getstatic X (host := "") (Or.inl (tb hw 157 rfl)) Via.refl Phi d34_42 (pc' := 45) rfl ?_
 intro T X
 refine g_ishl X d34_45 (pc' := 46) rfl ?_
 refine g_aloadN X d34_46 (pc' := 47) rfl rfl rfl ?_
 refine g_iloadN X d34_47 (pc' := 48) rfl rfl ?_
 refine g_baload X qa 7 d34_48 (pc' := 49) rfl (by decide) (by decide) rfl ?_
 refine g_sipush X (255 : Int32) d34_49 (pc' := 52) rfl rfl ?_
 refine g_iand X d34_52 (pc' := 53) rfl ?_
 refine g_getstatic X (host := "") (Or.inl (tb hw 158 rfl)) Via.refl Plo d34_53 (pc' := 56) rfl ?_
 intro T X
 refine g_ishl X d34_56 (pc' := 57) rfl ?_
 refine g_ior X d34_57 (pc' := 58) rfl ?_
 refine g_i2c X d34_58 (pc' := 59) rfl ?_
 refine g_ireturnN X (t := .char) (by simp) d34_59 hret hlk (by decide) (by decide) ?_
 exact ⟨rfl, rfl, rfl⟩
theorem ef_rGc4 (m : MethodId) (x0 : Addr) (x1 : Int32) : entryFrame m #[(.ref x0), (.int x1)] 2 = mkF m 0 #[.val (.ref x0), .val (.int x1)] [] := by first | (simp [entryFrame, mkF, argsToLocals, Value.category]; done) | rfl
set_option maxRecDepth 65536 in
set_option maxHeartbeats 40000000 in
theorem rGc4 (l : Launch) (Z : State) (aa : Array Value) (hw : ∀ d ∈ tables_1, d.before aa Z = true) (ws : List Jvm.Cond) (a0 : Addr) (y0 : Int32) (y1 : Int32) (y2 : Int32) (y3 : Int32) (y4 : Int32) (y5 : Int32) (y6 : Int32) (y7 : Int32) (y8 : Int32) (y9 : Int32) (y10 : Int32) (y11 : Int32) (h0 : Heap) (qa : Av Z h0 a0 .byte [(.int y0), (.int y1), (.int y2), (.int y3), (.int y4), (.int y5), (.int y6), (.int y7), (.int y8), (.int y9), (.int y10), (.int y11)]) (Pad : Sta Z h0 "java/lang/StringUTF16" "$assertionsDisabled" "Z" (.int (1 : Int32))) (Phi : Sta Z h0 "java/lang/StringUTF16" "HI_BYTE_SHIFT" "I" (.int (0 : Int32))) (Plo : Sta Z h0 "java/lang/StringUTF16" "LO_BYTE_SHIFT" "I" (.int (8 : Int32))) :
    Rm l Z (⟨"java/lang/StringUTF16", "getChar", "([BI)C"⟩ : MethodName) jdk_52_method_5_code 2 (some .char) ws ({ frames := 0, cells := 0, slots := 0, locals := 0 } : Room) #[(.ref a0), (.int (4 : Int32))] h0 (Pu (.int (nar .char ((((y8 &&& (255 : Int32)) <<< ((0 : Int32) &&& 31)) ||| ((y9 &&& (255 : Int32)) <<< ((8 : Int32) &&& 31))).toUInt32.toUInt16.toUInt32.toInt32))) h0) := by
 refine Rm.of (plainFor_of_name pn_0) ?_
 intro p e s m below meth cc T X hnm hret hlk
 refine Go.at_ (ef_rGc4 m a0 (4 : Int32)) ?_
 refine g_getstatic X (host := "") (Or.inl (tb hw 156 rfl)) Via.refl Pad d34_0 (pc' := 3) rfl ?_
 intro T X
 refine g_ifY X d34_3 ((if0 _ _).trans (feq (show ¬ ((1 : Int32) = (0 : Int32)) from (by decide))).2) (pc' := 28) (by decide) (by decide) ?_
 refine g_iloadN X d34_28 (pc' := 29) rfl rfl ?_
 refine g_iconst X (1 : Int32) d34_29 (pc' := 30) rfl rfl ?_
 refine g_ishl X d34_30 (pc' := 31) rfl ?_
 refine Go.lit32 (z := (8 : Int32)) (by decide) ?_
 refine g_istoreN X d34_31 (pc' := 32) (Ls' := #[.val (.ref a0), .val (.int (8 : Int32))]) rfl rfl ?_
 refine g_aloadN X d34_32 (pc' := 33) rfl rfl rfl ?_
 refine g_iloadN X d34_33 (pc' := 34) rfl rfl ?_
 refine g_iinc X d34_34 (pc' := 37) (q := (1 : Int32)) (Ls' := #[.val (.ref a0), .val (.int (9 : Int32))]) rfl rfl rfl rfl ?_
 refine g_baload X qa 8 d34_37 (pc' := 38) rfl (by decide) (by decide) rfl ?_
 refine g_sipush X (255 : Int32) d34_38 (pc' := 41) rfl rfl ?_
 refine g_iand X d34_41 (pc' := 42) rfl ?_
 refine g_getstatic X (host := "") (Or.inl (tb hw 157 rfl)) Via.refl Phi d34_42 (pc' := 45) rfl ?_
 intro T X
 refine g_ishl X d34_45 (pc' := 46) rfl ?_
 refine g_aloadN X d34_46 (pc' := 47) rfl rfl rfl ?_
 refine g_iloadN X d34_47 (pc' := 48) rfl rfl ?_
 refine g_baload X qa 9 d34_48 (pc' := 49) rfl (by decide) (by decide) rfl ?_
 refine g_sipush X (255 : Int32) d34_49 (pc' := 52) rfl rfl ?_
 refine g_iand X d34_52 (pc' := 53) rfl ?_
 refine g_getstatic X (host := "") (Or.inl (tb hw 158 rfl)) Via.refl Plo d34_53 (pc' := 56) rfl ?_
 intro T X
 refine g_ishl X d34_56 (pc' := 57) rfl ?_
 refine g_ior X d34_57 (pc' := 58) rfl ?_
 refine g_i2c X d34_58 (pc' := 59) rfl ?_
 refine g_ireturnN X (t := .char) (by simp) d34_59 hret hlk (by decide) (by decide) ?_
 exact ⟨rfl, rfl, rfl⟩
theorem ef_rGc5 (m : MethodId) (x0 : Addr) (x1 : Int32) : entryFrame m #[(.ref x0), (.int x1)] 2 = mkF m 0 #[.val (.ref x0), .val (.int x1)] [] := by first | (simp [entryFrame, mkF, argsToLocals, Value.category]; done) | rfl
set_option maxRecDepth 65536 in
set_option maxHeartbeats 40000000 in
theorem rGc5 (l : Launch) (Z : State) (aa : Array Value) (hw : ∀ d ∈ tables_1, d.before aa Z = true) (ws : List Jvm.Cond) (a0 : Addr) (y0 : Int32) (y1 : Int32) (y2 : Int32) (y3 : Int32) (y4 : Int32) (y5 : Int32) (y6 : Int32) (y7 : Int32) (y8 : Int32) (y9 : Int32) (y10 : Int32) (y11 : Int32) (h0 : Heap) (qa : Av Z h0 a0 .byte [(.int y0), (.int y1), (.int y2), (.int y3), (.int y4), (.int y5), (.int y6), (.int y7), (.int y8), (.int y9), (.int y10), (.int y11)]) (Pad : Sta Z h0 "java/lang/StringUTF16" "$assertionsDisabled" "Z" (.int (1 : Int32))) (Phi : Sta Z h0 "java/lang/StringUTF16" "HI_BYTE_SHIFT" "I" (.int (0 : Int32))) (Plo : Sta Z h0 "java/lang/StringUTF16" "LO_BYTE_SHIFT" "I" (.int (8 : Int32))) :
    Rm l Z (⟨"java/lang/StringUTF16", "getChar", "([BI)C"⟩ : MethodName) jdk_52_method_5_code 2 (some .char) ws ({ frames := 0, cells := 0, slots := 0, locals := 0 } : Room) #[(.ref a0), (.int (5 : Int32))] h0 (Pu (.int (nar .char ((((y10 &&& (255 : Int32)) <<< ((0 : Int32) &&& 31)) ||| ((y11 &&& (255 : Int32)) <<< ((8 : Int32) &&& 31))).toUInt32.toUInt16.toUInt32.toInt32))) h0) := by
 refine Rm.of (plainFor_of_name pn_0) ?_
 intro p e s m below meth cc T X hnm hret hlk
 refine Go.at_ (ef_rGc5 m a0 (5 : Int32)) ?_
 refine g_getstatic X (host := "") (Or.inl (tb hw 156 rfl)) Via.refl Pad d34_0 (pc' := 3) rfl ?_
 intro T X
 refine g_ifY X d34_3 ((if0 _ _).trans (feq (show ¬ ((1 : Int32) = (0 : Int32)) from (by decide))).2) (pc' := 28) (by decide) (by decide) ?_
 refine g_iloadN X d34_28 (pc' := 29) rfl rfl ?_
 refine g_iconst X (1 : Int32) d34_29 (pc' := 30) rfl rfl ?_
 refine g_ishl X d34_30 (pc' := 31) rfl ?_
 refine Go.lit32 (z := (10 : Int32)) (by decide) ?_
 refine g_istoreN X d34_31 (pc' := 32) (Ls' := #[.val (.ref a0), .val (.int (10 : Int32))]) rfl rfl ?_
 refine g_aloadN X d34_32 (pc' := 33) rfl rfl rfl ?_
 refine g_iloadN X d34_33 (pc' := 34) rfl rfl ?_
 refine g_iinc X d34_34 (pc' := 37) (q := (1 : Int32)) (Ls' := #[.val (.ref a0), .val (.int (11 : Int32))]) rfl rfl rfl rfl ?_
 refine g_baload X qa 10 d34_37 (pc' := 38) rfl (by decide) (by decide) rfl ?_
 refine g_sipush X (255 : Int32) d34_38 (pc' := 41) rfl rfl ?_
 refine g_iand X d34_41 (pc' := 42) rfl ?_
 refine g_getstatic X (host := "") (Or.inl (tb hw 157 rfl)) Via.refl Phi d34_42 (pc' := 45) rfl ?_
 intro T X
 refine g_ishl X d34_45 (pc' := 46) rfl ?_
 refine g_aloadN X d34_46 (pc' := 47) rfl rfl rfl ?_
 refine g_iloadN X d34_47 (pc' := 48) rfl rfl ?_
 refine g_baload X qa 11 d34_48 (pc' := 49) rfl (by decide) (by decide) rfl ?_
 refine g_sipush X (255 : Int32) d34_49 (pc' := 52) rfl rfl ?_
 refine g_iand X d34_52 (pc' := 53) rfl ?_
 refine g_getstatic X (host := "") (Or.inl (tb hw 158 rfl)) Via.refl Plo d34_53 (pc' := 56) rfl ?_
 intro T X
 refine g_ishl X d34_56 (pc' := 57) rfl ?_
 refine g_ior X d34_57 (pc' := 58) rfl ?_
 refine g_i2c X d34_58 (pc' := 59) rfl ?_
 refine g_ireturnN X (t := .char) (by simp) d34_59 hret hlk (by decide) (by decide) ?_
 exact ⟨rfl, rfl, rfl⟩
/-- the six signs' ranges -/
def R6 (c0 c1 c2 c3 c4 c5 : Int32) : Prop := (0 ≤ c0.toInt ∧ c0.toInt ≤ 65535) ∧ (0 ≤ c1.toInt ∧ c1.toInt ≤ 65535) ∧ (0 ≤ c2.toInt ∧ c2.toInt ≤ 65535) ∧ (0 ≤ c3.toInt ∧ c3.toInt ≤ 65535) ∧ (0 ≤ c4.toInt ∧ c4.toInt ≤ 65535) ∧ (0 ≤ c5.toInt ∧ c5.toInt ≤ 65535)
def L6 (c0 c1 c2 c3 c4 c5 : Int32) : Prop := (¬ (255 : Int32) < c0) ∧ (¬ (255 : Int32) < c1) ∧ (¬ (255 : Int32) < c2) ∧ (¬ (255 : Int32) < c3) ∧ (¬ (255 : Int32) < c4) ∧ (¬ (255 : Int32) < c5)
/-- a String that spells six chars -/
def S6 (Z : State) (h : Heap) (x : Addr) (c0 c1 c2 c3 c4 c5 : Int32) : Prop := Exa Z h x "java/lang/String" ∧ ∃ q : Addr, Fld Z h x "java/lang/String" "value" "[B" (.ref q) ∧
  ((Fld Z h x "java/lang/String" "coder" "B" (.int 0) ∧ Av Z h q .byte [(.int (nar .byte (c0.toInt8.toInt32))), (.int (nar .byte (c1.toInt8.toInt32))), (.int (nar .byte (c2.toInt8.toInt32))), (.int (nar .byte (c3.toInt8.toInt32))), (.int (nar .byte (c4.toInt8.toInt32))), (.int (nar .byte (c5.toInt8.toInt32)))] ∧ L6 c0 c1 c2 c3 c4 c5) ∨ (Fld Z h x "java/lang/String" "coder" "B" (.int 1) ∧ Av Z h q .byte [(.int (loB c0)), (.int (hiB c0)), (.int (loB c1)), (.int (hiB c1)), (.int (loB c2)), (.int (hiB c2)), (.int (loB c3)), (.int (hiB c3)), (.int (loB c4)), (.int (hiB c4)), (.int (loB c5)), (.int (hiB c5))]))
theorem d7_0 : decode jdk_52_method_21_code 0 = .ok (.iconst 0, 1) := by decide +kernel
theorem d7_1 : decode jdk_52_method_21_code 1 = .ok (.istore 5, 2) := by decide +kernel
theorem d7_3 : decode jdk_52_method_21_code 3 = .ok (.iload 5, 2) := by decide +kernel
theorem d7_5 : decode jdk_52_method_21_code 5 = .ok (.iload 4, 2) := by decide +kernel
theorem d7_7 : decode jdk_52_method_21_code 7 = .ok (.if_icmp .ge 37, 3) := by decide +kernel
theorem d7_10 : decode jdk_52_method_21_code 10 = .ok (.aload_n 0, 1) := by decide +kernel
theorem d7_11 : decode jdk_52_method_21_code 11 = .ok (.iload_n 1, 1) := by decide +kernel
theorem d7_12 : decode jdk_52_method_21_code 12 = .ok (.caload, 1) := by decide +kernel
theorem d7_13 : decode jdk_52_method_21_code 13 = .ok (.istore 6, 2) := by decide +kernel
theorem d7_15 : decode jdk_52_method_21_code 15 = .ok (.iload 6, 2) := by decide +kernel
theorem d7_17 : decode jdk_52_method_21_code 17 = .ok (.sipush 255, 3) := by decide +kernel
theorem d7_20 : decode jdk_52_method_21_code 20 = .ok (.if_icmp .le 6, 3) := by decide +kernel
theorem d7_23 : decode jdk_52_method_21_code 23 = .ok (.iload 5, 2) := by decide +kernel
theorem d7_25 : decode jdk_52_method_21_code 25 = .ok (.ireturn, 1) := by decide +kernel
theorem d7_26 : decode jdk_52_method_21_code 26 = .ok (.aload_n 2, 1) := by decide +kernel
theorem d7_27 : decode jdk_52_method_21_code 27 = .ok (.iload_n 3, 1) := by decide +kernel
theorem d7_28 : decode jdk_52_method_21_code 28 = .ok (.iload 6, 2) := by decide +kernel
theorem d7_30 : decode jdk_52_method_21_code 30 = .ok (.i2b, 1) := by decide +kernel
theorem d7_31 : decode jdk_52_method_21_code 31 = .ok (.bastore, 1) := by decide +kernel
theorem d7_32 : decode jdk_52_method_21_code 32 = .ok (.iinc 1 1, 3) := by decide +kernel
theorem d7_35 : decode jdk_52_method_21_code 35 = .ok (.iinc 3 1, 3) := by decide +kernel
theorem d7_38 : decode jdk_52_method_21_code 38 = .ok (.iinc 5 1, 3) := by decide +kernel
theorem d7_41 : decode jdk_52_method_21_code 41 = .ok (.goto (-38), 3) := by decide +kernel
theorem d7_44 : decode jdk_52_method_21_code 44 = .ok (.iload 4, 2) := by decide +kernel
theorem d7_46 : decode jdk_52_method_21_code 46 = .ok (.ireturn, 1) := by decide +kernel
theorem ef_rCmp (m : MethodId) (x0 : Addr) (x1 : Int32) (x2 : Addr) (x3 : Int32) (x4 : Int32) : entryFrame m #[(.ref x0), (.int x1), (.ref x2), (.int x3), (.int x4)] 7 = mkF m 0 #[.val (.ref x0), .val (.int x1), .val (.ref x2), .val (.int x3), .val (.int x4), .unset, .unset] [] := by first | (simp [entryFrame, mkF, argsToLocals, Value.category]; done) | rfl
set_option maxRecDepth 65536 in
set_option maxHeartbeats 40000000 in
theorem rCmp (l : Launch) (Z : State) (aa : Array Value) (hw : ∀ d ∈ tables_1, d.before aa Z = true) (ws : List Jvm.Cond) (a0 : Addr) (a2 : Addr) (c0 : Int32) (c1 : Int32) (c2 : Int32) (c3 : Int32) (c4 : Int32) (c5 : Int32) (h0 : Heap) (n0 : Nat) (Z0 : n0 ≤ h0.size) (qb : Av Z h0 a0 .char [(.int c0), (.int c1), (.int c2), (.int c3), (.int c4), (.int c5)]) (qa : Av Z h0 a2 .byte [(.int (0 : Int32)), (.int (0 : Int32)), (.int (0 : Int32)), (.int (0 : Int32)), (.int (0 : Int32)), (.int (0 : Int32))]) (qc : n0 ≤ a2) (qd : a0 ≠ a2) :
    Rm l Z (⟨"java/lang/StringUTF16", "compress", "([CI[BII)I"⟩ : MethodName) jdk_52_method_21_code 7 (some .int) ws ({ frames := 0, cells := 0, slots := 0, locals := 0 } : Room) #[(.ref a0), (.int (0 : Int32)), (.ref a2), (.int (0 : Int32)), (.int (6 : Int32))] h0 (fun v h L => Fr n0 L ∧ Keep h0 h [a2] ∧ ((v = some (.int 6) ∧ L6 c0 c1 c2 c3 c4 c5 ∧ Av Z h a2 .byte [(.int (nar .byte (c0.toInt8.toInt32))), (.int (nar .byte (c1.toInt8.toInt32))), (.int (nar .byte (c2.toInt8.toInt32))), (.int (nar .byte (c3.toInt8.toInt32))), (.int (nar .byte (c4.toInt8.toInt32))), (.int (nar .byte (c5.toInt8.toInt32)))]) ∨ (v = some (.int 0) ∧ (255 : Int32) < c0) ∨ (v = some (.int 1) ∧ (255 : Int32) < c1) ∨ (v = some (.int 2) ∧ (255 : Int32) < c2) ∨ (v = some (.int 3) ∧ (255 : Int32) < c3) ∨ (v = some (.int 4) ∧ (255 : Int32) < c4) ∨ (v = some (.int 5) ∧ (255 : Int32) < c5))) := by
 refine Rm.of (plainFor_of_name pn_0) ?_
 intro p e s m below meth cc T X hnm hret hlk
 refine Go.at_ (ef_rCmp m a0 (0 : Int32) a2 (0 : Int32) (6 : Int32)) ?_
 have N := Fr.nil n0
 have Kp := Keep.refl h0 [a2]
 refine g_iconst X (0 : Int32) d7_0 (pc' := 1) rfl rfl ?_
 refine g_istore X d7_1 (pc' := 3) (Ls' := #[.val (.ref a0), .val (.int (0 : Int32)), .val (.ref a2), .val (.int (0 : Int32)), .val (.int (6 : Int32)), .val (.int (0 : Int32)), .unset]) rfl rfl ?_
 refine g_iload X d7_3 (pc' := 5) rfl rfl ?_
 refine g_iload X d7_5 (pc' := 7) rfl rfl ?_
 refine g_icN X d7_7 (tlt (show (0 : Int32) < (6 : Int32) from (by decide))).2.1 (pc' := 10) rfl ?_
 refine g_aloadN X d7_10 (pc' := 11) rfl rfl rfl ?_
 refine g_iloadN X d7_11 (pc' := 12) rfl rfl ?_
 refine g_caload X qb 0 d7_12 (pc' := 13) rfl (by decide) (by decide) rfl ?_
 refine g_istore X d7_13 (pc' := 15) (Ls' := #[.val (.ref a0), .val (.int (0 : Int32)), .val (.ref a2), .val (.int (0 : Int32)), .val (.int (6 : Int32)), .val (.int (0 : Int32)), .val (.int c0)]) rfl rfl ?_
 refine g_iload X d7_15 (pc' := 17) rfl rfl ?_
 refine g_sipush X (255 : Int32) d7_17 (pc' := 20) rfl rfl ?_
 by_cases qe : (255 : Int32) < c0
 refine g_icN X d7_20 (tlt qe).2.2.2 (pc' := 23) rfl ?_
 refine g_iload X d7_23 (pc' := 25) rfl rfl ?_
 refine g_ireturn X d7_25 hret hlk (by decide) (by decide) ?_
 exact ⟨N, Kp, Or.inr (Or.inl ⟨rfl, qe⟩)⟩
 refine g_icY X d7_20 (flt qe).2.2.2 (pc' := 26) (by decide) (by decide) ?_
 refine g_aloadN X d7_26 (pc' := 27) rfl rfl rfl ?_
 refine g_iloadN X d7_27 (pc' := 28) rfl rfl ?_
 refine g_iload X d7_28 (pc' := 30) rfl rfl ?_
 refine g_i2b X d7_30 (pc' := 31) rfl ?_
 refine g_bastore X qa 0 d7_31 (pc' := 32) rfl (by decide) (by decide) (Nat.le_of_ble_eq_true rfl) ?_
 intro T h X W qa
 replace qa : Av Z h a2 .byte [(.int (nar .byte (c0.toInt8.toInt32))), (.int (0 : Int32)), (.int (0 : Int32)), (.int (0 : Int32)), (.int (0 : Int32)), (.int (0 : Int32))] := qa
 replace qb := qb.other W qd
 replace Z0 := Nat.le_trans Z0 (Nat.le_of_eq W.size.symm)
 replace N := Fr.snoc X.1 N qc
 replace Kp := Kp.wr W (Or.inl (List.mem_of_getElem? (i := 0) rfl))
 refine g_iinc X d7_32 (pc' := 35) (q := (1 : Int32)) (Ls' := #[.val (.ref a0), .val (.int (1 : Int32)), .val (.ref a2), .val (.int (0 : Int32)), .val (.int (6 : Int32)), .val (.int (0 : Int32)), .val (.int c0)]) rfl rfl rfl rfl ?_
 refine g_iinc X d7_35 (pc' := 38) (q := (1 : Int32)) (Ls' := #[.val (.ref a0), .val (.int (1 : Int32)), .val (.ref a2), .val (.int (1 : Int32)), .val (.int (6 : Int32)), .val (.int (0 : Int32)), .val (.int c0)]) rfl rfl rfl rfl ?_
 refine g_iinc X d7_38 (pc' := 41) (q := (1 : Int32)) (Ls' := #[.val (.ref a0), .val (.int (1 : Int32)), .val (.ref a2), .val (.int (1 : Int32)), .val (.int (6 : Int32)), .val (.int (1 : Int32)), .val (.int c0)]) rfl rfl rfl rfl ?_
 refine g_goto X d7_41 (pc' := 3) (by decide) (by decide) ?_
 refine g_iload X d7_3 (pc' := 5) rfl rfl ?_
 refine g_iload X d7_5 (pc' := 7) rfl rfl ?_
 refine g_icN X d7_7 (tlt (show (1 : Int32) < (6 : Int32) from (by decide))).2.1 (pc' := 10) rfl ?_
 refine g_aloadN X d7_10 (pc' := 11) rfl rfl rfl ?_
 refine g_iloadN X d7_11 (pc' := 12) rfl rfl ?_
 refine g_caload X qb 1 d7_12 (pc' := 13) rfl (by decide) (by decide) rfl ?_
 refine g_istore X d7_13 (pc' := 15) (Ls' := #[.val (.ref a0), .val (.int (1 : Int32)), .val (.ref a2), .val (.int (1 : Int32)), .val (.int (6 : Int32)), .val (.int (1 : Int32)), .val (.int c1)]) rfl rfl ?_
 refine g_iload X d7_15 (pc' := 17) rfl rfl ?_
 refine g_sipush X (255 : Int32) d7_17 (pc' := 20) rfl rfl ?_
 by_cases qf : (255 : Int32) < c1
 refine g_icN X d7_20 (tlt qf).2.2.2 (pc' := 23) rfl ?_
 refine g_iload X d7_23 (pc' := 25) rfl rfl ?_
 refine g_ireturn X d7_25 hret hlk (by decide) (by decide) ?_
 exact ⟨N, Kp, Or.inr (Or.inr (Or.inl ⟨rfl, qf⟩))⟩
 refine g_icY X d7_20 (flt qf).2.2.2 (pc' := 26) (by decide) (by decide) ?_
 refine g_aloadN X d7_26 (pc' := 27) rfl rfl rfl ?_
 refine g_iloadN X d7_27 (pc' := 28) rfl rfl ?_
 refine g_iload X d7_28 (pc' := 30) rfl rfl ?_
 refine g_i2b X d7_30 (pc' := 31) rfl ?_
 refine g_bastore X qa 1 d7_31 (pc' := 32) rfl (by decide) (by decide) (Nat.le_of_ble_eq_true rfl) ?_
 intro T h X W qa
 replace qa : Av Z h a2 .byte [(.int (nar .byte (c0.toInt8.toInt32))), (.int (nar .byte (c1.toInt8.toInt32))), (.int (0 : Int32)), (.int (0 : Int32)), (.int (0 : Int32)), (.int (0 : Int32))] := qa
 replace qb := qb.other W qd
 replace Z0 := Nat.le_trans Z0 (Nat.le_of_eq W.size.symm)
 replace N := Fr.snoc X.1 N qc
 replace Kp := Kp.wr W (Or.inl (List.mem_of_getElem? (i := 0) rfl))
 refine g_iinc X d7_32 (pc' := 35) (q := (1 : Int32)) (Ls' := #[.val (.ref a0), .val (.int (2 : Int32)), .val (.ref a2), .val (.int (1 : Int32)), .val (.int (6 : Int32)), .val (.int (1 : Int32)), .val (.int c1)]) rfl rfl rfl rfl ?_
 refine g_iinc X d7_35 (pc' := 38) (q := (1 : Int32)) (Ls' := #[.val (.ref a0), .val (.int (2 : Int32)), .val (.ref a2), .val (.int (2 : Int32)), .val (.int (6 : Int32)), .val (.int (1 : Int32)), .val (.int c1)]) rfl rfl rfl rfl ?_
 refine g_iinc X d7_38 (pc' := 41) (q := (1 : Int32)) (Ls' := #[.val (.ref a0), .val (.int (2 : Int32)), .val (.ref a2), .val (.int (2 : Int32)), .val (.int (6 : Int32)), .val (.int (2 : Int32)), .val (.int c1)]) rfl rfl rfl rfl ?_
 refine g_goto X d7_41 (pc' := 3) (by decide) (by decide) ?_
 refine g_iload X d7_3 (pc' := 5) rfl rfl ?_
 refine g_iload X d7_5 (pc' := 7) rfl rfl ?_
 refine g_icN X d7_7 (tlt (show (2 : Int32) < (6 : Int32) from (by decide))).2.1 (pc' := 10) rfl ?_
 refine g_aloadN X d7_10 (pc' := 11) rfl rfl rfl ?_
 refine g_iloadN X d7_11 (pc' := 12) rfl rfl ?_
 refine g_caload X qb 2 d7_12 (pc' := 13) rfl (by decide) (by decide) rfl ?_
 refine g_istore X d7_13 (pc' := 15) (Ls' := #[.val (.ref a0), .val (.int (2 : Int32)), .val (.ref a2), .val (.int (2 : Int32)), .val (.int (6 : Int32)), .val (.int (2 : Int32)), .val (.int c2)]) rfl rfl ?_
 refine g_iload X d7_15 (pc' := 17) rfl rfl ?_
 refine g_sipush X (255 : Int32) d7_17 (pc' := 20) rfl rfl ?_
 by_cases qg : (255 : Int32) < c2
 refine g_icN X d7_20 (tlt qg).2.2.2 (pc' := 23) rfl ?_
 refine g_iload X d7_23 (pc' := 25) rfl rfl ?_
 refine g_ireturn X d7_25 hret hlk (by decide) (by decide) ?_
 exact ⟨N, Kp, Or.inr (Or.inr (Or.inr (Or.inl ⟨rfl, qg⟩)))⟩
 refine g_icY X d7_20 (flt qg).2.2.2 (pc' := 26) (by decide) (by decide) ?_
 refine g_aloadN X d7_26 (pc' := 27) rfl rfl rfl ?_
 refine g_iloadN X d7_27 (pc' := 28) rfl rfl ?_
 refine g_iload X d7_28 (pc' := 30) rfl rfl ?_
 refine g_i2b X d7_30 (pc' := 31) rfl ?_
 refine g_bastore X qa 2 d7_31 (pc' := 32) rfl (by decide) (by decide) (Nat.le_of_ble_eq_true rfl) ?_
 intro T h X W qa
 replace qa : Av Z h a2 .byte [(.int (nar .byte (c0.toInt8.toInt32))), (.int (nar .byte (c1.toInt8.toInt32))), (.int (nar .byte (c2.toInt8.toInt32))), (.int (0 : Int32)), (.int (0 : Int32)), (.int (0 : Int32))] := qa
 replace qb := qb.other W qd
 replace Z0 := Nat.le_trans Z0 (Nat.le_of_eq W.size.symm)
 replace N := Fr.snoc X.1 N qc
 replace Kp := Kp.wr W (Or.inl (List.mem_of_getElem? (i := 0) rfl))
 refine g_iinc X d7_32 (pc' := 35) (q := (1 : Int32)) (Ls' := #[.val (.ref a0), .val (.int (3 : Int32)), .val (.ref a2), .val (.int (2 : Int32)), .val (.int (6 : Int32)), .val (.int (2 : Int32)), .val (.int c2)]) rfl rfl rfl rfl ?_
 refine g_iinc X d7_35 (pc' := 38) (q := (1 : Int32)) (Ls' := #[.val (.ref a0), .val (.int (3 : Int32)), .val (.ref a2), .val (.int (3 : Int32)), .val (.int (6 : Int32)), .val (.int (2 : Int32)), .val (.int c2)]) rfl rfl rfl rfl ?_
 refine g_iinc X d7_38 (pc' := 41) (q := (1 : Int32)) (Ls' := #[.val (.ref a0), .val (.int (3 : Int32)), .val (.ref a2), .val (.int (3 : Int32)), .val (.int (6 : Int32)), .val (.int (3 : Int32)), .val (.int c2)]) rfl rfl rfl rfl ?_
 refine g_goto X d7_41 (pc' := 3) (by decide) (by decide) ?_
 refine g_iload X d7_3 (pc' := 5) rfl rfl ?_
 refine g_iload X d7_5 (pc' := 7) rfl rfl ?_
 refine g_icN X d7_7 (tlt (show (3 : Int32) < (6 : Int32) from (by decide))).2.1 (pc' := 10) rfl ?_
 refine g_aloadN X d7_10 (pc' := 11) rfl rfl rfl ?_
 refine g_iloadN X d7_11 (pc' := 12) rfl rfl ?_
 refine g_caload X qb 3 d7_12 (pc' := 13) rfl (by decide) (by decide) rfl ?_
 refine g_istore X d7_13 (pc' := 15) (Ls' := #[.val (.ref a0), .val (.int (3 : Int32)), .val (.ref a2), .val (.int (3 : Int32)), .val (.int (6 : Int32)), .val (.int (3 : Int32)), .val (.int c3)]) rfl rfl ?_
 refine g_iload X d7_15 (pc' := 17) rfl rfl ?_
 refine g_sipush X (255 : Int32) d7_17 (pc' := 20) rfl rfl ?_
 by_cases qh : (255 : Int32) < c3
 refine g_icN X d7_20 (tlt qh).2.2.2 (pc' := 23) rfl ?_
 refine g_iload X d7_23 (pc' := 25) rfl rfl ?_
 refine g_ireturn X d7_25 hret hlk (by decide) (by decide) ?_
 exact ⟨N, Kp, Or.inr (Or.inr (Or.inr (Or.inr (Or.inl ⟨rfl, qh⟩))))⟩
 refine g_icY X d7_20 (flt qh).2.2.2 (pc' := 26) (by decide) (by decide) ?_
 refine g_aloadN X d7_26 (pc' := 27) rfl rfl rfl ?_
 refine g_iloadN X d7_27 (pc' := 28) rfl rfl ?_
 refine g_iload X d7_28 (pc' := 30) rfl rfl ?_
 refine g_i2b X d7_30 (pc' := 31) rfl ?_
 refine g_bastore X qa 3 d7_31 (pc' := 32) rfl (by decide) (by decide) (Nat.le_of_ble_eq_true rfl) ?_
 intro T h X W qa
 replace qa : Av Z h a2 .byte [(.int (nar .byte (c0.toInt8.toInt32))), (.int (nar .byte (c1.toInt8.toInt32))), (.int (nar .byte (c2.toInt8.toInt32))), (.int (nar .byte (c3.toInt8.toInt32))), (.int (0 : Int32)), (.int (0 : Int32))] := qa
 replace qb := qb.other W qd
 replace Z0 := Nat.le_trans Z0 (Nat.le_of_eq W.size.symm)
 replace N := Fr.snoc X.1 N qc
 replace Kp := Kp.wr W (Or.inl (List.mem_of_getElem? (i := 0) rfl))
 refine g_iinc X d7_32 (pc' := 35) (q := (1 : Int32)) (Ls' := #[.val (.ref a0), .val (.int (4 : Int32)), .val (.ref a2), .val (.int (3 : Int32)), .val (.int (6 : Int32)), .val (.int (3 : Int32)), .val (.int c3)]) rfl rfl rfl rfl ?_
 refine g_iinc X d7_35 (pc' := 38) (q := (1 : Int32)) (Ls' := #[.val (.ref a0), .val (.int (4 : Int32)), .val (.ref a2), .val (.int (4 : Int32)), .val (.int (6 : Int32)), .val (.int (3 : Int32)), .val (.int c3)]) rfl rfl rfl rfl ?_
 refine g_iinc X d7_38 (pc' := 41) (q := (1 : Int32)) (Ls' := #[.val (.ref a0), .val (.int (4 : Int32)), .val (.ref a2), .val (.int (4 : Int32)), .val (.int (6 : Int32)), .val (.int (4 : Int32)), .val (.int c3)]) rfl rfl rfl rfl ?_
 refine g_goto X d7_41 (pc' := 3) (by decide) (by decide) ?_
 refine g_iload X d7_3 (pc' := 5) rfl rfl ?_
 refine g_iload X d7_5 (pc' := 7) rfl rfl ?_
 refine g_icN X d7_7 (tlt (show (4 : Int32) < (6 : Int32) from (by decide))).2.1 (pc' := 10) rfl ?_
 refine g_aloadN X d7_10 (pc' := 11) rfl rfl rfl ?_
 refine g_iloadN X d7_11 (pc' := 12) rfl rfl ?_
 refine g_caload X qb 4 d7_12 (pc' := 13) rfl (by decide) (by decide) rfl ?_
 refine g_istore X d7_13 (pc' := 15) (Ls' := #[.val (.ref a0), .val (.int (4 : Int32)), .val (.ref a2), .val (.int (4 : Int32)), .val (.int (6 : Int32)), .val (.int (4 : Int32)), .val (.int c4)]) rfl rfl ?_
 refine g_iload X d7_15 (pc' := 17) rfl rfl ?_
 refine g_sipush X (255 : Int32) d7_17 (pc' := 20) rfl rfl ?_
 by_cases qi : (255 : Int32) < c4
 refine g_icN X d7_20 (tlt qi).2.2.2 (pc' := 23) rfl ?_
 refine g_iload X d7_23 (pc' := 25) rfl rfl ?_
 refine g_ireturn X d7_25 hret hlk (by decide) (by decide) ?_
 exact ⟨N, Kp, Or.inr (Or.inr (Or.inr (Or.inr (Or.inr (Or.inl ⟨rfl, qi⟩)))))⟩
 refine g_icY X d7_20 (flt qi).2.2.2 (pc' := 26) (by decide) (by decide) ?_
 refine g_aloadN X d7_26 (pc' := 27) rfl rfl rfl ?_
 refine g_iloadN X d7_27 (pc' := 28) rfl rfl ?_
 refine g_iload X d7_28 (pc' := 30) rfl rfl ?_
 refine g_i2b X d7_30 (pc' := 31) rfl ?_
 refine g_bastore X qa 4 d7_31 (pc' := 32) rfl (by decide) (by decide) (Nat.le_of_ble_eq_true rfl) ?_
 intro T h X W qa
 replace qa : Av Z h a2 .byte [(.int (nar .byte (c0.toInt8.toInt32))), (.int (nar .byte (c1.toInt8.toInt32))), (.int (nar .byte (c2.toInt8.toInt32))), (.int (nar .byte (c3.toInt8.toInt32))), (.int (nar .byte (c4.toInt8.toInt32))), (.int (0 : Int32))] := qa
 replace qb := qb.other W qd
 replace Z0 := Nat.le_trans Z0 (Nat.le_of_eq W.size.symm)
 replace N := Fr.snoc X.1 N qc
 replace Kp := Kp.wr W (Or.inl (List.mem_of_getElem? (i := 0) rfl))
 refine g_iinc X d7_32 (pc' := 35) (q := (1 : Int32)) (Ls' := #[.val (.ref a0), .val (.int (5 : Int32)), .val (.ref a2), .val (.int (4 : Int32)), .val (.int (6 : Int32)), .val (.int (4 : Int32)), .val (.int c4)]) rfl rfl rfl rfl ?_
 refine g_iinc X d7_35 (pc' := 38) (q := (1 : Int32)) (Ls' := #[.val (.ref a0), .val (.int (5 : Int32)), .val (.ref a2), .val (.int (5 : Int32)), .val (.int (6 : Int32)), .val (.int (4 : Int32)), .val (.int c4)]) rfl rfl rfl rfl ?_
 refine g_iinc X d7_38 (pc' := 41) (q := (1 : Int32)) (Ls' := #[.val (.ref a0), .val (.int (5 : Int32)), .val (.ref a2), .val (.int (5 : Int32)), .val (.int (6 : Int32)), .val (.int (5 : Int32)), .val (.int c4)]) rfl rfl rfl rfl ?_
 refine g_goto X d7_41 (pc' := 3) (by decide) (by decide) ?_
 refine g_iload X d7_3 (pc' := 5) rfl rfl ?_
 refine g_iload X d7_5 (pc' := 7) rfl rfl ?_
 refine g_icN X d7_7 (tlt (show (5 : Int32) < (6 : Int32) from (by decide))).2.1 (pc' := 10) rfl ?_
 refine g_aloadN X d7_10 (pc' := 11) rfl rfl rfl ?_
 refine g_iloadN X d7_11 (pc' := 12) rfl rfl ?_
 refine g_caload X qb 5 d7_12 (pc' := 13) rfl (by decide) (by decide) rfl ?_
 refine g_istore X d7_13 (pc' := 15) (Ls' := #[.val (.ref a0), .val (.int (5 : Int32)), .val (.ref a2), .val (.int (5 : Int32)), .val (.int (6 : Int32)), .val (.int (5 : Int32)), .val (.int c5)]) rfl rfl ?_
 refine g_iload X d7_15 (pc' := 17) rfl rfl ?_
 refine g_sipush X (255 : Int32) d7_17 (pc' := 20) rfl rfl ?_
 by_cases qj : (255 : Int32) < c5
 refine g_icN X d7_20 (tlt qj).2.2.2 (pc' := 23) rfl ?_
 refine g_iload X d7_23 (pc' := 25) rfl rfl ?_
 refine g_ireturn X d7_25 hret hlk (by decide) (by decide) ?_
 exact ⟨N, Kp, Or.inr (Or.inr (Or.inr (Or.inr (Or.inr (Or.inr ⟨rfl, qj⟩)))))⟩
 refine g_icY X d7_20 (flt qj).2.2.2 (pc' := 26) (by decide) (by decide) ?_
 refine g_aloadN X d7_26 (pc' := 27) rfl rfl rfl ?_
 refine g_iloadN X d7_27 (pc' := 28) rfl rfl ?_
 refine g_iload X d7_28 (pc' := 30) rfl rfl ?_
 refine g_i2b X d7_30 (pc' := 31) rfl ?_
 refine g_bastore X qa 5 d7_31 (pc' := 32) rfl (by decide) (by decide) (Nat.le_of_ble_eq_true rfl) ?_
 intro T h X W qa
 replace qa : Av Z h a2 .byte [(.int (nar .byte (c0.toInt8.toInt32))), (.int (nar .byte (c1.toInt8.toInt32))), (.int (nar .byte (c2.toInt8.toInt32))), (.int (nar .byte (c3.toInt8.toInt32))), (.int (nar .byte (c4.toInt8.toInt32))), (.int (nar .byte (c5.toInt8.toInt32)))] := qa
 replace Z0 := Nat.le_trans Z0 (Nat.le_of_eq W.size.symm)
 replace N := Fr.snoc X.1 N qc
 replace Kp := Kp.wr W (Or.inl (List.mem_of_getElem? (i := 0) rfl))
 refine g_iinc X d7_32 (pc' := 35) (q := (1 : Int32)) (Ls' := #[.val (.ref a0), .val (.int (6 : Int32)), .val (.ref a2), .val (.int (5 : Int32)), .val (.int (6 : Int32)), .val (.int (5 : Int32)), .val (.int c5)]) rfl rfl rfl rfl ?_
 refine g_iinc X d7_35 (pc' := 38) (q := (1 : Int32)) (Ls' := #[.val (.ref a0), .val (.int (6 : Int32)), .val (.ref a2), .val (.int (6 : Int32)), .val (.int (6 : Int32)), .val (.int (5 : Int32)), .val (.int c5)]) rfl rfl rfl rfl ?_
 refine g_iinc X d7_38 (pc' := 41) (q := (1 : Int32)) (Ls' := #[.val (.ref a0), .val (.int (6 : Int32)), .val (.ref a2), .val (.int (6 : Int32)), .val (.int (6 : Int32)), .val (.int (6 : Int32)), .val (.int c5)]) rfl rfl rfl rfl ?_
 refine g_goto X d7_41 (pc' := 3) (by decide) (by decide) ?_
 refine g_iload X d7_3 (pc' := 5) rfl rfl ?_
 refine g_iload X d7_5 (pc' := 7) rfl rfl ?_
 refine g_icY X d7_7 (flt (show ¬ ((6 : Int32) < (6 : Int32)) from (by decide))).2.1 (pc' := 44) (by decide) (by decide) ?_
 refine g_iload X d7_44 (pc' := 46) rfl rfl ?_
 refine g_ireturn X d7_46 hret hlk (by decide) (by decide) ?_
 exact ⟨N, Kp, Or.inl ⟨rfl, ⟨qe, qf, qg, qh, qi, qj⟩, qa⟩⟩
theorem d6_0 : decode jdk_52_method_16_code 0 = .ok (.iload_n 2, 1) := by decide +kernel
theorem d6_1 : decode jdk_52_method_16_code 1 = .ok (.newarray .byte, 2) := by decide +kernel
theorem d6_3 : decode jdk_52_method_16_code 3 = .ok (.astore_n 3, 1) := by decide +kernel
theorem d6_4 : decode jdk_52_method_16_code 4 = .ok (.aload_n 0, 1) := by decide +kernel
theorem d6_5 : decode jdk_52_method_16_code 5 = .ok (.iload_n 1, 1) := by decide +kernel
theorem d6_6 : decode jdk_52_method_16_code 6 = .ok (.aload_n 3, 1) := by decide +kernel
theorem d6_7 : decode jdk_52_method_16_code 7 = .ok (.iconst 0, 1) := by decide +kernel
theorem d6_8 : decode jdk_52_method_16_code 8 = .ok (.iload_n 2, 1) := by decide +kernel
theorem d6_9 : decode jdk_52_method_16_code 9 = .ok (.invokestatic 115, 3) := by decide +kernel
theorem pd_3 : parseMethodDescriptor "([CI[BII)I" = some ⟨[(.array .char), .int, (.array .byte), .int, .int], some .int⟩ := by decide +kernel
theorem d6_12 : decode jdk_52_method_16_code 12 = .ok (.istore 4, 2) := by decide +kernel
theorem d6_14 : decode jdk_52_method_16_code 14 = .ok (.iload 4, 2) := by decide +kernel
theorem d6_16 : decode jdk_52_method_16_code 16 = .ok (.iload_n 2, 1) := by decide +kernel
theorem d6_17 : decode jdk_52_method_16_code 17 = .ok (.if_icmp .eq 40, 3) := by decide +kernel
theorem d6_57 : decode jdk_52_method_16_code 57 = .ok (.aload_n 3, 1) := by decide +kernel
theorem d6_58 : decode jdk_52_method_16_code 58 = .ok (.areturn, 1) := by decide +kernel
theorem d6_20 : decode jdk_52_method_16_code 20 = .ok (.aload_n 0, 1) := by decide +kernel
theorem d6_21 : decode jdk_52_method_16_code 21 = .ok (.iload_n 1, 1) := by decide +kernel
theorem d6_22 : decode jdk_52_method_16_code 22 = .ok (.iload_n 2, 1) := by decide +kernel
theorem d6_23 : decode jdk_52_method_16_code 23 = .ok (.invokestatic 119, 3) := by decide +kernel
theorem pd_4 : parseMethodDescriptor "([CII)[B" = some ⟨[(.array .char), .int, .int], some (.array .byte)⟩ := by decide +kernel
theorem d6_26 : decode jdk_52_method_16_code 26 = .ok (.astore 5, 2) := by decide +kernel
theorem d6_28 : decode jdk_52_method_16_code 28 = .ok (.aload 5, 2) := by decide +kernel
theorem d6_30 : decode jdk_52_method_16_code 30 = .ok (.iload 4, 2) := by decide +kernel
theorem d6_32 : decode jdk_52_method_16_code 32 = .ok (.invokestatic 71, 3) := by decide +kernel
theorem pd_5 : parseMethodDescriptor "([BI)C" = some ⟨[(.array .byte), .int], some .char⟩ := by decide +kernel
theorem d6_35 : decode jdk_52_method_16_code 35 = .ok (.sipush 255, 3) := by decide +kernel
theorem d6_38 : decode jdk_52_method_16_code 38 = .ok (.if_icmp .gt 16, 3) := by decide +kernel
theorem d6_54 : decode jdk_52_method_16_code 54 = .ok (.aload 5, 2) := by decide +kernel
theorem d6_56 : decode jdk_52_method_16_code 56 = .ok (.areturn, 1) := by decide +kernel
theorem ef_rCom (m : MethodId) (x0 : Addr) (x1 : Int32) (x2 : Int32) : entryFrame m #[(.ref x0), (.int x1), (.int x2)] 6 = mkF m 0 #[.val (.ref x0), .val (.int x1), .val (.int x2), .unset, .unset, .unset] [] := by first | (simp [entryFrame, mkF, argsToLocals, Value.category]; done) | rfl
set_option maxRecDepth 65536 in
set_option maxHeartbeats 40000000 in
theorem rCom (l : Launch) (Z : State) (aa : Array Value) (hw : ∀ d ∈ tables_1, d.before aa Z = true) (ws : List Jvm.Cond) (a0 : Addr) (c0 : Int32) (c1 : Int32) (c2 : Int32) (c3 : Int32) (c4 : Int32) (c5 : Int32) (h0 : Heap) (n0 : Nat) (Z0 : n0 ≤ h0.size) (qb : Av Z h0 a0 .char [(.int c0), (.int c1), (.int c2), (.int c3), (.int c4), (.int c5)]) (hR : R6 c0 c1 c2 c3 c4 c5) (qc : Sta Z Z.heap "java/lang/StringUTF16" "$assertionsDisabled" "Z" (.int (1 : Int32))) (qd : Sta Z Z.heap "java/lang/StringUTF16" "HI_BYTE_SHIFT" "I" (.int (0 : Int32))) (qe : Sta Z Z.heap "java/lang/StringUTF16" "LO_BYTE_SHIFT" "I" (.int (8 : Int32))) (Od : Old Z n0 h0) :
    Rm l Z (⟨"java/lang/StringUTF16", "compress", "([CII)[B"⟩ : MethodName) jdk_52_method_16_code 6 (some (.array .byte)) ws ({ frames := 3, cells := 2, slots := 18, locals := 40 } : Room) #[(.ref a0), (.int (0 : Int32)), (.int (6 : Int32))] h0 (fun v h L => ∃ q : Addr, v = some (.ref q) ∧ Fr n0 L ∧ Keep h0 h [] ∧ h0.size ≤ q ∧ n0 ≤ q ∧ Exa Z h q "[B" ∧ ((Av Z h q .byte [(.int (nar .byte (c0.toInt8.toInt32))), (.int (nar .byte (c1.toInt8.toInt32))), (.int (nar .byte (c2.toInt8.toInt32))), (.int (nar .byte (c3.toInt8.toInt32))), (.int (nar .byte (c4.toInt8.toInt32))), (.int (nar .byte (c5.toInt8.toInt32)))] ∧ L6 c0 c1 c2 c3 c4 c5) ∨ Av Z h q .byte [(.int (loB c0)), (.int (hiB c0)), (.int (loB c1)), (.int (hiB c1)), (.int (loB c2)), (.int (hiB c2)), (.int (loB c3)), (.int (hiB c3)), (.int (loB c4)), (.int (hiB c4)), (.int (loB c5)), (.int (hiB c5))])) := by
 refine Rm.of (plainFor_of_name pn_0) ?_
 intro p e s m below meth cc T X hnm hret hlk
 refine Go.at_ (ef_rCom m a0 (0 : Int32) (6 : Int32)) ?_
 have N := Fr.nil n0
 have Kp := Keep.refl h0 []
 obtain ⟨hR0, hR1, hR2, hR3, hR4, hR5⟩ := hR
 refine g_iloadN X d6_0 (pc' := 1) rfl rfl ?_
 refine g_newarray X 6 (tb hw 37 rfl) d6_1 (pc' := 3) rfl (by decide) (by decide) 6 (by decide) (by decide) (by decide) (by decide) (vs := [(.int (0 : Int32)), (.int (0 : Int32)), (.int (0 : Int32)), (.int (0 : Int32)), (.int (0 : Int32)), (.int (0 : Int32))]) rfl (ad := "[B") (by decide) ?_
 intro T h qa ql X Ex qm qn
 have qp : a0 ≠ qa := Nat.ne_of_lt (by rw [ql]; exact qb.lt)
 have qo : n0 ≤ qa := by rw [ql]; exact Z0
 have qq : h0.size ≤ qa := by rw [ql]; exact Kp.1
 replace qb := qb.ext Ex
 replace Z0 := Nat.le_trans Z0 Ex.1
 replace Kp := Kp.ext Ex
 replace Od := Od.ext Ex
 refine g_astoreN X d6_3 (pc' := 4) (Ls' := #[.val (.ref a0), .val (.int (0 : Int32)), .val (.int (6 : Int32)), .val (.ref qa), .unset, .unset]) rfl rfl rfl ?_
 refine g_aloadN X d6_4 (pc' := 5) rfl rfl rfl ?_
 refine g_iloadN X d6_5 (pc' := 6) rfl rfl ?_
 refine g_aloadN X d6_6 (pc' := 7) rfl rfl rfl ?_
 refine g_iconst X (0 : Int32) d6_7 (pc' := 8) rfl rfl ?_
 refine g_iloadN X d6_8 (pc' := 9) rfl rfl ?_
 refine g_static X (W := 0) [(.ref a0), (.int (0 : Int32)), (.ref qa), (.int (0 : Int32)), (.int (6 : Int32))] [] (tb hw 38 rfl) (tb hw 39 rfl) (tb hw 35 rfl) (tb hw 40 rfl) (rCmp l Z aa hw [] a0 qa c0 c1 c2 c3 c4 c5 _ n0 Z0 qb qn qo qp) d6_9 (pc' := 12) rfl (by decide) (by decide) (by decide) rfl rfl rfl (lenOf pd_3 rfl) (Nat.le_refl _) (by decide) (by decide) ?_
 intro v T L X q
 obtain ⟨Nq, Kq, q⟩ := q
 replace N := N.app Nq
 replace qm := qm.keep Kq
 replace qb := qb.keep Kq (ninS qp nin0)
 replace Od := Od.keep Kq (allS qo all0)
 replace Z0 := Nat.le_trans Z0 Kq.1
 replace Kp := Kp.trans Kq (allS (Or.inr qq) all0)
 rcases q with ⟨rfl, hL, qn⟩ | ⟨rfl, hb⟩ | ⟨rfl, hb⟩ | ⟨rfl, hb⟩ | ⟨rfl, hb⟩ | ⟨rfl, hb⟩ | ⟨rfl, hb⟩
 show Go p e below _ (T.setTop (mkF m 12 _ [(.int (6 : Int32))]))
 refine g_istore X d6_12 (pc' := 14) (Ls' := #[.val (.ref a0), .val (.int (0 : Int32)), .val (.int (6 : Int32)), .val (.ref qa), .val (.int (6 : Int32)), .unset]) rfl rfl ?_
 refine g_iload X d6_14 (pc' := 16) rfl rfl ?_
 refine g_iloadN X d6_16 (pc' := 17) rfl rfl ?_
 refine g_icY X d6_17 (teq (show (6 : Int32) = (6 : Int32) from (by decide))).1 (pc' := 57) (by decide) (by decide) ?_
 refine g_aloadN X d6_57 (pc' := 58) rfl rfl rfl ?_
 refine g_areturn X rfl rfl d6_58 hret hlk (by decide) (by decide) ?_
 exact ⟨qa, rfl, N, Kp, qq, qo, qm, Or.inl ⟨qn, hL⟩⟩
 show Go p e below _ (T.setTop (mkF m 12 _ [(.int (0 : Int32))]))
 refine g_istore X d6_12 (pc' := 14) (Ls' := #[.val (.ref a0), .val (.int (0 : Int32)), .val (.int (6 : Int32)), .val (.ref qa), .val (.int (0 : Int32)), .unset]) rfl rfl ?_
 refine g_iload X d6_14 (pc' := 16) rfl rfl ?_
 refine g_iloadN X d6_16 (pc' := 17) rfl rfl ?_
 refine g_icN X d6_17 (feq (show ¬ ((0 : Int32) = (6 : Int32)) from (by decide))).1 (pc' := 20) rfl ?_
 refine g_aloadN X d6_20 (pc' := 21) rfl rfl rfl ?_
 refine g_iloadN X d6_21 (pc' := 22) rfl rfl ?_
 refine g_iloadN X d6_22 (pc' := 23) rfl rfl ?_
 refine g_static X (W := 0) [(.ref a0), (.int (0 : Int32)), (.int (6 : Int32))] [] (tb hw 143 rfl) (tb hw 144 rfl) (tb hw 35 rfl) (tb hw 145 rfl) (rTob l Z aa hw [] a0 c0 c1 c2 c3 c4 c5 _ n0 Z0 qb qc qd qe Od) d6_23 (pc' := 26) rfl (by decide) (by decide) (by decide) rfl rfl rfl (lenOf pd_4 rfl) (Nat.le_refl _) (by decide) (by decide) ?_
 intro v T L X q
 obtain ⟨qf, rfl, Nq, Kq, qx, qy, qz, qr⟩ := q
 have q0 : h0.size ≤ qf := Nat.le_trans Kp.1 qx
 replace N := N.app Nq
 replace Od := Od.keep Kq all0
 replace Z0 := Nat.le_trans Z0 Kq.1
 replace Kp := Kp.trans Kq all0
 show Go p e below _ (T.setTop (mkF m 26 _ [(.ref qf)]))
 refine g_astore X d6_26 (pc' := 28) (Ls' := #[.val (.ref a0), .val (.int (0 : Int32)), .val (.int (6 : Int32)), .val (.ref qa), .val (.int (0 : Int32)), .val (.ref qf)]) rfl rfl rfl ?_
 refine g_aload X d6_28 (pc' := 30) rfl rfl rfl ?_
 refine g_iload X d6_30 (pc' := 32) rfl rfl ?_
 refine g_static X (W := 0) [(.ref qf), (.int (0 : Int32))] [] (tb hw 159 rfl) (tb hw 160 rfl) (tb hw 35 rfl) (tb hw 161 rfl) (rGc0 l Z aa hw [] qf (nar .byte ((c0 >>> ((0 : Int32) &&& 31)).toInt8.toInt32)) (nar .byte ((c0 >>> ((8 : Int32) &&& 31)).toInt8.toInt32)) (nar .byte ((c1 >>> ((0 : Int32) &&& 31)).toInt8.toInt32)) (nar .byte ((c1 >>> ((8 : Int32) &&& 31)).toInt8.toInt32)) (nar .byte ((c2 >>> ((0 : Int32) &&& 31)).toInt8.toInt32)) (nar .byte ((c2 >>> ((8 : Int32) &&& 31)).toInt8.toInt32)) (nar .byte ((c3 >>> ((0 : Int32) &&& 31)).toInt8.toInt32)) (nar .byte ((c3 >>> ((8 : Int32) &&& 31)).toInt8.toInt32)) (nar .byte ((c4 >>> ((0 : Int32) &&& 31)).toInt8.toInt32)) (nar .byte ((c4 >>> ((8 : Int32) &&& 31)).toInt8.toInt32)) (nar .byte ((c5 >>> ((0 : Int32) &&& 31)).toInt8.toInt32)) (nar .byte ((c5 >>> ((8 : Int32) &&& 31)).toInt8.toInt32)) _ qr (qc.ext Od.2) (qd.ext Od.2) (qe.ext Od.2)) d6_32 (pc' := 35) rfl (by decide) (by decide) (by decide) rfl rfl rfl (lenOf pd_5 rfl) (Nat.le_refl _) (by decide) (by decide) ?_
 intro v T L X q
 obtain ⟨rfl, X⟩ := pureX X q
 show Go p e below _ (T.setTop (mkF m 35 _ [(.int (nar .char (((((nar .byte ((c0 >>> ((0 : Int32) &&& 31)).toInt8.toInt32)) &&& (255 : Int32)) <<< ((0 : Int32) &&& 31)) ||| (((nar .byte ((c0 >>> ((8 : Int32) &&& 31)).toInt8.toInt32)) &&& (255 : Int32)) <<< ((8 : Int32) &&& 31))).toUInt32.toUInt16.toUInt32.toInt32)))]))
 refine g_sipush X (255 : Int32) d6_35 (pc' := 38) rfl rfl ?_
 have pf3 : (255 : Int32) < (nar .char (((((nar .byte ((c0 >>> ((0 : Int32) &&& 31)).toInt8.toInt32)) &&& (255 : Int32)) <<< ((0 : Int32) &&& 31)) ||| (((nar .byte ((c0 >>> ((8 : Int32) &&& 31)).toInt8.toInt32)) &&& (255 : Int32)) <<< ((8 : Int32) &&& 31))).toUInt32.toUInt16.toUInt32.toInt32)) := by
   have q : nar .char (joinB (loB c0) (hiB c0)) = c0 := by rw [joinC hR0.1 hR0.2]; exact narC hR0.1 hR0.2
   have q2 := q
   unfold joinB loB hiB at q2
   rw [q2]; exact hb
 refine g_icY X d6_38 (tlt (show (255 : Int32) < (nar .char (((((nar .byte ((c0 >>> ((0 : Int32) &&& 31)).toInt8.toInt32)) &&& (255 : Int32)) <<< ((0 : Int32) &&& 31)) ||| (((nar .byte ((c0 >>> ((8 : Int32) &&& 31)).toInt8.toInt32)) &&& (255 : Int32)) <<< ((8 : Int32) &&& 31))).toUInt32.toUInt16.toUInt32.toInt32)) from pf3)).2.2.1 (pc' := 54) (by decide) (by decide) ?_
 refine g_aload X d6_54 (pc' := 56) rfl rfl rfl ?_
 refine g_areturn X rfl rfl d6_56 hret hlk (by decide) (by decide) ?_
 exact ⟨qf, rfl, N, Kp, q0, qy, qz, Or.inr qr⟩
 show Go p e below _ (T.setTop (mkF m 12 _ [(.int (1 : Int32))]))
 refine g_istore X d6_12 (pc' := 14) (Ls' := #[.val (.ref a0), .val (.int (0 : Int32)), .val (.int (6 : Int32)), .val (.ref qa), .val (.int (1 : Int32)), .unset]) rfl rfl ?_
 refine g_iload X d6_14 (pc' := 16) rfl rfl ?_
 refine g_iloadN X d6_16 (pc' := 17) rfl rfl ?_
 refine g_icN X d6_17 (feq (show ¬ ((1 : Int32) = (6 : Int32)) from (by decide))).1 (pc' := 20) rfl ?_
 refine g_aloadN X d6_20 (pc' := 21) rfl rfl rfl ?_
 refine g_iloadN X d6_21 (pc' := 22) rfl rfl ?_
 refine g_iloadN X d6_22 (pc' := 23) rfl rfl ?_
 refine g_static X (W := 0) [(.ref a0), (.int (0 : Int32)), (.int (6 : Int32))] [] (tb hw 143 rfl) (tb hw 144 rfl) (tb hw 35 rfl) (tb hw 145 rfl) (rTob l Z aa hw [] a0 c0 c1 c2 c3 c4 c5 _ n0 Z0 qb qc qd qe Od) d6_23 (pc' := 26) rfl (by decide) (by decide) (by decide) rfl rfl rfl (lenOf pd_4 rfl) (Nat.le_refl _) (by decide) (by decide) ?_
 intro v T L X q
 obtain ⟨qg, rfl, Nq, Kq, q1, q3, q4, qs⟩ := q
 have q5 : h0.size ≤ qg := Nat.le_trans Kp.1 q1
 replace N := N.app Nq
 replace Od := Od.keep Kq all0
 replace Z0 := Nat.le_trans Z0 Kq.1
 replace Kp := Kp.trans Kq all0
 show Go p e below _ (T.setTop (mkF m 26 _ [(.ref qg)]))
 refine g_astore X d6_26 (pc' := 28) (Ls' := #[.val (.ref a0), .val (.int (0 : Int32)), .val (.int (6 : Int32)), .val (.ref qa), .val (.int (1 : Int32)), .val (.ref qg)]) rfl rfl rfl ?_
 refine g_aload X d6_28 (pc' := 30) rfl rfl rfl ?_
 refine g_iload X d6_30 (pc' := 32) rfl rfl ?_
 refine g_static X (W := 0) [(.ref qg), (.int (1 : Int32))] [] (tb hw 159 rfl) (tb hw 160 rfl) (tb hw 35 rfl) (tb hw 161 rfl) (rGc1 l Z aa hw [] qg (nar .byte ((c0 >>> ((0 : Int32) &&& 31)).toInt8.toInt32)) (nar .byte ((c0 >>> ((8 : Int32) &&& 31)).toInt8.toInt32)) (nar .byte ((c1 >>> ((0 : Int32) &&& 31)).toInt8.toInt32)) (nar .byte ((c1 >>> ((8 : Int32) &&& 31)).toInt8.toInt32)) (nar .byte ((c2 >>> ((0 : Int32) &&& 31)).toInt8.toInt32)) (nar .byte ((c2 >>> ((8 : Int32) &&& 31)).toInt8.toInt32)) (nar .byte ((c3 >>> ((0 : Int32) &&& 31)).toInt8.toInt32)) (nar .byte ((c3 >>> ((8 : Int32) &&& 31)).toInt8.toInt32)) (nar .byte ((c4 >>> ((0 : Int32) &&& 31)).toInt8.toInt32)) (nar .byte ((c4 >>> ((8 : Int32) &&& 31)).toInt8.toInt32)) (nar .byte ((c5 >>> ((0 : Int32) &&& 31)).toInt8.toInt32)) (nar .byte ((c5 >>> ((8 : Int32) &&& 31)).toInt8.toInt32)) _ qs (qc.ext Od.2) (qd.ext Od.2) (qe.ext Od.2)) d6_32 (pc' := 35) rfl (by decide) (by decide) (by decide) rfl rfl rfl (lenOf pd_5 rfl) (Nat.le_refl _) (by decide) (by decide) ?_
 intro v T L X q
 obtain ⟨rfl, X⟩ := pureX X q
 show Go p e below _ (T.setTop (mkF m 35 _ [(.int (nar .char (((((nar .byte ((c1 >>> ((0 : Int32) &&& 31)).toInt8.toInt32)) &&& (255 : Int32)) <<< ((0 : Int32) &&& 31)) ||| (((nar .byte ((c1 >>> ((8 : Int32) &&& 31)).toInt8.toInt32)) &&& (255 : Int32)) <<< ((8 : Int32) &&& 31))).toUInt32.toUInt16.toUInt32.toInt32)))]))
 refine g_sipush X (255 : Int32) d6_35 (pc' := 38) rfl rfl ?_
 have pf5 : (255 : Int32) < (nar .char (((((nar .byte ((c1 >>> ((0 : Int32) &&& 31)).toInt8.toInt32)) &&& (255 : Int32)) <<< ((0 : Int32) &&& 31)) ||| (((nar .byte ((c1 >>> ((8 : Int32) &&& 31)).toInt8.toInt32)) &&& (255 : Int32)) <<< ((8 : Int32) &&& 31))).toUInt32.toUInt16.toUInt32.toInt32)) := by
   have q : nar .char (joinB (loB c1) (hiB c1)) = c1 := by rw [joinC hR1.1 hR1.2]; exact narC hR1.1 hR1.2
   have q2 := q
   unfold joinB loB hiB at q2
   rw [q2]; exact hb
 refine g_icY X d6_38 (tlt (show (255 : Int32) < (nar .char (((((nar .byte ((c1 >>> ((0 : Int32) &&& 31)).toInt8.toInt32)) &&& (255 : Int32)) <<< ((0 : Int32) &&& 31)) ||| (((nar .byte ((c1 >>> ((8 : Int32) &&& 31)).toInt8.toInt32)) &&& (255 : Int32)) <<< ((8 : Int32) &&& 31))).toUInt32.toUInt16.toUInt32.toInt32)) from pf5)).2.2.1 (pc' := 54) (by decide) (by decide) ?_
 refine g_aload X d6_54 (pc' := 56) rfl rfl rfl ?_
 refine g_areturn X rfl rfl d6_56 hret hlk (by decide) (by decide) ?_
 exact ⟨qg, rfl, N, Kp, q5, q3, q4, Or.inr qs⟩
 show Go p e below _ (T.setTop (mkF m 12 _ [(.int (2 : Int32))]))
 refine g_istore X d6_12 (pc' := 14) (Ls' := #[.val (.ref a0), .val (.int (0 : Int32)), .val (.int (6 : Int32)), .val (.ref qa), .val (.int (2 : Int32)), .unset]) rfl rfl ?_
 refine g_iload X d6_14 (pc' := 16) rfl rfl ?_
 refine g_iloadN X d6_16 (pc' := 17) rfl rfl ?_
 refine g_icN X d6_17 (feq (show ¬ ((2 : Int32) = (6 : Int32)) from (by decide))).1 (pc' := 20) rfl ?_
 refine g_aloadN X d6_20 (pc' := 21) rfl rfl rfl ?_
 refine g_iloadN X d6_21 (pc' := 22) rfl rfl ?_
 refine g_iloadN X d6_22 (pc' := 23) rfl rfl ?_
 refine g_static X (W := 0) [(.ref a0), (.int (0 : Int32)), (.int (6 : Int32))] [] (tb hw 143 rfl) (tb hw 144 rfl) (tb hw 35 rfl) (tb hw 145 rfl) (rTob l Z aa hw [] a0 c0 c1 c2 c3 c4 c5 _ n0 Z0 qb qc qd qe Od) d6_23 (pc' := 26) rfl (by decide) (by decide) (by decide) rfl rfl rfl (lenOf pd_4 rfl) (Nat.le_refl _) (by decide) (by decide) ?_
 intro v T L X q
 obtain ⟨qh, rfl, Nq, Kq, q6, q7, q8, qt⟩ := q
 have q9 : h0.size ≤ qh := Nat.le_trans Kp.1 q6
 replace N := N.app Nq
 replace Od := Od.keep Kq all0
 replace Z0 := Nat.le_trans Z0 Kq.1
 replace Kp := Kp.trans Kq all0
 show Go p e below _ (T.setTop (mkF m 26 _ [(.ref qh)]))
 refine g_astore X d6_26 (pc' := 28) (Ls' := #[.val (.ref a0), .val (.int (0 : Int32)), .val (.int (6 : Int32)), .val (.ref qa), .val (.int (2 : Int32)), .val (.ref qh)]) rfl rfl rfl ?_
 refine g_aload X d6_28 (pc' := 30) rfl rfl rfl ?_
 refine g_iload X d6_30 (pc' := 32) rfl rfl ?_
 refine g_static X (W := 0) [(.ref qh), (.int (2 : Int32))] [] (tb hw 159 rfl) (tb hw 160 rfl) (tb hw 35 rfl) (tb hw 161 rfl) (rGc2 l Z aa hw [] qh (nar .byte ((c0 >>> ((0 : Int32) &&& 31)).toInt8.toInt32)) (nar .byte ((c0 >>> ((8 : Int32) &&& 31)).toInt8.toInt32)) (nar .byte ((c1 >>> ((0 : Int32) &&& 31)).toInt8.toInt32)) (nar .byte ((c1 >>> ((8 : Int32) &&& 31)).toInt8.toInt32)) (nar .byte ((c2 >>> ((0 : Int32) &&& 31)).toInt8.toInt32)) (nar .byte ((c2 >>> ((8 : Int32) &&& 31)).toInt8.toInt32)) (nar .byte ((c3 >>> ((0 : Int32) &&& 31)).toInt8.toInt32)) (nar .byte ((c3 >>> ((8 : Int32) &&& 31)).toInt8.toInt32)) (nar .byte ((c4 >>> ((0 : Int32) &&& 31)).toInt8.toInt32)) (nar .byte ((c4 >>> ((8 : Int32) &&& 31)).toInt8.toInt32)) (nar .byte ((c5 >>> ((0 : Int32) &&& 31)).toInt8.toInt32)) (nar .byte ((c5 >>> ((8 : Int32) &&& 31)).toInt8.toInt32)) _ qt (qc.ext Od.2) (qd.ext Od.2) (qe.ext Od.2)) d6_32 (pc' := 35) rfl (by decide) (by decide) (by decide) rfl rfl rfl (lenOf pd_5 rfl) (Nat.le_refl _) (by decide) (by decide) ?_
 intro v T L X q
 obtain ⟨rfl, X⟩ := pureX X q
 show Go p e below _ (T.setTop (mkF m 35 _ [(.int (nar .char (((((nar .byte ((c2 >>> ((0 : Int32) &&& 31)).toInt8.toInt32)) &&& (255 : Int32)) <<< ((0 : Int32) &&& 31)) ||| (((nar .byte ((c2 >>> ((8 : Int32) &&& 31)).toInt8.toInt32)) &&& (255 : Int32)) <<< ((8 : Int32) &&& 31))).toUInt32.toUInt16.toUInt32.toInt32)))]))
 refine g_sipush X (255 : Int32) d6_35 (pc' := 38) rfl rfl ?_
 have pf7 : (255 : Int32) < (nar .char (((((nar .byte ((c2 >>> ((0 : Int32) &&& 31)).toInt8.toInt32)) &&& (255 : Int32)) <<< ((0 : Int32) &&& 31)) ||| (((nar .byte ((c2 >>> ((8 : Int32) &&& 31)).toInt8.toInt32)) &&& (255 : Int32)) <<< ((8 : Int32) &&& 31))).toUInt32.toUInt16.toUInt32.toInt32)) := by
   have q : nar .char (joinB (loB c2) (hiB c2)) = c2 := by rw [joinC hR2.1 hR2.2]; exact narC hR2.1 hR2.2
   have q2 := q
   unfold joinB loB hiB at q2
   rw [q2]; exact hb
 refine g_icY X d6_38 (tlt (show (255 : Int32) < (nar .char (((((nar .byte ((c2 >>> ((0 : Int32) &&& 31)).toInt8.toInt32)) &&& (255 : Int32)) <<< ((0 : Int32) &&& 31)) ||| (((nar .byte ((c2 >>> ((8 : Int32) &&& 31)).toInt8.toInt32)) &&& (255 : Int32)) <<< ((8 : Int32) &&& 31))).toUInt32.toUInt16.toUInt32.toInt32)) from pf7)).2.2.1 (pc' := 54) (by decide) (by decide) ?_
 refine g_aload X d6_54 (pc' := 56) rfl rfl rfl ?_
 refine g_areturn X rfl rfl d6_56 hret hlk (by decide) (by decide) ?_
 exact ⟨qh, rfl, N, Kp, q9, q7, q8, Or.inr qt⟩
 show Go p e below _ (T.setTop (mkF m 12 _ [(.int (3 : Int32))]))
 refine g_istore X d6_12 (pc' := 14) (Ls' := #[.val (.ref a0), .val (.int (0 : Int32)), .val (.int (6 : Int32)), .val (.ref qa), .val (.int (3 : Int32)), .unset]) rfl rfl ?_
 refine g_iload X d6_14 (pc' := 16) rfl rfl ?_
 refine g_iloadN X d6_16 (pc' := 17) rfl rfl ?_
 refine g_icN X d6_17 (feq (show ¬ ((3 : Int32) = (6 : Int32)) from (by decide))).1 (pc' := 20) rfl ?_
 refine g_aloadN X d6_20 (pc' := 21) rfl rfl rfl ?_
 refine g_iloadN X d6_21 (pc' := 22) rfl rfl ?_
 refine g_iloadN X d6_22 (pc' := 23) rfl rfl ?_
 refine g_static X (W := 0) [(.ref a0), (.int (0 : Int32)), (.int (6 : Int32))] [] (tb hw 143 rfl) (tb hw 144 rfl) (tb hw 35 rfl) (tb hw 145 rfl) (rTob l Z aa hw [] a0 c0 c1 c2 c3 c4 c5 _ n0 Z0 qb qc qd qe Od) d6_23 (pc' := 26) rfl (by decide) (by decide) (by decide) rfl rfl rfl (lenOf pd_4 rfl) (Nat.le_refl _) (by decide) (by decide) ?_
 intro v T L X q
 obtain ⟨qi, rfl, Nq, Kq, ja, jb, jc, qu⟩ := q
 have jd : h0.size ≤ qi := Nat.le_trans Kp.1 ja
 replace N := N.app Nq
 replace Od := Od.keep Kq all0
 replace Z0 := Nat.le_trans Z0 Kq.1
 replace Kp := Kp.trans Kq all0
 show Go p e below _ (T.setTop (mkF m 26 _ [(.ref qi)]))
 refine g_astore X d6_26 (pc' := 28) (Ls' := #[.val (.ref a0), .val (.int (0 : Int32)), .val (.int (6 : Int32)), .val (.ref qa), .val (.int (3 : Int32)), .val (.ref qi)]) rfl rfl rfl ?_
 refine g_aload X d6_28 (pc' := 30) rfl rfl rfl ?_
 refine g_iload X d6_30 (pc' := 32) rfl rfl ?_
 refine g_static X (W := 0) [(.ref qi), (.int (3 : Int32))] [] (tb hw 159 rfl) (tb hw 160 rfl) (tb hw 35 rfl) (tb hw 161 rfl) (rGc3 l Z aa hw [] qi (nar .byte ((c0 >>> ((0 : Int32) &&& 31)).toInt8.toInt32)) (nar .byte ((c0 >>> ((8 : Int32) &&& 31)).toInt8.toInt32)) (nar .byte ((c1 >>> ((0 : Int32) &&& 31)).toInt8.toInt32)) (nar .byte ((c1 >>> ((8 : Int32) &&& 31)).toInt8.toInt32)) (nar .byte ((c2 >>> ((0 : Int32) &&& 31)).toInt8.toInt32)) (nar .byte ((c2 >>> ((8 : Int32) &&& 31)).toInt8.toInt32)) (nar .byte ((c3 >>> ((0 : Int32) &&& 31)).toInt8.toInt32)) (nar .byte ((c3 >>> ((8 : Int32) &&& 31)).toInt8.toInt32)) (nar .byte ((c4 >>> ((0 : Int32) &&& 31)).toInt8.toInt32)) (nar .byte ((c4 >>> ((8 : Int32) &&& 31)).toInt8.toInt32)) (nar .byte ((c5 >>> ((0 : Int32) &&& 31)).toInt8.toInt32)) (nar .byte ((c5 >>> ((8 : Int32) &&& 31)).toInt8.toInt32)) _ qu (qc.ext Od.2) (qd.ext Od.2) (qe.ext Od.2)) d6_32 (pc' := 35) rfl (by decide) (by decide) (by decide) rfl rfl rfl (lenOf pd_5 rfl) (Nat.le_refl _) (by decide) (by decide) ?_
 intro v T L X q
 obtain ⟨rfl, X⟩ := pureX X q
 show Go p e below _ (T.setTop (mkF m 35 _ [(.int (nar .char (((((nar .byte ((c3 >>> ((0 : Int32) &&& 31)).toInt8.toInt32)) &&& (255 : Int32)) <<< ((0 : Int32) &&& 31)) ||| (((nar .byte ((c3 >>> ((8 : Int32) &&& 31)).toInt8.toInt32)) &&& (255 : Int32)) <<< ((8 : Int32) &&& 31))).toUInt32.toUInt16.toUInt32.toInt32)))]))
 refine g_sipush X (255 : Int32) d6_35 (pc' := 38) rfl rfl ?_
 have pf9 : (255 : Int32) < (nar .char (((((nar .byte ((c3 >>> ((0 : Int32) &&& 31)).toInt8.toInt32)) &&& (255 : Int32)) <<< ((0 : Int32) &&& 31)) ||| (((nar .byte ((c3 >>> ((8 : Int32) &&& 31)).toInt8.toInt32)) &&& (255 : Int32)) <<< ((8 : Int32) &&& 31))).toUInt32.toUInt16.toUInt32.toInt32)) := by
   have q : nar .char (joinB (loB c3) (hiB c3)) = c3 := by rw [joinC hR3.1 hR3.2]; exact narC hR3.1 hR3.2
   have q2 := q
   unfold joinB loB hiB at q2
   rw [q2]; exact hb
 refine g_icY X d6_38 (tlt (show (255 : Int32) < (nar .char (((((nar .byte ((c3 >>> ((0 : Int32) &&& 31)).toInt8.toInt32)) &&& (255 : Int32)) <<< ((0 : Int32) &&& 31)) ||| (((nar .byte ((c3 >>> ((8 : Int32) &&& 31)).toInt8.toInt32)) &&& (255 : Int32)) <<< ((8 : Int32) &&& 31))).toUInt32.toUInt16.toUInt32.toInt32)) from pf9)).2.2.1 (pc' := 54) (by decide) (by decide) ?_
 refine g_aload X d6_54 (pc' := 56) rfl rfl rfl ?_
 refine g_areturn X rfl rfl d6_56 hret hlk (by decide) (by decide) ?_
 exact ⟨qi, rfl, N, Kp, jd, jb, jc, Or.inr qu⟩
 show Go p e below _ (T.setTop (mkF m 12 _ [(.int (4 : Int32))]))
 refine g_istore X d6_12 (pc' := 14) (Ls' := #[.val (.ref a0), .val (.int (0 : Int32)), .val (.int (6 : Int32)), .val (.ref qa), .val (.int (4 : Int32)), .unset]) rfl rfl ?_
 refine g_iload X d6_14 (pc' := 16) rfl rfl ?_
 refine g_iloadN X d6_16 (pc' := 17) rfl rfl ?_
 refine g_icN X d6_17 (feq (show ¬ ((4 : Int32) = (6 : Int32)) from (by decide))).1 (pc' := 20) rfl ?_
 refine g_aloadN X d6_20 (pc' := 21) rfl rfl rfl ?_
 refine g_iloadN X d6_21 (pc' := 22) rfl rfl ?_
 refine g_iloadN X d6_22 (pc' := 23) rfl rfl ?_
 refine g_static X (W := 0) [(.ref a0), (.int (0 : Int32)), (.int (6 : Int32))] [] (tb hw 143 rfl) (tb hw 144 rfl) (tb hw 35 rfl) (tb hw 145 rfl) (rTob l Z aa hw [] a0 c0 c1 c2 c3 c4 c5 _ n0 Z0 qb qc qd qe Od) d6_23 (pc' := 26) rfl (by decide) (by decide) (by decide) rfl rfl rfl (lenOf pd_4 rfl) (Nat.le_refl _) (by decide) (by decide) ?_
 intro v T L X q
 obtain ⟨qj, rfl, Nq, Kq, je, jf, jg, qv⟩ := q
 have jh : h0.size ≤ qj := Nat.le_trans Kp.1 je
 replace N := N.app Nq
 replace Od := Od.keep Kq all0
 replace Z0 := Nat.le_trans Z0 Kq.1
 replace Kp := Kp.trans Kq all0
 show Go p e below _ (T.setTop (mkF m 26 _ [(.ref qj)]))
 refine g_astore X d6_26 (pc' := 28) (Ls' := #[.val (.ref a0), .val (.int (0 : Int32)), .val (.int (6 : Int32)), .val (.ref qa), .val (.int (4 : Int32)), .val (.ref qj)]) rfl rfl rfl ?_
 refine g_aload X d6_28 (pc' := 30) rfl rfl rfl ?_
 refine g_iload X d6_30 (pc' := 32) rfl rfl ?_
 refine g_static X (W := 0) [(.ref qj), (.int (4 : Int32))] [] (tb hw 159 rfl) (tb hw 160 rfl) (tb hw 35 rfl) (tb hw 161 rfl) (rGc4 l Z aa hw [] qj (nar .byte ((c0 >>> ((0 : Int32) &&& 31)).toInt8.toInt32)) (nar .byte ((c0 >>> ((8 : Int32) &&& 31)).toInt8.toInt32)) (nar .byte ((c1 >>> ((0 : Int32) &&& 31)).toInt8.toInt32)) (nar .byte ((c1 >>> ((8 : Int32) &&& 31)).toInt8.toInt32)) (nar .byte ((c2 >>> ((0 : Int32) &&& 31)).toInt8.toInt32)) (nar .byte ((c2 >>> ((8 : Int32) &&& 31)).toInt8.toInt32)) (nar .byte ((c3 >>> ((0 : Int32) &&& 31)).toInt8.toInt32)) (nar .byte ((c3 >>> ((8 : Int32) &&& 31)).toInt8.toInt32)) (nar .byte ((c4 >>> ((0 : Int32) &&& 31)).toInt8.toInt32)) (nar .byte ((c4 >>> ((8 : Int32) &&& 31)).toInt8.toInt32)) (nar .byte ((c5 >>> ((0 : Int32) &&& 31)).toInt8.toInt32)) (nar .byte ((c5 >>> ((8 : Int32) &&& 31)).toInt8.toInt32)) _ qv (qc.ext Od.2) (qd.ext Od.2) (qe.ext Od.2)) d6_32 (pc' := 35) rfl (by decide) (by decide) (by decide) rfl rfl rfl (lenOf pd_5 rfl) (Nat.le_refl _) (by decide) (by decide) ?_
 intro v T L X q
 obtain ⟨rfl, X⟩ := pureX X q
 show Go p e below _ (T.setTop (mkF m 35 _ [(.int (nar .char (((((nar .byte ((c4 >>> ((0 : Int32) &&& 31)).toInt8.toInt32)) &&& (255 : Int32)) <<< ((0 : Int32) &&& 31)) ||| (((nar .byte ((c4 >>> ((8 : Int32) &&& 31)).toInt8.toInt32)) &&& (255 : Int32)) <<< ((8 : Int32) &&& 31))).toUInt32.toUInt16.toUInt32.toInt32)))]))
 refine g_sipush X (255 : Int32) d6_35 (pc' := 38) rfl rfl ?_
 have pf11 : (255 : Int32) < (nar .char (((((nar .byte ((c4 >>> ((0 : Int32) &&& 31)).toInt8.toInt32)) &&& (255 : Int32)) <<< ((0 : Int32) &&& 31)) ||| (((nar .byte ((c4 >>> ((8 : Int32) &&& 31)).toInt8.toInt32)) &&& (255 : Int32)) <<< ((8 : Int32) &&& 31))).toUInt32.toUInt16.toUInt32.toInt32)) := by
   have q : nar .char (joinB (loB c4) (hiB c4)) = c4 := by rw [joinC hR4.1 hR4.2]; exact narC hR4.1 hR4.2
   have q2 := q
   unfold joinB loB hiB at q2
   rw [q2]; exact hb
 refine g_icY X d6_38 (tlt (show (255 : Int32) < (nar .char (((((nar .byte ((c4 >>> ((0 : Int32) &&& 31)).toInt8.toInt32)) &&& (255 : Int32)) <<< ((0 : Int32) &&& 31)) ||| (((nar .byte ((c4 >>> ((8 : Int32) &&& 31)).toInt8.toInt32)) &&& (255 : Int32)) <<< ((8 : Int32) &&& 31))).toUInt32.toUInt16.toUInt32.toInt32)) from pf11)).2.2.1 (pc' := 54) (by decide) (by decide) ?_
 refine g_aload X d6_54 (pc' := 56) rfl rfl rfl ?_
 refine g_areturn X rfl rfl d6_56 hret hlk (by decide) (by decide) ?_
 exact ⟨qj, rfl, N, Kp, jh, jf, jg, Or.inr qv⟩
 show Go p e below _ (T.setTop (mkF m 12 _ [(.int (5 : Int32))]))
 refine g_istore X d6_12 (pc' := 14) (Ls' := #[.val (.ref a0), .val (.int (0 : Int32)), .val (.int (6 : Int32)), .val (.ref qa), .val (.int (5 : Int32)), .unset]) rfl rfl ?_
 refine g_iload X d6_14 (pc' := 16) rfl rfl ?_
 refine g_iloadN X d6_16 (pc' := 17) rfl rfl ?_
 refine g_icN X d6_17 (feq (show ¬ ((5 : Int32) = (6 : Int32)) from (by decide))).1 (pc' := 20) rfl ?_
 refine g_aloadN X d6_20 (pc' := 21) rfl rfl rfl ?_
 refine g_iloadN X d6_21 (pc' := 22) rfl rfl ?_
 refine g_iloadN X d6_22 (pc' := 23) rfl rfl ?_
 refine g_static X (W := 0) [(.ref a0), (.int (0 : Int32)), (.int (6 : Int32))] [] (tb hw 143 rfl) (tb hw 144 rfl) (tb hw 35 rfl) (tb hw 145 rfl) (rTob l Z aa hw [] a0 c0 c1 c2 c3 c4 c5 _ n0 Z0 qb qc qd qe Od) d6_23 (pc' := 26) rfl (by decide) (by decide) (by decide) rfl rfl rfl (lenOf pd_4 rfl) (Nat.le_refl _) (by decide) (by decide) ?_
 intro v T L X q
 obtain ⟨qk, rfl, Nq, Kq, ji, jj, jk, qw⟩ := q
 have jl : h0.size ≤ qk := Nat.le_trans Kp.1 ji
 replace N := N.app Nq
 replace Od := Od.keep Kq all0
 replace Z0 := Nat.le_trans Z0 Kq.1
 replace Kp := Kp.trans Kq all0
 show Go p e below _ (T.setTop (mkF m 26 _ [(.ref qk)]))
 refine g_astore X d6_26 (pc' := 28) (Ls' := #[.val (.ref a0), .val (.int (0 : Int32)), .val (.int (6 : Int32)), .val (.ref qa), .val (.int (5 : Int32)), .val (.ref qk)]) rfl rfl rfl ?_
 refine g_aload X d6_28 (pc' := 30) rfl rfl rfl ?_
 refine g_iload X d6_30 (pc' := 32) rfl rfl ?_
 refine g_static X (W := 0) [(.ref qk), (.int (5 : Int32))] [] (tb hw 159 rfl) (tb hw 160 rfl) (tb hw 35 rfl) (tb hw 161 rfl) (rGc5 l Z aa hw [] qk (nar .byte ((c0 >>> ((0 : Int32) &&& 31)).toInt8.toInt32)) (nar .byte ((c0 >>> ((8 : Int32) &&& 31)).toInt8.toInt32)) (nar .byte ((c1 >>> ((0 : Int32) &&& 31)).toInt8.toInt32)) (nar .byte ((c1 >>> ((8 : Int32) &&& 31)).toInt8.toInt32)) (nar .byte ((c2 >>> ((0 : Int32) &&& 31)).toInt8.toInt32)) (nar .byte ((c2 >>> ((8 : Int32) &&& 31)).toInt8.toInt32)) (nar .byte ((c3 >>> ((0 : Int32) &&& 31)).toInt8.toInt32)) (nar .byte ((c3 >>> ((8 : Int32) &&& 31)).toInt8.toInt32)) (nar .byte ((c4 >>> ((0 : Int32) &&& 31)).toInt8.toInt32)) (nar .byte ((c4 >>> ((8 : Int32) &&& 31)).toInt8.toInt32)) (nar .byte ((c5 >>> ((0 : Int32) &&& 31)).toInt8.toInt32)) (nar .byte ((c5 >>> ((8 : Int32) &&& 31)).toInt8.toInt32)) _ qw (qc.ext Od.2) (qd.ext Od.2) (qe.ext Od.2)) d6_32 (pc' := 35) rfl (by decide) (by decide) (by decide) rfl rfl rfl (lenOf pd_5 rfl) (Nat.le_refl _) (by decide) (by decide) ?_
 intro v T L X q
 obtain ⟨rfl, X⟩ := pureX X q
 show Go p e below _ (T.setTop (mkF m 35 _ [(.int (nar .char (((((nar .byte ((c5 >>> ((0 : Int32) &&& 31)).toInt8.toInt32)) &&& (255 : Int32)) <<< ((0 : Int32) &&& 31)) ||| (((nar .byte ((c5 >>> ((8 : Int32) &&& 31)).toInt8.toInt32)) &&& (255 : Int32)) <<< ((8 : Int32) &&& 31))).toUInt32.toUInt16.toUInt32.toInt32)))]))
 refine g_sipush X (255 : Int32) d6_35 (pc' := 38) rfl rfl ?_
 have pf13 : (255 : Int32) < (nar .char (((((nar .byte ((c5 >>> ((0 : Int32) &&& 31)).toInt8.toInt32)) &&& (255 : Int32)) <<< ((0 : Int32) &&& 31)) ||| (((nar .byte ((c5 >>> ((8 : Int32) &&& 31)).toInt8.toInt32)) &&& (255 : Int32)) <<< ((8 : Int32) &&& 31))).toUInt32.toUInt16.toUInt32.toInt32)) := by
   have q : nar .char (joinB (loB c5) (hiB c5)) = c5 := by rw [joinC hR5.1 hR5.2]; exact narC hR5.1 hR5.2
   have q2 := q
   unfold joinB loB hiB at q2
   rw [q2]; exact hb
 refine g_icY X d6_38 (tlt (show (255 : Int32) < (nar .char (((((nar .byte ((c5 >>> ((0 : Int32) &&& 31)).toInt8.toInt32)) &&& (255 : Int32)) <<< ((0 : Int32) &&& 31)) ||| (((nar .byte ((c5 >>> ((8 : Int32) &&& 31)).toInt8.toInt32)) &&& (255 : Int32)) <<< ((8 : Int32) &&& 31))).toUInt32.toUInt16.toUInt32.toInt32)) from pf13)).2.2.1 (pc' := 54) (by decide) (by decide) ?_
 refine g_aload X d6_54 (pc' := 56) rfl rfl rfl ?_
 refine g_areturn X rfl rfl d6_56 hret hlk (by decide) (by decide) ?_
 exact ⟨qk, rfl, N, Kp, jl, jj, jk, Or.inr qw⟩
theorem d8_0 : decode jdk_52_method_15_code 0 = .ok (.iload_n 1, 1) := by decide +kernel
theorem d8_1 : decode jdk_52_method_15_code 1 = .ok (.aload_n 0, 1) := by decide +kernel
theorem d8_2 : decode jdk_52_method_15_code 2 = .ok (.arraylength, 1) := by decide +kernel
theorem d8_3 : decode jdk_52_method_15_code 3 = .ok (.isub, 1) := by decide +kernel
theorem d8_4 : decode jdk_52_method_15_code 4 = .ok (.bipush 31, 2) := by decide +kernel
theorem d8_6 : decode jdk_52_method_15_code 6 = .ok (.iushr, 1) := by decide +kernel
theorem d8_7 : decode jdk_52_method_15_code 7 = .ok (.i2b, 1) := by decide +kernel
theorem d8_8 : decode jdk_52_method_15_code 8 = .ok (.ireturn, 1) := by decide +kernel
theorem ef_rCf6 (m : MethodId) (x0 : Addr) (x1 : Int32) : entryFrame m #[(.ref x0), (.int x1)] 2 = mkF m 0 #[.val (.ref x0), .val (.int x1)] [] := by first | (simp [entryFrame, mkF, argsToLocals, Value.category]; done) | rfl
set_option maxRecDepth 65536 in
set_option maxHeartbeats 40000000 in
theorem rCf6 (l : Launch) (Z : State) (aa : Array Value) (hw : ∀ d ∈ tables_1, d.before aa Z = true) (ws : List Jvm.Cond) (a0 : Addr) (y0 : Int32) (y1 : Int32) (y2 : Int32) (y3 : Int32) (y4 : Int32) (y5 : Int32) (h0 : Heap) (qa : Av Z h0 a0 .byte [(.int y0), (.int y1), (.int y2), (.int y3), (.int y4), (.int y5)]) :
    Rm l Z (⟨"java/lang/StringUTF16", "coderFromArrayLen", "([BI)B"⟩ : MethodName) jdk_52_method_15_code 2 (some .byte) ws ({ frames := 0, cells := 0, slots := 0, locals := 0 } : Room) #[(.ref a0), (.int (6 : Int32))] h0 (Pu (.int (0 : Int32)) h0) := by
 refine Rm.of (plainFor_of_name pn_0) ?_
 intro p e s m below meth cc T X hnm hret hlk
 refine Go.at_ (ef_rCf6 m a0 (6 : Int32)) ?_
 refine g_iloadN X d8_0 (pc' := 1) rfl rfl ?_
 refine g_aloadN X d8_1 (pc' := 2) rfl rfl rfl ?_
 refine g_arraylength X qa d8_2 (pc' := 3) rfl (z := (6 : Int32)) rfl ?_
 refine g_isub X d8_3 (pc' := 4) rfl ?_
 refine Go.lit32 (z := (0 : Int32)) (by decide) ?_
 refine g_bipush X (31 : Int32) d8_4 (pc' := 6) rfl rfl ?_
 refine g_iushr X d8_6 (pc' := 7) rfl ?_
 refine Go.lit32 (z := (0 : Int32)) (by decide) ?_
 refine g_i2b X d8_7 (pc' := 8) rfl ?_
 refine Go.lit32 (z := (0 : Int32)) (by decide) ?_
 refine g_ireturnN X (t := .byte) (by simp) d8_8 hret hlk (by decide) (by decide) ?_
 exact ⟨rfl, rfl, rfl⟩
theorem ef_rCf12 (m : MethodId) (x0 : Addr) (x1 : Int32) : entryFrame m #[(.ref x0), (.int x1)] 2 = mkF m 0 #[.val (.ref x0), .val (.int x1)] [] := by first | (simp [entryFrame, mkF, argsToLocals, Value.category]; done) | rfl
set_option maxRecDepth 65536 in
set_option maxHeartbeats 40000000 in
theorem rCf12 (l : Launch) (Z : State) (aa : Array Value) (hw : ∀ d ∈ tables_1, d.before aa Z = true) (ws : List Jvm.Cond) (a0 : Addr) (y0 : Int32) (y1 : Int32) (y2 : Int32) (y3 : Int32) (y4 : Int32) (y5 : Int32) (y6 : Int32) (y7 : Int32) (y8 : Int32) (y9 : Int32) (y10 : Int32) (y11 : Int32) (h0 : Heap) (qa : Av Z h0 a0 .byte [(.int y0), (.int y1), (.int y2), (.int y3), (.int y4), (.int y5), (.int y6), (.int y7), (.int y8), (.int y9), (.int y10), (.int y11)]) :
    Rm l Z (⟨"java/lang/StringUTF16", "coderFromArrayLen", "([BI)B"⟩ : MethodName) jdk_52_method_15_code 2 (some .byte) ws ({ frames := 0, cells := 0, slots := 0, locals := 0 } : Room) #[(.ref a0), (.int (6 : Int32))] h0 (Pu (.int (1 : Int32)) h0) := by
 refine Rm.of (plainFor_of_name pn_0) ?_
 intro p e s m below meth cc T X hnm hret hlk
 refine Go.at_ (ef_rCf12 m a0 (6 : Int32)) ?_
 refine g_iloadN X d8_0 (pc' := 1) rfl rfl ?_
 refine g_aloadN X d8_1 (pc' := 2) rfl rfl rfl ?_
 refine g_arraylength X qa d8_2 (pc' := 3) rfl (z := (12 : Int32)) rfl ?_
 refine g_isub X d8_3 (pc' := 4) rfl ?_
 refine Go.lit32 (z := (-6 : Int32)) (by decide) ?_
 refine g_bipush X (31 : Int32) d8_4 (pc' := 6) rfl rfl ?_
 refine g_iushr X d8_6 (pc' := 7) rfl ?_
 refine Go.lit32 (z := (1 : Int32)) (by decide) ?_
 refine g_i2b X d8_7 (pc' := 8) rfl ?_
 refine Go.lit32 (z := (1 : Int32)) (by decide) ?_
 refine g_ireturnN X (t := .byte) (by simp) d8_8 hret hlk (by decide) (by decide) ?_
 exact ⟨rfl, rfl, rfl⟩
theorem pn_1 : plainName "java/lang/String" = true := by first | (simp [plainName, overriddenIn]; done) | decide +kernel
theorem d5_0 : decode jdk_42_method_149_code 0 = .ok (.aload_n 0, 1) := by decide +kernel
theorem d5_1 : decode jdk_42_method_149_code 1 = .ok (.invokespecial 1, 3) := by decide +kernel
theorem d5_4 : decode jdk_42_method_149_code 4 = .ok (.iload_n 3, 1) := by decide +kernel
theorem d5_5 : decode jdk_42_method_149_code 5 = .ok (.ifCond .ne 22, 3) := by decide +kernel
theorem d5_27 : decode jdk_42_method_149_code 27 = .ok (.getstatic 38, 3) := by decide +kernel
theorem d5_30 : decode jdk_42_method_149_code 30 = .ok (.ifCond .eq 28, 3) := by decide +kernel
theorem d5_33 : decode jdk_42_method_149_code 33 = .ok (.aload_n 1, 1) := by decide +kernel
theorem d5_34 : decode jdk_42_method_149_code 34 = .ok (.iload_n 2, 1) := by decide +kernel
theorem d5_35 : decode jdk_42_method_149_code 35 = .ok (.iload_n 3, 1) := by decide +kernel
theorem d5_36 : decode jdk_42_method_149_code 36 = .ok (.invokestatic 177, 3) := by decide +kernel
theorem d5_39 : decode jdk_42_method_149_code 39 = .ok (.astore 5, 2) := by decide +kernel
theorem d5_41 : decode jdk_42_method_149_code 41 = .ok (.aload_n 0, 1) := by decide +kernel
theorem d5_42 : decode jdk_42_method_149_code 42 = .ok (.aload 5, 2) := by decide +kernel
theorem d5_44 : decode jdk_42_method_149_code 44 = .ok (.iload_n 3, 1) := by decide +kernel
theorem d5_45 : decode jdk_42_method_149_code 45 = .ok (.invokestatic 47, 3) := by decide +kernel
theorem pd_6 : parseMethodDescriptor "([BI)B" = some ⟨[(.array .byte), .int], some .byte⟩ := by decide +kernel
theorem d5_48 : decode jdk_42_method_149_code 48 = .ok (.putfield 15, 3) := by decide +kernel
theorem d5_51 : decode jdk_42_method_149_code 51 = .ok (.aload_n 0, 1) := by decide +kernel
theorem d5_52 : decode jdk_42_method_149_code 52 = .ok (.aload 5, 2) := by decide +kernel
theorem d5_54 : decode jdk_42_method_149_code 54 = .ok (.putfield 9, 3) := by decide +kernel
theorem d5_57 : decode jdk_42_method_149_code 57 = .ok (.return_, 1) := by decide +kernel
theorem ef_rSi3 (m : MethodId) (x0 : Addr) (x1 : Addr) (x2 : Int32) (x3 : Int32) : entryFrame m #[(.ref x0), (.ref x1), (.int x2), (.int x3), .null] 6 = mkF m 0 #[.val (.ref x0), .val (.ref x1), .val (.int x2), .val (.int x3), .val .null, .unset] [] := by first | (simp [entryFrame, mkF, argsToLocals, Value.category]; done) | rfl
set_option maxRecDepth 65536 in
set_option maxHeartbeats 40000000 in
theorem rSi3 (l : Launch) (Z : State) (aa : Array Value) (hw : ∀ d ∈ tables_1, d.before aa Z = true) (ws : List Jvm.Cond) (a0 : Addr) (a1 : Addr) (c0 : Int32) (c1 : Int32) (c2 : Int32) (c3 : Int32) (c4 : Int32) (c5 : Int32) (G1 : Int32) (h0 : Heap) (n0 : Nat) (Z0 : n0 ≤ h0.size) (qa : Exa Z h0 a0 "java/lang/String") (qb : Fld Z h0 a0 "java/lang/String" "value" "[B" .null) (qc : Fld Z h0 a0 "java/lang/String" "coder" "B" (.int (0 : Int32))) (qh : Av Z h0 a1 .char [(.int c0), (.int c1), (.int c2), (.int c3), (.int c4), (.int c5)]) (qf : n0 ≤ a0) (qn : a1 ≠ a0) (hR : R6 c0 c1 c2 c3 c4 c5) (qi : Sta Z Z.heap "java/lang/StringUTF16" "$assertionsDisabled" "Z" (.int (1 : Int32))) (qj : Sta Z Z.heap "java/lang/StringUTF16" "HI_BYTE_SHIFT" "I" (.int (0 : Int32))) (qk : Sta Z Z.heap "java/lang/StringUTF16" "LO_BYTE_SHIFT" "I" (.int (8 : Int32))) (ql : Sta Z Z.heap "java/lang/String" "COMPACT_STRINGS" "Z" (.int G1)) (P5 : ¬ G1 = (0 : Int32)) (Od : Old Z n0 h0) :
    Rm l Z (⟨"java/lang/String", "<init>", "([CIILjava/lang/Void;)V"⟩ : MethodName) jdk_42_method_149_code 6 none ws ({ frames := 4, cells := 2, slots := 18, locals := 57 } : Room) #[(.ref a0), (.ref a1), (.int (0 : Int32)), (.int (6 : Int32)), .null] h0 (fun v h L => v = none ∧ Fr n0 L ∧ Keep h0 h [a0] ∧ S6 Z h a0 c0 c1 c2 c3 c4 c5) := by
 refine Rm.of (plainFor_of_name pn_1) ?_
 intro p e s m below meth cc T X hnm hret hlk
 refine Go.at_ (ef_rSi3 m a0 a1 (0 : Int32) (6 : Int32)) ?_
 have N := Fr.nil n0
 have Kp := Keep.refl h0 [a0]
 refine g_aloadN X d5_0 (pc' := 1) rfl rfl rfl ?_
 refine g_initO X (W := 0) (tb hw 31 rfl) (tb hw 13 rfl) (tb hw 14 rfl) d5_1 (pc' := 4) rfl rfl (by decide) (Nat.le_refl _) (by decide) ?_
 intro T X
 refine g_iloadN X d5_4 (pc' := 5) rfl rfl ?_
 refine g_ifY X d5_5 ((if0 _ _).trans (feq (show ¬ ((6 : Int32) = (0 : Int32)) from (by decide))).2) (pc' := 27) (by decide) (by decide) ?_
 refine g_getstatic X (host := "") (Or.inl (tb hw 32 rfl)) Via.refl (ql.ext Od.2) d5_27 (pc' := 30) rfl ?_
 intro T X
 refine g_ifN X d5_30 ((if0 _ _).trans (feq (show ¬ (G1 = (0 : Int32)) from P5)).1) (pc' := 33) rfl ?_
 refine g_aloadN X d5_33 (pc' := 34) rfl rfl rfl ?_
 refine g_iloadN X d5_34 (pc' := 35) rfl rfl ?_
 refine g_iloadN X d5_35 (pc' := 36) rfl rfl ?_
 refine g_static X (W := 0) [(.ref a1), (.int (0 : Int32)), (.int (6 : Int32))] [] (tb hw 33 rfl) (tb hw 34 rfl) (tb hw 35 rfl) (tb hw 36 rfl) (rCom l Z aa hw [] a1 c0 c1 c2 c3 c4 c5 _ n0 Z0 qh hR qi qj qk Od) d5_36 (pc' := 39) rfl (by decide) (by decide) (by decide) rfl rfl rfl (lenOf pd_4 rfl) (Nat.le_refl _) (by decide) (by decide) ?_
 intro v T L X q
 obtain ⟨qe, rfl, Nq, Kq, qm, qo, qp, q⟩ := q
 have qg : a0 ≠ qe := Nat.ne_of_lt (Nat.lt_of_lt_of_le qa.lt qm)
 replace N := N.app Nq
 replace qa := qa.keep Kq
 replace qb := qb.keep Kq nin0
 replace qc := qc.keep Kq nin0
 replace Od := Od.keep Kq all0
 replace Z0 := Nat.le_trans Z0 Kq.1
 replace Kp := Kp.trans Kq all0
 show Go p e below _ (T.setTop (mkF m 39 _ [(.ref qe)]))
 rcases q with ⟨qd, hL⟩ | qd
 refine g_astore X d5_39 (pc' := 41) (Ls' := #[.val (.ref a0), .val (.ref a1), .val (.int (0 : Int32)), .val (.int (6 : Int32)), .val .null, .val (.ref qe)]) rfl rfl rfl ?_
 refine g_aloadN X d5_41 (pc' := 42) rfl rfl rfl ?_
 refine g_aload X d5_42 (pc' := 44) rfl rfl rfl ?_
 refine g_iloadN X d5_44 (pc' := 45) rfl rfl ?_
 refine g_static X (W := 1) [(.ref qe), (.int (6 : Int32))] [(.ref a0)] (tb hw 41 rfl) (tb hw 42 rfl) (tb hw 35 rfl) (tb hw 43 rfl) (rCf6 l Z aa hw [] qe (nar .byte (c0.toInt8.toInt32)) (nar .byte (c1.toInt8.toInt32)) (nar .byte (c2.toInt8.toInt32)) (nar .byte (c3.toInt8.toInt32)) (nar .byte (c4.toInt8.toInt32)) (nar .byte (c5.toInt8.toInt32)) _ qd) d5_45 (pc' := 48) rfl (by decide) (by decide) (by decide) rfl rfl rfl (lenOf pd_6 rfl) (Nat.le_refl _) (by decide) (by decide) ?_
 intro v T L X q
 obtain ⟨rfl, X⟩ := pureX X q
 show Go p e below _ (T.setTop (mkF m 48 _ [(.int (0 : Int32)), (.ref a0)]))
 refine g_putfieldN X (tb hw 44 rfl) Via.refl qc qa (Or.inr ⟨(tb hw 45 rfl), rfl, hnm⟩) (tb hw 22 rfl) (ty := .byte) (v' := (.int (nar .byte (0 : Int32)))) (by decide) rfl (fits_nar_byte _) d5_48 (pc' := 51) rfl ?_
 intro T h X W
 replace qa := qa.wr W
 replace qb := qb.other W (Or.inr (slot_ne (Or.inr (tb hw 47 rfl)) (Or.inr (tb hw 45 rfl)) (by decide) (t := (.array .byte)) (t' := .byte) (by decide) (by decide)))
 replace qc := qc.same W
 replace qd := qd.other W (Ne.symm qg)
 replace Z0 := Nat.le_trans Z0 (Nat.le_of_eq W.size.symm)
 replace N := Fr.snoc X.1 N qf
 replace Kp := Kp.wr W (Or.inl (List.mem_of_getElem? (i := 0) rfl))
 replace Od := Od.wr W qf
 refine g_aloadN X d5_51 (pc' := 52) rfl rfl rfl ?_
 refine g_aload X d5_52 (pc' := 54) rfl rfl rfl ?_
 refine g_putfield X (host := "") (Or.inl (tb hw 46 rfl)) Via.refl qb qa (Or.inr ⟨(tb hw 47 rfl), rfl, hnm⟩) (tb hw 22 rfl) (ty := (.array .byte)) (by decide) rfl rfl d5_54 (pc' := 57) rfl ?_
 intro T h X W
 replace qa := qa.wr W
 replace qb := qb.same W
 replace qc := qc.other W (Or.inr (slot_ne (Or.inr (tb hw 45 rfl)) (Or.inr (tb hw 47 rfl)) (by decide) (t := .byte) (t' := (.array .byte)) (by decide) (by decide)))
 replace qd := qd.other W (Ne.symm qg)
 replace Z0 := Nat.le_trans Z0 (Nat.le_of_eq W.size.symm)
 replace N := Fr.snoc X.1 N qf
 replace Kp := Kp.wr W (Or.inl (List.mem_of_getElem? (i := 0) rfl))
 replace Od := Od.wr W qf
 refine g_return X d5_57 hret hlk (by decide) (by decide) ?_
 exact ⟨rfl, N, Kp, qa, qe, qb, Or.inl ⟨qc, qd, hL⟩⟩
 refine g_astore X d5_39 (pc' := 41) (Ls' := #[.val (.ref a0), .val (.ref a1), .val (.int (0 : Int32)), .val (.int (6 : Int32)), .val .null, .val (.ref qe)]) rfl rfl rfl ?_
 refine g_aloadN X d5_41 (pc' := 42) rfl rfl rfl ?_
 refine g_aload X d5_42 (pc' := 44) rfl rfl rfl ?_
 refine g_iloadN X d5_44 (pc' := 45) rfl rfl ?_
 refine g_static X (W := 1) [(.ref qe), (.int (6 : Int32))] [(.ref a0)] (tb hw 41 rfl) (tb hw 42 rfl) (tb hw 35 rfl) (tb hw 43 rfl) (rCf12 l Z aa hw [] qe (loB c0) (hiB c0) (loB c1) (hiB c1) (loB c2) (hiB c2) (loB c3) (hiB c3) (loB c4) (hiB c4) (loB c5) (hiB c5) _ qd) d5_45 (pc' := 48) rfl (by decide) (by decide) (by decide) rfl rfl rfl (lenOf pd_6 rfl) (Nat.le_refl _) (by decide) (by decide) ?_
 intro v T L X q
 obtain ⟨rfl, X⟩ := pureX X q
 show Go p e below _ (T.setTop (mkF m 48 _ [(.int (1 : Int32)), (.ref a0)]))
 refine g_putfieldN X (tb hw 44 rfl) Via.refl qc qa (Or.inr ⟨(tb hw 45 rfl), rfl, hnm⟩) (tb hw 22 rfl) (ty := .byte) (v' := (.int (nar .byte (1 : Int32)))) (by decide) rfl (fits_nar_byte _) d5_48 (pc' := 51) rfl ?_
 intro T h X W
 replace qa := qa.wr W
 replace qb := qb.other W (Or.inr (slot_ne (Or.inr (tb hw 47 rfl)) (Or.inr (tb hw 45 rfl)) (by decide) (t := (.array .byte)) (t' := .byte) (by decide) (by decide)))
 replace qc := qc.same W
 replace qd := qd.other W (Ne.symm qg)
 replace Z0 := Nat.le_trans Z0 (Nat.le_of_eq W.size.symm)
 replace N := Fr.snoc X.1 N qf
 replace Kp := Kp.wr W (Or.inl (List.mem_of_getElem? (i := 0) rfl))
 replace Od := Od.wr W qf
 refine g_aloadN X d5_51 (pc' := 52) rfl rfl rfl ?_
 refine g_aload X d5_52 (pc' := 54) rfl rfl rfl ?_
 refine g_putfield X (host := "") (Or.inl (tb hw 46 rfl)) Via.refl qb qa (Or.inr ⟨(tb hw 47 rfl), rfl, hnm⟩) (tb hw 22 rfl) (ty := (.array .byte)) (by decide) rfl rfl d5_54 (pc' := 57) rfl ?_
 intro T h X W
 replace qa := qa.wr W
 replace qb := qb.same W
 replace qc := qc.other W (Or.inr (slot_ne (Or.inr (tb hw 45 rfl)) (Or.inr (tb hw 47 rfl)) (by decide) (t := .byte) (t' := (.array .byte)) (by decide) (by decide)))
 replace qd := qd.other W (Ne.symm qg)
 replace Z0 := Nat.le_trans Z0 (Nat.le_of_eq W.size.symm)
 replace N := Fr.snoc X.1 N qf
 replace Kp := Kp.wr W (Or.inl (List.mem_of_getElem? (i := 0) rfl))
 replace Od := Od.wr W qf
 refine g_return X d5_57 hret hlk (by decide) (by decide) ?_
 exact ⟨rfl, N, Kp, qa, qe, qb, Or.inr ⟨qc, qd⟩⟩
theorem d4_0 : decode jdk_42_method_3_code 0 = .ok (.aload_n 0, 1) := by decide +kernel
theorem d4_1 : decode jdk_42_method_3_code 1 = .ok (.aload_n 1, 1) := by decide +kernel
theorem d4_2 : decode jdk_42_method_3_code 2 = .ok (.iconst 0, 1) := by decide +kernel
theorem d4_3 : decode jdk_42_method_3_code 3 = .ok (.aload_n 1, 1) := by decide +kernel
theorem d4_4 : decode jdk_42_method_3_code 4 = .ok (.arraylength, 1) := by decide +kernel
theorem d4_5 : decode jdk_42_method_3_code 5 = .ok (.aconst_null, 1) := by decide +kernel
theorem d4_6 : decode jdk_42_method_3_code 6 = .ok (.invokespecial 27, 3) := by decide +kernel
theorem pd_7 : parseMethodDescriptor "([CIILjava/lang/Void;)V" = some ⟨[(.array .char), .int, .int, (.object "java/lang/Void")], none⟩ := by decide +kernel
theorem d4_9 : decode jdk_42_method_3_code 9 = .ok (.return_, 1) := by decide +kernel
theorem ef_rSi1 (m : MethodId) (x0 : Addr) (x1 : Addr) : entryFrame m #[(.ref x0), (.ref x1)] 2 = mkF m 0 #[.val (.ref x0), .val (.ref x1)] [] := by first | (simp [entryFrame, mkF, argsToLocals, Value.category]; done) | rfl
set_option maxRecDepth 65536 in
set_option maxHeartbeats 40000000 in
theorem rSi1 (l : Launch) (Z : State) (aa : Array Value) (hw : ∀ d ∈ tables_1, d.before aa Z = true) (ws : List Jvm.Cond) (a0 : Addr) (a1 : Addr) (c0 : Int32) (c1 : Int32) (c2 : Int32) (c3 : Int32) (c4 : Int32) (c5 : Int32) (G1 : Int32) (h0 : Heap) (n0 : Nat) (Z0 : n0 ≤ h0.size) (qc : Exa Z h0 a0 "java/lang/String") (qd : Fld Z h0 a0 "java/lang/String" "value" "[B" .null) (qe : Fld Z h0 a0 "java/lang/String" "coder" "B" (.int (0 : Int32))) (qa : Av Z h0 a1 .char [(.int c0), (.int c1), (.int c2), (.int c3), (.int c4), (.int c5)]) (qb : n0 ≤ a0) (qf : a1 ≠ a0) (hR : R6 c0 c1 c2 c3 c4 c5) (qg : Sta Z Z.heap "java/lang/StringUTF16" "$assertionsDisabled" "Z" (.int (1 : Int32))) (qh : Sta Z Z.heap "java/lang/StringUTF16" "HI_BYTE_SHIFT" "I" (.int (0 : Int32))) (qi : Sta Z Z.heap "java/lang/StringUTF16" "LO_BYTE_SHIFT" "I" (.int (8 : Int32))) (qj : Sta Z Z.heap "java/lang/String" "COMPACT_STRINGS" "Z" (.int G1)) (P5 : ¬ G1 = (0 : Int32)) (Od : Old Z n0 h0) :
    Rm l Z (⟨"java/lang/String", "<init>", "([C)V"⟩ : MethodName) jdk_42_method_3_code 2 none ws ({ frames := 5, cells := 2, slots := 18, locals := 74 } : Room) #[(.ref a0), (.ref a1)] h0 (fun v h L => v = none ∧ Fr n0 L ∧ Keep h0 h [a0] ∧ S6 Z h a0 c0 c1 c2 c3 c4 c5) := by
 refine Rm.of (plainFor_of_name pn_1) ?_
 intro p e s m below meth cc T X hnm hret hlk
 refine Go.at_ (ef_rSi1 m a0 a1) ?_
 have N := Fr.nil n0
 have Kp := Keep.refl h0 [a0]
 refine g_aloadN X d4_0 (pc' := 1) rfl rfl rfl ?_
 refine g_aloadN X d4_1 (pc' := 2) rfl rfl rfl ?_
 refine g_iconst X (0 : Int32) d4_2 (pc' := 3) rfl rfl ?_
 refine g_aloadN X d4_3 (pc' := 4) rfl rfl rfl ?_
 refine g_arraylength X qa d4_4 (pc' := 5) rfl (z := (6 : Int32)) rfl ?_
 refine g_aconst_null X d4_5 (pc' := 6) rfl ?_
 refine g_special X (W := 0) (a := a0) [(.ref a1), (.int (0 : Int32)), (.int (6 : Int32)), .null] [] rfl (tb hw 27 rfl) (tb hw 28 rfl) (tb hw 23 rfl) (tb hw 30 rfl) (rSi3 l Z aa hw [] a0 a1 c0 c1 c2 c3 c4 c5 G1 _ n0 Z0 qc qd qe qa qb qf hR qg qh qi qj P5 Od) d4_6 (pc' := 9) rfl (by decide) (by decide) (by decide) rfl rfl rfl (lenOf pd_7 rfl) (Nat.le_refl _) (by decide) (by decide) ?_
 intro v T L X q
 obtain ⟨rfl, Nq, Kq, S6_a0⟩ := q
 replace N := N.app Nq
 replace Od := Od.keep Kq (allS qb all0)
 replace Z0 := Nat.le_trans Z0 Kq.1
 replace Kp := Kp.trans Kq (allS (Or.inl (List.mem_of_getElem? (i := 0) rfl)) all0)
 show Go p e below _ (T.setTop (mkF m 9 _ []))
 refine g_return X d4_9 hret hlk (by decide) (by decide) ?_
 exact ⟨rfl, N, Kp, S6_a0⟩
theorem d22_0 : decode jdk_42_method_154_code 0 = .ok (.getstatic 38, 3) := by decide +kernel
theorem d22_3 : decode jdk_42_method_154_code 3 = .ok (.ifCond .eq 14, 3) := by decide +kernel
theorem d22_6 : decode jdk_42_method_154_code 6 = .ok (.aload_n 0, 1) := by decide +kernel
theorem d22_7 : decode jdk_42_method_154_code 7 = .ok (.getfield 15, 3) := by decide +kernel
theorem d22_10 : decode jdk_42_method_154_code 10 = .ok (.ifCond .ne 7, 3) := by decide +kernel
theorem d22_13 : decode jdk_42_method_154_code 13 = .ok (.iconst 1, 1) := by decide +kernel
theorem d22_14 : decode jdk_42_method_154_code 14 = .ok (.goto 4, 3) := by decide +kernel
theorem d22_18 : decode jdk_42_method_154_code 18 = .ok (.ireturn, 1) := by decide +kernel
theorem ef_rLat0 (m : MethodId) (x0 : Addr) : entryFrame m #[(.ref x0)] 1 = mkF m 0 #[.val (.ref x0)] [] := by first | (simp [entryFrame, mkF, argsToLocals, Value.category]; done) | rfl
set_option maxRecDepth 65536 in
set_option maxHeartbeats 40000000 in
theorem rLat0 (l : Launch) (Z : State) (aa : Array Value) (hw : ∀ d ∈ tables_1, d.before aa Z = true) (ws : List Jvm.Cond) (a0 : Addr) (G1 : Int32) (v0 : Addr) (y0 : Int32) (y1 : Int32) (y2 : Int32) (y3 : Int32) (y4 : Int32) (y5 : Int32) (h0 : Heap) (qb : Exa Z h0 a0 "java/lang/String") (qa : Fld Z h0 a0 "java/lang/String" "coder" "B" (.int (0 : Int32))) (qc : Fld Z h0 a0 "java/lang/String" "value" "[B" (.ref v0)) (qd : Av Z h0 v0 .byte [(.int y0), (.int y1), (.int y2), (.int y3), (.int y4), (.int y5)]) (Pcs : Sta Z h0 "java/lang/String" "COMPACT_STRINGS" "Z" (.int G1)) (P5 : ¬ G1 = (0 : Int32)) :
    Rm l Z (⟨"java/lang/String", "isLatin1", "()Z"⟩ : MethodName) jdk_42_method_154_code 1 (some .boolean) ws ({ frames := 0, cells := 0, slots := 0, locals := 0 } : Room) #[(.ref a0)] h0 (Pu (.int (1 : Int32)) h0) := by
 refine Rm.of (plainFor_of_name pn_1) ?_
 intro p e s m below meth cc T X hnm hret hlk
 refine Go.at_ (ef_rLat0 m a0) ?_
 refine g_getstatic X (host := "") (Or.inl (tb hw 32 rfl)) Via.refl Pcs d22_0 (pc' := 3) rfl ?_
 intro T X
 refine g_ifN X d22_3 ((if0 _ _).trans (feq (show ¬ (G1 = (0 : Int32)) from P5)).1) (pc' := 6) rfl ?_
 refine g_aloadN X d22_6 (pc' := 7) rfl rfl rfl ?_
 refine g_getfield X (host := "") (Or.inl (tb hw 44 rfl)) Via.refl qa d22_7 (pc' := 10) rfl ?_
 intro T X
 refine g_ifN X d22_10 ((if0 _ _).trans (teq (show (0 : Int32) = (0 : Int32) from (by decide))).2) (pc' := 13) rfl ?_
 refine g_iconst X (1 : Int32) d22_13 (pc' := 14) rfl rfl ?_
 refine g_goto X d22_14 (pc' := 18) (by decide) (by decide) ?_
 refine g_ireturnN X (t := .boolean) (by simp) d22_18 hret hlk (by decide) (by decide) ?_
 exact ⟨rfl, rfl, rfl⟩
theorem d22_17 : decode jdk_42_method_154_code 17 = .ok (.iconst 0, 1) := by decide +kernel
theorem ef_rLat1 (m : MethodId) (x0 : Addr) : entryFrame m #[(.ref x0)] 1 = mkF m 0 #[.val (.ref x0)] [] := by first | (simp [entryFrame, mkF, argsToLocals, Value.category]; done) | rfl
set_option maxRecDepth 65536 in
set_option maxHeartbeats 40000000 in
theorem rLat1 (l : Launch) (Z : State) (aa : Array Value) (hw : ∀ d ∈ tables_1, d.before aa Z = true) (ws : List Jvm.Cond) (a0 : Addr) (G1 : Int32) (v0 : Addr) (y0 : Int32) (y1 : Int32) (y2 : Int32) (y3 : Int32) (y4 : Int32) (y5 : Int32) (y6 : Int32) (y7 : Int32) (y8 : Int32) (y9 : Int32) (y10 : Int32) (y11 : Int32) (h0 : Heap) (qb : Exa Z h0 a0 "java/lang/String") (qa : Fld Z h0 a0 "java/lang/String" "coder" "B" (.int (1 : Int32))) (qc : Fld Z h0 a0 "java/lang/String" "value" "[B" (.ref v0)) (qd : Av Z h0 v0 .byte [(.int y0), (.int y1), (.int y2), (.int y3), (.int y4), (.int y5), (.int y6), (.int y7), (.int y8), (.int y9), (.int y10), (.int y11)]) (Pcs : Sta Z h0 "java/lang/String" "COMPACT_STRINGS" "Z" (.int G1)) (P5 : ¬ G1 = (0 : Int32)) :
    Rm l Z (⟨"java/lang/String", "isLatin1", "()Z"⟩ : MethodName) jdk_42_method_154_code 1 (some .boolean) ws ({ frames := 0, cells := 0, slots := 0, locals := 0 } : Room) #[(.ref a0)] h0 (Pu (.int (0 : Int32)) h0) := by
 refine Rm.of (plainFor_of_name pn_1) ?_
 intro p e s m below meth cc T X hnm hret hlk
 refine Go.at_ (ef_rLat1 m a0) ?_
 refine g_getstatic X (host := "") (Or.inl (tb hw 32 rfl)) Via.refl Pcs d22_0 (pc' := 3) rfl ?_
 intro T X
 refine g_ifN X d22_3 ((if0 _ _).trans (feq (show ¬ (G1 = (0 : Int32)) from P5)).1) (pc' := 6) rfl ?_
 refine g_aloadN X d22_6 (pc' := 7) rfl rfl rfl ?_
 refine g_getfield X (host := "") (Or.inl (tb hw 44 rfl)) Via.refl qa d22_7 (pc' := 10) rfl ?_
 intro T X
 refine g_ifY X d22_10 ((if0 _ _).trans (feq (show ¬ ((1 : Int32) = (0 : Int32)) from (by decide))).2) (pc' := 17) (by decide) (by decide) ?_
 refine g_iconst X (0 : Int32) d22_17 (pc' := 18) rfl rfl ?_
 refine g_ireturnN X (t := .boolean) (by simp) d22_18 hret hlk (by decide) (by decide) ?_
 exact ⟨rfl, rfl, rfl⟩
theorem d11_0 : decode jdk_42_method_152_code 0 = .ok (.getstatic 38, 3) := by decide +kernel
theorem d11_3 : decode jdk_42_method_152_code 3 = .ok (.ifCond .eq 10, 3) := by decide +kernel
theorem d11_6 : decode jdk_42_method_152_code 6 = .ok (.aload_n 0, 1) := by decide +kernel
theorem d11_7 : decode jdk_42_method_152_code 7 = .ok (.getfield 15, 3) := by decide +kernel
theorem d11_10 : decode jdk_42_method_152_code 10 = .ok (.goto 4, 3) := by decide +kernel
theorem d11_14 : decode jdk_42_method_152_code 14 = .ok (.ireturn, 1) := by decide +kernel
theorem ef_rCod0 (m : MethodId) (x0 : Addr) : entryFrame m #[(.ref x0)] 1 = mkF m 0 #[.val (.ref x0)] [] := by first | (simp [entryFrame, mkF, argsToLocals, Value.category]; done) | rfl
set_option maxRecDepth 65536 in
set_option maxHeartbeats 40000000 in
theorem rCod0 (l : Launch) (Z : State) (aa : Array Value) (hw : ∀ d ∈ tables_1, d.before aa Z = true) (ws : List Jvm.Cond) (a0 : Addr) (G1 : Int32) (v0 : Addr) (y0 : Int32) (y1 : Int32) (y2 : Int32) (y3 : Int32) (y4 : Int32) (y5 : Int32) (h0 : Heap) (qb : Exa Z h0 a0 "java/lang/String") (qa : Fld Z h0 a0 "java/lang/String" "coder" "B" (.int (0 : Int32))) (qc : Fld Z h0 a0 "java/lang/String" "value" "[B" (.ref v0)) (qd : Av Z h0 v0 .byte [(.int y0), (.int y1), (.int y2), (.int y3), (.int y4), (.int y5)]) (Pcs : Sta Z h0 "java/lang/String" "COMPACT_STRINGS" "Z" (.int G1)) (P5 : ¬ G1 = (0 : Int32)) :
    Rm l Z (⟨"java/lang/String", "coder", "()B"⟩ : MethodName) jdk_42_method_152_code 1 (some .byte) ws ({ frames := 0, cells := 0, slots := 0, locals := 0 } : Room) #[(.ref a0)] h0 (Pu (.int (0 : Int32)) h0) := by
 refine Rm.of (plainFor_of_name pn_1) ?_
 intro p e s m below meth cc T X hnm hret hlk
 refine Go.at_ (ef_rCod0 m a0) ?_
 refine g_getstatic X (host := "") (Or.inl (tb hw 32 rfl)) Via.refl Pcs d11_0 (pc' := 3) rfl ?_
 intro T X
 refine g_ifN X d11_3 ((if0 _ _).trans (feq (show ¬ (G1 = (0 : Int32)) from P5)).1) (pc' := 6) rfl ?_
 refine g_aloadN X d11_6 (pc' := 7) rfl rfl rfl ?_
 refine g_getfield X (host := "") (Or.inl (tb hw 44 rfl)) Via.refl qa d11_7 (pc' := 10) rfl ?_
 intro T X
 refine g_goto X d11_10 (pc' := 14) (by decide) (by decide) ?_
 refine g_ireturnN X (t := .byte) (by simp) d11_14 hret hlk (by decide) (by decide) ?_
 exact ⟨rfl, rfl, rfl⟩
theorem ef_rCod1 (m : MethodId) (x0 : Addr) : entryFrame m #[(.ref x0)] 1 = mkF m 0 #[.val (.ref x0)] [] := by first | (simp [entryFrame, mkF, argsToLocals, Value.category]; done) | rfl
set_option maxRecDepth 65536 in
set_option maxHeartbeats 40000000 in
theorem rCod1 (l : Launch) (Z : State) (aa : Array Value) (hw : ∀ d ∈ tables_1, d.before aa Z = true) (ws : List Jvm.Cond) (a0 : Addr) (G1 : Int32) (v0 : Addr) (y0 : Int32) (y1 : Int32) (y2 : Int32) (y3 : Int32) (y4 : Int32) (y5 : Int32) (y6 : Int32) (y7 : Int32) (y8 : Int32) (y9 : Int32) (y10 : Int32) (y11 : Int32) (h0 : Heap) (qb : Exa Z h0 a0 "java/lang/String") (qa : Fld Z h0 a0 "java/lang/String" "coder" "B" (.int (1 : Int32))) (qc : Fld Z h0 a0 "java/lang/String" "value" "[B" (.ref v0)) (qd : Av Z h0 v0 .byte [(.int y0), (.int y1), (.int y2), (.int y3), (.int y4), (.int y5), (.int y6), (.int y7), (.int y8), (.int y9), (.int y10), (.int y11)]) (Pcs : Sta Z h0 "java/lang/String" "COMPACT_STRINGS" "Z" (.int G1)) (P5 : ¬ G1 = (0 : Int32)) :
    Rm l Z (⟨"java/lang/String", "coder", "()B"⟩ : MethodName) jdk_42_method_152_code 1 (some .byte) ws ({ frames := 0, cells := 0, slots := 0, locals := 0 } : Room) #[(.ref a0)] h0 (Pu (.int (1 : Int32)) h0) := by
 refine Rm.of (plainFor_of_name pn_1) ?_
 intro p e s m below meth cc T X hnm hret hlk
 refine Go.at_ (ef_rCod1 m a0) ?_
 refine g_getstatic X (host := "") (Or.inl (tb hw 32 rfl)) Via.refl Pcs d11_0 (pc' := 3) rfl ?_
 intro T X
 refine g_ifN X d11_3 ((if0 _ _).trans (feq (show ¬ (G1 = (0 : Int32)) from P5)).1) (pc' := 6) rfl ?_
 refine g_aloadN X d11_6 (pc' := 7) rfl rfl rfl ?_
 refine g_getfield X (host := "") (Or.inl (tb hw 44 rfl)) Via.refl qa d11_7 (pc' := 10) rfl ?_
 intro T X
 refine g_goto X d11_10 (pc' := 14) (by decide) (by decide) ?_
 refine g_ireturnN X (t := .byte) (by simp) d11_14 hret hlk (by decide) (by decide) ?_
 exact ⟨rfl, rfl, rfl⟩
theorem d10_0 : decode jdk_42_method_54_code 0 = .ok (.aload_n 0, 1) := by decide +kernel
theorem d10_1 : decode jdk_42_method_54_code 1 = .ok (.getfield 9, 3) := by decide +kernel
theorem d10_4 : decode jdk_42_method_54_code 4 = .ok (.arraylength, 1) := by decide +kernel
theorem d10_5 : decode jdk_42_method_54_code 5 = .ok (.aload_n 0, 1) := by decide +kernel
theorem d10_6 : decode jdk_42_method_54_code 6 = .ok (.invokevirtual 335, 3) := by decide +kernel
theorem pd_8 : parseMethodDescriptor "()B" = some ⟨[], some .byte⟩ := by decide +kernel
theorem d10_9 : decode jdk_42_method_54_code 9 = .ok (.ishr, 1) := by decide +kernel
theorem d10_10 : decode jdk_42_method_54_code 10 = .ok (.ireturn, 1) := by decide +kernel
theorem ef_rLen0 (m : MethodId) (x0 : Addr) : entryFrame m #[(.ref x0)] 1 = mkF m 0 #[.val (.ref x0)] [] := by first | (simp [entryFrame, mkF, argsToLocals, Value.category]; done) | rfl
set_option maxRecDepth 65536 in
set_option maxHeartbeats 40000000 in
theorem rLen0 (l : Launch) (Z : State) (aa : Array Value) (hw : ∀ d ∈ tables_1, d.before aa Z = true) (ws : List Jvm.Cond) (a0 : Addr) (G1 : Int32) (v0 : Addr) (y0 : Int32) (y1 : Int32) (y2 : Int32) (y3 : Int32) (y4 : Int32) (y5 : Int32) (h0 : Heap) (qa : Exa Z h0 a0 "java/lang/String") (qd : Fld Z h0 a0 "java/lang/String" "coder" "B" (.int (0 : Int32))) (qb : Fld Z h0 a0 "java/lang/String" "value" "[B" (.ref v0)) (qc : Av Z h0 v0 .byte [(.int y0), (.int y1), (.int y2), (.int y3), (.int y4), (.int y5)]) (Pcs : Sta Z h0 "java/lang/String" "COMPACT_STRINGS" "Z" (.int G1)) (P5 : ¬ G1 = (0 : Int32)) :
    Rm l Z (⟨"java/lang/String", "length", "()I"⟩ : MethodName) jdk_42_method_54_code 1 (some .int) ws ({ frames := 1, cells := 0, slots := 0, locals := 13 } : Room) #[(.ref a0)] h0 (Pu (.int (6 : Int32)) h0) := by
 refine Rm.of (plainFor_of_name pn_1) ?_
 intro p e s m below meth cc T X hnm hret hlk
 refine Go.at_ (ef_rLen0 m a0) ?_
 refine g_aloadN X d10_0 (pc' := 1) rfl rfl rfl ?_
 refine g_getfield X (host := "") (Or.inl (tb hw 46 rfl)) Via.refl qb d10_1 (pc' := 4) rfl ?_
 intro T X
 refine g_arraylength X qc d10_4 (pc' := 5) rfl (z := (6 : Int32)) rfl ?_
 refine g_aloadN X d10_5 (pc' := 6) rfl rfl rfl ?_
 refine g_virtual X (W := 1) (a := a0) (C := "java/lang/String") [] [(.int (6 : Int32))] qa (tb hw 58 rfl) (tb hw 59 rfl) (tb hw 61 rfl) (tb hw 60 rfl) (tb hw 23 rfl) (tb hw 62 rfl) (rCod0 l Z aa hw [] a0 G1 v0 y0 y1 y2 y3 y4 y5 _ qa qd qb qc Pcs P5) d10_6 (pc' := 9) rfl (by decide) (by decide) (by decide) rfl rfl rfl (lenOf pd_8 rfl) (Nat.le_refl _) (by decide) (by decide) ?_
 intro v T L X q
 obtain ⟨rfl, X⟩ := pureX X q
 show Go p e below _ (T.setTop (mkF m 9 _ [(.int (0 : Int32)), (.int (6 : Int32))]))
 refine g_ishr X d10_9 (pc' := 10) rfl ?_
 refine Go.lit32 (z := (6 : Int32)) (by decide) ?_
 refine g_ireturn X d10_10 hret hlk (by decide) (by decide) ?_
 exact ⟨rfl, rfl, rfl⟩
theorem ef_rLen1 (m : MethodId) (x0 : Addr) : entryFrame m #[(.ref x0)] 1 = mkF m 0 #[.val (.ref x0)] [] := by first | (simp [entryFrame, mkF, argsToLocals, Value.category]; done) | rfl
set_option maxRecDepth 65536 in
set_option maxHeartbeats 40000000 in
theorem rLen1 (l : Launch) (Z : State) (aa : Array Value) (hw : ∀ d ∈ tables_1, d.before aa Z = true) (ws : List Jvm.Cond) (a0 : Addr) (G1 : Int32) (v0 : Addr) (y0 : Int32) (y1 : Int32) (y2 : Int32) (y3 : Int32) (y4 : Int32) (y5 : Int32) (y6 : Int32) (y7 : Int32) (y8 : Int32) (y9 : Int32) (y10 : Int32) (y11 : Int32) (h0 : Heap) (qa : Exa Z h0 a0 "java/lang/String") (qd : Fld Z h0 a0 "java/lang/String" "coder" "B" (.int (1 : Int32))) (qb : Fld Z h0 a0 "java/lang/String" "value" "[B" (.ref v0)) (qc : Av Z h0 v0 .byte [(.int y0), (.int y1), (.int y2), (.int y3), (.int y4), (.int y5), (.int y6), (.int y7), (.int y8), (.int y9), (.int y10), (.int y11)]) (Pcs : Sta Z h0 "java/lang/String" "COMPACT_STRINGS" "Z" (.int G1)) (P5 : ¬ G1 = (0 : Int32)) :
    Rm l Z (⟨"java/lang/String", "length", "()I"⟩ : MethodName) jdk_42_method_54_code 1 (some .int) ws ({ frames := 1, cells := 0, slots := 0, locals := 13 } : Room) #[(.ref a0)] h0 (Pu (.int (6 : Int32)) h0) := by
 refine Rm.of (plainFor_of_name pn_1) ?_
 intro p e s m below meth cc T X hnm hret hlk
 refine Go.at_ (ef_rLen1 m a0) ?_
 refine g_aloadN X d10_0 (pc' := 1) rfl rfl rfl ?_
 refine g_getfield X (host := "") (Or.inl (tb hw 46 rfl)) Via.refl qb d10_1 (pc' := 4) rfl ?_
 intro T X
 refine g_arraylength X qc d10_4 (pc' := 5) rfl (z := (12 : Int32)) rfl ?_
 refine g_aloadN X d10_5 (pc' := 6) rfl rfl rfl ?_
 refine g_virtual X (W := 1) (a := a0) (C := "java/lang/String") [] [(.int (12 : Int32))] qa (tb hw 58 rfl) (tb hw 59 rfl) (tb hw 61 rfl) (tb hw 60 rfl) (tb hw 23 rfl) (tb hw 62 rfl) (rCod1 l Z aa hw [] a0 G1 v0 y0 y1 y2 y3 y4 y5 y6 y7 y8 y9 y10 y11 _ qa qd qb qc Pcs P5) d10_6 (pc' := 9) rfl (by decide) (by decide) (by decide) rfl rfl rfl (lenOf pd_8 rfl) (Nat.le_refl _) (by decide) (by decide) ?_
 intro v T L X q
 obtain ⟨rfl, X⟩ := pureX X q
 show Go p e below _ (T.setTop (mkF m 9 _ [(.int (1 : Int32)), (.int (12 : Int32))]))
 refine g_ishr X d10_9 (pc' := 10) rfl ?_
 refine Go.lit32 (z := (6 : Int32)) (by decide) ?_
 refine g_ireturn X d10_10 hret hlk (by decide) (by decide) ?_
 exact ⟨rfl, rfl, rfl⟩
theorem d37_0 : decode jdk_52_method_6_code 0 = .ok (.aload_n 0, 1) := by decide +kernel
theorem d37_1 : decode jdk_52_method_6_code 1 = .ok (.arraylength, 1) := by decide +kernel
theorem d37_2 : decode jdk_52_method_6_code 2 = .ok (.iconst 1, 1) := by decide +kernel
theorem d37_3 : decode jdk_52_method_6_code 3 = .ok (.ishr, 1) := by decide +kernel
theorem d37_4 : decode jdk_52_method_6_code 4 = .ok (.ireturn, 1) := by decide +kernel
theorem ef_rUl (m : MethodId) (x0 : Addr) : entryFrame m #[(.ref x0)] 1 = mkF m 0 #[.val (.ref x0)] [] := by first | (simp [entryFrame, mkF, argsToLocals, Value.category]; done) | rfl
set_option maxRecDepth 65536 in
set_option maxHeartbeats 40000000 in
theorem rUl (l : Launch) (Z : State) (aa : Array Value) (hw : ∀ d ∈ tables_1, d.before aa Z = true) (ws : List Jvm.Cond) (a0 : Addr) (y0 : Int32) (y1 : Int32) (y2 : Int32) (y3 : Int32) (y4 : Int32) (y5 : Int32) (y6 : Int32) (y7 : Int32) (y8 : Int32) (y9 : Int32) (y10 : Int32) (y11 : Int32) (h0 : Heap) (qa : Av Z h0 a0 .byte [(.int y0), (.int y1), (.int y2), (.int y3), (.int y4), (.int y5), (.int y6), (.int y7), (.int y8), (.int y9), (.int y10), (.int y11)]) :
    Rm l Z (⟨"java/lang/StringUTF16", "length", "([B)I"⟩ : MethodName) jdk_52_method_6_code 1 (some .int) ws ({ frames := 0, cells := 0, slots := 0, locals := 0 } : Room) #[(.ref a0)] h0 (Pu (.int (6 : Int32)) h0) := by
 refine Rm.of (plainFor_of_name pn_0) ?_
 intro p e s m below meth cc T X hnm hret hlk
 refine Go.at_ (ef_rUl m a0) ?_
 refine g_aloadN X d37_0 (pc' := 1) rfl rfl rfl ?_
 refine g_arraylength X qa d37_1 (pc' := 2) rfl (z := (12 : Int32)) rfl ?_
 refine g_iconst X (1 : Int32) d37_2 (pc' := 3) rfl rfl ?_
 refine g_ishr X d37_3 (pc' := 4) rfl ?_
 refine Go.lit32 (z := (6 : Int32)) (by decide) ?_
 refine g_ireturn X d37_4 hret hlk (by decide) (by decide) ?_
 exact ⟨rfl, rfl, rfl⟩
theorem pn_2 : plainName "jdk/internal/util/Preconditions" = true := by first | (simp [plainName, overriddenIn]; done) | decide +kernel
theorem d21_0 : decode jdk_41_method_13_code 0 = .ok (.iload_n 2, 1) := by decide +kernel
theorem d21_1 : decode jdk_41_method_13_code 1 = .ok (.iload_n 0, 1) := by decide +kernel
theorem d21_2 : decode jdk_41_method_13_code 2 = .ok (.ior, 1) := by decide +kernel
theorem d21_3 : decode jdk_41_method_13_code 3 = .ok (.iload_n 1, 1) := by decide +kernel
theorem d21_4 : decode jdk_41_method_13_code 4 = .ok (.ior, 1) := by decide +kernel
theorem d21_5 : decode jdk_41_method_13_code 5 = .ok (.ifCond .lt 10, 3) := by decide +kernel
theorem d21_8 : decode jdk_41_method_13_code 8 = .ok (.iload_n 1, 1) := by decide +kernel
theorem d21_9 : decode jdk_41_method_13_code 9 = .ok (.iload_n 2, 1) := by decide +kernel
theorem d21_10 : decode jdk_41_method_13_code 10 = .ok (.iload_n 0, 1) := by decide +kernel
theorem d21_11 : decode jdk_41_method_13_code 11 = .ok (.isub, 1) := by decide +kernel
theorem d21_12 : decode jdk_41_method_13_code 12 = .ok (.if_icmp .le 11, 3) := by decide +kernel
theorem d21_23 : decode jdk_41_method_13_code 23 = .ok (.iload_n 0, 1) := by decide +kernel
theorem d21_24 : decode jdk_41_method_13_code 24 = .ok (.ireturn, 1) := by decide +kernel
theorem ef_rCfiN (m : MethodId) (x0 : Int32) (x1 : Int32) (x2 : Int32) : entryFrame m #[(.int x0), (.int x1), (.int x2), .null] 4 = mkF m 0 #[.val (.int x0), .val (.int x1), .val (.int x2), .val .null] [] := by first | (simp [entryFrame, mkF, argsToLocals, Value.category]; done) | rfl
set_option maxRecDepth 65536 in
set_option maxHeartbeats 40000000 in
theorem rCfiN (l : Launch) (Z : State) (aa : Array Value) (hw : ∀ d ∈ tables_1, d.before aa Z = true) (ws : List Jvm.Cond) (i2 : Int32) (h0 : Heap) (p1 : ¬ ((i2 ||| (0 : Int32)) ||| (6 : Int32)) < (0 : Int32)) (p2 : ¬ (i2 - (0 : Int32)) < (6 : Int32)) :
    Rm l Z (⟨"jdk/internal/util/Preconditions", "checkFromIndexSize", "(IIILjava/util/function/BiFunction;)I"⟩ : MethodName) jdk_41_method_13_code 4 (some .int) ws ({ frames := 0, cells := 0, slots := 0, locals := 0 } : Room) #[(.int (0 : Int32)), (.int (6 : Int32)), (.int i2), .null] h0 (Pu (.int (0 : Int32)) h0) := by
 refine Rm.of (plainFor_of_name pn_2) ?_
 intro p e s m below meth cc T X hnm hret hlk
 refine Go.at_ (ef_rCfiN m (0 : Int32) (6 : Int32) i2) ?_
 refine g_iloadN X d21_0 (pc' := 1) rfl rfl ?_
 refine g_iloadN X d21_1 (pc' := 2) rfl rfl ?_
 refine g_ior X d21_2 (pc' := 3) rfl ?_
 refine g_iloadN X d21_3 (pc' := 4) rfl rfl ?_
 refine g_ior X d21_4 (pc' := 5) rfl ?_
 refine g_ifN X d21_5 ((if0 _ _).trans (flt (show ¬ (((i2 ||| (0 : Int32)) ||| (6 : Int32)) < (0 : Int32)) from p1)).1) (pc' := 8) rfl ?_
 refine g_iloadN X d21_8 (pc' := 9) rfl rfl ?_
 refine g_iloadN X d21_9 (pc' := 10) rfl rfl ?_
 refine g_iloadN X d21_10 (pc' := 11) rfl rfl ?_
 refine g_isub X d21_11 (pc' := 12) rfl ?_
 refine g_icY X d21_12 (flt (show ¬ ((i2 - (0 : Int32)) < (6 : Int32)) from p2)).2.2.2 (pc' := 23) (by decide) (by decide) ?_
 refine g_iloadN X d21_23 (pc' := 24) rfl rfl ?_
 refine g_ireturn X d21_24 hret hlk (by decide) (by decide) ?_
 exact ⟨rfl, rfl, rfl⟩
theorem ef_rCflN (m : MethodId) (x0 : Int32) (x1 : Int32) (x2 : Int32) : entryFrame m #[(.int x0), (.int x1), (.int x2), .null] 4 = mkF m 0 #[.val (.int x0), .val (.int x1), .val (.int x2), .val .null] [] := by first | (simp [entryFrame, mkF, argsToLocals, Value.category]; done) | rfl
set_option maxRecDepth 65536 in
set_option maxHeartbeats 40000000 in
theorem rCflN (l : Launch) (Z : State) (aa : Array Value) (hw : ∀ d ∈ tables_1, d.before aa Z = true) (ws : List Jvm.Cond)  (h0 : Heap) :
    Rm l Z (⟨"jdk/internal/util/Preconditions", "checkFromIndexSize", "(IIILjava/util/function/BiFunction;)I"⟩ : MethodName) jdk_41_method_13_code 4 (some .int) ws ({ frames := 0, cells := 0, slots := 0, locals := 0 } : Room) #[(.int (0 : Int32)), (.int (6 : Int32)), (.int (6 : Int32)), .null] h0 (Pu (.int (0 : Int32)) h0) := by
 refine Rm.of (plainFor_of_name pn_2) ?_
 intro p e s m below meth cc T X hnm hret hlk
 refine Go.at_ (ef_rCflN m (0 : Int32) (6 : Int32) (6 : Int32)) ?_
 refine g_iloadN X d21_0 (pc' := 1) rfl rfl ?_
 refine g_iloadN X d21_1 (pc' := 2) rfl rfl ?_
 refine g_ior X d21_2 (pc' := 3) rfl ?_
 refine Go.lit32 (z := (6 : Int32)) (by decide) ?_
 refine g_iloadN X d21_3 (pc' := 4) rfl rfl ?_
 refine g_ior X d21_4 (pc' := 5) rfl ?_
 refine Go.lit32 (z := (6 : Int32)) (by decide) ?_
 refine g_ifN X d21_5 ((if0 _ _).trans (flt (show ¬ ((6 : Int32) < (0 : Int32)) from (by decide))).1) (pc' := 8) rfl ?_
 refine g_iloadN X d21_8 (pc' := 9) rfl rfl ?_
 refine g_iloadN X d21_9 (pc' := 10) rfl rfl ?_
 refine g_iloadN X d21_10 (pc' := 11) rfl rfl ?_
 refine g_isub X d21_11 (pc' := 12) rfl ?_
 refine Go.lit32 (z := (6 : Int32)) (by decide) ?_
 refine g_icY X d21_12 (flt (show ¬ ((6 : Int32) < (6 : Int32)) from (by decide))).2.2.2 (pc' := 23) (by decide) (by decide) ?_
 refine g_iloadN X d21_23 (pc' := 24) rfl rfl ?_
 refine g_ireturn X d21_24 hret hlk (by decide) (by decide) ?_
 exact ⟨rfl, rfl, rfl⟩
theorem d20_0 : decode jdk_42_method_157_code 0 = .ok (.iload_n 0, 1) := by decide +kernel
theorem d20_1 : decode jdk_42_method_157_code 1 = .ok (.iload_n 1, 1) := by decide +kernel
theorem d20_2 : decode jdk_42_method_157_code 2 = .ok (.iload_n 2, 1) := by decide +kernel
theorem d20_3 : decode jdk_42_method_157_code 3 = .ok (.getstatic 1053, 3) := by decide +kernel
theorem d20_6 : decode jdk_42_method_157_code 6 = .ok (.invokestatic 1065, 3) := by decide +kernel
theorem pd_9 : parseMethodDescriptor "(IIILjava/util/function/BiFunction;)I" = some ⟨[.int, .int, .int, (.object "java/util/function/BiFunction")], some .int⟩ := by decide +kernel
theorem d20_9 : decode jdk_42_method_157_code 9 = .ok (.ireturn, 1) := by decide +kernel
theorem ef_rCboN (m : MethodId) (x0 : Int32) (x1 : Int32) (x2 : Int32) : entryFrame m #[(.int x0), (.int x1), (.int x2)] 3 = mkF m 0 #[.val (.int x0), .val (.int x1), .val (.int x2)] [] := by first | (simp [entryFrame, mkF, argsToLocals, Value.category]; done) | rfl
set_option maxRecDepth 65536 in
set_option maxHeartbeats 40000000 in
theorem rCboN (l : Launch) (Z : State) (aa : Array Value) (hw : ∀ d ∈ tables_1, d.before aa Z = true) (ws : List Jvm.Cond) (i2 : Int32) (h0 : Heap) (p1 : ¬ ((i2 ||| (0 : Int32)) ||| (6 : Int32)) < (0 : Int32)) (p2 : ¬ (i2 - (0 : Int32)) < (6 : Int32)) (Psf : Sta Z h0 "jdk/internal/util/Preconditions" "SIOOBE_FORMATTER" "Ljava/util/function/BiFunction;" .null) :
    Rm l Z (⟨"java/lang/String", "checkBoundsOffCount", "(III)I"⟩ : MethodName) jdk_42_method_157_code 3 (some .int) ws ({ frames := 1, cells := 0, slots := 0, locals := 15 } : Room) #[(.int (0 : Int32)), (.int (6 : Int32)), (.int i2)] h0 (Pu (.int (0 : Int32)) h0) := by
 refine Rm.of (plainFor_of_name pn_1) ?_
 intro p e s m below meth cc T X hnm hret hlk
 refine Go.at_ (ef_rCboN m (0 : Int32) (6 : Int32) i2) ?_
 refine g_iloadN X d20_0 (pc' := 1) rfl rfl ?_
 refine g_iloadN X d20_1 (pc' := 2) rfl rfl ?_
 refine g_iloadN X d20_2 (pc' := 3) rfl rfl ?_
 refine g_getstatic X (host := "") (Or.inl (tb hw 99 rfl)) Via.refl Psf d20_3 (pc' := 6) rfl ?_
 intro T X
 refine g_static X (W := 0) [(.int (0 : Int32)), (.int (6 : Int32)), (.int i2), .null] [] (tb hw 107 rfl) (tb hw 108 rfl) (tb hw 100 rfl) (tb hw 109 rfl) (rCfiN l Z aa hw [] i2 _ p1 p2) d20_6 (pc' := 9) rfl (by decide) (by decide) (by decide) rfl rfl rfl (lenOf pd_9 rfl) (Nat.le_refl _) (by decide) (by decide) ?_
 intro v T L X q
 obtain ⟨rfl, X⟩ := pureX X q
 show Go p e below _ (T.setTop (mkF m 9 _ [(.int (0 : Int32))]))
 refine g_ireturn X d20_9 hret hlk (by decide) (by decide) ?_
 exact ⟨rfl, rfl, rfl⟩
theorem ef_rCblN (m : MethodId) (x0 : Int32) (x1 : Int32) (x2 : Int32) : entryFrame m #[(.int x0), (.int x1), (.int x2)] 3 = mkF m 0 #[.val (.int x0), .val (.int x1), .val (.int x2)] [] := by first | (simp [entryFrame, mkF, argsToLocals, Value.category]; done) | rfl
set_option maxRecDepth 65536 in
set_option maxHeartbeats 40000000 in
theorem rCblN (l : Launch) (Z : State) (aa : Array Value) (hw : ∀ d ∈ tables_1, d.before aa Z = true) (ws : List Jvm.Cond)  (h0 : Heap) (Psf : Sta Z h0 "jdk/internal/util/Preconditions" "SIOOBE_FORMATTER" "Ljava/util/function/BiFunction;" .null) :
    Rm l Z (⟨"java/lang/String", "checkBoundsOffCount", "(III)I"⟩ : MethodName) jdk_42_method_157_code 3 (some .int) ws ({ frames := 1, cells := 0, slots := 0, locals := 15 } : Room) #[(.int (0 : Int32)), (.int (6 : Int32)), (.int (6 : Int32))] h0 (Pu (.int (0 : Int32)) h0) := by
 refine Rm.of (plainFor_of_name pn_1) ?_
 intro p e s m below meth cc T X hnm hret hlk
 refine Go.at_ (ef_rCblN m (0 : Int32) (6 : Int32) (6 : Int32)) ?_
 refine g_iloadN X d20_0 (pc' := 1) rfl rfl ?_
 refine g_iloadN X d20_1 (pc' := 2) rfl rfl ?_
 refine g_iloadN X d20_2 (pc' := 3) rfl rfl ?_
 refine g_getstatic X (host := "") (Or.inl (tb hw 99 rfl)) Via.refl Psf d20_3 (pc' := 6) rfl ?_
 intro T X
 refine g_static X (W := 0) [(.int (0 : Int32)), (.int (6 : Int32)), (.int (6 : Int32)), .null] [] (tb hw 107 rfl) (tb hw 108 rfl) (tb hw 100 rfl) (tb hw 109 rfl) (rCflN l Z aa hw []  _) d20_6 (pc' := 9) rfl (by decide) (by decide) (by decide) rfl rfl rfl (lenOf pd_9 rfl) (Nat.le_refl _) (by decide) (by decide) ?_
 intro v T L X q
 obtain ⟨rfl, X⟩ := pureX X q
 show Go p e below _ (T.setTop (mkF m 9 _ [(.int (0 : Int32))]))
 refine g_ireturn X d20_9 hret hlk (by decide) (by decide) ?_
 exact ⟨rfl, rfl, rfl⟩
theorem d19_0 : decode jdk_41_method_12_code 0 = .ok (.iload_n 0, 1) := by decide +kernel
theorem d19_1 : decode jdk_41_method_12_code 1 = .ok (.ifCond .lt 13, 3) := by decide +kernel
theorem d19_4 : decode jdk_41_method_12_code 4 = .ok (.iload_n 0, 1) := by decide +kernel
theorem d19_5 : decode jdk_41_method_12_code 5 = .ok (.iload_n 1, 1) := by decide +kernel
theorem d19_6 : decode jdk_41_method_12_code 6 = .ok (.if_icmp .gt 8, 3) := by decide +kernel
theorem d19_9 : decode jdk_41_method_12_code 9 = .ok (.iload_n 1, 1) := by decide +kernel
theorem d19_10 : decode jdk_41_method_12_code 10 = .ok (.iload_n 2, 1) := by decide +kernel
theorem d19_11 : decode jdk_41_method_12_code 11 = .ok (.if_icmp .le 11, 3) := by decide +kernel
theorem d19_22 : decode jdk_41_method_12_code 22 = .ok (.iload_n 0, 1) := by decide +kernel
theorem d19_23 : decode jdk_41_method_12_code 23 = .ok (.ireturn, 1) := by decide +kernel
theorem ef_rCftN (m : MethodId) (x0 : Int32) (x1 : Int32) (x2 : Int32) : entryFrame m #[(.int x0), (.int x1), (.int x2), .null] 4 = mkF m 0 #[.val (.int x0), .val (.int x1), .val (.int x2), .val .null] [] := by first | (simp [entryFrame, mkF, argsToLocals, Value.category]; done) | rfl
set_option maxRecDepth 65536 in
set_option maxHeartbeats 40000000 in
theorem rCftN (l : Launch) (Z : State) (aa : Array Value) (hw : ∀ d ∈ tables_1, d.before aa Z = true) (ws : List Jvm.Cond)  (h0 : Heap) :
    Rm l Z (⟨"jdk/internal/util/Preconditions", "checkFromToIndex", "(IIILjava/util/function/BiFunction;)I"⟩ : MethodName) jdk_41_method_12_code 4 (some .int) ws ({ frames := 0, cells := 0, slots := 0, locals := 0 } : Room) #[(.int (0 : Int32)), (.int (6 : Int32)), (.int (6 : Int32)), .null] h0 (Pu (.int (0 : Int32)) h0) := by
 refine Rm.of (plainFor_of_name pn_2) ?_
 intro p e s m below meth cc T X hnm hret hlk
 refine Go.at_ (ef_rCftN m (0 : Int32) (6 : Int32) (6 : Int32)) ?_
 refine g_iloadN X d19_0 (pc' := 1) rfl rfl ?_
 refine g_ifN X d19_1 ((if0 _ _).trans (flt (show ¬ ((0 : Int32) < (0 : Int32)) from (by decide))).1) (pc' := 4) rfl ?_
 refine g_iloadN X d19_4 (pc' := 5) rfl rfl ?_
 refine g_iloadN X d19_5 (pc' := 6) rfl rfl ?_
 refine g_icN X d19_6 (flt (show ¬ ((6 : Int32) < (0 : Int32)) from (by decide))).2.2.1 (pc' := 9) rfl ?_
 refine g_iloadN X d19_9 (pc' := 10) rfl rfl ?_
 refine g_iloadN X d19_10 (pc' := 11) rfl rfl ?_
 refine g_icY X d19_11 (flt (show ¬ ((6 : Int32) < (6 : Int32)) from (by decide))).2.2.2 (pc' := 22) (by decide) (by decide) ?_
 refine g_iloadN X d19_22 (pc' := 23) rfl rfl ?_
 refine g_ireturn X d19_23 hret hlk (by decide) (by decide) ?_
 exact ⟨rfl, rfl, rfl⟩
theorem d18_0 : decode jdk_42_method_158_code 0 = .ok (.iload_n 0, 1) := by decide +kernel
theorem d18_1 : decode jdk_42_method_158_code 1 = .ok (.iload_n 1, 1) := by decide +kernel
theorem d18_2 : decode jdk_42_method_158_code 2 = .ok (.iload_n 2, 1) := by decide +kernel
theorem d18_3 : decode jdk_42_method_158_code 3 = .ok (.getstatic 1053, 3) := by decide +kernel
theorem d18_6 : decode jdk_42_method_158_code 6 = .ok (.invokestatic 1062, 3) := by decide +kernel
theorem d18_9 : decode jdk_42_method_158_code 9 = .ok (.pop, 1) := by decide +kernel
theorem d18_10 : decode jdk_42_method_158_code 10 = .ok (.return_, 1) := by decide +kernel
theorem ef_rCbeN (m : MethodId) (x0 : Int32) (x1 : Int32) (x2 : Int32) : entryFrame m #[(.int x0), (.int x1), (.int x2)] 3 = mkF m 0 #[.val (.int x0), .val (.int x1), .val (.int x2)] [] := by first | (simp [entryFrame, mkF, argsToLocals, Value.category]; done) | rfl
set_option maxRecDepth 65536 in
set_option maxHeartbeats 40000000 in
theorem rCbeN (l : Launch) (Z : State) (aa : Array Value) (hw : ∀ d ∈ tables_1, d.before aa Z = true) (ws : List Jvm.Cond)  (h0 : Heap) (Psf : Sta Z h0 "jdk/internal/util/Preconditions" "SIOOBE_FORMATTER" "Ljava/util/function/BiFunction;" .null) :
    Rm l Z (⟨"java/lang/String", "checkBoundsBeginEnd", "(III)V"⟩ : MethodName) jdk_42_method_158_code 3 none ws ({ frames := 1, cells := 0, slots := 0, locals := 15 } : Room) #[(.int (0 : Int32)), (.int (6 : Int32)), (.int (6 : Int32))] h0 (PuV h0) := by
 refine Rm.of (plainFor_of_name pn_1) ?_
 intro p e s m below meth cc T X hnm hret hlk
 refine Go.at_ (ef_rCbeN m (0 : Int32) (6 : Int32) (6 : Int32)) ?_
 refine g_iloadN X d18_0 (pc' := 1) rfl rfl ?_
 refine g_iloadN X d18_1 (pc' := 2) rfl rfl ?_
 refine g_iloadN X d18_2 (pc' := 3) rfl rfl ?_
 refine g_getstatic X (host := "") (Or.inl (tb hw 99 rfl)) Via.refl Psf d18_3 (pc' := 6) rfl ?_
 intro T X
 refine g_static X (W := 0) [(.int (0 : Int32)), (.int (6 : Int32)), (.int (6 : Int32)), .null] [] (tb hw 101 rfl) (tb hw 102 rfl) (tb hw 100 rfl) (tb hw 103 rfl) (rCftN l Z aa hw []  _) d18_6 (pc' := 9) rfl (by decide) (by decide) (by decide) rfl rfl rfl (lenOf pd_9 rfl) (Nat.le_refl _) (by decide) (by decide) ?_
 intro v T L X q
 obtain ⟨rfl, X⟩ := pureX X q
 show Go p e below _ (T.setTop (mkF m 9 _ [(.int (0 : Int32))]))
 refine g_pop X d18_9 (pc' := 10) rfl rfl ?_
 refine g_return X d18_10 hret hlk (by decide) (by decide) ?_
 exact ⟨rfl, rfl, rfl⟩
theorem ef_rCfiR (m : MethodId) (x0 : Int32) (x1 : Int32) (x2 : Int32) (x3 : Addr) : entryFrame m #[(.int x0), (.int x1), (.int x2), (.ref x3)] 4 = mkF m 0 #[.val (.int x0), .val (.int x1), .val (.int x2), .val (.ref x3)] [] := by first | (simp [entryFrame, mkF, argsToLocals, Value.category]; done) | rfl
set_option maxRecDepth 65536 in
set_option maxHeartbeats 40000000 in
theorem rCfiR (l : Launch) (Z : State) (aa : Array Value) (hw : ∀ d ∈ tables_1, d.before aa Z = true) (ws : List Jvm.Cond) (i2 : Int32) (gf : Addr) (h0 : Heap) (p1 : ¬ ((i2 ||| (0 : Int32)) ||| (6 : Int32)) < (0 : Int32)) (p2 : ¬ (i2 - (0 : Int32)) < (6 : Int32)) :
    Rm l Z (⟨"jdk/internal/util/Preconditions", "checkFromIndexSize", "(IIILjava/util/function/BiFunction;)I"⟩ : MethodName) jdk_41_method_13_code 4 (some .int) ws ({ frames := 0, cells := 0, slots := 0, locals := 0 } : Room) #[(.int (0 : Int32)), (.int (6 : Int32)), (.int i2), (.ref gf)] h0 (Pu (.int (0 : Int32)) h0) := by
 refine Rm.of (plainFor_of_name pn_2) ?_
 intro p e s m below meth cc T X hnm hret hlk
 refine Go.at_ (ef_rCfiR m (0 : Int32) (6 : Int32) i2 gf) ?_
 refine g_iloadN X d21_0 (pc' := 1) rfl rfl ?_
 refine g_iloadN X d21_1 (pc' := 2) rfl rfl ?_
 refine g_ior X d21_2 (pc' := 3) rfl ?_
 refine g_iloadN X d21_3 (pc' := 4) rfl rfl ?_
 refine g_ior X d21_4 (pc' := 5) rfl ?_
 refine g_ifN X d21_5 ((if0 _ _).trans (flt (show ¬ (((i2 ||| (0 : Int32)) ||| (6 : Int32)) < (0 : Int32)) from p1)).1) (pc' := 8) rfl ?_
 refine g_iloadN X d21_8 (pc' := 9) rfl rfl ?_
 refine g_iloadN X d21_9 (pc' := 10) rfl rfl ?_
 refine g_iloadN X d21_10 (pc' := 11) rfl rfl ?_
 refine g_isub X d21_11 (pc' := 12) rfl ?_
 refine g_icY X d21_12 (flt (show ¬ ((i2 - (0 : Int32)) < (6 : Int32)) from p2)).2.2.2 (pc' := 23) (by decide) (by decide) ?_
 refine g_iloadN X d21_23 (pc' := 24) rfl rfl ?_
 refine g_ireturn X d21_24 hret hlk (by decide) (by decide) ?_
 exact ⟨rfl, rfl, rfl⟩
theorem ef_rCflR (m : MethodId) (x0 : Int32) (x1 : Int32) (x2 : Int32) (x3 : Addr) : entryFrame m #[(.int x0), (.int x1), (.int x2), (.ref x3)] 4 = mkF m 0 #[.val (.int x0), .val (.int x1), .val (.int x2), .val (.ref x3)] [] := by first | (simp [entryFrame, mkF, argsToLocals, Value.category]; done) | rfl
set_option maxRecDepth 65536 in
set_option maxHeartbeats 40000000 in
theorem rCflR (l : Launch) (Z : State) (aa : Array Value) (hw : ∀ d ∈ tables_1, d.before aa Z = true) (ws : List Jvm.Cond) (gf : Addr) (h0 : Heap) :
    Rm l Z (⟨"jdk/internal/util/Preconditions", "checkFromIndexSize", "(IIILjava/util/function/BiFunction;)I"⟩ : MethodName) jdk_41_method_13_code 4 (some .int) ws ({ frames := 0, cells := 0, slots := 0, locals := 0 } : Room) #[(.int (0 : Int32)), (.int (6 : Int32)), (.int (6 : Int32)), (.ref gf)] h0 (Pu (.int (0 : Int32)) h0) := by
 refine Rm.of (plainFor_of_name pn_2) ?_
 intro p e s m below meth cc T X hnm hret hlk
 refine Go.at_ (ef_rCflR m (0 : Int32) (6 : Int32) (6 : Int32) gf) ?_
 refine g_iloadN X d21_0 (pc' := 1) rfl rfl ?_
 refine g_iloadN X d21_1 (pc' := 2) rfl rfl ?_
 refine g_ior X d21_2 (pc' := 3) rfl ?_
 refine Go.lit32 (z := (6 : Int32)) (by decide) ?_
 refine g_iloadN X d21_3 (pc' := 4) rfl rfl ?_
 refine g_ior X d21_4 (pc' := 5) rfl ?_
 refine Go.lit32 (z := (6 : Int32)) (by decide) ?_
 refine g_ifN X d21_5 ((if0 _ _).trans (flt (show ¬ ((6 : Int32) < (0 : Int32)) from (by decide))).1) (pc' := 8) rfl ?_
 refine g_iloadN X d21_8 (pc' := 9) rfl rfl ?_
 refine g_iloadN X d21_9 (pc' := 10) rfl rfl ?_
 refine g_iloadN X d21_10 (pc' := 11) rfl rfl ?_
 refine g_isub X d21_11 (pc' := 12) rfl ?_
 refine Go.lit32 (z := (6 : Int32)) (by decide) ?_
 refine g_icY X d21_12 (flt (show ¬ ((6 : Int32) < (6 : Int32)) from (by decide))).2.2.2 (pc' := 23) (by decide) (by decide) ?_
 refine g_iloadN X d21_23 (pc' := 24) rfl rfl ?_
 refine g_ireturn X d21_24 hret hlk (by decide) (by decide) ?_
 exact ⟨rfl, rfl, rfl⟩
theorem ef_rCboR (m : MethodId) (x0 : Int32) (x1 : Int32) (x2 : Int32) : entryFrame m #[(.int x0), (.int x1), (.int x2)] 3 = mkF m 0 #[.val (.int x0), .val (.int x1), .val (.int x2)] [] := by first | (simp [entryFrame, mkF, argsToLocals, Value.category]; done) | rfl
set_option maxRecDepth 65536 in
set_option maxHeartbeats 40000000 in
theorem rCboR (l : Launch) (Z : State) (aa : Array Value) (hw : ∀ d ∈ tables_1, d.before aa Z = true) (ws : List Jvm.Cond) (i2 : Int32) (gf : Addr) (h0 : Heap) (p1 : ¬ ((i2 ||| (0 : Int32)) ||| (6 : Int32)) < (0 : Int32)) (p2 : ¬ (i2 - (0 : Int32)) < (6 : Int32)) (Psf : Sta Z h0 "jdk/internal/util/Preconditions" "SIOOBE_FORMATTER" "Ljava/util/function/BiFunction;" (.ref gf)) :
    Rm l Z (⟨"java/lang/String", "checkBoundsOffCount", "(III)I"⟩ : MethodName) jdk_42_method_157_code 3 (some .int) ws ({ frames := 1, cells := 0, slots := 0, locals := 15 } : Room) #[(.int (0 : Int32)), (.int (6 : Int32)), (.int i2)] h0 (Pu (.int (0 : Int32)) h0) := by
 refine Rm.of (plainFor_of_name pn_1) ?_
 intro p e s m below meth cc T X hnm hret hlk
 refine Go.at_ (ef_rCboR m (0 : Int32) (6 : Int32) i2) ?_
 refine g_iloadN X d20_0 (pc' := 1) rfl rfl ?_
 refine g_iloadN X d20_1 (pc' := 2) rfl rfl ?_
 refine g_iloadN X d20_2 (pc' := 3) rfl rfl ?_
 refine g_getstatic X (host := "") (Or.inl (tb hw 99 rfl)) Via.refl Psf d20_3 (pc' := 6) rfl ?_
 intro T X
 refine g_static X (W := 0) [(.int (0 : Int32)), (.int (6 : Int32)), (.int i2), (.ref gf)] [] (tb hw 107 rfl) (tb hw 108 rfl) (tb hw 100 rfl) (tb hw 109 rfl) (rCfiR l Z aa hw [] i2 gf _ p1 p2) d20_6 (pc' := 9) rfl (by decide) (by decide) (by decide) rfl rfl rfl (lenOf pd_9 rfl) (Nat.le_refl _) (by decide) (by decide) ?_
 intro v T L X q
 obtain ⟨rfl, X⟩ := pureX X q
 show Go p e below _ (T.setTop (mkF m 9 _ [(.int (0 : Int32))]))
 refine g_ireturn X d20_9 hret hlk (by decide) (by decide) ?_
 exact ⟨rfl, rfl, rfl⟩
theorem ef_rCblR (m : MethodId) (x0 : Int32) (x1 : Int32) (x2 : Int32) : entryFrame m #[(.int x0), (.int x1), (.int x2)] 3 = mkF m 0 #[.val (.int x0), .val (.int x1), .val (.int x2)] [] := by first | (simp [entryFrame, mkF, argsToLocals, Value.category]; done) | rfl
set_option maxRecDepth 65536 in
set_option maxHeartbeats 40000000 in
theorem rCblR (l : Launch) (Z : State) (aa : Array Value) (hw : ∀ d ∈ tables_1, d.before aa Z = true) (ws : List Jvm.Cond) (gf : Addr) (h0 : Heap) (Psf : Sta Z h0 "jdk/internal/util/Preconditions" "SIOOBE_FORMATTER" "Ljava/util/function/BiFunction;" (.ref gf)) :
    Rm l Z (⟨"java/lang/String", "checkBoundsOffCount", "(III)I"⟩ : MethodName) jdk_42_method_157_code 3 (some .int) ws ({ frames := 1, cells := 0, slots := 0, locals := 15 } : Room) #[(.int (0 : Int32)), (.int (6 : Int32)), (.int (6 : Int32))] h0 (Pu (.int (0 : Int32)) h0) := by
 refine Rm.of (plainFor_of_name pn_1) ?_
 intro p e s m below meth cc T X hnm hret hlk
 refine Go.at_ (ef_rCblR m (0 : Int32) (6 : Int32) (6 : Int32)) ?_
 refine g_iloadN X d20_0 (pc' := 1) rfl rfl ?_
 refine g_iloadN X d20_1 (pc' := 2) rfl rfl ?_
 refine g_iloadN X d20_2 (pc' := 3) rfl rfl ?_
 refine g_getstatic X (host := "") (Or.inl (tb hw 99 rfl)) Via.refl Psf d20_3 (pc' := 6) rfl ?_
 intro T X
 refine g_static X (W := 0) [(.int (0 : Int32)), (.int (6 : Int32)), (.int (6 : Int32)), (.ref gf)] [] (tb hw 107 rfl) (tb hw 108 rfl) (tb hw 100 rfl) (tb hw 109 rfl) (rCflR l Z aa hw [] gf _) d20_6 (pc' := 9) rfl (by decide) (by decide) (by decide) rfl rfl rfl (lenOf pd_9 rfl) (Nat.le_refl _) (by decide) (by decide) ?_
 intro v T L X q
 obtain ⟨rfl, X⟩ := pureX X q
 show Go p e below _ (T.setTop (mkF m 9 _ [(.int (0 : Int32))]))
 refine g_ireturn X d20_9 hret hlk (by decide) (by decide) ?_
 exact ⟨rfl, rfl, rfl⟩
theorem ef_rCftR (m : MethodId) (x0 : Int32) (x1 : Int32) (x2 : Int32) (x3 : Addr) : entryFrame m #[(.int x0), (.int x1), (.int x2), (.ref x3)] 4 = mkF m 0 #[.val (.int x0), .val (.int x1), .val (.int x2), .val (.ref x3)] [] := by first | (simp [entryFrame, mkF, argsToLocals, Value.category]; done) | rfl
set_option maxRecDepth 65536 in
set_option maxHeartbeats 40000000 in
theorem rCftR (l : Launch) (Z : State) (aa : Array Value) (hw : ∀ d ∈ tables_1, d.before aa Z = true) (ws : List Jvm.Cond) (gf : Addr) (h0 : Heap) :
    Rm l Z (⟨"jdk/internal/util/Preconditions", "checkFromToIndex", "(IIILjava/util/function/BiFunction;)I"⟩ : MethodName) jdk_41_method_12_code 4 (some .int) ws ({ frames := 0, cells := 0, slots := 0, locals := 0 } : Room) #[(.int (0 : Int32)), (.int (6 : Int32)), (.int (6 : Int32)), (.ref gf)] h0 (Pu (.int (0 : Int32)) h0) := by
 refine Rm.of (plainFor_of_name pn_2) ?_
 intro p e s m below meth cc T X hnm hret hlk
 refine Go.at_ (ef_rCftR m (0 : Int32) (6 : Int32) (6 : Int32) gf) ?_
 refine g_iloadN X d19_0 (pc' := 1) rfl rfl ?_
 refine g_ifN X d19_1 ((if0 _ _).trans (flt (show ¬ ((0 : Int32) < (0 : Int32)) from (by decide))).1) (pc' := 4) rfl ?_
 refine g_iloadN X d19_4 (pc' := 5) rfl rfl ?_
 refine g_iloadN X d19_5 (pc' := 6) rfl rfl ?_
 refine g_icN X d19_6 (flt (show ¬ ((6 : Int32) < (0 : Int32)) from (by decide))).2.2.1 (pc' := 9) rfl ?_
 refine g_iloadN X d19_9 (pc' := 10) rfl rfl ?_
 refine g_iloadN X d19_10 (pc' := 11) rfl rfl ?_
 refine g_icY X d19_11 (flt (show ¬ ((6 : Int32) < (6 : Int32)) from (by decide))).2.2.2 (pc' := 22) (by decide) (by decide) ?_
 refine g_iloadN X d19_22 (pc' := 23) rfl rfl ?_
 refine g_ireturn X d19_23 hret hlk (by decide) (by decide) ?_
 exact ⟨rfl, rfl, rfl⟩
theorem ef_rCbeR (m : MethodId) (x0 : Int32) (x1 : Int32) (x2 : Int32) : entryFrame m #[(.int x0), (.int x1), (.int x2)] 3 = mkF m 0 #[.val (.int x0), .val (.int x1), .val (.int x2)] [] := by first | (simp [entryFrame, mkF, argsToLocals, Value.category]; done) | rfl
set_option maxRecDepth 65536 in
set_option maxHeartbeats 40000000 in
theorem rCbeR (l : Launch) (Z : State) (aa : Array Value) (hw : ∀ d ∈ tables_1, d.before aa Z = true) (ws : List Jvm.Cond) (gf : Addr) (h0 : Heap) (Psf : Sta Z h0 "jdk/internal/util/Preconditions" "SIOOBE_FORMATTER" "Ljava/util/function/BiFunction;" (.ref gf)) :
    Rm l Z (⟨"java/lang/String", "checkBoundsBeginEnd", "(III)V"⟩ : MethodName) jdk_42_method_158_code 3 none ws ({ frames := 1, cells := 0, slots := 0, locals := 15 } : Room) #[(.int (0 : Int32)), (.int (6 : Int32)), (.int (6 : Int32))] h0 (PuV h0) := by
 refine Rm.of (plainFor_of_name pn_1) ?_
 intro p e s m below meth cc T X hnm hret hlk
 refine Go.at_ (ef_rCbeR m (0 : Int32) (6 : Int32) (6 : Int32)) ?_
 refine g_iloadN X d18_0 (pc' := 1) rfl rfl ?_
 refine g_iloadN X d18_1 (pc' := 2) rfl rfl ?_
 refine g_iloadN X d18_2 (pc' := 3) rfl rfl ?_
 refine g_getstatic X (host := "") (Or.inl (tb hw 99 rfl)) Via.refl Psf d18_3 (pc' := 6) rfl ?_
 intro T X
 refine g_static X (W := 0) [(.int (0 : Int32)), (.int (6 : Int32)), (.int (6 : Int32)), (.ref gf)] [] (tb hw 101 rfl) (tb hw 102 rfl) (tb hw 100 rfl) (tb hw 103 rfl) (rCftR l Z aa hw [] gf _) d18_6 (pc' := 9) rfl (by decide) (by decide) (by decide) rfl rfl rfl (lenOf pd_9 rfl) (Nat.le_refl _) (by decide) (by decide) ?_
 intro v T L X q
 obtain ⟨rfl, X⟩ := pureX X q
 show Go p e below _ (T.setTop (mkF m 9 _ [(.int (0 : Int32))]))
 refine g_pop X d18_9 (pc' := 10) rfl rfl ?_
 refine g_return X d18_10 hret hlk (by decide) (by decide) ?_
 exact ⟨rfl, rfl, rfl⟩
theorem rCbo (l : Launch) (Z : State) (aa : Array Value) (hw : ∀ d ∈ tables_1, d.before aa Z = true) (ws : List Jvm.Cond) (i2 : Int32) (G3 : Value) (h0 : Heap) (rG3 : G3.isRef = true) (p1 : ¬ ((i2 ||| (0 : Int32)) ||| (6 : Int32)) < (0 : Int32)) (p2 : ¬ (i2 - (0 : Int32)) < (6 : Int32)) (Psf : Sta Z h0 "jdk/internal/util/Preconditions" "SIOOBE_FORMATTER" "Ljava/util/function/BiFunction;" G3) :
    Rm l Z (⟨"java/lang/String", "checkBoundsOffCount", "(III)I"⟩ : MethodName) jdk_42_method_157_code 3 (some .int) ws ({ frames := 1, cells := 0, slots := 0, locals := 15 } : Room) #[(.int (0 : Int32)), (.int (6 : Int32)), (.int i2)] h0 (Pu (.int (0 : Int32)) h0) := by
  cases G3 with
  | null => exact rCboN l Z aa hw ws i2 h0 p1 p2 Psf
  | ref gf => exact rCboR l Z aa hw ws i2 gf h0 p1 p2 Psf
  | _ => cases rG3
theorem rCbl (l : Launch) (Z : State) (aa : Array Value) (hw : ∀ d ∈ tables_1, d.before aa Z = true) (ws : List Jvm.Cond) (G3 : Value) (h0 : Heap) (rG3 : G3.isRef = true) (Psf : Sta Z h0 "jdk/internal/util/Preconditions" "SIOOBE_FORMATTER" "Ljava/util/function/BiFunction;" G3) :
    Rm l Z (⟨"java/lang/String", "checkBoundsOffCount", "(III)I"⟩ : MethodName) jdk_42_method_157_code 3 (some .int) ws ({ frames := 1, cells := 0, slots := 0, locals := 15 } : Room) #[(.int (0 : Int32)), (.int (6 : Int32)), (.int (6 : Int32))] h0 (Pu (.int (0 : Int32)) h0) := by
  cases G3 with
  | null => exact rCblN l Z aa hw ws  h0 Psf
  | ref gf => exact rCblR l Z aa hw ws gf h0 Psf
  | _ => cases rG3
theorem rCbe (l : Launch) (Z : State) (aa : Array Value) (hw : ∀ d ∈ tables_1, d.before aa Z = true) (ws : List Jvm.Cond) (G3 : Value) (h0 : Heap) (rG3 : G3.isRef = true) (Psf : Sta Z h0 "jdk/internal/util/Preconditions" "SIOOBE_FORMATTER" "Ljava/util/function/BiFunction;" G3) :
    Rm l Z (⟨"java/lang/String", "checkBoundsBeginEnd", "(III)V"⟩ : MethodName) jdk_42_method_158_code 3 none ws ({ frames := 1, cells := 0, slots := 0, locals := 15 } : Room) #[(.int (0 : Int32)), (.int (6 : Int32)), (.int (6 : Int32))] h0 (PuV h0) := by
  cases G3 with
  | null => exact rCbeN l Z aa hw ws  h0 Psf
  | ref gf => exact rCbeR l Z aa hw ws gf h0 Psf
  | _ => cases rG3
theorem d36_0 : decode jdk_52_method_94_code 0 = .ok (.iload_n 0, 1) := by decide +kernel
theorem d36_1 : decode jdk_52_method_94_code 1 = .ok (.iload_n 1, 1) := by decide +kernel
theorem d36_2 : decode jdk_52_method_94_code 2 = .ok (.aload_n 2, 1) := by decide +kernel
theorem d36_3 : decode jdk_52_method_94_code 3 = .ok (.invokestatic 48, 3) := by decide +kernel
theorem pd_10 : parseMethodDescriptor "([B)I" = some ⟨[(.array .byte)], some .int⟩ := by decide +kernel
theorem d36_6 : decode jdk_52_method_94_code 6 = .ok (.invokestatic 419, 3) := by decide +kernel
theorem pd_11 : parseMethodDescriptor "(III)I" = some ⟨[.int, .int, .int], some .int⟩ := by decide +kernel
theorem d36_9 : decode jdk_52_method_94_code 9 = .ok (.pop, 1) := by decide +kernel
theorem d36_10 : decode jdk_52_method_94_code 10 = .ok (.return_, 1) := by decide +kernel
theorem ef_rUbo (m : MethodId) (x0 : Int32) (x1 : Int32) (x2 : Addr) : entryFrame m #[(.int x0), (.int x1), (.ref x2)] 3 = mkF m 0 #[.val (.int x0), .val (.int x1), .val (.ref x2)] [] := by first | (simp [entryFrame, mkF, argsToLocals, Value.category]; done) | rfl
set_option maxRecDepth 65536 in
set_option maxHeartbeats 40000000 in
theorem rUbo (l : Launch) (Z : State) (aa : Array Value) (hw : ∀ d ∈ tables_1, d.before aa Z = true) (ws : List Jvm.Cond) (a2 : Addr) (G3 : Value) (y0 : Int32) (y1 : Int32) (y2 : Int32) (y3 : Int32) (y4 : Int32) (y5 : Int32) (y6 : Int32) (y7 : Int32) (y8 : Int32) (y9 : Int32) (y10 : Int32) (y11 : Int32) (h0 : Heap) (qa : Av Z h0 a2 .byte [(.int y0), (.int y1), (.int y2), (.int y3), (.int y4), (.int y5), (.int y6), (.int y7), (.int y8), (.int y9), (.int y10), (.int y11)]) (rG3 : G3.isRef = true) (Psf : Sta Z h0 "jdk/internal/util/Preconditions" "SIOOBE_FORMATTER" "Ljava/util/function/BiFunction;" G3) :
    Rm l Z (⟨"java/lang/StringUTF16", "checkBoundsOffCount", "(II[B)V"⟩ : MethodName) jdk_52_method_94_code 3 none ws ({ frames := 2, cells := 0, slots := 0, locals := 29 } : Room) #[(.int (0 : Int32)), (.int (6 : Int32)), (.ref a2)] h0 (PuV h0) := by
 refine Rm.of (plainFor_of_name pn_0) ?_
 intro p e s m below meth cc T X hnm hret hlk
 refine Go.at_ (ef_rUbo m (0 : Int32) (6 : Int32) a2) ?_
 refine g_iloadN X d36_0 (pc' := 1) rfl rfl ?_
 refine g_iloadN X d36_1 (pc' := 2) rfl rfl ?_
 refine g_aloadN X d36_2 (pc' := 3) rfl rfl rfl ?_
 refine g_static X (W := 2) [(.ref a2)] [(.int (6 : Int32)), (.int (0 : Int32))] (tb hw 168 rfl) (tb hw 169 rfl) (tb hw 35 rfl) (tb hw 170 rfl) (rUl l Z aa hw [] a2 y0 y1 y2 y3 y4 y5 y6 y7 y8 y9 y10 y11 _ qa) d36_3 (pc' := 6) rfl (by decide) (by decide) (by decide) rfl rfl rfl (lenOf pd_10 rfl) (Nat.le_refl _) (by decide) (by decide) ?_
 intro v T L X q
 obtain ⟨rfl, X⟩ := pureX X q
 show Go p e below _ (T.setTop (mkF m 6 _ [(.int (6 : Int32)), (.int (6 : Int32)), (.int (0 : Int32))]))
 refine g_static X (W := 0) [(.int (0 : Int32)), (.int (6 : Int32)), (.int (6 : Int32))] [] (tb hw 171 rfl) (tb hw 105 rfl) (tb hw 23 rfl) (tb hw 106 rfl) (rCbl l Z aa hw [] G3 _ rG3 Psf) d36_6 (pc' := 9) rfl (by decide) (by decide) (by decide) rfl rfl rfl (lenOf pd_11 rfl) (Nat.le_refl _) (by decide) (by decide) ?_
 intro v T L X q
 obtain ⟨rfl, X⟩ := pureX X q
 show Go p e below _ (T.setTop (mkF m 9 _ [(.int (0 : Int32))]))
 refine g_pop X d36_9 (pc' := 10) rfl rfl ?_
 refine g_return X d36_10 hret hlk (by decide) (by decide) ?_
 exact ⟨rfl, rfl, rfl⟩
theorem pn_3 : plainName "java/lang/StringLatin1" = true := by first | (simp [plainName, overriddenIn]; done) | decide +kernel
theorem d24_0 : decode jdk_43_method_49_code 0 = .ok (.iconst 0, 1) := by decide +kernel
theorem d24_1 : decode jdk_43_method_49_code 1 = .ok (.istore 5, 2) := by decide +kernel
theorem d24_3 : decode jdk_43_method_49_code 3 = .ok (.iload 5, 2) := by decide +kernel
theorem d24_5 : decode jdk_43_method_49_code 5 = .ok (.iload 4, 2) := by decide +kernel
theorem d24_7 : decode jdk_43_method_49_code 7 = .ok (.if_icmp .ge 26, 3) := by decide +kernel
theorem d24_10 : decode jdk_43_method_49_code 10 = .ok (.aload_n 2, 1) := by decide +kernel
theorem d24_11 : decode jdk_43_method_49_code 11 = .ok (.iload_n 3, 1) := by decide +kernel
theorem d24_12 : decode jdk_43_method_49_code 12 = .ok (.iinc 3 1, 3) := by decide +kernel
theorem d24_15 : decode jdk_43_method_49_code 15 = .ok (.aload_n 0, 1) := by decide +kernel
theorem d24_16 : decode jdk_43_method_49_code 16 = .ok (.iload_n 1, 1) := by decide +kernel
theorem d24_17 : decode jdk_43_method_49_code 17 = .ok (.iinc 1 1, 3) := by decide +kernel
theorem d24_20 : decode jdk_43_method_49_code 20 = .ok (.baload, 1) := by decide +kernel
theorem d24_21 : decode jdk_43_method_49_code 21 = .ok (.sipush 255, 3) := by decide +kernel
theorem d24_24 : decode jdk_43_method_49_code 24 = .ok (.iand, 1) := by decide +kernel
theorem d24_25 : decode jdk_43_method_49_code 25 = .ok (.i2c, 1) := by decide +kernel
theorem d24_26 : decode jdk_43_method_49_code 26 = .ok (.castore, 1) := by decide +kernel
theorem d24_27 : decode jdk_43_method_49_code 27 = .ok (.iinc 5 1, 3) := by decide +kernel
theorem d24_30 : decode jdk_43_method_49_code 30 = .ok (.goto (-27), 3) := by decide +kernel
theorem d24_33 : decode jdk_43_method_49_code 33 = .ok (.return_, 1) := by decide +kernel
theorem ef_rInf (m : MethodId) (x0 : Addr) (x1 : Int32) (x2 : Addr) (x3 : Int32) (x4 : Int32) : entryFrame m #[(.ref x0), (.int x1), (.ref x2), (.int x3), (.int x4)] 6 = mkF m 0 #[.val (.ref x0), .val (.int x1), .val (.ref x2), .val (.int x3), .val (.int x4), .unset] [] := by first | (simp [entryFrame, mkF, argsToLocals, Value.category]; done) | rfl
set_option maxRecDepth 65536 in
set_option maxHeartbeats 40000000 in
theorem rInf (l : Launch) (Z : State) (aa : Array Value) (hw : ∀ d ∈ tables_1, d.before aa Z = true) (ws : List Jvm.Cond) (v0 : Addr) (a3 : Addr) (y0 : Int32) (y1 : Int32) (y2 : Int32) (y3 : Int32) (y4 : Int32) (y5 : Int32) (z0 : Int32) (z1 : Int32) (z2 : Int32) (z3 : Int32) (z4 : Int32) (z5 : Int32) (tl : List Value) (h0 : Heap) (n0 : Nat) (Z0 : n0 ≤ h0.size) (qb : Av Z h0 v0 .byte [(.int y0), (.int y1), (.int y2), (.int y3), (.int y4), (.int y5)]) (qa : Av Z h0 a3 .char ((.int z0) :: (.int z1) :: (.int z2) :: (.int z3) :: (.int z4) :: (.int z5) :: tl)) (qc : n0 ≤ a3) (qe : v0 ≠ a3) (Od : Old Z n0 h0) :
    Rm l Z (⟨"java/lang/StringLatin1", "inflate", "([BI[CII)V"⟩ : MethodName) jdk_43_method_49_code 6 none ws ({ frames := 0, cells := 0, slots := 0, locals := 0 } : Room) #[(.ref v0), (.int (0 : Int32)), (.ref a3), (.int (0 : Int32)), (.int (6 : Int32))] h0 (fun v h L => v = none ∧ Fr n0 L ∧ Keep h0 h [a3] ∧ Av Z h a3 .char ((.int (nar .char ((y0 &&& (255 : Int32)).toUInt32.toUInt16.toUInt32.toInt32))) :: (.int (nar .char ((y1 &&& (255 : Int32)).toUInt32.toUInt16.toUInt32.toInt32))) :: (.int (nar .char ((y2 &&& (255 : Int32)).toUInt32.toUInt16.toUInt32.toInt32))) :: (.int (nar .char ((y3 &&& (255 : Int32)).toUInt32.toUInt16.toUInt32.toInt32))) :: (.int (nar .char ((y4 &&& (255 : Int32)).toUInt32.toUInt16.toUInt32.toInt32))) :: (.int (nar .char ((y5 &&& (255 : Int32)).toUInt32.toUInt16.toUInt32.toInt32))) :: tl)) := by
 refine Rm.of (plainFor_of_name pn_3) ?_
 intro p e s m below meth cc T X hnm hret hlk
 refine Go.at_ (ef_rInf m v0 (0 : Int32) a3 (0 : Int32) (6 : Int32)) ?_
 have N := Fr.nil n0
 have Kp := Keep.refl h0 [a3]
 refine g_iconst X (0 : Int32) d24_0 (pc' := 1) rfl rfl ?_
 refine g_istore X d24_1 (pc' := 3) (Ls' := #[.val (.ref v0), .val (.int (0 : Int32)), .val (.ref a3), .val (.int (0 : Int32)), .val (.int (6 : Int32)), .val (.int (0 : Int32))]) rfl rfl ?_
 refine g_iload X d24_3 (pc' := 5) rfl rfl ?_
 refine g_iload X d24_5 (pc' := 7) rfl rfl ?_
 refine g_icN X d24_7 (tlt (show (0 : Int32) < (6 : Int32) from (by decide))).2.1 (pc' := 10) rfl ?_
 refine g_aloadN X d24_10 (pc' := 11) rfl rfl rfl ?_
 refine g_iloadN X d24_11 (pc' := 12) rfl rfl ?_
 refine g_iinc X d24_12 (pc' := 15) (q := (1 : Int32)) (Ls' := #[.val (.ref v0), .val (.int (0 : Int32)), .val (.ref a3), .val (.int (1 : Int32)), .val (.int (6 : Int32)), .val (.int (0 : Int32))]) rfl rfl rfl rfl ?_
 refine g_aloadN X d24_15 (pc' := 16) rfl rfl rfl ?_
 refine g_iloadN X d24_16 (pc' := 17) rfl rfl ?_
 refine g_iinc X d24_17 (pc' := 20) (q := (1 : Int32)) (Ls' := #[.val (.ref v0), .val (.int (1 : Int32)), .val (.ref a3), .val (.int (1 : Int32)), .val (.int (6 : Int32)), .val (.int (0 : Int32))]) rfl rfl rfl rfl ?_
 refine g_baload X qb 0 d24_20 (pc' := 21) rfl (by decide) (by decide) rfl ?_
 refine g_sipush X (255 : Int32) d24_21 (pc' := 24) rfl rfl ?_
 refine g_iand X d24_24 (pc' := 25) rfl ?_
 refine g_i2c X d24_25 (pc' := 26) rfl ?_
 generalize qj : ((y0 &&& (255 : Int32)).toUInt32.toUInt16.toUInt32.toInt32) = qd
 refine g_castore X qa 0 d24_26 (pc' := 27) rfl (by decide) (by decide) (by simp only [List.length_cons]; omega) ?_
 intro T h X W qa
 replace qa : Av Z h a3 .char ((.int (nar .char qd)) :: (.int z1) :: (.int z2) :: (.int z3) :: (.int z4) :: (.int z5) :: tl) := qa
 replace qb := qb.other W qe
 replace Z0 := Nat.le_trans Z0 (Nat.le_of_eq W.size.symm)
 replace N := Fr.snoc X.1 N qc
 replace Kp := Kp.wr W (Or.inl (List.mem_of_getElem? (i := 0) rfl))
 replace Od := Od.wr W qc
 refine g_iinc X d24_27 (pc' := 30) (q := (1 : Int32)) (Ls' := #[.val (.ref v0), .val (.int (1 : Int32)), .val (.ref a3), .val (.int (1 : Int32)), .val (.int (6 : Int32)), .val (.int (1 : Int32))]) rfl rfl rfl rfl ?_
 refine g_goto X d24_30 (pc' := 3) (by decide) (by decide) ?_
 refine g_iload X d24_3 (pc' := 5) rfl rfl ?_
 refine g_iload X d24_5 (pc' := 7) rfl rfl ?_
 refine g_icN X d24_7 (tlt (show (1 : Int32) < (6 : Int32) from (by decide))).2.1 (pc' := 10) rfl ?_
 refine g_aloadN X d24_10 (pc' := 11) rfl rfl rfl ?_
 refine g_iloadN X d24_11 (pc' := 12) rfl rfl ?_
 refine g_iinc X d24_12 (pc' := 15) (q := (1 : Int32)) (Ls' := #[.val (.ref v0), .val (.int (1 : Int32)), .val (.ref a3), .val (.int (2 : Int32)), .val (.int (6 : Int32)), .val (.int (1 : Int32))]) rfl rfl rfl rfl ?_
 refine g_aloadN X d24_15 (pc' := 16) rfl rfl rfl ?_
 refine g_iloadN X d24_16 (pc' := 17) rfl rfl ?_
 refine g_iinc X d24_17 (pc' := 20) (q := (1 : Int32)) (Ls' := #[.val (.ref v0), .val (.int (2 : Int32)), .val (.ref a3), .val (.int (2 : Int32)), .val (.int (6 : Int32)), .val (.int (1 : Int32))]) rfl rfl rfl rfl ?_
 refine g_baload X qb 1 d24_20 (pc' := 21) rfl (by decide) (by decide) rfl ?_
 refine g_sipush X (255 : Int32) d24_21 (pc' := 24) rfl rfl ?_
 refine g_iand X d24_24 (pc' := 25) rfl ?_
 refine g_i2c X d24_25 (pc' := 26) rfl ?_
 generalize qk : ((y1 &&& (255 : Int32)).toUInt32.toUInt16.toUInt32.toInt32) = qf
 refine g_castore X qa 1 d24_26 (pc' := 27) rfl (by decide) (by decide) (by simp only [List.length_cons]; omega) ?_
 intro T h X W qa
 replace qa : Av Z h a3 .char ((.int (nar .char qd)) :: (.int (nar .char qf)) :: (.int z2) :: (.int z3) :: (.int z4) :: (.int z5) :: tl) := qa
 replace qb := qb.other W qe
 replace Z0 := Nat.le_trans Z0 (Nat.le_of_eq W.size.symm)
 replace N := Fr.snoc X.1 N qc
 replace Kp := Kp.wr W (Or.inl (List.mem_of_getElem? (i := 0) rfl))
 replace Od := Od.wr W qc
 refine g_iinc X d24_27 (pc' := 30) (q := (1 : Int32)) (Ls' := #[.val (.ref v0), .val (.int (2 : Int32)), .val (.ref a3), .val (.int (2 : Int32)), .val (.int (6 : Int32)), .val (.int (2 : Int32))]) rfl rfl rfl rfl ?_
 refine g_goto X d24_30 (pc' := 3) (by decide) (by decide) ?_
 refine g_iload X d24_3 (pc' := 5) rfl rfl ?_
 refine g_iload X d24_5 (pc' := 7) rfl rfl ?_
 refine g_icN X d24_7 (tlt (show (2 : Int32) < (6 : Int32) from (by decide))).2.1 (pc' := 10) rfl ?_
 refine g_aloadN X d24_10 (pc' := 11) rfl rfl rfl ?_
 refine g_iloadN X d24_11 (pc' := 12) rfl rfl ?_
 refine g_iinc X d24_12 (pc' := 15) (q := (1 : Int32)) (Ls' := #[.val (.ref v0), .val (.int (2 : Int32)), .val (.ref a3), .val (.int (3 : Int32)), .val (.int (6 : Int32)), .val (.int (2 : Int32))]) rfl rfl rfl rfl ?_
 refine g_aloadN X d24_15 (pc' := 16) rfl rfl rfl ?_
 refine g_iloadN X d24_16 (pc' := 17) rfl rfl ?_
 refine g_iinc X d24_17 (pc' := 20) (q := (1 : Int32)) (Ls' := #[.val (.ref v0), .val (.int (3 : Int32)), .val (.ref a3), .val (.int (3 : Int32)), .val (.int (6 : Int32)), .val (.int (2 : Int32))]) rfl rfl rfl rfl ?_
 refine g_baload X qb 2 d24_20 (pc' := 21) rfl (by decide) (by decide) rfl ?_
 refine g_sipush X (255 : Int32) d24_21 (pc' := 24) rfl rfl ?_
 refine g_iand X d24_24 (pc' := 25) rfl ?_
 refine g_i2c X d24_25 (pc' := 26) rfl ?_
 generalize ql : ((y2 &&& (255 : Int32)).toUInt32.toUInt16.toUInt32.toInt32) = qg
 refine g_castore X qa 2 d24_26 (pc' := 27) rfl (by decide) (by decide) (by simp only [List.length_cons]; omega) ?_
 intro T h X W qa
 replace qa : Av Z h a3 .char ((.int (nar .char qd)) :: (.int (nar .char qf)) :: (.int (nar .char qg)) :: (.int z3) :: (.int z4) :: (.int z5) :: tl) := qa
 replace qb := qb.other W qe
 replace Z0 := Nat.le_trans Z0 (Nat.le_of_eq W.size.symm)
 replace N := Fr.snoc X.1 N qc
 replace Kp := Kp.wr W (Or.inl (List.mem_of_getElem? (i := 0) rfl))
 replace Od := Od.wr W qc
 refine g_iinc X d24_27 (pc' := 30) (q := (1 : Int32)) (Ls' := #[.val (.ref v0), .val (.int (3 : Int32)), .val (.ref a3), .val (.int (3 : Int32)), .val (.int (6 : Int32)), .val (.int (3 : Int32))]) rfl rfl rfl rfl ?_
 refine g_goto X d24_30 (pc' := 3) (by decide) (by decide) ?_
 refine g_iload X d24_3 (pc' := 5) rfl rfl ?_
 refine g_iload X d24_5 (pc' := 7) rfl rfl ?_
 refine g_icN X d24_7 (tlt (show (3 : Int32) < (6 : Int32) from (by decide))).2.1 (pc' := 10) rfl ?_
 refine g_aloadN X d24_10 (pc' := 11) rfl rfl rfl ?_
 refine g_iloadN X d24_11 (pc' := 12) rfl rfl ?_
 refine g_iinc X d24_12 (pc' := 15) (q := (1 : Int32)) (Ls' := #[.val (.ref v0), .val (.int (3 : Int32)), .val (.ref a3), .val (.int (4 : Int32)), .val (.int (6 : Int32)), .val (.int (3 : Int32))]) rfl rfl rfl rfl ?_
 refine g_aloadN X d24_15 (pc' := 16) rfl rfl rfl ?_
 refine g_iloadN X d24_16 (pc' := 17) rfl rfl ?_
 refine g_iinc X d24_17 (pc' := 20) (q := (1 : Int32)) (Ls' := #[.val (.ref v0), .val (.int (4 : Int32)), .val (.ref a3), .val (.int (4 : Int32)), .val (.int (6 : Int32)), .val (.int (3 : Int32))]) rfl rfl rfl rfl ?_
 refine g_baload X qb 3 d24_20 (pc' := 21) rfl (by decide) (by decide) rfl ?_
 refine g_sipush X (255 : Int32) d24_21 (pc' := 24) rfl rfl ?_
 refine g_iand X d24_24 (pc' := 25) rfl ?_
 refine g_i2c X d24_25 (pc' := 26) rfl ?_
 generalize qm : ((y3 &&& (255 : Int32)).toUInt32.toUInt16.toUInt32.toInt32) = qh
 refine g_castore X qa 3 d24_26 (pc' := 27) rfl (by decide) (by decide) (by simp only [List.length_cons]; omega) ?_
 intro T h X W qa
 replace qa : Av Z h a3 .char ((.int (nar .char qd)) :: (.int (nar .char qf)) :: (.int (nar .char qg)) :: (.int (nar .char qh)) :: (.int z4) :: (.int z5) :: tl) := qa
 replace qb := qb.other W qe
 replace Z0 := Nat.le_trans Z0 (Nat.le_of_eq W.size.symm)
 replace N := Fr.snoc X.1 N qc
 replace Kp := Kp.wr W (Or.inl (List.mem_of_getElem? (i := 0) rfl))
 replace Od := Od.wr W qc
 refine g_iinc X d24_27 (pc' := 30) (q := (1 : Int32)) (Ls' := #[.val (.ref v0), .val (.int (4 : Int32)), .val (.ref a3), .val (.int (4 : Int32)), .val (.int (6 : Int32)), .val (.int (4 : Int32))]) rfl rfl rfl rfl ?_
 refine g_goto X d24_30 (pc' := 3) (by decide) (by decide) ?_
 refine g_iload X d24_3 (pc' := 5) rfl rfl ?_
 refine g_iload X d24_5 (pc' := 7) rfl rfl ?_
 refine g_icN X d24_7 (tlt (show (4 : Int32) < (6 : Int32) from (by decide))).2.1 (pc' := 10) rfl ?_
 refine g_aloadN X d24_10 (pc' := 11) rfl rfl rfl ?_
 refine g_iloadN X d24_11 (pc' := 12) rfl rfl ?_
 refine g_iinc X d24_12 (pc' := 15) (q := (1 : Int32)) (Ls' := #[.val (.ref v0), .val (.int (4 : Int32)), .val (.ref a3), .val (.int (5 : Int32)), .val (.int (6 : Int32)), .val (.int (4 : Int32))]) rfl rfl rfl rfl ?_
 refine g_aloadN X d24_15 (pc' := 16) rfl rfl rfl ?_
 refine g_iloadN X d24_16 (pc' := 17) rfl rfl ?_
 refine g_iinc X d24_17 (pc' := 20) (q := (1 : Int32)) (Ls' := #[.val (.ref v0), .val (.int (5 : Int32)), .val (.ref a3), .val (.int (5 : Int32)), .val (.int (6 : Int32)), .val (.int (4 : Int32))]) rfl rfl rfl rfl ?_
 refine g_baload X qb 4 d24_20 (pc' := 21) rfl (by decide) (by decide) rfl ?_
 refine g_sipush X (255 : Int32) d24_21 (pc' := 24) rfl rfl ?_
 refine g_iand X d24_24 (pc' := 25) rfl ?_
 refine g_i2c X d24_25 (pc' := 26) rfl ?_
 generalize qn : ((y4 &&& (255 : Int32)).toUInt32.toUInt16.toUInt32.toInt32) = qi
 refine g_castore X qa 4 d24_26 (pc' := 27) rfl (by decide) (by decide) (by simp only [List.length_cons]; omega) ?_
 intro T h X W qa
 replace qa : Av Z h a3 .char ((.int (nar .char qd)) :: (.int (nar .char qf)) :: (.int (nar .char qg)) :: (.int (nar .char qh)) :: (.int (nar .char qi)) :: (.int z5) :: tl) := qa
 replace qb := qb.other W qe
 replace Z0 := Nat.le_trans Z0 (Nat.le_of_eq W.size.symm)
 replace N := Fr.snoc X.1 N qc
 replace Kp := Kp.wr W (Or.inl (List.mem_of_getElem? (i := 0) rfl))
 replace Od := Od.wr W qc
 refine g_iinc X d24_27 (pc' := 30) (q := (1 : Int32)) (Ls' := #[.val (.ref v0), .val (.int (5 : Int32)), .val (.ref a3), .val (.int (5 : Int32)), .val (.int (6 : Int32)), .val (.int (5 : Int32))]) rfl rfl rfl rfl ?_
 refine g_goto X d24_30 (pc' := 3) (by decide) (by decide) ?_
 refine g_iload X d24_3 (pc' := 5) rfl rfl ?_
 refine g_iload X d24_5 (pc' := 7) rfl rfl ?_
 refine g_icN X d24_7 (tlt (show (5 : Int32) < (6 : Int32) from (by decide))).2.1 (pc' := 10) rfl ?_
 refine g_aloadN X d24_10 (pc' := 11) rfl rfl rfl ?_
 refine g_iloadN X d24_11 (pc' := 12) rfl rfl ?_
 refine g_iinc X d24_12 (pc' := 15) (q := (1 : Int32)) (Ls' := #[.val (.ref v0), .val (.int (5 : Int32)), .val (.ref a3), .val (.int (6 : Int32)), .val (.int (6 : Int32)), .val (.int (5 : Int32))]) rfl rfl rfl rfl ?_
 refine g_aloadN X d24_15 (pc' := 16) rfl rfl rfl ?_
 refine g_iloadN X d24_16 (pc' := 17) rfl rfl ?_
 refine g_iinc X d24_17 (pc' := 20) (q := (1 : Int32)) (Ls' := #[.val (.ref v0), .val (.int (6 : Int32)), .val (.ref a3), .val (.int (6 : Int32)), .val (.int (6 : Int32)), .val (.int (5 : Int32))]) rfl rfl rfl rfl ?_
 refine g_baload X qb 5 d24_20 (pc' := 21) rfl (by decide) (by decide) rfl ?_
 refine g_sipush X (255 : Int32) d24_21 (pc' := 24) rfl rfl ?_
 refine g_iand X d24_24 (pc' := 25) rfl ?_
 refine g_i2c X d24_25 (pc' := 26) rfl ?_
 generalize qo : ((y5 &&& (255 : Int32)).toUInt32.toUInt16.toUInt32.toInt32) = qp
 refine g_castore X qa 5 d24_26 (pc' := 27) rfl (by decide) (by decide) (by simp only [List.length_cons]; omega) ?_
 intro T h X W qa
 replace qa : Av Z h a3 .char ((.int (nar .char qd)) :: (.int (nar .char qf)) :: (.int (nar .char qg)) :: (.int (nar .char qh)) :: (.int (nar .char qi)) :: (.int (nar .char qp)) :: tl) := qa
 replace Z0 := Nat.le_trans Z0 (Nat.le_of_eq W.size.symm)
 replace N := Fr.snoc X.1 N qc
 replace Kp := Kp.wr W (Or.inl (List.mem_of_getElem? (i := 0) rfl))
 replace Od := Od.wr W qc
 refine g_iinc X d24_27 (pc' := 30) (q := (1 : Int32)) (Ls' := #[.val (.ref v0), .val (.int (6 : Int32)), .val (.ref a3), .val (.int (6 : Int32)), .val (.int (6 : Int32)), .val (.int (6 : Int32))]) rfl rfl rfl rfl ?_
 refine g_goto X d24_30 (pc' := 3) (by decide) (by decide) ?_
 refine g_iload X d24_3 (pc' := 5) rfl rfl ?_
 refine g_iload X d24_5 (pc' := 7) rfl rfl ?_
 refine g_icY X d24_7 (flt (show ¬ ((6 : Int32) < (6 : Int32)) from (by decide))).2.1 (pc' := 33) (by decide) (by decide) ?_
 refine g_return X d24_33 hret hlk (by decide) (by decide) ?_
 subst qj qk ql qm qn qo
 exact ⟨rfl, N, Kp, qa⟩
theorem d23_0 : decode jdk_43_method_11_code 0 = .ok (.aload_n 0, 1) := by decide +kernel
theorem d23_1 : decode jdk_43_method_11_code 1 = .ok (.iload_n 1, 1) := by decide +kernel
theorem d23_2 : decode jdk_43_method_11_code 2 = .ok (.aload_n 3, 1) := by decide +kernel
theorem d23_3 : decode jdk_43_method_11_code 3 = .ok (.iload 4, 2) := by decide +kernel
theorem d23_5 : decode jdk_43_method_11_code 5 = .ok (.iload_n 2, 1) := by decide +kernel
theorem d23_6 : decode jdk_43_method_11_code 6 = .ok (.iload_n 1, 1) := by decide +kernel
theorem d23_7 : decode jdk_43_method_11_code 7 = .ok (.isub, 1) := by decide +kernel
theorem d23_8 : decode jdk_43_method_11_code 8 = .ok (.invokestatic 13, 3) := by decide +kernel
theorem pd_12 : parseMethodDescriptor "([BI[CII)V" = some ⟨[(.array .byte), .int, (.array .char), .int, .int], none⟩ := by decide +kernel
theorem d23_11 : decode jdk_43_method_11_code 11 = .ok (.return_, 1) := by decide +kernel
theorem ef_rLgc (m : MethodId) (x0 : Addr) (x1 : Int32) (x2 : Int32) (x3 : Addr) (x4 : Int32) : entryFrame m #[(.ref x0), (.int x1), (.int x2), (.ref x3), (.int x4)] 5 = mkF m 0 #[.val (.ref x0), .val (.int x1), .val (.int x2), .val (.ref x3), .val (.int x4)] [] := by first | (simp [entryFrame, mkF, argsToLocals, Value.category]; done) | rfl
set_option maxRecDepth 65536 in
set_option maxHeartbeats 40000000 in
theorem rLgc (l : Launch) (Z : State) (aa : Array Value) (hw : ∀ d ∈ tables_1, d.before aa Z = true) (ws : List Jvm.Cond) (v0 : Addr) (a3 : Addr) (y0 : Int32) (y1 : Int32) (y2 : Int32) (y3 : Int32) (y4 : Int32) (y5 : Int32) (z0 : Int32) (z1 : Int32) (z2 : Int32) (z3 : Int32) (z4 : Int32) (z5 : Int32) (tl : List Value) (h0 : Heap) (n0 : Nat) (Z0 : n0 ≤ h0.size) (qc : Av Z h0 v0 .byte [(.int y0), (.int y1), (.int y2), (.int y3), (.int y4), (.int y5)]) (qa : Av Z h0 a3 .char ((.int z0) :: (.int z1) :: (.int z2) :: (.int z3) :: (.int z4) :: (.int z5) :: tl)) (qb : n0 ≤ a3) (qd : v0 ≠ a3) (Od : Old Z n0 h0) :
    Rm l Z (⟨"java/lang/StringLatin1", "getChars", "([BII[CI)V"⟩ : MethodName) jdk_43_method_11_code 5 none ws ({ frames := 1, cells := 0, slots := 0, locals := 17 } : Room) #[(.ref v0), (.int (0 : Int32)), (.int (6 : Int32)), (.ref a3), (.int (0 : Int32))] h0 (fun v h L => v = none ∧ Fr n0 L ∧ Keep h0 h [a3] ∧ Av Z h a3 .char ((.int (nar .char ((y0 &&& (255 : Int32)).toUInt32.toUInt16.toUInt32.toInt32))) :: (.int (nar .char ((y1 &&& (255 : Int32)).toUInt32.toUInt16.toUInt32.toInt32))) :: (.int (nar .char ((y2 &&& (255 : Int32)).toUInt32.toUInt16.toUInt32.toInt32))) :: (.int (nar .char ((y3 &&& (255 : Int32)).toUInt32.toUInt16.toUInt32.toInt32))) :: (.int (nar .char ((y4 &&& (255 : Int32)).toUInt32.toUInt16.toUInt32.toInt32))) :: (.int (nar .char ((y5 &&& (255 : Int32)).toUInt32.toUInt16.toUInt32.toInt32))) :: tl)) := by
 refine Rm.of (plainFor_of_name pn_3) ?_
 intro p e s m below meth cc T X hnm hret hlk
 refine Go.at_ (ef_rLgc m v0 (0 : Int32) (6 : Int32) a3 (0 : Int32)) ?_
 have N := Fr.nil n0
 have Kp := Keep.refl h0 [a3]
 refine g_aloadN X d23_0 (pc' := 1) rfl rfl rfl ?_
 refine g_iloadN X d23_1 (pc' := 2) rfl rfl ?_
 refine g_aloadN X d23_2 (pc' := 3) rfl rfl rfl ?_
 refine g_iload X d23_3 (pc' := 5) rfl rfl ?_
 refine g_iloadN X d23_5 (pc' := 6) rfl rfl ?_
 refine g_iloadN X d23_6 (pc' := 7) rfl rfl ?_
 refine g_isub X d23_7 (pc' := 8) rfl ?_
 refine Go.lit32 (z := (6 : Int32)) (by decide) ?_
 refine g_static X (W := 0) [(.ref v0), (.int (0 : Int32)), (.ref a3), (.int (0 : Int32)), (.int (6 : Int32))] [] (tb hw 119 rfl) (tb hw 120 rfl) (tb hw 117 rfl) (tb hw 121 rfl) (rInf l Z aa hw [] v0 a3 y0 y1 y2 y3 y4 y5 z0 z1 z2 z3 z4 z5 tl _ n0 Z0 qc qa qb qd Od) d23_8 (pc' := 11) rfl (by decide) (by decide) (by decide) rfl rfl rfl (lenOf pd_12 rfl) (Nat.le_refl _) (by decide) (by decide) ?_
 intro v T L X q
 obtain ⟨rfl, Nq, Kq, qe⟩ := q
 replace N := N.app Nq
 replace Od := Od.keep Kq (allS qb all0)
 replace Z0 := Nat.le_trans Z0 Kq.1
 replace Kp := Kp.trans Kq (allS (Or.inl (List.mem_of_getElem? (i := 0) rfl)) all0)
 replace qa := qe
 show Go p e below _ (T.setTop (mkF m 11 _ []))
 refine g_return X d23_11 hret hlk (by decide) (by decide) ?_
 exact ⟨rfl, N, Kp, qa⟩
theorem d35_0 : decode jdk_52_method_26_code 0 = .ok (.iload_n 1, 1) := by decide +kernel
theorem d35_1 : decode jdk_52_method_26_code 1 = .ok (.iload_n 2, 1) := by decide +kernel
theorem d35_2 : decode jdk_52_method_26_code 2 = .ok (.if_icmp .ge 11, 3) := by decide +kernel
theorem d35_5 : decode jdk_52_method_26_code 5 = .ok (.iload_n 1, 1) := by decide +kernel
theorem d35_6 : decode jdk_52_method_26_code 6 = .ok (.iload_n 2, 1) := by decide +kernel
theorem d35_7 : decode jdk_52_method_26_code 7 = .ok (.iload_n 1, 1) := by decide +kernel
theorem d35_8 : decode jdk_52_method_26_code 8 = .ok (.isub, 1) := by decide +kernel
theorem d35_9 : decode jdk_52_method_26_code 9 = .ok (.aload_n 0, 1) := by decide +kernel
theorem d35_10 : decode jdk_52_method_26_code 10 = .ok (.invokestatic 173, 3) := by decide +kernel
theorem pd_13 : parseMethodDescriptor "(II[B)V" = some ⟨[.int, .int, (.array .byte)], none⟩ := by decide +kernel
theorem d35_13 : decode jdk_52_method_26_code 13 = .ok (.iload_n 1, 1) := by decide +kernel
theorem d35_14 : decode jdk_52_method_26_code 14 = .ok (.istore 5, 2) := by decide +kernel
theorem d35_16 : decode jdk_52_method_26_code 16 = .ok (.iload 5, 2) := by decide +kernel
theorem d35_18 : decode jdk_52_method_26_code 18 = .ok (.iload_n 2, 1) := by decide +kernel
theorem d35_19 : decode jdk_52_method_26_code 19 = .ok (.if_icmp .ge 22, 3) := by decide +kernel
theorem d35_22 : decode jdk_52_method_26_code 22 = .ok (.aload_n 3, 1) := by decide +kernel
theorem d35_23 : decode jdk_52_method_26_code 23 = .ok (.iload 4, 2) := by decide +kernel
theorem d35_25 : decode jdk_52_method_26_code 25 = .ok (.iinc 4 1, 3) := by decide +kernel
theorem d35_28 : decode jdk_52_method_26_code 28 = .ok (.aload_n 0, 1) := by decide +kernel
theorem d35_29 : decode jdk_52_method_26_code 29 = .ok (.iload 5, 2) := by decide +kernel
theorem d35_31 : decode jdk_52_method_26_code 31 = .ok (.invokestatic 71, 3) := by decide +kernel
theorem d35_34 : decode jdk_52_method_26_code 34 = .ok (.castore, 1) := by decide +kernel
theorem d35_35 : decode jdk_52_method_26_code 35 = .ok (.iinc 5 1, 3) := by decide +kernel
theorem d35_38 : decode jdk_52_method_26_code 38 = .ok (.goto (-22), 3) := by decide +kernel
theorem d35_41 : decode jdk_52_method_26_code 41 = .ok (.return_, 1) := by decide +kernel
theorem ef_rUgc (m : MethodId) (x0 : Addr) (x1 : Int32) (x2 : Int32) (x3 : Addr) (x4 : Int32) : entryFrame m #[(.ref x0), (.int x1), (.int x2), (.ref x3), (.int x4)] 6 = mkF m 0 #[.val (.ref x0), .val (.int x1), .val (.int x2), .val (.ref x3), .val (.int x4), .unset] [] := by first | (simp [entryFrame, mkF, argsToLocals, Value.category]; done) | rfl
set_option maxRecDepth 65536 in
set_option maxHeartbeats 40000000 in
theorem rUgc (l : Launch) (Z : State) (aa : Array Value) (hw : ∀ d ∈ tables_1, d.before aa Z = true) (ws : List Jvm.Cond) (v0 : Addr) (a3 : Addr) (G3 : Value) (y0 : Int32) (y1 : Int32) (y2 : Int32) (y3 : Int32) (y4 : Int32) (y5 : Int32) (y6 : Int32) (y7 : Int32) (y8 : Int32) (y9 : Int32) (y10 : Int32) (y11 : Int32) (z0 : Int32) (z1 : Int32) (z2 : Int32) (z3 : Int32) (z4 : Int32) (z5 : Int32) (tl : List Value) (h0 : Heap) (n0 : Nat) (Z0 : n0 ≤ h0.size) (qb : Av Z h0 v0 .byte [(.int y0), (.int y1), (.int y2), (.int y3), (.int y4), (.int y5), (.int y6), (.int y7), (.int y8), (.int y9), (.int y10), (.int y11)]) (qa : Av Z h0 a3 .char ((.int z0) :: (.int z1) :: (.int z2) :: (.int z3) :: (.int z4) :: (.int z5) :: tl)) (qc : n0 ≤ a3) (qh : v0 ≠ a3) (qd : Sta Z Z.heap "java/lang/StringUTF16" "$assertionsDisabled" "Z" (.int (1 : Int32))) (qe : Sta Z Z.heap "java/lang/StringUTF16" "HI_BYTE_SHIFT" "I" (.int (0 : Int32))) (qf : Sta Z Z.heap "java/lang/StringUTF16" "LO_BYTE_SHIFT" "I" (.int (8 : Int32))) (Od : Old Z n0 h0) (qm : Sta Z Z.heap "jdk/internal/util/Preconditions" "SIOOBE_FORMATTER" "Ljava/util/function/BiFunction;" G3) (rG3 : G3.isRef = true) :
    Rm l Z (⟨"java/lang/StringUTF16", "getChars", "([BII[CI)V"⟩ : MethodName) jdk_52_method_26_code 6 none ws ({ frames := 3, cells := 0, slots := 0, locals := 43 } : Room) #[(.ref v0), (.int (0 : Int32)), (.int (6 : Int32)), (.ref a3), (.int (0 : Int32))] h0 (fun v h L => v = none ∧ Fr n0 L ∧ Keep h0 h [a3] ∧ Av Z h a3 .char ((.int (nar .char (nar .char ((((y0 &&& (255 : Int32)) <<< ((0 : Int32) &&& 31)) ||| ((y1 &&& (255 : Int32)) <<< ((8 : Int32) &&& 31))).toUInt32.toUInt16.toUInt32.toInt32)))) :: (.int (nar .char (nar .char ((((y2 &&& (255 : Int32)) <<< ((0 : Int32) &&& 31)) ||| ((y3 &&& (255 : Int32)) <<< ((8 : Int32) &&& 31))).toUInt32.toUInt16.toUInt32.toInt32)))) :: (.int (nar .char (nar .char ((((y4 &&& (255 : Int32)) <<< ((0 : Int32) &&& 31)) ||| ((y5 &&& (255 : Int32)) <<< ((8 : Int32) &&& 31))).toUInt32.toUInt16.toUInt32.toInt32)))) :: (.int (nar .char (nar .char ((((y6 &&& (255 : Int32)) <<< ((0 : Int32) &&& 31)) ||| ((y7 &&& (255 : Int32)) <<< ((8 : Int32) &&& 31))).toUInt32.toUInt16.toUInt32.toInt32)))) :: (.int (nar .char (nar .char ((((y8 &&& (255 : Int32)) <<< ((0 : Int32) &&& 31)) ||| ((y9 &&& (255 : Int32)) <<< ((8 : Int32) &&& 31))).toUInt32.toUInt16.toUInt32.toInt32)))) :: (.int (nar .char (nar .char ((((y10 &&& (255 : Int32)) <<< ((0 : Int32) &&& 31)) ||| ((y11 &&& (255 : Int32)) <<< ((8 : Int32) &&& 31))).toUInt32.toUInt16.toUInt32.toInt32)))) :: tl)) := by
 refine Rm.of (plainFor_of_name pn_0) ?_
 intro p e s m below meth cc T X hnm hret hlk
 refine Go.at_ (ef_rUgc m v0 (0 : Int32) (6 : Int32) a3 (0 : Int32)) ?_
 have N := Fr.nil n0
 have Kp := Keep.refl h0 [a3]
 refine g_iloadN X d35_0 (pc' := 1) rfl rfl ?_
 refine g_iloadN X d35_1 (pc' := 2) rfl rfl ?_
 refine g_icN X d35_2 (tlt (show (0 : Int32) < (6 : Int32) from (by decide))).2.1 (pc' := 5) rfl ?_
 refine g_iloadN X d35_5 (pc' := 6) rfl rfl ?_
 refine g_iloadN X d35_6 (pc' := 7) rfl rfl ?_
 refine g_iloadN X d35_7 (pc' := 8) rfl rfl ?_
 refine g_isub X d35_8 (pc' := 9) rfl ?_
 refine Go.lit32 (z := (6 : Int32)) (by decide) ?_
 refine g_aloadN X d35_9 (pc' := 10) rfl rfl rfl ?_
 refine g_static X (W := 0) [(.int (0 : Int32)), (.int (6 : Int32)), (.ref v0)] [] (tb hw 165 rfl) (tb hw 166 rfl) (tb hw 35 rfl) (tb hw 167 rfl) (rUbo l Z aa hw [] v0 G3 y0 y1 y2 y3 y4 y5 y6 y7 y8 y9 y10 y11 _ qb rG3 (qm.ext Od.2)) d35_10 (pc' := 13) rfl (by decide) (by decide) (by decide) rfl rfl rfl (lenOf pd_13 rfl) (Nat.le_refl _) (by decide) (by decide) ?_
 intro v T L X q
 obtain ⟨rfl, X⟩ := pureXV X q
 show Go p e below _ (T.setTop (mkF m 13 _ []))
 refine g_iloadN X d35_13 (pc' := 14) rfl rfl ?_
 refine g_istore X d35_14 (pc' := 16) (Ls' := #[.val (.ref v0), .val (.int (0 : Int32)), .val (.int (6 : Int32)), .val (.ref a3), .val (.int (0 : Int32)), .val (.int (0 : Int32))]) rfl rfl ?_
 refine g_iload X d35_16 (pc' := 18) rfl rfl ?_
 refine g_iloadN X d35_18 (pc' := 19) rfl rfl ?_
 refine g_icN X d35_19 (tlt (show (0 : Int32) < (6 : Int32) from (by decide))).2.1 (pc' := 22) rfl ?_
 refine g_aloadN X d35_22 (pc' := 23) rfl rfl rfl ?_
 refine g_iload X d35_23 (pc' := 25) rfl rfl ?_
 refine g_iinc X d35_25 (pc' := 28) (q := (1 : Int32)) (Ls' := #[.val (.ref v0), .val (.int (0 : Int32)), .val (.int (6 : Int32)), .val (.ref a3), .val (.int (1 : Int32)), .val (.int (0 : Int32))]) rfl rfl rfl rfl ?_
 refine g_aloadN X d35_28 (pc' := 29) rfl rfl rfl ?_
 refine g_iload X d35_29 (pc' := 31) rfl rfl ?_
 refine g_static X (W := 2) [(.ref v0), (.int (0 : Int32))] [(.int (0 : Int32)), (.ref a3)] (tb hw 159 rfl) (tb hw 160 rfl) (tb hw 35 rfl) (tb hw 161 rfl) (rGc0 l Z aa hw [] v0 y0 y1 y2 y3 y4 y5 y6 y7 y8 y9 y10 y11 _ qb (qd.ext Od.2) (qe.ext Od.2) (qf.ext Od.2)) d35_31 (pc' := 34) rfl (by decide) (by decide) (by decide) rfl rfl rfl (lenOf pd_5 rfl) (Nat.le_refl _) (by decide) (by decide) ?_
 intro v T L X q
 obtain ⟨rfl, X⟩ := pureX X q
 show Go p e below _ (T.setTop (mkF m 34 _ [(.int (nar .char ((((y0 &&& (255 : Int32)) <<< ((0 : Int32) &&& 31)) ||| ((y1 &&& (255 : Int32)) <<< ((8 : Int32) &&& 31))).toUInt32.toUInt16.toUInt32.toInt32))), (.int (0 : Int32)), (.ref a3)]))
 generalize qn : (nar .char ((((y0 &&& (255 : Int32)) <<< ((0 : Int32) &&& 31)) ||| ((y1 &&& (255 : Int32)) <<< ((8 : Int32) &&& 31))).toUInt32.toUInt16.toUInt32.toInt32)) = qg
 refine g_castore X qa 0 d35_34 (pc' := 35) rfl (by decide) (by decide) (by simp only [List.length_cons]; omega) ?_
 intro T h X W qa
 replace qa : Av Z h a3 .char ((.int (nar .char qg)) :: (.int z1) :: (.int z2) :: (.int z3) :: (.int z4) :: (.int z5) :: tl) := qa
 replace qb := qb.other W qh
 replace Z0 := Nat.le_trans Z0 (Nat.le_of_eq W.size.symm)
 replace N := Fr.snoc X.1 N qc
 replace Kp := Kp.wr W (Or.inl (List.mem_of_getElem? (i := 0) rfl))
 replace Od := Od.wr W qc
 refine g_iinc X d35_35 (pc' := 38) (q := (1 : Int32)) (Ls' := #[.val (.ref v0), .val (.int (0 : Int32)), .val (.int (6 : Int32)), .val (.ref a3), .val (.int (1 : Int32)), .val (.int (1 : Int32))]) rfl rfl rfl rfl ?_
 refine g_goto X d35_38 (pc' := 16) (by decide) (by decide) ?_
 refine g_iload X d35_16 (pc' := 18) rfl rfl ?_
 refine g_iloadN X d35_18 (pc' := 19) rfl rfl ?_
 refine g_icN X d35_19 (tlt (show (1 : Int32) < (6 : Int32) from (by decide))).2.1 (pc' := 22) rfl ?_
 refine g_aloadN X d35_22 (pc' := 23) rfl rfl rfl ?_
 refine g_iload X d35_23 (pc' := 25) rfl rfl ?_
 refine g_iinc X d35_25 (pc' := 28) (q := (1 : Int32)) (Ls' := #[.val (.ref v0), .val (.int (0 : Int32)), .val (.int (6 : Int32)), .val (.ref a3), .val (.int (2 : Int32)), .val (.int (1 : Int32))]) rfl rfl rfl rfl ?_
 refine g_aloadN X d35_28 (pc' := 29) rfl rfl rfl ?_
 refine g_iload X d35_29 (pc' := 31) rfl rfl ?_
 refine g_static X (W := 2) [(.ref v0), (.int (1 : Int32))] [(.int (1 : Int32)), (.ref a3)] (tb hw 159 rfl) (tb hw 160 rfl) (tb hw 35 rfl) (tb hw 161 rfl) (rGc1 l Z aa hw [] v0 y0 y1 y2 y3 y4 y5 y6 y7 y8 y9 y10 y11 _ qb (qd.ext Od.2) (qe.ext Od.2) (qf.ext Od.2)) d35_31 (pc' := 34) rfl (by decide) (by decide) (by decide) rfl rfl rfl (lenOf pd_5 rfl) (Nat.le_refl _) (by decide) (by decide) ?_
 intro v T L X q
 obtain ⟨rfl, X⟩ := pureX X q
 show Go p e below _ (T.setTop (mkF m 34 _ [(.int (nar .char ((((y2 &&& (255 : Int32)) <<< ((0 : Int32) &&& 31)) ||| ((y3 &&& (255 : Int32)) <<< ((8 : Int32) &&& 31))).toUInt32.toUInt16.toUInt32.toInt32))), (.int (1 : Int32)), (.ref a3)]))
 generalize qo : (nar .char ((((y2 &&& (255 : Int32)) <<< ((0 : Int32) &&& 31)) ||| ((y3 &&& (255 : Int32)) <<< ((8 : Int32) &&& 31))).toUInt32.toUInt16.toUInt32.toInt32)) = qi
 refine g_castore X qa 1 d35_34 (pc' := 35) rfl (by decide) (by decide) (by simp only [List.length_cons]; omega) ?_
 intro T h X W qa
 replace qa : Av Z h a3 .char ((.int (nar .char qg)) :: (.int (nar .char qi)) :: (.int z2) :: (.int z3) :: (.int z4) :: (.int z5) :: tl) := qa
 replace qb := qb.other W qh
 replace Z0 := Nat.le_trans Z0 (Nat.le_of_eq W.size.symm)
 replace N := Fr.snoc X.1 N qc
 replace Kp := Kp.wr W (Or.inl (List.mem_of_getElem? (i := 0) rfl))
 replace Od := Od.wr W qc
 refine g_iinc X d35_35 (pc' := 38) (q := (1 : Int32)) (Ls' := #[.val (.ref v0), .val (.int (0 : Int32)), .val (.int (6 : Int32)), .val (.ref a3), .val (.int (2 : Int32)), .val (.int (2 : Int32))]) rfl rfl rfl rfl ?_
 refine g_goto X d35_38 (pc' := 16) (by decide) (by decide) ?_
 refine g_iload X d35_16 (pc' := 18) rfl rfl ?_
 refine g_iloadN X d35_18 (pc' := 19) rfl rfl ?_
 refine g_icN X d35_19 (tlt (show (2 : Int32) < (6 : Int32) from (by decide))).2.1 (pc' := 22) rfl ?_
 refine g_aloadN X d35_22 (pc' := 23) rfl rfl rfl ?_
 refine g_iload X d35_23 (pc' := 25) rfl rfl ?_
 refine g_iinc X d35_25 (pc' := 28) (q := (1 : Int32)) (Ls' := #[.val (.ref v0), .val (.int (0 : Int32)), .val (.int (6 : Int32)), .val (.ref a3), .val (.int (3 : Int32)), .val (.int (2 : Int32))]) rfl rfl rfl rfl ?_
 refine g_aloadN X d35_28 (pc' := 29) rfl rfl rfl ?_
 refine g_iload X d35_29 (pc' := 31) rfl rfl ?_
 refine g_static X (W := 2) [(.ref v0), (.int (2 : Int32))] [(.int (2 : Int32)), (.ref a3)] (tb hw 159 rfl) (tb hw 160 rfl) (tb hw 35 rfl) (tb hw 161 rfl) (rGc2 l Z aa hw [] v0 y0 y1 y2 y3 y4 y5 y6 y7 y8 y9 y10 y11 _ qb (qd.ext Od.2) (qe.ext Od.2) (qf.ext Od.2)) d35_31 (pc' := 34) rfl (by decide) (by decide) (by decide) rfl rfl rfl (lenOf pd_5 rfl) (Nat.le_refl _) (by decide) (by decide) ?_
 intro v T L X q
 obtain ⟨rfl, X⟩ := pureX X q
 show Go p e below _ (T.setTop (mkF m 34 _ [(.int (nar .char ((((y4 &&& (255 : Int32)) <<< ((0 : Int32) &&& 31)) ||| ((y5 &&& (255 : Int32)) <<< ((8 : Int32) &&& 31))).toUInt32.toUInt16.toUInt32.toInt32))), (.int (2 : Int32)), (.ref a3)]))
 generalize qp : (nar .char ((((y4 &&& (255 : Int32)) <<< ((0 : Int32) &&& 31)) ||| ((y5 &&& (255 : Int32)) <<< ((8 : Int32) &&& 31))).toUInt32.toUInt16.toUInt32.toInt32)) = qj
 refine g_castore X qa 2 d35_34 (pc' := 35) rfl (by decide) (by decide) (by simp only [List.length_cons]; omega) ?_
 intro T h X W qa
 replace qa : Av Z h a3 .char ((.int (nar .char qg)) :: (.int (nar .char qi)) :: (.int (nar .char qj)) :: (.int z3) :: (.int z4) :: (.int z5) :: tl) := qa
 replace qb := qb.other W qh
 replace Z0 := Nat.le_trans Z0 (Nat.le_of_eq W.size.symm)
 replace N := Fr.snoc X.1 N qc
 replace Kp := Kp.wr W (Or.inl (List.mem_of_getElem? (i := 0) rfl))
 replace Od := Od.wr W qc
 refine g_iinc X d35_35 (pc' := 38) (q := (1 : Int32)) (Ls' := #[.val (.ref v0), .val (.int (0 : Int32)), .val (.int (6 : Int32)), .val (.ref a3), .val (.int (3 : Int32)), .val (.int (3 : Int32))]) rfl rfl rfl rfl ?_
 refine g_goto X d35_38 (pc' := 16) (by decide) (by decide) ?_
 refine g_iload X d35_16 (pc' := 18) rfl rfl ?_
 refine g_iloadN X d35_18 (pc' := 19) rfl rfl ?_
 refine g_icN X d35_19 (tlt (show (3 : Int32) < (6 : Int32) from (by decide))).2.1 (pc' := 22) rfl ?_
 refine g_aloadN X d35_22 (pc' := 23) rfl rfl rfl ?_
 refine g_iload X d35_23 (pc' := 25) rfl rfl ?_
 refine g_iinc X d35_25 (pc' := 28) (q := (1 : Int32)) (Ls' := #[.val (.ref v0), .val (.int (0 : Int32)), .val (.int (6 : Int32)), .val (.ref a3), .val (.int (4 : Int32)), .val (.int (3 : Int32))]) rfl rfl rfl rfl ?_
 refine g_aloadN X d35_28 (pc' := 29) rfl rfl rfl ?_
 refine g_iload X d35_29 (pc' := 31) rfl rfl ?_
 refine g_static X (W := 2) [(.ref v0), (.int (3 : Int32))] [(.int (3 : Int32)), (.ref a3)] (tb hw 159 rfl) (tb hw 160 rfl) (tb hw 35 rfl) (tb hw 161 rfl) (rGc3 l Z aa hw [] v0 y0 y1 y2 y3 y4 y5 y6 y7 y8 y9 y10 y11 _ qb (qd.ext Od.2) (qe.ext Od.2) (qf.ext Od.2)) d35_31 (pc' := 34) rfl (by decide) (by decide) (by decide) rfl rfl rfl (lenOf pd_5 rfl) (Nat.le_refl _) (by decide) (by decide) ?_
 intro v T L X q
 obtain ⟨rfl, X⟩ := pureX X q
 show Go p e below _ (T.setTop (mkF m 34 _ [(.int (nar .char ((((y6 &&& (255 : Int32)) <<< ((0 : Int32) &&& 31)) ||| ((y7 &&& (255 : Int32)) <<< ((8 : Int32) &&& 31))).toUInt32.toUInt16.toUInt32.toInt32))), (.int (3 : Int32)), (.ref a3)]))
 generalize qq : (nar .char ((((y6 &&& (255 : Int32)) <<< ((0 : Int32) &&& 31)) ||| ((y7 &&& (255 : Int32)) <<< ((8 : Int32) &&& 31))).toUInt32.toUInt16.toUInt32.toInt32)) = qk
 refine g_castore X qa 3 d35_34 (pc' := 35) rfl (by decide) (by decide) (by simp only [List.length_cons]; omega) ?_
 intro T h X W qa
 replace qa : Av Z h a3 .char ((.int (nar .char qg)) :: (.int (nar .char qi)) :: (.int (nar .char qj)) :: (.int (nar .char qk)) :: (.int z4) :: (.int z5) :: tl) := qa
 replace qb := qb.other W qh
 replace Z0 := Nat.le_trans Z0 (Nat.le_of_eq W.size.symm)
 replace N := Fr.snoc X.1 N qc
 replace Kp := Kp.wr W (Or.inl (List.mem_of_getElem? (i := 0) rfl))
 replace Od := Od.wr W qc
 refine g_iinc X d35_35 (pc' := 38) (q := (1 : Int32)) (Ls' := #[.val (.ref v0), .val (.int (0 : Int32)), .val (.int (6 : Int32)), .val (.ref a3), .val (.int (4 : Int32)), .val (.int (4 : Int32))]) rfl rfl rfl rfl ?_
 refine g_goto X d35_38 (pc' := 16) (by decide) (by decide) ?_
 refine g_iload X d35_16 (pc' := 18) rfl rfl ?_
 refine g_iloadN X d35_18 (pc' := 19) rfl rfl ?_
 refine g_icN X d35_19 (tlt (show (4 : Int32) < (6 : Int32) from (by decide))).2.1 (pc' := 22) rfl ?_
 refine g_aloadN X d35_22 (pc' := 23) rfl rfl rfl ?_
 refine g_iload X d35_23 (pc' := 25) rfl rfl ?_
 refine g_iinc X d35_25 (pc' := 28) (q := (1 : Int32)) (Ls' := #[.val (.ref v0), .val (.int (0 : Int32)), .val (.int (6 : Int32)), .val (.ref a3), .val (.int (5 : Int32)), .val (.int (4 : Int32))]) rfl rfl rfl rfl ?_
 refine g_aloadN X d35_28 (pc' := 29) rfl rfl rfl ?_
 refine g_iload X d35_29 (pc' := 31) rfl rfl ?_
 refine g_static X (W := 2) [(.ref v0), (.int (4 : Int32))] [(.int (4 : Int32)), (.ref a3)] (tb hw 159 rfl) (tb hw 160 rfl) (tb hw 35 rfl) (tb hw 161 rfl) (rGc4 l Z aa hw [] v0 y0 y1 y2 y3 y4 y5 y6 y7 y8 y9 y10 y11 _ qb (qd.ext Od.2) (qe.ext Od.2) (qf.ext Od.2)) d35_31 (pc' := 34) rfl (by decide) (by decide) (by decide) rfl rfl rfl (lenOf pd_5 rfl) (Nat.le_refl _) (by decide) (by decide) ?_
 intro v T L X q
 obtain ⟨rfl, X⟩ := pureX X q
 show Go p e below _ (T.setTop (mkF m 34 _ [(.int (nar .char ((((y8 &&& (255 : Int32)) <<< ((0 : Int32) &&& 31)) ||| ((y9 &&& (255 : Int32)) <<< ((8 : Int32) &&& 31))).toUInt32.toUInt16.toUInt32.toInt32))), (.int (4 : Int32)), (.ref a3)]))
 generalize qr : (nar .char ((((y8 &&& (255 : Int32)) <<< ((0 : Int32) &&& 31)) ||| ((y9 &&& (255 : Int32)) <<< ((8 : Int32) &&& 31))).toUInt32.toUInt16.toUInt32.toInt32)) = ql
 refine g_castore X qa 4 d35_34 (pc' := 35) rfl (by decide) (by decide) (by simp only [List.length_cons]; omega) ?_
 intro T h X W qa
 replace qa : Av Z h a3 .char ((.int (nar .char qg)) :: (.int (nar .char qi)) :: (.int (nar .char qj)) :: (.int (nar .char qk)) :: (.int (nar .char ql)) :: (.int z5) :: tl) := qa
 replace qb := qb.other W qh
 replace Z0 := Nat.le_trans Z0 (Nat.le_of_eq W.size.symm)
 replace N := Fr.snoc X.1 N qc
 replace Kp := Kp.wr W (Or.inl (List.mem_of_getElem? (i := 0) rfl))
 replace Od := Od.wr W qc
 refine g_iinc X d35_35 (pc' := 38) (q := (1 : Int32)) (Ls' := #[.val (.ref v0), .val (.int (0 : Int32)), .val (.int (6 : Int32)), .val (.ref a3), .val (.int (5 : Int32)), .val (.int (5 : Int32))]) rfl rfl rfl rfl ?_
 refine g_goto X d35_38 (pc' := 16) (by decide) (by decide) ?_
 refine g_iload X d35_16 (pc' := 18) rfl rfl ?_
 refine g_iloadN X d35_18 (pc' := 19) rfl rfl ?_
 refine g_icN X d35_19 (tlt (show (5 : Int32) < (6 : Int32) from (by decide))).2.1 (pc' := 22) rfl ?_
 refine g_aloadN X d35_22 (pc' := 23) rfl rfl rfl ?_
 refine g_iload X d35_23 (pc' := 25) rfl rfl ?_
 refine g_iinc X d35_25 (pc' := 28) (q := (1 : Int32)) (Ls' := #[.val (.ref v0), .val (.int (0 : Int32)), .val (.int (6 : Int32)), .val (.ref a3), .val (.int (6 : Int32)), .val (.int (5 : Int32))]) rfl rfl rfl rfl ?_
 refine g_aloadN X d35_28 (pc' := 29) rfl rfl rfl ?_
 refine g_iload X d35_29 (pc' := 31) rfl rfl ?_
 refine g_static X (W := 2) [(.ref v0), (.int (5 : Int32))] [(.int (5 : Int32)), (.ref a3)] (tb hw 159 rfl) (tb hw 160 rfl) (tb hw 35 rfl) (tb hw 161 rfl) (rGc5 l Z aa hw [] v0 y0 y1 y2 y3 y4 y5 y6 y7 y8 y9 y10 y11 _ qb (qd.ext Od.2) (qe.ext Od.2) (qf.ext Od.2)) d35_31 (pc' := 34) rfl (by decide) (by decide) (by decide) rfl rfl rfl (lenOf pd_5 rfl) (Nat.le_refl _) (by decide) (by decide) ?_
 intro v T L X q
 obtain ⟨rfl, X⟩ := pureX X q
 show Go p e below _ (T.setTop (mkF m 34 _ [(.int (nar .char ((((y10 &&& (255 : Int32)) <<< ((0 : Int32) &&& 31)) ||| ((y11 &&& (255 : Int32)) <<< ((8 : Int32) &&& 31))).toUInt32.toUInt16.toUInt32.toInt32))), (.int (5 : Int32)), (.ref a3)]))
 generalize qs : (nar .char ((((y10 &&& (255 : Int32)) <<< ((0 : Int32) &&& 31)) ||| ((y11 &&& (255 : Int32)) <<< ((8 : Int32) &&& 31))).toUInt32.toUInt16.toUInt32.toInt32)) = qt
 refine g_castore X qa 5 d35_34 (pc' := 35) rfl (by decide) (by decide) (by simp only [List.length_cons]; omega) ?_
 intro T h X W qa
 replace qa : Av Z h a3 .char ((.int (nar .char qg)) :: (.int (nar .char qi)) :: (.int (nar .char qj)) :: (.int (nar .char qk)) :: (.int (nar .char ql)) :: (.int (nar .char qt)) :: tl) := qa
 replace Z0 := Nat.le_trans Z0 (Nat.le_of_eq W.size.symm)
 replace N := Fr.snoc X.1 N qc
 replace Kp := Kp.wr W (Or.inl (List.mem_of_getElem? (i := 0) rfl))
 replace Od := Od.wr W qc
 refine g_iinc X d35_35 (pc' := 38) (q := (1 : Int32)) (Ls' := #[.val (.ref v0), .val (.int (0 : Int32)), .val (.int (6 : Int32)), .val (.ref a3), .val (.int (6 : Int32)), .val (.int (6 : Int32))]) rfl rfl rfl rfl ?_
 refine g_goto X d35_38 (pc' := 16) (by decide) (by decide) ?_
 refine g_iload X d35_16 (pc' := 18) rfl rfl ?_
 refine g_iloadN X d35_18 (pc' := 19) rfl rfl ?_
 refine g_icY X d35_19 (flt (show ¬ ((6 : Int32) < (6 : Int32)) from (by decide))).2.1 (pc' := 41) (by decide) (by decide) ?_
 refine g_return X d35_41 hret hlk (by decide) (by decide) ?_
 subst qn qo qp qq qr qs
 exact ⟨rfl, N, Kp, qa⟩
theorem d17_0 : decode jdk_42_method_61_code 0 = .ok (.iload_n 1, 1) := by decide +kernel
theorem d17_1 : decode jdk_42_method_61_code 1 = .ok (.iload_n 2, 1) := by decide +kernel
theorem d17_2 : decode jdk_42_method_61_code 2 = .ok (.aload_n 0, 1) := by decide +kernel
theorem d17_3 : decode jdk_42_method_61_code 3 = .ok (.invokevirtual 505, 3) := by decide +kernel
theorem pd_14 : parseMethodDescriptor "()I" = some ⟨[], some .int⟩ := by decide +kernel
theorem d17_6 : decode jdk_42_method_61_code 6 = .ok (.invokestatic 521, 3) := by decide +kernel
theorem pd_15 : parseMethodDescriptor "(III)V" = some ⟨[.int, .int, .int], none⟩ := by decide +kernel
theorem d17_9 : decode jdk_42_method_61_code 9 = .ok (.iload 4, 2) := by decide +kernel
theorem d17_11 : decode jdk_42_method_61_code 11 = .ok (.iload_n 2, 1) := by decide +kernel
theorem d17_12 : decode jdk_42_method_61_code 12 = .ok (.iload_n 1, 1) := by decide +kernel
theorem d17_13 : decode jdk_42_method_61_code 13 = .ok (.isub, 1) := by decide +kernel
theorem d17_14 : decode jdk_42_method_61_code 14 = .ok (.aload_n 3, 1) := by decide +kernel
theorem d17_15 : decode jdk_42_method_61_code 15 = .ok (.arraylength, 1) := by decide +kernel
theorem d17_16 : decode jdk_42_method_61_code 16 = .ok (.invokestatic 34, 3) := by decide +kernel
theorem d17_19 : decode jdk_42_method_61_code 19 = .ok (.pop, 1) := by decide +kernel
theorem d17_20 : decode jdk_42_method_61_code 20 = .ok (.aload_n 0, 1) := by decide +kernel
theorem d17_21 : decode jdk_42_method_61_code 21 = .ok (.invokevirtual 492, 3) := by decide +kernel
theorem pd_16 : parseMethodDescriptor "()Z" = some ⟨[], some .boolean⟩ := by decide +kernel
theorem d17_24 : decode jdk_42_method_61_code 24 = .ok (.ifCond .eq 18, 3) := by decide +kernel
theorem d17_27 : decode jdk_42_method_61_code 27 = .ok (.aload_n 0, 1) := by decide +kernel
theorem d17_28 : decode jdk_42_method_61_code 28 = .ok (.getfield 9, 3) := by decide +kernel
theorem d17_31 : decode jdk_42_method_61_code 31 = .ok (.iload_n 1, 1) := by decide +kernel
theorem d17_32 : decode jdk_42_method_61_code 32 = .ok (.iload_n 2, 1) := by decide +kernel
theorem d17_33 : decode jdk_42_method_61_code 33 = .ok (.aload_n 3, 1) := by decide +kernel
theorem d17_34 : decode jdk_42_method_61_code 34 = .ok (.iload 4, 2) := by decide +kernel
theorem d17_36 : decode jdk_42_method_61_code 36 = .ok (.invokestatic 525, 3) := by decide +kernel
theorem pd_17 : parseMethodDescriptor "([BII[CI)V" = some ⟨[(.array .byte), .int, .int, (.array .char), .int], none⟩ := by decide +kernel
theorem d17_39 : decode jdk_42_method_61_code 39 = .ok (.goto 15, 3) := by decide +kernel
theorem d17_54 : decode jdk_42_method_61_code 54 = .ok (.return_, 1) := by decide +kernel
theorem ef_rSg0 (m : MethodId) (x0 : Addr) (x1 : Int32) (x2 : Int32) (x3 : Addr) (x4 : Int32) : entryFrame m #[(.ref x0), (.int x1), (.int x2), (.ref x3), (.int x4)] 5 = mkF m 0 #[.val (.ref x0), .val (.int x1), .val (.int x2), .val (.ref x3), .val (.int x4)] [] := by first | (simp [entryFrame, mkF, argsToLocals, Value.category]; done) | rfl
set_option maxRecDepth 65536 in
set_option maxHeartbeats 40000000 in
theorem rSg0 (l : Launch) (Z : State) (aa : Array Value) (hw : ∀ d ∈ tables_1, d.before aa Z = true) (ws : List Jvm.Cond) (a0 : Addr) (a3 : Addr) (G1 : Int32) (G3 : Value) (nz : Int32) (v0 : Addr) (y0 : Int32) (y1 : Int32) (y2 : Int32) (y3 : Int32) (y4 : Int32) (y5 : Int32) (z0 : Int32) (z1 : Int32) (z2 : Int32) (z3 : Int32) (z4 : Int32) (z5 : Int32) (tl : List Value) (h0 : Heap) (n0 : Nat) (Z0 : n0 ≤ h0.size) (qa : Exa Z h0 a0 "java/lang/String") (qe : Fld Z h0 a0 "java/lang/String" "coder" "B" (.int (0 : Int32))) (qc : Fld Z h0 a0 "java/lang/String" "value" "[B" (.ref v0)) (qd : Av Z h0 v0 .byte [(.int y0), (.int y1), (.int y2), (.int y3), (.int y4), (.int y5)]) (qb : Av Z h0 a3 .char ((.int z0) :: (.int z1) :: (.int z2) :: (.int z3) :: (.int z4) :: (.int z5) :: tl)) (qf : n0 ≤ a3) (qk : a0 ≠ a3) (qi : v0 ≠ a3) (ql : Sta Z Z.heap "java/lang/StringUTF16" "$assertionsDisabled" "Z" (.int (1 : Int32))) (qm : Sta Z Z.heap "java/lang/StringUTF16" "HI_BYTE_SHIFT" "I" (.int (0 : Int32))) (qn : Sta Z Z.heap "java/lang/StringUTF16" "LO_BYTE_SHIFT" "I" (.int (8 : Int32))) (qg : Sta Z Z.heap "java/lang/String" "COMPACT_STRINGS" "Z" (.int G1)) (P5 : ¬ G1 = (0 : Int32)) (Od : Old Z n0 h0) (qh : Sta Z Z.heap "jdk/internal/util/Preconditions" "SIOOBE_FORMATTER" "Ljava/util/function/BiFunction;" G3) (rG3 : G3.isRef = true) (hN : (tl.length + 6).toInt32 = nz) (p1 : ¬ ((nz ||| (0 : Int32)) ||| (6 : Int32)) < (0 : Int32)) (p2 : ¬ (nz - (0 : Int32)) < (6 : Int32)) :
    Rm l Z (⟨"java/lang/String", "getChars", "(II[CI)V"⟩ : MethodName) jdk_42_method_61_code 5 none ws ({ frames := 2, cells := 0, slots := 0, locals := 33 } : Room) #[(.ref a0), (.int (0 : Int32)), (.int (6 : Int32)), (.ref a3), (.int (0 : Int32))] h0 (fun v h L => v = none ∧ Fr n0 L ∧ Keep h0 h [a3] ∧ Av Z h a3 .char ((.int (nar .char ((y0 &&& (255 : Int32)).toUInt32.toUInt16.toUInt32.toInt32))) :: (.int (nar .char ((y1 &&& (255 : Int32)).toUInt32.toUInt16.toUInt32.toInt32))) :: (.int (nar .char ((y2 &&& (255 : Int32)).toUInt32.toUInt16.toUInt32.toInt32))) :: (.int (nar .char ((y3 &&& (255 : Int32)).toUInt32.toUInt16.toUInt32.toInt32))) :: (.int (nar .char ((y4 &&& (255 : Int32)).toUInt32.toUInt16.toUInt32.toInt32))) :: (.int (nar .char ((y5 &&& (255 : Int32)).toUInt32.toUInt16.toUInt32.toInt32))) :: tl)) := by
 refine Rm.of (plainFor_of_name pn_1) ?_
 intro p e s m below meth cc T X hnm hret hlk
 refine Go.at_ (ef_rSg0 m a0 (0 : Int32) (6 : Int32) a3 (0 : Int32)) ?_
 have N := Fr.nil n0
 have Kp := Keep.refl h0 [a3]
 refine g_iloadN X d17_0 (pc' := 1) rfl rfl ?_
 refine g_iloadN X d17_1 (pc' := 2) rfl rfl ?_
 refine g_aloadN X d17_2 (pc' := 3) rfl rfl rfl ?_
 refine g_virtual X (W := 2) (a := a0) (C := "java/lang/String") [] [(.int (6 : Int32)), (.int (0 : Int32))] qa (tb hw 95 rfl) (tb hw 54 rfl) (tb hw 56 rfl) (tb hw 55 rfl) (tb hw 23 rfl) (tb hw 57 rfl) (rLen0 l Z aa hw [] a0 G1 v0 y0 y1 y2 y3 y4 y5 _ qa qe qc qd (qg.ext Od.2) P5) d17_3 (pc' := 6) rfl (by decide) (by decide) (by decide) rfl rfl rfl (lenOf pd_14 rfl) (Nat.le_refl _) (by decide) (by decide) ?_
 intro v T L X q
 obtain ⟨rfl, X⟩ := pureX X q
 show Go p e below _ (T.setTop (mkF m 6 _ [(.int (6 : Int32)), (.int (6 : Int32)), (.int (0 : Int32))]))
 refine g_static X (W := 0) [(.int (0 : Int32)), (.int (6 : Int32)), (.int (6 : Int32))] [] (tb hw 96 rfl) (tb hw 97 rfl) (tb hw 23 rfl) (tb hw 98 rfl) (rCbe l Z aa hw [] G3 _ rG3 (qh.ext Od.2)) d17_6 (pc' := 9) rfl (by decide) (by decide) (by decide) rfl rfl rfl (lenOf pd_15 rfl) (Nat.le_refl _) (by decide) (by decide) ?_
 intro v T L X q
 obtain ⟨rfl, X⟩ := pureXV X q
 show Go p e below _ (T.setTop (mkF m 9 _ []))
 refine g_iload X d17_9 (pc' := 11) rfl rfl ?_
 refine g_iloadN X d17_11 (pc' := 12) rfl rfl ?_
 refine g_iloadN X d17_12 (pc' := 13) rfl rfl ?_
 refine g_isub X d17_13 (pc' := 14) rfl ?_
 refine Go.lit32 (z := (6 : Int32)) (by decide) ?_
 refine g_aloadN X d17_14 (pc' := 15) rfl rfl rfl ?_
 refine g_arraylength X qb d17_15 (pc' := 16) rfl (z := nz) hN ?_
 refine g_static X (W := 0) [(.int (0 : Int32)), (.int (6 : Int32)), (.int nz)] [] (tb hw 104 rfl) (tb hw 105 rfl) (tb hw 23 rfl) (tb hw 106 rfl) (rCbo l Z aa hw [] nz G3 _ rG3 p1 p2 (qh.ext Od.2)) d17_16 (pc' := 19) rfl (by decide) (by decide) (by decide) rfl rfl rfl (lenOf pd_11 rfl) (Nat.le_refl _) (by decide) (by decide) ?_
 intro v T L X q
 obtain ⟨rfl, X⟩ := pureX X q
 show Go p e below _ (T.setTop (mkF m 19 _ [(.int (0 : Int32))]))
 refine g_pop X d17_19 (pc' := 20) rfl rfl ?_
 refine g_aloadN X d17_20 (pc' := 21) rfl rfl rfl ?_
 refine g_virtual X (W := 0) (a := a0) (C := "java/lang/String") [] [] qa (tb hw 110 rfl) (tb hw 111 rfl) (tb hw 113 rfl) (tb hw 112 rfl) (tb hw 23 rfl) (tb hw 114 rfl) (rLat0 l Z aa hw [] a0 G1 v0 y0 y1 y2 y3 y4 y5 _ qa qe qc qd (qg.ext Od.2) P5) d17_21 (pc' := 24) rfl (by decide) (by decide) (by decide) rfl rfl rfl (lenOf pd_16 rfl) (Nat.le_refl _) (by decide) (by decide) ?_
 intro v T L X q
 obtain ⟨rfl, X⟩ := pureX X q
 show Go p e below _ (T.setTop (mkF m 24 _ [(.int (1 : Int32))]))
 refine g_ifN X d17_24 ((if0 _ _).trans (feq (show ¬ ((1 : Int32) = (0 : Int32)) from (by decide))).1) (pc' := 27) rfl ?_
 refine g_aloadN X d17_27 (pc' := 28) rfl rfl rfl ?_
 refine g_getfield X (host := "") (Or.inl (tb hw 46 rfl)) Via.refl qc d17_28 (pc' := 31) rfl ?_
 intro T X
 refine g_iloadN X d17_31 (pc' := 32) rfl rfl ?_
 refine g_iloadN X d17_32 (pc' := 33) rfl rfl ?_
 refine g_aloadN X d17_33 (pc' := 34) rfl rfl rfl ?_
 refine g_iload X d17_34 (pc' := 36) rfl rfl ?_
 refine g_static X (W := 0) [(.ref v0), (.int (0 : Int32)), (.int (6 : Int32)), (.ref a3), (.int (0 : Int32))] [] (tb hw 115 rfl) (tb hw 116 rfl) (tb hw 117 rfl) (tb hw 118 rfl) (rLgc l Z aa hw [] v0 a3 y0 y1 y2 y3 y4 y5 z0 z1 z2 z3 z4 z5 tl _ n0 Z0 qd qb qf qi Od) d17_36 (pc' := 39) rfl (by decide) (by decide) (by decide) rfl rfl rfl (lenOf pd_17 rfl) (Nat.le_refl _) (by decide) (by decide) ?_
 intro v T L X q
 obtain ⟨rfl, Nq, Kq, qj⟩ := q
 replace N := N.app Nq
 replace Od := Od.keep Kq (allS qf all0)
 replace Z0 := Nat.le_trans Z0 Kq.1
 replace Kp := Kp.trans Kq (allS (Or.inl (List.mem_of_getElem? (i := 0) rfl)) all0)
 replace qb := qj
 show Go p e below _ (T.setTop (mkF m 39 _ []))
 refine g_goto X d17_39 (pc' := 54) (by decide) (by decide) ?_
 refine g_return X d17_54 hret hlk (by decide) (by decide) ?_
 exact ⟨rfl, N, Kp, qb⟩
theorem d17_42 : decode jdk_42_method_61_code 42 = .ok (.aload_n 0, 1) := by decide +kernel
theorem d17_43 : decode jdk_42_method_61_code 43 = .ok (.getfield 9, 3) := by decide +kernel
theorem d17_46 : decode jdk_42_method_61_code 46 = .ok (.iload_n 1, 1) := by decide +kernel
theorem d17_47 : decode jdk_42_method_61_code 47 = .ok (.iload_n 2, 1) := by decide +kernel
theorem d17_48 : decode jdk_42_method_61_code 48 = .ok (.aload_n 3, 1) := by decide +kernel
theorem d17_49 : decode jdk_42_method_61_code 49 = .ok (.iload 4, 2) := by decide +kernel
theorem d17_51 : decode jdk_42_method_61_code 51 = .ok (.invokestatic 529, 3) := by decide +kernel
theorem ef_rSg1 (m : MethodId) (x0 : Addr) (x1 : Int32) (x2 : Int32) (x3 : Addr) (x4 : Int32) : entryFrame m #[(.ref x0), (.int x1), (.int x2), (.ref x3), (.int x4)] 5 = mkF m 0 #[.val (.ref x0), .val (.int x1), .val (.int x2), .val (.ref x3), .val (.int x4)] [] := by first | (simp [entryFrame, mkF, argsToLocals, Value.category]; done) | rfl
set_option maxRecDepth 65536 in
set_option maxHeartbeats 40000000 in
theorem rSg1 (l : Launch) (Z : State) (aa : Array Value) (hw : ∀ d ∈ tables_1, d.before aa Z = true) (ws : List Jvm.Cond) (a0 : Addr) (a3 : Addr) (G1 : Int32) (G3 : Value) (nz : Int32) (v0 : Addr) (y0 : Int32) (y1 : Int32) (y2 : Int32) (y3 : Int32) (y4 : Int32) (y5 : Int32) (y6 : Int32) (y7 : Int32) (y8 : Int32) (y9 : Int32) (y10 : Int32) (y11 : Int32) (z0 : Int32) (z1 : Int32) (z2 : Int32) (z3 : Int32) (z4 : Int32) (z5 : Int32) (tl : List Value) (h0 : Heap) (n0 : Nat) (Z0 : n0 ≤ h0.size) (qa : Exa Z h0 a0 "java/lang/String") (qf : Fld Z h0 a0 "java/lang/String" "coder" "B" (.int (1 : Int32))) (qc : Fld Z h0 a0 "java/lang/String" "value" "[B" (.ref v0)) (qd : Av Z h0 v0 .byte [(.int y0), (.int y1), (.int y2), (.int y3), (.int y4), (.int y5), (.int y6), (.int y7), (.int y8), (.int y9), (.int y10), (.int y11)]) (qb : Av Z h0 a3 .char ((.int z0) :: (.int z1) :: (.int z2) :: (.int z3) :: (.int z4) :: (.int z5) :: tl)) (qg : n0 ≤ a3) (qn : a0 ≠ a3) (qi : v0 ≠ a3) (qj : Sta Z Z.heap "java/lang/StringUTF16" "$assertionsDisabled" "Z" (.int (1 : Int32))) (qk : Sta Z Z.heap "java/lang/StringUTF16" "HI_BYTE_SHIFT" "I" (.int (0 : Int32))) (ql : Sta Z Z.heap "java/lang/StringUTF16" "LO_BYTE_SHIFT" "I" (.int (8 : Int32))) (qh : Sta Z Z.heap "java/lang/String" "COMPACT_STRINGS" "Z" (.int G1)) (P5 : ¬ G1 = (0 : Int32)) (Od : Old Z n0 h0) (qe : Sta Z Z.heap "jdk/internal/util/Preconditions" "SIOOBE_FORMATTER" "Ljava/util/function/BiFunction;" G3) (rG3 : G3.isRef = true) (hN : (tl.length + 6).toInt32 = nz) (p1 : ¬ ((nz ||| (0 : Int32)) ||| (6 : Int32)) < (0 : Int32)) (p2 : ¬ (nz - (0 : Int32)) < (6 : Int32)) :
    Rm l Z (⟨"java/lang/String", "getChars", "(II[CI)V"⟩ : MethodName) jdk_42_method_61_code 5 none ws ({ frames := 4, cells := 0, slots := 0, locals := 60 } : Room) #[(.ref a0), (.int (0 : Int32)), (.int (6 : Int32)), (.ref a3), (.int (0 : Int32))] h0 (fun v h L => v = none ∧ Fr n0 L ∧ Keep h0 h [a3] ∧ Av Z h a3 .char ((.int (nar .char (nar .char ((((y0 &&& (255 : Int32)) <<< ((0 : Int32) &&& 31)) ||| ((y1 &&& (255 : Int32)) <<< ((8 : Int32) &&& 31))).toUInt32.toUInt16.toUInt32.toInt32)))) :: (.int (nar .char (nar .char ((((y2 &&& (255 : Int32)) <<< ((0 : Int32) &&& 31)) ||| ((y3 &&& (255 : Int32)) <<< ((8 : Int32) &&& 31))).toUInt32.toUInt16.toUInt32.toInt32)))) :: (.int (nar .char (nar .char ((((y4 &&& (255 : Int32)) <<< ((0 : Int32) &&& 31)) ||| ((y5 &&& (255 : Int32)) <<< ((8 : Int32) &&& 31))).toUInt32.toUInt16.toUInt32.toInt32)))) :: (.int (nar .char (nar .char ((((y6 &&& (255 : Int32)) <<< ((0 : Int32) &&& 31)) ||| ((y7 &&& (255 : Int32)) <<< ((8 : Int32) &&& 31))).toUInt32.toUInt16.toUInt32.toInt32)))) :: (.int (nar .char (nar .char ((((y8 &&& (255 : Int32)) <<< ((0 : Int32) &&& 31)) ||| ((y9 &&& (255 : Int32)) <<< ((8 : Int32) &&& 31))).toUInt32.toUInt16.toUInt32.toInt32)))) :: (.int (nar .char (nar .char ((((y10 &&& (255 : Int32)) <<< ((0 : Int32) &&& 31)) ||| ((y11 &&& (255 : Int32)) <<< ((8 : Int32) &&& 31))).toUInt32.toUInt16.toUInt32.toInt32)))) :: tl)) := by
 refine Rm.of (plainFor_of_name pn_1) ?_
 intro p e s m below meth cc T X hnm hret hlk
 refine Go.at_ (ef_rSg1 m a0 (0 : Int32) (6 : Int32) a3 (0 : Int32)) ?_
 have N := Fr.nil n0
 have Kp := Keep.refl h0 [a3]
 refine g_iloadN X d17_0 (pc' := 1) rfl rfl ?_
 refine g_iloadN X d17_1 (pc' := 2) rfl rfl ?_
 refine g_aloadN X d17_2 (pc' := 3) rfl rfl rfl ?_
 refine g_virtual X (W := 2) (a := a0) (C := "java/lang/String") [] [(.int (6 : Int32)), (.int (0 : Int32))] qa (tb hw 95 rfl) (tb hw 54 rfl) (tb hw 56 rfl) (tb hw 55 rfl) (tb hw 23 rfl) (tb hw 57 rfl) (rLen1 l Z aa hw [] a0 G1 v0 y0 y1 y2 y3 y4 y5 y6 y7 y8 y9 y10 y11 _ qa qf qc qd (qh.ext Od.2) P5) d17_3 (pc' := 6) rfl (by decide) (by decide) (by decide) rfl rfl rfl (lenOf pd_14 rfl) (Nat.le_refl _) (by decide) (by decide) ?_
 intro v T L X q
 obtain ⟨rfl, X⟩ := pureX X q
 show Go p e below _ (T.setTop (mkF m 6 _ [(.int (6 : Int32)), (.int (6 : Int32)), (.int (0 : Int32))]))
 refine g_static X (W := 0) [(.int (0 : Int32)), (.int (6 : Int32)), (.int (6 : Int32))] [] (tb hw 96 rfl) (tb hw 97 rfl) (tb hw 23 rfl) (tb hw 98 rfl) (rCbe l Z aa hw [] G3 _ rG3 (qe.ext Od.2)) d17_6 (pc' := 9) rfl (by decide) (by decide) (by decide) rfl rfl rfl (lenOf pd_15 rfl) (Nat.le_refl _) (by decide) (by decide) ?_
 intro v T L X q
 obtain ⟨rfl, X⟩ := pureXV X q
 show Go p e below _ (T.setTop (mkF m 9 _ []))
 refine g_iload X d17_9 (pc' := 11) rfl rfl ?_
 refine g_iloadN X d17_11 (pc' := 12) rfl rfl ?_
 refine g_iloadN X d17_12 (pc' := 13) rfl rfl ?_
 refine g_isub X d17_13 (pc' := 14) rfl ?_
 refine Go.lit32 (z := (6 : Int32)) (by decide) ?_
 refine g_aloadN X d17_14 (pc' := 15) rfl rfl rfl ?_
 refine g_arraylength X qb d17_15 (pc' := 16) rfl (z := nz) hN ?_
 refine g_static X (W := 0) [(.int (0 : Int32)), (.int (6 : Int32)), (.int nz)] [] (tb hw 104 rfl) (tb hw 105 rfl) (tb hw 23 rfl) (tb hw 106 rfl) (rCbo l Z aa hw [] nz G3 _ rG3 p1 p2 (qe.ext Od.2)) d17_16 (pc' := 19) rfl (by decide) (by decide) (by decide) rfl rfl rfl (lenOf pd_11 rfl) (Nat.le_refl _) (by decide) (by decide) ?_
 intro v T L X q
 obtain ⟨rfl, X⟩ := pureX X q
 show Go p e below _ (T.setTop (mkF m 19 _ [(.int (0 : Int32))]))
 refine g_pop X d17_19 (pc' := 20) rfl rfl ?_
 refine g_aloadN X d17_20 (pc' := 21) rfl rfl rfl ?_
 refine g_virtual X (W := 0) (a := a0) (C := "java/lang/String") [] [] qa (tb hw 110 rfl) (tb hw 111 rfl) (tb hw 113 rfl) (tb hw 112 rfl) (tb hw 23 rfl) (tb hw 114 rfl) (rLat1 l Z aa hw [] a0 G1 v0 y0 y1 y2 y3 y4 y5 y6 y7 y8 y9 y10 y11 _ qa qf qc qd (qh.ext Od.2) P5) d17_21 (pc' := 24) rfl (by decide) (by decide) (by decide) rfl rfl rfl (lenOf pd_16 rfl) (Nat.le_refl _) (by decide) (by decide) ?_
 intro v T L X q
 obtain ⟨rfl, X⟩ := pureX X q
 show Go p e below _ (T.setTop (mkF m 24 _ [(.int (0 : Int32))]))
 refine g_ifY X d17_24 ((if0 _ _).trans (teq (show (0 : Int32) = (0 : Int32) from (by decide))).1) (pc' := 42) (by decide) (by decide) ?_
 refine g_aloadN X d17_42 (pc' := 43) rfl rfl rfl ?_
 refine g_getfield X (host := "") (Or.inl (tb hw 46 rfl)) Via.refl qc d17_43 (pc' := 46) rfl ?_
 intro T X
 refine g_iloadN X d17_46 (pc' := 47) rfl rfl ?_
 refine g_iloadN X d17_47 (pc' := 48) rfl rfl ?_
 refine g_aloadN X d17_48 (pc' := 49) rfl rfl rfl ?_
 refine g_iload X d17_49 (pc' := 51) rfl rfl ?_
 refine g_static X (W := 0) [(.ref v0), (.int (0 : Int32)), (.int (6 : Int32)), (.ref a3), (.int (0 : Int32))] [] (tb hw 162 rfl) (tb hw 163 rfl) (tb hw 35 rfl) (tb hw 164 rfl) (rUgc l Z aa hw [] v0 a3 G3 y0 y1 y2 y3 y4 y5 y6 y7 y8 y9 y10 y11 z0 z1 z2 z3 z4 z5 tl _ n0 Z0 qd qb qg qi qj qk ql Od qe rG3) d17_51 (pc' := 54) rfl (by decide) (by decide) (by decide) rfl rfl rfl (lenOf pd_17 rfl) (Nat.le_refl _) (by decide) (by decide) ?_
 intro v T L X q
 obtain ⟨rfl, Nq, Kq, qm⟩ := q
 replace N := N.app Nq
 replace Od := Od.keep Kq (allS qg all0)
 replace Z0 := Nat.le_trans Z0 Kq.1
 replace Kp := Kp.trans Kq (allS (Or.inl (List.mem_of_getElem? (i := 0) rfl)) all0)
 replace qb := qm
 show Go p e below _ (T.setTop (mkF m 54 _ []))
 refine g_return X d17_54 hret hlk (by decide) (by decide) ?_
 exact ⟨rfl, N, Kp, qb⟩
theorem d14_0 : decode jdk_29_method_70_code 0 = .ok (.lload_n 0, 1) := by decide +kernel
theorem d14_1 : decode jdk_29_method_70_code 1 = .ok (.lload_n 2, 1) := by decide +kernel
theorem d14_2 : decode jdk_29_method_70_code 2 = .ok (.lcmp, 1) := by decide +kernel
theorem d14_3 : decode jdk_29_method_70_code 3 = .ok (.ifCond .gt 7, 3) := by decide +kernel
theorem d14_10 : decode jdk_29_method_70_code 10 = .ok (.lload_n 2, 1) := by decide +kernel
theorem d14_11 : decode jdk_29_method_70_code 11 = .ok (.lreturn, 1) := by decide +kernel
theorem ef_rMinJ (m : MethodId) (x0 : Int64) (x1 : Int64) : entryFrame m #[(.long x0), (.long x1)] 4 = mkF m 0 #[.val (.long x0), .second, .val (.long x1), .second] [] := by first | (simp [entryFrame, mkF, argsToLocals, Value.category]; done) | rfl
set_option maxRecDepth 65536 in
set_option maxHeartbeats 40000000 in
theorem rMinJ (l : Launch) (Z : State) (aa : Array Value) (hw : ∀ d ∈ tables_1, d.before aa Z = true) (ws : List Jvm.Cond)  (h0 : Heap) :
    Rm l Z (⟨"java/lang/Math", "min", "(JJ)J"⟩ : MethodName) jdk_29_method_70_code 4 (some .long) ws ({ frames := 0, cells := 0, slots := 0, locals := 0 } : Room) #[(.long (2147483639 : Int64)), (.long (0 : Int64))] h0 (Pu (.long (0 : Int64)) h0) := by
 refine Rm.of (Jvm.Free.JP.mathPlain rfl (by decide +kernel)) ?_
 intro p e s m below meth cc T X hnm hret hlk
 refine Go.at_ (ef_rMinJ m (2147483639 : Int64) (0 : Int64)) ?_
 refine g_lloadN X d14_0 (pc' := 1) rfl rfl ?_
 refine g_lloadN X d14_1 (pc' := 2) rfl rfl ?_
 refine g_lcmp X d14_2 (pc' := 3) rfl ?_
 refine g_ifY X d14_3 ((if0 _ _).trans (tlt ((lw_gt (2147483639 : Int64) (0 : Int64)).mpr (show (0 : Int64) < (2147483639 : Int64) from (by decide)))).2.2.1) (pc' := 10) (by decide) (by decide) ?_
 refine g_lloadN X d14_10 (pc' := 11) rfl rfl ?_
 refine g_lreturn X d14_11 hret hlk (by decide) (by decide) ?_
 exact ⟨rfl, rfl, rfl⟩
theorem d15_0 : decode jdk_29_method_66_code 0 = .ok (.lload_n 0, 1) := by decide +kernel
theorem d15_1 : decode jdk_29_method_66_code 1 = .ok (.lload_n 2, 1) := by decide +kernel
theorem d15_2 : decode jdk_29_method_66_code 2 = .ok (.lcmp, 1) := by decide +kernel
theorem d15_3 : decode jdk_29_method_66_code 3 = .ok (.ifCond .lt 7, 3) := by decide +kernel
theorem d15_6 : decode jdk_29_method_66_code 6 = .ok (.lload_n 0, 1) := by decide +kernel
theorem d15_7 : decode jdk_29_method_66_code 7 = .ok (.goto 4, 3) := by decide +kernel
theorem d15_11 : decode jdk_29_method_66_code 11 = .ok (.lreturn, 1) := by decide +kernel
theorem ef_rMaxJ (m : MethodId) (x0 : Int64) (x1 : Int64) : entryFrame m #[(.long x0), (.long x1)] 4 = mkF m 0 #[.val (.long x0), .second, .val (.long x1), .second] [] := by first | (simp [entryFrame, mkF, argsToLocals, Value.category]; done) | rfl
set_option maxRecDepth 65536 in
set_option maxHeartbeats 40000000 in
theorem rMaxJ (l : Launch) (Z : State) (aa : Array Value) (hw : ∀ d ∈ tables_1, d.before aa Z = true) (ws : List Jvm.Cond)  (h0 : Heap) :
    Rm l Z (⟨"java/lang/Math", "max", "(JJ)J"⟩ : MethodName) jdk_29_method_66_code 4 (some .long) ws ({ frames := 0, cells := 0, slots := 0, locals := 0 } : Room) #[(.long (6 : Int64)), (.long (0 : Int64))] h0 (Pu (.long (6 : Int64)) h0) := by
 refine Rm.of (Jvm.Free.JP.mathPlain rfl (by decide +kernel)) ?_
 intro p e s m below meth cc T X hnm hret hlk
 refine Go.at_ (ef_rMaxJ m (6 : Int64) (0 : Int64)) ?_
 refine g_lloadN X d15_0 (pc' := 1) rfl rfl ?_
 refine g_lloadN X d15_1 (pc' := 2) rfl rfl ?_
 refine g_lcmp X d15_2 (pc' := 3) rfl ?_
 refine g_ifN X d15_3 ((if0 _ _).trans (flt (fun q => (show ¬ ((6 : Int64) < (0 : Int64)) from (by decide)) ((lw_lt (6 : Int64) (0 : Int64)).mp q))).1) (pc' := 6) rfl ?_
 refine g_lloadN X d15_6 (pc' := 7) rfl rfl ?_
 refine g_goto X d15_7 (pc' := 11) (by decide) (by decide) ?_
 refine g_lreturn X d15_11 hret hlk (by decide) (by decide) ?_
 exact ⟨rfl, rfl, rfl⟩
theorem d16_0 : decode jdk_29_method_65_code 0 = .ok (.iload_n 0, 1) := by decide +kernel
theorem d16_1 : decode jdk_29_method_65_code 1 = .ok (.iload_n 1, 1) := by decide +kernel
theorem d16_2 : decode jdk_29_method_65_code 2 = .ok (.if_icmp .lt 7, 3) := by decide +kernel
theorem d16_9 : decode jdk_29_method_65_code 9 = .ok (.iload_n 1, 1) := by decide +kernel
theorem d16_10 : decode jdk_29_method_65_code 10 = .ok (.ireturn, 1) := by decide +kernel
theorem d16_5 : decode jdk_29_method_65_code 5 = .ok (.iload_n 0, 1) := by decide +kernel
theorem d16_6 : decode jdk_29_method_65_code 6 = .ok (.goto 4, 3) := by decide +kernel
def fMax (i0 : Int32) (i1 : Int32) : Int32 := if i0 < i1 then (i1) else (i0)
theorem ef_rMaxI (m : MethodId) (x0 : Int32) (x1 : Int32) : entryFrame m #[(.int x0), (.int x1)] 2 = mkF m 0 #[.val (.int x0), .val (.int x1)] [] := by first | (simp [entryFrame, mkF, argsToLocals, Value.category]; done) | rfl
set_option maxRecDepth 65536 in
set_option maxHeartbeats 40000000 in
theorem rMaxI (l : Launch) (Z : State) (aa : Array Value) (hw : ∀ d ∈ tables_1, d.before aa Z = true) (ws : List Jvm.Cond) (i0 : Int32) (i1 : Int32) (h0 : Heap) :
    Rm l Z (⟨"java/lang/Math", "max", "(II)I"⟩ : MethodName) jdk_29_method_65_code 2 (some .int) ws ({ frames := 0, cells := 0, slots := 0, locals := 0 } : Room) #[(.int i0), (.int i1)] h0 (Pu (.int (fMax i0 i1)) h0) := by
 refine Rm.of (Jvm.Free.JP.mathPlain rfl (by decide +kernel)) ?_
 intro p e s m below meth cc T X hnm hret hlk
 refine Go.at_ (ef_rMaxI m i0 i1) ?_
 refine g_iloadN X d16_0 (pc' := 1) rfl rfl ?_
 refine g_iloadN X d16_1 (pc' := 2) rfl rfl ?_
 by_cases qa : i0 < i1
 refine g_icY X d16_2 (tlt qa).1 (pc' := 9) (by decide) (by decide) ?_
 refine g_iloadN X d16_9 (pc' := 10) rfl rfl ?_
 refine g_ireturn X d16_10 hret hlk (by decide) (by decide) ?_
 exact ⟨congrArg (fun z => some (Value.int z)) (Eq.symm (show fMax i0 i1 = _ from (Eq.trans (if_pos qa) rfl))), rfl, rfl⟩
 refine g_icN X d16_2 (flt qa).1 (pc' := 5) rfl ?_
 refine g_iloadN X d16_5 (pc' := 6) rfl rfl ?_
 refine g_goto X d16_6 (pc' := 10) (by decide) (by decide) ?_
 refine g_ireturn X d16_10 hret hlk (by decide) (by decide) ?_
 exact ⟨congrArg (fun z => some (Value.int z)) (Eq.symm (show fMax i0 i1 = _ from (Eq.trans (if_neg qa) rfl))), rfl, rfl⟩
theorem pn_4 : plainName "com/example/scheherazade/scheherazade/core/ArrayLengths" = true := by first | (simp [plainName, overriddenIn]; done) | decide +kernel
theorem d13_0 : decode prog_1_method_2_code 0 = .ok (.iload_n 1, 1) := by decide +kernel
theorem d13_1 : decode prog_1_method_2_code 1 = .ok (.ifCond .lt 9, 3) := by decide +kernel
theorem d13_4 : decode prog_1_method_2_code 4 = .ok (.iload_n 1, 1) := by decide +kernel
theorem d13_5 : decode prog_1_method_2_code 5 = .ok (.ldc 11, 2) := by decide +kernel
theorem d13_7 : decode prog_1_method_2_code 7 = .ok (.if_icmp .le 13, 3) := by decide +kernel
theorem d13_20 : decode prog_1_method_2_code 20 = .ok (.iload_n 1, 1) := by decide +kernel
theorem d13_21 : decode prog_1_method_2_code 21 = .ok (.i2l, 1) := by decide +kernel
theorem d13_22 : decode prog_1_method_2_code 22 = .ok (.ldc2_w 19, 3) := by decide +kernel
theorem d13_25 : decode prog_1_method_2_code 25 = .ok (.ldc2_w 21, 3) := by decide +kernel
theorem d13_28 : decode prog_1_method_2_code 28 = .ok (.iload_n 0, 1) := by decide +kernel
theorem d13_29 : decode prog_1_method_2_code 29 = .ok (.i2l, 1) := by decide +kernel
theorem d13_30 : decode prog_1_method_2_code 30 = .ok (.lmul, 1) := by decide +kernel
theorem d13_31 : decode prog_1_method_2_code 31 = .ok (.invokestatic 23, 3) := by decide +kernel
theorem pd_18 : parseMethodDescriptor "(JJ)J" = some ⟨[.long, .long], some .long⟩ := by decide +kernel
theorem d13_34 : decode prog_1_method_2_code 34 = .ok (.invokestatic 29, 3) := by decide +kernel
theorem d13_37 : decode prog_1_method_2_code 37 = .ok (.l2i, 1) := by decide +kernel
theorem d13_38 : decode prog_1_method_2_code 38 = .ok (.ireturn, 1) := by decide +kernel
theorem ef_rGrn (m : MethodId) (x0 : Int32) (x1 : Int32) : entryFrame m #[(.int x0), (.int x1)] 2 = mkF m 0 #[.val (.int x0), .val (.int x1)] [] := by first | (simp [entryFrame, mkF, argsToLocals, Value.category]; done) | rfl
set_option maxRecDepth 65536 in
set_option maxHeartbeats 40000000 in
theorem rGrn (l : Launch) (Z : State) (aa : Array Value) (hw : ∀ d ∈ tables_1, d.before aa Z = true) (ws : List Jvm.Cond)  (h0 : Heap) :
    Rm l Z (⟨"com/example/scheherazade/scheherazade/core/ArrayLengths", "grown", "(II)I"⟩ : MethodName) prog_1_method_2_code 2 (some .int) ws ({ frames := 1, cells := 0, slots := 0, locals := 17 } : Room) #[(.int (0 : Int32)), (.int (6 : Int32))] h0 (Pu (.int (6 : Int32)) h0) := by
 refine Rm.of (plainFor_of_name pn_4) ?_
 intro p e s m below meth cc T X hnm hret hlk
 refine Go.at_ (ef_rGrn m (0 : Int32) (6 : Int32)) ?_
 refine g_iloadN X d13_0 (pc' := 1) rfl rfl ?_
 refine g_ifN X d13_1 ((if0 _ _).trans (flt (show ¬ ((6 : Int32) < (0 : Int32)) from (by decide))).1) (pc' := 4) rfl ?_
 refine g_iloadN X d13_4 (pc' := 5) rfl rfl ?_
 refine g_ldc X (tb hw 73 rfl) d13_5 (pc' := 7) rfl ?_
 refine g_icY X d13_7 (flt (show ¬ ((2147483639 : Int32) < (6 : Int32)) from (by decide))).2.2.2 (pc' := 20) (by decide) (by decide) ?_
 refine g_iloadN X d13_20 (pc' := 21) rfl rfl ?_
 refine g_i2l X d13_21 (pc' := 22) rfl ?_
 refine Go.lit64 (z := (6 : Int64)) (by decide) ?_
 refine g_ldc2 X (tb hw 74 rfl) d13_22 (pc' := 25) rfl ?_
 refine g_ldc2 X (tb hw 75 rfl) d13_25 (pc' := 28) rfl ?_
 refine g_iloadN X d13_28 (pc' := 29) rfl rfl ?_
 refine g_i2l X d13_29 (pc' := 30) rfl ?_
 refine Go.lit64 (z := (0 : Int64)) (by decide) ?_
 refine g_lmul X d13_30 (pc' := 31) rfl ?_
 refine Go.lit64 (z := (0 : Int64)) (by decide) ?_
 refine g_static X (W := 2) [(.long (2147483639 : Int64)), (.long (0 : Int64))] [(.long (6 : Int64))] (tb hw 76 rfl) (tb hw 77 rfl) (tb hw 78 rfl) (tb hw 79 rfl) (rMinJ l Z aa hw []  _) d13_31 (pc' := 34) rfl (by decide) (by decide) (by decide) rfl rfl rfl (lenOf pd_18 rfl) (Nat.le_refl _) (by decide) (by decide) ?_
 intro v T L X q
 obtain ⟨rfl, X⟩ := pureX X q
 show Go p e below _ (T.setTop (mkF m 34 _ [(.long (0 : Int64)), (.long (6 : Int64))]))
 refine g_static X (W := 0) [(.long (6 : Int64)), (.long (0 : Int64))] [] (tb hw 80 rfl) (tb hw 81 rfl) (tb hw 78 rfl) (tb hw 82 rfl) (rMaxJ l Z aa hw []  _) d13_34 (pc' := 37) rfl (by decide) (by decide) (by decide) rfl rfl rfl (lenOf pd_18 rfl) (Nat.le_refl _) (by decide) (by decide) ?_
 intro v T L X q
 obtain ⟨rfl, X⟩ := pureX X q
 show Go p e below _ (T.setTop (mkF m 37 _ [(.long (6 : Int64))]))
 refine g_l2i X d13_37 (pc' := 38) rfl ?_
 refine Go.lit32 (z := (6 : Int32)) (by decide) ?_
 refine g_ireturn X d13_38 hret hlk (by decide) (by decide) ?_
 exact ⟨rfl, rfl, rfl⟩
theorem pn_5 : plainName "com/example/scheherazade/scheherazade/core/TextBuilder" = true := by first | (simp [plainName, overriddenIn]; done) | decide +kernel
theorem d2_0 : decode prog_14_method_1_code 0 = .ok (.aload_n 0, 1) := by decide +kernel
theorem d2_1 : decode prog_14_method_1_code 1 = .ok (.invokespecial 1, 3) := by decide +kernel
theorem d2_4 : decode prog_14_method_1_code 4 = .ok (.aload_n 0, 1) := by decide +kernel
theorem d2_5 : decode prog_14_method_1_code 5 = .ok (.getstatic 7, 3) := by decide +kernel
theorem d2_8 : decode prog_14_method_1_code 8 = .ok (.putfield 13, 3) := by decide +kernel
theorem d2_11 : decode prog_14_method_1_code 11 = .ok (.aload_n 0, 1) := by decide +kernel
theorem d2_12 : decode prog_14_method_1_code 12 = .ok (.iload_n 1, 1) := by decide +kernel
theorem d2_13 : decode prog_14_method_1_code 13 = .ok (.putfield 16, 3) := by decide +kernel
theorem d2_16 : decode prog_14_method_1_code 16 = .ok (.return_, 1) := by decide +kernel
theorem ef_rTbi (m : MethodId) (x0 : Addr) (x1 : Int32) : entryFrame m #[(.ref x0), (.int x1)] 2 = mkF m 0 #[.val (.ref x0), .val (.int x1)] [] := by first | (simp [entryFrame, mkF, argsToLocals, Value.category]; done) | rfl
set_option maxRecDepth 65536 in
set_option maxHeartbeats 40000000 in
theorem rTbi (l : Launch) (Z : State) (aa : Array Value) (hw : ∀ d ∈ tables_1, d.before aa Z = true) (ws : List Jvm.Cond) (a0 : Addr) (i1 : Int32) (nc : Addr) (h0 : Heap) (n0 : Nat) (Z0 : n0 ≤ h0.size) (qa : Exa Z h0 a0 "com/example/scheherazade/scheherazade/core/TextBuilder") (qb : Fld Z h0 a0 "com/example/scheherazade/scheherazade/core/TextBuilder" "chars" "[C" .null) (qc : Fld Z h0 a0 "com/example/scheherazade/scheherazade/core/TextBuilder" "capacity" "I" (.int (0 : Int32))) (qd : Fld Z h0 a0 "com/example/scheherazade/scheherazade/core/TextBuilder" "length" "I" (.int (0 : Int32))) (qe : n0 ≤ a0) (qf : Sta Z Z.heap "com/example/scheherazade/scheherazade/core/TextBuilder" "NO_CHARS" "[C" (.ref nc)) (Od : Old Z n0 h0) :
    Rm l Z (⟨"com/example/scheherazade/scheherazade/core/TextBuilder", "<init>", "(I)V"⟩ : MethodName) prog_14_method_1_code 2 none ws ({ frames := 1, cells := 0, slots := 0, locals := 12 } : Room) #[(.ref a0), (.int i1)] h0 (fun v h L => v = none ∧ Fr n0 L ∧ Keep h0 h [a0] ∧ Exa Z h a0 "com/example/scheherazade/scheherazade/core/TextBuilder" ∧ Fld Z h a0 "com/example/scheherazade/scheherazade/core/TextBuilder" "chars" "[C" (.ref nc) ∧ Fld Z h a0 "com/example/scheherazade/scheherazade/core/TextBuilder" "capacity" "I" (.int i1) ∧ Fld Z h a0 "com/example/scheherazade/scheherazade/core/TextBuilder" "length" "I" (.int (0 : Int32))) := by
 refine Rm.of (plainFor_of_name pn_5) ?_
 intro p e s m below meth cc T X hnm hret hlk
 refine Go.at_ (ef_rTbi m a0 i1) ?_
 have N := Fr.nil n0
 have Kp := Keep.refl h0 [a0]
 refine g_aloadN X d2_0 (pc' := 1) rfl rfl rfl ?_
 refine g_initO X (W := 0) (tb hw 12 rfl) (tb hw 13 rfl) (tb hw 14 rfl) d2_1 (pc' := 4) rfl rfl (by decide) (Nat.le_refl _) (by decide) ?_
 intro T X
 refine g_aloadN X d2_4 (pc' := 5) rfl rfl rfl ?_
 refine g_getstatic X (host := "") (Or.inl (tb hw 15 rfl)) Via.refl (qf.ext Od.2) d2_5 (pc' := 8) rfl ?_
 intro T X
 refine g_putfield X (host := "") (Or.inl (tb hw 17 rfl)) Via.refl qb qa (Or.inl (tb hw 18 rfl)) (tb hw 7 rfl) (ty := (.array .char)) (by decide) rfl rfl d2_8 (pc' := 11) rfl ?_
 intro T h X W
 replace qa := qa.wr W
 replace qb := qb.same W
 replace qc := qc.other W (Or.inr (slot_ne (Or.inr (tb hw 20 rfl)) (Or.inl (tb hw 18 rfl)) (by decide) (t := .int) (t' := (.array .char)) (by decide) (by decide)))
 replace qd := qd.other W (Or.inr (slot_ne (Or.inl (tb hw 64 rfl)) (Or.inl (tb hw 18 rfl)) (by decide) (t := .int) (t' := (.array .char)) (by decide) (by decide)))
 replace Z0 := Nat.le_trans Z0 (Nat.le_of_eq W.size.symm)
 replace N := Fr.snoc X.1 N qe
 replace Kp := Kp.wr W (Or.inl (List.mem_of_getElem? (i := 0) rfl))
 replace Od := Od.wr W qe
 refine g_aloadN X d2_11 (pc' := 12) rfl rfl rfl ?_
 refine g_iloadN X d2_12 (pc' := 13) rfl rfl ?_
 refine g_putfield X (host := "") (Or.inl (tb hw 19 rfl)) Via.refl qc qa (Or.inr ⟨(tb hw 20 rfl), rfl, hnm⟩) (tb hw 7 rfl) (ty := .int) (by decide) rfl rfl d2_13 (pc' := 16) rfl ?_
 intro T h X W
 replace qa := qa.wr W
 replace qb := qb.other W (Or.inr (slot_ne (Or.inl (tb hw 18 rfl)) (Or.inr (tb hw 20 rfl)) (by decide) (t := (.array .char)) (t' := .int) (by decide) (by decide)))
 replace qc := qc.same W
 replace qd := qd.other W (Or.inr (slot_ne (Or.inl (tb hw 64 rfl)) (Or.inr (tb hw 20 rfl)) (by decide) (t := .int) (t' := .int) (by decide) (by decide)))
 replace Z0 := Nat.le_trans Z0 (Nat.le_of_eq W.size.symm)
 replace N := Fr.snoc X.1 N qe
 replace Kp := Kp.wr W (Or.inl (List.mem_of_getElem? (i := 0) rfl))
 replace Od := Od.wr W qe
 refine g_return X d2_16 hret hlk (by decide) (by decide) ?_
 exact ⟨rfl, N, Kp, qa, qb, qc, qd⟩
theorem fMax_in {cp : Int32} (h0 : 0 ≤ cp.toInt) (h1 : cp.toInt ≤ 15) : 6 ≤ (fMax 6 cp).toInt ∧ (fMax 6 cp).toInt ≤ 15 := by
  unfold fMax
  split <;> rename_i q <;> simp only [Int32.lt_iff_toInt_lt, Int32.reduceToInt] at q ⊢ <;> omega
theorem rep6 {z : Int32} (hz : 6 ≤ z.toInt) (x : Value) : ∃ tl, List.replicate z.toNatClampNeg x = x :: x :: x :: x :: x :: x :: tl ∧ (tl.length + 6).toInt32 = z := by
  have e : z.toNatClampNeg = z.toInt.toNat := rfl
  obtain ⟨n, hn⟩ : ∃ n, z.toNatClampNeg = n + 6 := ⟨z.toInt.toNat - 6, by omega⟩
  refine ⟨List.replicate n x, by rw [hn]; rfl, ?_⟩
  rw [List.length_replicate, ← hn]
  exact (back32 (by rw [Int32.lt_iff_toInt_lt]; simp only [Int32.reduceToInt]; omega)).1
theorem cap15 {z : Int32} (h0 : 6 ≤ z.toInt) (h1 : z.toInt ≤ 15) : ¬ z < 0 ∧ z.toNatClampNeg ≤ 15 := by
  refine ⟨by rw [Int32.lt_iff_toInt_lt]; simp only [Int32.reduceToInt]; omega, ?_⟩
  show z.toInt.toNat ≤ 15
  omega
theorem chk {z : Int32} (h0 : 6 ≤ z.toInt) (h1 : z.toInt ≤ 15) : ¬ ((z ||| (0 : Int32)) ||| (6 : Int32)) < (0 : Int32) ∧ ¬ (z - (0 : Int32)) < (6 : Int32) := by
  have a := c_or0 z 0 (by omega) (by decide)
  have b := c_or0 (z ||| 0) 6 (by omega) (by decide)
  have d := c_isub z 0
  have r := rng32 (z - 0)
  simp only [Int32.reduceToInt] at d
  refine ⟨?_, ?_⟩ <;> rw [Int32.lt_iff_toInt_lt] <;> simp only [Int32.reduceToInt] <;> omega
theorem d12_0 : decode prog_14_method_21_code 0 = .ok (.aload_n 0, 1) := by decide +kernel
theorem d12_1 : decode prog_14_method_21_code 1 = .ok (.getfield 13, 3) := by decide +kernel
theorem d12_4 : decode prog_14_method_21_code 4 = .ok (.arraylength, 1) := by decide +kernel
theorem d12_5 : decode prog_14_method_21_code 5 = .ok (.aload_n 0, 1) := by decide +kernel
theorem d12_6 : decode prog_14_method_21_code 6 = .ok (.getfield 20, 3) := by decide +kernel
theorem d12_9 : decode prog_14_method_21_code 9 = .ok (.iload_n 1, 1) := by decide +kernel
theorem d12_10 : decode prog_14_method_21_code 10 = .ok (.iadd, 1) := by decide +kernel
theorem d12_11 : decode prog_14_method_21_code 11 = .ok (.invokestatic 101, 3) := by decide +kernel
theorem pd_19 : parseMethodDescriptor "(II)I" = some ⟨[.int, .int], some .int⟩ := by decide +kernel
theorem d12_14 : decode prog_14_method_21_code 14 = .ok (.istore_n 2, 1) := by decide +kernel
theorem d12_15 : decode prog_14_method_21_code 15 = .ok (.iload_n 2, 1) := by decide +kernel
theorem d12_16 : decode prog_14_method_21_code 16 = .ok (.aload_n 0, 1) := by decide +kernel
theorem d12_17 : decode prog_14_method_21_code 17 = .ok (.getfield 16, 3) := by decide +kernel
theorem d12_20 : decode prog_14_method_21_code 20 = .ok (.invokestatic 107, 3) := by decide +kernel
theorem d12_23 : decode prog_14_method_21_code 23 = .ok (.newarray .char, 2) := by decide +kernel
theorem d12_25 : decode prog_14_method_21_code 25 = .ok (.astore_n 3, 1) := by decide +kernel
theorem d12_26 : decode prog_14_method_21_code 26 = .ok (.aload_n 0, 1) := by decide +kernel
theorem d12_27 : decode prog_14_method_21_code 27 = .ok (.getfield 13, 3) := by decide +kernel
theorem d12_30 : decode prog_14_method_21_code 30 = .ok (.iconst 0, 1) := by decide +kernel
theorem d12_31 : decode prog_14_method_21_code 31 = .ok (.aload_n 3, 1) := by decide +kernel
theorem d12_32 : decode prog_14_method_21_code 32 = .ok (.iconst 0, 1) := by decide +kernel
theorem d12_33 : decode prog_14_method_21_code 33 = .ok (.aload_n 0, 1) := by decide +kernel
theorem d12_34 : decode prog_14_method_21_code 34 = .ok (.getfield 20, 3) := by decide +kernel
theorem d12_37 : decode prog_14_method_21_code 37 = .ok (.invokestatic 42, 3) := by decide +kernel
theorem d12_40 : decode prog_14_method_21_code 40 = .ok (.aload_n 0, 1) := by decide +kernel
theorem d12_41 : decode prog_14_method_21_code 41 = .ok (.aload_n 3, 1) := by decide +kernel
theorem d12_42 : decode prog_14_method_21_code 42 = .ok (.putfield 13, 3) := by decide +kernel
theorem d12_45 : decode prog_14_method_21_code 45 = .ok (.return_, 1) := by decide +kernel
theorem ef_rGrow (m : MethodId) (x0 : Addr) (x1 : Int32) : entryFrame m #[(.ref x0), (.int x1)] 4 = mkF m 0 #[.val (.ref x0), .val (.int x1), .unset, .unset] [] := by first | (simp [entryFrame, mkF, argsToLocals, Value.category]; done) | rfl
set_option maxRecDepth 65536 in
set_option maxHeartbeats 40000000 in
theorem rGrow (l : Launch) (Z : State) (aa : Array Value) (hw : ∀ d ∈ tables_1, d.before aa Z = true) (ws : List Jvm.Cond) (a0 : Addr) (nc : Addr) (cp : Int32) (h0 : Heap) (n0 : Nat) (Z0 : n0 ≤ h0.size) (qb : Exa Z h0 a0 "com/example/scheherazade/scheherazade/core/TextBuilder") (qa : Fld Z h0 a0 "com/example/scheherazade/scheherazade/core/TextBuilder" "chars" "[C" (.ref nc)) (qc : Fld Z h0 a0 "com/example/scheherazade/scheherazade/core/TextBuilder" "length" "I" (.int (0 : Int32))) (qi : Fld Z h0 a0 "com/example/scheherazade/scheherazade/core/TextBuilder" "capacity" "I" (.int cp)) (qf : Av Z h0 nc .char []) (qj : n0 ≤ a0) (qn : nc ≠ a0) (hcp : 0 ≤ cp.toInt ∧ cp.toInt ≤ 15) :
    Rm l Z (⟨"com/example/scheherazade/scheherazade/core/TextBuilder", "grow", "(I)V"⟩ : MethodName) prog_14_method_21_code 4 none ws ({ frames := 2, cells := 1, slots := 15, locals := 30 } : Room) #[(.ref a0), (.int (6 : Int32))] h0 (fun v h L => ∃ (q : Addr) (tl : List Value), v = none ∧ Fr n0 L ∧ Keep h0 h [a0] ∧ h0.size ≤ q ∧ n0 ≤ q ∧ Exa Z h a0 "com/example/scheherazade/scheherazade/core/TextBuilder" ∧ Fld Z h a0 "com/example/scheherazade/scheherazade/core/TextBuilder" "chars" "[C" (.ref q) ∧ Fld Z h a0 "com/example/scheherazade/scheherazade/core/TextBuilder" "length" "I" (.int (0 : Int32)) ∧ Exa Z h q "[C" ∧ Av Z h q .char ((.int (0 : Int32)) :: (.int (0 : Int32)) :: (.int (0 : Int32)) :: (.int (0 : Int32)) :: (.int (0 : Int32)) :: (.int (0 : Int32)) :: tl) ∧ (tl.length + 6).toInt32 = fMax 6 cp) := by
 refine Rm.of (plainFor_of_name pn_5) ?_
 intro p e s m below meth cc T X hnm hret hlk
 refine Go.at_ (ef_rGrow m a0 (6 : Int32)) ?_
 have N := Fr.nil n0
 have Kp := Keep.refl h0 [a0]
 refine g_aloadN X d12_0 (pc' := 1) rfl rfl rfl ?_
 refine g_getfield X (host := "") (Or.inl (tb hw 17 rfl)) Via.refl qa d12_1 (pc' := 4) rfl ?_
 intro T X
 refine g_arraylength X qf d12_4 (pc' := 5) rfl (z := (0 : Int32)) rfl ?_
 refine g_aloadN X d12_5 (pc' := 6) rfl rfl rfl ?_
 refine g_getfield X (host := "") (Or.inl (tb hw 63 rfl)) Via.refl qc d12_6 (pc' := 9) rfl ?_
 intro T X
 refine g_iloadN X d12_9 (pc' := 10) rfl rfl ?_
 refine g_iadd X d12_10 (pc' := 11) rfl ?_
 refine Go.lit32 (z := (6 : Int32)) (by decide) ?_
 refine g_static X (W := 0) [(.int (0 : Int32)), (.int (6 : Int32))] [] (tb hw 69 rfl) (tb hw 70 rfl) (tb hw 71 rfl) (tb hw 72 rfl) (rGrn l Z aa hw []  _) d12_11 (pc' := 14) rfl (by decide) (by decide) (by decide) rfl rfl rfl (lenOf pd_19 rfl) (Nat.le_refl _) (by decide) (by decide) ?_
 intro v T L X q
 obtain ⟨rfl, X⟩ := pureX X q
 show Go p e below _ (T.setTop (mkF m 14 _ [(.int (6 : Int32))]))
 refine g_istoreN X d12_14 (pc' := 15) (Ls' := #[.val (.ref a0), .val (.int (6 : Int32)), .val (.int (6 : Int32)), .unset]) rfl rfl ?_
 refine g_iloadN X d12_15 (pc' := 16) rfl rfl ?_
 refine g_aloadN X d12_16 (pc' := 17) rfl rfl rfl ?_
 refine g_getfield X (host := "") (Or.inl (tb hw 19 rfl)) Via.refl qi d12_17 (pc' := 20) rfl ?_
 intro T X
 refine g_static X (W := 0) [(.int (6 : Int32)), (.int cp)] [] (tb hw 83 rfl) (tb hw 84 rfl) (tb hw 78 rfl) (tb hw 85 rfl) (rMaxI l Z aa hw [] (6 : Int32) cp _) d12_20 (pc' := 23) rfl (by decide) (by decide) (by decide) rfl rfl rfl (lenOf pd_19 rfl) (Nat.le_refl _) (by decide) (by decide) ?_
 intro v T L X q
 obtain ⟨rfl, X⟩ := pureX X q
 show Go p e below _ (T.setTop (mkF m 23 _ [(.int (fMax (6 : Int32) cp))]))
 refine g_newarray X _ (tb hw 0 rfl) d12_23 (pc' := 25) rfl (cap15 (fMax_in hcp.1 hcp.2).1 (fMax_in hcp.1 hcp.2).2).1 rfl 15 (cap15 (fMax_in hcp.1 hcp.2).1 (fMax_in hcp.1 hcp.2).2).2 (by decide) (by decide) (by decide) rfl (ad := "[C") (by decide) ?_
 intro T h qd qg X Ex qh qe
 have qk : a0 ≠ qd := Nat.ne_of_lt (by rw [qg]; exact qb.lt)
 have ql : n0 ≤ qd := by rw [qg]; exact Z0
 have qm : h0.size ≤ qd := by rw [qg]; exact Kp.1
 replace qb := qb.ext Ex
 replace qa := qa.ext Ex
 replace qc := qc.ext Ex
 replace qf := qf.ext Ex
 replace Z0 := Nat.le_trans Z0 Ex.1
 replace Kp := Kp.ext Ex
 replace qe : Av Z h qd .char (List.replicate (fMax (6 : Int32) cp).toNatClampNeg (.int (0 : Int32))) := qe
 refine g_astoreN X d12_25 (pc' := 26) (Ls' := #[.val (.ref a0), .val (.int (6 : Int32)), .val (.int (6 : Int32)), .val (.ref qd)]) rfl rfl rfl ?_
 refine g_aloadN X d12_26 (pc' := 27) rfl rfl rfl ?_
 refine g_getfield X (host := "") (Or.inl (tb hw 17 rfl)) Via.refl qa d12_27 (pc' := 30) rfl ?_
 intro T X
 refine g_iconst X (0 : Int32) d12_30 (pc' := 31) rfl rfl ?_
 refine g_aloadN X d12_31 (pc' := 32) rfl rfl rfl ?_
 refine g_iconst X (0 : Int32) d12_32 (pc' := 33) rfl rfl ?_
 refine g_aloadN X d12_33 (pc' := 34) rfl rfl rfl ?_
 refine g_getfield X (host := "") (Or.inl (tb hw 63 rfl)) Via.refl qc d12_34 (pc' := 37) rfl ?_
 intro T X
 refine g_acopy0 X (W := 0) (tb hw 86 rfl) (tb hw 89 rfl) (tb hw 87 rfl) (tb hw 88 rfl) qf qe rfl d12_37 (pc' := 40) rfl rfl (by decide) (Nat.le_refl _) (by decide) ?_
 intro T X
 refine g_aloadN X d12_40 (pc' := 41) rfl rfl rfl ?_
 refine g_aloadN X d12_41 (pc' := 42) rfl rfl rfl ?_
 refine g_putfield X (host := "") (Or.inl (tb hw 17 rfl)) Via.refl qa qb (Or.inl (tb hw 18 rfl)) (tb hw 7 rfl) (ty := (.array .char)) (by decide) rfl rfl d12_42 (pc' := 45) rfl ?_
 intro T h X W
 replace qb := qb.wr W
 replace qa := qa.same W
 replace qc := qc.other W (Or.inr (slot_ne (Or.inl (tb hw 64 rfl)) (Or.inl (tb hw 18 rfl)) (by decide) (t := .int) (t' := (.array .char)) (by decide) (by decide)))
 replace qh := qh.wr W
 replace qe := qe.other W (Ne.symm qk)
 replace Z0 := Nat.le_trans Z0 (Nat.le_of_eq W.size.symm)
 replace N := Fr.snoc X.1 N qj
 replace Kp := Kp.wr W (Or.inl (List.mem_of_getElem? (i := 0) rfl))
 refine g_return X d12_45 hret hlk (by decide) (by decide) ?_
 obtain ⟨tl, et, hN⟩ := rep6 (fMax_in hcp.1 hcp.2).1 (.int (0 : Int32))
 exact ⟨qd, tl, rfl, N, Kp, qm, ql, qb, qa, qc, qh, qe.eq et, hN⟩
theorem d9_0 : decode prog_14_method_11_code 0 = .ok (.aload_n 1, 1) := by decide +kernel
theorem d9_1 : decode prog_14_method_11_code 1 = .ok (.invokevirtual 48, 3) := by decide +kernel
theorem d9_4 : decode prog_14_method_11_code 4 = .ok (.istore_n 2, 1) := by decide +kernel
theorem d9_5 : decode prog_14_method_11_code 5 = .ok (.aload_n 0, 1) := by decide +kernel
theorem d9_6 : decode prog_14_method_11_code 6 = .ok (.getfield 20, 3) := by decide +kernel
theorem d9_9 : decode prog_14_method_11_code 9 = .ok (.iload_n 2, 1) := by decide +kernel
theorem d9_10 : decode prog_14_method_11_code 10 = .ok (.iadd, 1) := by decide +kernel
theorem d9_11 : decode prog_14_method_11_code 11 = .ok (.aload_n 0, 1) := by decide +kernel
theorem d9_12 : decode prog_14_method_11_code 12 = .ok (.getfield 13, 3) := by decide +kernel
theorem d9_15 : decode prog_14_method_11_code 15 = .ok (.arraylength, 1) := by decide +kernel
theorem d9_16 : decode prog_14_method_11_code 16 = .ok (.if_icmp .le 8, 3) := by decide +kernel
theorem d9_19 : decode prog_14_method_11_code 19 = .ok (.aload_n 0, 1) := by decide +kernel
theorem d9_20 : decode prog_14_method_11_code 20 = .ok (.iload_n 2, 1) := by decide +kernel
theorem d9_21 : decode prog_14_method_11_code 21 = .ok (.invokevirtual 38, 3) := by decide +kernel
theorem pd_20 : parseMethodDescriptor "(I)V" = some ⟨[.int], none⟩ := by decide +kernel
theorem d9_24 : decode prog_14_method_11_code 24 = .ok (.aload_n 1, 1) := by decide +kernel
theorem d9_25 : decode prog_14_method_11_code 25 = .ok (.iconst 0, 1) := by decide +kernel
theorem d9_26 : decode prog_14_method_11_code 26 = .ok (.iload_n 2, 1) := by decide +kernel
theorem d9_27 : decode prog_14_method_11_code 27 = .ok (.aload_n 0, 1) := by decide +kernel
theorem d9_28 : decode prog_14_method_11_code 28 = .ok (.getfield 13, 3) := by decide +kernel
theorem d9_31 : decode prog_14_method_11_code 31 = .ok (.aload_n 0, 1) := by decide +kernel
theorem d9_32 : decode prog_14_method_11_code 32 = .ok (.getfield 20, 3) := by decide +kernel
theorem d9_35 : decode prog_14_method_11_code 35 = .ok (.invokevirtual 51, 3) := by decide +kernel
theorem pd_21 : parseMethodDescriptor "(II[CI)V" = some ⟨[.int, .int, (.array .char), .int], none⟩ := by decide +kernel
theorem d9_38 : decode prog_14_method_11_code 38 = .ok (.aload_n 0, 1) := by decide +kernel
theorem d9_39 : decode prog_14_method_11_code 39 = .ok (.dup, 1) := by decide +kernel
theorem d9_40 : decode prog_14_method_11_code 40 = .ok (.getfield 20, 3) := by decide +kernel
theorem d9_43 : decode prog_14_method_11_code 43 = .ok (.iload_n 2, 1) := by decide +kernel
theorem d9_44 : decode prog_14_method_11_code 44 = .ok (.iadd, 1) := by decide +kernel
theorem d9_45 : decode prog_14_method_11_code 45 = .ok (.putfield 20, 3) := by decide +kernel
theorem d9_48 : decode prog_14_method_11_code 48 = .ok (.return_, 1) := by decide +kernel
theorem ef_rApp0 (m : MethodId) (x0 : Addr) (x1 : Addr) : entryFrame m #[(.ref x0), (.ref x1)] 3 = mkF m 0 #[.val (.ref x0), .val (.ref x1), .unset] [] := by first | (simp [entryFrame, mkF, argsToLocals, Value.category]; done) | rfl
set_option maxRecDepth 65536 in
set_option maxHeartbeats 40000000 in
theorem rApp0 (l : Launch) (Z : State) (aa : Array Value) (hw : ∀ d ∈ tables_1, d.before aa Z = true) (ws : List Jvm.Cond) (a0 : Addr) (a1 : Addr) (nc : Addr) (v0 : Addr) (cp : Int32) (c0 : Int32) (c1 : Int32) (c2 : Int32) (c3 : Int32) (c4 : Int32) (c5 : Int32) (G1 : Int32) (G3 : Value) (h0 : Heap) (n0 : Nat) (Z0 : n0 ≤ h0.size) (qb : Exa Z h0 a0 "com/example/scheherazade/scheherazade/core/TextBuilder") (qc : Fld Z h0 a0 "com/example/scheherazade/scheherazade/core/TextBuilder" "chars" "[C" (.ref nc)) (qa : Fld Z h0 a0 "com/example/scheherazade/scheherazade/core/TextBuilder" "length" "I" (.int (0 : Int32))) (qs : Fld Z h0 a0 "com/example/scheherazade/scheherazade/core/TextBuilder" "capacity" "I" (.int cp)) (qo : Av Z h0 nc .char []) (qi : n0 ≤ a0) (qt : nc ≠ a0) (hcp : 0 ≤ cp.toInt ∧ cp.toInt ≤ 15) (hR : R6 c0 c1 c2 c3 c4 c5) (qu : Sta Z Z.heap "java/lang/StringUTF16" "$assertionsDisabled" "Z" (.int (1 : Int32))) (qv : Sta Z Z.heap "java/lang/StringUTF16" "HI_BYTE_SHIFT" "I" (.int (0 : Int32))) (qw : Sta Z Z.heap "java/lang/StringUTF16" "LO_BYTE_SHIFT" "I" (.int (8 : Int32))) (qp : Sta Z Z.heap "java/lang/String" "COMPACT_STRINGS" "Z" (.int G1)) (P5 : ¬ G1 = (0 : Int32)) (Od : Old Z n0 h0) (qx : Sta Z Z.heap "jdk/internal/util/Preconditions" "SIOOBE_FORMATTER" "Ljava/util/function/BiFunction;" G3) (rG3 : G3.isRef = true) (qd : Exa Z h0 a1 "java/lang/String") (qj : Fld Z h0 a1 "java/lang/String" "coder" "B" (.int (0 : Int32))) (qk : Fld Z h0 a1 "java/lang/String" "value" "[B" (.ref v0)) (qg : Av Z h0 v0 .byte [(.int (nar .byte (c0.toInt8.toInt32))), (.int (nar .byte (c1.toInt8.toInt32))), (.int (nar .byte (c2.toInt8.toInt32))), (.int (nar .byte (c3.toInt8.toInt32))), (.int (nar .byte (c4.toInt8.toInt32))), (.int (nar .byte (c5.toInt8.toInt32)))]) (qq : a1 ≠ a0) (qy : v0 ≠ a0) (hL : L6 c0 c1 c2 c3 c4 c5) :
    Rm l Z (⟨"com/example/scheherazade/scheherazade/core/TextBuilder", "append", "(Ljava/lang/String;)V"⟩ : MethodName) prog_14_method_11_code 3 none ws ({ frames := 5, cells := 1, slots := 15, locals := 76 } : Room) #[(.ref a0), (.ref a1)] h0 (fun v h L => ∃ (q : Addr) (tl : List Value), v = none ∧ Fr n0 L ∧ Keep h0 h [a0] ∧ h0.size ≤ q ∧ n0 ≤ q ∧ Exa Z h a0 "com/example/scheherazade/scheherazade/core/TextBuilder" ∧ Fld Z h a0 "com/example/scheherazade/scheherazade/core/TextBuilder" "chars" "[C" (.ref q) ∧ Fld Z h a0 "com/example/scheherazade/scheherazade/core/TextBuilder" "length" "I" (.int (6 : Int32)) ∧ Exa Z h q "[C" ∧ Av Z h q .char ((.int c0) :: (.int c1) :: (.int c2) :: (.int c3) :: (.int c4) :: (.int c5) :: tl) ∧ (tl.length + 6).toInt32 = fMax 6 cp) := by
 refine Rm.of (plainFor_of_name pn_5) ?_
 intro p e s m below meth cc T X hnm hret hlk
 refine Go.at_ (ef_rApp0 m a0 a1) ?_
 have N := Fr.nil n0
 have Kp := Keep.refl h0 [a0]
 obtain ⟨hR0, hR1, hR2, hR3, hR4, hR5⟩ := hR
 obtain ⟨p1, p2⟩ := chk (fMax_in hcp.1 hcp.2).1 (fMax_in hcp.1 hcp.2).2
 obtain ⟨nz, hnz⟩ : ∃ z : Int32, fMax 6 cp = z := ⟨_, rfl⟩
 rw [hnz] at p1 p2
 refine g_aloadN X d9_0 (pc' := 1) rfl rfl rfl ?_
 refine g_virtual X (W := 0) (a := a1) (C := "java/lang/String") [] [] qd (tb hw 53 rfl) (tb hw 54 rfl) (tb hw 56 rfl) (tb hw 55 rfl) (tb hw 23 rfl) (tb hw 57 rfl) (rLen0 l Z aa hw [] a1 G1 v0 (nar .byte (c0.toInt8.toInt32)) (nar .byte (c1.toInt8.toInt32)) (nar .byte (c2.toInt8.toInt32)) (nar .byte (c3.toInt8.toInt32)) (nar .byte (c4.toInt8.toInt32)) (nar .byte (c5.toInt8.toInt32)) _ qd qj qk qg (qp.ext Od.2) P5) d9_1 (pc' := 4) rfl (by decide) (by decide) (by decide) rfl rfl rfl (lenOf pd_14 rfl) (Nat.le_refl _) (by decide) (by decide) ?_
 intro v T L X q
 obtain ⟨rfl, X⟩ := pureX X q
 show Go p e below _ (T.setTop (mkF m 4 _ [(.int (6 : Int32))]))
 refine g_istoreN X d9_4 (pc' := 5) (Ls' := #[.val (.ref a0), .val (.ref a1), .val (.int (6 : Int32))]) rfl rfl ?_
 refine g_aloadN X d9_5 (pc' := 6) rfl rfl rfl ?_
 refine g_getfield X (host := "") (Or.inl (tb hw 63 rfl)) Via.refl qa d9_6 (pc' := 9) rfl ?_
 intro T X
 refine g_iloadN X d9_9 (pc' := 10) rfl rfl ?_
 refine g_iadd X d9_10 (pc' := 11) rfl ?_
 refine Go.lit32 (z := (6 : Int32)) (by decide) ?_
 refine g_aloadN X d9_11 (pc' := 12) rfl rfl rfl ?_
 refine g_getfield X (host := "") (Or.inl (tb hw 17 rfl)) Via.refl qc d9_12 (pc' := 15) rfl ?_
 intro T X
 refine g_arraylength X qo d9_15 (pc' := 16) rfl (z := (0 : Int32)) rfl ?_
 refine g_icN X d9_16 (tlt (show (0 : Int32) < (6 : Int32) from (by decide))).2.2.2 (pc' := 19) rfl ?_
 refine g_aloadN X d9_19 (pc' := 20) rfl rfl rfl ?_
 refine g_iloadN X d9_20 (pc' := 21) rfl rfl ?_
 refine g_private X (W := 0) (a := a0) [(.int (6 : Int32))] [] qb (tb hw 65 rfl) (selP (tb hw 7 rfl) (tb hw 66 rfl) (tb hw 67 rfl) (by decide)) (tb hw 66 rfl) (tb hw 67 rfl) (tb hw 8 rfl) (tb hw 68 rfl) (rGrow l Z aa hw [] a0 nc cp _ n0 Z0 qb qc qa qs qo qi qt hcp) d9_21 (pc' := 24) rfl (by decide) (by decide) (by decide) rfl rfl rfl (lenOf pd_20 rfl) (Nat.le_refl _) (by decide) (by decide) ?_
 intro v T L X q
 obtain ⟨qe, tl, rfl, Nq, Kq, ql, qm, qz, q6, q7, qh, qf, hN⟩ := q
 have qn : a0 ≠ qe := Nat.ne_of_lt (Nat.lt_of_lt_of_le qb.lt ql)
 have q8 : a1 ≠ qe := Nat.ne_of_lt (Nat.lt_of_lt_of_le qd.lt ql)
 have q9 : v0 ≠ qe := Nat.ne_of_lt (Nat.lt_of_lt_of_le qg.lt ql)
 have qr : h0.size ≤ qe := Nat.le_trans Kp.1 ql
 replace N := N.app Nq
 replace qd := qd.keep Kq
 replace qj := qj.keep Kq (ninS qq nin0)
 replace qk := qk.keep Kq (ninS qq nin0)
 replace qg := qg.keep Kq (ninS qy nin0)
 replace Od := Od.keep Kq (allS qi all0)
 replace Z0 := Nat.le_trans Z0 Kq.1
 replace Kp := Kp.trans Kq (allS (Or.inl (List.mem_of_getElem? (i := 0) rfl)) all0)
 replace qb := qz
 replace qc := q6
 replace qa := q7
 show Go p e below _ (T.setTop (mkF m 24 _ []))
 refine g_aloadN X d9_24 (pc' := 25) rfl rfl rfl ?_
 refine g_iconst X (0 : Int32) d9_25 (pc' := 26) rfl rfl ?_
 refine g_iloadN X d9_26 (pc' := 27) rfl rfl ?_
 refine g_aloadN X d9_27 (pc' := 28) rfl rfl rfl ?_
 refine g_getfield X (host := "") (Or.inl (tb hw 17 rfl)) Via.refl qc d9_28 (pc' := 31) rfl ?_
 intro T X
 refine g_aloadN X d9_31 (pc' := 32) rfl rfl rfl ?_
 refine g_getfield X (host := "") (Or.inl (tb hw 63 rfl)) Via.refl qa d9_32 (pc' := 35) rfl ?_
 intro T X
 refine g_virtual X (W := 0) (a := a1) (C := "java/lang/String") [(.int (0 : Int32)), (.int (6 : Int32)), (.ref qe), (.int (0 : Int32))] [] qd (tb hw 90 rfl) (tb hw 91 rfl) (tb hw 93 rfl) (tb hw 92 rfl) (tb hw 23 rfl) (tb hw 94 rfl) (rSg0 l Z aa hw [] a1 qe G1 G3 nz v0 (nar .byte (c0.toInt8.toInt32)) (nar .byte (c1.toInt8.toInt32)) (nar .byte (c2.toInt8.toInt32)) (nar .byte (c3.toInt8.toInt32)) (nar .byte (c4.toInt8.toInt32)) (nar .byte (c5.toInt8.toInt32)) (0 : Int32) (0 : Int32) (0 : Int32) (0 : Int32) (0 : Int32) (0 : Int32) tl _ n0 Z0 qd qj qk qg qf qm q8 q9 qu qv qw qp P5 Od qx rG3 (hN.trans hnz) p1 p2) d9_35 (pc' := 38) rfl (by decide) (by decide) (by decide) rfl rfl rfl (lenOf pd_21 rfl) (Nat.le_refl _) (by decide) (by decide) ?_
 intro v T L X q
 obtain ⟨rfl, Nq, Kq, ja⟩ := q
 replace N := N.app Nq
 replace qb := qb.keep Kq
 replace qc := qc.keep Kq (ninS qn nin0)
 replace qa := qa.keep Kq (ninS qn nin0)
 replace Od := Od.keep Kq (allS qm all0)
 replace Z0 := Nat.le_trans Z0 Kq.1
 replace Kp := Kp.trans Kq (allS (Or.inr qr) all0)
 replace qf := ja
 replace qh := qh.keep Kq
 show Go p e below _ (T.setTop (mkF m 38 _ []))
 refine g_aloadN X d9_38 (pc' := 39) rfl rfl rfl ?_
 refine g_dup X d9_39 (pc' := 40) rfl rfl ?_
 refine g_getfield X (host := "") (Or.inl (tb hw 63 rfl)) Via.refl qa d9_40 (pc' := 43) rfl ?_
 intro T X
 refine g_iloadN X d9_43 (pc' := 44) rfl rfl ?_
 refine g_iadd X d9_44 (pc' := 45) rfl ?_
 refine Go.lit32 (z := (6 : Int32)) (by decide) ?_
 refine g_putfield X (host := "") (Or.inl (tb hw 63 rfl)) Via.refl qa qb (Or.inl (tb hw 64 rfl)) (tb hw 7 rfl) (ty := .int) (by decide) rfl rfl d9_45 (pc' := 48) rfl ?_
 intro T h X W
 replace qb := qb.wr W
 replace qc := qc.other W (Or.inr (slot_ne (Or.inl (tb hw 18 rfl)) (Or.inl (tb hw 64 rfl)) (by decide) (t := (.array .char)) (t' := .int) (by decide) (by decide)))
 replace qa := qa.same W
 replace qh := qh.wr W
 replace qf := qf.other W (Ne.symm qn)
 replace Z0 := Nat.le_trans Z0 (Nat.le_of_eq W.size.symm)
 replace N := Fr.snoc X.1 N qi
 replace Kp := Kp.wr W (Or.inl (List.mem_of_getElem? (i := 0) rfl))
 replace Od := Od.wr W qi
 refine g_return X d9_48 hret hlk (by decide) (by decide) ?_
 obtain ⟨hL0, hL1, hL2, hL3, hL4, hL5⟩ := hL
 have q0 : (nar .char (((nar .byte (c0.toInt8.toInt32)) &&& (255 : Int32)).toUInt32.toUInt16.toUInt32.toInt32)) = c0 := inflC hR0.1 hL0
 have q1 : (nar .char (((nar .byte (c1.toInt8.toInt32)) &&& (255 : Int32)).toUInt32.toUInt16.toUInt32.toInt32)) = c1 := inflC hR1.1 hL1
 have q2 : (nar .char (((nar .byte (c2.toInt8.toInt32)) &&& (255 : Int32)).toUInt32.toUInt16.toUInt32.toInt32)) = c2 := inflC hR2.1 hL2
 have q3 : (nar .char (((nar .byte (c3.toInt8.toInt32)) &&& (255 : Int32)).toUInt32.toUInt16.toUInt32.toInt32)) = c3 := inflC hR3.1 hL3
 have q4 : (nar .char (((nar .byte (c4.toInt8.toInt32)) &&& (255 : Int32)).toUInt32.toUInt16.toUInt32.toInt32)) = c4 := inflC hR4.1 hL4
 have q5 : (nar .char (((nar .byte (c5.toInt8.toInt32)) &&& (255 : Int32)).toUInt32.toUInt16.toUInt32.toInt32)) = c5 := inflC hR5.1 hL5
 rw [q0, q1, q2, q3, q4, q5] at qf
 exact ⟨qe, tl, rfl, N, Kp, qr, qm, qb, qc, qa, qh, qf, hN⟩
theorem ef_rApp1 (m : MethodId) (x0 : Addr) (x1 : Addr) : entryFrame m #[(.ref x0), (.ref x1)] 3 = mkF m 0 #[.val (.ref x0), .val (.ref x1), .unset] [] := by first | (simp [entryFrame, mkF, argsToLocals, Value.category]; done) | rfl
set_option maxRecDepth 65536 in
set_option maxHeartbeats 40000000 in
theorem rApp1 (l : Launch) (Z : State) (aa : Array Value) (hw : ∀ d ∈ tables_1, d.before aa Z = true) (ws : List Jvm.Cond) (a0 : Addr) (a1 : Addr) (nc : Addr) (v0 : Addr) (cp : Int32) (c0 : Int32) (c1 : Int32) (c2 : Int32) (c3 : Int32) (c4 : Int32) (c5 : Int32) (G1 : Int32) (G3 : Value) (h0 : Heap) (n0 : Nat) (Z0 : n0 ≤ h0.size) (qb : Exa Z h0 a0 "com/example/scheherazade/scheherazade/core/TextBuilder") (qc : Fld Z h0 a0 "com/example/scheherazade/scheherazade/core/TextBuilder" "chars" "[C" (.ref nc)) (qa : Fld Z h0 a0 "com/example/scheherazade/scheherazade/core/TextBuilder" "length" "I" (.int (0 : Int32))) (qs : Fld Z h0 a0 "com/example/scheherazade/scheherazade/core/TextBuilder" "capacity" "I" (.int cp)) (qo : Av Z h0 nc .char []) (qi : n0 ≤ a0) (qt : nc ≠ a0) (hcp : 0 ≤ cp.toInt ∧ cp.toInt ≤ 15) (hR : R6 c0 c1 c2 c3 c4 c5) (qu : Sta Z Z.heap "java/lang/StringUTF16" "$assertionsDisabled" "Z" (.int (1 : Int32))) (qv : Sta Z Z.heap "java/lang/StringUTF16" "HI_BYTE_SHIFT" "I" (.int (0 : Int32))) (qw : Sta Z Z.heap "java/lang/StringUTF16" "LO_BYTE_SHIFT" "I" (.int (8 : Int32))) (qp : Sta Z Z.heap "java/lang/String" "COMPACT_STRINGS" "Z" (.int G1)) (P5 : ¬ G1 = (0 : Int32)) (Od : Old Z n0 h0) (qx : Sta Z Z.heap "jdk/internal/util/Preconditions" "SIOOBE_FORMATTER" "Ljava/util/function/BiFunction;" G3) (rG3 : G3.isRef = true) (qd : Exa Z h0 a1 "java/lang/String") (qj : Fld Z h0 a1 "java/lang/String" "coder" "B" (.int (1 : Int32))) (qk : Fld Z h0 a1 "java/lang/String" "value" "[B" (.ref v0)) (qg : Av Z h0 v0 .byte [(.int (loB c0)), (.int (hiB c0)), (.int (loB c1)), (.int (hiB c1)), (.int (loB c2)), (.int (hiB c2)), (.int (loB c3)), (.int (hiB c3)), (.int (loB c4)), (.int (hiB c4)), (.int (loB c5)), (.int (hiB c5))]) (qq : a1 ≠ a0) (qy : v0 ≠ a0) :
    Rm l Z (⟨"com/example/scheherazade/scheherazade/core/TextBuilder", "append", "(Ljava/lang/String;)V"⟩ : MethodName) prog_14_method_11_code 3 none ws ({ frames := 5, cells := 1, slots := 15, locals := 76 } : Room) #[(.ref a0), (.ref a1)] h0 (fun v h L => ∃ (q : Addr) (tl : List Value), v = none ∧ Fr n0 L ∧ Keep h0 h [a0] ∧ h0.size ≤ q ∧ n0 ≤ q ∧ Exa Z h a0 "com/example/scheherazade/scheherazade/core/TextBuilder" ∧ Fld Z h a0 "com/example/scheherazade/scheherazade/core/TextBuilder" "chars" "[C" (.ref q) ∧ Fld Z h a0 "com/example/scheherazade/scheherazade/core/TextBuilder" "length" "I" (.int (6 : Int32)) ∧ Exa Z h q "[C" ∧ Av Z h q .char ((.int c0) :: (.int c1) :: (.int c2) :: (.int c3) :: (.int c4) :: (.int c5) :: tl) ∧ (tl.length + 6).toInt32 = fMax 6 cp) := by
 refine Rm.of (plainFor_of_name pn_5) ?_
 intro p e s m below meth cc T X hnm hret hlk
 refine Go.at_ (ef_rApp1 m a0 a1) ?_
 have N := Fr.nil n0
 have Kp := Keep.refl h0 [a0]
 obtain ⟨hR0, hR1, hR2, hR3, hR4, hR5⟩ := hR
 obtain ⟨p1, p2⟩ := chk (fMax_in hcp.1 hcp.2).1 (fMax_in hcp.1 hcp.2).2
 obtain ⟨nz, hnz⟩ : ∃ z : Int32, fMax 6 cp = z := ⟨_, rfl⟩
 rw [hnz] at p1 p2
 refine g_aloadN X d9_0 (pc' := 1) rfl rfl rfl ?_
 refine g_virtual X (W := 0) (a := a1) (C := "java/lang/String") [] [] qd (tb hw 53 rfl) (tb hw 54 rfl) (tb hw 56 rfl) (tb hw 55 rfl) (tb hw 23 rfl) (tb hw 57 rfl) (rLen1 l Z aa hw [] a1 G1 v0 (loB c0) (hiB c0) (loB c1) (hiB c1) (loB c2) (hiB c2) (loB c3) (hiB c3) (loB c4) (hiB c4) (loB c5) (hiB c5) _ qd qj qk qg (qp.ext Od.2) P5) d9_1 (pc' := 4) rfl (by decide) (by decide) (by decide) rfl rfl rfl (lenOf pd_14 rfl) (Nat.le_refl _) (by decide) (by decide) ?_
 intro v T L X q
 obtain ⟨rfl, X⟩ := pureX X q
 show Go p e below _ (T.setTop (mkF m 4 _ [(.int (6 : Int32))]))
 refine g_istoreN X d9_4 (pc' := 5) (Ls' := #[.val (.ref a0), .val (.ref a1), .val (.int (6 : Int32))]) rfl rfl ?_
 refine g_aloadN X d9_5 (pc' := 6) rfl rfl rfl ?_
 refine g_getfield X (host := "") (Or.inl (tb hw 63 rfl)) Via.refl qa d9_6 (pc' := 9) rfl ?_
 intro T X
 refine g_iloadN X d9_9 (pc' := 10) rfl rfl ?_
 refine g_iadd X d9_10 (pc' := 11) rfl ?_
 refine Go.lit32 (z := (6 : Int32)) (by decide) ?_
 refine g_aloadN X d9_11 (pc' := 12) rfl rfl rfl ?_
 refine g_getfield X (host := "") (Or.inl (tb hw 17 rfl)) Via.refl qc d9_12 (pc' := 15) rfl ?_
 intro T X
 refine g_arraylength X qo d9_15 (pc' := 16) rfl (z := (0 : Int32)) rfl ?_
 refine g_icN X d9_16 (tlt (show (0 : Int32) < (6 : Int32) from (by decide))).2.2.2 (pc' := 19) rfl ?_
 refine g_aloadN X d9_19 (pc' := 20) rfl rfl rfl ?_
 refine g_iloadN X d9_20 (pc' := 21) rfl rfl ?_
 refine g_private X (W := 0) (a := a0) [(.int (6 : Int32))] [] qb (tb hw 65 rfl) (selP (tb hw 7 rfl) (tb hw 66 rfl) (tb hw 67 rfl) (by decide)) (tb hw 66 rfl) (tb hw 67 rfl) (tb hw 8 rfl) (tb hw 68 rfl) (rGrow l Z aa hw [] a0 nc cp _ n0 Z0 qb qc qa qs qo qi qt hcp) d9_21 (pc' := 24) rfl (by decide) (by decide) (by decide) rfl rfl rfl (lenOf pd_20 rfl) (Nat.le_refl _) (by decide) (by decide) ?_
 intro v T L X q
 obtain ⟨qe, tl, rfl, Nq, Kq, ql, qm, qz, q6, q7, qh, qf, hN⟩ := q
 have qn : a0 ≠ qe := Nat.ne_of_lt (Nat.lt_of_lt_of_le qb.lt ql)
 have q8 : a1 ≠ qe := Nat.ne_of_lt (Nat.lt_of_lt_of_le qd.lt ql)
 have q9 : v0 ≠ qe := Nat.ne_of_lt (Nat.lt_of_lt_of_le qg.lt ql)
 have qr : h0.size ≤ qe := Nat.le_trans Kp.1 ql
 replace N := N.app Nq
 replace qd := qd.keep Kq
 replace qj := qj.keep Kq (ninS qq nin0)
 replace qk := qk.keep Kq (ninS qq nin0)
 replace qg := qg.keep Kq (ninS qy nin0)
 replace Od := Od.keep Kq (allS qi all0)
 replace Z0 := Nat.le_trans Z0 Kq.1
 replace Kp := Kp.trans Kq (allS (Or.inl (List.mem_of_getElem? (i := 0) rfl)) all0)
 replace qb := qz
 replace qc := q6
 replace qa := q7
 show Go p e below _ (T.setTop (mkF m 24 _ []))
 refine g_aloadN X d9_24 (pc' := 25) rfl rfl rfl ?_
 refine g_iconst X (0 : Int32) d9_25 (pc' := 26) rfl rfl ?_
 refine g_iloadN X d9_26 (pc' := 27) rfl rfl ?_
 refine g_aloadN X d9_27 (pc' := 28) rfl rfl rfl ?_
 refine g_getfield X (host := "") (Or.inl (tb hw 17 rfl)) Via.refl qc d9_28 (pc' := 31) rfl ?_
 intro T X
 refine g_aloadN X d9_31 (pc' := 32) rfl rfl rfl ?_
 refine g_getfield X (host := "") (Or.inl (tb hw 63 rfl)) Via.refl qa d9_32 (pc' := 35) rfl ?_
 intro T X
 refine g_virtual X (W := 0) (a := a1) (C := "java/lang/String") [(.int (0 : Int32)), (.int (6 : Int32)), (.ref qe), (.int (0 : Int32))] [] qd (tb hw 90 rfl) (tb hw 91 rfl) (tb hw 93 rfl) (tb hw 92 rfl) (tb hw 23 rfl) (tb hw 94 rfl) (rSg1 l Z aa hw [] a1 qe G1 G3 nz v0 (loB c0) (hiB c0) (loB c1) (hiB c1) (loB c2) (hiB c2) (loB c3) (hiB c3) (loB c4) (hiB c4) (loB c5) (hiB c5) (0 : Int32) (0 : Int32) (0 : Int32) (0 : Int32) (0 : Int32) (0 : Int32) tl _ n0 Z0 qd qj qk qg qf qm q8 q9 qu qv qw qp P5 Od qx rG3 (hN.trans hnz) p1 p2) d9_35 (pc' := 38) rfl (by decide) (by decide) (by decide) rfl rfl rfl (lenOf pd_21 rfl) (Nat.le_refl _) (by decide) (by decide) ?_
 intro v T L X q
 obtain ⟨rfl, Nq, Kq, ja⟩ := q
 replace N := N.app Nq
 replace qb := qb.keep Kq
 replace qc := qc.keep Kq (ninS qn nin0)
 replace qa := qa.keep Kq (ninS qn nin0)
 replace Od := Od.keep Kq (allS qm all0)
 replace Z0 := Nat.le_trans Z0 Kq.1
 replace Kp := Kp.trans Kq (allS (Or.inr qr) all0)
 replace qf := ja
 replace qh := qh.keep Kq
 show Go p e below _ (T.setTop (mkF m 38 _ []))
 refine g_aloadN X d9_38 (pc' := 39) rfl rfl rfl ?_
 refine g_dup X d9_39 (pc' := 40) rfl rfl ?_
 refine g_getfield X (host := "") (Or.inl (tb hw 63 rfl)) Via.refl qa d9_40 (pc' := 43) rfl ?_
 intro T X
 refine g_iloadN X d9_43 (pc' := 44) rfl rfl ?_
 refine g_iadd X d9_44 (pc' := 45) rfl ?_
 refine Go.lit32 (z := (6 : Int32)) (by decide) ?_
 refine g_putfield X (host := "") (Or.inl (tb hw 63 rfl)) Via.refl qa qb (Or.inl (tb hw 64 rfl)) (tb hw 7 rfl) (ty := .int) (by decide) rfl rfl d9_45 (pc' := 48) rfl ?_
 intro T h X W
 replace qb := qb.wr W
 replace qc := qc.other W (Or.inr (slot_ne (Or.inl (tb hw 18 rfl)) (Or.inl (tb hw 64 rfl)) (by decide) (t := (.array .char)) (t' := .int) (by decide) (by decide)))
 replace qa := qa.same W
 replace qh := qh.wr W
 replace qf := qf.other W (Ne.symm qn)
 replace Z0 := Nat.le_trans Z0 (Nat.le_of_eq W.size.symm)
 replace N := Fr.snoc X.1 N qi
 replace Kp := Kp.wr W (Or.inl (List.mem_of_getElem? (i := 0) rfl))
 replace Od := Od.wr W qi
 refine g_return X d9_48 hret hlk (by decide) (by decide) ?_
 have q0 : (nar .char (nar .char (((((loB c0) &&& (255 : Int32)) <<< ((0 : Int32) &&& 31)) ||| (((hiB c0) &&& (255 : Int32)) <<< ((8 : Int32) &&& 31))).toUInt32.toUInt16.toUInt32.toInt32))) = c0 := by
   have q : nar .char (nar .char (joinB (loB c0) (hiB c0))) = c0 := by rw [joinC hR0.1 hR0.2, narC hR0.1 hR0.2, narC hR0.1 hR0.2]
   exact q
 have q1 : (nar .char (nar .char (((((loB c1) &&& (255 : Int32)) <<< ((0 : Int32) &&& 31)) ||| (((hiB c1) &&& (255 : Int32)) <<< ((8 : Int32) &&& 31))).toUInt32.toUInt16.toUInt32.toInt32))) = c1 := by
   have q : nar .char (nar .char (joinB (loB c1) (hiB c1))) = c1 := by rw [joinC hR1.1 hR1.2, narC hR1.1 hR1.2, narC hR1.1 hR1.2]
   exact q
 have q2 : (nar .char (nar .char (((((loB c2) &&& (255 : Int32)) <<< ((0 : Int32) &&& 31)) ||| (((hiB c2) &&& (255 : Int32)) <<< ((8 : Int32) &&& 31))).toUInt32.toUInt16.toUInt32.toInt32))) = c2 := by
   have q : nar .char (nar .char (joinB (loB c2) (hiB c2))) = c2 := by rw [joinC hR2.1 hR2.2, narC hR2.1 hR2.2, narC hR2.1 hR2.2]
   exact q
 have q3 : (nar .char (nar .char (((((loB c3) &&& (255 : Int32)) <<< ((0 : Int32) &&& 31)) ||| (((hiB c3) &&& (255 : Int32)) <<< ((8 : Int32) &&& 31))).toUInt32.toUInt16.toUInt32.toInt32))) = c3 := by
   have q : nar .char (nar .char (joinB (loB c3) (hiB c3))) = c3 := by rw [joinC hR3.1 hR3.2, narC hR3.1 hR3.2, narC hR3.1 hR3.2]
   exact q
 have q4 : (nar .char (nar .char (((((loB c4) &&& (255 : Int32)) <<< ((0 : Int32) &&& 31)) ||| (((hiB c4) &&& (255 : Int32)) <<< ((8 : Int32) &&& 31))).toUInt32.toUInt16.toUInt32.toInt32))) = c4 := by
   have q : nar .char (nar .char (joinB (loB c4) (hiB c4))) = c4 := by rw [joinC hR4.1 hR4.2, narC hR4.1 hR4.2, narC hR4.1 hR4.2]
   exact q
 have q5 : (nar .char (nar .char (((((loB c5) &&& (255 : Int32)) <<< ((0 : Int32) &&& 31)) ||| (((hiB c5) &&& (255 : Int32)) <<< ((8 : Int32) &&& 31))).toUInt32.toUInt16.toUInt32.toInt32))) = c5 := by
   have q : nar .char (nar .char (joinB (loB c5) (hiB c5))) = c5 := by rw [joinC hR5.1 hR5.2, narC hR5.1 hR5.2, narC hR5.1 hR5.2]
   exact q
 rw [q0, q1, q2, q3, q4, q5] at qf
 exact ⟨qe, tl, rfl, N, Kp, qr, qm, qb, qc, qa, qh, qf, hN⟩
set_option maxRecDepth 65536 in
theorem rApp (l : Launch) (Z : State) (aa : Array Value) (hw : ∀ d ∈ tables_1, d.before aa Z = true) (ws : List Jvm.Cond) (a0 a1 nc : Addr) (cp c0 c1 c2 c3 c4 c5 G1 : Int32) (G3 : Value) (h0 : Heap) (n0 : Nat) (Z0 : n0 ≤ h0.size) (qa : Exa Z h0 a0 "com/example/scheherazade/scheherazade/core/TextBuilder") (qb : Fld Z h0 a0 "com/example/scheherazade/scheherazade/core/TextBuilder" "chars" "[C" (.ref nc)) (qc : Fld Z h0 a0 "com/example/scheherazade/scheherazade/core/TextBuilder" "length" "I" (.int (0 : Int32))) (qd : Fld Z h0 a0 "com/example/scheherazade/scheherazade/core/TextBuilder" "capacity" "I" (.int cp)) (qe : Av Z h0 nc .char []) (qf : n0 ≤ a0) (qg : nc ≠ a0) (hcp : 0 ≤ cp.toInt ∧ cp.toInt ≤ 15) (hR : R6 c0 c1 c2 c3 c4 c5) (qh : Sta Z Z.heap "java/lang/StringUTF16" "$assertionsDisabled" "Z" (.int (1 : Int32))) (qi : Sta Z Z.heap "java/lang/StringUTF16" "HI_BYTE_SHIFT" "I" (.int (0 : Int32))) (qj : Sta Z Z.heap "java/lang/StringUTF16" "LO_BYTE_SHIFT" "I" (.int (8 : Int32))) (qk : Sta Z Z.heap "java/lang/String" "COMPACT_STRINGS" "Z" (.int G1)) (P5 : ¬ G1 = (0 : Int32)) (Od : Old Z n0 h0) (ql : Sta Z Z.heap "jdk/internal/util/Preconditions" "SIOOBE_FORMATTER" "Ljava/util/function/BiFunction;" G3) (rG3 : G3.isRef = true) (qm : a1 ≠ a0) (S : S6 Z h0 a1 c0 c1 c2 c3 c4 c5) :
    Rm l Z (⟨"com/example/scheherazade/scheherazade/core/TextBuilder", "append", "(Ljava/lang/String;)V"⟩ : MethodName) prog_14_method_11_code 3 none ws ({ frames := 5, cells := 1, slots := 15, locals := 76 } : Room) #[(.ref a0), (.ref a1)] h0 (fun v h L => ∃ (q : Addr) (tl : List Value), v = none ∧ Fr n0 L ∧ Keep h0 h [a0] ∧ h0.size ≤ q ∧ n0 ≤ q ∧ Exa Z h a0 "com/example/scheherazade/scheherazade/core/TextBuilder" ∧ Fld Z h a0 "com/example/scheherazade/scheherazade/core/TextBuilder" "chars" "[C" (.ref q) ∧ Fld Z h a0 "com/example/scheherazade/scheherazade/core/TextBuilder" "length" "I" (.int (6 : Int32)) ∧ Exa Z h q "[C" ∧ Av Z h q .char ((.int c0) :: (.int c1) :: (.int c2) :: (.int c3) :: (.int c4) :: (.int c5) :: tl) ∧ (tl.length + 6).toInt32 = fMax 6 cp) := by
  obtain ⟨E, v0, Fv, H⟩ := S
  rcases H with ⟨Fc, V, hL⟩ | ⟨Fc, V⟩
  · have nv : v0 ≠ a0 := by
      obtain ⟨cv, A, -⟩ := V
      exact (ne_arr qa (tb hw 7 rfl) A).symm
    exact rApp0 l Z aa hw ws a0 a1 nc v0 cp c0 c1 c2 c3 c4 c5 G1 G3 h0 n0 Z0 qa qb qc qd qe qf qg hcp hR qh qi qj qk P5 Od ql rG3 E Fc Fv V qm nv hL
  · have nv : v0 ≠ a0 := by
      obtain ⟨cv, A, -⟩ := V
      exact (ne_arr qa (tb hw 7 rfl) A).symm
    exact rApp1 l Z aa hw ws a0 a1 nc v0 cp c0 c1 c2 c3 c4 c5 G1 G3 h0 n0 Z0 qa qb qc qd qe qf qg hcp hR qh qi qj qk P5 Od ql rG3 E Fc Fv V qm nv
theorem os6 {s6 : Slot} (h : One s6) (a : Addr) (x1 x2 x3 x4 x5 z : Int32) : storeLocals #[.val (.ref a), .val (.int x1), .val (.int x2), .val (.int x3), .val (.int x4), .val (.int x5), s6] 6 (.int z) = some #[.val (.ref a), .val (.int x1), .val (.int x2), .val (.int x3), .val (.int x4), .val (.int x5), .val (.int z)] := by
  rcases h with rfl | ⟨w, rfl, hw⟩
  · rfl
  · cases w <;> first | rfl | (simp [Value.category] at hw)
theorem R6all {c0 c1 c2 c3 c4 c5 : Int32} (h : R6 c0 c1 c2 c3 c4 c5) : ∀ z ∈ ([c0, c1, c2, c3, c4, c5] : List Int32), 0 ≤ z.toInt ∧ z.toInt ≤ 65535 := by
  obtain ⟨h0, h1, h2, h3, h4, h5⟩ := h
  intro z hz
  simp only [List.mem_cons, List.not_mem_nil, or_false] at hz
  rcases hz with rfl | rfl | rfl | rfl | rfl | rfl <;> assumption
theorem d25_0 : decode prog_14_method_14_code 0 = .ok (.iload_n 1, 1) := by decide +kernel
theorem d25_1 : decode prog_14_method_14_code 1 = .ok (.istore_n 3, 1) := by decide +kernel
theorem d25_2 : decode prog_14_method_14_code 2 = .ok (.iconst 0, 1) := by decide +kernel
theorem d25_3 : decode prog_14_method_14_code 3 = .ok (.istore 4, 2) := by decide +kernel
theorem d25_5 : decode prog_14_method_14_code 5 = .ok (.iload_n 1, 1) := by decide +kernel
theorem d25_6 : decode prog_14_method_14_code 6 = .ok (.istore 5, 2) := by decide +kernel
theorem d25_8 : decode prog_14_method_14_code 8 = .ok (.iload 5, 2) := by decide +kernel
theorem d25_10 : decode prog_14_method_14_code 10 = .ok (.iload_n 2, 1) := by decide +kernel
theorem d25_11 : decode prog_14_method_14_code 11 = .ok (.if_icmp .ge 70, 3) := by decide +kernel
theorem d25_14 : decode prog_14_method_14_code 14 = .ok (.aload_n 0, 1) := by decide +kernel
theorem d25_15 : decode prog_14_method_14_code 15 = .ok (.getfield 13, 3) := by decide +kernel
theorem d25_18 : decode prog_14_method_14_code 18 = .ok (.iload 5, 2) := by decide +kernel
theorem d25_20 : decode prog_14_method_14_code 20 = .ok (.caload, 1) := by decide +kernel
theorem d25_21 : decode prog_14_method_14_code 21 = .ok (.istore 6, 2) := by decide +kernel
theorem d25_23 : decode prog_14_method_14_code 23 = .ok (.iload 6, 2) := by decide +kernel
theorem d25_25 : decode prog_14_method_14_code 25 = .ok (.bipush 32, 2) := by decide +kernel
theorem d25_27 : decode prog_14_method_14_code 27 = .ok (.if_icmp .ne 18, 3) := by decide +kernel
theorem d25_30 : decode prog_14_method_14_code 30 = .ok (.iload_n 3, 1) := by decide +kernel
theorem d25_31 : decode prog_14_method_14_code 31 = .ok (.iload_n 1, 1) := by decide +kernel
theorem d25_32 : decode prog_14_method_14_code 32 = .ok (.if_icmp .le 7, 3) := by decide +kernel
theorem d25_35 : decode prog_14_method_14_code 35 = .ok (.iconst 1, 1) := by decide +kernel
theorem d25_36 : decode prog_14_method_14_code 36 = .ok (.goto 4, 3) := by decide +kernel
theorem d25_40 : decode prog_14_method_14_code 40 = .ok (.istore 4, 2) := by decide +kernel
theorem d25_42 : decode prog_14_method_14_code 42 = .ok (.goto 33, 3) := by decide +kernel
theorem d25_75 : decode prog_14_method_14_code 75 = .ok (.iinc 5 1, 3) := by decide +kernel
theorem d25_78 : decode prog_14_method_14_code 78 = .ok (.goto (-70), 3) := by decide +kernel
theorem d25_39 : decode prog_14_method_14_code 39 = .ok (.iconst 0, 1) := by decide +kernel
theorem d25_45 : decode prog_14_method_14_code 45 = .ok (.iload 4, 2) := by decide +kernel
theorem d25_47 : decode prog_14_method_14_code 47 = .ok (.ifCond .eq 17, 3) := by decide +kernel
theorem d25_64 : decode prog_14_method_14_code 64 = .ok (.aload_n 0, 1) := by decide +kernel
theorem d25_65 : decode prog_14_method_14_code 65 = .ok (.getfield 13, 3) := by decide +kernel
theorem d25_68 : decode prog_14_method_14_code 68 = .ok (.iload_n 3, 1) := by decide +kernel
theorem d25_69 : decode prog_14_method_14_code 69 = .ok (.iinc 3 1, 3) := by decide +kernel
theorem d25_72 : decode prog_14_method_14_code 72 = .ok (.iload 6, 2) := by decide +kernel
theorem d25_74 : decode prog_14_method_14_code 74 = .ok (.castore, 1) := by decide +kernel
theorem d25_50 : decode prog_14_method_14_code 50 = .ok (.aload_n 0, 1) := by decide +kernel
theorem d25_51 : decode prog_14_method_14_code 51 = .ok (.getfield 13, 3) := by decide +kernel
theorem d25_54 : decode prog_14_method_14_code 54 = .ok (.iload_n 3, 1) := by decide +kernel
theorem d25_55 : decode prog_14_method_14_code 55 = .ok (.iinc 3 1, 3) := by decide +kernel
theorem d25_58 : decode prog_14_method_14_code 58 = .ok (.bipush 32, 2) := by decide +kernel
theorem d25_60 : decode prog_14_method_14_code 60 = .ok (.castore, 1) := by decide +kernel
theorem d25_61 : decode prog_14_method_14_code 61 = .ok (.iconst 0, 1) := by decide +kernel
theorem d25_62 : decode prog_14_method_14_code 62 = .ok (.istore 4, 2) := by decide +kernel
theorem d25_81 : decode prog_14_method_14_code 81 = .ok (.iload_n 3, 1) := by decide +kernel
theorem d25_82 : decode prog_14_method_14_code 82 = .ok (.ireturn, 1) := by decide +kernel
theorem ef_rCol (m : MethodId) (x0 : Addr) (x1 : Int32) (x2 : Int32) : entryFrame m #[(.ref x0), (.int x1), (.int x2)] 7 = mkF m 0 #[.val (.ref x0), .val (.int x1), .val (.int x2), .unset, .unset, .unset, .unset] [] := by first | (simp [entryFrame, mkF, argsToLocals, Value.category]; done) | rfl
set_option maxRecDepth 65536 in
set_option maxHeartbeats 40000000 in
theorem rCol (l : Launch) (Z : State) (aa : Array Value) (hw : ∀ d ∈ tables_1, d.before aa Z = true) (ws : List Jvm.Cond) (a0 : Addr) (i1 : Int32) (i2 : Int32) (q0 : Addr) (cs : List Int32) (sa : Nat) (ea : Nat) (tl : List Value) (h0 : Heap) (n0 : Nat) (Z0 : n0 ≤ h0.size) (qb : Fld Z h0 a0 "com/example/scheherazade/scheherazade/core/TextBuilder" "chars" "[C" (.ref q0)) (qc : Av Z h0 q0 .char (arrT cs tl)) (qg : n0 ≤ q0) (qh : a0 ≠ q0) (r : Rng cs sa ea i1 i2) :
    Rm l Z (⟨"com/example/scheherazade/scheherazade/core/TextBuilder", "collapseSpaces", "(II)I"⟩ : MethodName) prog_14_method_14_code 7 (some .int) ws ({ frames := 0, cells := 0, slots := 0, locals := 0 } : Room) #[(.ref a0), (.int i1), (.int i2)] h0 (fun v h L => ∃ kk : Int32, v = some (.int kk) ∧ Fr n0 L ∧ Keep h0 h [q0] ∧ kk.toInt = (git cs sa ea 6).2 ∧ Av Z h q0 .char (arrT (git cs sa ea 6).1 tl)) := by
 refine Rm.of (plainFor_of_name pn_5) ?_
 intro p e s m below meth cc T X hnm hret hlk
 refine Go.at_ (ef_rCol m a0 i1 i2) ?_
 have N := Fr.nil n0
 have Kp := Keep.refl h0 [q0]
 refine g_iloadN X d25_0 (pc' := 1) rfl rfl ?_
 refine g_istoreN X d25_1 (pc' := 2) (Ls' := #[.val (.ref a0), .val (.int i1), .val (.int i2), .val (.int i1), .unset, .unset, .unset]) rfl rfl ?_
 refine g_iconst X (0 : Int32) d25_2 (pc' := 3) rfl rfl ?_
 refine g_istore X d25_3 (pc' := 5) (Ls' := #[.val (.ref a0), .val (.int i1), .val (.int i2), .val (.int i1), .val (.int (0 : Int32)), .unset, .unset]) rfl rfl ?_
 refine g_iloadN X d25_5 (pc' := 6) rfl rfl ?_
 refine g_istore X d25_6 (pc' := 8) (Ls' := #[.val (.ref a0), .val (.int i1), .val (.int i2), .val (.int i1), .val (.int (0 : Int32)), .val (.int i1), .unset]) rfl rfl ?_
 refine loopW X (α := Nat × Int32 × Int32 × Int32 × Slot) (fun a => mkF m 8 #[.val (.ref a0), .val (.int i1), .val (.int i2), .val (.int a.2.1), .val (.int a.2.2.1), .val (.int a.2.2.2.1), a.2.2.2.2] []) (fun a h locs => InvC cs sa ea a.1 a.2.1 a.2.2.1 a.2.2.2.1 a.2.2.2.2 ∧ Fr n0 locs ∧ n0 ≤ h.size ∧ Keep h0 h [q0] ∧ Fld Z h a0 "com/example/scheherazade/scheherazade/core/TextBuilder" "chars" "[C" (.ref q0) ∧ Av Z h q0 .char (arrT (git cs sa ea a.1).1 tl)) (fun a => ea - a.1) ?_ (sa, i1, (0 : Int32), i1, .unset) ⟨InvC.start r, N, Z0, Kp, qb, by rw [git_lo cs sa ea sa (Nat.le_refl _)]; exact qc⟩
 clear X N Z0 Kp qb qc
 intro a T h locs X I ih
 obtain ⟨i, kk, pp, ii, s6⟩ := a
 obtain ⟨I0, N, Z0, Kp, qb, qc⟩ := I
 replace I0 : InvC cs sa ea i kk pp ii s6 := I0
 replace qc : Av Z h q0 .char (arrT (git cs sa ea i).1 tl) := qc
 show Go p e below _ (T.setTop (mkF m 8 _ []))
 refine g_iload X d25_8 (pc' := 10) rfl rfl ?_
 refine g_iloadN X d25_10 (pc' := 11) rfl rfl ?_
 by_cases qa : ii < i2
 refine g_icN X d25_11 (tlt qa).2.1 (pc' := 14) rfl ?_
 refine g_aloadN X d25_14 (pc' := 15) rfl rfl rfl ?_
 refine g_getfield X (host := "") (Or.inl (tb hw 17 rfl)) Via.refl qb d25_15 (pc' := 18) rfl ?_
 intro T X
 refine g_iload X d25_18 (pc' := 20) rfl rfl ?_
 refine g_caload X qc i d25_20 (pc' := 21) rfl (I0.read r qa).2.2.1 (I0.read r qa).2.2.2.1 (by rw [lkT (I0.read r qa).2.1, (I0.read r qa).2.2.2.2.1]) ?_
 refine g_istore X d25_21 (pc' := 23) (Ls' := #[.val (.ref a0), .val (.int i1), .val (.int i2), .val (.int kk), .val (.int pp), .val (.int ii), .val (.int (List.getD cs i 0))]) rfl (os6 I0.2.2.2.2.2 _ _ _ _ _ _ _) ?_
 refine g_iload X d25_23 (pc' := 25) rfl rfl ?_
 refine g_bipush X (32 : Int32) d25_25 (pc' := 27) rfl rfl ?_
 by_cases qe : (List.getD cs i 0) = (32 : Int32)
 refine g_icN X d25_27 (teq qe).2 (pc' := 30) rfl ?_
 refine g_iloadN X d25_30 (pc' := 31) rfl rfl ?_
 refine g_iloadN X d25_31 (pc' := 32) rfl rfl ?_
 by_cases qf : i1 < kk
 refine g_icN X d25_32 (tlt qf).2.2.2 (pc' := 35) rfl ?_
 refine g_iconst X (1 : Int32) d25_35 (pc' := 36) rfl rfl ?_
 refine g_goto X d25_36 (pc' := 40) (by decide) (by decide) ?_
 refine g_istore X d25_40 (pc' := 42) (Ls' := #[.val (.ref a0), .val (.int i1), .val (.int i2), .val (.int kk), .val (.int (1 : Int32)), .val (.int ii), .val (.int (List.getD cs i 0))]) rfl rfl ?_
 refine g_goto X d25_42 (pc' := 75) (by decide) (by decide) ?_
 refine g_iinc X d25_75 (pc' := 78) (q := (1 : Int32)) (Ls' := #[.val (.ref a0), .val (.int i1), .val (.int i2), .val (.int kk), .val (.int (1 : Int32)), .val (.int (ii + (1 : Int32))), .val (.int (List.getD cs i 0))]) rfl rfl rfl rfl ?_
 refine g_goto X d25_78 (pc' := 8) (by decide) (by decide) ?_
 have S := I0.space r qa qe (p' := (1 : Int32)) (Or.inl ⟨qf, rfl⟩) (s6' := (.val (.int (List.getD cs i 0)))) (One.val rfl)
 exact ih (i + 1, kk, (1 : Int32), (ii + (1 : Int32)), (.val (.int (List.getD cs i 0)))) T h _ S.1 X ⟨S.2.2, N, Z0, Kp, qb, by rw [S.2.1]; exact qc⟩
 refine g_icY X d25_32 (flt qf).2.2.2 (pc' := 39) (by decide) (by decide) ?_
 refine g_iconst X (0 : Int32) d25_39 (pc' := 40) rfl rfl ?_
 refine g_istore X d25_40 (pc' := 42) (Ls' := #[.val (.ref a0), .val (.int i1), .val (.int i2), .val (.int kk), .val (.int (0 : Int32)), .val (.int ii), .val (.int (List.getD cs i 0))]) rfl rfl ?_
 refine g_goto X d25_42 (pc' := 75) (by decide) (by decide) ?_
 refine g_iinc X d25_75 (pc' := 78) (q := (1 : Int32)) (Ls' := #[.val (.ref a0), .val (.int i1), .val (.int i2), .val (.int kk), .val (.int (0 : Int32)), .val (.int (ii + (1 : Int32))), .val (.int (List.getD cs i 0))]) rfl rfl rfl rfl ?_
 refine g_goto X d25_78 (pc' := 8) (by decide) (by decide) ?_
 have S := I0.space r qa qe (p' := (0 : Int32)) (Or.inr ⟨qf, rfl⟩) (s6' := (.val (.int (List.getD cs i 0)))) (One.val rfl)
 exact ih (i + 1, kk, (0 : Int32), (ii + (1 : Int32)), (.val (.int (List.getD cs i 0)))) T h _ S.1 X ⟨S.2.2, N, Z0, Kp, qb, by rw [S.2.1]; exact qc⟩
 refine g_icY X d25_27 (feq qe).2 (pc' := 45) (by decide) (by decide) ?_
 refine g_iload X d25_45 (pc' := 47) rfl rfl ?_
 by_cases qd : pp = (0 : Int32)
 refine g_ifY X d25_47 ((if0 _ _).trans (teq qd).1) (pc' := 64) (by decide) (by decide) ?_
 refine g_aloadN X d25_64 (pc' := 65) rfl rfl rfl ?_
 refine g_getfield X (host := "") (Or.inl (tb hw 17 rfl)) Via.refl qb d25_65 (pc' := 68) rfl ?_
 intro T X
 refine g_iloadN X d25_68 (pc' := 69) rfl rfl ?_
 refine g_iinc X d25_69 (pc' := 72) (q := (1 : Int32)) (Ls' := #[.val (.ref a0), .val (.int i1), .val (.int i2), .val (.int (kk + (1 : Int32))), .val (.int pp), .val (.int ii), .val (.int (List.getD cs i 0))]) rfl rfl rfl rfl ?_
 refine g_iload X d25_72 (pc' := 74) rfl rfl ?_
 refine g_castore X qc (git cs sa ea i).2 d25_74 (pc' := 75) rfl (I0.place r qa).2.2.1 (I0.place r qa).2.2.2.1 (by rw [lenT]; exact Nat.lt_of_lt_of_le (I0.place r qa).2.1 (Nat.le_add_right _ _)) ?_
 intro T h X W qc
 replace qb := qb.other W (Or.inl qh)
 replace Z0 := Nat.le_trans Z0 (Nat.le_of_eq W.size.symm)
 replace N := Fr.snoc X.1 N qg
 replace Kp := Kp.wr W (Or.inl (List.mem_of_getElem? (i := 0) rfl))
 refine g_iinc X d25_75 (pc' := 78) (q := (1 : Int32)) (Ls' := #[.val (.ref a0), .val (.int i1), .val (.int i2), .val (.int (kk + (1 : Int32))), .val (.int pp), .val (.int (ii + (1 : Int32))), .val (.int (List.getD cs i 0))]) rfl rfl rfl rfl ?_
 refine g_goto X d25_78 (pc' := 8) (by decide) (by decide) ?_
 have S := I0.plain r qa qe qd (s6' := (.val (.int (List.getD cs i 0)))) (One.val rfl)
 exact ih (i + 1, (kk + (1 : Int32)), pp, (ii + (1 : Int32)), (.val (.int (List.getD cs i 0)))) T h _ S.1 X ⟨S.2.2, N, Z0, Kp, qb, qc.eq (by rw [(I0.read r qa).2.2.2.2.2, stT (I0.place r qa).2.1, S.2.1])⟩
 refine g_ifN X d25_47 ((if0 _ _).trans (feq qd).1) (pc' := 50) rfl ?_
 refine g_aloadN X d25_50 (pc' := 51) rfl rfl rfl ?_
 refine g_getfield X (host := "") (Or.inl (tb hw 17 rfl)) Via.refl qb d25_51 (pc' := 54) rfl ?_
 intro T X
 refine g_iloadN X d25_54 (pc' := 55) rfl rfl ?_
 refine g_iinc X d25_55 (pc' := 58) (q := (1 : Int32)) (Ls' := #[.val (.ref a0), .val (.int i1), .val (.int i2), .val (.int (kk + (1 : Int32))), .val (.int pp), .val (.int ii), .val (.int (List.getD cs i 0))]) rfl rfl rfl rfl ?_
 refine g_bipush X (32 : Int32) d25_58 (pc' := 60) rfl rfl ?_
 refine g_castore X qc (git cs sa ea i).2 d25_60 (pc' := 61) rfl (I0.place r qa).2.2.1 (I0.place r qa).2.2.2.1 (by rw [lenT]; exact Nat.lt_of_lt_of_le (I0.place r qa).2.1 (Nat.le_add_right _ _)) ?_
 intro T h X W qc
 replace qb := qb.other W (Or.inl qh)
 replace Z0 := Nat.le_trans Z0 (Nat.le_of_eq W.size.symm)
 replace N := Fr.snoc X.1 N qg
 replace Kp := Kp.wr W (Or.inl (List.mem_of_getElem? (i := 0) rfl))
 refine g_iconst X (0 : Int32) d25_61 (pc' := 62) rfl rfl ?_
 refine g_istore X d25_62 (pc' := 64) (Ls' := #[.val (.ref a0), .val (.int i1), .val (.int i2), .val (.int (kk + (1 : Int32))), .val (.int (0 : Int32)), .val (.int ii), .val (.int (List.getD cs i 0))]) rfl rfl ?_
 refine g_aloadN X d25_64 (pc' := 65) rfl rfl rfl ?_
 refine g_getfield X (host := "") (Or.inl (tb hw 17 rfl)) Via.refl qb d25_65 (pc' := 68) rfl ?_
 intro T X
 refine g_iloadN X d25_68 (pc' := 69) rfl rfl ?_
 refine g_iinc X d25_69 (pc' := 72) (q := (1 : Int32)) (Ls' := #[.val (.ref a0), .val (.int i1), .val (.int i2), .val (.int ((kk + (1 : Int32)) + (1 : Int32))), .val (.int (0 : Int32)), .val (.int ii), .val (.int (List.getD cs i 0))]) rfl rfl rfl rfl ?_
 refine g_iload X d25_72 (pc' := 74) rfl rfl ?_
 refine g_castore X qc ((git cs sa ea i).2 + 1) d25_74 (pc' := 75) rfl (I0.next r qa qd).1 (I0.next r qa qd).2.1 (by have q := (I0.next r qa qd).2.2; rw [List.length_set] at q; rw [List.length_set, lenT]; omega) ?_
 intro T h X W qc
 replace qb := qb.other W (Or.inl qh)
 replace Z0 := Nat.le_trans Z0 (Nat.le_of_eq W.size.symm)
 replace N := Fr.snoc X.1 N qg
 replace Kp := Kp.wr W (Or.inl (List.mem_of_getElem? (i := 0) rfl))
 refine g_iinc X d25_75 (pc' := 78) (q := (1 : Int32)) (Ls' := #[.val (.ref a0), .val (.int i1), .val (.int i2), .val (.int ((kk + (1 : Int32)) + (1 : Int32))), .val (.int (0 : Int32)), .val (.int (ii + (1 : Int32))), .val (.int (List.getD cs i 0))]) rfl rfl rfl rfl ?_
 refine g_goto X d25_78 (pc' := 8) (by decide) (by decide) ?_
 have S := I0.pend r qa qe qd (s6' := (.val (.int (List.getD cs i 0)))) (One.val rfl)
 exact ih (i + 1, ((kk + (1 : Int32)) + (1 : Int32)), (0 : Int32), (ii + (1 : Int32)), (.val (.int (List.getD cs i 0)))) T h _ S.1 X ⟨S.2.2, N, Z0, Kp, qb, qc.eq (by rw [(I0.read r qa).2.2.2.2.2, show nar .char (32 : Int32) = 32 from rfl, stT (I0.place r qa).2.1, stT (I0.next r qa qd).2.2, S.2.1])⟩
 refine g_icY X d25_11 (flt qa).2.1 (pc' := 81) (by decide) (by decide) ?_
 refine g_iloadN X d25_81 (pc' := 82) rfl rfl ?_
 refine g_ireturn X d25_82 hret hlk (by decide) (by decide) ?_
 obtain ⟨q1, q2, q3⟩ := I0.last r qa
 exact ⟨kk, rfl, N, Kp, q3, by rw [q2]; exact qc⟩
theorem d26_0 : decode prog_14_method_2_code 0 = .ok (.aload_n 0, 1) := by decide +kernel
theorem d26_1 : decode prog_14_method_2_code 1 = .ok (.getfield 13, 3) := by decide +kernel
theorem d26_4 : decode prog_14_method_2_code 4 = .ok (.areturn, 1) := by decide +kernel
theorem ef_rChs (m : MethodId) (x0 : Addr) : entryFrame m #[(.ref x0)] 1 = mkF m 0 #[.val (.ref x0)] [] := by first | (simp [entryFrame, mkF, argsToLocals, Value.category]; done) | rfl
set_option maxRecDepth 65536 in
set_option maxHeartbeats 40000000 in
theorem rChs (l : Launch) (Z : State) (aa : Array Value) (hw : ∀ d ∈ tables_1, d.before aa Z = true) (ws : List Jvm.Cond) (a0 : Addr) (q0 : Addr) (h0 : Heap) (qb : Exa Z h0 a0 "com/example/scheherazade/scheherazade/core/TextBuilder") (qa : Fld Z h0 a0 "com/example/scheherazade/scheherazade/core/TextBuilder" "chars" "[C" (.ref q0)) :
    Rm l Z (⟨"com/example/scheherazade/scheherazade/core/TextBuilder", "chars", "()[C"⟩ : MethodName) prog_14_method_2_code 1 (some (.array .char)) ws ({ frames := 0, cells := 0, slots := 0, locals := 0 } : Room) #[(.ref a0)] h0 (Pu (.ref q0) h0) := by
 refine Rm.of (plainFor_of_name pn_5) ?_
 intro p e s m below meth cc T X hnm hret hlk
 refine Go.at_ (ef_rChs m a0) ?_
 refine g_aloadN X d26_0 (pc' := 1) rfl rfl rfl ?_
 refine g_getfield X (host := "") (Or.inl (tb hw 17 rfl)) Via.refl qa d26_1 (pc' := 4) rfl ?_
 intro T X
 refine g_areturn X rfl rfl d26_4 hret hlk (by decide) (by decide) ?_
 exact ⟨rfl, rfl, rfl⟩
theorem d28_0 : decode prog_14_method_3_code 0 = .ok (.aload_n 0, 1) := by decide +kernel
theorem d28_1 : decode prog_14_method_3_code 1 = .ok (.getfield 20, 3) := by decide +kernel
theorem d28_4 : decode prog_14_method_3_code 4 = .ok (.ireturn, 1) := by decide +kernel
theorem ef_rTln (m : MethodId) (x0 : Addr) : entryFrame m #[(.ref x0)] 1 = mkF m 0 #[.val (.ref x0)] [] := by first | (simp [entryFrame, mkF, argsToLocals, Value.category]; done) | rfl
set_option maxRecDepth 65536 in
set_option maxHeartbeats 40000000 in
theorem rTln (l : Launch) (Z : State) (aa : Array Value) (hw : ∀ d ∈ tables_1, d.before aa Z = true) (ws : List Jvm.Cond) (a0 : Addr) (ln : Int32) (h0 : Heap) (qb : Exa Z h0 a0 "com/example/scheherazade/scheherazade/core/TextBuilder") (qa : Fld Z h0 a0 "com/example/scheherazade/scheherazade/core/TextBuilder" "length" "I" (.int ln)) :
    Rm l Z (⟨"com/example/scheherazade/scheherazade/core/TextBuilder", "length", "()I"⟩ : MethodName) prog_14_method_3_code 1 (some .int) ws ({ frames := 0, cells := 0, slots := 0, locals := 0 } : Room) #[(.ref a0)] h0 (Pu (.int ln) h0) := by
 refine Rm.of (plainFor_of_name pn_5) ?_
 intro p e s m below meth cc T X hnm hret hlk
 refine Go.at_ (ef_rTln m a0) ?_
 refine g_aloadN X d28_0 (pc' := 1) rfl rfl rfl ?_
 refine g_getfield X (host := "") (Or.inl (tb hw 63 rfl)) Via.refl qa d28_1 (pc' := 4) rfl ?_
 intro T X
 refine g_ireturn X d28_4 hret hlk (by decide) (by decide) ?_
 exact ⟨rfl, rfl, rfl⟩
theorem pn_6 : plainName "com/example/scheherazade/scheherazade/core/TextBuilderCollapseSpacesPinLaw" = true := by first | (simp [plainName, overriddenIn]; done) | decide +kernel
theorem d1_0 : decode method_2_code 0 = .ok (.iload_n 2, 1) := by decide +kernel
theorem d1_1 : decode method_2_code 1 = .ok (.iload_n 3, 1) := by decide +kernel
theorem d1_2 : decode method_2_code 2 = .ok (.iushr, 1) := by decide +kernel
theorem d1_3 : decode method_2_code 3 = .ok (.iconst 1, 1) := by decide +kernel
theorem d1_4 : decode method_2_code 4 = .ok (.iand, 1) := by decide +kernel
theorem d1_5 : decode method_2_code 5 = .ok (.ifCond .eq 8, 3) := by decide +kernel
theorem d1_13 : decode method_2_code 13 = .ok (.lload_n 0, 1) := by decide +kernel
theorem d1_14 : decode method_2_code 14 = .ok (.l2i, 1) := by decide +kernel
theorem d1_15 : decode method_2_code 15 = .ok (.i2c, 1) := by decide +kernel
theorem d1_16 : decode method_2_code 16 = .ok (.ireturn, 1) := by decide +kernel
theorem d1_8 : decode method_2_code 8 = .ok (.bipush 32, 2) := by decide +kernel
theorem d1_10 : decode method_2_code 10 = .ok (.goto 6, 3) := by decide +kernel
def fDraw (j0 : Int64) (i1 : Int32) (i2 : Int32) : Int32 := if (((i1.toUInt32 >>> (i2 &&& 31).toUInt32).toInt32) &&& (1 : Int32)) = (0 : Int32) then (nar .char ((j0.toInt32).toUInt32.toUInt16.toUInt32.toInt32)) else (nar .char (32 : Int32))
theorem ef_rDraw (m : MethodId) (x0 : Int64) (x1 : Int32) (x2 : Int32) : entryFrame m #[(.long x0), (.int x1), (.int x2)] 4 = mkF m 0 #[.val (.long x0), .second, .val (.int x1), .val (.int x2)] [] := by first | (simp [entryFrame, mkF, argsToLocals, Value.category]; done) | rfl
set_option maxRecDepth 65536 in
set_option maxHeartbeats 40000000 in
theorem rDraw (l : Launch) (Z : State) (aa : Array Value) (hw : ∀ d ∈ tables_1, d.before aa Z = true) (ws : List Jvm.Cond) (j0 : Int64) (i1 : Int32) (i2 : Int32) (h0 : Heap) :
    Rm l Z (⟨"com/example/scheherazade/scheherazade/core/TextBuilderCollapseSpacesPinLaw", "draw", "(JII)C"⟩ : MethodName) method_2_code 4 (some .char) ws ({ frames := 0, cells := 0, slots := 0, locals := 0 } : Room) #[(.long j0), (.int i1), (.int i2)] h0 (Pu (.int (fDraw j0 i1 i2)) h0) := by
 refine Rm.of (plainFor_of_name pn_6) ?_
 intro p e s m below meth cc T X hnm hret hlk
 refine Go.at_ (ef_rDraw m j0 i1 i2) ?_
 refine g_iloadN X d1_0 (pc' := 1) rfl rfl ?_
 refine g_iloadN X d1_1 (pc' := 2) rfl rfl ?_
 refine g_iushr X d1_2 (pc' := 3) rfl ?_
 refine g_iconst X (1 : Int32) d1_3 (pc' := 4) rfl rfl ?_
 refine g_iand X d1_4 (pc' := 5) rfl ?_
 by_cases qa : (((i1.toUInt32 >>> (i2 &&& 31).toUInt32).toInt32) &&& (1 : Int32)) = (0 : Int32)
 refine g_ifY X d1_5 ((if0 _ _).trans (teq qa).1) (pc' := 13) (by decide) (by decide) ?_
 refine g_lloadN X d1_13 (pc' := 14) rfl rfl ?_
 refine g_l2i X d1_14 (pc' := 15) rfl ?_
 refine g_i2c X d1_15 (pc' := 16) rfl ?_
 refine g_ireturnN X (t := .char) (by simp) d1_16 hret hlk (by decide) (by decide) ?_
 exact ⟨congrArg (fun z => some (Value.int z)) (Eq.symm (show fDraw j0 i1 i2 = _ from (Eq.trans (if_pos qa) rfl))), rfl, rfl⟩
 refine g_ifN X d1_5 ((if0 _ _).trans (feq qa).1) (pc' := 8) rfl ?_
 refine g_bipush X (32 : Int32) d1_8 (pc' := 10) rfl rfl ?_
 refine g_goto X d1_10 (pc' := 16) (by decide) (by decide) ?_
 refine g_ireturnN X (t := .char) (by simp) d1_16 hret hlk (by decide) (by decide) ?_
 exact ⟨congrArg (fun z => some (Value.int z)) (Eq.symm (show fDraw j0 i1 i2 = _ from (Eq.trans (if_neg qa) rfl))), rfl, rfl⟩
theorem d27_0 : decode method_3_code 0 = .ok (.iload_n 2, 1) := by decide +kernel
theorem d27_1 : decode method_3_code 1 = .ok (.iload 4, 2) := by decide +kernel
theorem d27_3 : decode method_3_code 3 = .ok (.if_icmp .lt 17, 3) := by decide +kernel
theorem d27_20 : decode method_3_code 20 = .ok (.iload_n 3, 1) := by decide +kernel
theorem d27_21 : decode method_3_code 21 = .ok (.ireturn, 1) := by decide +kernel
theorem d27_6 : decode method_3_code 6 = .ok (.iload_n 2, 1) := by decide +kernel
theorem d27_7 : decode method_3_code 7 = .ok (.iload 5, 2) := by decide +kernel
theorem d27_9 : decode method_3_code 9 = .ok (.if_icmp .ge 11, 3) := by decide +kernel
theorem d27_12 : decode method_3_code 12 = .ok (.aload_n 0, 1) := by decide +kernel
theorem d27_13 : decode method_3_code 13 = .ok (.iload_n 2, 1) := by decide +kernel
theorem d27_14 : decode method_3_code 14 = .ok (.caload, 1) := by decide +kernel
theorem d27_15 : decode method_3_code 15 = .ok (.bipush 32, 2) := by decide +kernel
theorem d27_17 : decode method_3_code 17 = .ok (.if_icmp .ne 5, 3) := by decide +kernel
theorem d27_22 : decode method_3_code 22 = .ok (.iload_n 3, 1) := by decide +kernel
theorem d27_23 : decode method_3_code 23 = .ok (.istore 6, 2) := by decide +kernel
theorem d27_25 : decode method_3_code 25 = .ok (.iload 6, 2) := by decide +kernel
theorem d27_27 : decode method_3_code 27 = .ok (.iload 4, 2) := by decide +kernel
theorem d27_29 : decode method_3_code 29 = .ok (.if_icmp .le 22, 3) := by decide +kernel
theorem d27_51 : decode method_3_code 51 = .ok (.aload_n 1, 1) := by decide +kernel
theorem d27_52 : decode method_3_code 52 = .ok (.iload 6, 2) := by decide +kernel
theorem d27_54 : decode method_3_code 54 = .ok (.aload_n 0, 1) := by decide +kernel
theorem d27_55 : decode method_3_code 55 = .ok (.iload_n 2, 1) := by decide +kernel
theorem d27_56 : decode method_3_code 56 = .ok (.caload, 1) := by decide +kernel
theorem d27_57 : decode method_3_code 57 = .ok (.castore, 1) := by decide +kernel
theorem d27_58 : decode method_3_code 58 = .ok (.iload 6, 2) := by decide +kernel
theorem d27_60 : decode method_3_code 60 = .ok (.iconst 1, 1) := by decide +kernel
theorem d27_61 : decode method_3_code 61 = .ok (.iadd, 1) := by decide +kernel
theorem d27_62 : decode method_3_code 62 = .ok (.ireturn, 1) := by decide +kernel
theorem ef_rPut0 (m : MethodId) (x0 : Addr) (x1 : Addr) (x2 : Int32) (x3 : Int32) (x4 : Int32) (x5 : Int32) : entryFrame m #[(.ref x0), (.ref x1), (.int x2), (.int x3), (.int x4), (.int x5)] 7 = mkF m 0 #[.val (.ref x0), .val (.ref x1), .val (.int x2), .val (.int x3), .val (.int x4), .val (.int x5), .unset] [] := by first | (simp [entryFrame, mkF, argsToLocals, Value.category]; done) | rfl
set_option maxRecDepth 65536 in
set_option maxHeartbeats 40000000 in
theorem rPut0 (l : Launch) (Z : State) (aa : Array Value) (hw : ∀ d ∈ tables_1, d.before aa Z = true) (ws : List Jvm.Cond) (w0 : Addr) (w1 : Addr) (kk : Int32) (i1 : Int32) (i2 : Int32) (c0 : Int32) (c1 : Int32) (c2 : Int32) (c3 : Int32) (c4 : Int32) (c5 : Int32) (sa : Nat) (ea : Nat) (h0 : Heap) (n0 : Nat) (Z0 : n0 ≤ h0.size) (qe : Av Z h0 w0 .char [(.int c0), (.int c1), (.int c2), (.int c3), (.int c4), (.int c5)]) (qa : Av Z h0 w1 .char (arrT (git [c0, c1, c2, c3, c4, c5] sa ea 0).1 [])) (qf : n0 ≤ w1) (qg : w0 ≠ w1) (r : Rng [c0, c1, c2, c3, c4, c5] sa ea i1 i2) (hk : kk.toInt = (git [c0, c1, c2, c3, c4, c5] sa ea 0).2) (hR : R6 c0 c1 c2 c3 c4 c5) :
    Rm l Z (⟨"com/example/scheherazade/scheherazade/core/TextBuilderCollapseSpacesPinLaw", "put", "([C[CIIII)I"⟩ : MethodName) method_3_code 7 (some .int) ws ({ frames := 0, cells := 0, slots := 0, locals := 0 } : Room) #[(.ref w0), (.ref w1), (.int (0 : Int32)), (.int kk), (.int i1), (.int i2)] h0 (fun v h L => ∃ k' : Int32, v = some (.int k') ∧ Fr n0 L ∧ Keep h0 h [w1] ∧ k'.toInt = (git [c0, c1, c2, c3, c4, c5] sa ea 1).2 ∧ Av Z h w1 .char (arrT (git [c0, c1, c2, c3, c4, c5] sa ea 1).1 [])) := by
 refine Rm.of (plainFor_of_name pn_6) ?_
 intro p e s m below meth cc T X hnm hret hlk
 refine Go.at_ (ef_rPut0 m w0 w1 (0 : Int32) kk i1 i2) ?_
 have N := Fr.nil n0
 have Kp := Keep.refl h0 [w1]
 obtain ⟨hR0, hR1, hR2, hR3, hR4, hR5⟩ := hR
 refine g_iloadN X d27_0 (pc' := 1) rfl rfl ?_
 refine g_iload X d27_1 (pc' := 3) rfl rfl ?_
 by_cases qb : (0 : Int32) < i1
 refine g_icY X d27_3 (tlt qb).1 (pc' := 20) (by decide) (by decide) ?_
 refine g_iloadN X d27_20 (pc' := 21) rfl rfl ?_
 refine g_ireturn X d27_21 hret hlk (by decide) (by decide) ?_
 have q : (git [c0, c1, c2, c3, c4, c5] sa ea 1) = _ := put_out (by have q := qb; rw [Int32.lt_iff_toInt_lt, r.2.1] at q; simp only [Int32.reduceToInt] at q; omega)
 exact ⟨kk, rfl, N, Kp, by rw [q]; exact hk, by rw [q]; exact qa⟩
 refine g_icN X d27_3 (flt qb).1 (pc' := 6) rfl ?_
 refine g_iloadN X d27_6 (pc' := 7) rfl rfl ?_
 refine g_iload X d27_7 (pc' := 9) rfl rfl ?_
 by_cases qc : (0 : Int32) < i2
 refine g_icN X d27_9 (tlt qc).2.1 (pc' := 12) rfl ?_
 refine g_aloadN X d27_12 (pc' := 13) rfl rfl rfl ?_
 refine g_iloadN X d27_13 (pc' := 14) rfl rfl ?_
 refine g_caload X qe 0 d27_14 (pc' := 15) rfl (by decide) (by decide) rfl ?_
 refine g_bipush X (32 : Int32) d27_15 (pc' := 17) rfl rfl ?_
 by_cases qd : c0 = (32 : Int32)
 refine g_icN X d27_17 (teq qd).2 (pc' := 20) rfl ?_
 refine g_iloadN X d27_20 (pc' := 21) rfl rfl ?_
 refine g_ireturn X d27_21 hret hlk (by decide) (by decide) ?_
 have q : (git [c0, c1, c2, c3, c4, c5] sa ea 1) = _ := put_space qd
 exact ⟨kk, rfl, N, Kp, by rw [q]; exact hk, by rw [q]; exact qa⟩
 refine g_icY X d27_17 (feq qd).2 (pc' := 22) (by decide) (by decide) ?_
 have H1 : sa ≤ 0 := by have q := qb; rw [Int32.lt_iff_toInt_lt, r.2.1] at q; simp only [Int32.reduceToInt] at q; omega
 have H2 : 0 < ea := by have q := qc; rw [Int32.lt_iff_toInt_lt, r.2.2.1] at q; simp only [Int32.reduceToInt] at q; omega
 obtain ⟨HK1, HK2, HK3⟩ := git_k [c0, c1, c2, c3, c4, c5] sa ea 0 H1
 have HL : (git [c0, c1, c2, c3, c4, c5] sa ea 0).1.length = 6 := git_len [c0, c1, c2, c3, c4, c5] sa ea 0
 refine g_iloadN X d27_22 (pc' := 23) rfl rfl ?_
 refine g_istore X d27_23 (pc' := 25) (Ls' := #[.val (.ref w0), .val (.ref w1), .val (.int (0 : Int32)), .val (.int kk), .val (.int i1), .val (.int i2), .val (.int kk)]) rfl rfl ?_
 refine g_iload X d27_25 (pc' := 27) rfl rfl ?_
 refine g_iload X d27_27 (pc' := 29) rfl rfl ?_
 refine g_icY X d27_29 (flt (show ¬ (i1 < kk) from (by rw [Int32.lt_iff_toInt_lt, hk, r.2.1]; show ¬ ((sa : Int) < (sa : Int)); omega))).2.2.2 (pc' := 51) (by decide) (by decide) ?_
 refine g_aloadN X d27_51 (pc' := 52) rfl rfl rfl ?_
 refine g_iload X d27_52 (pc' := 54) rfl rfl ?_
 refine g_aloadN X d27_54 (pc' := 55) rfl rfl rfl ?_
 refine g_iloadN X d27_55 (pc' := 56) rfl rfl ?_
 refine g_caload X qe 0 d27_56 (pc' := 57) rfl (by decide) (by decide) rfl ?_
 refine g_castore X qa (git [c0, c1, c2, c3, c4, c5] sa ea 0).2 d27_57 (pc' := 58) rfl (nat32 hk).1 (nat32 hk).2 (by rw [lenT, HL]; omega) ?_
 intro T h X W qa
 replace Z0 := Nat.le_trans Z0 (Nat.le_of_eq W.size.symm)
 replace N := Fr.snoc X.1 N qf
 replace Kp := Kp.wr W (Or.inl (List.mem_of_getElem? (i := 0) rfl))
 refine g_iload X d27_58 (pc' := 60) rfl rfl ?_
 refine g_iconst X (1 : Int32) d27_60 (pc' := 61) rfl rfl ?_
 refine g_iadd X d27_61 (pc' := 62) rfl ?_
 refine g_ireturn X d27_62 hret hlk (by decide) (by decide) ?_
 have q : (git [c0, c1, c2, c3, c4, c5] sa ea 1) = _ := put_plain H1 H2 qd (fun x => absurd x.1 (Nat.lt_irrefl _))
 exact ⟨_, rfl, N, Kp, by rw [q]; exact inc32 hk (by omega), qa.eq (by rw [narC hR0.1 hR0.2, stT (by rw [HL]; omega)]; exact (congrArg (fun x => arrT x.1 []) q).symm)⟩
 refine g_icY X d27_9 (flt qc).2.1 (pc' := 20) (by decide) (by decide) ?_
 refine g_iloadN X d27_20 (pc' := 21) rfl rfl ?_
 refine g_ireturn X d27_21 hret hlk (by decide) (by decide) ?_
 have q : (git [c0, c1, c2, c3, c4, c5] sa ea 1) = _ := put_out (by have q := qc; rw [Int32.lt_iff_toInt_lt, r.2.2.1] at q; simp only [Int32.reduceToInt] at q; omega)
 exact ⟨kk, rfl, N, Kp, by rw [q]; exact hk, by rw [q]; exact qa⟩
theorem d29_0 : decode method_4_code 0 = .ok (.iload_n 2, 1) := by decide +kernel
theorem d29_1 : decode method_4_code 1 = .ok (.iload_n 3, 1) := by decide +kernel
theorem d29_2 : decode method_4_code 2 = .ok (.if_icmp .lt 9, 3) := by decide +kernel
theorem d29_11 : decode method_4_code 11 = .ok (.aload_n 0, 1) := by decide +kernel
theorem d29_12 : decode method_4_code 12 = .ok (.iload_n 2, 1) := by decide +kernel
theorem d29_13 : decode method_4_code 13 = .ok (.caload, 1) := by decide +kernel
theorem d29_14 : decode method_4_code 14 = .ok (.aload_n 1, 1) := by decide +kernel
theorem d29_15 : decode method_4_code 15 = .ok (.iload_n 2, 1) := by decide +kernel
theorem d29_16 : decode method_4_code 16 = .ok (.caload, 1) := by decide +kernel
theorem d29_17 : decode method_4_code 17 = .ok (.if_icmp .ne 7, 3) := by decide +kernel
theorem d29_20 : decode method_4_code 20 = .ok (.iconst 1, 1) := by decide +kernel
theorem d29_21 : decode method_4_code 21 = .ok (.goto 4, 3) := by decide +kernel
theorem d29_25 : decode method_4_code 25 = .ok (.ireturn, 1) := by decide +kernel
theorem d29_5 : decode method_4_code 5 = .ok (.iload_n 2, 1) := by decide +kernel
theorem d29_6 : decode method_4_code 6 = .ok (.iload 4, 2) := by decide +kernel
theorem d29_8 : decode method_4_code 8 = .ok (.if_icmp .lt 12, 3) := by decide +kernel
theorem ef_rSam0 (m : MethodId) (x0 : Addr) (x1 : Addr) (x2 : Int32) (x3 : Int32) (x4 : Int32) : entryFrame m #[(.ref x0), (.ref x1), (.int x2), (.int x3), (.int x4)] 5 = mkF m 0 #[.val (.ref x0), .val (.ref x1), .val (.int x2), .val (.int x3), .val (.int x4)] [] := by first | (simp [entryFrame, mkF, argsToLocals, Value.category]; done) | rfl
set_option maxRecDepth 65536 in
set_option maxHeartbeats 40000000 in
theorem rSam0 (l : Launch) (Z : State) (aa : Array Value) (hw : ∀ d ∈ tables_1, d.before aa Z = true) (ws : List Jvm.Cond) (w0 : Addr) (w1 : Addr) (kk : Int32) (i2 : Int32) (R : List Int32) (tl : List Value) (h0 : Heap) (qa : Av Z h0 w0 .char (arrT R tl)) (qb : Av Z h0 w1 .char (arrT R [])) (hl : R.length = 6) :
    Rm l Z (⟨"com/example/scheherazade/scheherazade/core/TextBuilderCollapseSpacesPinLaw", "same", "([C[CIII)Z"⟩ : MethodName) method_4_code 5 (some .boolean) ws ({ frames := 0, cells := 0, slots := 0, locals := 0 } : Room) #[(.ref w0), (.ref w1), (.int (0 : Int32)), (.int kk), (.int i2)] h0 (Pu (.int (1 : Int32)) h0) := by
 refine Rm.of (plainFor_of_name pn_6) ?_
 intro p e s m below meth cc T X hnm hret hlk
 refine Go.at_ (ef_rSam0 m w0 w1 (0 : Int32) kk i2) ?_
 refine g_iloadN X d29_0 (pc' := 1) rfl rfl ?_
 refine g_iloadN X d29_1 (pc' := 2) rfl rfl ?_
 by_cases qc : (0 : Int32) < kk
 refine g_icY X d29_2 (tlt qc).1 (pc' := 11) (by decide) (by decide) ?_
 refine g_aloadN X d29_11 (pc' := 12) rfl rfl rfl ?_
 refine g_iloadN X d29_12 (pc' := 13) rfl rfl ?_
 refine g_caload X qa 0 d29_13 (pc' := 14) rfl (by decide) (by decide) (lkT (by rw [hl]; decide)) ?_
 refine g_aloadN X d29_14 (pc' := 15) rfl rfl rfl ?_
 refine g_iloadN X d29_15 (pc' := 16) rfl rfl ?_
 refine g_caload X qb 0 d29_16 (pc' := 17) rfl (by decide) (by decide) (lkT (by rw [hl]; decide)) ?_
 refine g_icN X d29_17 (teq (show (List.getD R 0 0) = (List.getD R 0 0) from rfl)).2 (pc' := 20) rfl ?_
 refine g_iconst X (1 : Int32) d29_20 (pc' := 21) rfl rfl ?_
 refine g_goto X d29_21 (pc' := 25) (by decide) (by decide) ?_
 refine g_ireturnN X (t := .boolean) (by simp) d29_25 hret hlk (by decide) (by decide) ?_
 exact ⟨rfl, rfl, rfl⟩
 refine g_icN X d29_2 (flt qc).1 (pc' := 5) rfl ?_
 refine g_iloadN X d29_5 (pc' := 6) rfl rfl ?_
 refine g_iload X d29_6 (pc' := 8) rfl rfl ?_
 by_cases qd : (0 : Int32) < i2
 refine g_icY X d29_8 (tlt qd).1 (pc' := 20) (by decide) (by decide) ?_
 refine g_iconst X (1 : Int32) d29_20 (pc' := 21) rfl rfl ?_
 refine g_goto X d29_21 (pc' := 25) (by decide) (by decide) ?_
 refine g_ireturnN X (t := .boolean) (by simp) d29_25 hret hlk (by decide) (by decide) ?_
 exact ⟨rfl, rfl, rfl⟩
 refine g_icN X d29_8 (flt qd).1 (pc' := 11) rfl ?_
 refine g_aloadN X d29_11 (pc' := 12) rfl rfl rfl ?_
 refine g_iloadN X d29_12 (pc' := 13) rfl rfl ?_
 refine g_caload X qa 0 d29_13 (pc' := 14) rfl (by decide) (by decide) (lkT (by rw [hl]; decide)) ?_
 refine g_aloadN X d29_14 (pc' := 15) rfl rfl rfl ?_
 refine g_iloadN X d29_15 (pc' := 16) rfl rfl ?_
 refine g_caload X qb 0 d29_16 (pc' := 17) rfl (by decide) (by decide) (lkT (by rw [hl]; decide)) ?_
 refine g_icN X d29_17 (teq (show (List.getD R 0 0) = (List.getD R 0 0) from rfl)).2 (pc' := 20) rfl ?_
 refine g_iconst X (1 : Int32) d29_20 (pc' := 21) rfl rfl ?_
 refine g_goto X d29_21 (pc' := 25) (by decide) (by decide) ?_
 refine g_ireturnN X (t := .boolean) (by simp) d29_25 hret hlk (by decide) (by decide) ?_
 exact ⟨rfl, rfl, rfl⟩
theorem d27_32 : decode method_3_code 32 = .ok (.aload_n 0, 1) := by decide +kernel
theorem d27_33 : decode method_3_code 33 = .ok (.iload_n 2, 1) := by decide +kernel
theorem d27_34 : decode method_3_code 34 = .ok (.iconst 1, 1) := by decide +kernel
theorem d27_35 : decode method_3_code 35 = .ok (.isub, 1) := by decide +kernel
theorem d27_36 : decode method_3_code 36 = .ok (.caload, 1) := by decide +kernel
theorem d27_37 : decode method_3_code 37 = .ok (.bipush 32, 2) := by decide +kernel
theorem d27_39 : decode method_3_code 39 = .ok (.if_icmp .ne 12, 3) := by decide +kernel
theorem d27_42 : decode method_3_code 42 = .ok (.aload_n 1, 1) := by decide +kernel
theorem d27_43 : decode method_3_code 43 = .ok (.iload 6, 2) := by decide +kernel
theorem d27_45 : decode method_3_code 45 = .ok (.bipush 32, 2) := by decide +kernel
theorem d27_47 : decode method_3_code 47 = .ok (.castore, 1) := by decide +kernel
theorem d27_48 : decode method_3_code 48 = .ok (.iinc 6 1, 3) := by decide +kernel
theorem ef_rPut1 (m : MethodId) (x0 : Addr) (x1 : Addr) (x2 : Int32) (x3 : Int32) (x4 : Int32) (x5 : Int32) : entryFrame m #[(.ref x0), (.ref x1), (.int x2), (.int x3), (.int x4), (.int x5)] 7 = mkF m 0 #[.val (.ref x0), .val (.ref x1), .val (.int x2), .val (.int x3), .val (.int x4), .val (.int x5), .unset] [] := by first | (simp [entryFrame, mkF, argsToLocals, Value.category]; done) | rfl
set_option maxRecDepth 65536 in
set_option maxHeartbeats 40000000 in
theorem rPut1 (l : Launch) (Z : State) (aa : Array Value) (hw : ∀ d ∈ tables_1, d.before aa Z = true) (ws : List Jvm.Cond) (w0 : Addr) (w1 : Addr) (kk : Int32) (i1 : Int32) (i2 : Int32) (c0 : Int32) (c1 : Int32) (c2 : Int32) (c3 : Int32) (c4 : Int32) (c5 : Int32) (sa : Nat) (ea : Nat) (h0 : Heap) (n0 : Nat) (Z0 : n0 ≤ h0.size) (qb : Av Z h0 w0 .char [(.int c0), (.int c1), (.int c2), (.int c3), (.int c4), (.int c5)]) (qa : Av Z h0 w1 .char (arrT (git [c0, c1, c2, c3, c4, c5] sa ea 1).1 [])) (qe : n0 ≤ w1) (qi : w0 ≠ w1) (r : Rng [c0, c1, c2, c3, c4, c5] sa ea i1 i2) (hk : kk.toInt = (git [c0, c1, c2, c3, c4, c5] sa ea 1).2) (hR : R6 c0 c1 c2 c3 c4 c5) :
    Rm l Z (⟨"com/example/scheherazade/scheherazade/core/TextBuilderCollapseSpacesPinLaw", "put", "([C[CIIII)I"⟩ : MethodName) method_3_code 7 (some .int) ws ({ frames := 0, cells := 0, slots := 0, locals := 0 } : Room) #[(.ref w0), (.ref w1), (.int (1 : Int32)), (.int kk), (.int i1), (.int i2)] h0 (fun v h L => ∃ k' : Int32, v = some (.int k') ∧ Fr n0 L ∧ Keep h0 h [w1] ∧ k'.toInt = (git [c0, c1, c2, c3, c4, c5] sa ea 2).2 ∧ Av Z h w1 .char (arrT (git [c0, c1, c2, c3, c4, c5] sa ea 2).1 [])) := by
 refine Rm.of (plainFor_of_name pn_6) ?_
 intro p e s m below meth cc T X hnm hret hlk
 refine Go.at_ (ef_rPut1 m w0 w1 (1 : Int32) kk i1 i2) ?_
 have N := Fr.nil n0
 have Kp := Keep.refl h0 [w1]
 obtain ⟨hR0, hR1, hR2, hR3, hR4, hR5⟩ := hR
 refine g_iloadN X d27_0 (pc' := 1) rfl rfl ?_
 refine g_iload X d27_1 (pc' := 3) rfl rfl ?_
 by_cases qf : (1 : Int32) < i1
 refine g_icY X d27_3 (tlt qf).1 (pc' := 20) (by decide) (by decide) ?_
 refine g_iloadN X d27_20 (pc' := 21) rfl rfl ?_
 refine g_ireturn X d27_21 hret hlk (by decide) (by decide) ?_
 have q : (git [c0, c1, c2, c3, c4, c5] sa ea 2) = _ := put_out (by have q := qf; rw [Int32.lt_iff_toInt_lt, r.2.1] at q; simp only [Int32.reduceToInt] at q; omega)
 exact ⟨kk, rfl, N, Kp, by rw [q]; exact hk, by rw [q]; exact qa⟩
 refine g_icN X d27_3 (flt qf).1 (pc' := 6) rfl ?_
 refine g_iloadN X d27_6 (pc' := 7) rfl rfl ?_
 refine g_iload X d27_7 (pc' := 9) rfl rfl ?_
 by_cases qg : (1 : Int32) < i2
 refine g_icN X d27_9 (tlt qg).2.1 (pc' := 12) rfl ?_
 refine g_aloadN X d27_12 (pc' := 13) rfl rfl rfl ?_
 refine g_iloadN X d27_13 (pc' := 14) rfl rfl ?_
 refine g_caload X qb 1 d27_14 (pc' := 15) rfl (by decide) (by decide) rfl ?_
 refine g_bipush X (32 : Int32) d27_15 (pc' := 17) rfl rfl ?_
 by_cases qc : c1 = (32 : Int32)
 refine g_icN X d27_17 (teq qc).2 (pc' := 20) rfl ?_
 refine g_iloadN X d27_20 (pc' := 21) rfl rfl ?_
 refine g_ireturn X d27_21 hret hlk (by decide) (by decide) ?_
 have q : (git [c0, c1, c2, c3, c4, c5] sa ea 2) = _ := put_space qc
 exact ⟨kk, rfl, N, Kp, by rw [q]; exact hk, by rw [q]; exact qa⟩
 refine g_icY X d27_17 (feq qc).2 (pc' := 22) (by decide) (by decide) ?_
 have H1 : sa ≤ 1 := by have q := qf; rw [Int32.lt_iff_toInt_lt, r.2.1] at q; simp only [Int32.reduceToInt] at q; omega
 have H2 : 1 < ea := by have q := qg; rw [Int32.lt_iff_toInt_lt, r.2.2.1] at q; simp only [Int32.reduceToInt] at q; omega
 obtain ⟨HK1, HK2, HK3⟩ := git_k [c0, c1, c2, c3, c4, c5] sa ea 1 H1
 have HL : (git [c0, c1, c2, c3, c4, c5] sa ea 1).1.length = 6 := git_len [c0, c1, c2, c3, c4, c5] sa ea 1
 refine g_iloadN X d27_22 (pc' := 23) rfl rfl ?_
 refine g_istore X d27_23 (pc' := 25) (Ls' := #[.val (.ref w0), .val (.ref w1), .val (.int (1 : Int32)), .val (.int kk), .val (.int i1), .val (.int i2), .val (.int kk)]) rfl rfl ?_
 refine g_iload X d27_25 (pc' := 27) rfl rfl ?_
 refine g_iload X d27_27 (pc' := 29) rfl rfl ?_
 by_cases qh : i1 < kk
 refine g_icN X d27_29 (tlt qh).2.2.2 (pc' := 32) rfl ?_
 refine g_aloadN X d27_32 (pc' := 33) rfl rfl rfl ?_
 refine g_iloadN X d27_33 (pc' := 34) rfl rfl ?_
 refine g_iconst X (1 : Int32) d27_34 (pc' := 35) rfl rfl ?_
 refine g_isub X d27_35 (pc' := 36) rfl ?_
 refine Go.lit32 (z := (0 : Int32)) (by decide) ?_
 refine g_caload X qb 0 d27_36 (pc' := 37) rfl (by decide) (by decide) rfl ?_
 refine g_bipush X (32 : Int32) d27_37 (pc' := 39) rfl rfl ?_
 by_cases qd : c0 = (32 : Int32)
 refine g_icN X d27_39 (teq qd).2 (pc' := 42) rfl ?_
 have Hs : sa < (git [c0, c1, c2, c3, c4, c5] sa ea 1).2 := by have q := qh; rw [Int32.lt_iff_toInt_lt, r.2.1, hk] at q; omega
 have H3 := HK3 (by omega) (by omega) qd
 refine g_aloadN X d27_42 (pc' := 43) rfl rfl rfl ?_
 refine g_iload X d27_43 (pc' := 45) rfl rfl ?_
 refine g_bipush X (32 : Int32) d27_45 (pc' := 47) rfl rfl ?_
 refine g_castore X qa (git [c0, c1, c2, c3, c4, c5] sa ea 1).2 d27_47 (pc' := 48) rfl (nat32 hk).1 (nat32 hk).2 (by rw [lenT, HL]; omega) ?_
 intro T h X W qa
 replace qb := qb.other W qi
 replace Z0 := Nat.le_trans Z0 (Nat.le_of_eq W.size.symm)
 replace N := Fr.snoc X.1 N qe
 replace Kp := Kp.wr W (Or.inl (List.mem_of_getElem? (i := 0) rfl))
 refine g_iinc X d27_48 (pc' := 51) (q := (1 : Int32)) (Ls' := #[.val (.ref w0), .val (.ref w1), .val (.int (1 : Int32)), .val (.int kk), .val (.int i1), .val (.int i2), .val (.int (kk + (1 : Int32)))]) rfl rfl rfl rfl ?_
 refine g_aloadN X d27_51 (pc' := 52) rfl rfl rfl ?_
 refine g_iload X d27_52 (pc' := 54) rfl rfl ?_
 refine g_aloadN X d27_54 (pc' := 55) rfl rfl rfl ?_
 refine g_iloadN X d27_55 (pc' := 56) rfl rfl ?_
 refine g_caload X qb 1 d27_56 (pc' := 57) rfl (by decide) (by decide) rfl ?_
 refine g_castore X qa ((git [c0, c1, c2, c3, c4, c5] sa ea 1).2 + 1) d27_57 (pc' := 58) rfl (nat32 (inc32 hk (by omega))).1 (nat32 (inc32 hk (by omega))).2 (by rw [List.length_set, lenT, HL]; omega) ?_
 intro T h X W qa
 replace Z0 := Nat.le_trans Z0 (Nat.le_of_eq W.size.symm)
 replace N := Fr.snoc X.1 N qe
 replace Kp := Kp.wr W (Or.inl (List.mem_of_getElem? (i := 0) rfl))
 refine g_iload X d27_58 (pc' := 60) rfl rfl ?_
 refine g_iconst X (1 : Int32) d27_60 (pc' := 61) rfl rfl ?_
 refine g_iadd X d27_61 (pc' := 62) rfl ?_
 refine g_ireturn X d27_62 hret hlk (by decide) (by decide) ?_
 have q : (git [c0, c1, c2, c3, c4, c5] sa ea 2) = _ := put_pend H1 H2 qc ⟨Hs, qd⟩
 exact ⟨_, rfl, N, Kp, by rw [q]; exact inc32 (inc32 hk (by omega)) (by omega), qa.eq (by rw [narC hR1.1 hR1.2, show nar .char (32 : Int32) = 32 from rfl, stT (by rw [HL]; omega), stT (by rw [List.length_set, HL]; omega)]; exact (congrArg (fun x => arrT x.1 []) q).symm)⟩
 refine g_icY X d27_39 (feq qd).2 (pc' := 51) (by decide) (by decide) ?_
 refine g_aloadN X d27_51 (pc' := 52) rfl rfl rfl ?_
 refine g_iload X d27_52 (pc' := 54) rfl rfl ?_
 refine g_aloadN X d27_54 (pc' := 55) rfl rfl rfl ?_
 refine g_iloadN X d27_55 (pc' := 56) rfl rfl ?_
 refine g_caload X qb 1 d27_56 (pc' := 57) rfl (by decide) (by decide) rfl ?_
 refine g_castore X qa (git [c0, c1, c2, c3, c4, c5] sa ea 1).2 d27_57 (pc' := 58) rfl (nat32 hk).1 (nat32 hk).2 (by rw [lenT, HL]; omega) ?_
 intro T h X W qa
 replace Z0 := Nat.le_trans Z0 (Nat.le_of_eq W.size.symm)
 replace N := Fr.snoc X.1 N qe
 replace Kp := Kp.wr W (Or.inl (List.mem_of_getElem? (i := 0) rfl))
 refine g_iload X d27_58 (pc' := 60) rfl rfl ?_
 refine g_iconst X (1 : Int32) d27_60 (pc' := 61) rfl rfl ?_
 refine g_iadd X d27_61 (pc' := 62) rfl ?_
 refine g_ireturn X d27_62 hret hlk (by decide) (by decide) ?_
 have q : (git [c0, c1, c2, c3, c4, c5] sa ea 2) = _ := put_plain H1 H2 qc (fun x => qd x.2)
 exact ⟨_, rfl, N, Kp, by rw [q]; exact inc32 hk (by omega), qa.eq (by rw [narC hR1.1 hR1.2, stT (by rw [HL]; omega)]; exact (congrArg (fun x => arrT x.1 []) q).symm)⟩
 refine g_icY X d27_29 (flt qh).2.2.2 (pc' := 51) (by decide) (by decide) ?_
 refine g_aloadN X d27_51 (pc' := 52) rfl rfl rfl ?_
 refine g_iload X d27_52 (pc' := 54) rfl rfl ?_
 refine g_aloadN X d27_54 (pc' := 55) rfl rfl rfl ?_
 refine g_iloadN X d27_55 (pc' := 56) rfl rfl ?_
 refine g_caload X qb 1 d27_56 (pc' := 57) rfl (by decide) (by decide) rfl ?_
 refine g_castore X qa (git [c0, c1, c2, c3, c4, c5] sa ea 1).2 d27_57 (pc' := 58) rfl (nat32 hk).1 (nat32 hk).2 (by rw [lenT, HL]; omega) ?_
 intro T h X W qa
 replace Z0 := Nat.le_trans Z0 (Nat.le_of_eq W.size.symm)
 replace N := Fr.snoc X.1 N qe
 replace Kp := Kp.wr W (Or.inl (List.mem_of_getElem? (i := 0) rfl))
 refine g_iload X d27_58 (pc' := 60) rfl rfl ?_
 refine g_iconst X (1 : Int32) d27_60 (pc' := 61) rfl rfl ?_
 refine g_iadd X d27_61 (pc' := 62) rfl ?_
 refine g_ireturn X d27_62 hret hlk (by decide) (by decide) ?_
 have q : (git [c0, c1, c2, c3, c4, c5] sa ea 2) = _ := put_plain H1 H2 qc (fun x => qh (by rw [Int32.lt_iff_toInt_lt, r.2.1, hk]; have := x.1; omega))
 exact ⟨_, rfl, N, Kp, by rw [q]; exact inc32 hk (by omega), qa.eq (by rw [narC hR1.1 hR1.2, stT (by rw [HL]; omega)]; exact (congrArg (fun x => arrT x.1 []) q).symm)⟩
 refine g_icY X d27_9 (flt qg).2.1 (pc' := 20) (by decide) (by decide) ?_
 refine g_iloadN X d27_20 (pc' := 21) rfl rfl ?_
 refine g_ireturn X d27_21 hret hlk (by decide) (by decide) ?_
 have q : (git [c0, c1, c2, c3, c4, c5] sa ea 2) = _ := put_out (by have q := qg; rw [Int32.lt_iff_toInt_lt, r.2.2.1] at q; simp only [Int32.reduceToInt] at q; omega)
 exact ⟨kk, rfl, N, Kp, by rw [q]; exact hk, by rw [q]; exact qa⟩
theorem ef_rSam1 (m : MethodId) (x0 : Addr) (x1 : Addr) (x2 : Int32) (x3 : Int32) (x4 : Int32) : entryFrame m #[(.ref x0), (.ref x1), (.int x2), (.int x3), (.int x4)] 5 = mkF m 0 #[.val (.ref x0), .val (.ref x1), .val (.int x2), .val (.int x3), .val (.int x4)] [] := by first | (simp [entryFrame, mkF, argsToLocals, Value.category]; done) | rfl
set_option maxRecDepth 65536 in
set_option maxHeartbeats 40000000 in
theorem rSam1 (l : Launch) (Z : State) (aa : Array Value) (hw : ∀ d ∈ tables_1, d.before aa Z = true) (ws : List Jvm.Cond) (w0 : Addr) (w1 : Addr) (kk : Int32) (i2 : Int32) (R : List Int32) (tl : List Value) (h0 : Heap) (qa : Av Z h0 w0 .char (arrT R tl)) (qb : Av Z h0 w1 .char (arrT R [])) (hl : R.length = 6) :
    Rm l Z (⟨"com/example/scheherazade/scheherazade/core/TextBuilderCollapseSpacesPinLaw", "same", "([C[CIII)Z"⟩ : MethodName) method_4_code 5 (some .boolean) ws ({ frames := 0, cells := 0, slots := 0, locals := 0 } : Room) #[(.ref w0), (.ref w1), (.int (1 : Int32)), (.int kk), (.int i2)] h0 (Pu (.int (1 : Int32)) h0) := by
 refine Rm.of (plainFor_of_name pn_6) ?_
 intro p e s m below meth cc T X hnm hret hlk
 refine Go.at_ (ef_rSam1 m w0 w1 (1 : Int32) kk i2) ?_
 refine g_iloadN X d29_0 (pc' := 1) rfl rfl ?_
 refine g_iloadN X d29_1 (pc' := 2) rfl rfl ?_
 by_cases qc : (1 : Int32) < kk
 refine g_icY X d29_2 (tlt qc).1 (pc' := 11) (by decide) (by decide) ?_
 refine g_aloadN X d29_11 (pc' := 12) rfl rfl rfl ?_
 refine g_iloadN X d29_12 (pc' := 13) rfl rfl ?_
 refine g_caload X qa 1 d29_13 (pc' := 14) rfl (by decide) (by decide) (lkT (by rw [hl]; decide)) ?_
 refine g_aloadN X d29_14 (pc' := 15) rfl rfl rfl ?_
 refine g_iloadN X d29_15 (pc' := 16) rfl rfl ?_
 refine g_caload X qb 1 d29_16 (pc' := 17) rfl (by decide) (by decide) (lkT (by rw [hl]; decide)) ?_
 refine g_icN X d29_17 (teq (show (List.getD R 1 0) = (List.getD R 1 0) from rfl)).2 (pc' := 20) rfl ?_
 refine g_iconst X (1 : Int32) d29_20 (pc' := 21) rfl rfl ?_
 refine g_goto X d29_21 (pc' := 25) (by decide) (by decide) ?_
 refine g_ireturnN X (t := .boolean) (by simp) d29_25 hret hlk (by decide) (by decide) ?_
 exact ⟨rfl, rfl, rfl⟩
 refine g_icN X d29_2 (flt qc).1 (pc' := 5) rfl ?_
 refine g_iloadN X d29_5 (pc' := 6) rfl rfl ?_
 refine g_iload X d29_6 (pc' := 8) rfl rfl ?_
 by_cases qd : (1 : Int32) < i2
 refine g_icY X d29_8 (tlt qd).1 (pc' := 20) (by decide) (by decide) ?_
 refine g_iconst X (1 : Int32) d29_20 (pc' := 21) rfl rfl ?_
 refine g_goto X d29_21 (pc' := 25) (by decide) (by decide) ?_
 refine g_ireturnN X (t := .boolean) (by simp) d29_25 hret hlk (by decide) (by decide) ?_
 exact ⟨rfl, rfl, rfl⟩
 refine g_icN X d29_8 (flt qd).1 (pc' := 11) rfl ?_
 refine g_aloadN X d29_11 (pc' := 12) rfl rfl rfl ?_
 refine g_iloadN X d29_12 (pc' := 13) rfl rfl ?_
 refine g_caload X qa 1 d29_13 (pc' := 14) rfl (by decide) (by decide) (lkT (by rw [hl]; decide)) ?_
 refine g_aloadN X d29_14 (pc' := 15) rfl rfl rfl ?_
 refine g_iloadN X d29_15 (pc' := 16) rfl rfl ?_
 refine g_caload X qb 1 d29_16 (pc' := 17) rfl (by decide) (by decide) (lkT (by rw [hl]; decide)) ?_
 refine g_icN X d29_17 (teq (show (List.getD R 1 0) = (List.getD R 1 0) from rfl)).2 (pc' := 20) rfl ?_
 refine g_iconst X (1 : Int32) d29_20 (pc' := 21) rfl rfl ?_
 refine g_goto X d29_21 (pc' := 25) (by decide) (by decide) ?_
 refine g_ireturnN X (t := .boolean) (by simp) d29_25 hret hlk (by decide) (by decide) ?_
 exact ⟨rfl, rfl, rfl⟩
theorem ef_rPut2 (m : MethodId) (x0 : Addr) (x1 : Addr) (x2 : Int32) (x3 : Int32) (x4 : Int32) (x5 : Int32) : entryFrame m #[(.ref x0), (.ref x1), (.int x2), (.int x3), (.int x4), (.int x5)] 7 = mkF m 0 #[.val (.ref x0), .val (.ref x1), .val (.int x2), .val (.int x3), .val (.int x4), .val (.int x5), .unset] [] := by first | (simp [entryFrame, mkF, argsToLocals, Value.category]; done) | rfl
set_option maxRecDepth 65536 in
set_option maxHeartbeats 40000000 in
theorem rPut2 (l : Launch) (Z : State) (aa : Array Value) (hw : ∀ d ∈ tables_1, d.before aa Z = true) (ws : List Jvm.Cond) (w0 : Addr) (w1 : Addr) (kk : Int32) (i1 : Int32) (i2 : Int32) (c0 : Int32) (c1 : Int32) (c2 : Int32) (c3 : Int32) (c4 : Int32) (c5 : Int32) (sa : Nat) (ea : Nat) (h0 : Heap) (n0 : Nat) (Z0 : n0 ≤ h0.size) (qb : Av Z h0 w0 .char [(.int c0), (.int c1), (.int c2), (.int c3), (.int c4), (.int c5)]) (qa : Av Z h0 w1 .char (arrT (git [c0, c1, c2, c3, c4, c5] sa ea 2).1 [])) (qe : n0 ≤ w1) (qi : w0 ≠ w1) (r : Rng [c0, c1, c2, c3, c4, c5] sa ea i1 i2) (hk : kk.toInt = (git [c0, c1, c2, c3, c4, c5] sa ea 2).2) (hR : R6 c0 c1 c2 c3 c4 c5) :
    Rm l Z (⟨"com/example/scheherazade/scheherazade/core/TextBuilderCollapseSpacesPinLaw", "put", "([C[CIIII)I"⟩ : MethodName) method_3_code 7 (some .int) ws ({ frames := 0, cells := 0, slots := 0, locals := 0 } : Room) #[(.ref w0), (.ref w1), (.int (2 : Int32)), (.int kk), (.int i1), (.int i2)] h0 (fun v h L => ∃ k' : Int32, v = some (.int k') ∧ Fr n0 L ∧ Keep h0 h [w1] ∧ k'.toInt = (git [c0, c1, c2, c3, c4, c5] sa ea 3).2 ∧ Av Z h w1 .char (arrT (git [c0, c1, c2, c3, c4, c5] sa ea 3).1 [])) := by
 refine Rm.of (plainFor_of_name pn_6) ?_
 intro p e s m below meth cc T X hnm hret hlk
 refine Go.at_ (ef_rPut2 m w0 w1 (2 : Int32) kk i1 i2) ?_
 have N := Fr.nil n0
 have Kp := Keep.refl h0 [w1]
 obtain ⟨hR0, hR1, hR2, hR3, hR4, hR5⟩ := hR
 refine g_iloadN X d27_0 (pc' := 1) rfl rfl ?_
 refine g_iload X d27_1 (pc' := 3) rfl rfl ?_
 by_cases qf : (2 : Int32) < i1
 refine g_icY X d27_3 (tlt qf).1 (pc' := 20) (by decide) (by decide) ?_
 refine g_iloadN X d27_20 (pc' := 21) rfl rfl ?_
 refine g_ireturn X d27_21 hret hlk (by decide) (by decide) ?_
 have q : (git [c0, c1, c2, c3, c4, c5] sa ea 3) = _ := put_out (by have q := qf; rw [Int32.lt_iff_toInt_lt, r.2.1] at q; simp only [Int32.reduceToInt] at q; omega)
 exact ⟨kk, rfl, N, Kp, by rw [q]; exact hk, by rw [q]; exact qa⟩
 refine g_icN X d27_3 (flt qf).1 (pc' := 6) rfl ?_
 refine g_iloadN X d27_6 (pc' := 7) rfl rfl ?_
 refine g_iload X d27_7 (pc' := 9) rfl rfl ?_
 by_cases qg : (2 : Int32) < i2
 refine g_icN X d27_9 (tlt qg).2.1 (pc' := 12) rfl ?_
 refine g_aloadN X d27_12 (pc' := 13) rfl rfl rfl ?_
 refine g_iloadN X d27_13 (pc' := 14) rfl rfl ?_
 refine g_caload X qb 2 d27_14 (pc' := 15) rfl (by decide) (by decide) rfl ?_
 refine g_bipush X (32 : Int32) d27_15 (pc' := 17) rfl rfl ?_
 by_cases qc : c2 = (32 : Int32)
 refine g_icN X d27_17 (teq qc).2 (pc' := 20) rfl ?_
 refine g_iloadN X d27_20 (pc' := 21) rfl rfl ?_
 refine g_ireturn X d27_21 hret hlk (by decide) (by decide) ?_
 have q : (git [c0, c1, c2, c3, c4, c5] sa ea 3) = _ := put_space qc
 exact ⟨kk, rfl, N, Kp, by rw [q]; exact hk, by rw [q]; exact qa⟩
 refine g_icY X d27_17 (feq qc).2 (pc' := 22) (by decide) (by decide) ?_
 have H1 : sa ≤ 2 := by have q := qf; rw [Int32.lt_iff_toInt_lt, r.2.1] at q; simp only [Int32.reduceToInt] at q; omega
 have H2 : 2 < ea := by have q := qg; rw [Int32.lt_iff_toInt_lt, r.2.2.1] at q; simp only [Int32.reduceToInt] at q; omega
 obtain ⟨HK1, HK2, HK3⟩ := git_k [c0, c1, c2, c3, c4, c5] sa ea 2 H1
 have HL : (git [c0, c1, c2, c3, c4, c5] sa ea 2).1.length = 6 := git_len [c0, c1, c2, c3, c4, c5] sa ea 2
 refine g_iloadN X d27_22 (pc' := 23) rfl rfl ?_
 refine g_istore X d27_23 (pc' := 25) (Ls' := #[.val (.ref w0), .val (.ref w1), .val (.int (2 : Int32)), .val (.int kk), .val (.int i1), .val (.int i2), .val (.int kk)]) rfl rfl ?_
 refine g_iload X d27_25 (pc' := 27) rfl rfl ?_
 refine g_iload X d27_27 (pc' := 29) rfl rfl ?_
 by_cases qh : i1 < kk
 refine g_icN X d27_29 (tlt qh).2.2.2 (pc' := 32) rfl ?_
 refine g_aloadN X d27_32 (pc' := 33) rfl rfl rfl ?_
 refine g_iloadN X d27_33 (pc' := 34) rfl rfl ?_
 refine g_iconst X (1 : Int32) d27_34 (pc' := 35) rfl rfl ?_
 refine g_isub X d27_35 (pc' := 36) rfl ?_
 refine Go.lit32 (z := (1 : Int32)) (by decide) ?_
 refine g_caload X qb 1 d27_36 (pc' := 37) rfl (by decide) (by decide) rfl ?_
 refine g_bipush X (32 : Int32) d27_37 (pc' := 39) rfl rfl ?_
 by_cases qd : c1 = (32 : Int32)
 refine g_icN X d27_39 (teq qd).2 (pc' := 42) rfl ?_
 have Hs : sa < (git [c0, c1, c2, c3, c4, c5] sa ea 2).2 := by have q := qh; rw [Int32.lt_iff_toInt_lt, r.2.1, hk] at q; omega
 have H3 := HK3 (by omega) (by omega) qd
 refine g_aloadN X d27_42 (pc' := 43) rfl rfl rfl ?_
 refine g_iload X d27_43 (pc' := 45) rfl rfl ?_
 refine g_bipush X (32 : Int32) d27_45 (pc' := 47) rfl rfl ?_
 refine g_castore X qa (git [c0, c1, c2, c3, c4, c5] sa ea 2).2 d27_47 (pc' := 48) rfl (nat32 hk).1 (nat32 hk).2 (by rw [lenT, HL]; omega) ?_
 intro T h X W qa
 replace qb := qb.other W qi
 replace Z0 := Nat.le_trans Z0 (Nat.le_of_eq W.size.symm)
 replace N := Fr.snoc X.1 N qe
 replace Kp := Kp.wr W (Or.inl (List.mem_of_getElem? (i := 0) rfl))
 refine g_iinc X d27_48 (pc' := 51) (q := (1 : Int32)) (Ls' := #[.val (.ref w0), .val (.ref w1), .val (.int (2 : Int32)), .val (.int kk), .val (.int i1), .val (.int i2), .val (.int (kk + (1 : Int32)))]) rfl rfl rfl rfl ?_
 refine g_aloadN X d27_51 (pc' := 52) rfl rfl rfl ?_
 refine g_iload X d27_52 (pc' := 54) rfl rfl ?_
 refine g_aloadN X d27_54 (pc' := 55) rfl rfl rfl ?_
 refine g_iloadN X d27_55 (pc' := 56) rfl rfl ?_
 refine g_caload X qb 2 d27_56 (pc' := 57) rfl (by decide) (by decide) rfl ?_
 refine g_castore X qa ((git [c0, c1, c2, c3, c4, c5] sa ea 2).2 + 1) d27_57 (pc' := 58) rfl (nat32 (inc32 hk (by omega))).1 (nat32 (inc32 hk (by omega))).2 (by rw [List.length_set, lenT, HL]; omega) ?_
 intro T h X W qa
 replace Z0 := Nat.le_trans Z0 (Nat.le_of_eq W.size.symm)
 replace N := Fr.snoc X.1 N qe
 replace Kp := Kp.wr W (Or.inl (List.mem_of_getElem? (i := 0) rfl))
 refine g_iload X d27_58 (pc' := 60) rfl rfl ?_
 refine g_iconst X (1 : Int32) d27_60 (pc' := 61) rfl rfl ?_
 refine g_iadd X d27_61 (pc' := 62) rfl ?_
 refine g_ireturn X d27_62 hret hlk (by decide) (by decide) ?_
 have q : (git [c0, c1, c2, c3, c4, c5] sa ea 3) = _ := put_pend H1 H2 qc ⟨Hs, qd⟩
 exact ⟨_, rfl, N, Kp, by rw [q]; exact inc32 (inc32 hk (by omega)) (by omega), qa.eq (by rw [narC hR2.1 hR2.2, show nar .char (32 : Int32) = 32 from rfl, stT (by rw [HL]; omega), stT (by rw [List.length_set, HL]; omega)]; exact (congrArg (fun x => arrT x.1 []) q).symm)⟩
 refine g_icY X d27_39 (feq qd).2 (pc' := 51) (by decide) (by decide) ?_
 refine g_aloadN X d27_51 (pc' := 52) rfl rfl rfl ?_
 refine g_iload X d27_52 (pc' := 54) rfl rfl ?_
 refine g_aloadN X d27_54 (pc' := 55) rfl rfl rfl ?_
 refine g_iloadN X d27_55 (pc' := 56) rfl rfl ?_
 refine g_caload X qb 2 d27_56 (pc' := 57) rfl (by decide) (by decide) rfl ?_
 refine g_castore X qa (git [c0, c1, c2, c3, c4, c5] sa ea 2).2 d27_57 (pc' := 58) rfl (nat32 hk).1 (nat32 hk).2 (by rw [lenT, HL]; omega) ?_
 intro T h X W qa
 replace Z0 := Nat.le_trans Z0 (Nat.le_of_eq W.size.symm)
 replace N := Fr.snoc X.1 N qe
 replace Kp := Kp.wr W (Or.inl (List.mem_of_getElem? (i := 0) rfl))
 refine g_iload X d27_58 (pc' := 60) rfl rfl ?_
 refine g_iconst X (1 : Int32) d27_60 (pc' := 61) rfl rfl ?_
 refine g_iadd X d27_61 (pc' := 62) rfl ?_
 refine g_ireturn X d27_62 hret hlk (by decide) (by decide) ?_
 have q : (git [c0, c1, c2, c3, c4, c5] sa ea 3) = _ := put_plain H1 H2 qc (fun x => qd x.2)
 exact ⟨_, rfl, N, Kp, by rw [q]; exact inc32 hk (by omega), qa.eq (by rw [narC hR2.1 hR2.2, stT (by rw [HL]; omega)]; exact (congrArg (fun x => arrT x.1 []) q).symm)⟩
 refine g_icY X d27_29 (flt qh).2.2.2 (pc' := 51) (by decide) (by decide) ?_
 refine g_aloadN X d27_51 (pc' := 52) rfl rfl rfl ?_
 refine g_iload X d27_52 (pc' := 54) rfl rfl ?_
 refine g_aloadN X d27_54 (pc' := 55) rfl rfl rfl ?_
 refine g_iloadN X d27_55 (pc' := 56) rfl rfl ?_
 refine g_caload X qb 2 d27_56 (pc' := 57) rfl (by decide) (by decide) rfl ?_
 refine g_castore X qa (git [c0, c1, c2, c3, c4, c5] sa ea 2).2 d27_57 (pc' := 58) rfl (nat32 hk).1 (nat32 hk).2 (by rw [lenT, HL]; omega) ?_
 intro T h X W qa
 replace Z0 := Nat.le_trans Z0 (Nat.le_of_eq W.size.symm)
 replace N := Fr.snoc X.1 N qe
 replace Kp := Kp.wr W (Or.inl (List.mem_of_getElem? (i := 0) rfl))
 refine g_iload X d27_58 (pc' := 60) rfl rfl ?_
 refine g_iconst X (1 : Int32) d27_60 (pc' := 61) rfl rfl ?_
 refine g_iadd X d27_61 (pc' := 62) rfl ?_
 refine g_ireturn X d27_62 hret hlk (by decide) (by decide) ?_
 have q : (git [c0, c1, c2, c3, c4, c5] sa ea 3) = _ := put_plain H1 H2 qc (fun x => qh (by rw [Int32.lt_iff_toInt_lt, r.2.1, hk]; have := x.1; omega))
 exact ⟨_, rfl, N, Kp, by rw [q]; exact inc32 hk (by omega), qa.eq (by rw [narC hR2.1 hR2.2, stT (by rw [HL]; omega)]; exact (congrArg (fun x => arrT x.1 []) q).symm)⟩
 refine g_icY X d27_9 (flt qg).2.1 (pc' := 20) (by decide) (by decide) ?_
 refine g_iloadN X d27_20 (pc' := 21) rfl rfl ?_
 refine g_ireturn X d27_21 hret hlk (by decide) (by decide) ?_
 have q : (git [c0, c1, c2, c3, c4, c5] sa ea 3) = _ := put_out (by have q := qg; rw [Int32.lt_iff_toInt_lt, r.2.2.1] at q; simp only [Int32.reduceToInt] at q; omega)
 exact ⟨kk, rfl, N, Kp, by rw [q]; exact hk, by rw [q]; exact qa⟩
theorem ef_rSam2 (m : MethodId) (x0 : Addr) (x1 : Addr) (x2 : Int32) (x3 : Int32) (x4 : Int32) : entryFrame m #[(.ref x0), (.ref x1), (.int x2), (.int x3), (.int x4)] 5 = mkF m 0 #[.val (.ref x0), .val (.ref x1), .val (.int x2), .val (.int x3), .val (.int x4)] [] := by first | (simp [entryFrame, mkF, argsToLocals, Value.category]; done) | rfl
set_option maxRecDepth 65536 in
set_option maxHeartbeats 40000000 in
theorem rSam2 (l : Launch) (Z : State) (aa : Array Value) (hw : ∀ d ∈ tables_1, d.before aa Z = true) (ws : List Jvm.Cond) (w0 : Addr) (w1 : Addr) (kk : Int32) (i2 : Int32) (R : List Int32) (tl : List Value) (h0 : Heap) (qa : Av Z h0 w0 .char (arrT R tl)) (qb : Av Z h0 w1 .char (arrT R [])) (hl : R.length = 6) :
    Rm l Z (⟨"com/example/scheherazade/scheherazade/core/TextBuilderCollapseSpacesPinLaw", "same", "([C[CIII)Z"⟩ : MethodName) method_4_code 5 (some .boolean) ws ({ frames := 0, cells := 0, slots := 0, locals := 0 } : Room) #[(.ref w0), (.ref w1), (.int (2 : Int32)), (.int kk), (.int i2)] h0 (Pu (.int (1 : Int32)) h0) := by
 refine Rm.of (plainFor_of_name pn_6) ?_
 intro p e s m below meth cc T X hnm hret hlk
 refine Go.at_ (ef_rSam2 m w0 w1 (2 : Int32) kk i2) ?_
 refine g_iloadN X d29_0 (pc' := 1) rfl rfl ?_
 refine g_iloadN X d29_1 (pc' := 2) rfl rfl ?_
 by_cases qc : (2 : Int32) < kk
 refine g_icY X d29_2 (tlt qc).1 (pc' := 11) (by decide) (by decide) ?_
 refine g_aloadN X d29_11 (pc' := 12) rfl rfl rfl ?_
 refine g_iloadN X d29_12 (pc' := 13) rfl rfl ?_
 refine g_caload X qa 2 d29_13 (pc' := 14) rfl (by decide) (by decide) (lkT (by rw [hl]; decide)) ?_
 refine g_aloadN X d29_14 (pc' := 15) rfl rfl rfl ?_
 refine g_iloadN X d29_15 (pc' := 16) rfl rfl ?_
 refine g_caload X qb 2 d29_16 (pc' := 17) rfl (by decide) (by decide) (lkT (by rw [hl]; decide)) ?_
 refine g_icN X d29_17 (teq (show (List.getD R 2 0) = (List.getD R 2 0) from rfl)).2 (pc' := 20) rfl ?_
 refine g_iconst X (1 : Int32) d29_20 (pc' := 21) rfl rfl ?_
 refine g_goto X d29_21 (pc' := 25) (by decide) (by decide) ?_
 refine g_ireturnN X (t := .boolean) (by simp) d29_25 hret hlk (by decide) (by decide) ?_
 exact ⟨rfl, rfl, rfl⟩
 refine g_icN X d29_2 (flt qc).1 (pc' := 5) rfl ?_
 refine g_iloadN X d29_5 (pc' := 6) rfl rfl ?_
 refine g_iload X d29_6 (pc' := 8) rfl rfl ?_
 by_cases qd : (2 : Int32) < i2
 refine g_icY X d29_8 (tlt qd).1 (pc' := 20) (by decide) (by decide) ?_
 refine g_iconst X (1 : Int32) d29_20 (pc' := 21) rfl rfl ?_
 refine g_goto X d29_21 (pc' := 25) (by decide) (by decide) ?_
 refine g_ireturnN X (t := .boolean) (by simp) d29_25 hret hlk (by decide) (by decide) ?_
 exact ⟨rfl, rfl, rfl⟩
 refine g_icN X d29_8 (flt qd).1 (pc' := 11) rfl ?_
 refine g_aloadN X d29_11 (pc' := 12) rfl rfl rfl ?_
 refine g_iloadN X d29_12 (pc' := 13) rfl rfl ?_
 refine g_caload X qa 2 d29_13 (pc' := 14) rfl (by decide) (by decide) (lkT (by rw [hl]; decide)) ?_
 refine g_aloadN X d29_14 (pc' := 15) rfl rfl rfl ?_
 refine g_iloadN X d29_15 (pc' := 16) rfl rfl ?_
 refine g_caload X qb 2 d29_16 (pc' := 17) rfl (by decide) (by decide) (lkT (by rw [hl]; decide)) ?_
 refine g_icN X d29_17 (teq (show (List.getD R 2 0) = (List.getD R 2 0) from rfl)).2 (pc' := 20) rfl ?_
 refine g_iconst X (1 : Int32) d29_20 (pc' := 21) rfl rfl ?_
 refine g_goto X d29_21 (pc' := 25) (by decide) (by decide) ?_
 refine g_ireturnN X (t := .boolean) (by simp) d29_25 hret hlk (by decide) (by decide) ?_
 exact ⟨rfl, rfl, rfl⟩
theorem ef_rPut3 (m : MethodId) (x0 : Addr) (x1 : Addr) (x2 : Int32) (x3 : Int32) (x4 : Int32) (x5 : Int32) : entryFrame m #[(.ref x0), (.ref x1), (.int x2), (.int x3), (.int x4), (.int x5)] 7 = mkF m 0 #[.val (.ref x0), .val (.ref x1), .val (.int x2), .val (.int x3), .val (.int x4), .val (.int x5), .unset] [] := by first | (simp [entryFrame, mkF, argsToLocals, Value.category]; done) | rfl
set_option maxRecDepth 65536 in
set_option maxHeartbeats 40000000 in
theorem rPut3 (l : Launch) (Z : State) (aa : Array Value) (hw : ∀ d ∈ tables_1, d.before aa Z = true) (ws : List Jvm.Cond) (w0 : Addr) (w1 : Addr) (kk : Int32) (i1 : Int32) (i2 : Int32) (c0 : Int32) (c1 : Int32) (c2 : Int32) (c3 : Int32) (c4 : Int32) (c5 : Int32) (sa : Nat) (ea : Nat) (h0 : Heap) (n0 : Nat) (Z0 : n0 ≤ h0.size) (qb : Av Z h0 w0 .char [(.int c0), (.int c1), (.int c2), (.int c3), (.int c4), (.int c5)]) (qa : Av Z h0 w1 .char (arrT (git [c0, c1, c2, c3, c4, c5] sa ea 3).1 [])) (qe : n0 ≤ w1) (qi : w0 ≠ w1) (r : Rng [c0, c1, c2, c3, c4, c5] sa ea i1 i2) (hk : kk.toInt = (git [c0, c1, c2, c3, c4, c5] sa ea 3).2) (hR : R6 c0 c1 c2 c3 c4 c5) :
    Rm l Z (⟨"com/example/scheherazade/scheherazade/core/TextBuilderCollapseSpacesPinLaw", "put", "([C[CIIII)I"⟩ : MethodName) method_3_code 7 (some .int) ws ({ frames := 0, cells := 0, slots := 0, locals := 0 } : Room) #[(.ref w0), (.ref w1), (.int (3 : Int32)), (.int kk), (.int i1), (.int i2)] h0 (fun v h L => ∃ k' : Int32, v = some (.int k') ∧ Fr n0 L ∧ Keep h0 h [w1] ∧ k'.toInt = (git [c0, c1, c2, c3, c4, c5] sa ea 4).2 ∧ Av Z h w1 .char (arrT (git [c0, c1, c2, c3, c4, c5] sa ea 4).1 [])) := by
 refine Rm.of (plainFor_of_name pn_6) ?_
 intro p e s m below meth cc T X hnm hret hlk
 refine Go.at_ (ef_rPut3 m w0 w1 (3 : Int32) kk i1 i2) ?_
 have N := Fr.nil n0
 have Kp := Keep.refl h0 [w1]
 obtain ⟨hR0, hR1, hR2, hR3, hR4, hR5⟩ := hR
 refine g_iloadN X d27_0 (pc' := 1) rfl rfl ?_
 refine g_iload X d27_1 (pc' := 3) rfl rfl ?_
 by_cases qf : (3 : Int32) < i1
 refine g_icY X d27_3 (tlt qf).1 (pc' := 20) (by decide) (by decide) ?_
 refine g_iloadN X d27_20 (pc' := 21) rfl rfl ?_
 refine g_ireturn X d27_21 hret hlk (by decide) (by decide) ?_
 have q : (git [c0, c1, c2, c3, c4, c5] sa ea 4) = _ := put_out (by have q := qf; rw [Int32.lt_iff_toInt_lt, r.2.1] at q; simp only [Int32.reduceToInt] at q; omega)
 exact ⟨kk, rfl, N, Kp, by rw [q]; exact hk, by rw [q]; exact qa⟩
 refine g_icN X d27_3 (flt qf).1 (pc' := 6) rfl ?_
 refine g_iloadN X d27_6 (pc' := 7) rfl rfl ?_
 refine g_iload X d27_7 (pc' := 9) rfl rfl ?_
 by_cases qg : (3 : Int32) < i2
 refine g_icN X d27_9 (tlt qg).2.1 (pc' := 12) rfl ?_
 refine g_aloadN X d27_12 (pc' := 13) rfl rfl rfl ?_
 refine g_iloadN X d27_13 (pc' := 14) rfl rfl ?_
 refine g_caload X qb 3 d27_14 (pc' := 15) rfl (by decide) (by decide) rfl ?_
 refine g_bipush X (32 : Int32) d27_15 (pc' := 17) rfl rfl ?_
 by_cases qc : c3 = (32 : Int32)
 refine g_icN X d27_17 (teq qc).2 (pc' := 20) rfl ?_
 refine g_iloadN X d27_20 (pc' := 21) rfl rfl ?_
 refine g_ireturn X d27_21 hret hlk (by decide) (by decide) ?_
 have q : (git [c0, c1, c2, c3, c4, c5] sa ea 4) = _ := put_space qc
 exact ⟨kk, rfl, N, Kp, by rw [q]; exact hk, by rw [q]; exact qa⟩
 refine g_icY X d27_17 (feq qc).2 (pc' := 22) (by decide) (by decide) ?_
 have H1 : sa ≤ 3 := by have q := qf; rw [Int32.lt_iff_toInt_lt, r.2.1] at q; simp only [Int32.reduceToInt] at q; omega
 have H2 : 3 < ea := by have q := qg; rw [Int32.lt_iff_toInt_lt, r.2.2.1] at q; simp only [Int32.reduceToInt] at q; omega
 obtain ⟨HK1, HK2, HK3⟩ := git_k [c0, c1, c2, c3, c4, c5] sa ea 3 H1
 have HL : (git [c0, c1, c2, c3, c4, c5] sa ea 3).1.length = 6 := git_len [c0, c1, c2, c3, c4, c5] sa ea 3
 refine g_iloadN X d27_22 (pc' := 23) rfl rfl ?_
 refine g_istore X d27_23 (pc' := 25) (Ls' := #[.val (.ref w0), .val (.ref w1), .val (.int (3 : Int32)), .val (.int kk), .val (.int i1), .val (.int i2), .val (.int kk)]) rfl rfl ?_
 refine g_iload X d27_25 (pc' := 27) rfl rfl ?_
 refine g_iload X d27_27 (pc' := 29) rfl rfl ?_
 by_cases qh : i1 < kk
 refine g_icN X d27_29 (tlt qh).2.2.2 (pc' := 32) rfl ?_
 refine g_aloadN X d27_32 (pc' := 33) rfl rfl rfl ?_
 refine g_iloadN X d27_33 (pc' := 34) rfl rfl ?_
 refine g_iconst X (1 : Int32) d27_34 (pc' := 35) rfl rfl ?_
 refine g_isub X d27_35 (pc' := 36) rfl ?_
 refine Go.lit32 (z := (2 : Int32)) (by decide) ?_
 refine g_caload X qb 2 d27_36 (pc' := 37) rfl (by decide) (by decide) rfl ?_
 refine g_bipush X (32 : Int32) d27_37 (pc' := 39) rfl rfl ?_
 by_cases qd : c2 = (32 : Int32)
 refine g_icN X d27_39 (teq qd).2 (pc' := 42) rfl ?_
 have Hs : sa < (git [c0, c1, c2, c3, c4, c5] sa ea 3).2 := by have q := qh; rw [Int32.lt_iff_toInt_lt, r.2.1, hk] at q; omega
 have H3 := HK3 (by omega) (by omega) qd
 refine g_aloadN X d27_42 (pc' := 43) rfl rfl rfl ?_
 refine g_iload X d27_43 (pc' := 45) rfl rfl ?_
 refine g_bipush X (32 : Int32) d27_45 (pc' := 47) rfl rfl ?_
 refine g_castore X qa (git [c0, c1, c2, c3, c4, c5] sa ea 3).2 d27_47 (pc' := 48) rfl (nat32 hk).1 (nat32 hk).2 (by rw [lenT, HL]; omega) ?_
 intro T h X W qa
 replace qb := qb.other W qi
 replace Z0 := Nat.le_trans Z0 (Nat.le_of_eq W.size.symm)
 replace N := Fr.snoc X.1 N qe
 replace Kp := Kp.wr W (Or.inl (List.mem_of_getElem? (i := 0) rfl))
 refine g_iinc X d27_48 (pc' := 51) (q := (1 : Int32)) (Ls' := #[.val (.ref w0), .val (.ref w1), .val (.int (3 : Int32)), .val (.int kk), .val (.int i1), .val (.int i2), .val (.int (kk + (1 : Int32)))]) rfl rfl rfl rfl ?_
 refine g_aloadN X d27_51 (pc' := 52) rfl rfl rfl ?_
 refine g_iload X d27_52 (pc' := 54) rfl rfl ?_
 refine g_aloadN X d27_54 (pc' := 55) rfl rfl rfl ?_
 refine g_iloadN X d27_55 (pc' := 56) rfl rfl ?_
 refine g_caload X qb 3 d27_56 (pc' := 57) rfl (by decide) (by decide) rfl ?_
 refine g_castore X qa ((git [c0, c1, c2, c3, c4, c5] sa ea 3).2 + 1) d27_57 (pc' := 58) rfl (nat32 (inc32 hk (by omega))).1 (nat32 (inc32 hk (by omega))).2 (by rw [List.length_set, lenT, HL]; omega) ?_
 intro T h X W qa
 replace Z0 := Nat.le_trans Z0 (Nat.le_of_eq W.size.symm)
 replace N := Fr.snoc X.1 N qe
 replace Kp := Kp.wr W (Or.inl (List.mem_of_getElem? (i := 0) rfl))
 refine g_iload X d27_58 (pc' := 60) rfl rfl ?_
 refine g_iconst X (1 : Int32) d27_60 (pc' := 61) rfl rfl ?_
 refine g_iadd X d27_61 (pc' := 62) rfl ?_
 refine g_ireturn X d27_62 hret hlk (by decide) (by decide) ?_
 have q : (git [c0, c1, c2, c3, c4, c5] sa ea 4) = _ := put_pend H1 H2 qc ⟨Hs, qd⟩
 exact ⟨_, rfl, N, Kp, by rw [q]; exact inc32 (inc32 hk (by omega)) (by omega), qa.eq (by rw [narC hR3.1 hR3.2, show nar .char (32 : Int32) = 32 from rfl, stT (by rw [HL]; omega), stT (by rw [List.length_set, HL]; omega)]; exact (congrArg (fun x => arrT x.1 []) q).symm)⟩
 refine g_icY X d27_39 (feq qd).2 (pc' := 51) (by decide) (by decide) ?_
 refine g_aloadN X d27_51 (pc' := 52) rfl rfl rfl ?_
 refine g_iload X d27_52 (pc' := 54) rfl rfl ?_
 refine g_aloadN X d27_54 (pc' := 55) rfl rfl rfl ?_
 refine g_iloadN X d27_55 (pc' := 56) rfl rfl ?_
 refine g_caload X qb 3 d27_56 (pc' := 57) rfl (by decide) (by decide) rfl ?_
 refine g_castore X qa (git [c0, c1, c2, c3, c4, c5] sa ea 3).2 d27_57 (pc' := 58) rfl (nat32 hk).1 (nat32 hk).2 (by rw [lenT, HL]; omega) ?_
 intro T h X W qa
 replace Z0 := Nat.le_trans Z0 (Nat.le_of_eq W.size.symm)
 replace N := Fr.snoc X.1 N qe
 replace Kp := Kp.wr W (Or.inl (List.mem_of_getElem? (i := 0) rfl))
 refine g_iload X d27_58 (pc' := 60) rfl rfl ?_
 refine g_iconst X (1 : Int32) d27_60 (pc' := 61) rfl rfl ?_
 refine g_iadd X d27_61 (pc' := 62) rfl ?_
 refine g_ireturn X d27_62 hret hlk (by decide) (by decide) ?_
 have q : (git [c0, c1, c2, c3, c4, c5] sa ea 4) = _ := put_plain H1 H2 qc (fun x => qd x.2)
 exact ⟨_, rfl, N, Kp, by rw [q]; exact inc32 hk (by omega), qa.eq (by rw [narC hR3.1 hR3.2, stT (by rw [HL]; omega)]; exact (congrArg (fun x => arrT x.1 []) q).symm)⟩
 refine g_icY X d27_29 (flt qh).2.2.2 (pc' := 51) (by decide) (by decide) ?_
 refine g_aloadN X d27_51 (pc' := 52) rfl rfl rfl ?_
 refine g_iload X d27_52 (pc' := 54) rfl rfl ?_
 refine g_aloadN X d27_54 (pc' := 55) rfl rfl rfl ?_
 refine g_iloadN X d27_55 (pc' := 56) rfl rfl ?_
 refine g_caload X qb 3 d27_56 (pc' := 57) rfl (by decide) (by decide) rfl ?_
 refine g_castore X qa (git [c0, c1, c2, c3, c4, c5] sa ea 3).2 d27_57 (pc' := 58) rfl (nat32 hk).1 (nat32 hk).2 (by rw [lenT, HL]; omega) ?_
 intro T h X W qa
 replace Z0 := Nat.le_trans Z0 (Nat.le_of_eq W.size.symm)
 replace N := Fr.snoc X.1 N qe
 replace Kp := Kp.wr W (Or.inl (List.mem_of_getElem? (i := 0) rfl))
 refine g_iload X d27_58 (pc' := 60) rfl rfl ?_
 refine g_iconst X (1 : Int32) d27_60 (pc' := 61) rfl rfl ?_
 refine g_iadd X d27_61 (pc' := 62) rfl ?_
 refine g_ireturn X d27_62 hret hlk (by decide) (by decide) ?_
 have q : (git [c0, c1, c2, c3, c4, c5] sa ea 4) = _ := put_plain H1 H2 qc (fun x => qh (by rw [Int32.lt_iff_toInt_lt, r.2.1, hk]; have := x.1; omega))
 exact ⟨_, rfl, N, Kp, by rw [q]; exact inc32 hk (by omega), qa.eq (by rw [narC hR3.1 hR3.2, stT (by rw [HL]; omega)]; exact (congrArg (fun x => arrT x.1 []) q).symm)⟩
 refine g_icY X d27_9 (flt qg).2.1 (pc' := 20) (by decide) (by decide) ?_
 refine g_iloadN X d27_20 (pc' := 21) rfl rfl ?_
 refine g_ireturn X d27_21 hret hlk (by decide) (by decide) ?_
 have q : (git [c0, c1, c2, c3, c4, c5] sa ea 4) = _ := put_out (by have q := qg; rw [Int32.lt_iff_toInt_lt, r.2.2.1] at q; simp only [Int32.reduceToInt] at q; omega)
 exact ⟨kk, rfl, N, Kp, by rw [q]; exact hk, by rw [q]; exact qa⟩
theorem ef_rSam3 (m : MethodId) (x0 : Addr) (x1 : Addr) (x2 : Int32) (x3 : Int32) (x4 : Int32) : entryFrame m #[(.ref x0), (.ref x1), (.int x2), (.int x3), (.int x4)] 5 = mkF m 0 #[.val (.ref x0), .val (.ref x1), .val (.int x2), .val (.int x3), .val (.int x4)] [] := by first | (simp [entryFrame, mkF, argsToLocals, Value.category]; done) | rfl
set_option maxRecDepth 65536 in
set_option maxHeartbeats 40000000 in
theorem rSam3 (l : Launch) (Z : State) (aa : Array Value) (hw : ∀ d ∈ tables_1, d.before aa Z = true) (ws : List Jvm.Cond) (w0 : Addr) (w1 : Addr) (kk : Int32) (i2 : Int32) (R : List Int32) (tl : List Value) (h0 : Heap) (qa : Av Z h0 w0 .char (arrT R tl)) (qb : Av Z h0 w1 .char (arrT R [])) (hl : R.length = 6) :
    Rm l Z (⟨"com/example/scheherazade/scheherazade/core/TextBuilderCollapseSpacesPinLaw", "same", "([C[CIII)Z"⟩ : MethodName) method_4_code 5 (some .boolean) ws ({ frames := 0, cells := 0, slots := 0, locals := 0 } : Room) #[(.ref w0), (.ref w1), (.int (3 : Int32)), (.int kk), (.int i2)] h0 (Pu (.int (1 : Int32)) h0) := by
 refine Rm.of (plainFor_of_name pn_6) ?_
 intro p e s m below meth cc T X hnm hret hlk
 refine Go.at_ (ef_rSam3 m w0 w1 (3 : Int32) kk i2) ?_
 refine g_iloadN X d29_0 (pc' := 1) rfl rfl ?_
 refine g_iloadN X d29_1 (pc' := 2) rfl rfl ?_
 by_cases qc : (3 : Int32) < kk
 refine g_icY X d29_2 (tlt qc).1 (pc' := 11) (by decide) (by decide) ?_
 refine g_aloadN X d29_11 (pc' := 12) rfl rfl rfl ?_
 refine g_iloadN X d29_12 (pc' := 13) rfl rfl ?_
 refine g_caload X qa 3 d29_13 (pc' := 14) rfl (by decide) (by decide) (lkT (by rw [hl]; decide)) ?_
 refine g_aloadN X d29_14 (pc' := 15) rfl rfl rfl ?_
 refine g_iloadN X d29_15 (pc' := 16) rfl rfl ?_
 refine g_caload X qb 3 d29_16 (pc' := 17) rfl (by decide) (by decide) (lkT (by rw [hl]; decide)) ?_
 refine g_icN X d29_17 (teq (show (List.getD R 3 0) = (List.getD R 3 0) from rfl)).2 (pc' := 20) rfl ?_
 refine g_iconst X (1 : Int32) d29_20 (pc' := 21) rfl rfl ?_
 refine g_goto X d29_21 (pc' := 25) (by decide) (by decide) ?_
 refine g_ireturnN X (t := .boolean) (by simp) d29_25 hret hlk (by decide) (by decide) ?_
 exact ⟨rfl, rfl, rfl⟩
 refine g_icN X d29_2 (flt qc).1 (pc' := 5) rfl ?_
 refine g_iloadN X d29_5 (pc' := 6) rfl rfl ?_
 refine g_iload X d29_6 (pc' := 8) rfl rfl ?_
 by_cases qd : (3 : Int32) < i2
 refine g_icY X d29_8 (tlt qd).1 (pc' := 20) (by decide) (by decide) ?_
 refine g_iconst X (1 : Int32) d29_20 (pc' := 21) rfl rfl ?_
 refine g_goto X d29_21 (pc' := 25) (by decide) (by decide) ?_
 refine g_ireturnN X (t := .boolean) (by simp) d29_25 hret hlk (by decide) (by decide) ?_
 exact ⟨rfl, rfl, rfl⟩
 refine g_icN X d29_8 (flt qd).1 (pc' := 11) rfl ?_
 refine g_aloadN X d29_11 (pc' := 12) rfl rfl rfl ?_
 refine g_iloadN X d29_12 (pc' := 13) rfl rfl ?_
 refine g_caload X qa 3 d29_13 (pc' := 14) rfl (by decide) (by decide) (lkT (by rw [hl]; decide)) ?_
 refine g_aloadN X d29_14 (pc' := 15) rfl rfl rfl ?_
 refine g_iloadN X d29_15 (pc' := 16) rfl rfl ?_
 refine g_caload X qb 3 d29_16 (pc' := 17) rfl (by decide) (by decide) (lkT (by rw [hl]; decide)) ?_
 refine g_icN X d29_17 (teq (show (List.getD R 3 0) = (List.getD R 3 0) from rfl)).2 (pc' := 20) rfl ?_
 refine g_iconst X (1 : Int32) d29_20 (pc' := 21) rfl rfl ?_
 refine g_goto X d29_21 (pc' := 25) (by decide) (by decide) ?_
 refine g_ireturnN X (t := .boolean) (by simp) d29_25 hret hlk (by decide) (by decide) ?_
 exact ⟨rfl, rfl, rfl⟩
theorem ef_rPut4 (m : MethodId) (x0 : Addr) (x1 : Addr) (x2 : Int32) (x3 : Int32) (x4 : Int32) (x5 : Int32) : entryFrame m #[(.ref x0), (.ref x1), (.int x2), (.int x3), (.int x4), (.int x5)] 7 = mkF m 0 #[.val (.ref x0), .val (.ref x1), .val (.int x2), .val (.int x3), .val (.int x4), .val (.int x5), .unset] [] := by first | (simp [entryFrame, mkF, argsToLocals, Value.category]; done) | rfl
set_option maxRecDepth 65536 in
set_option maxHeartbeats 40000000 in
theorem rPut4 (l : Launch) (Z : State) (aa : Array Value) (hw : ∀ d ∈ tables_1, d.before aa Z = true) (ws : List Jvm.Cond) (w0 : Addr) (w1 : Addr) (kk : Int32) (i1 : Int32) (i2 : Int32) (c0 : Int32) (c1 : Int32) (c2 : Int32) (c3 : Int32) (c4 : Int32) (c5 : Int32) (sa : Nat) (ea : Nat) (h0 : Heap) (n0 : Nat) (Z0 : n0 ≤ h0.size) (qb : Av Z h0 w0 .char [(.int c0), (.int c1), (.int c2), (.int c3), (.int c4), (.int c5)]) (qa : Av Z h0 w1 .char (arrT (git [c0, c1, c2, c3, c4, c5] sa ea 4).1 [])) (qe : n0 ≤ w1) (qi : w0 ≠ w1) (r : Rng [c0, c1, c2, c3, c4, c5] sa ea i1 i2) (hk : kk.toInt = (git [c0, c1, c2, c3, c4, c5] sa ea 4).2) (hR : R6 c0 c1 c2 c3 c4 c5) :
    Rm l Z (⟨"com/example/scheherazade/scheherazade/core/TextBuilderCollapseSpacesPinLaw", "put", "([C[CIIII)I"⟩ : MethodName) method_3_code 7 (some .int) ws ({ frames := 0, cells := 0, slots := 0, locals := 0 } : Room) #[(.ref w0), (.ref w1), (.int (4 : Int32)), (.int kk), (.int i1), (.int i2)] h0 (fun v h L => ∃ k' : Int32, v = some (.int k') ∧ Fr n0 L ∧ Keep h0 h [w1] ∧ k'.toInt = (git [c0, c1, c2, c3, c4, c5] sa ea 5).2 ∧ Av Z h w1 .char (arrT (git [c0, c1, c2, c3, c4, c5] sa ea 5).1 [])) := by
 refine Rm.of (plainFor_of_name pn_6) ?_
 intro p e s m below meth cc T X hnm hret hlk
 refine Go.at_ (ef_rPut4 m w0 w1 (4 : Int32) kk i1 i2) ?_
 have N := Fr.nil n0
 have Kp := Keep.refl h0 [w1]
 obtain ⟨hR0, hR1, hR2, hR3, hR4, hR5⟩ := hR
 refine g_iloadN X d27_0 (pc' := 1) rfl rfl ?_
 refine g_iload X d27_1 (pc' := 3) rfl rfl ?_
 by_cases qf : (4 : Int32) < i1
 refine g_icY X d27_3 (tlt qf).1 (pc' := 20) (by decide) (by decide) ?_
 refine g_iloadN X d27_20 (pc' := 21) rfl rfl ?_
 refine g_ireturn X d27_21 hret hlk (by decide) (by decide) ?_
 have q : (git [c0, c1, c2, c3, c4, c5] sa ea 5) = _ := put_out (by have q := qf; rw [Int32.lt_iff_toInt_lt, r.2.1] at q; simp only [Int32.reduceToInt] at q; omega)
 exact ⟨kk, rfl, N, Kp, by rw [q]; exact hk, by rw [q]; exact qa⟩
 refine g_icN X d27_3 (flt qf).1 (pc' := 6) rfl ?_
 refine g_iloadN X d27_6 (pc' := 7) rfl rfl ?_
 refine g_iload X d27_7 (pc' := 9) rfl rfl ?_
 by_cases qg : (4 : Int32) < i2
 refine g_icN X d27_9 (tlt qg).2.1 (pc' := 12) rfl ?_
 refine g_aloadN X d27_12 (pc' := 13) rfl rfl rfl ?_
 refine g_iloadN X d27_13 (pc' := 14) rfl rfl ?_
 refine g_caload X qb 4 d27_14 (pc' := 15) rfl (by decide) (by decide) rfl ?_
 refine g_bipush X (32 : Int32) d27_15 (pc' := 17) rfl rfl ?_
 by_cases qc : c4 = (32 : Int32)
 refine g_icN X d27_17 (teq qc).2 (pc' := 20) rfl ?_
 refine g_iloadN X d27_20 (pc' := 21) rfl rfl ?_
 refine g_ireturn X d27_21 hret hlk (by decide) (by decide) ?_
 have q : (git [c0, c1, c2, c3, c4, c5] sa ea 5) = _ := put_space qc
 exact ⟨kk, rfl, N, Kp, by rw [q]; exact hk, by rw [q]; exact qa⟩
 refine g_icY X d27_17 (feq qc).2 (pc' := 22) (by decide) (by decide) ?_
 have H1 : sa ≤ 4 := by have q := qf; rw [Int32.lt_iff_toInt_lt, r.2.1] at q; simp only [Int32.reduceToInt] at q; omega
 have H2 : 4 < ea := by have q := qg; rw [Int32.lt_iff_toInt_lt, r.2.2.1] at q; simp only [Int32.reduceToInt] at q; omega
 obtain ⟨HK1, HK2, HK3⟩ := git_k [c0, c1, c2, c3, c4, c5] sa ea 4 H1
 have HL : (git [c0, c1, c2, c3, c4, c5] sa ea 4).1.length = 6 := git_len [c0, c1, c2, c3, c4, c5] sa ea 4
 refine g_iloadN X d27_22 (pc' := 23) rfl rfl ?_
 refine g_istore X d27_23 (pc' := 25) (Ls' := #[.val (.ref w0), .val (.ref w1), .val (.int (4 : Int32)), .val (.int kk), .val (.int i1), .val (.int i2), .val (.int kk)]) rfl rfl ?_
 refine g_iload X d27_25 (pc' := 27) rfl rfl ?_
 refine g_iload X d27_27 (pc' := 29) rfl rfl ?_
 by_cases qh : i1 < kk
 refine g_icN X d27_29 (tlt qh).2.2.2 (pc' := 32) rfl ?_
 refine g_aloadN X d27_32 (pc' := 33) rfl rfl rfl ?_
 refine g_iloadN X d27_33 (pc' := 34) rfl rfl ?_
 refine g_iconst X (1 : Int32) d27_34 (pc' := 35) rfl rfl ?_
 refine g_isub X d27_35 (pc' := 36) rfl ?_
 refine Go.lit32 (z := (3 : Int32)) (by decide) ?_
 refine g_caload X qb 3 d27_36 (pc' := 37) rfl (by decide) (by decide) rfl ?_
 refine g_bipush X (32 : Int32) d27_37 (pc' := 39) rfl rfl ?_
 by_cases qd : c3 = (32 : Int32)
 refine g_icN X d27_39 (teq qd).2 (pc' := 42) rfl ?_
 have Hs : sa < (git [c0, c1, c2, c3, c4, c5] sa ea 4).2 := by have q := qh; rw [Int32.lt_iff_toInt_lt, r.2.1, hk] at q; omega
 have H3 := HK3 (by omega) (by omega) qd
 refine g_aloadN X d27_42 (pc' := 43) rfl rfl rfl ?_
 refine g_iload X d27_43 (pc' := 45) rfl rfl ?_
 refine g_bipush X (32 : Int32) d27_45 (pc' := 47) rfl rfl ?_
 refine g_castore X qa (git [c0, c1, c2, c3, c4, c5] sa ea 4).2 d27_47 (pc' := 48) rfl (nat32 hk).1 (nat32 hk).2 (by rw [lenT, HL]; omega) ?_
 intro T h X W qa
 replace qb := qb.other W qi
 replace Z0 := Nat.le_trans Z0 (Nat.le_of_eq W.size.symm)
 replace N := Fr.snoc X.1 N qe
 replace Kp := Kp.wr W (Or.inl (List.mem_of_getElem? (i := 0) rfl))
 refine g_iinc X d27_48 (pc' := 51) (q := (1 : Int32)) (Ls' := #[.val (.ref w0), .val (.ref w1), .val (.int (4 : Int32)), .val (.int kk), .val (.int i1), .val (.int i2), .val (.int (kk + (1 : Int32)))]) rfl rfl rfl rfl ?_
 refine g_aloadN X d27_51 (pc' := 52) rfl rfl rfl ?_
 refine g_iload X d27_52 (pc' := 54) rfl rfl ?_
 refine g_aloadN X d27_54 (pc' := 55) rfl rfl rfl ?_
 refine g_iloadN X d27_55 (pc' := 56) rfl rfl ?_
 refine g_caload X qb 4 d27_56 (pc' := 57) rfl (by decide) (by decide) rfl ?_
 refine g_castore X qa ((git [c0, c1, c2, c3, c4, c5] sa ea 4).2 + 1) d27_57 (pc' := 58) rfl (nat32 (inc32 hk (by omega))).1 (nat32 (inc32 hk (by omega))).2 (by rw [List.length_set, lenT, HL]; omega) ?_
 intro T h X W qa
 replace Z0 := Nat.le_trans Z0 (Nat.le_of_eq W.size.symm)
 replace N := Fr.snoc X.1 N qe
 replace Kp := Kp.wr W (Or.inl (List.mem_of_getElem? (i := 0) rfl))
 refine g_iload X d27_58 (pc' := 60) rfl rfl ?_
 refine g_iconst X (1 : Int32) d27_60 (pc' := 61) rfl rfl ?_
 refine g_iadd X d27_61 (pc' := 62) rfl ?_
 refine g_ireturn X d27_62 hret hlk (by decide) (by decide) ?_
 have q : (git [c0, c1, c2, c3, c4, c5] sa ea 5) = _ := put_pend H1 H2 qc ⟨Hs, qd⟩
 exact ⟨_, rfl, N, Kp, by rw [q]; exact inc32 (inc32 hk (by omega)) (by omega), qa.eq (by rw [narC hR4.1 hR4.2, show nar .char (32 : Int32) = 32 from rfl, stT (by rw [HL]; omega), stT (by rw [List.length_set, HL]; omega)]; exact (congrArg (fun x => arrT x.1 []) q).symm)⟩
 refine g_icY X d27_39 (feq qd).2 (pc' := 51) (by decide) (by decide) ?_
 refine g_aloadN X d27_51 (pc' := 52) rfl rfl rfl ?_
 refine g_iload X d27_52 (pc' := 54) rfl rfl ?_
 refine g_aloadN X d27_54 (pc' := 55) rfl rfl rfl ?_
 refine g_iloadN X d27_55 (pc' := 56) rfl rfl ?_
 refine g_caload X qb 4 d27_56 (pc' := 57) rfl (by decide) (by decide) rfl ?_
 refine g_castore X qa (git [c0, c1, c2, c3, c4, c5] sa ea 4).2 d27_57 (pc' := 58) rfl (nat32 hk).1 (nat32 hk).2 (by rw [lenT, HL]; omega) ?_
 intro T h X W qa
 replace Z0 := Nat.le_trans Z0 (Nat.le_of_eq W.size.symm)
 replace N := Fr.snoc X.1 N qe
 replace Kp := Kp.wr W (Or.inl (List.mem_of_getElem? (i := 0) rfl))
 refine g_iload X d27_58 (pc' := 60) rfl rfl ?_
 refine g_iconst X (1 : Int32) d27_60 (pc' := 61) rfl rfl ?_
 refine g_iadd X d27_61 (pc' := 62) rfl ?_
 refine g_ireturn X d27_62 hret hlk (by decide) (by decide) ?_
 have q : (git [c0, c1, c2, c3, c4, c5] sa ea 5) = _ := put_plain H1 H2 qc (fun x => qd x.2)
 exact ⟨_, rfl, N, Kp, by rw [q]; exact inc32 hk (by omega), qa.eq (by rw [narC hR4.1 hR4.2, stT (by rw [HL]; omega)]; exact (congrArg (fun x => arrT x.1 []) q).symm)⟩
 refine g_icY X d27_29 (flt qh).2.2.2 (pc' := 51) (by decide) (by decide) ?_
 refine g_aloadN X d27_51 (pc' := 52) rfl rfl rfl ?_
 refine g_iload X d27_52 (pc' := 54) rfl rfl ?_
 refine g_aloadN X d27_54 (pc' := 55) rfl rfl rfl ?_
 refine g_iloadN X d27_55 (pc' := 56) rfl rfl ?_
 refine g_caload X qb 4 d27_56 (pc' := 57) rfl (by decide) (by decide) rfl ?_
 refine g_castore X qa (git [c0, c1, c2, c3, c4, c5] sa ea 4).2 d27_57 (pc' := 58) rfl (nat32 hk).1 (nat32 hk).2 (by rw [lenT, HL]; omega) ?_
 intro T h X W qa
 replace Z0 := Nat.le_trans Z0 (Nat.le_of_eq W.size.symm)
 replace N := Fr.snoc X.1 N qe
 replace Kp := Kp.wr W (Or.inl (List.mem_of_getElem? (i := 0) rfl))
 refine g_iload X d27_58 (pc' := 60) rfl rfl ?_
 refine g_iconst X (1 : Int32) d27_60 (pc' := 61) rfl rfl ?_
 refine g_iadd X d27_61 (pc' := 62) rfl ?_
 refine g_ireturn X d27_62 hret hlk (by decide) (by decide) ?_
 have q : (git [c0, c1, c2, c3, c4, c5] sa ea 5) = _ := put_plain H1 H2 qc (fun x => qh (by rw [Int32.lt_iff_toInt_lt, r.2.1, hk]; have := x.1; omega))
 exact ⟨_, rfl, N, Kp, by rw [q]; exact inc32 hk (by omega), qa.eq (by rw [narC hR4.1 hR4.2, stT (by rw [HL]; omega)]; exact (congrArg (fun x => arrT x.1 []) q).symm)⟩
 refine g_icY X d27_9 (flt qg).2.1 (pc' := 20) (by decide) (by decide) ?_
 refine g_iloadN X d27_20 (pc' := 21) rfl rfl ?_
 refine g_ireturn X d27_21 hret hlk (by decide) (by decide) ?_
 have q : (git [c0, c1, c2, c3, c4, c5] sa ea 5) = _ := put_out (by have q := qg; rw [Int32.lt_iff_toInt_lt, r.2.2.1] at q; simp only [Int32.reduceToInt] at q; omega)
 exact ⟨kk, rfl, N, Kp, by rw [q]; exact hk, by rw [q]; exact qa⟩
theorem ef_rSam4 (m : MethodId) (x0 : Addr) (x1 : Addr) (x2 : Int32) (x3 : Int32) (x4 : Int32) : entryFrame m #[(.ref x0), (.ref x1), (.int x2), (.int x3), (.int x4)] 5 = mkF m 0 #[.val (.ref x0), .val (.ref x1), .val (.int x2), .val (.int x3), .val (.int x4)] [] := by first | (simp [entryFrame, mkF, argsToLocals, Value.category]; done) | rfl
set_option maxRecDepth 65536 in
set_option maxHeartbeats 40000000 in
theorem rSam4 (l : Launch) (Z : State) (aa : Array Value) (hw : ∀ d ∈ tables_1, d.before aa Z = true) (ws : List Jvm.Cond) (w0 : Addr) (w1 : Addr) (kk : Int32) (i2 : Int32) (R : List Int32) (tl : List Value) (h0 : Heap) (qa : Av Z h0 w0 .char (arrT R tl)) (qb : Av Z h0 w1 .char (arrT R [])) (hl : R.length = 6) :
    Rm l Z (⟨"com/example/scheherazade/scheherazade/core/TextBuilderCollapseSpacesPinLaw", "same", "([C[CIII)Z"⟩ : MethodName) method_4_code 5 (some .boolean) ws ({ frames := 0, cells := 0, slots := 0, locals := 0 } : Room) #[(.ref w0), (.ref w1), (.int (4 : Int32)), (.int kk), (.int i2)] h0 (Pu (.int (1 : Int32)) h0) := by
 refine Rm.of (plainFor_of_name pn_6) ?_
 intro p e s m below meth cc T X hnm hret hlk
 refine Go.at_ (ef_rSam4 m w0 w1 (4 : Int32) kk i2) ?_
 refine g_iloadN X d29_0 (pc' := 1) rfl rfl ?_
 refine g_iloadN X d29_1 (pc' := 2) rfl rfl ?_
 by_cases qc : (4 : Int32) < kk
 refine g_icY X d29_2 (tlt qc).1 (pc' := 11) (by decide) (by decide) ?_
 refine g_aloadN X d29_11 (pc' := 12) rfl rfl rfl ?_
 refine g_iloadN X d29_12 (pc' := 13) rfl rfl ?_
 refine g_caload X qa 4 d29_13 (pc' := 14) rfl (by decide) (by decide) (lkT (by rw [hl]; decide)) ?_
 refine g_aloadN X d29_14 (pc' := 15) rfl rfl rfl ?_
 refine g_iloadN X d29_15 (pc' := 16) rfl rfl ?_
 refine g_caload X qb 4 d29_16 (pc' := 17) rfl (by decide) (by decide) (lkT (by rw [hl]; decide)) ?_
 refine g_icN X d29_17 (teq (show (List.getD R 4 0) = (List.getD R 4 0) from rfl)).2 (pc' := 20) rfl ?_
 refine g_iconst X (1 : Int32) d29_20 (pc' := 21) rfl rfl ?_
 refine g_goto X d29_21 (pc' := 25) (by decide) (by decide) ?_
 refine g_ireturnN X (t := .boolean) (by simp) d29_25 hret hlk (by decide) (by decide) ?_
 exact ⟨rfl, rfl, rfl⟩
 refine g_icN X d29_2 (flt qc).1 (pc' := 5) rfl ?_
 refine g_iloadN X d29_5 (pc' := 6) rfl rfl ?_
 refine g_iload X d29_6 (pc' := 8) rfl rfl ?_
 by_cases qd : (4 : Int32) < i2
 refine g_icY X d29_8 (tlt qd).1 (pc' := 20) (by decide) (by decide) ?_
 refine g_iconst X (1 : Int32) d29_20 (pc' := 21) rfl rfl ?_
 refine g_goto X d29_21 (pc' := 25) (by decide) (by decide) ?_
 refine g_ireturnN X (t := .boolean) (by simp) d29_25 hret hlk (by decide) (by decide) ?_
 exact ⟨rfl, rfl, rfl⟩
 refine g_icN X d29_8 (flt qd).1 (pc' := 11) rfl ?_
 refine g_aloadN X d29_11 (pc' := 12) rfl rfl rfl ?_
 refine g_iloadN X d29_12 (pc' := 13) rfl rfl ?_
 refine g_caload X qa 4 d29_13 (pc' := 14) rfl (by decide) (by decide) (lkT (by rw [hl]; decide)) ?_
 refine g_aloadN X d29_14 (pc' := 15) rfl rfl rfl ?_
 refine g_iloadN X d29_15 (pc' := 16) rfl rfl ?_
 refine g_caload X qb 4 d29_16 (pc' := 17) rfl (by decide) (by decide) (lkT (by rw [hl]; decide)) ?_
 refine g_icN X d29_17 (teq (show (List.getD R 4 0) = (List.getD R 4 0) from rfl)).2 (pc' := 20) rfl ?_
 refine g_iconst X (1 : Int32) d29_20 (pc' := 21) rfl rfl ?_
 refine g_goto X d29_21 (pc' := 25) (by decide) (by decide) ?_
 refine g_ireturnN X (t := .boolean) (by simp) d29_25 hret hlk (by decide) (by decide) ?_
 exact ⟨rfl, rfl, rfl⟩
theorem ef_rPut5 (m : MethodId) (x0 : Addr) (x1 : Addr) (x2 : Int32) (x3 : Int32) (x4 : Int32) (x5 : Int32) : entryFrame m #[(.ref x0), (.ref x1), (.int x2), (.int x3), (.int x4), (.int x5)] 7 = mkF m 0 #[.val (.ref x0), .val (.ref x1), .val (.int x2), .val (.int x3), .val (.int x4), .val (.int x5), .unset] [] := by first | (simp [entryFrame, mkF, argsToLocals, Value.category]; done) | rfl
set_option maxRecDepth 65536 in
set_option maxHeartbeats 40000000 in
theorem rPut5 (l : Launch) (Z : State) (aa : Array Value) (hw : ∀ d ∈ tables_1, d.before aa Z = true) (ws : List Jvm.Cond) (w0 : Addr) (w1 : Addr) (kk : Int32) (i1 : Int32) (i2 : Int32) (c0 : Int32) (c1 : Int32) (c2 : Int32) (c3 : Int32) (c4 : Int32) (c5 : Int32) (sa : Nat) (ea : Nat) (h0 : Heap) (n0 : Nat) (Z0 : n0 ≤ h0.size) (qb : Av Z h0 w0 .char [(.int c0), (.int c1), (.int c2), (.int c3), (.int c4), (.int c5)]) (qa : Av Z h0 w1 .char (arrT (git [c0, c1, c2, c3, c4, c5] sa ea 5).1 [])) (qe : n0 ≤ w1) (qi : w0 ≠ w1) (r : Rng [c0, c1, c2, c3, c4, c5] sa ea i1 i2) (hk : kk.toInt = (git [c0, c1, c2, c3, c4, c5] sa ea 5).2) (hR : R6 c0 c1 c2 c3 c4 c5) :
    Rm l Z (⟨"com/example/scheherazade/scheherazade/core/TextBuilderCollapseSpacesPinLaw", "put", "([C[CIIII)I"⟩ : MethodName) method_3_code 7 (some .int) ws ({ frames := 0, cells := 0, slots := 0, locals := 0 } : Room) #[(.ref w0), (.ref w1), (.int (5 : Int32)), (.int kk), (.int i1), (.int i2)] h0 (fun v h L => ∃ k' : Int32, v = some (.int k') ∧ Fr n0 L ∧ Keep h0 h [w1] ∧ k'.toInt = (git [c0, c1, c2, c3, c4, c5] sa ea 6).2 ∧ Av Z h w1 .char (arrT (git [c0, c1, c2, c3, c4, c5] sa ea 6).1 [])) := by
 refine Rm.of (plainFor_of_name pn_6) ?_
 intro p e s m below meth cc T X hnm hret hlk
 refine Go.at_ (ef_rPut5 m w0 w1 (5 : Int32) kk i1 i2) ?_
 have N := Fr.nil n0
 have Kp := Keep.refl h0 [w1]
 obtain ⟨hR0, hR1, hR2, hR3, hR4, hR5⟩ := hR
 refine g_iloadN X d27_0 (pc' := 1) rfl rfl ?_
 refine g_iload X d27_1 (pc' := 3) rfl rfl ?_
 by_cases qf : (5 : Int32) < i1
 refine g_icY X d27_3 (tlt qf).1 (pc' := 20) (by decide) (by decide) ?_
 refine g_iloadN X d27_20 (pc' := 21) rfl rfl ?_
 refine g_ireturn X d27_21 hret hlk (by decide) (by decide) ?_
 have q : (git [c0, c1, c2, c3, c4, c5] sa ea 6) = _ := put_out (by have q := qf; rw [Int32.lt_iff_toInt_lt, r.2.1] at q; simp only [Int32.reduceToInt] at q; omega)
 exact ⟨kk, rfl, N, Kp, by rw [q]; exact hk, by rw [q]; exact qa⟩
 refine g_icN X d27_3 (flt qf).1 (pc' := 6) rfl ?_
 refine g_iloadN X d27_6 (pc' := 7) rfl rfl ?_
 refine g_iload X d27_7 (pc' := 9) rfl rfl ?_
 by_cases qg : (5 : Int32) < i2
 refine g_icN X d27_9 (tlt qg).2.1 (pc' := 12) rfl ?_
 refine g_aloadN X d27_12 (pc' := 13) rfl rfl rfl ?_
 refine g_iloadN X d27_13 (pc' := 14) rfl rfl ?_
 refine g_caload X qb 5 d27_14 (pc' := 15) rfl (by decide) (by decide) rfl ?_
 refine g_bipush X (32 : Int32) d27_15 (pc' := 17) rfl rfl ?_
 by_cases qc : c5 = (32 : Int32)
 refine g_icN X d27_17 (teq qc).2 (pc' := 20) rfl ?_
 refine g_iloadN X d27_20 (pc' := 21) rfl rfl ?_
 refine g_ireturn X d27_21 hret hlk (by decide) (by decide) ?_
 have q : (git [c0, c1, c2, c3, c4, c5] sa ea 6) = _ := put_space qc
 exact ⟨kk, rfl, N, Kp, by rw [q]; exact hk, by rw [q]; exact qa⟩
 refine g_icY X d27_17 (feq qc).2 (pc' := 22) (by decide) (by decide) ?_
 have H1 : sa ≤ 5 := by have q := qf; rw [Int32.lt_iff_toInt_lt, r.2.1] at q; simp only [Int32.reduceToInt] at q; omega
 have H2 : 5 < ea := by have q := qg; rw [Int32.lt_iff_toInt_lt, r.2.2.1] at q; simp only [Int32.reduceToInt] at q; omega
 obtain ⟨HK1, HK2, HK3⟩ := git_k [c0, c1, c2, c3, c4, c5] sa ea 5 H1
 have HL : (git [c0, c1, c2, c3, c4, c5] sa ea 5).1.length = 6 := git_len [c0, c1, c2, c3, c4, c5] sa ea 5
 refine g_iloadN X d27_22 (pc' := 23) rfl rfl ?_
 refine g_istore X d27_23 (pc' := 25) (Ls' := #[.val (.ref w0), .val (.ref w1), .val (.int (5 : Int32)), .val (.int kk), .val (.int i1), .val (.int i2), .val (.int kk)]) rfl rfl ?_
 refine g_iload X d27_25 (pc' := 27) rfl rfl ?_
 refine g_iload X d27_27 (pc' := 29) rfl rfl ?_
 by_cases qh : i1 < kk
 refine g_icN X d27_29 (tlt qh).2.2.2 (pc' := 32) rfl ?_
 refine g_aloadN X d27_32 (pc' := 33) rfl rfl rfl ?_
 refine g_iloadN X d27_33 (pc' := 34) rfl rfl ?_
 refine g_iconst X (1 : Int32) d27_34 (pc' := 35) rfl rfl ?_
 refine g_isub X d27_35 (pc' := 36) rfl ?_
 refine Go.lit32 (z := (4 : Int32)) (by decide) ?_
 refine g_caload X qb 4 d27_36 (pc' := 37) rfl (by decide) (by decide) rfl ?_
 refine g_bipush X (32 : Int32) d27_37 (pc' := 39) rfl rfl ?_
 by_cases qd : c4 = (32 : Int32)
 refine g_icN X d27_39 (teq qd).2 (pc' := 42) rfl ?_
 have Hs : sa < (git [c0, c1, c2, c3, c4, c5] sa ea 5).2 := by have q := qh; rw [Int32.lt_iff_toInt_lt, r.2.1, hk] at q; omega
 have H3 := HK3 (by omega) (by omega) qd
 refine g_aloadN X d27_42 (pc' := 43) rfl rfl rfl ?_
 refine g_iload X d27_43 (pc' := 45) rfl rfl ?_
 refine g_bipush X (32 : Int32) d27_45 (pc' := 47) rfl rfl ?_
 refine g_castore X qa (git [c0, c1, c2, c3, c4, c5] sa ea 5).2 d27_47 (pc' := 48) rfl (nat32 hk).1 (nat32 hk).2 (by rw [lenT, HL]; omega) ?_
 intro T h X W qa
 replace qb := qb.other W qi
 replace Z0 := Nat.le_trans Z0 (Nat.le_of_eq W.size.symm)
 replace N := Fr.snoc X.1 N qe
 replace Kp := Kp.wr W (Or.inl (List.mem_of_getElem? (i := 0) rfl))
 refine g_iinc X d27_48 (pc' := 51) (q := (1 : Int32)) (Ls' := #[.val (.ref w0), .val (.ref w1), .val (.int (5 : Int32)), .val (.int kk), .val (.int i1), .val (.int i2), .val (.int (kk + (1 : Int32)))]) rfl rfl rfl rfl ?_
 refine g_aloadN X d27_51 (pc' := 52) rfl rfl rfl ?_
 refine g_iload X d27_52 (pc' := 54) rfl rfl ?_
 refine g_aloadN X d27_54 (pc' := 55) rfl rfl rfl ?_
 refine g_iloadN X d27_55 (pc' := 56) rfl rfl ?_
 refine g_caload X qb 5 d27_56 (pc' := 57) rfl (by decide) (by decide) rfl ?_
 refine g_castore X qa ((git [c0, c1, c2, c3, c4, c5] sa ea 5).2 + 1) d27_57 (pc' := 58) rfl (nat32 (inc32 hk (by omega))).1 (nat32 (inc32 hk (by omega))).2 (by rw [List.length_set, lenT, HL]; omega) ?_
 intro T h X W qa
 replace Z0 := Nat.le_trans Z0 (Nat.le_of_eq W.size.symm)
 replace N := Fr.snoc X.1 N qe
 replace Kp := Kp.wr W (Or.inl (List.mem_of_getElem? (i := 0) rfl))
 refine g_iload X d27_58 (pc' := 60) rfl rfl ?_
 refine g_iconst X (1 : Int32) d27_60 (pc' := 61) rfl rfl ?_
 refine g_iadd X d27_61 (pc' := 62) rfl ?_
 refine g_ireturn X d27_62 hret hlk (by decide) (by decide) ?_
 have q : (git [c0, c1, c2, c3, c4, c5] sa ea 6) = _ := put_pend H1 H2 qc ⟨Hs, qd⟩
 exact ⟨_, rfl, N, Kp, by rw [q]; exact inc32 (inc32 hk (by omega)) (by omega), qa.eq (by rw [narC hR5.1 hR5.2, show nar .char (32 : Int32) = 32 from rfl, stT (by rw [HL]; omega), stT (by rw [List.length_set, HL]; omega)]; exact (congrArg (fun x => arrT x.1 []) q).symm)⟩
 refine g_icY X d27_39 (feq qd).2 (pc' := 51) (by decide) (by decide) ?_
 refine g_aloadN X d27_51 (pc' := 52) rfl rfl rfl ?_
 refine g_iload X d27_52 (pc' := 54) rfl rfl ?_
 refine g_aloadN X d27_54 (pc' := 55) rfl rfl rfl ?_
 refine g_iloadN X d27_55 (pc' := 56) rfl rfl ?_
 refine g_caload X qb 5 d27_56 (pc' := 57) rfl (by decide) (by decide) rfl ?_
 refine g_castore X qa (git [c0, c1, c2, c3, c4, c5] sa ea 5).2 d27_57 (pc' := 58) rfl (nat32 hk).1 (nat32 hk).2 (by rw [lenT, HL]; omega) ?_
 intro T h X W qa
 replace Z0 := Nat.le_trans Z0 (Nat.le_of_eq W.size.symm)
 replace N := Fr.snoc X.1 N qe
 replace Kp := Kp.wr W (Or.inl (List.mem_of_getElem? (i := 0) rfl))
 refine g_iload X d27_58 (pc' := 60) rfl rfl ?_
 refine g_iconst X (1 : Int32) d27_60 (pc' := 61) rfl rfl ?_
 refine g_iadd X d27_61 (pc' := 62) rfl ?_
 refine g_ireturn X d27_62 hret hlk (by decide) (by decide) ?_
 have q : (git [c0, c1, c2, c3, c4, c5] sa ea 6) = _ := put_plain H1 H2 qc (fun x => qd x.2)
 exact ⟨_, rfl, N, Kp, by rw [q]; exact inc32 hk (by omega), qa.eq (by rw [narC hR5.1 hR5.2, stT (by rw [HL]; omega)]; exact (congrArg (fun x => arrT x.1 []) q).symm)⟩
 refine g_icY X d27_29 (flt qh).2.2.2 (pc' := 51) (by decide) (by decide) ?_
 refine g_aloadN X d27_51 (pc' := 52) rfl rfl rfl ?_
 refine g_iload X d27_52 (pc' := 54) rfl rfl ?_
 refine g_aloadN X d27_54 (pc' := 55) rfl rfl rfl ?_
 refine g_iloadN X d27_55 (pc' := 56) rfl rfl ?_
 refine g_caload X qb 5 d27_56 (pc' := 57) rfl (by decide) (by decide) rfl ?_
 refine g_castore X qa (git [c0, c1, c2, c3, c4, c5] sa ea 5).2 d27_57 (pc' := 58) rfl (nat32 hk).1 (nat32 hk).2 (by rw [lenT, HL]; omega) ?_
 intro T h X W qa
 replace Z0 := Nat.le_trans Z0 (Nat.le_of_eq W.size.symm)
 replace N := Fr.snoc X.1 N qe
 replace Kp := Kp.wr W (Or.inl (List.mem_of_getElem? (i := 0) rfl))
 refine g_iload X d27_58 (pc' := 60) rfl rfl ?_
 refine g_iconst X (1 : Int32) d27_60 (pc' := 61) rfl rfl ?_
 refine g_iadd X d27_61 (pc' := 62) rfl ?_
 refine g_ireturn X d27_62 hret hlk (by decide) (by decide) ?_
 have q : (git [c0, c1, c2, c3, c4, c5] sa ea 6) = _ := put_plain H1 H2 qc (fun x => qh (by rw [Int32.lt_iff_toInt_lt, r.2.1, hk]; have := x.1; omega))
 exact ⟨_, rfl, N, Kp, by rw [q]; exact inc32 hk (by omega), qa.eq (by rw [narC hR5.1 hR5.2, stT (by rw [HL]; omega)]; exact (congrArg (fun x => arrT x.1 []) q).symm)⟩
 refine g_icY X d27_9 (flt qg).2.1 (pc' := 20) (by decide) (by decide) ?_
 refine g_iloadN X d27_20 (pc' := 21) rfl rfl ?_
 refine g_ireturn X d27_21 hret hlk (by decide) (by decide) ?_
 have q : (git [c0, c1, c2, c3, c4, c5] sa ea 6) = _ := put_out (by have q := qg; rw [Int32.lt_iff_toInt_lt, r.2.2.1] at q; simp only [Int32.reduceToInt] at q; omega)
 exact ⟨kk, rfl, N, Kp, by rw [q]; exact hk, by rw [q]; exact qa⟩
theorem ef_rSam5 (m : MethodId) (x0 : Addr) (x1 : Addr) (x2 : Int32) (x3 : Int32) (x4 : Int32) : entryFrame m #[(.ref x0), (.ref x1), (.int x2), (.int x3), (.int x4)] 5 = mkF m 0 #[.val (.ref x0), .val (.ref x1), .val (.int x2), .val (.int x3), .val (.int x4)] [] := by first | (simp [entryFrame, mkF, argsToLocals, Value.category]; done) | rfl
set_option maxRecDepth 65536 in
set_option maxHeartbeats 40000000 in
theorem rSam5 (l : Launch) (Z : State) (aa : Array Value) (hw : ∀ d ∈ tables_1, d.before aa Z = true) (ws : List Jvm.Cond) (w0 : Addr) (w1 : Addr) (kk : Int32) (i2 : Int32) (R : List Int32) (tl : List Value) (h0 : Heap) (qa : Av Z h0 w0 .char (arrT R tl)) (qb : Av Z h0 w1 .char (arrT R [])) (hl : R.length = 6) :
    Rm l Z (⟨"com/example/scheherazade/scheherazade/core/TextBuilderCollapseSpacesPinLaw", "same", "([C[CIII)Z"⟩ : MethodName) method_4_code 5 (some .boolean) ws ({ frames := 0, cells := 0, slots := 0, locals := 0 } : Room) #[(.ref w0), (.ref w1), (.int (5 : Int32)), (.int kk), (.int i2)] h0 (Pu (.int (1 : Int32)) h0) := by
 refine Rm.of (plainFor_of_name pn_6) ?_
 intro p e s m below meth cc T X hnm hret hlk
 refine Go.at_ (ef_rSam5 m w0 w1 (5 : Int32) kk i2) ?_
 refine g_iloadN X d29_0 (pc' := 1) rfl rfl ?_
 refine g_iloadN X d29_1 (pc' := 2) rfl rfl ?_
 by_cases qc : (5 : Int32) < kk
 refine g_icY X d29_2 (tlt qc).1 (pc' := 11) (by decide) (by decide) ?_
 refine g_aloadN X d29_11 (pc' := 12) rfl rfl rfl ?_
 refine g_iloadN X d29_12 (pc' := 13) rfl rfl ?_
 refine g_caload X qa 5 d29_13 (pc' := 14) rfl (by decide) (by decide) (lkT (by rw [hl]; decide)) ?_
 refine g_aloadN X d29_14 (pc' := 15) rfl rfl rfl ?_
 refine g_iloadN X d29_15 (pc' := 16) rfl rfl ?_
 refine g_caload X qb 5 d29_16 (pc' := 17) rfl (by decide) (by decide) (lkT (by rw [hl]; decide)) ?_
 refine g_icN X d29_17 (teq (show (List.getD R 5 0) = (List.getD R 5 0) from rfl)).2 (pc' := 20) rfl ?_
 refine g_iconst X (1 : Int32) d29_20 (pc' := 21) rfl rfl ?_
 refine g_goto X d29_21 (pc' := 25) (by decide) (by decide) ?_
 refine g_ireturnN X (t := .boolean) (by simp) d29_25 hret hlk (by decide) (by decide) ?_
 exact ⟨rfl, rfl, rfl⟩
 refine g_icN X d29_2 (flt qc).1 (pc' := 5) rfl ?_
 refine g_iloadN X d29_5 (pc' := 6) rfl rfl ?_
 refine g_iload X d29_6 (pc' := 8) rfl rfl ?_
 by_cases qd : (5 : Int32) < i2
 refine g_icY X d29_8 (tlt qd).1 (pc' := 20) (by decide) (by decide) ?_
 refine g_iconst X (1 : Int32) d29_20 (pc' := 21) rfl rfl ?_
 refine g_goto X d29_21 (pc' := 25) (by decide) (by decide) ?_
 refine g_ireturnN X (t := .boolean) (by simp) d29_25 hret hlk (by decide) (by decide) ?_
 exact ⟨rfl, rfl, rfl⟩
 refine g_icN X d29_8 (flt qd).1 (pc' := 11) rfl ?_
 refine g_aloadN X d29_11 (pc' := 12) rfl rfl rfl ?_
 refine g_iloadN X d29_12 (pc' := 13) rfl rfl ?_
 refine g_caload X qa 5 d29_13 (pc' := 14) rfl (by decide) (by decide) (lkT (by rw [hl]; decide)) ?_
 refine g_aloadN X d29_14 (pc' := 15) rfl rfl rfl ?_
 refine g_iloadN X d29_15 (pc' := 16) rfl rfl ?_
 refine g_caload X qb 5 d29_16 (pc' := 17) rfl (by decide) (by decide) (lkT (by rw [hl]; decide)) ?_
 refine g_icN X d29_17 (teq (show (List.getD R 5 0) = (List.getD R 5 0) from rfl)).2 (pc' := 20) rfl ?_
 refine g_iconst X (1 : Int32) d29_20 (pc' := 21) rfl rfl ?_
 refine g_goto X d29_21 (pc' := 25) (by decide) (by decide) ?_
 refine g_ireturnN X (t := .boolean) (by simp) d29_25 hret hlk (by decide) (by decide) ?_
 exact ⟨rfl, rfl, rfl⟩
theorem pd_22 : parseMethodDescriptor "(JII)C" = some ⟨[.long, .int, .int], some .char⟩ := by decide +kernel
theorem pd_23 : parseMethodDescriptor "([C)V" = some ⟨[(.array .char)], none⟩ := by decide +kernel
theorem pd_24 : parseMethodDescriptor "(Ljava/lang/String;)V" = some ⟨[(.object "java/lang/String")], none⟩ := by decide +kernel
theorem pd_25 : parseMethodDescriptor "()[C" = some ⟨[], some (.array .char)⟩ := by decide +kernel
theorem pd_26 : parseMethodDescriptor "([C[CIIII)I" = some ⟨[(.array .char), (.array .char), .int, .int, .int, .int], some .int⟩ := by decide +kernel
theorem pd_27 : parseMethodDescriptor "([C[CIII)Z" = some ⟨[(.array .char), (.array .char), .int, .int, .int], some .boolean⟩ := by decide +kernel
theorem ef_rLaw (m : MethodId) (x0 : Int64) (x1 : Int64) (x2 : Int32) (x3 : Int32) (x4 : Int32) : entryFrame m #[(.long x0), (.long x1), (.int x2), (.int x3), (.int x4)] maxLocals = mkF m 0 #[.val (.long x0), .second, .val (.long x1), .second, .val (.int x2), .val (.int x3), .val (.int x4), .unset, .unset, .unset, .unset, .unset, .unset, .unset, .unset, .unset] [] := by first | (simp [entryFrame, mkF, argsToLocals, Value.category, maxLocals]; done) | rfl
set_option maxRecDepth 65536 in
set_option maxHeartbeats 40000000 in
theorem rLaw (l : Launch) (Z : State) (aa : Array Value) (hw : ∀ d ∈ tables_1, d.before aa Z = true) (ws : List Jvm.Cond) (j0 : Int64) (j1 : Int64) (i2 : Int32) (i3 : Int32) (i4 : Int32) (nc : Addr) (G1 : Int32) (G3 : Value) (h0 : Heap) (n0 : Nat) (Z0 : n0 ≤ h0.size) (qf : Av Z h0 nc .char []) (jg : Sta Z Z.heap "java/lang/StringUTF16" "$assertionsDisabled" "Z" (.int (1 : Int32))) (jh : Sta Z Z.heap "java/lang/StringUTF16" "HI_BYTE_SHIFT" "I" (.int (0 : Int32))) (ji : Sta Z Z.heap "java/lang/StringUTF16" "LO_BYTE_SHIFT" "I" (.int (8 : Int32))) (jj : Sta Z Z.heap "java/lang/String" "COMPACT_STRINGS" "Z" (.int G1)) (jr : Sta Z Z.heap "com/example/scheherazade/scheherazade/core/TextBuilder" "NO_CHARS" "[C" (.ref nc)) (P5 : ¬ G1 = (0 : Int32)) (Od : Old Z n0 h0) (js : Sta Z Z.heap "jdk/internal/util/Preconditions" "SIOOBE_FORMATTER" "Ljava/util/function/BiFunction;" G3) (rG3 : G3.isRef = true) :
    Rm l Z x code maxLocals ret ws room_1 #[(.long j0), (.long j1), (.int i2), (.int i3), (.int i4)] h0 (fun v h L => v = some (.int 1) ∧ Fr n0 L) := by
 refine Rm.of (plainFor_of_name pn_6) ?_
 intro p e s m below meth cc T X hnm hret hlk
 refine Go.at_ (ef_rLaw m j0 j1 i2 i3 i4) ?_
 have N := Fr.nil n0
 refine g_bipush X (6 : Int32) at_0 (pc' := 2) rfl rfl ?_
 refine g_newarray X 6 (tb hw 0 rfl) at_2 (pc' := 4) rfl (by decide) (by decide) 6 (by decide) (by decide) (by decide) (by decide) (vs := [(.int (0 : Int32)), (.int (0 : Int32)), (.int (0 : Int32)), (.int (0 : Int32)), (.int (0 : Int32)), (.int (0 : Int32))]) rfl (ad := "[C") (by decide) ?_
 intro T h qc jk X Ex qh qa
 have qz : nc ≠ qc := Nat.ne_of_lt (by rw [jk]; exact qf.lt)
 have qr : n0 ≤ qc := by rw [jk]; exact Z0
 replace qf := qf.ext Ex
 replace Z0 := Nat.le_trans Z0 Ex.1
 replace Od := Od.ext Ex
 refine g_astore X at_4 (pc' := 6) (Ls' := #[.val (.long j0), .second, .val (.long j1), .second, .val (.int i2), .val (.int i3), .val (.int i4), .val (.ref qc), .unset, .unset, .unset, .unset, .unset, .unset, .unset, .unset]) rfl rfl rfl ?_
 refine g_aload X at_6 (pc' := 8) rfl rfl rfl ?_
 refine g_iconst X (0 : Int32) at_8 (pc' := 9) rfl rfl ?_
 refine g_lloadN X at_9 (pc' := 10) rfl rfl ?_
 refine g_iload X at_10 (pc' := 12) rfl rfl ?_
 refine g_iconst X (0 : Int32) at_12 (pc' := 13) rfl rfl ?_
 refine g_static X (W := 2) [(.long j0), (.int i2), (.int (0 : Int32))] [(.int (0 : Int32)), (.ref qc)] (tb hw 1 rfl) (tb hw 2 rfl) (tb hw 3 rfl) (tb hw 4 rfl) (rDraw l Z aa hw [] j0 i2 (0 : Int32) _) at_13 (pc' := 16) rfl (by decide) (by decide) (by decide) rfl rfl rfl (lenOf pd_22 rfl) (Nat.le_refl _) (by decide) (by decide) ?_
 intro v T L X q
 obtain ⟨rfl, X⟩ := pureX X q
 show Go p e below _ (T.setTop (mkF m 16 _ [(.int (fDraw j0 i2 (0 : Int32))), (.int (0 : Int32)), (.ref qc)]))
 generalize j5 : (fDraw j0 i2 (0 : Int32)) = qu
 refine g_castore X qa 0 at_16 (pc' := 17) rfl (by decide) (by decide) (Nat.le_of_ble_eq_true rfl) ?_
 intro T h X W qa
 replace qa : Av Z h qc .char [(.int (nar .char qu)), (.int (0 : Int32)), (.int (0 : Int32)), (.int (0 : Int32)), (.int (0 : Int32)), (.int (0 : Int32))] := qa
 replace qf := qf.other W qz
 replace qh := qh.wr W
 replace Z0 := Nat.le_trans Z0 (Nat.le_of_eq W.size.symm)
 replace N := Fr.snoc X.1 N qr
 replace Od := Od.wr W qr
 refine g_aload X at_17 (pc' := 19) rfl rfl rfl ?_
 refine g_iconst X (1 : Int32) at_19 (pc' := 20) rfl rfl ?_
 refine g_lloadN X at_20 (pc' := 21) rfl rfl ?_
 refine g_bipush X (16 : Int32) at_21 (pc' := 23) rfl rfl ?_
 refine g_lushr X at_23 (pc' := 24) rfl ?_
 refine g_iload X at_24 (pc' := 26) rfl rfl ?_
 refine g_iconst X (1 : Int32) at_26 (pc' := 27) rfl rfl ?_
 refine g_static X (W := 2) [(.long ((j0.toUInt64 >>> ((16 : Int32) &&& 0x3f).toInt64.toUInt64).toInt64)), (.int i2), (.int (1 : Int32))] [(.int (1 : Int32)), (.ref qc)] (tb hw 1 rfl) (tb hw 2 rfl) (tb hw 3 rfl) (tb hw 4 rfl) (rDraw l Z aa hw [] ((j0.toUInt64 >>> ((16 : Int32) &&& 0x3f).toInt64.toUInt64).toInt64) i2 (1 : Int32) _) at_27 (pc' := 30) rfl (by decide) (by decide) (by decide) rfl rfl rfl (lenOf pd_22 rfl) (Nat.le_refl _) (by decide) (by decide) ?_
 intro v T L X q
 obtain ⟨rfl, X⟩ := pureX X q
 show Go p e below _ (T.setTop (mkF m 30 _ [(.int (fDraw ((j0.toUInt64 >>> ((16 : Int32) &&& 0x3f).toInt64.toUInt64).toInt64) i2 (1 : Int32))), (.int (1 : Int32)), (.ref qc)]))
 generalize j6 : (fDraw ((j0.toUInt64 >>> ((16 : Int32) &&& 0x3f).toInt64.toUInt64).toInt64) i2 (1 : Int32)) = qw
 refine g_castore X qa 1 at_30 (pc' := 31) rfl (by decide) (by decide) (Nat.le_of_ble_eq_true rfl) ?_
 intro T h X W qa
 replace qa : Av Z h qc .char [(.int (nar .char qu)), (.int (nar .char qw)), (.int (0 : Int32)), (.int (0 : Int32)), (.int (0 : Int32)), (.int (0 : Int32))] := qa
 replace qf := qf.other W qz
 replace qh := qh.wr W
 replace Z0 := Nat.le_trans Z0 (Nat.le_of_eq W.size.symm)
 replace N := Fr.snoc X.1 N qr
 replace Od := Od.wr W qr
 refine g_aload X at_31 (pc' := 33) rfl rfl rfl ?_
 refine g_iconst X (2 : Int32) at_33 (pc' := 34) rfl rfl ?_
 refine g_lloadN X at_34 (pc' := 35) rfl rfl ?_
 refine g_bipush X (32 : Int32) at_35 (pc' := 37) rfl rfl ?_
 refine g_lushr X at_37 (pc' := 38) rfl ?_
 refine g_iload X at_38 (pc' := 40) rfl rfl ?_
 refine g_iconst X (2 : Int32) at_40 (pc' := 41) rfl rfl ?_
 refine g_static X (W := 2) [(.long ((j0.toUInt64 >>> ((32 : Int32) &&& 0x3f).toInt64.toUInt64).toInt64)), (.int i2), (.int (2 : Int32))] [(.int (2 : Int32)), (.ref qc)] (tb hw 1 rfl) (tb hw 2 rfl) (tb hw 3 rfl) (tb hw 4 rfl) (rDraw l Z aa hw [] ((j0.toUInt64 >>> ((32 : Int32) &&& 0x3f).toInt64.toUInt64).toInt64) i2 (2 : Int32) _) at_41 (pc' := 44) rfl (by decide) (by decide) (by decide) rfl rfl rfl (lenOf pd_22 rfl) (Nat.le_refl _) (by decide) (by decide) ?_
 intro v T L X q
 obtain ⟨rfl, X⟩ := pureX X q
 show Go p e below _ (T.setTop (mkF m 44 _ [(.int (fDraw ((j0.toUInt64 >>> ((32 : Int32) &&& 0x3f).toInt64.toUInt64).toInt64) i2 (2 : Int32))), (.int (2 : Int32)), (.ref qc)]))
 generalize j7 : (fDraw ((j0.toUInt64 >>> ((32 : Int32) &&& 0x3f).toInt64.toUInt64).toInt64) i2 (2 : Int32)) = q0
 refine g_castore X qa 2 at_44 (pc' := 45) rfl (by decide) (by decide) (Nat.le_of_ble_eq_true rfl) ?_
 intro T h X W qa
 replace qa : Av Z h qc .char [(.int (nar .char qu)), (.int (nar .char qw)), (.int (nar .char q0)), (.int (0 : Int32)), (.int (0 : Int32)), (.int (0 : Int32))] := qa
 replace qf := qf.other W qz
 replace qh := qh.wr W
 replace Z0 := Nat.le_trans Z0 (Nat.le_of_eq W.size.symm)
 replace N := Fr.snoc X.1 N qr
 replace Od := Od.wr W qr
 refine g_aload X at_45 (pc' := 47) rfl rfl rfl ?_
 refine g_iconst X (3 : Int32) at_47 (pc' := 48) rfl rfl ?_
 refine g_lloadN X at_48 (pc' := 49) rfl rfl ?_
 refine g_bipush X (48 : Int32) at_49 (pc' := 51) rfl rfl ?_
 refine g_lushr X at_51 (pc' := 52) rfl ?_
 refine g_iload X at_52 (pc' := 54) rfl rfl ?_
 refine g_iconst X (3 : Int32) at_54 (pc' := 55) rfl rfl ?_
 refine g_static X (W := 2) [(.long ((j0.toUInt64 >>> ((48 : Int32) &&& 0x3f).toInt64.toUInt64).toInt64)), (.int i2), (.int (3 : Int32))] [(.int (3 : Int32)), (.ref qc)] (tb hw 1 rfl) (tb hw 2 rfl) (tb hw 3 rfl) (tb hw 4 rfl) (rDraw l Z aa hw [] ((j0.toUInt64 >>> ((48 : Int32) &&& 0x3f).toInt64.toUInt64).toInt64) i2 (3 : Int32) _) at_55 (pc' := 58) rfl (by decide) (by decide) (by decide) rfl rfl rfl (lenOf pd_22 rfl) (Nat.le_refl _) (by decide) (by decide) ?_
 intro v T L X q
 obtain ⟨rfl, X⟩ := pureX X q
 show Go p e below _ (T.setTop (mkF m 58 _ [(.int (fDraw ((j0.toUInt64 >>> ((48 : Int32) &&& 0x3f).toInt64.toUInt64).toInt64) i2 (3 : Int32))), (.int (3 : Int32)), (.ref qc)]))
 generalize j8 : (fDraw ((j0.toUInt64 >>> ((48 : Int32) &&& 0x3f).toInt64.toUInt64).toInt64) i2 (3 : Int32)) = q2
 refine g_castore X qa 3 at_58 (pc' := 59) rfl (by decide) (by decide) (Nat.le_of_ble_eq_true rfl) ?_
 intro T h X W qa
 replace qa : Av Z h qc .char [(.int (nar .char qu)), (.int (nar .char qw)), (.int (nar .char q0)), (.int (nar .char q2)), (.int (0 : Int32)), (.int (0 : Int32))] := qa
 replace qf := qf.other W qz
 replace qh := qh.wr W
 replace Z0 := Nat.le_trans Z0 (Nat.le_of_eq W.size.symm)
 replace N := Fr.snoc X.1 N qr
 replace Od := Od.wr W qr
 refine g_aload X at_59 (pc' := 61) rfl rfl rfl ?_
 refine g_iconst X (4 : Int32) at_61 (pc' := 62) rfl rfl ?_
 refine g_lloadN X at_62 (pc' := 63) rfl rfl ?_
 refine g_iload X at_63 (pc' := 65) rfl rfl ?_
 refine g_iconst X (4 : Int32) at_65 (pc' := 66) rfl rfl ?_
 refine g_static X (W := 2) [(.long j1), (.int i2), (.int (4 : Int32))] [(.int (4 : Int32)), (.ref qc)] (tb hw 1 rfl) (tb hw 2 rfl) (tb hw 3 rfl) (tb hw 4 rfl) (rDraw l Z aa hw [] j1 i2 (4 : Int32) _) at_66 (pc' := 69) rfl (by decide) (by decide) (by decide) rfl rfl rfl (lenOf pd_22 rfl) (Nat.le_refl _) (by decide) (by decide) ?_
 intro v T L X q
 obtain ⟨rfl, X⟩ := pureX X q
 show Go p e below _ (T.setTop (mkF m 69 _ [(.int (fDraw j1 i2 (4 : Int32))), (.int (4 : Int32)), (.ref qc)]))
 generalize j9 : (fDraw j1 i2 (4 : Int32)) = q4
 refine g_castore X qa 4 at_69 (pc' := 70) rfl (by decide) (by decide) (Nat.le_of_ble_eq_true rfl) ?_
 intro T h X W qa
 replace qa : Av Z h qc .char [(.int (nar .char qu)), (.int (nar .char qw)), (.int (nar .char q0)), (.int (nar .char q2)), (.int (nar .char q4)), (.int (0 : Int32))] := qa
 replace qf := qf.other W qz
 replace qh := qh.wr W
 replace Z0 := Nat.le_trans Z0 (Nat.le_of_eq W.size.symm)
 replace N := Fr.snoc X.1 N qr
 replace Od := Od.wr W qr
 refine g_aload X at_70 (pc' := 72) rfl rfl rfl ?_
 refine g_iconst X (5 : Int32) at_72 (pc' := 73) rfl rfl ?_
 refine g_lloadN X at_73 (pc' := 74) rfl rfl ?_
 refine g_bipush X (16 : Int32) at_74 (pc' := 76) rfl rfl ?_
 refine g_lushr X at_76 (pc' := 77) rfl ?_
 refine g_iload X at_77 (pc' := 79) rfl rfl ?_
 refine g_iconst X (5 : Int32) at_79 (pc' := 80) rfl rfl ?_
 refine g_static X (W := 2) [(.long ((j1.toUInt64 >>> ((16 : Int32) &&& 0x3f).toInt64.toUInt64).toInt64)), (.int i2), (.int (5 : Int32))] [(.int (5 : Int32)), (.ref qc)] (tb hw 1 rfl) (tb hw 2 rfl) (tb hw 3 rfl) (tb hw 4 rfl) (rDraw l Z aa hw [] ((j1.toUInt64 >>> ((16 : Int32) &&& 0x3f).toInt64.toUInt64).toInt64) i2 (5 : Int32) _) at_80 (pc' := 83) rfl (by decide) (by decide) (by decide) rfl rfl rfl (lenOf pd_22 rfl) (Nat.le_refl _) (by decide) (by decide) ?_
 intro v T L X q
 obtain ⟨rfl, X⟩ := pureX X q
 show Go p e below _ (T.setTop (mkF m 83 _ [(.int (fDraw ((j1.toUInt64 >>> ((16 : Int32) &&& 0x3f).toInt64.toUInt64).toInt64) i2 (5 : Int32))), (.int (5 : Int32)), (.ref qc)]))
 generalize wa : (fDraw ((j1.toUInt64 >>> ((16 : Int32) &&& 0x3f).toInt64.toUInt64).toInt64) i2 (5 : Int32)) = q8
 refine g_castore X qa 5 at_83 (pc' := 84) rfl (by decide) (by decide) (Nat.le_of_ble_eq_true rfl) ?_
 intro T h X W qa
 replace qa : Av Z h qc .char [(.int (nar .char qu)), (.int (nar .char qw)), (.int (nar .char q0)), (.int (nar .char q2)), (.int (nar .char q4)), (.int (nar .char q8))] := qa
 replace qf := qf.other W qz
 replace qh := qh.wr W
 replace Z0 := Nat.le_trans Z0 (Nat.le_of_eq W.size.symm)
 replace N := Fr.snoc X.1 N qr
 replace Od := Od.wr W qr
 have hR0 := narR qu
 have hR1 := narR qw
 have hR2 := narR q0
 have hR3 := narR q2
 have hR4 := narR q4
 have hR5 := narR q8
 generalize nar .char qu = c0 at qa hR0
 generalize nar .char qw = c1 at qa hR1
 generalize nar .char q0 = c2 at qa hR2
 generalize nar .char q2 = c3 at qa hR3
 generalize nar .char q4 = c4 at qa hR4
 generalize nar .char q8 = c5 at qa hR5
 have hR : R6 c0 c1 c2 c3 c4 c5 := ⟨hR0, hR1, hR2, hR3, hR4, hR5⟩
 refine g_iload X at_84 (pc' := 86) rfl rfl ?_
 refine g_ldc X (tb hw 5 rfl) at_86 (pc' := 88) rfl ?_
 refine g_iand X at_88 (pc' := 89) rfl ?_
 refine g_bipush X (7 : Int32) at_89 (pc' := 91) rfl rfl ?_
 refine g_irem X at_91 (pc' := 92) rfl (by decide) ?_
 generalize jt : ((i3 &&& (2147483647 : Int32)) % (7 : Int32)) = qg
 refine g_istore X at_92 (pc' := 94) (Ls' := #[.val (.long j0), .second, .val (.long j1), .second, .val (.int i2), .val (.int i3), .val (.int i4), .val (.ref qc), .val (.int qg), .unset, .unset, .unset, .unset, .unset, .unset, .unset]) rfl rfl ?_
 have hs7 := m7 jt
 refine g_iload X at_94 (pc' := 96) rfl rfl ?_
 refine g_iload X at_96 (pc' := 98) rfl rfl ?_
 refine g_bipush X (8 : Int32) at_98 (pc' := 100) rfl rfl ?_
 refine g_iushr X at_100 (pc' := 101) rfl ?_
 refine g_bipush X (7 : Int32) at_101 (pc' := 103) rfl rfl ?_
 refine g_iload X at_103 (pc' := 105) rfl rfl ?_
 refine g_isub X at_105 (pc' := 106) rfl ?_
 refine g_irem X at_106 (pc' := 107) rfl (end_ne hs7.1 hs7.2) ?_
 refine g_iadd X at_107 (pc' := 108) rfl ?_
 generalize ju : (qg + (((i3.toUInt32 >>> ((8 : Int32) &&& 31).toUInt32).toInt32) % ((7 : Int32) - qg))) = qe
 refine g_istore X at_108 (pc' := 110) (Ls' := #[.val (.long j0), .second, .val (.long j1), .second, .val (.int i2), .val (.int i3), .val (.int i4), .val (.ref qc), .val (.int qg), .val (.int qe), .unset, .unset, .unset, .unset, .unset, .unset]) rfl rfl ?_
 have he7 := mEnd hs7.1 hs7.2 ju
 obtain ⟨sa, hsa⟩ : ∃ n : Nat, qg.toInt = n := ⟨qg.toInt.toNat, by omega⟩
 obtain ⟨ea, hea⟩ : ∃ n : Nat, qe.toInt = n := ⟨qe.toInt.toNat, by omega⟩
 have r : Rng [c0, c1, c2, c3, c4, c5] sa ea qg qe := ⟨rfl, hsa, hea, by omega, by omega, R6all hR⟩
 have hcp := m15 (k := i4) rfl
 refine g_bipush X (6 : Int32) at_110 (pc' := 112) rfl rfl ?_
 refine g_newarray X 6 (tb hw 0 rfl) at_112 (pc' := 114) rfl (by decide) (by decide) 6 (by decide) (by decide) (by decide) (by decide) (vs := [(.int (0 : Int32)), (.int (0 : Int32)), (.int (0 : Int32)), (.int (0 : Int32)), (.int (0 : Int32)), (.int (0 : Int32))]) rfl (ad := "[C") (by decide) ?_
 intro T h qd q9 X Ex qm qb
 have q1 : nc ≠ qd := Nat.ne_of_lt (by rw [q9]; exact qf.lt)
 have qp : qc ≠ qd := Nat.ne_of_lt (by rw [q9]; exact qh.lt)
 have ql : n0 ≤ qd := by rw [q9]; exact Z0
 replace qf := qf.ext Ex
 replace qh := qh.ext Ex
 replace qa := qa.ext Ex
 replace Z0 := Nat.le_trans Z0 Ex.1
 replace Od := Od.ext Ex
 refine g_astore X at_114 (pc' := 116) (Ls' := #[.val (.long j0), .second, .val (.long j1), .second, .val (.int i2), .val (.int i3), .val (.int i4), .val (.ref qc), .val (.int qg), .val (.int qe), .val (.ref qd), .unset, .unset, .unset, .unset, .unset]) rfl rfl rfl ?_
 refine g_aload X at_116 (pc' := 118) rfl rfl rfl ?_
 refine g_iconst X (0 : Int32) at_118 (pc' := 119) rfl rfl ?_
 refine g_aload X at_119 (pc' := 121) rfl rfl rfl ?_
 refine g_iconst X (0 : Int32) at_121 (pc' := 122) rfl rfl ?_
 refine g_caload X qa 0 at_122 (pc' := 123) rfl (by decide) (by decide) rfl ?_
 refine g_castore X qb 0 at_123 (pc' := 124) rfl (by decide) (by decide) (Nat.le_of_ble_eq_true rfl) ?_
 intro T h X W qb
 replace qb : Av Z h qd .char [(.int (nar .char c0)), (.int (0 : Int32)), (.int (0 : Int32)), (.int (0 : Int32)), (.int (0 : Int32)), (.int (0 : Int32))] := qb
 replace qf := qf.other W q1
 replace qh := qh.wr W
 replace qa := qa.other W qp
 replace qm := qm.wr W
 replace Z0 := Nat.le_trans Z0 (Nat.le_of_eq W.size.symm)
 replace N := Fr.snoc X.1 N ql
 replace Od := Od.wr W ql
 refine g_aload X at_124 (pc' := 126) rfl rfl rfl ?_
 refine g_iconst X (1 : Int32) at_126 (pc' := 127) rfl rfl ?_
 refine g_aload X at_127 (pc' := 129) rfl rfl rfl ?_
 refine g_iconst X (1 : Int32) at_129 (pc' := 130) rfl rfl ?_
 refine g_caload X qa 1 at_130 (pc' := 131) rfl (by decide) (by decide) rfl ?_
 refine g_castore X qb 1 at_131 (pc' := 132) rfl (by decide) (by decide) (Nat.le_of_ble_eq_true rfl) ?_
 intro T h X W qb
 replace qb : Av Z h qd .char [(.int (nar .char c0)), (.int (nar .char c1)), (.int (0 : Int32)), (.int (0 : Int32)), (.int (0 : Int32)), (.int (0 : Int32))] := qb
 replace qf := qf.other W q1
 replace qh := qh.wr W
 replace qa := qa.other W qp
 replace qm := qm.wr W
 replace Z0 := Nat.le_trans Z0 (Nat.le_of_eq W.size.symm)
 replace N := Fr.snoc X.1 N ql
 replace Od := Od.wr W ql
 refine g_aload X at_132 (pc' := 134) rfl rfl rfl ?_
 refine g_iconst X (2 : Int32) at_134 (pc' := 135) rfl rfl ?_
 refine g_aload X at_135 (pc' := 137) rfl rfl rfl ?_
 refine g_iconst X (2 : Int32) at_137 (pc' := 138) rfl rfl ?_
 refine g_caload X qa 2 at_138 (pc' := 139) rfl (by decide) (by decide) rfl ?_
 refine g_castore X qb 2 at_139 (pc' := 140) rfl (by decide) (by decide) (Nat.le_of_ble_eq_true rfl) ?_
 intro T h X W qb
 replace qb : Av Z h qd .char [(.int (nar .char c0)), (.int (nar .char c1)), (.int (nar .char c2)), (.int (0 : Int32)), (.int (0 : Int32)), (.int (0 : Int32))] := qb
 replace qf := qf.other W q1
 replace qh := qh.wr W
 replace qa := qa.other W qp
 replace qm := qm.wr W
 replace Z0 := Nat.le_trans Z0 (Nat.le_of_eq W.size.symm)
 replace N := Fr.snoc X.1 N ql
 replace Od := Od.wr W ql
 refine g_aload X at_140 (pc' := 142) rfl rfl rfl ?_
 refine g_iconst X (3 : Int32) at_142 (pc' := 143) rfl rfl ?_
 refine g_aload X at_143 (pc' := 145) rfl rfl rfl ?_
 refine g_iconst X (3 : Int32) at_145 (pc' := 146) rfl rfl ?_
 refine g_caload X qa 3 at_146 (pc' := 147) rfl (by decide) (by decide) rfl ?_
 refine g_castore X qb 3 at_147 (pc' := 148) rfl (by decide) (by decide) (Nat.le_of_ble_eq_true rfl) ?_
 intro T h X W qb
 replace qb : Av Z h qd .char [(.int (nar .char c0)), (.int (nar .char c1)), (.int (nar .char c2)), (.int (nar .char c3)), (.int (0 : Int32)), (.int (0 : Int32))] := qb
 replace qf := qf.other W q1
 replace qh := qh.wr W
 replace qa := qa.other W qp
 replace qm := qm.wr W
 replace Z0 := Nat.le_trans Z0 (Nat.le_of_eq W.size.symm)
 replace N := Fr.snoc X.1 N ql
 replace Od := Od.wr W ql
 refine g_aload X at_148 (pc' := 150) rfl rfl rfl ?_
 refine g_iconst X (4 : Int32) at_150 (pc' := 151) rfl rfl ?_
 refine g_aload X at_151 (pc' := 153) rfl rfl rfl ?_
 refine g_iconst X (4 : Int32) at_153 (pc' := 154) rfl rfl ?_
 refine g_caload X qa 4 at_154 (pc' := 155) rfl (by decide) (by decide) rfl ?_
 refine g_castore X qb 4 at_155 (pc' := 156) rfl (by decide) (by decide) (Nat.le_of_ble_eq_true rfl) ?_
 intro T h X W qb
 replace qb : Av Z h qd .char [(.int (nar .char c0)), (.int (nar .char c1)), (.int (nar .char c2)), (.int (nar .char c3)), (.int (nar .char c4)), (.int (0 : Int32))] := qb
 replace qf := qf.other W q1
 replace qh := qh.wr W
 replace qa := qa.other W qp
 replace qm := qm.wr W
 replace Z0 := Nat.le_trans Z0 (Nat.le_of_eq W.size.symm)
 replace N := Fr.snoc X.1 N ql
 replace Od := Od.wr W ql
 refine g_aload X at_156 (pc' := 158) rfl rfl rfl ?_
 refine g_iconst X (5 : Int32) at_158 (pc' := 159) rfl rfl ?_
 refine g_aload X at_159 (pc' := 161) rfl rfl rfl ?_
 refine g_iconst X (5 : Int32) at_161 (pc' := 162) rfl rfl ?_
 refine g_caload X qa 5 at_162 (pc' := 163) rfl (by decide) (by decide) rfl ?_
 refine g_castore X qb 5 at_163 (pc' := 164) rfl (by decide) (by decide) (Nat.le_of_ble_eq_true rfl) ?_
 intro T h X W qb
 replace qb : Av Z h qd .char [(.int (nar .char c0)), (.int (nar .char c1)), (.int (nar .char c2)), (.int (nar .char c3)), (.int (nar .char c4)), (.int (nar .char c5))] := qb
 replace qf := qf.other W q1
 replace qh := qh.wr W
 replace qa := qa.other W qp
 replace qm := qm.wr W
 replace Z0 := Nat.le_trans Z0 (Nat.le_of_eq W.size.symm)
 replace N := Fr.snoc X.1 N ql
 replace Od := Od.wr W ql
 refine g_new X (tb hw 6 rfl) (tb hw 7 rfl) (tb hw 8 rfl) at_164 (pc' := 167) rfl (by decide) (by decide) ?_
 intro T h qi q5 X Ex qj ja
 have jl : nc ≠ qi := Nat.ne_of_lt (by rw [q5]; exact qf.lt)
 have jm : qc ≠ qi := Nat.ne_of_lt (by rw [q5]; exact qh.lt)
 have qv : qd ≠ qi := Nat.ne_of_lt (by rw [q5]; exact qm.lt)
 have q6 : n0 ≤ qi := by rw [q5]; exact Z0
 replace qf := qf.ext Ex
 replace qh := qh.ext Ex
 replace qa := qa.ext Ex
 replace qm := qm.ext Ex
 replace qb := qb.ext Ex
 replace Z0 := Nat.le_trans Z0 Ex.1
 replace Od := Od.ext Ex
 have qs : Fld Z h qi "com/example/scheherazade/scheherazade/core/TextBuilder" "chars" "[C" .null := ja (Or.inl (tb hw 18 rfl)) (ty := (.array .char)) (by decide)
 have qx : Fld Z h qi "com/example/scheherazade/scheherazade/core/TextBuilder" "capacity" "I" (.int (0 : Int32)) := ja (Or.inr (tb hw 20 rfl)) (ty := .int) (by decide)
 have qn : Fld Z h qi "com/example/scheherazade/scheherazade/core/TextBuilder" "length" "I" (.int (0 : Int32)) := ja (Or.inl (tb hw 64 rfl)) (ty := .int) (by decide)
 refine g_dup X at_167 (pc' := 168) rfl rfl ?_
 refine g_iload X at_168 (pc' := 170) rfl rfl ?_
 refine g_bipush X (15 : Int32) at_170 (pc' := 172) rfl rfl ?_
 refine g_iand X at_172 (pc' := 173) rfl ?_
 refine g_special X (W := 1) (a := qi) [(.int (i4 &&& (15 : Int32)))] [(.ref qi)] rfl (tb hw 9 rfl) (tb hw 10 rfl) (tb hw 8 rfl) (tb hw 11 rfl) (rTbi l Z aa hw [] qi (i4 &&& (15 : Int32)) nc _ n0 Z0 qj qs qx qn q6 jr Od) at_173 (pc' := 176) rfl (by decide) (by decide) (by decide) rfl rfl rfl (lenOf pd_20 rfl) (Nat.le_refl _) (by decide) (by decide) ?_
 intro v T L X q
 obtain ⟨rfl, Nq, Kq, jb, jc, jv, jd⟩ := q
 replace N := N.app Nq
 replace qf := qf.keep Kq (ninS jl nin0)
 replace qh := qh.keep Kq
 replace qa := qa.keep Kq (ninS jm nin0)
 replace qm := qm.keep Kq
 replace qb := qb.keep Kq (ninS qv nin0)
 replace Od := Od.keep Kq (allS q6 all0)
 replace Z0 := Nat.le_trans Z0 Kq.1
 replace qj := jb
 replace qs := jc
 replace qx := jv
 replace qn := jd
 show Go p e below _ (T.setTop (mkF m 176 _ [(.ref qi)]))
 refine g_astore X at_176 (pc' := 178) (Ls' := #[.val (.long j0), .second, .val (.long j1), .second, .val (.int i2), .val (.int i3), .val (.int i4), .val (.ref qc), .val (.int qg), .val (.int qe), .val (.ref qd), .val (.ref qi), .unset, .unset, .unset, .unset]) rfl rfl rfl ?_
 refine g_aload X at_178 (pc' := 180) rfl rfl rfl ?_
 refine g_new X (tb hw 21 rfl) (tb hw 22 rfl) (tb hw 23 rfl) at_180 (pc' := 183) rfl (by decide) (by decide) ?_
 intro T h qq q3 X Ex jw jn
 have jx : nc ≠ qq := Nat.ne_of_lt (by rw [q3]; exact qf.lt)
 have jo : qc ≠ qq := Nat.ne_of_lt (by rw [q3]; exact qh.lt)
 have jy : qd ≠ qq := Nat.ne_of_lt (by rw [q3]; exact qm.lt)
 have q7 : qi ≠ qq := Nat.ne_of_lt (by rw [q3]; exact qj.lt)
 have jp : n0 ≤ qq := by rw [q3]; exact Z0
 replace qf := qf.ext Ex
 replace qh := qh.ext Ex
 replace qa := qa.ext Ex
 replace qm := qm.ext Ex
 replace qb := qb.ext Ex
 replace qj := qj.ext Ex
 replace qs := qs.ext Ex
 replace qx := qx.ext Ex
 replace qn := qn.ext Ex
 replace Z0 := Nat.le_trans Z0 Ex.1
 replace Od := Od.ext Ex
 have jz : Fld Z h qq "java/lang/String" "coder" "B" (.int (0 : Int32)) := jn (Or.inr (tb hw 45 rfl)) (ty := .byte) (by decide)
 have j2 : Fld Z h qq "java/lang/String" "value" "[B" .null := jn (Or.inr (tb hw 47 rfl)) (ty := (.array .byte)) (by decide)
 refine g_dup X at_183 (pc' := 184) rfl rfl ?_
 refine g_aload X at_184 (pc' := 186) rfl rfl rfl ?_
 refine g_special X (W := 2) (a := qq) [(.ref qc)] [(.ref qq), (.ref qi)] rfl (tb hw 24 rfl) (tb hw 25 rfl) (tb hw 23 rfl) (tb hw 26 rfl) (rSi1 l Z aa hw [] qq qc c0 c1 c2 c3 c4 c5 G1 _ n0 Z0 jw j2 jz qa jp jo hR jg jh ji jj P5 Od) at_186 (pc' := 189) rfl (by decide) (by decide) (by decide) rfl rfl rfl (lenOf pd_23 rfl) (Nat.le_refl _) (by decide) (by decide) ?_
 intro v T L X q
 obtain ⟨rfl, Nq, Kq, S6_b180_12⟩ := q
 replace N := N.app Nq
 replace qf := qf.keep Kq (ninS jx nin0)
 replace qh := qh.keep Kq
 replace qa := qa.keep Kq (ninS jo nin0)
 replace qm := qm.keep Kq
 replace qb := qb.keep Kq (ninS jy nin0)
 replace qj := qj.keep Kq
 replace qs := qs.keep Kq (ninS q7 nin0)
 replace qx := qx.keep Kq (ninS q7 nin0)
 replace qn := qn.keep Kq (ninS q7 nin0)
 replace Od := Od.keep Kq (allS jp all0)
 replace Z0 := Nat.le_trans Z0 Kq.1
 show Go p e below _ (T.setTop (mkF m 189 _ [(.ref qq), (.ref qi)]))
 refine g_virtual X (W := 0) (a := qi) (C := "com/example/scheherazade/scheherazade/core/TextBuilder") [(.ref qq)] [] qj (tb hw 48 rfl) (tb hw 49 rfl) (tb hw 51 rfl) (tb hw 50 rfl) (tb hw 8 rfl) (tb hw 52 rfl) (rApp l Z aa hw [] qi qq nc (i4 &&& (15 : Int32)) c0 c1 c2 c3 c4 c5 G1 G3 _ n0 Z0 qj qs qn qx qf q6 jl hcp hR jg jh ji jj P5 Od js rG3 (Ne.symm q7) S6_b180_12) at_189 (pc' := 192) rfl (by decide) (by decide) (by decide) rfl rfl rfl (lenOf pd_24 rfl) (Nat.le_refl _) (by decide) (by decide) ?_
 intro v T L X q
 obtain ⟨qk, tl, rfl, Nq, Kq, je, jq, jb, jc, jd, wb, qo, hN⟩ := q
 have j3 : qc ≠ qk := Nat.ne_of_lt (Nat.lt_of_lt_of_le qh.lt je)
 have qy : qd ≠ qk := Nat.ne_of_lt (Nat.lt_of_lt_of_le qm.lt je)
 have jf : qi ≠ qk := Nat.ne_of_lt (Nat.lt_of_lt_of_le qj.lt je)
 replace N := N.app Nq
 replace qa := qa.keep Kq (ninS jm nin0)
 replace qb := qb.keep Kq (ninS qv nin0)
 replace Od := Od.keep Kq (allS q6 all0)
 replace Z0 := Nat.le_trans Z0 Kq.1
 replace qj := jb
 replace qs := jc
 replace qn := jd
 show Go p e below _ (T.setTop (mkF m 192 _ []))
 refine g_aload X at_192 (pc' := 194) rfl rfl rfl ?_
 refine g_iload X at_194 (pc' := 196) rfl rfl ?_
 refine g_iload X at_196 (pc' := 198) rfl rfl ?_
 refine g_virtual X (W := 0) (a := qi) (C := "com/example/scheherazade/scheherazade/core/TextBuilder") [(.int qg), (.int qe)] [] qj (tb hw 122 rfl) (tb hw 123 rfl) (tb hw 125 rfl) (tb hw 124 rfl) (tb hw 8 rfl) (tb hw 126 rfl) (rCol l Z aa hw [] qi qg qe qk [c0, c1, c2, c3, c4, c5] sa ea tl _ n0 Z0 qs qo jq jf r) at_198 (pc' := 201) rfl (by decide) (by decide) (by decide) rfl rfl rfl (lenOf pd_19 rfl) (Nat.le_refl _) (by decide) (by decide) ?_
 intro v T L X q
 obtain ⟨kg, rfl, Nq, Kq, hkg, j4⟩ := q
 replace N := N.app Nq
 replace qa := qa.keep Kq (ninS j3 nin0)
 replace qb := qb.keep Kq (ninS qy nin0)
 replace qj := qj.keep Kq
 replace qs := qs.keep Kq (ninS jf nin0)
 replace qn := qn.keep Kq (ninS jf nin0)
 replace Od := Od.keep Kq (allS jq all0)
 replace Z0 := Nat.le_trans Z0 Kq.1
 replace qo := j4
 show Go p e below _ (T.setTop (mkF m 201 _ [(.int kg)]))
 refine g_istore X at_201 (pc' := 203) (Ls' := #[.val (.long j0), .second, .val (.long j1), .second, .val (.int i2), .val (.int i3), .val (.int i4), .val (.ref qc), .val (.int qg), .val (.int qe), .val (.ref qd), .val (.ref qi), .val (.int kg), .unset, .unset, .unset]) rfl rfl ?_
 refine g_aload X at_203 (pc' := 205) rfl rfl rfl ?_
 refine g_virtual X (W := 0) (a := qi) (C := "com/example/scheherazade/scheherazade/core/TextBuilder") [] [] qj (tb hw 127 rfl) (tb hw 128 rfl) (tb hw 130 rfl) (tb hw 129 rfl) (tb hw 8 rfl) (tb hw 131 rfl) (rChs l Z aa hw [] qi qk _ qj qs) at_205 (pc' := 208) rfl (by decide) (by decide) (by decide) rfl rfl rfl (lenOf pd_25 rfl) (Nat.le_refl _) (by decide) (by decide) ?_
 intro v T L X q
 obtain ⟨rfl, X⟩ := pureX X q
 show Go p e below _ (T.setTop (mkF m 208 _ [(.ref qk)]))
 refine g_astore X at_208 (pc' := 210) (Ls' := #[.val (.long j0), .second, .val (.long j1), .second, .val (.int i2), .val (.int i3), .val (.int i4), .val (.ref qc), .val (.int qg), .val (.int qe), .val (.ref qd), .val (.ref qi), .val (.int kg), .val (.ref qk), .unset, .unset]) rfl rfl rfl ?_
 refine g_iload X at_210 (pc' := 212) rfl rfl ?_
 refine g_istore X at_212 (pc' := 214) (Ls' := #[.val (.long j0), .second, .val (.long j1), .second, .val (.int i2), .val (.int i3), .val (.int i4), .val (.ref qc), .val (.int qg), .val (.int qe), .val (.ref qd), .val (.ref qi), .val (.int kg), .val (.ref qk), .val (.int qg), .unset]) rfl rfl ?_
 replace qb := qb.eq (vs' := arrT (git [c0, c1, c2, c3, c4, c5] sa ea 0).1 []) (by rw [narC hR0.1 hR0.2, narC hR1.1 hR1.2, narC hR2.1 hR2.2, narC hR3.1 hR3.2, narC hR4.1 hR4.2, narC hR5.1 hR5.2]; rfl)
 have hk0 : qg.toInt = (git [c0, c1, c2, c3, c4, c5] sa ea 0).2 := hsa
 refine g_aload X at_214 (pc' := 216) rfl rfl rfl ?_
 refine g_aload X at_216 (pc' := 218) rfl rfl rfl ?_
 refine g_iconst X (0 : Int32) at_218 (pc' := 219) rfl rfl ?_
 refine g_iload X at_219 (pc' := 221) rfl rfl ?_
 refine g_iload X at_221 (pc' := 223) rfl rfl ?_
 refine g_iload X at_223 (pc' := 225) rfl rfl ?_
 refine g_static X (W := 0) [(.ref qc), (.ref qd), (.int (0 : Int32)), (.int qg), (.int qg), (.int qe)] [] (tb hw 132 rfl) (tb hw 133 rfl) (tb hw 3 rfl) (tb hw 134 rfl) (rPut0 l Z aa hw [] qc qd qg qg qe c0 c1 c2 c3 c4 c5 sa ea _ n0 Z0 qa qb ql qp r hk0 hR) at_225 (pc' := 228) rfl (by decide) (by decide) (by decide) rfl rfl rfl (lenOf pd_26 rfl) (Nat.le_refl _) (by decide) (by decide) ?_
 intro v T L X q
 obtain ⟨k1, rfl, Nq, Kq, hk1, qt⟩ := q
 replace N := N.app Nq
 replace qa := qa.keep Kq (ninS qp nin0)
 replace qj := qj.keep Kq
 replace qn := qn.keep Kq (ninS (Ne.symm qv) nin0)
 replace qo := qo.keep Kq (ninS (Ne.symm qy) nin0)
 replace Od := Od.keep Kq (allS ql all0)
 replace Z0 := Nat.le_trans Z0 Kq.1
 replace qb := qt
 show Go p e below _ (T.setTop (mkF m 228 _ [(.int k1)]))
 refine g_istore X at_228 (pc' := 230) (Ls' := #[.val (.long j0), .second, .val (.long j1), .second, .val (.int i2), .val (.int i3), .val (.int i4), .val (.ref qc), .val (.int qg), .val (.int qe), .val (.ref qd), .val (.ref qi), .val (.int kg), .val (.ref qk), .val (.int k1), .unset]) rfl rfl ?_
 refine g_aload X at_230 (pc' := 232) rfl rfl rfl ?_
 refine g_aload X at_232 (pc' := 234) rfl rfl rfl ?_
 refine g_iconst X (1 : Int32) at_234 (pc' := 235) rfl rfl ?_
 refine g_iload X at_235 (pc' := 237) rfl rfl ?_
 refine g_iload X at_237 (pc' := 239) rfl rfl ?_
 refine g_iload X at_239 (pc' := 241) rfl rfl ?_
 refine g_static X (W := 0) [(.ref qc), (.ref qd), (.int (1 : Int32)), (.int k1), (.int qg), (.int qe)] [] (tb hw 132 rfl) (tb hw 133 rfl) (tb hw 3 rfl) (tb hw 134 rfl) (rPut1 l Z aa hw [] qc qd k1 qg qe c0 c1 c2 c3 c4 c5 sa ea _ n0 Z0 qa qb ql qp r hk1 hR) at_241 (pc' := 244) rfl (by decide) (by decide) (by decide) rfl rfl rfl (lenOf pd_26 rfl) (Nat.le_refl _) (by decide) (by decide) ?_
 intro v T L X q
 obtain ⟨k2, rfl, Nq, Kq, hk2, qt⟩ := q
 replace N := N.app Nq
 replace qa := qa.keep Kq (ninS qp nin0)
 replace qj := qj.keep Kq
 replace qn := qn.keep Kq (ninS (Ne.symm qv) nin0)
 replace qo := qo.keep Kq (ninS (Ne.symm qy) nin0)
 replace Od := Od.keep Kq (allS ql all0)
 replace Z0 := Nat.le_trans Z0 Kq.1
 replace qb := qt
 show Go p e below _ (T.setTop (mkF m 244 _ [(.int k2)]))
 refine g_istore X at_244 (pc' := 246) (Ls' := #[.val (.long j0), .second, .val (.long j1), .second, .val (.int i2), .val (.int i3), .val (.int i4), .val (.ref qc), .val (.int qg), .val (.int qe), .val (.ref qd), .val (.ref qi), .val (.int kg), .val (.ref qk), .val (.int k2), .unset]) rfl rfl ?_
 refine g_aload X at_246 (pc' := 248) rfl rfl rfl ?_
 refine g_aload X at_248 (pc' := 250) rfl rfl rfl ?_
 refine g_iconst X (2 : Int32) at_250 (pc' := 251) rfl rfl ?_
 refine g_iload X at_251 (pc' := 253) rfl rfl ?_
 refine g_iload X at_253 (pc' := 255) rfl rfl ?_
 refine g_iload X at_255 (pc' := 257) rfl rfl ?_
 refine g_static X (W := 0) [(.ref qc), (.ref qd), (.int (2 : Int32)), (.int k2), (.int qg), (.int qe)] [] (tb hw 132 rfl) (tb hw 133 rfl) (tb hw 3 rfl) (tb hw 134 rfl) (rPut2 l Z aa hw [] qc qd k2 qg qe c0 c1 c2 c3 c4 c5 sa ea _ n0 Z0 qa qb ql qp r hk2 hR) at_257 (pc' := 260) rfl (by decide) (by decide) (by decide) rfl rfl rfl (lenOf pd_26 rfl) (Nat.le_refl _) (by decide) (by decide) ?_
 intro v T L X q
 obtain ⟨k3, rfl, Nq, Kq, hk3, qt⟩ := q
 replace N := N.app Nq
 replace qa := qa.keep Kq (ninS qp nin0)
 replace qj := qj.keep Kq
 replace qn := qn.keep Kq (ninS (Ne.symm qv) nin0)
 replace qo := qo.keep Kq (ninS (Ne.symm qy) nin0)
 replace Od := Od.keep Kq (allS ql all0)
 replace Z0 := Nat.le_trans Z0 Kq.1
 replace qb := qt
 show Go p e below _ (T.setTop (mkF m 260 _ [(.int k3)]))
 refine g_istore X at_260 (pc' := 262) (Ls' := #[.val (.long j0), .second, .val (.long j1), .second, .val (.int i2), .val (.int i3), .val (.int i4), .val (.ref qc), .val (.int qg), .val (.int qe), .val (.ref qd), .val (.ref qi), .val (.int kg), .val (.ref qk), .val (.int k3), .unset]) rfl rfl ?_
 refine g_aload X at_262 (pc' := 264) rfl rfl rfl ?_
 refine g_aload X at_264 (pc' := 266) rfl rfl rfl ?_
 refine g_iconst X (3 : Int32) at_266 (pc' := 267) rfl rfl ?_
 refine g_iload X at_267 (pc' := 269) rfl rfl ?_
 refine g_iload X at_269 (pc' := 271) rfl rfl ?_
 refine g_iload X at_271 (pc' := 273) rfl rfl ?_
 refine g_static X (W := 0) [(.ref qc), (.ref qd), (.int (3 : Int32)), (.int k3), (.int qg), (.int qe)] [] (tb hw 132 rfl) (tb hw 133 rfl) (tb hw 3 rfl) (tb hw 134 rfl) (rPut3 l Z aa hw [] qc qd k3 qg qe c0 c1 c2 c3 c4 c5 sa ea _ n0 Z0 qa qb ql qp r hk3 hR) at_273 (pc' := 276) rfl (by decide) (by decide) (by decide) rfl rfl rfl (lenOf pd_26 rfl) (Nat.le_refl _) (by decide) (by decide) ?_
 intro v T L X q
 obtain ⟨k4, rfl, Nq, Kq, hk4, qt⟩ := q
 replace N := N.app Nq
 replace qa := qa.keep Kq (ninS qp nin0)
 replace qj := qj.keep Kq
 replace qn := qn.keep Kq (ninS (Ne.symm qv) nin0)
 replace qo := qo.keep Kq (ninS (Ne.symm qy) nin0)
 replace Od := Od.keep Kq (allS ql all0)
 replace Z0 := Nat.le_trans Z0 Kq.1
 replace qb := qt
 show Go p e below _ (T.setTop (mkF m 276 _ [(.int k4)]))
 refine g_istore X at_276 (pc' := 278) (Ls' := #[.val (.long j0), .second, .val (.long j1), .second, .val (.int i2), .val (.int i3), .val (.int i4), .val (.ref qc), .val (.int qg), .val (.int qe), .val (.ref qd), .val (.ref qi), .val (.int kg), .val (.ref qk), .val (.int k4), .unset]) rfl rfl ?_
 refine g_aload X at_278 (pc' := 280) rfl rfl rfl ?_
 refine g_aload X at_280 (pc' := 282) rfl rfl rfl ?_
 refine g_iconst X (4 : Int32) at_282 (pc' := 283) rfl rfl ?_
 refine g_iload X at_283 (pc' := 285) rfl rfl ?_
 refine g_iload X at_285 (pc' := 287) rfl rfl ?_
 refine g_iload X at_287 (pc' := 289) rfl rfl ?_
 refine g_static X (W := 0) [(.ref qc), (.ref qd), (.int (4 : Int32)), (.int k4), (.int qg), (.int qe)] [] (tb hw 132 rfl) (tb hw 133 rfl) (tb hw 3 rfl) (tb hw 134 rfl) (rPut4 l Z aa hw [] qc qd k4 qg qe c0 c1 c2 c3 c4 c5 sa ea _ n0 Z0 qa qb ql qp r hk4 hR) at_289 (pc' := 292) rfl (by decide) (by decide) (by decide) rfl rfl rfl (lenOf pd_26 rfl) (Nat.le_refl _) (by decide) (by decide) ?_
 intro v T L X q
 obtain ⟨k5, rfl, Nq, Kq, hk5, qt⟩ := q
 replace N := N.app Nq
 replace qa := qa.keep Kq (ninS qp nin0)
 replace qj := qj.keep Kq
 replace qn := qn.keep Kq (ninS (Ne.symm qv) nin0)
 replace qo := qo.keep Kq (ninS (Ne.symm qy) nin0)
 replace Od := Od.keep Kq (allS ql all0)
 replace Z0 := Nat.le_trans Z0 Kq.1
 replace qb := qt
 show Go p e below _ (T.setTop (mkF m 292 _ [(.int k5)]))
 refine g_istore X at_292 (pc' := 294) (Ls' := #[.val (.long j0), .second, .val (.long j1), .second, .val (.int i2), .val (.int i3), .val (.int i4), .val (.ref qc), .val (.int qg), .val (.int qe), .val (.ref qd), .val (.ref qi), .val (.int kg), .val (.ref qk), .val (.int k5), .unset]) rfl rfl ?_
 refine g_aload X at_294 (pc' := 296) rfl rfl rfl ?_
 refine g_aload X at_296 (pc' := 298) rfl rfl rfl ?_
 refine g_iconst X (5 : Int32) at_298 (pc' := 299) rfl rfl ?_
 refine g_iload X at_299 (pc' := 301) rfl rfl ?_
 refine g_iload X at_301 (pc' := 303) rfl rfl ?_
 refine g_iload X at_303 (pc' := 305) rfl rfl ?_
 refine g_static X (W := 0) [(.ref qc), (.ref qd), (.int (5 : Int32)), (.int k5), (.int qg), (.int qe)] [] (tb hw 132 rfl) (tb hw 133 rfl) (tb hw 3 rfl) (tb hw 134 rfl) (rPut5 l Z aa hw [] qc qd k5 qg qe c0 c1 c2 c3 c4 c5 sa ea _ n0 Z0 qa qb ql qp r hk5 hR) at_305 (pc' := 308) rfl (by decide) (by decide) (by decide) rfl rfl rfl (lenOf pd_26 rfl) (Nat.le_refl _) (by decide) (by decide) ?_
 intro v T L X q
 obtain ⟨k6, rfl, Nq, Kq, hk6, qt⟩ := q
 replace N := N.app Nq
 replace qj := qj.keep Kq
 replace qn := qn.keep Kq (ninS (Ne.symm qv) nin0)
 replace qo := qo.keep Kq (ninS (Ne.symm qy) nin0)
 replace Od := Od.keep Kq (allS ql all0)
 replace Z0 := Nat.le_trans Z0 Kq.1
 replace qb := qt
 show Go p e below _ (T.setTop (mkF m 308 _ [(.int k6)]))
 refine g_istore X at_308 (pc' := 310) (Ls' := #[.val (.long j0), .second, .val (.long j1), .second, .val (.int i2), .val (.int i3), .val (.int i4), .val (.ref qc), .val (.int qg), .val (.int qe), .val (.ref qd), .val (.ref qi), .val (.int kg), .val (.ref qk), .val (.int k6), .unset]) rfl rfl ?_
 refine g_iload X at_310 (pc' := 312) rfl rfl ?_
 refine g_iload X at_312 (pc' := 314) rfl rfl ?_
 refine g_icN X at_314 (teq (show kg = k6 from (Int32.toInt_inj.mp (hkg.trans hk6.symm)))).2 (pc' := 317) rfl ?_
 refine g_aload X at_317 (pc' := 319) rfl rfl rfl ?_
 refine g_virtual X (W := 0) (a := qi) (C := "com/example/scheherazade/scheherazade/core/TextBuilder") [] [] qj (tb hw 135 rfl) (tb hw 136 rfl) (tb hw 138 rfl) (tb hw 137 rfl) (tb hw 8 rfl) (tb hw 139 rfl) (rTln l Z aa hw [] qi (6 : Int32) _ qj qn) at_319 (pc' := 322) rfl (by decide) (by decide) (by decide) rfl rfl rfl (lenOf pd_14 rfl) (Nat.le_refl _) (by decide) (by decide) ?_
 intro v T L X q
 obtain ⟨rfl, X⟩ := pureX X q
 show Go p e below _ (T.setTop (mkF m 322 _ [(.int (6 : Int32))]))
 refine g_bipush X (6 : Int32) at_322 (pc' := 324) rfl rfl ?_
 refine g_icN X at_324 (teq (show (6 : Int32) = (6 : Int32) from (by decide))).2 (pc' := 327) rfl ?_
 refine g_aload X at_327 (pc' := 329) rfl rfl rfl ?_
 refine g_arraylength X qo at_329 (pc' := 330) rfl (z := (fMax (6 : Int32) (i4 &&& (15 : Int32)))) (by rw [lenT, git_len, Nat.add_comm]; exact hN) ?_
 refine g_bipush X (6 : Int32) at_330 (pc' := 332) rfl rfl ?_
 refine g_icN X at_332 (flt (show ¬ ((fMax (6 : Int32) (i4 &&& (15 : Int32))) < (6 : Int32)) from (by rw [Int32.lt_iff_toInt_lt]; have q := (fMax_in hcp.1 hcp.2).1; simp only [Int32.reduceToInt]; omega))).1 (pc' := 335) rfl ?_
 refine g_iconst X (1 : Int32) at_335 (pc' := 336) rfl rfl ?_
 refine g_goto X at_336 (pc' := 340) (by decide) (by decide) ?_
 refine g_istore X at_340 (pc' := 342) (Ls' := #[.val (.long j0), .second, .val (.long j1), .second, .val (.int i2), .val (.int i3), .val (.int i4), .val (.ref qc), .val (.int qg), .val (.int qe), .val (.ref qd), .val (.ref qi), .val (.int kg), .val (.ref qk), .val (.int k6), .val (.int (1 : Int32))]) rfl rfl ?_
 refine g_iload X at_342 (pc' := 344) rfl rfl ?_
 refine g_ifN X at_344 ((if0 _ _).trans (feq (show ¬ ((1 : Int32) = (0 : Int32)) from (by decide))).1) (pc' := 347) rfl ?_
 refine g_aload X at_347 (pc' := 349) rfl rfl rfl ?_
 refine g_aload X at_349 (pc' := 351) rfl rfl rfl ?_
 refine g_iconst X (0 : Int32) at_351 (pc' := 352) rfl rfl ?_
 refine g_iload X at_352 (pc' := 354) rfl rfl ?_
 refine g_iload X at_354 (pc' := 356) rfl rfl ?_
 refine g_static X (W := 0) [(.ref qk), (.ref qd), (.int (0 : Int32)), (.int k6), (.int qe)] [] (tb hw 140 rfl) (tb hw 141 rfl) (tb hw 3 rfl) (tb hw 142 rfl) (rSam0 l Z aa hw [] qk qd k6 qe (git [c0, c1, c2, c3, c4, c5] sa ea 6).1 tl _ qo qb (git_len [c0, c1, c2, c3, c4, c5] sa ea 6)) at_356 (pc' := 359) rfl (by decide) (by decide) (by decide) rfl rfl rfl (lenOf pd_27 rfl) (Nat.le_refl _) (by decide) (by decide) ?_
 intro v T L X q
 obtain ⟨rfl, X⟩ := pureX X q
 show Go p e below _ (T.setTop (mkF m 359 _ [(.int (1 : Int32))]))
 refine g_ifN X at_359 ((if0 _ _).trans (feq (show ¬ ((1 : Int32) = (0 : Int32)) from (by decide))).1) (pc' := 362) rfl ?_
 refine g_aload X at_362 (pc' := 364) rfl rfl rfl ?_
 refine g_aload X at_364 (pc' := 366) rfl rfl rfl ?_
 refine g_iconst X (1 : Int32) at_366 (pc' := 367) rfl rfl ?_
 refine g_iload X at_367 (pc' := 369) rfl rfl ?_
 refine g_iload X at_369 (pc' := 371) rfl rfl ?_
 refine g_static X (W := 0) [(.ref qk), (.ref qd), (.int (1 : Int32)), (.int k6), (.int qe)] [] (tb hw 140 rfl) (tb hw 141 rfl) (tb hw 3 rfl) (tb hw 142 rfl) (rSam1 l Z aa hw [] qk qd k6 qe (git [c0, c1, c2, c3, c4, c5] sa ea 6).1 tl _ qo qb (git_len [c0, c1, c2, c3, c4, c5] sa ea 6)) at_371 (pc' := 374) rfl (by decide) (by decide) (by decide) rfl rfl rfl (lenOf pd_27 rfl) (Nat.le_refl _) (by decide) (by decide) ?_
 intro v T L X q
 obtain ⟨rfl, X⟩ := pureX X q
 show Go p e below _ (T.setTop (mkF m 374 _ [(.int (1 : Int32))]))
 refine g_ifN X at_374 ((if0 _ _).trans (feq (show ¬ ((1 : Int32) = (0 : Int32)) from (by decide))).1) (pc' := 377) rfl ?_
 refine g_aload X at_377 (pc' := 379) rfl rfl rfl ?_
 refine g_aload X at_379 (pc' := 381) rfl rfl rfl ?_
 refine g_iconst X (2 : Int32) at_381 (pc' := 382) rfl rfl ?_
 refine g_iload X at_382 (pc' := 384) rfl rfl ?_
 refine g_iload X at_384 (pc' := 386) rfl rfl ?_
 refine g_static X (W := 0) [(.ref qk), (.ref qd), (.int (2 : Int32)), (.int k6), (.int qe)] [] (tb hw 140 rfl) (tb hw 141 rfl) (tb hw 3 rfl) (tb hw 142 rfl) (rSam2 l Z aa hw [] qk qd k6 qe (git [c0, c1, c2, c3, c4, c5] sa ea 6).1 tl _ qo qb (git_len [c0, c1, c2, c3, c4, c5] sa ea 6)) at_386 (pc' := 389) rfl (by decide) (by decide) (by decide) rfl rfl rfl (lenOf pd_27 rfl) (Nat.le_refl _) (by decide) (by decide) ?_
 intro v T L X q
 obtain ⟨rfl, X⟩ := pureX X q
 show Go p e below _ (T.setTop (mkF m 389 _ [(.int (1 : Int32))]))
 refine g_ifN X at_389 ((if0 _ _).trans (feq (show ¬ ((1 : Int32) = (0 : Int32)) from (by decide))).1) (pc' := 392) rfl ?_
 refine g_iconst X (1 : Int32) at_392 (pc' := 393) rfl rfl ?_
 refine g_goto X at_393 (pc' := 397) (by decide) (by decide) ?_
 refine g_istore X at_397 (pc' := 399) (Ls' := #[.val (.long j0), .second, .val (.long j1), .second, .val (.int i2), .val (.int i3), .val (.int i4), .val (.ref qc), .val (.int qg), .val (.int qe), .val (.ref qd), .val (.ref qi), .val (.int kg), .val (.ref qk), .val (.int k6), .val (.int (1 : Int32))]) rfl rfl ?_
 refine g_iload X at_399 (pc' := 401) rfl rfl ?_
 refine g_ifN X at_401 ((if0 _ _).trans (feq (show ¬ ((1 : Int32) = (0 : Int32)) from (by decide))).1) (pc' := 404) rfl ?_
 refine g_aload X at_404 (pc' := 406) rfl rfl rfl ?_
 refine g_aload X at_406 (pc' := 408) rfl rfl rfl ?_
 refine g_iconst X (3 : Int32) at_408 (pc' := 409) rfl rfl ?_
 refine g_iload X at_409 (pc' := 411) rfl rfl ?_
 refine g_iload X at_411 (pc' := 413) rfl rfl ?_
 refine g_static X (W := 0) [(.ref qk), (.ref qd), (.int (3 : Int32)), (.int k6), (.int qe)] [] (tb hw 140 rfl) (tb hw 141 rfl) (tb hw 3 rfl) (tb hw 142 rfl) (rSam3 l Z aa hw [] qk qd k6 qe (git [c0, c1, c2, c3, c4, c5] sa ea 6).1 tl _ qo qb (git_len [c0, c1, c2, c3, c4, c5] sa ea 6)) at_413 (pc' := 416) rfl (by decide) (by decide) (by decide) rfl rfl rfl (lenOf pd_27 rfl) (Nat.le_refl _) (by decide) (by decide) ?_
 intro v T L X q
 obtain ⟨rfl, X⟩ := pureX X q
 show Go p e below _ (T.setTop (mkF m 416 _ [(.int (1 : Int32))]))
 refine g_ifN X at_416 ((if0 _ _).trans (feq (show ¬ ((1 : Int32) = (0 : Int32)) from (by decide))).1) (pc' := 419) rfl ?_
 refine g_aload X at_419 (pc' := 421) rfl rfl rfl ?_
 refine g_aload X at_421 (pc' := 423) rfl rfl rfl ?_
 refine g_iconst X (4 : Int32) at_423 (pc' := 424) rfl rfl ?_
 refine g_iload X at_424 (pc' := 426) rfl rfl ?_
 refine g_iload X at_426 (pc' := 428) rfl rfl ?_
 refine g_static X (W := 0) [(.ref qk), (.ref qd), (.int (4 : Int32)), (.int k6), (.int qe)] [] (tb hw 140 rfl) (tb hw 141 rfl) (tb hw 3 rfl) (tb hw 142 rfl) (rSam4 l Z aa hw [] qk qd k6 qe (git [c0, c1, c2, c3, c4, c5] sa ea 6).1 tl _ qo qb (git_len [c0, c1, c2, c3, c4, c5] sa ea 6)) at_428 (pc' := 431) rfl (by decide) (by decide) (by decide) rfl rfl rfl (lenOf pd_27 rfl) (Nat.le_refl _) (by decide) (by decide) ?_
 intro v T L X q
 obtain ⟨rfl, X⟩ := pureX X q
 show Go p e below _ (T.setTop (mkF m 431 _ [(.int (1 : Int32))]))
 refine g_ifN X at_431 ((if0 _ _).trans (feq (show ¬ ((1 : Int32) = (0 : Int32)) from (by decide))).1) (pc' := 434) rfl ?_
 refine g_aload X at_434 (pc' := 436) rfl rfl rfl ?_
 refine g_aload X at_436 (pc' := 438) rfl rfl rfl ?_
 refine g_iconst X (5 : Int32) at_438 (pc' := 439) rfl rfl ?_
 refine g_iload X at_439 (pc' := 441) rfl rfl ?_
 refine g_iload X at_441 (pc' := 443) rfl rfl ?_
 refine g_static X (W := 0) [(.ref qk), (.ref qd), (.int (5 : Int32)), (.int k6), (.int qe)] [] (tb hw 140 rfl) (tb hw 141 rfl) (tb hw 3 rfl) (tb hw 142 rfl) (rSam5 l Z aa hw [] qk qd k6 qe (git [c0, c1, c2, c3, c4, c5] sa ea 6).1 tl _ qo qb (git_len [c0, c1, c2, c3, c4, c5] sa ea 6)) at_443 (pc' := 446) rfl (by decide) (by decide) (by decide) rfl rfl rfl (lenOf pd_27 rfl) (Nat.le_refl _) (by decide) (by decide) ?_
 intro v T L X q
 obtain ⟨rfl, X⟩ := pureX X q
 show Go p e below _ (T.setTop (mkF m 446 _ [(.int (1 : Int32))]))
 refine g_ifN X at_446 ((if0 _ _).trans (feq (show ¬ ((1 : Int32) = (0 : Int32)) from (by decide))).1) (pc' := 449) rfl ?_
 refine g_iconst X (1 : Int32) at_449 (pc' := 450) rfl rfl ?_
 refine g_goto X at_450 (pc' := 454) (by decide) (by decide) ?_
 refine g_istore X at_454 (pc' := 456) (Ls' := #[.val (.long j0), .second, .val (.long j1), .second, .val (.int i2), .val (.int i3), .val (.int i4), .val (.ref qc), .val (.int qg), .val (.int qe), .val (.ref qd), .val (.ref qi), .val (.int kg), .val (.ref qk), .val (.int k6), .val (.int (1 : Int32))]) rfl rfl ?_
 refine g_iload X at_456 (pc' := 458) rfl rfl ?_
 refine g_ireturnN X (t := .boolean) (by simp) at_458 hret hlk (by decide) (by decide) ?_
 exact ⟨rfl, N⟩
set_option maxRecDepth 65536 in
set_option maxHeartbeats 40000000 in
theorem comes_1 {Post : Tables → Env → Array Value → State → Outcome → State → Prop} (hpost : ∀ tb e args s v u, (limb_1_1.after args s (.returned v) u = true ∧ limb_1_2.after args s (.returned v) u = true ∧ True) → FrameEnd s (.returned v) u (Jvm.fieldLocs frame_1_writes args s ++ Jvm.arrayLocs frame_1_arrays args s ++ Jvm.staticLocs frame_1_statics s) 24 192 → Post tb e args s (.returned v) u) :
    ArmFor flags0 classFile x code maxLocals ret World_1 tables_1 room_1 Calls_1 rest_1 Pre_1 Post := by
  intro l hfl _ _ p e ha hc hk s m args below hf hA hF happ hP
  obtain ⟨hcalls, hrest, hpre⟩ := hP
  obtain ⟨-, -, -, hnamed, -, -, -, hat⟩ := (Spec.applies_iff hf).mp happ
  obtain ⟨hg, hn⟩ := and_e (Cond.before_iff.mp (show (Jvm.Cond.and given_1 narrow_1).before args s = true from hpre))
  obtain ⟨g1, g2⟩ := and_e hg
  obtain ⟨g3, g4⟩ := and_e g2
  obtain ⟨g5, g6⟩ := and_e g4
  obtain ⟨g7, g8⟩ := and_e g6
  obtain ⟨g9, g10⟩ := and_e g8
  obtain ⟨w0, w1, w2, w3, w4, rfl⟩ : ∃ w0 w1 w2 w3 w4 : Value, args = #[w0, w1, w2, w3, w4] := by
    have hs : args.size = 5 := by simpa [Cond.value, given_1] using g1
    obtain ⟨L⟩ := args
    match L, hs with
    | [w0, w1, w2, w3, w4], _ => exact ⟨w0, w1, w2, w3, w4, rfl⟩
  have hw := fun d (hd : d ∈ tables_1) => atoms_spec (ws := Jvm.Cond.code x code maxLocals ret :: tables_1) hat d (List.mem_cons_of_mem _ hd)
  have hfit : Fit s := fun {y c} hc i hi => by
    obtain ⟨ha, rfl⟩ := Array.getElem?_eq_some_iff.mp hc
    have q := List.all_eq_true.mp ((Array.all_eq_true_iff_forall_mem.mp hF) _ (Array.getElem_mem ha)) i (List.mem_range.mpr hi)
    simpa [Array.getElem?_eq_getElem hi] using q
  obtain ⟨hsets, hown0⟩ := atoms_of _ (rest_1_c_eq ▸ (show rest_1_c.before _ s = true from hrest))
  have hr0 := Cond.before_iff.mp hown0
  obtain ⟨i0, ei0⟩ := isL_v g3
  obtain rfl : w0 = (.long i0) := Option.some.inj ei0
  obtain ⟨i1, ei1⟩ := isL_v g5
  obtain rfl : w1 = (.long i1) := Option.some.inj ei1
  obtain ⟨i2, ei2⟩ := is_v g7
  obtain rfl : w2 = (.int i2) := Option.some.inj ei2
  obtain ⟨i3, ei3⟩ := is_v g9
  obtain rfl : w3 = (.int i3) := Option.some.inj ei3
  obtain ⟨i4, ei4⟩ := is_v g10
  obtain rfl : w4 = (.int i4) := Option.some.inj ei4
  have n5 := not_v (Cond.before_iff.mp (hsets _ (List.mem_of_getElem? (i := 2) rfl)))
  obtain ⟨G1, eG1⟩ := is_v (Cond.before_iff.mp (hsets _ (List.mem_of_getElem? (i := 1) rfl)))
  have O_cs : Sta s s.heap "java/lang/String" "COMPACT_STRINGS" "Z" (.int G1) := Sta.start eG1 (Or.inl (hsets _ (List.mem_of_getElem? (i := 0) rfl)))
  have P5 : ¬ (G1 = (0 : Int32)) := gotF (Cond.eq_ints eG1 (Term.int_eval (0))) n5
  obtain ⟨G3, eG3, rG3⟩ := isR_v (Cond.before_iff.mp (hsets _ (List.mem_of_getElem? (i := 8) rfl)))
  have O_sf : Sta s s.heap "jdk/internal/util/Preconditions" "SIOOBE_FORMATTER" "Ljava/util/function/BiFunction;" G3 := Sta.start eG3 (Or.inl (hsets _ (List.mem_of_getElem? (i := 7) rfl)))
  have O_ad : Sta s s.heap "java/lang/StringUTF16" "$assertionsDisabled" "Z" (.int (1 : Int32)) := Sta.start (eqv_i (Term.int_eval _) (Cond.before_iff.mp (hsets _ (List.mem_of_getElem? (i := 12) rfl)))) (Or.inl (hsets _ (List.mem_of_getElem? (i := 11) rfl)))
  have O_hi : Sta s s.heap "java/lang/StringUTF16" "HI_BYTE_SHIFT" "I" (.int (0 : Int32)) := Sta.start (eqv_i (Term.int_eval _) (Cond.before_iff.mp (hsets _ (List.mem_of_getElem? (i := 15) rfl)))) (Or.inl (hsets _ (List.mem_of_getElem? (i := 14) rfl)))
  have O_lo : Sta s s.heap "java/lang/StringUTF16" "LO_BYTE_SHIFT" "I" (.int (8 : Int32)) := Sta.start (eqv_i (Term.int_eval _) (Cond.before_iff.mp (hsets _ (List.mem_of_getElem? (i := 18) rfl)))) (Or.inl (hsets _ (List.mem_of_getElem? (i := 17) rfl)))
  rw [narrow_1] at hn
  obtain ⟨n1, hn⟩ := and_e hn
  obtain ⟨n2, n3⟩ := and_e hn
  obtain ⟨nc, v_nc⟩ := arr_v n1
  have V_nc : Av s s.heap nc .char [] := Av.empty n1 v_nc (eqv_i (Term.int_eval _) n3)
  have O_nc : Sta s s.heap "com/example/scheherazade/scheherazade/core/TextBuilder" "NO_CHARS" "[C" (.ref nc) := Sta.start v_nc (Or.inr ⟨tb hw 8 rfl, tb hw 16 rfl⟩)
  obtain ⟨n, o, h1, h2, h3, _, L, rfl, ⟨rfl, N⟩, hq⟩ := rLaw l s _ hw tables_1 i0 i1 i2 i3 i4 nc G1 G3 s.heap s.heap.size (Nat.le_refl _) V_nc O_ad O_hi O_lo O_cs O_nc P5 (Old.start s) O_sf rG3 p e ha hc hk s m _ below hf ((Spec.applies_iff_loose hf).mp happ).1 ⟨rfl, State.Warmed39.refl s, rfl⟩ trivial
  refine ⟨n, _, h1, h2, h3, hpost _ _ _ _ _ _ ⟨Cond.after_iff.mpr rfl, Cond.after_iff.mpr (eq_i res_at (Term.int_eval (1)) rfl), trivial⟩ ⟨hq.1, hq.2.1, (hq.2.2.sift fun y hy => Or.inr (N y hy)).mono (by decide) (by decide)⟩⟩
theorem main_1_1 : Claimed_1_1 := comes_1 fun _ _ _ _ _ _ h hF => ⟨h.1, hF⟩
theorem main_1_2 : Claimed_1_2 := comes_1 fun _ _ _ _ _ _ h hF => ⟨h.2.1, hF⟩

end Jvm.Pilot.@@N@@
namespace Jvm.Pilot.@@N@@
open Jvm Jvm.ClassFile Sem Op Lib Jvm.Free Jvm.Stand Jvm.Pilot.@@N@@.Jvm.D
/-! MADE BY PROGRAM (witnessworld.py) out of the Statement's table words and the real class files: 21 classes; the members and pool entries that the words name. The judged class is class 1, her method 4. -/
namespace start1
open Jvm.ClassFile
def u (s : String) : CpInfo := .utf8 (stringToUtf16 s)
/-- a pool by its gaps: so many unusable entries, then the entry; so many at the end -/
def gap : Nat → List CpInfo → List CpInfo
  | 0, r => r
  | n + 1, r => .unusable :: gap n r
def poolList (es : List (Nat × CpInfo)) (last : Nat) : List CpInfo := es.foldr (fun e r => gap e.1 (e.2 :: r)) (gap last [])
def pool (es : List (Nat × CpInfo)) (last : Nat) : Array CpInfo := ⟨poolList es last⟩
def fileOf (pool : Array CpInfo) (this : Nat) (attrs : Array Attribute := #[]) (ms : Array MethodInfo := #[]) (fl : Nat := 33) (sup : Nat := 0) (ifs : Array Nat := #[]) (fds : Array FieldInfo := #[]) : ClassFile where
  minorVersion := 0
  majorVersion := 65
  constantPool := pool
  accessFlags := fl
  thisClass := this
  superClass := sup
  interfaces := ifs
  fields := fds
  methods := ms
  attributes := attrs
def plain (name : String) (sup : Option ClassId) : Class where
  name := name
  kind := .ordinary
  loader := none
  accessFlags := 33
  super := sup
  interfaces := #[]
  cf := none
  fields := #[]
  methods := #[]
  instanceTypes := #[]
  staticTypes := #[]
  resolved := #[]
  callSites := []
  init := .initialized
  statics := none
  mirror := none

def pool0 : Array CpInfo := pool [(5, u "<init>"), (0, u "()V"), (1, .class_ 10), (1, u "java/lang/Object")] 113

def k0c0 : Code := { maxStack := 0, maxLocals := 1, code := object_method_1_code, exceptionTable := #[], attributes := #[] }
def k0m0 : Method := { name := "<init>", desc := "()V", sig := { parameters := [], returnType := none }, accessFlags := 1, code := some k0c0 }
/-- java/lang/Object -/
def k0 : Class := { plain "java/lang/Object" none with
  accessFlags := 33
  interfaces := #[]
  cf := some (fileOf pool0 8 #[] #[{ accessFlags := 1, nameIndex := 5, descriptorIndex := 6, attributes := #[] }] 33 0 #[] #[])
  fields := #[]
  methods := #[k0m0]
  instanceTypes := #[]
  staticTypes := #[]
  resolved := Array.replicate 124 none
  statics := none }

def pool1 : Array CpInfo := pool [(2, .class_ 4), (1, u "java/lang/Object"), (0, u "<init>"), (0, u "()V"), (0, .methodref 8 9), (0, .class_ 10), (0, .nameAndType 11 12), (0, u "com/example/scheherazade/scheherazade/core/TextBuilderCollapseSpacesPinLaw"), (0, u "draw"), (0, u "(JII)C"), (0, .integer 2147483647), (0, .class_ 15), (0, u "com/example/scheherazade/scheherazade/core/TextBuilder"), (0, .methodref 14 17), (0, .nameAndType 5 18), (0, u "(I)V"), (0, .class_ 20), (0, u "java/lang/String"), (0, .methodref 19 22), (0, .nameAndType 5 23), (0, u "([C)V"), (0, .methodref 14 25), (0, .nameAndType 26 27), (0, u "append"), (0, u "(Ljava/lang/String;)V"), (0, .methodref 14 29), (0, .nameAndType 30 31), (0, u "collapseSpaces"), (0, u "(II)I"), (0, .methodref 14 33), (0, .nameAndType 34 35), (0, u "chars"), (0, u "()[C"), (0, .methodref 8 37), (0, .nameAndType 38 39), (0, u "put"), (0, u "([C[CIIII)I"), (0, .methodref 14 41), (0, .nameAndType 42 43), (0, u "length"), (0, u "()I"), (0, .methodref 8 45), (0, .nameAndType 46 47), (0, u "same"), (0, u "([C[CIII)Z"), (3, u "law"), (0, u "(JJIII)Z")] 4

def k1m0 : Method := { name := "<init>", desc := "()V", sig := { parameters := [], returnType := none }, accessFlags := 1, code := none }
def k1c1 : Code := { maxStack := 2, maxLocals := 4, code := method_2_code, exceptionTable := #[], attributes := #[] }
def k1m1 : Method := { name := "draw", desc := "(JII)C", sig := { parameters := [.long, .int, .int], returnType := some .char }, accessFlags := 10, code := some k1c1 }
def k1c2 : Code := { maxStack := 4, maxLocals := 7, code := method_3_code, exceptionTable := #[], attributes := #[] }
def k1m2 : Method := { name := "put", desc := "([C[CIIII)I", sig := { parameters := [(.array .char), (.array .char), .int, .int, .int, .int], returnType := some .int }, accessFlags := 10, code := some k1c2 }
def k1c3 : Code := { maxStack := 3, maxLocals := 5, code := method_4_code, exceptionTable := #[], attributes := #[] }
def k1m3 : Method := { name := "same", desc := "([C[CIII)Z", sig := { parameters := [(.array .char), (.array .char), .int, .int, .int], returnType := some .boolean }, accessFlags := 10, code := some k1c3 }
def k1c4 : Code := { maxStack := 6, maxLocals := 16, code := code, exceptionTable := #[], attributes := #[] }
def k1m4 : Method := { name := "law", desc := "(JJIII)Z", sig := { parameters := [.long, .long, .int, .int, .int], returnType := some .boolean }, accessFlags := 9, code := some k1c4 }
/-- com/example/scheherazade/scheherazade/core/TextBuilderCollapseSpacesPinLaw -/
def k1 : Class := { plain "com/example/scheherazade/scheherazade/core/TextBuilderCollapseSpacesPinLaw" (some 0) with
  accessFlags := 49
  interfaces := #[]
  cf := some (fileOf pool1 8 #[] #[{ accessFlags := 1, nameIndex := 5, descriptorIndex := 6, attributes := #[] }, { accessFlags := 10, nameIndex := 11, descriptorIndex := 12, attributes := #[] }, { accessFlags := 10, nameIndex := 38, descriptorIndex := 39, attributes := #[] }, { accessFlags := 10, nameIndex := 46, descriptorIndex := 47, attributes := #[] }, { accessFlags := 9, nameIndex := 51, descriptorIndex := 52, attributes := #[] }] 49 2 #[] #[])
  fields := #[]
  methods := #[k1m0, k1m1, k1m2, k1m3, k1m4]
  instanceTypes := #[]
  staticTypes := #[]
  resolved := Array.replicate 57 none
  statics := none }

def pool2 : Array CpInfo := pool [(1, .methodref 2 3), (0, .class_ 4), (0, .nameAndType 5 6), (0, u "java/lang/Object"), (0, u "<init>"), (0, u "()V"), (0, .fieldref 8 9), (0, .class_ 10), (0, .nameAndType 11 12), (0, u "com/example/scheherazade/scheherazade/core/TextBuilder"), (0, u "NO_CHARS"), (0, u "[C"), (0, .fieldref 8 14), (0, .nameAndType 15 12), (0, u "chars"), (0, .fieldref 8 17), (0, .nameAndType 18 19), (0, u "capacity"), (0, u "I"), (0, .fieldref 8 21), (0, .nameAndType 22 19), (0, u "length"), (6, .class_ 30), (0, u "java/lang/String"), (7, .methodref 8 39), (0, .nameAndType 40 41), (0, u "grow"), (0, u "(I)V"), (0, .methodref 43 44), (0, .class_ 45), (0, .nameAndType 46 47), (0, u "java/lang/System"), (0, u "arraycopy"), (0, u "(Ljava/lang/Object;ILjava/lang/Object;II)V"), (0, .methodref 29 49), (0, .nameAndType 22 50), (0, u "()I"), (0, .methodref 29 52), (0, .nameAndType 53 54), (0, u "getChars"), (0, u "(II[CI)V"), (2, u "append"), (25, u "SPACE_INDENTS"), (0, u "[Ljava/lang/String;"), (2, u "TAB_INDENTS"), (6, u "(Ljava/lang/String;)V"), (6, .methodref 102 103), (0, .class_ 104), (0, .nameAndType 105 106), (0, u "com/example/scheherazade/scheherazade/core/ArrayLengths"), (0, u "grown"), (0, u "(II)I"), (0, .methodref 108 109), (0, .class_ 110), (0, .nameAndType 111 106), (0, u "java/lang/Math"), (0, u "max"), (4, u "MAX_INDENT"), (4, u "()[C"), (11, u "collapseSpaces")] 7

def k2c0 : Code := { maxStack := 2, maxLocals := 2, code := prog_14_method_1_code, exceptionTable := #[], attributes := #[] }
def k2m0 : Method := { name := "<init>", desc := "(I)V", sig := { parameters := [.int], returnType := none }, accessFlags := 1, code := some k2c0 }
def k2c1 : Code := { maxStack := 1, maxLocals := 1, code := prog_14_method_2_code, exceptionTable := #[], attributes := #[] }
def k2m1 : Method := { name := "chars", desc := "()[C", sig := { parameters := [], returnType := some (.array .char) }, accessFlags := 1, code := some k2c1 }
def k2c2 : Code := { maxStack := 1, maxLocals := 1, code := prog_14_method_3_code, exceptionTable := #[], attributes := #[] }
def k2m2 : Method := { name := "length", desc := "()I", sig := { parameters := [], returnType := some .int }, accessFlags := 1, code := some k2c2 }
def k2c3 : Code := { maxStack := 5, maxLocals := 3, code := prog_14_method_11_code, exceptionTable := #[], attributes := #[] }
def k2m3 : Method := { name := "append", desc := "(Ljava/lang/String;)V", sig := { parameters := [(.object "java/lang/String")], returnType := none }, accessFlags := 1, code := some k2c3 }
def k2c4 : Code := { maxStack := 3, maxLocals := 7, code := prog_14_method_14_code, exceptionTable := #[], attributes := #[] }
def k2m4 : Method := { name := "collapseSpaces", desc := "(II)I", sig := { parameters := [.int, .int], returnType := some .int }, accessFlags := 1, code := some k2c4 }
def k2c5 : Code := { maxStack := 5, maxLocals := 4, code := prog_14_method_21_code, exceptionTable := #[], attributes := #[] }
def k2m5 : Method := { name := "grow", desc := "(I)V", sig := { parameters := [.int], returnType := none }, accessFlags := 2, code := some k2c5 }
/-- com/example/scheherazade/scheherazade/core/TextBuilder -/
def k2 : Class := { plain "com/example/scheherazade/scheherazade/core/TextBuilder" (some 0) with
  accessFlags := 33
  interfaces := #[]
  cf := some (fileOf pool2 8 #[] #[{ accessFlags := 1, nameIndex := 5, descriptorIndex := 41, attributes := #[] }, { accessFlags := 1, nameIndex := 15, descriptorIndex := 121, attributes := #[] }, { accessFlags := 1, nameIndex := 22, descriptorIndex := 50, attributes := #[] }, { accessFlags := 1, nameIndex := 57, descriptorIndex := 94, attributes := #[] }, { accessFlags := 1, nameIndex := 133, descriptorIndex := 106, attributes := #[] }, { accessFlags := 2, nameIndex := 40, descriptorIndex := 41, attributes := #[] }] 33 2 #[] #[{ accessFlags := 26, nameIndex := 116, descriptorIndex := 19, attributes := #[] }, { accessFlags := 26, nameIndex := 83, descriptorIndex := 84, attributes := #[] }, { accessFlags := 26, nameIndex := 87, descriptorIndex := 84, attributes := #[] }, { accessFlags := 26, nameIndex := 11, descriptorIndex := 12, attributes := #[] }, { accessFlags := 2, nameIndex := 15, descriptorIndex := 12, attributes := #[] }, { accessFlags := 2, nameIndex := 22, descriptorIndex := 19, attributes := #[] }, { accessFlags := 18, nameIndex := 18, descriptorIndex := 19, attributes := #[] }])
  fields := #[{ name := "MAX_INDENT", type := .int, accessFlags := 26, slot := 0, constantValue := 0 }, { name := "SPACE_INDENTS", type := (.array (.object "java/lang/String")), accessFlags := 26, slot := 1, constantValue := 0 }, { name := "TAB_INDENTS", type := (.array (.object "java/lang/String")), accessFlags := 26, slot := 2, constantValue := 0 }, { name := "NO_CHARS", type := (.array .char), accessFlags := 26, slot := 3, constantValue := 0 }, { name := "chars", type := (.array .char), accessFlags := 2, slot := 0, constantValue := 0 }, { name := "length", type := .int, accessFlags := 2, slot := 1, constantValue := 0 }, { name := "capacity", type := .int, accessFlags := 18, slot := 2, constantValue := 0 }]
  methods := #[k2m0, k2m1, k2m2, k2m3, k2m4, k2m5]
  instanceTypes := #[(.array .char), .int, .int]
  staticTypes := #[.int, (.array (.object "java/lang/String")), (.array (.object "java/lang/String")), (.array .char)]
  resolved := Array.replicate 141 none
  statics := some 0 }

def pool3 : Array CpInfo := pool [(1, .class_ 2), (0, u "java/io/Serializable"), (0, .class_ 4), (0, u "java/lang/Object")] 2

/-- java/io/Serializable -/
def k3 : Class := { plain "java/io/Serializable" (some 0) with
  accessFlags := 1537
  interfaces := #[]
  cf := some (fileOf pool3 1 #[] #[] 1537 3 #[] #[])
  fields := #[]
  methods := #[]
  instanceTypes := #[]
  staticTypes := #[]
  resolved := Array.replicate 7 none
  statics := none }

def pool4 : Array CpInfo := pool [(1, .class_ 2), (0, u "java/lang/Comparable"), (0, .class_ 4), (0, u "java/lang/Object")] 7

/-- java/lang/Comparable -/
def k4 : Class := { plain "java/lang/Comparable" (some 0) with
  accessFlags := 1537
  interfaces := #[]
  cf := some (fileOf pool4 1 #[] #[] 1537 3 #[] #[])
  fields := #[]
  methods := #[]
  instanceTypes := #[]
  staticTypes := #[]
  resolved := Array.replicate 12 none
  statics := none }

def pool5 : Array CpInfo := pool [(2, .class_ 4), (1, u "java/lang/CharSequence"), (42, .class_ 48), (0, u "java/lang/CharSequence$1CodePointIterator"), (10, .class_ 60), (0, u "java/lang/CharSequence$1CharIterator"), (5, .class_ 67), (0, u "java/lang/Object")] 63

/-- java/lang/CharSequence -/
def k5 : Class := { plain "java/lang/CharSequence" (some 0) with
  accessFlags := 1537
  interfaces := #[]
  cf := some (fileOf pool5 2 #[.nestMembers #[47, 59]] #[] 1537 66 #[] #[])
  fields := #[]
  methods := #[]
  instanceTypes := #[]
  staticTypes := #[]
  resolved := Array.replicate 131 none
  statics := none }

def pool6 : Array CpInfo := pool [(1, .class_ 2), (0, u "java/lang/constant/Constable"), (0, .class_ 4), (0, u "java/lang/Object")] 6

/-- java/lang/constant/Constable -/
def k6 : Class := { plain "java/lang/constant/Constable" (some 0) with
  accessFlags := 1537
  interfaces := #[]
  cf := some (fileOf pool6 1 #[] #[] 1537 3 #[] #[])
  fields := #[]
  methods := #[]
  instanceTypes := #[]
  staticTypes := #[]
  resolved := Array.replicate 11 none
  statics := none }

def pool7 : Array CpInfo := pool [(1, .class_ 2), (0, u "java/lang/constant/ConstantDesc"), (0, .class_ 4), (0, u "java/lang/Object")] 32

/-- java/lang/constant/ConstantDesc -/
def k7 : Class := { plain "java/lang/constant/ConstantDesc" (some 0) with
  accessFlags := 1537
  interfaces := #[]
  cf := some (fileOf pool7 1 #[] #[] 1537 3 #[] #[])
  fields := #[]
  methods := #[]
  instanceTypes := #[]
  staticTypes := #[]
  resolved := Array.replicate 37 none
  statics := none }

def pool8 : Array CpInfo := pool [(1, .methodref 2 3), (0, .class_ 4), (0, .nameAndType 5 6), (0, u "java/lang/Object"), (0, u "<init>"), (0, u "()V"), (2, .fieldref 10 11), (0, .class_ 12), (0, .nameAndType 13 14), (0, u "java/lang/String"), (0, u "value"), (0, u "[B"), (0, .fieldref 10 16), (0, .nameAndType 17 18), (0, u "coder"), (0, u "B"), (2, u "hash"), (0, u "I"), (2, u "hashIsZero"), (0, u "Z"), (0, .methodref 10 28), (0, .nameAndType 5 29), (0, u "([CIILjava/lang/Void;)V"), (4, .methodref 10 35), (0, .nameAndType 36 37), (0, u "checkBoundsOffCount"), (0, u "(III)I"), (0, .fieldref 10 39), (0, .nameAndType 40 26), (0, u "COMPACT_STRINGS"), (1, .class_ 44), (1, u "java/lang/StringUTF16"), (0, u "compress"), (1, .methodref 42 48), (0, .nameAndType 49 50), (0, u "coderFromArrayLen"), (0, u "([BI)B"), (56, .class_ 109), (1, u "java/lang/StringLatin1"), (32, u "()Z"), (34, .methodref 42 178), (0, .nameAndType 45 179), (0, u "([CII)[B"), (154, u "()I"), (0, .methodref 10 336), (0, .nameAndType 17 337), (0, u "()B"), (154, .methodref 10 493), (0, .nameAndType 494 142), (0, u "isLatin1"), (10, .methodref 10 506), (0, .nameAndType 507 334), (0, u "length"), (5, u "checkFromToIndex"), (7, .methodref 10 522), (0, .nameAndType 523 524), (0, u "checkBoundsBeginEnd"), (0, u "(III)V"), (0, .methodref 107 526), (0, .nameAndType 527 528), (0, u "getChars"), (0, u "([BII[CI)V"), (0, .methodref 42 526), (45, .class_ 576), (0, u "java/lang/CharSequence"), (22, u "CASE_INSENSITIVE_ORDER"), (0, u "Ljava/util/Comparator;"), (409, u "([C)V"), (42, .fieldref 1054 1055), (0, .class_ 1056), (0, .nameAndType 1057 1058), (0, u "jdk/internal/util/Preconditions"), (0, u "SIOOBE_FORMATTER"), (0, u "Ljava/util/function/BiFunction;"), (3, .methodref 1054 1063), (0, .nameAndType 513 1064), (0, u "(IIILjava/util/function/BiFunction;)I"), (0, .methodref 1054 1066), (0, .nameAndType 1067 1064), (0, u "checkFromIndexSize"), (33, u "serialPersistentFields"), (0, u "[Ljava/io/ObjectStreamField;"), (0, .class_ 1104), (0, u "java/lang/String$CaseInsensitiveComparator"), (1, .class_ 1107), (0, u "java/io/Serializable"), (0, .class_ 1109), (0, u "java/lang/Comparable"), (0, .class_ 1111), (0, u "java/lang/constant/Constable"), (0, .class_ 1113), (0, u "java/lang/constant/ConstantDesc"), (2, u "serialVersionUID"), (0, u "J"), (3, u "REPL"), (0, u "C"), (2, u "LATIN1"), (1, u "UTF16"), (112, u "(II[CI)V")] 210

def k8m0 : Method := { name := "<init>", desc := "()V", sig := { parameters := [], returnType := none }, accessFlags := 1, code := none }
def k8c1 : Code := { maxStack := 5, maxLocals := 2, code := jdk_42_method_3_code, exceptionTable := #[], attributes := #[] }
def k8m1 : Method := { name := "<init>", desc := "([C)V", sig := { parameters := [(.array .char)], returnType := none }, accessFlags := 1, code := some k8c1 }
def k8c2 : Code := { maxStack := 2, maxLocals := 1, code := jdk_42_method_54_code, exceptionTable := #[], attributes := #[] }
def k8m2 : Method := { name := "length", desc := "()I", sig := { parameters := [], returnType := some .int }, accessFlags := 1, code := some k8c2 }
def k8c3 : Code := { maxStack := 5, maxLocals := 5, code := jdk_42_method_61_code, exceptionTable := #[], attributes := #[] }
def k8m3 : Method := { name := "getChars", desc := "(II[CI)V", sig := { parameters := [.int, .int, (.array .char), .int], returnType := none }, accessFlags := 1, code := some k8c3 }
def k8c4 : Code := { maxStack := 4, maxLocals := 6, code := jdk_42_method_149_code, exceptionTable := #[], attributes := #[] }
def k8m4 : Method := { name := "<init>", desc := "([CIILjava/lang/Void;)V", sig := { parameters := [(.array .char), .int, .int, (.object "java/lang/Void")], returnType := none }, accessFlags := 2, code := some k8c4 }
def k8c5 : Code := { maxStack := 1, maxLocals := 1, code := jdk_42_method_152_code, exceptionTable := #[], attributes := #[] }
def k8m5 : Method := { name := "coder", desc := "()B", sig := { parameters := [], returnType := some .byte }, accessFlags := 0, code := some k8c5 }
def k8c6 : Code := { maxStack := 1, maxLocals := 1, code := jdk_42_method_154_code, exceptionTable := #[], attributes := #[] }
def k8m6 : Method := { name := "isLatin1", desc := "()Z", sig := { parameters := [], returnType := some .boolean }, accessFlags := 0, code := some k8c6 }
def k8c7 : Code := { maxStack := 4, maxLocals := 3, code := jdk_42_method_157_code, exceptionTable := #[], attributes := #[] }
def k8m7 : Method := { name := "checkBoundsOffCount", desc := "(III)I", sig := { parameters := [.int, .int, .int], returnType := some .int }, accessFlags := 8, code := some k8c7 }
def k8c8 : Code := { maxStack := 4, maxLocals := 3, code := jdk_42_method_158_code, exceptionTable := #[], attributes := #[] }
def k8m8 : Method := { name := "checkBoundsBeginEnd", desc := "(III)V", sig := { parameters := [.int, .int, .int], returnType := none }, accessFlags := 8, code := some k8c8 }
/-- java/lang/String -/
def k8 : Class := { plain "java/lang/String" (some 0) with
  accessFlags := 49
  interfaces := #[3, 4, 5, 6, 7]
  cf := some (fileOf pool8 10 #[.nestMembers #[1103]] #[{ accessFlags := 1, nameIndex := 5, descriptorIndex := 6, attributes := #[] }, { accessFlags := 1, nameIndex := 5, descriptorIndex := 1010, attributes := #[] }, { accessFlags := 1, nameIndex := 507, descriptorIndex := 334, attributes := #[] }, { accessFlags := 1, nameIndex := 527, descriptorIndex := 1240, attributes := #[] }, { accessFlags := 2, nameIndex := 5, descriptorIndex := 29, attributes := #[] }, { accessFlags := 0, nameIndex := 17, descriptorIndex := 337, attributes := #[] }, { accessFlags := 0, nameIndex := 494, descriptorIndex := 142, attributes := #[] }, { accessFlags := 8, nameIndex := 36, descriptorIndex := 37, attributes := #[] }, { accessFlags := 8, nameIndex := 523, descriptorIndex := 524, attributes := #[] }] 49 2 #[1106, 1108, 575, 1110, 1112] #[{ accessFlags := 18, nameIndex := 13, descriptorIndex := 14, attributes := #[] }, { accessFlags := 18, nameIndex := 17, descriptorIndex := 18, attributes := #[] }, { accessFlags := 2, nameIndex := 21, descriptorIndex := 22, attributes := #[] }, { accessFlags := 2, nameIndex := 25, descriptorIndex := 26, attributes := #[] }, { accessFlags := 26, nameIndex := 1116, descriptorIndex := 1117, attributes := #[] }, { accessFlags := 24, nameIndex := 40, descriptorIndex := 26, attributes := #[] }, { accessFlags := 26, nameIndex := 1101, descriptorIndex := 1102, attributes := #[] }, { accessFlags := 26, nameIndex := 1121, descriptorIndex := 1122, attributes := #[] }, { accessFlags := 25, nameIndex := 599, descriptorIndex := 600, attributes := #[] }, { accessFlags := 24, nameIndex := 1125, descriptorIndex := 18, attributes := #[] }, { accessFlags := 24, nameIndex := 1127, descriptorIndex := 18, attributes := #[] }])
  fields := #[{ name := "value", type := (.array .byte), accessFlags := 18, slot := 0, constantValue := 0 }, { name := "coder", type := .byte, accessFlags := 18, slot := 1, constantValue := 0 }, { name := "hash", type := .int, accessFlags := 2, slot := 2, constantValue := 0 }, { name := "hashIsZero", type := .boolean, accessFlags := 2, slot := 3, constantValue := 0 }, { name := "serialVersionUID", type := .long, accessFlags := 26, slot := 0, constantValue := 0 }, { name := "COMPACT_STRINGS", type := .boolean, accessFlags := 24, slot := 1, constantValue := 0 }, { name := "serialPersistentFields", type := (.array (.object "java/io/ObjectStreamField")), accessFlags := 26, slot := 2, constantValue := 0 }, { name := "REPL", type := .char, accessFlags := 26, slot := 3, constantValue := 0 }, { name := "CASE_INSENSITIVE_ORDER", type := (.object "java/util/Comparator"), accessFlags := 25, slot := 4, constantValue := 0 }, { name := "LATIN1", type := .byte, accessFlags := 24, slot := 5, constantValue := 0 }, { name := "UTF16", type := .byte, accessFlags := 24, slot := 6, constantValue := 0 }]
  methods := #[k8m0, k8m1, k8m2, k8m3, k8m4, k8m5, k8m6, k8m7, k8m8]
  instanceTypes := #[(.array .byte), .byte, .int, .boolean]
  staticTypes := #[.long, .boolean, (.array (.object "java/io/ObjectStreamField")), .char, (.object "java/util/Comparator"), .byte, .byte]
  resolved := Array.replicate 1451 none
  statics := some 1 }

def pool9 : Array CpInfo := pool [(3, .class_ 4), (0, u "java/lang/String"), (1, .class_ 8), (1, u "java/lang/Object"), (0, u "<init>"), (0, u "()V"), (0, .methodref 12 13), (0, .class_ 14), (0, .nameAndType 15 16), (0, u "java/lang/StringUTF16"), (0, u "newBytesLength"), (0, u "(I)I"), (3, .integer 1073741823), (23, .fieldref 12 45), (0, .nameAndType 46 47), (0, u "$assertionsDisabled"), (0, u "Z"), (0, .methodref 12 49), (0, .nameAndType 50 51), (0, u "length"), (0, u "([B)I"), (7, .fieldref 12 60), (0, .nameAndType 61 62), (0, u "HI_BYTE_SHIFT"), (0, u "I"), (0, .fieldref 12 64), (0, .nameAndType 65 62), (0, u "LO_BYTE_SHIFT"), (5, .methodref 12 72), (0, .nameAndType 73 74), (0, u "getChar"), (0, u "([BI)C"), (24, u "(II[B)V"), (5, u "getChars"), (0, u "([BII[CI)V"), (0, .methodref 12 108), (0, .nameAndType 109 110), (0, u "newBytesFor"), (0, u "(I)[B"), (0, .methodref 12 112), (0, .nameAndType 113 114), (0, u "putChar"), (0, u "([BII)V"), (0, .methodref 12 116), (0, .nameAndType 117 118), (0, u "compress"), (0, u "([CI[BII)I"), (0, .methodref 12 120), (0, .nameAndType 121 122), (0, u "toBytes"), (0, u "([CII)[B"), (50, .methodref 12 174), (0, .nameAndType 175 99), (0, u "checkBoundsOffCount"), (85, u "coderFromArrayLen"), (0, u "([BI)B"), (18, u "(III)I"), (87, .class_ 371), (1, u "java/lang/StringUTF16$LinesSpliterator"), (47, .methodref 3 420), (0, .nameAndType 175 281), (9, u "MAX_LENGTH"), (196, .class_ 628), (0, u "java/lang/StringUTF16$CodePointsSpliterator"), (0, .class_ 630), (0, u "java/lang/StringUTF16$CharsSpliterator")] 4

def k9m0 : Method := { name := "<init>", desc := "()V", sig := { parameters := [], returnType := none }, accessFlags := 0, code := none }
def k9c1 : Code := { maxStack := 1, maxLocals := 1, code := jdk_52_method_2_code, exceptionTable := #[], attributes := #[] }
def k9m1 : Method := { name := "newBytesFor", desc := "(I)[B", sig := { parameters := [.int], returnType := some (.array .byte) }, accessFlags := 9, code := some k9c1 }
def k9c2 : Code := { maxStack := 4, maxLocals := 1, code := jdk_52_method_3_code, exceptionTable := #[], attributes := #[] }
def k9m2 : Method := { name := "newBytesLength", desc := "(I)I", sig := { parameters := [.int], returnType := some .int }, accessFlags := 9, code := some k9c2 }
def k9c3 : Code := { maxStack := 4, maxLocals := 3, code := jdk_52_method_4_code, exceptionTable := #[], attributes := #[] }
def k9m3 : Method := { name := "putChar", desc := "([BII)V", sig := { parameters := [(.array .byte), .int, .int], returnType := none }, accessFlags := 8, code := some k9c3 }
def k9c4 : Code := { maxStack := 3, maxLocals := 2, code := jdk_52_method_5_code, exceptionTable := #[], attributes := #[] }
def k9m4 : Method := { name := "getChar", desc := "([BI)C", sig := { parameters := [(.array .byte), .int], returnType := some .char }, accessFlags := 8, code := some k9c4 }
def k9c5 : Code := { maxStack := 2, maxLocals := 1, code := jdk_52_method_6_code, exceptionTable := #[], attributes := #[] }
def k9m5 : Method := { name := "length", desc := "([B)I", sig := { parameters := [(.array .byte)], returnType := some .int }, accessFlags := 9, code := some k9c5 }
def k9c6 : Code := { maxStack := 4, maxLocals := 5, code := jdk_52_method_14_code, exceptionTable := #[], attributes := #[] }
def k9m6 : Method := { name := "toBytes", desc := "([CII)[B", sig := { parameters := [(.array .char), .int, .int], returnType := some (.array .byte) }, accessFlags := 9, code := some k9c6 }
def k9c7 : Code := { maxStack := 2, maxLocals := 2, code := jdk_52_method_15_code, exceptionTable := #[], attributes := #[] }
def k9m7 : Method := { name := "coderFromArrayLen", desc := "([BI)B", sig := { parameters := [(.array .byte), .int], returnType := some .byte }, accessFlags := 8, code := some k9c7 }
def k9c8 : Code := { maxStack := 5, maxLocals := 6, code := jdk_52_method_16_code, exceptionTable := #[], attributes := #[] }
def k9m8 : Method := { name := "compress", desc := "([CII)[B", sig := { parameters := [(.array .char), .int, .int], returnType := some (.array .byte) }, accessFlags := 9, code := some k9c8 }
def k9c9 : Code := { maxStack := 3, maxLocals := 7, code := jdk_52_method_21_code, exceptionTable := #[], attributes := #[] }
def k9m9 : Method := { name := "compress", desc := "([CI[BII)I", sig := { parameters := [(.array .char), .int, (.array .byte), .int, .int], returnType := some .int }, accessFlags := 9, code := some k9c9 }
def k9c10 : Code := { maxStack := 4, maxLocals := 6, code := jdk_52_method_26_code, exceptionTable := #[], attributes := #[] }
def k9m10 : Method := { name := "getChars", desc := "([BII[CI)V", sig := { parameters := [(.array .byte), .int, .int, (.array .char), .int], returnType := none }, accessFlags := 9, code := some k9c10 }
def k9c11 : Code := { maxStack := 3, maxLocals := 3, code := jdk_52_method_94_code, exceptionTable := #[], attributes := #[] }
def k9m11 : Method := { name := "checkBoundsOffCount", desc := "(II[B)V", sig := { parameters := [.int, .int, (.array .byte)], returnType := none }, accessFlags := 9, code := some k9c11 }
/-- java/lang/StringUTF16 -/
def k9 : Class := { plain "java/lang/StringUTF16" (some 0) with
  accessFlags := 48
  interfaces := #[]
  cf := some (fileOf pool9 12 #[.nestMembers #[627, 629, 369]] #[{ accessFlags := 0, nameIndex := 9, descriptorIndex := 10, attributes := #[] }, { accessFlags := 9, nameIndex := 109, descriptorIndex := 110, attributes := #[] }, { accessFlags := 9, nameIndex := 15, descriptorIndex := 16, attributes := #[] }, { accessFlags := 8, nameIndex := 113, descriptorIndex := 114, attributes := #[] }, { accessFlags := 8, nameIndex := 73, descriptorIndex := 74, attributes := #[] }, { accessFlags := 9, nameIndex := 50, descriptorIndex := 51, attributes := #[] }, { accessFlags := 9, nameIndex := 121, descriptorIndex := 122, attributes := #[] }, { accessFlags := 8, nameIndex := 261, descriptorIndex := 262, attributes := #[] }, { accessFlags := 9, nameIndex := 117, descriptorIndex := 122, attributes := #[] }, { accessFlags := 9, nameIndex := 117, descriptorIndex := 118, attributes := #[] }, { accessFlags := 9, nameIndex := 105, descriptorIndex := 106, attributes := #[] }, { accessFlags := 9, nameIndex := 175, descriptorIndex := 99, attributes := #[] }] 48 6 #[] #[{ accessFlags := 26, nameIndex := 61, descriptorIndex := 62, attributes := #[] }, { accessFlags := 26, nameIndex := 65, descriptorIndex := 62, attributes := #[] }, { accessFlags := 24, nameIndex := 430, descriptorIndex := 62, attributes := #[] }, { accessFlags := 4120, nameIndex := 46, descriptorIndex := 47, attributes := #[] }])
  fields := #[{ name := "HI_BYTE_SHIFT", type := .int, accessFlags := 26, slot := 0, constantValue := 0 }, { name := "LO_BYTE_SHIFT", type := .int, accessFlags := 26, slot := 1, constantValue := 0 }, { name := "MAX_LENGTH", type := .int, accessFlags := 24, slot := 2, constantValue := 0 }, { name := "$assertionsDisabled", type := .boolean, accessFlags := 4120, slot := 3, constantValue := 0 }]
  methods := #[k9m0, k9m1, k9m2, k9m3, k9m4, k9m5, k9m6, k9m7, k9m8, k9m9, k9m10, k9m11]
  instanceTypes := #[]
  staticTypes := #[.int, .int, .int, .boolean]
  resolved := Array.replicate 635 none
  statics := some 2 }

def pool10 : Array CpInfo := pool [(4, .class_ 6), (1, u "java/lang/Object"), (0, u "<init>"), (0, u "()V"), (0, .class_ 10), (0, u "com/example/scheherazade/scheherazade/core/ArrayLengths"), (0, .integer 2147483639), (7, .long 2147483639), (1, .long 2), (1, .methodref 24 25), (0, .class_ 26), (0, .nameAndType 27 28), (0, u "java/lang/Math"), (0, u "min"), (0, u "(JJ)J"), (0, .methodref 24 30), (0, .nameAndType 31 28), (0, u "max"), (0, u "MAX_LENGTH"), (0, u "I"), (3, u "grown"), (0, u "(II)I")] 3

def k10m0 : Method := { name := "<init>", desc := "()V", sig := { parameters := [], returnType := none }, accessFlags := 2, code := none }
def k10c1 : Code := { maxStack := 8, maxLocals := 2, code := prog_1_method_2_code, exceptionTable := #[], attributes := #[] }
def k10m1 : Method := { name := "grown", desc := "(II)I", sig := { parameters := [.int, .int], returnType := some .int }, accessFlags := 8, code := some k10c1 }
/-- com/example/scheherazade/scheherazade/core/ArrayLengths -/
def k10 : Class := { plain "com/example/scheherazade/scheherazade/core/ArrayLengths" (some 0) with
  accessFlags := 32
  interfaces := #[]
  cf := some (fileOf pool10 9 #[] #[{ accessFlags := 2, nameIndex := 7, descriptorIndex := 8, attributes := #[] }, { accessFlags := 8, nameIndex := 37, descriptorIndex := 38, attributes := #[] }] 32 4 #[] #[{ accessFlags := 26, nameIndex := 32, descriptorIndex := 33, attributes := #[] }])
  fields := #[{ name := "MAX_LENGTH", type := .int, accessFlags := 26, slot := 0, constantValue := 0 }]
  methods := #[k10m0, k10m1]
  instanceTypes := #[]
  staticTypes := #[.int]
  resolved := Array.replicate 42 none
  statics := none }

def pool11 : Array CpInfo := pool [(1, .class_ 2), (0, u "java/lang/Math"), (1, .class_ 6), (1, u "java/lang/Object"), (0, u "<init>"), (0, u "()V"), (89, .class_ 100), (1, u "java/lang/Math$RandomNumberGeneratorHolder"), (20, u "(JJ)J"), (50, u "negativeZeroFloatBits"), (0, u "J"), (2, u "negativeZeroDoubleBits"), (21, u "max"), (2, u "min"), (43, u "$assertionsDisabled"), (0, u "Z"), (88, u "(II)I"), (2, u "twoToTheDoubleScaleDown"), (0, u "D"), (4, u "twoToTheDoubleScaleUp"), (9, u "E"), (3, u "PI"), (2, u "TAU"), (2, u "DEGREES_TO_RADIANS"), (0, u "RADIANS_TO_DEGREES")] 94

def k11m0 : Method := { name := "<init>", desc := "()V", sig := { parameters := [], returnType := none }, accessFlags := 2, code := none }
def k11c1 : Code := { maxStack := 2, maxLocals := 2, code := jdk_29_method_65_code, exceptionTable := #[], attributes := #[] }
def k11m1 : Method := { name := "max", desc := "(II)I", sig := { parameters := [.int, .int], returnType := some .int }, accessFlags := 9, code := some k11c1 }
def k11c2 : Code := { maxStack := 4, maxLocals := 4, code := jdk_29_method_66_code, exceptionTable := #[], attributes := #[] }
def k11m2 : Method := { name := "max", desc := "(JJ)J", sig := { parameters := [.long, .long], returnType := some .long }, accessFlags := 9, code := some k11c2 }
def k11c3 : Code := { maxStack := 4, maxLocals := 4, code := jdk_29_method_70_code, exceptionTable := #[], attributes := #[] }
def k11m3 : Method := { name := "min", desc := "(JJ)J", sig := { parameters := [.long, .long], returnType := some .long }, accessFlags := 9, code := some k11c3 }
/-- java/lang/Math -/
def k11 : Class := { plain "java/lang/Math" (some 0) with
  accessFlags := 49
  interfaces := #[]
  cf := some (fileOf pool11 1 #[.nestMembers #[98]] #[{ accessFlags := 2, nameIndex := 7, descriptorIndex := 8, attributes := #[] }, { accessFlags := 9, nameIndex := 198, descriptorIndex := 335, attributes := #[] }, { accessFlags := 9, nameIndex := 198, descriptorIndex := 121, attributes := #[] }, { accessFlags := 9, nameIndex := 201, descriptorIndex := 121, attributes := #[] }] 49 4 #[] #[{ accessFlags := 25, nameIndex := 354, descriptorIndex := 339, attributes := #[] }, { accessFlags := 25, nameIndex := 358, descriptorIndex := 339, attributes := #[] }, { accessFlags := 25, nameIndex := 361, descriptorIndex := 339, attributes := #[] }, { accessFlags := 26, nameIndex := 364, descriptorIndex := 339, attributes := #[] }, { accessFlags := 26, nameIndex := 365, descriptorIndex := 339, attributes := #[] }, { accessFlags := 26, nameIndex := 172, descriptorIndex := 173, attributes := #[] }, { accessFlags := 26, nameIndex := 176, descriptorIndex := 173, attributes := #[] }, { accessFlags := 8, nameIndex := 344, descriptorIndex := 339, attributes := #[] }, { accessFlags := 8, nameIndex := 338, descriptorIndex := 339, attributes := #[] }, { accessFlags := 4120, nameIndex := 245, descriptorIndex := 246, attributes := #[] }])
  fields := #[{ name := "E", type := .double, accessFlags := 25, slot := 0, constantValue := 0 }, { name := "PI", type := .double, accessFlags := 25, slot := 1, constantValue := 0 }, { name := "TAU", type := .double, accessFlags := 25, slot := 2, constantValue := 0 }, { name := "DEGREES_TO_RADIANS", type := .double, accessFlags := 26, slot := 3, constantValue := 0 }, { name := "RADIANS_TO_DEGREES", type := .double, accessFlags := 26, slot := 4, constantValue := 0 }, { name := "negativeZeroFloatBits", type := .long, accessFlags := 26, slot := 5, constantValue := 0 }, { name := "negativeZeroDoubleBits", type := .long, accessFlags := 26, slot := 6, constantValue := 0 }, { name := "twoToTheDoubleScaleUp", type := .double, accessFlags := 8, slot := 7, constantValue := 0 }, { name := "twoToTheDoubleScaleDown", type := .double, accessFlags := 8, slot := 8, constantValue := 0 }, { name := "$assertionsDisabled", type := .boolean, accessFlags := 4120, slot := 9, constantValue := 0 }]
  methods := #[k11m0, k11m1, k11m2, k11m3]
  instanceTypes := #[]
  staticTypes := #[.double, .double, .double, .double, .double, .long, .long, .double, .double, .boolean]
  resolved := Array.replicate 460 none
  statics := none }

def pool12 : Array CpInfo := pool [(2, .class_ 4), (1, u "java/lang/Object"), (0, u "<init>"), (0, u "()V"), (1, .class_ 10), (1, u "java/lang/System"), (0, u "allowSecurityManager"), (0, u "I"), (16, u "cons"), (0, u "Ljava/io/Console;"), (77, .class_ 110), (1, u "java/lang/System$CallersHolder"), (43, u "initialErrStream"), (0, u "Ljava/io/PrintStream;"), (19, u "security"), (0, u "Ljava/lang/SecurityManager;"), (31, .class_ 209), (0, u "java/lang/System$1"), (7, u "props"), (0, u "Ljava/util/Properties;"), (2, u "lineSeparator"), (0, u "Ljava/lang/String;"), (96, .class_ 321), (1, u "java/lang/System$LoggerFinder"), (5, .class_ 328), (0, u "java/lang/System$Logger"), (67, u "err"), (2, u "out"), (91, u "notSupportedJnuEncoding"), (15, u "in"), (17, u "initialIn"), (0, u "Ljava/io/InputStream;"), (35, u "bootLayer"), (0, u "Ljava/lang/ModuleLayer;"), (99, .class_ 664), (0, u "java/lang/System$2"), (9, u "NEVER"), (2, u "MAYBE"), (49, u "arraycopy"), (0, u "(Ljava/lang/Object;ILjava/lang/Object;II)V"), (72, .class_ 802), (0, u "java/lang/System$Logger$Level")] 31

def k12m0 : Method := { name := "<init>", desc := "()V", sig := { parameters := [], returnType := none }, accessFlags := 2, code := none }
def k12m1 : Method := { name := "arraycopy", desc := "(Ljava/lang/Object;ILjava/lang/Object;II)V", sig := { parameters := [(.object "java/lang/Object"), .int, (.object "java/lang/Object"), .int, .int], returnType := none }, accessFlags := 265, code := none }
/-- java/lang/System -/
def k12 : Class := { plain "java/lang/System" (some 0) with
  accessFlags := 49
  interfaces := #[]
  cf := some (fileOf pool12 8 #[.nestMembers #[319, 327, 801, 108, 663, 208]] #[{ accessFlags := 2, nameIndex := 5, descriptorIndex := 6, attributes := #[] }, { accessFlags := 265, nameIndex := 727, descriptorIndex := 728, attributes := #[] }] 49 2 #[] #[{ accessFlags := 25, nameIndex := 507, descriptorIndex := 526, attributes := #[] }, { accessFlags := 25, nameIndex := 399, descriptorIndex := 155, attributes := #[] }, { accessFlags := 25, nameIndex := 396, descriptorIndex := 155, attributes := #[] }, { accessFlags := 10, nameIndex := 525, descriptorIndex := 526, attributes := #[] }, { accessFlags := 26, nameIndex := 674, descriptorIndex := 12, attributes := #[] }, { accessFlags := 26, nameIndex := 677, descriptorIndex := 12, attributes := #[] }, { accessFlags := 10, nameIndex := 11, descriptorIndex := 12, attributes := #[] }, { accessFlags := 74, nameIndex := 175, descriptorIndex := 176, attributes := #[] }, { accessFlags := 10, nameIndex := 491, descriptorIndex := 222, attributes := #[] }, { accessFlags := 74, nameIndex := 29, descriptorIndex := 30, attributes := #[] }, { accessFlags := 74, nameIndex := 154, descriptorIndex := 155, attributes := #[] }, { accessFlags := 10, nameIndex := 217, descriptorIndex := 218, attributes := #[] }, { accessFlags := 10, nameIndex := 221, descriptorIndex := 222, attributes := #[] }, { accessFlags := 8, nameIndex := 562, descriptorIndex := 563, attributes := #[] }])
  fields := #[{ name := "in", type := (.object "java/io/InputStream"), accessFlags := 25, slot := 0, constantValue := 0 }, { name := "out", type := (.object "java/io/PrintStream"), accessFlags := 25, slot := 1, constantValue := 0 }, { name := "err", type := (.object "java/io/PrintStream"), accessFlags := 25, slot := 2, constantValue := 0 }, { name := "initialIn", type := (.object "java/io/InputStream"), accessFlags := 10, slot := 3, constantValue := 0 }, { name := "NEVER", type := .int, accessFlags := 26, slot := 4, constantValue := 0 }, { name := "MAYBE", type := .int, accessFlags := 26, slot := 5, constantValue := 0 }, { name := "allowSecurityManager", type := .int, accessFlags := 10, slot := 6, constantValue := 0 }, { name := "security", type := (.object "java/lang/SecurityManager"), accessFlags := 74, slot := 7, constantValue := 0 }, { name := "notSupportedJnuEncoding", type := (.object "java/lang/String"), accessFlags := 10, slot := 8, constantValue := 0 }, { name := "cons", type := (.object "java/io/Console"), accessFlags := 74, slot := 9, constantValue := 0 }, { name := "initialErrStream", type := (.object "java/io/PrintStream"), accessFlags := 74, slot := 10, constantValue := 0 }, { name := "props", type := (.object "java/util/Properties"), accessFlags := 10, slot := 11, constantValue := 0 }, { name := "lineSeparator", type := (.object "java/lang/String"), accessFlags := 10, slot := 12, constantValue := 0 }, { name := "bootLayer", type := (.object "java/lang/ModuleLayer"), accessFlags := 8, slot := 13, constantValue := 0 }]
  methods := #[k12m0, k12m1]
  instanceTypes := #[]
  staticTypes := #[(.object "java/io/InputStream"), (.object "java/io/PrintStream"), (.object "java/io/PrintStream"), (.object "java/io/InputStream"), .int, .int, .int, (.object "java/lang/SecurityManager"), (.object "java/lang/String"), (.object "java/io/Console"), (.object "java/io/PrintStream"), (.object "java/util/Properties"), (.object "java/lang/String"), (.object "java/lang/ModuleLayer")]
  resolved := Array.replicate 834 none
  statics := none }

def pool13 : Array CpInfo := pool [(2, .class_ 4), (1, u "java/lang/Object"), (0, u "<init>"), (0, u "()V"), (17, .class_ 26), (1, u "jdk/internal/util/Preconditions"), (20, u "checkFromToIndex"), (1, u "checkFromIndexSize"), (5, .class_ 56), (0, u "jdk/internal/util/Preconditions$4"), (57, .class_ 115), (0, u "jdk/internal/util/Preconditions$1"), (7, u "SIOOBE_FORMATTER"), (0, u "Ljava/util/function/BiFunction;"), (0, .class_ 126), (0, u "jdk/internal/util/Preconditions$2"), (3, u "AIOOBE_FORMATTER"), (0, .class_ 132), (0, u "jdk/internal/util/Preconditions$3"), (3, u "IOOBE_FORMATTER"), (46, u "(IIILjava/util/function/BiFunction;)I")] 10

def k13m0 : Method := { name := "<init>", desc := "()V", sig := { parameters := [], returnType := none }, accessFlags := 1, code := none }
def k13c1 : Code := { maxStack := 4, maxLocals := 4, code := jdk_41_method_12_code, exceptionTable := #[], attributes := #[] }
def k13m1 : Method := { name := "checkFromToIndex", desc := "(IIILjava/util/function/BiFunction;)I", sig := { parameters := [.int, .int, .int, (.object "java/util/function/BiFunction")], returnType := some .int }, accessFlags := 9, code := some k13c1 }
def k13c2 : Code := { maxStack := 4, maxLocals := 4, code := jdk_41_method_13_code, exceptionTable := #[], attributes := #[] }
def k13m2 : Method := { name := "checkFromIndexSize", desc := "(IIILjava/util/function/BiFunction;)I", sig := { parameters := [.int, .int, .int, (.object "java/util/function/BiFunction")], returnType := some .int }, accessFlags := 9, code := some k13c2 }
/-- jdk/internal/util/Preconditions -/
def k13 : Class := { plain "jdk/internal/util/Preconditions" (some 0) with
  accessFlags := 33
  interfaces := #[]
  cf := some (fileOf pool13 24 #[.nestMembers #[55, 131, 125, 114]] #[{ accessFlags := 1, nameIndex := 5, descriptorIndex := 6, attributes := #[] }, { accessFlags := 9, nameIndex := 47, descriptorIndex := 183, attributes := #[] }, { accessFlags := 9, nameIndex := 49, descriptorIndex := 183, attributes := #[] }] 33 2 #[] #[{ accessFlags := 25, nameIndex := 123, descriptorIndex := 124, attributes := #[] }, { accessFlags := 25, nameIndex := 130, descriptorIndex := 124, attributes := #[] }, { accessFlags := 25, nameIndex := 136, descriptorIndex := 124, attributes := #[] }])
  fields := #[{ name := "SIOOBE_FORMATTER", type := (.object "java/util/function/BiFunction"), accessFlags := 25, slot := 0, constantValue := 0 }, { name := "AIOOBE_FORMATTER", type := (.object "java/util/function/BiFunction"), accessFlags := 25, slot := 1, constantValue := 0 }, { name := "IOOBE_FORMATTER", type := (.object "java/util/function/BiFunction"), accessFlags := 25, slot := 2, constantValue := 0 }]
  methods := #[k13m0, k13m1, k13m2]
  instanceTypes := #[]
  staticTypes := #[(.object "java/util/function/BiFunction"), (.object "java/util/function/BiFunction"), (.object "java/util/function/BiFunction")]
  resolved := Array.replicate 194 none
  statics := some 3 }

def pool14 : Array CpInfo := pool [(4, .class_ 6), (1, u "java/lang/Object"), (0, u "<init>"), (0, u "()V"), (4, .methodref 14 15), (0, .class_ 16), (0, .nameAndType 17 18), (0, u "java/lang/StringLatin1"), (0, u "inflate"), (0, u "([BI[CII)V"), (102, u "$assertionsDisabled"), (0, u "Z"), (98, .class_ 223), (1, u "java/lang/StringLatin1$LinesSpliterator"), (50, u "getChars"), (0, u "([BII[CI)V"), (114, .class_ 391), (0, u "java/lang/StringLatin1$CharsSpliterator")] 3

def k14m0 : Method := { name := "<init>", desc := "()V", sig := { parameters := [], returnType := none }, accessFlags := 0, code := none }
def k14c1 : Code := { maxStack := 6, maxLocals := 5, code := jdk_43_method_11_code, exceptionTable := #[], attributes := #[] }
def k14m1 : Method := { name := "getChars", desc := "([BII[CI)V", sig := { parameters := [(.array .byte), .int, .int, (.array .char), .int], returnType := none }, accessFlags := 9, code := some k14c1 }
def k14c2 : Code := { maxStack := 4, maxLocals := 6, code := jdk_43_method_49_code, exceptionTable := #[], attributes := #[] }
def k14m2 : Method := { name := "inflate", desc := "([BI[CII)V", sig := { parameters := [(.array .byte), .int, (.array .char), .int, .int], returnType := none }, accessFlags := 9, code := some k14c2 }
/-- java/lang/StringLatin1 -/
def k14 : Class := { plain "java/lang/StringLatin1" (some 0) with
  accessFlags := 48
  interfaces := #[]
  cf := some (fileOf pool14 14 #[.nestMembers #[390, 221]] #[{ accessFlags := 0, nameIndex := 7, descriptorIndex := 8, attributes := #[] }, { accessFlags := 9, nameIndex := 274, descriptorIndex := 275, attributes := #[] }, { accessFlags := 9, nameIndex := 17, descriptorIndex := 18, attributes := #[] }] 48 4 #[] #[{ accessFlags := 4120, nameIndex := 121, descriptorIndex := 122, attributes := #[] }])
  fields := #[{ name := "$assertionsDisabled", type := .boolean, accessFlags := 4120, slot := 0, constantValue := 0 }]
  methods := #[k14m0, k14m1, k14m2]
  instanceTypes := #[]
  staticTypes := #[.boolean]
  resolved := Array.replicate 395 none
  statics := none }

def pool15 : Array CpInfo := pool [(9, u "<init>"), (6, .class_ 18), (1, u "java/lang/Object"), (0, u "()V"), (1, .class_ 23), (1, u "jdk/internal/util/ArraysSupport"), (0, u "LOG2_ARRAY_LONG_INDEX_SCALE"), (0, u "I"), (2, u "U"), (0, u "Ljdk/internal/misc/Unsafe;"), (8, u "BIG_ENDIAN"), (0, u "Z"), (8, u "LOG2_BYTE_BIT_SIZE"), (4, u "LOG2_ARRAY_INT_INDEX_SCALE"), (54, u "JLA"), (0, u "Ljdk/internal/access/JavaLangAccess;"), (11, u "LOG2_ARRAY_BOOLEAN_INDEX_SCALE"), (9, u "LOG2_ARRAY_BYTE_INDEX_SCALE"), (5, u "LOG2_ARRAY_CHAR_INDEX_SCALE"), (5, u "LOG2_ARRAY_SHORT_INDEX_SCALE"), (18, u "LOG2_ARRAY_FLOAT_INDEX_SCALE"), (24, u "LOG2_ARRAY_DOUBLE_INDEX_SCALE"), (89, u "T_BOOLEAN"), (2, u "T_CHAR"), (1, u "T_FLOAT"), (1, u "T_DOUBLE"), (1, u "T_BYTE"), (1, u "T_SHORT"), (1, u "T_INT"), (1, u "T_LONG"), (1, u "SOFT_MAX_ARRAY_LENGTH")] 83

def k15m0 : Method := { name := "<init>", desc := "()V", sig := { parameters := [], returnType := none }, accessFlags := 2, code := none }
/-- jdk/internal/util/ArraysSupport -/
def k15 : Class := { plain "jdk/internal/util/ArraysSupport" (some 0) with
  accessFlags := 33
  interfaces := #[]
  cf := some (fileOf pool15 21 #[] #[{ accessFlags := 2, nameIndex := 9, descriptorIndex := 19, attributes := #[] }] 33 16 #[] #[{ accessFlags := 24, nameIndex := 28, descriptorIndex := 29, attributes := #[] }, { accessFlags := 26, nameIndex := 38, descriptorIndex := 39, attributes := #[] }, { accessFlags := 25, nameIndex := 121, descriptorIndex := 25, attributes := #[] }, { accessFlags := 25, nameIndex := 131, descriptorIndex := 25, attributes := #[] }, { accessFlags := 25, nameIndex := 137, descriptorIndex := 25, attributes := #[] }, { accessFlags := 25, nameIndex := 143, descriptorIndex := 25, attributes := #[] }, { accessFlags := 25, nameIndex := 53, descriptorIndex := 25, attributes := #[] }, { accessFlags := 25, nameIndex := 24, descriptorIndex := 25, attributes := #[] }, { accessFlags := 25, nameIndex := 162, descriptorIndex := 25, attributes := #[] }, { accessFlags := 25, nameIndex := 187, descriptorIndex := 25, attributes := #[] }, { accessFlags := 26, nameIndex := 48, descriptorIndex := 25, attributes := #[] }, { accessFlags := 25, nameIndex := 277, descriptorIndex := 25, attributes := #[] }, { accessFlags := 25, nameIndex := 280, descriptorIndex := 25, attributes := #[] }, { accessFlags := 25, nameIndex := 282, descriptorIndex := 25, attributes := #[] }, { accessFlags := 25, nameIndex := 284, descriptorIndex := 25, attributes := #[] }, { accessFlags := 25, nameIndex := 286, descriptorIndex := 25, attributes := #[] }, { accessFlags := 25, nameIndex := 288, descriptorIndex := 25, attributes := #[] }, { accessFlags := 25, nameIndex := 290, descriptorIndex := 25, attributes := #[] }, { accessFlags := 25, nameIndex := 292, descriptorIndex := 25, attributes := #[] }, { accessFlags := 26, nameIndex := 108, descriptorIndex := 109, attributes := #[] }, { accessFlags := 25, nameIndex := 294, descriptorIndex := 25, attributes := #[] }])
  fields := #[{ name := "U", type := (.object "jdk/internal/misc/Unsafe"), accessFlags := 24, slot := 0, constantValue := 0 }, { name := "BIG_ENDIAN", type := .boolean, accessFlags := 26, slot := 1, constantValue := 0 }, { name := "LOG2_ARRAY_BOOLEAN_INDEX_SCALE", type := .int, accessFlags := 25, slot := 2, constantValue := 0 }, { name := "LOG2_ARRAY_BYTE_INDEX_SCALE", type := .int, accessFlags := 25, slot := 3, constantValue := 0 }, { name := "LOG2_ARRAY_CHAR_INDEX_SCALE", type := .int, accessFlags := 25, slot := 4, constantValue := 0 }, { name := "LOG2_ARRAY_SHORT_INDEX_SCALE", type := .int, accessFlags := 25, slot := 5, constantValue := 0 }, { name := "LOG2_ARRAY_INT_INDEX_SCALE", type := .int, accessFlags := 25, slot := 6, constantValue := 0 }, { name := "LOG2_ARRAY_LONG_INDEX_SCALE", type := .int, accessFlags := 25, slot := 7, constantValue := 0 }, { name := "LOG2_ARRAY_FLOAT_INDEX_SCALE", type := .int, accessFlags := 25, slot := 8, constantValue := 0 }, { name := "LOG2_ARRAY_DOUBLE_INDEX_SCALE", type := .int, accessFlags := 25, slot := 9, constantValue := 0 }, { name := "LOG2_BYTE_BIT_SIZE", type := .int, accessFlags := 26, slot := 10, constantValue := 0 }, { name := "T_BOOLEAN", type := .int, accessFlags := 25, slot := 11, constantValue := 0 }, { name := "T_CHAR", type := .int, accessFlags := 25, slot := 12, constantValue := 0 }, { name := "T_FLOAT", type := .int, accessFlags := 25, slot := 13, constantValue := 0 }, { name := "T_DOUBLE", type := .int, accessFlags := 25, slot := 14, constantValue := 0 }, { name := "T_BYTE", type := .int, accessFlags := 25, slot := 15, constantValue := 0 }, { name := "T_SHORT", type := .int, accessFlags := 25, slot := 16, constantValue := 0 }, { name := "T_INT", type := .int, accessFlags := 25, slot := 17, constantValue := 0 }, { name := "T_LONG", type := .int, accessFlags := 25, slot := 18, constantValue := 0 }, { name := "JLA", type := (.object "jdk/internal/access/JavaLangAccess"), accessFlags := 26, slot := 19, constantValue := 0 }, { name := "SOFT_MAX_ARRAY_LENGTH", type := .int, accessFlags := 25, slot := 20, constantValue := 0 }]
  methods := #[k15m0]
  instanceTypes := #[]
  staticTypes := #[(.object "jdk/internal/misc/Unsafe"), .boolean, .int, .int, .int, .int, .int, .int, .int, .int, .int, .int, .int, .int, .int, .int, .int, .int, .int, (.object "jdk/internal/access/JavaLangAccess"), .int]
  resolved := Array.replicate 378 none
  statics := none }

def pool16 : Array CpInfo := pool [(1, u "java/lang/Cloneable"), (0, .class_ 1), (0, u "java/lang/Object"), (0, .class_ 3)] 3

/-- java/lang/Cloneable -/
def k16 : Class := { plain "java/lang/Cloneable" (some 0) with
  accessFlags := 1537
  interfaces := #[]
  cf := some (fileOf pool16 2 #[] #[] 1537 4 #[] #[])
  fields := #[]
  methods := #[]
  instanceTypes := #[]
  staticTypes := #[]
  resolved := Array.replicate 8 none
  statics := none }

/-- the primitive byte -/
def k17 : Class := { plain "byte" none with kind := .primitive 'B', accessFlags := 0x411 }
/-- [B -/
def k18 : Class := { plain "[B" (some 0) with kind := .array 17 .byte, interfaces := #[16, 3], accessFlags := 1041 }

/-- the primitive char -/
def k19 : Class := { plain "char" none with kind := .primitive 'C', accessFlags := 0x411 }
/-- [C -/
def k20 : Class := { plain "[C" (some 0) with kind := .array 19 .char, interfaces := #[16, 3], accessFlags := 1041 }

def heap : Heap := #[{ cls := 2, slots := #[.int 0, .null, .null, .ref 4], vm := .statics 2 },
  { cls := 8, slots := #[.long 0, .int 1, .null, .int 0, .null, .int 0, .int 0], vm := .statics 8 },
  { cls := 9, slots := #[.int 0, .int 8, .int 0, .int 1], vm := .statics 9 },
  { cls := 13, slots := #[.null, .null, .null], vm := .statics 13 },
  { cls := 20, slots := #[], vm := .none }]
def classes : Array Class := #[k0, k1, k2, k3, k4, k5, k6, k7, k8, k9, k10, k11, k12, k13, k14, k15, k16, k17, k18, k19, k20]
def interned : List (Array UInt16 × Addr) := []
def slotsUsed : Nat := 18
def theMethod : MethodId := ⟨1, 4⟩
def args0 : Array Value := #[.long 5, .long 7, .int 3, .int 9, .int 4]
def aboutOver (below : List Frame) : State where
  vm := { classes := classes, interned := interned.toArray }
  heap := heap
  slotsUsed := slotsUsed
  threads := #[{ frames := .invoking theMethod args0 :: below }]
def below0 : List Frame := [.native { method := ⟨0, 0⟩, args := #[] }]
def about1 : State := aboutOver below0
def p0 : Program := .bare "" "" ""
def e0 : Env := launch0.env 0 0 0
theorem w_frames : about1.frames = Frame.invoking theMethod args0 :: below0 := rfl
set_option maxRecDepth 65536 in
theorem w_args : argsFit about1.vm theMethod args0 = true := by decide +kernel
set_option maxRecDepth 65536 in
theorem w_heap : heapFits about1 = true := by decide +kernel
set_option maxRecDepth 65536 in
theorem w_runnable : about1.curStatus? = some .runnable := by decide +kernel
set_option maxRecDepth 65536 in
theorem w_alone : about1.alone = true := by decide +kernel
set_option maxRecDepth 65536 in
theorem w_named : about1.methodNamed? x = some theMethod := by decide +kernel
set_option maxRecDepth 65536 in
theorem w_hears : about1.hears theMethod below0 = true := by decide +kernel
set_option maxRecDepth 65536 in
theorem w_ripe : about1.ripe theMethod args0 below0 = true := by decide +kernel
theorem w_running : about1.status = .running := rfl
set_option maxRecDepth 65536 in
theorem w_room : about1.hasRoom e0.platform room_1 = true :=
  launch0.hasRoom_least _ room_1 (by decide +kernel) (by decide +kernel) (by decide +kernel) (by decide +kernel) (by decide +kernel) (by decide +kernel)
theorem allAtoms_all (ts : List Jvm.Cond) (a : Array Jvm.Value) (st : Jvm.State) : (allAtoms ts).before a st = ts.all (fun c => c.before a st) := by
  induction ts with
  | nil => rfl
  | cons c t ih =>
    show (Jvm.Cond.and c (allAtoms t)).before a st = _
    rw [Jvm.Cond.before_and, ih, List.all_cons]
def words1 : List Jvm.Cond := Jvm.Cond.code x code maxLocals ret :: tables_1
/-- a 'code' word, met by the world's own term for the bytes: nothing is compared byte by byte -/
theorem code_word {y : MethodName} {bytes : ByteArray} {mx : Nat} {rt : Option FieldType} {a : Array Value} {s : State} {m : MethodId} {meth : Method} {c : Code} (h1 : s.methodNamed? y = some m) (h2 : s.vm.method? m = some meth) (h3 : meth.code = some c) (h4 : c.code = bytes)
    (h5 : (c.maxLocals == mx && c.exceptionTable.isEmpty && decide (c.maxStack ≤ mostOperands) && decide (meth.sig.returnType = rt) && !meth.locks && decide (parseMethodDescriptor y.desc = some meth.sig)) = true) : (Jvm.Cond.code y bytes mx rt).before a s = true := by
  simp only [Bool.and_eq_true, beq_iff_eq, Bool.not_eq_true', decide_eq_true_eq] at h5
  obtain ⟨⟨⟨⟨⟨g1, g2⟩, g3⟩, g4⟩, g5⟩, g6⟩ := h5
  simp [Cond.before, Cond.holds, Cond.value, h1, h2, h3, h4, g1, g2, g3, g4, g5, g6]
def isCode : Jvm.Cond → Bool
  | .code _ _ _ _ => true
  | _ => false
theorem all_split {L : List Jvm.Cond} {P : Jvm.Cond → Bool} (h1 : L.all (fun c => isCode c || P c) = true) (h2 : ∀ c ∈ L.filter isCode, P c = true) : L.all P = true := by
  refine List.all_eq_true.mpr fun c hc => ?_
  have h := List.all_eq_true.mp h1 c hc
  rcases Bool.eq_false_or_eq_true (isCode c) with hi | hi
  · exact h2 c (List.mem_filter.mpr ⟨hc, hi⟩)
  · simpa [hi] using h
set_option maxRecDepth 65536 in
theorem w_c0 : (Jvm.Cond.code x code maxLocals ret).before args0 about1 = true := code_word (m := ⟨1, 4⟩) (meth := k1m4) (c := k1c4) (by decide +kernel) rfl rfl rfl (by decide +kernel)
set_option maxRecDepth 65536 in
theorem w_c1 : (Jvm.Cond.code ({ cls := "com/example/scheherazade/scheherazade/core/TextBuilderCollapseSpacesPinLaw", name := "draw", desc := "(JII)C" } : Jvm.MethodName) method_2_code (4 : Nat) (Option.some Jvm.ClassFile.FieldType.char)).before args0 about1 = true := code_word (m := ⟨1, 1⟩) (meth := k1m1) (c := k1c1) (by decide +kernel) rfl rfl rfl (by decide +kernel)
set_option maxRecDepth 65536 in
theorem w_c2 : (Jvm.Cond.code ({ cls := "com/example/scheherazade/scheherazade/core/TextBuilder", name := "<init>", desc := "(I)V" } : Jvm.MethodName) prog_14_method_1_code (2 : Nat) (Option.none : Option Jvm.ClassFile.FieldType)).before args0 about1 = true := code_word (m := ⟨2, 0⟩) (meth := k2m0) (c := k2c0) (by decide +kernel) rfl rfl rfl (by decide +kernel)
set_option maxRecDepth 65536 in
theorem w_c3 : (Jvm.Cond.code ({ cls := "java/lang/Object", name := "<init>", desc := "()V" } : Jvm.MethodName) object_method_1_code (1 : Nat) (Option.none : Option Jvm.ClassFile.FieldType)).before args0 about1 = true := code_word (m := ⟨0, 0⟩) (meth := k0m0) (c := k0c0) (by decide +kernel) rfl rfl rfl (by decide +kernel)
set_option maxRecDepth 65536 in
theorem w_c4 : (Jvm.Cond.code ({ cls := "java/lang/String", name := "<init>", desc := "([C)V" } : Jvm.MethodName) jdk_42_method_3_code (2 : Nat) (Option.none : Option Jvm.ClassFile.FieldType)).before args0 about1 = true := code_word (m := ⟨8, 1⟩) (meth := k8m1) (c := k8c1) (by decide +kernel) rfl rfl rfl (by decide +kernel)
set_option maxRecDepth 65536 in
theorem w_c5 : (Jvm.Cond.code ({ cls := "java/lang/String", name := "<init>", desc := "([CIILjava/lang/Void;)V" } : Jvm.MethodName) jdk_42_method_149_code (6 : Nat) (Option.none : Option Jvm.ClassFile.FieldType)).before args0 about1 = true := code_word (m := ⟨8, 4⟩) (meth := k8m4) (c := k8c4) (by decide +kernel) rfl rfl rfl (by decide +kernel)
set_option maxRecDepth 65536 in
theorem w_c6 : (Jvm.Cond.code ({ cls := "java/lang/StringUTF16", name := "compress", desc := "([CII)[B" } : Jvm.MethodName) jdk_52_method_16_code (6 : Nat) (Option.some (Jvm.ClassFile.FieldType.array Jvm.ClassFile.FieldType.byte))).before args0 about1 = true := code_word (m := ⟨9, 8⟩) (meth := k9m8) (c := k9c8) (by decide +kernel) rfl rfl rfl (by decide +kernel)
set_option maxRecDepth 65536 in
theorem w_c7 : (Jvm.Cond.code ({ cls := "java/lang/StringUTF16", name := "compress", desc := "([CI[BII)I" } : Jvm.MethodName) jdk_52_method_21_code (7 : Nat) (Option.some Jvm.ClassFile.FieldType.int)).before args0 about1 = true := code_word (m := ⟨9, 9⟩) (meth := k9m9) (c := k9c9) (by decide +kernel) rfl rfl rfl (by decide +kernel)
set_option maxRecDepth 65536 in
theorem w_c8 : (Jvm.Cond.code ({ cls := "java/lang/StringUTF16", name := "coderFromArrayLen", desc := "([BI)B" } : Jvm.MethodName) jdk_52_method_15_code (2 : Nat) (Option.some Jvm.ClassFile.FieldType.byte)).before args0 about1 = true := code_word (m := ⟨9, 7⟩) (meth := k9m7) (c := k9c7) (by decide +kernel) rfl rfl rfl (by decide +kernel)
set_option maxRecDepth 65536 in
theorem w_c9 : (Jvm.Cond.code ({ cls := "com/example/scheherazade/scheherazade/core/TextBuilder", name := "append", desc := "(Ljava/lang/String;)V" } : Jvm.MethodName) prog_14_method_11_code (3 : Nat) (Option.none : Option Jvm.ClassFile.FieldType)).before args0 about1 = true := code_word (m := ⟨2, 3⟩) (meth := k2m3) (c := k2c3) (by decide +kernel) rfl rfl rfl (by decide +kernel)
set_option maxRecDepth 65536 in
theorem w_c10 : (Jvm.Cond.code ({ cls := "java/lang/String", name := "length", desc := "()I" } : Jvm.MethodName) jdk_42_method_54_code (1 : Nat) (Option.some Jvm.ClassFile.FieldType.int)).before args0 about1 = true := code_word (m := ⟨8, 2⟩) (meth := k8m2) (c := k8c2) (by decide +kernel) rfl rfl rfl (by decide +kernel)
set_option maxRecDepth 65536 in
theorem w_c11 : (Jvm.Cond.code ({ cls := "java/lang/String", name := "coder", desc := "()B" } : Jvm.MethodName) jdk_42_method_152_code (1 : Nat) (Option.some Jvm.ClassFile.FieldType.byte)).before args0 about1 = true := code_word (m := ⟨8, 5⟩) (meth := k8m5) (c := k8c5) (by decide +kernel) rfl rfl rfl (by decide +kernel)
set_option maxRecDepth 65536 in
theorem w_c12 : (Jvm.Cond.code ({ cls := "com/example/scheherazade/scheherazade/core/TextBuilder", name := "grow", desc := "(I)V" } : Jvm.MethodName) prog_14_method_21_code (4 : Nat) (Option.none : Option Jvm.ClassFile.FieldType)).before args0 about1 = true := code_word (m := ⟨2, 5⟩) (meth := k2m5) (c := k2c5) (by decide +kernel) rfl rfl rfl (by decide +kernel)
set_option maxRecDepth 65536 in
theorem w_c13 : (Jvm.Cond.code ({ cls := "com/example/scheherazade/scheherazade/core/ArrayLengths", name := "grown", desc := "(II)I" } : Jvm.MethodName) prog_1_method_2_code (2 : Nat) (Option.some Jvm.ClassFile.FieldType.int)).before args0 about1 = true := code_word (m := ⟨10, 1⟩) (meth := k10m1) (c := k10c1) (by decide +kernel) rfl rfl rfl (by decide +kernel)
set_option maxRecDepth 65536 in
theorem w_c14 : (Jvm.Cond.code ({ cls := "java/lang/Math", name := "min", desc := "(JJ)J" } : Jvm.MethodName) jdk_29_method_70_code (4 : Nat) (Option.some Jvm.ClassFile.FieldType.long)).before args0 about1 = true := code_word (m := ⟨11, 3⟩) (meth := k11m3) (c := k11c3) (by decide +kernel) rfl rfl rfl (by decide +kernel)
set_option maxRecDepth 65536 in
theorem w_c15 : (Jvm.Cond.code ({ cls := "java/lang/Math", name := "max", desc := "(JJ)J" } : Jvm.MethodName) jdk_29_method_66_code (4 : Nat) (Option.some Jvm.ClassFile.FieldType.long)).before args0 about1 = true := code_word (m := ⟨11, 2⟩) (meth := k11m2) (c := k11c2) (by decide +kernel) rfl rfl rfl (by decide +kernel)
set_option maxRecDepth 65536 in
theorem w_c16 : (Jvm.Cond.code ({ cls := "java/lang/Math", name := "max", desc := "(II)I" } : Jvm.MethodName) jdk_29_method_65_code (2 : Nat) (Option.some Jvm.ClassFile.FieldType.int)).before args0 about1 = true := code_word (m := ⟨11, 1⟩) (meth := k11m1) (c := k11c1) (by decide +kernel) rfl rfl rfl (by decide +kernel)
set_option maxRecDepth 65536 in
theorem w_c17 : (Jvm.Cond.code ({ cls := "java/lang/String", name := "getChars", desc := "(II[CI)V" } : Jvm.MethodName) jdk_42_method_61_code (5 : Nat) (Option.none : Option Jvm.ClassFile.FieldType)).before args0 about1 = true := code_word (m := ⟨8, 3⟩) (meth := k8m3) (c := k8c3) (by decide +kernel) rfl rfl rfl (by decide +kernel)
set_option maxRecDepth 65536 in
theorem w_c18 : (Jvm.Cond.code ({ cls := "java/lang/String", name := "checkBoundsBeginEnd", desc := "(III)V" } : Jvm.MethodName) jdk_42_method_158_code (3 : Nat) (Option.none : Option Jvm.ClassFile.FieldType)).before args0 about1 = true := code_word (m := ⟨8, 8⟩) (meth := k8m8) (c := k8c8) (by decide +kernel) rfl rfl rfl (by decide +kernel)
set_option maxRecDepth 65536 in
theorem w_c19 : (Jvm.Cond.code ({ cls := "jdk/internal/util/Preconditions", name := "checkFromToIndex", desc := "(IIILjava/util/function/BiFunction;)I" } : Jvm.MethodName) jdk_41_method_12_code (4 : Nat) (Option.some Jvm.ClassFile.FieldType.int)).before args0 about1 = true := code_word (m := ⟨13, 1⟩) (meth := k13m1) (c := k13c1) (by decide +kernel) rfl rfl rfl (by decide +kernel)
set_option maxRecDepth 65536 in
theorem w_c20 : (Jvm.Cond.code ({ cls := "java/lang/String", name := "checkBoundsOffCount", desc := "(III)I" } : Jvm.MethodName) jdk_42_method_157_code (3 : Nat) (Option.some Jvm.ClassFile.FieldType.int)).before args0 about1 = true := code_word (m := ⟨8, 7⟩) (meth := k8m7) (c := k8c7) (by decide +kernel) rfl rfl rfl (by decide +kernel)
set_option maxRecDepth 65536 in
theorem w_c21 : (Jvm.Cond.code ({ cls := "jdk/internal/util/Preconditions", name := "checkFromIndexSize", desc := "(IIILjava/util/function/BiFunction;)I" } : Jvm.MethodName) jdk_41_method_13_code (4 : Nat) (Option.some Jvm.ClassFile.FieldType.int)).before args0 about1 = true := code_word (m := ⟨13, 2⟩) (meth := k13m2) (c := k13c2) (by decide +kernel) rfl rfl rfl (by decide +kernel)
set_option maxRecDepth 65536 in
theorem w_c22 : (Jvm.Cond.code ({ cls := "java/lang/String", name := "isLatin1", desc := "()Z" } : Jvm.MethodName) jdk_42_method_154_code (1 : Nat) (Option.some Jvm.ClassFile.FieldType.boolean)).before args0 about1 = true := code_word (m := ⟨8, 6⟩) (meth := k8m6) (c := k8c6) (by decide +kernel) rfl rfl rfl (by decide +kernel)
set_option maxRecDepth 65536 in
theorem w_c23 : (Jvm.Cond.code ({ cls := "java/lang/StringLatin1", name := "getChars", desc := "([BII[CI)V" } : Jvm.MethodName) jdk_43_method_11_code (5 : Nat) (Option.none : Option Jvm.ClassFile.FieldType)).before args0 about1 = true := code_word (m := ⟨14, 1⟩) (meth := k14m1) (c := k14c1) (by decide +kernel) rfl rfl rfl (by decide +kernel)
set_option maxRecDepth 65536 in
theorem w_c24 : (Jvm.Cond.code ({ cls := "java/lang/StringLatin1", name := "inflate", desc := "([BI[CII)V" } : Jvm.MethodName) jdk_43_method_49_code (6 : Nat) (Option.none : Option Jvm.ClassFile.FieldType)).before args0 about1 = true := code_word (m := ⟨14, 2⟩) (meth := k14m2) (c := k14c2) (by decide +kernel) rfl rfl rfl (by decide +kernel)
set_option maxRecDepth 65536 in
theorem w_c25 : (Jvm.Cond.code ({ cls := "com/example/scheherazade/scheherazade/core/TextBuilder", name := "collapseSpaces", desc := "(II)I" } : Jvm.MethodName) prog_14_method_14_code (7 : Nat) (Option.some Jvm.ClassFile.FieldType.int)).before args0 about1 = true := code_word (m := ⟨2, 4⟩) (meth := k2m4) (c := k2c4) (by decide +kernel) rfl rfl rfl (by decide +kernel)
set_option maxRecDepth 65536 in
theorem w_c26 : (Jvm.Cond.code ({ cls := "com/example/scheherazade/scheherazade/core/TextBuilder", name := "chars", desc := "()[C" } : Jvm.MethodName) prog_14_method_2_code (1 : Nat) (Option.some (Jvm.ClassFile.FieldType.array Jvm.ClassFile.FieldType.char))).before args0 about1 = true := code_word (m := ⟨2, 1⟩) (meth := k2m1) (c := k2c1) (by decide +kernel) rfl rfl rfl (by decide +kernel)
set_option maxRecDepth 65536 in
theorem w_c27 : (Jvm.Cond.code ({ cls := "com/example/scheherazade/scheherazade/core/TextBuilderCollapseSpacesPinLaw", name := "put", desc := "([C[CIIII)I" } : Jvm.MethodName) method_3_code (7 : Nat) (Option.some Jvm.ClassFile.FieldType.int)).before args0 about1 = true := code_word (m := ⟨1, 2⟩) (meth := k1m2) (c := k1c2) (by decide +kernel) rfl rfl rfl (by decide +kernel)
set_option maxRecDepth 65536 in
theorem w_c28 : (Jvm.Cond.code ({ cls := "com/example/scheherazade/scheherazade/core/TextBuilder", name := "length", desc := "()I" } : Jvm.MethodName) prog_14_method_3_code (1 : Nat) (Option.some Jvm.ClassFile.FieldType.int)).before args0 about1 = true := code_word (m := ⟨2, 2⟩) (meth := k2m2) (c := k2c2) (by decide +kernel) rfl rfl rfl (by decide +kernel)
set_option maxRecDepth 65536 in
theorem w_c29 : (Jvm.Cond.code ({ cls := "com/example/scheherazade/scheherazade/core/TextBuilderCollapseSpacesPinLaw", name := "same", desc := "([C[CIII)Z" } : Jvm.MethodName) method_4_code (5 : Nat) (Option.some Jvm.ClassFile.FieldType.boolean)).before args0 about1 = true := code_word (m := ⟨1, 3⟩) (meth := k1m3) (c := k1c3) (by decide +kernel) rfl rfl rfl (by decide +kernel)
set_option maxRecDepth 65536 in
theorem w_c30 : (Jvm.Cond.code ({ cls := "java/lang/StringUTF16", name := "toBytes", desc := "([CII)[B" } : Jvm.MethodName) jdk_52_method_14_code (5 : Nat) (Option.some (Jvm.ClassFile.FieldType.array Jvm.ClassFile.FieldType.byte))).before args0 about1 = true := code_word (m := ⟨9, 6⟩) (meth := k9m6) (c := k9c6) (by decide +kernel) rfl rfl rfl (by decide +kernel)
set_option maxRecDepth 65536 in
theorem w_c31 : (Jvm.Cond.code ({ cls := "java/lang/StringUTF16", name := "newBytesFor", desc := "(I)[B" } : Jvm.MethodName) jdk_52_method_2_code (1 : Nat) (Option.some (Jvm.ClassFile.FieldType.array Jvm.ClassFile.FieldType.byte))).before args0 about1 = true := code_word (m := ⟨9, 1⟩) (meth := k9m1) (c := k9c1) (by decide +kernel) rfl rfl rfl (by decide +kernel)
set_option maxRecDepth 65536 in
theorem w_c32 : (Jvm.Cond.code ({ cls := "java/lang/StringUTF16", name := "newBytesLength", desc := "(I)I" } : Jvm.MethodName) jdk_52_method_3_code (1 : Nat) (Option.some Jvm.ClassFile.FieldType.int)).before args0 about1 = true := code_word (m := ⟨9, 2⟩) (meth := k9m2) (c := k9c2) (by decide +kernel) rfl rfl rfl (by decide +kernel)
set_option maxRecDepth 65536 in
theorem w_c33 : (Jvm.Cond.code ({ cls := "java/lang/StringUTF16", name := "putChar", desc := "([BII)V" } : Jvm.MethodName) jdk_52_method_4_code (3 : Nat) (Option.none : Option Jvm.ClassFile.FieldType)).before args0 about1 = true := code_word (m := ⟨9, 3⟩) (meth := k9m3) (c := k9c3) (by decide +kernel) rfl rfl rfl (by decide +kernel)
set_option maxRecDepth 65536 in
theorem w_c34 : (Jvm.Cond.code ({ cls := "java/lang/StringUTF16", name := "getChar", desc := "([BI)C" } : Jvm.MethodName) jdk_52_method_5_code (2 : Nat) (Option.some Jvm.ClassFile.FieldType.char)).before args0 about1 = true := code_word (m := ⟨9, 4⟩) (meth := k9m4) (c := k9c4) (by decide +kernel) rfl rfl rfl (by decide +kernel)
set_option maxRecDepth 65536 in
theorem w_c35 : (Jvm.Cond.code ({ cls := "java/lang/StringUTF16", name := "getChars", desc := "([BII[CI)V" } : Jvm.MethodName) jdk_52_method_26_code (6 : Nat) (Option.none : Option Jvm.ClassFile.FieldType)).before args0 about1 = true := code_word (m := ⟨9, 10⟩) (meth := k9m10) (c := k9c10) (by decide +kernel) rfl rfl rfl (by decide +kernel)
set_option maxRecDepth 65536 in
theorem w_c36 : (Jvm.Cond.code ({ cls := "java/lang/StringUTF16", name := "checkBoundsOffCount", desc := "(II[B)V" } : Jvm.MethodName) jdk_52_method_94_code (3 : Nat) (Option.none : Option Jvm.ClassFile.FieldType)).before args0 about1 = true := code_word (m := ⟨9, 11⟩) (meth := k9m11) (c := k9c11) (by decide +kernel) rfl rfl rfl (by decide +kernel)
set_option maxRecDepth 65536 in
theorem w_c37 : (Jvm.Cond.code ({ cls := "java/lang/StringUTF16", name := "length", desc := "([B)I" } : Jvm.MethodName) jdk_52_method_6_code (1 : Nat) (Option.some Jvm.ClassFile.FieldType.int)).before args0 about1 = true := code_word (m := ⟨9, 5⟩) (meth := k9m5) (c := k9c5) (by decide +kernel) rfl rfl rfl (by decide +kernel)
def codes1 : List Jvm.Cond := [Jvm.Cond.code x code maxLocals ret, Jvm.Cond.code ({ cls := "com/example/scheherazade/scheherazade/core/TextBuilderCollapseSpacesPinLaw", name := "draw", desc := "(JII)C" } : Jvm.MethodName) method_2_code (4 : Nat) (Option.some Jvm.ClassFile.FieldType.char), Jvm.Cond.code ({ cls := "com/example/scheherazade/scheherazade/core/TextBuilder", name := "<init>", desc := "(I)V" } : Jvm.MethodName) prog_14_method_1_code (2 : Nat) (Option.none : Option Jvm.ClassFile.FieldType), Jvm.Cond.code ({ cls := "java/lang/Object", name := "<init>", desc := "()V" } : Jvm.MethodName) object_method_1_code (1 : Nat) (Option.none : Option Jvm.ClassFile.FieldType), Jvm.Cond.code ({ cls := "java/lang/String", name := "<init>", desc := "([C)V" } : Jvm.MethodName) jdk_42_method_3_code (2 : Nat) (Option.none : Option Jvm.ClassFile.FieldType), Jvm.Cond.code ({ cls := "java/lang/String", name := "<init>", desc := "([CIILjava/lang/Void;)V" } : Jvm.MethodName) jdk_42_method_149_code (6 : Nat) (Option.none : Option Jvm.ClassFile.FieldType), Jvm.Cond.code ({ cls := "java/lang/StringUTF16", name := "compress", desc := "([CII)[B" } : Jvm.MethodName) jdk_52_method_16_code (6 : Nat) (Option.some (Jvm.ClassFile.FieldType.array Jvm.ClassFile.FieldType.byte)), Jvm.Cond.code ({ cls := "java/lang/StringUTF16", name := "compress", desc := "([CI[BII)I" } : Jvm.MethodName) jdk_52_method_21_code (7 : Nat) (Option.some Jvm.ClassFile.FieldType.int), Jvm.Cond.code ({ cls := "java/lang/StringUTF16", name := "coderFromArrayLen", desc := "([BI)B" } : Jvm.MethodName) jdk_52_method_15_code (2 : Nat) (Option.some Jvm.ClassFile.FieldType.byte), Jvm.Cond.code ({ cls := "com/example/scheherazade/scheherazade/core/TextBuilder", name := "append", desc := "(Ljava/lang/String;)V" } : Jvm.MethodName) prog_14_method_11_code (3 : Nat) (Option.none : Option Jvm.ClassFile.FieldType), Jvm.Cond.code ({ cls := "java/lang/String", name := "length", desc := "()I" } : Jvm.MethodName) jdk_42_method_54_code (1 : Nat) (Option.some Jvm.ClassFile.FieldType.int), Jvm.Cond.code ({ cls := "java/lang/String", name := "coder", desc := "()B" } : Jvm.MethodName) jdk_42_method_152_code (1 : Nat) (Option.some Jvm.ClassFile.FieldType.byte), Jvm.Cond.code ({ cls := "com/example/scheherazade/scheherazade/core/TextBuilder", name := "grow", desc := "(I)V" } : Jvm.MethodName) prog_14_method_21_code (4 : Nat) (Option.none : Option Jvm.ClassFile.FieldType), Jvm.Cond.code ({ cls := "com/example/scheherazade/scheherazade/core/ArrayLengths", name := "grown", desc := "(II)I" } : Jvm.MethodName) prog_1_method_2_code (2 : Nat) (Option.some Jvm.ClassFile.FieldType.int), Jvm.Cond.code ({ cls := "java/lang/Math", name := "min", desc := "(JJ)J" } : Jvm.MethodName) jdk_29_method_70_code (4 : Nat) (Option.some Jvm.ClassFile.FieldType.long), Jvm.Cond.code ({ cls := "java/lang/Math", name := "max", desc := "(JJ)J" } : Jvm.MethodName) jdk_29_method_66_code (4 : Nat) (Option.some Jvm.ClassFile.FieldType.long), Jvm.Cond.code ({ cls := "java/lang/Math", name := "max", desc := "(II)I" } : Jvm.MethodName) jdk_29_method_65_code (2 : Nat) (Option.some Jvm.ClassFile.FieldType.int), Jvm.Cond.code ({ cls := "java/lang/String", name := "getChars", desc := "(II[CI)V" } : Jvm.MethodName) jdk_42_method_61_code (5 : Nat) (Option.none : Option Jvm.ClassFile.FieldType), Jvm.Cond.code ({ cls := "java/lang/String", name := "checkBoundsBeginEnd", desc := "(III)V" } : Jvm.MethodName) jdk_42_method_158_code (3 : Nat) (Option.none : Option Jvm.ClassFile.FieldType), Jvm.Cond.code ({ cls := "jdk/internal/util/Preconditions", name := "checkFromToIndex", desc := "(IIILjava/util/function/BiFunction;)I" } : Jvm.MethodName) jdk_41_method_12_code (4 : Nat) (Option.some Jvm.ClassFile.FieldType.int), Jvm.Cond.code ({ cls := "java/lang/String", name := "checkBoundsOffCount", desc := "(III)I" } : Jvm.MethodName) jdk_42_method_157_code (3 : Nat) (Option.some Jvm.ClassFile.FieldType.int), Jvm.Cond.code ({ cls := "jdk/internal/util/Preconditions", name := "checkFromIndexSize", desc := "(IIILjava/util/function/BiFunction;)I" } : Jvm.MethodName) jdk_41_method_13_code (4 : Nat) (Option.some Jvm.ClassFile.FieldType.int), Jvm.Cond.code ({ cls := "java/lang/String", name := "isLatin1", desc := "()Z" } : Jvm.MethodName) jdk_42_method_154_code (1 : Nat) (Option.some Jvm.ClassFile.FieldType.boolean), Jvm.Cond.code ({ cls := "java/lang/StringLatin1", name := "getChars", desc := "([BII[CI)V" } : Jvm.MethodName) jdk_43_method_11_code (5 : Nat) (Option.none : Option Jvm.ClassFile.FieldType), Jvm.Cond.code ({ cls := "java/lang/StringLatin1", name := "inflate", desc := "([BI[CII)V" } : Jvm.MethodName) jdk_43_method_49_code (6 : Nat) (Option.none : Option Jvm.ClassFile.FieldType), Jvm.Cond.code ({ cls := "com/example/scheherazade/scheherazade/core/TextBuilder", name := "collapseSpaces", desc := "(II)I" } : Jvm.MethodName) prog_14_method_14_code (7 : Nat) (Option.some Jvm.ClassFile.FieldType.int), Jvm.Cond.code ({ cls := "com/example/scheherazade/scheherazade/core/TextBuilder", name := "chars", desc := "()[C" } : Jvm.MethodName) prog_14_method_2_code (1 : Nat) (Option.some (Jvm.ClassFile.FieldType.array Jvm.ClassFile.FieldType.char)), Jvm.Cond.code ({ cls := "com/example/scheherazade/scheherazade/core/TextBuilderCollapseSpacesPinLaw", name := "put", desc := "([C[CIIII)I" } : Jvm.MethodName) method_3_code (7 : Nat) (Option.some Jvm.ClassFile.FieldType.int), Jvm.Cond.code ({ cls := "com/example/scheherazade/scheherazade/core/TextBuilder", name := "length", desc := "()I" } : Jvm.MethodName) prog_14_method_3_code (1 : Nat) (Option.some Jvm.ClassFile.FieldType.int), Jvm.Cond.code ({ cls := "com/example/scheherazade/scheherazade/core/TextBuilderCollapseSpacesPinLaw", name := "same", desc := "([C[CIII)Z" } : Jvm.MethodName) method_4_code (5 : Nat) (Option.some Jvm.ClassFile.FieldType.boolean), Jvm.Cond.code ({ cls := "java/lang/StringUTF16", name := "toBytes", desc := "([CII)[B" } : Jvm.MethodName) jdk_52_method_14_code (5 : Nat) (Option.some (Jvm.ClassFile.FieldType.array Jvm.ClassFile.FieldType.byte)), Jvm.Cond.code ({ cls := "java/lang/StringUTF16", name := "newBytesFor", desc := "(I)[B" } : Jvm.MethodName) jdk_52_method_2_code (1 : Nat) (Option.some (Jvm.ClassFile.FieldType.array Jvm.ClassFile.FieldType.byte)), Jvm.Cond.code ({ cls := "java/lang/StringUTF16", name := "newBytesLength", desc := "(I)I" } : Jvm.MethodName) jdk_52_method_3_code (1 : Nat) (Option.some Jvm.ClassFile.FieldType.int), Jvm.Cond.code ({ cls := "java/lang/StringUTF16", name := "putChar", desc := "([BII)V" } : Jvm.MethodName) jdk_52_method_4_code (3 : Nat) (Option.none : Option Jvm.ClassFile.FieldType), Jvm.Cond.code ({ cls := "java/lang/StringUTF16", name := "getChar", desc := "([BI)C" } : Jvm.MethodName) jdk_52_method_5_code (2 : Nat) (Option.some Jvm.ClassFile.FieldType.char), Jvm.Cond.code ({ cls := "java/lang/StringUTF16", name := "getChars", desc := "([BII[CI)V" } : Jvm.MethodName) jdk_52_method_26_code (6 : Nat) (Option.none : Option Jvm.ClassFile.FieldType), Jvm.Cond.code ({ cls := "java/lang/StringUTF16", name := "checkBoundsOffCount", desc := "(II[B)V" } : Jvm.MethodName) jdk_52_method_94_code (3 : Nat) (Option.none : Option Jvm.ClassFile.FieldType), Jvm.Cond.code ({ cls := "java/lang/StringUTF16", name := "length", desc := "([B)I" } : Jvm.MethodName) jdk_52_method_6_code (1 : Nat) (Option.some Jvm.ClassFile.FieldType.int)]
set_option maxRecDepth 65536 in
theorem codes_eq : words1.filter isCode = codes1 := rfl
theorem w_codes : ∀ c ∈ words1.filter isCode, c.before args0 about1 = true := by
  rw [codes_eq]
  intro c hc
  simp only [codes1, List.mem_cons, List.not_mem_nil, or_false] at hc
  rcases hc with rfl | rfl | rfl | rfl | rfl | rfl | rfl | rfl | rfl | rfl | rfl | rfl | rfl | rfl | rfl | rfl | rfl | rfl | rfl | rfl | rfl | rfl | rfl | rfl | rfl | rfl | rfl | rfl | rfl | rfl | rfl | rfl | rfl | rfl | rfl | rfl | rfl | rfl
  · exact w_c0
  · exact w_c1
  · exact w_c2
  · exact w_c3
  · exact w_c4
  · exact w_c5
  · exact w_c6
  · exact w_c7
  · exact w_c8
  · exact w_c9
  · exact w_c10
  · exact w_c11
  · exact w_c12
  · exact w_c13
  · exact w_c14
  · exact w_c15
  · exact w_c16
  · exact w_c17
  · exact w_c18
  · exact w_c19
  · exact w_c20
  · exact w_c21
  · exact w_c22
  · exact w_c23
  · exact w_c24
  · exact w_c25
  · exact w_c26
  · exact w_c27
  · exact w_c28
  · exact w_c29
  · exact w_c30
  · exact w_c31
  · exact w_c32
  · exact w_c33
  · exact w_c34
  · exact w_c35
  · exact w_c36
  · exact w_c37
set_option maxRecDepth 65536 in
theorem w_t1 : (words1.take 24).all (fun c => isCode c || c.before args0 about1) = true := by decide +kernel
set_option maxRecDepth 65536 in
theorem w_t2 : ((words1.drop 24).take 24).all (fun c => isCode c || c.before args0 about1) = true := by decide +kernel
set_option maxRecDepth 65536 in
theorem w_t3 : (((words1.drop 24).drop 24).take 24).all (fun c => isCode c || c.before args0 about1) = true := by decide +kernel
set_option maxRecDepth 65536 in
theorem w_t4 : ((((words1.drop 24).drop 24).drop 24).take 24).all (fun c => isCode c || c.before args0 about1) = true := by decide +kernel
set_option maxRecDepth 65536 in
theorem w_t5 : (((((words1.drop 24).drop 24).drop 24).drop 24).take 24).all (fun c => isCode c || c.before args0 about1) = true := by decide +kernel
set_option maxRecDepth 65536 in
theorem w_t6 : ((((((words1.drop 24).drop 24).drop 24).drop 24).drop 24).take 24).all (fun c => isCode c || c.before args0 about1) = true := by decide +kernel
set_option maxRecDepth 65536 in
theorem w_t7 : (((((((words1.drop 24).drop 24).drop 24).drop 24).drop 24).drop 24).take 24).all (fun c => isCode c || c.before args0 about1) = true := by decide +kernel
set_option maxRecDepth 65536 in
theorem w_t8 : (((((((words1.drop 24).drop 24).drop 24).drop 24).drop 24).drop 24).drop 24).all (fun c => isCode c || c.before args0 about1) = true := by decide +kernel
theorem w_tables : (allAtoms (Jvm.Cond.code x code maxLocals ret :: tables_1)).before args0 about1 = true := by
  rw [allAtoms_all]
  show words1.all (fun c => c.before args0 about1) = true
  refine all_split ?_ w_codes
  rw [← List.take_append_drop 24 words1, List.all_append, w_t1, ← List.take_append_drop 24 (words1.drop 24), List.all_append, w_t2, ← List.take_append_drop 24 ((words1.drop 24).drop 24), List.all_append, w_t3, ← List.take_append_drop 24 (((words1.drop 24).drop 24).drop 24), List.all_append, w_t4, ← List.take_append_drop 24 ((((words1.drop 24).drop 24).drop 24).drop 24), List.all_append, w_t5, ← List.take_append_drop 24 (((((words1.drop 24).drop 24).drop 24).drop 24).drop 24), List.all_append, w_t6, ← List.take_append_drop 24 ((((((words1.drop 24).drop 24).drop 24).drop 24).drop 24).drop 24), List.all_append, w_t7, w_t8]
  rfl
set_option maxRecDepth 65536 in
theorem w_rest : rest_1_c.before args0 about1 = true := by decide +kernel
set_option maxRecDepth 65536 in
theorem w_case : (Jvm.Cond.and given_1 narrow_1).before args0 about1 = true := by decide +kernel
theorem w_applies : (headSpec (Jvm.Cond.code x code maxLocals ret :: tables_1) room_1).applies x e0.platform about1 = true :=
  (Spec.applies_iff w_frames).mpr ⟨w_running, w_runnable, w_alone, w_named, w_hears, w_ripe, w_room, w_tables⟩
theorem atStart : AtStart classFile x code maxLocals ret World_1 tables_1 room_1 Calls_1 rest_1 Pre_1 launch0 p0 e0 about1 theMethod args0 below0 :=
  ⟨lists_1, trivial, launch0.admits_env _ _ _, launch0.least_env, fairChoices_fair.cas, fairChoices_fair.clock, w_frames, w_args, w_heap, w_applies, trivial, w_rest, w_case⟩
end start1
theorem witness_1 : WitnessClaimed_1 := ⟨start1.p0, start1.e0, start1.about1, start1.theMethod, start1.args0, start1.below0, start1.atStart⟩
end Jvm.Pilot.@@N@@
