import JvmDerived
import JvmDerived.Pilot.@@N@@Statement
import JvmDerived.Pilot.@@N@@Code
set_option linter.unusedVariables false
set_option linter.unusedSimpArgs false
namespace Jvm.RoadKit
open Sem ClassFile Op Lib Jvm.Stand Jvm.Free Jvm.LawKit
section New
variable {p : Program} {l : Launch} {e : Env} {R : Room} {s : State} {m : MethodId} {args : Array Value} {below : List Frame} {meth : Method} {c : Code} {T : State} {locs : List Loc} {cells slots : Nat}
theorem retI (X : Stand p l e R s m args below meth c T locs cells slots) (hx : p.tables.exec = Jvm.exec) {pc : Nat} {Ls : Array Slot} {z : Int32} {rest : List Value} (hret : meth.sig.returnType = some .int) (hd : decode c.code pc = .ok (.ireturn, 1)) {fs : List Frame}
    (hl : ∀ (f : JFrame) (acts : List Action), f.method = m → f.locked = none → f.entered = [] → (doReturn e (T.setTop f) acts (some (.int z))).1 = T.setFrames fs) : Steps p.tables e below (T.setTop (mkF m pc Ls (.int z :: rest))) (T.setFrames fs) := by
  have hm' : T.vm.method? m = some meth := X.method'
  have hn : narrow .int (.int z) = .int z := rfl
  show Steps p.tables e below (T.setTop { method := m, pc := pc, locals := Ls, stack := _ :: rest, locked := none }) _
  jvm_step X.here [X.here.top, hx, hd, hm', hret, hn]
  first | (intro acts; rw [hl _ acts rfl rfl rfl]) | rw [hl _ _ rfl rfl rfl]
  exact Steps.refl _
end New
end Jvm.RoadKit
namespace Jvm.Pilot.@@N@@
open Jvm Jvm.ClassFile Sem Op Lib Jvm.Free Jvm.Stand Jvm.LawKit Jvm.RoadKit Bundle Jvm.Pilot.@@N@@.Jvm.D
/-! THE WALK's GOAL, AND ONE LAW A STEP (each in the form: where the run goes on, it ends well; so it does from here) -/
def Go (p : Program) (e : Env) (below : List Frame) (K : Outcome → State → Prop) (u : State) : Prop := ∃ s₂ o, Steps p.tables e below u s₂ ∧ s₂.status = .running ∧ Ended s₂ below o ∧ K o s₂
theorem Go.step {p : Program} {e : Env} {below : List Frame} {K : Outcome → State → Prop} {u u' : State} (h : ∀ t, Steps p.tables e below u' t → Steps p.tables e below u t) (g : Go p e below K u') : Go p e below K u := by
  obtain ⟨a, o, h1, h2⟩ := g; exact ⟨a, o, h _ h1, h2⟩
def Ends (s : State) (Q : Option Value → Heap → List Loc → Prop) (kc ks : Nat) (o : Outcome) (U : State) : Prop := ∃ v L, o = .returned v ∧ Q v U.heap L ∧ FrameEnd s o U L kc ks
/-- where the run stands, with all that a step asks -/
def Sx (Z : State) (own : String) (bytes : ByteArray) (ml : Nat) (p : Program) (l : Launch) (e : Env) (R : Room) (s : State) (m : MethodId) (args : Array Value) (below : List Frame) (meth : Method) (c : Code) (T : State) (locs : List Loc) (cells slots : Nat) (h : Heap) : Prop :=
  Stand p l e R s m args below meth c T locs cells slots ∧ p.tables.exec = Jvm.exec ∧ c.code = bytes ∧ c.maxLocals = ml ∧ s.vm.findClass own = some m.cls ∧ Z.Warmed39 s.vm ∧ T.heap = h
/-- what a method owes: called at the heap h0 with these arguments it returns, and Q holds -/
abbrev Rm (l : Launch) (Z : State) (y : MethodName) (bytes : ByteArray) (ml : Nat) (ret : Option FieldType) (ws : List Jvm.Cond) (rm : Room) (as' : Array Value) (h0 : Heap) (Q : Option Value → Heap → List Loc → Prop) : Prop :=
  MetFree l y (head1 (Jvm.Cond.code y bytes ml ret :: ws) rm) (fun a U => a = as' ∧ Z.Warmed39 U.vm ∧ U.heap = h0) (fun _ _ _ _ _ => True) (fun _ U o U' => ∃ v L, o = .returned v ∧ Q v U'.heap L ∧ FrameEnd U o U' L rm.cells rm.slots)
theorem Rm.of {l : Launch} {Z : State} {y : MethodName} {bytes : ByteArray} {ml : Nat} {ret : Option FieldType} {ws : List Jvm.Cond} {rm : Room} {as' : Array Value} {h0 : Heap} {Q : Option Value → Heap → List Loc → Prop} (hpl : plainFor y = true)
    (body : ∀ (p : Program) (e : Env) (s : State) (m : MethodId) (below : List Frame) (meth : Method) (c : Code) (T : State), Sx Z y.cls bytes ml p l e rm s m as' below meth c T [] 0 0 h0 → meth.name = y.name → meth.sig.returnType = ret → meth.locks = false → Go p e below (Ends s Q rm.cells rm.slots) (T.setTop (entryFrame m as' ml))) : Rm l Z y bytes ml ret ws rm as' h0 Q := by
  refine MetFree.of_bodySF hpl hisR ?_
  intro p e s m args below meth c s₁ Bd hml0 hP hK
  obtain ⟨rfl, hZ, hh⟩ := hP
  have X0 : Stand p l e rm s m args below meth c s₁ [] 0 0 := Stand.of_body Bd
  exact body p e s m below meth c s₁ ⟨X0, Bd.exec, Bd.bytes, hml0, findClass_of_methodNamed Bd.named, hZ, by rw [← hh, Bd.state]; rfl⟩ (name_of_methodNamed Bd.named Bd.method).1 Bd.returns (BodyLoose.notSynchronized Bd)
theorem Rm.weaken {l : Launch} {Z : State} {y : MethodName} {bytes : ByteArray} {ml : Nat} {ret : Option FieldType} {ws : List Jvm.Cond} {rm : Room} {as' : Array Value} {h0 : Heap} {Q Q' : Option Value → Heap → List Loc → Prop} (M : Rm l Z y bytes ml ret ws rm as' h0 Q) (hq : ∀ v h L, Q v h L → Q' v h L) : Rm l Z y bytes ml ret ws rm as' h0 Q' := by
  intro p e ha hc hk s m args below hf happ hP hK
  obtain ⟨n, o, h1, h2, h3, v, L, e1, q, r⟩ := M p e ha hc hk s m args below hf happ hP hK
  exact ⟨n, o, h1, h2, h3, v, L, e1, hq _ _ _ q, r⟩
/-- an array and all that it holds -/
def Av (Z : State) (h : Heap) (a : Addr) (ty : FieldType) (vs : List Value) : Prop := ∃ c : Cell, Arr Z h a c ty ∧ c.slots.toList = vs ∧ vs.length < 2147483648
section Facts
variable {Z : State} {h h' : Heap} {a b : Addr} {ty : FieldType} {vs : List Value} {sl : Nat} {v : Value} {ws : List Addr}
theorem Av.lt (F : Av Z h a ty vs) : a < h.size := by obtain ⟨c, A, -⟩ := F; exact A.lt
theorem Av.ext (F : Av Z h a ty vs) (E : Ext h h') : Av Z h' a ty vs := by obtain ⟨c, A, r⟩ := F; exact ⟨c, A.ext E, r⟩
theorem Av.other (F : Av Z h b ty vs) (W : Wr h h' a sl v) (q : b ≠ a) : Av Z h' b ty vs := by obtain ⟨c, A, r⟩ := F; exact ⟨c, A.other W q, r⟩
theorem Av.keep (F : Av Z h a ty vs) (K : Keep h h' ws) (q : a ∉ ws) : Av Z h' a ty vs := by obtain ⟨c, A, r⟩ := F; exact ⟨c, ⟨K.2.1 a c A.1 q, A.2⟩, r⟩
theorem Av.set (F : Av Z h a ty vs) (W : Wr h h' a sl v) : Av Z h' a ty (vs.set sl v) := by
  obtain ⟨c, A, e, r⟩ := F
  refine ⟨_, A.same W, ?_, by simpa using r⟩
  subst e
  simp [Cell.setSlot]
theorem Av.eq {vs' : List Value} (F : Av Z h a ty vs) (e : vs = vs') : Av Z h a ty vs' := e ▸ F
/-- an array of which the length is known alone -/
def AvN (Z : State) (h : Heap) (a : Addr) (ty : FieldType) (z : Int32) : Prop := ∃ vs, Av Z h a ty vs ∧ vs.length.toInt32 = z
theorem AvN.lt {z : Int32} (F : AvN Z h a ty z) : a < h.size := by obtain ⟨vs, A, -⟩ := F; exact A.lt
theorem AvN.ext {z : Int32} (F : AvN Z h a ty z) (E : Ext h h') : AvN Z h' a ty z := by obtain ⟨vs, A, r⟩ := F; exact ⟨vs, A.ext E, r⟩
theorem AvN.other {z : Int32} (F : AvN Z h b ty z) (W : Wr h h' a sl v) (q : b ≠ a) : AvN Z h' b ty z := by obtain ⟨vs, A, r⟩ := F; exact ⟨vs, A.other W q, r⟩
theorem AvN.keep {z : Int32} (F : AvN Z h a ty z) (K : Keep h h' ws) (q : a ∉ ws) : AvN Z h' a ty z := by obtain ⟨vs, A, r⟩ := F; exact ⟨vs, A.keep K q, r⟩
theorem Av.len (F : Av Z h a ty vs) : vs.length.toInt32.toInt = vs.length := by obtain ⟨_, _, _, r⟩ := F; exact len_toInt r
/-- an array over objects of the class C -/
def OvA (Z : State) (h : Heap) (a : Addr) (C : String) : Prop := ∃ cl : Cell, Arr Z h a cl (.object C) ∧ Ovr Z cl.cls C
theorem OvA.lt {C : String} (F : OvA Z h a C) : a < h.size := by obtain ⟨_, A, _⟩ := F; exact A.lt
theorem OvA.ext {C : String} (F : OvA Z h a C) (E : Ext h h') : OvA Z h' a C := by obtain ⟨cl, A, r⟩ := F; exact ⟨cl, A.ext E, r⟩
theorem OvA.keep {C : String} (F : OvA Z h a C) (K : Keep h h' ws) (q : a ∉ ws) : OvA Z h' a C := by obtain ⟨c, A, r⟩ := F; exact ⟨c, ⟨K.2.1 a c A.1 q, A.2⟩, r⟩
theorem OvA.wr {C : String} (F : OvA Z h a C) (W : Wr h h' b sl v) : OvA Z h' a C := by
  obtain ⟨cl, A, r⟩ := F
  by_cases q : a = b
  · subst q; exact ⟨_, A.same W, r⟩
  · exact ⟨cl, A.other W q, r⟩
theorem OvA.sto {C : String} (F : OvA Z h a C) (I : Ins Z h b C true) : Sto Z h a (.ref b) := by obtain ⟨cl, A, r⟩ := F; exact Sto.of A r I
theorem fit0 : ∀ v ∈ ([] : List Value), fits ty v = true := fun _ q => nomatch q
theorem fitS (q : fits ty v = true) (r : ∀ w ∈ vs, fits ty w = true) : ∀ w ∈ v :: vs, fits ty w = true := fun w hw => (List.mem_cons.mp hw).elim (fun e => e ▸ q) (r w)
theorem Sta.keep {C n d : String} (F : Sta Z h C n d v) (K : Keep h h' ws) (q : ∀ x ∈ ws, ∀ c : Cell, h[x]? = some c → c.vm.isStatics = false) : Sta Z h' C n d v := by
  obtain ⟨cf, i, k, f, st, cell, h1, h2, h3, h4, h5, h6, h7⟩ := F
  exact ⟨cf, i, k, f, st, cell, h1, h2, h3, h4, K.2.1 _ _ h5 (fun hm => by rw [q _ hm _ h5] at h6; cases h6), h6, h7⟩
end Facts
section Walk
variable {Z : State} {a0 : Array Value} {own : String} {bytes : ByteArray} {ml : Nat} {p : Program} {l : Launch} {e : Env} {R : Room} {s : State} {m : MethodId} {args : Array Value} {below : List Frame} {meth : Method} {c : Code} {T : State} {locs : List Loc} {cells slots : Nat} {h : Heap} {K : Outcome → State → Prop} {pc pc' : Nat} {Ls Ls' : Array Slot} {st : List Value}
theorem Go.lit32 {x z : Int32} (q : x = z) (k : Go p e below K (T.setTop (mkF m pc Ls (.int z :: st)))) : Go p e below K (T.setTop (mkF m pc Ls (.int x :: st))) := q ▸ k
theorem Go.at_ {f f' : JFrame} (q : f = f') (k : Go p e below K (T.setTop f')) : Go p e below K (T.setTop f) := q ▸ k
theorem g_iload (X : Sx Z own bytes ml p l e R s m args below meth c T locs cells slots h) {i : Nat} {v : Int32} (hd : decode bytes pc = .ok (.iload i, 2)) (hp : pc + 2 = pc') (hl : Ls[i]? = some (.val (.int v))) (k : Go p e below K (T.setTop (mkF m pc' Ls (.int v :: st)))) : Go p e below K (T.setTop (mkF m pc Ls (st))) := by
  subst hp; exact Go.step (fun t q => XS.iload X.1.here X.2.1 rfl (hb X.2.2.1 hd) hl q) k
theorem g_iloadN (X : Sx Z own bytes ml p l e R s m args below meth c T locs cells slots h) {i : Fin 4} {v : Int32} (hd : decode bytes pc = .ok (.iload_n i, 1)) (hp : pc + 1 = pc') (hl : Ls[i.val]? = some (.val (.int v))) (k : Go p e below K (T.setTop (mkF m pc' Ls (.int v :: st)))) : Go p e below K (T.setTop (mkF m pc Ls (st))) := by
  subst hp; exact Go.step (fun t q => XS.iloadN X.1.here X.2.1 rfl (hb X.2.2.1 hd) hl q) k
theorem g_aload (X : Sx Z own bytes ml p l e R s m args below meth c T locs cells slots h) {i : Nat} {v : Value} (hd : decode bytes pc = .ok (.aload i, 2)) (hp : pc + 2 = pc') (hl : Ls[i]? = some (.val v)) (hv : v.isRef = true) (k : Go p e below K (T.setTop (mkF m pc' Ls (v :: st)))) : Go p e below K (T.setTop (mkF m pc Ls (st))) := by
  subst hp; exact Go.step (fun t q => XS.aload X.1.here X.2.1 rfl (hb X.2.2.1 hd) hl hv q) k
theorem g_aloadN (X : Sx Z own bytes ml p l e R s m args below meth c T locs cells slots h) {i : Fin 4} {v : Value} (hd : decode bytes pc = .ok (.aload_n i, 1)) (hp : pc + 1 = pc') (hl : Ls[i.val]? = some (.val v)) (hv : v.isRef = true) (k : Go p e below K (T.setTop (mkF m pc' Ls (v :: st)))) : Go p e below K (T.setTop (mkF m pc Ls (st))) := by
  subst hp; exact Go.step (fun t q => XS.aloadN X.1.here X.2.1 rfl (hb X.2.2.1 hd) hl hv q) k
theorem g_istore (X : Sx Z own bytes ml p l e R s m args below meth c T locs cells slots h) {i : Nat} {v : Int32} (hd : decode bytes pc = .ok (.istore i, 2)) (hp : pc + 2 = pc') (hl : storeLocals Ls i (.int v) = some Ls') (k : Go p e below K (T.setTop (mkF m pc' Ls' (st)))) : Go p e below K (T.setTop (mkF m pc Ls (.int v :: st))) := by
  subst hp; exact Go.step (fun t q => XS.istore X.1.here X.2.1 rfl (hb X.2.2.1 hd) rfl hl q) k
theorem g_istoreN (X : Sx Z own bytes ml p l e R s m args below meth c T locs cells slots h) {i : Fin 4} {v : Int32} (hd : decode bytes pc = .ok (.istore_n i, 1)) (hp : pc + 1 = pc') (hl : storeLocals Ls i.val (.int v) = some Ls') (k : Go p e below K (T.setTop (mkF m pc' Ls' (st)))) : Go p e below K (T.setTop (mkF m pc Ls (.int v :: st))) := by
  subst hp; exact Go.step (fun t q => XS.istoreN X.1.here X.2.1 rfl (hb X.2.2.1 hd) rfl hl q) k
theorem g_astore (X : Sx Z own bytes ml p l e R s m args below meth c T locs cells slots h) {i : Nat} {v : Value} (hd : decode bytes pc = .ok (.astore i, 2)) (hp : pc + 2 = pc') (hv : v.isRef = true) (hl : storeLocals Ls i v = some Ls') (k : Go p e below K (T.setTop (mkF m pc' Ls' (st)))) : Go p e below K (T.setTop (mkF m pc Ls (v :: st))) := by
  subst hp; exact Go.step (fun t q => XS.astore X.1.here X.2.1 rfl (hb X.2.2.1 hd) rfl hv hl q) k
theorem g_astoreN (X : Sx Z own bytes ml p l e R s m args below meth c T locs cells slots h) {i : Fin 4} {v : Value} (hd : decode bytes pc = .ok (.astore_n i, 1)) (hp : pc + 1 = pc') (hv : v.isRef = true) (hl : storeLocals Ls i.val v = some Ls') (k : Go p e below K (T.setTop (mkF m pc' Ls' (st)))) : Go p e below K (T.setTop (mkF m pc Ls (v :: st))) := by
  subst hp; exact Go.step (fun t q => XS.astoreN X.1.here X.2.1 rfl (hb X.2.2.1 hd) rfl hv hl q) k
theorem g_iconst (X : Sx Z own bytes ml p l e R s m args below meth c T locs cells slots h) {i : Int} (v : Int32) (hd : decode bytes pc = .ok (.iconst i, 1)) (hp : pc + 1 = pc') (hv : Int32.ofInt i = v) (k : Go p e below K (T.setTop (mkF m pc' Ls (.int v :: st)))) : Go p e below K (T.setTop (mkF m pc Ls (st))) := by
  subst hv; subst hp; exact Go.step (fun t q => XS.iconst X.1.here X.2.1 rfl (hb X.2.2.1 hd)  q) k
theorem g_bipush (X : Sx Z own bytes ml p l e R s m args below meth c T locs cells slots h) {i : Int} (v : Int32) (hd : decode bytes pc = .ok (.bipush i, 2)) (hp : pc + 2 = pc') (hv : (Int8.ofInt i).toInt32 = v) (k : Go p e below K (T.setTop (mkF m pc' Ls (.int v :: st)))) : Go p e below K (T.setTop (mkF m pc Ls (st))) := by
  subst hv; subst hp; exact Go.step (fun t q => XS.bipush X.1.here X.2.1 rfl (hb X.2.2.1 hd)  q) k
theorem g_sipush (X : Sx Z own bytes ml p l e R s m args below meth c T locs cells slots h) {i : Int} (v : Int32) (hd : decode bytes pc = .ok (.sipush i, 3)) (hp : pc + 3 = pc') (hv : (Int16.ofInt i).toInt32 = v) (k : Go p e below K (T.setTop (mkF m pc' Ls (.int v :: st)))) : Go p e below K (T.setTop (mkF m pc Ls (st))) := by
  subst hv; subst hp; exact Go.step (fun t q => XS.sipush X.1.here X.2.1 rfl (hb X.2.2.1 hd)  q) k
theorem g_aconst_null (X : Sx Z own bytes ml p l e R s m args below meth c T locs cells slots h) (hd : decode bytes pc = .ok (.aconst_null, 1)) (hp : pc + 1 = pc') (k : Go p e below K (T.setTop (mkF m pc' Ls (.null :: st)))) : Go p e below K (T.setTop (mkF m pc Ls (st))) := by
  subst hp; exact Go.step (fun t q => XS.aconstNull X.1.here X.2.1 rfl (hb X.2.2.1 hd)  q) k
theorem g_ldc (X : Sx Z own bytes ml p l e R s m args below meth c T locs cells slots h) {i : Nat} {v : Int32} (w : (Cond.constant own i v).before a0 Z = true) (hd : decode bytes pc = .ok (.ldc i, 2)) (hp : pc + 2 = pc') (k : Go p e below K (T.setTop (mkF m pc' Ls (.int v :: st)))) : Go p e below K (T.setTop (mkF m pc Ls (st))) := by
  subst hp; exact Go.step (fun t q => X.1.ldcInt X.2.1 X.2.2.2.2.1 (mvT X.2.2.2.2.2.1 w) (g := mkF m pc Ls st) rfl (hb X.2.2.1 hd) _ q) k
theorem g_iadd (X : Sx Z own bytes ml p l e R s m args below meth c T locs cells slots h) {x y : Int32} (hd : decode bytes pc = .ok (.iadd, 1)) (hp : pc + 1 = pc') (k : Go p e below K (T.setTop (mkF m pc' Ls (.int (x + y) :: st)))) : Go p e below K (T.setTop (mkF m pc Ls (.int y :: .int x :: st))) := by
  subst hp; exact Go.step (fun t q => XS.iadd X.1.here X.2.1 rfl (hb X.2.2.1 hd) rfl q) k
theorem g_isub (X : Sx Z own bytes ml p l e R s m args below meth c T locs cells slots h) {x y : Int32} (hd : decode bytes pc = .ok (.isub, 1)) (hp : pc + 1 = pc') (k : Go p e below K (T.setTop (mkF m pc' Ls (.int (x - y) :: st)))) : Go p e below K (T.setTop (mkF m pc Ls (.int y :: .int x :: st))) := by
  subst hp; exact Go.step (fun t q => XS.isub X.1.here X.2.1 rfl (hb X.2.2.1 hd) rfl q) k
theorem g_iand (X : Sx Z own bytes ml p l e R s m args below meth c T locs cells slots h) {x y : Int32} (hd : decode bytes pc = .ok (.iand, 1)) (hp : pc + 1 = pc') (k : Go p e below K (T.setTop (mkF m pc' Ls (.int (x &&& y) :: st)))) : Go p e below K (T.setTop (mkF m pc Ls (.int y :: .int x :: st))) := by
  subst hp; exact Go.step (fun t q => XS.iand X.1.here X.2.1 rfl (hb X.2.2.1 hd) rfl q) k
theorem g_ior (X : Sx Z own bytes ml p l e R s m args below meth c T locs cells slots h) {x y : Int32} (hd : decode bytes pc = .ok (.ior, 1)) (hp : pc + 1 = pc') (k : Go p e below K (T.setTop (mkF m pc' Ls (.int (x ||| y) :: st)))) : Go p e below K (T.setTop (mkF m pc Ls (.int y :: .int x :: st))) := by
  subst hp; exact Go.step (fun t q => XS.ior X.1.here X.2.1 rfl (hb X.2.2.1 hd) rfl q) k
theorem g_iushr (X : Sx Z own bytes ml p l e R s m args below meth c T locs cells slots h) {x y : Int32} (hd : decode bytes pc = .ok (.iushr, 1)) (hp : pc + 1 = pc') (k : Go p e below K (T.setTop (mkF m pc' Ls (.int ((x.toUInt32 >>> (y &&& 31).toUInt32).toInt32) :: st)))) : Go p e below K (T.setTop (mkF m pc Ls (.int y :: .int x :: st))) := by
  subst hp; exact Go.step (fun t q => XS.iushr X.1.here X.2.1 rfl (hb X.2.2.1 hd) rfl q) k
theorem g_irem (X : Sx Z own bytes ml p l e R s m args below meth c T locs cells slots h) {x y : Int32} (hd : decode bytes pc = .ok (.irem, 1)) (hp : pc + 1 = pc') (hy : y ≠ 0) (k : Go p e below K (T.setTop (mkF m pc' Ls (.int (x % y) :: st)))) : Go p e below K (T.setTop (mkF m pc Ls (.int y :: .int x :: st))) := by
  subst hp; exact Go.step (fun t q => iremM (g := mkF m pc Ls (.int y :: .int x :: st)) X.1 X.2.1 rfl (hb X.2.2.1 hd) rfl hy q) k
theorem g_i2b (X : Sx Z own bytes ml p l e R s m args below meth c T locs cells slots h) {x : Int32} (hd : decode bytes pc = .ok (.i2b, 1)) (hp : pc + 1 = pc') (k : Go p e below K (T.setTop (mkF m pc' Ls (.int (x.toInt8.toInt32) :: st)))) : Go p e below K (T.setTop (mkF m pc Ls (.int x :: st))) := by
  subst hp; exact Go.step (fun t q => XS.i2b X.1.here X.2.1 rfl (hb X.2.2.1 hd) rfl q) k
theorem g_i2c (X : Sx Z own bytes ml p l e R s m args below meth c T locs cells slots h) {x : Int32} (hd : decode bytes pc = .ok (.i2c, 1)) (hp : pc + 1 = pc') (k : Go p e below K (T.setTop (mkF m pc' Ls (.int (x.toUInt32.toUInt16.toUInt32.toInt32) :: st)))) : Go p e below K (T.setTop (mkF m pc Ls (.int x :: st))) := by
  subst hp; exact Go.step (fun t q => XS.i2c X.1.here X.2.1 rfl (hb X.2.2.1 hd) rfl q) k
theorem g_iinc (X : Sx Z own bytes ml p l e R s m args below meth c T locs cells slots h) {i : Nat} {q x : Int32} {n : Int} (hd : decode bytes pc = .ok (.iinc i n, 3)) (hp : pc + 3 = pc') (hq : Int32.ofInt n = q) (hl : Ls[i]? = some (.val (.int x))) (hl' : storeLocals Ls i (.int (x + q)) = some Ls') (k : Go p e below K (T.setTop (mkF m pc' Ls' (st)))) : Go p e below K (T.setTop (mkF m pc Ls (st))) := by
  subst hq; subst hp; exact Go.step (fun t q => XS.iinc X.1.here X.2.1 rfl (hb X.2.2.1 hd) hl hl' q) k
theorem g_dup (X : Sx Z own bytes ml p l e R s m args below meth c T locs cells slots h) {v : Value} (hd : decode bytes pc = .ok (.dup, 1)) (hp : pc + 1 = pc') (hc : v.category = 1) (k : Go p e below K (T.setTop (mkF m pc' Ls (v :: v :: st)))) : Go p e below K (T.setTop (mkF m pc Ls (v :: st))) := by
  subst hp; exact Go.step (fun t q => XS.dup X.1.here X.2.1 rfl (hb X.2.2.1 hd) rfl hc q) k
theorem g_dup2 (X : Sx Z own bytes ml p l e R s m args below meth c T locs cells slots h) {v w : Value} (hd : decode bytes pc = .ok (.dup2, 1)) (hp : pc + 1 = pc') (hc : v.category = 1) (hc' : w.category = 1) (k : Go p e below K (T.setTop (mkF m pc' Ls (v :: w :: v :: w :: st)))) : Go p e below K (T.setTop (mkF m pc Ls (v :: w :: st))) := by
  subst hp; exact Go.step (fun t q => Jvm.Free.XT.dup2 X.1.here X.2.1 rfl (hb X.2.2.1 hd) rfl hc hc' q) k
theorem g_goto (X : Sx Z own bytes ml p l e R s m args below meth c T locs cells slots h) {o : Int} (hd : decode bytes pc = .ok (.goto o, 3)) (ho : 0 ≤ (pc : Int) + o) (hp : ((pc : Int) + o).toNat = pc') (k : Go p e below K (T.setTop (mkF m pc' Ls (st)))) : Go p e below K (T.setTop (mkF m pc Ls (st))) := by
  exact Go.step (fun t q => XS.goto X.1.here X.2.1 rfl rfl (hb X.2.2.1 hd) ho hp q) k
theorem g_ifY (X : Sx Z own bytes ml p l e R s m args below meth c T locs cells slots h) {cd : ClassFile.Cond} {x : Int32} {o : Int} (hd : decode bytes pc = .ok (.ifCond cd o, 3)) (hc : ifCond.holds cd x = true) (ho : 0 ≤ (pc : Int) + o) (hp : ((pc : Int) + o).toNat = pc') (k : Go p e below K (T.setTop (mkF m pc' Ls (st)))) : Go p e below K (T.setTop (mkF m pc Ls (.int x :: st))) := by
  exact Go.step (fun t q => XS.ifYes X.1.here X.2.1 rfl rfl (hb X.2.2.1 hd) rfl hc ho hp q) k
theorem g_ifN (X : Sx Z own bytes ml p l e R s m args below meth c T locs cells slots h) {cd : ClassFile.Cond} {x : Int32} {o : Int} (hd : decode bytes pc = .ok (.ifCond cd o, 3)) (hc : ifCond.holds cd x = false) (hp : pc + 3 = pc') (k : Go p e below K (T.setTop (mkF m pc' Ls (st)))) : Go p e below K (T.setTop (mkF m pc Ls (.int x :: st))) := by
  subst hp; exact Go.step (fun t q => XS.ifNo X.1.here X.2.1 rfl (hb X.2.2.1 hd) rfl hc q) k
theorem g_icY (X : Sx Z own bytes ml p l e R s m args below meth c T locs cells slots h) {cd : ClassFile.Cond} {x y : Int32} {o : Int} (hd : decode bytes pc = .ok (.if_icmp cd o, 3)) (hc : if_icmp.holds cd x y = true) (ho : 0 ≤ (pc : Int) + o) (hp : ((pc : Int) + o).toNat = pc') (k : Go p e below K (T.setTop (mkF m pc' Ls (st)))) : Go p e below K (T.setTop (mkF m pc Ls (.int y :: .int x :: st))) := by
  exact Go.step (fun t q => XS.icmpYes X.1.here X.2.1 rfl rfl (hb X.2.2.1 hd) rfl hc ho hp q) k
theorem g_icN (X : Sx Z own bytes ml p l e R s m args below meth c T locs cells slots h) {cd : ClassFile.Cond} {x y : Int32} {o : Int} (hd : decode bytes pc = .ok (.if_icmp cd o, 3)) (hc : if_icmp.holds cd x y = false) (hp : pc + 3 = pc') (k : Go p e below K (T.setTop (mkF m pc' Ls (st)))) : Go p e below K (T.setTop (mkF m pc Ls (.int y :: .int x :: st))) := by
  subst hp; exact Go.step (fun t q => XS.icmpNo X.1.here X.2.1 rfl (hb X.2.2.1 hd) rfl hc q) k
theorem g_nonnullY (X : Sx Z own bytes ml p l e R s m args below meth c T locs cells slots h) {o : Int} {b : Addr} (hd : decode bytes pc = .ok (.ifnonnull o, 3)) (ho : 0 ≤ (pc : Int) + o) (hp : ((pc : Int) + o).toNat = pc') (k : Go p e below K (T.setTop (mkF m pc' Ls (st)))) : Go p e below K (T.setTop (mkF m pc Ls (.ref b :: st))) := by
  exact Go.step (fun t q => XS.ifnonnullYes X.1.here X.2.1 rfl rfl (hb X.2.2.1 hd) rfl ho hp q) k
theorem g_acmp (X : Sx Z own bytes ml p l e R s m args below meth c T locs cells slots h) {cd : ACond} {x y : Value} {o : Int} {same : Bool} (hd : decode bytes pc = .ok (.if_acmp cd o, 3)) (h1 : x.isRef = true) (h2 : y.isRef = true) (hq : decide (x = y) = same) (ho : 0 ≤ (pc : Int) + o) (hp : pc' = if acV cd same = true then ((pc : Int) + o).toNat else pc + 3) (k : Go p e below K (T.setTop (mkF m pc' Ls (st)))) : Go p e below K (T.setTop (mkF m pc Ls (y :: x :: st))) := by
  exact Go.step (fun t q => acmp (g := mkF m pc Ls (y :: x :: st)) X.1 X.2.1 rfl h1 h2 rfl (hb X.2.2.1 hd) rfl hq ho hp q) k
theorem g_iaload (X : Sx Z own bytes ml p l e R s m args below meth c T locs cells slots h) {a : Addr} {vs : List Value} {j : Int32} {x : Int32} (A : Av Z h a .int vs) (n : Nat) (hd : decode bytes pc = .ok (.iaload, 1)) (hp : pc + 1 = pc') (hj : ¬ j < 0) (hn : j.toNatClampNeg = n) (hv : vs[n]? = some (.int x)) (k : Go p e below K (T.setTop (mkF m pc' Ls (.int x :: st)))) : Go p e below K (T.setTop (mkF m pc Ls (.int j :: .ref a :: st))) := by
  obtain ⟨cl, A, rfl, r⟩ := A; subst hn; subst hp
  have hv' : cl.slots[j.toNatClampNeg]? = some (.int x) := by rw [← Array.getElem?_toList]; exact hv
  exact Go.step (fun t q => X.1.iaload X.2.1 (j := j) (by rw [X.2.2.2.2.2.2]; exact A.1) (State.isArrayOf_alike X.2.2.2.2.2.1.alike A.2.1) A.2.2 (fun hh => hh.elim hj (fun hh => absurd (Array.getElem?_eq_some_iff.mp hv').1 (Nat.not_lt.mpr hh))) hv' (g := mkF m pc Ls (.int j :: .ref a :: st)) rfl rfl (hb X.2.2.1 hd) _ q) k
theorem g_caload (X : Sx Z own bytes ml p l e R s m args below meth c T locs cells slots h) {a : Addr} {vs : List Value} {j : Int32} {x : Int32} (A : Av Z h a .char vs) (n : Nat) (hd : decode bytes pc = .ok (.caload, 1)) (hp : pc + 1 = pc') (hj : ¬ j < 0) (hn : j.toNatClampNeg = n) (hv : vs[n]? = some (.int x)) (k : Go p e below K (T.setTop (mkF m pc' Ls (.int x :: st)))) : Go p e below K (T.setTop (mkF m pc Ls (.int j :: .ref a :: st))) := by
  obtain ⟨cl, A, rfl, r⟩ := A; subst hn; subst hp
  have hv' : cl.slots[j.toNatClampNeg]? = some (.int x) := by rw [← Array.getElem?_toList]; exact hv
  exact Go.step (fun t q => X.1.caload X.2.1 (j := j) (by rw [X.2.2.2.2.2.2]; exact A.1) (State.isArrayOf_alike X.2.2.2.2.2.1.alike A.2.1) A.2.2 (fun hh => hh.elim hj (fun hh => absurd (Array.getElem?_eq_some_iff.mp hv').1 (Nat.not_lt.mpr hh))) hv' (g := mkF m pc Ls (.int j :: .ref a :: st)) rfl rfl (hb X.2.2.1 hd) _ q) k
theorem g_baload (X : Sx Z own bytes ml p l e R s m args below meth c T locs cells slots h) {a : Addr} {vs : List Value} {j : Int32} {x : Int32} (A : Av Z h a .byte vs) (n : Nat) (hd : decode bytes pc = .ok (.baload, 1)) (hp : pc + 1 = pc') (hj : ¬ j < 0) (hn : j.toNatClampNeg = n) (hv : vs[n]? = some (.int x)) (k : Go p e below K (T.setTop (mkF m pc' Ls (.int x :: st)))) : Go p e below K (T.setTop (mkF m pc Ls (.int j :: .ref a :: st))) := by
  obtain ⟨cl, A, rfl, r⟩ := A; subst hn; subst hp
  have hv' : cl.slots[j.toNatClampNeg]? = some (.int x) := by rw [← Array.getElem?_toList]; exact hv
  exact Go.step (fun t q => X.1.baloadBytes X.2.1 (j := j) (by rw [X.2.2.2.2.2.2]; exact A.1) (State.isArrayOf_alike X.2.2.2.2.2.1.alike A.2.1) A.2.2 (fun hh => hh.elim hj (fun hh => absurd (Array.getElem?_eq_some_iff.mp hv').1 (Nat.not_lt.mpr hh))) hv' (g := mkF m pc Ls (.int j :: .ref a :: st)) rfl rfl (hb X.2.2.1 hd) _ q) k
theorem g_aaload (X : Sx Z own bytes ml p l e R s m args below meth c T locs cells slots h) {a : Addr} {vs : List Value} {j : Int32} {v : Value} {ty : FieldType} (A : Av Z h a ty vs) (n : Nat) (hd : decode bytes pc = .ok (.aaload, 1)) (hp : pc + 1 = pc') (hty : ty.isReference = true) (hj : ¬ j < 0) (hn : j.toNatClampNeg = n) (hv : vs[n]? = some v) (k : Go p e below K (T.setTop (mkF m pc' Ls (v :: st)))) : Go p e below K (T.setTop (mkF m pc Ls (.int j :: .ref a :: st))) := by
  obtain ⟨cl, A, rfl, r⟩ := A; subst hn; subst hp
  have hv' : cl.slots[j.toNatClampNeg]? = some v := by rw [← Array.getElem?_toList]; exact hv
  exact Go.step (fun t q => X.1.aaload X.2.1 (j := j) (by rw [X.2.2.2.2.2.2]; exact A.1) (State.isArrayOf_alike X.2.2.2.2.2.1.alike A.2.1) hty A.2.2 (fun hh => hh.elim hj (fun hh => absurd (Array.getElem?_eq_some_iff.mp hv').1 (Nat.not_lt.mpr hh))) hv' (g := mkF m pc Ls (.int j :: .ref a :: st)) rfl rfl (hb X.2.2.1 hd) _ q) k
theorem g_arraylength (X : Sx Z own bytes ml p l e R s m args below meth c T locs cells slots h) {a : Addr} {vs : List Value} {ty : FieldType} (A : Av Z h a ty vs) (hd : decode bytes pc = .ok (.arraylength, 1)) (hp : pc + 1 = pc') {z : Int32} (hz : vs.length.toInt32 = z) (k : Go p e below K (T.setTop (mkF m pc' Ls (.int z :: st)))) : Go p e below K (T.setTop (mkF m pc Ls (.ref a :: st))) := by
  obtain ⟨cl, A, rfl, r⟩ := A; subst hp
  rw [Array.length_toList] at hz; subst hz
  exact Go.step (fun t q => X.1.arraylength X.2.1 (by rw [X.2.2.2.2.2.2]; exact A.1) (State.isArrayOf_alike X.2.2.2.2.2.1.alike A.2.1) (g := mkF m pc Ls (.ref a :: st)) rfl rfl (hb X.2.2.1 hd) _ q) k
theorem g_iastore (X : Sx Z own bytes ml p l e R s m args below meth c T locs cells slots h) {a : Addr} {vs : List Value} {j : Int32} {x : Int32} (A : Av Z h a .int vs) (n : Nat) (hd : decode bytes pc = .ok (.iastore, 1)) (hp : pc + 1 = pc') (hj : ¬ j < 0) (hn : j.toNatClampNeg = n) (hlt : n < vs.length) (k : ∀ T' h', Sx Z own bytes ml p l e R s m args below meth c T' (locs ++ [⟨a, n⟩]) cells slots h' → Wr h h' a n (.int x) → Av Z h' a .int (vs.set n (.int x)) → Go p e below K (T'.setTop (mkF m pc' Ls (st)))) : Go p e below K (T.setTop (mkF m pc Ls (.int x :: .int j :: .ref a :: st))) := by
  obtain ⟨cl, A, rfl, r⟩ := A; subst hn; subst hp
  obtain ⟨T', h', X', e', W, stp⟩ := stI X.1 X.2.1 X.2.2.2.2.2.1 X.2.2.2.2.2.2 A (j := j) (fun hh => hh.elim hj (fun hh => absurd hlt (by simpa using hh))) (g := mkF m pc Ls (.int x :: .int j :: .ref a :: st)) rfl rfl (hb X.2.2.1 hd)
  exact Go.step (fun t q => stp _ q) (k T' h' ⟨X', X.2.1, X.2.2.1, X.2.2.2.1, X.2.2.2.2.1, X.2.2.2.2.2.1, e'⟩ W (Av.set ⟨cl, A, rfl, r⟩ W))
theorem g_castore (X : Sx Z own bytes ml p l e R s m args below meth c T locs cells slots h) {a : Addr} {vs : List Value} {j : Int32} {x : Int32} (A : Av Z h a .char vs) (n : Nat) (hd : decode bytes pc = .ok (.castore, 1)) (hp : pc + 1 = pc') (hj : ¬ j < 0) (hn : j.toNatClampNeg = n) (hlt : n < vs.length) (k : ∀ T' h', Sx Z own bytes ml p l e R s m args below meth c T' (locs ++ [⟨a, n⟩]) cells slots h' → Wr h h' a n (.int (nar .char x)) → Av Z h' a .char (vs.set n (.int (nar .char x))) → Go p e below K (T'.setTop (mkF m pc' Ls (st)))) : Go p e below K (T.setTop (mkF m pc Ls (.int x :: .int j :: .ref a :: st))) := by
  obtain ⟨cl, A, rfl, r⟩ := A; subst hn; subst hp
  obtain ⟨T', h', X', e', W, stp⟩ := stC X.1 X.2.1 X.2.2.2.2.2.1 X.2.2.2.2.2.2 A (j := j) (fun hh => hh.elim hj (fun hh => absurd hlt (by simpa using hh))) (g := mkF m pc Ls (.int x :: .int j :: .ref a :: st)) rfl rfl (hb X.2.2.1 hd)
  exact Go.step (fun t q => stp _ q) (k T' h' ⟨X', X.2.1, X.2.2.1, X.2.2.2.1, X.2.2.2.2.1, X.2.2.2.2.2.1, e'⟩ W (Av.set ⟨cl, A, rfl, r⟩ W))
theorem g_bastore (X : Sx Z own bytes ml p l e R s m args below meth c T locs cells slots h) {a : Addr} {vs : List Value} {j : Int32} {x : Int32} (A : Av Z h a .byte vs) (n : Nat) (hd : decode bytes pc = .ok (.bastore, 1)) (hp : pc + 1 = pc') (hj : ¬ j < 0) (hn : j.toNatClampNeg = n) (hlt : n < vs.length) (k : ∀ T' h', Sx Z own bytes ml p l e R s m args below meth c T' (locs ++ [⟨a, n⟩]) cells slots h' → Wr h h' a n (.int (nar .byte x)) → Av Z h' a .byte (vs.set n (.int (nar .byte x))) → Go p e below K (T'.setTop (mkF m pc' Ls (st)))) : Go p e below K (T.setTop (mkF m pc Ls (.int x :: .int j :: .ref a :: st))) := by
  obtain ⟨cl, A, rfl, r⟩ := A; subst hn; subst hp
  obtain ⟨T', h', X', e', W, stp⟩ := stB X.1 X.2.1 X.2.2.2.2.2.1 X.2.2.2.2.2.2 A (j := j) (fun hh => hh.elim hj (fun hh => absurd hlt (by simpa using hh))) (g := mkF m pc Ls (.int x :: .int j :: .ref a :: st)) rfl rfl (hb X.2.2.1 hd)
  exact Go.step (fun t q => stp _ q) (k T' h' ⟨X', X.2.1, X.2.2.1, X.2.2.2.1, X.2.2.2.2.1, X.2.2.2.2.2.1, e'⟩ W (Av.set ⟨cl, A, rfl, r⟩ W))
theorem g_aastore (X : Sx Z own bytes ml p l e R s m args below meth c T locs cells slots h) {a : Addr} {vs : List Value} {j : Int32} {v : Value} {ty : FieldType} (A : Av Z h a ty vs) (S : Sto Z h a v) (n : Nat) (hd : decode bytes pc = .ok (.aastore, 1)) (hp : pc + 1 = pc') (hty : ty.isReference = true) (hj : ¬ j < 0) (hn : j.toNatClampNeg = n) (hlt : n < vs.length) (k : ∀ T' h', Sx Z own bytes ml p l e R s m args below meth c T' (locs ++ [⟨a, n⟩]) cells slots h' → Wr h h' a n v → Av Z h' a ty (vs.set n v) → Go p e below K (T'.setTop (mkF m pc' Ls (st)))) : Go p e below K (T.setTop (mkF m pc Ls (v :: .int j :: .ref a :: st))) := by
  obtain ⟨cl, A, rfl, r⟩ := A; subst hn; subst hp
  obtain ⟨T', h', X', e', W, stp⟩ := stR X.1 X.2.1 X.2.2.2.2.2.1 X.2.2.2.2.2.2 A (j := j) (fun hh => hh.elim hj (fun hh => absurd hlt (by simpa using hh))) hty S (g := mkF m pc Ls (v :: .int j :: .ref a :: st)) rfl rfl (hb X.2.2.1 hd)
  exact Go.step (fun t q => stp _ q) (k T' h' ⟨X', X.2.1, X.2.2.1, X.2.2.2.1, X.2.2.2.2.1, X.2.2.2.2.2.1, e'⟩ W (Av.set ⟨cl, A, rfl, r⟩ W))
theorem g_newarray (X : Sx Z own bytes ml p l e R s m args below meth c T locs cells slots h) {aty : ArrayType} {z : Int32} {vs : List Value} {ad : String} (n : Nat) (w : (Cond.arrayClass (newarray.typeOf aty)).before a0 Z = true) (hd : decode bytes pc = .ok (.newarray aty, 2)) (hp : pc + 2 = pc') (hz : ¬ z < 0) (hn : z.toNatClampNeg = n) (cap : Nat) (hcap : n ≤ cap) (hbig : cap * 8 ≤ 536870912) (hc : cells + 1 ≤ R.cells) (hl : slots + cap ≤ R.slots) (hvs : List.replicate n (defaultValue (newarray.typeOf aty)) = vs) (had : "[" ++ (newarray.typeOf aty).toString = ad) (k : ∀ T' h' (a : Addr), a = h.size → Sx Z own bytes ml p l e R s m args below meth c T' locs (cells + 1) (slots + cap) h' → Ext h h' → Exa Z h' a ad → Av Z h' a (newarray.typeOf aty) vs → Go p e below K (T'.setTop (mkF m pc' Ls (.ref a :: st)))) : Go p e below K (T.setTop (mkF m pc Ls (.int z :: st))) := by
  subst hn; subst hp; subst hvs
  obtain ⟨T', h', cA, X', e', E, A, B, stp⟩ := newPE X.1 X.2.1 X.2.2.2.2.2.1 w X.2.2.2.2.2.2 (g := mkF m pc Ls (.int z :: st)) rfl (hb X.2.2.1 hd) rfl hz hcap hbig hc hl had
  refine Go.step (fun t q => stp _ q) (k T' h' _ rfl ⟨X', X.2.1, X.2.2.1, X.2.2.2.1, X.2.2.2.2.1, X.2.2.2.2.2.1, e'⟩ E B ⟨_, A, by simp [newA], ?_⟩)
  simp only [List.length_replicate]
  exact (back32 hz).2
theorem g_anewarray (X : Sx Z own bytes ml p l e R s m args below meth c T locs cells slots h) {i : Nat} {C : String} {z : Int32} {vs : List Value} {ad : String} (n : Nat) (w1 : (Cond.classLink own i C).before a0 Z = true) (w2 : (Cond.arrayOver (.object C)).before a0 Z = true) (hd : decode bytes pc = .ok (.anewarray i, 3)) (hp : pc + 3 = pc') (hz : ¬ z < 0) (hn : z.toNatClampNeg = n) (cap : Nat) (hcap : n ≤ cap) (hbig : cap * 8 ≤ 536870912) (hc : cells + 1 ≤ R.cells) (hl : slots + cap ≤ R.slots) (hvs : List.replicate n .null = vs) (had : "[" ++ (FieldType.object C).toString = ad) (k : ∀ T' h' (a : Addr), a = h.size → Sx Z own bytes ml p l e R s m args below meth c T' locs (cells + 1) (slots + cap) h' → Ext h h' → Exa Z h' a ad → Av Z h' a (.object C) vs → OvA Z h' a C → Go p e below K (T'.setTop (mkF m pc' Ls (.ref a :: st)))) : Go p e below K (T.setTop (mkF m pc Ls (.int z :: st))) := by
  subst hn; subst hp; subst hvs
  obtain ⟨T', h', cA, X', e', E, A, B, O, stp⟩ := newRE X.1 X.2.1 X.2.2.2.2.2.1 X.2.2.2.2.1 w1 w2 X.2.2.2.2.2.2 (g := mkF m pc Ls (.int z :: st)) rfl (hb X.2.2.1 hd) rfl hz hcap hbig hc hl had
  refine Go.step (fun t q => stp _ q) (k T' h' _ rfl ⟨X', X.2.1, X.2.2.1, X.2.2.2.1, X.2.2.2.2.1, X.2.2.2.2.2.1, e'⟩ E B ⟨_, A, by simp [newA, defaultValue], ?_⟩ ⟨_, A, O⟩)
  simp only [List.length_replicate]
  exact (back32 hz).2
theorem g_new (X : Sx Z own bytes ml p l e R s m args below meth c T locs cells slots h) {i n : Nat} {C : String} (w1 : (Cond.classLink own i C).before a0 Z = true) (w2 : (Cond.instantiable C n).before a0 Z = true) (w3 : (Cond.initialized C).before a0 Z = true) (hd : decode bytes pc = .ok (.new i, 3)) (hp : pc + 3 = pc') (hc : cells + 1 ≤ R.cells) (hl : slots + n ≤ R.slots) (k : ∀ T' h' (a : Addr), a = h.size → Sx Z own bytes ml p l e R s m args below meth c T' locs (cells + 1) (slots + n) h' → Ext h h' → Exa Z h' a C → (∀ {O nm d : String} {ty : FieldType}, Laid Z a0 C O nm d → parseFieldDescriptor d = some ty → Fld Z h' a O nm d (defaultValue ty)) → Go p e below K (T'.setTop (mkF m pc' Ls (.ref a :: st)))) : Go p e below K (T.setTop (mkF m pc Ls (st))) := by
  subst hp
  obtain ⟨T', h', X', e', E, A, D, -, stp⟩ := newO X.1 X.2.1 X.2.2.2.2.2.1 X.2.2.2.2.1 w1 w2 w3 X.2.2.2.2.2.2 (g := mkF m pc Ls st) rfl (hb X.2.2.1 hd) hc hl
  exact Go.step (fun t q => stp _ q) (k T' h' _ rfl ⟨X', X.2.1, X.2.2.1, X.2.2.2.1, X.2.2.2.2.1, X.2.2.2.2.2.1, e'⟩ E A D)
theorem g_getfield (X : Sx Z own bytes ml p l e R s m args below meth c T locs cells slots h) {i : Nat} {R0 O nm d host : String} {a : Addr} {v : Value} (w : (Cond.fieldLink own i R0 nm d).before a0 Z = true ∨ (Cond.fieldLinkNest own i R0 nm d host).before a0 Z = true) (via : Via Z R0 O nm d) (F : Fld Z h a O nm d v) (hd : decode bytes pc = .ok (.getfield i, 3)) (hp : pc + 3 = pc') (k : ∀ T', Sx Z own bytes ml p l e R s m args below meth c T' locs cells slots h → Go p e below K (T'.setTop (mkF m pc' Ls (v :: st)))) : Go p e below K (T.setTop (mkF m pc Ls (.ref a :: st))) := by
  subst hp
  obtain ⟨T', X', e', stp⟩ := getF X.1 X.2.1 X.2.2.2.2.2.1 X.2.2.2.2.1 w via X.2.2.2.2.2.2 F (g := mkF m pc Ls (.ref a :: st)) rfl rfl (hb X.2.2.1 hd)
  exact Go.step (fun t q => stp _ q) (k T' ⟨X', X.2.1, X.2.2.1, X.2.2.2.1, X.2.2.2.2.1, X.2.2.2.2.2.1, e'⟩)
theorem g_getstatic (X : Sx Z own bytes ml p l e R s m args below meth c T locs cells slots h) {i : Nat} {R0 O nm d host : String} {v : Value} (w : (Cond.fieldLink own i R0 nm d).before a0 Z = true ∨ (Cond.fieldLinkNest own i R0 nm d host).before a0 Z = true) (via : Via Z R0 O nm d) (F : Sta Z h O nm d v) (hd : decode bytes pc = .ok (.getstatic i, 3)) (hp : pc + 3 = pc') (k : ∀ T', Sx Z own bytes ml p l e R s m args below meth c T' locs cells slots h → Go p e below K (T'.setTop (mkF m pc' Ls (v :: st)))) : Go p e below K (T.setTop (mkF m pc Ls (st))) := by
  subst hp
  obtain ⟨T', X', e', stp⟩ := getS2 X.1 X.2.1 X.2.2.2.2.2.1 X.2.2.2.2.1 w via X.2.2.2.2.2.2 F (g := mkF m pc Ls st) rfl (hb X.2.2.1 hd)
  exact Go.step (fun t q => stp _ q) (k T' ⟨X', X.2.1, X.2.2.1, X.2.2.2.1, X.2.2.2.2.1, X.2.2.2.2.2.1, e'⟩)
theorem g_putfield (X : Sx Z own bytes ml p l e R s m args below meth c T locs cells slots h) {i kk : Nat} {R0 O nm d host C : String} {a : Addr} {v old : Value} {ty : FieldType} (w : (Cond.fieldLink own i R0 nm d).before a0 Z = true ∨ (Cond.fieldLinkNest own i R0 nm d host).before a0 Z = true) (via : Via Z R0 O nm d) (F : Fld Z h a O nm d old) (E : Exa Z h a C) (L : (Cond.lays C O nm d).before a0 Z = true ∨ ((Cond.laysFinal C O nm d).before a0 Z = true ∧ own = O ∧ meth.name = "<init>")) (wi : (Cond.instantiable C kk).before a0 Z = true) (hty : parseFieldDescriptor d = some ty) (hn : narrow ty v = v) (hf : fits ty v = true) (hd : decode bytes pc = .ok (.putfield i, 3)) (hp : pc + 3 = pc') (k : ∀ T' h', Sx Z own bytes ml p l e R s m args below meth c T' (locs ++ [⟨a, RoadKit.slotOf Z O nm d⟩]) cells slots h' → Wr h h' a (RoadKit.slotOf Z O nm d) v → Go p e below K (T'.setTop (mkF m pc' Ls (st)))) : Go p e below K (T.setTop (mkF m pc Ls (v :: .ref a :: st))) := by
  subst hp
  obtain ⟨T', h', X', e', W, stp⟩ := putF X.1 X.2.1 X.2.2.2.2.2.1 X.2.2.2.2.1 w via X.2.2.2.2.2.2 F E L wi hty hn hf (g := mkF m pc Ls (v :: .ref a :: st)) rfl rfl (hb X.2.2.1 hd)
  exact Go.step (fun t q => stp _ q) (k T' h' ⟨X', X.2.1, X.2.2.1, X.2.2.2.1, X.2.2.2.2.1, X.2.2.2.2.2.1, e'⟩ W)
theorem g_putfieldN (X : Sx Z own bytes ml p l e R s m args below meth c T locs cells slots h) {i kk : Nat} {R0 O nm d C : String} {a : Addr} {v v' old : Value} {ty : FieldType} (w : (Cond.fieldLink own i R0 nm d).before a0 Z = true) (via : Via Z R0 O nm d) (F : Fld Z h a O nm d old) (E : Exa Z h a C) (L : (Cond.lays C O nm d).before a0 Z = true ∨ ((Cond.laysFinal C O nm d).before a0 Z = true ∧ own = O ∧ meth.name = "<init>")) (wi : (Cond.instantiable C kk).before a0 Z = true) (hty : parseFieldDescriptor d = some ty) (hn : narrow ty v = v') (hf : fits ty v' = true) (hd : decode bytes pc = .ok (.putfield i, 3)) (hp : pc + 3 = pc') (k : ∀ T' h', Sx Z own bytes ml p l e R s m args below meth c T' (locs ++ [⟨a, RoadKit.slotOf Z O nm d⟩]) cells slots h' → Wr h h' a (RoadKit.slotOf Z O nm d) v' → Go p e below K (T'.setTop (mkF m pc' Ls (st)))) : Go p e below K (T.setTop (mkF m pc Ls (v :: .ref a :: st))) := by
  subst hp
  obtain ⟨T', h', X', e', W, stp⟩ := putFN X.1 X.2.1 X.2.2.2.2.2.1 X.2.2.2.2.1 w via X.2.2.2.2.2.2 F E L wi hty hn hf (g := mkF m pc Ls (v :: .ref a :: st)) rfl rfl (hb X.2.2.1 hd)
  exact Go.step (fun t q => stp _ q) (k T' h' ⟨X', X.2.1, X.2.2.1, X.2.2.2.1, X.2.2.2.2.1, X.2.2.2.2.2.1, e'⟩ W)
theorem g_initO (X : Sx Z own bytes ml p l e R s m args below meth c T locs cells slots h) {i W : Nat} {a : Addr} (w1 : (Cond.methodLink own i Lib.objectInit).before a0 Z = true) (w2 : (Cond.instanceMethod Lib.objectInit).before a0 Z = true) (w3 : (Cond.code Lib.objectInit ⟨#[0xb1]⟩ 1 none).before a0 Z = true) (hd : decode bytes pc = .ok (.invokespecial i, 3)) (hp : pc + 3 = pc') (hsz : Ls.size = ml) (hf : 1 ≤ R.frames) (hW : (st.map fun v => v.category).sum ≤ W) (hl : W + 12 ≤ R.locals) (k : ∀ T', Sx Z own bytes ml p l e R s m args below meth c T' locs cells slots h → Go p e below K (T'.setTop (mkF m pc' Ls (st)))) : Go p e below K (T.setTop (mkF m pc Ls (.ref a :: st))) := by
  subst hp
  obtain ⟨T', X', e', stp⟩ := initO X.1 X.2.1 X.2.2.2.2.2.1 X.2.2.2.2.1 w1 w2 w3 X.2.2.2.2.2.2 (g := mkF m pc Ls (.ref a :: st)) rfl (by rw [X.2.2.2.1]; exact hsz) rfl (hb X.2.2.1 hd) hf (W := W) (by simpa using hW) hl
  exact Go.step (fun t q => stp _ q) (k T' ⟨X', X.2.1, X.2.2.1, X.2.2.2.1, X.2.2.2.2.1, X.2.2.2.2.2.1, e'⟩)
theorem g_checkcast (X : Sx Z own bytes ml p l e R s m args below meth c T locs cells slots h) {i : Nat} {K0 : String} {a : Addr} (w : (Cond.classLink own i K0).before a0 Z = true) (F : Ins Z h a K0 true) (hd : decode bytes pc = .ok (.checkcast i, 3)) (hp : pc + 3 = pc') (k : ∀ T', Sx Z own bytes ml p l e R s m args below meth c T' locs cells slots h → Go p e below K (T'.setTop (mkF m pc' Ls (.ref a :: st)))) : Go p e below K (T.setTop (mkF m pc Ls (.ref a :: st))) := by
  subst hp
  obtain ⟨T', X', e', stp⟩ := castY X.1 X.2.1 X.2.2.2.2.2.1 X.2.2.2.2.1 w X.2.2.2.2.2.2 F (g := mkF m pc Ls (.ref a :: st)) rfl rfl (hb X.2.2.1 hd)
  exact Go.step (fun t q => stp _ q) (k T' ⟨X', X.2.1, X.2.2.1, X.2.2.2.1, X.2.2.2.2.1, X.2.2.2.2.2.1, e'⟩)
theorem g_static (X : Sx Z own bytes ml p l e R s m args below meth c T locs cells slots h) {y : MethodName} {yb : ByteArray} {yl : Nat} {yr : Option FieldType} {rm : Room} {as' : Array Value} {Q : Option Value → Heap → List Loc → Prop} {i W : Nat} (argsL rest : List Value) (w1 : (Cond.methodLink own i y).before a0 Z = true) (w2 : (Cond.static y).before a0 Z = true) (w3 : (Cond.initialized y.cls).before a0 Z = true) (w4 : (Cond.code y yb yl yr).before a0 Z = true) (M : Rm l Z y yb yl yr [] rm as' h Q) (hd : decode bytes pc = .ok (.invokestatic i, 3)) (hp : pc + 3 = pc') (hy : y.cls ≠ "java/lang/invoke/MethodHandle" ∧ y.cls ≠ "java/lang/invoke/VarHandle") (hf : rm.frames + 1 ≤ R.frames) (hl : W + (yl + 11) + rm.locals ≤ R.locals) (hsz : Ls.size = ml) (ha : argsL.toArray = as') (hst : st = argsL.reverse ++ rest) (hlen : ∀ sig, parseMethodDescriptor y.desc = some sig → argsL.length = sig.parameters.length) (hW : (rest.map fun v => v.category).sum ≤ W) (hc : cells + rm.cells ≤ R.cells) (hs : slots + rm.slots ≤ R.slots) (k : ∀ v T' L, Sx Z own bytes ml p l e R s m args below meth c T' (locs ++ L) (cells + rm.cells) (slots + rm.slots) T'.heap → Q v T'.heap L → Go p e below K (T'.setTop (mkF m pc' Ls (v.toList ++ rest)))) : Go p e below K (T.setTop (mkF m pc Ls (st))) := by
  subst hp; subst hst
  have hZ := X.2.2.2.2.2.1
  obtain ⟨v, vm1, ⟨T', L', k', n'⟩, -, X', ⟨L, hQ, l1, l2, l3⟩, stp⟩ := Jvm.LawKit.callS X.1 X.2.1 X.2.2.2.2.1 (mvT hZ w1) (mvT hZ w2) (mvT hZ w3) (mvT hZ w4) hy (backOf (W := W) M hZ w4 w3 hf hl) (g := mkF m pc Ls (argsL.reverse ++ rest)) rfl (by rw [X.2.2.2.1]; exact hsz) (argsL := argsL) (rest := rest) hlen rfl (by simpa using hW) (hb X.2.2.1 hd) (fun _ _ => ⟨ha, X.2.2.2.2.2.2, hc, hs⟩)
  dsimp only [Pt.U, Pt.locs, Pt.cells, Pt.slots] at X' l1 l2 l3 stp hQ
  subst l1 l2 l3
  exact Go.step (fun t q => stp _ q) (k v T' L ⟨X', X.2.1, X.2.2.1, X.2.2.2.1, X.2.2.2.2.1, X.2.2.2.2.2.1, rfl⟩ hQ)
theorem g_virtual (X : Sx Z own bytes ml p l e R s m args below meth c T locs cells slots h) {y : MethodName} {yb : ByteArray} {yl : Nat} {yr : Option FieldType} {rm : Room} {as' : Array Value} {Q : Option Value → Heap → List Loc → Prop} {i W : Nat} {a : Addr} {C : String} (argsL rest : List Value) (E : Exa Z h a C) (w1 : (Cond.methodLink own i y).before a0 Z = true) (w2 : (Cond.declares y).before a0 Z = true) (w5 : (Cond.selects C y y).before a0 Z = true) (w6 : (Cond.instanceMethod y).before a0 Z = true) (w3 : (Cond.initialized y.cls).before a0 Z = true) (w4 : (Cond.code y yb yl yr).before a0 Z = true) (M : Rm l Z y yb yl yr [] rm as' h Q) (hd : decode bytes pc = .ok (.invokevirtual i, 3)) (hp : pc + 3 = pc') (hy : y.cls ≠ "java/lang/invoke/MethodHandle" ∧ y.cls ≠ "java/lang/invoke/VarHandle") (hf : rm.frames + 1 ≤ R.frames) (hl : W + (yl + 11) + rm.locals ≤ R.locals) (hsz : Ls.size = ml) (ha : (.ref a :: argsL).toArray = as') (hst : st = argsL.reverse ++ .ref a :: rest) (hlen : ∀ sig, parseMethodDescriptor y.desc = some sig → argsL.length = sig.parameters.length) (hW : (rest.map fun v => v.category).sum ≤ W) (hc : cells + rm.cells ≤ R.cells) (hs : slots + rm.slots ≤ R.slots) (k : ∀ v T' L, Sx Z own bytes ml p l e R s m args below meth c T' (locs ++ L) (cells + rm.cells) (slots + rm.slots) T'.heap → Q v T'.heap L → Go p e below K (T'.setTop (mkF m pc' Ls (v.toList ++ rest)))) : Go p e below K (T.setTop (mkF m pc Ls (st))) := by
  subst hp; subst hst
  have hZ := X.2.2.2.2.2.1
  obtain ⟨cq, kq, qa, qb, qc⟩ := isOf hZ X.2.2.2.2.2.2 E
  obtain ⟨v, vm1, ⟨T', L', k', n'⟩, -, X', ⟨L, hQ, l1, l2, l3⟩, stp⟩ := X.1.virtualBack X.2.1 (y := y) (z := y) X.2.2.2.2.1 (mvT hZ w1) (mvT hZ w2) (notFace_of_selects (args := #[]) (mvT hZ w5)) (mvT hZ w5) (mvT hZ w6) hy (backOf (W := W) M hZ w4 w3 hf hl) qa qc (g := mkF m pc Ls (argsL.reverse ++ .ref a :: rest)) rfl (by rw [X.2.2.2.1]; exact hsz) (Steps.refl _) (argsL := argsL) (rest := rest) hlen rfl (by simpa using hW) (hb X.2.2.1 hd) (fun _ _ => ⟨ha, X.2.2.2.2.2.2, hc, hs⟩)
  dsimp only [Pt.U, Pt.locs, Pt.cells, Pt.slots] at X' l1 l2 l3 stp hQ
  subst l1 l2 l3
  exact Go.step (fun t q => stp.trans q) (k v T' L ⟨X', X.2.1, X.2.2.1, X.2.2.2.1, X.2.2.2.2.1, X.2.2.2.2.2.1, rfl⟩ hQ)
theorem g_ireturn (X : Sx Z own bytes ml p l e R s m args below meth c T locs cells slots h) {Q : Option Value → Heap → List Loc → Prop} {kc ks : Nat} {z : Int32} (hd : decode bytes pc = .ok (.ireturn, 1)) (hret : meth.sig.returnType = some .int) (hlk : meth.locks = false) (hc : cells ≤ kc) (hs : slots ≤ ks) (q : Q (some (.int z)) h locs) : Go p e below (Ends s Q kc ks) (T.setTop (mkF m pc Ls (.int z :: st))) := by
  obtain ⟨fs, hr, hrun, hended, hW, hsame⟩ := X.1.leave (v := (some (.int z))) (fun h => by rw [hret] at h; cases h) hlk
  refine ⟨_, _, retI X.1 X.2.1 hret (hb X.2.2.1 hd) hr, hrun, hended, _, _, rfl, ?_, ⟨_, rfl⟩, hW, hsame.mono hc hs⟩
  show Q _ T.heap _
  rw [X.2.2.2.2.2.2]; exact q
theorem g_ireturnN (X : Sx Z own bytes ml p l e R s m args below meth c T locs cells slots h) {Q : Option Value → Heap → List Loc → Prop} {kc ks : Nat} {z : Int32} {t : FieldType} (ht : t = .boolean ∨ t = .byte ∨ t = .char ∨ t = .short) (hd : decode bytes pc = .ok (.ireturn, 1)) (hret : meth.sig.returnType = some t) (hlk : meth.locks = false) (hc : cells ≤ kc) (hs : slots ≤ ks) (q : Q (some (.int (nar t z))) h locs) : Go p e below (Ends s Q kc ks) (T.setTop (mkF m pc Ls (.int z :: st))) := by
  obtain ⟨fs, hr, hrun, hended, hW, hsame⟩ := X.1.leave (v := (some (.int (nar t z)))) (fun h => by rw [hret] at h; cases h) hlk
  refine ⟨_, _, retN X.1 X.2.1 hret ht (hb X.2.2.1 hd) hr, hrun, hended, _, _, rfl, ?_, ⟨_, rfl⟩, hW, hsame.mono hc hs⟩
  show Q _ T.heap _
  rw [X.2.2.2.2.2.2]; exact q
theorem g_areturn (X : Sx Z own bytes ml p l e R s m args below meth c T locs cells slots h) {Q : Option Value → Heap → List Loc → Prop} {kc ks : Nat} {w : Value} {t : FieldType} (hw : w.isRef = true) (ht : t.isReference = true) (hd : decode bytes pc = .ok (.areturn, 1)) (hret : meth.sig.returnType = some t) (hlk : meth.locks = false) (hc : cells ≤ kc) (hs : slots ≤ ks) (q : Q (some w) h locs) : Go p e below (Ends s Q kc ks) (T.setTop (mkF m pc Ls ([w]))) := by
  obtain ⟨fs, hr, hrun, hended, hW, hsame⟩ := X.1.leave (v := (some w)) (fun h => by rw [hret] at h; cases h) hlk
  refine ⟨_, _, X.1.areturnOut X.2.1 hw hret ht (hb X.2.2.1 hd) hr, hrun, hended, _, _, rfl, ?_, ⟨_, rfl⟩, hW, hsame.mono hc hs⟩
  show Q _ T.heap _
  rw [X.2.2.2.2.2.2]; exact q
theorem g_return (X : Sx Z own bytes ml p l e R s m args below meth c T locs cells slots h) {Q : Option Value → Heap → List Loc → Prop} {kc ks : Nat} (hd : decode bytes pc = .ok (.return_, 1)) (hret : meth.sig.returnType = none) (hlk : meth.locks = false) (hc : cells ≤ kc) (hs : slots ≤ ks) (q : Q none h locs) : Go p e below (Ends s Q kc ks) (T.setTop (mkF m pc Ls ([]))) := by
  obtain ⟨fs, hr, hrun, hended, hW, hsame⟩ := X.1.leave (v := none) (fun _ => rfl) hlk
  refine ⟨_, _, X.1.returnOut X.2.1 hret (hb X.2.2.1 hd) hr, hrun, hended, _, _, rfl, ?_, ⟨_, rfl⟩, hW, hsame.mono hc hs⟩
  show Q _ T.heap _
  rw [X.2.2.2.2.2.2]; exact q
end Walk
/-- the sheet's k-th word -/
theorem tb {a0 : Array Value} {Z : State} (hw : ∀ d ∈ tables_1, d.before a0 Z = true) (k : Nat) {d : Jvm.Cond} (hd : tables_1[k]? = some d) : d.before a0 Z = true := hw d (List.mem_of_getElem? hd)
/-- what a method says that writes and makes nothing: it returns this -/
def Pu (val : Value) (h0 : Heap) (v : Option Value) (h : Heap) (L : List Loc) : Prop := v = some val ∧ L = [] ∧ h = h0
theorem pureX {Z : State} {own : String} {bytes : ByteArray} {ml : Nat} {p : Program} {l : Launch} {e : Env} {R : Room} {s : State} {m : MethodId} {args : Array Value} {below : List Frame} {meth : Method} {c : Code} {T : State} {locs L : List Loc} {cells slots : Nat} {h : Heap} {val : Value} {v : Option Value}
    (X : Sx Z own bytes ml p l e R s m args below meth c T (locs ++ L) (cells + 0) (slots + 0) T.heap) (q : Pu val h v T.heap L) : v = some val ∧ Sx Z own bytes ml p l e R s m args below meth c T locs cells slots h := by
  obtain ⟨q1, rfl, q3⟩ := q
  rw [List.append_nil] at X
  exact ⟨q1, X.1, X.2.1, X.2.2.1, X.2.2.2.1, X.2.2.2.2.1, X.2.2.2.2.2.1, q3⟩

section Wide
variable {p : Program} {l : Launch} {e : Env} {R : Room} {s : State} {m : MethodId} {args : Array Value} {below : List Frame} {meth : Method} {c : Code} {T : State} {locs : List Loc} {cells slots : Nat} {Z : State} {a0 : Array Value} {h : Heap} {own : String} {bytes : ByteArray} {ml : Nat} {vm0 : Vm} {EL : List (String × Nat)} {k0 : Nat} {pc pc' : Nat} {Ls : Array Slot} {st : List Value} {K : Outcome → State → Prop}
def EndsW (s : State) (Q : Option Value → Heap → List Loc → Prop) (kc ks : Nat) (o : Outcome) (U : State) : Prop := ∃ v L, o = .returned v ∧ Q v U.heap L ∧ ReturnedEndW s o U L kc ks
def EndsH (Z : State) (EL : List (String × Nat)) (s : State) (Q : Option Value → Heap → List Loc → Prop) (kc ks : Nat) (o : Outcome) (U : State) : Prop := ∃ v L, o = .returned v ∧ Q v U.heap L ∧ CHr Z EL s.vm s.heap U.vm U.heap ∧ ReturnedEndW s o U L kc ks
abbrev RmH (l : Launch) (Z : State) (EL : List (String × Nat)) (y : MethodName) (bytes : ByteArray) (ml : Nat) (ret : Option FieldType) (rm : Room) (as' : Array Value) (h0 : Heap) (Q : Option Value → Heap → List Loc → Prop) : Prop :=
  MetFree l y (head1 [Jvm.Cond.code y bytes ml ret] rm) (fun a U => a = as' ∧ Z.Warmed39 U.vm ∧ U.heap = h0 ∧ CHv Z EL U.vm h0) (fun _ _ _ _ _ => True) (fun _ U o U' => ∃ v L, o = .returned v ∧ Q v U'.heap L ∧ CHr Z EL U.vm U.heap U'.vm U'.heap ∧ ReturnedEndW U o U' L rm.cells rm.slots)
theorem RmH.of {y : MethodName} {ret : Option FieldType} {rm : Room} {as' : Array Value} {h0 : Heap} {Q : Option Value → Heap → List Loc → Prop} (hpl : plainFor y = true)
    (body : ∀ (p : Program) (e : Env) (s : State) (m : MethodId) (below : List Frame) (meth : Method) (c : Code) (T : State), Sx Z y.cls bytes ml p l e rm (s.setVm s.vm) m as' below meth c T [] 0 0 h0 → s.Since s.vm s.heap.size → s.heap.size ≤ h0.size → CHr Z EL s.vm s.heap s.vm h0 → meth.name = y.name → meth.sig.returnType = ret → meth.locks = false → Go p e below (EndsH Z EL s Q rm.cells rm.slots) (T.setTop (entryFrame m as' ml))) : RmH l Z EL y bytes ml ret rm as' h0 Q := by
  refine MetFree.of_bodySF hpl hisR ?_
  intro p e s m args below meth c s₁ Bd hml0 hP hK
  obtain ⟨rfl, hZ, hh, hC⟩ := hP
  have X0 : Stand p l e rm s m args below meth c s₁ [] 0 0 := Stand.of_body Bd
  have hs : s₁.heap = h0 := by rw [← hh, Bd.state]; rfl
  refine body p e s m below meth c s₁ ⟨X0, Bd.exec, Bd.bytes, hml0, findClass_of_methodNamed Bd.named, hZ, hs⟩ ⟨State.Warmed39.refl _, ?_⟩ (Nat.le_of_eq (by rw [hh])) ?_ (name_of_methodNamed Bd.named Bd.method).1 Bd.returns (BodyLoose.notSynchronized Bd)
  · intro j q hj hq
    rw [Array.getElem?_eq_none hj] at hq; cases hq
  · subst hh; exact CHr.refl hC
theorem since_self (s : State) : s.Since s.vm s.heap.size := ⟨State.Warmed39.refl _, by
  intro j q hj hq
  rw [Array.getElem?_eq_none hj] at hq; cases hq⟩
theorem g_returnH (X : Sx Z own bytes ml p l e R (s.setVm vm0) m args below meth c T locs cells slots h) (hS : s.Since vm0 k0) (hk : k0 ≤ h.size) (hEL : EW Z a0 EL) (HR : CHr Z EL s.vm s.heap vm0 h) {Q : Option Value → Heap → List Loc → Prop} {kc ks : Nat} (hd : decode bytes pc = .ok (.return_, 1)) (hret : meth.sig.returnType = none) (hlk : meth.locks = false) (hc : cells ≤ kc) (hs : slots ≤ ks) (q : Q none h locs) : Go p e below (EndsH Z EL s Q kc ks) (T.setTop (mkF m pc Ls [])) := by
  obtain ⟨fs, hr, hrun, hended, hW, hB, hE, hsame⟩ := X.1.leaveW hS (by rw [X.2.2.2.2.2.2]; exact hk) (v := none) (fun _ => rfl) hlk
  refine ⟨_, _, X.1.returnOut X.2.1 hret (hb X.2.2.1 hd) hr, hrun, hended, _, _, rfl, ?_, ?_, hW, hB, hE, hsame.mono hc hs⟩
  · show Q _ T.heap _
    rw [X.2.2.2.2.2.2]; exact q
  · show CHr Z EL s.vm s.heap T.vm T.heap
    rw [X.2.2.2.2.2.2]; exact HR.trans (CHv.at X.1 X.2.2.2.2.2.1 hEL HR.1)
theorem g_ireturnNW (X : Sx Z own bytes ml p l e R (s.setVm vm0) m args below meth c T locs cells slots h) (hS : s.Since vm0 k0) (hk : k0 ≤ h.size) {Q : Option Value → Heap → List Loc → Prop} {kc ks : Nat} {z : Int32} {t : FieldType} (ht : t = .boolean ∨ t = .byte ∨ t = .char ∨ t = .short) (hd : decode bytes pc = .ok (.ireturn, 1)) (hret : meth.sig.returnType = some t) (hlk : meth.locks = false) (hc : cells ≤ kc) (hs : slots ≤ ks) (q : Q (some (.int (nar t z))) h locs) : Go p e below (EndsW s Q kc ks) (T.setTop (mkF m pc Ls (.int z :: st))) := by
  obtain ⟨fs, hr, hrun, hended, hW, hB, hE, hsame⟩ := X.1.leaveW hS (by rw [X.2.2.2.2.2.2]; exact hk) (v := some (.int (nar t z))) (fun h => by rw [hret] at h; cases h) hlk
  refine ⟨_, _, retN X.1 X.2.1 hret ht (hb X.2.2.1 hd) hr, hrun, hended, _, _, rfl, ?_, hW, hB, hE, hsame.mono hc hs⟩
  show Q _ T.heap _
  rw [X.2.2.2.2.2.2]; exact q
theorem g_ldcH (X : Sx Z own bytes ml p l e R (s.setVm vm0) m args below meth c T locs cells slots h) (hS : s.Since vm0 k0) (hk : k0 ≤ h.size) (hEL : EW Z a0 EL) {index : Nat} {text : String} (hmem : (own, index) ∈ EL) (H : CHv Z EL vm0 h) (w : (Cond.stringLink own index text).before a0 Z = true) (wS : ∀ a ∈ Bundle.stringAtoms, a.before a0 Z = true)
    {vs : List Value} {z : Int32} (ht : (∀ c ∈ text.toList, c.toNat < 256) ∧ text.toList.map (fun c => Value.int (Jvm.Lit.byteI c.toNat.toUInt16)) = vs) (hz : ¬ z < 0) (hl : z.toNatClampNeg = vs.length) (hd : decode bytes pc = .ok (.ldc index, 2)) (hp : pc + 2 = pc') {n : Nat} (hn : 4 * text.toList.length ≤ n) (hbig : n ≤ 536870912) (hc : cells + 2 ≤ R.cells) (hl' : slots + (n + 4) ≤ R.slots)
    (k : ∀ (a : Addr) (T' : State) (h' : Heap) (k1 : Nat) (b : Addr), Sx Z own bytes ml p l e R (s.setVm T'.vm) m args below meth c T' locs (cells + 2) (slots + (n + 4)) h' → Ext h h' → s.Since T'.vm k1 → k1 ≤ h'.size → Exa Z h' a "java/lang/String" → Fld Z h' a "java/lang/String" "coder" "B" (.int 0) → Fld Z h' a "java/lang/String" "value" "[B" (.ref b) → Av Z h' b .byte vs → CHr Z EL vm0 h T'.vm h' → (∀ x, Safe Z EL T'.vm h' x → x ≠ a ∧ x ≠ b) → Go p e below K (T'.setTop (mkF m pc' Ls (.ref a :: st)))) :
    Go p e below K (T.setTop (mkF m pc Ls st)) := by
  subst hp
  obtain ⟨a, T', h', k1, b, kk, X', e1, E, r4, r5, r6, r7, r8, r9, r10, r11, r12, r13, r14, r15, r16, stp⟩ := ldcCH X.1 X.2.1 X.2.2.2.2.2.1 X.2.2.2.2.1 w wS X.2.2.2.2.2.2 hS hk hEL hmem H ht hz hl (g := mkF m pc Ls st) rfl (hb X.2.2.1 hd) hn hbig hc hl'
  refine Go.step (fun t q => stp _ q) (k a T' h' k1 b ⟨X', X.2.1, X.2.2.1, X.2.2.2.1, r7, r6, e1⟩ E r4 r5 r8 r9 r10 ?_ r14 r16)
  obtain ⟨cl, A, q2, q3, q4, q5, q6⟩ := r11
  have hsz : cl.slots.size = vs.length := by rw [q3, hl]
  have hlen : cl.slots.toList = vs := by
    apply List.ext_getElem?
    intro i
    rw [Array.getElem?_toList]
    by_cases hi : i < vs.length
    · rw [q5 i (by rw [hsz]; exact hi), List.getD_eq_getElem?_getD, List.getElem?_eq_getElem hi]; rfl
    · rw [List.getElem?_eq_none (Nat.le_of_not_lt hi), Array.getElem?_eq_none (by rw [hsz]; exact Nat.le_of_not_lt hi)]
  refine ⟨cl, A, hlen, ?_⟩
  rw [← hl]
  have := (rng32 z).2
  show z.toInt.toNat < _
  omega
theorem g_instY (X : Sx Z own bytes ml p l e R s m args below meth c T locs cells slots h) {i : Nat} {K0 : String} {a : Addr} (w : (Cond.classLink own i K0).before a0 Z = true) (F : Ins Z h a K0 true) (hd : decode bytes pc = .ok (.instanceof i, 3)) (hp : pc + 3 = pc')
    (k : ∀ T', Sx Z own bytes ml p l e R s m args below meth c T' locs cells slots h → Go p e below K (T'.setTop (mkF m pc' Ls (.int 1 :: st)))) : Go p e below K (T.setTop (mkF m pc Ls (.ref a :: st))) := by
  subst hp
  obtain ⟨T', X', e', stp⟩ := instY X.1 X.2.1 X.2.2.2.2.2.1 X.2.2.2.2.1 w X.2.2.2.2.2.2 F (g := mkF m pc Ls (.ref a :: st)) rfl rfl (hb X.2.2.1 hd)
  exact Go.step (fun t q => stp _ q) (k T' ⟨X', X.2.1, X.2.2.1, X.2.2.2.1, X.2.2.2.2.1, X.2.2.2.2.2.1, e'⟩)
/-- the law: a start at which the constants are held -/
abbrev RmW (l : Launch) (Z : State) (EL : List (String × Nat)) (y : MethodName) (bytes : ByteArray) (ml : Nat) (ret : Option FieldType) (ws : List Jvm.Cond) (rm : Room) (as' : Array Value) (h0 : Heap) (Q : Option Value → Heap → List Loc → Prop) : Prop :=
  MetFree l y (head1 (Jvm.Cond.code y bytes ml ret :: ws) rm) (fun a U => a = as' ∧ Z.Warmed39 U.vm ∧ U.heap = h0 ∧ CHv Z EL U.vm h0) (fun _ _ _ _ _ => True) (fun _ U o U' => ∃ v L, o = .returned v ∧ Q v U'.heap L ∧ ReturnedEndW U o U' L rm.cells rm.slots)
theorem RmW.of {y : MethodName} {ret : Option FieldType} {ws : List Jvm.Cond} {rm : Room} {as' : Array Value} {h0 : Heap} {Q : Option Value → Heap → List Loc → Prop} (hpl : plainFor y = true)
    (body : ∀ (p : Program) (e : Env) (s : State) (m : MethodId) (below : List Frame) (meth : Method) (c : Code) (T : State), Sx Z y.cls bytes ml p l e rm (s.setVm s.vm) m as' below meth c T [] 0 0 h0 → s.Since s.vm s.heap.size → s.heap.size ≤ h0.size → CHv Z EL s.vm h0 → meth.name = y.name → meth.sig.returnType = ret → meth.locks = false → Go p e below (EndsW s Q rm.cells rm.slots) (T.setTop (entryFrame m as' ml))) : RmW l Z EL y bytes ml ret ws rm as' h0 Q := by
  refine MetFree.of_bodySF hpl hisR ?_
  intro p e s m args below meth c s₁ Bd hml0 hP hK
  obtain ⟨rfl, hZ, hh, hC⟩ := hP
  have X0 : Stand p l e rm s m args below meth c s₁ [] 0 0 := Stand.of_body Bd
  have hs : s₁.heap = h0 := by rw [← hh, Bd.state]; rfl
  exact body p e s m below meth c s₁ ⟨X0, Bd.exec, Bd.bytes, hml0, findClass_of_methodNamed Bd.named, hZ, hs⟩ (since_self s) (Nat.le_of_eq (by rw [hh])) hC (name_of_methodNamed Bd.named Bd.method).1 Bd.returns (BodyLoose.notSynchronized Bd)
end Wide

section Wide2
variable {p : Program} {l : Launch} {e : Env} {R : Room} {s : State} {m : MethodId} {args : Array Value} {below : List Frame} {meth : Method} {c : Code} {T : State} {locs : List Loc} {cells slots : Nat} {Z : State} {a0 : Array Value} {h : Heap} {own : String} {bytes : ByteArray} {ml : Nat} {vm0 : Vm} {EL : List (String × Nat)} {k0 : Nat} {pc pc' : Nat} {Ls : Array Slot} {st : List Value} {K : Outcome → State → Prop}
/-- a contract under a head word, with objects that no constant is -/
abbrev RmS (l : Launch) (Z : State) (EL : List (String × Nat)) (SS : List Addr) (hd : Jvm.Cond) (y : MethodName) (rm : Room) (as' : Array Value) (h0 : Heap) (Q : Option Value → Heap → List Loc → Prop) : Prop :=
  MetFree l y (head1 [hd] rm) (fun a U => a = as' ∧ Z.Warmed39 U.vm ∧ U.heap = h0 ∧ CHv Z EL U.vm h0 ∧ ∀ x ∈ SS, Safe Z EL U.vm h0 x) (fun _ _ _ _ _ => True) (fun _ U o U' => ∃ v L, o = .returned v ∧ Q v U'.heap L ∧ CHr Z EL U.vm U.heap U'.vm U'.heap ∧ ReturnedEndW U o U' L rm.cells rm.slots)
theorem RmS.of {SS : List Addr} {y : MethodName} {ret : Option FieldType} {rm : Room} {as' : Array Value} {h0 : Heap} {Q : Option Value → Heap → List Loc → Prop} (hpl : plainFor y = true)
    (body : ∀ (p : Program) (e : Env) (s : State) (m : MethodId) (below : List Frame) (meth : Method) (c : Code) (T : State), Sx Z y.cls bytes ml p l e rm (s.setVm s.vm) m as' below meth c T [] 0 0 h0 → s.Since s.vm s.heap.size → s.heap.size ≤ h0.size → CHr Z EL s.vm s.heap s.vm h0 → (∀ x ∈ SS, Safe Z EL s.vm h0 x) → meth.name = y.name → meth.sig.returnType = ret → meth.locks = false → Go p e below (EndsH Z EL s Q rm.cells rm.slots) (T.setTop (entryFrame m as' ml))) : RmS l Z EL SS (Jvm.Cond.code y bytes ml ret) y rm as' h0 Q := by
  refine MetFree.of_bodySF hpl hisR ?_
  intro p e s m args below meth c s₁ Bd hml0 hP hK
  obtain ⟨rfl, hZ, hh, hC, hSS⟩ := hP
  have hs : s₁.heap = h0 := by rw [← hh, Bd.state]; rfl
  exact body p e s m below meth c s₁ ⟨Stand.of_body Bd, Bd.exec, Bd.bytes, hml0, findClass_of_methodNamed Bd.named, hZ, hs⟩ (since_self s) (Nat.le_of_eq (by rw [hh])) (by subst hh; exact CHr.refl hC) hSS (name_of_methodNamed Bd.named Bd.method).1 Bd.returns (BodyLoose.notSynchronized Bd)
theorem RmS.ofW {SS : List Addr} {y : MethodName} {ret : Option FieldType} {hs : List (Nat × Nat × Nat × Nat)} {rm : Room} {as' : Array Value} {h0 : Heap} {Q : Option Value → Heap → List Loc → Prop} (hpl : plainFor y = true)
    (body : ∀ (p : Program) (e : Env) (s : State) (m : MethodId) (below : List Frame) (meth : Method) (c : Code) (T : State), Sx Z y.cls bytes ml p l e rm (s.setVm s.vm) m as' below meth c T [] 0 0 h0 → s.Since s.vm s.heap.size → s.heap.size ≤ h0.size → CHr Z EL s.vm s.heap s.vm h0 → (∀ x ∈ SS, Safe Z EL s.vm h0 x) → meth.name = y.name → meth.sig.returnType = ret → meth.locks = false → Go p e below (EndsH Z EL s Q rm.cells rm.slots) (T.setTop (entryFrame m as' ml))) : RmS l Z EL SS (Jvm.Cond.codeWith y bytes ml ret hs) y rm as' h0 Q := by
  refine MetFree.of_bodySF hpl hisWith ?_
  intro p e s m args below meth c s₁ Bd hml0 hP hK
  obtain ⟨rfl, hZ, hh, hC, hSS⟩ := hP
  have hs : s₁.heap = h0 := by rw [← hh, Bd.state]; rfl
  exact body p e s m below meth c s₁ ⟨Stand.of_body Bd, Bd.exec, Bd.bytes, hml0, findClass_of_methodNamed Bd.named, hZ, hs⟩ (since_self s) (Nat.le_of_eq (by rw [hh])) (by subst hh; exact CHr.refl hC) hSS (name_of_methodNamed Bd.named Bd.method).1 Bd.returns (BodyLoose.notSynchronized Bd)
/-- where a call has come back to, however wide: the caller's frame behind it, over what the callee left -/
theorem come_back {U s₂ : State} {g : JFrame} {mk : MethodId} {a : Array Value} {ig : Instr} {len k n : Nat} {v : Option Value} {L : List Loc} (hA : At U g.method c below) (hdg : decode c.code g.pc = .ok (ig, len)) (hE : Ended s₂ (U.setTop g).frames (.returned v)) (hF : ReturnedEndW (U.calling g mk a) (.returned v) s₂ L k n) :
    U.Warmed39 s₂.vm ∧ U.Booked s₂.vm s₂.heap.size ∧ U.sameButNew ({ U with heap := s₂.heap, slotsUsed := s₂.slotsUsed } : State) L k n ∧ s₂ = (({ U with heap := s₂.heap, slotsUsed := s₂.slotsUsed } : State).setVm s₂.vm).setTop { g with pc := g.pc + len, stack := v.toList ++ g.stack } := by
  obtain ⟨-, w, b, f, r2, r3, r4, r5, r6⟩ := hF
  obtain ⟨g0, hg0⟩ := Option.isSome_iff_exists.mp hA.top
  obtain ⟨rest, hr⟩ := State.topJava?_eq_some.mp hg0
  obtain ⟨th, hth, -⟩ := State.frames_cons hr
  have w' : U.Warmed39 s₂.vm := w
  rw [State.frames_setTop' g hA.top] at hE
  obtain ⟨c2, i2, n2, h1, h2, h3⟩ := hE
  obtain rfl : c2 = c := by
    have q : s₂.code? g.method = U.code? g.method := by rw [State.code?_eq, State.code?_eq, w'.alike.method?]
    exact Option.some.inj (h1.symm.trans (q.trans hA.code))
  obtain rfl : n2 = len := by rw [hdg] at h2; cases h2; rfl
  refine ⟨w', b, ⟨?_, r2, r3, r4, r5, r6⟩, ?_⟩
  · show ({ U with heap := s₂.heap, slotsUsed := s₂.slotsUsed } : State) = { U.setFrames U.frames with heap := s₂.heap, slotsUsed := s₂.slotsUsed }
    rw [State.setFrames_self hth]
  · have q : s₂ = ({ (U.calling g mk a).setFrames s₂.frames with heap := s₂.heap, slotsUsed := s₂.slotsUsed } : State).setVm s₂.vm := by
      have q0 : s₂ = ({ s₂ with vm := (U.calling g mk a).vm } : State).setVm s₂.vm := rfl
      rw [f] at q0; exact q0
    have hr' : (({ U with heap := s₂.heap, slotsUsed := s₂.slotsUsed } : State).setVm s₂.vm).frames = .java g0 :: rest := hr
    rw [h3, State.calling_eq hA.top, State.setFrames_setFrames, hr] at q
    rw [State.setTop_of_frames _ hr']
    exact q
/-- a callee of such a contract, its head word code or codeWith: all that is asked of the word is where its record says so -/
theorem backS {SS : List Addr} {hd : Jvm.Cond} {y : MethodName} {maxL : Nat} {rm : Room} {len W : Nat} {as' : Array Value} {Q : Option Value → Heap → List Loc → Prop} (hM : RmS l Z EL SS hd y rm as' h Q) (hZ : Z.Warmed39 vm0)
    (wc : ∀ (a : Array Value) (U : State), Z.Warmed39 U.vm → hd.before a U = true ∧ ∀ mk, U.methodNamed? y = some mk → ∃ me co, U.vm.method? mk = some me ∧ me.code = some co ∧ co.maxLocals = maxL) (wz : (Cond.initialized y.cls).before a0 Z = true) (hf : rm.frames + 1 ≤ R.frames) (hl : W + (maxL + 11) + rm.locals ≤ R.locals) (hEL : EW Z a0 EL) (H : CHv Z EL vm0 h) (hSS : ∀ x ∈ SS, x < h.size ∧ Safe Z EL vm0 h x) :
    BackS l R p e below (s.setVm vm0) args y len W (fun A a => a = as' ∧ A.U.heap = h ∧ A.cells + rm.cells ≤ R.cells ∧ A.slots + rm.slots ≤ R.slots)
      (fun A _ v B => ∃ L, Q v B.U.heap L ∧ B.locs = A.locs ++ L ∧ B.cells = A.cells + rm.cells ∧ B.slots = A.slots + rm.slots ∧ CHr Z EL vm0 h B.U.vm B.U.heap) := by
  intro m meth c A g ig mk a X hg hsize hdg hW hn hp
  subst hg
  obtain ⟨p1, p2, p3, p4⟩ := hp
  have hU : Z.Warmed39 A.U.vm := wtrans (s := s.setVm vm0) hZ X.warmed
  obtain ⟨w1, w2⟩ := wc a A.U hU
  obtain ⟨me, co, m1, m2, m3⟩ := w2 mk hn
  obtain ⟨kY, hkY, -⟩ := className_of_methodNamed hn
  have hini : kY.init = .initialized := Cond.initialized_spec (findClass_of_methodNamed hn) hkY (mv hU wz (args := a))
  have C := CHv.at X hZ hEL H
  have app : (head1 [hd] rm).appliesLoose y e.platform (A.U.calling g mk a) = true :=
    Spec.appliesLoose_calling X.here hdg hn hkY hini (X.room_calling (R' := rm) hsize m1 m2 hf (by rw [m3]; omega) p3 p4) (by show (Cond.and hd .tt).before a A.U = true; rw [Cond.before_and, w1]; rfl)
  obtain ⟨mid, hmid⟩ := X.here.above
  have hfr : (A.U.setTop g).frames = (.java g :: mid) ++ below := by rw [State.frames_setTop' g X.here.top, hmid]; rfl
  obtain ⟨o, s₂, stp, -, hE, v, L, rfl, q1, q2, q3⟩ := Steps.callFree hM p X.admits X.cas X.clock (acts := []) hfr app ⟨p1, hU, p2, C.1, fun x hx => C.safe (hSS x hx).1 (hSS x hx).2⟩ trivial
  obtain ⟨b1, b2, b3, b4⟩ := come_back (U := A.U) (g := g) (mk := mk) (a := a) X.here hdg hE q3
  obtain ⟨X', hS⟩ := X.movedW (T₂ := (({ A.U with heap := s₂.heap, slotsUsed := s₂.slotsUsed } : State).setVm s₂.vm)) ((X.here.setHeapUsed s₂.heap s₂.slotsUsed).setVm b1.alike) X.tail rfl rfl b1 b2 b3
  refine ⟨v, ⟨(({ A.U with heap := s₂.heap, slotsUsed := s₂.slotsUsed } : State).setVm s₂.vm), A.locs ++ L, A.cells + rm.cells, A.slots + rm.slots⟩, X', hS, b3.2.1, ⟨L, q1, rfl, rfl, rfl, C.trans ?_⟩, ?_⟩
  · have q : CHr Z EL A.U.vm A.U.heap s₂.vm s₂.heap := q2
    rw [p2] at q; exact q
  · show Steps p.tables e below _ ((({ A.U with heap := s₂.heap, slotsUsed := s₂.slotsUsed } : State).setVm s₂.vm).setTop { g with pc := g.pc + len, stack := v.toList ++ g.stack })
    rw [← b4]; exact stp
theorem wcC {y : MethodName} {yb : ByteArray} {yl : Nat} {yr : Option FieldType} (wc : (Cond.code y yb yl yr).before a0 Z = true) : ∀ (a : Array Value) (U : State), Z.Warmed39 U.vm → (Cond.code y yb yl yr).before a U = true ∧ ∀ mk, U.methodNamed? y = some mk → ∃ me co, U.vm.method? mk = some me ∧ me.code = some co ∧ co.maxLocals = yl := fun a U hU => ⟨mv hU wc, fun mk hn => by
  obtain ⟨me, co, h1, h2, -, h3, -⟩ := Cond.code_spec hn (mv hU wc (args := a))
  exact ⟨me, co, h1, h2, h3⟩⟩
theorem wcW {y : MethodName} {yb : ByteArray} {yl : Nat} {yr : Option FieldType} {hs : List (Nat × Nat × Nat × Nat)} (wc : (Cond.codeWith y yb yl yr hs).before a0 Z = true) : ∀ (a : Array Value) (U : State), Z.Warmed39 U.vm → (Cond.codeWith y yb yl yr hs).before a U = true ∧ ∀ mk, U.methodNamed? y = some mk → ∃ me co, U.vm.method? mk = some me ∧ me.code = some co ∧ co.maxLocals = yl := fun a U hU => ⟨mv hU wc, fun mk hn => by
  obtain ⟨mk', me, co, hn', h1, h2, -, h3, -⟩ := Cond.codeWith_spec (mv hU wc (args := a))
  cases hn.symm.trans hn'
  exact ⟨me, co, h1, h2, h3⟩⟩
theorem ss0 {P : Addr → Prop} : ∀ x ∈ ([] : List Addr), P x := fun _ q => nomatch q
theorem ssS {P : Addr → Prop} {a : Addr} {SS : List Addr} (q : P a) (r : ∀ x ∈ SS, P x) : ∀ x ∈ a :: SS, P x := fun x hx => (List.mem_cons.mp hx).elim (fun e => e ▸ q) (r x)
theorem g_specialS (X : Sx Z own bytes ml p l e R (s.setVm vm0) m args below meth c T locs cells slots h) (hS : s.Since vm0 k0) (hk : k0 ≤ h.size) (hEL : EW Z a0 EL) (H : CHv Z EL vm0 h) {SS : List Addr} (hSS : ∀ x ∈ SS, x < h.size ∧ Safe Z EL vm0 h x) {y : MethodName} {yb : ByteArray} {yl W i : Nat} {rm : Room} {as' : Array Value} {Q : Option Value → Heap → List Loc → Prop} {a : Addr} (argsL rest : List Value) (hi : y.name = "<init>") (w1 : (Cond.methodLink own i y).before a0 Z = true) (w2 : (Cond.instanceMethod y).before a0 Z = true) (w3 : (Cond.initialized y.cls).before a0 Z = true) (w4 : (Cond.code y yb yl none).before a0 Z = true) (M : RmS l Z EL SS (Cond.code y yb yl none) y rm as' h Q) (hd : decode bytes pc = .ok (.invokespecial i, 3)) (hp : pc + 3 = pc') (hy : y.cls ≠ "java/lang/invoke/MethodHandle" ∧ y.cls ≠ "java/lang/invoke/VarHandle") (hf : rm.frames + 1 ≤ R.frames) (hl : W + (yl + 11) + rm.locals ≤ R.locals) (hsz : Ls.size = ml) (ha : (.ref a :: argsL).toArray = as') (hst : st = argsL.reverse ++ .ref a :: rest) (hlen : ∀ sig, parseMethodDescriptor y.desc = some sig → argsL.length = sig.parameters.length) (hW : (rest.map fun v => v.category).sum ≤ W) (hc : cells + rm.cells ≤ R.cells) (hs : slots + rm.slots ≤ R.slots)
    (k : ∀ v T' L, Sx Z own bytes ml p l e R (s.setVm T'.vm) m args below meth c T' (locs ++ L) (cells + rm.cells) (slots + rm.slots) T'.heap → Q v T'.heap L → ∀ k1 : Nat, s.Since T'.vm k1 → k1 ≤ T'.heap.size → CHr Z EL vm0 h T'.vm T'.heap → Go p e below K (T'.setTop (mkF m pc' Ls (v.toList ++ rest)))) :
    Go p e below K (T.setTop (mkF m pc Ls st)) := by
  subst hp; subst hst
  have hZ := X.2.2.2.2.2.1
  obtain ⟨v, vm1, ⟨T', L', k', n'⟩, -, X', hS2, hgr, ⟨L, hQ, l1, l2, l3, hC⟩, stp⟩ := X.1.specialBackS X.2.1 (y := y) hi X.2.2.2.2.1 (mvT hZ w1) (mvT hZ w2) (mvT hZ w4) hy (backS (W := W) M hZ (wcC w4) w3 hf hl hEL H hSS) (g := mkF m pc Ls (argsL.reverse ++ .ref a :: rest)) rfl (by rw [X.2.2.2.1]; exact hsz) (Steps.refl _) (a := a) (argsL := argsL) (rest := rest) hlen rfl (by simpa using hW) (hb X.2.2.1 hd) (fun _ _ => ⟨ha, X.2.2.2.2.2.2, hc, hs⟩)
  dsimp only [Pt.U, Pt.locs, Pt.cells, Pt.slots] at X' l1 l2 l3 stp hQ hS2 hgr hC
  subst l1 l2 l3
  rw [X.2.2.2.2.2.2] at hgr
  obtain ⟨r1, r2, r3, r4⟩ := rebS hS hk X' hS2 hgr hZ X.2.2.2.2.1
  exact Go.step (fun t q => stp.trans q) (k v T' L ⟨r1, X.2.1, X.2.2.1, X.2.2.2.1, r4, r3, rfl⟩ hQ _ r2 (Nat.le_refl _) hC)
/-- .. whose body has an exception table -/
theorem g_specialSW (X : Sx Z own bytes ml p l e R (s.setVm vm0) m args below meth c T locs cells slots h) (hS : s.Since vm0 k0) (hk : k0 ≤ h.size) (hEL : EW Z a0 EL) (H : CHv Z EL vm0 h) {SS : List Addr} (hSS : ∀ x ∈ SS, x < h.size ∧ Safe Z EL vm0 h x) {y : MethodName} {yb : ByteArray} {yl W i : Nat} {hh : List (Nat × Nat × Nat × Nat)} {rm : Room} {as' : Array Value} {Q : Option Value → Heap → List Loc → Prop} {a : Addr} (argsL rest : List Value) (hi : y.name = "<init>") (w1 : (Cond.methodLink own i y).before a0 Z = true) (w2 : (Cond.instanceMethod y).before a0 Z = true) (w3 : (Cond.initialized y.cls).before a0 Z = true) (w4 : (Cond.codeWith y yb yl none hh).before a0 Z = true) (M : RmS l Z EL SS (Cond.codeWith y yb yl none hh) y rm as' h Q) (hd : decode bytes pc = .ok (.invokespecial i, 3)) (hp : pc + 3 = pc') (hy : y.cls ≠ "java/lang/invoke/MethodHandle" ∧ y.cls ≠ "java/lang/invoke/VarHandle") (hf : rm.frames + 1 ≤ R.frames) (hl : W + (yl + 11) + rm.locals ≤ R.locals) (hsz : Ls.size = ml) (ha : (.ref a :: argsL).toArray = as') (hst : st = argsL.reverse ++ .ref a :: rest) (hlen : ∀ sig, parseMethodDescriptor y.desc = some sig → argsL.length = sig.parameters.length) (hW : (rest.map fun v => v.category).sum ≤ W) (hc : cells + rm.cells ≤ R.cells) (hs : slots + rm.slots ≤ R.slots)
    (k : ∀ v T' L, Sx Z own bytes ml p l e R (s.setVm T'.vm) m args below meth c T' (locs ++ L) (cells + rm.cells) (slots + rm.slots) T'.heap → Q v T'.heap L → ∀ k1 : Nat, s.Since T'.vm k1 → k1 ≤ T'.heap.size → CHr Z EL vm0 h T'.vm T'.heap → Go p e below K (T'.setTop (mkF m pc' Ls (v.toList ++ rest)))) :
    Go p e below K (T.setTop (mkF m pc Ls st)) := by
  subst hp; subst hst
  have hZ := X.2.2.2.2.2.1
  have hpl : e.platform.magicAccessors = ({} : Platform).magicAccessors := by rw [X.1.admits.platform]
  have hW' : 2 * (mkF m pc Ls (argsL.reverse ++ .ref a :: rest)).monitorRoom + (rest.map fun v => v.category).sum ≤ W := by simpa using hW
  obtain ⟨mk, methM, cM, kP, vm1, hnamed, hmethM, -, -, -, -, hkP, -, hW1, hstep⟩ := Steps.initColdArgsH (args := args) (e := e) X.1.here X.2.1 X.1.warmed hpl X.2.2.2.2.1 hi hy (mvT hZ w1) (mvT hZ w2) (mvT hZ w4) (f := mkF m pc Ls (argsL.reverse ++ .ref a :: rest)) rfl hlen rfl (hb X.2.2.1 hd)
  have X1 := X.1.noted hW1
  obtain ⟨v, ⟨T', L', k', n'⟩, X', hS2, hgr, ⟨L, hQ, l1, l2, l3, hC⟩, stp⟩ := backS (s := s) (p := p) (e := e) (below := below) (args := args) (R := R) (len := 3) (W := W) M hZ (wcW w4) w3 hf hl hEL H hSS m meth c ⟨T.setVm vm1, locs, cells, slots⟩ { mkF m pc Ls (argsL.reverse ++ .ref a :: rest) with stack := rest } (.invokespecial i) mk (.ref a :: argsL).toArray X1 rfl (by rw [X.2.2.2.1]; exact hsz) (hb X.2.2.1 hd) hW' (X1.named hnamed) ⟨ha, X.2.2.2.2.2.2, hc, hs⟩
  dsimp only [Pt.U, Pt.locs, Pt.cells, Pt.slots] at X' l1 l2 l3 stp hQ hS2 hgr hC
  subst l1 l2 l3
  have hgr' : h.size ≤ T'.heap.size := by rw [← X.2.2.2.2.2.2]; exact hgr
  obtain ⟨r1, r2, r3, r4⟩ := rebS hS hk X' hS2 hgr' hZ X.2.2.2.2.1
  exact Go.step (fun t q => (hstep _ fun acts => by rw [doInvoke_state]; exact Steps.refl _).trans (stp.trans q)) (k v T' L ⟨r1, X.2.1, X.2.2.1, X.2.2.2.1, r4, r3, rfl⟩ hQ _ r2 (Nat.le_refl _) hC)
theorem g_virtualS (X : Sx Z own bytes ml p l e R (s.setVm vm0) m args below meth c T locs cells slots h) (hS : s.Since vm0 k0) (hk : k0 ≤ h.size) (hEL : EW Z a0 EL) (H : CHv Z EL vm0 h) {SS : List Addr} (hSS : ∀ x ∈ SS, x < h.size ∧ Safe Z EL vm0 h x) {y : MethodName} {yb : ByteArray} {yl W i : Nat} {yr : Option FieldType} {rm : Room} {as' : Array Value} {Q : Option Value → Heap → List Loc → Prop} {a : Addr} {C : String} (argsL rest : List Value) (E : Exa Z h a C) (w1 : (Cond.methodLink own i y).before a0 Z = true) (w2 : (Cond.declares y).before a0 Z = true) (w5 : (Cond.selects C y y).before a0 Z = true) (w6 : (Cond.instanceMethod y).before a0 Z = true) (w3 : (Cond.initialized y.cls).before a0 Z = true) (w4 : (Cond.code y yb yl yr).before a0 Z = true) (M : RmS l Z EL SS (Cond.code y yb yl yr) y rm as' h Q) (hd : decode bytes pc = .ok (.invokevirtual i, 3)) (hp : pc + 3 = pc') (hy : y.cls ≠ "java/lang/invoke/MethodHandle" ∧ y.cls ≠ "java/lang/invoke/VarHandle") (hf : rm.frames + 1 ≤ R.frames) (hl : W + (yl + 11) + rm.locals ≤ R.locals) (hsz : Ls.size = ml) (ha : (.ref a :: argsL).toArray = as') (hst : st = argsL.reverse ++ .ref a :: rest) (hlen : ∀ sig, parseMethodDescriptor y.desc = some sig → argsL.length = sig.parameters.length) (hW : (rest.map fun v => v.category).sum ≤ W) (hc : cells + rm.cells ≤ R.cells) (hs : slots + rm.slots ≤ R.slots)
    (k : ∀ v T' L, Sx Z own bytes ml p l e R (s.setVm T'.vm) m args below meth c T' (locs ++ L) (cells + rm.cells) (slots + rm.slots) T'.heap → Q v T'.heap L → ∀ k1 : Nat, s.Since T'.vm k1 → k1 ≤ T'.heap.size → CHr Z EL vm0 h T'.vm T'.heap → Go p e below K (T'.setTop (mkF m pc' Ls (v.toList ++ rest)))) :
    Go p e below K (T.setTop (mkF m pc Ls st)) := by
  subst hp; subst hst
  have hZ := X.2.2.2.2.2.1
  obtain ⟨cq, kq, qa, qb, qc⟩ := isOf hZ X.2.2.2.2.2.2 E
  obtain ⟨v, vm1, ⟨T', L', k', n'⟩, -, X', hS2, hgr, ⟨L, hQ, l1, l2, l3, hC⟩, stp⟩ := X.1.virtualBackS X.2.1 (y := y) (z := y) X.2.2.2.2.1 (mvT hZ w1) (mvT hZ w2) (notFace_of_selects (args := #[]) (mvT hZ w5)) (mvT hZ w5) (mvT hZ w6) hy (backS (W := W) M hZ (wcC w4) w3 hf hl hEL H hSS) qa qc (g := mkF m pc Ls (argsL.reverse ++ .ref a :: rest)) rfl (by rw [X.2.2.2.1]; exact hsz) (Steps.refl _) (argsL := argsL) (rest := rest) hlen rfl (by simpa using hW) (hb X.2.2.1 hd) (fun _ _ => ⟨ha, X.2.2.2.2.2.2, hc, hs⟩)
  dsimp only [Pt.U, Pt.locs, Pt.cells, Pt.slots] at X' l1 l2 l3 stp hQ hS2 hgr hC
  subst l1 l2 l3
  rw [X.2.2.2.2.2.2] at hgr
  obtain ⟨r1, r2, r3, r4⟩ := rebS hS hk X' hS2 hgr hZ X.2.2.2.2.1
  exact Go.step (fun t q => stp.trans q) (k v T' L ⟨r1, X.2.1, X.2.2.1, X.2.2.2.1, r4, r3, rfl⟩ hQ _ r2 (Nat.le_refl _) hC)
theorem g_areturnH (X : Sx Z own bytes ml p l e R (s.setVm vm0) m args below meth c T locs cells slots h) (hS : s.Since vm0 k0) (hk : k0 ≤ h.size) (hEL : EW Z a0 EL) (HR : CHr Z EL s.vm s.heap vm0 h) {Q : Option Value → Heap → List Loc → Prop} {kc ks : Nat} {v : Value} {t : FieldType} (hv : v.isRef = true) (ht : t.isReference = true) (hd : decode bytes pc = .ok (.areturn, 1)) (hret : meth.sig.returnType = some t) (hlk : meth.locks = false) (hc : cells ≤ kc) (hs : slots ≤ ks) (q : Q (some v) h locs) : Go p e below (EndsH Z EL s Q kc ks) (T.setTop (mkF m pc Ls [v])) := by
  obtain ⟨fs, hr, hrun, hended, hW, hB, hE, hsame⟩ := X.1.leaveW hS (by rw [X.2.2.2.2.2.2]; exact hk) (v := some v) (fun h => by rw [hret] at h; cases h) hlk
  refine ⟨_, _, X.1.areturnOut X.2.1 hv hret ht (hb X.2.2.1 hd) hr, hrun, hended, _, _, rfl, ?_, ?_, hW, hB, hE, hsame.mono hc hs⟩
  · show Q _ T.heap _
    rw [X.2.2.2.2.2.2]; exact q
  · show CHr Z EL s.vm s.heap T.vm T.heap
    rw [X.2.2.2.2.2.2]; exact HR.trans (CHv.at X.1 X.2.2.2.2.2.1 hEL HR.1)
end Wide2

section Copy
variable {p : Program} {l : Launch} {e : Env} {R : Room} {s : State} {m : MethodId} {args : Array Value} {below : List Frame} {meth : Method} {c : Code} {T : State} {locs : List Loc} {cells slots : Nat} {Z : State} {a0 : Array Value} {h : Heap} {own : String} {bytes : ByteArray} {ml : Nat} {pc pc' : Nat} {Ls : Array Slot} {st : List Value} {K : Outcome → State → Prop}
/-- what an array holds behind a copy of k values, from place u on to place d on -/
def cpL (vs ws : List Value) (u d k : Nat) : List Value := (List.range ws.length).map fun j => if d ≤ j ∧ j < d + k then vs.getD (u + (j - d)) .null else ws.getD j .null
theorem keep_set {dst : Addr} {cd cd' : Cell} (hb : h[dst]? = some cd) (e1 : cd'.cls = cd.cls) (e2 : cd'.vm = cd.vm) (e3 : cd'.slots.size = cd.slots.size) : Keep h (h.setIfInBounds dst cd') [dst] := by
  have hlt := (Array.getElem?_eq_some_iff.mp hb).1
  refine ⟨by simp, fun x cx q r => ?_, fun x cx q => ?_⟩
  · rw [Array.getElem?_setIfInBounds_ne (fun e => r (by rw [e]; simp))]; exact q
  · by_cases q0 : dst = x
    · subst q0
      obtain rfl : cd = cx := Option.some.inj (hb.symm.trans q)
      exact ⟨cd', by simp [hlt], e1, e2, e3⟩
    · exact ⟨cx, by rw [Array.getElem?_setIfInBounds_ne q0]; exact q, rfl, rfl, rfl⟩
theorem takes_prim {U : State} {d : ClassId} {ty : FieldType} {v : Value} (hr : refKind ty = false) (hf : fits ty v = true) : U.takes d v := by
  cases v <;> first | trivial | (cases ty <;> simp_all [refKind, fits])
theorem g_acopy (X : Sx Z own bytes ml p l e R s m args below meth c T locs cells slots h) {i W : Nat} {src dst : Addr} {ty : FieldType} {vs ws : List Value} {su sd sk : Int32} (u d k : Nat) (w1 : (Cond.methodLink own i acN).before a0 Z = true) (w2 : (Cond.native acN).before a0 Z = true) (w3 : (Cond.static acN).before a0 Z = true) (w4 : (Cond.initialized "java/lang/System").before a0 Z = true) (A : Av Z h src ty vs) (B : Av Z h dst ty ws) (hr : refKind ty = false) (hfit : ∀ v ∈ vs, fits ty v = true)
    (hu : su.toInt = u) (hdd : sd.toInt = d) (hkk : sk.toInt = k) (l1 : u + k ≤ vs.length) (l2 : d + k ≤ ws.length)
    (hd : decode bytes pc = .ok (.invokestatic i, 3)) (hp : pc + 3 = pc') (hsz : Ls.size = ml) (hf : 1 ≤ R.frames) (hW : (st.map fun v => v.category).sum ≤ W) (hl : W + 18 ≤ R.locals)
    (kk : ∀ T' h', Sx Z own bytes ml p l e R s m args below meth c T' (locs ++ copyLocs dst d k) cells slots h' → Keep h h' [dst] → Av Z h' dst ty (cpL vs ws u d k) → Go p e below K (T'.setTop (mkF m pc' Ls st))) :
    Go p e below K (T.setTop (mkF m pc Ls (.int sk :: .int sd :: .ref dst :: .int su :: .ref src :: st))) := by
  subst hp
  obtain ⟨ca, A, ea, ra⟩ := A
  obtain ⟨cb, B, eb, rb⟩ := B
  subst ea eb
  rw [Array.length_toList] at l1 l2 rb
  have hZ := X.2.2.2.2.2.1
  have eh := X.2.2.2.2.2.2
  obtain ⟨na, ka, hka, compa, kinda⟩ := State.isArrayOf_alike hZ.alike A.2.1
  obtain ⟨nb, kb, hkb, compb, kindb⟩ := State.isArrayOf_alike hZ.alike B.2.1
  have tu : su.toNatClampNeg = u := by show su.toInt.toNat = u; omega
  have td : sd.toNatClampNeg = d := by show sd.toInt.toNat = d; omega
  have tk : sk.toNatClampNeg = k := by show sk.toInt.toNat = k; omega
  have nn : ∀ {z : Int32} {n : Nat}, z.toInt = n → ¬ z < 0 := fun {z n} q => by rw [Int32.lt_iff_toInt_lt, q]; simp only [Int32.reduceToInt]; omega
  obtain ⟨vm1, hW1, X', stp⟩ := X.1.arraycopyK X.2.1 X.2.2.2.2.1 (mvT hZ w1) (mvT hZ w2) (mvT hZ w3) (mvT hZ w4) (srcPos := su) (destPos := sd) (n := sk) (src := src) (dst := dst) (cs := ca) (cd := cb) (by rw [eh]; exact A.1) (by rw [eh]; exact B.1) na nb A.2.2 B.2.2 hka hkb kinda kindb (by simp [hr]) (nn hu) (nn hdd) (nn hkk) (by rw [hu, hkk]; omega) (by rw [hdd, hkk]; omega)
    (fun vm _ j hj => by
      rw [tu]; rw [tk] at hj
      have hf' : fits ty (ca.slots.getD (u + j) .null) = true := hfit _ (by
        rw [Array.getD_eq_getD_getElem?, Array.getElem?_eq_getElem (by omega)]
        simp)
      exact ⟨hf', takes_prim hr hf'⟩)
    (g := mkF m pc Ls (.int sk :: .int sd :: .ref dst :: .int su :: .ref src :: st)) rfl (by rw [X.2.2.2.1]; exact hsz) (rest := st) rfl (hb X.2.2.1 hd) hf (by
      have e1 : nativeFrameWords "java/lang/System" "arraycopy" 5 = 7 := by decide
      have e2 : 2 * (mkF m pc Ls (.int sk :: .int sd :: .ref dst :: .int su :: .ref src :: st)).monitorRoom = 0 := rfl
      omega)
  rw [td, tk] at X'
  have F := Cell.storeRun_facts cb sd.toNatClampNeg (ca.stretch su.toNatClampNeg sk.toNatClampNeg)
  have hc0 : copied ca cb su sd sk = cb.storeRun sd.toNatClampNeg (ca.stretch su.toNatClampNeg sk.toNatClampNeg) := rfl
  have Kq : Keep h (h.setIfInBounds dst (copied ca cb su sd sk)) [dst] := keep_set B.1 (by rw [hc0]; exact F.1) (by rw [hc0]; exact F.2.1) (by rw [hc0]; exact F.2.2.1)
  refine Go.step (fun t q => stp _ q) (kk _ (h.setIfInBounds dst (copied ca cb su sd sk)) ⟨X', X.2.1, X.2.2.1, X.2.2.2.1, X.2.2.2.2.1, hZ, by show T.heap.setIfInBounds dst _ = _; rw [eh]⟩ Kq ?_)
  have hlt := (Array.getElem?_eq_some_iff.mp B.1).1
  refine ⟨copied ca cb su sd sk, ⟨by simp [hlt], ?_, by rw [hc0, F.2.1]; exact B.2.2⟩, ?_, ?_⟩
  · obtain ⟨q1, q2⟩ := B.2.1
    refine ⟨by rw [hc0, F.2.1]; exact q1, ?_⟩
    rw [hc0, F.1]; exact q2
  · apply List.ext_getElem?
    intro j
    rw [Array.getElem?_toList, hc0, tu, td, tk]
    have hsl : (ca.stretch u k).length = k := by unfold Cell.stretch; simp
    rw [Cell.storeRun_get _ _ _ _ (by rw [hsl]; omega), hsl]
    unfold cpL
    by_cases hj : j < cb.slots.size
    · rw [List.getElem?_map, List.getElem?_range (by rw [Array.length_toList]; exact hj)]
      by_cases q : d ≤ j ∧ j < d + k
      · rw [if_pos q]
        simp only [Option.map_some, if_pos q]
        unfold Cell.stretch
        rw [List.getElem?_map, List.getElem?_range (by omega)]
        simp [List.getD_eq_getElem?_getD, Array.getD_eq_getD_getElem?]
      · rw [if_neg q]
        simp only [Option.map_some, if_neg q]
        rw [Array.getElem?_eq_getElem hj]
        simp [List.getD_eq_getElem?_getD, hj]
    · rw [if_neg (by omega), Array.getElem?_eq_none (by omega), List.getElem?_eq_none (by simp; omega)]
  · unfold cpL; simp only [List.length_map, List.length_range, Array.length_toList]; exact rb
theorem Fr.copy {n0 : Nat} {dst d k : Nat} (N : Fr n0 locs) (g : n0 ≤ dst) : Fr n0 (locs ++ copyLocs dst d k) := N.app (fun y hy => by rw [copyLocs_base hy]; exact g)
end Copy
def PuV (h0 : Heap) (v : Option Value) (h : Heap) (L : List Loc) : Prop := v = none ∧ L = [] ∧ h = h0
theorem pureXV {Z : State} {own : String} {bytes : ByteArray} {ml : Nat} {p : Program} {l : Launch} {e : Env} {R : Room} {s : State} {m : MethodId} {args : Array Value} {below : List Frame} {meth : Method} {c : Code} {T : State} {locs L : List Loc} {cells slots : Nat} {h : Heap} {v : Option Value}
    (X : Sx Z own bytes ml p l e R s m args below meth c T (locs ++ L) (cells + 0) (slots + 0) T.heap) (q : PuV h v T.heap L) : v = none ∧ Sx Z own bytes ml p l e R s m args below meth c T locs cells slots h := by
  obtain ⟨q1, rfl, q3⟩ := q
  rw [List.append_nil] at X
  exact ⟨q1, X.1, X.2.1, X.2.2.1, X.2.2.2.1, X.2.2.2.2.1, X.2.2.2.2.2.1, q3⟩
theorem Av.ne {Z : State} {h : Heap} {a b : Addr} {ty ty' : FieldType} {vs ws : List Value} (F : Av Z h a ty vs) (G : Av Z h b ty' ws) (q : vs.length ≠ ws.length) : a ≠ b := by
  intro e0; subst e0
  obtain ⟨c, A, e, -⟩ := F
  obtain ⟨c', A', e', -⟩ := G
  have : c = c' := Option.some.inj (A.1.symm.trans A'.1)
  subst this
  exact q (by rw [← e, ← e'])
/-- arrays of unlike kinds -/
theorem Av.neT {Z : State} {h : Heap} {a b : Addr} {ty ty' : FieldType} {vs ws : List Value} (F : Av Z h a ty vs) (G : Av Z h b ty' ws) (q : ty ≠ ty') : a ≠ b := by
  intro e0; subst e0
  obtain ⟨c, A, -⟩ := F
  obtain ⟨c', A', -⟩ := G
  obtain rfl : c = c' := Option.some.inj (A.1.symm.trans A'.1)
  obtain ⟨-, k, hk, d, hd⟩ := A.2.1
  obtain ⟨-, k', hk', d', hd'⟩ := A'.2.1
  obtain rfl : k = k' := Option.some.inj (hk.symm.trans hk')
  rw [hd] at hd'
  exact q (by injection hd')
/-- a String of these bytes -/
def StrB (Z : State) (h : Heap) (x q : Addr) (bs : List Value) : Prop := Exa Z h x "java/lang/String" ∧ Fld Z h x "java/lang/String" "coder" "B" (.int 0) ∧ Fld Z h x "java/lang/String" "value" "[B" (.ref q) ∧ Av Z h q .byte bs
theorem Av.neE {Z : State} {h : Heap} {a b : Addr} {ty : FieldType} {vs : List Value} {C : String} {n : Nat} {aa : Array Value} (F : Av Z h a ty vs) (E : Exa Z h b C) (wi : (Cond.instantiable C n).before aa Z = true) : a ≠ b := by
  obtain ⟨c, A, -⟩ := F
  exact (ne_arr E wi A).symm
theorem st_dupX2 {tb : Tables} [Ours tb] {e : Env} {below : List Frame} {T target : State} {m : MethodId} {c : Code} {g : JFrame} (h : At T m c below) (hx : tb.exec = Jvm.exec) (hg : g.method = m) {x y z : Value} {rest : List Value} (hd : decode c.code g.pc = .ok (.dup_x2, 1)) (hs : g.stack = x :: y :: z :: rest) (hc : x.category = 1) (hc1 : y.category = 1) (hc2 : z.category = 1)
    (hr : Steps tb e below (T.setTop { g with pc := g.pc + 1, stack := x :: y :: z :: x :: rest }) target) : Steps tb e below (T.setTop g) target := by
  subst hg
  jvm_step h [h.top, hx, hd, hs, hc, hc1, hc2]
  exact hr
theorem g_dup_x2 {Z : State} {own : String} {bytes : ByteArray} {ml : Nat} {p : Program} {l : Launch} {e : Env} {R : Room} {s : State} {m : MethodId} {args : Array Value} {below : List Frame} {meth : Method} {c : Code} {T : State} {locs : List Loc} {cells slots : Nat} {h : Heap} {K : Outcome → State → Prop} {pc pc' : Nat} {Ls : Array Slot} {st : List Value} (X : Sx Z own bytes ml p l e R s m args below meth c T locs cells slots h) {u v w : Value} (hd : decode bytes pc = .ok (.dup_x2, 1)) (hp : pc + 1 = pc') (hc : u.category = 1) (hc1 : v.category = 1) (hc2 : w.category = 1)
    (k : Go p e below K (T.setTop (mkF m pc' Ls (u :: v :: w :: u :: st)))) : Go p e below K (T.setTop (mkF m pc Ls (u :: v :: w :: st))) := by
  subst hp
  exact Go.step (fun t q => st_dupX2 X.1.here X.2.1 rfl (hb X.2.2.1 hd) rfl hc hc1 hc2 q) k
theorem elw {aa : Array Value} {Z : State} (hw : ∀ d ∈ tables_1, d.before aa Z = true) : EW Z aa consts_1 := EW.cons (tb hw 58 rfl) (by decide +kernel) (EW.cons (tb hw 60 rfl) (by decide +kernel) (EW.cons (tb hw 66 rfl) (by decide +kernel) (EW.cons (tb hw 39 rfl) (by decide +kernel) (EW.cons (tb hw 46 rfl) (by decide +kernel) (EW.cons (tb hw 131 rfl) (by decide +kernel) (EW.nil))))))
theorem sAt {aa : Array Value} {Z : State} (hw : ∀ d ∈ tables_1, d.before aa Z = true) : ∀ a ∈ Bundle.stringAtoms, a.before aa Z = true := fun a ha => hw a ((by decide +kernel : ∀ d ∈ Bundle.stringAtoms, d ∈ tables_1) a ha)
theorem pn_0 : plainName "java/lang/StringUTF16" = true := by first | (simp [plainName, overriddenIn]; done) | decide +kernel
theorem d5_0 : decode jdk_52_method_21_code 0 = .ok (.iconst 0, 1) := by decide +kernel
theorem d5_1 : decode jdk_52_method_21_code 1 = .ok (.istore 5, 2) := by decide +kernel
theorem d5_3 : decode jdk_52_method_21_code 3 = .ok (.iload 5, 2) := by decide +kernel
theorem d5_5 : decode jdk_52_method_21_code 5 = .ok (.iload 4, 2) := by decide +kernel
theorem d5_7 : decode jdk_52_method_21_code 7 = .ok (.if_icmp .ge 37, 3) := by decide +kernel
theorem d5_10 : decode jdk_52_method_21_code 10 = .ok (.aload_n 0, 1) := by decide +kernel
theorem d5_11 : decode jdk_52_method_21_code 11 = .ok (.iload_n 1, 1) := by decide +kernel
theorem d5_12 : decode jdk_52_method_21_code 12 = .ok (.caload, 1) := by decide +kernel
theorem d5_13 : decode jdk_52_method_21_code 13 = .ok (.istore 6, 2) := by decide +kernel
theorem d5_15 : decode jdk_52_method_21_code 15 = .ok (.iload 6, 2) := by decide +kernel
theorem d5_17 : decode jdk_52_method_21_code 17 = .ok (.sipush 255, 3) := by decide +kernel
theorem d5_20 : decode jdk_52_method_21_code 20 = .ok (.if_icmp .le 6, 3) := by decide +kernel
theorem d5_26 : decode jdk_52_method_21_code 26 = .ok (.aload_n 2, 1) := by decide +kernel
theorem d5_27 : decode jdk_52_method_21_code 27 = .ok (.iload_n 3, 1) := by decide +kernel
theorem d5_28 : decode jdk_52_method_21_code 28 = .ok (.iload 6, 2) := by decide +kernel
theorem d5_30 : decode jdk_52_method_21_code 30 = .ok (.i2b, 1) := by decide +kernel
theorem d5_31 : decode jdk_52_method_21_code 31 = .ok (.bastore, 1) := by decide +kernel
theorem d5_32 : decode jdk_52_method_21_code 32 = .ok (.iinc 1 1, 3) := by decide +kernel
theorem d5_35 : decode jdk_52_method_21_code 35 = .ok (.iinc 3 1, 3) := by decide +kernel
theorem d5_38 : decode jdk_52_method_21_code 38 = .ok (.iinc 5 1, 3) := by decide +kernel
theorem d5_41 : decode jdk_52_method_21_code 41 = .ok (.goto (-38), 3) := by decide +kernel
theorem d5_44 : decode jdk_52_method_21_code 44 = .ok (.iload 4, 2) := by decide +kernel
theorem d5_46 : decode jdk_52_method_21_code 46 = .ok (.ireturn, 1) := by decide +kernel
theorem ef_rCa1 (m : MethodId) (x0 : Addr) (x1 : Int32) (x2 : Addr) (x3 : Int32) (x4 : Int32) : entryFrame m #[(.ref x0), (.int x1), (.ref x2), (.int x3), (.int x4)] 7 = mkF m 0 #[.val (.ref x0), .val (.int x1), .val (.ref x2), .val (.int x3), .val (.int x4), .unset, .unset] [] := by first | (simp [entryFrame, mkF, argsToLocals, Value.category]; done) | rfl
set_option maxRecDepth 65536 in
set_option maxHeartbeats 40000000 in
theorem rCa1 (l : Launch) (Z : State) (aa : Array Value) (hw : ∀ d ∈ tables_1, d.before aa Z = true) (ws : List Jvm.Cond) (a0 : Addr) (a2 : Addr) (c0 : Int32) (z0 : Int32) (h0 : Heap) (n0 : Nat) (Z0 : n0 ≤ h0.size) (qb : Av Z h0 a0 .char [(.int c0)]) (qa : Av Z h0 a2 .byte [(.int z0)]) (qc : n0 ≤ a2) (qf : a0 ≠ a2) (pl0 : ¬ (255 : Int32) < c0) :
    Rm l Z (⟨"java/lang/StringUTF16", "compress", "([CI[BII)I"⟩ : MethodName) jdk_52_method_21_code 7 (some .int) ws ({ frames := 0, cells := 0, slots := 0, locals := 0 } : Room) #[(.ref a0), (.int (0 : Int32)), (.ref a2), (.int (0 : Int32)), (.int (1 : Int32))] h0 (fun v h L => v = some (.int (1 : Int32)) ∧ Fr n0 L ∧ Keep h0 h [a2] ∧ Av Z h a2 .byte [(.int (nar .byte (c0.toInt8.toInt32)))]) := by
 refine Rm.of (plainFor_of_name pn_0) ?_
 intro p e s m below meth cc T X hnm hret hlk
 refine Go.at_ (ef_rCa1 m a0 (0 : Int32) a2 (0 : Int32) (1 : Int32)) ?_
 have N := Fr.nil n0
 have Kp := Keep.refl h0 [a2]
 refine g_iconst X (0 : Int32) d5_0 (pc' := 1) rfl rfl ?_
 refine g_istore X d5_1 (pc' := 3) (Ls' := #[.val (.ref a0), .val (.int (0 : Int32)), .val (.ref a2), .val (.int (0 : Int32)), .val (.int (1 : Int32)), .val (.int (0 : Int32)), .unset]) rfl rfl ?_
 refine g_iload X d5_3 (pc' := 5) rfl rfl ?_
 refine g_iload X d5_5 (pc' := 7) rfl rfl ?_
 refine g_icN X d5_7 (tlt (show (0 : Int32) < (1 : Int32) from (by decide))).2.1 (pc' := 10) rfl ?_
 refine g_aloadN X d5_10 (pc' := 11) rfl rfl rfl ?_
 refine g_iloadN X d5_11 (pc' := 12) rfl rfl ?_
 refine g_caload X qb 0 d5_12 (pc' := 13) rfl (by decide) (by decide) rfl ?_
 refine g_istore X d5_13 (pc' := 15) (Ls' := #[.val (.ref a0), .val (.int (0 : Int32)), .val (.ref a2), .val (.int (0 : Int32)), .val (.int (1 : Int32)), .val (.int (0 : Int32)), .val (.int c0)]) rfl rfl ?_
 refine g_iload X d5_15 (pc' := 17) rfl rfl ?_
 refine g_sipush X (255 : Int32) d5_17 (pc' := 20) rfl rfl ?_
 refine g_icY X d5_20 (flt (show ¬ ((255 : Int32) < c0) from pl0)).2.2.2 (pc' := 26) (by decide) (by decide) ?_
 refine g_aloadN X d5_26 (pc' := 27) rfl rfl rfl ?_
 refine g_iloadN X d5_27 (pc' := 28) rfl rfl ?_
 refine g_iload X d5_28 (pc' := 30) rfl rfl ?_
 refine g_i2b X d5_30 (pc' := 31) rfl ?_
 generalize qd : (c0.toInt8.toInt32) = qe
 refine g_bastore X qa 0 d5_31 (pc' := 32) rfl (by decide) (by decide) (Nat.le_of_ble_eq_true rfl) ?_
 intro T h X W qa
 replace qa : Av Z h a2 .byte [(.int (nar .byte qe))] := qa
 replace Z0 := Nat.le_trans Z0 (Nat.le_of_eq W.size.symm)
 replace N := Fr.snoc X.1 N qc
 replace Kp := Kp.wr W (Or.inl (List.mem_of_getElem? (i := 0) rfl))
 refine g_iinc X d5_32 (pc' := 35) (q := (1 : Int32)) (Ls' := #[.val (.ref a0), .val (.int (1 : Int32)), .val (.ref a2), .val (.int (0 : Int32)), .val (.int (1 : Int32)), .val (.int (0 : Int32)), .val (.int c0)]) rfl rfl rfl rfl ?_
 refine g_iinc X d5_35 (pc' := 38) (q := (1 : Int32)) (Ls' := #[.val (.ref a0), .val (.int (1 : Int32)), .val (.ref a2), .val (.int (1 : Int32)), .val (.int (1 : Int32)), .val (.int (0 : Int32)), .val (.int c0)]) rfl rfl rfl rfl ?_
 refine g_iinc X d5_38 (pc' := 41) (q := (1 : Int32)) (Ls' := #[.val (.ref a0), .val (.int (1 : Int32)), .val (.ref a2), .val (.int (1 : Int32)), .val (.int (1 : Int32)), .val (.int (1 : Int32)), .val (.int c0)]) rfl rfl rfl rfl ?_
 refine g_goto X d5_41 (pc' := 3) (by decide) (by decide) ?_
 refine g_iload X d5_3 (pc' := 5) rfl rfl ?_
 refine g_iload X d5_5 (pc' := 7) rfl rfl ?_
 refine g_icY X d5_7 (flt (show ¬ ((1 : Int32) < (1 : Int32)) from (by decide))).2.1 (pc' := 44) (by decide) (by decide) ?_
 refine g_iload X d5_44 (pc' := 46) rfl rfl ?_
 refine g_ireturn X d5_46 hret hlk (by decide) (by decide) ?_
 subst qd
 exact ⟨rfl, N, Kp, qa⟩
theorem ef_rCa2 (m : MethodId) (x0 : Addr) (x1 : Int32) (x2 : Addr) (x3 : Int32) (x4 : Int32) : entryFrame m #[(.ref x0), (.int x1), (.ref x2), (.int x3), (.int x4)] 7 = mkF m 0 #[.val (.ref x0), .val (.int x1), .val (.ref x2), .val (.int x3), .val (.int x4), .unset, .unset] [] := by first | (simp [entryFrame, mkF, argsToLocals, Value.category]; done) | rfl
set_option maxRecDepth 65536 in
set_option maxHeartbeats 40000000 in
theorem rCa2 (l : Launch) (Z : State) (aa : Array Value) (hw : ∀ d ∈ tables_1, d.before aa Z = true) (ws : List Jvm.Cond) (a0 : Addr) (a2 : Addr) (c0 : Int32) (c1 : Int32) (z0 : Int32) (z1 : Int32) (h0 : Heap) (n0 : Nat) (Z0 : n0 ≤ h0.size) (qb : Av Z h0 a0 .char [(.int c0), (.int c1)]) (qa : Av Z h0 a2 .byte [(.int z0), (.int z1)]) (qc : n0 ≤ a2) (qe : a0 ≠ a2) (pl0 : ¬ (255 : Int32) < c0) (pl1 : ¬ (255 : Int32) < c1) :
    Rm l Z (⟨"java/lang/StringUTF16", "compress", "([CI[BII)I"⟩ : MethodName) jdk_52_method_21_code 7 (some .int) ws ({ frames := 0, cells := 0, slots := 0, locals := 0 } : Room) #[(.ref a0), (.int (0 : Int32)), (.ref a2), (.int (0 : Int32)), (.int (2 : Int32))] h0 (fun v h L => v = some (.int (2 : Int32)) ∧ Fr n0 L ∧ Keep h0 h [a2] ∧ Av Z h a2 .byte [(.int (nar .byte (c0.toInt8.toInt32))), (.int (nar .byte (c1.toInt8.toInt32)))]) := by
 refine Rm.of (plainFor_of_name pn_0) ?_
 intro p e s m below meth cc T X hnm hret hlk
 refine Go.at_ (ef_rCa2 m a0 (0 : Int32) a2 (0 : Int32) (2 : Int32)) ?_
 have N := Fr.nil n0
 have Kp := Keep.refl h0 [a2]
 refine g_iconst X (0 : Int32) d5_0 (pc' := 1) rfl rfl ?_
 refine g_istore X d5_1 (pc' := 3) (Ls' := #[.val (.ref a0), .val (.int (0 : Int32)), .val (.ref a2), .val (.int (0 : Int32)), .val (.int (2 : Int32)), .val (.int (0 : Int32)), .unset]) rfl rfl ?_
 refine g_iload X d5_3 (pc' := 5) rfl rfl ?_
 refine g_iload X d5_5 (pc' := 7) rfl rfl ?_
 refine g_icN X d5_7 (tlt (show (0 : Int32) < (2 : Int32) from (by decide))).2.1 (pc' := 10) rfl ?_
 refine g_aloadN X d5_10 (pc' := 11) rfl rfl rfl ?_
 refine g_iloadN X d5_11 (pc' := 12) rfl rfl ?_
 refine g_caload X qb 0 d5_12 (pc' := 13) rfl (by decide) (by decide) rfl ?_
 refine g_istore X d5_13 (pc' := 15) (Ls' := #[.val (.ref a0), .val (.int (0 : Int32)), .val (.ref a2), .val (.int (0 : Int32)), .val (.int (2 : Int32)), .val (.int (0 : Int32)), .val (.int c0)]) rfl rfl ?_
 refine g_iload X d5_15 (pc' := 17) rfl rfl ?_
 refine g_sipush X (255 : Int32) d5_17 (pc' := 20) rfl rfl ?_
 refine g_icY X d5_20 (flt (show ¬ ((255 : Int32) < c0) from pl0)).2.2.2 (pc' := 26) (by decide) (by decide) ?_
 refine g_aloadN X d5_26 (pc' := 27) rfl rfl rfl ?_
 refine g_iloadN X d5_27 (pc' := 28) rfl rfl ?_
 refine g_iload X d5_28 (pc' := 30) rfl rfl ?_
 refine g_i2b X d5_30 (pc' := 31) rfl ?_
 generalize qf : (c0.toInt8.toInt32) = qd
 refine g_bastore X qa 0 d5_31 (pc' := 32) rfl (by decide) (by decide) (Nat.le_of_ble_eq_true rfl) ?_
 intro T h X W qa
 replace qa : Av Z h a2 .byte [(.int (nar .byte qd)), (.int z1)] := qa
 replace qb := qb.other W qe
 replace Z0 := Nat.le_trans Z0 (Nat.le_of_eq W.size.symm)
 replace N := Fr.snoc X.1 N qc
 replace Kp := Kp.wr W (Or.inl (List.mem_of_getElem? (i := 0) rfl))
 refine g_iinc X d5_32 (pc' := 35) (q := (1 : Int32)) (Ls' := #[.val (.ref a0), .val (.int (1 : Int32)), .val (.ref a2), .val (.int (0 : Int32)), .val (.int (2 : Int32)), .val (.int (0 : Int32)), .val (.int c0)]) rfl rfl rfl rfl ?_
 refine g_iinc X d5_35 (pc' := 38) (q := (1 : Int32)) (Ls' := #[.val (.ref a0), .val (.int (1 : Int32)), .val (.ref a2), .val (.int (1 : Int32)), .val (.int (2 : Int32)), .val (.int (0 : Int32)), .val (.int c0)]) rfl rfl rfl rfl ?_
 refine g_iinc X d5_38 (pc' := 41) (q := (1 : Int32)) (Ls' := #[.val (.ref a0), .val (.int (1 : Int32)), .val (.ref a2), .val (.int (1 : Int32)), .val (.int (2 : Int32)), .val (.int (1 : Int32)), .val (.int c0)]) rfl rfl rfl rfl ?_
 refine g_goto X d5_41 (pc' := 3) (by decide) (by decide) ?_
 refine g_iload X d5_3 (pc' := 5) rfl rfl ?_
 refine g_iload X d5_5 (pc' := 7) rfl rfl ?_
 refine g_icN X d5_7 (tlt (show (1 : Int32) < (2 : Int32) from (by decide))).2.1 (pc' := 10) rfl ?_
 refine g_aloadN X d5_10 (pc' := 11) rfl rfl rfl ?_
 refine g_iloadN X d5_11 (pc' := 12) rfl rfl ?_
 refine g_caload X qb 1 d5_12 (pc' := 13) rfl (by decide) (by decide) rfl ?_
 refine g_istore X d5_13 (pc' := 15) (Ls' := #[.val (.ref a0), .val (.int (1 : Int32)), .val (.ref a2), .val (.int (1 : Int32)), .val (.int (2 : Int32)), .val (.int (1 : Int32)), .val (.int c1)]) rfl rfl ?_
 refine g_iload X d5_15 (pc' := 17) rfl rfl ?_
 refine g_sipush X (255 : Int32) d5_17 (pc' := 20) rfl rfl ?_
 refine g_icY X d5_20 (flt (show ¬ ((255 : Int32) < c1) from pl1)).2.2.2 (pc' := 26) (by decide) (by decide) ?_
 refine g_aloadN X d5_26 (pc' := 27) rfl rfl rfl ?_
 refine g_iloadN X d5_27 (pc' := 28) rfl rfl ?_
 refine g_iload X d5_28 (pc' := 30) rfl rfl ?_
 refine g_i2b X d5_30 (pc' := 31) rfl ?_
 generalize qg : (c1.toInt8.toInt32) = qh
 refine g_bastore X qa 1 d5_31 (pc' := 32) rfl (by decide) (by decide) (Nat.le_of_ble_eq_true rfl) ?_
 intro T h X W qa
 replace qa : Av Z h a2 .byte [(.int (nar .byte qd)), (.int (nar .byte qh))] := qa
 replace Z0 := Nat.le_trans Z0 (Nat.le_of_eq W.size.symm)
 replace N := Fr.snoc X.1 N qc
 replace Kp := Kp.wr W (Or.inl (List.mem_of_getElem? (i := 0) rfl))
 refine g_iinc X d5_32 (pc' := 35) (q := (1 : Int32)) (Ls' := #[.val (.ref a0), .val (.int (2 : Int32)), .val (.ref a2), .val (.int (1 : Int32)), .val (.int (2 : Int32)), .val (.int (1 : Int32)), .val (.int c1)]) rfl rfl rfl rfl ?_
 refine g_iinc X d5_35 (pc' := 38) (q := (1 : Int32)) (Ls' := #[.val (.ref a0), .val (.int (2 : Int32)), .val (.ref a2), .val (.int (2 : Int32)), .val (.int (2 : Int32)), .val (.int (1 : Int32)), .val (.int c1)]) rfl rfl rfl rfl ?_
 refine g_iinc X d5_38 (pc' := 41) (q := (1 : Int32)) (Ls' := #[.val (.ref a0), .val (.int (2 : Int32)), .val (.ref a2), .val (.int (2 : Int32)), .val (.int (2 : Int32)), .val (.int (2 : Int32)), .val (.int c1)]) rfl rfl rfl rfl ?_
 refine g_goto X d5_41 (pc' := 3) (by decide) (by decide) ?_
 refine g_iload X d5_3 (pc' := 5) rfl rfl ?_
 refine g_iload X d5_5 (pc' := 7) rfl rfl ?_
 refine g_icY X d5_7 (flt (show ¬ ((2 : Int32) < (2 : Int32)) from (by decide))).2.1 (pc' := 44) (by decide) (by decide) ?_
 refine g_iload X d5_44 (pc' := 46) rfl rfl ?_
 refine g_ireturn X d5_46 hret hlk (by decide) (by decide) ?_
 subst qf qg
 exact ⟨rfl, N, Kp, qa⟩
theorem d4_0 : decode jdk_52_method_16_code 0 = .ok (.iload_n 2, 1) := by decide +kernel
theorem d4_1 : decode jdk_52_method_16_code 1 = .ok (.newarray .byte, 2) := by decide +kernel
theorem d4_3 : decode jdk_52_method_16_code 3 = .ok (.astore_n 3, 1) := by decide +kernel
theorem d4_4 : decode jdk_52_method_16_code 4 = .ok (.aload_n 0, 1) := by decide +kernel
theorem d4_5 : decode jdk_52_method_16_code 5 = .ok (.iload_n 1, 1) := by decide +kernel
theorem d4_6 : decode jdk_52_method_16_code 6 = .ok (.aload_n 3, 1) := by decide +kernel
theorem d4_7 : decode jdk_52_method_16_code 7 = .ok (.iconst 0, 1) := by decide +kernel
theorem d4_8 : decode jdk_52_method_16_code 8 = .ok (.iload_n 2, 1) := by decide +kernel
theorem d4_9 : decode jdk_52_method_16_code 9 = .ok (.invokestatic 115, 3) := by decide +kernel
theorem pd_0 : parseMethodDescriptor "([CI[BII)I" = some ⟨[(.array .char), .int, (.array .byte), .int, .int], some .int⟩ := by decide +kernel
theorem d4_12 : decode jdk_52_method_16_code 12 = .ok (.istore 4, 2) := by decide +kernel
theorem d4_14 : decode jdk_52_method_16_code 14 = .ok (.iload 4, 2) := by decide +kernel
theorem d4_16 : decode jdk_52_method_16_code 16 = .ok (.iload_n 2, 1) := by decide +kernel
theorem d4_17 : decode jdk_52_method_16_code 17 = .ok (.if_icmp .eq 40, 3) := by decide +kernel
theorem d4_57 : decode jdk_52_method_16_code 57 = .ok (.aload_n 3, 1) := by decide +kernel
theorem d4_58 : decode jdk_52_method_16_code 58 = .ok (.areturn, 1) := by decide +kernel
theorem ef_rCb1 (m : MethodId) (x0 : Addr) (x1 : Int32) (x2 : Int32) : entryFrame m #[(.ref x0), (.int x1), (.int x2)] 6 = mkF m 0 #[.val (.ref x0), .val (.int x1), .val (.int x2), .unset, .unset, .unset] [] := by first | (simp [entryFrame, mkF, argsToLocals, Value.category]; done) | rfl
set_option maxRecDepth 65536 in
set_option maxHeartbeats 40000000 in
theorem rCb1 (l : Launch) (Z : State) (aa : Array Value) (hw : ∀ d ∈ tables_1, d.before aa Z = true) (ws : List Jvm.Cond) (a0 : Addr) (c0 : Int32) (h0 : Heap) (n0 : Nat) (Z0 : n0 ≤ h0.size) (qb : Av Z h0 a0 .char [(.int c0)]) (pl0 : ¬ (255 : Int32) < c0) :
    Rm l Z (⟨"java/lang/StringUTF16", "compress", "([CII)[B"⟩ : MethodName) jdk_52_method_16_code 6 (some (.array .byte)) ws ({ frames := 1, cells := 1, slots := 1, locals := 18 } : Room) #[(.ref a0), (.int (0 : Int32)), (.int (1 : Int32))] h0 (fun v h L => ∃ q0 : Addr, v = some (.ref q0) ∧ Fr n0 L ∧ Keep h0 h [] ∧ h0.size ≤ q0 ∧ n0 ≤ q0 ∧ Exa Z h q0 "[B" ∧ Av Z h q0 .byte [(.int (nar .byte (c0.toInt8.toInt32)))]) := by
 refine Rm.of (plainFor_of_name pn_0) ?_
 intro p e s m below meth cc T X hnm hret hlk
 refine Go.at_ (ef_rCb1 m a0 (0 : Int32) (1 : Int32)) ?_
 have N := Fr.nil n0
 have Kp := Keep.refl h0 []
 refine g_iloadN X d4_0 (pc' := 1) rfl rfl ?_
 refine g_newarray X 1 (tb hw 0 rfl) d4_1 (pc' := 3) rfl (by decide) (by decide) 1 (by decide) (by decide) (by decide) (by decide) (vs := [(.int (0 : Int32))]) rfl (ad := "[B") (by decide) ?_
 intro T h qa qc X Ex qd qe
 have qh : a0 ≠ qa := Nat.ne_of_lt (by rw [qc]; exact qb.lt)
 have qf : n0 ≤ qa := by rw [qc]; exact Z0
 have qg : h0.size ≤ qa := by rw [qc]; exact Kp.1
 replace qb := qb.ext Ex
 replace Z0 := Nat.le_trans Z0 Ex.1
 replace Kp := Kp.ext Ex
 refine g_astoreN X d4_3 (pc' := 4) (Ls' := #[.val (.ref a0), .val (.int (0 : Int32)), .val (.int (1 : Int32)), .val (.ref qa), .unset, .unset]) rfl rfl rfl ?_
 refine g_aloadN X d4_4 (pc' := 5) rfl rfl rfl ?_
 refine g_iloadN X d4_5 (pc' := 6) rfl rfl ?_
 refine g_aloadN X d4_6 (pc' := 7) rfl rfl rfl ?_
 refine g_iconst X (0 : Int32) d4_7 (pc' := 8) rfl rfl ?_
 refine g_iloadN X d4_8 (pc' := 9) rfl rfl ?_
 refine g_static X (W := 0) [(.ref a0), (.int (0 : Int32)), (.ref qa), (.int (0 : Int32)), (.int (1 : Int32))] [] (tb hw 22 rfl) (tb hw 23 rfl) (tb hw 20 rfl) (tb hw 24 rfl) (rCa1 l Z aa hw [] a0 qa c0 (0 : Int32) _ n0 Z0 qb qe qf qh pl0) d4_9 (pc' := 12) rfl (by decide) (by decide) (by decide) rfl rfl rfl (lenOf pd_0 rfl) (Nat.le_refl _) (by decide) (by decide) ?_
 intro v T L X q
 obtain ⟨rfl, Nq, Kq, qi⟩ := q
 replace N := N.app Nq
 replace Z0 := Nat.le_trans Z0 Kq.1
 replace Kp := Kp.trans Kq (allS (Or.inr qg) all0)
 replace qe := qi
 replace qd := qd.keep Kq
 show Go p e below _ (T.setTop (mkF m 12 _ [(.int (1 : Int32))]))
 refine g_istore X d4_12 (pc' := 14) (Ls' := #[.val (.ref a0), .val (.int (0 : Int32)), .val (.int (1 : Int32)), .val (.ref qa), .val (.int (1 : Int32)), .unset]) rfl rfl ?_
 refine g_iload X d4_14 (pc' := 16) rfl rfl ?_
 refine g_iloadN X d4_16 (pc' := 17) rfl rfl ?_
 refine g_icY X d4_17 (teq (show (1 : Int32) = (1 : Int32) from (by decide))).1 (pc' := 57) (by decide) (by decide) ?_
 refine g_aloadN X d4_57 (pc' := 58) rfl rfl rfl ?_
 refine g_areturn X rfl rfl d4_58 hret hlk (by decide) (by decide) ?_
 exact ⟨qa, rfl, N, Kp, qg, qf, qd, qe⟩
theorem d6_0 : decode jdk_52_method_15_code 0 = .ok (.iload_n 1, 1) := by decide +kernel
theorem d6_1 : decode jdk_52_method_15_code 1 = .ok (.aload_n 0, 1) := by decide +kernel
theorem d6_2 : decode jdk_52_method_15_code 2 = .ok (.arraylength, 1) := by decide +kernel
theorem d6_3 : decode jdk_52_method_15_code 3 = .ok (.isub, 1) := by decide +kernel
theorem d6_4 : decode jdk_52_method_15_code 4 = .ok (.bipush 31, 2) := by decide +kernel
theorem d6_6 : decode jdk_52_method_15_code 6 = .ok (.iushr, 1) := by decide +kernel
theorem d6_7 : decode jdk_52_method_15_code 7 = .ok (.i2b, 1) := by decide +kernel
theorem d6_8 : decode jdk_52_method_15_code 8 = .ok (.ireturn, 1) := by decide +kernel
theorem ef_rCf1 (m : MethodId) (x0 : Addr) (x1 : Int32) : entryFrame m #[(.ref x0), (.int x1)] 2 = mkF m 0 #[.val (.ref x0), .val (.int x1)] [] := by first | (simp [entryFrame, mkF, argsToLocals, Value.category]; done) | rfl
set_option maxRecDepth 65536 in
set_option maxHeartbeats 40000000 in
theorem rCf1 (l : Launch) (Z : State) (aa : Array Value) (hw : ∀ d ∈ tables_1, d.before aa Z = true) (ws : List Jvm.Cond) (a0 : Addr) (y0 : Int32) (h0 : Heap) (qa : Av Z h0 a0 .byte [(.int y0)]) :
    Rm l Z (⟨"java/lang/StringUTF16", "coderFromArrayLen", "([BI)B"⟩ : MethodName) jdk_52_method_15_code 2 (some .byte) ws ({ frames := 0, cells := 0, slots := 0, locals := 0 } : Room) #[(.ref a0), (.int (1 : Int32))] h0 (Pu (.int (0 : Int32)) h0) := by
 refine Rm.of (plainFor_of_name pn_0) ?_
 intro p e s m below meth cc T X hnm hret hlk
 refine Go.at_ (ef_rCf1 m a0 (1 : Int32)) ?_
 refine g_iloadN X d6_0 (pc' := 1) rfl rfl ?_
 refine g_aloadN X d6_1 (pc' := 2) rfl rfl rfl ?_
 refine g_arraylength X qa d6_2 (pc' := 3) rfl (z := (1 : Int32)) rfl ?_
 refine g_isub X d6_3 (pc' := 4) rfl ?_
 refine Go.lit32 (z := (0 : Int32)) (by decide) ?_
 refine g_bipush X (31 : Int32) d6_4 (pc' := 6) rfl rfl ?_
 refine g_iushr X d6_6 (pc' := 7) rfl ?_
 refine Go.lit32 (z := (0 : Int32)) (by decide) ?_
 refine g_i2b X d6_7 (pc' := 8) rfl ?_
 refine Go.lit32 (z := (0 : Int32)) (by decide) ?_
 refine g_ireturnN X (t := .byte) (by simp) d6_8 hret hlk (by decide) (by decide) ?_
 exact ⟨rfl, rfl, rfl⟩
theorem ef_rCb2 (m : MethodId) (x0 : Addr) (x1 : Int32) (x2 : Int32) : entryFrame m #[(.ref x0), (.int x1), (.int x2)] 6 = mkF m 0 #[.val (.ref x0), .val (.int x1), .val (.int x2), .unset, .unset, .unset] [] := by first | (simp [entryFrame, mkF, argsToLocals, Value.category]; done) | rfl
set_option maxRecDepth 65536 in
set_option maxHeartbeats 40000000 in
theorem rCb2 (l : Launch) (Z : State) (aa : Array Value) (hw : ∀ d ∈ tables_1, d.before aa Z = true) (ws : List Jvm.Cond) (a0 : Addr) (c0 : Int32) (c1 : Int32) (h0 : Heap) (n0 : Nat) (Z0 : n0 ≤ h0.size) (qb : Av Z h0 a0 .char [(.int c0), (.int c1)]) (pl0 : ¬ (255 : Int32) < c0) (pl1 : ¬ (255 : Int32) < c1) :
    Rm l Z (⟨"java/lang/StringUTF16", "compress", "([CII)[B"⟩ : MethodName) jdk_52_method_16_code 6 (some (.array .byte)) ws ({ frames := 1, cells := 1, slots := 2, locals := 18 } : Room) #[(.ref a0), (.int (0 : Int32)), (.int (2 : Int32))] h0 (fun v h L => ∃ q0 : Addr, v = some (.ref q0) ∧ Fr n0 L ∧ Keep h0 h [] ∧ h0.size ≤ q0 ∧ n0 ≤ q0 ∧ Exa Z h q0 "[B" ∧ Av Z h q0 .byte [(.int (nar .byte (c0.toInt8.toInt32))), (.int (nar .byte (c1.toInt8.toInt32)))]) := by
 refine Rm.of (plainFor_of_name pn_0) ?_
 intro p e s m below meth cc T X hnm hret hlk
 refine Go.at_ (ef_rCb2 m a0 (0 : Int32) (2 : Int32)) ?_
 have N := Fr.nil n0
 have Kp := Keep.refl h0 []
 refine g_iloadN X d4_0 (pc' := 1) rfl rfl ?_
 refine g_newarray X 2 (tb hw 0 rfl) d4_1 (pc' := 3) rfl (by decide) (by decide) 2 (by decide) (by decide) (by decide) (by decide) (vs := [(.int (0 : Int32)), (.int (0 : Int32))]) rfl (ad := "[B") (by decide) ?_
 intro T h qa qc X Ex qd qe
 have qh : a0 ≠ qa := Nat.ne_of_lt (by rw [qc]; exact qb.lt)
 have qf : n0 ≤ qa := by rw [qc]; exact Z0
 have qg : h0.size ≤ qa := by rw [qc]; exact Kp.1
 replace qb := qb.ext Ex
 replace Z0 := Nat.le_trans Z0 Ex.1
 replace Kp := Kp.ext Ex
 refine g_astoreN X d4_3 (pc' := 4) (Ls' := #[.val (.ref a0), .val (.int (0 : Int32)), .val (.int (2 : Int32)), .val (.ref qa), .unset, .unset]) rfl rfl rfl ?_
 refine g_aloadN X d4_4 (pc' := 5) rfl rfl rfl ?_
 refine g_iloadN X d4_5 (pc' := 6) rfl rfl ?_
 refine g_aloadN X d4_6 (pc' := 7) rfl rfl rfl ?_
 refine g_iconst X (0 : Int32) d4_7 (pc' := 8) rfl rfl ?_
 refine g_iloadN X d4_8 (pc' := 9) rfl rfl ?_
 refine g_static X (W := 0) [(.ref a0), (.int (0 : Int32)), (.ref qa), (.int (0 : Int32)), (.int (2 : Int32))] [] (tb hw 22 rfl) (tb hw 23 rfl) (tb hw 20 rfl) (tb hw 24 rfl) (rCa2 l Z aa hw [] a0 qa c0 c1 (0 : Int32) (0 : Int32) _ n0 Z0 qb qe qf qh pl0 pl1) d4_9 (pc' := 12) rfl (by decide) (by decide) (by decide) rfl rfl rfl (lenOf pd_0 rfl) (Nat.le_refl _) (by decide) (by decide) ?_
 intro v T L X q
 obtain ⟨rfl, Nq, Kq, qi⟩ := q
 replace N := N.app Nq
 replace Z0 := Nat.le_trans Z0 Kq.1
 replace Kp := Kp.trans Kq (allS (Or.inr qg) all0)
 replace qe := qi
 replace qd := qd.keep Kq
 show Go p e below _ (T.setTop (mkF m 12 _ [(.int (2 : Int32))]))
 refine g_istore X d4_12 (pc' := 14) (Ls' := #[.val (.ref a0), .val (.int (0 : Int32)), .val (.int (2 : Int32)), .val (.ref qa), .val (.int (2 : Int32)), .unset]) rfl rfl ?_
 refine g_iload X d4_14 (pc' := 16) rfl rfl ?_
 refine g_iloadN X d4_16 (pc' := 17) rfl rfl ?_
 refine g_icY X d4_17 (teq (show (2 : Int32) = (2 : Int32) from (by decide))).1 (pc' := 57) (by decide) (by decide) ?_
 refine g_aloadN X d4_57 (pc' := 58) rfl rfl rfl ?_
 refine g_areturn X rfl rfl d4_58 hret hlk (by decide) (by decide) ?_
 exact ⟨qa, rfl, N, Kp, qg, qf, qd, qe⟩
theorem ef_rCf2 (m : MethodId) (x0 : Addr) (x1 : Int32) : entryFrame m #[(.ref x0), (.int x1)] 2 = mkF m 0 #[.val (.ref x0), .val (.int x1)] [] := by first | (simp [entryFrame, mkF, argsToLocals, Value.category]; done) | rfl
set_option maxRecDepth 65536 in
set_option maxHeartbeats 40000000 in
theorem rCf2 (l : Launch) (Z : State) (aa : Array Value) (hw : ∀ d ∈ tables_1, d.before aa Z = true) (ws : List Jvm.Cond) (a0 : Addr) (y0 : Int32) (y1 : Int32) (h0 : Heap) (qa : Av Z h0 a0 .byte [(.int y0), (.int y1)]) :
    Rm l Z (⟨"java/lang/StringUTF16", "coderFromArrayLen", "([BI)B"⟩ : MethodName) jdk_52_method_15_code 2 (some .byte) ws ({ frames := 0, cells := 0, slots := 0, locals := 0 } : Room) #[(.ref a0), (.int (2 : Int32))] h0 (Pu (.int (0 : Int32)) h0) := by
 refine Rm.of (plainFor_of_name pn_0) ?_
 intro p e s m below meth cc T X hnm hret hlk
 refine Go.at_ (ef_rCf2 m a0 (2 : Int32)) ?_
 refine g_iloadN X d6_0 (pc' := 1) rfl rfl ?_
 refine g_aloadN X d6_1 (pc' := 2) rfl rfl rfl ?_
 refine g_arraylength X qa d6_2 (pc' := 3) rfl (z := (2 : Int32)) rfl ?_
 refine g_isub X d6_3 (pc' := 4) rfl ?_
 refine Go.lit32 (z := (0 : Int32)) (by decide) ?_
 refine g_bipush X (31 : Int32) d6_4 (pc' := 6) rfl rfl ?_
 refine g_iushr X d6_6 (pc' := 7) rfl ?_
 refine Go.lit32 (z := (0 : Int32)) (by decide) ?_
 refine g_i2b X d6_7 (pc' := 8) rfl ?_
 refine Go.lit32 (z := (0 : Int32)) (by decide) ?_
 refine g_ireturnN X (t := .byte) (by simp) d6_8 hret hlk (by decide) (by decide) ?_
 exact ⟨rfl, rfl, rfl⟩
theorem pn_1 : plainName "java/lang/String" = true := by first | (simp [plainName, overriddenIn]; done) | decide +kernel
theorem d2_0 : decode jdk_42_method_149_code 0 = .ok (.aload_n 0, 1) := by decide +kernel
theorem d2_1 : decode jdk_42_method_149_code 1 = .ok (.invokespecial 1, 3) := by decide +kernel
theorem d2_4 : decode jdk_42_method_149_code 4 = .ok (.iload_n 3, 1) := by decide +kernel
theorem d2_5 : decode jdk_42_method_149_code 5 = .ok (.ifCond .ne 22, 3) := by decide +kernel
theorem d2_8 : decode jdk_42_method_149_code 8 = .ok (.aload_n 0, 1) := by decide +kernel
theorem d2_9 : decode jdk_42_method_149_code 9 = .ok (.ldc 7, 2) := by decide +kernel
theorem d2_11 : decode jdk_42_method_149_code 11 = .ok (.getfield 9, 3) := by decide +kernel
theorem d2_14 : decode jdk_42_method_149_code 14 = .ok (.putfield 9, 3) := by decide +kernel
theorem d2_17 : decode jdk_42_method_149_code 17 = .ok (.aload_n 0, 1) := by decide +kernel
theorem d2_18 : decode jdk_42_method_149_code 18 = .ok (.ldc 7, 2) := by decide +kernel
theorem d2_20 : decode jdk_42_method_149_code 20 = .ok (.getfield 15, 3) := by decide +kernel
theorem d2_23 : decode jdk_42_method_149_code 23 = .ok (.putfield 15, 3) := by decide +kernel
theorem d2_26 : decode jdk_42_method_149_code 26 = .ok (.return_, 1) := by decide +kernel
theorem ef_rSi0 (m : MethodId) (x0 : Addr) (x1 : Addr) (x2 : Int32) (x3 : Int32) : entryFrame m #[(.ref x0), (.ref x1), (.int x2), (.int x3), .null] 6 = mkF m 0 #[.val (.ref x0), .val (.ref x1), .val (.int x2), .val (.int x3), .val .null, .unset] [] := by first | (simp [entryFrame, mkF, argsToLocals, Value.category]; done) | rfl
set_option maxRecDepth 65536 in
set_option maxHeartbeats 40000000 in
theorem rSi0 (l : Launch) (Z : State) (aa : Array Value) (hw : ∀ d ∈ tables_1, d.before aa Z = true) (ws : List Jvm.Cond) (a0 : Addr) (a1 : Addr) (G1 : Int32) (h0 : Heap) (n0 : Nat) (Z0 : n0 ≤ h0.size) (qa : Exa Z h0 a0 "java/lang/String") (qb : Fld Z h0 a0 "java/lang/String" "value" "[B" .null) (qc : Fld Z h0 a0 "java/lang/String" "coder" "B" (.int (0 : Int32))) (ql : Av Z h0 a1 .char []) (qe : n0 ≤ a0) (qm : a1 ≠ a0) (qn : Sta Z h0 "java/lang/String" "COMPACT_STRINGS" "Z" (.int G1)) (P5 : ¬ G1 = (0 : Int32)) :
    RmS l Z consts_1 [a0] (Jvm.Cond.code (⟨"java/lang/String", "<init>", "([CIILjava/lang/Void;)V"⟩ : MethodName) jdk_42_method_149_code 6 none) (⟨"java/lang/String", "<init>", "([CIILjava/lang/Void;)V"⟩ : MethodName) ({ frames := 1, cells := 4, slots := 8, locals := 12 } : Room) #[(.ref a0), (.ref a1), (.int (0 : Int32)), (.int (0 : Int32)), .null] h0 (fun v h L => ∃ q : Addr, v = none ∧ Fr n0 L ∧ Keep h0 h [a0] ∧ StrB Z h a0 q []) := by
 refine RmS.of (plainFor_of_name pn_1) ?_
 intro p e s m below meth cc T X hS hk HR hSS hnm hret hlk
 have S_a0 : Safe Z consts_1 s.vm h0 a0 := hSS _ (List.mem_of_getElem? (i := 0) rfl)
 refine Go.at_ (ef_rSi0 m a0 a1 (0 : Int32) (0 : Int32)) ?_
 have N := Fr.nil n0
 have Kp := Keep.refl h0 [a0]
 refine g_aloadN X d2_0 (pc' := 1) rfl rfl rfl ?_
 refine g_initO X (W := 0) (tb hw 14 rfl) (tb hw 15 rfl) (tb hw 16 rfl) d2_1 (pc' := 4) rfl rfl (by decide) (Nat.le_refl _) (by decide) ?_
 intro T X
 refine g_iloadN X d2_4 (pc' := 5) rfl rfl ?_
 refine g_ifN X d2_5 ((if0 _ _).trans (teq (show (0 : Int32) = (0 : Int32) from (by decide))).2) (pc' := 8) rfl ?_
 refine g_aloadN X d2_8 (pc' := 9) rfl rfl rfl ?_
 refine g_ldcH X hS hk (elw hw) (List.mem_of_getElem? (i := 5) rfl) HR.1 (tb hw 131 rfl) (sAt hw) (vs := []) (z := (0 : Int32)) ⟨by decide +kernel, by first | rfl | decide +kernel⟩ (by decide) rfl d2_9 (pc' := 11) rfl (n := 0) (by decide +kernel) (by decide) (by decide) (by decide) ?_
 intro qg T h k1 qh X Ex hS hk qo qp qi qd HRn SF
 replace S_a0 := HRn.safe qa.lt S_a0
 replace qa := qa.ext Ex
 replace qb := qb.ext Ex
 replace qc := qc.ext Ex
 replace Z0 := Nat.le_trans Z0 Ex.1
 replace Kp := Kp.ext Ex
 replace HR := HR.trans HRn
 obtain ⟨qq, qf⟩ := SF a0 S_a0
 show Go p e below _ (T.setTop (mkF m 11 _ [(.ref qg), (.ref a0)]))
 refine g_getfield X (host := "") (Or.inl (tb hw 30 rfl)) Via.refl qi d2_11 (pc' := 14) rfl ?_
 intro T X
 refine g_putfield X (host := "") (Or.inl (tb hw 30 rfl)) Via.refl qb qa (Or.inr ⟨(tb hw 31 rfl), rfl, hnm⟩) (tb hw 4 rfl) (ty := (.array .byte)) (by decide) rfl rfl d2_14 (pc' := 17) rfl ?_
 intro T h X W
 have HR' := HR.trans (CHr.wr W S_a0 HR.1)
 replace S_a0 := Safe.wr W S_a0 HR.1 S_a0
 replace HR := HR'
 replace hk := Nat.le_trans hk (Nat.le_of_eq W.size.symm)
 replace qa := qa.wr W
 replace qb := qb.same W
 replace qc := qc.other W (Or.inr (slot_ne (Or.inr (tb hw 29 rfl)) (Or.inr (tb hw 31 rfl)) (by decide) (t := .byte) (t' := (.array .byte)) (by decide) (by decide)))
 replace qd := qd.other W (Ne.symm qf)
 replace Z0 := Nat.le_trans Z0 (Nat.le_of_eq W.size.symm)
 replace N := Fr.snoc X.1 N qe
 replace Kp := Kp.wr W (Or.inl (List.mem_of_getElem? (i := 0) rfl))
 refine g_aloadN X d2_17 (pc' := 18) rfl rfl rfl ?_
 refine g_ldcH X hS hk (elw hw) (List.mem_of_getElem? (i := 5) rfl) HR.1 (tb hw 131 rfl) (sAt hw) (vs := []) (z := (0 : Int32)) ⟨by decide +kernel, by first | rfl | decide +kernel⟩ (by decide) rfl d2_18 (pc' := 20) rfl (n := 0) (by decide +kernel) (by decide) (by decide) (by decide) ?_
 intro qj T h k1 qr X Ex hS hk qs qk qt qu HRn SF
 replace S_a0 := HRn.safe qa.lt S_a0
 replace qa := qa.ext Ex
 replace qb := qb.ext Ex
 replace qc := qc.ext Ex
 replace qd := qd.ext Ex
 replace Z0 := Nat.le_trans Z0 Ex.1
 replace Kp := Kp.ext Ex
 replace HR := HR.trans HRn
 show Go p e below _ (T.setTop (mkF m 20 _ [(.ref qj), (.ref a0)]))
 refine g_getfield X (host := "") (Or.inl (tb hw 28 rfl)) Via.refl qk d2_20 (pc' := 23) rfl ?_
 intro T X
 refine g_putfieldN X (tb hw 28 rfl) Via.refl qc qa (Or.inr ⟨(tb hw 29 rfl), rfl, hnm⟩) (tb hw 4 rfl) (ty := .byte) (v' := (.int (nar .byte (0 : Int32)))) (by decide) rfl (fits_nar_byte _) d2_23 (pc' := 26) rfl ?_
 intro T h X W
 have HR' := HR.trans (CHr.wr W S_a0 HR.1)
 replace HR := HR'
 replace hk := Nat.le_trans hk (Nat.le_of_eq W.size.symm)
 replace qa := qa.wr W
 replace qb := qb.other W (Or.inr (slot_ne (Or.inr (tb hw 31 rfl)) (Or.inr (tb hw 29 rfl)) (by decide) (t := (.array .byte)) (t' := .byte) (by decide) (by decide)))
 replace qc := qc.same W
 replace qd := qd.other W (Ne.symm qf)
 replace Z0 := Nat.le_trans Z0 (Nat.le_of_eq W.size.symm)
 replace N := Fr.snoc X.1 N qe
 replace Kp := Kp.wr W (Or.inl (List.mem_of_getElem? (i := 0) rfl))
 refine g_returnH X hS hk (elw hw) HR d2_26 hret hlk (by decide) (by decide) ?_
 exact ⟨qh, rfl, N, Kp, qa, qc, qb, qd⟩
theorem d2_27 : decode jdk_42_method_149_code 27 = .ok (.getstatic 38, 3) := by decide +kernel
theorem d2_30 : decode jdk_42_method_149_code 30 = .ok (.ifCond .eq 28, 3) := by decide +kernel
theorem d2_33 : decode jdk_42_method_149_code 33 = .ok (.aload_n 1, 1) := by decide +kernel
theorem d2_34 : decode jdk_42_method_149_code 34 = .ok (.iload_n 2, 1) := by decide +kernel
theorem d2_35 : decode jdk_42_method_149_code 35 = .ok (.iload_n 3, 1) := by decide +kernel
theorem d2_36 : decode jdk_42_method_149_code 36 = .ok (.invokestatic 177, 3) := by decide +kernel
theorem pd_1 : parseMethodDescriptor "([CII)[B" = some ⟨[(.array .char), .int, .int], some (.array .byte)⟩ := by decide +kernel
theorem d2_39 : decode jdk_42_method_149_code 39 = .ok (.astore 5, 2) := by decide +kernel
theorem d2_41 : decode jdk_42_method_149_code 41 = .ok (.aload_n 0, 1) := by decide +kernel
theorem d2_42 : decode jdk_42_method_149_code 42 = .ok (.aload 5, 2) := by decide +kernel
theorem d2_44 : decode jdk_42_method_149_code 44 = .ok (.iload_n 3, 1) := by decide +kernel
theorem d2_45 : decode jdk_42_method_149_code 45 = .ok (.invokestatic 47, 3) := by decide +kernel
theorem pd_2 : parseMethodDescriptor "([BI)B" = some ⟨[(.array .byte), .int], some .byte⟩ := by decide +kernel
theorem d2_48 : decode jdk_42_method_149_code 48 = .ok (.putfield 15, 3) := by decide +kernel
theorem d2_51 : decode jdk_42_method_149_code 51 = .ok (.aload_n 0, 1) := by decide +kernel
theorem d2_52 : decode jdk_42_method_149_code 52 = .ok (.aload 5, 2) := by decide +kernel
theorem d2_54 : decode jdk_42_method_149_code 54 = .ok (.putfield 9, 3) := by decide +kernel
theorem d2_57 : decode jdk_42_method_149_code 57 = .ok (.return_, 1) := by decide +kernel
theorem ef_rSi1 (m : MethodId) (x0 : Addr) (x1 : Addr) (x2 : Int32) (x3 : Int32) : entryFrame m #[(.ref x0), (.ref x1), (.int x2), (.int x3), .null] 6 = mkF m 0 #[.val (.ref x0), .val (.ref x1), .val (.int x2), .val (.int x3), .val .null, .unset] [] := by first | (simp [entryFrame, mkF, argsToLocals, Value.category]; done) | rfl
set_option maxRecDepth 65536 in
set_option maxHeartbeats 40000000 in
theorem rSi1 (l : Launch) (Z : State) (aa : Array Value) (hw : ∀ d ∈ tables_1, d.before aa Z = true) (ws : List Jvm.Cond) (a0 : Addr) (a1 : Addr) (c0 : Int32) (G1 : Int32) (h0 : Heap) (n0 : Nat) (Z0 : n0 ≤ h0.size) (qa : Exa Z h0 a0 "java/lang/String") (qb : Fld Z h0 a0 "java/lang/String" "value" "[B" .null) (qc : Fld Z h0 a0 "java/lang/String" "coder" "B" (.int (0 : Int32))) (qh : Av Z h0 a1 .char [(.int c0)]) (qf : n0 ≤ a0) (qk : a1 ≠ a0) (qi : Sta Z h0 "java/lang/String" "COMPACT_STRINGS" "Z" (.int G1)) (P5 : ¬ G1 = (0 : Int32)) (pl0 : ¬ (255 : Int32) < c0) :
    RmS l Z consts_1 [a0] (Jvm.Cond.code (⟨"java/lang/String", "<init>", "([CIILjava/lang/Void;)V"⟩ : MethodName) jdk_42_method_149_code 6 none) (⟨"java/lang/String", "<init>", "([CIILjava/lang/Void;)V"⟩ : MethodName) ({ frames := 2, cells := 1, slots := 1, locals := 35 } : Room) #[(.ref a0), (.ref a1), (.int (0 : Int32)), (.int (1 : Int32)), .null] h0 (fun v h L => ∃ q : Addr, v = none ∧ Fr n0 L ∧ Keep h0 h [a0] ∧ StrB Z h a0 q [(.int (nar .byte (c0.toInt8.toInt32)))]) := by
 refine RmS.of (plainFor_of_name pn_1) ?_
 intro p e s m below meth cc T X hS hk HR hSS hnm hret hlk
 have S_a0 : Safe Z consts_1 s.vm h0 a0 := hSS _ (List.mem_of_getElem? (i := 0) rfl)
 refine Go.at_ (ef_rSi1 m a0 a1 (0 : Int32) (1 : Int32)) ?_
 have N := Fr.nil n0
 have Kp := Keep.refl h0 [a0]
 refine g_aloadN X d2_0 (pc' := 1) rfl rfl rfl ?_
 refine g_initO X (W := 0) (tb hw 14 rfl) (tb hw 15 rfl) (tb hw 16 rfl) d2_1 (pc' := 4) rfl rfl (by decide) (Nat.le_refl _) (by decide) ?_
 intro T X
 refine g_iloadN X d2_4 (pc' := 5) rfl rfl ?_
 refine g_ifY X d2_5 ((if0 _ _).trans (feq (show ¬ ((1 : Int32) = (0 : Int32)) from (by decide))).2) (pc' := 27) (by decide) (by decide) ?_
 refine g_getstatic X (host := "") (Or.inl (tb hw 17 rfl)) Via.refl qi d2_27 (pc' := 30) rfl ?_
 intro T X
 refine g_ifN X d2_30 ((if0 _ _).trans (feq (show ¬ (G1 = (0 : Int32)) from P5)).1) (pc' := 33) rfl ?_
 refine g_aloadN X d2_33 (pc' := 34) rfl rfl rfl ?_
 refine g_iloadN X d2_34 (pc' := 35) rfl rfl ?_
 refine g_iloadN X d2_35 (pc' := 36) rfl rfl ?_
 refine g_static X (W := 0) [(.ref a1), (.int (0 : Int32)), (.int (1 : Int32))] [] (tb hw 18 rfl) (tb hw 19 rfl) (tb hw 20 rfl) (tb hw 21 rfl) (rCb1 l Z aa hw [] a1 c0 _ n0 Z0 qh pl0) d2_36 (pc' := 39) rfl (by decide) (by decide) (by decide) rfl rfl rfl (lenOf pd_1 rfl) (Nat.le_refl _) (by decide) (by decide) ?_
 intro v T L X q
 obtain ⟨qd, rfl, Nq, Kq, qj, ql, qm, qe⟩ := q
 have qg : a0 ≠ qd := Nat.ne_of_lt (Nat.lt_of_lt_of_le qa.lt qj)
 replace N := N.app Nq
 have S_a0' := Safe.keep Kq ss0 HR.1 S_a0
 replace HR := HR.trans (CHr.keep Kq ss0 HR.1)
 replace S_a0 := S_a0'
 replace hk := Nat.le_trans hk Kq.1
 replace qa := qa.keep Kq
 replace qb := qb.keep Kq nin0
 replace qc := qc.keep Kq nin0
 replace Z0 := Nat.le_trans Z0 Kq.1
 replace Kp := Kp.trans Kq all0
 show Go p e below _ (T.setTop (mkF m 39 _ [(.ref qd)]))
 refine g_astore X d2_39 (pc' := 41) (Ls' := #[.val (.ref a0), .val (.ref a1), .val (.int (0 : Int32)), .val (.int (1 : Int32)), .val .null, .val (.ref qd)]) rfl rfl rfl ?_
 refine g_aloadN X d2_41 (pc' := 42) rfl rfl rfl ?_
 refine g_aload X d2_42 (pc' := 44) rfl rfl rfl ?_
 refine g_iloadN X d2_44 (pc' := 45) rfl rfl ?_
 refine g_static X (W := 1) [(.ref qd), (.int (1 : Int32))] [(.ref a0)] (tb hw 25 rfl) (tb hw 26 rfl) (tb hw 20 rfl) (tb hw 27 rfl) (rCf1 l Z aa hw [] qd (nar .byte (c0.toInt8.toInt32)) _ qe) d2_45 (pc' := 48) rfl (by decide) (by decide) (by decide) rfl rfl rfl (lenOf pd_2 rfl) (Nat.le_refl _) (by decide) (by decide) ?_
 intro v T L X q
 obtain ⟨rfl, X⟩ := pureX X q
 show Go p e below _ (T.setTop (mkF m 48 _ [(.int (0 : Int32)), (.ref a0)]))
 refine g_putfieldN X (tb hw 28 rfl) Via.refl qc qa (Or.inr ⟨(tb hw 29 rfl), rfl, hnm⟩) (tb hw 4 rfl) (ty := .byte) (v' := (.int (nar .byte (0 : Int32)))) (by decide) rfl (fits_nar_byte _) d2_48 (pc' := 51) rfl ?_
 intro T h X W
 have HR' := HR.trans (CHr.wr W S_a0 HR.1)
 replace S_a0 := Safe.wr W S_a0 HR.1 S_a0
 replace HR := HR'
 replace hk := Nat.le_trans hk (Nat.le_of_eq W.size.symm)
 replace qa := qa.wr W
 replace qb := qb.other W (Or.inr (slot_ne (Or.inr (tb hw 31 rfl)) (Or.inr (tb hw 29 rfl)) (by decide) (t := (.array .byte)) (t' := .byte) (by decide) (by decide)))
 replace qc := qc.same W
 replace qe := qe.other W (Ne.symm qg)
 replace Z0 := Nat.le_trans Z0 (Nat.le_of_eq W.size.symm)
 replace N := Fr.snoc X.1 N qf
 replace Kp := Kp.wr W (Or.inl (List.mem_of_getElem? (i := 0) rfl))
 refine g_aloadN X d2_51 (pc' := 52) rfl rfl rfl ?_
 refine g_aload X d2_52 (pc' := 54) rfl rfl rfl ?_
 refine g_putfield X (host := "") (Or.inl (tb hw 30 rfl)) Via.refl qb qa (Or.inr ⟨(tb hw 31 rfl), rfl, hnm⟩) (tb hw 4 rfl) (ty := (.array .byte)) (by decide) rfl rfl d2_54 (pc' := 57) rfl ?_
 intro T h X W
 have HR' := HR.trans (CHr.wr W S_a0 HR.1)
 replace HR := HR'
 replace hk := Nat.le_trans hk (Nat.le_of_eq W.size.symm)
 replace qa := qa.wr W
 replace qb := qb.same W
 replace qc := qc.other W (Or.inr (slot_ne (Or.inr (tb hw 29 rfl)) (Or.inr (tb hw 31 rfl)) (by decide) (t := .byte) (t' := (.array .byte)) (by decide) (by decide)))
 replace qe := qe.other W (Ne.symm qg)
 replace Z0 := Nat.le_trans Z0 (Nat.le_of_eq W.size.symm)
 replace N := Fr.snoc X.1 N qf
 replace Kp := Kp.wr W (Or.inl (List.mem_of_getElem? (i := 0) rfl))
 refine g_returnH X hS hk (elw hw) HR d2_57 hret hlk (by decide) (by decide) ?_
 exact ⟨qd, rfl, N, Kp, qa, qc, qb, qe⟩
theorem ef_rSi2 (m : MethodId) (x0 : Addr) (x1 : Addr) (x2 : Int32) (x3 : Int32) : entryFrame m #[(.ref x0), (.ref x1), (.int x2), (.int x3), .null] 6 = mkF m 0 #[.val (.ref x0), .val (.ref x1), .val (.int x2), .val (.int x3), .val .null, .unset] [] := by first | (simp [entryFrame, mkF, argsToLocals, Value.category]; done) | rfl
set_option maxRecDepth 65536 in
set_option maxHeartbeats 40000000 in
theorem rSi2 (l : Launch) (Z : State) (aa : Array Value) (hw : ∀ d ∈ tables_1, d.before aa Z = true) (ws : List Jvm.Cond) (a0 : Addr) (a1 : Addr) (c0 : Int32) (c1 : Int32) (G1 : Int32) (h0 : Heap) (n0 : Nat) (Z0 : n0 ≤ h0.size) (qa : Exa Z h0 a0 "java/lang/String") (qb : Fld Z h0 a0 "java/lang/String" "value" "[B" .null) (qc : Fld Z h0 a0 "java/lang/String" "coder" "B" (.int (0 : Int32))) (qh : Av Z h0 a1 .char [(.int c0), (.int c1)]) (qf : n0 ≤ a0) (qk : a1 ≠ a0) (qi : Sta Z h0 "java/lang/String" "COMPACT_STRINGS" "Z" (.int G1)) (P5 : ¬ G1 = (0 : Int32)) (pl0 : ¬ (255 : Int32) < c0) (pl1 : ¬ (255 : Int32) < c1) :
    RmS l Z consts_1 [a0] (Jvm.Cond.code (⟨"java/lang/String", "<init>", "([CIILjava/lang/Void;)V"⟩ : MethodName) jdk_42_method_149_code 6 none) (⟨"java/lang/String", "<init>", "([CIILjava/lang/Void;)V"⟩ : MethodName) ({ frames := 2, cells := 1, slots := 2, locals := 35 } : Room) #[(.ref a0), (.ref a1), (.int (0 : Int32)), (.int (2 : Int32)), .null] h0 (fun v h L => ∃ q : Addr, v = none ∧ Fr n0 L ∧ Keep h0 h [a0] ∧ StrB Z h a0 q [(.int (nar .byte (c0.toInt8.toInt32))), (.int (nar .byte (c1.toInt8.toInt32)))]) := by
 refine RmS.of (plainFor_of_name pn_1) ?_
 intro p e s m below meth cc T X hS hk HR hSS hnm hret hlk
 have S_a0 : Safe Z consts_1 s.vm h0 a0 := hSS _ (List.mem_of_getElem? (i := 0) rfl)
 refine Go.at_ (ef_rSi2 m a0 a1 (0 : Int32) (2 : Int32)) ?_
 have N := Fr.nil n0
 have Kp := Keep.refl h0 [a0]
 refine g_aloadN X d2_0 (pc' := 1) rfl rfl rfl ?_
 refine g_initO X (W := 0) (tb hw 14 rfl) (tb hw 15 rfl) (tb hw 16 rfl) d2_1 (pc' := 4) rfl rfl (by decide) (Nat.le_refl _) (by decide) ?_
 intro T X
 refine g_iloadN X d2_4 (pc' := 5) rfl rfl ?_
 refine g_ifY X d2_5 ((if0 _ _).trans (feq (show ¬ ((2 : Int32) = (0 : Int32)) from (by decide))).2) (pc' := 27) (by decide) (by decide) ?_
 refine g_getstatic X (host := "") (Or.inl (tb hw 17 rfl)) Via.refl qi d2_27 (pc' := 30) rfl ?_
 intro T X
 refine g_ifN X d2_30 ((if0 _ _).trans (feq (show ¬ (G1 = (0 : Int32)) from P5)).1) (pc' := 33) rfl ?_
 refine g_aloadN X d2_33 (pc' := 34) rfl rfl rfl ?_
 refine g_iloadN X d2_34 (pc' := 35) rfl rfl ?_
 refine g_iloadN X d2_35 (pc' := 36) rfl rfl ?_
 refine g_static X (W := 0) [(.ref a1), (.int (0 : Int32)), (.int (2 : Int32))] [] (tb hw 18 rfl) (tb hw 19 rfl) (tb hw 20 rfl) (tb hw 21 rfl) (rCb2 l Z aa hw [] a1 c0 c1 _ n0 Z0 qh pl0 pl1) d2_36 (pc' := 39) rfl (by decide) (by decide) (by decide) rfl rfl rfl (lenOf pd_1 rfl) (Nat.le_refl _) (by decide) (by decide) ?_
 intro v T L X q
 obtain ⟨qd, rfl, Nq, Kq, qj, ql, qm, qe⟩ := q
 have qg : a0 ≠ qd := Nat.ne_of_lt (Nat.lt_of_lt_of_le qa.lt qj)
 replace N := N.app Nq
 have S_a0' := Safe.keep Kq ss0 HR.1 S_a0
 replace HR := HR.trans (CHr.keep Kq ss0 HR.1)
 replace S_a0 := S_a0'
 replace hk := Nat.le_trans hk Kq.1
 replace qa := qa.keep Kq
 replace qb := qb.keep Kq nin0
 replace qc := qc.keep Kq nin0
 replace Z0 := Nat.le_trans Z0 Kq.1
 replace Kp := Kp.trans Kq all0
 show Go p e below _ (T.setTop (mkF m 39 _ [(.ref qd)]))
 refine g_astore X d2_39 (pc' := 41) (Ls' := #[.val (.ref a0), .val (.ref a1), .val (.int (0 : Int32)), .val (.int (2 : Int32)), .val .null, .val (.ref qd)]) rfl rfl rfl ?_
 refine g_aloadN X d2_41 (pc' := 42) rfl rfl rfl ?_
 refine g_aload X d2_42 (pc' := 44) rfl rfl rfl ?_
 refine g_iloadN X d2_44 (pc' := 45) rfl rfl ?_
 refine g_static X (W := 1) [(.ref qd), (.int (2 : Int32))] [(.ref a0)] (tb hw 25 rfl) (tb hw 26 rfl) (tb hw 20 rfl) (tb hw 27 rfl) (rCf2 l Z aa hw [] qd (nar .byte (c0.toInt8.toInt32)) (nar .byte (c1.toInt8.toInt32)) _ qe) d2_45 (pc' := 48) rfl (by decide) (by decide) (by decide) rfl rfl rfl (lenOf pd_2 rfl) (Nat.le_refl _) (by decide) (by decide) ?_
 intro v T L X q
 obtain ⟨rfl, X⟩ := pureX X q
 show Go p e below _ (T.setTop (mkF m 48 _ [(.int (0 : Int32)), (.ref a0)]))
 refine g_putfieldN X (tb hw 28 rfl) Via.refl qc qa (Or.inr ⟨(tb hw 29 rfl), rfl, hnm⟩) (tb hw 4 rfl) (ty := .byte) (v' := (.int (nar .byte (0 : Int32)))) (by decide) rfl (fits_nar_byte _) d2_48 (pc' := 51) rfl ?_
 intro T h X W
 have HR' := HR.trans (CHr.wr W S_a0 HR.1)
 replace S_a0 := Safe.wr W S_a0 HR.1 S_a0
 replace HR := HR'
 replace hk := Nat.le_trans hk (Nat.le_of_eq W.size.symm)
 replace qa := qa.wr W
 replace qb := qb.other W (Or.inr (slot_ne (Or.inr (tb hw 31 rfl)) (Or.inr (tb hw 29 rfl)) (by decide) (t := (.array .byte)) (t' := .byte) (by decide) (by decide)))
 replace qc := qc.same W
 replace qe := qe.other W (Ne.symm qg)
 replace Z0 := Nat.le_trans Z0 (Nat.le_of_eq W.size.symm)
 replace N := Fr.snoc X.1 N qf
 replace Kp := Kp.wr W (Or.inl (List.mem_of_getElem? (i := 0) rfl))
 refine g_aloadN X d2_51 (pc' := 52) rfl rfl rfl ?_
 refine g_aload X d2_52 (pc' := 54) rfl rfl rfl ?_
 refine g_putfield X (host := "") (Or.inl (tb hw 30 rfl)) Via.refl qb qa (Or.inr ⟨(tb hw 31 rfl), rfl, hnm⟩) (tb hw 4 rfl) (ty := (.array .byte)) (by decide) rfl rfl d2_54 (pc' := 57) rfl ?_
 intro T h X W
 have HR' := HR.trans (CHr.wr W S_a0 HR.1)
 replace HR := HR'
 replace hk := Nat.le_trans hk (Nat.le_of_eq W.size.symm)
 replace qa := qa.wr W
 replace qb := qb.same W
 replace qc := qc.other W (Or.inr (slot_ne (Or.inr (tb hw 29 rfl)) (Or.inr (tb hw 31 rfl)) (by decide) (t := .byte) (t' := (.array .byte)) (by decide) (by decide)))
 replace qe := qe.other W (Ne.symm qg)
 replace Z0 := Nat.le_trans Z0 (Nat.le_of_eq W.size.symm)
 replace N := Fr.snoc X.1 N qf
 replace Kp := Kp.wr W (Or.inl (List.mem_of_getElem? (i := 0) rfl))
 refine g_returnH X hS hk (elw hw) HR d2_57 hret hlk (by decide) (by decide) ?_
 exact ⟨qd, rfl, N, Kp, qa, qc, qb, qe⟩
theorem d1_0 : decode jdk_42_method_3_code 0 = .ok (.aload_n 0, 1) := by decide +kernel
theorem d1_1 : decode jdk_42_method_3_code 1 = .ok (.aload_n 1, 1) := by decide +kernel
theorem d1_2 : decode jdk_42_method_3_code 2 = .ok (.iconst 0, 1) := by decide +kernel
theorem d1_3 : decode jdk_42_method_3_code 3 = .ok (.aload_n 1, 1) := by decide +kernel
theorem d1_4 : decode jdk_42_method_3_code 4 = .ok (.arraylength, 1) := by decide +kernel
theorem d1_5 : decode jdk_42_method_3_code 5 = .ok (.aconst_null, 1) := by decide +kernel
theorem d1_6 : decode jdk_42_method_3_code 6 = .ok (.invokespecial 27, 3) := by decide +kernel
theorem pd_3 : parseMethodDescriptor "([CIILjava/lang/Void;)V" = some ⟨[(.array .char), .int, .int, (.object "java/lang/Void")], none⟩ := by decide +kernel
theorem d1_9 : decode jdk_42_method_3_code 9 = .ok (.return_, 1) := by decide +kernel
theorem ef_rSj0 (m : MethodId) (x0 : Addr) (x1 : Addr) : entryFrame m #[(.ref x0), (.ref x1)] 2 = mkF m 0 #[.val (.ref x0), .val (.ref x1)] [] := by first | (simp [entryFrame, mkF, argsToLocals, Value.category]; done) | rfl
set_option maxRecDepth 65536 in
set_option maxHeartbeats 40000000 in
theorem rSj0 (l : Launch) (Z : State) (aa : Array Value) (hw : ∀ d ∈ tables_1, d.before aa Z = true) (ws : List Jvm.Cond) (a0 : Addr) (a1 : Addr) (G1 : Int32) (h0 : Heap) (n0 : Nat) (Z0 : n0 ≤ h0.size) (qa : Exa Z h0 a0 "java/lang/String") (qb : Fld Z h0 a0 "java/lang/String" "value" "[B" .null) (qc : Fld Z h0 a0 "java/lang/String" "coder" "B" (.int (0 : Int32))) (qd : Av Z h0 a1 .char []) (qe : n0 ≤ a0) (qf : a1 ≠ a0) (qg : Sta Z h0 "java/lang/String" "COMPACT_STRINGS" "Z" (.int G1)) (P5 : ¬ G1 = (0 : Int32)) :
    RmS l Z consts_1 [a0] (Jvm.Cond.code (⟨"java/lang/String", "<init>", "([C)V"⟩ : MethodName) jdk_42_method_3_code 2 none) (⟨"java/lang/String", "<init>", "([C)V"⟩ : MethodName) ({ frames := 2, cells := 4, slots := 8, locals := 29 } : Room) #[(.ref a0), (.ref a1)] h0 (fun v h L => ∃ q : Addr, v = none ∧ Fr n0 L ∧ Keep h0 h [a0] ∧ StrB Z h a0 q []) := by
 refine RmS.of (plainFor_of_name pn_1) ?_
 intro p e s m below meth cc T X hS hk HR hSS hnm hret hlk
 have S_a0 : Safe Z consts_1 s.vm h0 a0 := hSS _ (List.mem_of_getElem? (i := 0) rfl)
 refine Go.at_ (ef_rSj0 m a0 a1) ?_
 have N := Fr.nil n0
 have Kp := Keep.refl h0 [a0]
 refine g_aloadN X d1_0 (pc' := 1) rfl rfl rfl ?_
 refine g_aloadN X d1_1 (pc' := 2) rfl rfl rfl ?_
 refine g_iconst X (0 : Int32) d1_2 (pc' := 3) rfl rfl ?_
 refine g_aloadN X d1_3 (pc' := 4) rfl rfl rfl ?_
 refine g_arraylength X qd d1_4 (pc' := 5) rfl (z := (0 : Int32)) rfl ?_
 refine g_aconst_null X d1_5 (pc' := 6) rfl ?_
 refine g_specialS X hS hk (elw hw) HR.1 (ssS ⟨qa.lt, S_a0⟩ ss0) (W := 0) (a := a0) [(.ref a1), (.int (0 : Int32)), (.int (0 : Int32)), .null] [] rfl (tb hw 10 rfl) (tb hw 11 rfl) (tb hw 5 rfl) (tb hw 13 rfl) (rSi0 l Z aa hw [] a0 a1 G1 _ n0 Z0 qa qb qc qd qe qf qg P5) d1_6 (pc' := 9) rfl (by decide) (by decide) (by decide) rfl rfl rfl (lenOf pd_3 rfl) (Nat.le_refl _) (by decide) (by decide) ?_
 intro v T L X q k1 hS hk HRn
 obtain ⟨qh, rfl, Nq, Kq, qi, qj, qk, ql⟩ := q
 replace N := N.app Nq
 replace HR := HR.trans HRn
 replace Z0 := Nat.le_trans Z0 Kq.1
 replace Kp := Kp.trans Kq (allS (Or.inl (List.mem_of_getElem? (i := 0) rfl)) all0)
 replace qa := qi
 replace qc := qj
 replace qb := qk
 show Go p e below _ (T.setTop (mkF m 9 _ []))
 refine g_returnH X hS hk (elw hw) HR d1_9 hret hlk (by decide) (by decide) ?_
 exact ⟨qh, rfl, N, Kp, qa, qc, qb, ql⟩
theorem ef_rSj1 (m : MethodId) (x0 : Addr) (x1 : Addr) : entryFrame m #[(.ref x0), (.ref x1)] 2 = mkF m 0 #[.val (.ref x0), .val (.ref x1)] [] := by first | (simp [entryFrame, mkF, argsToLocals, Value.category]; done) | rfl
set_option maxRecDepth 65536 in
set_option maxHeartbeats 40000000 in
theorem rSj1 (l : Launch) (Z : State) (aa : Array Value) (hw : ∀ d ∈ tables_1, d.before aa Z = true) (ws : List Jvm.Cond) (a0 : Addr) (a1 : Addr) (c0 : Int32) (G1 : Int32) (h0 : Heap) (n0 : Nat) (Z0 : n0 ≤ h0.size) (qa : Exa Z h0 a0 "java/lang/String") (qb : Fld Z h0 a0 "java/lang/String" "value" "[B" .null) (qc : Fld Z h0 a0 "java/lang/String" "coder" "B" (.int (0 : Int32))) (qd : Av Z h0 a1 .char [(.int c0)]) (qe : n0 ≤ a0) (qf : a1 ≠ a0) (qg : Sta Z h0 "java/lang/String" "COMPACT_STRINGS" "Z" (.int G1)) (P5 : ¬ G1 = (0 : Int32)) (pl0 : ¬ (255 : Int32) < c0) :
    RmS l Z consts_1 [a0] (Jvm.Cond.code (⟨"java/lang/String", "<init>", "([C)V"⟩ : MethodName) jdk_42_method_3_code 2 none) (⟨"java/lang/String", "<init>", "([C)V"⟩ : MethodName) ({ frames := 3, cells := 1, slots := 1, locals := 52 } : Room) #[(.ref a0), (.ref a1)] h0 (fun v h L => ∃ q : Addr, v = none ∧ Fr n0 L ∧ Keep h0 h [a0] ∧ StrB Z h a0 q [(.int (nar .byte (c0.toInt8.toInt32)))]) := by
 refine RmS.of (plainFor_of_name pn_1) ?_
 intro p e s m below meth cc T X hS hk HR hSS hnm hret hlk
 have S_a0 : Safe Z consts_1 s.vm h0 a0 := hSS _ (List.mem_of_getElem? (i := 0) rfl)
 refine Go.at_ (ef_rSj1 m a0 a1) ?_
 have N := Fr.nil n0
 have Kp := Keep.refl h0 [a0]
 refine g_aloadN X d1_0 (pc' := 1) rfl rfl rfl ?_
 refine g_aloadN X d1_1 (pc' := 2) rfl rfl rfl ?_
 refine g_iconst X (0 : Int32) d1_2 (pc' := 3) rfl rfl ?_
 refine g_aloadN X d1_3 (pc' := 4) rfl rfl rfl ?_
 refine g_arraylength X qd d1_4 (pc' := 5) rfl (z := (1 : Int32)) rfl ?_
 refine g_aconst_null X d1_5 (pc' := 6) rfl ?_
 refine g_specialS X hS hk (elw hw) HR.1 (ssS ⟨qa.lt, S_a0⟩ ss0) (W := 0) (a := a0) [(.ref a1), (.int (0 : Int32)), (.int (1 : Int32)), .null] [] rfl (tb hw 10 rfl) (tb hw 11 rfl) (tb hw 5 rfl) (tb hw 13 rfl) (rSi1 l Z aa hw [] a0 a1 c0 G1 _ n0 Z0 qa qb qc qd qe qf qg P5 pl0) d1_6 (pc' := 9) rfl (by decide) (by decide) (by decide) rfl rfl rfl (lenOf pd_3 rfl) (Nat.le_refl _) (by decide) (by decide) ?_
 intro v T L X q k1 hS hk HRn
 obtain ⟨qh, rfl, Nq, Kq, qi, qj, qk, ql⟩ := q
 replace N := N.app Nq
 replace HR := HR.trans HRn
 replace Z0 := Nat.le_trans Z0 Kq.1
 replace Kp := Kp.trans Kq (allS (Or.inl (List.mem_of_getElem? (i := 0) rfl)) all0)
 replace qa := qi
 replace qc := qj
 replace qb := qk
 show Go p e below _ (T.setTop (mkF m 9 _ []))
 refine g_returnH X hS hk (elw hw) HR d1_9 hret hlk (by decide) (by decide) ?_
 exact ⟨qh, rfl, N, Kp, qa, qc, qb, ql⟩
theorem ef_rSj2 (m : MethodId) (x0 : Addr) (x1 : Addr) : entryFrame m #[(.ref x0), (.ref x1)] 2 = mkF m 0 #[.val (.ref x0), .val (.ref x1)] [] := by first | (simp [entryFrame, mkF, argsToLocals, Value.category]; done) | rfl
set_option maxRecDepth 65536 in
set_option maxHeartbeats 40000000 in
theorem rSj2 (l : Launch) (Z : State) (aa : Array Value) (hw : ∀ d ∈ tables_1, d.before aa Z = true) (ws : List Jvm.Cond) (a0 : Addr) (a1 : Addr) (c0 : Int32) (c1 : Int32) (G1 : Int32) (h0 : Heap) (n0 : Nat) (Z0 : n0 ≤ h0.size) (qa : Exa Z h0 a0 "java/lang/String") (qb : Fld Z h0 a0 "java/lang/String" "value" "[B" .null) (qc : Fld Z h0 a0 "java/lang/String" "coder" "B" (.int (0 : Int32))) (qd : Av Z h0 a1 .char [(.int c0), (.int c1)]) (qe : n0 ≤ a0) (qf : a1 ≠ a0) (qg : Sta Z h0 "java/lang/String" "COMPACT_STRINGS" "Z" (.int G1)) (P5 : ¬ G1 = (0 : Int32)) (pl0 : ¬ (255 : Int32) < c0) (pl1 : ¬ (255 : Int32) < c1) :
    RmS l Z consts_1 [a0] (Jvm.Cond.code (⟨"java/lang/String", "<init>", "([C)V"⟩ : MethodName) jdk_42_method_3_code 2 none) (⟨"java/lang/String", "<init>", "([C)V"⟩ : MethodName) ({ frames := 3, cells := 1, slots := 2, locals := 52 } : Room) #[(.ref a0), (.ref a1)] h0 (fun v h L => ∃ q : Addr, v = none ∧ Fr n0 L ∧ Keep h0 h [a0] ∧ StrB Z h a0 q [(.int (nar .byte (c0.toInt8.toInt32))), (.int (nar .byte (c1.toInt8.toInt32)))]) := by
 refine RmS.of (plainFor_of_name pn_1) ?_
 intro p e s m below meth cc T X hS hk HR hSS hnm hret hlk
 have S_a0 : Safe Z consts_1 s.vm h0 a0 := hSS _ (List.mem_of_getElem? (i := 0) rfl)
 refine Go.at_ (ef_rSj2 m a0 a1) ?_
 have N := Fr.nil n0
 have Kp := Keep.refl h0 [a0]
 refine g_aloadN X d1_0 (pc' := 1) rfl rfl rfl ?_
 refine g_aloadN X d1_1 (pc' := 2) rfl rfl rfl ?_
 refine g_iconst X (0 : Int32) d1_2 (pc' := 3) rfl rfl ?_
 refine g_aloadN X d1_3 (pc' := 4) rfl rfl rfl ?_
 refine g_arraylength X qd d1_4 (pc' := 5) rfl (z := (2 : Int32)) rfl ?_
 refine g_aconst_null X d1_5 (pc' := 6) rfl ?_
 refine g_specialS X hS hk (elw hw) HR.1 (ssS ⟨qa.lt, S_a0⟩ ss0) (W := 0) (a := a0) [(.ref a1), (.int (0 : Int32)), (.int (2 : Int32)), .null] [] rfl (tb hw 10 rfl) (tb hw 11 rfl) (tb hw 5 rfl) (tb hw 13 rfl) (rSi2 l Z aa hw [] a0 a1 c0 c1 G1 _ n0 Z0 qa qb qc qd qe qf qg P5 pl0 pl1) d1_6 (pc' := 9) rfl (by decide) (by decide) (by decide) rfl rfl rfl (lenOf pd_3 rfl) (Nat.le_refl _) (by decide) (by decide) ?_
 intro v T L X q k1 hS hk HRn
 obtain ⟨qh, rfl, Nq, Kq, qi, qj, qk, ql⟩ := q
 replace N := N.app Nq
 replace HR := HR.trans HRn
 replace Z0 := Nat.le_trans Z0 Kq.1
 replace Kp := Kp.trans Kq (allS (Or.inl (List.mem_of_getElem? (i := 0) rfl)) all0)
 replace qa := qi
 replace qc := qj
 replace qb := qk
 show Go p e below _ (T.setTop (mkF m 9 _ []))
 refine g_returnH X hS hk (elw hw) HR d1_9 hret hlk (by decide) (by decide) ?_
 exact ⟨qh, rfl, N, Kp, qa, qc, qb, ql⟩
theorem d21_0 : decode jdk_29_method_69_code 0 = .ok (.iload_n 0, 1) := by decide +kernel
theorem d21_1 : decode jdk_29_method_69_code 1 = .ok (.iload_n 1, 1) := by decide +kernel
theorem d21_2 : decode jdk_29_method_69_code 2 = .ok (.if_icmp .gt 7, 3) := by decide +kernel
theorem d21_9 : decode jdk_29_method_69_code 9 = .ok (.iload_n 1, 1) := by decide +kernel
theorem d21_10 : decode jdk_29_method_69_code 10 = .ok (.ireturn, 1) := by decide +kernel
theorem ef_rMin31 (m : MethodId) (x0 : Int32) (x1 : Int32) : entryFrame m #[(.int x0), (.int x1)] 2 = mkF m 0 #[.val (.int x0), .val (.int x1)] [] := by first | (simp [entryFrame, mkF, argsToLocals, Value.category]; done) | rfl
set_option maxRecDepth 65536 in
set_option maxHeartbeats 40000000 in
theorem rMin31 (l : Launch) (Z : State) (aa : Array Value) (hw : ∀ d ∈ tables_1, d.before aa Z = true) (ws : List Jvm.Cond)  (h0 : Heap) :
    Rm l Z (⟨"java/lang/Math", "min", "(II)I"⟩ : MethodName) jdk_29_method_69_code 2 (some .int) ws ({ frames := 0, cells := 0, slots := 0, locals := 0 } : Room) #[(.int (3 : Int32)), (.int (1 : Int32))] h0 (Pu (.int (1 : Int32)) h0) := by
 refine Rm.of (Jvm.Free.JP.mathPlain rfl (by decide +kernel)) ?_
 intro p e s m below meth cc T X hnm hret hlk
 refine Go.at_ (ef_rMin31 m (3 : Int32) (1 : Int32)) ?_
 refine g_iloadN X d21_0 (pc' := 1) rfl rfl ?_
 refine g_iloadN X d21_1 (pc' := 2) rfl rfl ?_
 refine g_icY X d21_2 (tlt (show (1 : Int32) < (3 : Int32) from (by decide))).2.2.1 (pc' := 9) (by decide) (by decide) ?_
 refine g_iloadN X d21_9 (pc' := 10) rfl rfl ?_
 refine g_ireturn X d21_10 hret hlk (by decide) (by decide) ?_
 exact ⟨rfl, rfl, rfl⟩
theorem d21_5 : decode jdk_29_method_69_code 5 = .ok (.iload_n 0, 1) := by decide +kernel
theorem d21_6 : decode jdk_29_method_69_code 6 = .ok (.goto 4, 3) := by decide +kernel
theorem ef_rMin22 (m : MethodId) (x0 : Int32) (x1 : Int32) : entryFrame m #[(.int x0), (.int x1)] 2 = mkF m 0 #[.val (.int x0), .val (.int x1)] [] := by first | (simp [entryFrame, mkF, argsToLocals, Value.category]; done) | rfl
set_option maxRecDepth 65536 in
set_option maxHeartbeats 40000000 in
theorem rMin22 (l : Launch) (Z : State) (aa : Array Value) (hw : ∀ d ∈ tables_1, d.before aa Z = true) (ws : List Jvm.Cond)  (h0 : Heap) :
    Rm l Z (⟨"java/lang/Math", "min", "(II)I"⟩ : MethodName) jdk_29_method_69_code 2 (some .int) ws ({ frames := 0, cells := 0, slots := 0, locals := 0 } : Room) #[(.int (2 : Int32)), (.int (2 : Int32))] h0 (Pu (.int (2 : Int32)) h0) := by
 refine Rm.of (Jvm.Free.JP.mathPlain rfl (by decide +kernel)) ?_
 intro p e s m below meth cc T X hnm hret hlk
 refine Go.at_ (ef_rMin22 m (2 : Int32) (2 : Int32)) ?_
 refine g_iloadN X d21_0 (pc' := 1) rfl rfl ?_
 refine g_iloadN X d21_1 (pc' := 2) rfl rfl ?_
 refine g_icN X d21_2 (flt (show ¬ ((2 : Int32) < (2 : Int32)) from (by decide))).2.2.1 (pc' := 5) rfl ?_
 refine g_iloadN X d21_5 (pc' := 6) rfl rfl ?_
 refine g_goto X d21_6 (pc' := 10) (by decide) (by decide) ?_
 refine g_ireturn X d21_10 hret hlk (by decide) (by decide) ?_
 exact ⟨rfl, rfl, rfl⟩
theorem ef_rMin32 (m : MethodId) (x0 : Int32) (x1 : Int32) : entryFrame m #[(.int x0), (.int x1)] 2 = mkF m 0 #[.val (.int x0), .val (.int x1)] [] := by first | (simp [entryFrame, mkF, argsToLocals, Value.category]; done) | rfl
set_option maxRecDepth 65536 in
set_option maxHeartbeats 40000000 in
theorem rMin32 (l : Launch) (Z : State) (aa : Array Value) (hw : ∀ d ∈ tables_1, d.before aa Z = true) (ws : List Jvm.Cond)  (h0 : Heap) :
    Rm l Z (⟨"java/lang/Math", "min", "(II)I"⟩ : MethodName) jdk_29_method_69_code 2 (some .int) ws ({ frames := 0, cells := 0, slots := 0, locals := 0 } : Room) #[(.int (3 : Int32)), (.int (2 : Int32))] h0 (Pu (.int (2 : Int32)) h0) := by
 refine Rm.of (Jvm.Free.JP.mathPlain rfl (by decide +kernel)) ?_
 intro p e s m below meth cc T X hnm hret hlk
 refine Go.at_ (ef_rMin32 m (3 : Int32) (2 : Int32)) ?_
 refine g_iloadN X d21_0 (pc' := 1) rfl rfl ?_
 refine g_iloadN X d21_1 (pc' := 2) rfl rfl ?_
 refine g_icY X d21_2 (tlt (show (2 : Int32) < (3 : Int32) from (by decide))).2.2.1 (pc' := 9) (by decide) (by decide) ?_
 refine g_iloadN X d21_9 (pc' := 10) rfl rfl ?_
 refine g_ireturn X d21_10 hret hlk (by decide) (by decide) ?_
 exact ⟨rfl, rfl, rfl⟩
theorem pn_2 : plainName "java/lang/StringCoding" = true := by first | (simp [plainName, overriddenIn]; done) | decide +kernel
theorem d17_0 : decode jdk_123_method_3_code 0 = .ok (.iload_n 1, 1) := by decide +kernel
theorem d17_1 : decode jdk_123_method_3_code 1 = .ok (.iload_n 2, 1) := by decide +kernel
theorem d17_2 : decode jdk_123_method_3_code 2 = .ok (.iadd, 1) := by decide +kernel
theorem d17_3 : decode jdk_123_method_3_code 3 = .ok (.istore_n 3, 1) := by decide +kernel
theorem d17_4 : decode jdk_123_method_3_code 4 = .ok (.iload_n 1, 1) := by decide +kernel
theorem d17_5 : decode jdk_123_method_3_code 5 = .ok (.istore 4, 2) := by decide +kernel
theorem d17_7 : decode jdk_123_method_3_code 7 = .ok (.iload 4, 2) := by decide +kernel
theorem d17_9 : decode jdk_123_method_3_code 9 = .ok (.iload_n 3, 1) := by decide +kernel
theorem d17_10 : decode jdk_123_method_3_code 10 = .ok (.if_icmp .ge 21, 3) := by decide +kernel
theorem d17_13 : decode jdk_123_method_3_code 13 = .ok (.aload_n 0, 1) := by decide +kernel
theorem d17_14 : decode jdk_123_method_3_code 14 = .ok (.iload 4, 2) := by decide +kernel
theorem d17_16 : decode jdk_123_method_3_code 16 = .ok (.baload, 1) := by decide +kernel
theorem d17_17 : decode jdk_123_method_3_code 17 = .ok (.ifCond .ge 8, 3) := by decide +kernel
theorem d17_25 : decode jdk_123_method_3_code 25 = .ok (.iinc 4 1, 3) := by decide +kernel
theorem d17_28 : decode jdk_123_method_3_code 28 = .ok (.goto (-21), 3) := by decide +kernel
theorem d17_31 : decode jdk_123_method_3_code 31 = .ok (.iload_n 2, 1) := by decide +kernel
theorem d17_32 : decode jdk_123_method_3_code 32 = .ok (.ireturn, 1) := by decide +kernel
theorem ef_rCp0 (m : MethodId) (x0 : Addr) (x1 : Int32) (x2 : Int32) : entryFrame m #[(.ref x0), (.int x1), (.int x2)] 5 = mkF m 0 #[.val (.ref x0), .val (.int x1), .val (.int x2), .unset, .unset] [] := by first | (simp [entryFrame, mkF, argsToLocals, Value.category]; done) | rfl
set_option maxRecDepth 65536 in
set_option maxHeartbeats 40000000 in
theorem rCp0 (l : Launch) (Z : State) (aa : Array Value) (hw : ∀ d ∈ tables_1, d.before aa Z = true) (ws : List Jvm.Cond) (a0 : Addr) (b0 : Int32) (b1 : Int32) (b2 : Int32) (h0 : Heap) (qa : Av Z h0 a0 .byte [(.int b0), (.int b1), (.int b2)]) (nb0 : ¬ b0 < (0 : Int32)) (nb1 : ¬ b1 < (0 : Int32)) (nb2 : ¬ b2 < (0 : Int32)) :
    Rm l Z (⟨"java/lang/StringCoding", "countPositives", "([BII)I"⟩ : MethodName) jdk_123_method_3_code 5 (some .int) ws ({ frames := 0, cells := 0, slots := 0, locals := 0 } : Room) #[(.ref a0), (.int (0 : Int32)), (.int (1 : Int32))] h0 (Pu (.int (1 : Int32)) h0) := by
 refine Rm.of (plainFor_of_name pn_2) ?_
 intro p e s m below meth cc T X hnm hret hlk
 refine Go.at_ (ef_rCp0 m a0 (0 : Int32) (1 : Int32)) ?_
 refine g_iloadN X d17_0 (pc' := 1) rfl rfl ?_
 refine g_iloadN X d17_1 (pc' := 2) rfl rfl ?_
 refine g_iadd X d17_2 (pc' := 3) rfl ?_
 refine Go.lit32 (z := (1 : Int32)) (by decide) ?_
 refine g_istoreN X d17_3 (pc' := 4) (Ls' := #[.val (.ref a0), .val (.int (0 : Int32)), .val (.int (1 : Int32)), .val (.int (1 : Int32)), .unset]) rfl rfl ?_
 refine g_iloadN X d17_4 (pc' := 5) rfl rfl ?_
 refine g_istore X d17_5 (pc' := 7) (Ls' := #[.val (.ref a0), .val (.int (0 : Int32)), .val (.int (1 : Int32)), .val (.int (1 : Int32)), .val (.int (0 : Int32))]) rfl rfl ?_
 refine g_iload X d17_7 (pc' := 9) rfl rfl ?_
 refine g_iloadN X d17_9 (pc' := 10) rfl rfl ?_
 refine g_icN X d17_10 (tlt (show (0 : Int32) < (1 : Int32) from (by decide))).2.1 (pc' := 13) rfl ?_
 refine g_aloadN X d17_13 (pc' := 14) rfl rfl rfl ?_
 refine g_iload X d17_14 (pc' := 16) rfl rfl ?_
 refine g_baload X qa 0 d17_16 (pc' := 17) rfl (by decide) (by decide) rfl ?_
 refine g_ifY X d17_17 ((if0 _ _).trans (flt (show ¬ (b0 < (0 : Int32)) from nb0)).2.1) (pc' := 25) (by decide) (by decide) ?_
 refine g_iinc X d17_25 (pc' := 28) (q := (1 : Int32)) (Ls' := #[.val (.ref a0), .val (.int (0 : Int32)), .val (.int (1 : Int32)), .val (.int (1 : Int32)), .val (.int (1 : Int32))]) rfl rfl rfl rfl ?_
 refine g_goto X d17_28 (pc' := 7) (by decide) (by decide) ?_
 refine g_iload X d17_7 (pc' := 9) rfl rfl ?_
 refine g_iloadN X d17_9 (pc' := 10) rfl rfl ?_
 refine g_icY X d17_10 (flt (show ¬ ((1 : Int32) < (1 : Int32)) from (by decide))).2.1 (pc' := 31) (by decide) (by decide) ?_
 refine g_iloadN X d17_31 (pc' := 32) rfl rfl ?_
 refine g_ireturn X d17_32 hret hlk (by decide) (by decide) ?_
 exact ⟨rfl, rfl, rfl⟩
theorem pn_3 : plainName "java/util/Arrays" = true := by first | (simp [plainName, overriddenIn]; done) | decide +kernel
theorem d20_0 : decode jdk_65_method_131_code 0 = .ok (.iload_n 1, 1) := by decide +kernel
theorem d20_1 : decode jdk_65_method_131_code 1 = .ok (.iload_n 0, 1) := by decide +kernel
theorem d20_2 : decode jdk_65_method_131_code 2 = .ok (.if_icmp .ge 35, 3) := by decide +kernel
theorem d20_37 : decode jdk_65_method_131_code 37 = .ok (.return_, 1) := by decide +kernel
theorem ef_rCl0 (m : MethodId) (x0 : Int32) (x1 : Int32) : entryFrame m #[(.int x0), (.int x1)] 2 = mkF m 0 #[.val (.int x0), .val (.int x1)] [] := by first | (simp [entryFrame, mkF, argsToLocals, Value.category]; done) | rfl
set_option maxRecDepth 65536 in
set_option maxHeartbeats 40000000 in
theorem rCl0 (l : Launch) (Z : State) (aa : Array Value) (hw : ∀ d ∈ tables_1, d.before aa Z = true) (ws : List Jvm.Cond)  (h0 : Heap) :
    Rm l Z (⟨"java/util/Arrays", "checkLength", "(II)V"⟩ : MethodName) jdk_65_method_131_code 2 none ws ({ frames := 0, cells := 0, slots := 0, locals := 0 } : Room) #[(.int (0 : Int32)), (.int (1 : Int32))] h0 (PuV h0) := by
 refine Rm.of (plainFor_of_name pn_3) ?_
 intro p e s m below meth cc T X hnm hret hlk
 refine Go.at_ (ef_rCl0 m (0 : Int32) (1 : Int32)) ?_
 refine g_iloadN X d20_0 (pc' := 1) rfl rfl ?_
 refine g_iloadN X d20_1 (pc' := 2) rfl rfl ?_
 refine g_icY X d20_2 (flt (show ¬ ((1 : Int32) < (0 : Int32)) from (by decide))).2.1 (pc' := 37) (by decide) (by decide) ?_
 refine g_return X d20_37 hret hlk (by decide) (by decide) ?_
 exact ⟨rfl, rfl, rfl⟩
theorem ef_rCp1 (m : MethodId) (x0 : Addr) (x1 : Int32) (x2 : Int32) : entryFrame m #[(.ref x0), (.int x1), (.int x2)] 5 = mkF m 0 #[.val (.ref x0), .val (.int x1), .val (.int x2), .unset, .unset] [] := by first | (simp [entryFrame, mkF, argsToLocals, Value.category]; done) | rfl
set_option maxRecDepth 65536 in
set_option maxHeartbeats 40000000 in
theorem rCp1 (l : Launch) (Z : State) (aa : Array Value) (hw : ∀ d ∈ tables_1, d.before aa Z = true) (ws : List Jvm.Cond) (a0 : Addr) (b0 : Int32) (b1 : Int32) (b2 : Int32) (h0 : Heap) (qa : Av Z h0 a0 .byte [(.int b0), (.int b1), (.int b2)]) (nb0 : ¬ b0 < (0 : Int32)) (nb1 : ¬ b1 < (0 : Int32)) (nb2 : ¬ b2 < (0 : Int32)) :
    Rm l Z (⟨"java/lang/StringCoding", "countPositives", "([BII)I"⟩ : MethodName) jdk_123_method_3_code 5 (some .int) ws ({ frames := 0, cells := 0, slots := 0, locals := 0 } : Room) #[(.ref a0), (.int (1 : Int32)), (.int (2 : Int32))] h0 (Pu (.int (2 : Int32)) h0) := by
 refine Rm.of (plainFor_of_name pn_2) ?_
 intro p e s m below meth cc T X hnm hret hlk
 refine Go.at_ (ef_rCp1 m a0 (1 : Int32) (2 : Int32)) ?_
 refine g_iloadN X d17_0 (pc' := 1) rfl rfl ?_
 refine g_iloadN X d17_1 (pc' := 2) rfl rfl ?_
 refine g_iadd X d17_2 (pc' := 3) rfl ?_
 refine Go.lit32 (z := (3 : Int32)) (by decide) ?_
 refine g_istoreN X d17_3 (pc' := 4) (Ls' := #[.val (.ref a0), .val (.int (1 : Int32)), .val (.int (2 : Int32)), .val (.int (3 : Int32)), .unset]) rfl rfl ?_
 refine g_iloadN X d17_4 (pc' := 5) rfl rfl ?_
 refine g_istore X d17_5 (pc' := 7) (Ls' := #[.val (.ref a0), .val (.int (1 : Int32)), .val (.int (2 : Int32)), .val (.int (3 : Int32)), .val (.int (1 : Int32))]) rfl rfl ?_
 refine g_iload X d17_7 (pc' := 9) rfl rfl ?_
 refine g_iloadN X d17_9 (pc' := 10) rfl rfl ?_
 refine g_icN X d17_10 (tlt (show (1 : Int32) < (3 : Int32) from (by decide))).2.1 (pc' := 13) rfl ?_
 refine g_aloadN X d17_13 (pc' := 14) rfl rfl rfl ?_
 refine g_iload X d17_14 (pc' := 16) rfl rfl ?_
 refine g_baload X qa 1 d17_16 (pc' := 17) rfl (by decide) (by decide) rfl ?_
 refine g_ifY X d17_17 ((if0 _ _).trans (flt (show ¬ (b1 < (0 : Int32)) from nb1)).2.1) (pc' := 25) (by decide) (by decide) ?_
 refine g_iinc X d17_25 (pc' := 28) (q := (1 : Int32)) (Ls' := #[.val (.ref a0), .val (.int (1 : Int32)), .val (.int (2 : Int32)), .val (.int (3 : Int32)), .val (.int (2 : Int32))]) rfl rfl rfl rfl ?_
 refine g_goto X d17_28 (pc' := 7) (by decide) (by decide) ?_
 refine g_iload X d17_7 (pc' := 9) rfl rfl ?_
 refine g_iloadN X d17_9 (pc' := 10) rfl rfl ?_
 refine g_icN X d17_10 (tlt (show (2 : Int32) < (3 : Int32) from (by decide))).2.1 (pc' := 13) rfl ?_
 refine g_aloadN X d17_13 (pc' := 14) rfl rfl rfl ?_
 refine g_iload X d17_14 (pc' := 16) rfl rfl ?_
 refine g_baload X qa 2 d17_16 (pc' := 17) rfl (by decide) (by decide) rfl ?_
 refine g_ifY X d17_17 ((if0 _ _).trans (flt (show ¬ (b2 < (0 : Int32)) from nb2)).2.1) (pc' := 25) (by decide) (by decide) ?_
 refine g_iinc X d17_25 (pc' := 28) (q := (1 : Int32)) (Ls' := #[.val (.ref a0), .val (.int (1 : Int32)), .val (.int (2 : Int32)), .val (.int (3 : Int32)), .val (.int (3 : Int32))]) rfl rfl rfl rfl ?_
 refine g_goto X d17_28 (pc' := 7) (by decide) (by decide) ?_
 refine g_iload X d17_7 (pc' := 9) rfl rfl ?_
 refine g_iloadN X d17_9 (pc' := 10) rfl rfl ?_
 refine g_icY X d17_10 (flt (show ¬ ((3 : Int32) < (3 : Int32)) from (by decide))).2.1 (pc' := 31) (by decide) (by decide) ?_
 refine g_iloadN X d17_31 (pc' := 32) rfl rfl ?_
 refine g_ireturn X d17_32 hret hlk (by decide) (by decide) ?_
 exact ⟨rfl, rfl, rfl⟩
theorem ef_rCl1 (m : MethodId) (x0 : Int32) (x1 : Int32) : entryFrame m #[(.int x0), (.int x1)] 2 = mkF m 0 #[.val (.int x0), .val (.int x1)] [] := by first | (simp [entryFrame, mkF, argsToLocals, Value.category]; done) | rfl
set_option maxRecDepth 65536 in
set_option maxHeartbeats 40000000 in
theorem rCl1 (l : Launch) (Z : State) (aa : Array Value) (hw : ∀ d ∈ tables_1, d.before aa Z = true) (ws : List Jvm.Cond)  (h0 : Heap) :
    Rm l Z (⟨"java/util/Arrays", "checkLength", "(II)V"⟩ : MethodName) jdk_65_method_131_code 2 none ws ({ frames := 0, cells := 0, slots := 0, locals := 0 } : Room) #[(.int (1 : Int32)), (.int (3 : Int32))] h0 (PuV h0) := by
 refine Rm.of (plainFor_of_name pn_3) ?_
 intro p e s m below meth cc T X hnm hret hlk
 refine Go.at_ (ef_rCl1 m (1 : Int32) (3 : Int32)) ?_
 refine g_iloadN X d20_0 (pc' := 1) rfl rfl ?_
 refine g_iloadN X d20_1 (pc' := 2) rfl rfl ?_
 refine g_icY X d20_2 (flt (show ¬ ((3 : Int32) < (1 : Int32)) from (by decide))).2.1 (pc' := 37) (by decide) (by decide) ?_
 refine g_return X d20_37 hret hlk (by decide) (by decide) ?_
 exact ⟨rfl, rfl, rfl⟩
theorem d19_0 : decode jdk_65_method_133_code 0 = .ok (.iload_n 1, 1) := by decide +kernel
theorem d19_1 : decode jdk_65_method_133_code 1 = .ok (.iload_n 2, 1) := by decide +kernel
theorem d19_2 : decode jdk_65_method_133_code 2 = .ok (.invokestatic 343, 3) := by decide +kernel
theorem pd_4 : parseMethodDescriptor "(II)V" = some ⟨[.int, .int], none⟩ := by decide +kernel
theorem d19_5 : decode jdk_65_method_133_code 5 = .ok (.iload_n 2, 1) := by decide +kernel
theorem d19_6 : decode jdk_65_method_133_code 6 = .ok (.iload_n 1, 1) := by decide +kernel
theorem d19_7 : decode jdk_65_method_133_code 7 = .ok (.isub, 1) := by decide +kernel
theorem d19_8 : decode jdk_65_method_133_code 8 = .ok (.istore_n 3, 1) := by decide +kernel
theorem d19_9 : decode jdk_65_method_133_code 9 = .ok (.iload_n 3, 1) := by decide +kernel
theorem d19_10 : decode jdk_65_method_133_code 10 = .ok (.newarray .byte, 2) := by decide +kernel
theorem d19_12 : decode jdk_65_method_133_code 12 = .ok (.astore 4, 2) := by decide +kernel
theorem d19_14 : decode jdk_65_method_133_code 14 = .ok (.aload_n 0, 1) := by decide +kernel
theorem d19_15 : decode jdk_65_method_133_code 15 = .ok (.iload_n 1, 1) := by decide +kernel
theorem d19_16 : decode jdk_65_method_133_code 16 = .ok (.aload 4, 2) := by decide +kernel
theorem d19_18 : decode jdk_65_method_133_code 18 = .ok (.iconst 0, 1) := by decide +kernel
theorem d19_19 : decode jdk_65_method_133_code 19 = .ok (.aload_n 0, 1) := by decide +kernel
theorem d19_20 : decode jdk_65_method_133_code 20 = .ok (.arraylength, 1) := by decide +kernel
theorem d19_21 : decode jdk_65_method_133_code 21 = .ok (.iload_n 1, 1) := by decide +kernel
theorem d19_22 : decode jdk_65_method_133_code 22 = .ok (.isub, 1) := by decide +kernel
theorem d19_23 : decode jdk_65_method_133_code 23 = .ok (.iload_n 3, 1) := by decide +kernel
theorem d19_24 : decode jdk_65_method_133_code 24 = .ok (.invokestatic 304, 3) := by decide +kernel
theorem pd_5 : parseMethodDescriptor "(II)I" = some ⟨[.int, .int], some .int⟩ := by decide +kernel
theorem d19_27 : decode jdk_65_method_133_code 27 = .ok (.invokestatic 150, 3) := by decide +kernel
theorem d19_30 : decode jdk_65_method_133_code 30 = .ok (.aload 4, 2) := by decide +kernel
theorem d19_32 : decode jdk_65_method_133_code 32 = .ok (.areturn, 1) := by decide +kernel
theorem ef_rCrb0 (m : MethodId) (x0 : Addr) (x1 : Int32) (x2 : Int32) : entryFrame m #[(.ref x0), (.int x1), (.int x2)] 5 = mkF m 0 #[.val (.ref x0), .val (.int x1), .val (.int x2), .unset, .unset] [] := by first | (simp [entryFrame, mkF, argsToLocals, Value.category]; done) | rfl
set_option maxRecDepth 65536 in
set_option maxHeartbeats 40000000 in
theorem rCrb0 (l : Launch) (Z : State) (aa : Array Value) (hw : ∀ d ∈ tables_1, d.before aa Z = true) (ws : List Jvm.Cond) (a0 : Addr) (b0 : Int32) (b1 : Int32) (b2 : Int32) (h0 : Heap) (n0 : Nat) (Z0 : n0 ≤ h0.size) (qb : Av Z h0 a0 .byte [(.int b0), (.int b1), (.int b2)]) (hfit : ∀ v ∈ ([(.int b0), (.int b1), (.int b2)] : List Value), fits .byte v = true) :
    Rm l Z (⟨"java/util/Arrays", "copyOfRangeByte", "([BII)[B"⟩ : MethodName) jdk_65_method_133_code 5 (some (.array .byte)) ws ({ frames := 1, cells := 1, slots := 1, locals := 18 } : Room) #[(.ref a0), (.int (0 : Int32)), (.int (1 : Int32))] h0 (fun v h L => ∃ q0 : Addr, v = some (.ref q0) ∧ Fr n0 L ∧ Keep h0 h [] ∧ h0.size ≤ q0 ∧ n0 ≤ q0 ∧ Exa Z h q0 "[B" ∧ Av Z h q0 .byte [(.int b0)]) := by
 refine Rm.of (plainFor_of_name pn_3) ?_
 intro p e s m below meth cc T X hnm hret hlk
 refine Go.at_ (ef_rCrb0 m a0 (0 : Int32) (1 : Int32)) ?_
 have N := Fr.nil n0
 have Kp := Keep.refl h0 []
 refine g_iloadN X d19_0 (pc' := 1) rfl rfl ?_
 refine g_iloadN X d19_1 (pc' := 2) rfl rfl ?_
 refine g_static X (W := 0) [(.int (0 : Int32)), (.int (1 : Int32))] [] (tb hw 120 rfl) (tb hw 121 rfl) (tb hw 115 rfl) (tb hw 122 rfl) (rCl0 l Z aa hw []  _) d19_2 (pc' := 5) rfl (by decide) (by decide) (by decide) rfl rfl rfl (lenOf pd_4 rfl) (Nat.le_refl _) (by decide) (by decide) ?_
 intro v T L X q
 obtain ⟨rfl, X⟩ := pureXV X q
 show Go p e below _ (T.setTop (mkF m 5 _ []))
 refine g_iloadN X d19_5 (pc' := 6) rfl rfl ?_
 refine g_iloadN X d19_6 (pc' := 7) rfl rfl ?_
 refine g_isub X d19_7 (pc' := 8) rfl ?_
 refine Go.lit32 (z := (1 : Int32)) (by decide) ?_
 refine g_istoreN X d19_8 (pc' := 9) (Ls' := #[.val (.ref a0), .val (.int (0 : Int32)), .val (.int (1 : Int32)), .val (.int (1 : Int32)), .unset]) rfl rfl ?_
 refine g_iloadN X d19_9 (pc' := 10) rfl rfl ?_
 refine g_newarray X 1 (tb hw 0 rfl) d19_10 (pc' := 12) rfl (by decide) (by decide) 1 (by decide) (by decide) (by decide) (by decide) (vs := [(.int (0 : Int32))]) rfl (ad := "[B") (by decide) ?_
 intro T h qa qe X Ex qc qd
 have qf : n0 ≤ qa := by rw [qe]; exact Z0
 have qg : h0.size ≤ qa := by rw [qe]; exact Kp.1
 replace qb := qb.ext Ex
 replace Z0 := Nat.le_trans Z0 Ex.1
 replace Kp := Kp.ext Ex
 refine g_astore X d19_12 (pc' := 14) (Ls' := #[.val (.ref a0), .val (.int (0 : Int32)), .val (.int (1 : Int32)), .val (.int (1 : Int32)), .val (.ref qa)]) rfl rfl rfl ?_
 refine g_aloadN X d19_14 (pc' := 15) rfl rfl rfl ?_
 refine g_iloadN X d19_15 (pc' := 16) rfl rfl ?_
 refine g_aload X d19_16 (pc' := 18) rfl rfl rfl ?_
 refine g_iconst X (0 : Int32) d19_18 (pc' := 19) rfl rfl ?_
 refine g_aloadN X d19_19 (pc' := 20) rfl rfl rfl ?_
 refine g_arraylength X qb d19_20 (pc' := 21) rfl (z := (3 : Int32)) rfl ?_
 refine g_iloadN X d19_21 (pc' := 22) rfl rfl ?_
 refine g_isub X d19_22 (pc' := 23) rfl ?_
 refine Go.lit32 (z := (3 : Int32)) (by decide) ?_
 refine g_iloadN X d19_23 (pc' := 24) rfl rfl ?_
 refine g_static X (W := 4) [(.int (3 : Int32)), (.int (1 : Int32))] [(.int (0 : Int32)), (.ref qa), (.int (0 : Int32)), (.ref a0)] (tb hw 123 rfl) (tb hw 124 rfl) (tb hw 125 rfl) (tb hw 126 rfl) (rMin31 l Z aa hw []  _) d19_24 (pc' := 27) rfl (by decide) (by decide) (by decide) rfl rfl rfl (lenOf pd_5 rfl) (Nat.le_refl _) (by decide) (by decide) ?_
 intro v T L X q
 obtain ⟨rfl, X⟩ := pureX X q
 show Go p e below _ (T.setTop (mkF m 27 _ [(.int (1 : Int32)), (.int (0 : Int32)), (.ref qa), (.int (0 : Int32)), (.ref a0)]))
 refine g_acopy X (W := 0) 0 0 1 (tb hw 127 rfl) (tb hw 130 rfl) (tb hw 128 rfl) (tb hw 129 rfl) qb qd rfl hfit rfl rfl rfl (Nat.le_of_ble_eq_true rfl) (Nat.le_of_ble_eq_true rfl) d19_27 (pc' := 30) rfl rfl (by decide) (Nat.le_refl _) (by decide) ?_
 intro T h X Kq qh
 replace N := Fr.copy (d := 0) (k := 1) N qf
 replace Z0 := Nat.le_trans Z0 Kq.1
 replace Kp := Kp.trans Kq (allS (Or.inr qg) all0)
 replace qc := qc.keep Kq
 replace qd : Av Z h qa .byte [(.int b0)] := qh
 show Go p e below _ (T.setTop (mkF m 30 _ []))
 refine g_aload X d19_30 (pc' := 32) rfl rfl rfl ?_
 refine g_areturn X rfl rfl d19_32 hret hlk (by decide) (by decide) ?_
 exact ⟨qa, rfl, N, Kp, qg, qf, qc, qd⟩
theorem ef_rCrb1 (m : MethodId) (x0 : Addr) (x1 : Int32) (x2 : Int32) : entryFrame m #[(.ref x0), (.int x1), (.int x2)] 5 = mkF m 0 #[.val (.ref x0), .val (.int x1), .val (.int x2), .unset, .unset] [] := by first | (simp [entryFrame, mkF, argsToLocals, Value.category]; done) | rfl
set_option maxRecDepth 65536 in
set_option maxHeartbeats 40000000 in
theorem rCrb1 (l : Launch) (Z : State) (aa : Array Value) (hw : ∀ d ∈ tables_1, d.before aa Z = true) (ws : List Jvm.Cond) (a0 : Addr) (b0 : Int32) (b1 : Int32) (b2 : Int32) (h0 : Heap) (n0 : Nat) (Z0 : n0 ≤ h0.size) (qb : Av Z h0 a0 .byte [(.int b0), (.int b1), (.int b2)]) (hfit : ∀ v ∈ ([(.int b0), (.int b1), (.int b2)] : List Value), fits .byte v = true) :
    Rm l Z (⟨"java/util/Arrays", "copyOfRangeByte", "([BII)[B"⟩ : MethodName) jdk_65_method_133_code 5 (some (.array .byte)) ws ({ frames := 1, cells := 1, slots := 2, locals := 18 } : Room) #[(.ref a0), (.int (1 : Int32)), (.int (3 : Int32))] h0 (fun v h L => ∃ q0 : Addr, v = some (.ref q0) ∧ Fr n0 L ∧ Keep h0 h [] ∧ h0.size ≤ q0 ∧ n0 ≤ q0 ∧ Exa Z h q0 "[B" ∧ Av Z h q0 .byte [(.int b1), (.int b2)]) := by
 refine Rm.of (plainFor_of_name pn_3) ?_
 intro p e s m below meth cc T X hnm hret hlk
 refine Go.at_ (ef_rCrb1 m a0 (1 : Int32) (3 : Int32)) ?_
 have N := Fr.nil n0
 have Kp := Keep.refl h0 []
 refine g_iloadN X d19_0 (pc' := 1) rfl rfl ?_
 refine g_iloadN X d19_1 (pc' := 2) rfl rfl ?_
 refine g_static X (W := 0) [(.int (1 : Int32)), (.int (3 : Int32))] [] (tb hw 120 rfl) (tb hw 121 rfl) (tb hw 115 rfl) (tb hw 122 rfl) (rCl1 l Z aa hw []  _) d19_2 (pc' := 5) rfl (by decide) (by decide) (by decide) rfl rfl rfl (lenOf pd_4 rfl) (Nat.le_refl _) (by decide) (by decide) ?_
 intro v T L X q
 obtain ⟨rfl, X⟩ := pureXV X q
 show Go p e below _ (T.setTop (mkF m 5 _ []))
 refine g_iloadN X d19_5 (pc' := 6) rfl rfl ?_
 refine g_iloadN X d19_6 (pc' := 7) rfl rfl ?_
 refine g_isub X d19_7 (pc' := 8) rfl ?_
 refine Go.lit32 (z := (2 : Int32)) (by decide) ?_
 refine g_istoreN X d19_8 (pc' := 9) (Ls' := #[.val (.ref a0), .val (.int (1 : Int32)), .val (.int (3 : Int32)), .val (.int (2 : Int32)), .unset]) rfl rfl ?_
 refine g_iloadN X d19_9 (pc' := 10) rfl rfl ?_
 refine g_newarray X 2 (tb hw 0 rfl) d19_10 (pc' := 12) rfl (by decide) (by decide) 2 (by decide) (by decide) (by decide) (by decide) (vs := [(.int (0 : Int32)), (.int (0 : Int32))]) rfl (ad := "[B") (by decide) ?_
 intro T h qa qe X Ex qc qd
 have qf : n0 ≤ qa := by rw [qe]; exact Z0
 have qg : h0.size ≤ qa := by rw [qe]; exact Kp.1
 replace qb := qb.ext Ex
 replace Z0 := Nat.le_trans Z0 Ex.1
 replace Kp := Kp.ext Ex
 refine g_astore X d19_12 (pc' := 14) (Ls' := #[.val (.ref a0), .val (.int (1 : Int32)), .val (.int (3 : Int32)), .val (.int (2 : Int32)), .val (.ref qa)]) rfl rfl rfl ?_
 refine g_aloadN X d19_14 (pc' := 15) rfl rfl rfl ?_
 refine g_iloadN X d19_15 (pc' := 16) rfl rfl ?_
 refine g_aload X d19_16 (pc' := 18) rfl rfl rfl ?_
 refine g_iconst X (0 : Int32) d19_18 (pc' := 19) rfl rfl ?_
 refine g_aloadN X d19_19 (pc' := 20) rfl rfl rfl ?_
 refine g_arraylength X qb d19_20 (pc' := 21) rfl (z := (3 : Int32)) rfl ?_
 refine g_iloadN X d19_21 (pc' := 22) rfl rfl ?_
 refine g_isub X d19_22 (pc' := 23) rfl ?_
 refine Go.lit32 (z := (2 : Int32)) (by decide) ?_
 refine g_iloadN X d19_23 (pc' := 24) rfl rfl ?_
 refine g_static X (W := 4) [(.int (2 : Int32)), (.int (2 : Int32))] [(.int (0 : Int32)), (.ref qa), (.int (1 : Int32)), (.ref a0)] (tb hw 123 rfl) (tb hw 124 rfl) (tb hw 125 rfl) (tb hw 126 rfl) (rMin22 l Z aa hw []  _) d19_24 (pc' := 27) rfl (by decide) (by decide) (by decide) rfl rfl rfl (lenOf pd_5 rfl) (Nat.le_refl _) (by decide) (by decide) ?_
 intro v T L X q
 obtain ⟨rfl, X⟩ := pureX X q
 show Go p e below _ (T.setTop (mkF m 27 _ [(.int (2 : Int32)), (.int (0 : Int32)), (.ref qa), (.int (1 : Int32)), (.ref a0)]))
 refine g_acopy X (W := 0) 1 0 2 (tb hw 127 rfl) (tb hw 130 rfl) (tb hw 128 rfl) (tb hw 129 rfl) qb qd rfl hfit rfl rfl rfl (Nat.le_of_ble_eq_true rfl) (Nat.le_of_ble_eq_true rfl) d19_27 (pc' := 30) rfl rfl (by decide) (Nat.le_refl _) (by decide) ?_
 intro T h X Kq qh
 replace N := Fr.copy (d := 0) (k := 2) N qf
 replace Z0 := Nat.le_trans Z0 Kq.1
 replace Kp := Kp.trans Kq (allS (Or.inr qg) all0)
 replace qc := qc.keep Kq
 replace qd : Av Z h qa .byte [(.int b1), (.int b2)] := qh
 show Go p e below _ (T.setTop (mkF m 30 _ []))
 refine g_aload X d19_30 (pc' := 32) rfl rfl rfl ?_
 refine g_areturn X rfl rfl d19_32 hret hlk (by decide) (by decide) ?_
 exact ⟨qa, rfl, N, Kp, qg, qf, qc, qd⟩
theorem d18_0 : decode jdk_65_method_132_code 0 = .ok (.iload_n 1, 1) := by decide +kernel
theorem d18_1 : decode jdk_65_method_132_code 1 = .ok (.ifCond .ne 9, 3) := by decide +kernel
theorem d18_4 : decode jdk_65_method_132_code 4 = .ok (.iload_n 2, 1) := by decide +kernel
theorem d18_5 : decode jdk_65_method_132_code 5 = .ok (.aload_n 0, 1) := by decide +kernel
theorem d18_6 : decode jdk_65_method_132_code 6 = .ok (.arraylength, 1) := by decide +kernel
theorem d18_7 : decode jdk_65_method_132_code 7 = .ok (.if_icmp .eq 10, 3) := by decide +kernel
theorem d18_10 : decode jdk_65_method_132_code 10 = .ok (.aload_n 0, 1) := by decide +kernel
theorem d18_11 : decode jdk_65_method_132_code 11 = .ok (.iload_n 1, 1) := by decide +kernel
theorem d18_12 : decode jdk_65_method_132_code 12 = .ok (.iload_n 2, 1) := by decide +kernel
theorem d18_13 : decode jdk_65_method_132_code 13 = .ok (.invokestatic 339, 3) := by decide +kernel
theorem pd_6 : parseMethodDescriptor "([BII)[B" = some ⟨[(.array .byte), .int, .int], some (.array .byte)⟩ := by decide +kernel
theorem d18_16 : decode jdk_65_method_132_code 16 = .ok (.areturn, 1) := by decide +kernel
theorem ef_rCor0 (m : MethodId) (x0 : Addr) (x1 : Int32) (x2 : Int32) : entryFrame m #[(.ref x0), (.int x1), (.int x2)] 3 = mkF m 0 #[.val (.ref x0), .val (.int x1), .val (.int x2)] [] := by first | (simp [entryFrame, mkF, argsToLocals, Value.category]; done) | rfl
set_option maxRecDepth 65536 in
set_option maxHeartbeats 40000000 in
theorem rCor0 (l : Launch) (Z : State) (aa : Array Value) (hw : ∀ d ∈ tables_1, d.before aa Z = true) (ws : List Jvm.Cond) (a0 : Addr) (b0 : Int32) (b1 : Int32) (b2 : Int32) (h0 : Heap) (n0 : Nat) (Z0 : n0 ≤ h0.size) (qb : Av Z h0 a0 .byte [(.int b0), (.int b1), (.int b2)]) (hfit : ∀ v ∈ ([(.int b0), (.int b1), (.int b2)] : List Value), fits .byte v = true) :
    Rm l Z (⟨"java/util/Arrays", "copyOfRange", "([BII)[B"⟩ : MethodName) jdk_65_method_132_code 3 (some (.array .byte)) ws ({ frames := 2, cells := 1, slots := 1, locals := 34 } : Room) #[(.ref a0), (.int (0 : Int32)), (.int (1 : Int32))] h0 (fun v h L => ∃ q0 : Addr, v = some (.ref q0) ∧ Fr n0 L ∧ Keep h0 h [] ∧ h0.size ≤ q0 ∧ n0 ≤ q0 ∧ Exa Z h q0 "[B" ∧ Av Z h q0 .byte [(.int b0)]) := by
 refine Rm.of (plainFor_of_name pn_3) ?_
 intro p e s m below meth cc T X hnm hret hlk
 refine Go.at_ (ef_rCor0 m a0 (0 : Int32) (1 : Int32)) ?_
 have N := Fr.nil n0
 have Kp := Keep.refl h0 []
 refine g_iloadN X d18_0 (pc' := 1) rfl rfl ?_
 refine g_ifN X d18_1 ((if0 _ _).trans (teq (show (0 : Int32) = (0 : Int32) from (by decide))).2) (pc' := 4) rfl ?_
 refine g_iloadN X d18_4 (pc' := 5) rfl rfl ?_
 refine g_aloadN X d18_5 (pc' := 6) rfl rfl rfl ?_
 refine g_arraylength X qb d18_6 (pc' := 7) rfl (z := (3 : Int32)) rfl ?_
 refine g_icN X d18_7 (feq (show ¬ ((1 : Int32) = (3 : Int32)) from (by decide))).1 (pc' := 10) rfl ?_
 refine g_aloadN X d18_10 (pc' := 11) rfl rfl rfl ?_
 refine g_iloadN X d18_11 (pc' := 12) rfl rfl ?_
 refine g_iloadN X d18_12 (pc' := 13) rfl rfl ?_
 refine g_static X (W := 0) [(.ref a0), (.int (0 : Int32)), (.int (1 : Int32))] [] (tb hw 117 rfl) (tb hw 118 rfl) (tb hw 115 rfl) (tb hw 119 rfl) (rCrb0 l Z aa hw [] a0 b0 b1 b2 _ n0 Z0 qb hfit) d18_13 (pc' := 16) rfl (by decide) (by decide) (by decide) rfl rfl rfl (lenOf pd_6 rfl) (Nat.le_refl _) (by decide) (by decide) ?_
 intro v T L X q
 obtain ⟨qa, rfl, Nq, Kq, qc, qd, qe, qf⟩ := q
 have qg : h0.size ≤ qa := Nat.le_trans Kp.1 qc
 replace N := N.app Nq
 replace Z0 := Nat.le_trans Z0 Kq.1
 replace Kp := Kp.trans Kq all0
 show Go p e below _ (T.setTop (mkF m 16 _ [(.ref qa)]))
 refine g_areturn X rfl rfl d18_16 hret hlk (by decide) (by decide) ?_
 exact ⟨qa, rfl, N, Kp, qg, qd, qe, qf⟩
theorem ef_rCor1 (m : MethodId) (x0 : Addr) (x1 : Int32) (x2 : Int32) : entryFrame m #[(.ref x0), (.int x1), (.int x2)] 3 = mkF m 0 #[.val (.ref x0), .val (.int x1), .val (.int x2)] [] := by first | (simp [entryFrame, mkF, argsToLocals, Value.category]; done) | rfl
set_option maxRecDepth 65536 in
set_option maxHeartbeats 40000000 in
theorem rCor1 (l : Launch) (Z : State) (aa : Array Value) (hw : ∀ d ∈ tables_1, d.before aa Z = true) (ws : List Jvm.Cond) (a0 : Addr) (b0 : Int32) (b1 : Int32) (b2 : Int32) (h0 : Heap) (n0 : Nat) (Z0 : n0 ≤ h0.size) (qb : Av Z h0 a0 .byte [(.int b0), (.int b1), (.int b2)]) (hfit : ∀ v ∈ ([(.int b0), (.int b1), (.int b2)] : List Value), fits .byte v = true) :
    Rm l Z (⟨"java/util/Arrays", "copyOfRange", "([BII)[B"⟩ : MethodName) jdk_65_method_132_code 3 (some (.array .byte)) ws ({ frames := 2, cells := 1, slots := 2, locals := 34 } : Room) #[(.ref a0), (.int (1 : Int32)), (.int (3 : Int32))] h0 (fun v h L => ∃ q0 : Addr, v = some (.ref q0) ∧ Fr n0 L ∧ Keep h0 h [] ∧ h0.size ≤ q0 ∧ n0 ≤ q0 ∧ Exa Z h q0 "[B" ∧ Av Z h q0 .byte [(.int b1), (.int b2)]) := by
 refine Rm.of (plainFor_of_name pn_3) ?_
 intro p e s m below meth cc T X hnm hret hlk
 refine Go.at_ (ef_rCor1 m a0 (1 : Int32) (3 : Int32)) ?_
 have N := Fr.nil n0
 have Kp := Keep.refl h0 []
 refine g_iloadN X d18_0 (pc' := 1) rfl rfl ?_
 refine g_ifY X d18_1 ((if0 _ _).trans (feq (show ¬ ((1 : Int32) = (0 : Int32)) from (by decide))).2) (pc' := 10) (by decide) (by decide) ?_
 refine g_aloadN X d18_10 (pc' := 11) rfl rfl rfl ?_
 refine g_iloadN X d18_11 (pc' := 12) rfl rfl ?_
 refine g_iloadN X d18_12 (pc' := 13) rfl rfl ?_
 refine g_static X (W := 0) [(.ref a0), (.int (1 : Int32)), (.int (3 : Int32))] [] (tb hw 117 rfl) (tb hw 118 rfl) (tb hw 115 rfl) (tb hw 119 rfl) (rCrb1 l Z aa hw [] a0 b0 b1 b2 _ n0 Z0 qb hfit) d18_13 (pc' := 16) rfl (by decide) (by decide) (by decide) rfl rfl rfl (lenOf pd_6 rfl) (Nat.le_refl _) (by decide) (by decide) ?_
 intro v T L X q
 obtain ⟨qa, rfl, Nq, Kq, qc, qd, qe, qf⟩ := q
 have qg : h0.size ≤ qa := Nat.le_trans Kp.1 qc
 replace N := N.app Nq
 replace Z0 := Nat.le_trans Z0 Kq.1
 replace Kp := Kp.trans Kq all0
 show Go p e below _ (T.setTop (mkF m 16 _ [(.ref qa)]))
 refine g_areturn X rfl rfl d18_16 hret hlk (by decide) (by decide) ?_
 exact ⟨qa, rfl, N, Kp, qg, qd, qe, qf⟩
theorem d16_0 : decode jdk_42_method_11_code 0 = .ok (.aload_n 0, 1) := by decide +kernel
theorem d16_1 : decode jdk_42_method_11_code 1 = .ok (.invokespecial 1, 3) := by decide +kernel
theorem d16_4 : decode jdk_42_method_11_code 4 = .ok (.iload 4, 2) := by decide +kernel
theorem d16_6 : decode jdk_42_method_11_code 6 = .ok (.ifCond .ne 24, 3) := by decide +kernel
theorem d16_30 : decode jdk_42_method_11_code 30 = .ok (.aload_n 1, 1) := by decide +kernel
theorem d16_31 : decode jdk_42_method_11_code 31 = .ok (.getstatic 86, 3) := by decide +kernel
theorem d16_34 : decode jdk_42_method_11_code 34 = .ok (.if_acmp .ne 312, 3) := by decide +kernel
theorem d16_37 : decode jdk_42_method_11_code 37 = .ok (.getstatic 38, 3) := by decide +kernel
theorem d16_40 : decode jdk_42_method_11_code 40 = .ok (.ifCond .eq 252, 3) := by decide +kernel
theorem d16_43 : decode jdk_42_method_11_code 43 = .ok (.aload_n 2, 1) := by decide +kernel
theorem d16_44 : decode jdk_42_method_11_code 44 = .ok (.iload_n 3, 1) := by decide +kernel
theorem d16_45 : decode jdk_42_method_11_code 45 = .ok (.iload 4, 2) := by decide +kernel
theorem d16_47 : decode jdk_42_method_11_code 47 = .ok (.invokestatic 92, 3) := by decide +kernel
theorem pd_7 : parseMethodDescriptor "([BII)I" = some ⟨[(.array .byte), .int, .int], some .int⟩ := by decide +kernel
theorem d16_50 : decode jdk_42_method_11_code 50 = .ok (.istore 5, 2) := by decide +kernel
theorem d16_52 : decode jdk_42_method_11_code 52 = .ok (.iload 5, 2) := by decide +kernel
theorem d16_54 : decode jdk_42_method_11_code 54 = .ok (.iload 4, 2) := by decide +kernel
theorem d16_56 : decode jdk_42_method_11_code 56 = .ok (.if_icmp .ne 22, 3) := by decide +kernel
theorem d16_59 : decode jdk_42_method_11_code 59 = .ok (.aload_n 0, 1) := by decide +kernel
theorem d16_60 : decode jdk_42_method_11_code 60 = .ok (.aload_n 2, 1) := by decide +kernel
theorem d16_61 : decode jdk_42_method_11_code 61 = .ok (.iload_n 3, 1) := by decide +kernel
theorem d16_62 : decode jdk_42_method_11_code 62 = .ok (.iload_n 3, 1) := by decide +kernel
theorem d16_63 : decode jdk_42_method_11_code 63 = .ok (.iload 4, 2) := by decide +kernel
theorem d16_65 : decode jdk_42_method_11_code 65 = .ok (.iadd, 1) := by decide +kernel
theorem d16_66 : decode jdk_42_method_11_code 66 = .ok (.invokestatic 54, 3) := by decide +kernel
theorem d16_69 : decode jdk_42_method_11_code 69 = .ok (.putfield 9, 3) := by decide +kernel
theorem d16_72 : decode jdk_42_method_11_code 72 = .ok (.aload_n 0, 1) := by decide +kernel
theorem d16_73 : decode jdk_42_method_11_code 73 = .ok (.iconst 0, 1) := by decide +kernel
theorem d16_74 : decode jdk_42_method_11_code 74 = .ok (.putfield 15, 3) := by decide +kernel
theorem d16_77 : decode jdk_42_method_11_code 77 = .ok (.return_, 1) := by decide +kernel
theorem ef_rSu0 (m : MethodId) (x0 : Addr) (x1 : Addr) (x2 : Addr) (x3 : Int32) (x4 : Int32) : entryFrame m #[(.ref x0), (.ref x1), (.ref x2), (.int x3), (.int x4)] 11 = mkF m 0 #[.val (.ref x0), .val (.ref x1), .val (.ref x2), .val (.int x3), .val (.int x4), .unset, .unset, .unset, .unset, .unset, .unset] [] := by first | (simp [entryFrame, mkF, argsToLocals, Value.category]; done) | rfl
set_option maxRecDepth 65536 in
set_option maxHeartbeats 40000000 in
theorem rSu0 (l : Launch) (Z : State) (aa : Array Value) (hw : ∀ d ∈ tables_1, d.before aa Z = true) (ws : List Jvm.Cond) (a0 : Addr) (u8 : Addr) (a2 : Addr) (b0 : Int32) (b1 : Int32) (b2 : Int32) (G1 : Int32) (h0 : Heap) (n0 : Nat) (Z0 : n0 ≤ h0.size) (qa : Exa Z h0 a0 "java/lang/String") (qb : Fld Z h0 a0 "java/lang/String" "value" "[B" .null) (qc : Fld Z h0 a0 "java/lang/String" "coder" "B" (.int (0 : Int32))) (qf : Av Z h0 a2 .byte [(.int b0), (.int b1), (.int b2)]) (qg : n0 ≤ a0) (ql : a2 ≠ a0) (qi : Sta Z h0 "java/lang/String" "COMPACT_STRINGS" "Z" (.int G1)) (P5 : ¬ G1 = (0 : Int32)) (qj : Sta Z h0 "sun/nio/cs/UTF_8" "INSTANCE" "Lsun/nio/cs/UTF_8;" (.ref u8)) (nb0 : ¬ b0 < (0 : Int32)) (nb1 : ¬ b1 < (0 : Int32)) (nb2 : ¬ b2 < (0 : Int32)) (hfit : ∀ v ∈ ([(.int b0), (.int b1), (.int b2)] : List Value), fits .byte v = true) :
    RmS l Z consts_1 [a0] (Jvm.Cond.codeWith (⟨"java/lang/String", "<init>", "(Ljava/nio/charset/Charset;[BII)V"⟩ : MethodName) jdk_42_method_11_code 11 none [((800 : Nat), (813 : Nat), (816 : Nat), (202 : Nat))]) (⟨"java/lang/String", "<init>", "(Ljava/nio/charset/Charset;[BII)V"⟩ : MethodName) ({ frames := 3, cells := 1, slots := 1, locals := 49 } : Room) #[(.ref a0), (.ref u8), (.ref a2), (.int (0 : Int32)), (.int (1 : Int32))] h0 (fun v h L => ∃ q : Addr, v = none ∧ Fr n0 L ∧ Keep h0 h [a0] ∧ StrB Z h a0 q [(.int b0)]) := by
 refine RmS.ofW (plainFor_of_name pn_1) ?_
 intro p e s m below meth cc T X hS hk HR hSS hnm hret hlk
 have S_a0 : Safe Z consts_1 s.vm h0 a0 := hSS _ (List.mem_of_getElem? (i := 0) rfl)
 refine Go.at_ (ef_rSu0 m a0 u8 a2 (0 : Int32) (1 : Int32)) ?_
 have N := Fr.nil n0
 have Kp := Keep.refl h0 [a0]
 refine g_aloadN X d16_0 (pc' := 1) rfl rfl rfl ?_
 refine g_initO X (W := 0) (tb hw 14 rfl) (tb hw 15 rfl) (tb hw 16 rfl) d16_1 (pc' := 4) rfl rfl (by decide) (Nat.le_refl _) (by decide) ?_
 intro T X
 refine g_iload X d16_4 (pc' := 6) rfl rfl ?_
 refine g_ifY X d16_6 ((if0 _ _).trans (feq (show ¬ ((1 : Int32) = (0 : Int32)) from (by decide))).2) (pc' := 30) (by decide) (by decide) ?_
 refine g_aloadN X d16_30 (pc' := 31) rfl rfl rfl ?_
 refine g_getstatic X (host := "") (Or.inl (tb hw 107 rfl)) Via.refl qj d16_31 (pc' := 34) rfl ?_
 intro T X
 refine g_acmp X d16_34 (pc' := 37) (same := true) rfl rfl (decide_eq_true rfl) (by decide) (by decide) ?_
 refine g_getstatic X (host := "") (Or.inl (tb hw 17 rfl)) Via.refl qi d16_37 (pc' := 40) rfl ?_
 intro T X
 refine g_ifN X d16_40 ((if0 _ _).trans (feq (show ¬ (G1 = (0 : Int32)) from P5)).1) (pc' := 43) rfl ?_
 refine g_aloadN X d16_43 (pc' := 44) rfl rfl rfl ?_
 refine g_iloadN X d16_44 (pc' := 45) rfl rfl ?_
 refine g_iload X d16_45 (pc' := 47) rfl rfl ?_
 refine g_static X (W := 0) [(.ref a2), (.int (0 : Int32)), (.int (1 : Int32))] [] (tb hw 109 rfl) (tb hw 110 rfl) (tb hw 111 rfl) (tb hw 112 rfl) (rCp0 l Z aa hw [] a2 b0 b1 b2 _ qf nb0 nb1 nb2) d16_47 (pc' := 50) rfl (by decide) (by decide) (by decide) rfl rfl rfl (lenOf pd_7 rfl) (Nat.le_refl _) (by decide) (by decide) ?_
 intro v T L X q
 obtain ⟨rfl, X⟩ := pureX X q
 show Go p e below _ (T.setTop (mkF m 50 _ [(.int (1 : Int32))]))
 refine g_istore X d16_50 (pc' := 52) (Ls' := #[.val (.ref a0), .val (.ref u8), .val (.ref a2), .val (.int (0 : Int32)), .val (.int (1 : Int32)), .val (.int (1 : Int32)), .unset, .unset, .unset, .unset, .unset]) rfl rfl ?_
 refine g_iload X d16_52 (pc' := 54) rfl rfl ?_
 refine g_iload X d16_54 (pc' := 56) rfl rfl ?_
 refine g_icN X d16_56 (teq (show (1 : Int32) = (1 : Int32) from (by decide))).2 (pc' := 59) rfl ?_
 refine g_aloadN X d16_59 (pc' := 60) rfl rfl rfl ?_
 refine g_aloadN X d16_60 (pc' := 61) rfl rfl rfl ?_
 refine g_iloadN X d16_61 (pc' := 62) rfl rfl ?_
 refine g_iloadN X d16_62 (pc' := 63) rfl rfl ?_
 refine g_iload X d16_63 (pc' := 65) rfl rfl ?_
 refine g_iadd X d16_65 (pc' := 66) rfl ?_
 refine Go.lit32 (z := (1 : Int32)) (by decide) ?_
 refine g_static X (W := 1) [(.ref a2), (.int (0 : Int32)), (.int (1 : Int32))] [(.ref a0)] (tb hw 113 rfl) (tb hw 114 rfl) (tb hw 115 rfl) (tb hw 116 rfl) (rCor0 l Z aa hw [] a2 b0 b1 b2 _ n0 Z0 qf hfit) d16_66 (pc' := 69) rfl (by decide) (by decide) (by decide) rfl rfl rfl (lenOf pd_6 rfl) (Nat.le_refl _) (by decide) (by decide) ?_
 intro v T L X q
 obtain ⟨qe, rfl, Nq, Kq, qk, qm, qn, qd⟩ := q
 have qh : a0 ≠ qe := Nat.ne_of_lt (Nat.lt_of_lt_of_le qa.lt qk)
 replace N := N.app Nq
 have S_a0' := Safe.keep Kq ss0 HR.1 S_a0
 replace HR := HR.trans (CHr.keep Kq ss0 HR.1)
 replace S_a0 := S_a0'
 replace hk := Nat.le_trans hk Kq.1
 replace qa := qa.keep Kq
 replace qb := qb.keep Kq nin0
 replace qc := qc.keep Kq nin0
 replace Z0 := Nat.le_trans Z0 Kq.1
 replace Kp := Kp.trans Kq all0
 show Go p e below _ (T.setTop (mkF m 69 _ [(.ref qe), (.ref a0)]))
 refine g_putfield X (host := "") (Or.inl (tb hw 30 rfl)) Via.refl qb qa (Or.inr ⟨(tb hw 31 rfl), rfl, hnm⟩) (tb hw 4 rfl) (ty := (.array .byte)) (by decide) rfl rfl d16_69 (pc' := 72) rfl ?_
 intro T h X W
 have HR' := HR.trans (CHr.wr W S_a0 HR.1)
 replace S_a0 := Safe.wr W S_a0 HR.1 S_a0
 replace HR := HR'
 replace hk := Nat.le_trans hk (Nat.le_of_eq W.size.symm)
 replace qa := qa.wr W
 replace qb := qb.same W
 replace qc := qc.other W (Or.inr (slot_ne (Or.inr (tb hw 29 rfl)) (Or.inr (tb hw 31 rfl)) (by decide) (t := .byte) (t' := (.array .byte)) (by decide) (by decide)))
 replace qd := qd.other W (Ne.symm qh)
 replace Z0 := Nat.le_trans Z0 (Nat.le_of_eq W.size.symm)
 replace N := Fr.snoc X.1 N qg
 replace Kp := Kp.wr W (Or.inl (List.mem_of_getElem? (i := 0) rfl))
 refine g_aloadN X d16_72 (pc' := 73) rfl rfl rfl ?_
 refine g_iconst X (0 : Int32) d16_73 (pc' := 74) rfl rfl ?_
 refine g_putfieldN X (tb hw 28 rfl) Via.refl qc qa (Or.inr ⟨(tb hw 29 rfl), rfl, hnm⟩) (tb hw 4 rfl) (ty := .byte) (v' := (.int (nar .byte (0 : Int32)))) (by decide) rfl (fits_nar_byte _) d16_74 (pc' := 77) rfl ?_
 intro T h X W
 have HR' := HR.trans (CHr.wr W S_a0 HR.1)
 replace HR := HR'
 replace hk := Nat.le_trans hk (Nat.le_of_eq W.size.symm)
 replace qa := qa.wr W
 replace qb := qb.other W (Or.inr (slot_ne (Or.inr (tb hw 31 rfl)) (Or.inr (tb hw 29 rfl)) (by decide) (t := (.array .byte)) (t' := .byte) (by decide) (by decide)))
 replace qc := qc.same W
 replace qd := qd.other W (Ne.symm qh)
 replace Z0 := Nat.le_trans Z0 (Nat.le_of_eq W.size.symm)
 replace N := Fr.snoc X.1 N qg
 replace Kp := Kp.wr W (Or.inl (List.mem_of_getElem? (i := 0) rfl))
 refine g_returnH X hS hk (elw hw) HR d16_77 hret hlk (by decide) (by decide) ?_
 exact ⟨qe, rfl, N, Kp, qa, qc, qb, qd⟩
theorem ef_rSu1 (m : MethodId) (x0 : Addr) (x1 : Addr) (x2 : Addr) (x3 : Int32) (x4 : Int32) : entryFrame m #[(.ref x0), (.ref x1), (.ref x2), (.int x3), (.int x4)] 11 = mkF m 0 #[.val (.ref x0), .val (.ref x1), .val (.ref x2), .val (.int x3), .val (.int x4), .unset, .unset, .unset, .unset, .unset, .unset] [] := by first | (simp [entryFrame, mkF, argsToLocals, Value.category]; done) | rfl
set_option maxRecDepth 65536 in
set_option maxHeartbeats 40000000 in
theorem rSu1 (l : Launch) (Z : State) (aa : Array Value) (hw : ∀ d ∈ tables_1, d.before aa Z = true) (ws : List Jvm.Cond) (a0 : Addr) (u8 : Addr) (a2 : Addr) (b0 : Int32) (b1 : Int32) (b2 : Int32) (G1 : Int32) (h0 : Heap) (n0 : Nat) (Z0 : n0 ≤ h0.size) (qa : Exa Z h0 a0 "java/lang/String") (qb : Fld Z h0 a0 "java/lang/String" "value" "[B" .null) (qc : Fld Z h0 a0 "java/lang/String" "coder" "B" (.int (0 : Int32))) (qf : Av Z h0 a2 .byte [(.int b0), (.int b1), (.int b2)]) (qg : n0 ≤ a0) (ql : a2 ≠ a0) (qi : Sta Z h0 "java/lang/String" "COMPACT_STRINGS" "Z" (.int G1)) (P5 : ¬ G1 = (0 : Int32)) (qj : Sta Z h0 "sun/nio/cs/UTF_8" "INSTANCE" "Lsun/nio/cs/UTF_8;" (.ref u8)) (nb0 : ¬ b0 < (0 : Int32)) (nb1 : ¬ b1 < (0 : Int32)) (nb2 : ¬ b2 < (0 : Int32)) (hfit : ∀ v ∈ ([(.int b0), (.int b1), (.int b2)] : List Value), fits .byte v = true) :
    RmS l Z consts_1 [a0] (Jvm.Cond.codeWith (⟨"java/lang/String", "<init>", "(Ljava/nio/charset/Charset;[BII)V"⟩ : MethodName) jdk_42_method_11_code 11 none [((800 : Nat), (813 : Nat), (816 : Nat), (202 : Nat))]) (⟨"java/lang/String", "<init>", "(Ljava/nio/charset/Charset;[BII)V"⟩ : MethodName) ({ frames := 3, cells := 1, slots := 2, locals := 49 } : Room) #[(.ref a0), (.ref u8), (.ref a2), (.int (1 : Int32)), (.int (2 : Int32))] h0 (fun v h L => ∃ q : Addr, v = none ∧ Fr n0 L ∧ Keep h0 h [a0] ∧ StrB Z h a0 q [(.int b1), (.int b2)]) := by
 refine RmS.ofW (plainFor_of_name pn_1) ?_
 intro p e s m below meth cc T X hS hk HR hSS hnm hret hlk
 have S_a0 : Safe Z consts_1 s.vm h0 a0 := hSS _ (List.mem_of_getElem? (i := 0) rfl)
 refine Go.at_ (ef_rSu1 m a0 u8 a2 (1 : Int32) (2 : Int32)) ?_
 have N := Fr.nil n0
 have Kp := Keep.refl h0 [a0]
 refine g_aloadN X d16_0 (pc' := 1) rfl rfl rfl ?_
 refine g_initO X (W := 0) (tb hw 14 rfl) (tb hw 15 rfl) (tb hw 16 rfl) d16_1 (pc' := 4) rfl rfl (by decide) (Nat.le_refl _) (by decide) ?_
 intro T X
 refine g_iload X d16_4 (pc' := 6) rfl rfl ?_
 refine g_ifY X d16_6 ((if0 _ _).trans (feq (show ¬ ((2 : Int32) = (0 : Int32)) from (by decide))).2) (pc' := 30) (by decide) (by decide) ?_
 refine g_aloadN X d16_30 (pc' := 31) rfl rfl rfl ?_
 refine g_getstatic X (host := "") (Or.inl (tb hw 107 rfl)) Via.refl qj d16_31 (pc' := 34) rfl ?_
 intro T X
 refine g_acmp X d16_34 (pc' := 37) (same := true) rfl rfl (decide_eq_true rfl) (by decide) (by decide) ?_
 refine g_getstatic X (host := "") (Or.inl (tb hw 17 rfl)) Via.refl qi d16_37 (pc' := 40) rfl ?_
 intro T X
 refine g_ifN X d16_40 ((if0 _ _).trans (feq (show ¬ (G1 = (0 : Int32)) from P5)).1) (pc' := 43) rfl ?_
 refine g_aloadN X d16_43 (pc' := 44) rfl rfl rfl ?_
 refine g_iloadN X d16_44 (pc' := 45) rfl rfl ?_
 refine g_iload X d16_45 (pc' := 47) rfl rfl ?_
 refine g_static X (W := 0) [(.ref a2), (.int (1 : Int32)), (.int (2 : Int32))] [] (tb hw 109 rfl) (tb hw 110 rfl) (tb hw 111 rfl) (tb hw 112 rfl) (rCp1 l Z aa hw [] a2 b0 b1 b2 _ qf nb0 nb1 nb2) d16_47 (pc' := 50) rfl (by decide) (by decide) (by decide) rfl rfl rfl (lenOf pd_7 rfl) (Nat.le_refl _) (by decide) (by decide) ?_
 intro v T L X q
 obtain ⟨rfl, X⟩ := pureX X q
 show Go p e below _ (T.setTop (mkF m 50 _ [(.int (2 : Int32))]))
 refine g_istore X d16_50 (pc' := 52) (Ls' := #[.val (.ref a0), .val (.ref u8), .val (.ref a2), .val (.int (1 : Int32)), .val (.int (2 : Int32)), .val (.int (2 : Int32)), .unset, .unset, .unset, .unset, .unset]) rfl rfl ?_
 refine g_iload X d16_52 (pc' := 54) rfl rfl ?_
 refine g_iload X d16_54 (pc' := 56) rfl rfl ?_
 refine g_icN X d16_56 (teq (show (2 : Int32) = (2 : Int32) from (by decide))).2 (pc' := 59) rfl ?_
 refine g_aloadN X d16_59 (pc' := 60) rfl rfl rfl ?_
 refine g_aloadN X d16_60 (pc' := 61) rfl rfl rfl ?_
 refine g_iloadN X d16_61 (pc' := 62) rfl rfl ?_
 refine g_iloadN X d16_62 (pc' := 63) rfl rfl ?_
 refine g_iload X d16_63 (pc' := 65) rfl rfl ?_
 refine g_iadd X d16_65 (pc' := 66) rfl ?_
 refine Go.lit32 (z := (3 : Int32)) (by decide) ?_
 refine g_static X (W := 1) [(.ref a2), (.int (1 : Int32)), (.int (3 : Int32))] [(.ref a0)] (tb hw 113 rfl) (tb hw 114 rfl) (tb hw 115 rfl) (tb hw 116 rfl) (rCor1 l Z aa hw [] a2 b0 b1 b2 _ n0 Z0 qf hfit) d16_66 (pc' := 69) rfl (by decide) (by decide) (by decide) rfl rfl rfl (lenOf pd_6 rfl) (Nat.le_refl _) (by decide) (by decide) ?_
 intro v T L X q
 obtain ⟨qe, rfl, Nq, Kq, qk, qm, qn, qd⟩ := q
 have qh : a0 ≠ qe := Nat.ne_of_lt (Nat.lt_of_lt_of_le qa.lt qk)
 replace N := N.app Nq
 have S_a0' := Safe.keep Kq ss0 HR.1 S_a0
 replace HR := HR.trans (CHr.keep Kq ss0 HR.1)
 replace S_a0 := S_a0'
 replace hk := Nat.le_trans hk Kq.1
 replace qa := qa.keep Kq
 replace qb := qb.keep Kq nin0
 replace qc := qc.keep Kq nin0
 replace Z0 := Nat.le_trans Z0 Kq.1
 replace Kp := Kp.trans Kq all0
 show Go p e below _ (T.setTop (mkF m 69 _ [(.ref qe), (.ref a0)]))
 refine g_putfield X (host := "") (Or.inl (tb hw 30 rfl)) Via.refl qb qa (Or.inr ⟨(tb hw 31 rfl), rfl, hnm⟩) (tb hw 4 rfl) (ty := (.array .byte)) (by decide) rfl rfl d16_69 (pc' := 72) rfl ?_
 intro T h X W
 have HR' := HR.trans (CHr.wr W S_a0 HR.1)
 replace S_a0 := Safe.wr W S_a0 HR.1 S_a0
 replace HR := HR'
 replace hk := Nat.le_trans hk (Nat.le_of_eq W.size.symm)
 replace qa := qa.wr W
 replace qb := qb.same W
 replace qc := qc.other W (Or.inr (slot_ne (Or.inr (tb hw 29 rfl)) (Or.inr (tb hw 31 rfl)) (by decide) (t := .byte) (t' := (.array .byte)) (by decide) (by decide)))
 replace qd := qd.other W (Ne.symm qh)
 replace Z0 := Nat.le_trans Z0 (Nat.le_of_eq W.size.symm)
 replace N := Fr.snoc X.1 N qg
 replace Kp := Kp.wr W (Or.inl (List.mem_of_getElem? (i := 0) rfl))
 refine g_aloadN X d16_72 (pc' := 73) rfl rfl rfl ?_
 refine g_iconst X (0 : Int32) d16_73 (pc' := 74) rfl rfl ?_
 refine g_putfieldN X (tb hw 28 rfl) Via.refl qc qa (Or.inr ⟨(tb hw 29 rfl), rfl, hnm⟩) (tb hw 4 rfl) (ty := .byte) (v' := (.int (nar .byte (0 : Int32)))) (by decide) rfl (fits_nar_byte _) d16_74 (pc' := 77) rfl ?_
 intro T h X W
 have HR' := HR.trans (CHr.wr W S_a0 HR.1)
 replace HR := HR'
 replace hk := Nat.le_trans hk (Nat.le_of_eq W.size.symm)
 replace qa := qa.wr W
 replace qb := qb.other W (Or.inr (slot_ne (Or.inr (tb hw 31 rfl)) (Or.inr (tb hw 29 rfl)) (by decide) (t := (.array .byte)) (t' := .byte) (by decide) (by decide)))
 replace qc := qc.same W
 replace qd := qd.other W (Ne.symm qh)
 replace Z0 := Nat.le_trans Z0 (Nat.le_of_eq W.size.symm)
 replace N := Fr.snoc X.1 N qg
 replace Kp := Kp.wr W (Or.inl (List.mem_of_getElem? (i := 0) rfl))
 refine g_returnH X hS hk (elw hw) HR d16_77 hret hlk (by decide) (by decide) ?_
 exact ⟨qe, rfl, N, Kp, qa, qc, qb, qd⟩
theorem d16_9 : decode jdk_42_method_11_code 9 = .ok (.aload_n 0, 1) := by decide +kernel
theorem d16_10 : decode jdk_42_method_11_code 10 = .ok (.ldc 7, 2) := by decide +kernel
theorem d16_12 : decode jdk_42_method_11_code 12 = .ok (.getfield 9, 3) := by decide +kernel
theorem d16_15 : decode jdk_42_method_11_code 15 = .ok (.putfield 9, 3) := by decide +kernel
theorem d16_18 : decode jdk_42_method_11_code 18 = .ok (.aload_n 0, 1) := by decide +kernel
theorem d16_19 : decode jdk_42_method_11_code 19 = .ok (.ldc 7, 2) := by decide +kernel
theorem d16_21 : decode jdk_42_method_11_code 21 = .ok (.getfield 15, 3) := by decide +kernel
theorem d16_24 : decode jdk_42_method_11_code 24 = .ok (.putfield 15, 3) := by decide +kernel
theorem d16_27 : decode jdk_42_method_11_code 27 = .ok (.goto 852, 3) := by decide +kernel
theorem d16_879 : decode jdk_42_method_11_code 879 = .ok (.return_, 1) := by decide +kernel
theorem ef_rSu3 (m : MethodId) (x0 : Addr) (x1 : Addr) (x2 : Addr) (x3 : Int32) (x4 : Int32) : entryFrame m #[(.ref x0), (.ref x1), (.ref x2), (.int x3), (.int x4)] 11 = mkF m 0 #[.val (.ref x0), .val (.ref x1), .val (.ref x2), .val (.int x3), .val (.int x4), .unset, .unset, .unset, .unset, .unset, .unset] [] := by first | (simp [entryFrame, mkF, argsToLocals, Value.category]; done) | rfl
set_option maxRecDepth 65536 in
set_option maxHeartbeats 40000000 in
theorem rSu3 (l : Launch) (Z : State) (aa : Array Value) (hw : ∀ d ∈ tables_1, d.before aa Z = true) (ws : List Jvm.Cond) (a0 : Addr) (u8 : Addr) (a2 : Addr) (b0 : Int32) (b1 : Int32) (b2 : Int32) (G1 : Int32) (h0 : Heap) (n0 : Nat) (Z0 : n0 ≤ h0.size) (qa : Exa Z h0 a0 "java/lang/String") (qb : Fld Z h0 a0 "java/lang/String" "value" "[B" .null) (qc : Fld Z h0 a0 "java/lang/String" "coder" "B" (.int (0 : Int32))) (ql : Av Z h0 a2 .byte [(.int b0), (.int b1), (.int b2)]) (qe : n0 ≤ a0) (qm : a2 ≠ a0) (qn : Sta Z h0 "java/lang/String" "COMPACT_STRINGS" "Z" (.int G1)) (P5 : ¬ G1 = (0 : Int32)) (qo : Sta Z h0 "sun/nio/cs/UTF_8" "INSTANCE" "Lsun/nio/cs/UTF_8;" (.ref u8)) (nb0 : ¬ b0 < (0 : Int32)) (nb1 : ¬ b1 < (0 : Int32)) (nb2 : ¬ b2 < (0 : Int32)) (hfit : ∀ v ∈ ([(.int b0), (.int b1), (.int b2)] : List Value), fits .byte v = true) :
    RmS l Z consts_1 [a0] (Jvm.Cond.codeWith (⟨"java/lang/String", "<init>", "(Ljava/nio/charset/Charset;[BII)V"⟩ : MethodName) jdk_42_method_11_code 11 none [((800 : Nat), (813 : Nat), (816 : Nat), (202 : Nat))]) (⟨"java/lang/String", "<init>", "(Ljava/nio/charset/Charset;[BII)V"⟩ : MethodName) ({ frames := 1, cells := 4, slots := 8, locals := 12 } : Room) #[(.ref a0), (.ref u8), (.ref a2), (.int (3 : Int32)), (.int (0 : Int32))] h0 (fun v h L => ∃ q : Addr, v = none ∧ Fr n0 L ∧ Keep h0 h [a0] ∧ StrB Z h a0 q []) := by
 refine RmS.ofW (plainFor_of_name pn_1) ?_
 intro p e s m below meth cc T X hS hk HR hSS hnm hret hlk
 have S_a0 : Safe Z consts_1 s.vm h0 a0 := hSS _ (List.mem_of_getElem? (i := 0) rfl)
 refine Go.at_ (ef_rSu3 m a0 u8 a2 (3 : Int32) (0 : Int32)) ?_
 have N := Fr.nil n0
 have Kp := Keep.refl h0 [a0]
 refine g_aloadN X d16_0 (pc' := 1) rfl rfl rfl ?_
 refine g_initO X (W := 0) (tb hw 14 rfl) (tb hw 15 rfl) (tb hw 16 rfl) d16_1 (pc' := 4) rfl rfl (by decide) (Nat.le_refl _) (by decide) ?_
 intro T X
 refine g_iload X d16_4 (pc' := 6) rfl rfl ?_
 refine g_ifN X d16_6 ((if0 _ _).trans (teq (show (0 : Int32) = (0 : Int32) from (by decide))).2) (pc' := 9) rfl ?_
 refine g_aloadN X d16_9 (pc' := 10) rfl rfl rfl ?_
 refine g_ldcH X hS hk (elw hw) (List.mem_of_getElem? (i := 5) rfl) HR.1 (tb hw 131 rfl) (sAt hw) (vs := []) (z := (0 : Int32)) ⟨by decide +kernel, by first | rfl | decide +kernel⟩ (by decide) rfl d16_10 (pc' := 12) rfl (n := 0) (by decide +kernel) (by decide) (by decide) (by decide) ?_
 intro qg T h k1 qh X Ex hS hk qp qq qi qd HRn SF
 replace S_a0 := HRn.safe qa.lt S_a0
 replace qa := qa.ext Ex
 replace qb := qb.ext Ex
 replace qc := qc.ext Ex
 replace Z0 := Nat.le_trans Z0 Ex.1
 replace Kp := Kp.ext Ex
 replace HR := HR.trans HRn
 obtain ⟨qr, qf⟩ := SF a0 S_a0
 show Go p e below _ (T.setTop (mkF m 12 _ [(.ref qg), (.ref a0)]))
 refine g_getfield X (host := "") (Or.inl (tb hw 30 rfl)) Via.refl qi d16_12 (pc' := 15) rfl ?_
 intro T X
 refine g_putfield X (host := "") (Or.inl (tb hw 30 rfl)) Via.refl qb qa (Or.inr ⟨(tb hw 31 rfl), rfl, hnm⟩) (tb hw 4 rfl) (ty := (.array .byte)) (by decide) rfl rfl d16_15 (pc' := 18) rfl ?_
 intro T h X W
 have HR' := HR.trans (CHr.wr W S_a0 HR.1)
 replace S_a0 := Safe.wr W S_a0 HR.1 S_a0
 replace HR := HR'
 replace hk := Nat.le_trans hk (Nat.le_of_eq W.size.symm)
 replace qa := qa.wr W
 replace qb := qb.same W
 replace qc := qc.other W (Or.inr (slot_ne (Or.inr (tb hw 29 rfl)) (Or.inr (tb hw 31 rfl)) (by decide) (t := .byte) (t' := (.array .byte)) (by decide) (by decide)))
 replace qd := qd.other W (Ne.symm qf)
 replace Z0 := Nat.le_trans Z0 (Nat.le_of_eq W.size.symm)
 replace N := Fr.snoc X.1 N qe
 replace Kp := Kp.wr W (Or.inl (List.mem_of_getElem? (i := 0) rfl))
 refine g_aloadN X d16_18 (pc' := 19) rfl rfl rfl ?_
 refine g_ldcH X hS hk (elw hw) (List.mem_of_getElem? (i := 5) rfl) HR.1 (tb hw 131 rfl) (sAt hw) (vs := []) (z := (0 : Int32)) ⟨by decide +kernel, by first | rfl | decide +kernel⟩ (by decide) rfl d16_19 (pc' := 21) rfl (n := 0) (by decide +kernel) (by decide) (by decide) (by decide) ?_
 intro qj T h k1 qs X Ex hS hk qt qk qu qv HRn SF
 replace S_a0 := HRn.safe qa.lt S_a0
 replace qa := qa.ext Ex
 replace qb := qb.ext Ex
 replace qc := qc.ext Ex
 replace qd := qd.ext Ex
 replace Z0 := Nat.le_trans Z0 Ex.1
 replace Kp := Kp.ext Ex
 replace HR := HR.trans HRn
 show Go p e below _ (T.setTop (mkF m 21 _ [(.ref qj), (.ref a0)]))
 refine g_getfield X (host := "") (Or.inl (tb hw 28 rfl)) Via.refl qk d16_21 (pc' := 24) rfl ?_
 intro T X
 refine g_putfieldN X (tb hw 28 rfl) Via.refl qc qa (Or.inr ⟨(tb hw 29 rfl), rfl, hnm⟩) (tb hw 4 rfl) (ty := .byte) (v' := (.int (nar .byte (0 : Int32)))) (by decide) rfl (fits_nar_byte _) d16_24 (pc' := 27) rfl ?_
 intro T h X W
 have HR' := HR.trans (CHr.wr W S_a0 HR.1)
 replace HR := HR'
 replace hk := Nat.le_trans hk (Nat.le_of_eq W.size.symm)
 replace qa := qa.wr W
 replace qb := qb.other W (Or.inr (slot_ne (Or.inr (tb hw 31 rfl)) (Or.inr (tb hw 29 rfl)) (by decide) (t := (.array .byte)) (t' := .byte) (by decide) (by decide)))
 replace qc := qc.same W
 replace qd := qd.other W (Ne.symm qf)
 replace Z0 := Nat.le_trans Z0 (Nat.le_of_eq W.size.symm)
 replace N := Fr.snoc X.1 N qe
 replace Kp := Kp.wr W (Or.inl (List.mem_of_getElem? (i := 0) rfl))
 refine g_goto X d16_27 (pc' := 879) (by decide) (by decide) ?_
 refine g_returnH X hS hk (elw hw) HR d16_879 hret hlk (by decide) (by decide) ?_
 exact ⟨qh, rfl, N, Kp, qa, qc, qb, qd⟩
theorem pn_4 : plainName "java/util/Objects" = true := by first | (simp [plainName, overriddenIn]; done) | decide +kernel
theorem d13_0 : decode jdk_31_method_10_code 0 = .ok (.aload_n 0, 1) := by decide +kernel
theorem d13_1 : decode jdk_31_method_10_code 1 = .ok (.ifnonnull 11, 3) := by decide +kernel
theorem d13_12 : decode jdk_31_method_10_code 12 = .ok (.aload_n 0, 1) := by decide +kernel
theorem d13_13 : decode jdk_31_method_10_code 13 = .ok (.areturn, 1) := by decide +kernel
theorem ef_rRnn (m : MethodId) (x0 : Addr) : entryFrame m #[(.ref x0)] 1 = mkF m 0 #[.val (.ref x0)] [] := by first | (simp [entryFrame, mkF, argsToLocals, Value.category]; done) | rfl
set_option maxRecDepth 65536 in
set_option maxHeartbeats 40000000 in
theorem rRnn (l : Launch) (Z : State) (aa : Array Value) (hw : ∀ d ∈ tables_1, d.before aa Z = true) (ws : List Jvm.Cond) (a0 : Addr) (h0 : Heap) :
    Rm l Z (⟨"java/util/Objects", "requireNonNull", "(Ljava/lang/Object;)Ljava/lang/Object;"⟩ : MethodName) jdk_31_method_10_code 1 (some (.object "java/lang/Object")) ws ({ frames := 0, cells := 0, slots := 0, locals := 0 } : Room) #[(.ref a0)] h0 (Pu (.ref a0) h0) := by
 refine Rm.of (plainFor_of_name pn_4) ?_
 intro p e s m below meth cc T X hnm hret hlk
 refine Go.at_ (ef_rRnn m a0) ?_
 refine g_aloadN X d13_0 (pc' := 1) rfl rfl rfl ?_
 refine g_nonnullY X d13_1 (pc' := 12) (by decide) (by decide) ?_
 refine g_aloadN X d13_12 (pc' := 13) rfl rfl rfl ?_
 refine g_areturn X rfl rfl d13_13 hret hlk (by decide) (by decide) ?_
 exact ⟨rfl, rfl, rfl⟩
theorem pn_5 : plainName "jdk/internal/util/Preconditions" = true := by first | (simp [plainName, overriddenIn]; done) | decide +kernel
theorem d15_0 : decode jdk_41_method_13_code 0 = .ok (.iload_n 2, 1) := by decide +kernel
theorem d15_1 : decode jdk_41_method_13_code 1 = .ok (.iload_n 0, 1) := by decide +kernel
theorem d15_2 : decode jdk_41_method_13_code 2 = .ok (.ior, 1) := by decide +kernel
theorem d15_3 : decode jdk_41_method_13_code 3 = .ok (.iload_n 1, 1) := by decide +kernel
theorem d15_4 : decode jdk_41_method_13_code 4 = .ok (.ior, 1) := by decide +kernel
theorem d15_5 : decode jdk_41_method_13_code 5 = .ok (.ifCond .lt 10, 3) := by decide +kernel
theorem d15_8 : decode jdk_41_method_13_code 8 = .ok (.iload_n 1, 1) := by decide +kernel
theorem d15_9 : decode jdk_41_method_13_code 9 = .ok (.iload_n 2, 1) := by decide +kernel
theorem d15_10 : decode jdk_41_method_13_code 10 = .ok (.iload_n 0, 1) := by decide +kernel
theorem d15_11 : decode jdk_41_method_13_code 11 = .ok (.isub, 1) := by decide +kernel
theorem d15_12 : decode jdk_41_method_13_code 12 = .ok (.if_icmp .le 11, 3) := by decide +kernel
theorem d15_23 : decode jdk_41_method_13_code 23 = .ok (.iload_n 0, 1) := by decide +kernel
theorem d15_24 : decode jdk_41_method_13_code 24 = .ok (.ireturn, 1) := by decide +kernel
theorem ef_rCfi0N (m : MethodId) (x0 : Int32) (x1 : Int32) (x2 : Int32) : entryFrame m #[(.int x0), (.int x1), (.int x2), .null] 4 = mkF m 0 #[.val (.int x0), .val (.int x1), .val (.int x2), .val .null] [] := by first | (simp [entryFrame, mkF, argsToLocals, Value.category]; done) | rfl
set_option maxRecDepth 65536 in
set_option maxHeartbeats 40000000 in
theorem rCfi0N (l : Launch) (Z : State) (aa : Array Value) (hw : ∀ d ∈ tables_1, d.before aa Z = true) (ws : List Jvm.Cond)  (h0 : Heap) :
    Rm l Z (⟨"jdk/internal/util/Preconditions", "checkFromIndexSize", "(IIILjava/util/function/BiFunction;)I"⟩ : MethodName) jdk_41_method_13_code 4 (some .int) ws ({ frames := 0, cells := 0, slots := 0, locals := 0 } : Room) #[(.int (0 : Int32)), (.int (1 : Int32)), (.int (3 : Int32)), .null] h0 (Pu (.int (0 : Int32)) h0) := by
 refine Rm.of (plainFor_of_name pn_5) ?_
 intro p e s m below meth cc T X hnm hret hlk
 refine Go.at_ (ef_rCfi0N m (0 : Int32) (1 : Int32) (3 : Int32)) ?_
 refine g_iloadN X d15_0 (pc' := 1) rfl rfl ?_
 refine g_iloadN X d15_1 (pc' := 2) rfl rfl ?_
 refine g_ior X d15_2 (pc' := 3) rfl ?_
 refine Go.lit32 (z := (3 : Int32)) (by decide) ?_
 refine g_iloadN X d15_3 (pc' := 4) rfl rfl ?_
 refine g_ior X d15_4 (pc' := 5) rfl ?_
 refine Go.lit32 (z := (3 : Int32)) (by decide) ?_
 refine g_ifN X d15_5 ((if0 _ _).trans (flt (show ¬ ((3 : Int32) < (0 : Int32)) from (by decide))).1) (pc' := 8) rfl ?_
 refine g_iloadN X d15_8 (pc' := 9) rfl rfl ?_
 refine g_iloadN X d15_9 (pc' := 10) rfl rfl ?_
 refine g_iloadN X d15_10 (pc' := 11) rfl rfl ?_
 refine g_isub X d15_11 (pc' := 12) rfl ?_
 refine Go.lit32 (z := (3 : Int32)) (by decide) ?_
 refine g_icY X d15_12 (flt (show ¬ ((3 : Int32) < (1 : Int32)) from (by decide))).2.2.2 (pc' := 23) (by decide) (by decide) ?_
 refine g_iloadN X d15_23 (pc' := 24) rfl rfl ?_
 refine g_ireturn X d15_24 hret hlk (by decide) (by decide) ?_
 exact ⟨rfl, rfl, rfl⟩
theorem d14_0 : decode jdk_42_method_157_code 0 = .ok (.iload_n 0, 1) := by decide +kernel
theorem d14_1 : decode jdk_42_method_157_code 1 = .ok (.iload_n 1, 1) := by decide +kernel
theorem d14_2 : decode jdk_42_method_157_code 2 = .ok (.iload_n 2, 1) := by decide +kernel
theorem d14_3 : decode jdk_42_method_157_code 3 = .ok (.getstatic 1053, 3) := by decide +kernel
theorem d14_6 : decode jdk_42_method_157_code 6 = .ok (.invokestatic 1065, 3) := by decide +kernel
theorem pd_8 : parseMethodDescriptor "(IIILjava/util/function/BiFunction;)I" = some ⟨[.int, .int, .int, (.object "java/util/function/BiFunction")], some .int⟩ := by decide +kernel
theorem d14_9 : decode jdk_42_method_157_code 9 = .ok (.ireturn, 1) := by decide +kernel
theorem ef_rCbo0N (m : MethodId) (x0 : Int32) (x1 : Int32) (x2 : Int32) : entryFrame m #[(.int x0), (.int x1), (.int x2)] 3 = mkF m 0 #[.val (.int x0), .val (.int x1), .val (.int x2)] [] := by first | (simp [entryFrame, mkF, argsToLocals, Value.category]; done) | rfl
set_option maxRecDepth 65536 in
set_option maxHeartbeats 40000000 in
theorem rCbo0N (l : Launch) (Z : State) (aa : Array Value) (hw : ∀ d ∈ tables_1, d.before aa Z = true) (ws : List Jvm.Cond)  (h0 : Heap) (Psf : Sta Z h0 "jdk/internal/util/Preconditions" "SIOOBE_FORMATTER" "Ljava/util/function/BiFunction;" .null) :
    Rm l Z (⟨"java/lang/String", "checkBoundsOffCount", "(III)I"⟩ : MethodName) jdk_42_method_157_code 3 (some .int) ws ({ frames := 1, cells := 0, slots := 0, locals := 15 } : Room) #[(.int (0 : Int32)), (.int (1 : Int32)), (.int (3 : Int32))] h0 (Pu (.int (0 : Int32)) h0) := by
 refine Rm.of (plainFor_of_name pn_1) ?_
 intro p e s m below meth cc T X hnm hret hlk
 refine Go.at_ (ef_rCbo0N m (0 : Int32) (1 : Int32) (3 : Int32)) ?_
 refine g_iloadN X d14_0 (pc' := 1) rfl rfl ?_
 refine g_iloadN X d14_1 (pc' := 2) rfl rfl ?_
 refine g_iloadN X d14_2 (pc' := 3) rfl rfl ?_
 refine g_getstatic X (host := "") (Or.inl (tb hw 99 rfl)) Via.refl Psf d14_3 (pc' := 6) rfl ?_
 intro T X
 refine g_static X (W := 0) [(.int (0 : Int32)), (.int (1 : Int32)), (.int (3 : Int32)), .null] [] (tb hw 101 rfl) (tb hw 102 rfl) (tb hw 100 rfl) (tb hw 103 rfl) (rCfi0N l Z aa hw []  _) d14_6 (pc' := 9) rfl (by decide) (by decide) (by decide) rfl rfl rfl (lenOf pd_8 rfl) (Nat.le_refl _) (by decide) (by decide) ?_
 intro v T L X q
 obtain ⟨rfl, X⟩ := pureX X q
 show Go p e below _ (T.setTop (mkF m 9 _ [(.int (0 : Int32))]))
 refine g_ireturn X d14_9 hret hlk (by decide) (by decide) ?_
 exact ⟨rfl, rfl, rfl⟩
theorem ef_rCfi0R (m : MethodId) (x0 : Int32) (x1 : Int32) (x2 : Int32) (x3 : Addr) : entryFrame m #[(.int x0), (.int x1), (.int x2), (.ref x3)] 4 = mkF m 0 #[.val (.int x0), .val (.int x1), .val (.int x2), .val (.ref x3)] [] := by first | (simp [entryFrame, mkF, argsToLocals, Value.category]; done) | rfl
set_option maxRecDepth 65536 in
set_option maxHeartbeats 40000000 in
theorem rCfi0R (l : Launch) (Z : State) (aa : Array Value) (hw : ∀ d ∈ tables_1, d.before aa Z = true) (ws : List Jvm.Cond) (gf : Addr) (h0 : Heap) :
    Rm l Z (⟨"jdk/internal/util/Preconditions", "checkFromIndexSize", "(IIILjava/util/function/BiFunction;)I"⟩ : MethodName) jdk_41_method_13_code 4 (some .int) ws ({ frames := 0, cells := 0, slots := 0, locals := 0 } : Room) #[(.int (0 : Int32)), (.int (1 : Int32)), (.int (3 : Int32)), (.ref gf)] h0 (Pu (.int (0 : Int32)) h0) := by
 refine Rm.of (plainFor_of_name pn_5) ?_
 intro p e s m below meth cc T X hnm hret hlk
 refine Go.at_ (ef_rCfi0R m (0 : Int32) (1 : Int32) (3 : Int32) gf) ?_
 refine g_iloadN X d15_0 (pc' := 1) rfl rfl ?_
 refine g_iloadN X d15_1 (pc' := 2) rfl rfl ?_
 refine g_ior X d15_2 (pc' := 3) rfl ?_
 refine Go.lit32 (z := (3 : Int32)) (by decide) ?_
 refine g_iloadN X d15_3 (pc' := 4) rfl rfl ?_
 refine g_ior X d15_4 (pc' := 5) rfl ?_
 refine Go.lit32 (z := (3 : Int32)) (by decide) ?_
 refine g_ifN X d15_5 ((if0 _ _).trans (flt (show ¬ ((3 : Int32) < (0 : Int32)) from (by decide))).1) (pc' := 8) rfl ?_
 refine g_iloadN X d15_8 (pc' := 9) rfl rfl ?_
 refine g_iloadN X d15_9 (pc' := 10) rfl rfl ?_
 refine g_iloadN X d15_10 (pc' := 11) rfl rfl ?_
 refine g_isub X d15_11 (pc' := 12) rfl ?_
 refine Go.lit32 (z := (3 : Int32)) (by decide) ?_
 refine g_icY X d15_12 (flt (show ¬ ((3 : Int32) < (1 : Int32)) from (by decide))).2.2.2 (pc' := 23) (by decide) (by decide) ?_
 refine g_iloadN X d15_23 (pc' := 24) rfl rfl ?_
 refine g_ireturn X d15_24 hret hlk (by decide) (by decide) ?_
 exact ⟨rfl, rfl, rfl⟩
theorem ef_rCbo0R (m : MethodId) (x0 : Int32) (x1 : Int32) (x2 : Int32) : entryFrame m #[(.int x0), (.int x1), (.int x2)] 3 = mkF m 0 #[.val (.int x0), .val (.int x1), .val (.int x2)] [] := by first | (simp [entryFrame, mkF, argsToLocals, Value.category]; done) | rfl
set_option maxRecDepth 65536 in
set_option maxHeartbeats 40000000 in
theorem rCbo0R (l : Launch) (Z : State) (aa : Array Value) (hw : ∀ d ∈ tables_1, d.before aa Z = true) (ws : List Jvm.Cond) (gf : Addr) (h0 : Heap) (Psf : Sta Z h0 "jdk/internal/util/Preconditions" "SIOOBE_FORMATTER" "Ljava/util/function/BiFunction;" (.ref gf)) :
    Rm l Z (⟨"java/lang/String", "checkBoundsOffCount", "(III)I"⟩ : MethodName) jdk_42_method_157_code 3 (some .int) ws ({ frames := 1, cells := 0, slots := 0, locals := 15 } : Room) #[(.int (0 : Int32)), (.int (1 : Int32)), (.int (3 : Int32))] h0 (Pu (.int (0 : Int32)) h0) := by
 refine Rm.of (plainFor_of_name pn_1) ?_
 intro p e s m below meth cc T X hnm hret hlk
 refine Go.at_ (ef_rCbo0R m (0 : Int32) (1 : Int32) (3 : Int32)) ?_
 refine g_iloadN X d14_0 (pc' := 1) rfl rfl ?_
 refine g_iloadN X d14_1 (pc' := 2) rfl rfl ?_
 refine g_iloadN X d14_2 (pc' := 3) rfl rfl ?_
 refine g_getstatic X (host := "") (Or.inl (tb hw 99 rfl)) Via.refl Psf d14_3 (pc' := 6) rfl ?_
 intro T X
 refine g_static X (W := 0) [(.int (0 : Int32)), (.int (1 : Int32)), (.int (3 : Int32)), (.ref gf)] [] (tb hw 101 rfl) (tb hw 102 rfl) (tb hw 100 rfl) (tb hw 103 rfl) (rCfi0R l Z aa hw [] gf _) d14_6 (pc' := 9) rfl (by decide) (by decide) (by decide) rfl rfl rfl (lenOf pd_8 rfl) (Nat.le_refl _) (by decide) (by decide) ?_
 intro v T L X q
 obtain ⟨rfl, X⟩ := pureX X q
 show Go p e below _ (T.setTop (mkF m 9 _ [(.int (0 : Int32))]))
 refine g_ireturn X d14_9 hret hlk (by decide) (by decide) ?_
 exact ⟨rfl, rfl, rfl⟩
theorem rCbo0 (l : Launch) (Z : State) (aa : Array Value) (hw : ∀ d ∈ tables_1, d.before aa Z = true) (ws : List Jvm.Cond) (G3 : Value) (h0 : Heap) (rG3 : G3.isRef = true) (Psf : Sta Z h0 "jdk/internal/util/Preconditions" "SIOOBE_FORMATTER" "Ljava/util/function/BiFunction;" G3) :
    Rm l Z (⟨"java/lang/String", "checkBoundsOffCount", "(III)I"⟩ : MethodName) jdk_42_method_157_code 3 (some .int) ws ({ frames := 1, cells := 0, slots := 0, locals := 15 } : Room) #[(.int (0 : Int32)), (.int (1 : Int32)), (.int (3 : Int32))] h0 (Pu (.int (0 : Int32)) h0) := by
  cases G3 with
  | null => exact rCbo0N l Z aa hw ws h0 Psf
  | ref gf => exact rCbo0R l Z aa hw ws gf h0 Psf
  | _ => cases rG3
theorem ef_rCfi1N (m : MethodId) (x0 : Int32) (x1 : Int32) (x2 : Int32) : entryFrame m #[(.int x0), (.int x1), (.int x2), .null] 4 = mkF m 0 #[.val (.int x0), .val (.int x1), .val (.int x2), .val .null] [] := by first | (simp [entryFrame, mkF, argsToLocals, Value.category]; done) | rfl
set_option maxRecDepth 65536 in
set_option maxHeartbeats 40000000 in
theorem rCfi1N (l : Launch) (Z : State) (aa : Array Value) (hw : ∀ d ∈ tables_1, d.before aa Z = true) (ws : List Jvm.Cond)  (h0 : Heap) :
    Rm l Z (⟨"jdk/internal/util/Preconditions", "checkFromIndexSize", "(IIILjava/util/function/BiFunction;)I"⟩ : MethodName) jdk_41_method_13_code 4 (some .int) ws ({ frames := 0, cells := 0, slots := 0, locals := 0 } : Room) #[(.int (1 : Int32)), (.int (2 : Int32)), (.int (3 : Int32)), .null] h0 (Pu (.int (1 : Int32)) h0) := by
 refine Rm.of (plainFor_of_name pn_5) ?_
 intro p e s m below meth cc T X hnm hret hlk
 refine Go.at_ (ef_rCfi1N m (1 : Int32) (2 : Int32) (3 : Int32)) ?_
 refine g_iloadN X d15_0 (pc' := 1) rfl rfl ?_
 refine g_iloadN X d15_1 (pc' := 2) rfl rfl ?_
 refine g_ior X d15_2 (pc' := 3) rfl ?_
 refine Go.lit32 (z := (3 : Int32)) (by decide) ?_
 refine g_iloadN X d15_3 (pc' := 4) rfl rfl ?_
 refine g_ior X d15_4 (pc' := 5) rfl ?_
 refine Go.lit32 (z := (3 : Int32)) (by decide) ?_
 refine g_ifN X d15_5 ((if0 _ _).trans (flt (show ¬ ((3 : Int32) < (0 : Int32)) from (by decide))).1) (pc' := 8) rfl ?_
 refine g_iloadN X d15_8 (pc' := 9) rfl rfl ?_
 refine g_iloadN X d15_9 (pc' := 10) rfl rfl ?_
 refine g_iloadN X d15_10 (pc' := 11) rfl rfl ?_
 refine g_isub X d15_11 (pc' := 12) rfl ?_
 refine Go.lit32 (z := (2 : Int32)) (by decide) ?_
 refine g_icY X d15_12 (flt (show ¬ ((2 : Int32) < (2 : Int32)) from (by decide))).2.2.2 (pc' := 23) (by decide) (by decide) ?_
 refine g_iloadN X d15_23 (pc' := 24) rfl rfl ?_
 refine g_ireturn X d15_24 hret hlk (by decide) (by decide) ?_
 exact ⟨rfl, rfl, rfl⟩
theorem ef_rCbo1N (m : MethodId) (x0 : Int32) (x1 : Int32) (x2 : Int32) : entryFrame m #[(.int x0), (.int x1), (.int x2)] 3 = mkF m 0 #[.val (.int x0), .val (.int x1), .val (.int x2)] [] := by first | (simp [entryFrame, mkF, argsToLocals, Value.category]; done) | rfl
set_option maxRecDepth 65536 in
set_option maxHeartbeats 40000000 in
theorem rCbo1N (l : Launch) (Z : State) (aa : Array Value) (hw : ∀ d ∈ tables_1, d.before aa Z = true) (ws : List Jvm.Cond)  (h0 : Heap) (Psf : Sta Z h0 "jdk/internal/util/Preconditions" "SIOOBE_FORMATTER" "Ljava/util/function/BiFunction;" .null) :
    Rm l Z (⟨"java/lang/String", "checkBoundsOffCount", "(III)I"⟩ : MethodName) jdk_42_method_157_code 3 (some .int) ws ({ frames := 1, cells := 0, slots := 0, locals := 15 } : Room) #[(.int (1 : Int32)), (.int (2 : Int32)), (.int (3 : Int32))] h0 (Pu (.int (1 : Int32)) h0) := by
 refine Rm.of (plainFor_of_name pn_1) ?_
 intro p e s m below meth cc T X hnm hret hlk
 refine Go.at_ (ef_rCbo1N m (1 : Int32) (2 : Int32) (3 : Int32)) ?_
 refine g_iloadN X d14_0 (pc' := 1) rfl rfl ?_
 refine g_iloadN X d14_1 (pc' := 2) rfl rfl ?_
 refine g_iloadN X d14_2 (pc' := 3) rfl rfl ?_
 refine g_getstatic X (host := "") (Or.inl (tb hw 99 rfl)) Via.refl Psf d14_3 (pc' := 6) rfl ?_
 intro T X
 refine g_static X (W := 0) [(.int (1 : Int32)), (.int (2 : Int32)), (.int (3 : Int32)), .null] [] (tb hw 101 rfl) (tb hw 102 rfl) (tb hw 100 rfl) (tb hw 103 rfl) (rCfi1N l Z aa hw []  _) d14_6 (pc' := 9) rfl (by decide) (by decide) (by decide) rfl rfl rfl (lenOf pd_8 rfl) (Nat.le_refl _) (by decide) (by decide) ?_
 intro v T L X q
 obtain ⟨rfl, X⟩ := pureX X q
 show Go p e below _ (T.setTop (mkF m 9 _ [(.int (1 : Int32))]))
 refine g_ireturn X d14_9 hret hlk (by decide) (by decide) ?_
 exact ⟨rfl, rfl, rfl⟩
theorem ef_rCfi1R (m : MethodId) (x0 : Int32) (x1 : Int32) (x2 : Int32) (x3 : Addr) : entryFrame m #[(.int x0), (.int x1), (.int x2), (.ref x3)] 4 = mkF m 0 #[.val (.int x0), .val (.int x1), .val (.int x2), .val (.ref x3)] [] := by first | (simp [entryFrame, mkF, argsToLocals, Value.category]; done) | rfl
set_option maxRecDepth 65536 in
set_option maxHeartbeats 40000000 in
theorem rCfi1R (l : Launch) (Z : State) (aa : Array Value) (hw : ∀ d ∈ tables_1, d.before aa Z = true) (ws : List Jvm.Cond) (gf : Addr) (h0 : Heap) :
    Rm l Z (⟨"jdk/internal/util/Preconditions", "checkFromIndexSize", "(IIILjava/util/function/BiFunction;)I"⟩ : MethodName) jdk_41_method_13_code 4 (some .int) ws ({ frames := 0, cells := 0, slots := 0, locals := 0 } : Room) #[(.int (1 : Int32)), (.int (2 : Int32)), (.int (3 : Int32)), (.ref gf)] h0 (Pu (.int (1 : Int32)) h0) := by
 refine Rm.of (plainFor_of_name pn_5) ?_
 intro p e s m below meth cc T X hnm hret hlk
 refine Go.at_ (ef_rCfi1R m (1 : Int32) (2 : Int32) (3 : Int32) gf) ?_
 refine g_iloadN X d15_0 (pc' := 1) rfl rfl ?_
 refine g_iloadN X d15_1 (pc' := 2) rfl rfl ?_
 refine g_ior X d15_2 (pc' := 3) rfl ?_
 refine Go.lit32 (z := (3 : Int32)) (by decide) ?_
 refine g_iloadN X d15_3 (pc' := 4) rfl rfl ?_
 refine g_ior X d15_4 (pc' := 5) rfl ?_
 refine Go.lit32 (z := (3 : Int32)) (by decide) ?_
 refine g_ifN X d15_5 ((if0 _ _).trans (flt (show ¬ ((3 : Int32) < (0 : Int32)) from (by decide))).1) (pc' := 8) rfl ?_
 refine g_iloadN X d15_8 (pc' := 9) rfl rfl ?_
 refine g_iloadN X d15_9 (pc' := 10) rfl rfl ?_
 refine g_iloadN X d15_10 (pc' := 11) rfl rfl ?_
 refine g_isub X d15_11 (pc' := 12) rfl ?_
 refine Go.lit32 (z := (2 : Int32)) (by decide) ?_
 refine g_icY X d15_12 (flt (show ¬ ((2 : Int32) < (2 : Int32)) from (by decide))).2.2.2 (pc' := 23) (by decide) (by decide) ?_
 refine g_iloadN X d15_23 (pc' := 24) rfl rfl ?_
 refine g_ireturn X d15_24 hret hlk (by decide) (by decide) ?_
 exact ⟨rfl, rfl, rfl⟩
theorem ef_rCbo1R (m : MethodId) (x0 : Int32) (x1 : Int32) (x2 : Int32) : entryFrame m #[(.int x0), (.int x1), (.int x2)] 3 = mkF m 0 #[.val (.int x0), .val (.int x1), .val (.int x2)] [] := by first | (simp [entryFrame, mkF, argsToLocals, Value.category]; done) | rfl
set_option maxRecDepth 65536 in
set_option maxHeartbeats 40000000 in
theorem rCbo1R (l : Launch) (Z : State) (aa : Array Value) (hw : ∀ d ∈ tables_1, d.before aa Z = true) (ws : List Jvm.Cond) (gf : Addr) (h0 : Heap) (Psf : Sta Z h0 "jdk/internal/util/Preconditions" "SIOOBE_FORMATTER" "Ljava/util/function/BiFunction;" (.ref gf)) :
    Rm l Z (⟨"java/lang/String", "checkBoundsOffCount", "(III)I"⟩ : MethodName) jdk_42_method_157_code 3 (some .int) ws ({ frames := 1, cells := 0, slots := 0, locals := 15 } : Room) #[(.int (1 : Int32)), (.int (2 : Int32)), (.int (3 : Int32))] h0 (Pu (.int (1 : Int32)) h0) := by
 refine Rm.of (plainFor_of_name pn_1) ?_
 intro p e s m below meth cc T X hnm hret hlk
 refine Go.at_ (ef_rCbo1R m (1 : Int32) (2 : Int32) (3 : Int32)) ?_
 refine g_iloadN X d14_0 (pc' := 1) rfl rfl ?_
 refine g_iloadN X d14_1 (pc' := 2) rfl rfl ?_
 refine g_iloadN X d14_2 (pc' := 3) rfl rfl ?_
 refine g_getstatic X (host := "") (Or.inl (tb hw 99 rfl)) Via.refl Psf d14_3 (pc' := 6) rfl ?_
 intro T X
 refine g_static X (W := 0) [(.int (1 : Int32)), (.int (2 : Int32)), (.int (3 : Int32)), (.ref gf)] [] (tb hw 101 rfl) (tb hw 102 rfl) (tb hw 100 rfl) (tb hw 103 rfl) (rCfi1R l Z aa hw [] gf _) d14_6 (pc' := 9) rfl (by decide) (by decide) (by decide) rfl rfl rfl (lenOf pd_8 rfl) (Nat.le_refl _) (by decide) (by decide) ?_
 intro v T L X q
 obtain ⟨rfl, X⟩ := pureX X q
 show Go p e below _ (T.setTop (mkF m 9 _ [(.int (1 : Int32))]))
 refine g_ireturn X d14_9 hret hlk (by decide) (by decide) ?_
 exact ⟨rfl, rfl, rfl⟩
theorem rCbo1 (l : Launch) (Z : State) (aa : Array Value) (hw : ∀ d ∈ tables_1, d.before aa Z = true) (ws : List Jvm.Cond) (G3 : Value) (h0 : Heap) (rG3 : G3.isRef = true) (Psf : Sta Z h0 "jdk/internal/util/Preconditions" "SIOOBE_FORMATTER" "Ljava/util/function/BiFunction;" G3) :
    Rm l Z (⟨"java/lang/String", "checkBoundsOffCount", "(III)I"⟩ : MethodName) jdk_42_method_157_code 3 (some .int) ws ({ frames := 1, cells := 0, slots := 0, locals := 15 } : Room) #[(.int (1 : Int32)), (.int (2 : Int32)), (.int (3 : Int32))] h0 (Pu (.int (1 : Int32)) h0) := by
  cases G3 with
  | null => exact rCbo1N l Z aa hw ws h0 Psf
  | ref gf => exact rCbo1R l Z aa hw ws gf h0 Psf
  | _ => cases rG3
theorem ef_rCfi3N (m : MethodId) (x0 : Int32) (x1 : Int32) (x2 : Int32) : entryFrame m #[(.int x0), (.int x1), (.int x2), .null] 4 = mkF m 0 #[.val (.int x0), .val (.int x1), .val (.int x2), .val .null] [] := by first | (simp [entryFrame, mkF, argsToLocals, Value.category]; done) | rfl
set_option maxRecDepth 65536 in
set_option maxHeartbeats 40000000 in
theorem rCfi3N (l : Launch) (Z : State) (aa : Array Value) (hw : ∀ d ∈ tables_1, d.before aa Z = true) (ws : List Jvm.Cond)  (h0 : Heap) :
    Rm l Z (⟨"jdk/internal/util/Preconditions", "checkFromIndexSize", "(IIILjava/util/function/BiFunction;)I"⟩ : MethodName) jdk_41_method_13_code 4 (some .int) ws ({ frames := 0, cells := 0, slots := 0, locals := 0 } : Room) #[(.int (3 : Int32)), (.int (0 : Int32)), (.int (3 : Int32)), .null] h0 (Pu (.int (3 : Int32)) h0) := by
 refine Rm.of (plainFor_of_name pn_5) ?_
 intro p e s m below meth cc T X hnm hret hlk
 refine Go.at_ (ef_rCfi3N m (3 : Int32) (0 : Int32) (3 : Int32)) ?_
 refine g_iloadN X d15_0 (pc' := 1) rfl rfl ?_
 refine g_iloadN X d15_1 (pc' := 2) rfl rfl ?_
 refine g_ior X d15_2 (pc' := 3) rfl ?_
 refine Go.lit32 (z := (3 : Int32)) (by decide) ?_
 refine g_iloadN X d15_3 (pc' := 4) rfl rfl ?_
 refine g_ior X d15_4 (pc' := 5) rfl ?_
 refine Go.lit32 (z := (3 : Int32)) (by decide) ?_
 refine g_ifN X d15_5 ((if0 _ _).trans (flt (show ¬ ((3 : Int32) < (0 : Int32)) from (by decide))).1) (pc' := 8) rfl ?_
 refine g_iloadN X d15_8 (pc' := 9) rfl rfl ?_
 refine g_iloadN X d15_9 (pc' := 10) rfl rfl ?_
 refine g_iloadN X d15_10 (pc' := 11) rfl rfl ?_
 refine g_isub X d15_11 (pc' := 12) rfl ?_
 refine Go.lit32 (z := (0 : Int32)) (by decide) ?_
 refine g_icY X d15_12 (flt (show ¬ ((0 : Int32) < (0 : Int32)) from (by decide))).2.2.2 (pc' := 23) (by decide) (by decide) ?_
 refine g_iloadN X d15_23 (pc' := 24) rfl rfl ?_
 refine g_ireturn X d15_24 hret hlk (by decide) (by decide) ?_
 exact ⟨rfl, rfl, rfl⟩
theorem ef_rCbo3N (m : MethodId) (x0 : Int32) (x1 : Int32) (x2 : Int32) : entryFrame m #[(.int x0), (.int x1), (.int x2)] 3 = mkF m 0 #[.val (.int x0), .val (.int x1), .val (.int x2)] [] := by first | (simp [entryFrame, mkF, argsToLocals, Value.category]; done) | rfl
set_option maxRecDepth 65536 in
set_option maxHeartbeats 40000000 in
theorem rCbo3N (l : Launch) (Z : State) (aa : Array Value) (hw : ∀ d ∈ tables_1, d.before aa Z = true) (ws : List Jvm.Cond)  (h0 : Heap) (Psf : Sta Z h0 "jdk/internal/util/Preconditions" "SIOOBE_FORMATTER" "Ljava/util/function/BiFunction;" .null) :
    Rm l Z (⟨"java/lang/String", "checkBoundsOffCount", "(III)I"⟩ : MethodName) jdk_42_method_157_code 3 (some .int) ws ({ frames := 1, cells := 0, slots := 0, locals := 15 } : Room) #[(.int (3 : Int32)), (.int (0 : Int32)), (.int (3 : Int32))] h0 (Pu (.int (3 : Int32)) h0) := by
 refine Rm.of (plainFor_of_name pn_1) ?_
 intro p e s m below meth cc T X hnm hret hlk
 refine Go.at_ (ef_rCbo3N m (3 : Int32) (0 : Int32) (3 : Int32)) ?_
 refine g_iloadN X d14_0 (pc' := 1) rfl rfl ?_
 refine g_iloadN X d14_1 (pc' := 2) rfl rfl ?_
 refine g_iloadN X d14_2 (pc' := 3) rfl rfl ?_
 refine g_getstatic X (host := "") (Or.inl (tb hw 99 rfl)) Via.refl Psf d14_3 (pc' := 6) rfl ?_
 intro T X
 refine g_static X (W := 0) [(.int (3 : Int32)), (.int (0 : Int32)), (.int (3 : Int32)), .null] [] (tb hw 101 rfl) (tb hw 102 rfl) (tb hw 100 rfl) (tb hw 103 rfl) (rCfi3N l Z aa hw []  _) d14_6 (pc' := 9) rfl (by decide) (by decide) (by decide) rfl rfl rfl (lenOf pd_8 rfl) (Nat.le_refl _) (by decide) (by decide) ?_
 intro v T L X q
 obtain ⟨rfl, X⟩ := pureX X q
 show Go p e below _ (T.setTop (mkF m 9 _ [(.int (3 : Int32))]))
 refine g_ireturn X d14_9 hret hlk (by decide) (by decide) ?_
 exact ⟨rfl, rfl, rfl⟩
theorem ef_rCfi3R (m : MethodId) (x0 : Int32) (x1 : Int32) (x2 : Int32) (x3 : Addr) : entryFrame m #[(.int x0), (.int x1), (.int x2), (.ref x3)] 4 = mkF m 0 #[.val (.int x0), .val (.int x1), .val (.int x2), .val (.ref x3)] [] := by first | (simp [entryFrame, mkF, argsToLocals, Value.category]; done) | rfl
set_option maxRecDepth 65536 in
set_option maxHeartbeats 40000000 in
theorem rCfi3R (l : Launch) (Z : State) (aa : Array Value) (hw : ∀ d ∈ tables_1, d.before aa Z = true) (ws : List Jvm.Cond) (gf : Addr) (h0 : Heap) :
    Rm l Z (⟨"jdk/internal/util/Preconditions", "checkFromIndexSize", "(IIILjava/util/function/BiFunction;)I"⟩ : MethodName) jdk_41_method_13_code 4 (some .int) ws ({ frames := 0, cells := 0, slots := 0, locals := 0 } : Room) #[(.int (3 : Int32)), (.int (0 : Int32)), (.int (3 : Int32)), (.ref gf)] h0 (Pu (.int (3 : Int32)) h0) := by
 refine Rm.of (plainFor_of_name pn_5) ?_
 intro p e s m below meth cc T X hnm hret hlk
 refine Go.at_ (ef_rCfi3R m (3 : Int32) (0 : Int32) (3 : Int32) gf) ?_
 refine g_iloadN X d15_0 (pc' := 1) rfl rfl ?_
 refine g_iloadN X d15_1 (pc' := 2) rfl rfl ?_
 refine g_ior X d15_2 (pc' := 3) rfl ?_
 refine Go.lit32 (z := (3 : Int32)) (by decide) ?_
 refine g_iloadN X d15_3 (pc' := 4) rfl rfl ?_
 refine g_ior X d15_4 (pc' := 5) rfl ?_
 refine Go.lit32 (z := (3 : Int32)) (by decide) ?_
 refine g_ifN X d15_5 ((if0 _ _).trans (flt (show ¬ ((3 : Int32) < (0 : Int32)) from (by decide))).1) (pc' := 8) rfl ?_
 refine g_iloadN X d15_8 (pc' := 9) rfl rfl ?_
 refine g_iloadN X d15_9 (pc' := 10) rfl rfl ?_
 refine g_iloadN X d15_10 (pc' := 11) rfl rfl ?_
 refine g_isub X d15_11 (pc' := 12) rfl ?_
 refine Go.lit32 (z := (0 : Int32)) (by decide) ?_
 refine g_icY X d15_12 (flt (show ¬ ((0 : Int32) < (0 : Int32)) from (by decide))).2.2.2 (pc' := 23) (by decide) (by decide) ?_
 refine g_iloadN X d15_23 (pc' := 24) rfl rfl ?_
 refine g_ireturn X d15_24 hret hlk (by decide) (by decide) ?_
 exact ⟨rfl, rfl, rfl⟩
theorem ef_rCbo3R (m : MethodId) (x0 : Int32) (x1 : Int32) (x2 : Int32) : entryFrame m #[(.int x0), (.int x1), (.int x2)] 3 = mkF m 0 #[.val (.int x0), .val (.int x1), .val (.int x2)] [] := by first | (simp [entryFrame, mkF, argsToLocals, Value.category]; done) | rfl
set_option maxRecDepth 65536 in
set_option maxHeartbeats 40000000 in
theorem rCbo3R (l : Launch) (Z : State) (aa : Array Value) (hw : ∀ d ∈ tables_1, d.before aa Z = true) (ws : List Jvm.Cond) (gf : Addr) (h0 : Heap) (Psf : Sta Z h0 "jdk/internal/util/Preconditions" "SIOOBE_FORMATTER" "Ljava/util/function/BiFunction;" (.ref gf)) :
    Rm l Z (⟨"java/lang/String", "checkBoundsOffCount", "(III)I"⟩ : MethodName) jdk_42_method_157_code 3 (some .int) ws ({ frames := 1, cells := 0, slots := 0, locals := 15 } : Room) #[(.int (3 : Int32)), (.int (0 : Int32)), (.int (3 : Int32))] h0 (Pu (.int (3 : Int32)) h0) := by
 refine Rm.of (plainFor_of_name pn_1) ?_
 intro p e s m below meth cc T X hnm hret hlk
 refine Go.at_ (ef_rCbo3R m (3 : Int32) (0 : Int32) (3 : Int32)) ?_
 refine g_iloadN X d14_0 (pc' := 1) rfl rfl ?_
 refine g_iloadN X d14_1 (pc' := 2) rfl rfl ?_
 refine g_iloadN X d14_2 (pc' := 3) rfl rfl ?_
 refine g_getstatic X (host := "") (Or.inl (tb hw 99 rfl)) Via.refl Psf d14_3 (pc' := 6) rfl ?_
 intro T X
 refine g_static X (W := 0) [(.int (3 : Int32)), (.int (0 : Int32)), (.int (3 : Int32)), (.ref gf)] [] (tb hw 101 rfl) (tb hw 102 rfl) (tb hw 100 rfl) (tb hw 103 rfl) (rCfi3R l Z aa hw [] gf _) d14_6 (pc' := 9) rfl (by decide) (by decide) (by decide) rfl rfl rfl (lenOf pd_8 rfl) (Nat.le_refl _) (by decide) (by decide) ?_
 intro v T L X q
 obtain ⟨rfl, X⟩ := pureX X q
 show Go p e below _ (T.setTop (mkF m 9 _ [(.int (3 : Int32))]))
 refine g_ireturn X d14_9 hret hlk (by decide) (by decide) ?_
 exact ⟨rfl, rfl, rfl⟩
theorem rCbo3 (l : Launch) (Z : State) (aa : Array Value) (hw : ∀ d ∈ tables_1, d.before aa Z = true) (ws : List Jvm.Cond) (G3 : Value) (h0 : Heap) (rG3 : G3.isRef = true) (Psf : Sta Z h0 "jdk/internal/util/Preconditions" "SIOOBE_FORMATTER" "Ljava/util/function/BiFunction;" G3) :
    Rm l Z (⟨"java/lang/String", "checkBoundsOffCount", "(III)I"⟩ : MethodName) jdk_42_method_157_code 3 (some .int) ws ({ frames := 1, cells := 0, slots := 0, locals := 15 } : Room) #[(.int (3 : Int32)), (.int (0 : Int32)), (.int (3 : Int32))] h0 (Pu (.int (3 : Int32)) h0) := by
  cases G3 with
  | null => exact rCbo3N l Z aa hw ws h0 Psf
  | ref gf => exact rCbo3R l Z aa hw ws gf h0 Psf
  | _ => cases rG3
theorem d12_0 : decode jdk_42_method_10_code 0 = .ok (.aload_n 0, 1) := by decide +kernel
theorem d12_1 : decode jdk_42_method_10_code 1 = .ok (.aload 4, 2) := by decide +kernel
theorem d12_3 : decode jdk_42_method_10_code 3 = .ok (.invokestatic 78, 3) := by decide +kernel
theorem pd_9 : parseMethodDescriptor "(Ljava/lang/Object;)Ljava/lang/Object;" = some ⟨[(.object "java/lang/Object")], some (.object "java/lang/Object")⟩ := by decide +kernel
theorem d12_6 : decode jdk_42_method_10_code 6 = .ok (.checkcast 84, 3) := by decide +kernel
theorem d12_9 : decode jdk_42_method_10_code 9 = .ok (.aload_n 1, 1) := by decide +kernel
theorem d12_10 : decode jdk_42_method_10_code 10 = .ok (.iload_n 2, 1) := by decide +kernel
theorem d12_11 : decode jdk_42_method_10_code 11 = .ok (.iload_n 3, 1) := by decide +kernel
theorem d12_12 : decode jdk_42_method_10_code 12 = .ok (.aload_n 1, 1) := by decide +kernel
theorem d12_13 : decode jdk_42_method_10_code 13 = .ok (.arraylength, 1) := by decide +kernel
theorem d12_14 : decode jdk_42_method_10_code 14 = .ok (.invokestatic 34, 3) := by decide +kernel
theorem pd_10 : parseMethodDescriptor "(III)I" = some ⟨[.int, .int, .int], some .int⟩ := by decide +kernel
theorem d12_17 : decode jdk_42_method_10_code 17 = .ok (.iload_n 3, 1) := by decide +kernel
theorem d12_18 : decode jdk_42_method_10_code 18 = .ok (.invokespecial 75, 3) := by decide +kernel
theorem pd_11 : parseMethodDescriptor "(Ljava/nio/charset/Charset;[BII)V" = some ⟨[(.object "java/nio/charset/Charset"), (.array .byte), .int, .int], none⟩ := by decide +kernel
theorem d12_21 : decode jdk_42_method_10_code 21 = .ok (.return_, 1) := by decide +kernel
theorem ef_rSv0 (m : MethodId) (x0 : Addr) (x1 : Addr) (x2 : Int32) (x3 : Int32) (x4 : Addr) : entryFrame m #[(.ref x0), (.ref x1), (.int x2), (.int x3), (.ref x4)] 5 = mkF m 0 #[.val (.ref x0), .val (.ref x1), .val (.int x2), .val (.int x3), .val (.ref x4)] [] := by first | (simp [entryFrame, mkF, argsToLocals, Value.category]; done) | rfl
set_option maxRecDepth 65536 in
set_option maxHeartbeats 40000000 in
theorem rSv0 (l : Launch) (Z : State) (aa : Array Value) (hw : ∀ d ∈ tables_1, d.before aa Z = true) (ws : List Jvm.Cond) (a0 : Addr) (a2 : Addr) (u8 : Addr) (b0 : Int32) (b1 : Int32) (b2 : Int32) (G1 : Int32) (G3 : Value) (h0 : Heap) (n0 : Nat) (Z0 : n0 ≤ h0.size) (qa : Exa Z h0 a0 "java/lang/String") (qb : Fld Z h0 a0 "java/lang/String" "value" "[B" .null) (qc : Fld Z h0 a0 "java/lang/String" "coder" "B" (.int (0 : Int32))) (qd : Av Z h0 a2 .byte [(.int b0), (.int b1), (.int b2)]) (qe : n0 ≤ a0) (qf : a2 ≠ a0) (qg : Sta Z h0 "java/lang/String" "COMPACT_STRINGS" "Z" (.int G1)) (P5 : ¬ G1 = (0 : Int32)) (qh : Sta Z h0 "sun/nio/cs/UTF_8" "INSTANCE" "Lsun/nio/cs/UTF_8;" (.ref u8)) (qi : Exa Z h0 u8 "sun/nio/cs/UTF_8") (qj : Sta Z h0 "jdk/internal/util/Preconditions" "SIOOBE_FORMATTER" "Ljava/util/function/BiFunction;" G3) (rG3 : G3.isRef = true) (nb0 : ¬ b0 < (0 : Int32)) (nb1 : ¬ b1 < (0 : Int32)) (nb2 : ¬ b2 < (0 : Int32)) (hfit : ∀ v ∈ ([(.int b0), (.int b1), (.int b2)] : List Value), fits .byte v = true) :
    RmS l Z consts_1 [a0] (Jvm.Cond.code (⟨"java/lang/String", "<init>", "([BIILjava/nio/charset/Charset;)V"⟩ : MethodName) jdk_42_method_10_code 5 none) (⟨"java/lang/String", "<init>", "([BIILjava/nio/charset/Charset;)V"⟩ : MethodName) ({ frames := 4, cells := 1, slots := 1, locals := 71 } : Room) #[(.ref a0), (.ref a2), (.int (0 : Int32)), (.int (1 : Int32)), (.ref u8)] h0 (fun v h L => ∃ q : Addr, v = none ∧ Fr n0 L ∧ Keep h0 h [a0] ∧ StrB Z h a0 q [(.int b0)]) := by
 refine RmS.of (plainFor_of_name pn_1) ?_
 intro p e s m below meth cc T X hS hk HR hSS hnm hret hlk
 have S_a0 : Safe Z consts_1 s.vm h0 a0 := hSS _ (List.mem_of_getElem? (i := 0) rfl)
 refine Go.at_ (ef_rSv0 m a0 a2 (0 : Int32) (1 : Int32) u8) ?_
 have N := Fr.nil n0
 have Kp := Keep.refl h0 [a0]
 refine g_aloadN X d12_0 (pc' := 1) rfl rfl rfl ?_
 refine g_aload X d12_1 (pc' := 3) rfl rfl rfl ?_
 refine g_static X (W := 1) [(.ref u8)] [(.ref a0)] (tb hw 90 rfl) (tb hw 91 rfl) (tb hw 92 rfl) (tb hw 93 rfl) (rRnn l Z aa hw [] u8 _) d12_3 (pc' := 6) rfl (by decide) (by decide) (by decide) rfl rfl rfl (lenOf pd_9 rfl) (Nat.le_refl _) (by decide) (by decide) ?_
 intro v T L X q
 obtain ⟨rfl, X⟩ := pureX X q
 show Go p e below _ (T.setTop (mkF m 6 _ [(.ref u8), (.ref a0)]))
 refine g_checkcast X (tb hw 94 rfl) (Ins.of_exa qi (tb hw 95 rfl)) d12_6 (pc' := 9) rfl ?_
 intro T X
 refine g_aloadN X d12_9 (pc' := 10) rfl rfl rfl ?_
 refine g_iloadN X d12_10 (pc' := 11) rfl rfl ?_
 refine g_iloadN X d12_11 (pc' := 12) rfl rfl ?_
 refine g_aloadN X d12_12 (pc' := 13) rfl rfl rfl ?_
 refine g_arraylength X qd d12_13 (pc' := 14) rfl (z := (3 : Int32)) rfl ?_
 refine g_static X (W := 3) [(.int (0 : Int32)), (.int (1 : Int32)), (.int (3 : Int32))] [(.ref a2), (.ref u8), (.ref a0)] (tb hw 96 rfl) (tb hw 97 rfl) (tb hw 5 rfl) (tb hw 98 rfl) (rCbo0 l Z aa hw [] G3 _ rG3 qj) d12_14 (pc' := 17) rfl (by decide) (by decide) (by decide) rfl rfl rfl (lenOf pd_10 rfl) (Nat.le_refl _) (by decide) (by decide) ?_
 intro v T L X q
 obtain ⟨rfl, X⟩ := pureX X q
 show Go p e below _ (T.setTop (mkF m 17 _ [(.int (0 : Int32)), (.ref a2), (.ref u8), (.ref a0)]))
 refine g_iloadN X d12_17 (pc' := 18) rfl rfl ?_
 refine g_specialSW X hS hk (elw hw) HR.1 (ssS ⟨qa.lt, S_a0⟩ ss0) (W := 0) (a := a0) [(.ref u8), (.ref a2), (.int (0 : Int32)), (.int (1 : Int32))] [] rfl (tb hw 104 rfl) (tb hw 105 rfl) (tb hw 5 rfl) (tb hw 106 rfl) (rSu0 l Z aa hw [] a0 u8 a2 b0 b1 b2 G1 _ n0 Z0 qa qb qc qd qe qf qg P5 qh nb0 nb1 nb2 hfit) d12_18 (pc' := 21) rfl (by decide) (by decide) (by decide) rfl rfl rfl (lenOf pd_11 rfl) (Nat.le_refl _) (by decide) (by decide) ?_
 intro v T L X q k1 hS hk HRn
 obtain ⟨qk, rfl, Nq, Kq, ql, qm, qn, qo⟩ := q
 replace N := N.app Nq
 replace HR := HR.trans HRn
 replace Z0 := Nat.le_trans Z0 Kq.1
 replace Kp := Kp.trans Kq (allS (Or.inl (List.mem_of_getElem? (i := 0) rfl)) all0)
 replace qa := ql
 replace qc := qm
 replace qb := qn
 show Go p e below _ (T.setTop (mkF m 21 _ []))
 refine g_returnH X hS hk (elw hw) HR d12_21 hret hlk (by decide) (by decide) ?_
 exact ⟨qk, rfl, N, Kp, qa, qc, qb, qo⟩
theorem ef_rSv1 (m : MethodId) (x0 : Addr) (x1 : Addr) (x2 : Int32) (x3 : Int32) (x4 : Addr) : entryFrame m #[(.ref x0), (.ref x1), (.int x2), (.int x3), (.ref x4)] 5 = mkF m 0 #[.val (.ref x0), .val (.ref x1), .val (.int x2), .val (.int x3), .val (.ref x4)] [] := by first | (simp [entryFrame, mkF, argsToLocals, Value.category]; done) | rfl
set_option maxRecDepth 65536 in
set_option maxHeartbeats 40000000 in
theorem rSv1 (l : Launch) (Z : State) (aa : Array Value) (hw : ∀ d ∈ tables_1, d.before aa Z = true) (ws : List Jvm.Cond) (a0 : Addr) (a2 : Addr) (u8 : Addr) (b0 : Int32) (b1 : Int32) (b2 : Int32) (G1 : Int32) (G3 : Value) (h0 : Heap) (n0 : Nat) (Z0 : n0 ≤ h0.size) (qa : Exa Z h0 a0 "java/lang/String") (qb : Fld Z h0 a0 "java/lang/String" "value" "[B" .null) (qc : Fld Z h0 a0 "java/lang/String" "coder" "B" (.int (0 : Int32))) (qd : Av Z h0 a2 .byte [(.int b0), (.int b1), (.int b2)]) (qe : n0 ≤ a0) (qf : a2 ≠ a0) (qg : Sta Z h0 "java/lang/String" "COMPACT_STRINGS" "Z" (.int G1)) (P5 : ¬ G1 = (0 : Int32)) (qh : Sta Z h0 "sun/nio/cs/UTF_8" "INSTANCE" "Lsun/nio/cs/UTF_8;" (.ref u8)) (qi : Exa Z h0 u8 "sun/nio/cs/UTF_8") (qj : Sta Z h0 "jdk/internal/util/Preconditions" "SIOOBE_FORMATTER" "Ljava/util/function/BiFunction;" G3) (rG3 : G3.isRef = true) (nb0 : ¬ b0 < (0 : Int32)) (nb1 : ¬ b1 < (0 : Int32)) (nb2 : ¬ b2 < (0 : Int32)) (hfit : ∀ v ∈ ([(.int b0), (.int b1), (.int b2)] : List Value), fits .byte v = true) :
    RmS l Z consts_1 [a0] (Jvm.Cond.code (⟨"java/lang/String", "<init>", "([BIILjava/nio/charset/Charset;)V"⟩ : MethodName) jdk_42_method_10_code 5 none) (⟨"java/lang/String", "<init>", "([BIILjava/nio/charset/Charset;)V"⟩ : MethodName) ({ frames := 4, cells := 1, slots := 2, locals := 71 } : Room) #[(.ref a0), (.ref a2), (.int (1 : Int32)), (.int (2 : Int32)), (.ref u8)] h0 (fun v h L => ∃ q : Addr, v = none ∧ Fr n0 L ∧ Keep h0 h [a0] ∧ StrB Z h a0 q [(.int b1), (.int b2)]) := by
 refine RmS.of (plainFor_of_name pn_1) ?_
 intro p e s m below meth cc T X hS hk HR hSS hnm hret hlk
 have S_a0 : Safe Z consts_1 s.vm h0 a0 := hSS _ (List.mem_of_getElem? (i := 0) rfl)
 refine Go.at_ (ef_rSv1 m a0 a2 (1 : Int32) (2 : Int32) u8) ?_
 have N := Fr.nil n0
 have Kp := Keep.refl h0 [a0]
 refine g_aloadN X d12_0 (pc' := 1) rfl rfl rfl ?_
 refine g_aload X d12_1 (pc' := 3) rfl rfl rfl ?_
 refine g_static X (W := 1) [(.ref u8)] [(.ref a0)] (tb hw 90 rfl) (tb hw 91 rfl) (tb hw 92 rfl) (tb hw 93 rfl) (rRnn l Z aa hw [] u8 _) d12_3 (pc' := 6) rfl (by decide) (by decide) (by decide) rfl rfl rfl (lenOf pd_9 rfl) (Nat.le_refl _) (by decide) (by decide) ?_
 intro v T L X q
 obtain ⟨rfl, X⟩ := pureX X q
 show Go p e below _ (T.setTop (mkF m 6 _ [(.ref u8), (.ref a0)]))
 refine g_checkcast X (tb hw 94 rfl) (Ins.of_exa qi (tb hw 95 rfl)) d12_6 (pc' := 9) rfl ?_
 intro T X
 refine g_aloadN X d12_9 (pc' := 10) rfl rfl rfl ?_
 refine g_iloadN X d12_10 (pc' := 11) rfl rfl ?_
 refine g_iloadN X d12_11 (pc' := 12) rfl rfl ?_
 refine g_aloadN X d12_12 (pc' := 13) rfl rfl rfl ?_
 refine g_arraylength X qd d12_13 (pc' := 14) rfl (z := (3 : Int32)) rfl ?_
 refine g_static X (W := 3) [(.int (1 : Int32)), (.int (2 : Int32)), (.int (3 : Int32))] [(.ref a2), (.ref u8), (.ref a0)] (tb hw 96 rfl) (tb hw 97 rfl) (tb hw 5 rfl) (tb hw 98 rfl) (rCbo1 l Z aa hw [] G3 _ rG3 qj) d12_14 (pc' := 17) rfl (by decide) (by decide) (by decide) rfl rfl rfl (lenOf pd_10 rfl) (Nat.le_refl _) (by decide) (by decide) ?_
 intro v T L X q
 obtain ⟨rfl, X⟩ := pureX X q
 show Go p e below _ (T.setTop (mkF m 17 _ [(.int (1 : Int32)), (.ref a2), (.ref u8), (.ref a0)]))
 refine g_iloadN X d12_17 (pc' := 18) rfl rfl ?_
 refine g_specialSW X hS hk (elw hw) HR.1 (ssS ⟨qa.lt, S_a0⟩ ss0) (W := 0) (a := a0) [(.ref u8), (.ref a2), (.int (1 : Int32)), (.int (2 : Int32))] [] rfl (tb hw 104 rfl) (tb hw 105 rfl) (tb hw 5 rfl) (tb hw 106 rfl) (rSu1 l Z aa hw [] a0 u8 a2 b0 b1 b2 G1 _ n0 Z0 qa qb qc qd qe qf qg P5 qh nb0 nb1 nb2 hfit) d12_18 (pc' := 21) rfl (by decide) (by decide) (by decide) rfl rfl rfl (lenOf pd_11 rfl) (Nat.le_refl _) (by decide) (by decide) ?_
 intro v T L X q k1 hS hk HRn
 obtain ⟨qk, rfl, Nq, Kq, ql, qm, qn, qo⟩ := q
 replace N := N.app Nq
 replace HR := HR.trans HRn
 replace Z0 := Nat.le_trans Z0 Kq.1
 replace Kp := Kp.trans Kq (allS (Or.inl (List.mem_of_getElem? (i := 0) rfl)) all0)
 replace qa := ql
 replace qc := qm
 replace qb := qn
 show Go p e below _ (T.setTop (mkF m 21 _ []))
 refine g_returnH X hS hk (elw hw) HR d12_21 hret hlk (by decide) (by decide) ?_
 exact ⟨qk, rfl, N, Kp, qa, qc, qb, qo⟩
theorem ef_rSv3 (m : MethodId) (x0 : Addr) (x1 : Addr) (x2 : Int32) (x3 : Int32) (x4 : Addr) : entryFrame m #[(.ref x0), (.ref x1), (.int x2), (.int x3), (.ref x4)] 5 = mkF m 0 #[.val (.ref x0), .val (.ref x1), .val (.int x2), .val (.int x3), .val (.ref x4)] [] := by first | (simp [entryFrame, mkF, argsToLocals, Value.category]; done) | rfl
set_option maxRecDepth 65536 in
set_option maxHeartbeats 40000000 in
theorem rSv3 (l : Launch) (Z : State) (aa : Array Value) (hw : ∀ d ∈ tables_1, d.before aa Z = true) (ws : List Jvm.Cond) (a0 : Addr) (a2 : Addr) (u8 : Addr) (b0 : Int32) (b1 : Int32) (b2 : Int32) (G1 : Int32) (G3 : Value) (h0 : Heap) (n0 : Nat) (Z0 : n0 ≤ h0.size) (qa : Exa Z h0 a0 "java/lang/String") (qb : Fld Z h0 a0 "java/lang/String" "value" "[B" .null) (qc : Fld Z h0 a0 "java/lang/String" "coder" "B" (.int (0 : Int32))) (qd : Av Z h0 a2 .byte [(.int b0), (.int b1), (.int b2)]) (qe : n0 ≤ a0) (qf : a2 ≠ a0) (qg : Sta Z h0 "java/lang/String" "COMPACT_STRINGS" "Z" (.int G1)) (P5 : ¬ G1 = (0 : Int32)) (qh : Sta Z h0 "sun/nio/cs/UTF_8" "INSTANCE" "Lsun/nio/cs/UTF_8;" (.ref u8)) (qi : Exa Z h0 u8 "sun/nio/cs/UTF_8") (qj : Sta Z h0 "jdk/internal/util/Preconditions" "SIOOBE_FORMATTER" "Ljava/util/function/BiFunction;" G3) (rG3 : G3.isRef = true) (nb0 : ¬ b0 < (0 : Int32)) (nb1 : ¬ b1 < (0 : Int32)) (nb2 : ¬ b2 < (0 : Int32)) (hfit : ∀ v ∈ ([(.int b0), (.int b1), (.int b2)] : List Value), fits .byte v = true) :
    RmS l Z consts_1 [a0] (Jvm.Cond.code (⟨"java/lang/String", "<init>", "([BIILjava/nio/charset/Charset;)V"⟩ : MethodName) jdk_42_method_10_code 5 none) (⟨"java/lang/String", "<init>", "([BIILjava/nio/charset/Charset;)V"⟩ : MethodName) ({ frames := 2, cells := 4, slots := 8, locals := 34 } : Room) #[(.ref a0), (.ref a2), (.int (3 : Int32)), (.int (0 : Int32)), (.ref u8)] h0 (fun v h L => ∃ q : Addr, v = none ∧ Fr n0 L ∧ Keep h0 h [a0] ∧ StrB Z h a0 q []) := by
 refine RmS.of (plainFor_of_name pn_1) ?_
 intro p e s m below meth cc T X hS hk HR hSS hnm hret hlk
 have S_a0 : Safe Z consts_1 s.vm h0 a0 := hSS _ (List.mem_of_getElem? (i := 0) rfl)
 refine Go.at_ (ef_rSv3 m a0 a2 (3 : Int32) (0 : Int32) u8) ?_
 have N := Fr.nil n0
 have Kp := Keep.refl h0 [a0]
 refine g_aloadN X d12_0 (pc' := 1) rfl rfl rfl ?_
 refine g_aload X d12_1 (pc' := 3) rfl rfl rfl ?_
 refine g_static X (W := 1) [(.ref u8)] [(.ref a0)] (tb hw 90 rfl) (tb hw 91 rfl) (tb hw 92 rfl) (tb hw 93 rfl) (rRnn l Z aa hw [] u8 _) d12_3 (pc' := 6) rfl (by decide) (by decide) (by decide) rfl rfl rfl (lenOf pd_9 rfl) (Nat.le_refl _) (by decide) (by decide) ?_
 intro v T L X q
 obtain ⟨rfl, X⟩ := pureX X q
 show Go p e below _ (T.setTop (mkF m 6 _ [(.ref u8), (.ref a0)]))
 refine g_checkcast X (tb hw 94 rfl) (Ins.of_exa qi (tb hw 95 rfl)) d12_6 (pc' := 9) rfl ?_
 intro T X
 refine g_aloadN X d12_9 (pc' := 10) rfl rfl rfl ?_
 refine g_iloadN X d12_10 (pc' := 11) rfl rfl ?_
 refine g_iloadN X d12_11 (pc' := 12) rfl rfl ?_
 refine g_aloadN X d12_12 (pc' := 13) rfl rfl rfl ?_
 refine g_arraylength X qd d12_13 (pc' := 14) rfl (z := (3 : Int32)) rfl ?_
 refine g_static X (W := 3) [(.int (3 : Int32)), (.int (0 : Int32)), (.int (3 : Int32))] [(.ref a2), (.ref u8), (.ref a0)] (tb hw 96 rfl) (tb hw 97 rfl) (tb hw 5 rfl) (tb hw 98 rfl) (rCbo3 l Z aa hw [] G3 _ rG3 qj) d12_14 (pc' := 17) rfl (by decide) (by decide) (by decide) rfl rfl rfl (lenOf pd_10 rfl) (Nat.le_refl _) (by decide) (by decide) ?_
 intro v T L X q
 obtain ⟨rfl, X⟩ := pureX X q
 show Go p e below _ (T.setTop (mkF m 17 _ [(.int (3 : Int32)), (.ref a2), (.ref u8), (.ref a0)]))
 refine g_iloadN X d12_17 (pc' := 18) rfl rfl ?_
 refine g_specialSW X hS hk (elw hw) HR.1 (ssS ⟨qa.lt, S_a0⟩ ss0) (W := 0) (a := a0) [(.ref u8), (.ref a2), (.int (3 : Int32)), (.int (0 : Int32))] [] rfl (tb hw 104 rfl) (tb hw 105 rfl) (tb hw 5 rfl) (tb hw 106 rfl) (rSu3 l Z aa hw [] a0 u8 a2 b0 b1 b2 G1 _ n0 Z0 qa qb qc qd qe qf qg P5 qh nb0 nb1 nb2 hfit) d12_18 (pc' := 21) rfl (by decide) (by decide) (by decide) rfl rfl rfl (lenOf pd_11 rfl) (Nat.le_refl _) (by decide) (by decide) ?_
 intro v T L X q k1 hS hk HRn
 obtain ⟨qk, rfl, Nq, Kq, ql, qm, qn, qo⟩ := q
 replace N := N.app Nq
 replace HR := HR.trans HRn
 replace Z0 := Nat.le_trans Z0 Kq.1
 replace Kp := Kp.trans Kq (allS (Or.inl (List.mem_of_getElem? (i := 0) rfl)) all0)
 replace qa := ql
 replace qc := qm
 replace qb := qn
 show Go p e below _ (T.setTop (mkF m 21 _ []))
 refine g_returnH X hS hk (elw hw) HR d12_21 hret hlk (by decide) (by decide) ?_
 exact ⟨qk, rfl, N, Kp, qa, qc, qb, qo⟩
theorem pn_6 : plainName "com/example/pathlattice/pathlattice/graph/Strings" = true := by first | (simp [plainName, overriddenIn]; done) | decide +kernel
theorem d11_0 : decode prog_28_method_7_code 0 = .ok (.new 47, 3) := by decide +kernel
theorem d11_3 : decode prog_28_method_7_code 3 = .ok (.dup, 1) := by decide +kernel
theorem d11_4 : decode prog_28_method_7_code 4 = .ok (.aload_n 0, 1) := by decide +kernel
theorem d11_5 : decode prog_28_method_7_code 5 = .ok (.getfield 23, 3) := by decide +kernel
theorem d11_8 : decode prog_28_method_7_code 8 = .ok (.aload_n 0, 1) := by decide +kernel
theorem d11_9 : decode prog_28_method_7_code 9 = .ok (.getfield 17, 3) := by decide +kernel
theorem d11_12 : decode prog_28_method_7_code 12 = .ok (.iload_n 1, 1) := by decide +kernel
theorem d11_13 : decode prog_28_method_7_code 13 = .ok (.iaload, 1) := by decide +kernel
theorem d11_14 : decode prog_28_method_7_code 14 = .ok (.aload_n 0, 1) := by decide +kernel
theorem d11_15 : decode prog_28_method_7_code 15 = .ok (.getfield 17, 3) := by decide +kernel
theorem d11_18 : decode prog_28_method_7_code 18 = .ok (.iload_n 1, 1) := by decide +kernel
theorem d11_19 : decode prog_28_method_7_code 19 = .ok (.iconst 1, 1) := by decide +kernel
theorem d11_20 : decode prog_28_method_7_code 20 = .ok (.iadd, 1) := by decide +kernel
theorem d11_21 : decode prog_28_method_7_code 21 = .ok (.iaload, 1) := by decide +kernel
theorem d11_22 : decode prog_28_method_7_code 22 = .ok (.aload_n 0, 1) := by decide +kernel
theorem d11_23 : decode prog_28_method_7_code 23 = .ok (.getfield 17, 3) := by decide +kernel
theorem d11_26 : decode prog_28_method_7_code 26 = .ok (.iload_n 1, 1) := by decide +kernel
theorem d11_27 : decode prog_28_method_7_code 27 = .ok (.iaload, 1) := by decide +kernel
theorem d11_28 : decode prog_28_method_7_code 28 = .ok (.isub, 1) := by decide +kernel
theorem d11_29 : decode prog_28_method_7_code 29 = .ok (.getstatic 78, 3) := by decide +kernel
theorem d11_32 : decode prog_28_method_7_code 32 = .ok (.invokespecial 119, 3) := by decide +kernel
theorem pd_12 : parseMethodDescriptor "([BIILjava/nio/charset/Charset;)V" = some ⟨[(.array .byte), .int, .int, (.object "java/nio/charset/Charset")], none⟩ := by decide +kernel
theorem d11_35 : decode prog_28_method_7_code 35 = .ok (.areturn, 1) := by decide +kernel
theorem ef_rGet0 (m : MethodId) (x0 : Addr) (x1 : Int32) : entryFrame m #[(.ref x0), (.int x1)] 2 = mkF m 0 #[.val (.ref x0), .val (.int x1)] [] := by first | (simp [entryFrame, mkF, argsToLocals, Value.category]; done) | rfl
set_option maxRecDepth 65536 in
set_option maxHeartbeats 40000000 in
theorem rGet0 (l : Launch) (Z : State) (aa : Array Value) (hw : ∀ d ∈ tables_1, d.before aa Z = true) (ws : List Jvm.Cond) (a0 : Addr) (wo : Addr) (wb : Addr) (u8 : Addr) (b0 : Int32) (b1 : Int32) (b2 : Int32) (G1 : Int32) (G3 : Value) (h0 : Heap) (n0 : Nat) (Z0 : n0 ≤ h0.size) (qb : Fld Z h0 a0 "com/example/pathlattice/pathlattice/graph/Strings" "offsets" "[I" (.ref wo)) (qg : Fld Z h0 a0 "com/example/pathlattice/pathlattice/graph/Strings" "bytes" "[B" (.ref wb)) (qx : Exa Z h0 a0 "com/example/pathlattice/pathlattice/graph/Strings") (qc : Av Z h0 wo .int [(.int (0 : Int32)), (.int (1 : Int32)), (.int (3 : Int32)), (.int (3 : Int32))]) (qd : Av Z h0 wb .byte [(.int b0), (.int b1), (.int b2)]) (qh : Sta Z h0 "java/lang/String" "COMPACT_STRINGS" "Z" (.int G1)) (P5 : ¬ G1 = (0 : Int32)) (qi : Sta Z h0 "sun/nio/cs/UTF_8" "INSTANCE" "Lsun/nio/cs/UTF_8;" (.ref u8)) (qj : Exa Z h0 u8 "sun/nio/cs/UTF_8") (qk : Sta Z h0 "java/nio/charset/StandardCharsets" "UTF_8" "Ljava/nio/charset/Charset;" (.ref u8)) (ql : Sta Z h0 "jdk/internal/util/Preconditions" "SIOOBE_FORMATTER" "Ljava/util/function/BiFunction;" G3) (rG3 : G3.isRef = true) (nb0 : ¬ b0 < (0 : Int32)) (nb1 : ¬ b1 < (0 : Int32)) (nb2 : ¬ b2 < (0 : Int32)) (hfit : ∀ v ∈ ([(.int b0), (.int b1), (.int b2)] : List Value), fits .byte v = true) :
    RmS l Z consts_1 [] (Jvm.Cond.code (⟨"com/example/pathlattice/pathlattice/graph/Strings", "get", "(I)Ljava/lang/String;"⟩ : MethodName) prog_28_method_7_code 2 (some (.object "java/lang/String"))) (⟨"com/example/pathlattice/pathlattice/graph/Strings", "get", "(I)Ljava/lang/String;"⟩ : MethodName) ({ frames := 5, cells := 2, slots := 5, locals := 88 } : Room) #[(.ref a0), (.int (0 : Int32))] h0 (fun v h L => ∃ x q : Addr, v = some (.ref x) ∧ Fr n0 L ∧ Keep h0 h [] ∧ h0.size ≤ x ∧ n0 ≤ x ∧ StrB Z h x q [(.int b0)]) := by
 refine RmS.of (plainFor_of_name pn_6) ?_
 intro p e s m below meth cc T X hS hk HR hSS hnm hret hlk
 refine Go.at_ (ef_rGet0 m a0 (0 : Int32)) ?_
 have N := Fr.nil n0
 have Kp := Keep.refl h0 []
 refine g_new X (tb hw 84 rfl) (tb hw 4 rfl) (tb hw 5 rfl) d11_0 (pc' := 3) rfl (by decide) (by decide) ?_
 intro T h qa qe X Ex qf qo
 have qr : wb ≠ qa := Nat.ne_of_lt (by rw [qe]; exact qd.lt)
 have qp : n0 ≤ qa := by rw [qe]; exact Z0
 have qq : h0.size ≤ qa := by rw [qe]; exact Kp.1
 replace qb := qb.ext Ex
 replace qg := qg.ext Ex
 replace qc := qc.ext Ex
 replace qd := qd.ext Ex
 replace qj := qj.ext Ex
 replace qh := qh.ext Ex
 replace qi := qi.ext Ex
 replace qk := qk.ext Ex
 replace ql := ql.ext Ex
 replace Z0 := Nat.le_trans Z0 Ex.1
 replace Kp := Kp.ext Ex
 have S_b0_1 := Safe.ext Ex HR.1 (Safe.new (Nat.le_of_eq qe.symm))
 replace HR := HR.trans (CHr.ext Ex HR.1)
 replace hk := Nat.le_trans hk Ex.1
 have qm : Fld Z h qa "java/lang/String" "coder" "B" (.int (0 : Int32)) := qo (Or.inr (tb hw 29 rfl)) (ty := .byte) (by decide)
 have qn : Fld Z h qa "java/lang/String" "value" "[B" .null := qo (Or.inr (tb hw 31 rfl)) (ty := (.array .byte)) (by decide)
 refine g_dup X d11_3 (pc' := 4) rfl rfl ?_
 refine g_aloadN X d11_4 (pc' := 5) rfl rfl rfl ?_
 refine g_getfield X (host := "") (Or.inl (tb hw 49 rfl)) Via.refl qg d11_5 (pc' := 8) rfl ?_
 intro T X
 refine g_aloadN X d11_8 (pc' := 9) rfl rfl rfl ?_
 refine g_getfield X (host := "") (Or.inl (tb hw 47 rfl)) Via.refl qb d11_9 (pc' := 12) rfl ?_
 intro T X
 refine g_iloadN X d11_12 (pc' := 13) rfl rfl ?_
 refine g_iaload X qc 0 d11_13 (pc' := 14) rfl (by decide) (by decide) rfl ?_
 refine g_aloadN X d11_14 (pc' := 15) rfl rfl rfl ?_
 refine g_getfield X (host := "") (Or.inl (tb hw 47 rfl)) Via.refl qb d11_15 (pc' := 18) rfl ?_
 intro T X
 refine g_iloadN X d11_18 (pc' := 19) rfl rfl ?_
 refine g_iconst X (1 : Int32) d11_19 (pc' := 20) rfl rfl ?_
 refine g_iadd X d11_20 (pc' := 21) rfl ?_
 refine Go.lit32 (z := (1 : Int32)) (by decide) ?_
 refine g_iaload X qc 1 d11_21 (pc' := 22) rfl (by decide) (by decide) rfl ?_
 refine g_aloadN X d11_22 (pc' := 23) rfl rfl rfl ?_
 refine g_getfield X (host := "") (Or.inl (tb hw 47 rfl)) Via.refl qb d11_23 (pc' := 26) rfl ?_
 intro T X
 refine g_iloadN X d11_26 (pc' := 27) rfl rfl ?_
 refine g_iaload X qc 0 d11_27 (pc' := 28) rfl (by decide) (by decide) rfl ?_
 refine g_isub X d11_28 (pc' := 29) rfl ?_
 refine Go.lit32 (z := (1 : Int32)) (by decide) ?_
 refine g_getstatic X (host := "") (Or.inl (tb hw 85 rfl)) Via.refl qk d11_29 (pc' := 32) rfl ?_
 intro T X
 refine g_specialS X hS hk (elw hw) HR.1 (ssS ⟨qf.lt, S_b0_1⟩ ss0) (W := 1) (a := qa) [(.ref wb), (.int (0 : Int32)), (.int (1 : Int32)), (.ref u8)] [(.ref qa)] rfl (tb hw 87 rfl) (tb hw 88 rfl) (tb hw 5 rfl) (tb hw 89 rfl) (rSv0 l Z aa hw [] qa wb u8 b0 b1 b2 G1 G3 _ n0 Z0 qf qn qm qd qp qr qh P5 qi qj ql rG3 nb0 nb1 nb2 hfit) d11_32 (pc' := 35) rfl (by decide) (by decide) (by decide) rfl rfl rfl (lenOf pd_12 rfl) (Nat.le_refl _) (by decide) (by decide) ?_
 intro v T L X q k1 hS hk HRn
 obtain ⟨qs, rfl, Nq, Kq, qt, qu, qv, qw⟩ := q
 replace N := N.app Nq
 replace HR := HR.trans HRn
 replace Z0 := Nat.le_trans Z0 Kq.1
 replace Kp := Kp.trans Kq (allS (Or.inr qq) all0)
 replace qf := qt
 replace qm := qu
 replace qn := qv
 show Go p e below _ (T.setTop (mkF m 35 _ [(.ref qa)]))
 refine g_areturnH X hS hk (elw hw) HR rfl rfl d11_35 hret hlk (by decide) (by decide) ?_
 exact ⟨qa, qs, rfl, N, Kp, qq, qp, qf, qm, qn, qw⟩
theorem ef_rGet1 (m : MethodId) (x0 : Addr) (x1 : Int32) : entryFrame m #[(.ref x0), (.int x1)] 2 = mkF m 0 #[.val (.ref x0), .val (.int x1)] [] := by first | (simp [entryFrame, mkF, argsToLocals, Value.category]; done) | rfl
set_option maxRecDepth 65536 in
set_option maxHeartbeats 40000000 in
theorem rGet1 (l : Launch) (Z : State) (aa : Array Value) (hw : ∀ d ∈ tables_1, d.before aa Z = true) (ws : List Jvm.Cond) (a0 : Addr) (wo : Addr) (wb : Addr) (u8 : Addr) (b0 : Int32) (b1 : Int32) (b2 : Int32) (G1 : Int32) (G3 : Value) (h0 : Heap) (n0 : Nat) (Z0 : n0 ≤ h0.size) (qb : Fld Z h0 a0 "com/example/pathlattice/pathlattice/graph/Strings" "offsets" "[I" (.ref wo)) (qg : Fld Z h0 a0 "com/example/pathlattice/pathlattice/graph/Strings" "bytes" "[B" (.ref wb)) (qx : Exa Z h0 a0 "com/example/pathlattice/pathlattice/graph/Strings") (qc : Av Z h0 wo .int [(.int (0 : Int32)), (.int (1 : Int32)), (.int (3 : Int32)), (.int (3 : Int32))]) (qd : Av Z h0 wb .byte [(.int b0), (.int b1), (.int b2)]) (qh : Sta Z h0 "java/lang/String" "COMPACT_STRINGS" "Z" (.int G1)) (P5 : ¬ G1 = (0 : Int32)) (qi : Sta Z h0 "sun/nio/cs/UTF_8" "INSTANCE" "Lsun/nio/cs/UTF_8;" (.ref u8)) (qj : Exa Z h0 u8 "sun/nio/cs/UTF_8") (qk : Sta Z h0 "java/nio/charset/StandardCharsets" "UTF_8" "Ljava/nio/charset/Charset;" (.ref u8)) (ql : Sta Z h0 "jdk/internal/util/Preconditions" "SIOOBE_FORMATTER" "Ljava/util/function/BiFunction;" G3) (rG3 : G3.isRef = true) (nb0 : ¬ b0 < (0 : Int32)) (nb1 : ¬ b1 < (0 : Int32)) (nb2 : ¬ b2 < (0 : Int32)) (hfit : ∀ v ∈ ([(.int b0), (.int b1), (.int b2)] : List Value), fits .byte v = true) :
    RmS l Z consts_1 [] (Jvm.Cond.code (⟨"com/example/pathlattice/pathlattice/graph/Strings", "get", "(I)Ljava/lang/String;"⟩ : MethodName) prog_28_method_7_code 2 (some (.object "java/lang/String"))) (⟨"com/example/pathlattice/pathlattice/graph/Strings", "get", "(I)Ljava/lang/String;"⟩ : MethodName) ({ frames := 5, cells := 2, slots := 6, locals := 88 } : Room) #[(.ref a0), (.int (1 : Int32))] h0 (fun v h L => ∃ x q : Addr, v = some (.ref x) ∧ Fr n0 L ∧ Keep h0 h [] ∧ h0.size ≤ x ∧ n0 ≤ x ∧ StrB Z h x q [(.int b1), (.int b2)]) := by
 refine RmS.of (plainFor_of_name pn_6) ?_
 intro p e s m below meth cc T X hS hk HR hSS hnm hret hlk
 refine Go.at_ (ef_rGet1 m a0 (1 : Int32)) ?_
 have N := Fr.nil n0
 have Kp := Keep.refl h0 []
 refine g_new X (tb hw 84 rfl) (tb hw 4 rfl) (tb hw 5 rfl) d11_0 (pc' := 3) rfl (by decide) (by decide) ?_
 intro T h qa qe X Ex qf qo
 have qr : wb ≠ qa := Nat.ne_of_lt (by rw [qe]; exact qd.lt)
 have qp : n0 ≤ qa := by rw [qe]; exact Z0
 have qq : h0.size ≤ qa := by rw [qe]; exact Kp.1
 replace qb := qb.ext Ex
 replace qg := qg.ext Ex
 replace qc := qc.ext Ex
 replace qd := qd.ext Ex
 replace qj := qj.ext Ex
 replace qh := qh.ext Ex
 replace qi := qi.ext Ex
 replace qk := qk.ext Ex
 replace ql := ql.ext Ex
 replace Z0 := Nat.le_trans Z0 Ex.1
 replace Kp := Kp.ext Ex
 have S_b0_1 := Safe.ext Ex HR.1 (Safe.new (Nat.le_of_eq qe.symm))
 replace HR := HR.trans (CHr.ext Ex HR.1)
 replace hk := Nat.le_trans hk Ex.1
 have qm : Fld Z h qa "java/lang/String" "coder" "B" (.int (0 : Int32)) := qo (Or.inr (tb hw 29 rfl)) (ty := .byte) (by decide)
 have qn : Fld Z h qa "java/lang/String" "value" "[B" .null := qo (Or.inr (tb hw 31 rfl)) (ty := (.array .byte)) (by decide)
 refine g_dup X d11_3 (pc' := 4) rfl rfl ?_
 refine g_aloadN X d11_4 (pc' := 5) rfl rfl rfl ?_
 refine g_getfield X (host := "") (Or.inl (tb hw 49 rfl)) Via.refl qg d11_5 (pc' := 8) rfl ?_
 intro T X
 refine g_aloadN X d11_8 (pc' := 9) rfl rfl rfl ?_
 refine g_getfield X (host := "") (Or.inl (tb hw 47 rfl)) Via.refl qb d11_9 (pc' := 12) rfl ?_
 intro T X
 refine g_iloadN X d11_12 (pc' := 13) rfl rfl ?_
 refine g_iaload X qc 1 d11_13 (pc' := 14) rfl (by decide) (by decide) rfl ?_
 refine g_aloadN X d11_14 (pc' := 15) rfl rfl rfl ?_
 refine g_getfield X (host := "") (Or.inl (tb hw 47 rfl)) Via.refl qb d11_15 (pc' := 18) rfl ?_
 intro T X
 refine g_iloadN X d11_18 (pc' := 19) rfl rfl ?_
 refine g_iconst X (1 : Int32) d11_19 (pc' := 20) rfl rfl ?_
 refine g_iadd X d11_20 (pc' := 21) rfl ?_
 refine Go.lit32 (z := (2 : Int32)) (by decide) ?_
 refine g_iaload X qc 2 d11_21 (pc' := 22) rfl (by decide) (by decide) rfl ?_
 refine g_aloadN X d11_22 (pc' := 23) rfl rfl rfl ?_
 refine g_getfield X (host := "") (Or.inl (tb hw 47 rfl)) Via.refl qb d11_23 (pc' := 26) rfl ?_
 intro T X
 refine g_iloadN X d11_26 (pc' := 27) rfl rfl ?_
 refine g_iaload X qc 1 d11_27 (pc' := 28) rfl (by decide) (by decide) rfl ?_
 refine g_isub X d11_28 (pc' := 29) rfl ?_
 refine Go.lit32 (z := (2 : Int32)) (by decide) ?_
 refine g_getstatic X (host := "") (Or.inl (tb hw 85 rfl)) Via.refl qk d11_29 (pc' := 32) rfl ?_
 intro T X
 refine g_specialS X hS hk (elw hw) HR.1 (ssS ⟨qf.lt, S_b0_1⟩ ss0) (W := 1) (a := qa) [(.ref wb), (.int (1 : Int32)), (.int (2 : Int32)), (.ref u8)] [(.ref qa)] rfl (tb hw 87 rfl) (tb hw 88 rfl) (tb hw 5 rfl) (tb hw 89 rfl) (rSv1 l Z aa hw [] qa wb u8 b0 b1 b2 G1 G3 _ n0 Z0 qf qn qm qd qp qr qh P5 qi qj ql rG3 nb0 nb1 nb2 hfit) d11_32 (pc' := 35) rfl (by decide) (by decide) (by decide) rfl rfl rfl (lenOf pd_12 rfl) (Nat.le_refl _) (by decide) (by decide) ?_
 intro v T L X q k1 hS hk HRn
 obtain ⟨qs, rfl, Nq, Kq, qt, qu, qv, qw⟩ := q
 replace N := N.app Nq
 replace HR := HR.trans HRn
 replace Z0 := Nat.le_trans Z0 Kq.1
 replace Kp := Kp.trans Kq (allS (Or.inr qq) all0)
 replace qf := qt
 replace qm := qu
 replace qn := qv
 show Go p e below _ (T.setTop (mkF m 35 _ [(.ref qa)]))
 refine g_areturnH X hS hk (elw hw) HR rfl rfl d11_35 hret hlk (by decide) (by decide) ?_
 exact ⟨qa, qs, rfl, N, Kp, qq, qp, qf, qm, qn, qw⟩
theorem ef_rGet2 (m : MethodId) (x0 : Addr) (x1 : Int32) : entryFrame m #[(.ref x0), (.int x1)] 2 = mkF m 0 #[.val (.ref x0), .val (.int x1)] [] := by first | (simp [entryFrame, mkF, argsToLocals, Value.category]; done) | rfl
set_option maxRecDepth 65536 in
set_option maxHeartbeats 40000000 in
theorem rGet2 (l : Launch) (Z : State) (aa : Array Value) (hw : ∀ d ∈ tables_1, d.before aa Z = true) (ws : List Jvm.Cond) (a0 : Addr) (wo : Addr) (wb : Addr) (u8 : Addr) (b0 : Int32) (b1 : Int32) (b2 : Int32) (G1 : Int32) (G3 : Value) (h0 : Heap) (n0 : Nat) (Z0 : n0 ≤ h0.size) (qb : Fld Z h0 a0 "com/example/pathlattice/pathlattice/graph/Strings" "offsets" "[I" (.ref wo)) (qg : Fld Z h0 a0 "com/example/pathlattice/pathlattice/graph/Strings" "bytes" "[B" (.ref wb)) (qx : Exa Z h0 a0 "com/example/pathlattice/pathlattice/graph/Strings") (qc : Av Z h0 wo .int [(.int (0 : Int32)), (.int (1 : Int32)), (.int (3 : Int32)), (.int (3 : Int32))]) (qd : Av Z h0 wb .byte [(.int b0), (.int b1), (.int b2)]) (qh : Sta Z h0 "java/lang/String" "COMPACT_STRINGS" "Z" (.int G1)) (P5 : ¬ G1 = (0 : Int32)) (qi : Sta Z h0 "sun/nio/cs/UTF_8" "INSTANCE" "Lsun/nio/cs/UTF_8;" (.ref u8)) (qj : Exa Z h0 u8 "sun/nio/cs/UTF_8") (qk : Sta Z h0 "java/nio/charset/StandardCharsets" "UTF_8" "Ljava/nio/charset/Charset;" (.ref u8)) (ql : Sta Z h0 "jdk/internal/util/Preconditions" "SIOOBE_FORMATTER" "Ljava/util/function/BiFunction;" G3) (rG3 : G3.isRef = true) (nb0 : ¬ b0 < (0 : Int32)) (nb1 : ¬ b1 < (0 : Int32)) (nb2 : ¬ b2 < (0 : Int32)) (hfit : ∀ v ∈ ([(.int b0), (.int b1), (.int b2)] : List Value), fits .byte v = true) :
    RmS l Z consts_1 [] (Jvm.Cond.code (⟨"com/example/pathlattice/pathlattice/graph/Strings", "get", "(I)Ljava/lang/String;"⟩ : MethodName) prog_28_method_7_code 2 (some (.object "java/lang/String"))) (⟨"com/example/pathlattice/pathlattice/graph/Strings", "get", "(I)Ljava/lang/String;"⟩ : MethodName) ({ frames := 3, cells := 5, slots := 12, locals := 51 } : Room) #[(.ref a0), (.int (2 : Int32))] h0 (fun v h L => ∃ x q : Addr, v = some (.ref x) ∧ Fr n0 L ∧ Keep h0 h [] ∧ h0.size ≤ x ∧ n0 ≤ x ∧ StrB Z h x q []) := by
 refine RmS.of (plainFor_of_name pn_6) ?_
 intro p e s m below meth cc T X hS hk HR hSS hnm hret hlk
 refine Go.at_ (ef_rGet2 m a0 (2 : Int32)) ?_
 have N := Fr.nil n0
 have Kp := Keep.refl h0 []
 refine g_new X (tb hw 84 rfl) (tb hw 4 rfl) (tb hw 5 rfl) d11_0 (pc' := 3) rfl (by decide) (by decide) ?_
 intro T h qa qe X Ex qf qo
 have qr : wb ≠ qa := Nat.ne_of_lt (by rw [qe]; exact qd.lt)
 have qp : n0 ≤ qa := by rw [qe]; exact Z0
 have qq : h0.size ≤ qa := by rw [qe]; exact Kp.1
 replace qb := qb.ext Ex
 replace qg := qg.ext Ex
 replace qc := qc.ext Ex
 replace qd := qd.ext Ex
 replace qj := qj.ext Ex
 replace qh := qh.ext Ex
 replace qi := qi.ext Ex
 replace qk := qk.ext Ex
 replace ql := ql.ext Ex
 replace Z0 := Nat.le_trans Z0 Ex.1
 replace Kp := Kp.ext Ex
 have S_b0_1 := Safe.ext Ex HR.1 (Safe.new (Nat.le_of_eq qe.symm))
 replace HR := HR.trans (CHr.ext Ex HR.1)
 replace hk := Nat.le_trans hk Ex.1
 have qm : Fld Z h qa "java/lang/String" "coder" "B" (.int (0 : Int32)) := qo (Or.inr (tb hw 29 rfl)) (ty := .byte) (by decide)
 have qn : Fld Z h qa "java/lang/String" "value" "[B" .null := qo (Or.inr (tb hw 31 rfl)) (ty := (.array .byte)) (by decide)
 refine g_dup X d11_3 (pc' := 4) rfl rfl ?_
 refine g_aloadN X d11_4 (pc' := 5) rfl rfl rfl ?_
 refine g_getfield X (host := "") (Or.inl (tb hw 49 rfl)) Via.refl qg d11_5 (pc' := 8) rfl ?_
 intro T X
 refine g_aloadN X d11_8 (pc' := 9) rfl rfl rfl ?_
 refine g_getfield X (host := "") (Or.inl (tb hw 47 rfl)) Via.refl qb d11_9 (pc' := 12) rfl ?_
 intro T X
 refine g_iloadN X d11_12 (pc' := 13) rfl rfl ?_
 refine g_iaload X qc 2 d11_13 (pc' := 14) rfl (by decide) (by decide) rfl ?_
 refine g_aloadN X d11_14 (pc' := 15) rfl rfl rfl ?_
 refine g_getfield X (host := "") (Or.inl (tb hw 47 rfl)) Via.refl qb d11_15 (pc' := 18) rfl ?_
 intro T X
 refine g_iloadN X d11_18 (pc' := 19) rfl rfl ?_
 refine g_iconst X (1 : Int32) d11_19 (pc' := 20) rfl rfl ?_
 refine g_iadd X d11_20 (pc' := 21) rfl ?_
 refine Go.lit32 (z := (3 : Int32)) (by decide) ?_
 refine g_iaload X qc 3 d11_21 (pc' := 22) rfl (by decide) (by decide) rfl ?_
 refine g_aloadN X d11_22 (pc' := 23) rfl rfl rfl ?_
 refine g_getfield X (host := "") (Or.inl (tb hw 47 rfl)) Via.refl qb d11_23 (pc' := 26) rfl ?_
 intro T X
 refine g_iloadN X d11_26 (pc' := 27) rfl rfl ?_
 refine g_iaload X qc 2 d11_27 (pc' := 28) rfl (by decide) (by decide) rfl ?_
 refine g_isub X d11_28 (pc' := 29) rfl ?_
 refine Go.lit32 (z := (0 : Int32)) (by decide) ?_
 refine g_getstatic X (host := "") (Or.inl (tb hw 85 rfl)) Via.refl qk d11_29 (pc' := 32) rfl ?_
 intro T X
 refine g_specialS X hS hk (elw hw) HR.1 (ssS ⟨qf.lt, S_b0_1⟩ ss0) (W := 1) (a := qa) [(.ref wb), (.int (3 : Int32)), (.int (0 : Int32)), (.ref u8)] [(.ref qa)] rfl (tb hw 87 rfl) (tb hw 88 rfl) (tb hw 5 rfl) (tb hw 89 rfl) (rSv3 l Z aa hw [] qa wb u8 b0 b1 b2 G1 G3 _ n0 Z0 qf qn qm qd qp qr qh P5 qi qj ql rG3 nb0 nb1 nb2 hfit) d11_32 (pc' := 35) rfl (by decide) (by decide) (by decide) rfl rfl rfl (lenOf pd_12 rfl) (Nat.le_refl _) (by decide) (by decide) ?_
 intro v T L X q k1 hS hk HRn
 obtain ⟨qs, rfl, Nq, Kq, qt, qu, qv, qw⟩ := q
 replace N := N.app Nq
 replace HR := HR.trans HRn
 replace Z0 := Nat.le_trans Z0 Kq.1
 replace Kp := Kp.trans Kq (allS (Or.inr qq) all0)
 replace qf := qt
 replace qm := qu
 replace qn := qv
 show Go p e below _ (T.setTop (mkF m 35 _ [(.ref qa)]))
 refine g_areturnH X hS hk (elw hw) HR rfl rfl d11_35 hret hlk (by decide) (by decide) ?_
 exact ⟨qa, qs, rfl, N, Kp, qq, qp, qf, qm, qn, qw⟩
theorem pn_7 : plainName "com/example/pathlattice/pathlattice/graph/Graph" = true := by first | (simp [plainName, overriddenIn]; done) | decide +kernel
theorem d8_0 : decode prog_20_method_3_code 0 = .ok (.iload_n 0, 1) := by decide +kernel
theorem d8_1 : decode prog_20_method_3_code 1 = .ok (.ifCond .ne 17, 3) := by decide +kernel
theorem d8_18 : decode prog_20_method_3_code 18 = .ok (.return_, 1) := by decide +kernel
theorem ef_rReq (m : MethodId) (x0 : Int32) (x1 : Addr) : entryFrame m #[(.int x0), (.ref x1)] 2 = mkF m 0 #[.val (.int x0), .val (.ref x1)] [] := by first | (simp [entryFrame, mkF, argsToLocals, Value.category]; done) | rfl
set_option maxRecDepth 65536 in
set_option maxHeartbeats 40000000 in
theorem rReq (l : Launch) (Z : State) (aa : Array Value) (hw : ∀ d ∈ tables_1, d.before aa Z = true) (ws : List Jvm.Cond) (a1 : Addr) (h0 : Heap) :
    Rm l Z (⟨"com/example/pathlattice/pathlattice/graph/Graph", "require", "(ZLjava/lang/String;)V"⟩ : MethodName) prog_20_method_3_code 2 none ws ({ frames := 0, cells := 0, slots := 0, locals := 0 } : Room) #[(.int (1 : Int32)), (.ref a1)] h0 (PuV h0) := by
 refine Rm.of (plainFor_of_name pn_7) ?_
 intro p e s m below meth cc T X hnm hret hlk
 refine Go.at_ (ef_rReq m (1 : Int32) a1) ?_
 refine g_iloadN X d8_0 (pc' := 1) rfl rfl ?_
 refine g_ifY X d8_1 ((if0 _ _).trans (feq (show ¬ ((1 : Int32) = (0 : Int32)) from (by decide))).2) (pc' := 18) (by decide) (by decide) ?_
 refine g_return X d8_18 hret hlk (by decide) (by decide) ?_
 exact ⟨rfl, rfl, rfl⟩
theorem d7_0 : decode prog_28_method_1_code 0 = .ok (.aload_n 0, 1) := by decide +kernel
theorem d7_1 : decode prog_28_method_1_code 1 = .ok (.invokespecial 1, 3) := by decide +kernel
theorem d7_4 : decode prog_28_method_1_code 4 = .ok (.aload_n 1, 1) := by decide +kernel
theorem d7_5 : decode prog_28_method_1_code 5 = .ok (.arraylength, 1) := by decide +kernel
theorem d7_6 : decode prog_28_method_1_code 6 = .ok (.ifCond .le 24, 3) := by decide +kernel
theorem d7_9 : decode prog_28_method_1_code 9 = .ok (.aload_n 1, 1) := by decide +kernel
theorem d7_10 : decode prog_28_method_1_code 10 = .ok (.iconst 0, 1) := by decide +kernel
theorem d7_11 : decode prog_28_method_1_code 11 = .ok (.iaload, 1) := by decide +kernel
theorem d7_12 : decode prog_28_method_1_code 12 = .ok (.ifCond .ne 18, 3) := by decide +kernel
theorem d7_15 : decode prog_28_method_1_code 15 = .ok (.aload_n 1, 1) := by decide +kernel
theorem d7_16 : decode prog_28_method_1_code 16 = .ok (.aload_n 1, 1) := by decide +kernel
theorem d7_17 : decode prog_28_method_1_code 17 = .ok (.arraylength, 1) := by decide +kernel
theorem d7_18 : decode prog_28_method_1_code 18 = .ok (.iconst 1, 1) := by decide +kernel
theorem d7_19 : decode prog_28_method_1_code 19 = .ok (.isub, 1) := by decide +kernel
theorem d7_20 : decode prog_28_method_1_code 20 = .ok (.iaload, 1) := by decide +kernel
theorem d7_21 : decode prog_28_method_1_code 21 = .ok (.aload_n 2, 1) := by decide +kernel
theorem d7_22 : decode prog_28_method_1_code 22 = .ok (.arraylength, 1) := by decide +kernel
theorem d7_23 : decode prog_28_method_1_code 23 = .ok (.if_icmp .ne 7, 3) := by decide +kernel
theorem d7_26 : decode prog_28_method_1_code 26 = .ok (.iconst 1, 1) := by decide +kernel
theorem d7_27 : decode prog_28_method_1_code 27 = .ok (.goto 4, 3) := by decide +kernel
theorem d7_31 : decode prog_28_method_1_code 31 = .ok (.ldc 7, 2) := by decide +kernel
theorem d7_33 : decode prog_28_method_1_code 33 = .ok (.invokestatic 9, 3) := by decide +kernel
theorem pd_13 : parseMethodDescriptor "(ZLjava/lang/String;)V" = some ⟨[.boolean, (.object "java/lang/String")], none⟩ := by decide +kernel
theorem d7_36 : decode prog_28_method_1_code 36 = .ok (.iconst 1, 1) := by decide +kernel
theorem d7_37 : decode prog_28_method_1_code 37 = .ok (.istore_n 3, 1) := by decide +kernel
theorem d7_38 : decode prog_28_method_1_code 38 = .ok (.iload_n 3, 1) := by decide +kernel
theorem d7_39 : decode prog_28_method_1_code 39 = .ok (.aload_n 1, 1) := by decide +kernel
theorem d7_40 : decode prog_28_method_1_code 40 = .ok (.arraylength, 1) := by decide +kernel
theorem d7_41 : decode prog_28_method_1_code 41 = .ok (.if_icmp .ge 30, 3) := by decide +kernel
theorem d7_44 : decode prog_28_method_1_code 44 = .ok (.aload_n 1, 1) := by decide +kernel
theorem d7_45 : decode prog_28_method_1_code 45 = .ok (.iload_n 3, 1) := by decide +kernel
theorem d7_46 : decode prog_28_method_1_code 46 = .ok (.iconst 1, 1) := by decide +kernel
theorem d7_47 : decode prog_28_method_1_code 47 = .ok (.isub, 1) := by decide +kernel
theorem d7_48 : decode prog_28_method_1_code 48 = .ok (.iaload, 1) := by decide +kernel
theorem d7_49 : decode prog_28_method_1_code 49 = .ok (.aload_n 1, 1) := by decide +kernel
theorem d7_50 : decode prog_28_method_1_code 50 = .ok (.iload_n 3, 1) := by decide +kernel
theorem d7_51 : decode prog_28_method_1_code 51 = .ok (.iaload, 1) := by decide +kernel
theorem d7_52 : decode prog_28_method_1_code 52 = .ok (.if_icmp .gt 7, 3) := by decide +kernel
theorem d7_55 : decode prog_28_method_1_code 55 = .ok (.iconst 1, 1) := by decide +kernel
theorem d7_56 : decode prog_28_method_1_code 56 = .ok (.goto 4, 3) := by decide +kernel
theorem d7_60 : decode prog_28_method_1_code 60 = .ok (.ldc 15, 2) := by decide +kernel
theorem d7_62 : decode prog_28_method_1_code 62 = .ok (.invokestatic 9, 3) := by decide +kernel
theorem d7_65 : decode prog_28_method_1_code 65 = .ok (.iinc 3 1, 3) := by decide +kernel
theorem d7_68 : decode prog_28_method_1_code 68 = .ok (.goto (-30), 3) := by decide +kernel
theorem d7_71 : decode prog_28_method_1_code 71 = .ok (.aload_n 0, 1) := by decide +kernel
theorem d7_72 : decode prog_28_method_1_code 72 = .ok (.aload_n 1, 1) := by decide +kernel
theorem d7_73 : decode prog_28_method_1_code 73 = .ok (.putfield 17, 3) := by decide +kernel
theorem d7_76 : decode prog_28_method_1_code 76 = .ok (.aload_n 0, 1) := by decide +kernel
theorem d7_77 : decode prog_28_method_1_code 77 = .ok (.aload_n 2, 1) := by decide +kernel
theorem d7_78 : decode prog_28_method_1_code 78 = .ok (.putfield 23, 3) := by decide +kernel
theorem d7_81 : decode prog_28_method_1_code 81 = .ok (.return_, 1) := by decide +kernel
theorem ef_rSti (m : MethodId) (x0 : Addr) (x1 : Addr) (x2 : Addr) : entryFrame m #[(.ref x0), (.ref x1), (.ref x2)] 4 = mkF m 0 #[.val (.ref x0), .val (.ref x1), .val (.ref x2), .unset] [] := by first | (simp [entryFrame, mkF, argsToLocals, Value.category]; done) | rfl
set_option maxRecDepth 65536 in
set_option maxHeartbeats 40000000 in
theorem rSti (l : Launch) (Z : State) (aa : Array Value) (hw : ∀ d ∈ tables_1, d.before aa Z = true) (ws : List Jvm.Cond) (a0 : Addr) (a1 : Addr) (a2 : Addr) (b0 : Int32) (b1 : Int32) (b2 : Int32) (h0 : Heap) (n0 : Nat) (Z0 : n0 ≤ h0.size) (qb : Exa Z h0 a0 "com/example/pathlattice/pathlattice/graph/Strings") (qc : Fld Z h0 a0 "com/example/pathlattice/pathlattice/graph/Strings" "offsets" "[I" .null) (qd : Fld Z h0 a0 "com/example/pathlattice/pathlattice/graph/Strings" "bytes" "[B" .null) (qa : Av Z h0 a1 .int [(.int (0 : Int32)), (.int (1 : Int32)), (.int (3 : Int32)), (.int (3 : Int32))]) (qj : Av Z h0 a2 .byte [(.int b0), (.int b1), (.int b2)]) (qi : n0 ≤ a0) (qk : a1 ≠ a0) (ql : a2 ≠ a0) :
    RmS l Z consts_1 [] (Jvm.Cond.code (⟨"com/example/pathlattice/pathlattice/graph/Strings", "<init>", "([I[B)V"⟩ : MethodName) prog_28_method_1_code 4 none) (⟨"com/example/pathlattice/pathlattice/graph/Strings", "<init>", "([I[B)V"⟩ : MethodName) ({ frames := 1, cells := 8, slots := 488, locals := 13 } : Room) #[(.ref a0), (.ref a1), (.ref a2)] h0 (fun v h L => v = none ∧ Fr n0 L ∧ Keep h0 h [a0] ∧ Exa Z h a0 "com/example/pathlattice/pathlattice/graph/Strings" ∧ Fld Z h a0 "com/example/pathlattice/pathlattice/graph/Strings" "offsets" "[I" (.ref a1) ∧ Fld Z h a0 "com/example/pathlattice/pathlattice/graph/Strings" "bytes" "[B" (.ref a2)) := by
 refine RmS.of (plainFor_of_name pn_6) ?_
 intro p e s m below meth cc T X hS hk HR hSS hnm hret hlk
 refine Go.at_ (ef_rSti m a0 a1 a2) ?_
 have N := Fr.nil n0
 have Kp := Keep.refl h0 [a0]
 refine g_aloadN X d7_0 (pc' := 1) rfl rfl rfl ?_
 refine g_initO X (W := 0) (tb hw 38 rfl) (tb hw 15 rfl) (tb hw 16 rfl) d7_1 (pc' := 4) rfl rfl (by decide) (Nat.le_refl _) (by decide) ?_
 intro T X
 refine g_aloadN X d7_4 (pc' := 5) rfl rfl rfl ?_
 refine g_arraylength X qa d7_5 (pc' := 6) rfl (z := (4 : Int32)) rfl ?_
 refine g_ifN X d7_6 ((if0 _ _).trans (tlt (show (0 : Int32) < (4 : Int32) from (by decide))).2.2.2) (pc' := 9) rfl ?_
 refine g_aloadN X d7_9 (pc' := 10) rfl rfl rfl ?_
 refine g_iconst X (0 : Int32) d7_10 (pc' := 11) rfl rfl ?_
 refine g_iaload X qa 0 d7_11 (pc' := 12) rfl (by decide) (by decide) rfl ?_
 refine g_ifN X d7_12 ((if0 _ _).trans (teq (show (0 : Int32) = (0 : Int32) from (by decide))).2) (pc' := 15) rfl ?_
 refine g_aloadN X d7_15 (pc' := 16) rfl rfl rfl ?_
 refine g_aloadN X d7_16 (pc' := 17) rfl rfl rfl ?_
 refine g_arraylength X qa d7_17 (pc' := 18) rfl (z := (4 : Int32)) rfl ?_
 refine g_iconst X (1 : Int32) d7_18 (pc' := 19) rfl rfl ?_
 refine g_isub X d7_19 (pc' := 20) rfl ?_
 refine Go.lit32 (z := (3 : Int32)) (by decide) ?_
 refine g_iaload X qa 3 d7_20 (pc' := 21) rfl (by decide) (by decide) rfl ?_
 refine g_aloadN X d7_21 (pc' := 22) rfl rfl rfl ?_
 refine g_arraylength X qj d7_22 (pc' := 23) rfl (z := (3 : Int32)) rfl ?_
 refine g_icN X d7_23 (teq (show (3 : Int32) = (3 : Int32) from (by decide))).2 (pc' := 26) rfl ?_
 refine g_iconst X (1 : Int32) d7_26 (pc' := 27) rfl rfl ?_
 refine g_goto X d7_27 (pc' := 31) (by decide) (by decide) ?_
 refine g_ldcH X hS hk (elw hw) (List.mem_of_getElem? (i := 3) rfl) HR.1 (tb hw 39 rfl) (sAt hw) (vs := [(.int (115 : Int32)), (.int (116 : Int32)), (.int (114 : Int32)), (.int (105 : Int32)), (.int (110 : Int32)), (.int (103 : Int32)), (.int (32 : Int32)), (.int (111 : Int32)), (.int (102 : Int32)), (.int (102 : Int32)), (.int (115 : Int32)), (.int (101 : Int32)), (.int (116 : Int32)), (.int (115 : Int32)), (.int (32 : Int32)), (.int (102 : Int32)), (.int (114 : Int32)), (.int (111 : Int32)), (.int (109 : Int32)), (.int (32 : Int32)), (.int (116 : Int32)), (.int (104 : Int32)), (.int (101 : Int32)), (.int (32 : Int32)), (.int (102 : Int32)), (.int (105 : Int32)), (.int (114 : Int32)), (.int (115 : Int32)), (.int (116 : Int32)), (.int (32 : Int32)), (.int (98 : Int32)), (.int (121 : Int32)), (.int (116 : Int32)), (.int (101 : Int32)), (.int (32 : Int32)), (.int (116 : Int32)), (.int (111 : Int32)), (.int (32 : Int32)), (.int (116 : Int32)), (.int (104 : Int32)), (.int (101 : Int32)), (.int (32 : Int32)), (.int (108 : Int32)), (.int (97 : Int32)), (.int (115 : Int32)), (.int (116 : Int32))]) (z := (46 : Int32)) ⟨by decide +kernel, by first | rfl | decide +kernel⟩ (by decide) rfl d7_31 (pc' := 33) rfl (n := 184) (by decide +kernel) (by decide) (by decide) (by decide) ?_
 intro qe T h k1 qm X Ex hS hk qn qo qp qq HRn SF
 replace qb := qb.ext Ex
 replace qc := qc.ext Ex
 replace qd := qd.ext Ex
 replace qa := qa.ext Ex
 replace Z0 := Nat.le_trans Z0 Ex.1
 replace Kp := Kp.ext Ex
 replace HR := HR.trans HRn
 show Go p e below _ (T.setTop (mkF m 33 _ [(.ref qe), (.int (1 : Int32))]))
 refine g_static X (W := 0) [(.int (1 : Int32)), (.ref qe)] [] (tb hw 42 rfl) (tb hw 43 rfl) (tb hw 44 rfl) (tb hw 45 rfl) (rReq l Z aa hw [] qe _) d7_33 (pc' := 36) rfl (by decide) (by decide) (by decide) rfl rfl rfl (lenOf pd_13 rfl) (Nat.le_refl _) (by decide) (by decide) ?_
 intro v T L X q
 obtain ⟨rfl, X⟩ := pureXV X q
 show Go p e below _ (T.setTop (mkF m 36 _ []))
 refine g_iconst X (1 : Int32) d7_36 (pc' := 37) rfl rfl ?_
 refine g_istoreN X d7_37 (pc' := 38) (Ls' := #[.val (.ref a0), .val (.ref a1), .val (.ref a2), .val (.int (1 : Int32))]) rfl rfl ?_
 refine g_iloadN X d7_38 (pc' := 39) rfl rfl ?_
 refine g_aloadN X d7_39 (pc' := 40) rfl rfl rfl ?_
 refine g_arraylength X qa d7_40 (pc' := 41) rfl (z := (4 : Int32)) rfl ?_
 refine g_icN X d7_41 (tlt (show (1 : Int32) < (4 : Int32) from (by decide))).2.1 (pc' := 44) rfl ?_
 refine g_aloadN X d7_44 (pc' := 45) rfl rfl rfl ?_
 refine g_iloadN X d7_45 (pc' := 46) rfl rfl ?_
 refine g_iconst X (1 : Int32) d7_46 (pc' := 47) rfl rfl ?_
 refine g_isub X d7_47 (pc' := 48) rfl ?_
 refine Go.lit32 (z := (0 : Int32)) (by decide) ?_
 refine g_iaload X qa 0 d7_48 (pc' := 49) rfl (by decide) (by decide) rfl ?_
 refine g_aloadN X d7_49 (pc' := 50) rfl rfl rfl ?_
 refine g_iloadN X d7_50 (pc' := 51) rfl rfl ?_
 refine g_iaload X qa 1 d7_51 (pc' := 52) rfl (by decide) (by decide) rfl ?_
 refine g_icN X d7_52 (flt (show ¬ ((1 : Int32) < (0 : Int32)) from (by decide))).2.2.1 (pc' := 55) rfl ?_
 refine g_iconst X (1 : Int32) d7_55 (pc' := 56) rfl rfl ?_
 refine g_goto X d7_56 (pc' := 60) (by decide) (by decide) ?_
 refine g_ldcH X hS hk (elw hw) (List.mem_of_getElem? (i := 4) rfl) HR.1 (tb hw 46 rfl) (sAt hw) (vs := [(.int (115 : Int32)), (.int (116 : Int32)), (.int (114 : Int32)), (.int (105 : Int32)), (.int (110 : Int32)), (.int (103 : Int32)), (.int (32 : Int32)), (.int (111 : Int32)), (.int (102 : Int32)), (.int (102 : Int32)), (.int (115 : Int32)), (.int (101 : Int32)), (.int (116 : Int32)), (.int (115 : Int32)), (.int (32 : Int32)), (.int (116 : Int32)), (.int (104 : Int32)), (.int (97 : Int32)), (.int (116 : Int32)), (.int (32 : Int32)), (.int (114 : Int32)), (.int (105 : Int32)), (.int (115 : Int32)), (.int (101 : Int32))]) (z := (24 : Int32)) ⟨by decide +kernel, by first | rfl | decide +kernel⟩ (by decide) rfl d7_60 (pc' := 62) rfl (n := 96) (by decide +kernel) (by decide) (by decide) (by decide) ?_
 intro qf T h k1 qr X Ex hS hk qs qt qu qv HRn SF
 replace qb := qb.ext Ex
 replace qc := qc.ext Ex
 replace qd := qd.ext Ex
 replace qa := qa.ext Ex
 replace Z0 := Nat.le_trans Z0 Ex.1
 replace Kp := Kp.ext Ex
 replace HR := HR.trans HRn
 show Go p e below _ (T.setTop (mkF m 62 _ [(.ref qf), (.int (1 : Int32))]))
 refine g_static X (W := 0) [(.int (1 : Int32)), (.ref qf)] [] (tb hw 42 rfl) (tb hw 43 rfl) (tb hw 44 rfl) (tb hw 45 rfl) (rReq l Z aa hw [] qf _) d7_62 (pc' := 65) rfl (by decide) (by decide) (by decide) rfl rfl rfl (lenOf pd_13 rfl) (Nat.le_refl _) (by decide) (by decide) ?_
 intro v T L X q
 obtain ⟨rfl, X⟩ := pureXV X q
 show Go p e below _ (T.setTop (mkF m 65 _ []))
 refine g_iinc X d7_65 (pc' := 68) (q := (1 : Int32)) (Ls' := #[.val (.ref a0), .val (.ref a1), .val (.ref a2), .val (.int (2 : Int32))]) rfl rfl rfl rfl ?_
 refine g_goto X d7_68 (pc' := 38) (by decide) (by decide) ?_
 refine g_iloadN X d7_38 (pc' := 39) rfl rfl ?_
 refine g_aloadN X d7_39 (pc' := 40) rfl rfl rfl ?_
 refine g_arraylength X qa d7_40 (pc' := 41) rfl (z := (4 : Int32)) rfl ?_
 refine g_icN X d7_41 (tlt (show (2 : Int32) < (4 : Int32) from (by decide))).2.1 (pc' := 44) rfl ?_
 refine g_aloadN X d7_44 (pc' := 45) rfl rfl rfl ?_
 refine g_iloadN X d7_45 (pc' := 46) rfl rfl ?_
 refine g_iconst X (1 : Int32) d7_46 (pc' := 47) rfl rfl ?_
 refine g_isub X d7_47 (pc' := 48) rfl ?_
 refine Go.lit32 (z := (1 : Int32)) (by decide) ?_
 refine g_iaload X qa 1 d7_48 (pc' := 49) rfl (by decide) (by decide) rfl ?_
 refine g_aloadN X d7_49 (pc' := 50) rfl rfl rfl ?_
 refine g_iloadN X d7_50 (pc' := 51) rfl rfl ?_
 refine g_iaload X qa 2 d7_51 (pc' := 52) rfl (by decide) (by decide) rfl ?_
 refine g_icN X d7_52 (flt (show ¬ ((3 : Int32) < (1 : Int32)) from (by decide))).2.2.1 (pc' := 55) rfl ?_
 refine g_iconst X (1 : Int32) d7_55 (pc' := 56) rfl rfl ?_
 refine g_goto X d7_56 (pc' := 60) (by decide) (by decide) ?_
 refine g_ldcH X hS hk (elw hw) (List.mem_of_getElem? (i := 4) rfl) HR.1 (tb hw 46 rfl) (sAt hw) (vs := [(.int (115 : Int32)), (.int (116 : Int32)), (.int (114 : Int32)), (.int (105 : Int32)), (.int (110 : Int32)), (.int (103 : Int32)), (.int (32 : Int32)), (.int (111 : Int32)), (.int (102 : Int32)), (.int (102 : Int32)), (.int (115 : Int32)), (.int (101 : Int32)), (.int (116 : Int32)), (.int (115 : Int32)), (.int (32 : Int32)), (.int (116 : Int32)), (.int (104 : Int32)), (.int (97 : Int32)), (.int (116 : Int32)), (.int (32 : Int32)), (.int (114 : Int32)), (.int (105 : Int32)), (.int (115 : Int32)), (.int (101 : Int32))]) (z := (24 : Int32)) ⟨by decide +kernel, by first | rfl | decide +kernel⟩ (by decide) rfl d7_60 (pc' := 62) rfl (n := 96) (by decide +kernel) (by decide) (by decide) (by decide) ?_
 intro qg T h k1 qw X Ex hS hk qx qy qz q0 HRn SF
 replace qb := qb.ext Ex
 replace qc := qc.ext Ex
 replace qd := qd.ext Ex
 replace qa := qa.ext Ex
 replace Z0 := Nat.le_trans Z0 Ex.1
 replace Kp := Kp.ext Ex
 replace HR := HR.trans HRn
 show Go p e below _ (T.setTop (mkF m 62 _ [(.ref qg), (.int (1 : Int32))]))
 refine g_static X (W := 0) [(.int (1 : Int32)), (.ref qg)] [] (tb hw 42 rfl) (tb hw 43 rfl) (tb hw 44 rfl) (tb hw 45 rfl) (rReq l Z aa hw [] qg _) d7_62 (pc' := 65) rfl (by decide) (by decide) (by decide) rfl rfl rfl (lenOf pd_13 rfl) (Nat.le_refl _) (by decide) (by decide) ?_
 intro v T L X q
 obtain ⟨rfl, X⟩ := pureXV X q
 show Go p e below _ (T.setTop (mkF m 65 _ []))
 refine g_iinc X d7_65 (pc' := 68) (q := (1 : Int32)) (Ls' := #[.val (.ref a0), .val (.ref a1), .val (.ref a2), .val (.int (3 : Int32))]) rfl rfl rfl rfl ?_
 refine g_goto X d7_68 (pc' := 38) (by decide) (by decide) ?_
 refine g_iloadN X d7_38 (pc' := 39) rfl rfl ?_
 refine g_aloadN X d7_39 (pc' := 40) rfl rfl rfl ?_
 refine g_arraylength X qa d7_40 (pc' := 41) rfl (z := (4 : Int32)) rfl ?_
 refine g_icN X d7_41 (tlt (show (3 : Int32) < (4 : Int32) from (by decide))).2.1 (pc' := 44) rfl ?_
 refine g_aloadN X d7_44 (pc' := 45) rfl rfl rfl ?_
 refine g_iloadN X d7_45 (pc' := 46) rfl rfl ?_
 refine g_iconst X (1 : Int32) d7_46 (pc' := 47) rfl rfl ?_
 refine g_isub X d7_47 (pc' := 48) rfl ?_
 refine Go.lit32 (z := (2 : Int32)) (by decide) ?_
 refine g_iaload X qa 2 d7_48 (pc' := 49) rfl (by decide) (by decide) rfl ?_
 refine g_aloadN X d7_49 (pc' := 50) rfl rfl rfl ?_
 refine g_iloadN X d7_50 (pc' := 51) rfl rfl ?_
 refine g_iaload X qa 3 d7_51 (pc' := 52) rfl (by decide) (by decide) rfl ?_
 refine g_icN X d7_52 (flt (show ¬ ((3 : Int32) < (3 : Int32)) from (by decide))).2.2.1 (pc' := 55) rfl ?_
 refine g_iconst X (1 : Int32) d7_55 (pc' := 56) rfl rfl ?_
 refine g_goto X d7_56 (pc' := 60) (by decide) (by decide) ?_
 refine g_ldcH X hS hk (elw hw) (List.mem_of_getElem? (i := 4) rfl) HR.1 (tb hw 46 rfl) (sAt hw) (vs := [(.int (115 : Int32)), (.int (116 : Int32)), (.int (114 : Int32)), (.int (105 : Int32)), (.int (110 : Int32)), (.int (103 : Int32)), (.int (32 : Int32)), (.int (111 : Int32)), (.int (102 : Int32)), (.int (102 : Int32)), (.int (115 : Int32)), (.int (101 : Int32)), (.int (116 : Int32)), (.int (115 : Int32)), (.int (32 : Int32)), (.int (116 : Int32)), (.int (104 : Int32)), (.int (97 : Int32)), (.int (116 : Int32)), (.int (32 : Int32)), (.int (114 : Int32)), (.int (105 : Int32)), (.int (115 : Int32)), (.int (101 : Int32))]) (z := (24 : Int32)) ⟨by decide +kernel, by first | rfl | decide +kernel⟩ (by decide) rfl d7_60 (pc' := 62) rfl (n := 96) (by decide +kernel) (by decide) (by decide) (by decide) ?_
 intro qh T h k1 q1 X Ex hS hk q2 q3 q4 q5 HRn SF
 replace qb := qb.ext Ex
 replace qc := qc.ext Ex
 replace qd := qd.ext Ex
 replace qa := qa.ext Ex
 replace Z0 := Nat.le_trans Z0 Ex.1
 replace Kp := Kp.ext Ex
 replace HR := HR.trans HRn
 show Go p e below _ (T.setTop (mkF m 62 _ [(.ref qh), (.int (1 : Int32))]))
 refine g_static X (W := 0) [(.int (1 : Int32)), (.ref qh)] [] (tb hw 42 rfl) (tb hw 43 rfl) (tb hw 44 rfl) (tb hw 45 rfl) (rReq l Z aa hw [] qh _) d7_62 (pc' := 65) rfl (by decide) (by decide) (by decide) rfl rfl rfl (lenOf pd_13 rfl) (Nat.le_refl _) (by decide) (by decide) ?_
 intro v T L X q
 obtain ⟨rfl, X⟩ := pureXV X q
 show Go p e below _ (T.setTop (mkF m 65 _ []))
 refine g_iinc X d7_65 (pc' := 68) (q := (1 : Int32)) (Ls' := #[.val (.ref a0), .val (.ref a1), .val (.ref a2), .val (.int (4 : Int32))]) rfl rfl rfl rfl ?_
 refine g_goto X d7_68 (pc' := 38) (by decide) (by decide) ?_
 refine g_iloadN X d7_38 (pc' := 39) rfl rfl ?_
 refine g_aloadN X d7_39 (pc' := 40) rfl rfl rfl ?_
 refine g_arraylength X qa d7_40 (pc' := 41) rfl (z := (4 : Int32)) rfl ?_
 refine g_icY X d7_41 (flt (show ¬ ((4 : Int32) < (4 : Int32)) from (by decide))).2.1 (pc' := 71) (by decide) (by decide) ?_
 refine g_aloadN X d7_71 (pc' := 72) rfl rfl rfl ?_
 refine g_aloadN X d7_72 (pc' := 73) rfl rfl rfl ?_
 refine g_putfield X (host := "") (Or.inl (tb hw 47 rfl)) Via.refl qc qb (Or.inr ⟨(tb hw 48 rfl), rfl, hnm⟩) (tb hw 33 rfl) (ty := (.array .int)) (by decide) rfl rfl d7_73 (pc' := 76) rfl ?_
 intro T h X W
 have HR' := HR.trans (CHr.wr W (Safe.exa (State.Warmed39.alike X.2.2.2.2.2.1) qb (by decide) (by decide)) HR.1)
 replace HR := HR'
 replace hk := Nat.le_trans hk (Nat.le_of_eq W.size.symm)
 replace qb := qb.wr W
 replace qc := qc.same W
 replace qd := qd.other W (Or.inr (slot_ne (Or.inr (tb hw 50 rfl)) (Or.inr (tb hw 48 rfl)) (by decide) (t := (.array .byte)) (t' := (.array .int)) (by decide) (by decide)))
 replace Z0 := Nat.le_trans Z0 (Nat.le_of_eq W.size.symm)
 replace N := Fr.snoc X.1 N qi
 replace Kp := Kp.wr W (Or.inl (List.mem_of_getElem? (i := 0) rfl))
 refine g_aloadN X d7_76 (pc' := 77) rfl rfl rfl ?_
 refine g_aloadN X d7_77 (pc' := 78) rfl rfl rfl ?_
 refine g_putfield X (host := "") (Or.inl (tb hw 49 rfl)) Via.refl qd qb (Or.inr ⟨(tb hw 50 rfl), rfl, hnm⟩) (tb hw 33 rfl) (ty := (.array .byte)) (by decide) rfl rfl d7_78 (pc' := 81) rfl ?_
 intro T h X W
 have HR' := HR.trans (CHr.wr W (Safe.exa (State.Warmed39.alike X.2.2.2.2.2.1) qb (by decide) (by decide)) HR.1)
 replace HR := HR'
 replace hk := Nat.le_trans hk (Nat.le_of_eq W.size.symm)
 replace qb := qb.wr W
 replace qc := qc.other W (Or.inr (slot_ne (Or.inr (tb hw 48 rfl)) (Or.inr (tb hw 50 rfl)) (by decide) (t := (.array .int)) (t' := (.array .byte)) (by decide) (by decide)))
 replace qd := qd.same W
 replace Z0 := Nat.le_trans Z0 (Nat.le_of_eq W.size.symm)
 replace N := Fr.snoc X.1 N qi
 replace Kp := Kp.wr W (Or.inl (List.mem_of_getElem? (i := 0) rfl))
 refine g_returnH X hS hk (elw hw) HR d7_81 hret hlk (by decide) (by decide) ?_
 exact ⟨rfl, N, Kp, qb, qc, qd⟩
theorem d10_0 : decode prog_28_method_6_code 0 = .ok (.aload_n 0, 1) := by decide +kernel
theorem d10_1 : decode prog_28_method_6_code 1 = .ok (.getfield 17, 3) := by decide +kernel
theorem d10_4 : decode prog_28_method_6_code 4 = .ok (.arraylength, 1) := by decide +kernel
theorem d10_5 : decode prog_28_method_6_code 5 = .ok (.iconst 1, 1) := by decide +kernel
theorem d10_6 : decode prog_28_method_6_code 6 = .ok (.isub, 1) := by decide +kernel
theorem d10_7 : decode prog_28_method_6_code 7 = .ok (.ireturn, 1) := by decide +kernel
theorem ef_rCnt (m : MethodId) (x0 : Addr) : entryFrame m #[(.ref x0)] 1 = mkF m 0 #[.val (.ref x0)] [] := by first | (simp [entryFrame, mkF, argsToLocals, Value.category]; done) | rfl
set_option maxRecDepth 65536 in
set_option maxHeartbeats 40000000 in
theorem rCnt (l : Launch) (Z : State) (aa : Array Value) (hw : ∀ d ∈ tables_1, d.before aa Z = true) (ws : List Jvm.Cond) (a0 : Addr) (wo : Addr) (h0 : Heap) (qc : Exa Z h0 a0 "com/example/pathlattice/pathlattice/graph/Strings") (qa : Fld Z h0 a0 "com/example/pathlattice/pathlattice/graph/Strings" "offsets" "[I" (.ref wo)) (qb : Av Z h0 wo .int [(.int (0 : Int32)), (.int (1 : Int32)), (.int (3 : Int32)), (.int (3 : Int32))]) :
    Rm l Z (⟨"com/example/pathlattice/pathlattice/graph/Strings", "count", "()I"⟩ : MethodName) prog_28_method_6_code 1 (some .int) ws ({ frames := 0, cells := 0, slots := 0, locals := 0 } : Room) #[(.ref a0)] h0 (Pu (.int (3 : Int32)) h0) := by
 refine Rm.of (plainFor_of_name pn_6) ?_
 intro p e s m below meth cc T X hnm hret hlk
 refine Go.at_ (ef_rCnt m a0) ?_
 refine g_aloadN X d10_0 (pc' := 1) rfl rfl rfl ?_
 refine g_getfield X (host := "") (Or.inl (tb hw 47 rfl)) Via.refl qa d10_1 (pc' := 4) rfl ?_
 intro T X
 refine g_arraylength X qb d10_4 (pc' := 5) rfl (z := (4 : Int32)) rfl ?_
 refine g_iconst X (1 : Int32) d10_5 (pc' := 6) rfl rfl ?_
 refine g_isub X d10_6 (pc' := 7) rfl ?_
 refine Go.lit32 (z := (3 : Int32)) (by decide) ?_
 refine g_ireturn X d10_7 hret hlk (by decide) (by decide) ?_
 exact ⟨rfl, rfl, rfl⟩
theorem d23_0 : decode jdk_65_method_123_code 0 = .ok (.iload_n 1, 1) := by decide +kernel
theorem d23_1 : decode jdk_65_method_123_code 1 = .ok (.aload_n 0, 1) := by decide +kernel
theorem d23_2 : decode jdk_65_method_123_code 2 = .ok (.arraylength, 1) := by decide +kernel
theorem d23_3 : decode jdk_65_method_123_code 3 = .ok (.if_icmp .ne 11, 3) := by decide +kernel
theorem d23_14 : decode jdk_65_method_123_code 14 = .ok (.iload_n 1, 1) := by decide +kernel
theorem d23_15 : decode jdk_65_method_123_code 15 = .ok (.newarray .int, 2) := by decide +kernel
theorem d23_17 : decode jdk_65_method_123_code 17 = .ok (.astore_n 2, 1) := by decide +kernel
theorem d23_18 : decode jdk_65_method_123_code 18 = .ok (.aload_n 0, 1) := by decide +kernel
theorem d23_19 : decode jdk_65_method_123_code 19 = .ok (.iconst 0, 1) := by decide +kernel
theorem d23_20 : decode jdk_65_method_123_code 20 = .ok (.aload_n 2, 1) := by decide +kernel
theorem d23_21 : decode jdk_65_method_123_code 21 = .ok (.iconst 0, 1) := by decide +kernel
theorem d23_22 : decode jdk_65_method_123_code 22 = .ok (.aload_n 0, 1) := by decide +kernel
theorem d23_23 : decode jdk_65_method_123_code 23 = .ok (.arraylength, 1) := by decide +kernel
theorem d23_24 : decode jdk_65_method_123_code 24 = .ok (.iload_n 1, 1) := by decide +kernel
theorem d23_25 : decode jdk_65_method_123_code 25 = .ok (.invokestatic 304, 3) := by decide +kernel
theorem d23_28 : decode jdk_65_method_123_code 28 = .ok (.invokestatic 150, 3) := by decide +kernel
theorem d23_31 : decode jdk_65_method_123_code 31 = .ok (.aload_n 2, 1) := by decide +kernel
theorem d23_32 : decode jdk_65_method_123_code 32 = .ok (.areturn, 1) := by decide +kernel
theorem ef_rCof (m : MethodId) (x0 : Addr) (x1 : Int32) : entryFrame m #[(.ref x0), (.int x1)] 3 = mkF m 0 #[.val (.ref x0), .val (.int x1), .unset] [] := by first | (simp [entryFrame, mkF, argsToLocals, Value.category]; done) | rfl
set_option maxRecDepth 65536 in
set_option maxHeartbeats 40000000 in
theorem rCof (l : Launch) (Z : State) (aa : Array Value) (hw : ∀ d ∈ tables_1, d.before aa Z = true) (ws : List Jvm.Cond) (a0 : Addr) (x0 : Int32) (x1 : Int32) (x2 : Int32) (h0 : Heap) (n0 : Nat) (Z0 : n0 ≤ h0.size) (qb : Av Z h0 a0 .int [(.int x0), (.int x1), (.int x2)]) :
    Rm l Z (⟨"java/util/Arrays", "copyOf", "([II)[I"⟩ : MethodName) jdk_65_method_123_code 3 (some (.array .int)) ws ({ frames := 1, cells := 1, slots := 2, locals := 18 } : Room) #[(.ref a0), (.int (2 : Int32))] h0 (fun v h L => ∃ q0 : Addr, v = some (.ref q0) ∧ Fr n0 L ∧ Keep h0 h [] ∧ h0.size ≤ q0 ∧ n0 ≤ q0 ∧ Exa Z h q0 "[I" ∧ Av Z h q0 .int [(.int x0), (.int x1)]) := by
 refine Rm.of (plainFor_of_name pn_3) ?_
 intro p e s m below meth cc T X hnm hret hlk
 refine Go.at_ (ef_rCof m a0 (2 : Int32)) ?_
 have N := Fr.nil n0
 have Kp := Keep.refl h0 []
 refine g_iloadN X d23_0 (pc' := 1) rfl rfl ?_
 refine g_aloadN X d23_1 (pc' := 2) rfl rfl rfl ?_
 refine g_arraylength X qb d23_2 (pc' := 3) rfl (z := (3 : Int32)) rfl ?_
 refine g_icY X d23_3 (feq (show ¬ ((2 : Int32) = (3 : Int32)) from (by decide))).2 (pc' := 14) (by decide) (by decide) ?_
 refine g_iloadN X d23_14 (pc' := 15) rfl rfl ?_
 refine g_newarray X 2 (tb hw 1 rfl) d23_15 (pc' := 17) rfl (by decide) (by decide) 2 (by decide) (by decide) (by decide) (by decide) (vs := [(.int (0 : Int32)), (.int (0 : Int32))]) rfl (ad := "[I") (by decide) ?_
 intro T h qa qe X Ex qc qd
 have qf : n0 ≤ qa := by rw [qe]; exact Z0
 have qg : h0.size ≤ qa := by rw [qe]; exact Kp.1
 replace qb := qb.ext Ex
 replace Z0 := Nat.le_trans Z0 Ex.1
 replace Kp := Kp.ext Ex
 refine g_astoreN X d23_17 (pc' := 18) (Ls' := #[.val (.ref a0), .val (.int (2 : Int32)), .val (.ref qa)]) rfl rfl rfl ?_
 refine g_aloadN X d23_18 (pc' := 19) rfl rfl rfl ?_
 refine g_iconst X (0 : Int32) d23_19 (pc' := 20) rfl rfl ?_
 refine g_aloadN X d23_20 (pc' := 21) rfl rfl rfl ?_
 refine g_iconst X (0 : Int32) d23_21 (pc' := 22) rfl rfl ?_
 refine g_aloadN X d23_22 (pc' := 23) rfl rfl rfl ?_
 refine g_arraylength X qb d23_23 (pc' := 24) rfl (z := (3 : Int32)) rfl ?_
 refine g_iloadN X d23_24 (pc' := 25) rfl rfl ?_
 refine g_static X (W := 4) [(.int (3 : Int32)), (.int (2 : Int32))] [(.int (0 : Int32)), (.ref qa), (.int (0 : Int32)), (.ref a0)] (tb hw 123 rfl) (tb hw 124 rfl) (tb hw 125 rfl) (tb hw 126 rfl) (rMin32 l Z aa hw []  _) d23_25 (pc' := 28) rfl (by decide) (by decide) (by decide) rfl rfl rfl (lenOf pd_5 rfl) (Nat.le_refl _) (by decide) (by decide) ?_
 intro v T L X q
 obtain ⟨rfl, X⟩ := pureX X q
 show Go p e below _ (T.setTop (mkF m 28 _ [(.int (2 : Int32)), (.int (0 : Int32)), (.ref qa), (.int (0 : Int32)), (.ref a0)]))
 refine g_acopy X (W := 0) 0 0 2 (tb hw 127 rfl) (tb hw 130 rfl) (tb hw 128 rfl) (tb hw 129 rfl) qb qd rfl (fitS rfl (fitS rfl (fitS rfl fit0))) rfl rfl rfl (Nat.le_of_ble_eq_true rfl) (Nat.le_of_ble_eq_true rfl) d23_28 (pc' := 31) rfl rfl (by decide) (Nat.le_refl _) (by decide) ?_
 intro T h X Kq qh
 replace N := Fr.copy (d := 0) (k := 2) N qf
 replace Z0 := Nat.le_trans Z0 Kq.1
 replace Kp := Kp.trans Kq (allS (Or.inr qg) all0)
 replace qc := qc.keep Kq
 replace qd : Av Z h qa .int [(.int x0), (.int x1)] := qh
 show Go p e below _ (T.setTop (mkF m 31 _ []))
 refine g_aloadN X d23_31 (pc' := 32) rfl rfl rfl ?_
 refine g_areturn X rfl rfl d23_32 hret hlk (by decide) (by decide) ?_
 exact ⟨qa, rfl, N, Kp, qg, qf, qc, qd⟩
theorem pn_8 : plainName "com/example/pathlattice/pathlattice/graph/Edges" = true := by first | (simp [plainName, overriddenIn]; done) | decide +kernel
theorem d22_0 : decode prog_18_method_2_code 0 = .ok (.aload_n 0, 1) := by decide +kernel
theorem d22_1 : decode prog_18_method_2_code 1 = .ok (.astore_n 3, 1) := by decide +kernel
theorem d22_2 : decode prog_18_method_2_code 2 = .ok (.aload_n 3, 1) := by decide +kernel
theorem d22_3 : decode prog_18_method_2_code 3 = .ok (.arraylength, 1) := by decide +kernel
theorem d22_4 : decode prog_18_method_2_code 4 = .ok (.istore 4, 2) := by decide +kernel
theorem d22_6 : decode prog_18_method_2_code 6 = .ok (.iconst 0, 1) := by decide +kernel
theorem d22_7 : decode prog_18_method_2_code 7 = .ok (.istore 5, 2) := by decide +kernel
theorem d22_9 : decode prog_18_method_2_code 9 = .ok (.iload 5, 2) := by decide +kernel
theorem d22_11 : decode prog_18_method_2_code 11 = .ok (.iload 4, 2) := by decide +kernel
theorem d22_13 : decode prog_18_method_2_code 13 = .ok (.if_icmp .ge 25, 3) := by decide +kernel
theorem d22_16 : decode prog_18_method_2_code 16 = .ok (.aload_n 3, 1) := by decide +kernel
theorem d22_17 : decode prog_18_method_2_code 17 = .ok (.iload 5, 2) := by decide +kernel
theorem d22_19 : decode prog_18_method_2_code 19 = .ok (.iaload, 1) := by decide +kernel
theorem d22_20 : decode prog_18_method_2_code 20 = .ok (.istore 6, 2) := by decide +kernel
theorem d22_22 : decode prog_18_method_2_code 22 = .ok (.aload_n 1, 1) := by decide +kernel
theorem d22_23 : decode prog_18_method_2_code 23 = .ok (.iload 6, 2) := by decide +kernel
theorem d22_25 : decode prog_18_method_2_code 25 = .ok (.iconst 1, 1) := by decide +kernel
theorem d22_26 : decode prog_18_method_2_code 26 = .ok (.iadd, 1) := by decide +kernel
theorem d22_27 : decode prog_18_method_2_code 27 = .ok (.dup2, 1) := by decide +kernel
theorem d22_28 : decode prog_18_method_2_code 28 = .ok (.iaload, 1) := by decide +kernel
theorem d22_29 : decode prog_18_method_2_code 29 = .ok (.iconst 1, 1) := by decide +kernel
theorem d22_30 : decode prog_18_method_2_code 30 = .ok (.iadd, 1) := by decide +kernel
theorem d22_31 : decode prog_18_method_2_code 31 = .ok (.iastore, 1) := by decide +kernel
theorem d22_32 : decode prog_18_method_2_code 32 = .ok (.iinc 5 1, 3) := by decide +kernel
theorem d22_35 : decode prog_18_method_2_code 35 = .ok (.goto (-26), 3) := by decide +kernel
theorem d22_38 : decode prog_18_method_2_code 38 = .ok (.iconst 1, 1) := by decide +kernel
theorem d22_39 : decode prog_18_method_2_code 39 = .ok (.istore_n 3, 1) := by decide +kernel
theorem d22_40 : decode prog_18_method_2_code 40 = .ok (.iload_n 3, 1) := by decide +kernel
theorem d22_41 : decode prog_18_method_2_code 41 = .ok (.aload_n 1, 1) := by decide +kernel
theorem d22_42 : decode prog_18_method_2_code 42 = .ok (.arraylength, 1) := by decide +kernel
theorem d22_43 : decode prog_18_method_2_code 43 = .ok (.if_icmp .ge 20, 3) := by decide +kernel
theorem d22_46 : decode prog_18_method_2_code 46 = .ok (.aload_n 1, 1) := by decide +kernel
theorem d22_47 : decode prog_18_method_2_code 47 = .ok (.iload_n 3, 1) := by decide +kernel
theorem d22_48 : decode prog_18_method_2_code 48 = .ok (.dup2, 1) := by decide +kernel
theorem d22_49 : decode prog_18_method_2_code 49 = .ok (.iaload, 1) := by decide +kernel
theorem d22_50 : decode prog_18_method_2_code 50 = .ok (.aload_n 1, 1) := by decide +kernel
theorem d22_51 : decode prog_18_method_2_code 51 = .ok (.iload_n 3, 1) := by decide +kernel
theorem d22_52 : decode prog_18_method_2_code 52 = .ok (.iconst 1, 1) := by decide +kernel
theorem d22_53 : decode prog_18_method_2_code 53 = .ok (.isub, 1) := by decide +kernel
theorem d22_54 : decode prog_18_method_2_code 54 = .ok (.iaload, 1) := by decide +kernel
theorem d22_55 : decode prog_18_method_2_code 55 = .ok (.iadd, 1) := by decide +kernel
theorem d22_56 : decode prog_18_method_2_code 56 = .ok (.iastore, 1) := by decide +kernel
theorem d22_57 : decode prog_18_method_2_code 57 = .ok (.iinc 3 1, 3) := by decide +kernel
theorem d22_60 : decode prog_18_method_2_code 60 = .ok (.goto (-20), 3) := by decide +kernel
theorem d22_63 : decode prog_18_method_2_code 63 = .ok (.aload_n 1, 1) := by decide +kernel
theorem d22_64 : decode prog_18_method_2_code 64 = .ok (.aload_n 1, 1) := by decide +kernel
theorem d22_65 : decode prog_18_method_2_code 65 = .ok (.arraylength, 1) := by decide +kernel
theorem d22_66 : decode prog_18_method_2_code 66 = .ok (.iconst 1, 1) := by decide +kernel
theorem d22_67 : decode prog_18_method_2_code 67 = .ok (.isub, 1) := by decide +kernel
theorem d22_68 : decode prog_18_method_2_code 68 = .ok (.invokestatic 67, 3) := by decide +kernel
theorem pd_14 : parseMethodDescriptor "([II)[I" = some ⟨[(.array .int), .int], some (.array .int)⟩ := by decide +kernel
theorem d22_71 : decode prog_18_method_2_code 71 = .ok (.astore_n 3, 1) := by decide +kernel
theorem d22_72 : decode prog_18_method_2_code 72 = .ok (.iconst 0, 1) := by decide +kernel
theorem d22_73 : decode prog_18_method_2_code 73 = .ok (.istore 4, 2) := by decide +kernel
theorem d22_75 : decode prog_18_method_2_code 75 = .ok (.iload 4, 2) := by decide +kernel
theorem d22_77 : decode prog_18_method_2_code 77 = .ok (.aload_n 0, 1) := by decide +kernel
theorem d22_78 : decode prog_18_method_2_code 78 = .ok (.arraylength, 1) := by decide +kernel
theorem d22_79 : decode prog_18_method_2_code 79 = .ok (.if_icmp .ge 24, 3) := by decide +kernel
theorem d22_82 : decode prog_18_method_2_code 82 = .ok (.aload_n 2, 1) := by decide +kernel
theorem d22_83 : decode prog_18_method_2_code 83 = .ok (.aload_n 3, 1) := by decide +kernel
theorem d22_84 : decode prog_18_method_2_code 84 = .ok (.aload_n 0, 1) := by decide +kernel
theorem d22_85 : decode prog_18_method_2_code 85 = .ok (.iload 4, 2) := by decide +kernel
theorem d22_87 : decode prog_18_method_2_code 87 = .ok (.iaload, 1) := by decide +kernel
theorem d22_88 : decode prog_18_method_2_code 88 = .ok (.dup2, 1) := by decide +kernel
theorem d22_89 : decode prog_18_method_2_code 89 = .ok (.iaload, 1) := by decide +kernel
theorem d22_90 : decode prog_18_method_2_code 90 = .ok (.dup_x2, 1) := by decide +kernel
theorem d22_91 : decode prog_18_method_2_code 91 = .ok (.iconst 1, 1) := by decide +kernel
theorem d22_92 : decode prog_18_method_2_code 92 = .ok (.iadd, 1) := by decide +kernel
theorem d22_93 : decode prog_18_method_2_code 93 = .ok (.iastore, 1) := by decide +kernel
theorem d22_94 : decode prog_18_method_2_code 94 = .ok (.iload 4, 2) := by decide +kernel
theorem d22_96 : decode prog_18_method_2_code 96 = .ok (.iastore, 1) := by decide +kernel
theorem d22_97 : decode prog_18_method_2_code 97 = .ok (.iinc 4 1, 3) := by decide +kernel
theorem d22_100 : decode prog_18_method_2_code 100 = .ok (.goto (-25), 3) := by decide +kernel
theorem d22_103 : decode prog_18_method_2_code 103 = .ok (.return_, 1) := by decide +kernel
theorem ef_rGr0 (m : MethodId) (x0 : Addr) (x1 : Addr) (x2 : Addr) : entryFrame m #[(.ref x0), (.ref x1), (.ref x2)] 7 = mkF m 0 #[.val (.ref x0), .val (.ref x1), .val (.ref x2), .unset, .unset, .unset, .unset] [] := by first | (simp [entryFrame, mkF, argsToLocals, Value.category]; done) | rfl
set_option maxRecDepth 65536 in
set_option maxHeartbeats 40000000 in
theorem rGr0 (l : Launch) (Z : State) (aa : Array Value) (hw : ∀ d ∈ tables_1, d.before aa Z = true) (ws : List Jvm.Cond) (a0 : Addr) (a1 : Addr) (a2 : Addr) (h0 : Heap) (n0 : Nat) (Z0 : n0 ≤ h0.size) (qb : Av Z h0 a0 .int [(.int (0 : Int32)), (.int (0 : Int32)), (.int (0 : Int32))]) (qa : Av Z h0 a1 .int [(.int (0 : Int32)), (.int (0 : Int32)), (.int (0 : Int32))]) (qc : Av Z h0 a2 .int [(.int (0 : Int32)), (.int (0 : Int32)), (.int (0 : Int32))]) (qg : n0 ≤ a1) (qk : n0 ≤ a2) (qh : a0 ≠ a1) (ql : a0 ≠ a2) (qf : a1 ≠ a2) :
    Rm l Z (⟨"com/example/pathlattice/pathlattice/graph/Edges", "group", "([I[I[I)V"⟩ : MethodName) prog_18_method_2_code 7 none ws ({ frames := 2, cells := 1, slots := 2, locals := 32 } : Room) #[(.ref a0), (.ref a1), (.ref a2)] h0 (fun v h L => v = none ∧ Fr n0 L ∧ Keep h0 h [a1, a2] ∧ Av Z h a1 .int [(.int (0 : Int32)), (.int (3 : Int32)), (.int (3 : Int32))] ∧ Av Z h a2 .int [(.int (0 : Int32)), (.int (1 : Int32)), (.int (2 : Int32))]) := by
 refine Rm.of (plainFor_of_name pn_8) ?_
 intro p e s m below meth cc T X hnm hret hlk
 refine Go.at_ (ef_rGr0 m a0 a1 a2) ?_
 have N := Fr.nil n0
 have Kp := Keep.refl h0 [a1, a2]
 refine g_aloadN X d22_0 (pc' := 1) rfl rfl rfl ?_
 refine g_astoreN X d22_1 (pc' := 2) (Ls' := #[.val (.ref a0), .val (.ref a1), .val (.ref a2), .val (.ref a0), .unset, .unset, .unset]) rfl rfl rfl ?_
 refine g_aloadN X d22_2 (pc' := 3) rfl rfl rfl ?_
 refine g_arraylength X qb d22_3 (pc' := 4) rfl (z := (3 : Int32)) rfl ?_
 refine g_istore X d22_4 (pc' := 6) (Ls' := #[.val (.ref a0), .val (.ref a1), .val (.ref a2), .val (.ref a0), .val (.int (3 : Int32)), .unset, .unset]) rfl rfl ?_
 refine g_iconst X (0 : Int32) d22_6 (pc' := 7) rfl rfl ?_
 refine g_istore X d22_7 (pc' := 9) (Ls' := #[.val (.ref a0), .val (.ref a1), .val (.ref a2), .val (.ref a0), .val (.int (3 : Int32)), .val (.int (0 : Int32)), .unset]) rfl rfl ?_
 refine g_iload X d22_9 (pc' := 11) rfl rfl ?_
 refine g_iload X d22_11 (pc' := 13) rfl rfl ?_
 refine g_icN X d22_13 (tlt (show (0 : Int32) < (3 : Int32) from (by decide))).2.1 (pc' := 16) rfl ?_
 refine g_aloadN X d22_16 (pc' := 17) rfl rfl rfl ?_
 refine g_iload X d22_17 (pc' := 19) rfl rfl ?_
 refine g_iaload X qb 0 d22_19 (pc' := 20) rfl (by decide) (by decide) rfl ?_
 refine g_istore X d22_20 (pc' := 22) (Ls' := #[.val (.ref a0), .val (.ref a1), .val (.ref a2), .val (.ref a0), .val (.int (3 : Int32)), .val (.int (0 : Int32)), .val (.int (0 : Int32))]) rfl rfl ?_
 refine g_aloadN X d22_22 (pc' := 23) rfl rfl rfl ?_
 refine g_iload X d22_23 (pc' := 25) rfl rfl ?_
 refine g_iconst X (1 : Int32) d22_25 (pc' := 26) rfl rfl ?_
 refine g_iadd X d22_26 (pc' := 27) rfl ?_
 refine Go.lit32 (z := (1 : Int32)) (by decide) ?_
 refine g_dup2 X d22_27 (pc' := 28) rfl rfl rfl ?_
 refine g_iaload X qa 1 d22_28 (pc' := 29) rfl (by decide) (by decide) rfl ?_
 refine g_iconst X (1 : Int32) d22_29 (pc' := 30) rfl rfl ?_
 refine g_iadd X d22_30 (pc' := 31) rfl ?_
 refine Go.lit32 (z := (1 : Int32)) (by decide) ?_
 refine g_iastore X qa 1 d22_31 (pc' := 32) rfl (by decide) (by decide) (Nat.le_of_ble_eq_true rfl) ?_
 intro T h X W qa
 replace qa : Av Z h a1 .int [(.int (0 : Int32)), (.int (1 : Int32)), (.int (0 : Int32))] := qa
 replace qb := qb.other W qh
 replace qc := qc.other W (Ne.symm qf)
 replace Z0 := Nat.le_trans Z0 (Nat.le_of_eq W.size.symm)
 replace N := Fr.snoc X.1 N qg
 replace Kp := Kp.wr W (Or.inl (List.mem_of_getElem? (i := 0) rfl))
 refine g_iinc X d22_32 (pc' := 35) (q := (1 : Int32)) (Ls' := #[.val (.ref a0), .val (.ref a1), .val (.ref a2), .val (.ref a0), .val (.int (3 : Int32)), .val (.int (1 : Int32)), .val (.int (0 : Int32))]) rfl rfl rfl rfl ?_
 refine g_goto X d22_35 (pc' := 9) (by decide) (by decide) ?_
 refine g_iload X d22_9 (pc' := 11) rfl rfl ?_
 refine g_iload X d22_11 (pc' := 13) rfl rfl ?_
 refine g_icN X d22_13 (tlt (show (1 : Int32) < (3 : Int32) from (by decide))).2.1 (pc' := 16) rfl ?_
 refine g_aloadN X d22_16 (pc' := 17) rfl rfl rfl ?_
 refine g_iload X d22_17 (pc' := 19) rfl rfl ?_
 refine g_iaload X qb 1 d22_19 (pc' := 20) rfl (by decide) (by decide) rfl ?_
 refine g_istore X d22_20 (pc' := 22) (Ls' := #[.val (.ref a0), .val (.ref a1), .val (.ref a2), .val (.ref a0), .val (.int (3 : Int32)), .val (.int (1 : Int32)), .val (.int (0 : Int32))]) rfl rfl ?_
 refine g_aloadN X d22_22 (pc' := 23) rfl rfl rfl ?_
 refine g_iload X d22_23 (pc' := 25) rfl rfl ?_
 refine g_iconst X (1 : Int32) d22_25 (pc' := 26) rfl rfl ?_
 refine g_iadd X d22_26 (pc' := 27) rfl ?_
 refine Go.lit32 (z := (1 : Int32)) (by decide) ?_
 refine g_dup2 X d22_27 (pc' := 28) rfl rfl rfl ?_
 refine g_iaload X qa 1 d22_28 (pc' := 29) rfl (by decide) (by decide) rfl ?_
 refine g_iconst X (1 : Int32) d22_29 (pc' := 30) rfl rfl ?_
 refine g_iadd X d22_30 (pc' := 31) rfl ?_
 refine Go.lit32 (z := (2 : Int32)) (by decide) ?_
 refine g_iastore X qa 1 d22_31 (pc' := 32) rfl (by decide) (by decide) (Nat.le_of_ble_eq_true rfl) ?_
 intro T h X W qa
 replace qa : Av Z h a1 .int [(.int (0 : Int32)), (.int (2 : Int32)), (.int (0 : Int32))] := qa
 replace qb := qb.other W qh
 replace qc := qc.other W (Ne.symm qf)
 replace Z0 := Nat.le_trans Z0 (Nat.le_of_eq W.size.symm)
 replace N := Fr.snoc X.1 N qg
 replace Kp := Kp.wr W (Or.inl (List.mem_of_getElem? (i := 0) rfl))
 refine g_iinc X d22_32 (pc' := 35) (q := (1 : Int32)) (Ls' := #[.val (.ref a0), .val (.ref a1), .val (.ref a2), .val (.ref a0), .val (.int (3 : Int32)), .val (.int (2 : Int32)), .val (.int (0 : Int32))]) rfl rfl rfl rfl ?_
 refine g_goto X d22_35 (pc' := 9) (by decide) (by decide) ?_
 refine g_iload X d22_9 (pc' := 11) rfl rfl ?_
 refine g_iload X d22_11 (pc' := 13) rfl rfl ?_
 refine g_icN X d22_13 (tlt (show (2 : Int32) < (3 : Int32) from (by decide))).2.1 (pc' := 16) rfl ?_
 refine g_aloadN X d22_16 (pc' := 17) rfl rfl rfl ?_
 refine g_iload X d22_17 (pc' := 19) rfl rfl ?_
 refine g_iaload X qb 2 d22_19 (pc' := 20) rfl (by decide) (by decide) rfl ?_
 refine g_istore X d22_20 (pc' := 22) (Ls' := #[.val (.ref a0), .val (.ref a1), .val (.ref a2), .val (.ref a0), .val (.int (3 : Int32)), .val (.int (2 : Int32)), .val (.int (0 : Int32))]) rfl rfl ?_
 refine g_aloadN X d22_22 (pc' := 23) rfl rfl rfl ?_
 refine g_iload X d22_23 (pc' := 25) rfl rfl ?_
 refine g_iconst X (1 : Int32) d22_25 (pc' := 26) rfl rfl ?_
 refine g_iadd X d22_26 (pc' := 27) rfl ?_
 refine Go.lit32 (z := (1 : Int32)) (by decide) ?_
 refine g_dup2 X d22_27 (pc' := 28) rfl rfl rfl ?_
 refine g_iaload X qa 1 d22_28 (pc' := 29) rfl (by decide) (by decide) rfl ?_
 refine g_iconst X (1 : Int32) d22_29 (pc' := 30) rfl rfl ?_
 refine g_iadd X d22_30 (pc' := 31) rfl ?_
 refine Go.lit32 (z := (3 : Int32)) (by decide) ?_
 refine g_iastore X qa 1 d22_31 (pc' := 32) rfl (by decide) (by decide) (Nat.le_of_ble_eq_true rfl) ?_
 intro T h X W qa
 replace qa : Av Z h a1 .int [(.int (0 : Int32)), (.int (3 : Int32)), (.int (0 : Int32))] := qa
 replace qb := qb.other W qh
 replace qc := qc.other W (Ne.symm qf)
 replace Z0 := Nat.le_trans Z0 (Nat.le_of_eq W.size.symm)
 replace N := Fr.snoc X.1 N qg
 replace Kp := Kp.wr W (Or.inl (List.mem_of_getElem? (i := 0) rfl))
 refine g_iinc X d22_32 (pc' := 35) (q := (1 : Int32)) (Ls' := #[.val (.ref a0), .val (.ref a1), .val (.ref a2), .val (.ref a0), .val (.int (3 : Int32)), .val (.int (3 : Int32)), .val (.int (0 : Int32))]) rfl rfl rfl rfl ?_
 refine g_goto X d22_35 (pc' := 9) (by decide) (by decide) ?_
 refine g_iload X d22_9 (pc' := 11) rfl rfl ?_
 refine g_iload X d22_11 (pc' := 13) rfl rfl ?_
 refine g_icY X d22_13 (flt (show ¬ ((3 : Int32) < (3 : Int32)) from (by decide))).2.1 (pc' := 38) (by decide) (by decide) ?_
 refine g_iconst X (1 : Int32) d22_38 (pc' := 39) rfl rfl ?_
 refine g_istoreN X d22_39 (pc' := 40) (Ls' := #[.val (.ref a0), .val (.ref a1), .val (.ref a2), .val (.int (1 : Int32)), .val (.int (3 : Int32)), .val (.int (3 : Int32)), .val (.int (0 : Int32))]) rfl rfl ?_
 refine g_iloadN X d22_40 (pc' := 41) rfl rfl ?_
 refine g_aloadN X d22_41 (pc' := 42) rfl rfl rfl ?_
 refine g_arraylength X qa d22_42 (pc' := 43) rfl (z := (3 : Int32)) rfl ?_
 refine g_icN X d22_43 (tlt (show (1 : Int32) < (3 : Int32) from (by decide))).2.1 (pc' := 46) rfl ?_
 refine g_aloadN X d22_46 (pc' := 47) rfl rfl rfl ?_
 refine g_iloadN X d22_47 (pc' := 48) rfl rfl ?_
 refine g_dup2 X d22_48 (pc' := 49) rfl rfl rfl ?_
 refine g_iaload X qa 1 d22_49 (pc' := 50) rfl (by decide) (by decide) rfl ?_
 refine g_aloadN X d22_50 (pc' := 51) rfl rfl rfl ?_
 refine g_iloadN X d22_51 (pc' := 52) rfl rfl ?_
 refine g_iconst X (1 : Int32) d22_52 (pc' := 53) rfl rfl ?_
 refine g_isub X d22_53 (pc' := 54) rfl ?_
 refine Go.lit32 (z := (0 : Int32)) (by decide) ?_
 refine g_iaload X qa 0 d22_54 (pc' := 55) rfl (by decide) (by decide) rfl ?_
 refine g_iadd X d22_55 (pc' := 56) rfl ?_
 refine Go.lit32 (z := (3 : Int32)) (by decide) ?_
 refine g_iastore X qa 1 d22_56 (pc' := 57) rfl (by decide) (by decide) (Nat.le_of_ble_eq_true rfl) ?_
 intro T h X W qa
 replace qa : Av Z h a1 .int [(.int (0 : Int32)), (.int (3 : Int32)), (.int (0 : Int32))] := qa
 replace qb := qb.other W qh
 replace qc := qc.other W (Ne.symm qf)
 replace Z0 := Nat.le_trans Z0 (Nat.le_of_eq W.size.symm)
 replace N := Fr.snoc X.1 N qg
 replace Kp := Kp.wr W (Or.inl (List.mem_of_getElem? (i := 0) rfl))
 refine g_iinc X d22_57 (pc' := 60) (q := (1 : Int32)) (Ls' := #[.val (.ref a0), .val (.ref a1), .val (.ref a2), .val (.int (2 : Int32)), .val (.int (3 : Int32)), .val (.int (3 : Int32)), .val (.int (0 : Int32))]) rfl rfl rfl rfl ?_
 refine g_goto X d22_60 (pc' := 40) (by decide) (by decide) ?_
 refine g_iloadN X d22_40 (pc' := 41) rfl rfl ?_
 refine g_aloadN X d22_41 (pc' := 42) rfl rfl rfl ?_
 refine g_arraylength X qa d22_42 (pc' := 43) rfl (z := (3 : Int32)) rfl ?_
 refine g_icN X d22_43 (tlt (show (2 : Int32) < (3 : Int32) from (by decide))).2.1 (pc' := 46) rfl ?_
 refine g_aloadN X d22_46 (pc' := 47) rfl rfl rfl ?_
 refine g_iloadN X d22_47 (pc' := 48) rfl rfl ?_
 refine g_dup2 X d22_48 (pc' := 49) rfl rfl rfl ?_
 refine g_iaload X qa 2 d22_49 (pc' := 50) rfl (by decide) (by decide) rfl ?_
 refine g_aloadN X d22_50 (pc' := 51) rfl rfl rfl ?_
 refine g_iloadN X d22_51 (pc' := 52) rfl rfl ?_
 refine g_iconst X (1 : Int32) d22_52 (pc' := 53) rfl rfl ?_
 refine g_isub X d22_53 (pc' := 54) rfl ?_
 refine Go.lit32 (z := (1 : Int32)) (by decide) ?_
 refine g_iaload X qa 1 d22_54 (pc' := 55) rfl (by decide) (by decide) rfl ?_
 refine g_iadd X d22_55 (pc' := 56) rfl ?_
 refine Go.lit32 (z := (3 : Int32)) (by decide) ?_
 refine g_iastore X qa 2 d22_56 (pc' := 57) rfl (by decide) (by decide) (Nat.le_of_ble_eq_true rfl) ?_
 intro T h X W qa
 replace qa : Av Z h a1 .int [(.int (0 : Int32)), (.int (3 : Int32)), (.int (3 : Int32))] := qa
 replace qb := qb.other W qh
 replace qc := qc.other W (Ne.symm qf)
 replace Z0 := Nat.le_trans Z0 (Nat.le_of_eq W.size.symm)
 replace N := Fr.snoc X.1 N qg
 replace Kp := Kp.wr W (Or.inl (List.mem_of_getElem? (i := 0) rfl))
 refine g_iinc X d22_57 (pc' := 60) (q := (1 : Int32)) (Ls' := #[.val (.ref a0), .val (.ref a1), .val (.ref a2), .val (.int (3 : Int32)), .val (.int (3 : Int32)), .val (.int (3 : Int32)), .val (.int (0 : Int32))]) rfl rfl rfl rfl ?_
 refine g_goto X d22_60 (pc' := 40) (by decide) (by decide) ?_
 refine g_iloadN X d22_40 (pc' := 41) rfl rfl ?_
 refine g_aloadN X d22_41 (pc' := 42) rfl rfl rfl ?_
 refine g_arraylength X qa d22_42 (pc' := 43) rfl (z := (3 : Int32)) rfl ?_
 refine g_icY X d22_43 (flt (show ¬ ((3 : Int32) < (3 : Int32)) from (by decide))).2.1 (pc' := 63) (by decide) (by decide) ?_
 refine g_aloadN X d22_63 (pc' := 64) rfl rfl rfl ?_
 refine g_aloadN X d22_64 (pc' := 65) rfl rfl rfl ?_
 refine g_arraylength X qa d22_65 (pc' := 66) rfl (z := (3 : Int32)) rfl ?_
 refine g_iconst X (1 : Int32) d22_66 (pc' := 67) rfl rfl ?_
 refine g_isub X d22_67 (pc' := 68) rfl ?_
 refine Go.lit32 (z := (2 : Int32)) (by decide) ?_
 refine g_static X (W := 0) [(.ref a1), (.int (2 : Int32))] [] (tb hw 143 rfl) (tb hw 144 rfl) (tb hw 115 rfl) (tb hw 145 rfl) (rCof l Z aa hw [] a1 (0 : Int32) (3 : Int32) (3 : Int32) _ n0 Z0 qa) d22_68 (pc' := 71) rfl (by decide) (by decide) (by decide) rfl rfl rfl (lenOf pd_14 rfl) (Nat.le_refl _) (by decide) (by decide) ?_
 intro v T L X q
 obtain ⟨qe, rfl, Nq, Kq, qj, qm, qq, qd⟩ := q
 have qn : a0 ≠ qe := Nat.ne_of_lt (Nat.lt_of_lt_of_le qb.lt qj)
 have qo : a1 ≠ qe := Nat.ne_of_lt (Nat.lt_of_lt_of_le qa.lt qj)
 have qi : a2 ≠ qe := Nat.ne_of_lt (Nat.lt_of_lt_of_le qc.lt qj)
 have qp : h0.size ≤ qe := Nat.le_trans Kp.1 qj
 replace N := N.app Nq
 replace qb := qb.keep Kq nin0
 replace qa := qa.keep Kq nin0
 replace qc := qc.keep Kq nin0
 replace Z0 := Nat.le_trans Z0 Kq.1
 replace Kp := Kp.trans Kq all0
 show Go p e below _ (T.setTop (mkF m 71 _ [(.ref qe)]))
 refine g_astoreN X d22_71 (pc' := 72) (Ls' := #[.val (.ref a0), .val (.ref a1), .val (.ref a2), .val (.ref qe), .val (.int (3 : Int32)), .val (.int (3 : Int32)), .val (.int (0 : Int32))]) rfl rfl rfl ?_
 refine g_iconst X (0 : Int32) d22_72 (pc' := 73) rfl rfl ?_
 refine g_istore X d22_73 (pc' := 75) (Ls' := #[.val (.ref a0), .val (.ref a1), .val (.ref a2), .val (.ref qe), .val (.int (0 : Int32)), .val (.int (3 : Int32)), .val (.int (0 : Int32))]) rfl rfl ?_
 refine g_iload X d22_75 (pc' := 77) rfl rfl ?_
 refine g_aloadN X d22_77 (pc' := 78) rfl rfl rfl ?_
 refine g_arraylength X qb d22_78 (pc' := 79) rfl (z := (3 : Int32)) rfl ?_
 refine g_icN X d22_79 (tlt (show (0 : Int32) < (3 : Int32) from (by decide))).2.1 (pc' := 82) rfl ?_
 refine g_aloadN X d22_82 (pc' := 83) rfl rfl rfl ?_
 refine g_aloadN X d22_83 (pc' := 84) rfl rfl rfl ?_
 refine g_aloadN X d22_84 (pc' := 85) rfl rfl rfl ?_
 refine g_iload X d22_85 (pc' := 87) rfl rfl ?_
 refine g_iaload X qb 0 d22_87 (pc' := 88) rfl (by decide) (by decide) rfl ?_
 refine g_dup2 X d22_88 (pc' := 89) rfl rfl rfl ?_
 refine g_iaload X qd 0 d22_89 (pc' := 90) rfl (by decide) (by decide) rfl ?_
 refine g_dup_x2 X d22_90 (pc' := 91) rfl rfl rfl rfl ?_
 refine g_iconst X (1 : Int32) d22_91 (pc' := 92) rfl rfl ?_
 refine g_iadd X d22_92 (pc' := 93) rfl ?_
 refine Go.lit32 (z := (1 : Int32)) (by decide) ?_
 refine g_iastore X qd 0 d22_93 (pc' := 94) rfl (by decide) (by decide) (Nat.le_of_ble_eq_true rfl) ?_
 intro T h X W qd
 replace qd : Av Z h qe .int [(.int (1 : Int32)), (.int (3 : Int32))] := qd
 replace qb := qb.other W qn
 replace qa := qa.other W qo
 replace qc := qc.other W qi
 replace Z0 := Nat.le_trans Z0 (Nat.le_of_eq W.size.symm)
 replace N := Fr.snoc X.1 N qm
 replace Kp := Kp.wr W (Or.inr qp)
 refine g_iload X d22_94 (pc' := 96) rfl rfl ?_
 refine g_iastore X qc 0 d22_96 (pc' := 97) rfl (by decide) (by decide) (Nat.le_of_ble_eq_true rfl) ?_
 intro T h X W qc
 replace qc : Av Z h a2 .int [(.int (0 : Int32)), (.int (0 : Int32)), (.int (0 : Int32))] := qc
 replace qb := qb.other W ql
 replace qa := qa.other W qf
 replace qd := qd.other W (Ne.symm qi)
 replace Z0 := Nat.le_trans Z0 (Nat.le_of_eq W.size.symm)
 replace N := Fr.snoc X.1 N qk
 replace Kp := Kp.wr W (Or.inl (List.mem_of_getElem? (i := 1) rfl))
 refine g_iinc X d22_97 (pc' := 100) (q := (1 : Int32)) (Ls' := #[.val (.ref a0), .val (.ref a1), .val (.ref a2), .val (.ref qe), .val (.int (1 : Int32)), .val (.int (3 : Int32)), .val (.int (0 : Int32))]) rfl rfl rfl rfl ?_
 refine g_goto X d22_100 (pc' := 75) (by decide) (by decide) ?_
 refine g_iload X d22_75 (pc' := 77) rfl rfl ?_
 refine g_aloadN X d22_77 (pc' := 78) rfl rfl rfl ?_
 refine g_arraylength X qb d22_78 (pc' := 79) rfl (z := (3 : Int32)) rfl ?_
 refine g_icN X d22_79 (tlt (show (1 : Int32) < (3 : Int32) from (by decide))).2.1 (pc' := 82) rfl ?_
 refine g_aloadN X d22_82 (pc' := 83) rfl rfl rfl ?_
 refine g_aloadN X d22_83 (pc' := 84) rfl rfl rfl ?_
 refine g_aloadN X d22_84 (pc' := 85) rfl rfl rfl ?_
 refine g_iload X d22_85 (pc' := 87) rfl rfl ?_
 refine g_iaload X qb 1 d22_87 (pc' := 88) rfl (by decide) (by decide) rfl ?_
 refine g_dup2 X d22_88 (pc' := 89) rfl rfl rfl ?_
 refine g_iaload X qd 0 d22_89 (pc' := 90) rfl (by decide) (by decide) rfl ?_
 refine g_dup_x2 X d22_90 (pc' := 91) rfl rfl rfl rfl ?_
 refine g_iconst X (1 : Int32) d22_91 (pc' := 92) rfl rfl ?_
 refine g_iadd X d22_92 (pc' := 93) rfl ?_
 refine Go.lit32 (z := (2 : Int32)) (by decide) ?_
 refine g_iastore X qd 0 d22_93 (pc' := 94) rfl (by decide) (by decide) (Nat.le_of_ble_eq_true rfl) ?_
 intro T h X W qd
 replace qd : Av Z h qe .int [(.int (2 : Int32)), (.int (3 : Int32))] := qd
 replace qb := qb.other W qn
 replace qa := qa.other W qo
 replace qc := qc.other W qi
 replace Z0 := Nat.le_trans Z0 (Nat.le_of_eq W.size.symm)
 replace N := Fr.snoc X.1 N qm
 replace Kp := Kp.wr W (Or.inr qp)
 refine g_iload X d22_94 (pc' := 96) rfl rfl ?_
 refine g_iastore X qc 1 d22_96 (pc' := 97) rfl (by decide) (by decide) (Nat.le_of_ble_eq_true rfl) ?_
 intro T h X W qc
 replace qc : Av Z h a2 .int [(.int (0 : Int32)), (.int (1 : Int32)), (.int (0 : Int32))] := qc
 replace qb := qb.other W ql
 replace qa := qa.other W qf
 replace qd := qd.other W (Ne.symm qi)
 replace Z0 := Nat.le_trans Z0 (Nat.le_of_eq W.size.symm)
 replace N := Fr.snoc X.1 N qk
 replace Kp := Kp.wr W (Or.inl (List.mem_of_getElem? (i := 1) rfl))
 refine g_iinc X d22_97 (pc' := 100) (q := (1 : Int32)) (Ls' := #[.val (.ref a0), .val (.ref a1), .val (.ref a2), .val (.ref qe), .val (.int (2 : Int32)), .val (.int (3 : Int32)), .val (.int (0 : Int32))]) rfl rfl rfl rfl ?_
 refine g_goto X d22_100 (pc' := 75) (by decide) (by decide) ?_
 refine g_iload X d22_75 (pc' := 77) rfl rfl ?_
 refine g_aloadN X d22_77 (pc' := 78) rfl rfl rfl ?_
 refine g_arraylength X qb d22_78 (pc' := 79) rfl (z := (3 : Int32)) rfl ?_
 refine g_icN X d22_79 (tlt (show (2 : Int32) < (3 : Int32) from (by decide))).2.1 (pc' := 82) rfl ?_
 refine g_aloadN X d22_82 (pc' := 83) rfl rfl rfl ?_
 refine g_aloadN X d22_83 (pc' := 84) rfl rfl rfl ?_
 refine g_aloadN X d22_84 (pc' := 85) rfl rfl rfl ?_
 refine g_iload X d22_85 (pc' := 87) rfl rfl ?_
 refine g_iaload X qb 2 d22_87 (pc' := 88) rfl (by decide) (by decide) rfl ?_
 refine g_dup2 X d22_88 (pc' := 89) rfl rfl rfl ?_
 refine g_iaload X qd 0 d22_89 (pc' := 90) rfl (by decide) (by decide) rfl ?_
 refine g_dup_x2 X d22_90 (pc' := 91) rfl rfl rfl rfl ?_
 refine g_iconst X (1 : Int32) d22_91 (pc' := 92) rfl rfl ?_
 refine g_iadd X d22_92 (pc' := 93) rfl ?_
 refine Go.lit32 (z := (3 : Int32)) (by decide) ?_
 refine g_iastore X qd 0 d22_93 (pc' := 94) rfl (by decide) (by decide) (Nat.le_of_ble_eq_true rfl) ?_
 intro T h X W qd
 replace qb := qb.other W qn
 replace qa := qa.other W qo
 replace qc := qc.other W qi
 replace Z0 := Nat.le_trans Z0 (Nat.le_of_eq W.size.symm)
 replace N := Fr.snoc X.1 N qm
 replace Kp := Kp.wr W (Or.inr qp)
 refine g_iload X d22_94 (pc' := 96) rfl rfl ?_
 refine g_iastore X qc 2 d22_96 (pc' := 97) rfl (by decide) (by decide) (Nat.le_of_ble_eq_true rfl) ?_
 intro T h X W qc
 replace qc : Av Z h a2 .int [(.int (0 : Int32)), (.int (1 : Int32)), (.int (2 : Int32))] := qc
 replace qb := qb.other W ql
 replace qa := qa.other W qf
 replace Z0 := Nat.le_trans Z0 (Nat.le_of_eq W.size.symm)
 replace N := Fr.snoc X.1 N qk
 replace Kp := Kp.wr W (Or.inl (List.mem_of_getElem? (i := 1) rfl))
 refine g_iinc X d22_97 (pc' := 100) (q := (1 : Int32)) (Ls' := #[.val (.ref a0), .val (.ref a1), .val (.ref a2), .val (.ref qe), .val (.int (3 : Int32)), .val (.int (3 : Int32)), .val (.int (0 : Int32))]) rfl rfl rfl rfl ?_
 refine g_goto X d22_100 (pc' := 75) (by decide) (by decide) ?_
 refine g_iload X d22_75 (pc' := 77) rfl rfl ?_
 refine g_aloadN X d22_77 (pc' := 78) rfl rfl rfl ?_
 refine g_arraylength X qb d22_78 (pc' := 79) rfl (z := (3 : Int32)) rfl ?_
 refine g_icY X d22_79 (flt (show ¬ ((3 : Int32) < (3 : Int32)) from (by decide))).2.1 (pc' := 103) (by decide) (by decide) ?_
 refine g_return X d22_103 hret hlk (by decide) (by decide) ?_
 exact ⟨rfl, N, Kp, qa, qc⟩
theorem ef_rGr1 (m : MethodId) (x0 : Addr) (x1 : Addr) (x2 : Addr) : entryFrame m #[(.ref x0), (.ref x1), (.ref x2)] 7 = mkF m 0 #[.val (.ref x0), .val (.ref x1), .val (.ref x2), .unset, .unset, .unset, .unset] [] := by first | (simp [entryFrame, mkF, argsToLocals, Value.category]; done) | rfl
set_option maxRecDepth 65536 in
set_option maxHeartbeats 40000000 in
theorem rGr1 (l : Launch) (Z : State) (aa : Array Value) (hw : ∀ d ∈ tables_1, d.before aa Z = true) (ws : List Jvm.Cond) (a0 : Addr) (a1 : Addr) (a2 : Addr) (h0 : Heap) (n0 : Nat) (Z0 : n0 ≤ h0.size) (qb : Av Z h0 a0 .int [(.int (1 : Int32)), (.int (0 : Int32)), (.int (0 : Int32))]) (qa : Av Z h0 a1 .int [(.int (0 : Int32)), (.int (0 : Int32)), (.int (0 : Int32))]) (qc : Av Z h0 a2 .int [(.int (0 : Int32)), (.int (0 : Int32)), (.int (0 : Int32))]) (qg : n0 ≤ a1) (qk : n0 ≤ a2) (qh : a0 ≠ a1) (ql : a0 ≠ a2) (qf : a1 ≠ a2) :
    Rm l Z (⟨"com/example/pathlattice/pathlattice/graph/Edges", "group", "([I[I[I)V"⟩ : MethodName) prog_18_method_2_code 7 none ws ({ frames := 2, cells := 1, slots := 2, locals := 32 } : Room) #[(.ref a0), (.ref a1), (.ref a2)] h0 (fun v h L => v = none ∧ Fr n0 L ∧ Keep h0 h [a1, a2] ∧ Av Z h a1 .int [(.int (0 : Int32)), (.int (2 : Int32)), (.int (3 : Int32))] ∧ Av Z h a2 .int [(.int (1 : Int32)), (.int (2 : Int32)), (.int (0 : Int32))]) := by
 refine Rm.of (plainFor_of_name pn_8) ?_
 intro p e s m below meth cc T X hnm hret hlk
 refine Go.at_ (ef_rGr1 m a0 a1 a2) ?_
 have N := Fr.nil n0
 have Kp := Keep.refl h0 [a1, a2]
 refine g_aloadN X d22_0 (pc' := 1) rfl rfl rfl ?_
 refine g_astoreN X d22_1 (pc' := 2) (Ls' := #[.val (.ref a0), .val (.ref a1), .val (.ref a2), .val (.ref a0), .unset, .unset, .unset]) rfl rfl rfl ?_
 refine g_aloadN X d22_2 (pc' := 3) rfl rfl rfl ?_
 refine g_arraylength X qb d22_3 (pc' := 4) rfl (z := (3 : Int32)) rfl ?_
 refine g_istore X d22_4 (pc' := 6) (Ls' := #[.val (.ref a0), .val (.ref a1), .val (.ref a2), .val (.ref a0), .val (.int (3 : Int32)), .unset, .unset]) rfl rfl ?_
 refine g_iconst X (0 : Int32) d22_6 (pc' := 7) rfl rfl ?_
 refine g_istore X d22_7 (pc' := 9) (Ls' := #[.val (.ref a0), .val (.ref a1), .val (.ref a2), .val (.ref a0), .val (.int (3 : Int32)), .val (.int (0 : Int32)), .unset]) rfl rfl ?_
 refine g_iload X d22_9 (pc' := 11) rfl rfl ?_
 refine g_iload X d22_11 (pc' := 13) rfl rfl ?_
 refine g_icN X d22_13 (tlt (show (0 : Int32) < (3 : Int32) from (by decide))).2.1 (pc' := 16) rfl ?_
 refine g_aloadN X d22_16 (pc' := 17) rfl rfl rfl ?_
 refine g_iload X d22_17 (pc' := 19) rfl rfl ?_
 refine g_iaload X qb 0 d22_19 (pc' := 20) rfl (by decide) (by decide) rfl ?_
 refine g_istore X d22_20 (pc' := 22) (Ls' := #[.val (.ref a0), .val (.ref a1), .val (.ref a2), .val (.ref a0), .val (.int (3 : Int32)), .val (.int (0 : Int32)), .val (.int (1 : Int32))]) rfl rfl ?_
 refine g_aloadN X d22_22 (pc' := 23) rfl rfl rfl ?_
 refine g_iload X d22_23 (pc' := 25) rfl rfl ?_
 refine g_iconst X (1 : Int32) d22_25 (pc' := 26) rfl rfl ?_
 refine g_iadd X d22_26 (pc' := 27) rfl ?_
 refine Go.lit32 (z := (2 : Int32)) (by decide) ?_
 refine g_dup2 X d22_27 (pc' := 28) rfl rfl rfl ?_
 refine g_iaload X qa 2 d22_28 (pc' := 29) rfl (by decide) (by decide) rfl ?_
 refine g_iconst X (1 : Int32) d22_29 (pc' := 30) rfl rfl ?_
 refine g_iadd X d22_30 (pc' := 31) rfl ?_
 refine Go.lit32 (z := (1 : Int32)) (by decide) ?_
 refine g_iastore X qa 2 d22_31 (pc' := 32) rfl (by decide) (by decide) (Nat.le_of_ble_eq_true rfl) ?_
 intro T h X W qa
 replace qa : Av Z h a1 .int [(.int (0 : Int32)), (.int (0 : Int32)), (.int (1 : Int32))] := qa
 replace qb := qb.other W qh
 replace qc := qc.other W (Ne.symm qf)
 replace Z0 := Nat.le_trans Z0 (Nat.le_of_eq W.size.symm)
 replace N := Fr.snoc X.1 N qg
 replace Kp := Kp.wr W (Or.inl (List.mem_of_getElem? (i := 0) rfl))
 refine g_iinc X d22_32 (pc' := 35) (q := (1 : Int32)) (Ls' := #[.val (.ref a0), .val (.ref a1), .val (.ref a2), .val (.ref a0), .val (.int (3 : Int32)), .val (.int (1 : Int32)), .val (.int (1 : Int32))]) rfl rfl rfl rfl ?_
 refine g_goto X d22_35 (pc' := 9) (by decide) (by decide) ?_
 refine g_iload X d22_9 (pc' := 11) rfl rfl ?_
 refine g_iload X d22_11 (pc' := 13) rfl rfl ?_
 refine g_icN X d22_13 (tlt (show (1 : Int32) < (3 : Int32) from (by decide))).2.1 (pc' := 16) rfl ?_
 refine g_aloadN X d22_16 (pc' := 17) rfl rfl rfl ?_
 refine g_iload X d22_17 (pc' := 19) rfl rfl ?_
 refine g_iaload X qb 1 d22_19 (pc' := 20) rfl (by decide) (by decide) rfl ?_
 refine g_istore X d22_20 (pc' := 22) (Ls' := #[.val (.ref a0), .val (.ref a1), .val (.ref a2), .val (.ref a0), .val (.int (3 : Int32)), .val (.int (1 : Int32)), .val (.int (0 : Int32))]) rfl rfl ?_
 refine g_aloadN X d22_22 (pc' := 23) rfl rfl rfl ?_
 refine g_iload X d22_23 (pc' := 25) rfl rfl ?_
 refine g_iconst X (1 : Int32) d22_25 (pc' := 26) rfl rfl ?_
 refine g_iadd X d22_26 (pc' := 27) rfl ?_
 refine Go.lit32 (z := (1 : Int32)) (by decide) ?_
 refine g_dup2 X d22_27 (pc' := 28) rfl rfl rfl ?_
 refine g_iaload X qa 1 d22_28 (pc' := 29) rfl (by decide) (by decide) rfl ?_
 refine g_iconst X (1 : Int32) d22_29 (pc' := 30) rfl rfl ?_
 refine g_iadd X d22_30 (pc' := 31) rfl ?_
 refine Go.lit32 (z := (1 : Int32)) (by decide) ?_
 refine g_iastore X qa 1 d22_31 (pc' := 32) rfl (by decide) (by decide) (Nat.le_of_ble_eq_true rfl) ?_
 intro T h X W qa
 replace qa : Av Z h a1 .int [(.int (0 : Int32)), (.int (1 : Int32)), (.int (1 : Int32))] := qa
 replace qb := qb.other W qh
 replace qc := qc.other W (Ne.symm qf)
 replace Z0 := Nat.le_trans Z0 (Nat.le_of_eq W.size.symm)
 replace N := Fr.snoc X.1 N qg
 replace Kp := Kp.wr W (Or.inl (List.mem_of_getElem? (i := 0) rfl))
 refine g_iinc X d22_32 (pc' := 35) (q := (1 : Int32)) (Ls' := #[.val (.ref a0), .val (.ref a1), .val (.ref a2), .val (.ref a0), .val (.int (3 : Int32)), .val (.int (2 : Int32)), .val (.int (0 : Int32))]) rfl rfl rfl rfl ?_
 refine g_goto X d22_35 (pc' := 9) (by decide) (by decide) ?_
 refine g_iload X d22_9 (pc' := 11) rfl rfl ?_
 refine g_iload X d22_11 (pc' := 13) rfl rfl ?_
 refine g_icN X d22_13 (tlt (show (2 : Int32) < (3 : Int32) from (by decide))).2.1 (pc' := 16) rfl ?_
 refine g_aloadN X d22_16 (pc' := 17) rfl rfl rfl ?_
 refine g_iload X d22_17 (pc' := 19) rfl rfl ?_
 refine g_iaload X qb 2 d22_19 (pc' := 20) rfl (by decide) (by decide) rfl ?_
 refine g_istore X d22_20 (pc' := 22) (Ls' := #[.val (.ref a0), .val (.ref a1), .val (.ref a2), .val (.ref a0), .val (.int (3 : Int32)), .val (.int (2 : Int32)), .val (.int (0 : Int32))]) rfl rfl ?_
 refine g_aloadN X d22_22 (pc' := 23) rfl rfl rfl ?_
 refine g_iload X d22_23 (pc' := 25) rfl rfl ?_
 refine g_iconst X (1 : Int32) d22_25 (pc' := 26) rfl rfl ?_
 refine g_iadd X d22_26 (pc' := 27) rfl ?_
 refine Go.lit32 (z := (1 : Int32)) (by decide) ?_
 refine g_dup2 X d22_27 (pc' := 28) rfl rfl rfl ?_
 refine g_iaload X qa 1 d22_28 (pc' := 29) rfl (by decide) (by decide) rfl ?_
 refine g_iconst X (1 : Int32) d22_29 (pc' := 30) rfl rfl ?_
 refine g_iadd X d22_30 (pc' := 31) rfl ?_
 refine Go.lit32 (z := (2 : Int32)) (by decide) ?_
 refine g_iastore X qa 1 d22_31 (pc' := 32) rfl (by decide) (by decide) (Nat.le_of_ble_eq_true rfl) ?_
 intro T h X W qa
 replace qa : Av Z h a1 .int [(.int (0 : Int32)), (.int (2 : Int32)), (.int (1 : Int32))] := qa
 replace qb := qb.other W qh
 replace qc := qc.other W (Ne.symm qf)
 replace Z0 := Nat.le_trans Z0 (Nat.le_of_eq W.size.symm)
 replace N := Fr.snoc X.1 N qg
 replace Kp := Kp.wr W (Or.inl (List.mem_of_getElem? (i := 0) rfl))
 refine g_iinc X d22_32 (pc' := 35) (q := (1 : Int32)) (Ls' := #[.val (.ref a0), .val (.ref a1), .val (.ref a2), .val (.ref a0), .val (.int (3 : Int32)), .val (.int (3 : Int32)), .val (.int (0 : Int32))]) rfl rfl rfl rfl ?_
 refine g_goto X d22_35 (pc' := 9) (by decide) (by decide) ?_
 refine g_iload X d22_9 (pc' := 11) rfl rfl ?_
 refine g_iload X d22_11 (pc' := 13) rfl rfl ?_
 refine g_icY X d22_13 (flt (show ¬ ((3 : Int32) < (3 : Int32)) from (by decide))).2.1 (pc' := 38) (by decide) (by decide) ?_
 refine g_iconst X (1 : Int32) d22_38 (pc' := 39) rfl rfl ?_
 refine g_istoreN X d22_39 (pc' := 40) (Ls' := #[.val (.ref a0), .val (.ref a1), .val (.ref a2), .val (.int (1 : Int32)), .val (.int (3 : Int32)), .val (.int (3 : Int32)), .val (.int (0 : Int32))]) rfl rfl ?_
 refine g_iloadN X d22_40 (pc' := 41) rfl rfl ?_
 refine g_aloadN X d22_41 (pc' := 42) rfl rfl rfl ?_
 refine g_arraylength X qa d22_42 (pc' := 43) rfl (z := (3 : Int32)) rfl ?_
 refine g_icN X d22_43 (tlt (show (1 : Int32) < (3 : Int32) from (by decide))).2.1 (pc' := 46) rfl ?_
 refine g_aloadN X d22_46 (pc' := 47) rfl rfl rfl ?_
 refine g_iloadN X d22_47 (pc' := 48) rfl rfl ?_
 refine g_dup2 X d22_48 (pc' := 49) rfl rfl rfl ?_
 refine g_iaload X qa 1 d22_49 (pc' := 50) rfl (by decide) (by decide) rfl ?_
 refine g_aloadN X d22_50 (pc' := 51) rfl rfl rfl ?_
 refine g_iloadN X d22_51 (pc' := 52) rfl rfl ?_
 refine g_iconst X (1 : Int32) d22_52 (pc' := 53) rfl rfl ?_
 refine g_isub X d22_53 (pc' := 54) rfl ?_
 refine Go.lit32 (z := (0 : Int32)) (by decide) ?_
 refine g_iaload X qa 0 d22_54 (pc' := 55) rfl (by decide) (by decide) rfl ?_
 refine g_iadd X d22_55 (pc' := 56) rfl ?_
 refine Go.lit32 (z := (2 : Int32)) (by decide) ?_
 refine g_iastore X qa 1 d22_56 (pc' := 57) rfl (by decide) (by decide) (Nat.le_of_ble_eq_true rfl) ?_
 intro T h X W qa
 replace qa : Av Z h a1 .int [(.int (0 : Int32)), (.int (2 : Int32)), (.int (1 : Int32))] := qa
 replace qb := qb.other W qh
 replace qc := qc.other W (Ne.symm qf)
 replace Z0 := Nat.le_trans Z0 (Nat.le_of_eq W.size.symm)
 replace N := Fr.snoc X.1 N qg
 replace Kp := Kp.wr W (Or.inl (List.mem_of_getElem? (i := 0) rfl))
 refine g_iinc X d22_57 (pc' := 60) (q := (1 : Int32)) (Ls' := #[.val (.ref a0), .val (.ref a1), .val (.ref a2), .val (.int (2 : Int32)), .val (.int (3 : Int32)), .val (.int (3 : Int32)), .val (.int (0 : Int32))]) rfl rfl rfl rfl ?_
 refine g_goto X d22_60 (pc' := 40) (by decide) (by decide) ?_
 refine g_iloadN X d22_40 (pc' := 41) rfl rfl ?_
 refine g_aloadN X d22_41 (pc' := 42) rfl rfl rfl ?_
 refine g_arraylength X qa d22_42 (pc' := 43) rfl (z := (3 : Int32)) rfl ?_
 refine g_icN X d22_43 (tlt (show (2 : Int32) < (3 : Int32) from (by decide))).2.1 (pc' := 46) rfl ?_
 refine g_aloadN X d22_46 (pc' := 47) rfl rfl rfl ?_
 refine g_iloadN X d22_47 (pc' := 48) rfl rfl ?_
 refine g_dup2 X d22_48 (pc' := 49) rfl rfl rfl ?_
 refine g_iaload X qa 2 d22_49 (pc' := 50) rfl (by decide) (by decide) rfl ?_
 refine g_aloadN X d22_50 (pc' := 51) rfl rfl rfl ?_
 refine g_iloadN X d22_51 (pc' := 52) rfl rfl ?_
 refine g_iconst X (1 : Int32) d22_52 (pc' := 53) rfl rfl ?_
 refine g_isub X d22_53 (pc' := 54) rfl ?_
 refine Go.lit32 (z := (1 : Int32)) (by decide) ?_
 refine g_iaload X qa 1 d22_54 (pc' := 55) rfl (by decide) (by decide) rfl ?_
 refine g_iadd X d22_55 (pc' := 56) rfl ?_
 refine Go.lit32 (z := (3 : Int32)) (by decide) ?_
 refine g_iastore X qa 2 d22_56 (pc' := 57) rfl (by decide) (by decide) (Nat.le_of_ble_eq_true rfl) ?_
 intro T h X W qa
 replace qa : Av Z h a1 .int [(.int (0 : Int32)), (.int (2 : Int32)), (.int (3 : Int32))] := qa
 replace qb := qb.other W qh
 replace qc := qc.other W (Ne.symm qf)
 replace Z0 := Nat.le_trans Z0 (Nat.le_of_eq W.size.symm)
 replace N := Fr.snoc X.1 N qg
 replace Kp := Kp.wr W (Or.inl (List.mem_of_getElem? (i := 0) rfl))
 refine g_iinc X d22_57 (pc' := 60) (q := (1 : Int32)) (Ls' := #[.val (.ref a0), .val (.ref a1), .val (.ref a2), .val (.int (3 : Int32)), .val (.int (3 : Int32)), .val (.int (3 : Int32)), .val (.int (0 : Int32))]) rfl rfl rfl rfl ?_
 refine g_goto X d22_60 (pc' := 40) (by decide) (by decide) ?_
 refine g_iloadN X d22_40 (pc' := 41) rfl rfl ?_
 refine g_aloadN X d22_41 (pc' := 42) rfl rfl rfl ?_
 refine g_arraylength X qa d22_42 (pc' := 43) rfl (z := (3 : Int32)) rfl ?_
 refine g_icY X d22_43 (flt (show ¬ ((3 : Int32) < (3 : Int32)) from (by decide))).2.1 (pc' := 63) (by decide) (by decide) ?_
 refine g_aloadN X d22_63 (pc' := 64) rfl rfl rfl ?_
 refine g_aloadN X d22_64 (pc' := 65) rfl rfl rfl ?_
 refine g_arraylength X qa d22_65 (pc' := 66) rfl (z := (3 : Int32)) rfl ?_
 refine g_iconst X (1 : Int32) d22_66 (pc' := 67) rfl rfl ?_
 refine g_isub X d22_67 (pc' := 68) rfl ?_
 refine Go.lit32 (z := (2 : Int32)) (by decide) ?_
 refine g_static X (W := 0) [(.ref a1), (.int (2 : Int32))] [] (tb hw 143 rfl) (tb hw 144 rfl) (tb hw 115 rfl) (tb hw 145 rfl) (rCof l Z aa hw [] a1 (0 : Int32) (2 : Int32) (3 : Int32) _ n0 Z0 qa) d22_68 (pc' := 71) rfl (by decide) (by decide) (by decide) rfl rfl rfl (lenOf pd_14 rfl) (Nat.le_refl _) (by decide) (by decide) ?_
 intro v T L X q
 obtain ⟨qe, rfl, Nq, Kq, qj, qm, qq, qd⟩ := q
 have qn : a0 ≠ qe := Nat.ne_of_lt (Nat.lt_of_lt_of_le qb.lt qj)
 have qo : a1 ≠ qe := Nat.ne_of_lt (Nat.lt_of_lt_of_le qa.lt qj)
 have qi : a2 ≠ qe := Nat.ne_of_lt (Nat.lt_of_lt_of_le qc.lt qj)
 have qp : h0.size ≤ qe := Nat.le_trans Kp.1 qj
 replace N := N.app Nq
 replace qb := qb.keep Kq nin0
 replace qa := qa.keep Kq nin0
 replace qc := qc.keep Kq nin0
 replace Z0 := Nat.le_trans Z0 Kq.1
 replace Kp := Kp.trans Kq all0
 show Go p e below _ (T.setTop (mkF m 71 _ [(.ref qe)]))
 refine g_astoreN X d22_71 (pc' := 72) (Ls' := #[.val (.ref a0), .val (.ref a1), .val (.ref a2), .val (.ref qe), .val (.int (3 : Int32)), .val (.int (3 : Int32)), .val (.int (0 : Int32))]) rfl rfl rfl ?_
 refine g_iconst X (0 : Int32) d22_72 (pc' := 73) rfl rfl ?_
 refine g_istore X d22_73 (pc' := 75) (Ls' := #[.val (.ref a0), .val (.ref a1), .val (.ref a2), .val (.ref qe), .val (.int (0 : Int32)), .val (.int (3 : Int32)), .val (.int (0 : Int32))]) rfl rfl ?_
 refine g_iload X d22_75 (pc' := 77) rfl rfl ?_
 refine g_aloadN X d22_77 (pc' := 78) rfl rfl rfl ?_
 refine g_arraylength X qb d22_78 (pc' := 79) rfl (z := (3 : Int32)) rfl ?_
 refine g_icN X d22_79 (tlt (show (0 : Int32) < (3 : Int32) from (by decide))).2.1 (pc' := 82) rfl ?_
 refine g_aloadN X d22_82 (pc' := 83) rfl rfl rfl ?_
 refine g_aloadN X d22_83 (pc' := 84) rfl rfl rfl ?_
 refine g_aloadN X d22_84 (pc' := 85) rfl rfl rfl ?_
 refine g_iload X d22_85 (pc' := 87) rfl rfl ?_
 refine g_iaload X qb 0 d22_87 (pc' := 88) rfl (by decide) (by decide) rfl ?_
 refine g_dup2 X d22_88 (pc' := 89) rfl rfl rfl ?_
 refine g_iaload X qd 1 d22_89 (pc' := 90) rfl (by decide) (by decide) rfl ?_
 refine g_dup_x2 X d22_90 (pc' := 91) rfl rfl rfl rfl ?_
 refine g_iconst X (1 : Int32) d22_91 (pc' := 92) rfl rfl ?_
 refine g_iadd X d22_92 (pc' := 93) rfl ?_
 refine Go.lit32 (z := (3 : Int32)) (by decide) ?_
 refine g_iastore X qd 1 d22_93 (pc' := 94) rfl (by decide) (by decide) (Nat.le_of_ble_eq_true rfl) ?_
 intro T h X W qd
 replace qd : Av Z h qe .int [(.int (0 : Int32)), (.int (3 : Int32))] := qd
 replace qb := qb.other W qn
 replace qa := qa.other W qo
 replace qc := qc.other W qi
 replace Z0 := Nat.le_trans Z0 (Nat.le_of_eq W.size.symm)
 replace N := Fr.snoc X.1 N qm
 replace Kp := Kp.wr W (Or.inr qp)
 refine g_iload X d22_94 (pc' := 96) rfl rfl ?_
 refine g_iastore X qc 2 d22_96 (pc' := 97) rfl (by decide) (by decide) (Nat.le_of_ble_eq_true rfl) ?_
 intro T h X W qc
 replace qc : Av Z h a2 .int [(.int (0 : Int32)), (.int (0 : Int32)), (.int (0 : Int32))] := qc
 replace qb := qb.other W ql
 replace qa := qa.other W qf
 replace qd := qd.other W (Ne.symm qi)
 replace Z0 := Nat.le_trans Z0 (Nat.le_of_eq W.size.symm)
 replace N := Fr.snoc X.1 N qk
 replace Kp := Kp.wr W (Or.inl (List.mem_of_getElem? (i := 1) rfl))
 refine g_iinc X d22_97 (pc' := 100) (q := (1 : Int32)) (Ls' := #[.val (.ref a0), .val (.ref a1), .val (.ref a2), .val (.ref qe), .val (.int (1 : Int32)), .val (.int (3 : Int32)), .val (.int (0 : Int32))]) rfl rfl rfl rfl ?_
 refine g_goto X d22_100 (pc' := 75) (by decide) (by decide) ?_
 refine g_iload X d22_75 (pc' := 77) rfl rfl ?_
 refine g_aloadN X d22_77 (pc' := 78) rfl rfl rfl ?_
 refine g_arraylength X qb d22_78 (pc' := 79) rfl (z := (3 : Int32)) rfl ?_
 refine g_icN X d22_79 (tlt (show (1 : Int32) < (3 : Int32) from (by decide))).2.1 (pc' := 82) rfl ?_
 refine g_aloadN X d22_82 (pc' := 83) rfl rfl rfl ?_
 refine g_aloadN X d22_83 (pc' := 84) rfl rfl rfl ?_
 refine g_aloadN X d22_84 (pc' := 85) rfl rfl rfl ?_
 refine g_iload X d22_85 (pc' := 87) rfl rfl ?_
 refine g_iaload X qb 1 d22_87 (pc' := 88) rfl (by decide) (by decide) rfl ?_
 refine g_dup2 X d22_88 (pc' := 89) rfl rfl rfl ?_
 refine g_iaload X qd 0 d22_89 (pc' := 90) rfl (by decide) (by decide) rfl ?_
 refine g_dup_x2 X d22_90 (pc' := 91) rfl rfl rfl rfl ?_
 refine g_iconst X (1 : Int32) d22_91 (pc' := 92) rfl rfl ?_
 refine g_iadd X d22_92 (pc' := 93) rfl ?_
 refine Go.lit32 (z := (1 : Int32)) (by decide) ?_
 refine g_iastore X qd 0 d22_93 (pc' := 94) rfl (by decide) (by decide) (Nat.le_of_ble_eq_true rfl) ?_
 intro T h X W qd
 replace qd : Av Z h qe .int [(.int (1 : Int32)), (.int (3 : Int32))] := qd
 replace qb := qb.other W qn
 replace qa := qa.other W qo
 replace qc := qc.other W qi
 replace Z0 := Nat.le_trans Z0 (Nat.le_of_eq W.size.symm)
 replace N := Fr.snoc X.1 N qm
 replace Kp := Kp.wr W (Or.inr qp)
 refine g_iload X d22_94 (pc' := 96) rfl rfl ?_
 refine g_iastore X qc 0 d22_96 (pc' := 97) rfl (by decide) (by decide) (Nat.le_of_ble_eq_true rfl) ?_
 intro T h X W qc
 replace qc : Av Z h a2 .int [(.int (1 : Int32)), (.int (0 : Int32)), (.int (0 : Int32))] := qc
 replace qb := qb.other W ql
 replace qa := qa.other W qf
 replace qd := qd.other W (Ne.symm qi)
 replace Z0 := Nat.le_trans Z0 (Nat.le_of_eq W.size.symm)
 replace N := Fr.snoc X.1 N qk
 replace Kp := Kp.wr W (Or.inl (List.mem_of_getElem? (i := 1) rfl))
 refine g_iinc X d22_97 (pc' := 100) (q := (1 : Int32)) (Ls' := #[.val (.ref a0), .val (.ref a1), .val (.ref a2), .val (.ref qe), .val (.int (2 : Int32)), .val (.int (3 : Int32)), .val (.int (0 : Int32))]) rfl rfl rfl rfl ?_
 refine g_goto X d22_100 (pc' := 75) (by decide) (by decide) ?_
 refine g_iload X d22_75 (pc' := 77) rfl rfl ?_
 refine g_aloadN X d22_77 (pc' := 78) rfl rfl rfl ?_
 refine g_arraylength X qb d22_78 (pc' := 79) rfl (z := (3 : Int32)) rfl ?_
 refine g_icN X d22_79 (tlt (show (2 : Int32) < (3 : Int32) from (by decide))).2.1 (pc' := 82) rfl ?_
 refine g_aloadN X d22_82 (pc' := 83) rfl rfl rfl ?_
 refine g_aloadN X d22_83 (pc' := 84) rfl rfl rfl ?_
 refine g_aloadN X d22_84 (pc' := 85) rfl rfl rfl ?_
 refine g_iload X d22_85 (pc' := 87) rfl rfl ?_
 refine g_iaload X qb 2 d22_87 (pc' := 88) rfl (by decide) (by decide) rfl ?_
 refine g_dup2 X d22_88 (pc' := 89) rfl rfl rfl ?_
 refine g_iaload X qd 0 d22_89 (pc' := 90) rfl (by decide) (by decide) rfl ?_
 refine g_dup_x2 X d22_90 (pc' := 91) rfl rfl rfl rfl ?_
 refine g_iconst X (1 : Int32) d22_91 (pc' := 92) rfl rfl ?_
 refine g_iadd X d22_92 (pc' := 93) rfl ?_
 refine Go.lit32 (z := (2 : Int32)) (by decide) ?_
 refine g_iastore X qd 0 d22_93 (pc' := 94) rfl (by decide) (by decide) (Nat.le_of_ble_eq_true rfl) ?_
 intro T h X W qd
 replace qb := qb.other W qn
 replace qa := qa.other W qo
 replace qc := qc.other W qi
 replace Z0 := Nat.le_trans Z0 (Nat.le_of_eq W.size.symm)
 replace N := Fr.snoc X.1 N qm
 replace Kp := Kp.wr W (Or.inr qp)
 refine g_iload X d22_94 (pc' := 96) rfl rfl ?_
 refine g_iastore X qc 1 d22_96 (pc' := 97) rfl (by decide) (by decide) (Nat.le_of_ble_eq_true rfl) ?_
 intro T h X W qc
 replace qc : Av Z h a2 .int [(.int (1 : Int32)), (.int (2 : Int32)), (.int (0 : Int32))] := qc
 replace qb := qb.other W ql
 replace qa := qa.other W qf
 replace Z0 := Nat.le_trans Z0 (Nat.le_of_eq W.size.symm)
 replace N := Fr.snoc X.1 N qk
 replace Kp := Kp.wr W (Or.inl (List.mem_of_getElem? (i := 1) rfl))
 refine g_iinc X d22_97 (pc' := 100) (q := (1 : Int32)) (Ls' := #[.val (.ref a0), .val (.ref a1), .val (.ref a2), .val (.ref qe), .val (.int (3 : Int32)), .val (.int (3 : Int32)), .val (.int (0 : Int32))]) rfl rfl rfl rfl ?_
 refine g_goto X d22_100 (pc' := 75) (by decide) (by decide) ?_
 refine g_iload X d22_75 (pc' := 77) rfl rfl ?_
 refine g_aloadN X d22_77 (pc' := 78) rfl rfl rfl ?_
 refine g_arraylength X qb d22_78 (pc' := 79) rfl (z := (3 : Int32)) rfl ?_
 refine g_icY X d22_79 (flt (show ¬ ((3 : Int32) < (3 : Int32)) from (by decide))).2.1 (pc' := 103) (by decide) (by decide) ?_
 refine g_return X d22_103 hret hlk (by decide) (by decide) ?_
 exact ⟨rfl, N, Kp, qa, qc⟩
theorem ef_rGr2 (m : MethodId) (x0 : Addr) (x1 : Addr) (x2 : Addr) : entryFrame m #[(.ref x0), (.ref x1), (.ref x2)] 7 = mkF m 0 #[.val (.ref x0), .val (.ref x1), .val (.ref x2), .unset, .unset, .unset, .unset] [] := by first | (simp [entryFrame, mkF, argsToLocals, Value.category]; done) | rfl
set_option maxRecDepth 65536 in
set_option maxHeartbeats 40000000 in
theorem rGr2 (l : Launch) (Z : State) (aa : Array Value) (hw : ∀ d ∈ tables_1, d.before aa Z = true) (ws : List Jvm.Cond) (a0 : Addr) (a1 : Addr) (a2 : Addr) (h0 : Heap) (n0 : Nat) (Z0 : n0 ≤ h0.size) (qb : Av Z h0 a0 .int [(.int (0 : Int32)), (.int (1 : Int32)), (.int (0 : Int32))]) (qa : Av Z h0 a1 .int [(.int (0 : Int32)), (.int (0 : Int32)), (.int (0 : Int32))]) (qc : Av Z h0 a2 .int [(.int (0 : Int32)), (.int (0 : Int32)), (.int (0 : Int32))]) (qg : n0 ≤ a1) (qk : n0 ≤ a2) (qh : a0 ≠ a1) (ql : a0 ≠ a2) (qf : a1 ≠ a2) :
    Rm l Z (⟨"com/example/pathlattice/pathlattice/graph/Edges", "group", "([I[I[I)V"⟩ : MethodName) prog_18_method_2_code 7 none ws ({ frames := 2, cells := 1, slots := 2, locals := 32 } : Room) #[(.ref a0), (.ref a1), (.ref a2)] h0 (fun v h L => v = none ∧ Fr n0 L ∧ Keep h0 h [a1, a2] ∧ Av Z h a1 .int [(.int (0 : Int32)), (.int (2 : Int32)), (.int (3 : Int32))] ∧ Av Z h a2 .int [(.int (0 : Int32)), (.int (2 : Int32)), (.int (1 : Int32))]) := by
 refine Rm.of (plainFor_of_name pn_8) ?_
 intro p e s m below meth cc T X hnm hret hlk
 refine Go.at_ (ef_rGr2 m a0 a1 a2) ?_
 have N := Fr.nil n0
 have Kp := Keep.refl h0 [a1, a2]
 refine g_aloadN X d22_0 (pc' := 1) rfl rfl rfl ?_
 refine g_astoreN X d22_1 (pc' := 2) (Ls' := #[.val (.ref a0), .val (.ref a1), .val (.ref a2), .val (.ref a0), .unset, .unset, .unset]) rfl rfl rfl ?_
 refine g_aloadN X d22_2 (pc' := 3) rfl rfl rfl ?_
 refine g_arraylength X qb d22_3 (pc' := 4) rfl (z := (3 : Int32)) rfl ?_
 refine g_istore X d22_4 (pc' := 6) (Ls' := #[.val (.ref a0), .val (.ref a1), .val (.ref a2), .val (.ref a0), .val (.int (3 : Int32)), .unset, .unset]) rfl rfl ?_
 refine g_iconst X (0 : Int32) d22_6 (pc' := 7) rfl rfl ?_
 refine g_istore X d22_7 (pc' := 9) (Ls' := #[.val (.ref a0), .val (.ref a1), .val (.ref a2), .val (.ref a0), .val (.int (3 : Int32)), .val (.int (0 : Int32)), .unset]) rfl rfl ?_
 refine g_iload X d22_9 (pc' := 11) rfl rfl ?_
 refine g_iload X d22_11 (pc' := 13) rfl rfl ?_
 refine g_icN X d22_13 (tlt (show (0 : Int32) < (3 : Int32) from (by decide))).2.1 (pc' := 16) rfl ?_
 refine g_aloadN X d22_16 (pc' := 17) rfl rfl rfl ?_
 refine g_iload X d22_17 (pc' := 19) rfl rfl ?_
 refine g_iaload X qb 0 d22_19 (pc' := 20) rfl (by decide) (by decide) rfl ?_
 refine g_istore X d22_20 (pc' := 22) (Ls' := #[.val (.ref a0), .val (.ref a1), .val (.ref a2), .val (.ref a0), .val (.int (3 : Int32)), .val (.int (0 : Int32)), .val (.int (0 : Int32))]) rfl rfl ?_
 refine g_aloadN X d22_22 (pc' := 23) rfl rfl rfl ?_
 refine g_iload X d22_23 (pc' := 25) rfl rfl ?_
 refine g_iconst X (1 : Int32) d22_25 (pc' := 26) rfl rfl ?_
 refine g_iadd X d22_26 (pc' := 27) rfl ?_
 refine Go.lit32 (z := (1 : Int32)) (by decide) ?_
 refine g_dup2 X d22_27 (pc' := 28) rfl rfl rfl ?_
 refine g_iaload X qa 1 d22_28 (pc' := 29) rfl (by decide) (by decide) rfl ?_
 refine g_iconst X (1 : Int32) d22_29 (pc' := 30) rfl rfl ?_
 refine g_iadd X d22_30 (pc' := 31) rfl ?_
 refine Go.lit32 (z := (1 : Int32)) (by decide) ?_
 refine g_iastore X qa 1 d22_31 (pc' := 32) rfl (by decide) (by decide) (Nat.le_of_ble_eq_true rfl) ?_
 intro T h X W qa
 replace qa : Av Z h a1 .int [(.int (0 : Int32)), (.int (1 : Int32)), (.int (0 : Int32))] := qa
 replace qb := qb.other W qh
 replace qc := qc.other W (Ne.symm qf)
 replace Z0 := Nat.le_trans Z0 (Nat.le_of_eq W.size.symm)
 replace N := Fr.snoc X.1 N qg
 replace Kp := Kp.wr W (Or.inl (List.mem_of_getElem? (i := 0) rfl))
 refine g_iinc X d22_32 (pc' := 35) (q := (1 : Int32)) (Ls' := #[.val (.ref a0), .val (.ref a1), .val (.ref a2), .val (.ref a0), .val (.int (3 : Int32)), .val (.int (1 : Int32)), .val (.int (0 : Int32))]) rfl rfl rfl rfl ?_
 refine g_goto X d22_35 (pc' := 9) (by decide) (by decide) ?_
 refine g_iload X d22_9 (pc' := 11) rfl rfl ?_
 refine g_iload X d22_11 (pc' := 13) rfl rfl ?_
 refine g_icN X d22_13 (tlt (show (1 : Int32) < (3 : Int32) from (by decide))).2.1 (pc' := 16) rfl ?_
 refine g_aloadN X d22_16 (pc' := 17) rfl rfl rfl ?_
 refine g_iload X d22_17 (pc' := 19) rfl rfl ?_
 refine g_iaload X qb 1 d22_19 (pc' := 20) rfl (by decide) (by decide) rfl ?_
 refine g_istore X d22_20 (pc' := 22) (Ls' := #[.val (.ref a0), .val (.ref a1), .val (.ref a2), .val (.ref a0), .val (.int (3 : Int32)), .val (.int (1 : Int32)), .val (.int (1 : Int32))]) rfl rfl ?_
 refine g_aloadN X d22_22 (pc' := 23) rfl rfl rfl ?_
 refine g_iload X d22_23 (pc' := 25) rfl rfl ?_
 refine g_iconst X (1 : Int32) d22_25 (pc' := 26) rfl rfl ?_
 refine g_iadd X d22_26 (pc' := 27) rfl ?_
 refine Go.lit32 (z := (2 : Int32)) (by decide) ?_
 refine g_dup2 X d22_27 (pc' := 28) rfl rfl rfl ?_
 refine g_iaload X qa 2 d22_28 (pc' := 29) rfl (by decide) (by decide) rfl ?_
 refine g_iconst X (1 : Int32) d22_29 (pc' := 30) rfl rfl ?_
 refine g_iadd X d22_30 (pc' := 31) rfl ?_
 refine Go.lit32 (z := (1 : Int32)) (by decide) ?_
 refine g_iastore X qa 2 d22_31 (pc' := 32) rfl (by decide) (by decide) (Nat.le_of_ble_eq_true rfl) ?_
 intro T h X W qa
 replace qa : Av Z h a1 .int [(.int (0 : Int32)), (.int (1 : Int32)), (.int (1 : Int32))] := qa
 replace qb := qb.other W qh
 replace qc := qc.other W (Ne.symm qf)
 replace Z0 := Nat.le_trans Z0 (Nat.le_of_eq W.size.symm)
 replace N := Fr.snoc X.1 N qg
 replace Kp := Kp.wr W (Or.inl (List.mem_of_getElem? (i := 0) rfl))
 refine g_iinc X d22_32 (pc' := 35) (q := (1 : Int32)) (Ls' := #[.val (.ref a0), .val (.ref a1), .val (.ref a2), .val (.ref a0), .val (.int (3 : Int32)), .val (.int (2 : Int32)), .val (.int (1 : Int32))]) rfl rfl rfl rfl ?_
 refine g_goto X d22_35 (pc' := 9) (by decide) (by decide) ?_
 refine g_iload X d22_9 (pc' := 11) rfl rfl ?_
 refine g_iload X d22_11 (pc' := 13) rfl rfl ?_
 refine g_icN X d22_13 (tlt (show (2 : Int32) < (3 : Int32) from (by decide))).2.1 (pc' := 16) rfl ?_
 refine g_aloadN X d22_16 (pc' := 17) rfl rfl rfl ?_
 refine g_iload X d22_17 (pc' := 19) rfl rfl ?_
 refine g_iaload X qb 2 d22_19 (pc' := 20) rfl (by decide) (by decide) rfl ?_
 refine g_istore X d22_20 (pc' := 22) (Ls' := #[.val (.ref a0), .val (.ref a1), .val (.ref a2), .val (.ref a0), .val (.int (3 : Int32)), .val (.int (2 : Int32)), .val (.int (0 : Int32))]) rfl rfl ?_
 refine g_aloadN X d22_22 (pc' := 23) rfl rfl rfl ?_
 refine g_iload X d22_23 (pc' := 25) rfl rfl ?_
 refine g_iconst X (1 : Int32) d22_25 (pc' := 26) rfl rfl ?_
 refine g_iadd X d22_26 (pc' := 27) rfl ?_
 refine Go.lit32 (z := (1 : Int32)) (by decide) ?_
 refine g_dup2 X d22_27 (pc' := 28) rfl rfl rfl ?_
 refine g_iaload X qa 1 d22_28 (pc' := 29) rfl (by decide) (by decide) rfl ?_
 refine g_iconst X (1 : Int32) d22_29 (pc' := 30) rfl rfl ?_
 refine g_iadd X d22_30 (pc' := 31) rfl ?_
 refine Go.lit32 (z := (2 : Int32)) (by decide) ?_
 refine g_iastore X qa 1 d22_31 (pc' := 32) rfl (by decide) (by decide) (Nat.le_of_ble_eq_true rfl) ?_
 intro T h X W qa
 replace qa : Av Z h a1 .int [(.int (0 : Int32)), (.int (2 : Int32)), (.int (1 : Int32))] := qa
 replace qb := qb.other W qh
 replace qc := qc.other W (Ne.symm qf)
 replace Z0 := Nat.le_trans Z0 (Nat.le_of_eq W.size.symm)
 replace N := Fr.snoc X.1 N qg
 replace Kp := Kp.wr W (Or.inl (List.mem_of_getElem? (i := 0) rfl))
 refine g_iinc X d22_32 (pc' := 35) (q := (1 : Int32)) (Ls' := #[.val (.ref a0), .val (.ref a1), .val (.ref a2), .val (.ref a0), .val (.int (3 : Int32)), .val (.int (3 : Int32)), .val (.int (0 : Int32))]) rfl rfl rfl rfl ?_
 refine g_goto X d22_35 (pc' := 9) (by decide) (by decide) ?_
 refine g_iload X d22_9 (pc' := 11) rfl rfl ?_
 refine g_iload X d22_11 (pc' := 13) rfl rfl ?_
 refine g_icY X d22_13 (flt (show ¬ ((3 : Int32) < (3 : Int32)) from (by decide))).2.1 (pc' := 38) (by decide) (by decide) ?_
 refine g_iconst X (1 : Int32) d22_38 (pc' := 39) rfl rfl ?_
 refine g_istoreN X d22_39 (pc' := 40) (Ls' := #[.val (.ref a0), .val (.ref a1), .val (.ref a2), .val (.int (1 : Int32)), .val (.int (3 : Int32)), .val (.int (3 : Int32)), .val (.int (0 : Int32))]) rfl rfl ?_
 refine g_iloadN X d22_40 (pc' := 41) rfl rfl ?_
 refine g_aloadN X d22_41 (pc' := 42) rfl rfl rfl ?_
 refine g_arraylength X qa d22_42 (pc' := 43) rfl (z := (3 : Int32)) rfl ?_
 refine g_icN X d22_43 (tlt (show (1 : Int32) < (3 : Int32) from (by decide))).2.1 (pc' := 46) rfl ?_
 refine g_aloadN X d22_46 (pc' := 47) rfl rfl rfl ?_
 refine g_iloadN X d22_47 (pc' := 48) rfl rfl ?_
 refine g_dup2 X d22_48 (pc' := 49) rfl rfl rfl ?_
 refine g_iaload X qa 1 d22_49 (pc' := 50) rfl (by decide) (by decide) rfl ?_
 refine g_aloadN X d22_50 (pc' := 51) rfl rfl rfl ?_
 refine g_iloadN X d22_51 (pc' := 52) rfl rfl ?_
 refine g_iconst X (1 : Int32) d22_52 (pc' := 53) rfl rfl ?_
 refine g_isub X d22_53 (pc' := 54) rfl ?_
 refine Go.lit32 (z := (0 : Int32)) (by decide) ?_
 refine g_iaload X qa 0 d22_54 (pc' := 55) rfl (by decide) (by decide) rfl ?_
 refine g_iadd X d22_55 (pc' := 56) rfl ?_
 refine Go.lit32 (z := (2 : Int32)) (by decide) ?_
 refine g_iastore X qa 1 d22_56 (pc' := 57) rfl (by decide) (by decide) (Nat.le_of_ble_eq_true rfl) ?_
 intro T h X W qa
 replace qa : Av Z h a1 .int [(.int (0 : Int32)), (.int (2 : Int32)), (.int (1 : Int32))] := qa
 replace qb := qb.other W qh
 replace qc := qc.other W (Ne.symm qf)
 replace Z0 := Nat.le_trans Z0 (Nat.le_of_eq W.size.symm)
 replace N := Fr.snoc X.1 N qg
 replace Kp := Kp.wr W (Or.inl (List.mem_of_getElem? (i := 0) rfl))
 refine g_iinc X d22_57 (pc' := 60) (q := (1 : Int32)) (Ls' := #[.val (.ref a0), .val (.ref a1), .val (.ref a2), .val (.int (2 : Int32)), .val (.int (3 : Int32)), .val (.int (3 : Int32)), .val (.int (0 : Int32))]) rfl rfl rfl rfl ?_
 refine g_goto X d22_60 (pc' := 40) (by decide) (by decide) ?_
 refine g_iloadN X d22_40 (pc' := 41) rfl rfl ?_
 refine g_aloadN X d22_41 (pc' := 42) rfl rfl rfl ?_
 refine g_arraylength X qa d22_42 (pc' := 43) rfl (z := (3 : Int32)) rfl ?_
 refine g_icN X d22_43 (tlt (show (2 : Int32) < (3 : Int32) from (by decide))).2.1 (pc' := 46) rfl ?_
 refine g_aloadN X d22_46 (pc' := 47) rfl rfl rfl ?_
 refine g_iloadN X d22_47 (pc' := 48) rfl rfl ?_
 refine g_dup2 X d22_48 (pc' := 49) rfl rfl rfl ?_
 refine g_iaload X qa 2 d22_49 (pc' := 50) rfl (by decide) (by decide) rfl ?_
 refine g_aloadN X d22_50 (pc' := 51) rfl rfl rfl ?_
 refine g_iloadN X d22_51 (pc' := 52) rfl rfl ?_
 refine g_iconst X (1 : Int32) d22_52 (pc' := 53) rfl rfl ?_
 refine g_isub X d22_53 (pc' := 54) rfl ?_
 refine Go.lit32 (z := (1 : Int32)) (by decide) ?_
 refine g_iaload X qa 1 d22_54 (pc' := 55) rfl (by decide) (by decide) rfl ?_
 refine g_iadd X d22_55 (pc' := 56) rfl ?_
 refine Go.lit32 (z := (3 : Int32)) (by decide) ?_
 refine g_iastore X qa 2 d22_56 (pc' := 57) rfl (by decide) (by decide) (Nat.le_of_ble_eq_true rfl) ?_
 intro T h X W qa
 replace qa : Av Z h a1 .int [(.int (0 : Int32)), (.int (2 : Int32)), (.int (3 : Int32))] := qa
 replace qb := qb.other W qh
 replace qc := qc.other W (Ne.symm qf)
 replace Z0 := Nat.le_trans Z0 (Nat.le_of_eq W.size.symm)
 replace N := Fr.snoc X.1 N qg
 replace Kp := Kp.wr W (Or.inl (List.mem_of_getElem? (i := 0) rfl))
 refine g_iinc X d22_57 (pc' := 60) (q := (1 : Int32)) (Ls' := #[.val (.ref a0), .val (.ref a1), .val (.ref a2), .val (.int (3 : Int32)), .val (.int (3 : Int32)), .val (.int (3 : Int32)), .val (.int (0 : Int32))]) rfl rfl rfl rfl ?_
 refine g_goto X d22_60 (pc' := 40) (by decide) (by decide) ?_
 refine g_iloadN X d22_40 (pc' := 41) rfl rfl ?_
 refine g_aloadN X d22_41 (pc' := 42) rfl rfl rfl ?_
 refine g_arraylength X qa d22_42 (pc' := 43) rfl (z := (3 : Int32)) rfl ?_
 refine g_icY X d22_43 (flt (show ¬ ((3 : Int32) < (3 : Int32)) from (by decide))).2.1 (pc' := 63) (by decide) (by decide) ?_
 refine g_aloadN X d22_63 (pc' := 64) rfl rfl rfl ?_
 refine g_aloadN X d22_64 (pc' := 65) rfl rfl rfl ?_
 refine g_arraylength X qa d22_65 (pc' := 66) rfl (z := (3 : Int32)) rfl ?_
 refine g_iconst X (1 : Int32) d22_66 (pc' := 67) rfl rfl ?_
 refine g_isub X d22_67 (pc' := 68) rfl ?_
 refine Go.lit32 (z := (2 : Int32)) (by decide) ?_
 refine g_static X (W := 0) [(.ref a1), (.int (2 : Int32))] [] (tb hw 143 rfl) (tb hw 144 rfl) (tb hw 115 rfl) (tb hw 145 rfl) (rCof l Z aa hw [] a1 (0 : Int32) (2 : Int32) (3 : Int32) _ n0 Z0 qa) d22_68 (pc' := 71) rfl (by decide) (by decide) (by decide) rfl rfl rfl (lenOf pd_14 rfl) (Nat.le_refl _) (by decide) (by decide) ?_
 intro v T L X q
 obtain ⟨qe, rfl, Nq, Kq, qj, qm, qq, qd⟩ := q
 have qn : a0 ≠ qe := Nat.ne_of_lt (Nat.lt_of_lt_of_le qb.lt qj)
 have qo : a1 ≠ qe := Nat.ne_of_lt (Nat.lt_of_lt_of_le qa.lt qj)
 have qi : a2 ≠ qe := Nat.ne_of_lt (Nat.lt_of_lt_of_le qc.lt qj)
 have qp : h0.size ≤ qe := Nat.le_trans Kp.1 qj
 replace N := N.app Nq
 replace qb := qb.keep Kq nin0
 replace qa := qa.keep Kq nin0
 replace qc := qc.keep Kq nin0
 replace Z0 := Nat.le_trans Z0 Kq.1
 replace Kp := Kp.trans Kq all0
 show Go p e below _ (T.setTop (mkF m 71 _ [(.ref qe)]))
 refine g_astoreN X d22_71 (pc' := 72) (Ls' := #[.val (.ref a0), .val (.ref a1), .val (.ref a2), .val (.ref qe), .val (.int (3 : Int32)), .val (.int (3 : Int32)), .val (.int (0 : Int32))]) rfl rfl rfl ?_
 refine g_iconst X (0 : Int32) d22_72 (pc' := 73) rfl rfl ?_
 refine g_istore X d22_73 (pc' := 75) (Ls' := #[.val (.ref a0), .val (.ref a1), .val (.ref a2), .val (.ref qe), .val (.int (0 : Int32)), .val (.int (3 : Int32)), .val (.int (0 : Int32))]) rfl rfl ?_
 refine g_iload X d22_75 (pc' := 77) rfl rfl ?_
 refine g_aloadN X d22_77 (pc' := 78) rfl rfl rfl ?_
 refine g_arraylength X qb d22_78 (pc' := 79) rfl (z := (3 : Int32)) rfl ?_
 refine g_icN X d22_79 (tlt (show (0 : Int32) < (3 : Int32) from (by decide))).2.1 (pc' := 82) rfl ?_
 refine g_aloadN X d22_82 (pc' := 83) rfl rfl rfl ?_
 refine g_aloadN X d22_83 (pc' := 84) rfl rfl rfl ?_
 refine g_aloadN X d22_84 (pc' := 85) rfl rfl rfl ?_
 refine g_iload X d22_85 (pc' := 87) rfl rfl ?_
 refine g_iaload X qb 0 d22_87 (pc' := 88) rfl (by decide) (by decide) rfl ?_
 refine g_dup2 X d22_88 (pc' := 89) rfl rfl rfl ?_
 refine g_iaload X qd 0 d22_89 (pc' := 90) rfl (by decide) (by decide) rfl ?_
 refine g_dup_x2 X d22_90 (pc' := 91) rfl rfl rfl rfl ?_
 refine g_iconst X (1 : Int32) d22_91 (pc' := 92) rfl rfl ?_
 refine g_iadd X d22_92 (pc' := 93) rfl ?_
 refine Go.lit32 (z := (1 : Int32)) (by decide) ?_
 refine g_iastore X qd 0 d22_93 (pc' := 94) rfl (by decide) (by decide) (Nat.le_of_ble_eq_true rfl) ?_
 intro T h X W qd
 replace qd : Av Z h qe .int [(.int (1 : Int32)), (.int (2 : Int32))] := qd
 replace qb := qb.other W qn
 replace qa := qa.other W qo
 replace qc := qc.other W qi
 replace Z0 := Nat.le_trans Z0 (Nat.le_of_eq W.size.symm)
 replace N := Fr.snoc X.1 N qm
 replace Kp := Kp.wr W (Or.inr qp)
 refine g_iload X d22_94 (pc' := 96) rfl rfl ?_
 refine g_iastore X qc 0 d22_96 (pc' := 97) rfl (by decide) (by decide) (Nat.le_of_ble_eq_true rfl) ?_
 intro T h X W qc
 replace qc : Av Z h a2 .int [(.int (0 : Int32)), (.int (0 : Int32)), (.int (0 : Int32))] := qc
 replace qb := qb.other W ql
 replace qa := qa.other W qf
 replace qd := qd.other W (Ne.symm qi)
 replace Z0 := Nat.le_trans Z0 (Nat.le_of_eq W.size.symm)
 replace N := Fr.snoc X.1 N qk
 replace Kp := Kp.wr W (Or.inl (List.mem_of_getElem? (i := 1) rfl))
 refine g_iinc X d22_97 (pc' := 100) (q := (1 : Int32)) (Ls' := #[.val (.ref a0), .val (.ref a1), .val (.ref a2), .val (.ref qe), .val (.int (1 : Int32)), .val (.int (3 : Int32)), .val (.int (0 : Int32))]) rfl rfl rfl rfl ?_
 refine g_goto X d22_100 (pc' := 75) (by decide) (by decide) ?_
 refine g_iload X d22_75 (pc' := 77) rfl rfl ?_
 refine g_aloadN X d22_77 (pc' := 78) rfl rfl rfl ?_
 refine g_arraylength X qb d22_78 (pc' := 79) rfl (z := (3 : Int32)) rfl ?_
 refine g_icN X d22_79 (tlt (show (1 : Int32) < (3 : Int32) from (by decide))).2.1 (pc' := 82) rfl ?_
 refine g_aloadN X d22_82 (pc' := 83) rfl rfl rfl ?_
 refine g_aloadN X d22_83 (pc' := 84) rfl rfl rfl ?_
 refine g_aloadN X d22_84 (pc' := 85) rfl rfl rfl ?_
 refine g_iload X d22_85 (pc' := 87) rfl rfl ?_
 refine g_iaload X qb 1 d22_87 (pc' := 88) rfl (by decide) (by decide) rfl ?_
 refine g_dup2 X d22_88 (pc' := 89) rfl rfl rfl ?_
 refine g_iaload X qd 1 d22_89 (pc' := 90) rfl (by decide) (by decide) rfl ?_
 refine g_dup_x2 X d22_90 (pc' := 91) rfl rfl rfl rfl ?_
 refine g_iconst X (1 : Int32) d22_91 (pc' := 92) rfl rfl ?_
 refine g_iadd X d22_92 (pc' := 93) rfl ?_
 refine Go.lit32 (z := (3 : Int32)) (by decide) ?_
 refine g_iastore X qd 1 d22_93 (pc' := 94) rfl (by decide) (by decide) (Nat.le_of_ble_eq_true rfl) ?_
 intro T h X W qd
 replace qd : Av Z h qe .int [(.int (1 : Int32)), (.int (3 : Int32))] := qd
 replace qb := qb.other W qn
 replace qa := qa.other W qo
 replace qc := qc.other W qi
 replace Z0 := Nat.le_trans Z0 (Nat.le_of_eq W.size.symm)
 replace N := Fr.snoc X.1 N qm
 replace Kp := Kp.wr W (Or.inr qp)
 refine g_iload X d22_94 (pc' := 96) rfl rfl ?_
 refine g_iastore X qc 2 d22_96 (pc' := 97) rfl (by decide) (by decide) (Nat.le_of_ble_eq_true rfl) ?_
 intro T h X W qc
 replace qc : Av Z h a2 .int [(.int (0 : Int32)), (.int (0 : Int32)), (.int (1 : Int32))] := qc
 replace qb := qb.other W ql
 replace qa := qa.other W qf
 replace qd := qd.other W (Ne.symm qi)
 replace Z0 := Nat.le_trans Z0 (Nat.le_of_eq W.size.symm)
 replace N := Fr.snoc X.1 N qk
 replace Kp := Kp.wr W (Or.inl (List.mem_of_getElem? (i := 1) rfl))
 refine g_iinc X d22_97 (pc' := 100) (q := (1 : Int32)) (Ls' := #[.val (.ref a0), .val (.ref a1), .val (.ref a2), .val (.ref qe), .val (.int (2 : Int32)), .val (.int (3 : Int32)), .val (.int (0 : Int32))]) rfl rfl rfl rfl ?_
 refine g_goto X d22_100 (pc' := 75) (by decide) (by decide) ?_
 refine g_iload X d22_75 (pc' := 77) rfl rfl ?_
 refine g_aloadN X d22_77 (pc' := 78) rfl rfl rfl ?_
 refine g_arraylength X qb d22_78 (pc' := 79) rfl (z := (3 : Int32)) rfl ?_
 refine g_icN X d22_79 (tlt (show (2 : Int32) < (3 : Int32) from (by decide))).2.1 (pc' := 82) rfl ?_
 refine g_aloadN X d22_82 (pc' := 83) rfl rfl rfl ?_
 refine g_aloadN X d22_83 (pc' := 84) rfl rfl rfl ?_
 refine g_aloadN X d22_84 (pc' := 85) rfl rfl rfl ?_
 refine g_iload X d22_85 (pc' := 87) rfl rfl ?_
 refine g_iaload X qb 2 d22_87 (pc' := 88) rfl (by decide) (by decide) rfl ?_
 refine g_dup2 X d22_88 (pc' := 89) rfl rfl rfl ?_
 refine g_iaload X qd 0 d22_89 (pc' := 90) rfl (by decide) (by decide) rfl ?_
 refine g_dup_x2 X d22_90 (pc' := 91) rfl rfl rfl rfl ?_
 refine g_iconst X (1 : Int32) d22_91 (pc' := 92) rfl rfl ?_
 refine g_iadd X d22_92 (pc' := 93) rfl ?_
 refine Go.lit32 (z := (2 : Int32)) (by decide) ?_
 refine g_iastore X qd 0 d22_93 (pc' := 94) rfl (by decide) (by decide) (Nat.le_of_ble_eq_true rfl) ?_
 intro T h X W qd
 replace qb := qb.other W qn
 replace qa := qa.other W qo
 replace qc := qc.other W qi
 replace Z0 := Nat.le_trans Z0 (Nat.le_of_eq W.size.symm)
 replace N := Fr.snoc X.1 N qm
 replace Kp := Kp.wr W (Or.inr qp)
 refine g_iload X d22_94 (pc' := 96) rfl rfl ?_
 refine g_iastore X qc 1 d22_96 (pc' := 97) rfl (by decide) (by decide) (Nat.le_of_ble_eq_true rfl) ?_
 intro T h X W qc
 replace qc : Av Z h a2 .int [(.int (0 : Int32)), (.int (2 : Int32)), (.int (1 : Int32))] := qc
 replace qb := qb.other W ql
 replace qa := qa.other W qf
 replace Z0 := Nat.le_trans Z0 (Nat.le_of_eq W.size.symm)
 replace N := Fr.snoc X.1 N qk
 replace Kp := Kp.wr W (Or.inl (List.mem_of_getElem? (i := 1) rfl))
 refine g_iinc X d22_97 (pc' := 100) (q := (1 : Int32)) (Ls' := #[.val (.ref a0), .val (.ref a1), .val (.ref a2), .val (.ref qe), .val (.int (3 : Int32)), .val (.int (3 : Int32)), .val (.int (0 : Int32))]) rfl rfl rfl rfl ?_
 refine g_goto X d22_100 (pc' := 75) (by decide) (by decide) ?_
 refine g_iload X d22_75 (pc' := 77) rfl rfl ?_
 refine g_aloadN X d22_77 (pc' := 78) rfl rfl rfl ?_
 refine g_arraylength X qb d22_78 (pc' := 79) rfl (z := (3 : Int32)) rfl ?_
 refine g_icY X d22_79 (flt (show ¬ ((3 : Int32) < (3 : Int32)) from (by decide))).2.1 (pc' := 103) (by decide) (by decide) ?_
 refine g_return X d22_103 hret hlk (by decide) (by decide) ?_
 exact ⟨rfl, N, Kp, qa, qc⟩
theorem ef_rGr3 (m : MethodId) (x0 : Addr) (x1 : Addr) (x2 : Addr) : entryFrame m #[(.ref x0), (.ref x1), (.ref x2)] 7 = mkF m 0 #[.val (.ref x0), .val (.ref x1), .val (.ref x2), .unset, .unset, .unset, .unset] [] := by first | (simp [entryFrame, mkF, argsToLocals, Value.category]; done) | rfl
set_option maxRecDepth 65536 in
set_option maxHeartbeats 40000000 in
theorem rGr3 (l : Launch) (Z : State) (aa : Array Value) (hw : ∀ d ∈ tables_1, d.before aa Z = true) (ws : List Jvm.Cond) (a0 : Addr) (a1 : Addr) (a2 : Addr) (h0 : Heap) (n0 : Nat) (Z0 : n0 ≤ h0.size) (qb : Av Z h0 a0 .int [(.int (1 : Int32)), (.int (1 : Int32)), (.int (0 : Int32))]) (qa : Av Z h0 a1 .int [(.int (0 : Int32)), (.int (0 : Int32)), (.int (0 : Int32))]) (qc : Av Z h0 a2 .int [(.int (0 : Int32)), (.int (0 : Int32)), (.int (0 : Int32))]) (qg : n0 ≤ a1) (qk : n0 ≤ a2) (qh : a0 ≠ a1) (ql : a0 ≠ a2) (qf : a1 ≠ a2) :
    Rm l Z (⟨"com/example/pathlattice/pathlattice/graph/Edges", "group", "([I[I[I)V"⟩ : MethodName) prog_18_method_2_code 7 none ws ({ frames := 2, cells := 1, slots := 2, locals := 32 } : Room) #[(.ref a0), (.ref a1), (.ref a2)] h0 (fun v h L => v = none ∧ Fr n0 L ∧ Keep h0 h [a1, a2] ∧ Av Z h a1 .int [(.int (0 : Int32)), (.int (1 : Int32)), (.int (3 : Int32))] ∧ Av Z h a2 .int [(.int (2 : Int32)), (.int (0 : Int32)), (.int (1 : Int32))]) := by
 refine Rm.of (plainFor_of_name pn_8) ?_
 intro p e s m below meth cc T X hnm hret hlk
 refine Go.at_ (ef_rGr3 m a0 a1 a2) ?_
 have N := Fr.nil n0
 have Kp := Keep.refl h0 [a1, a2]
 refine g_aloadN X d22_0 (pc' := 1) rfl rfl rfl ?_
 refine g_astoreN X d22_1 (pc' := 2) (Ls' := #[.val (.ref a0), .val (.ref a1), .val (.ref a2), .val (.ref a0), .unset, .unset, .unset]) rfl rfl rfl ?_
 refine g_aloadN X d22_2 (pc' := 3) rfl rfl rfl ?_
 refine g_arraylength X qb d22_3 (pc' := 4) rfl (z := (3 : Int32)) rfl ?_
 refine g_istore X d22_4 (pc' := 6) (Ls' := #[.val (.ref a0), .val (.ref a1), .val (.ref a2), .val (.ref a0), .val (.int (3 : Int32)), .unset, .unset]) rfl rfl ?_
 refine g_iconst X (0 : Int32) d22_6 (pc' := 7) rfl rfl ?_
 refine g_istore X d22_7 (pc' := 9) (Ls' := #[.val (.ref a0), .val (.ref a1), .val (.ref a2), .val (.ref a0), .val (.int (3 : Int32)), .val (.int (0 : Int32)), .unset]) rfl rfl ?_
 refine g_iload X d22_9 (pc' := 11) rfl rfl ?_
 refine g_iload X d22_11 (pc' := 13) rfl rfl ?_
 refine g_icN X d22_13 (tlt (show (0 : Int32) < (3 : Int32) from (by decide))).2.1 (pc' := 16) rfl ?_
 refine g_aloadN X d22_16 (pc' := 17) rfl rfl rfl ?_
 refine g_iload X d22_17 (pc' := 19) rfl rfl ?_
 refine g_iaload X qb 0 d22_19 (pc' := 20) rfl (by decide) (by decide) rfl ?_
 refine g_istore X d22_20 (pc' := 22) (Ls' := #[.val (.ref a0), .val (.ref a1), .val (.ref a2), .val (.ref a0), .val (.int (3 : Int32)), .val (.int (0 : Int32)), .val (.int (1 : Int32))]) rfl rfl ?_
 refine g_aloadN X d22_22 (pc' := 23) rfl rfl rfl ?_
 refine g_iload X d22_23 (pc' := 25) rfl rfl ?_
 refine g_iconst X (1 : Int32) d22_25 (pc' := 26) rfl rfl ?_
 refine g_iadd X d22_26 (pc' := 27) rfl ?_
 refine Go.lit32 (z := (2 : Int32)) (by decide) ?_
 refine g_dup2 X d22_27 (pc' := 28) rfl rfl rfl ?_
 refine g_iaload X qa 2 d22_28 (pc' := 29) rfl (by decide) (by decide) rfl ?_
 refine g_iconst X (1 : Int32) d22_29 (pc' := 30) rfl rfl ?_
 refine g_iadd X d22_30 (pc' := 31) rfl ?_
 refine Go.lit32 (z := (1 : Int32)) (by decide) ?_
 refine g_iastore X qa 2 d22_31 (pc' := 32) rfl (by decide) (by decide) (Nat.le_of_ble_eq_true rfl) ?_
 intro T h X W qa
 replace qa : Av Z h a1 .int [(.int (0 : Int32)), (.int (0 : Int32)), (.int (1 : Int32))] := qa
 replace qb := qb.other W qh
 replace qc := qc.other W (Ne.symm qf)
 replace Z0 := Nat.le_trans Z0 (Nat.le_of_eq W.size.symm)
 replace N := Fr.snoc X.1 N qg
 replace Kp := Kp.wr W (Or.inl (List.mem_of_getElem? (i := 0) rfl))
 refine g_iinc X d22_32 (pc' := 35) (q := (1 : Int32)) (Ls' := #[.val (.ref a0), .val (.ref a1), .val (.ref a2), .val (.ref a0), .val (.int (3 : Int32)), .val (.int (1 : Int32)), .val (.int (1 : Int32))]) rfl rfl rfl rfl ?_
 refine g_goto X d22_35 (pc' := 9) (by decide) (by decide) ?_
 refine g_iload X d22_9 (pc' := 11) rfl rfl ?_
 refine g_iload X d22_11 (pc' := 13) rfl rfl ?_
 refine g_icN X d22_13 (tlt (show (1 : Int32) < (3 : Int32) from (by decide))).2.1 (pc' := 16) rfl ?_
 refine g_aloadN X d22_16 (pc' := 17) rfl rfl rfl ?_
 refine g_iload X d22_17 (pc' := 19) rfl rfl ?_
 refine g_iaload X qb 1 d22_19 (pc' := 20) rfl (by decide) (by decide) rfl ?_
 refine g_istore X d22_20 (pc' := 22) (Ls' := #[.val (.ref a0), .val (.ref a1), .val (.ref a2), .val (.ref a0), .val (.int (3 : Int32)), .val (.int (1 : Int32)), .val (.int (1 : Int32))]) rfl rfl ?_
 refine g_aloadN X d22_22 (pc' := 23) rfl rfl rfl ?_
 refine g_iload X d22_23 (pc' := 25) rfl rfl ?_
 refine g_iconst X (1 : Int32) d22_25 (pc' := 26) rfl rfl ?_
 refine g_iadd X d22_26 (pc' := 27) rfl ?_
 refine Go.lit32 (z := (2 : Int32)) (by decide) ?_
 refine g_dup2 X d22_27 (pc' := 28) rfl rfl rfl ?_
 refine g_iaload X qa 2 d22_28 (pc' := 29) rfl (by decide) (by decide) rfl ?_
 refine g_iconst X (1 : Int32) d22_29 (pc' := 30) rfl rfl ?_
 refine g_iadd X d22_30 (pc' := 31) rfl ?_
 refine Go.lit32 (z := (2 : Int32)) (by decide) ?_
 refine g_iastore X qa 2 d22_31 (pc' := 32) rfl (by decide) (by decide) (Nat.le_of_ble_eq_true rfl) ?_
 intro T h X W qa
 replace qa : Av Z h a1 .int [(.int (0 : Int32)), (.int (0 : Int32)), (.int (2 : Int32))] := qa
 replace qb := qb.other W qh
 replace qc := qc.other W (Ne.symm qf)
 replace Z0 := Nat.le_trans Z0 (Nat.le_of_eq W.size.symm)
 replace N := Fr.snoc X.1 N qg
 replace Kp := Kp.wr W (Or.inl (List.mem_of_getElem? (i := 0) rfl))
 refine g_iinc X d22_32 (pc' := 35) (q := (1 : Int32)) (Ls' := #[.val (.ref a0), .val (.ref a1), .val (.ref a2), .val (.ref a0), .val (.int (3 : Int32)), .val (.int (2 : Int32)), .val (.int (1 : Int32))]) rfl rfl rfl rfl ?_
 refine g_goto X d22_35 (pc' := 9) (by decide) (by decide) ?_
 refine g_iload X d22_9 (pc' := 11) rfl rfl ?_
 refine g_iload X d22_11 (pc' := 13) rfl rfl ?_
 refine g_icN X d22_13 (tlt (show (2 : Int32) < (3 : Int32) from (by decide))).2.1 (pc' := 16) rfl ?_
 refine g_aloadN X d22_16 (pc' := 17) rfl rfl rfl ?_
 refine g_iload X d22_17 (pc' := 19) rfl rfl ?_
 refine g_iaload X qb 2 d22_19 (pc' := 20) rfl (by decide) (by decide) rfl ?_
 refine g_istore X d22_20 (pc' := 22) (Ls' := #[.val (.ref a0), .val (.ref a1), .val (.ref a2), .val (.ref a0), .val (.int (3 : Int32)), .val (.int (2 : Int32)), .val (.int (0 : Int32))]) rfl rfl ?_
 refine g_aloadN X d22_22 (pc' := 23) rfl rfl rfl ?_
 refine g_iload X d22_23 (pc' := 25) rfl rfl ?_
 refine g_iconst X (1 : Int32) d22_25 (pc' := 26) rfl rfl ?_
 refine g_iadd X d22_26 (pc' := 27) rfl ?_
 refine Go.lit32 (z := (1 : Int32)) (by decide) ?_
 refine g_dup2 X d22_27 (pc' := 28) rfl rfl rfl ?_
 refine g_iaload X qa 1 d22_28 (pc' := 29) rfl (by decide) (by decide) rfl ?_
 refine g_iconst X (1 : Int32) d22_29 (pc' := 30) rfl rfl ?_
 refine g_iadd X d22_30 (pc' := 31) rfl ?_
 refine Go.lit32 (z := (1 : Int32)) (by decide) ?_
 refine g_iastore X qa 1 d22_31 (pc' := 32) rfl (by decide) (by decide) (Nat.le_of_ble_eq_true rfl) ?_
 intro T h X W qa
 replace qa : Av Z h a1 .int [(.int (0 : Int32)), (.int (1 : Int32)), (.int (2 : Int32))] := qa
 replace qb := qb.other W qh
 replace qc := qc.other W (Ne.symm qf)
 replace Z0 := Nat.le_trans Z0 (Nat.le_of_eq W.size.symm)
 replace N := Fr.snoc X.1 N qg
 replace Kp := Kp.wr W (Or.inl (List.mem_of_getElem? (i := 0) rfl))
 refine g_iinc X d22_32 (pc' := 35) (q := (1 : Int32)) (Ls' := #[.val (.ref a0), .val (.ref a1), .val (.ref a2), .val (.ref a0), .val (.int (3 : Int32)), .val (.int (3 : Int32)), .val (.int (0 : Int32))]) rfl rfl rfl rfl ?_
 refine g_goto X d22_35 (pc' := 9) (by decide) (by decide) ?_
 refine g_iload X d22_9 (pc' := 11) rfl rfl ?_
 refine g_iload X d22_11 (pc' := 13) rfl rfl ?_
 refine g_icY X d22_13 (flt (show ¬ ((3 : Int32) < (3 : Int32)) from (by decide))).2.1 (pc' := 38) (by decide) (by decide) ?_
 refine g_iconst X (1 : Int32) d22_38 (pc' := 39) rfl rfl ?_
 refine g_istoreN X d22_39 (pc' := 40) (Ls' := #[.val (.ref a0), .val (.ref a1), .val (.ref a2), .val (.int (1 : Int32)), .val (.int (3 : Int32)), .val (.int (3 : Int32)), .val (.int (0 : Int32))]) rfl rfl ?_
 refine g_iloadN X d22_40 (pc' := 41) rfl rfl ?_
 refine g_aloadN X d22_41 (pc' := 42) rfl rfl rfl ?_
 refine g_arraylength X qa d22_42 (pc' := 43) rfl (z := (3 : Int32)) rfl ?_
 refine g_icN X d22_43 (tlt (show (1 : Int32) < (3 : Int32) from (by decide))).2.1 (pc' := 46) rfl ?_
 refine g_aloadN X d22_46 (pc' := 47) rfl rfl rfl ?_
 refine g_iloadN X d22_47 (pc' := 48) rfl rfl ?_
 refine g_dup2 X d22_48 (pc' := 49) rfl rfl rfl ?_
 refine g_iaload X qa 1 d22_49 (pc' := 50) rfl (by decide) (by decide) rfl ?_
 refine g_aloadN X d22_50 (pc' := 51) rfl rfl rfl ?_
 refine g_iloadN X d22_51 (pc' := 52) rfl rfl ?_
 refine g_iconst X (1 : Int32) d22_52 (pc' := 53) rfl rfl ?_
 refine g_isub X d22_53 (pc' := 54) rfl ?_
 refine Go.lit32 (z := (0 : Int32)) (by decide) ?_
 refine g_iaload X qa 0 d22_54 (pc' := 55) rfl (by decide) (by decide) rfl ?_
 refine g_iadd X d22_55 (pc' := 56) rfl ?_
 refine Go.lit32 (z := (1 : Int32)) (by decide) ?_
 refine g_iastore X qa 1 d22_56 (pc' := 57) rfl (by decide) (by decide) (Nat.le_of_ble_eq_true rfl) ?_
 intro T h X W qa
 replace qa : Av Z h a1 .int [(.int (0 : Int32)), (.int (1 : Int32)), (.int (2 : Int32))] := qa
 replace qb := qb.other W qh
 replace qc := qc.other W (Ne.symm qf)
 replace Z0 := Nat.le_trans Z0 (Nat.le_of_eq W.size.symm)
 replace N := Fr.snoc X.1 N qg
 replace Kp := Kp.wr W (Or.inl (List.mem_of_getElem? (i := 0) rfl))
 refine g_iinc X d22_57 (pc' := 60) (q := (1 : Int32)) (Ls' := #[.val (.ref a0), .val (.ref a1), .val (.ref a2), .val (.int (2 : Int32)), .val (.int (3 : Int32)), .val (.int (3 : Int32)), .val (.int (0 : Int32))]) rfl rfl rfl rfl ?_
 refine g_goto X d22_60 (pc' := 40) (by decide) (by decide) ?_
 refine g_iloadN X d22_40 (pc' := 41) rfl rfl ?_
 refine g_aloadN X d22_41 (pc' := 42) rfl rfl rfl ?_
 refine g_arraylength X qa d22_42 (pc' := 43) rfl (z := (3 : Int32)) rfl ?_
 refine g_icN X d22_43 (tlt (show (2 : Int32) < (3 : Int32) from (by decide))).2.1 (pc' := 46) rfl ?_
 refine g_aloadN X d22_46 (pc' := 47) rfl rfl rfl ?_
 refine g_iloadN X d22_47 (pc' := 48) rfl rfl ?_
 refine g_dup2 X d22_48 (pc' := 49) rfl rfl rfl ?_
 refine g_iaload X qa 2 d22_49 (pc' := 50) rfl (by decide) (by decide) rfl ?_
 refine g_aloadN X d22_50 (pc' := 51) rfl rfl rfl ?_
 refine g_iloadN X d22_51 (pc' := 52) rfl rfl ?_
 refine g_iconst X (1 : Int32) d22_52 (pc' := 53) rfl rfl ?_
 refine g_isub X d22_53 (pc' := 54) rfl ?_
 refine Go.lit32 (z := (1 : Int32)) (by decide) ?_
 refine g_iaload X qa 1 d22_54 (pc' := 55) rfl (by decide) (by decide) rfl ?_
 refine g_iadd X d22_55 (pc' := 56) rfl ?_
 refine Go.lit32 (z := (3 : Int32)) (by decide) ?_
 refine g_iastore X qa 2 d22_56 (pc' := 57) rfl (by decide) (by decide) (Nat.le_of_ble_eq_true rfl) ?_
 intro T h X W qa
 replace qa : Av Z h a1 .int [(.int (0 : Int32)), (.int (1 : Int32)), (.int (3 : Int32))] := qa
 replace qb := qb.other W qh
 replace qc := qc.other W (Ne.symm qf)
 replace Z0 := Nat.le_trans Z0 (Nat.le_of_eq W.size.symm)
 replace N := Fr.snoc X.1 N qg
 replace Kp := Kp.wr W (Or.inl (List.mem_of_getElem? (i := 0) rfl))
 refine g_iinc X d22_57 (pc' := 60) (q := (1 : Int32)) (Ls' := #[.val (.ref a0), .val (.ref a1), .val (.ref a2), .val (.int (3 : Int32)), .val (.int (3 : Int32)), .val (.int (3 : Int32)), .val (.int (0 : Int32))]) rfl rfl rfl rfl ?_
 refine g_goto X d22_60 (pc' := 40) (by decide) (by decide) ?_
 refine g_iloadN X d22_40 (pc' := 41) rfl rfl ?_
 refine g_aloadN X d22_41 (pc' := 42) rfl rfl rfl ?_
 refine g_arraylength X qa d22_42 (pc' := 43) rfl (z := (3 : Int32)) rfl ?_
 refine g_icY X d22_43 (flt (show ¬ ((3 : Int32) < (3 : Int32)) from (by decide))).2.1 (pc' := 63) (by decide) (by decide) ?_
 refine g_aloadN X d22_63 (pc' := 64) rfl rfl rfl ?_
 refine g_aloadN X d22_64 (pc' := 65) rfl rfl rfl ?_
 refine g_arraylength X qa d22_65 (pc' := 66) rfl (z := (3 : Int32)) rfl ?_
 refine g_iconst X (1 : Int32) d22_66 (pc' := 67) rfl rfl ?_
 refine g_isub X d22_67 (pc' := 68) rfl ?_
 refine Go.lit32 (z := (2 : Int32)) (by decide) ?_
 refine g_static X (W := 0) [(.ref a1), (.int (2 : Int32))] [] (tb hw 143 rfl) (tb hw 144 rfl) (tb hw 115 rfl) (tb hw 145 rfl) (rCof l Z aa hw [] a1 (0 : Int32) (1 : Int32) (3 : Int32) _ n0 Z0 qa) d22_68 (pc' := 71) rfl (by decide) (by decide) (by decide) rfl rfl rfl (lenOf pd_14 rfl) (Nat.le_refl _) (by decide) (by decide) ?_
 intro v T L X q
 obtain ⟨qe, rfl, Nq, Kq, qj, qm, qq, qd⟩ := q
 have qn : a0 ≠ qe := Nat.ne_of_lt (Nat.lt_of_lt_of_le qb.lt qj)
 have qo : a1 ≠ qe := Nat.ne_of_lt (Nat.lt_of_lt_of_le qa.lt qj)
 have qi : a2 ≠ qe := Nat.ne_of_lt (Nat.lt_of_lt_of_le qc.lt qj)
 have qp : h0.size ≤ qe := Nat.le_trans Kp.1 qj
 replace N := N.app Nq
 replace qb := qb.keep Kq nin0
 replace qa := qa.keep Kq nin0
 replace qc := qc.keep Kq nin0
 replace Z0 := Nat.le_trans Z0 Kq.1
 replace Kp := Kp.trans Kq all0
 show Go p e below _ (T.setTop (mkF m 71 _ [(.ref qe)]))
 refine g_astoreN X d22_71 (pc' := 72) (Ls' := #[.val (.ref a0), .val (.ref a1), .val (.ref a2), .val (.ref qe), .val (.int (3 : Int32)), .val (.int (3 : Int32)), .val (.int (0 : Int32))]) rfl rfl rfl ?_
 refine g_iconst X (0 : Int32) d22_72 (pc' := 73) rfl rfl ?_
 refine g_istore X d22_73 (pc' := 75) (Ls' := #[.val (.ref a0), .val (.ref a1), .val (.ref a2), .val (.ref qe), .val (.int (0 : Int32)), .val (.int (3 : Int32)), .val (.int (0 : Int32))]) rfl rfl ?_
 refine g_iload X d22_75 (pc' := 77) rfl rfl ?_
 refine g_aloadN X d22_77 (pc' := 78) rfl rfl rfl ?_
 refine g_arraylength X qb d22_78 (pc' := 79) rfl (z := (3 : Int32)) rfl ?_
 refine g_icN X d22_79 (tlt (show (0 : Int32) < (3 : Int32) from (by decide))).2.1 (pc' := 82) rfl ?_
 refine g_aloadN X d22_82 (pc' := 83) rfl rfl rfl ?_
 refine g_aloadN X d22_83 (pc' := 84) rfl rfl rfl ?_
 refine g_aloadN X d22_84 (pc' := 85) rfl rfl rfl ?_
 refine g_iload X d22_85 (pc' := 87) rfl rfl ?_
 refine g_iaload X qb 0 d22_87 (pc' := 88) rfl (by decide) (by decide) rfl ?_
 refine g_dup2 X d22_88 (pc' := 89) rfl rfl rfl ?_
 refine g_iaload X qd 1 d22_89 (pc' := 90) rfl (by decide) (by decide) rfl ?_
 refine g_dup_x2 X d22_90 (pc' := 91) rfl rfl rfl rfl ?_
 refine g_iconst X (1 : Int32) d22_91 (pc' := 92) rfl rfl ?_
 refine g_iadd X d22_92 (pc' := 93) rfl ?_
 refine Go.lit32 (z := (2 : Int32)) (by decide) ?_
 refine g_iastore X qd 1 d22_93 (pc' := 94) rfl (by decide) (by decide) (Nat.le_of_ble_eq_true rfl) ?_
 intro T h X W qd
 replace qd : Av Z h qe .int [(.int (0 : Int32)), (.int (2 : Int32))] := qd
 replace qb := qb.other W qn
 replace qa := qa.other W qo
 replace qc := qc.other W qi
 replace Z0 := Nat.le_trans Z0 (Nat.le_of_eq W.size.symm)
 replace N := Fr.snoc X.1 N qm
 replace Kp := Kp.wr W (Or.inr qp)
 refine g_iload X d22_94 (pc' := 96) rfl rfl ?_
 refine g_iastore X qc 1 d22_96 (pc' := 97) rfl (by decide) (by decide) (Nat.le_of_ble_eq_true rfl) ?_
 intro T h X W qc
 replace qc : Av Z h a2 .int [(.int (0 : Int32)), (.int (0 : Int32)), (.int (0 : Int32))] := qc
 replace qb := qb.other W ql
 replace qa := qa.other W qf
 replace qd := qd.other W (Ne.symm qi)
 replace Z0 := Nat.le_trans Z0 (Nat.le_of_eq W.size.symm)
 replace N := Fr.snoc X.1 N qk
 replace Kp := Kp.wr W (Or.inl (List.mem_of_getElem? (i := 1) rfl))
 refine g_iinc X d22_97 (pc' := 100) (q := (1 : Int32)) (Ls' := #[.val (.ref a0), .val (.ref a1), .val (.ref a2), .val (.ref qe), .val (.int (1 : Int32)), .val (.int (3 : Int32)), .val (.int (0 : Int32))]) rfl rfl rfl rfl ?_
 refine g_goto X d22_100 (pc' := 75) (by decide) (by decide) ?_
 refine g_iload X d22_75 (pc' := 77) rfl rfl ?_
 refine g_aloadN X d22_77 (pc' := 78) rfl rfl rfl ?_
 refine g_arraylength X qb d22_78 (pc' := 79) rfl (z := (3 : Int32)) rfl ?_
 refine g_icN X d22_79 (tlt (show (1 : Int32) < (3 : Int32) from (by decide))).2.1 (pc' := 82) rfl ?_
 refine g_aloadN X d22_82 (pc' := 83) rfl rfl rfl ?_
 refine g_aloadN X d22_83 (pc' := 84) rfl rfl rfl ?_
 refine g_aloadN X d22_84 (pc' := 85) rfl rfl rfl ?_
 refine g_iload X d22_85 (pc' := 87) rfl rfl ?_
 refine g_iaload X qb 1 d22_87 (pc' := 88) rfl (by decide) (by decide) rfl ?_
 refine g_dup2 X d22_88 (pc' := 89) rfl rfl rfl ?_
 refine g_iaload X qd 1 d22_89 (pc' := 90) rfl (by decide) (by decide) rfl ?_
 refine g_dup_x2 X d22_90 (pc' := 91) rfl rfl rfl rfl ?_
 refine g_iconst X (1 : Int32) d22_91 (pc' := 92) rfl rfl ?_
 refine g_iadd X d22_92 (pc' := 93) rfl ?_
 refine Go.lit32 (z := (3 : Int32)) (by decide) ?_
 refine g_iastore X qd 1 d22_93 (pc' := 94) rfl (by decide) (by decide) (Nat.le_of_ble_eq_true rfl) ?_
 intro T h X W qd
 replace qd : Av Z h qe .int [(.int (0 : Int32)), (.int (3 : Int32))] := qd
 replace qb := qb.other W qn
 replace qa := qa.other W qo
 replace qc := qc.other W qi
 replace Z0 := Nat.le_trans Z0 (Nat.le_of_eq W.size.symm)
 replace N := Fr.snoc X.1 N qm
 replace Kp := Kp.wr W (Or.inr qp)
 refine g_iload X d22_94 (pc' := 96) rfl rfl ?_
 refine g_iastore X qc 2 d22_96 (pc' := 97) rfl (by decide) (by decide) (Nat.le_of_ble_eq_true rfl) ?_
 intro T h X W qc
 replace qc : Av Z h a2 .int [(.int (0 : Int32)), (.int (0 : Int32)), (.int (1 : Int32))] := qc
 replace qb := qb.other W ql
 replace qa := qa.other W qf
 replace qd := qd.other W (Ne.symm qi)
 replace Z0 := Nat.le_trans Z0 (Nat.le_of_eq W.size.symm)
 replace N := Fr.snoc X.1 N qk
 replace Kp := Kp.wr W (Or.inl (List.mem_of_getElem? (i := 1) rfl))
 refine g_iinc X d22_97 (pc' := 100) (q := (1 : Int32)) (Ls' := #[.val (.ref a0), .val (.ref a1), .val (.ref a2), .val (.ref qe), .val (.int (2 : Int32)), .val (.int (3 : Int32)), .val (.int (0 : Int32))]) rfl rfl rfl rfl ?_
 refine g_goto X d22_100 (pc' := 75) (by decide) (by decide) ?_
 refine g_iload X d22_75 (pc' := 77) rfl rfl ?_
 refine g_aloadN X d22_77 (pc' := 78) rfl rfl rfl ?_
 refine g_arraylength X qb d22_78 (pc' := 79) rfl (z := (3 : Int32)) rfl ?_
 refine g_icN X d22_79 (tlt (show (2 : Int32) < (3 : Int32) from (by decide))).2.1 (pc' := 82) rfl ?_
 refine g_aloadN X d22_82 (pc' := 83) rfl rfl rfl ?_
 refine g_aloadN X d22_83 (pc' := 84) rfl rfl rfl ?_
 refine g_aloadN X d22_84 (pc' := 85) rfl rfl rfl ?_
 refine g_iload X d22_85 (pc' := 87) rfl rfl ?_
 refine g_iaload X qb 2 d22_87 (pc' := 88) rfl (by decide) (by decide) rfl ?_
 refine g_dup2 X d22_88 (pc' := 89) rfl rfl rfl ?_
 refine g_iaload X qd 0 d22_89 (pc' := 90) rfl (by decide) (by decide) rfl ?_
 refine g_dup_x2 X d22_90 (pc' := 91) rfl rfl rfl rfl ?_
 refine g_iconst X (1 : Int32) d22_91 (pc' := 92) rfl rfl ?_
 refine g_iadd X d22_92 (pc' := 93) rfl ?_
 refine Go.lit32 (z := (1 : Int32)) (by decide) ?_
 refine g_iastore X qd 0 d22_93 (pc' := 94) rfl (by decide) (by decide) (Nat.le_of_ble_eq_true rfl) ?_
 intro T h X W qd
 replace qb := qb.other W qn
 replace qa := qa.other W qo
 replace qc := qc.other W qi
 replace Z0 := Nat.le_trans Z0 (Nat.le_of_eq W.size.symm)
 replace N := Fr.snoc X.1 N qm
 replace Kp := Kp.wr W (Or.inr qp)
 refine g_iload X d22_94 (pc' := 96) rfl rfl ?_
 refine g_iastore X qc 0 d22_96 (pc' := 97) rfl (by decide) (by decide) (Nat.le_of_ble_eq_true rfl) ?_
 intro T h X W qc
 replace qc : Av Z h a2 .int [(.int (2 : Int32)), (.int (0 : Int32)), (.int (1 : Int32))] := qc
 replace qb := qb.other W ql
 replace qa := qa.other W qf
 replace Z0 := Nat.le_trans Z0 (Nat.le_of_eq W.size.symm)
 replace N := Fr.snoc X.1 N qk
 replace Kp := Kp.wr W (Or.inl (List.mem_of_getElem? (i := 1) rfl))
 refine g_iinc X d22_97 (pc' := 100) (q := (1 : Int32)) (Ls' := #[.val (.ref a0), .val (.ref a1), .val (.ref a2), .val (.ref qe), .val (.int (3 : Int32)), .val (.int (3 : Int32)), .val (.int (0 : Int32))]) rfl rfl rfl rfl ?_
 refine g_goto X d22_100 (pc' := 75) (by decide) (by decide) ?_
 refine g_iload X d22_75 (pc' := 77) rfl rfl ?_
 refine g_aloadN X d22_77 (pc' := 78) rfl rfl rfl ?_
 refine g_arraylength X qb d22_78 (pc' := 79) rfl (z := (3 : Int32)) rfl ?_
 refine g_icY X d22_79 (flt (show ¬ ((3 : Int32) < (3 : Int32)) from (by decide))).2.1 (pc' := 103) (by decide) (by decide) ?_
 refine g_return X d22_103 hret hlk (by decide) (by decide) ?_
 exact ⟨rfl, N, Kp, qa, qc⟩
theorem ef_rGr4 (m : MethodId) (x0 : Addr) (x1 : Addr) (x2 : Addr) : entryFrame m #[(.ref x0), (.ref x1), (.ref x2)] 7 = mkF m 0 #[.val (.ref x0), .val (.ref x1), .val (.ref x2), .unset, .unset, .unset, .unset] [] := by first | (simp [entryFrame, mkF, argsToLocals, Value.category]; done) | rfl
set_option maxRecDepth 65536 in
set_option maxHeartbeats 40000000 in
theorem rGr4 (l : Launch) (Z : State) (aa : Array Value) (hw : ∀ d ∈ tables_1, d.before aa Z = true) (ws : List Jvm.Cond) (a0 : Addr) (a1 : Addr) (a2 : Addr) (h0 : Heap) (n0 : Nat) (Z0 : n0 ≤ h0.size) (qb : Av Z h0 a0 .int [(.int (0 : Int32)), (.int (0 : Int32)), (.int (1 : Int32))]) (qa : Av Z h0 a1 .int [(.int (0 : Int32)), (.int (0 : Int32)), (.int (0 : Int32))]) (qc : Av Z h0 a2 .int [(.int (0 : Int32)), (.int (0 : Int32)), (.int (0 : Int32))]) (qg : n0 ≤ a1) (qk : n0 ≤ a2) (qh : a0 ≠ a1) (ql : a0 ≠ a2) (qf : a1 ≠ a2) :
    Rm l Z (⟨"com/example/pathlattice/pathlattice/graph/Edges", "group", "([I[I[I)V"⟩ : MethodName) prog_18_method_2_code 7 none ws ({ frames := 2, cells := 1, slots := 2, locals := 32 } : Room) #[(.ref a0), (.ref a1), (.ref a2)] h0 (fun v h L => v = none ∧ Fr n0 L ∧ Keep h0 h [a1, a2] ∧ Av Z h a1 .int [(.int (0 : Int32)), (.int (2 : Int32)), (.int (3 : Int32))] ∧ Av Z h a2 .int [(.int (0 : Int32)), (.int (1 : Int32)), (.int (2 : Int32))]) := by
 refine Rm.of (plainFor_of_name pn_8) ?_
 intro p e s m below meth cc T X hnm hret hlk
 refine Go.at_ (ef_rGr4 m a0 a1 a2) ?_
 have N := Fr.nil n0
 have Kp := Keep.refl h0 [a1, a2]
 refine g_aloadN X d22_0 (pc' := 1) rfl rfl rfl ?_
 refine g_astoreN X d22_1 (pc' := 2) (Ls' := #[.val (.ref a0), .val (.ref a1), .val (.ref a2), .val (.ref a0), .unset, .unset, .unset]) rfl rfl rfl ?_
 refine g_aloadN X d22_2 (pc' := 3) rfl rfl rfl ?_
 refine g_arraylength X qb d22_3 (pc' := 4) rfl (z := (3 : Int32)) rfl ?_
 refine g_istore X d22_4 (pc' := 6) (Ls' := #[.val (.ref a0), .val (.ref a1), .val (.ref a2), .val (.ref a0), .val (.int (3 : Int32)), .unset, .unset]) rfl rfl ?_
 refine g_iconst X (0 : Int32) d22_6 (pc' := 7) rfl rfl ?_
 refine g_istore X d22_7 (pc' := 9) (Ls' := #[.val (.ref a0), .val (.ref a1), .val (.ref a2), .val (.ref a0), .val (.int (3 : Int32)), .val (.int (0 : Int32)), .unset]) rfl rfl ?_
 refine g_iload X d22_9 (pc' := 11) rfl rfl ?_
 refine g_iload X d22_11 (pc' := 13) rfl rfl ?_
 refine g_icN X d22_13 (tlt (show (0 : Int32) < (3 : Int32) from (by decide))).2.1 (pc' := 16) rfl ?_
 refine g_aloadN X d22_16 (pc' := 17) rfl rfl rfl ?_
 refine g_iload X d22_17 (pc' := 19) rfl rfl ?_
 refine g_iaload X qb 0 d22_19 (pc' := 20) rfl (by decide) (by decide) rfl ?_
 refine g_istore X d22_20 (pc' := 22) (Ls' := #[.val (.ref a0), .val (.ref a1), .val (.ref a2), .val (.ref a0), .val (.int (3 : Int32)), .val (.int (0 : Int32)), .val (.int (0 : Int32))]) rfl rfl ?_
 refine g_aloadN X d22_22 (pc' := 23) rfl rfl rfl ?_
 refine g_iload X d22_23 (pc' := 25) rfl rfl ?_
 refine g_iconst X (1 : Int32) d22_25 (pc' := 26) rfl rfl ?_
 refine g_iadd X d22_26 (pc' := 27) rfl ?_
 refine Go.lit32 (z := (1 : Int32)) (by decide) ?_
 refine g_dup2 X d22_27 (pc' := 28) rfl rfl rfl ?_
 refine g_iaload X qa 1 d22_28 (pc' := 29) rfl (by decide) (by decide) rfl ?_
 refine g_iconst X (1 : Int32) d22_29 (pc' := 30) rfl rfl ?_
 refine g_iadd X d22_30 (pc' := 31) rfl ?_
 refine Go.lit32 (z := (1 : Int32)) (by decide) ?_
 refine g_iastore X qa 1 d22_31 (pc' := 32) rfl (by decide) (by decide) (Nat.le_of_ble_eq_true rfl) ?_
 intro T h X W qa
 replace qa : Av Z h a1 .int [(.int (0 : Int32)), (.int (1 : Int32)), (.int (0 : Int32))] := qa
 replace qb := qb.other W qh
 replace qc := qc.other W (Ne.symm qf)
 replace Z0 := Nat.le_trans Z0 (Nat.le_of_eq W.size.symm)
 replace N := Fr.snoc X.1 N qg
 replace Kp := Kp.wr W (Or.inl (List.mem_of_getElem? (i := 0) rfl))
 refine g_iinc X d22_32 (pc' := 35) (q := (1 : Int32)) (Ls' := #[.val (.ref a0), .val (.ref a1), .val (.ref a2), .val (.ref a0), .val (.int (3 : Int32)), .val (.int (1 : Int32)), .val (.int (0 : Int32))]) rfl rfl rfl rfl ?_
 refine g_goto X d22_35 (pc' := 9) (by decide) (by decide) ?_
 refine g_iload X d22_9 (pc' := 11) rfl rfl ?_
 refine g_iload X d22_11 (pc' := 13) rfl rfl ?_
 refine g_icN X d22_13 (tlt (show (1 : Int32) < (3 : Int32) from (by decide))).2.1 (pc' := 16) rfl ?_
 refine g_aloadN X d22_16 (pc' := 17) rfl rfl rfl ?_
 refine g_iload X d22_17 (pc' := 19) rfl rfl ?_
 refine g_iaload X qb 1 d22_19 (pc' := 20) rfl (by decide) (by decide) rfl ?_
 refine g_istore X d22_20 (pc' := 22) (Ls' := #[.val (.ref a0), .val (.ref a1), .val (.ref a2), .val (.ref a0), .val (.int (3 : Int32)), .val (.int (1 : Int32)), .val (.int (0 : Int32))]) rfl rfl ?_
 refine g_aloadN X d22_22 (pc' := 23) rfl rfl rfl ?_
 refine g_iload X d22_23 (pc' := 25) rfl rfl ?_
 refine g_iconst X (1 : Int32) d22_25 (pc' := 26) rfl rfl ?_
 refine g_iadd X d22_26 (pc' := 27) rfl ?_
 refine Go.lit32 (z := (1 : Int32)) (by decide) ?_
 refine g_dup2 X d22_27 (pc' := 28) rfl rfl rfl ?_
 refine g_iaload X qa 1 d22_28 (pc' := 29) rfl (by decide) (by decide) rfl ?_
 refine g_iconst X (1 : Int32) d22_29 (pc' := 30) rfl rfl ?_
 refine g_iadd X d22_30 (pc' := 31) rfl ?_
 refine Go.lit32 (z := (2 : Int32)) (by decide) ?_
 refine g_iastore X qa 1 d22_31 (pc' := 32) rfl (by decide) (by decide) (Nat.le_of_ble_eq_true rfl) ?_
 intro T h X W qa
 replace qa : Av Z h a1 .int [(.int (0 : Int32)), (.int (2 : Int32)), (.int (0 : Int32))] := qa
 replace qb := qb.other W qh
 replace qc := qc.other W (Ne.symm qf)
 replace Z0 := Nat.le_trans Z0 (Nat.le_of_eq W.size.symm)
 replace N := Fr.snoc X.1 N qg
 replace Kp := Kp.wr W (Or.inl (List.mem_of_getElem? (i := 0) rfl))
 refine g_iinc X d22_32 (pc' := 35) (q := (1 : Int32)) (Ls' := #[.val (.ref a0), .val (.ref a1), .val (.ref a2), .val (.ref a0), .val (.int (3 : Int32)), .val (.int (2 : Int32)), .val (.int (0 : Int32))]) rfl rfl rfl rfl ?_
 refine g_goto X d22_35 (pc' := 9) (by decide) (by decide) ?_
 refine g_iload X d22_9 (pc' := 11) rfl rfl ?_
 refine g_iload X d22_11 (pc' := 13) rfl rfl ?_
 refine g_icN X d22_13 (tlt (show (2 : Int32) < (3 : Int32) from (by decide))).2.1 (pc' := 16) rfl ?_
 refine g_aloadN X d22_16 (pc' := 17) rfl rfl rfl ?_
 refine g_iload X d22_17 (pc' := 19) rfl rfl ?_
 refine g_iaload X qb 2 d22_19 (pc' := 20) rfl (by decide) (by decide) rfl ?_
 refine g_istore X d22_20 (pc' := 22) (Ls' := #[.val (.ref a0), .val (.ref a1), .val (.ref a2), .val (.ref a0), .val (.int (3 : Int32)), .val (.int (2 : Int32)), .val (.int (1 : Int32))]) rfl rfl ?_
 refine g_aloadN X d22_22 (pc' := 23) rfl rfl rfl ?_
 refine g_iload X d22_23 (pc' := 25) rfl rfl ?_
 refine g_iconst X (1 : Int32) d22_25 (pc' := 26) rfl rfl ?_
 refine g_iadd X d22_26 (pc' := 27) rfl ?_
 refine Go.lit32 (z := (2 : Int32)) (by decide) ?_
 refine g_dup2 X d22_27 (pc' := 28) rfl rfl rfl ?_
 refine g_iaload X qa 2 d22_28 (pc' := 29) rfl (by decide) (by decide) rfl ?_
 refine g_iconst X (1 : Int32) d22_29 (pc' := 30) rfl rfl ?_
 refine g_iadd X d22_30 (pc' := 31) rfl ?_
 refine Go.lit32 (z := (1 : Int32)) (by decide) ?_
 refine g_iastore X qa 2 d22_31 (pc' := 32) rfl (by decide) (by decide) (Nat.le_of_ble_eq_true rfl) ?_
 intro T h X W qa
 replace qa : Av Z h a1 .int [(.int (0 : Int32)), (.int (2 : Int32)), (.int (1 : Int32))] := qa
 replace qb := qb.other W qh
 replace qc := qc.other W (Ne.symm qf)
 replace Z0 := Nat.le_trans Z0 (Nat.le_of_eq W.size.symm)
 replace N := Fr.snoc X.1 N qg
 replace Kp := Kp.wr W (Or.inl (List.mem_of_getElem? (i := 0) rfl))
 refine g_iinc X d22_32 (pc' := 35) (q := (1 : Int32)) (Ls' := #[.val (.ref a0), .val (.ref a1), .val (.ref a2), .val (.ref a0), .val (.int (3 : Int32)), .val (.int (3 : Int32)), .val (.int (1 : Int32))]) rfl rfl rfl rfl ?_
 refine g_goto X d22_35 (pc' := 9) (by decide) (by decide) ?_
 refine g_iload X d22_9 (pc' := 11) rfl rfl ?_
 refine g_iload X d22_11 (pc' := 13) rfl rfl ?_
 refine g_icY X d22_13 (flt (show ¬ ((3 : Int32) < (3 : Int32)) from (by decide))).2.1 (pc' := 38) (by decide) (by decide) ?_
 refine g_iconst X (1 : Int32) d22_38 (pc' := 39) rfl rfl ?_
 refine g_istoreN X d22_39 (pc' := 40) (Ls' := #[.val (.ref a0), .val (.ref a1), .val (.ref a2), .val (.int (1 : Int32)), .val (.int (3 : Int32)), .val (.int (3 : Int32)), .val (.int (1 : Int32))]) rfl rfl ?_
 refine g_iloadN X d22_40 (pc' := 41) rfl rfl ?_
 refine g_aloadN X d22_41 (pc' := 42) rfl rfl rfl ?_
 refine g_arraylength X qa d22_42 (pc' := 43) rfl (z := (3 : Int32)) rfl ?_
 refine g_icN X d22_43 (tlt (show (1 : Int32) < (3 : Int32) from (by decide))).2.1 (pc' := 46) rfl ?_
 refine g_aloadN X d22_46 (pc' := 47) rfl rfl rfl ?_
 refine g_iloadN X d22_47 (pc' := 48) rfl rfl ?_
 refine g_dup2 X d22_48 (pc' := 49) rfl rfl rfl ?_
 refine g_iaload X qa 1 d22_49 (pc' := 50) rfl (by decide) (by decide) rfl ?_
 refine g_aloadN X d22_50 (pc' := 51) rfl rfl rfl ?_
 refine g_iloadN X d22_51 (pc' := 52) rfl rfl ?_
 refine g_iconst X (1 : Int32) d22_52 (pc' := 53) rfl rfl ?_
 refine g_isub X d22_53 (pc' := 54) rfl ?_
 refine Go.lit32 (z := (0 : Int32)) (by decide) ?_
 refine g_iaload X qa 0 d22_54 (pc' := 55) rfl (by decide) (by decide) rfl ?_
 refine g_iadd X d22_55 (pc' := 56) rfl ?_
 refine Go.lit32 (z := (2 : Int32)) (by decide) ?_
 refine g_iastore X qa 1 d22_56 (pc' := 57) rfl (by decide) (by decide) (Nat.le_of_ble_eq_true rfl) ?_
 intro T h X W qa
 replace qa : Av Z h a1 .int [(.int (0 : Int32)), (.int (2 : Int32)), (.int (1 : Int32))] := qa
 replace qb := qb.other W qh
 replace qc := qc.other W (Ne.symm qf)
 replace Z0 := Nat.le_trans Z0 (Nat.le_of_eq W.size.symm)
 replace N := Fr.snoc X.1 N qg
 replace Kp := Kp.wr W (Or.inl (List.mem_of_getElem? (i := 0) rfl))
 refine g_iinc X d22_57 (pc' := 60) (q := (1 : Int32)) (Ls' := #[.val (.ref a0), .val (.ref a1), .val (.ref a2), .val (.int (2 : Int32)), .val (.int (3 : Int32)), .val (.int (3 : Int32)), .val (.int (1 : Int32))]) rfl rfl rfl rfl ?_
 refine g_goto X d22_60 (pc' := 40) (by decide) (by decide) ?_
 refine g_iloadN X d22_40 (pc' := 41) rfl rfl ?_
 refine g_aloadN X d22_41 (pc' := 42) rfl rfl rfl ?_
 refine g_arraylength X qa d22_42 (pc' := 43) rfl (z := (3 : Int32)) rfl ?_
 refine g_icN X d22_43 (tlt (show (2 : Int32) < (3 : Int32) from (by decide))).2.1 (pc' := 46) rfl ?_
 refine g_aloadN X d22_46 (pc' := 47) rfl rfl rfl ?_
 refine g_iloadN X d22_47 (pc' := 48) rfl rfl ?_
 refine g_dup2 X d22_48 (pc' := 49) rfl rfl rfl ?_
 refine g_iaload X qa 2 d22_49 (pc' := 50) rfl (by decide) (by decide) rfl ?_
 refine g_aloadN X d22_50 (pc' := 51) rfl rfl rfl ?_
 refine g_iloadN X d22_51 (pc' := 52) rfl rfl ?_
 refine g_iconst X (1 : Int32) d22_52 (pc' := 53) rfl rfl ?_
 refine g_isub X d22_53 (pc' := 54) rfl ?_
 refine Go.lit32 (z := (1 : Int32)) (by decide) ?_
 refine g_iaload X qa 1 d22_54 (pc' := 55) rfl (by decide) (by decide) rfl ?_
 refine g_iadd X d22_55 (pc' := 56) rfl ?_
 refine Go.lit32 (z := (3 : Int32)) (by decide) ?_
 refine g_iastore X qa 2 d22_56 (pc' := 57) rfl (by decide) (by decide) (Nat.le_of_ble_eq_true rfl) ?_
 intro T h X W qa
 replace qa : Av Z h a1 .int [(.int (0 : Int32)), (.int (2 : Int32)), (.int (3 : Int32))] := qa
 replace qb := qb.other W qh
 replace qc := qc.other W (Ne.symm qf)
 replace Z0 := Nat.le_trans Z0 (Nat.le_of_eq W.size.symm)
 replace N := Fr.snoc X.1 N qg
 replace Kp := Kp.wr W (Or.inl (List.mem_of_getElem? (i := 0) rfl))
 refine g_iinc X d22_57 (pc' := 60) (q := (1 : Int32)) (Ls' := #[.val (.ref a0), .val (.ref a1), .val (.ref a2), .val (.int (3 : Int32)), .val (.int (3 : Int32)), .val (.int (3 : Int32)), .val (.int (1 : Int32))]) rfl rfl rfl rfl ?_
 refine g_goto X d22_60 (pc' := 40) (by decide) (by decide) ?_
 refine g_iloadN X d22_40 (pc' := 41) rfl rfl ?_
 refine g_aloadN X d22_41 (pc' := 42) rfl rfl rfl ?_
 refine g_arraylength X qa d22_42 (pc' := 43) rfl (z := (3 : Int32)) rfl ?_
 refine g_icY X d22_43 (flt (show ¬ ((3 : Int32) < (3 : Int32)) from (by decide))).2.1 (pc' := 63) (by decide) (by decide) ?_
 refine g_aloadN X d22_63 (pc' := 64) rfl rfl rfl ?_
 refine g_aloadN X d22_64 (pc' := 65) rfl rfl rfl ?_
 refine g_arraylength X qa d22_65 (pc' := 66) rfl (z := (3 : Int32)) rfl ?_
 refine g_iconst X (1 : Int32) d22_66 (pc' := 67) rfl rfl ?_
 refine g_isub X d22_67 (pc' := 68) rfl ?_
 refine Go.lit32 (z := (2 : Int32)) (by decide) ?_
 refine g_static X (W := 0) [(.ref a1), (.int (2 : Int32))] [] (tb hw 143 rfl) (tb hw 144 rfl) (tb hw 115 rfl) (tb hw 145 rfl) (rCof l Z aa hw [] a1 (0 : Int32) (2 : Int32) (3 : Int32) _ n0 Z0 qa) d22_68 (pc' := 71) rfl (by decide) (by decide) (by decide) rfl rfl rfl (lenOf pd_14 rfl) (Nat.le_refl _) (by decide) (by decide) ?_
 intro v T L X q
 obtain ⟨qe, rfl, Nq, Kq, qj, qm, qq, qd⟩ := q
 have qn : a0 ≠ qe := Nat.ne_of_lt (Nat.lt_of_lt_of_le qb.lt qj)
 have qo : a1 ≠ qe := Nat.ne_of_lt (Nat.lt_of_lt_of_le qa.lt qj)
 have qi : a2 ≠ qe := Nat.ne_of_lt (Nat.lt_of_lt_of_le qc.lt qj)
 have qp : h0.size ≤ qe := Nat.le_trans Kp.1 qj
 replace N := N.app Nq
 replace qb := qb.keep Kq nin0
 replace qa := qa.keep Kq nin0
 replace qc := qc.keep Kq nin0
 replace Z0 := Nat.le_trans Z0 Kq.1
 replace Kp := Kp.trans Kq all0
 show Go p e below _ (T.setTop (mkF m 71 _ [(.ref qe)]))
 refine g_astoreN X d22_71 (pc' := 72) (Ls' := #[.val (.ref a0), .val (.ref a1), .val (.ref a2), .val (.ref qe), .val (.int (3 : Int32)), .val (.int (3 : Int32)), .val (.int (1 : Int32))]) rfl rfl rfl ?_
 refine g_iconst X (0 : Int32) d22_72 (pc' := 73) rfl rfl ?_
 refine g_istore X d22_73 (pc' := 75) (Ls' := #[.val (.ref a0), .val (.ref a1), .val (.ref a2), .val (.ref qe), .val (.int (0 : Int32)), .val (.int (3 : Int32)), .val (.int (1 : Int32))]) rfl rfl ?_
 refine g_iload X d22_75 (pc' := 77) rfl rfl ?_
 refine g_aloadN X d22_77 (pc' := 78) rfl rfl rfl ?_
 refine g_arraylength X qb d22_78 (pc' := 79) rfl (z := (3 : Int32)) rfl ?_
 refine g_icN X d22_79 (tlt (show (0 : Int32) < (3 : Int32) from (by decide))).2.1 (pc' := 82) rfl ?_
 refine g_aloadN X d22_82 (pc' := 83) rfl rfl rfl ?_
 refine g_aloadN X d22_83 (pc' := 84) rfl rfl rfl ?_
 refine g_aloadN X d22_84 (pc' := 85) rfl rfl rfl ?_
 refine g_iload X d22_85 (pc' := 87) rfl rfl ?_
 refine g_iaload X qb 0 d22_87 (pc' := 88) rfl (by decide) (by decide) rfl ?_
 refine g_dup2 X d22_88 (pc' := 89) rfl rfl rfl ?_
 refine g_iaload X qd 0 d22_89 (pc' := 90) rfl (by decide) (by decide) rfl ?_
 refine g_dup_x2 X d22_90 (pc' := 91) rfl rfl rfl rfl ?_
 refine g_iconst X (1 : Int32) d22_91 (pc' := 92) rfl rfl ?_
 refine g_iadd X d22_92 (pc' := 93) rfl ?_
 refine Go.lit32 (z := (1 : Int32)) (by decide) ?_
 refine g_iastore X qd 0 d22_93 (pc' := 94) rfl (by decide) (by decide) (Nat.le_of_ble_eq_true rfl) ?_
 intro T h X W qd
 replace qd : Av Z h qe .int [(.int (1 : Int32)), (.int (2 : Int32))] := qd
 replace qb := qb.other W qn
 replace qa := qa.other W qo
 replace qc := qc.other W qi
 replace Z0 := Nat.le_trans Z0 (Nat.le_of_eq W.size.symm)
 replace N := Fr.snoc X.1 N qm
 replace Kp := Kp.wr W (Or.inr qp)
 refine g_iload X d22_94 (pc' := 96) rfl rfl ?_
 refine g_iastore X qc 0 d22_96 (pc' := 97) rfl (by decide) (by decide) (Nat.le_of_ble_eq_true rfl) ?_
 intro T h X W qc
 replace qc : Av Z h a2 .int [(.int (0 : Int32)), (.int (0 : Int32)), (.int (0 : Int32))] := qc
 replace qb := qb.other W ql
 replace qa := qa.other W qf
 replace qd := qd.other W (Ne.symm qi)
 replace Z0 := Nat.le_trans Z0 (Nat.le_of_eq W.size.symm)
 replace N := Fr.snoc X.1 N qk
 replace Kp := Kp.wr W (Or.inl (List.mem_of_getElem? (i := 1) rfl))
 refine g_iinc X d22_97 (pc' := 100) (q := (1 : Int32)) (Ls' := #[.val (.ref a0), .val (.ref a1), .val (.ref a2), .val (.ref qe), .val (.int (1 : Int32)), .val (.int (3 : Int32)), .val (.int (1 : Int32))]) rfl rfl rfl rfl ?_
 refine g_goto X d22_100 (pc' := 75) (by decide) (by decide) ?_
 refine g_iload X d22_75 (pc' := 77) rfl rfl ?_
 refine g_aloadN X d22_77 (pc' := 78) rfl rfl rfl ?_
 refine g_arraylength X qb d22_78 (pc' := 79) rfl (z := (3 : Int32)) rfl ?_
 refine g_icN X d22_79 (tlt (show (1 : Int32) < (3 : Int32) from (by decide))).2.1 (pc' := 82) rfl ?_
 refine g_aloadN X d22_82 (pc' := 83) rfl rfl rfl ?_
 refine g_aloadN X d22_83 (pc' := 84) rfl rfl rfl ?_
 refine g_aloadN X d22_84 (pc' := 85) rfl rfl rfl ?_
 refine g_iload X d22_85 (pc' := 87) rfl rfl ?_
 refine g_iaload X qb 1 d22_87 (pc' := 88) rfl (by decide) (by decide) rfl ?_
 refine g_dup2 X d22_88 (pc' := 89) rfl rfl rfl ?_
 refine g_iaload X qd 0 d22_89 (pc' := 90) rfl (by decide) (by decide) rfl ?_
 refine g_dup_x2 X d22_90 (pc' := 91) rfl rfl rfl rfl ?_
 refine g_iconst X (1 : Int32) d22_91 (pc' := 92) rfl rfl ?_
 refine g_iadd X d22_92 (pc' := 93) rfl ?_
 refine Go.lit32 (z := (2 : Int32)) (by decide) ?_
 refine g_iastore X qd 0 d22_93 (pc' := 94) rfl (by decide) (by decide) (Nat.le_of_ble_eq_true rfl) ?_
 intro T h X W qd
 replace qd : Av Z h qe .int [(.int (2 : Int32)), (.int (2 : Int32))] := qd
 replace qb := qb.other W qn
 replace qa := qa.other W qo
 replace qc := qc.other W qi
 replace Z0 := Nat.le_trans Z0 (Nat.le_of_eq W.size.symm)
 replace N := Fr.snoc X.1 N qm
 replace Kp := Kp.wr W (Or.inr qp)
 refine g_iload X d22_94 (pc' := 96) rfl rfl ?_
 refine g_iastore X qc 1 d22_96 (pc' := 97) rfl (by decide) (by decide) (Nat.le_of_ble_eq_true rfl) ?_
 intro T h X W qc
 replace qc : Av Z h a2 .int [(.int (0 : Int32)), (.int (1 : Int32)), (.int (0 : Int32))] := qc
 replace qb := qb.other W ql
 replace qa := qa.other W qf
 replace qd := qd.other W (Ne.symm qi)
 replace Z0 := Nat.le_trans Z0 (Nat.le_of_eq W.size.symm)
 replace N := Fr.snoc X.1 N qk
 replace Kp := Kp.wr W (Or.inl (List.mem_of_getElem? (i := 1) rfl))
 refine g_iinc X d22_97 (pc' := 100) (q := (1 : Int32)) (Ls' := #[.val (.ref a0), .val (.ref a1), .val (.ref a2), .val (.ref qe), .val (.int (2 : Int32)), .val (.int (3 : Int32)), .val (.int (1 : Int32))]) rfl rfl rfl rfl ?_
 refine g_goto X d22_100 (pc' := 75) (by decide) (by decide) ?_
 refine g_iload X d22_75 (pc' := 77) rfl rfl ?_
 refine g_aloadN X d22_77 (pc' := 78) rfl rfl rfl ?_
 refine g_arraylength X qb d22_78 (pc' := 79) rfl (z := (3 : Int32)) rfl ?_
 refine g_icN X d22_79 (tlt (show (2 : Int32) < (3 : Int32) from (by decide))).2.1 (pc' := 82) rfl ?_
 refine g_aloadN X d22_82 (pc' := 83) rfl rfl rfl ?_
 refine g_aloadN X d22_83 (pc' := 84) rfl rfl rfl ?_
 refine g_aloadN X d22_84 (pc' := 85) rfl rfl rfl ?_
 refine g_iload X d22_85 (pc' := 87) rfl rfl ?_
 refine g_iaload X qb 2 d22_87 (pc' := 88) rfl (by decide) (by decide) rfl ?_
 refine g_dup2 X d22_88 (pc' := 89) rfl rfl rfl ?_
 refine g_iaload X qd 1 d22_89 (pc' := 90) rfl (by decide) (by decide) rfl ?_
 refine g_dup_x2 X d22_90 (pc' := 91) rfl rfl rfl rfl ?_
 refine g_iconst X (1 : Int32) d22_91 (pc' := 92) rfl rfl ?_
 refine g_iadd X d22_92 (pc' := 93) rfl ?_
 refine Go.lit32 (z := (3 : Int32)) (by decide) ?_
 refine g_iastore X qd 1 d22_93 (pc' := 94) rfl (by decide) (by decide) (Nat.le_of_ble_eq_true rfl) ?_
 intro T h X W qd
 replace qb := qb.other W qn
 replace qa := qa.other W qo
 replace qc := qc.other W qi
 replace Z0 := Nat.le_trans Z0 (Nat.le_of_eq W.size.symm)
 replace N := Fr.snoc X.1 N qm
 replace Kp := Kp.wr W (Or.inr qp)
 refine g_iload X d22_94 (pc' := 96) rfl rfl ?_
 refine g_iastore X qc 2 d22_96 (pc' := 97) rfl (by decide) (by decide) (Nat.le_of_ble_eq_true rfl) ?_
 intro T h X W qc
 replace qc : Av Z h a2 .int [(.int (0 : Int32)), (.int (1 : Int32)), (.int (2 : Int32))] := qc
 replace qb := qb.other W ql
 replace qa := qa.other W qf
 replace Z0 := Nat.le_trans Z0 (Nat.le_of_eq W.size.symm)
 replace N := Fr.snoc X.1 N qk
 replace Kp := Kp.wr W (Or.inl (List.mem_of_getElem? (i := 1) rfl))
 refine g_iinc X d22_97 (pc' := 100) (q := (1 : Int32)) (Ls' := #[.val (.ref a0), .val (.ref a1), .val (.ref a2), .val (.ref qe), .val (.int (3 : Int32)), .val (.int (3 : Int32)), .val (.int (1 : Int32))]) rfl rfl rfl rfl ?_
 refine g_goto X d22_100 (pc' := 75) (by decide) (by decide) ?_
 refine g_iload X d22_75 (pc' := 77) rfl rfl ?_
 refine g_aloadN X d22_77 (pc' := 78) rfl rfl rfl ?_
 refine g_arraylength X qb d22_78 (pc' := 79) rfl (z := (3 : Int32)) rfl ?_
 refine g_icY X d22_79 (flt (show ¬ ((3 : Int32) < (3 : Int32)) from (by decide))).2.1 (pc' := 103) (by decide) (by decide) ?_
 refine g_return X d22_103 hret hlk (by decide) (by decide) ?_
 exact ⟨rfl, N, Kp, qa, qc⟩
theorem ef_rGr5 (m : MethodId) (x0 : Addr) (x1 : Addr) (x2 : Addr) : entryFrame m #[(.ref x0), (.ref x1), (.ref x2)] 7 = mkF m 0 #[.val (.ref x0), .val (.ref x1), .val (.ref x2), .unset, .unset, .unset, .unset] [] := by first | (simp [entryFrame, mkF, argsToLocals, Value.category]; done) | rfl
set_option maxRecDepth 65536 in
set_option maxHeartbeats 40000000 in
theorem rGr5 (l : Launch) (Z : State) (aa : Array Value) (hw : ∀ d ∈ tables_1, d.before aa Z = true) (ws : List Jvm.Cond) (a0 : Addr) (a1 : Addr) (a2 : Addr) (h0 : Heap) (n0 : Nat) (Z0 : n0 ≤ h0.size) (qb : Av Z h0 a0 .int [(.int (1 : Int32)), (.int (0 : Int32)), (.int (1 : Int32))]) (qa : Av Z h0 a1 .int [(.int (0 : Int32)), (.int (0 : Int32)), (.int (0 : Int32))]) (qc : Av Z h0 a2 .int [(.int (0 : Int32)), (.int (0 : Int32)), (.int (0 : Int32))]) (qg : n0 ≤ a1) (qk : n0 ≤ a2) (qh : a0 ≠ a1) (ql : a0 ≠ a2) (qf : a1 ≠ a2) :
    Rm l Z (⟨"com/example/pathlattice/pathlattice/graph/Edges", "group", "([I[I[I)V"⟩ : MethodName) prog_18_method_2_code 7 none ws ({ frames := 2, cells := 1, slots := 2, locals := 32 } : Room) #[(.ref a0), (.ref a1), (.ref a2)] h0 (fun v h L => v = none ∧ Fr n0 L ∧ Keep h0 h [a1, a2] ∧ Av Z h a1 .int [(.int (0 : Int32)), (.int (1 : Int32)), (.int (3 : Int32))] ∧ Av Z h a2 .int [(.int (1 : Int32)), (.int (0 : Int32)), (.int (2 : Int32))]) := by
 refine Rm.of (plainFor_of_name pn_8) ?_
 intro p e s m below meth cc T X hnm hret hlk
 refine Go.at_ (ef_rGr5 m a0 a1 a2) ?_
 have N := Fr.nil n0
 have Kp := Keep.refl h0 [a1, a2]
 refine g_aloadN X d22_0 (pc' := 1) rfl rfl rfl ?_
 refine g_astoreN X d22_1 (pc' := 2) (Ls' := #[.val (.ref a0), .val (.ref a1), .val (.ref a2), .val (.ref a0), .unset, .unset, .unset]) rfl rfl rfl ?_
 refine g_aloadN X d22_2 (pc' := 3) rfl rfl rfl ?_
 refine g_arraylength X qb d22_3 (pc' := 4) rfl (z := (3 : Int32)) rfl ?_
 refine g_istore X d22_4 (pc' := 6) (Ls' := #[.val (.ref a0), .val (.ref a1), .val (.ref a2), .val (.ref a0), .val (.int (3 : Int32)), .unset, .unset]) rfl rfl ?_
 refine g_iconst X (0 : Int32) d22_6 (pc' := 7) rfl rfl ?_
 refine g_istore X d22_7 (pc' := 9) (Ls' := #[.val (.ref a0), .val (.ref a1), .val (.ref a2), .val (.ref a0), .val (.int (3 : Int32)), .val (.int (0 : Int32)), .unset]) rfl rfl ?_
 refine g_iload X d22_9 (pc' := 11) rfl rfl ?_
 refine g_iload X d22_11 (pc' := 13) rfl rfl ?_
 refine g_icN X d22_13 (tlt (show (0 : Int32) < (3 : Int32) from (by decide))).2.1 (pc' := 16) rfl ?_
 refine g_aloadN X d22_16 (pc' := 17) rfl rfl rfl ?_
 refine g_iload X d22_17 (pc' := 19) rfl rfl ?_
 refine g_iaload X qb 0 d22_19 (pc' := 20) rfl (by decide) (by decide) rfl ?_
 refine g_istore X d22_20 (pc' := 22) (Ls' := #[.val (.ref a0), .val (.ref a1), .val (.ref a2), .val (.ref a0), .val (.int (3 : Int32)), .val (.int (0 : Int32)), .val (.int (1 : Int32))]) rfl rfl ?_
 refine g_aloadN X d22_22 (pc' := 23) rfl rfl rfl ?_
 refine g_iload X d22_23 (pc' := 25) rfl rfl ?_
 refine g_iconst X (1 : Int32) d22_25 (pc' := 26) rfl rfl ?_
 refine g_iadd X d22_26 (pc' := 27) rfl ?_
 refine Go.lit32 (z := (2 : Int32)) (by decide) ?_
 refine g_dup2 X d22_27 (pc' := 28) rfl rfl rfl ?_
 refine g_iaload X qa 2 d22_28 (pc' := 29) rfl (by decide) (by decide) rfl ?_
 refine g_iconst X (1 : Int32) d22_29 (pc' := 30) rfl rfl ?_
 refine g_iadd X d22_30 (pc' := 31) rfl ?_
 refine Go.lit32 (z := (1 : Int32)) (by decide) ?_
 refine g_iastore X qa 2 d22_31 (pc' := 32) rfl (by decide) (by decide) (Nat.le_of_ble_eq_true rfl) ?_
 intro T h X W qa
 replace qa : Av Z h a1 .int [(.int (0 : Int32)), (.int (0 : Int32)), (.int (1 : Int32))] := qa
 replace qb := qb.other W qh
 replace qc := qc.other W (Ne.symm qf)
 replace Z0 := Nat.le_trans Z0 (Nat.le_of_eq W.size.symm)
 replace N := Fr.snoc X.1 N qg
 replace Kp := Kp.wr W (Or.inl (List.mem_of_getElem? (i := 0) rfl))
 refine g_iinc X d22_32 (pc' := 35) (q := (1 : Int32)) (Ls' := #[.val (.ref a0), .val (.ref a1), .val (.ref a2), .val (.ref a0), .val (.int (3 : Int32)), .val (.int (1 : Int32)), .val (.int (1 : Int32))]) rfl rfl rfl rfl ?_
 refine g_goto X d22_35 (pc' := 9) (by decide) (by decide) ?_
 refine g_iload X d22_9 (pc' := 11) rfl rfl ?_
 refine g_iload X d22_11 (pc' := 13) rfl rfl ?_
 refine g_icN X d22_13 (tlt (show (1 : Int32) < (3 : Int32) from (by decide))).2.1 (pc' := 16) rfl ?_
 refine g_aloadN X d22_16 (pc' := 17) rfl rfl rfl ?_
 refine g_iload X d22_17 (pc' := 19) rfl rfl ?_
 refine g_iaload X qb 1 d22_19 (pc' := 20) rfl (by decide) (by decide) rfl ?_
 refine g_istore X d22_20 (pc' := 22) (Ls' := #[.val (.ref a0), .val (.ref a1), .val (.ref a2), .val (.ref a0), .val (.int (3 : Int32)), .val (.int (1 : Int32)), .val (.int (0 : Int32))]) rfl rfl ?_
 refine g_aloadN X d22_22 (pc' := 23) rfl rfl rfl ?_
 refine g_iload X d22_23 (pc' := 25) rfl rfl ?_
 refine g_iconst X (1 : Int32) d22_25 (pc' := 26) rfl rfl ?_
 refine g_iadd X d22_26 (pc' := 27) rfl ?_
 refine Go.lit32 (z := (1 : Int32)) (by decide) ?_
 refine g_dup2 X d22_27 (pc' := 28) rfl rfl rfl ?_
 refine g_iaload X qa 1 d22_28 (pc' := 29) rfl (by decide) (by decide) rfl ?_
 refine g_iconst X (1 : Int32) d22_29 (pc' := 30) rfl rfl ?_
 refine g_iadd X d22_30 (pc' := 31) rfl ?_
 refine Go.lit32 (z := (1 : Int32)) (by decide) ?_
 refine g_iastore X qa 1 d22_31 (pc' := 32) rfl (by decide) (by decide) (Nat.le_of_ble_eq_true rfl) ?_
 intro T h X W qa
 replace qa : Av Z h a1 .int [(.int (0 : Int32)), (.int (1 : Int32)), (.int (1 : Int32))] := qa
 replace qb := qb.other W qh
 replace qc := qc.other W (Ne.symm qf)
 replace Z0 := Nat.le_trans Z0 (Nat.le_of_eq W.size.symm)
 replace N := Fr.snoc X.1 N qg
 replace Kp := Kp.wr W (Or.inl (List.mem_of_getElem? (i := 0) rfl))
 refine g_iinc X d22_32 (pc' := 35) (q := (1 : Int32)) (Ls' := #[.val (.ref a0), .val (.ref a1), .val (.ref a2), .val (.ref a0), .val (.int (3 : Int32)), .val (.int (2 : Int32)), .val (.int (0 : Int32))]) rfl rfl rfl rfl ?_
 refine g_goto X d22_35 (pc' := 9) (by decide) (by decide) ?_
 refine g_iload X d22_9 (pc' := 11) rfl rfl ?_
 refine g_iload X d22_11 (pc' := 13) rfl rfl ?_
 refine g_icN X d22_13 (tlt (show (2 : Int32) < (3 : Int32) from (by decide))).2.1 (pc' := 16) rfl ?_
 refine g_aloadN X d22_16 (pc' := 17) rfl rfl rfl ?_
 refine g_iload X d22_17 (pc' := 19) rfl rfl ?_
 refine g_iaload X qb 2 d22_19 (pc' := 20) rfl (by decide) (by decide) rfl ?_
 refine g_istore X d22_20 (pc' := 22) (Ls' := #[.val (.ref a0), .val (.ref a1), .val (.ref a2), .val (.ref a0), .val (.int (3 : Int32)), .val (.int (2 : Int32)), .val (.int (1 : Int32))]) rfl rfl ?_
 refine g_aloadN X d22_22 (pc' := 23) rfl rfl rfl ?_
 refine g_iload X d22_23 (pc' := 25) rfl rfl ?_
 refine g_iconst X (1 : Int32) d22_25 (pc' := 26) rfl rfl ?_
 refine g_iadd X d22_26 (pc' := 27) rfl ?_
 refine Go.lit32 (z := (2 : Int32)) (by decide) ?_
 refine g_dup2 X d22_27 (pc' := 28) rfl rfl rfl ?_
 refine g_iaload X qa 2 d22_28 (pc' := 29) rfl (by decide) (by decide) rfl ?_
 refine g_iconst X (1 : Int32) d22_29 (pc' := 30) rfl rfl ?_
 refine g_iadd X d22_30 (pc' := 31) rfl ?_
 refine Go.lit32 (z := (2 : Int32)) (by decide) ?_
 refine g_iastore X qa 2 d22_31 (pc' := 32) rfl (by decide) (by decide) (Nat.le_of_ble_eq_true rfl) ?_
 intro T h X W qa
 replace qa : Av Z h a1 .int [(.int (0 : Int32)), (.int (1 : Int32)), (.int (2 : Int32))] := qa
 replace qb := qb.other W qh
 replace qc := qc.other W (Ne.symm qf)
 replace Z0 := Nat.le_trans Z0 (Nat.le_of_eq W.size.symm)
 replace N := Fr.snoc X.1 N qg
 replace Kp := Kp.wr W (Or.inl (List.mem_of_getElem? (i := 0) rfl))
 refine g_iinc X d22_32 (pc' := 35) (q := (1 : Int32)) (Ls' := #[.val (.ref a0), .val (.ref a1), .val (.ref a2), .val (.ref a0), .val (.int (3 : Int32)), .val (.int (3 : Int32)), .val (.int (1 : Int32))]) rfl rfl rfl rfl ?_
 refine g_goto X d22_35 (pc' := 9) (by decide) (by decide) ?_
 refine g_iload X d22_9 (pc' := 11) rfl rfl ?_
 refine g_iload X d22_11 (pc' := 13) rfl rfl ?_
 refine g_icY X d22_13 (flt (show ¬ ((3 : Int32) < (3 : Int32)) from (by decide))).2.1 (pc' := 38) (by decide) (by decide) ?_
 refine g_iconst X (1 : Int32) d22_38 (pc' := 39) rfl rfl ?_
 refine g_istoreN X d22_39 (pc' := 40) (Ls' := #[.val (.ref a0), .val (.ref a1), .val (.ref a2), .val (.int (1 : Int32)), .val (.int (3 : Int32)), .val (.int (3 : Int32)), .val (.int (1 : Int32))]) rfl rfl ?_
 refine g_iloadN X d22_40 (pc' := 41) rfl rfl ?_
 refine g_aloadN X d22_41 (pc' := 42) rfl rfl rfl ?_
 refine g_arraylength X qa d22_42 (pc' := 43) rfl (z := (3 : Int32)) rfl ?_
 refine g_icN X d22_43 (tlt (show (1 : Int32) < (3 : Int32) from (by decide))).2.1 (pc' := 46) rfl ?_
 refine g_aloadN X d22_46 (pc' := 47) rfl rfl rfl ?_
 refine g_iloadN X d22_47 (pc' := 48) rfl rfl ?_
 refine g_dup2 X d22_48 (pc' := 49) rfl rfl rfl ?_
 refine g_iaload X qa 1 d22_49 (pc' := 50) rfl (by decide) (by decide) rfl ?_
 refine g_aloadN X d22_50 (pc' := 51) rfl rfl rfl ?_
 refine g_iloadN X d22_51 (pc' := 52) rfl rfl ?_
 refine g_iconst X (1 : Int32) d22_52 (pc' := 53) rfl rfl ?_
 refine g_isub X d22_53 (pc' := 54) rfl ?_
 refine Go.lit32 (z := (0 : Int32)) (by decide) ?_
 refine g_iaload X qa 0 d22_54 (pc' := 55) rfl (by decide) (by decide) rfl ?_
 refine g_iadd X d22_55 (pc' := 56) rfl ?_
 refine Go.lit32 (z := (1 : Int32)) (by decide) ?_
 refine g_iastore X qa 1 d22_56 (pc' := 57) rfl (by decide) (by decide) (Nat.le_of_ble_eq_true rfl) ?_
 intro T h X W qa
 replace qa : Av Z h a1 .int [(.int (0 : Int32)), (.int (1 : Int32)), (.int (2 : Int32))] := qa
 replace qb := qb.other W qh
 replace qc := qc.other W (Ne.symm qf)
 replace Z0 := Nat.le_trans Z0 (Nat.le_of_eq W.size.symm)
 replace N := Fr.snoc X.1 N qg
 replace Kp := Kp.wr W (Or.inl (List.mem_of_getElem? (i := 0) rfl))
 refine g_iinc X d22_57 (pc' := 60) (q := (1 : Int32)) (Ls' := #[.val (.ref a0), .val (.ref a1), .val (.ref a2), .val (.int (2 : Int32)), .val (.int (3 : Int32)), .val (.int (3 : Int32)), .val (.int (1 : Int32))]) rfl rfl rfl rfl ?_
 refine g_goto X d22_60 (pc' := 40) (by decide) (by decide) ?_
 refine g_iloadN X d22_40 (pc' := 41) rfl rfl ?_
 refine g_aloadN X d22_41 (pc' := 42) rfl rfl rfl ?_
 refine g_arraylength X qa d22_42 (pc' := 43) rfl (z := (3 : Int32)) rfl ?_
 refine g_icN X d22_43 (tlt (show (2 : Int32) < (3 : Int32) from (by decide))).2.1 (pc' := 46) rfl ?_
 refine g_aloadN X d22_46 (pc' := 47) rfl rfl rfl ?_
 refine g_iloadN X d22_47 (pc' := 48) rfl rfl ?_
 refine g_dup2 X d22_48 (pc' := 49) rfl rfl rfl ?_
 refine g_iaload X qa 2 d22_49 (pc' := 50) rfl (by decide) (by decide) rfl ?_
 refine g_aloadN X d22_50 (pc' := 51) rfl rfl rfl ?_
 refine g_iloadN X d22_51 (pc' := 52) rfl rfl ?_
 refine g_iconst X (1 : Int32) d22_52 (pc' := 53) rfl rfl ?_
 refine g_isub X d22_53 (pc' := 54) rfl ?_
 refine Go.lit32 (z := (1 : Int32)) (by decide) ?_
 refine g_iaload X qa 1 d22_54 (pc' := 55) rfl (by decide) (by decide) rfl ?_
 refine g_iadd X d22_55 (pc' := 56) rfl ?_
 refine Go.lit32 (z := (3 : Int32)) (by decide) ?_
 refine g_iastore X qa 2 d22_56 (pc' := 57) rfl (by decide) (by decide) (Nat.le_of_ble_eq_true rfl) ?_
 intro T h X W qa
 replace qa : Av Z h a1 .int [(.int (0 : Int32)), (.int (1 : Int32)), (.int (3 : Int32))] := qa
 replace qb := qb.other W qh
 replace qc := qc.other W (Ne.symm qf)
 replace Z0 := Nat.le_trans Z0 (Nat.le_of_eq W.size.symm)
 replace N := Fr.snoc X.1 N qg
 replace Kp := Kp.wr W (Or.inl (List.mem_of_getElem? (i := 0) rfl))
 refine g_iinc X d22_57 (pc' := 60) (q := (1 : Int32)) (Ls' := #[.val (.ref a0), .val (.ref a1), .val (.ref a2), .val (.int (3 : Int32)), .val (.int (3 : Int32)), .val (.int (3 : Int32)), .val (.int (1 : Int32))]) rfl rfl rfl rfl ?_
 refine g_goto X d22_60 (pc' := 40) (by decide) (by decide) ?_
 refine g_iloadN X d22_40 (pc' := 41) rfl rfl ?_
 refine g_aloadN X d22_41 (pc' := 42) rfl rfl rfl ?_
 refine g_arraylength X qa d22_42 (pc' := 43) rfl (z := (3 : Int32)) rfl ?_
 refine g_icY X d22_43 (flt (show ¬ ((3 : Int32) < (3 : Int32)) from (by decide))).2.1 (pc' := 63) (by decide) (by decide) ?_
 refine g_aloadN X d22_63 (pc' := 64) rfl rfl rfl ?_
 refine g_aloadN X d22_64 (pc' := 65) rfl rfl rfl ?_
 refine g_arraylength X qa d22_65 (pc' := 66) rfl (z := (3 : Int32)) rfl ?_
 refine g_iconst X (1 : Int32) d22_66 (pc' := 67) rfl rfl ?_
 refine g_isub X d22_67 (pc' := 68) rfl ?_
 refine Go.lit32 (z := (2 : Int32)) (by decide) ?_
 refine g_static X (W := 0) [(.ref a1), (.int (2 : Int32))] [] (tb hw 143 rfl) (tb hw 144 rfl) (tb hw 115 rfl) (tb hw 145 rfl) (rCof l Z aa hw [] a1 (0 : Int32) (1 : Int32) (3 : Int32) _ n0 Z0 qa) d22_68 (pc' := 71) rfl (by decide) (by decide) (by decide) rfl rfl rfl (lenOf pd_14 rfl) (Nat.le_refl _) (by decide) (by decide) ?_
 intro v T L X q
 obtain ⟨qe, rfl, Nq, Kq, qj, qm, qq, qd⟩ := q
 have qn : a0 ≠ qe := Nat.ne_of_lt (Nat.lt_of_lt_of_le qb.lt qj)
 have qo : a1 ≠ qe := Nat.ne_of_lt (Nat.lt_of_lt_of_le qa.lt qj)
 have qi : a2 ≠ qe := Nat.ne_of_lt (Nat.lt_of_lt_of_le qc.lt qj)
 have qp : h0.size ≤ qe := Nat.le_trans Kp.1 qj
 replace N := N.app Nq
 replace qb := qb.keep Kq nin0
 replace qa := qa.keep Kq nin0
 replace qc := qc.keep Kq nin0
 replace Z0 := Nat.le_trans Z0 Kq.1
 replace Kp := Kp.trans Kq all0
 show Go p e below _ (T.setTop (mkF m 71 _ [(.ref qe)]))
 refine g_astoreN X d22_71 (pc' := 72) (Ls' := #[.val (.ref a0), .val (.ref a1), .val (.ref a2), .val (.ref qe), .val (.int (3 : Int32)), .val (.int (3 : Int32)), .val (.int (1 : Int32))]) rfl rfl rfl ?_
 refine g_iconst X (0 : Int32) d22_72 (pc' := 73) rfl rfl ?_
 refine g_istore X d22_73 (pc' := 75) (Ls' := #[.val (.ref a0), .val (.ref a1), .val (.ref a2), .val (.ref qe), .val (.int (0 : Int32)), .val (.int (3 : Int32)), .val (.int (1 : Int32))]) rfl rfl ?_
 refine g_iload X d22_75 (pc' := 77) rfl rfl ?_
 refine g_aloadN X d22_77 (pc' := 78) rfl rfl rfl ?_
 refine g_arraylength X qb d22_78 (pc' := 79) rfl (z := (3 : Int32)) rfl ?_
 refine g_icN X d22_79 (tlt (show (0 : Int32) < (3 : Int32) from (by decide))).2.1 (pc' := 82) rfl ?_
 refine g_aloadN X d22_82 (pc' := 83) rfl rfl rfl ?_
 refine g_aloadN X d22_83 (pc' := 84) rfl rfl rfl ?_
 refine g_aloadN X d22_84 (pc' := 85) rfl rfl rfl ?_
 refine g_iload X d22_85 (pc' := 87) rfl rfl ?_
 refine g_iaload X qb 0 d22_87 (pc' := 88) rfl (by decide) (by decide) rfl ?_
 refine g_dup2 X d22_88 (pc' := 89) rfl rfl rfl ?_
 refine g_iaload X qd 1 d22_89 (pc' := 90) rfl (by decide) (by decide) rfl ?_
 refine g_dup_x2 X d22_90 (pc' := 91) rfl rfl rfl rfl ?_
 refine g_iconst X (1 : Int32) d22_91 (pc' := 92) rfl rfl ?_
 refine g_iadd X d22_92 (pc' := 93) rfl ?_
 refine Go.lit32 (z := (2 : Int32)) (by decide) ?_
 refine g_iastore X qd 1 d22_93 (pc' := 94) rfl (by decide) (by decide) (Nat.le_of_ble_eq_true rfl) ?_
 intro T h X W qd
 replace qd : Av Z h qe .int [(.int (0 : Int32)), (.int (2 : Int32))] := qd
 replace qb := qb.other W qn
 replace qa := qa.other W qo
 replace qc := qc.other W qi
 replace Z0 := Nat.le_trans Z0 (Nat.le_of_eq W.size.symm)
 replace N := Fr.snoc X.1 N qm
 replace Kp := Kp.wr W (Or.inr qp)
 refine g_iload X d22_94 (pc' := 96) rfl rfl ?_
 refine g_iastore X qc 1 d22_96 (pc' := 97) rfl (by decide) (by decide) (Nat.le_of_ble_eq_true rfl) ?_
 intro T h X W qc
 replace qc : Av Z h a2 .int [(.int (0 : Int32)), (.int (0 : Int32)), (.int (0 : Int32))] := qc
 replace qb := qb.other W ql
 replace qa := qa.other W qf
 replace qd := qd.other W (Ne.symm qi)
 replace Z0 := Nat.le_trans Z0 (Nat.le_of_eq W.size.symm)
 replace N := Fr.snoc X.1 N qk
 replace Kp := Kp.wr W (Or.inl (List.mem_of_getElem? (i := 1) rfl))
 refine g_iinc X d22_97 (pc' := 100) (q := (1 : Int32)) (Ls' := #[.val (.ref a0), .val (.ref a1), .val (.ref a2), .val (.ref qe), .val (.int (1 : Int32)), .val (.int (3 : Int32)), .val (.int (1 : Int32))]) rfl rfl rfl rfl ?_
 refine g_goto X d22_100 (pc' := 75) (by decide) (by decide) ?_
 refine g_iload X d22_75 (pc' := 77) rfl rfl ?_
 refine g_aloadN X d22_77 (pc' := 78) rfl rfl rfl ?_
 refine g_arraylength X qb d22_78 (pc' := 79) rfl (z := (3 : Int32)) rfl ?_
 refine g_icN X d22_79 (tlt (show (1 : Int32) < (3 : Int32) from (by decide))).2.1 (pc' := 82) rfl ?_
 refine g_aloadN X d22_82 (pc' := 83) rfl rfl rfl ?_
 refine g_aloadN X d22_83 (pc' := 84) rfl rfl rfl ?_
 refine g_aloadN X d22_84 (pc' := 85) rfl rfl rfl ?_
 refine g_iload X d22_85 (pc' := 87) rfl rfl ?_
 refine g_iaload X qb 1 d22_87 (pc' := 88) rfl (by decide) (by decide) rfl ?_
 refine g_dup2 X d22_88 (pc' := 89) rfl rfl rfl ?_
 refine g_iaload X qd 0 d22_89 (pc' := 90) rfl (by decide) (by decide) rfl ?_
 refine g_dup_x2 X d22_90 (pc' := 91) rfl rfl rfl rfl ?_
 refine g_iconst X (1 : Int32) d22_91 (pc' := 92) rfl rfl ?_
 refine g_iadd X d22_92 (pc' := 93) rfl ?_
 refine Go.lit32 (z := (1 : Int32)) (by decide) ?_
 refine g_iastore X qd 0 d22_93 (pc' := 94) rfl (by decide) (by decide) (Nat.le_of_ble_eq_true rfl) ?_
 intro T h X W qd
 replace qd : Av Z h qe .int [(.int (1 : Int32)), (.int (2 : Int32))] := qd
 replace qb := qb.other W qn
 replace qa := qa.other W qo
 replace qc := qc.other W qi
 replace Z0 := Nat.le_trans Z0 (Nat.le_of_eq W.size.symm)
 replace N := Fr.snoc X.1 N qm
 replace Kp := Kp.wr W (Or.inr qp)
 refine g_iload X d22_94 (pc' := 96) rfl rfl ?_
 refine g_iastore X qc 0 d22_96 (pc' := 97) rfl (by decide) (by decide) (Nat.le_of_ble_eq_true rfl) ?_
 intro T h X W qc
 replace qc : Av Z h a2 .int [(.int (1 : Int32)), (.int (0 : Int32)), (.int (0 : Int32))] := qc
 replace qb := qb.other W ql
 replace qa := qa.other W qf
 replace qd := qd.other W (Ne.symm qi)
 replace Z0 := Nat.le_trans Z0 (Nat.le_of_eq W.size.symm)
 replace N := Fr.snoc X.1 N qk
 replace Kp := Kp.wr W (Or.inl (List.mem_of_getElem? (i := 1) rfl))
 refine g_iinc X d22_97 (pc' := 100) (q := (1 : Int32)) (Ls' := #[.val (.ref a0), .val (.ref a1), .val (.ref a2), .val (.ref qe), .val (.int (2 : Int32)), .val (.int (3 : Int32)), .val (.int (1 : Int32))]) rfl rfl rfl rfl ?_
 refine g_goto X d22_100 (pc' := 75) (by decide) (by decide) ?_
 refine g_iload X d22_75 (pc' := 77) rfl rfl ?_
 refine g_aloadN X d22_77 (pc' := 78) rfl rfl rfl ?_
 refine g_arraylength X qb d22_78 (pc' := 79) rfl (z := (3 : Int32)) rfl ?_
 refine g_icN X d22_79 (tlt (show (2 : Int32) < (3 : Int32) from (by decide))).2.1 (pc' := 82) rfl ?_
 refine g_aloadN X d22_82 (pc' := 83) rfl rfl rfl ?_
 refine g_aloadN X d22_83 (pc' := 84) rfl rfl rfl ?_
 refine g_aloadN X d22_84 (pc' := 85) rfl rfl rfl ?_
 refine g_iload X d22_85 (pc' := 87) rfl rfl ?_
 refine g_iaload X qb 2 d22_87 (pc' := 88) rfl (by decide) (by decide) rfl ?_
 refine g_dup2 X d22_88 (pc' := 89) rfl rfl rfl ?_
 refine g_iaload X qd 1 d22_89 (pc' := 90) rfl (by decide) (by decide) rfl ?_
 refine g_dup_x2 X d22_90 (pc' := 91) rfl rfl rfl rfl ?_
 refine g_iconst X (1 : Int32) d22_91 (pc' := 92) rfl rfl ?_
 refine g_iadd X d22_92 (pc' := 93) rfl ?_
 refine Go.lit32 (z := (3 : Int32)) (by decide) ?_
 refine g_iastore X qd 1 d22_93 (pc' := 94) rfl (by decide) (by decide) (Nat.le_of_ble_eq_true rfl) ?_
 intro T h X W qd
 replace qb := qb.other W qn
 replace qa := qa.other W qo
 replace qc := qc.other W qi
 replace Z0 := Nat.le_trans Z0 (Nat.le_of_eq W.size.symm)
 replace N := Fr.snoc X.1 N qm
 replace Kp := Kp.wr W (Or.inr qp)
 refine g_iload X d22_94 (pc' := 96) rfl rfl ?_
 refine g_iastore X qc 2 d22_96 (pc' := 97) rfl (by decide) (by decide) (Nat.le_of_ble_eq_true rfl) ?_
 intro T h X W qc
 replace qc : Av Z h a2 .int [(.int (1 : Int32)), (.int (0 : Int32)), (.int (2 : Int32))] := qc
 replace qb := qb.other W ql
 replace qa := qa.other W qf
 replace Z0 := Nat.le_trans Z0 (Nat.le_of_eq W.size.symm)
 replace N := Fr.snoc X.1 N qk
 replace Kp := Kp.wr W (Or.inl (List.mem_of_getElem? (i := 1) rfl))
 refine g_iinc X d22_97 (pc' := 100) (q := (1 : Int32)) (Ls' := #[.val (.ref a0), .val (.ref a1), .val (.ref a2), .val (.ref qe), .val (.int (3 : Int32)), .val (.int (3 : Int32)), .val (.int (1 : Int32))]) rfl rfl rfl rfl ?_
 refine g_goto X d22_100 (pc' := 75) (by decide) (by decide) ?_
 refine g_iload X d22_75 (pc' := 77) rfl rfl ?_
 refine g_aloadN X d22_77 (pc' := 78) rfl rfl rfl ?_
 refine g_arraylength X qb d22_78 (pc' := 79) rfl (z := (3 : Int32)) rfl ?_
 refine g_icY X d22_79 (flt (show ¬ ((3 : Int32) < (3 : Int32)) from (by decide))).2.1 (pc' := 103) (by decide) (by decide) ?_
 refine g_return X d22_103 hret hlk (by decide) (by decide) ?_
 exact ⟨rfl, N, Kp, qa, qc⟩
theorem ef_rGr6 (m : MethodId) (x0 : Addr) (x1 : Addr) (x2 : Addr) : entryFrame m #[(.ref x0), (.ref x1), (.ref x2)] 7 = mkF m 0 #[.val (.ref x0), .val (.ref x1), .val (.ref x2), .unset, .unset, .unset, .unset] [] := by first | (simp [entryFrame, mkF, argsToLocals, Value.category]; done) | rfl
set_option maxRecDepth 65536 in
set_option maxHeartbeats 40000000 in
theorem rGr6 (l : Launch) (Z : State) (aa : Array Value) (hw : ∀ d ∈ tables_1, d.before aa Z = true) (ws : List Jvm.Cond) (a0 : Addr) (a1 : Addr) (a2 : Addr) (h0 : Heap) (n0 : Nat) (Z0 : n0 ≤ h0.size) (qb : Av Z h0 a0 .int [(.int (0 : Int32)), (.int (1 : Int32)), (.int (1 : Int32))]) (qa : Av Z h0 a1 .int [(.int (0 : Int32)), (.int (0 : Int32)), (.int (0 : Int32))]) (qc : Av Z h0 a2 .int [(.int (0 : Int32)), (.int (0 : Int32)), (.int (0 : Int32))]) (qg : n0 ≤ a1) (qk : n0 ≤ a2) (qh : a0 ≠ a1) (ql : a0 ≠ a2) (qf : a1 ≠ a2) :
    Rm l Z (⟨"com/example/pathlattice/pathlattice/graph/Edges", "group", "([I[I[I)V"⟩ : MethodName) prog_18_method_2_code 7 none ws ({ frames := 2, cells := 1, slots := 2, locals := 32 } : Room) #[(.ref a0), (.ref a1), (.ref a2)] h0 (fun v h L => v = none ∧ Fr n0 L ∧ Keep h0 h [a1, a2] ∧ Av Z h a1 .int [(.int (0 : Int32)), (.int (1 : Int32)), (.int (3 : Int32))] ∧ Av Z h a2 .int [(.int (0 : Int32)), (.int (1 : Int32)), (.int (2 : Int32))]) := by
 refine Rm.of (plainFor_of_name pn_8) ?_
 intro p e s m below meth cc T X hnm hret hlk
 refine Go.at_ (ef_rGr6 m a0 a1 a2) ?_
 have N := Fr.nil n0
 have Kp := Keep.refl h0 [a1, a2]
 refine g_aloadN X d22_0 (pc' := 1) rfl rfl rfl ?_
 refine g_astoreN X d22_1 (pc' := 2) (Ls' := #[.val (.ref a0), .val (.ref a1), .val (.ref a2), .val (.ref a0), .unset, .unset, .unset]) rfl rfl rfl ?_
 refine g_aloadN X d22_2 (pc' := 3) rfl rfl rfl ?_
 refine g_arraylength X qb d22_3 (pc' := 4) rfl (z := (3 : Int32)) rfl ?_
 refine g_istore X d22_4 (pc' := 6) (Ls' := #[.val (.ref a0), .val (.ref a1), .val (.ref a2), .val (.ref a0), .val (.int (3 : Int32)), .unset, .unset]) rfl rfl ?_
 refine g_iconst X (0 : Int32) d22_6 (pc' := 7) rfl rfl ?_
 refine g_istore X d22_7 (pc' := 9) (Ls' := #[.val (.ref a0), .val (.ref a1), .val (.ref a2), .val (.ref a0), .val (.int (3 : Int32)), .val (.int (0 : Int32)), .unset]) rfl rfl ?_
 refine g_iload X d22_9 (pc' := 11) rfl rfl ?_
 refine g_iload X d22_11 (pc' := 13) rfl rfl ?_
 refine g_icN X d22_13 (tlt (show (0 : Int32) < (3 : Int32) from (by decide))).2.1 (pc' := 16) rfl ?_
 refine g_aloadN X d22_16 (pc' := 17) rfl rfl rfl ?_
 refine g_iload X d22_17 (pc' := 19) rfl rfl ?_
 refine g_iaload X qb 0 d22_19 (pc' := 20) rfl (by decide) (by decide) rfl ?_
 refine g_istore X d22_20 (pc' := 22) (Ls' := #[.val (.ref a0), .val (.ref a1), .val (.ref a2), .val (.ref a0), .val (.int (3 : Int32)), .val (.int (0 : Int32)), .val (.int (0 : Int32))]) rfl rfl ?_
 refine g_aloadN X d22_22 (pc' := 23) rfl rfl rfl ?_
 refine g_iload X d22_23 (pc' := 25) rfl rfl ?_
 refine g_iconst X (1 : Int32) d22_25 (pc' := 26) rfl rfl ?_
 refine g_iadd X d22_26 (pc' := 27) rfl ?_
 refine Go.lit32 (z := (1 : Int32)) (by decide) ?_
 refine g_dup2 X d22_27 (pc' := 28) rfl rfl rfl ?_
 refine g_iaload X qa 1 d22_28 (pc' := 29) rfl (by decide) (by decide) rfl ?_
 refine g_iconst X (1 : Int32) d22_29 (pc' := 30) rfl rfl ?_
 refine g_iadd X d22_30 (pc' := 31) rfl ?_
 refine Go.lit32 (z := (1 : Int32)) (by decide) ?_
 refine g_iastore X qa 1 d22_31 (pc' := 32) rfl (by decide) (by decide) (Nat.le_of_ble_eq_true rfl) ?_
 intro T h X W qa
 replace qa : Av Z h a1 .int [(.int (0 : Int32)), (.int (1 : Int32)), (.int (0 : Int32))] := qa
 replace qb := qb.other W qh
 replace qc := qc.other W (Ne.symm qf)
 replace Z0 := Nat.le_trans Z0 (Nat.le_of_eq W.size.symm)
 replace N := Fr.snoc X.1 N qg
 replace Kp := Kp.wr W (Or.inl (List.mem_of_getElem? (i := 0) rfl))
 refine g_iinc X d22_32 (pc' := 35) (q := (1 : Int32)) (Ls' := #[.val (.ref a0), .val (.ref a1), .val (.ref a2), .val (.ref a0), .val (.int (3 : Int32)), .val (.int (1 : Int32)), .val (.int (0 : Int32))]) rfl rfl rfl rfl ?_
 refine g_goto X d22_35 (pc' := 9) (by decide) (by decide) ?_
 refine g_iload X d22_9 (pc' := 11) rfl rfl ?_
 refine g_iload X d22_11 (pc' := 13) rfl rfl ?_
 refine g_icN X d22_13 (tlt (show (1 : Int32) < (3 : Int32) from (by decide))).2.1 (pc' := 16) rfl ?_
 refine g_aloadN X d22_16 (pc' := 17) rfl rfl rfl ?_
 refine g_iload X d22_17 (pc' := 19) rfl rfl ?_
 refine g_iaload X qb 1 d22_19 (pc' := 20) rfl (by decide) (by decide) rfl ?_
 refine g_istore X d22_20 (pc' := 22) (Ls' := #[.val (.ref a0), .val (.ref a1), .val (.ref a2), .val (.ref a0), .val (.int (3 : Int32)), .val (.int (1 : Int32)), .val (.int (1 : Int32))]) rfl rfl ?_
 refine g_aloadN X d22_22 (pc' := 23) rfl rfl rfl ?_
 refine g_iload X d22_23 (pc' := 25) rfl rfl ?_
 refine g_iconst X (1 : Int32) d22_25 (pc' := 26) rfl rfl ?_
 refine g_iadd X d22_26 (pc' := 27) rfl ?_
 refine Go.lit32 (z := (2 : Int32)) (by decide) ?_
 refine g_dup2 X d22_27 (pc' := 28) rfl rfl rfl ?_
 refine g_iaload X qa 2 d22_28 (pc' := 29) rfl (by decide) (by decide) rfl ?_
 refine g_iconst X (1 : Int32) d22_29 (pc' := 30) rfl rfl ?_
 refine g_iadd X d22_30 (pc' := 31) rfl ?_
 refine Go.lit32 (z := (1 : Int32)) (by decide) ?_
 refine g_iastore X qa 2 d22_31 (pc' := 32) rfl (by decide) (by decide) (Nat.le_of_ble_eq_true rfl) ?_
 intro T h X W qa
 replace qa : Av Z h a1 .int [(.int (0 : Int32)), (.int (1 : Int32)), (.int (1 : Int32))] := qa
 replace qb := qb.other W qh
 replace qc := qc.other W (Ne.symm qf)
 replace Z0 := Nat.le_trans Z0 (Nat.le_of_eq W.size.symm)
 replace N := Fr.snoc X.1 N qg
 replace Kp := Kp.wr W (Or.inl (List.mem_of_getElem? (i := 0) rfl))
 refine g_iinc X d22_32 (pc' := 35) (q := (1 : Int32)) (Ls' := #[.val (.ref a0), .val (.ref a1), .val (.ref a2), .val (.ref a0), .val (.int (3 : Int32)), .val (.int (2 : Int32)), .val (.int (1 : Int32))]) rfl rfl rfl rfl ?_
 refine g_goto X d22_35 (pc' := 9) (by decide) (by decide) ?_
 refine g_iload X d22_9 (pc' := 11) rfl rfl ?_
 refine g_iload X d22_11 (pc' := 13) rfl rfl ?_
 refine g_icN X d22_13 (tlt (show (2 : Int32) < (3 : Int32) from (by decide))).2.1 (pc' := 16) rfl ?_
 refine g_aloadN X d22_16 (pc' := 17) rfl rfl rfl ?_
 refine g_iload X d22_17 (pc' := 19) rfl rfl ?_
 refine g_iaload X qb 2 d22_19 (pc' := 20) rfl (by decide) (by decide) rfl ?_
 refine g_istore X d22_20 (pc' := 22) (Ls' := #[.val (.ref a0), .val (.ref a1), .val (.ref a2), .val (.ref a0), .val (.int (3 : Int32)), .val (.int (2 : Int32)), .val (.int (1 : Int32))]) rfl rfl ?_
 refine g_aloadN X d22_22 (pc' := 23) rfl rfl rfl ?_
 refine g_iload X d22_23 (pc' := 25) rfl rfl ?_
 refine g_iconst X (1 : Int32) d22_25 (pc' := 26) rfl rfl ?_
 refine g_iadd X d22_26 (pc' := 27) rfl ?_
 refine Go.lit32 (z := (2 : Int32)) (by decide) ?_
 refine g_dup2 X d22_27 (pc' := 28) rfl rfl rfl ?_
 refine g_iaload X qa 2 d22_28 (pc' := 29) rfl (by decide) (by decide) rfl ?_
 refine g_iconst X (1 : Int32) d22_29 (pc' := 30) rfl rfl ?_
 refine g_iadd X d22_30 (pc' := 31) rfl ?_
 refine Go.lit32 (z := (2 : Int32)) (by decide) ?_
 refine g_iastore X qa 2 d22_31 (pc' := 32) rfl (by decide) (by decide) (Nat.le_of_ble_eq_true rfl) ?_
 intro T h X W qa
 replace qa : Av Z h a1 .int [(.int (0 : Int32)), (.int (1 : Int32)), (.int (2 : Int32))] := qa
 replace qb := qb.other W qh
 replace qc := qc.other W (Ne.symm qf)
 replace Z0 := Nat.le_trans Z0 (Nat.le_of_eq W.size.symm)
 replace N := Fr.snoc X.1 N qg
 replace Kp := Kp.wr W (Or.inl (List.mem_of_getElem? (i := 0) rfl))
 refine g_iinc X d22_32 (pc' := 35) (q := (1 : Int32)) (Ls' := #[.val (.ref a0), .val (.ref a1), .val (.ref a2), .val (.ref a0), .val (.int (3 : Int32)), .val (.int (3 : Int32)), .val (.int (1 : Int32))]) rfl rfl rfl rfl ?_
 refine g_goto X d22_35 (pc' := 9) (by decide) (by decide) ?_
 refine g_iload X d22_9 (pc' := 11) rfl rfl ?_
 refine g_iload X d22_11 (pc' := 13) rfl rfl ?_
 refine g_icY X d22_13 (flt (show ¬ ((3 : Int32) < (3 : Int32)) from (by decide))).2.1 (pc' := 38) (by decide) (by decide) ?_
 refine g_iconst X (1 : Int32) d22_38 (pc' := 39) rfl rfl ?_
 refine g_istoreN X d22_39 (pc' := 40) (Ls' := #[.val (.ref a0), .val (.ref a1), .val (.ref a2), .val (.int (1 : Int32)), .val (.int (3 : Int32)), .val (.int (3 : Int32)), .val (.int (1 : Int32))]) rfl rfl ?_
 refine g_iloadN X d22_40 (pc' := 41) rfl rfl ?_
 refine g_aloadN X d22_41 (pc' := 42) rfl rfl rfl ?_
 refine g_arraylength X qa d22_42 (pc' := 43) rfl (z := (3 : Int32)) rfl ?_
 refine g_icN X d22_43 (tlt (show (1 : Int32) < (3 : Int32) from (by decide))).2.1 (pc' := 46) rfl ?_
 refine g_aloadN X d22_46 (pc' := 47) rfl rfl rfl ?_
 refine g_iloadN X d22_47 (pc' := 48) rfl rfl ?_
 refine g_dup2 X d22_48 (pc' := 49) rfl rfl rfl ?_
 refine g_iaload X qa 1 d22_49 (pc' := 50) rfl (by decide) (by decide) rfl ?_
 refine g_aloadN X d22_50 (pc' := 51) rfl rfl rfl ?_
 refine g_iloadN X d22_51 (pc' := 52) rfl rfl ?_
 refine g_iconst X (1 : Int32) d22_52 (pc' := 53) rfl rfl ?_
 refine g_isub X d22_53 (pc' := 54) rfl ?_
 refine Go.lit32 (z := (0 : Int32)) (by decide) ?_
 refine g_iaload X qa 0 d22_54 (pc' := 55) rfl (by decide) (by decide) rfl ?_
 refine g_iadd X d22_55 (pc' := 56) rfl ?_
 refine Go.lit32 (z := (1 : Int32)) (by decide) ?_
 refine g_iastore X qa 1 d22_56 (pc' := 57) rfl (by decide) (by decide) (Nat.le_of_ble_eq_true rfl) ?_
 intro T h X W qa
 replace qa : Av Z h a1 .int [(.int (0 : Int32)), (.int (1 : Int32)), (.int (2 : Int32))] := qa
 replace qb := qb.other W qh
 replace qc := qc.other W (Ne.symm qf)
 replace Z0 := Nat.le_trans Z0 (Nat.le_of_eq W.size.symm)
 replace N := Fr.snoc X.1 N qg
 replace Kp := Kp.wr W (Or.inl (List.mem_of_getElem? (i := 0) rfl))
 refine g_iinc X d22_57 (pc' := 60) (q := (1 : Int32)) (Ls' := #[.val (.ref a0), .val (.ref a1), .val (.ref a2), .val (.int (2 : Int32)), .val (.int (3 : Int32)), .val (.int (3 : Int32)), .val (.int (1 : Int32))]) rfl rfl rfl rfl ?_
 refine g_goto X d22_60 (pc' := 40) (by decide) (by decide) ?_
 refine g_iloadN X d22_40 (pc' := 41) rfl rfl ?_
 refine g_aloadN X d22_41 (pc' := 42) rfl rfl rfl ?_
 refine g_arraylength X qa d22_42 (pc' := 43) rfl (z := (3 : Int32)) rfl ?_
 refine g_icN X d22_43 (tlt (show (2 : Int32) < (3 : Int32) from (by decide))).2.1 (pc' := 46) rfl ?_
 refine g_aloadN X d22_46 (pc' := 47) rfl rfl rfl ?_
 refine g_iloadN X d22_47 (pc' := 48) rfl rfl ?_
 refine g_dup2 X d22_48 (pc' := 49) rfl rfl rfl ?_
 refine g_iaload X qa 2 d22_49 (pc' := 50) rfl (by decide) (by decide) rfl ?_
 refine g_aloadN X d22_50 (pc' := 51) rfl rfl rfl ?_
 refine g_iloadN X d22_51 (pc' := 52) rfl rfl ?_
 refine g_iconst X (1 : Int32) d22_52 (pc' := 53) rfl rfl ?_
 refine g_isub X d22_53 (pc' := 54) rfl ?_
 refine Go.lit32 (z := (1 : Int32)) (by decide) ?_
 refine g_iaload X qa 1 d22_54 (pc' := 55) rfl (by decide) (by decide) rfl ?_
 refine g_iadd X d22_55 (pc' := 56) rfl ?_
 refine Go.lit32 (z := (3 : Int32)) (by decide) ?_
 refine g_iastore X qa 2 d22_56 (pc' := 57) rfl (by decide) (by decide) (Nat.le_of_ble_eq_true rfl) ?_
 intro T h X W qa
 replace qa : Av Z h a1 .int [(.int (0 : Int32)), (.int (1 : Int32)), (.int (3 : Int32))] := qa
 replace qb := qb.other W qh
 replace qc := qc.other W (Ne.symm qf)
 replace Z0 := Nat.le_trans Z0 (Nat.le_of_eq W.size.symm)
 replace N := Fr.snoc X.1 N qg
 replace Kp := Kp.wr W (Or.inl (List.mem_of_getElem? (i := 0) rfl))
 refine g_iinc X d22_57 (pc' := 60) (q := (1 : Int32)) (Ls' := #[.val (.ref a0), .val (.ref a1), .val (.ref a2), .val (.int (3 : Int32)), .val (.int (3 : Int32)), .val (.int (3 : Int32)), .val (.int (1 : Int32))]) rfl rfl rfl rfl ?_
 refine g_goto X d22_60 (pc' := 40) (by decide) (by decide) ?_
 refine g_iloadN X d22_40 (pc' := 41) rfl rfl ?_
 refine g_aloadN X d22_41 (pc' := 42) rfl rfl rfl ?_
 refine g_arraylength X qa d22_42 (pc' := 43) rfl (z := (3 : Int32)) rfl ?_
 refine g_icY X d22_43 (flt (show ¬ ((3 : Int32) < (3 : Int32)) from (by decide))).2.1 (pc' := 63) (by decide) (by decide) ?_
 refine g_aloadN X d22_63 (pc' := 64) rfl rfl rfl ?_
 refine g_aloadN X d22_64 (pc' := 65) rfl rfl rfl ?_
 refine g_arraylength X qa d22_65 (pc' := 66) rfl (z := (3 : Int32)) rfl ?_
 refine g_iconst X (1 : Int32) d22_66 (pc' := 67) rfl rfl ?_
 refine g_isub X d22_67 (pc' := 68) rfl ?_
 refine Go.lit32 (z := (2 : Int32)) (by decide) ?_
 refine g_static X (W := 0) [(.ref a1), (.int (2 : Int32))] [] (tb hw 143 rfl) (tb hw 144 rfl) (tb hw 115 rfl) (tb hw 145 rfl) (rCof l Z aa hw [] a1 (0 : Int32) (1 : Int32) (3 : Int32) _ n0 Z0 qa) d22_68 (pc' := 71) rfl (by decide) (by decide) (by decide) rfl rfl rfl (lenOf pd_14 rfl) (Nat.le_refl _) (by decide) (by decide) ?_
 intro v T L X q
 obtain ⟨qe, rfl, Nq, Kq, qj, qm, qq, qd⟩ := q
 have qn : a0 ≠ qe := Nat.ne_of_lt (Nat.lt_of_lt_of_le qb.lt qj)
 have qo : a1 ≠ qe := Nat.ne_of_lt (Nat.lt_of_lt_of_le qa.lt qj)
 have qi : a2 ≠ qe := Nat.ne_of_lt (Nat.lt_of_lt_of_le qc.lt qj)
 have qp : h0.size ≤ qe := Nat.le_trans Kp.1 qj
 replace N := N.app Nq
 replace qb := qb.keep Kq nin0
 replace qa := qa.keep Kq nin0
 replace qc := qc.keep Kq nin0
 replace Z0 := Nat.le_trans Z0 Kq.1
 replace Kp := Kp.trans Kq all0
 show Go p e below _ (T.setTop (mkF m 71 _ [(.ref qe)]))
 refine g_astoreN X d22_71 (pc' := 72) (Ls' := #[.val (.ref a0), .val (.ref a1), .val (.ref a2), .val (.ref qe), .val (.int (3 : Int32)), .val (.int (3 : Int32)), .val (.int (1 : Int32))]) rfl rfl rfl ?_
 refine g_iconst X (0 : Int32) d22_72 (pc' := 73) rfl rfl ?_
 refine g_istore X d22_73 (pc' := 75) (Ls' := #[.val (.ref a0), .val (.ref a1), .val (.ref a2), .val (.ref qe), .val (.int (0 : Int32)), .val (.int (3 : Int32)), .val (.int (1 : Int32))]) rfl rfl ?_
 refine g_iload X d22_75 (pc' := 77) rfl rfl ?_
 refine g_aloadN X d22_77 (pc' := 78) rfl rfl rfl ?_
 refine g_arraylength X qb d22_78 (pc' := 79) rfl (z := (3 : Int32)) rfl ?_
 refine g_icN X d22_79 (tlt (show (0 : Int32) < (3 : Int32) from (by decide))).2.1 (pc' := 82) rfl ?_
 refine g_aloadN X d22_82 (pc' := 83) rfl rfl rfl ?_
 refine g_aloadN X d22_83 (pc' := 84) rfl rfl rfl ?_
 refine g_aloadN X d22_84 (pc' := 85) rfl rfl rfl ?_
 refine g_iload X d22_85 (pc' := 87) rfl rfl ?_
 refine g_iaload X qb 0 d22_87 (pc' := 88) rfl (by decide) (by decide) rfl ?_
 refine g_dup2 X d22_88 (pc' := 89) rfl rfl rfl ?_
 refine g_iaload X qd 0 d22_89 (pc' := 90) rfl (by decide) (by decide) rfl ?_
 refine g_dup_x2 X d22_90 (pc' := 91) rfl rfl rfl rfl ?_
 refine g_iconst X (1 : Int32) d22_91 (pc' := 92) rfl rfl ?_
 refine g_iadd X d22_92 (pc' := 93) rfl ?_
 refine Go.lit32 (z := (1 : Int32)) (by decide) ?_
 refine g_iastore X qd 0 d22_93 (pc' := 94) rfl (by decide) (by decide) (Nat.le_of_ble_eq_true rfl) ?_
 intro T h X W qd
 replace qd : Av Z h qe .int [(.int (1 : Int32)), (.int (1 : Int32))] := qd
 replace qb := qb.other W qn
 replace qa := qa.other W qo
 replace qc := qc.other W qi
 replace Z0 := Nat.le_trans Z0 (Nat.le_of_eq W.size.symm)
 replace N := Fr.snoc X.1 N qm
 replace Kp := Kp.wr W (Or.inr qp)
 refine g_iload X d22_94 (pc' := 96) rfl rfl ?_
 refine g_iastore X qc 0 d22_96 (pc' := 97) rfl (by decide) (by decide) (Nat.le_of_ble_eq_true rfl) ?_
 intro T h X W qc
 replace qc : Av Z h a2 .int [(.int (0 : Int32)), (.int (0 : Int32)), (.int (0 : Int32))] := qc
 replace qb := qb.other W ql
 replace qa := qa.other W qf
 replace qd := qd.other W (Ne.symm qi)
 replace Z0 := Nat.le_trans Z0 (Nat.le_of_eq W.size.symm)
 replace N := Fr.snoc X.1 N qk
 replace Kp := Kp.wr W (Or.inl (List.mem_of_getElem? (i := 1) rfl))
 refine g_iinc X d22_97 (pc' := 100) (q := (1 : Int32)) (Ls' := #[.val (.ref a0), .val (.ref a1), .val (.ref a2), .val (.ref qe), .val (.int (1 : Int32)), .val (.int (3 : Int32)), .val (.int (1 : Int32))]) rfl rfl rfl rfl ?_
 refine g_goto X d22_100 (pc' := 75) (by decide) (by decide) ?_
 refine g_iload X d22_75 (pc' := 77) rfl rfl ?_
 refine g_aloadN X d22_77 (pc' := 78) rfl rfl rfl ?_
 refine g_arraylength X qb d22_78 (pc' := 79) rfl (z := (3 : Int32)) rfl ?_
 refine g_icN X d22_79 (tlt (show (1 : Int32) < (3 : Int32) from (by decide))).2.1 (pc' := 82) rfl ?_
 refine g_aloadN X d22_82 (pc' := 83) rfl rfl rfl ?_
 refine g_aloadN X d22_83 (pc' := 84) rfl rfl rfl ?_
 refine g_aloadN X d22_84 (pc' := 85) rfl rfl rfl ?_
 refine g_iload X d22_85 (pc' := 87) rfl rfl ?_
 refine g_iaload X qb 1 d22_87 (pc' := 88) rfl (by decide) (by decide) rfl ?_
 refine g_dup2 X d22_88 (pc' := 89) rfl rfl rfl ?_
 refine g_iaload X qd 1 d22_89 (pc' := 90) rfl (by decide) (by decide) rfl ?_
 refine g_dup_x2 X d22_90 (pc' := 91) rfl rfl rfl rfl ?_
 refine g_iconst X (1 : Int32) d22_91 (pc' := 92) rfl rfl ?_
 refine g_iadd X d22_92 (pc' := 93) rfl ?_
 refine Go.lit32 (z := (2 : Int32)) (by decide) ?_
 refine g_iastore X qd 1 d22_93 (pc' := 94) rfl (by decide) (by decide) (Nat.le_of_ble_eq_true rfl) ?_
 intro T h X W qd
 replace qd : Av Z h qe .int [(.int (1 : Int32)), (.int (2 : Int32))] := qd
 replace qb := qb.other W qn
 replace qa := qa.other W qo
 replace qc := qc.other W qi
 replace Z0 := Nat.le_trans Z0 (Nat.le_of_eq W.size.symm)
 replace N := Fr.snoc X.1 N qm
 replace Kp := Kp.wr W (Or.inr qp)
 refine g_iload X d22_94 (pc' := 96) rfl rfl ?_
 refine g_iastore X qc 1 d22_96 (pc' := 97) rfl (by decide) (by decide) (Nat.le_of_ble_eq_true rfl) ?_
 intro T h X W qc
 replace qc : Av Z h a2 .int [(.int (0 : Int32)), (.int (1 : Int32)), (.int (0 : Int32))] := qc
 replace qb := qb.other W ql
 replace qa := qa.other W qf
 replace qd := qd.other W (Ne.symm qi)
 replace Z0 := Nat.le_trans Z0 (Nat.le_of_eq W.size.symm)
 replace N := Fr.snoc X.1 N qk
 replace Kp := Kp.wr W (Or.inl (List.mem_of_getElem? (i := 1) rfl))
 refine g_iinc X d22_97 (pc' := 100) (q := (1 : Int32)) (Ls' := #[.val (.ref a0), .val (.ref a1), .val (.ref a2), .val (.ref qe), .val (.int (2 : Int32)), .val (.int (3 : Int32)), .val (.int (1 : Int32))]) rfl rfl rfl rfl ?_
 refine g_goto X d22_100 (pc' := 75) (by decide) (by decide) ?_
 refine g_iload X d22_75 (pc' := 77) rfl rfl ?_
 refine g_aloadN X d22_77 (pc' := 78) rfl rfl rfl ?_
 refine g_arraylength X qb d22_78 (pc' := 79) rfl (z := (3 : Int32)) rfl ?_
 refine g_icN X d22_79 (tlt (show (2 : Int32) < (3 : Int32) from (by decide))).2.1 (pc' := 82) rfl ?_
 refine g_aloadN X d22_82 (pc' := 83) rfl rfl rfl ?_
 refine g_aloadN X d22_83 (pc' := 84) rfl rfl rfl ?_
 refine g_aloadN X d22_84 (pc' := 85) rfl rfl rfl ?_
 refine g_iload X d22_85 (pc' := 87) rfl rfl ?_
 refine g_iaload X qb 2 d22_87 (pc' := 88) rfl (by decide) (by decide) rfl ?_
 refine g_dup2 X d22_88 (pc' := 89) rfl rfl rfl ?_
 refine g_iaload X qd 1 d22_89 (pc' := 90) rfl (by decide) (by decide) rfl ?_
 refine g_dup_x2 X d22_90 (pc' := 91) rfl rfl rfl rfl ?_
 refine g_iconst X (1 : Int32) d22_91 (pc' := 92) rfl rfl ?_
 refine g_iadd X d22_92 (pc' := 93) rfl ?_
 refine Go.lit32 (z := (3 : Int32)) (by decide) ?_
 refine g_iastore X qd 1 d22_93 (pc' := 94) rfl (by decide) (by decide) (Nat.le_of_ble_eq_true rfl) ?_
 intro T h X W qd
 replace qb := qb.other W qn
 replace qa := qa.other W qo
 replace qc := qc.other W qi
 replace Z0 := Nat.le_trans Z0 (Nat.le_of_eq W.size.symm)
 replace N := Fr.snoc X.1 N qm
 replace Kp := Kp.wr W (Or.inr qp)
 refine g_iload X d22_94 (pc' := 96) rfl rfl ?_
 refine g_iastore X qc 2 d22_96 (pc' := 97) rfl (by decide) (by decide) (Nat.le_of_ble_eq_true rfl) ?_
 intro T h X W qc
 replace qc : Av Z h a2 .int [(.int (0 : Int32)), (.int (1 : Int32)), (.int (2 : Int32))] := qc
 replace qb := qb.other W ql
 replace qa := qa.other W qf
 replace Z0 := Nat.le_trans Z0 (Nat.le_of_eq W.size.symm)
 replace N := Fr.snoc X.1 N qk
 replace Kp := Kp.wr W (Or.inl (List.mem_of_getElem? (i := 1) rfl))
 refine g_iinc X d22_97 (pc' := 100) (q := (1 : Int32)) (Ls' := #[.val (.ref a0), .val (.ref a1), .val (.ref a2), .val (.ref qe), .val (.int (3 : Int32)), .val (.int (3 : Int32)), .val (.int (1 : Int32))]) rfl rfl rfl rfl ?_
 refine g_goto X d22_100 (pc' := 75) (by decide) (by decide) ?_
 refine g_iload X d22_75 (pc' := 77) rfl rfl ?_
 refine g_aloadN X d22_77 (pc' := 78) rfl rfl rfl ?_
 refine g_arraylength X qb d22_78 (pc' := 79) rfl (z := (3 : Int32)) rfl ?_
 refine g_icY X d22_79 (flt (show ¬ ((3 : Int32) < (3 : Int32)) from (by decide))).2.1 (pc' := 103) (by decide) (by decide) ?_
 refine g_return X d22_103 hret hlk (by decide) (by decide) ?_
 exact ⟨rfl, N, Kp, qa, qc⟩
theorem ef_rGr7 (m : MethodId) (x0 : Addr) (x1 : Addr) (x2 : Addr) : entryFrame m #[(.ref x0), (.ref x1), (.ref x2)] 7 = mkF m 0 #[.val (.ref x0), .val (.ref x1), .val (.ref x2), .unset, .unset, .unset, .unset] [] := by first | (simp [entryFrame, mkF, argsToLocals, Value.category]; done) | rfl
set_option maxRecDepth 65536 in
set_option maxHeartbeats 40000000 in
theorem rGr7 (l : Launch) (Z : State) (aa : Array Value) (hw : ∀ d ∈ tables_1, d.before aa Z = true) (ws : List Jvm.Cond) (a0 : Addr) (a1 : Addr) (a2 : Addr) (h0 : Heap) (n0 : Nat) (Z0 : n0 ≤ h0.size) (qb : Av Z h0 a0 .int [(.int (1 : Int32)), (.int (1 : Int32)), (.int (1 : Int32))]) (qa : Av Z h0 a1 .int [(.int (0 : Int32)), (.int (0 : Int32)), (.int (0 : Int32))]) (qc : Av Z h0 a2 .int [(.int (0 : Int32)), (.int (0 : Int32)), (.int (0 : Int32))]) (qg : n0 ≤ a1) (qk : n0 ≤ a2) (qh : a0 ≠ a1) (ql : a0 ≠ a2) (qf : a1 ≠ a2) :
    Rm l Z (⟨"com/example/pathlattice/pathlattice/graph/Edges", "group", "([I[I[I)V"⟩ : MethodName) prog_18_method_2_code 7 none ws ({ frames := 2, cells := 1, slots := 2, locals := 32 } : Room) #[(.ref a0), (.ref a1), (.ref a2)] h0 (fun v h L => v = none ∧ Fr n0 L ∧ Keep h0 h [a1, a2] ∧ Av Z h a1 .int [(.int (0 : Int32)), (.int (0 : Int32)), (.int (3 : Int32))] ∧ Av Z h a2 .int [(.int (0 : Int32)), (.int (1 : Int32)), (.int (2 : Int32))]) := by
 refine Rm.of (plainFor_of_name pn_8) ?_
 intro p e s m below meth cc T X hnm hret hlk
 refine Go.at_ (ef_rGr7 m a0 a1 a2) ?_
 have N := Fr.nil n0
 have Kp := Keep.refl h0 [a1, a2]
 refine g_aloadN X d22_0 (pc' := 1) rfl rfl rfl ?_
 refine g_astoreN X d22_1 (pc' := 2) (Ls' := #[.val (.ref a0), .val (.ref a1), .val (.ref a2), .val (.ref a0), .unset, .unset, .unset]) rfl rfl rfl ?_
 refine g_aloadN X d22_2 (pc' := 3) rfl rfl rfl ?_
 refine g_arraylength X qb d22_3 (pc' := 4) rfl (z := (3 : Int32)) rfl ?_
 refine g_istore X d22_4 (pc' := 6) (Ls' := #[.val (.ref a0), .val (.ref a1), .val (.ref a2), .val (.ref a0), .val (.int (3 : Int32)), .unset, .unset]) rfl rfl ?_
 refine g_iconst X (0 : Int32) d22_6 (pc' := 7) rfl rfl ?_
 refine g_istore X d22_7 (pc' := 9) (Ls' := #[.val (.ref a0), .val (.ref a1), .val (.ref a2), .val (.ref a0), .val (.int (3 : Int32)), .val (.int (0 : Int32)), .unset]) rfl rfl ?_
 refine g_iload X d22_9 (pc' := 11) rfl rfl ?_
 refine g_iload X d22_11 (pc' := 13) rfl rfl ?_
 refine g_icN X d22_13 (tlt (show (0 : Int32) < (3 : Int32) from (by decide))).2.1 (pc' := 16) rfl ?_
 refine g_aloadN X d22_16 (pc' := 17) rfl rfl rfl ?_
 refine g_iload X d22_17 (pc' := 19) rfl rfl ?_
 refine g_iaload X qb 0 d22_19 (pc' := 20) rfl (by decide) (by decide) rfl ?_
 refine g_istore X d22_20 (pc' := 22) (Ls' := #[.val (.ref a0), .val (.ref a1), .val (.ref a2), .val (.ref a0), .val (.int (3 : Int32)), .val (.int (0 : Int32)), .val (.int (1 : Int32))]) rfl rfl ?_
 refine g_aloadN X d22_22 (pc' := 23) rfl rfl rfl ?_
 refine g_iload X d22_23 (pc' := 25) rfl rfl ?_
 refine g_iconst X (1 : Int32) d22_25 (pc' := 26) rfl rfl ?_
 refine g_iadd X d22_26 (pc' := 27) rfl ?_
 refine Go.lit32 (z := (2 : Int32)) (by decide) ?_
 refine g_dup2 X d22_27 (pc' := 28) rfl rfl rfl ?_
 refine g_iaload X qa 2 d22_28 (pc' := 29) rfl (by decide) (by decide) rfl ?_
 refine g_iconst X (1 : Int32) d22_29 (pc' := 30) rfl rfl ?_
 refine g_iadd X d22_30 (pc' := 31) rfl ?_
 refine Go.lit32 (z := (1 : Int32)) (by decide) ?_
 refine g_iastore X qa 2 d22_31 (pc' := 32) rfl (by decide) (by decide) (Nat.le_of_ble_eq_true rfl) ?_
 intro T h X W qa
 replace qa : Av Z h a1 .int [(.int (0 : Int32)), (.int (0 : Int32)), (.int (1 : Int32))] := qa
 replace qb := qb.other W qh
 replace qc := qc.other W (Ne.symm qf)
 replace Z0 := Nat.le_trans Z0 (Nat.le_of_eq W.size.symm)
 replace N := Fr.snoc X.1 N qg
 replace Kp := Kp.wr W (Or.inl (List.mem_of_getElem? (i := 0) rfl))
 refine g_iinc X d22_32 (pc' := 35) (q := (1 : Int32)) (Ls' := #[.val (.ref a0), .val (.ref a1), .val (.ref a2), .val (.ref a0), .val (.int (3 : Int32)), .val (.int (1 : Int32)), .val (.int (1 : Int32))]) rfl rfl rfl rfl ?_
 refine g_goto X d22_35 (pc' := 9) (by decide) (by decide) ?_
 refine g_iload X d22_9 (pc' := 11) rfl rfl ?_
 refine g_iload X d22_11 (pc' := 13) rfl rfl ?_
 refine g_icN X d22_13 (tlt (show (1 : Int32) < (3 : Int32) from (by decide))).2.1 (pc' := 16) rfl ?_
 refine g_aloadN X d22_16 (pc' := 17) rfl rfl rfl ?_
 refine g_iload X d22_17 (pc' := 19) rfl rfl ?_
 refine g_iaload X qb 1 d22_19 (pc' := 20) rfl (by decide) (by decide) rfl ?_
 refine g_istore X d22_20 (pc' := 22) (Ls' := #[.val (.ref a0), .val (.ref a1), .val (.ref a2), .val (.ref a0), .val (.int (3 : Int32)), .val (.int (1 : Int32)), .val (.int (1 : Int32))]) rfl rfl ?_
 refine g_aloadN X d22_22 (pc' := 23) rfl rfl rfl ?_
 refine g_iload X d22_23 (pc' := 25) rfl rfl ?_
 refine g_iconst X (1 : Int32) d22_25 (pc' := 26) rfl rfl ?_
 refine g_iadd X d22_26 (pc' := 27) rfl ?_
 refine Go.lit32 (z := (2 : Int32)) (by decide) ?_
 refine g_dup2 X d22_27 (pc' := 28) rfl rfl rfl ?_
 refine g_iaload X qa 2 d22_28 (pc' := 29) rfl (by decide) (by decide) rfl ?_
 refine g_iconst X (1 : Int32) d22_29 (pc' := 30) rfl rfl ?_
 refine g_iadd X d22_30 (pc' := 31) rfl ?_
 refine Go.lit32 (z := (2 : Int32)) (by decide) ?_
 refine g_iastore X qa 2 d22_31 (pc' := 32) rfl (by decide) (by decide) (Nat.le_of_ble_eq_true rfl) ?_
 intro T h X W qa
 replace qa : Av Z h a1 .int [(.int (0 : Int32)), (.int (0 : Int32)), (.int (2 : Int32))] := qa
 replace qb := qb.other W qh
 replace qc := qc.other W (Ne.symm qf)
 replace Z0 := Nat.le_trans Z0 (Nat.le_of_eq W.size.symm)
 replace N := Fr.snoc X.1 N qg
 replace Kp := Kp.wr W (Or.inl (List.mem_of_getElem? (i := 0) rfl))
 refine g_iinc X d22_32 (pc' := 35) (q := (1 : Int32)) (Ls' := #[.val (.ref a0), .val (.ref a1), .val (.ref a2), .val (.ref a0), .val (.int (3 : Int32)), .val (.int (2 : Int32)), .val (.int (1 : Int32))]) rfl rfl rfl rfl ?_
 refine g_goto X d22_35 (pc' := 9) (by decide) (by decide) ?_
 refine g_iload X d22_9 (pc' := 11) rfl rfl ?_
 refine g_iload X d22_11 (pc' := 13) rfl rfl ?_
 refine g_icN X d22_13 (tlt (show (2 : Int32) < (3 : Int32) from (by decide))).2.1 (pc' := 16) rfl ?_
 refine g_aloadN X d22_16 (pc' := 17) rfl rfl rfl ?_
 refine g_iload X d22_17 (pc' := 19) rfl rfl ?_
 refine g_iaload X qb 2 d22_19 (pc' := 20) rfl (by decide) (by decide) rfl ?_
 refine g_istore X d22_20 (pc' := 22) (Ls' := #[.val (.ref a0), .val (.ref a1), .val (.ref a2), .val (.ref a0), .val (.int (3 : Int32)), .val (.int (2 : Int32)), .val (.int (1 : Int32))]) rfl rfl ?_
 refine g_aloadN X d22_22 (pc' := 23) rfl rfl rfl ?_
 refine g_iload X d22_23 (pc' := 25) rfl rfl ?_
 refine g_iconst X (1 : Int32) d22_25 (pc' := 26) rfl rfl ?_
 refine g_iadd X d22_26 (pc' := 27) rfl ?_
 refine Go.lit32 (z := (2 : Int32)) (by decide) ?_
 refine g_dup2 X d22_27 (pc' := 28) rfl rfl rfl ?_
 refine g_iaload X qa 2 d22_28 (pc' := 29) rfl (by decide) (by decide) rfl ?_
 refine g_iconst X (1 : Int32) d22_29 (pc' := 30) rfl rfl ?_
 refine g_iadd X d22_30 (pc' := 31) rfl ?_
 refine Go.lit32 (z := (3 : Int32)) (by decide) ?_
 refine g_iastore X qa 2 d22_31 (pc' := 32) rfl (by decide) (by decide) (Nat.le_of_ble_eq_true rfl) ?_
 intro T h X W qa
 replace qa : Av Z h a1 .int [(.int (0 : Int32)), (.int (0 : Int32)), (.int (3 : Int32))] := qa
 replace qb := qb.other W qh
 replace qc := qc.other W (Ne.symm qf)
 replace Z0 := Nat.le_trans Z0 (Nat.le_of_eq W.size.symm)
 replace N := Fr.snoc X.1 N qg
 replace Kp := Kp.wr W (Or.inl (List.mem_of_getElem? (i := 0) rfl))
 refine g_iinc X d22_32 (pc' := 35) (q := (1 : Int32)) (Ls' := #[.val (.ref a0), .val (.ref a1), .val (.ref a2), .val (.ref a0), .val (.int (3 : Int32)), .val (.int (3 : Int32)), .val (.int (1 : Int32))]) rfl rfl rfl rfl ?_
 refine g_goto X d22_35 (pc' := 9) (by decide) (by decide) ?_
 refine g_iload X d22_9 (pc' := 11) rfl rfl ?_
 refine g_iload X d22_11 (pc' := 13) rfl rfl ?_
 refine g_icY X d22_13 (flt (show ¬ ((3 : Int32) < (3 : Int32)) from (by decide))).2.1 (pc' := 38) (by decide) (by decide) ?_
 refine g_iconst X (1 : Int32) d22_38 (pc' := 39) rfl rfl ?_
 refine g_istoreN X d22_39 (pc' := 40) (Ls' := #[.val (.ref a0), .val (.ref a1), .val (.ref a2), .val (.int (1 : Int32)), .val (.int (3 : Int32)), .val (.int (3 : Int32)), .val (.int (1 : Int32))]) rfl rfl ?_
 refine g_iloadN X d22_40 (pc' := 41) rfl rfl ?_
 refine g_aloadN X d22_41 (pc' := 42) rfl rfl rfl ?_
 refine g_arraylength X qa d22_42 (pc' := 43) rfl (z := (3 : Int32)) rfl ?_
 refine g_icN X d22_43 (tlt (show (1 : Int32) < (3 : Int32) from (by decide))).2.1 (pc' := 46) rfl ?_
 refine g_aloadN X d22_46 (pc' := 47) rfl rfl rfl ?_
 refine g_iloadN X d22_47 (pc' := 48) rfl rfl ?_
 refine g_dup2 X d22_48 (pc' := 49) rfl rfl rfl ?_
 refine g_iaload X qa 1 d22_49 (pc' := 50) rfl (by decide) (by decide) rfl ?_
 refine g_aloadN X d22_50 (pc' := 51) rfl rfl rfl ?_
 refine g_iloadN X d22_51 (pc' := 52) rfl rfl ?_
 refine g_iconst X (1 : Int32) d22_52 (pc' := 53) rfl rfl ?_
 refine g_isub X d22_53 (pc' := 54) rfl ?_
 refine Go.lit32 (z := (0 : Int32)) (by decide) ?_
 refine g_iaload X qa 0 d22_54 (pc' := 55) rfl (by decide) (by decide) rfl ?_
 refine g_iadd X d22_55 (pc' := 56) rfl ?_
 refine Go.lit32 (z := (0 : Int32)) (by decide) ?_
 refine g_iastore X qa 1 d22_56 (pc' := 57) rfl (by decide) (by decide) (Nat.le_of_ble_eq_true rfl) ?_
 intro T h X W qa
 replace qa : Av Z h a1 .int [(.int (0 : Int32)), (.int (0 : Int32)), (.int (3 : Int32))] := qa
 replace qb := qb.other W qh
 replace qc := qc.other W (Ne.symm qf)
 replace Z0 := Nat.le_trans Z0 (Nat.le_of_eq W.size.symm)
 replace N := Fr.snoc X.1 N qg
 replace Kp := Kp.wr W (Or.inl (List.mem_of_getElem? (i := 0) rfl))
 refine g_iinc X d22_57 (pc' := 60) (q := (1 : Int32)) (Ls' := #[.val (.ref a0), .val (.ref a1), .val (.ref a2), .val (.int (2 : Int32)), .val (.int (3 : Int32)), .val (.int (3 : Int32)), .val (.int (1 : Int32))]) rfl rfl rfl rfl ?_
 refine g_goto X d22_60 (pc' := 40) (by decide) (by decide) ?_
 refine g_iloadN X d22_40 (pc' := 41) rfl rfl ?_
 refine g_aloadN X d22_41 (pc' := 42) rfl rfl rfl ?_
 refine g_arraylength X qa d22_42 (pc' := 43) rfl (z := (3 : Int32)) rfl ?_
 refine g_icN X d22_43 (tlt (show (2 : Int32) < (3 : Int32) from (by decide))).2.1 (pc' := 46) rfl ?_
 refine g_aloadN X d22_46 (pc' := 47) rfl rfl rfl ?_
 refine g_iloadN X d22_47 (pc' := 48) rfl rfl ?_
 refine g_dup2 X d22_48 (pc' := 49) rfl rfl rfl ?_
 refine g_iaload X qa 2 d22_49 (pc' := 50) rfl (by decide) (by decide) rfl ?_
 refine g_aloadN X d22_50 (pc' := 51) rfl rfl rfl ?_
 refine g_iloadN X d22_51 (pc' := 52) rfl rfl ?_
 refine g_iconst X (1 : Int32) d22_52 (pc' := 53) rfl rfl ?_
 refine g_isub X d22_53 (pc' := 54) rfl ?_
 refine Go.lit32 (z := (1 : Int32)) (by decide) ?_
 refine g_iaload X qa 1 d22_54 (pc' := 55) rfl (by decide) (by decide) rfl ?_
 refine g_iadd X d22_55 (pc' := 56) rfl ?_
 refine Go.lit32 (z := (3 : Int32)) (by decide) ?_
 refine g_iastore X qa 2 d22_56 (pc' := 57) rfl (by decide) (by decide) (Nat.le_of_ble_eq_true rfl) ?_
 intro T h X W qa
 replace qa : Av Z h a1 .int [(.int (0 : Int32)), (.int (0 : Int32)), (.int (3 : Int32))] := qa
 replace qb := qb.other W qh
 replace qc := qc.other W (Ne.symm qf)
 replace Z0 := Nat.le_trans Z0 (Nat.le_of_eq W.size.symm)
 replace N := Fr.snoc X.1 N qg
 replace Kp := Kp.wr W (Or.inl (List.mem_of_getElem? (i := 0) rfl))
 refine g_iinc X d22_57 (pc' := 60) (q := (1 : Int32)) (Ls' := #[.val (.ref a0), .val (.ref a1), .val (.ref a2), .val (.int (3 : Int32)), .val (.int (3 : Int32)), .val (.int (3 : Int32)), .val (.int (1 : Int32))]) rfl rfl rfl rfl ?_
 refine g_goto X d22_60 (pc' := 40) (by decide) (by decide) ?_
 refine g_iloadN X d22_40 (pc' := 41) rfl rfl ?_
 refine g_aloadN X d22_41 (pc' := 42) rfl rfl rfl ?_
 refine g_arraylength X qa d22_42 (pc' := 43) rfl (z := (3 : Int32)) rfl ?_
 refine g_icY X d22_43 (flt (show ¬ ((3 : Int32) < (3 : Int32)) from (by decide))).2.1 (pc' := 63) (by decide) (by decide) ?_
 refine g_aloadN X d22_63 (pc' := 64) rfl rfl rfl ?_
 refine g_aloadN X d22_64 (pc' := 65) rfl rfl rfl ?_
 refine g_arraylength X qa d22_65 (pc' := 66) rfl (z := (3 : Int32)) rfl ?_
 refine g_iconst X (1 : Int32) d22_66 (pc' := 67) rfl rfl ?_
 refine g_isub X d22_67 (pc' := 68) rfl ?_
 refine Go.lit32 (z := (2 : Int32)) (by decide) ?_
 refine g_static X (W := 0) [(.ref a1), (.int (2 : Int32))] [] (tb hw 143 rfl) (tb hw 144 rfl) (tb hw 115 rfl) (tb hw 145 rfl) (rCof l Z aa hw [] a1 (0 : Int32) (0 : Int32) (3 : Int32) _ n0 Z0 qa) d22_68 (pc' := 71) rfl (by decide) (by decide) (by decide) rfl rfl rfl (lenOf pd_14 rfl) (Nat.le_refl _) (by decide) (by decide) ?_
 intro v T L X q
 obtain ⟨qe, rfl, Nq, Kq, qj, qm, qq, qd⟩ := q
 have qn : a0 ≠ qe := Nat.ne_of_lt (Nat.lt_of_lt_of_le qb.lt qj)
 have qo : a1 ≠ qe := Nat.ne_of_lt (Nat.lt_of_lt_of_le qa.lt qj)
 have qi : a2 ≠ qe := Nat.ne_of_lt (Nat.lt_of_lt_of_le qc.lt qj)
 have qp : h0.size ≤ qe := Nat.le_trans Kp.1 qj
 replace N := N.app Nq
 replace qb := qb.keep Kq nin0
 replace qa := qa.keep Kq nin0
 replace qc := qc.keep Kq nin0
 replace Z0 := Nat.le_trans Z0 Kq.1
 replace Kp := Kp.trans Kq all0
 show Go p e below _ (T.setTop (mkF m 71 _ [(.ref qe)]))
 refine g_astoreN X d22_71 (pc' := 72) (Ls' := #[.val (.ref a0), .val (.ref a1), .val (.ref a2), .val (.ref qe), .val (.int (3 : Int32)), .val (.int (3 : Int32)), .val (.int (1 : Int32))]) rfl rfl rfl ?_
 refine g_iconst X (0 : Int32) d22_72 (pc' := 73) rfl rfl ?_
 refine g_istore X d22_73 (pc' := 75) (Ls' := #[.val (.ref a0), .val (.ref a1), .val (.ref a2), .val (.ref qe), .val (.int (0 : Int32)), .val (.int (3 : Int32)), .val (.int (1 : Int32))]) rfl rfl ?_
 refine g_iload X d22_75 (pc' := 77) rfl rfl ?_
 refine g_aloadN X d22_77 (pc' := 78) rfl rfl rfl ?_
 refine g_arraylength X qb d22_78 (pc' := 79) rfl (z := (3 : Int32)) rfl ?_
 refine g_icN X d22_79 (tlt (show (0 : Int32) < (3 : Int32) from (by decide))).2.1 (pc' := 82) rfl ?_
 refine g_aloadN X d22_82 (pc' := 83) rfl rfl rfl ?_
 refine g_aloadN X d22_83 (pc' := 84) rfl rfl rfl ?_
 refine g_aloadN X d22_84 (pc' := 85) rfl rfl rfl ?_
 refine g_iload X d22_85 (pc' := 87) rfl rfl ?_
 refine g_iaload X qb 0 d22_87 (pc' := 88) rfl (by decide) (by decide) rfl ?_
 refine g_dup2 X d22_88 (pc' := 89) rfl rfl rfl ?_
 refine g_iaload X qd 1 d22_89 (pc' := 90) rfl (by decide) (by decide) rfl ?_
 refine g_dup_x2 X d22_90 (pc' := 91) rfl rfl rfl rfl ?_
 refine g_iconst X (1 : Int32) d22_91 (pc' := 92) rfl rfl ?_
 refine g_iadd X d22_92 (pc' := 93) rfl ?_
 refine Go.lit32 (z := (1 : Int32)) (by decide) ?_
 refine g_iastore X qd 1 d22_93 (pc' := 94) rfl (by decide) (by decide) (Nat.le_of_ble_eq_true rfl) ?_
 intro T h X W qd
 replace qd : Av Z h qe .int [(.int (0 : Int32)), (.int (1 : Int32))] := qd
 replace qb := qb.other W qn
 replace qa := qa.other W qo
 replace qc := qc.other W qi
 replace Z0 := Nat.le_trans Z0 (Nat.le_of_eq W.size.symm)
 replace N := Fr.snoc X.1 N qm
 replace Kp := Kp.wr W (Or.inr qp)
 refine g_iload X d22_94 (pc' := 96) rfl rfl ?_
 refine g_iastore X qc 0 d22_96 (pc' := 97) rfl (by decide) (by decide) (Nat.le_of_ble_eq_true rfl) ?_
 intro T h X W qc
 replace qc : Av Z h a2 .int [(.int (0 : Int32)), (.int (0 : Int32)), (.int (0 : Int32))] := qc
 replace qb := qb.other W ql
 replace qa := qa.other W qf
 replace qd := qd.other W (Ne.symm qi)
 replace Z0 := Nat.le_trans Z0 (Nat.le_of_eq W.size.symm)
 replace N := Fr.snoc X.1 N qk
 replace Kp := Kp.wr W (Or.inl (List.mem_of_getElem? (i := 1) rfl))
 refine g_iinc X d22_97 (pc' := 100) (q := (1 : Int32)) (Ls' := #[.val (.ref a0), .val (.ref a1), .val (.ref a2), .val (.ref qe), .val (.int (1 : Int32)), .val (.int (3 : Int32)), .val (.int (1 : Int32))]) rfl rfl rfl rfl ?_
 refine g_goto X d22_100 (pc' := 75) (by decide) (by decide) ?_
 refine g_iload X d22_75 (pc' := 77) rfl rfl ?_
 refine g_aloadN X d22_77 (pc' := 78) rfl rfl rfl ?_
 refine g_arraylength X qb d22_78 (pc' := 79) rfl (z := (3 : Int32)) rfl ?_
 refine g_icN X d22_79 (tlt (show (1 : Int32) < (3 : Int32) from (by decide))).2.1 (pc' := 82) rfl ?_
 refine g_aloadN X d22_82 (pc' := 83) rfl rfl rfl ?_
 refine g_aloadN X d22_83 (pc' := 84) rfl rfl rfl ?_
 refine g_aloadN X d22_84 (pc' := 85) rfl rfl rfl ?_
 refine g_iload X d22_85 (pc' := 87) rfl rfl ?_
 refine g_iaload X qb 1 d22_87 (pc' := 88) rfl (by decide) (by decide) rfl ?_
 refine g_dup2 X d22_88 (pc' := 89) rfl rfl rfl ?_
 refine g_iaload X qd 1 d22_89 (pc' := 90) rfl (by decide) (by decide) rfl ?_
 refine g_dup_x2 X d22_90 (pc' := 91) rfl rfl rfl rfl ?_
 refine g_iconst X (1 : Int32) d22_91 (pc' := 92) rfl rfl ?_
 refine g_iadd X d22_92 (pc' := 93) rfl ?_
 refine Go.lit32 (z := (2 : Int32)) (by decide) ?_
 refine g_iastore X qd 1 d22_93 (pc' := 94) rfl (by decide) (by decide) (Nat.le_of_ble_eq_true rfl) ?_
 intro T h X W qd
 replace qd : Av Z h qe .int [(.int (0 : Int32)), (.int (2 : Int32))] := qd
 replace qb := qb.other W qn
 replace qa := qa.other W qo
 replace qc := qc.other W qi
 replace Z0 := Nat.le_trans Z0 (Nat.le_of_eq W.size.symm)
 replace N := Fr.snoc X.1 N qm
 replace Kp := Kp.wr W (Or.inr qp)
 refine g_iload X d22_94 (pc' := 96) rfl rfl ?_
 refine g_iastore X qc 1 d22_96 (pc' := 97) rfl (by decide) (by decide) (Nat.le_of_ble_eq_true rfl) ?_
 intro T h X W qc
 replace qc : Av Z h a2 .int [(.int (0 : Int32)), (.int (1 : Int32)), (.int (0 : Int32))] := qc
 replace qb := qb.other W ql
 replace qa := qa.other W qf
 replace qd := qd.other W (Ne.symm qi)
 replace Z0 := Nat.le_trans Z0 (Nat.le_of_eq W.size.symm)
 replace N := Fr.snoc X.1 N qk
 replace Kp := Kp.wr W (Or.inl (List.mem_of_getElem? (i := 1) rfl))
 refine g_iinc X d22_97 (pc' := 100) (q := (1 : Int32)) (Ls' := #[.val (.ref a0), .val (.ref a1), .val (.ref a2), .val (.ref qe), .val (.int (2 : Int32)), .val (.int (3 : Int32)), .val (.int (1 : Int32))]) rfl rfl rfl rfl ?_
 refine g_goto X d22_100 (pc' := 75) (by decide) (by decide) ?_
 refine g_iload X d22_75 (pc' := 77) rfl rfl ?_
 refine g_aloadN X d22_77 (pc' := 78) rfl rfl rfl ?_
 refine g_arraylength X qb d22_78 (pc' := 79) rfl (z := (3 : Int32)) rfl ?_
 refine g_icN X d22_79 (tlt (show (2 : Int32) < (3 : Int32) from (by decide))).2.1 (pc' := 82) rfl ?_
 refine g_aloadN X d22_82 (pc' := 83) rfl rfl rfl ?_
 refine g_aloadN X d22_83 (pc' := 84) rfl rfl rfl ?_
 refine g_aloadN X d22_84 (pc' := 85) rfl rfl rfl ?_
 refine g_iload X d22_85 (pc' := 87) rfl rfl ?_
 refine g_iaload X qb 2 d22_87 (pc' := 88) rfl (by decide) (by decide) rfl ?_
 refine g_dup2 X d22_88 (pc' := 89) rfl rfl rfl ?_
 refine g_iaload X qd 1 d22_89 (pc' := 90) rfl (by decide) (by decide) rfl ?_
 refine g_dup_x2 X d22_90 (pc' := 91) rfl rfl rfl rfl ?_
 refine g_iconst X (1 : Int32) d22_91 (pc' := 92) rfl rfl ?_
 refine g_iadd X d22_92 (pc' := 93) rfl ?_
 refine Go.lit32 (z := (3 : Int32)) (by decide) ?_
 refine g_iastore X qd 1 d22_93 (pc' := 94) rfl (by decide) (by decide) (Nat.le_of_ble_eq_true rfl) ?_
 intro T h X W qd
 replace qb := qb.other W qn
 replace qa := qa.other W qo
 replace qc := qc.other W qi
 replace Z0 := Nat.le_trans Z0 (Nat.le_of_eq W.size.symm)
 replace N := Fr.snoc X.1 N qm
 replace Kp := Kp.wr W (Or.inr qp)
 refine g_iload X d22_94 (pc' := 96) rfl rfl ?_
 refine g_iastore X qc 2 d22_96 (pc' := 97) rfl (by decide) (by decide) (Nat.le_of_ble_eq_true rfl) ?_
 intro T h X W qc
 replace qc : Av Z h a2 .int [(.int (0 : Int32)), (.int (1 : Int32)), (.int (2 : Int32))] := qc
 replace qb := qb.other W ql
 replace qa := qa.other W qf
 replace Z0 := Nat.le_trans Z0 (Nat.le_of_eq W.size.symm)
 replace N := Fr.snoc X.1 N qk
 replace Kp := Kp.wr W (Or.inl (List.mem_of_getElem? (i := 1) rfl))
 refine g_iinc X d22_97 (pc' := 100) (q := (1 : Int32)) (Ls' := #[.val (.ref a0), .val (.ref a1), .val (.ref a2), .val (.ref qe), .val (.int (3 : Int32)), .val (.int (3 : Int32)), .val (.int (1 : Int32))]) rfl rfl rfl rfl ?_
 refine g_goto X d22_100 (pc' := 75) (by decide) (by decide) ?_
 refine g_iload X d22_75 (pc' := 77) rfl rfl ?_
 refine g_aloadN X d22_77 (pc' := 78) rfl rfl rfl ?_
 refine g_arraylength X qb d22_78 (pc' := 79) rfl (z := (3 : Int32)) rfl ?_
 refine g_icY X d22_79 (flt (show ¬ ((3 : Int32) < (3 : Int32)) from (by decide))).2.1 (pc' := 103) (by decide) (by decide) ?_
 refine g_return X d22_103 hret hlk (by decide) (by decide) ?_
 exact ⟨rfl, N, Kp, qa, qc⟩
theorem bit {b : Int32} (h : b = 0 ∨ b = 1) : ¬ b < (0 : Int32) ∧ b < (2 : Int32) := by rcases h with rfl | rfl <;> decide
theorem rGrp (l : Launch) (Z : State) (aa : Array Value) (hw : ∀ d ∈ tables_1, d.before aa Z = true) (ws : List Jvm.Cond) (a0 a1 a2 : Addr) (b0 b1 b2 : Int32) (h0 : Heap) (n0 : Nat) (Z0 : n0 ≤ h0.size) (z0 : b0 = 0 ∨ b0 = 1) (z1 : b1 = 0 ∨ b1 = 1) (z2 : b2 = 0 ∨ b2 = 1) (qa : Av Z h0 a0 .int [(.int b0), (.int b1), (.int b2)]) (qb : Av Z h0 a1 .int [(.int (0 : Int32)), (.int (0 : Int32)), (.int (0 : Int32))]) (qc : Av Z h0 a2 .int [(.int (0 : Int32)), (.int (0 : Int32)), (.int (0 : Int32))]) (qd : n0 ≤ a1) (qe : n0 ≤ a2) (qf : a0 ≠ a1) (qg : a0 ≠ a2) (qh : a1 ≠ a2) :
    Rm l Z (⟨"com/example/pathlattice/pathlattice/graph/Edges", "group", "([I[I[I)V"⟩ : MethodName) prog_18_method_2_code 7 none ws ({ frames := 2, cells := 1, slots := 2, locals := 32 } : Room) #[(.ref a0), (.ref a1), (.ref a2)] h0 (fun v h L => v = none ∧ Fr n0 L ∧ Keep h0 h [a1, a2]) := by
  rcases z0 with rfl | rfl <;> rcases z1 with rfl | rfl <;> rcases z2 with rfl | rfl
  · exact Rm.weaken (rGr0 l Z aa hw ws a0 a1 a2 h0 n0 Z0 qa qb qc qd qe qf qg qh) fun v h L q => ⟨q.1, q.2.1, q.2.2.1⟩
  · exact Rm.weaken (rGr4 l Z aa hw ws a0 a1 a2 h0 n0 Z0 qa qb qc qd qe qf qg qh) fun v h L q => ⟨q.1, q.2.1, q.2.2.1⟩
  · exact Rm.weaken (rGr2 l Z aa hw ws a0 a1 a2 h0 n0 Z0 qa qb qc qd qe qf qg qh) fun v h L q => ⟨q.1, q.2.1, q.2.2.1⟩
  · exact Rm.weaken (rGr6 l Z aa hw ws a0 a1 a2 h0 n0 Z0 qa qb qc qd qe qf qg qh) fun v h L q => ⟨q.1, q.2.1, q.2.2.1⟩
  · exact Rm.weaken (rGr1 l Z aa hw ws a0 a1 a2 h0 n0 Z0 qa qb qc qd qe qf qg qh) fun v h L q => ⟨q.1, q.2.1, q.2.2.1⟩
  · exact Rm.weaken (rGr5 l Z aa hw ws a0 a1 a2 h0 n0 Z0 qa qb qc qd qe qf qg qh) fun v h L q => ⟨q.1, q.2.1, q.2.2.1⟩
  · exact Rm.weaken (rGr3 l Z aa hw ws a0 a1 a2 h0 n0 Z0 qa qb qc qd qe qf qg qh) fun v h L q => ⟨q.1, q.2.1, q.2.2.1⟩
  · exact Rm.weaken (rGr7 l Z aa hw ws a0 a1 a2 h0 n0 Z0 qa qb qc qd qe qf qg qh) fun v h L q => ⟨q.1, q.2.1, q.2.2.1⟩
theorem d9_0 : decode prog_18_method_1_code 0 = .ok (.aload_n 0, 1) := by decide +kernel
theorem d9_1 : decode prog_18_method_1_code 1 = .ok (.invokespecial 1, 3) := by decide +kernel
theorem d9_4 : decode prog_18_method_1_code 4 = .ok (.aload_n 2, 1) := by decide +kernel
theorem d9_5 : decode prog_18_method_1_code 5 = .ok (.arraylength, 1) := by decide +kernel
theorem d9_6 : decode prog_18_method_1_code 6 = .ok (.aload_n 1, 1) := by decide +kernel
theorem d9_7 : decode prog_18_method_1_code 7 = .ok (.arraylength, 1) := by decide +kernel
theorem d9_8 : decode prog_18_method_1_code 8 = .ok (.if_icmp .ne 14, 3) := by decide +kernel
theorem d9_11 : decode prog_18_method_1_code 11 = .ok (.aload_n 3, 1) := by decide +kernel
theorem d9_12 : decode prog_18_method_1_code 12 = .ok (.arraylength, 1) := by decide +kernel
theorem d9_13 : decode prog_18_method_1_code 13 = .ok (.aload_n 1, 1) := by decide +kernel
theorem d9_14 : decode prog_18_method_1_code 14 = .ok (.arraylength, 1) := by decide +kernel
theorem d9_15 : decode prog_18_method_1_code 15 = .ok (.if_icmp .ne 7, 3) := by decide +kernel
theorem d9_18 : decode prog_18_method_1_code 18 = .ok (.iconst 1, 1) := by decide +kernel
theorem d9_19 : decode prog_18_method_1_code 19 = .ok (.goto 4, 3) := by decide +kernel
theorem d9_23 : decode prog_18_method_1_code 23 = .ok (.ldc 7, 2) := by decide +kernel
theorem d9_25 : decode prog_18_method_1_code 25 = .ok (.invokestatic 9, 3) := by decide +kernel
theorem d9_28 : decode prog_18_method_1_code 28 = .ok (.iconst 0, 1) := by decide +kernel
theorem d9_29 : decode prog_18_method_1_code 29 = .ok (.istore 6, 2) := by decide +kernel
theorem d9_31 : decode prog_18_method_1_code 31 = .ok (.iload 6, 2) := by decide +kernel
theorem d9_33 : decode prog_18_method_1_code 33 = .ok (.aload_n 1, 1) := by decide +kernel
theorem d9_34 : decode prog_18_method_1_code 34 = .ok (.arraylength, 1) := by decide +kernel
theorem d9_35 : decode prog_18_method_1_code 35 = .ok (.if_icmp .ge 83, 3) := by decide +kernel
theorem d9_38 : decode prog_18_method_1_code 38 = .ok (.iconst 0, 1) := by decide +kernel
theorem d9_39 : decode prog_18_method_1_code 39 = .ok (.aload_n 1, 1) := by decide +kernel
theorem d9_40 : decode prog_18_method_1_code 40 = .ok (.iload 6, 2) := by decide +kernel
theorem d9_42 : decode prog_18_method_1_code 42 = .ok (.iaload, 1) := by decide +kernel
theorem d9_43 : decode prog_18_method_1_code 43 = .ok (.if_icmp .gt 33, 3) := by decide +kernel
theorem d9_46 : decode prog_18_method_1_code 46 = .ok (.aload_n 1, 1) := by decide +kernel
theorem d9_47 : decode prog_18_method_1_code 47 = .ok (.iload 6, 2) := by decide +kernel
theorem d9_49 : decode prog_18_method_1_code 49 = .ok (.iaload, 1) := by decide +kernel
theorem d9_50 : decode prog_18_method_1_code 50 = .ok (.iload 4, 2) := by decide +kernel
theorem d9_52 : decode prog_18_method_1_code 52 = .ok (.if_icmp .ge 24, 3) := by decide +kernel
theorem d9_55 : decode prog_18_method_1_code 55 = .ok (.iconst 0, 1) := by decide +kernel
theorem d9_56 : decode prog_18_method_1_code 56 = .ok (.aload_n 2, 1) := by decide +kernel
theorem d9_57 : decode prog_18_method_1_code 57 = .ok (.iload 6, 2) := by decide +kernel
theorem d9_59 : decode prog_18_method_1_code 59 = .ok (.iaload, 1) := by decide +kernel
theorem d9_60 : decode prog_18_method_1_code 60 = .ok (.if_icmp .gt 16, 3) := by decide +kernel
theorem d9_63 : decode prog_18_method_1_code 63 = .ok (.aload_n 2, 1) := by decide +kernel
theorem d9_64 : decode prog_18_method_1_code 64 = .ok (.iload 6, 2) := by decide +kernel
theorem d9_66 : decode prog_18_method_1_code 66 = .ok (.iaload, 1) := by decide +kernel
theorem d9_67 : decode prog_18_method_1_code 67 = .ok (.iload 4, 2) := by decide +kernel
theorem d9_69 : decode prog_18_method_1_code 69 = .ok (.if_icmp .ge 7, 3) := by decide +kernel
theorem d9_72 : decode prog_18_method_1_code 72 = .ok (.iconst 1, 1) := by decide +kernel
theorem d9_73 : decode prog_18_method_1_code 73 = .ok (.goto 4, 3) := by decide +kernel
theorem d9_77 : decode prog_18_method_1_code 77 = .ok (.ldc 15, 2) := by decide +kernel
theorem d9_79 : decode prog_18_method_1_code 79 = .ok (.invokestatic 9, 3) := by decide +kernel
theorem d9_82 : decode prog_18_method_1_code 82 = .ok (.iconst 0, 1) := by decide +kernel
theorem d9_83 : decode prog_18_method_1_code 83 = .ok (.aload_n 3, 1) := by decide +kernel
theorem d9_84 : decode prog_18_method_1_code 84 = .ok (.iload 6, 2) := by decide +kernel
theorem d9_86 : decode prog_18_method_1_code 86 = .ok (.iaload, 1) := by decide +kernel
theorem d9_87 : decode prog_18_method_1_code 87 = .ok (.if_icmp .gt 19, 3) := by decide +kernel
theorem d9_90 : decode prog_18_method_1_code 90 = .ok (.aload_n 3, 1) := by decide +kernel
theorem d9_91 : decode prog_18_method_1_code 91 = .ok (.iload 6, 2) := by decide +kernel
theorem d9_93 : decode prog_18_method_1_code 93 = .ok (.iaload, 1) := by decide +kernel
theorem d9_94 : decode prog_18_method_1_code 94 = .ok (.aload 5, 2) := by decide +kernel
theorem d9_96 : decode prog_18_method_1_code 96 = .ok (.invokevirtual 17, 3) := by decide +kernel
theorem pd_15 : parseMethodDescriptor "()I" = some ⟨[], some .int⟩ := by decide +kernel
theorem d9_99 : decode prog_18_method_1_code 99 = .ok (.if_icmp .ge 7, 3) := by decide +kernel
theorem d9_102 : decode prog_18_method_1_code 102 = .ok (.iconst 1, 1) := by decide +kernel
theorem d9_103 : decode prog_18_method_1_code 103 = .ok (.goto 4, 3) := by decide +kernel
theorem d9_107 : decode prog_18_method_1_code 107 = .ok (.ldc 23, 2) := by decide +kernel
theorem d9_109 : decode prog_18_method_1_code 109 = .ok (.invokestatic 9, 3) := by decide +kernel
theorem d9_112 : decode prog_18_method_1_code 112 = .ok (.iinc 6 1, 3) := by decide +kernel
theorem d9_115 : decode prog_18_method_1_code 115 = .ok (.goto (-84), 3) := by decide +kernel
theorem d9_118 : decode prog_18_method_1_code 118 = .ok (.aload_n 0, 1) := by decide +kernel
theorem d9_119 : decode prog_18_method_1_code 119 = .ok (.iload 4, 2) := by decide +kernel
theorem d9_121 : decode prog_18_method_1_code 121 = .ok (.putfield 25, 3) := by decide +kernel
theorem d9_124 : decode prog_18_method_1_code 124 = .ok (.aload_n 0, 1) := by decide +kernel
theorem d9_125 : decode prog_18_method_1_code 125 = .ok (.aload_n 1, 1) := by decide +kernel
theorem d9_126 : decode prog_18_method_1_code 126 = .ok (.putfield 31, 3) := by decide +kernel
theorem d9_129 : decode prog_18_method_1_code 129 = .ok (.aload_n 0, 1) := by decide +kernel
theorem d9_130 : decode prog_18_method_1_code 130 = .ok (.aload_n 2, 1) := by decide +kernel
theorem d9_131 : decode prog_18_method_1_code 131 = .ok (.putfield 35, 3) := by decide +kernel
theorem d9_134 : decode prog_18_method_1_code 134 = .ok (.aload_n 0, 1) := by decide +kernel
theorem d9_135 : decode prog_18_method_1_code 135 = .ok (.aload_n 3, 1) := by decide +kernel
theorem d9_136 : decode prog_18_method_1_code 136 = .ok (.putfield 38, 3) := by decide +kernel
theorem d9_139 : decode prog_18_method_1_code 139 = .ok (.aload_n 0, 1) := by decide +kernel
theorem d9_140 : decode prog_18_method_1_code 140 = .ok (.aload 5, 2) := by decide +kernel
theorem d9_142 : decode prog_18_method_1_code 142 = .ok (.invokevirtual 17, 3) := by decide +kernel
theorem d9_145 : decode prog_18_method_1_code 145 = .ok (.anewarray 41, 3) := by decide +kernel
theorem d9_148 : decode prog_18_method_1_code 148 = .ok (.putfield 43, 3) := by decide +kernel
theorem d9_151 : decode prog_18_method_1_code 151 = .ok (.iconst 0, 1) := by decide +kernel
theorem d9_152 : decode prog_18_method_1_code 152 = .ok (.istore 6, 2) := by decide +kernel
theorem d9_154 : decode prog_18_method_1_code 154 = .ok (.iload 6, 2) := by decide +kernel
theorem d9_156 : decode prog_18_method_1_code 156 = .ok (.aload_n 0, 1) := by decide +kernel
theorem d9_157 : decode prog_18_method_1_code 157 = .ok (.getfield 43, 3) := by decide +kernel
theorem d9_160 : decode prog_18_method_1_code 160 = .ok (.arraylength, 1) := by decide +kernel
theorem d9_161 : decode prog_18_method_1_code 161 = .ok (.if_icmp .ge 23, 3) := by decide +kernel
theorem d9_164 : decode prog_18_method_1_code 164 = .ok (.aload_n 0, 1) := by decide +kernel
theorem d9_165 : decode prog_18_method_1_code 165 = .ok (.getfield 43, 3) := by decide +kernel
theorem d9_168 : decode prog_18_method_1_code 168 = .ok (.iload 6, 2) := by decide +kernel
theorem d9_170 : decode prog_18_method_1_code 170 = .ok (.aload 5, 2) := by decide +kernel
theorem d9_172 : decode prog_18_method_1_code 172 = .ok (.iload 6, 2) := by decide +kernel
theorem d9_174 : decode prog_18_method_1_code 174 = .ok (.invokevirtual 47, 3) := by decide +kernel
theorem pd_16 : parseMethodDescriptor "(I)Ljava/lang/String;" = some ⟨[.int], some (.object "java/lang/String")⟩ := by decide +kernel
theorem d9_177 : decode prog_18_method_1_code 177 = .ok (.aastore, 1) := by decide +kernel
theorem d9_178 : decode prog_18_method_1_code 178 = .ok (.iinc 6 1, 3) := by decide +kernel
theorem d9_181 : decode prog_18_method_1_code 181 = .ok (.goto (-27), 3) := by decide +kernel
theorem d9_184 : decode prog_18_method_1_code 184 = .ok (.aload_n 0, 1) := by decide +kernel
theorem d9_185 : decode prog_18_method_1_code 185 = .ok (.iload 4, 2) := by decide +kernel
theorem d9_187 : decode prog_18_method_1_code 187 = .ok (.iconst 1, 1) := by decide +kernel
theorem d9_188 : decode prog_18_method_1_code 188 = .ok (.iadd, 1) := by decide +kernel
theorem d9_189 : decode prog_18_method_1_code 189 = .ok (.newarray .int, 2) := by decide +kernel
theorem d9_191 : decode prog_18_method_1_code 191 = .ok (.putfield 51, 3) := by decide +kernel
theorem d9_194 : decode prog_18_method_1_code 194 = .ok (.aload_n 0, 1) := by decide +kernel
theorem d9_195 : decode prog_18_method_1_code 195 = .ok (.aload_n 1, 1) := by decide +kernel
theorem d9_196 : decode prog_18_method_1_code 196 = .ok (.arraylength, 1) := by decide +kernel
theorem d9_197 : decode prog_18_method_1_code 197 = .ok (.newarray .int, 2) := by decide +kernel
theorem d9_199 : decode prog_18_method_1_code 199 = .ok (.putfield 54, 3) := by decide +kernel
theorem d9_202 : decode prog_18_method_1_code 202 = .ok (.aload_n 0, 1) := by decide +kernel
theorem d9_203 : decode prog_18_method_1_code 203 = .ok (.iload 4, 2) := by decide +kernel
theorem d9_205 : decode prog_18_method_1_code 205 = .ok (.iconst 1, 1) := by decide +kernel
theorem d9_206 : decode prog_18_method_1_code 206 = .ok (.iadd, 1) := by decide +kernel
theorem d9_207 : decode prog_18_method_1_code 207 = .ok (.newarray .int, 2) := by decide +kernel
theorem d9_209 : decode prog_18_method_1_code 209 = .ok (.putfield 57, 3) := by decide +kernel
theorem d9_212 : decode prog_18_method_1_code 212 = .ok (.aload_n 0, 1) := by decide +kernel
theorem d9_213 : decode prog_18_method_1_code 213 = .ok (.aload_n 2, 1) := by decide +kernel
theorem d9_214 : decode prog_18_method_1_code 214 = .ok (.arraylength, 1) := by decide +kernel
theorem d9_215 : decode prog_18_method_1_code 215 = .ok (.newarray .int, 2) := by decide +kernel
theorem d9_217 : decode prog_18_method_1_code 217 = .ok (.putfield 60, 3) := by decide +kernel
theorem d9_220 : decode prog_18_method_1_code 220 = .ok (.aload_n 1, 1) := by decide +kernel
theorem d9_221 : decode prog_18_method_1_code 221 = .ok (.aload_n 0, 1) := by decide +kernel
theorem d9_222 : decode prog_18_method_1_code 222 = .ok (.getfield 51, 3) := by decide +kernel
theorem d9_225 : decode prog_18_method_1_code 225 = .ok (.aload_n 0, 1) := by decide +kernel
theorem d9_226 : decode prog_18_method_1_code 226 = .ok (.getfield 54, 3) := by decide +kernel
theorem d9_229 : decode prog_18_method_1_code 229 = .ok (.invokestatic 63, 3) := by decide +kernel
theorem pd_17 : parseMethodDescriptor "([I[I[I)V" = some ⟨[(.array .int), (.array .int), (.array .int)], none⟩ := by decide +kernel
theorem d9_232 : decode prog_18_method_1_code 232 = .ok (.aload_n 2, 1) := by decide +kernel
theorem d9_233 : decode prog_18_method_1_code 233 = .ok (.aload_n 0, 1) := by decide +kernel
theorem d9_234 : decode prog_18_method_1_code 234 = .ok (.getfield 57, 3) := by decide +kernel
theorem d9_237 : decode prog_18_method_1_code 237 = .ok (.aload_n 0, 1) := by decide +kernel
theorem d9_238 : decode prog_18_method_1_code 238 = .ok (.getfield 60, 3) := by decide +kernel
theorem d9_241 : decode prog_18_method_1_code 241 = .ok (.invokestatic 63, 3) := by decide +kernel
theorem d9_244 : decode prog_18_method_1_code 244 = .ok (.return_, 1) := by decide +kernel
set_option maxRecDepth 65536 in
set_option maxHeartbeats 40000000 in
theorem rEdi7 (l : Launch) (Z : State) (aa : Array Value) (hw : ∀ d ∈ tables_1, d.before aa Z = true) (a0 : Addr) (a1 : Addr) (a2 : Addr) (a3 : Addr) (a5 : Addr) (wo : Addr) (wb : Addr) (u8 : Addr) (s0 : Int32) (s1 : Int32) (s2 : Int32) (e0 : Int32) (e1 : Int32) (e2 : Int32) (r0 : Int32) (r1 : Int32) (r2 : Int32) (b0 : Int32) (b1 : Int32) (b2 : Int32) (G1 : Int32) (G3 : Value) (qh : Addr) (qe : Addr) (qi : Addr) (qf : Addr) (qj : Addr) (qg : Addr) (qk : Addr) (qa : Addr) (qb : Addr) (qc : Addr) (qd : Addr) (h0 : Heap) (n0 : Nat) {p : Program} {e : Env} {s : State} {m : MethodId} {below : List Frame} {meth : Method} {cc : Code} {T : State} {locs : List Loc} {h : Heap} {vm0 : Vm} {k0 : Nat} (zs0 : s0 = 0 ∨ s0 = 1) (zs1 : s1 = 0 ∨ s1 = 1) (zs2 : s2 = 0 ∨ s2 = 1) (ze0 : e0 = 0 ∨ e0 = 1) (ze1 : e1 = 0 ∨ e1 = 1) (ze2 : e2 = 0 ∨ e2 = 1) (ql : Exa Z h a0 "com/example/pathlattice/pathlattice/graph/Edges") (qm : Fld Z h a0 "com/example/pathlattice/pathlattice/graph/Edges" "roles" "[I" (.ref a3)) (qn : Fld Z h a0 "com/example/pathlattice/pathlattice/graph/Edges" "roleNames" "[Ljava/lang/String;" (.ref qh)) (jp : Fld Z h a0 "com/example/pathlattice/pathlattice/graph/Edges" "outOffsets" "[I" (.ref qa)) (jq : Fld Z h a0 "com/example/pathlattice/pathlattice/graph/Edges" "outgoing" "[I" (.ref qb)) (q6 : Fld Z h a0 "com/example/pathlattice/pathlattice/graph/Edges" "inOffsets" "[I" (.ref qc)) (q7 : Fld Z h a0 "com/example/pathlattice/pathlattice/graph/Edges" "incoming" "[I" (.ref qd)) (jr : Av Z h a1 .int [(.int s0), (.int s1), (.int s2)]) (q8 : Av Z h a2 .int [(.int e0), (.int e1), (.int e2)]) (qo : Av Z h qh (.object "java/lang/String") [(.ref qe), (.ref qf), (.ref qg)]) (qp : Exa Z h qe "java/lang/String") (qq : Fld Z h qe "java/lang/String" "coder" "B" (.int (0 : Int32))) (qr : Fld Z h qe "java/lang/String" "value" "[B" (.ref qi)) (qs : Av Z h qi .byte [(.int b0)]) (qt : Exa Z h qf "java/lang/String") (qu : Fld Z h qf "java/lang/String" "coder" "B" (.int (0 : Int32))) (qv : Fld Z h qf "java/lang/String" "value" "[B" (.ref qj)) (qw : Av Z h qj .byte [(.int b1), (.int b2)]) (qx : Exa Z h qg "java/lang/String") (qy : Fld Z h qg "java/lang/String" "coder" "B" (.int (0 : Int32))) (qz : Fld Z h qg "java/lang/String" "value" "[B" (.ref qk)) (q3 : Av Z h qk .byte []) (js : Av Z h qa .int [(.int (0 : Int32)), (.int (0 : Int32)), (.int (0 : Int32))]) (jt : Av Z h qb .int [(.int (0 : Int32)), (.int (0 : Int32)), (.int (0 : Int32))]) (q9 : Av Z h qc .int [(.int (0 : Int32)), (.int (0 : Int32)), (.int (0 : Int32))]) (ja : Av Z h qd .int [(.int (0 : Int32)), (.int (0 : Int32)), (.int (0 : Int32))]) (S_b189_12 : Safe Z consts_1 vm0 h qa) (S_b197_13 : Safe Z consts_1 vm0 h qb) (S_b207_14 : Safe Z consts_1 vm0 h qc) (S_b215_15 : Safe Z consts_1 vm0 h qd) (ju : h0.size ≤ qe) (jv : h0.size ≤ qf) (jw : h0.size ≤ qg) (jx : n0 ≤ qa) (jy : h0.size ≤ qa) (jz : n0 ≤ qb) (j0 : h0.size ≤ qb) (j1 : n0 ≤ qc) (j2 : h0.size ≤ qc) (j3 : n0 ≤ qd) (j4 : h0.size ≤ qd) (q4 : a0 ≠ qa) (q5 : a0 ≠ qb) (jb : a0 ≠ qc) (jc : a0 ≠ qd) (j5 : a1 ≠ qa) (j6 : a1 ≠ qb) (j7 : a2 ≠ qa) (j8 : a2 ≠ qb) (j9 : a2 ≠ qc) (wa : a2 ≠ qd) (wc : qh ≠ qa) (wd : qh ≠ qb) (we : qh ≠ qc) (wf : qh ≠ qd) (jd : qf ≠ qa) (je : qf ≠ qb) (jf : qf ≠ qc) (jg : qf ≠ qd) (wg : qj ≠ qa) (wh : qj ≠ qb) (wi : qj ≠ qc) (wj : qj ≠ qd) (jh : qg ≠ qa) (ji : qg ≠ qb) (jj : qg ≠ qc) (jk : qg ≠ qd) (wk : qk ≠ qa) (wl : qk ≠ qb) (wm : qk ≠ qc) (wn : qk ≠ qd) (jl : qe ≠ qa) (jm : qe ≠ qb) (jn : qe ≠ qc) (jo : qe ≠ qd) (wp : qi ≠ qa) (wq : qi ≠ qb) (wr : qi ≠ qc) (ws : qi ≠ qd) (wt : qa ≠ qb) (wu : qa ≠ qc) (wv : qa ≠ qd) (ww : qb ≠ qc) (wx : qb ≠ qd) (wy : qc ≠ qd)
    (X : Sx Z "com/example/pathlattice/pathlattice/graph/Edges" prog_18_method_1_code 7 p l e ({ frames := 6, cells := 30, slots := 722, locals := 103 } : Room) (s.setVm vm0) m #[(.ref a0), (.ref a1), (.ref a2), (.ref a3), (.int (2 : Int32)), (.ref a5)] below meth cc T locs 28 718 h) (hS : s.Since vm0 k0) (hk : k0 ≤ h.size) (HR : CHr Z consts_1 s.vm s.heap vm0 h) (Z0 : n0 ≤ h.size) (N : Fr n0 locs) (Kp : Keep h0 h [a0]) (hnm : meth.name = "<init>") (hret : meth.sig.returnType = none) (hlk : meth.locks = false) :
    Go p e below (EndsH Z consts_1 s (fun v h L => ∃ rn x0 q0 x1 q1 x2 q2 : Addr, v = none ∧ Fr n0 L ∧ Keep h0 h [a0] ∧ Exa Z h a0 "com/example/pathlattice/pathlattice/graph/Edges" ∧ Fld Z h a0 "com/example/pathlattice/pathlattice/graph/Edges" "roleNames" "[Ljava/lang/String;" (.ref rn) ∧ Fld Z h a0 "com/example/pathlattice/pathlattice/graph/Edges" "roles" "[I" (.ref a3) ∧ Av Z h rn (.object "java/lang/String") [(.ref x0), (.ref x1), (.ref x2)] ∧ h0.size ≤ x0 ∧ h0.size ≤ x1 ∧ h0.size ≤ x2 ∧ StrB Z h x0 q0 [(.int b0)] ∧ StrB Z h x1 q1 [(.int b1), (.int b2)] ∧ StrB Z h x2 q2 []) ({ frames := 6, cells := 30, slots := 722, locals := 103 } : Room).cells ({ frames := 6, cells := 30, slots := 722, locals := 103 } : Room).slots) (T.setTop (mkF m 220 #[.val (.ref a0), .val (.ref a1), .val (.ref a2), .val (.ref a3), .val (.int (2 : Int32)), .val (.ref a5), .val (.int (3 : Int32))] [])) := by
 refine g_aloadN X d9_220 (pc' := 221) rfl rfl rfl ?_
 refine g_aloadN X d9_221 (pc' := 222) rfl rfl rfl ?_
 refine g_getfield X (host := "") (Or.inl (tb hw 132 rfl)) Via.refl jp d9_222 (pc' := 225) rfl ?_
 intro T X
 refine g_aloadN X d9_225 (pc' := 226) rfl rfl rfl ?_
 refine g_getfield X (host := "") (Or.inl (tb hw 134 rfl)) Via.refl jq d9_226 (pc' := 229) rfl ?_
 intro T X
 refine g_static X (W := 0) [(.ref a1), (.ref qa), (.ref qb)] [] (tb hw 140 rfl) (tb hw 141 rfl) (tb hw 53 rfl) (tb hw 142 rfl) (rGrp l Z aa hw [] a1 qa qb s0 s1 s2 _ n0 Z0 zs0 zs1 zs2 jr js jt jx jz j5 j6 wt) d9_229 (pc' := 232) rfl (by decide) (by decide) (by decide) rfl rfl rfl (lenOf pd_17 rfl) (Nat.le_refl _) (by decide) (by decide) ?_
 intro v T L X q
 obtain ⟨rfl, Nq, Kq⟩ := q
 replace N := N.app Nq
 have S_b207_14' := Safe.keep Kq (ssS S_b189_12 (ssS S_b197_13 ss0)) HR.1 S_b207_14
 have S_b215_15' := Safe.keep Kq (ssS S_b189_12 (ssS S_b197_13 ss0)) HR.1 S_b215_15
 replace HR := HR.trans (CHr.keep Kq (ssS S_b189_12 (ssS S_b197_13 ss0)) HR.1)
 replace S_b207_14 := S_b207_14'
 replace S_b215_15 := S_b215_15'
 replace hk := Nat.le_trans hk Kq.1
 replace ql := ql.keep Kq
 replace qm := qm.keep Kq (ninS q4 (ninS q5 nin0))
 replace qn := qn.keep Kq (ninS q4 (ninS q5 nin0))
 replace q6 := q6.keep Kq (ninS q4 (ninS q5 nin0))
 replace q7 := q7.keep Kq (ninS q4 (ninS q5 nin0))
 replace q8 := q8.keep Kq (ninS j7 (ninS j8 nin0))
 replace qo := qo.keep Kq (ninS wc (ninS wd nin0))
 replace qp := qp.keep Kq
 replace qq := qq.keep Kq (ninS jl (ninS jm nin0))
 replace qr := qr.keep Kq (ninS jl (ninS jm nin0))
 replace qs := qs.keep Kq (ninS wp (ninS wq nin0))
 replace qt := qt.keep Kq
 replace qu := qu.keep Kq (ninS jd (ninS je nin0))
 replace qv := qv.keep Kq (ninS jd (ninS je nin0))
 replace qw := qw.keep Kq (ninS wg (ninS wh nin0))
 replace qx := qx.keep Kq
 replace qy := qy.keep Kq (ninS jh (ninS ji nin0))
 replace qz := qz.keep Kq (ninS jh (ninS ji nin0))
 replace q3 := q3.keep Kq (ninS wk (ninS wl nin0))
 replace q9 := q9.keep Kq (ninS (Ne.symm wu) (ninS (Ne.symm ww) nin0))
 replace ja := ja.keep Kq (ninS (Ne.symm wv) (ninS (Ne.symm wx) nin0))
 replace Z0 := Nat.le_trans Z0 Kq.1
 replace Kp := Kp.trans Kq (allS (Or.inr jy) (allS (Or.inr j0) all0))
 show Go p e below _ (T.setTop (mkF m 232 _ []))
 refine g_aloadN X d9_232 (pc' := 233) rfl rfl rfl ?_
 refine g_aloadN X d9_233 (pc' := 234) rfl rfl rfl ?_
 refine g_getfield X (host := "") (Or.inl (tb hw 136 rfl)) Via.refl q6 d9_234 (pc' := 237) rfl ?_
 intro T X
 refine g_aloadN X d9_237 (pc' := 238) rfl rfl rfl ?_
 refine g_getfield X (host := "") (Or.inl (tb hw 138 rfl)) Via.refl q7 d9_238 (pc' := 241) rfl ?_
 intro T X
 refine g_static X (W := 0) [(.ref a2), (.ref qc), (.ref qd)] [] (tb hw 140 rfl) (tb hw 141 rfl) (tb hw 53 rfl) (tb hw 142 rfl) (rGrp l Z aa hw [] a2 qc qd e0 e1 e2 _ n0 Z0 ze0 ze1 ze2 q8 q9 ja j1 j3 j9 wa wy) d9_241 (pc' := 244) rfl (by decide) (by decide) (by decide) rfl rfl rfl (lenOf pd_17 rfl) (Nat.le_refl _) (by decide) (by decide) ?_
 intro v T L X q
 obtain ⟨rfl, Nq, Kq⟩ := q
 replace N := N.app Nq
 replace HR := HR.trans (CHr.keep Kq (ssS S_b207_14 (ssS S_b215_15 ss0)) HR.1)
 replace hk := Nat.le_trans hk Kq.1
 replace ql := ql.keep Kq
 replace qm := qm.keep Kq (ninS jb (ninS jc nin0))
 replace qn := qn.keep Kq (ninS jb (ninS jc nin0))
 replace qo := qo.keep Kq (ninS we (ninS wf nin0))
 replace qp := qp.keep Kq
 replace qq := qq.keep Kq (ninS jn (ninS jo nin0))
 replace qr := qr.keep Kq (ninS jn (ninS jo nin0))
 replace qs := qs.keep Kq (ninS wr (ninS ws nin0))
 replace qt := qt.keep Kq
 replace qu := qu.keep Kq (ninS jf (ninS jg nin0))
 replace qv := qv.keep Kq (ninS jf (ninS jg nin0))
 replace qw := qw.keep Kq (ninS wi (ninS wj nin0))
 replace qx := qx.keep Kq
 replace qy := qy.keep Kq (ninS jj (ninS jk nin0))
 replace qz := qz.keep Kq (ninS jj (ninS jk nin0))
 replace q3 := q3.keep Kq (ninS wm (ninS wn nin0))
 replace Z0 := Nat.le_trans Z0 Kq.1
 replace Kp := Kp.trans Kq (allS (Or.inr j2) (allS (Or.inr j4) all0))
 show Go p e below _ (T.setTop (mkF m 244 _ []))
 refine g_returnH X hS hk (elw hw) HR d9_244 hret hlk (by decide) (by decide) ?_
 exact ⟨qh, qe, qi, qf, qj, qg, qk, rfl, N, Kp, ql, qn, qm, qo, ju, jv, jw, ⟨qp, qq, qr, qs⟩, ⟨qt, qu, qv, qw⟩, ⟨qx, qy, qz, q3⟩⟩
set_option maxRecDepth 65536 in
set_option maxHeartbeats 40000000 in
theorem rEdi6 (l : Launch) (Z : State) (aa : Array Value) (hw : ∀ d ∈ tables_1, d.before aa Z = true) (a0 : Addr) (a1 : Addr) (a2 : Addr) (a3 : Addr) (a5 : Addr) (wo : Addr) (wb : Addr) (u8 : Addr) (s0 : Int32) (s1 : Int32) (s2 : Int32) (e0 : Int32) (e1 : Int32) (e2 : Int32) (r0 : Int32) (r1 : Int32) (r2 : Int32) (b0 : Int32) (b1 : Int32) (b2 : Int32) (G1 : Int32) (G3 : Value) (je : Addr) (ja : Addr) (jf : Addr) (jb : Addr) (jg : Addr) (jc : Addr) (jh : Addr) (h0 : Heap) (n0 : Nat) {p : Program} {e : Env} {s : State} {m : MethodId} {below : List Frame} {meth : Method} {cc : Code} {T : State} {locs : List Loc} {h : Heap} {vm0 : Vm} {k0 : Nat} (zs0 : s0 = 0 ∨ s0 = 1) (zs1 : s1 = 0 ∨ s1 = 1) (zs2 : s2 = 0 ∨ s2 = 1) (ze0 : e0 = 0 ∨ e0 = 1) (ze1 : e1 = 0 ∨ e1 = 1) (ze2 : e2 = 0 ∨ e2 = 1) (qa : Exa Z h a0 "com/example/pathlattice/pathlattice/graph/Edges") (qn : Fld Z h a0 "com/example/pathlattice/pathlattice/graph/Edges" "roles" "[I" (.ref a3)) (qo : Fld Z h a0 "com/example/pathlattice/pathlattice/graph/Edges" "roleNames" "[Ljava/lang/String;" (.ref je)) (qj : Fld Z h a0 "com/example/pathlattice/pathlattice/graph/Edges" "outOffsets" "[I" .null) (qk : Fld Z h a0 "com/example/pathlattice/pathlattice/graph/Edges" "outgoing" "[I" .null) (ql : Fld Z h a0 "com/example/pathlattice/pathlattice/graph/Edges" "inOffsets" "[I" .null) (qm : Fld Z h a0 "com/example/pathlattice/pathlattice/graph/Edges" "incoming" "[I" .null) (qi : Av Z h a1 .int [(.int s0), (.int s1), (.int s2)]) (qb : Av Z h a2 .int [(.int e0), (.int e1), (.int e2)]) (qw : Exa Z h je "[Ljava/lang/String;") (qp : Av Z h je (.object "java/lang/String") [(.ref ja), (.ref jb), (.ref jc)]) (qc : Exa Z h ja "java/lang/String") (qq : Fld Z h ja "java/lang/String" "coder" "B" (.int (0 : Int32))) (qr : Fld Z h ja "java/lang/String" "value" "[B" (.ref jf)) (qd : Av Z h jf .byte [(.int b0)]) (qe : Exa Z h jb "java/lang/String") (qs : Fld Z h jb "java/lang/String" "coder" "B" (.int (0 : Int32))) (qt : Fld Z h jb "java/lang/String" "value" "[B" (.ref jg)) (qf : Av Z h jg .byte [(.int b1), (.int b2)]) (qg : Exa Z h jc "java/lang/String") (qu : Fld Z h jc "java/lang/String" "coder" "B" (.int (0 : Int32))) (qv : Fld Z h jc "java/lang/String" "value" "[B" (.ref jh)) (qh : Av Z h jh .byte []) (jo : n0 ≤ a0) (j0 : h0.size ≤ ja) (j1 : h0.size ≤ jb) (j2 : h0.size ≤ jc) (jp : a0 ≠ je) (ji : a0 ≠ jb) (jj : a0 ≠ jc) (jk : a0 ≠ ja) (jq : a1 ≠ a0) (jr : a2 ≠ a0) (js : jg ≠ a0) (jt : jh ≠ a0) (ju : jf ≠ a0)
    (X : Sx Z "com/example/pathlattice/pathlattice/graph/Edges" prog_18_method_1_code 7 p l e ({ frames := 6, cells := 30, slots := 722, locals := 103 } : Room) (s.setVm vm0) m #[(.ref a0), (.ref a1), (.ref a2), (.ref a3), (.int (2 : Int32)), (.ref a5)] below meth cc T locs 24 706 h) (hS : s.Since vm0 k0) (hk : k0 ≤ h.size) (HR : CHr Z consts_1 s.vm s.heap vm0 h) (Z0 : n0 ≤ h.size) (N : Fr n0 locs) (Kp : Keep h0 h [a0]) (hnm : meth.name = "<init>") (hret : meth.sig.returnType = none) (hlk : meth.locks = false) :
    Go p e below (EndsH Z consts_1 s (fun v h L => ∃ rn x0 q0 x1 q1 x2 q2 : Addr, v = none ∧ Fr n0 L ∧ Keep h0 h [a0] ∧ Exa Z h a0 "com/example/pathlattice/pathlattice/graph/Edges" ∧ Fld Z h a0 "com/example/pathlattice/pathlattice/graph/Edges" "roleNames" "[Ljava/lang/String;" (.ref rn) ∧ Fld Z h a0 "com/example/pathlattice/pathlattice/graph/Edges" "roles" "[I" (.ref a3) ∧ Av Z h rn (.object "java/lang/String") [(.ref x0), (.ref x1), (.ref x2)] ∧ h0.size ≤ x0 ∧ h0.size ≤ x1 ∧ h0.size ≤ x2 ∧ StrB Z h x0 q0 [(.int b0)] ∧ StrB Z h x1 q1 [(.int b1), (.int b2)] ∧ StrB Z h x2 q2 []) ({ frames := 6, cells := 30, slots := 722, locals := 103 } : Room).cells ({ frames := 6, cells := 30, slots := 722, locals := 103 } : Room).slots) (T.setTop (mkF m 184 #[.val (.ref a0), .val (.ref a1), .val (.ref a2), .val (.ref a3), .val (.int (2 : Int32)), .val (.ref a5), .val (.int (3 : Int32))] [])) := by
 refine g_aloadN X d9_184 (pc' := 185) rfl rfl rfl ?_
 refine g_iload X d9_185 (pc' := 187) rfl rfl ?_
 refine g_iconst X (1 : Int32) d9_187 (pc' := 188) rfl rfl ?_
 refine g_iadd X d9_188 (pc' := 189) rfl ?_
 refine Go.lit32 (z := (3 : Int32)) (by decide) ?_
 refine g_newarray X 3 (tb hw 1 rfl) d9_189 (pc' := 191) rfl (by decide) (by decide) 3 (by decide) (by decide) (by decide) (by decide) (vs := [(.int (0 : Int32)), (.int (0 : Int32)), (.int (0 : Int32))]) rfl (ad := "[I") (by decide) ?_
 intro T h qx q8 X Ex q9 qz
 have jn : a0 ≠ qx := Nat.ne_of_lt (by rw [q8]; exact qa.lt)
 have j3 : a1 ≠ qx := Nat.ne_of_lt (by rw [q8]; exact qi.lt)
 have j4 : a2 ≠ qx := Nat.ne_of_lt (by rw [q8]; exact qb.lt)
 have j5 : je ≠ qx := Nat.ne_of_lt (by rw [q8]; exact qw.lt)
 have j6 : ja ≠ qx := Nat.ne_of_lt (by rw [q8]; exact qc.lt)
 have j7 : jf ≠ qx := Nat.ne_of_lt (by rw [q8]; exact qd.lt)
 have j8 : jb ≠ qx := Nat.ne_of_lt (by rw [q8]; exact qe.lt)
 have j9 : jg ≠ qx := Nat.ne_of_lt (by rw [q8]; exact qf.lt)
 have wa : jc ≠ qx := Nat.ne_of_lt (by rw [q8]; exact qg.lt)
 have wc : jh ≠ qx := Nat.ne_of_lt (by rw [q8]; exact qh.lt)
 have wd : n0 ≤ qx := by rw [q8]; exact Z0
 have we : h0.size ≤ qx := by rw [q8]; exact Kp.1
 replace qa := qa.ext Ex
 replace qn := qn.ext Ex
 replace qo := qo.ext Ex
 replace qj := qj.ext Ex
 replace qk := qk.ext Ex
 replace ql := ql.ext Ex
 replace qm := qm.ext Ex
 replace qi := qi.ext Ex
 replace qb := qb.ext Ex
 replace qw := qw.ext Ex
 replace qp := qp.ext Ex
 replace qc := qc.ext Ex
 replace qq := qq.ext Ex
 replace qr := qr.ext Ex
 replace qd := qd.ext Ex
 replace qe := qe.ext Ex
 replace qs := qs.ext Ex
 replace qt := qt.ext Ex
 replace qf := qf.ext Ex
 replace qg := qg.ext Ex
 replace qu := qu.ext Ex
 replace qv := qv.ext Ex
 replace qh := qh.ext Ex
 replace Z0 := Nat.le_trans Z0 Ex.1
 replace Kp := Kp.ext Ex
 have S_b189_12 := Safe.ext Ex HR.1 (Safe.new (Nat.le_of_eq q8.symm))
 replace HR := HR.trans (CHr.ext Ex HR.1)
 replace hk := Nat.le_trans hk Ex.1
 refine g_putfield X (host := "") (Or.inl (tb hw 132 rfl)) Via.refl qj qa (Or.inr ⟨(tb hw 133 rfl), rfl, hnm⟩) (tb hw 52 rfl) (ty := (.array .int)) (by decide) rfl rfl d9_191 (pc' := 194) rfl ?_
 intro T h X W
 replace S_b189_12 := Safe.wr W (Safe.exa (State.Warmed39.alike X.2.2.2.2.2.1) qa (by decide) (by decide)) HR.1 S_b189_12
 have HR' := HR.trans (CHr.wr W (Safe.exa (State.Warmed39.alike X.2.2.2.2.2.1) qa (by decide) (by decide)) HR.1)
 replace HR := HR'
 replace hk := Nat.le_trans hk (Nat.le_of_eq W.size.symm)
 replace qa := qa.wr W
 replace qn := qn.other W (Or.inr (slot_ne (Or.inr (tb hw 74 rfl)) (Or.inr (tb hw 133 rfl)) (by decide) (t := (.array .int)) (t' := (.array .int)) (by decide) (by decide)))
 replace qo := qo.other W (Or.inr (slot_ne (Or.inr (tb hw 78 rfl)) (Or.inr (tb hw 133 rfl)) (by decide) (t := (.array (.object "java/lang/String"))) (t' := (.array .int)) (by decide) (by decide)))
 replace qj := qj.same W
 replace qk := qk.other W (Or.inr (slot_ne (Or.inr (tb hw 135 rfl)) (Or.inr (tb hw 133 rfl)) (by decide) (t := (.array .int)) (t' := (.array .int)) (by decide) (by decide)))
 replace ql := ql.other W (Or.inr (slot_ne (Or.inr (tb hw 137 rfl)) (Or.inr (tb hw 133 rfl)) (by decide) (t := (.array .int)) (t' := (.array .int)) (by decide) (by decide)))
 replace qm := qm.other W (Or.inr (slot_ne (Or.inr (tb hw 139 rfl)) (Or.inr (tb hw 133 rfl)) (by decide) (t := (.array .int)) (t' := (.array .int)) (by decide) (by decide)))
 replace qi := qi.other W jq
 replace qb := qb.other W jr
 replace qw := qw.wr W
 replace qp := qp.other W (Ne.symm jp)
 replace qc := qc.wr W
 replace qq := qq.other W (Or.inl (Ne.symm jk))
 replace qr := qr.other W (Or.inl (Ne.symm jk))
 replace qd := qd.other W ju
 replace qe := qe.wr W
 replace qs := qs.other W (Or.inl (Ne.symm ji))
 replace qt := qt.other W (Or.inl (Ne.symm ji))
 replace qf := qf.other W js
 replace qg := qg.wr W
 replace qu := qu.other W (Or.inl (Ne.symm jj))
 replace qv := qv.other W (Or.inl (Ne.symm jj))
 replace qh := qh.other W jt
 replace q9 := q9.wr W
 replace qz := qz.other W (Ne.symm jn)
 replace Z0 := Nat.le_trans Z0 (Nat.le_of_eq W.size.symm)
 replace N := Fr.snoc X.1 N jo
 replace Kp := Kp.wr W (Or.inl (List.mem_of_getElem? (i := 0) rfl))
 refine g_aloadN X d9_194 (pc' := 195) rfl rfl rfl ?_
 refine g_aloadN X d9_195 (pc' := 196) rfl rfl rfl ?_
 refine g_arraylength X qi d9_196 (pc' := 197) rfl (z := (3 : Int32)) rfl ?_
 refine g_newarray X 3 (tb hw 1 rfl) d9_197 (pc' := 199) rfl (by decide) (by decide) 3 (by decide) (by decide) (by decide) (by decide) (vs := [(.int (0 : Int32)), (.int (0 : Int32)), (.int (0 : Int32))]) rfl (ad := "[I") (by decide) ?_
 intro T h qy q6 X Ex jl jd
 have jv : a0 ≠ qy := Nat.ne_of_lt (by rw [q6]; exact qa.lt)
 have wf : a1 ≠ qy := Nat.ne_of_lt (by rw [q6]; exact qi.lt)
 have wg : a2 ≠ qy := Nat.ne_of_lt (by rw [q6]; exact qb.lt)
 have wh : je ≠ qy := Nat.ne_of_lt (by rw [q6]; exact qw.lt)
 have wi : ja ≠ qy := Nat.ne_of_lt (by rw [q6]; exact qc.lt)
 have wj : jf ≠ qy := Nat.ne_of_lt (by rw [q6]; exact qd.lt)
 have wk : jb ≠ qy := Nat.ne_of_lt (by rw [q6]; exact qe.lt)
 have wl : jg ≠ qy := Nat.ne_of_lt (by rw [q6]; exact qf.lt)
 have wm : jc ≠ qy := Nat.ne_of_lt (by rw [q6]; exact qg.lt)
 have wn : jh ≠ qy := Nat.ne_of_lt (by rw [q6]; exact qh.lt)
 have wp : qx ≠ qy := Nat.ne_of_lt (by rw [q6]; exact q9.lt)
 have wq : n0 ≤ qy := by rw [q6]; exact Z0
 have ws : h0.size ≤ qy := by rw [q6]; exact Kp.1
 replace qa := qa.ext Ex
 replace qn := qn.ext Ex
 replace qo := qo.ext Ex
 replace qj := qj.ext Ex
 replace qk := qk.ext Ex
 replace ql := ql.ext Ex
 replace qm := qm.ext Ex
 replace qi := qi.ext Ex
 replace qb := qb.ext Ex
 replace qw := qw.ext Ex
 replace qp := qp.ext Ex
 replace qc := qc.ext Ex
 replace qq := qq.ext Ex
 replace qr := qr.ext Ex
 replace qd := qd.ext Ex
 replace qe := qe.ext Ex
 replace qs := qs.ext Ex
 replace qt := qt.ext Ex
 replace qf := qf.ext Ex
 replace qg := qg.ext Ex
 replace qu := qu.ext Ex
 replace qv := qv.ext Ex
 replace qh := qh.ext Ex
 replace q9 := q9.ext Ex
 replace qz := qz.ext Ex
 replace Z0 := Nat.le_trans Z0 Ex.1
 replace Kp := Kp.ext Ex
 replace S_b189_12 := Safe.ext Ex HR.1 S_b189_12
 have S_b197_13 := Safe.ext Ex HR.1 (Safe.new (Nat.le_of_eq q6.symm))
 replace HR := HR.trans (CHr.ext Ex HR.1)
 replace hk := Nat.le_trans hk Ex.1
 refine g_putfield X (host := "") (Or.inl (tb hw 134 rfl)) Via.refl qk qa (Or.inr ⟨(tb hw 135 rfl), rfl, hnm⟩) (tb hw 52 rfl) (ty := (.array .int)) (by decide) rfl rfl d9_199 (pc' := 202) rfl ?_
 intro T h X W
 replace S_b189_12 := Safe.wr W (Safe.exa (State.Warmed39.alike X.2.2.2.2.2.1) qa (by decide) (by decide)) HR.1 S_b189_12
 replace S_b197_13 := Safe.wr W (Safe.exa (State.Warmed39.alike X.2.2.2.2.2.1) qa (by decide) (by decide)) HR.1 S_b197_13
 have HR' := HR.trans (CHr.wr W (Safe.exa (State.Warmed39.alike X.2.2.2.2.2.1) qa (by decide) (by decide)) HR.1)
 replace HR := HR'
 replace hk := Nat.le_trans hk (Nat.le_of_eq W.size.symm)
 replace qa := qa.wr W
 replace qn := qn.other W (Or.inr (slot_ne (Or.inr (tb hw 74 rfl)) (Or.inr (tb hw 135 rfl)) (by decide) (t := (.array .int)) (t' := (.array .int)) (by decide) (by decide)))
 replace qo := qo.other W (Or.inr (slot_ne (Or.inr (tb hw 78 rfl)) (Or.inr (tb hw 135 rfl)) (by decide) (t := (.array (.object "java/lang/String"))) (t' := (.array .int)) (by decide) (by decide)))
 replace qj := qj.other W (Or.inr (slot_ne (Or.inr (tb hw 133 rfl)) (Or.inr (tb hw 135 rfl)) (by decide) (t := (.array .int)) (t' := (.array .int)) (by decide) (by decide)))
 replace qk := qk.same W
 replace ql := ql.other W (Or.inr (slot_ne (Or.inr (tb hw 137 rfl)) (Or.inr (tb hw 135 rfl)) (by decide) (t := (.array .int)) (t' := (.array .int)) (by decide) (by decide)))
 replace qm := qm.other W (Or.inr (slot_ne (Or.inr (tb hw 139 rfl)) (Or.inr (tb hw 135 rfl)) (by decide) (t := (.array .int)) (t' := (.array .int)) (by decide) (by decide)))
 replace qi := qi.other W jq
 replace qb := qb.other W jr
 replace qw := qw.wr W
 replace qp := qp.other W (Ne.symm jp)
 replace qc := qc.wr W
 replace qq := qq.other W (Or.inl (Ne.symm jk))
 replace qr := qr.other W (Or.inl (Ne.symm jk))
 replace qd := qd.other W ju
 replace qe := qe.wr W
 replace qs := qs.other W (Or.inl (Ne.symm ji))
 replace qt := qt.other W (Or.inl (Ne.symm ji))
 replace qf := qf.other W js
 replace qg := qg.wr W
 replace qu := qu.other W (Or.inl (Ne.symm jj))
 replace qv := qv.other W (Or.inl (Ne.symm jj))
 replace qh := qh.other W jt
 replace q9 := q9.wr W
 replace qz := qz.other W (Ne.symm jn)
 replace jl := jl.wr W
 replace jd := jd.other W (Ne.symm jv)
 replace Z0 := Nat.le_trans Z0 (Nat.le_of_eq W.size.symm)
 replace N := Fr.snoc X.1 N jo
 replace Kp := Kp.wr W (Or.inl (List.mem_of_getElem? (i := 0) rfl))
 refine g_aloadN X d9_202 (pc' := 203) rfl rfl rfl ?_
 refine g_iload X d9_203 (pc' := 205) rfl rfl ?_
 refine g_iconst X (1 : Int32) d9_205 (pc' := 206) rfl rfl ?_
 refine g_iadd X d9_206 (pc' := 207) rfl ?_
 refine Go.lit32 (z := (3 : Int32)) (by decide) ?_
 refine g_newarray X 3 (tb hw 1 rfl) d9_207 (pc' := 209) rfl (by decide) (by decide) 3 (by decide) (by decide) (by decide) (by decide) (vs := [(.int (0 : Int32)), (.int (0 : Int32)), (.int (0 : Int32))]) rfl (ad := "[I") (by decide) ?_
 intro T h q3 q7 X Ex jw jm
 have jx : a0 ≠ q3 := Nat.ne_of_lt (by rw [q7]; exact qa.lt)
 have wt : a2 ≠ q3 := Nat.ne_of_lt (by rw [q7]; exact qb.lt)
 have wu : je ≠ q3 := Nat.ne_of_lt (by rw [q7]; exact qw.lt)
 have wv : ja ≠ q3 := Nat.ne_of_lt (by rw [q7]; exact qc.lt)
 have ww : jf ≠ q3 := Nat.ne_of_lt (by rw [q7]; exact qd.lt)
 have wx : jb ≠ q3 := Nat.ne_of_lt (by rw [q7]; exact qe.lt)
 have wy : jg ≠ q3 := Nat.ne_of_lt (by rw [q7]; exact qf.lt)
 have wz : jc ≠ q3 := Nat.ne_of_lt (by rw [q7]; exact qg.lt)
 have w0 : jh ≠ q3 := Nat.ne_of_lt (by rw [q7]; exact qh.lt)
 have w1 : qx ≠ q3 := Nat.ne_of_lt (by rw [q7]; exact q9.lt)
 have w2 : qy ≠ q3 := Nat.ne_of_lt (by rw [q7]; exact jl.lt)
 have w3 : n0 ≤ q3 := by rw [q7]; exact Z0
 have w4 : h0.size ≤ q3 := by rw [q7]; exact Kp.1
 replace qa := qa.ext Ex
 replace qn := qn.ext Ex
 replace qo := qo.ext Ex
 replace qj := qj.ext Ex
 replace qk := qk.ext Ex
 replace ql := ql.ext Ex
 replace qm := qm.ext Ex
 replace qi := qi.ext Ex
 replace qb := qb.ext Ex
 replace qw := qw.ext Ex
 replace qp := qp.ext Ex
 replace qc := qc.ext Ex
 replace qq := qq.ext Ex
 replace qr := qr.ext Ex
 replace qd := qd.ext Ex
 replace qe := qe.ext Ex
 replace qs := qs.ext Ex
 replace qt := qt.ext Ex
 replace qf := qf.ext Ex
 replace qg := qg.ext Ex
 replace qu := qu.ext Ex
 replace qv := qv.ext Ex
 replace qh := qh.ext Ex
 replace q9 := q9.ext Ex
 replace qz := qz.ext Ex
 replace jl := jl.ext Ex
 replace jd := jd.ext Ex
 replace Z0 := Nat.le_trans Z0 Ex.1
 replace Kp := Kp.ext Ex
 replace S_b189_12 := Safe.ext Ex HR.1 S_b189_12
 replace S_b197_13 := Safe.ext Ex HR.1 S_b197_13
 have S_b207_14 := Safe.ext Ex HR.1 (Safe.new (Nat.le_of_eq q7.symm))
 replace HR := HR.trans (CHr.ext Ex HR.1)
 replace hk := Nat.le_trans hk Ex.1
 refine g_putfield X (host := "") (Or.inl (tb hw 136 rfl)) Via.refl ql qa (Or.inr ⟨(tb hw 137 rfl), rfl, hnm⟩) (tb hw 52 rfl) (ty := (.array .int)) (by decide) rfl rfl d9_209 (pc' := 212) rfl ?_
 intro T h X W
 replace S_b189_12 := Safe.wr W (Safe.exa (State.Warmed39.alike X.2.2.2.2.2.1) qa (by decide) (by decide)) HR.1 S_b189_12
 replace S_b197_13 := Safe.wr W (Safe.exa (State.Warmed39.alike X.2.2.2.2.2.1) qa (by decide) (by decide)) HR.1 S_b197_13
 replace S_b207_14 := Safe.wr W (Safe.exa (State.Warmed39.alike X.2.2.2.2.2.1) qa (by decide) (by decide)) HR.1 S_b207_14
 have HR' := HR.trans (CHr.wr W (Safe.exa (State.Warmed39.alike X.2.2.2.2.2.1) qa (by decide) (by decide)) HR.1)
 replace HR := HR'
 replace hk := Nat.le_trans hk (Nat.le_of_eq W.size.symm)
 replace qa := qa.wr W
 replace qn := qn.other W (Or.inr (slot_ne (Or.inr (tb hw 74 rfl)) (Or.inr (tb hw 137 rfl)) (by decide) (t := (.array .int)) (t' := (.array .int)) (by decide) (by decide)))
 replace qo := qo.other W (Or.inr (slot_ne (Or.inr (tb hw 78 rfl)) (Or.inr (tb hw 137 rfl)) (by decide) (t := (.array (.object "java/lang/String"))) (t' := (.array .int)) (by decide) (by decide)))
 replace qj := qj.other W (Or.inr (slot_ne (Or.inr (tb hw 133 rfl)) (Or.inr (tb hw 137 rfl)) (by decide) (t := (.array .int)) (t' := (.array .int)) (by decide) (by decide)))
 replace qk := qk.other W (Or.inr (slot_ne (Or.inr (tb hw 135 rfl)) (Or.inr (tb hw 137 rfl)) (by decide) (t := (.array .int)) (t' := (.array .int)) (by decide) (by decide)))
 replace ql := ql.same W
 replace qm := qm.other W (Or.inr (slot_ne (Or.inr (tb hw 139 rfl)) (Or.inr (tb hw 137 rfl)) (by decide) (t := (.array .int)) (t' := (.array .int)) (by decide) (by decide)))
 replace qi := qi.other W jq
 replace qb := qb.other W jr
 replace qw := qw.wr W
 replace qp := qp.other W (Ne.symm jp)
 replace qc := qc.wr W
 replace qq := qq.other W (Or.inl (Ne.symm jk))
 replace qr := qr.other W (Or.inl (Ne.symm jk))
 replace qd := qd.other W ju
 replace qe := qe.wr W
 replace qs := qs.other W (Or.inl (Ne.symm ji))
 replace qt := qt.other W (Or.inl (Ne.symm ji))
 replace qf := qf.other W js
 replace qg := qg.wr W
 replace qu := qu.other W (Or.inl (Ne.symm jj))
 replace qv := qv.other W (Or.inl (Ne.symm jj))
 replace qh := qh.other W jt
 replace q9 := q9.wr W
 replace qz := qz.other W (Ne.symm jn)
 replace jl := jl.wr W
 replace jd := jd.other W (Ne.symm jv)
 replace jw := jw.wr W
 replace jm := jm.other W (Ne.symm jx)
 replace Z0 := Nat.le_trans Z0 (Nat.le_of_eq W.size.symm)
 replace N := Fr.snoc X.1 N jo
 replace Kp := Kp.wr W (Or.inl (List.mem_of_getElem? (i := 0) rfl))
 refine g_aloadN X d9_212 (pc' := 213) rfl rfl rfl ?_
 refine g_aloadN X d9_213 (pc' := 214) rfl rfl rfl ?_
 refine g_arraylength X qb d9_214 (pc' := 215) rfl (z := (3 : Int32)) rfl ?_
 refine g_newarray X 3 (tb hw 1 rfl) d9_215 (pc' := 217) rfl (by decide) (by decide) 3 (by decide) (by decide) (by decide) (by decide) (vs := [(.int (0 : Int32)), (.int (0 : Int32)), (.int (0 : Int32))]) rfl (ad := "[I") (by decide) ?_
 intro T h q4 q5 X Ex yi jy
 have jz : a0 ≠ q4 := Nat.ne_of_lt (by rw [q5]; exact qa.lt)
 have w5 : a2 ≠ q4 := Nat.ne_of_lt (by rw [q5]; exact qb.lt)
 have w6 : je ≠ q4 := Nat.ne_of_lt (by rw [q5]; exact qw.lt)
 have w7 : ja ≠ q4 := Nat.ne_of_lt (by rw [q5]; exact qc.lt)
 have w8 : jf ≠ q4 := Nat.ne_of_lt (by rw [q5]; exact qd.lt)
 have w9 : jb ≠ q4 := Nat.ne_of_lt (by rw [q5]; exact qe.lt)
 have ya : jg ≠ q4 := Nat.ne_of_lt (by rw [q5]; exact qf.lt)
 have yb : jc ≠ q4 := Nat.ne_of_lt (by rw [q5]; exact qg.lt)
 have yc : jh ≠ q4 := Nat.ne_of_lt (by rw [q5]; exact qh.lt)
 have yd : qx ≠ q4 := Nat.ne_of_lt (by rw [q5]; exact q9.lt)
 have ye : qy ≠ q4 := Nat.ne_of_lt (by rw [q5]; exact jl.lt)
 have yf : q3 ≠ q4 := Nat.ne_of_lt (by rw [q5]; exact jw.lt)
 have yg : n0 ≤ q4 := by rw [q5]; exact Z0
 have yh : h0.size ≤ q4 := by rw [q5]; exact Kp.1
 replace qa := qa.ext Ex
 replace qn := qn.ext Ex
 replace qo := qo.ext Ex
 replace qj := qj.ext Ex
 replace qk := qk.ext Ex
 replace ql := ql.ext Ex
 replace qm := qm.ext Ex
 replace qi := qi.ext Ex
 replace qb := qb.ext Ex
 replace qp := qp.ext Ex
 replace qc := qc.ext Ex
 replace qq := qq.ext Ex
 replace qr := qr.ext Ex
 replace qd := qd.ext Ex
 replace qe := qe.ext Ex
 replace qs := qs.ext Ex
 replace qt := qt.ext Ex
 replace qf := qf.ext Ex
 replace qg := qg.ext Ex
 replace qu := qu.ext Ex
 replace qv := qv.ext Ex
 replace qh := qh.ext Ex
 replace qz := qz.ext Ex
 replace jd := jd.ext Ex
 replace jm := jm.ext Ex
 replace Z0 := Nat.le_trans Z0 Ex.1
 replace Kp := Kp.ext Ex
 replace S_b189_12 := Safe.ext Ex HR.1 S_b189_12
 replace S_b197_13 := Safe.ext Ex HR.1 S_b197_13
 replace S_b207_14 := Safe.ext Ex HR.1 S_b207_14
 have S_b215_15 := Safe.ext Ex HR.1 (Safe.new (Nat.le_of_eq q5.symm))
 replace HR := HR.trans (CHr.ext Ex HR.1)
 replace hk := Nat.le_trans hk Ex.1
 refine g_putfield X (host := "") (Or.inl (tb hw 138 rfl)) Via.refl qm qa (Or.inr ⟨(tb hw 139 rfl), rfl, hnm⟩) (tb hw 52 rfl) (ty := (.array .int)) (by decide) rfl rfl d9_217 (pc' := 220) rfl ?_
 intro T h X W
 replace S_b189_12 := Safe.wr W (Safe.exa (State.Warmed39.alike X.2.2.2.2.2.1) qa (by decide) (by decide)) HR.1 S_b189_12
 replace S_b197_13 := Safe.wr W (Safe.exa (State.Warmed39.alike X.2.2.2.2.2.1) qa (by decide) (by decide)) HR.1 S_b197_13
 replace S_b207_14 := Safe.wr W (Safe.exa (State.Warmed39.alike X.2.2.2.2.2.1) qa (by decide) (by decide)) HR.1 S_b207_14
 replace S_b215_15 := Safe.wr W (Safe.exa (State.Warmed39.alike X.2.2.2.2.2.1) qa (by decide) (by decide)) HR.1 S_b215_15
 have HR' := HR.trans (CHr.wr W (Safe.exa (State.Warmed39.alike X.2.2.2.2.2.1) qa (by decide) (by decide)) HR.1)
 replace HR := HR'
 replace hk := Nat.le_trans hk (Nat.le_of_eq W.size.symm)
 replace qa := qa.wr W
 replace qn := qn.other W (Or.inr (slot_ne (Or.inr (tb hw 74 rfl)) (Or.inr (tb hw 139 rfl)) (by decide) (t := (.array .int)) (t' := (.array .int)) (by decide) (by decide)))
 replace qo := qo.other W (Or.inr (slot_ne (Or.inr (tb hw 78 rfl)) (Or.inr (tb hw 139 rfl)) (by decide) (t := (.array (.object "java/lang/String"))) (t' := (.array .int)) (by decide) (by decide)))
 replace qj := qj.other W (Or.inr (slot_ne (Or.inr (tb hw 133 rfl)) (Or.inr (tb hw 139 rfl)) (by decide) (t := (.array .int)) (t' := (.array .int)) (by decide) (by decide)))
 replace qk := qk.other W (Or.inr (slot_ne (Or.inr (tb hw 135 rfl)) (Or.inr (tb hw 139 rfl)) (by decide) (t := (.array .int)) (t' := (.array .int)) (by decide) (by decide)))
 replace ql := ql.other W (Or.inr (slot_ne (Or.inr (tb hw 137 rfl)) (Or.inr (tb hw 139 rfl)) (by decide) (t := (.array .int)) (t' := (.array .int)) (by decide) (by decide)))
 replace qm := qm.same W
 replace qi := qi.other W jq
 replace qb := qb.other W jr
 replace qp := qp.other W (Ne.symm jp)
 replace qc := qc.wr W
 replace qq := qq.other W (Or.inl (Ne.symm jk))
 replace qr := qr.other W (Or.inl (Ne.symm jk))
 replace qd := qd.other W ju
 replace qe := qe.wr W
 replace qs := qs.other W (Or.inl (Ne.symm ji))
 replace qt := qt.other W (Or.inl (Ne.symm ji))
 replace qf := qf.other W js
 replace qg := qg.wr W
 replace qu := qu.other W (Or.inl (Ne.symm jj))
 replace qv := qv.other W (Or.inl (Ne.symm jj))
 replace qh := qh.other W jt
 replace qz := qz.other W (Ne.symm jn)
 replace jd := jd.other W (Ne.symm jv)
 replace jm := jm.other W (Ne.symm jx)
 replace jy := jy.other W (Ne.symm jz)
 replace Z0 := Nat.le_trans Z0 (Nat.le_of_eq W.size.symm)
 replace N := Fr.snoc X.1 N jo
 replace Kp := Kp.wr W (Or.inl (List.mem_of_getElem? (i := 0) rfl))
 exact rEdi7 l Z aa hw a0 a1 a2 a3 a5 wo wb u8 s0 s1 s2 e0 e1 e2 r0 r1 r2 b0 b1 b2 G1 G3 je ja jf jb jg jc jh qx qy q3 q4 h0 n0 zs0 zs1 zs2 ze0 ze1 ze2 qa qn qo qj qk ql qm qi qb qp qc qq qr qd qe qs qt qf qg qu qv qh qz jd jm jy S_b189_12 S_b197_13 S_b207_14 S_b215_15 j0 j1 j2 wd we wq ws w3 w4 yg yh jn jv jx jz j3 wf j4 wg wt w5 j5 wh wu w6 j8 wk wx w9 j9 wl wy ya wa wm wz yb wc wn w0 yc j6 wi wv w7 j7 wj ww w8 wp w1 yd w2 ye yf X hS hk HR Z0 N Kp hnm hret hlk
set_option maxRecDepth 65536 in
set_option maxHeartbeats 40000000 in
theorem rEdi5 (l : Launch) (Z : State) (aa : Array Value) (hw : ∀ d ∈ tables_1, d.before aa Z = true) (a0 : Addr) (a1 : Addr) (a2 : Addr) (a3 : Addr) (a5 : Addr) (wo : Addr) (wb : Addr) (u8 : Addr) (s0 : Int32) (s1 : Int32) (s2 : Int32) (e0 : Int32) (e1 : Int32) (e2 : Int32) (r0 : Int32) (r1 : Int32) (r2 : Int32) (b0 : Int32) (b1 : Int32) (b2 : Int32) (G1 : Int32) (G3 : Value) (qa : Addr) (qc : Addr) (qj : Addr) (qd : Addr) (qk : Addr) (h0 : Heap) (n0 : Nat) {p : Program} {e : Env} {s : State} {m : MethodId} {below : List Frame} {meth : Method} {cc : Code} {T : State} {locs : List Loc} {h : Heap} {vm0 : Vm} {k0 : Nat} (P5 : ¬ G1 = (0 : Int32)) (rG3 : G3.isRef = true) (nb0 : ¬ b0 < (0 : Int32)) (nb1 : ¬ b1 < (0 : Int32)) (nb2 : ¬ b2 < (0 : Int32)) (hfit : ∀ v ∈ ([(.int b0), (.int b1), (.int b2)] : List Value), fits .byte v = true) (zs0 : s0 = 0 ∨ s0 = 1) (zs1 : s1 = 0 ∨ s1 = 1) (zs2 : s2 = 0 ∨ s2 = 1) (ze0 : e0 = 0 ∨ e0 = 1) (ze1 : e1 = 0 ∨ e1 = 1) (ze2 : e2 = 0 ∨ e2 = 1) (qf : Exa Z h a0 "com/example/pathlattice/pathlattice/graph/Edges") (ql : Fld Z h a0 "com/example/pathlattice/pathlattice/graph/Edges" "roles" "[I" (.ref a3)) (qe : Fld Z h a0 "com/example/pathlattice/pathlattice/graph/Edges" "roleNames" "[Ljava/lang/String;" (.ref qa)) (qm : Fld Z h a0 "com/example/pathlattice/pathlattice/graph/Edges" "outOffsets" "[I" .null) (qn : Fld Z h a0 "com/example/pathlattice/pathlattice/graph/Edges" "outgoing" "[I" .null) (qo : Fld Z h a0 "com/example/pathlattice/pathlattice/graph/Edges" "inOffsets" "[I" .null) (qp : Fld Z h a0 "com/example/pathlattice/pathlattice/graph/Edges" "incoming" "[I" .null) (qq : Av Z h a1 .int [(.int s0), (.int s1), (.int s2)]) (qr : Av Z h a2 .int [(.int e0), (.int e1), (.int e2)]) (ja : Exa Z h a5 "com/example/pathlattice/pathlattice/graph/Strings") (je : Fld Z h a5 "com/example/pathlattice/pathlattice/graph/Strings" "offsets" "[I" (.ref wo)) (jf : Fld Z h a5 "com/example/pathlattice/pathlattice/graph/Strings" "bytes" "[B" (.ref wb)) (jg : Av Z h wo .int [(.int (0 : Int32)), (.int (1 : Int32)), (.int (3 : Int32)), (.int (3 : Int32))]) (jh : Av Z h wb .byte [(.int b0), (.int b1), (.int b2)]) (ji : Exa Z h u8 "sun/nio/cs/UTF_8") (qg : Exa Z h qa "[Ljava/lang/String;") (qb : Av Z h qa (.object "java/lang/String") [(.ref qc), (.ref qd), .null]) (q5 : OvA Z h qa "java/lang/String") (qs : Exa Z h qc "java/lang/String") (qt : Fld Z h qc "java/lang/String" "coder" "B" (.int (0 : Int32))) (qu : Fld Z h qc "java/lang/String" "value" "[B" (.ref qj)) (qv : Av Z h qj .byte [(.int b0)]) (qw : Exa Z h qd "java/lang/String") (qx : Fld Z h qd "java/lang/String" "coder" "B" (.int (0 : Int32))) (qy : Fld Z h qd "java/lang/String" "value" "[B" (.ref qk)) (qz : Av Z h qk .byte [(.int b1), (.int b2)]) (jj : Sta Z h "java/lang/String" "COMPACT_STRINGS" "Z" (.int G1)) (jk : Sta Z h "sun/nio/cs/UTF_8" "INSTANCE" "Lsun/nio/cs/UTF_8;" (.ref u8)) (jl : Sta Z h "java/nio/charset/StandardCharsets" "UTF_8" "Ljava/nio/charset/Charset;" (.ref u8)) (jm : Sta Z h "jdk/internal/util/Preconditions" "SIOOBE_FORMATTER" "Ljava/util/function/BiFunction;" G3) (S_b145_8 : Safe Z consts_1 vm0 h qa) (jn : n0 ≤ a0) (jo : n0 ≤ qa) (jp : h0.size ≤ qa) (jq : h0.size ≤ qc) (jr : h0.size ≤ qd) (qh : a0 ≠ qa) (js : a0 ≠ qd) (jt : a0 ≠ qc) (ju : a1 ≠ a0) (jv : a1 ≠ qa) (jw : a2 ≠ a0) (jx : a2 ≠ qa) (jb : qa ≠ qd) (jc : qa ≠ qc) (jy : qk ≠ a0) (jz : qk ≠ qa) (j0 : qj ≠ a0) (j1 : qj ≠ qa)
    (X : Sx Z "com/example/pathlattice/pathlattice/graph/Edges" prog_18_method_1_code 7 p l e ({ frames := 6, cells := 30, slots := 722, locals := 103 } : Room) (s.setVm vm0) m #[(.ref a0), (.ref a1), (.ref a2), (.ref a3), (.int (2 : Int32)), (.ref a5)] below meth cc T locs 19 694 h) (hS : s.Since vm0 k0) (hk : k0 ≤ h.size) (HR : CHr Z consts_1 s.vm s.heap vm0 h) (Z0 : n0 ≤ h.size) (N : Fr n0 locs) (Kp : Keep h0 h [a0]) (hnm : meth.name = "<init>") (hret : meth.sig.returnType = none) (hlk : meth.locks = false) :
    Go p e below (EndsH Z consts_1 s (fun v h L => ∃ rn x0 q0 x1 q1 x2 q2 : Addr, v = none ∧ Fr n0 L ∧ Keep h0 h [a0] ∧ Exa Z h a0 "com/example/pathlattice/pathlattice/graph/Edges" ∧ Fld Z h a0 "com/example/pathlattice/pathlattice/graph/Edges" "roleNames" "[Ljava/lang/String;" (.ref rn) ∧ Fld Z h a0 "com/example/pathlattice/pathlattice/graph/Edges" "roles" "[I" (.ref a3) ∧ Av Z h rn (.object "java/lang/String") [(.ref x0), (.ref x1), (.ref x2)] ∧ h0.size ≤ x0 ∧ h0.size ≤ x1 ∧ h0.size ≤ x2 ∧ StrB Z h x0 q0 [(.int b0)] ∧ StrB Z h x1 q1 [(.int b1), (.int b2)] ∧ StrB Z h x2 q2 []) ({ frames := 6, cells := 30, slots := 722, locals := 103 } : Room).cells ({ frames := 6, cells := 30, slots := 722, locals := 103 } : Room).slots) (T.setTop (mkF m 154 #[.val (.ref a0), .val (.ref a1), .val (.ref a2), .val (.ref a3), .val (.int (2 : Int32)), .val (.ref a5), .val (.int (2 : Int32))] [])) := by
 refine g_iload X d9_154 (pc' := 156) rfl rfl ?_
 refine g_aloadN X d9_156 (pc' := 157) rfl rfl rfl ?_
 refine g_getfield X (host := "") (Or.inl (tb hw 77 rfl)) Via.refl qe d9_157 (pc' := 160) rfl ?_
 intro T X
 refine g_arraylength X qb d9_160 (pc' := 161) rfl (z := (3 : Int32)) rfl ?_
 refine g_icN X d9_161 (tlt (show (2 : Int32) < (3 : Int32) from (by decide))).2.1 (pc' := 164) rfl ?_
 refine g_aloadN X d9_164 (pc' := 165) rfl rfl rfl ?_
 refine g_getfield X (host := "") (Or.inl (tb hw 77 rfl)) Via.refl qe d9_165 (pc' := 168) rfl ?_
 intro T X
 refine g_iload X d9_168 (pc' := 170) rfl rfl ?_
 refine g_aload X d9_170 (pc' := 172) rfl rfl rfl ?_
 refine g_iload X d9_172 (pc' := 174) rfl rfl ?_
 refine g_virtualS X hS hk (elw hw) HR.1 ss0 (W := 2) (a := a5) (C := "com/example/pathlattice/pathlattice/graph/Strings") [(.int (2 : Int32))] [(.int (2 : Int32)), (.ref qa)] ja (tb hw 79 rfl) (tb hw 80 rfl) (tb hw 82 rfl) (tb hw 81 rfl) (tb hw 34 rfl) (tb hw 83 rfl) (rGet2 l Z aa hw [] a5 wo wb u8 b0 b1 b2 G1 G3 _ n0 Z0 je jf ja jg jh jj P5 jk ji jl jm rG3 nb0 nb1 nb2 hfit) d9_174 (pc' := 177) rfl (by decide) (by decide) (by decide) rfl rfl rfl (lenOf pd_16 rfl) (Nat.le_refl _) (by decide) (by decide) ?_
 intro v T L X q k1 hS hk HRn
 obtain ⟨qi, q6, rfl, Nq, Kq, q7, j6, q4, q8, q9, q3⟩ := q
 have j2 : a0 ≠ qi := Nat.ne_of_lt (Nat.lt_of_lt_of_le qf.lt q7)
 have jd : qa ≠ qi := Nat.ne_of_lt (Nat.lt_of_lt_of_le qg.lt q7)
 have j3 : h0.size ≤ qi := Nat.le_trans Kp.1 q7
 replace N := N.app Nq
 replace S_b145_8 := HRn.safe qg.lt S_b145_8
 replace HR := HR.trans HRn
 replace qf := qf.keep Kq
 replace ql := ql.keep Kq nin0
 replace qe := qe.keep Kq nin0
 replace qm := qm.keep Kq nin0
 replace qn := qn.keep Kq nin0
 replace qo := qo.keep Kq nin0
 replace qp := qp.keep Kq nin0
 replace qq := qq.keep Kq nin0
 replace qr := qr.keep Kq nin0
 replace qg := qg.keep Kq
 replace qb := qb.keep Kq nin0
 replace q5 := q5.keep Kq nin0
 replace qs := qs.keep Kq
 replace qt := qt.keep Kq nin0
 replace qu := qu.keep Kq nin0
 replace qv := qv.keep Kq nin0
 replace qw := qw.keep Kq
 replace qx := qx.keep Kq nin0
 replace qy := qy.keep Kq nin0
 replace qz := qz.keep Kq nin0
 replace Z0 := Nat.le_trans Z0 Kq.1
 replace Kp := Kp.trans Kq all0
 have j4 : q6 ≠ a0 := q3.neE qf (tb hw 52 rfl)
 have j5 : q6 ≠ qa := q3.neT qb (by decide)
 show Go p e below _ (T.setTop (mkF m 177 _ [(.ref qi), (.int (2 : Int32)), (.ref qa)]))
 refine g_aastore X qb (q5.sto (Ins.self q4)) 2 d9_177 (pc' := 178) rfl rfl (by decide) (by decide) (Nat.le_of_ble_eq_true rfl) ?_
 intro T h X W qb
 replace qb : Av Z h qa (.object "java/lang/String") [(.ref qc), (.ref qd), (.ref qi)] := qb
 have HR' := HR.trans (CHr.wr W S_b145_8 HR.1)
 replace HR := HR'
 replace hk := Nat.le_trans hk (Nat.le_of_eq W.size.symm)
 replace qf := qf.wr W
 replace ql := ql.other W (Or.inl qh)
 replace qe := qe.other W (Or.inl qh)
 replace qm := qm.other W (Or.inl qh)
 replace qn := qn.other W (Or.inl qh)
 replace qo := qo.other W (Or.inl qh)
 replace qp := qp.other W (Or.inl qh)
 replace qq := qq.other W jv
 replace qr := qr.other W jx
 replace qg := qg.wr W
 replace qs := qs.wr W
 replace qt := qt.other W (Or.inl (Ne.symm jc))
 replace qu := qu.other W (Or.inl (Ne.symm jc))
 replace qv := qv.other W j1
 replace qw := qw.wr W
 replace qx := qx.other W (Or.inl (Ne.symm jb))
 replace qy := qy.other W (Or.inl (Ne.symm jb))
 replace qz := qz.other W jz
 replace q4 := q4.wr W
 replace q8 := q8.other W (Or.inl (Ne.symm jd))
 replace q9 := q9.other W (Or.inl (Ne.symm jd))
 replace q3 := q3.other W j5
 replace Z0 := Nat.le_trans Z0 (Nat.le_of_eq W.size.symm)
 replace N := Fr.snoc X.1 N jo
 replace Kp := Kp.wr W (Or.inr jp)
 refine g_iinc X d9_178 (pc' := 181) (q := (1 : Int32)) (Ls' := #[.val (.ref a0), .val (.ref a1), .val (.ref a2), .val (.ref a3), .val (.int (2 : Int32)), .val (.ref a5), .val (.int (3 : Int32))]) rfl rfl rfl rfl ?_
 refine g_goto X d9_181 (pc' := 154) (by decide) (by decide) ?_
 refine g_iload X d9_154 (pc' := 156) rfl rfl ?_
 refine g_aloadN X d9_156 (pc' := 157) rfl rfl rfl ?_
 refine g_getfield X (host := "") (Or.inl (tb hw 77 rfl)) Via.refl qe d9_157 (pc' := 160) rfl ?_
 intro T X
 refine g_arraylength X qb d9_160 (pc' := 161) rfl (z := (3 : Int32)) rfl ?_
 refine g_icY X d9_161 (flt (show ¬ ((3 : Int32) < (3 : Int32)) from (by decide))).2.1 (pc' := 184) (by decide) (by decide) ?_
 exact rEdi6 l Z aa hw a0 a1 a2 a3 a5 wo wb u8 s0 s1 s2 e0 e1 e2 r0 r1 r2 b0 b1 b2 G1 G3 qa qc qj qd qk qi q6 h0 n0 zs0 zs1 zs2 ze0 ze1 ze2 qf ql qe qm qn qo qp qq qr qg qb qs qt qu qv qw qx qy qz q4 q8 q9 q3 jn jq jr j3 qh js j2 jt ju jw jy j4 j0 X hS hk HR Z0 N Kp hnm hret hlk
set_option maxRecDepth 65536 in
set_option maxHeartbeats 40000000 in
theorem rEdi4 (l : Launch) (Z : State) (aa : Array Value) (hw : ∀ d ∈ tables_1, d.before aa Z = true) (a0 : Addr) (a1 : Addr) (a2 : Addr) (a3 : Addr) (a5 : Addr) (wo : Addr) (wb : Addr) (u8 : Addr) (s0 : Int32) (s1 : Int32) (s2 : Int32) (e0 : Int32) (e1 : Int32) (e2 : Int32) (r0 : Int32) (r1 : Int32) (r2 : Int32) (b0 : Int32) (b1 : Int32) (b2 : Int32) (G1 : Int32) (G3 : Value) (qa : Addr) (qb : Addr) (qt : Addr) (h0 : Heap) (n0 : Nat) {p : Program} {e : Env} {s : State} {m : MethodId} {below : List Frame} {meth : Method} {cc : Code} {T : State} {locs : List Loc} {h : Heap} {vm0 : Vm} {k0 : Nat} (P5 : ¬ G1 = (0 : Int32)) (rG3 : G3.isRef = true) (nb0 : ¬ b0 < (0 : Int32)) (nb1 : ¬ b1 < (0 : Int32)) (nb2 : ¬ b2 < (0 : Int32)) (hfit : ∀ v ∈ ([(.int b0), (.int b1), (.int b2)] : List Value), fits .byte v = true) (zs0 : s0 = 0 ∨ s0 = 1) (zs1 : s1 = 0 ∨ s1 = 1) (zs2 : s2 = 0 ∨ s2 = 1) (ze0 : e0 = 0 ∨ e0 = 1) (ze1 : e1 = 0 ∨ e1 = 1) (ze2 : e2 = 0 ∨ e2 = 1) (qd : Exa Z h a0 "com/example/pathlattice/pathlattice/graph/Edges") (qu : Fld Z h a0 "com/example/pathlattice/pathlattice/graph/Edges" "roles" "[I" (.ref a3)) (qe : Fld Z h a0 "com/example/pathlattice/pathlattice/graph/Edges" "roleNames" "[Ljava/lang/String;" (.ref qa)) (qv : Fld Z h a0 "com/example/pathlattice/pathlattice/graph/Edges" "outOffsets" "[I" .null) (qw : Fld Z h a0 "com/example/pathlattice/pathlattice/graph/Edges" "outgoing" "[I" .null) (qx : Fld Z h a0 "com/example/pathlattice/pathlattice/graph/Edges" "inOffsets" "[I" .null) (qy : Fld Z h a0 "com/example/pathlattice/pathlattice/graph/Edges" "incoming" "[I" .null) (qz : Av Z h a1 .int [(.int s0), (.int s1), (.int s2)]) (q3 : Av Z h a2 .int [(.int e0), (.int e1), (.int e2)]) (qf : Exa Z h a5 "com/example/pathlattice/pathlattice/graph/Strings") (qi : Fld Z h a5 "com/example/pathlattice/pathlattice/graph/Strings" "offsets" "[I" (.ref wo)) (qj : Fld Z h a5 "com/example/pathlattice/pathlattice/graph/Strings" "bytes" "[B" (.ref wb)) (qk : Av Z h wo .int [(.int (0 : Int32)), (.int (1 : Int32)), (.int (3 : Int32)), (.int (3 : Int32))]) (ql : Av Z h wb .byte [(.int b0), (.int b1), (.int b2)]) (qm : Exa Z h u8 "sun/nio/cs/UTF_8") (qg : Exa Z h qa "[Ljava/lang/String;") (qc : Av Z h qa (.object "java/lang/String") [(.ref qb), .null, .null]) (qn : OvA Z h qa "java/lang/String") (q4 : Exa Z h qb "java/lang/String") (q5 : Fld Z h qb "java/lang/String" "coder" "B" (.int (0 : Int32))) (q6 : Fld Z h qb "java/lang/String" "value" "[B" (.ref qt)) (q7 : Av Z h qt .byte [(.int b0)]) (qo : Sta Z h "java/lang/String" "COMPACT_STRINGS" "Z" (.int G1)) (qp : Sta Z h "sun/nio/cs/UTF_8" "INSTANCE" "Lsun/nio/cs/UTF_8;" (.ref u8)) (qq : Sta Z h "java/nio/charset/StandardCharsets" "UTF_8" "Ljava/nio/charset/Charset;" (.ref u8)) (qr : Sta Z h "jdk/internal/util/Preconditions" "SIOOBE_FORMATTER" "Ljava/util/function/BiFunction;" G3) (S_b145_8 : Safe Z consts_1 vm0 h qa) (jn : n0 ≤ a0) (jg : n0 ≤ qa) (jh : h0.size ≤ qa) (jo : h0.size ≤ qb) (qh : a0 ≠ qa) (jp : a0 ≠ qb) (jq : a1 ≠ a0) (ji : a1 ≠ qa) (jr : a2 ≠ a0) (jj : a2 ≠ qa) (jk : a5 ≠ qa) (ja : qa ≠ qb) (js : qt ≠ a0) (jl : qt ≠ qa) (jt : wb ≠ qa) (ju : wo ≠ qa)
    (X : Sx Z "com/example/pathlattice/pathlattice/graph/Edges" prog_18_method_1_code 7 p l e ({ frames := 6, cells := 30, slots := 722, locals := 103 } : Room) (s.setVm vm0) m #[(.ref a0), (.ref a1), (.ref a2), (.ref a3), (.int (2 : Int32)), (.ref a5)] below meth cc T locs 17 688 h) (hS : s.Since vm0 k0) (hk : k0 ≤ h.size) (HR : CHr Z consts_1 s.vm s.heap vm0 h) (Z0 : n0 ≤ h.size) (N : Fr n0 locs) (Kp : Keep h0 h [a0]) (hnm : meth.name = "<init>") (hret : meth.sig.returnType = none) (hlk : meth.locks = false) :
    Go p e below (EndsH Z consts_1 s (fun v h L => ∃ rn x0 q0 x1 q1 x2 q2 : Addr, v = none ∧ Fr n0 L ∧ Keep h0 h [a0] ∧ Exa Z h a0 "com/example/pathlattice/pathlattice/graph/Edges" ∧ Fld Z h a0 "com/example/pathlattice/pathlattice/graph/Edges" "roleNames" "[Ljava/lang/String;" (.ref rn) ∧ Fld Z h a0 "com/example/pathlattice/pathlattice/graph/Edges" "roles" "[I" (.ref a3) ∧ Av Z h rn (.object "java/lang/String") [(.ref x0), (.ref x1), (.ref x2)] ∧ h0.size ≤ x0 ∧ h0.size ≤ x1 ∧ h0.size ≤ x2 ∧ StrB Z h x0 q0 [(.int b0)] ∧ StrB Z h x1 q1 [(.int b1), (.int b2)] ∧ StrB Z h x2 q2 []) ({ frames := 6, cells := 30, slots := 722, locals := 103 } : Room).cells ({ frames := 6, cells := 30, slots := 722, locals := 103 } : Room).slots) (T.setTop (mkF m 154 #[.val (.ref a0), .val (.ref a1), .val (.ref a2), .val (.ref a3), .val (.int (2 : Int32)), .val (.ref a5), .val (.int (1 : Int32))] [])) := by
 refine g_iload X d9_154 (pc' := 156) rfl rfl ?_
 refine g_aloadN X d9_156 (pc' := 157) rfl rfl rfl ?_
 refine g_getfield X (host := "") (Or.inl (tb hw 77 rfl)) Via.refl qe d9_157 (pc' := 160) rfl ?_
 intro T X
 refine g_arraylength X qc d9_160 (pc' := 161) rfl (z := (3 : Int32)) rfl ?_
 refine g_icN X d9_161 (tlt (show (1 : Int32) < (3 : Int32) from (by decide))).2.1 (pc' := 164) rfl ?_
 refine g_aloadN X d9_164 (pc' := 165) rfl rfl rfl ?_
 refine g_getfield X (host := "") (Or.inl (tb hw 77 rfl)) Via.refl qe d9_165 (pc' := 168) rfl ?_
 intro T X
 refine g_iload X d9_168 (pc' := 170) rfl rfl ?_
 refine g_aload X d9_170 (pc' := 172) rfl rfl rfl ?_
 refine g_iload X d9_172 (pc' := 174) rfl rfl ?_
 refine g_virtualS X hS hk (elw hw) HR.1 ss0 (W := 2) (a := a5) (C := "com/example/pathlattice/pathlattice/graph/Strings") [(.int (1 : Int32))] [(.int (1 : Int32)), (.ref qa)] qf (tb hw 79 rfl) (tb hw 80 rfl) (tb hw 82 rfl) (tb hw 81 rfl) (tb hw 34 rfl) (tb hw 83 rfl) (rGet1 l Z aa hw [] a5 wo wb u8 b0 b1 b2 G1 G3 _ n0 Z0 qi qj qf qk ql qo P5 qp qm qq qr rG3 nb0 nb1 nb2 hfit) d9_174 (pc' := 177) rfl (by decide) (by decide) (by decide) rfl rfl rfl (lenOf pd_16 rfl) (Nat.le_refl _) (by decide) (by decide) ?_
 intro v T L X q k1 hS hk HRn
 obtain ⟨qs, jb, rfl, Nq, Kq, jc, jy, q9, jd, je, q8⟩ := q
 have jv : a0 ≠ qs := Nat.ne_of_lt (Nat.lt_of_lt_of_le qd.lt jc)
 have jf : qa ≠ qs := Nat.ne_of_lt (Nat.lt_of_lt_of_le qg.lt jc)
 have jw : h0.size ≤ qs := Nat.le_trans Kp.1 jc
 replace N := N.app Nq
 replace S_b145_8 := HRn.safe qg.lt S_b145_8
 replace HR := HR.trans HRn
 replace qo := Sta.keep qo Kq ss0
 replace qp := Sta.keep qp Kq ss0
 replace qq := Sta.keep qq Kq ss0
 replace qr := Sta.keep qr Kq ss0
 replace qd := qd.keep Kq
 replace qu := qu.keep Kq nin0
 replace qe := qe.keep Kq nin0
 replace qv := qv.keep Kq nin0
 replace qw := qw.keep Kq nin0
 replace qx := qx.keep Kq nin0
 replace qy := qy.keep Kq nin0
 replace qz := qz.keep Kq nin0
 replace q3 := q3.keep Kq nin0
 replace qf := qf.keep Kq
 replace qi := qi.keep Kq nin0
 replace qj := qj.keep Kq nin0
 replace qk := qk.keep Kq nin0
 replace ql := ql.keep Kq nin0
 replace qm := qm.keep Kq
 replace qg := qg.keep Kq
 replace qc := qc.keep Kq nin0
 replace qn := qn.keep Kq nin0
 replace q4 := q4.keep Kq
 replace q5 := q5.keep Kq nin0
 replace q6 := q6.keep Kq nin0
 replace q7 := q7.keep Kq nin0
 replace Z0 := Nat.le_trans Z0 Kq.1
 replace Kp := Kp.trans Kq all0
 have jx : jb ≠ a0 := q8.neE qd (tb hw 52 rfl)
 have jm : jb ≠ qa := q8.neT qc (by decide)
 show Go p e below _ (T.setTop (mkF m 177 _ [(.ref qs), (.int (1 : Int32)), (.ref qa)]))
 refine g_aastore X qc (qn.sto (Ins.self q9)) 1 d9_177 (pc' := 178) rfl rfl (by decide) (by decide) (Nat.le_of_ble_eq_true rfl) ?_
 intro T h X W qc
 replace qc : Av Z h qa (.object "java/lang/String") [(.ref qb), (.ref qs), .null] := qc
 have HR' := HR.trans (CHr.wr W S_b145_8 HR.1)
 replace S_b145_8 := Safe.wr W S_b145_8 HR.1 S_b145_8
 replace HR := HR'
 replace hk := Nat.le_trans hk (Nat.le_of_eq W.size.symm)
 replace qd := qd.wr W
 replace qu := qu.other W (Or.inl qh)
 replace qe := qe.other W (Or.inl qh)
 replace qv := qv.other W (Or.inl qh)
 replace qw := qw.other W (Or.inl qh)
 replace qx := qx.other W (Or.inl qh)
 replace qy := qy.other W (Or.inl qh)
 replace qz := qz.other W ji
 replace q3 := q3.other W jj
 replace qf := qf.wr W
 replace qi := qi.other W (Or.inl jk)
 replace qj := qj.other W (Or.inl jk)
 replace qk := qk.other W ju
 replace ql := ql.other W jt
 replace qm := qm.wr W
 replace qg := qg.wr W
 replace qn := qn.wr W
 replace q4 := q4.wr W
 replace q5 := q5.other W (Or.inl (Ne.symm ja))
 replace q6 := q6.other W (Or.inl (Ne.symm ja))
 replace q7 := q7.other W jl
 replace q9 := q9.wr W
 replace jd := jd.other W (Or.inl (Ne.symm jf))
 replace je := je.other W (Or.inl (Ne.symm jf))
 replace q8 := q8.other W jm
 replace qo := qo.wr W
 replace qp := qp.wr W
 replace qq := qq.wr W
 replace qr := qr.wr W
 replace Z0 := Nat.le_trans Z0 (Nat.le_of_eq W.size.symm)
 replace N := Fr.snoc X.1 N jg
 replace Kp := Kp.wr W (Or.inr jh)
 refine g_iinc X d9_178 (pc' := 181) (q := (1 : Int32)) (Ls' := #[.val (.ref a0), .val (.ref a1), .val (.ref a2), .val (.ref a3), .val (.int (2 : Int32)), .val (.ref a5), .val (.int (2 : Int32))]) rfl rfl rfl rfl ?_
 refine g_goto X d9_181 (pc' := 154) (by decide) (by decide) ?_
 exact rEdi5 l Z aa hw a0 a1 a2 a3 a5 wo wb u8 s0 s1 s2 e0 e1 e2 r0 r1 r2 b0 b1 b2 G1 G3 qa qb qt qs jb h0 n0 P5 rG3 nb0 nb1 nb2 hfit zs0 zs1 zs2 ze0 ze1 ze2 qd qu qe qv qw qx qy qz q3 qf qi qj qk ql qm qg qc qn q4 q5 q6 q7 q9 jd je q8 qo qp qq qr S_b145_8 jn jg jh jo jw qh jv jp jq ji jr jj jf ja jx jm js jl X hS hk HR Z0 N Kp hnm hret hlk
set_option maxRecDepth 65536 in
set_option maxHeartbeats 40000000 in
theorem rEdi3 (l : Launch) (Z : State) (aa : Array Value) (hw : ∀ d ∈ tables_1, d.before aa Z = true) (a0 : Addr) (a1 : Addr) (a2 : Addr) (a3 : Addr) (a5 : Addr) (wo : Addr) (wb : Addr) (u8 : Addr) (s0 : Int32) (s1 : Int32) (s2 : Int32) (e0 : Int32) (e1 : Int32) (e2 : Int32) (r0 : Int32) (r1 : Int32) (r2 : Int32) (b0 : Int32) (b1 : Int32) (b2 : Int32) (G1 : Int32) (G3 : Value) (h0 : Heap) (n0 : Nat) {p : Program} {e : Env} {s : State} {m : MethodId} {below : List Frame} {meth : Method} {cc : Code} {T : State} {locs : List Loc} {h : Heap} {vm0 : Vm} {k0 : Nat} (P5 : ¬ G1 = (0 : Int32)) (rG3 : G3.isRef = true) (nb0 : ¬ b0 < (0 : Int32)) (nb1 : ¬ b1 < (0 : Int32)) (nb2 : ¬ b2 < (0 : Int32)) (hfit : ∀ v ∈ ([(.int b0), (.int b1), (.int b2)] : List Value), fits .byte v = true) (zs0 : s0 = 0 ∨ s0 = 1) (zs1 : s1 = 0 ∨ s1 = 1) (zs2 : s2 = 0 ∨ s2 = 1) (ze0 : e0 = 0 ∨ e0 = 1) (ze1 : e1 = 0 ∨ e1 = 1) (ze2 : e2 = 0 ∨ e2 = 1) (qa : Exa Z h a0 "com/example/pathlattice/pathlattice/graph/Edges") (jq : Fld Z h a0 "com/example/pathlattice/pathlattice/graph/Edges" "nodeCount" "I" (.int (0 : Int32))) (jc : Fld Z h a0 "com/example/pathlattice/pathlattice/graph/Edges" "starts" "[I" .null) (q7 : Fld Z h a0 "com/example/pathlattice/pathlattice/graph/Edges" "ends" "[I" .null) (qg : Fld Z h a0 "com/example/pathlattice/pathlattice/graph/Edges" "roles" "[I" .null) (qc : Fld Z h a0 "com/example/pathlattice/pathlattice/graph/Edges" "roleNames" "[Ljava/lang/String;" .null) (qp : Fld Z h a0 "com/example/pathlattice/pathlattice/graph/Edges" "outOffsets" "[I" .null) (qq : Fld Z h a0 "com/example/pathlattice/pathlattice/graph/Edges" "outgoing" "[I" .null) (qr : Fld Z h a0 "com/example/pathlattice/pathlattice/graph/Edges" "inOffsets" "[I" .null) (qs : Fld Z h a0 "com/example/pathlattice/pathlattice/graph/Edges" "incoming" "[I" .null) (qh : Av Z h a1 .int [(.int s0), (.int s1), (.int s2)]) (qi : Av Z h a2 .int [(.int e0), (.int e1), (.int e2)]) (qb : Exa Z h a5 "com/example/pathlattice/pathlattice/graph/Strings") (qe : Fld Z h a5 "com/example/pathlattice/pathlattice/graph/Strings" "offsets" "[I" (.ref wo)) (qj : Fld Z h a5 "com/example/pathlattice/pathlattice/graph/Strings" "bytes" "[B" (.ref wb)) (qd : Av Z h wo .int [(.int (0 : Int32)), (.int (1 : Int32)), (.int (3 : Int32)), (.int (3 : Int32))]) (qf : Av Z h wb .byte [(.int b0), (.int b1), (.int b2)]) (qk : Exa Z h u8 "sun/nio/cs/UTF_8") (ql : Sta Z h "java/lang/String" "COMPACT_STRINGS" "Z" (.int G1)) (qm : Sta Z h "sun/nio/cs/UTF_8" "INSTANCE" "Lsun/nio/cs/UTF_8;" (.ref u8)) (qn : Sta Z h "java/nio/charset/StandardCharsets" "UTF_8" "Ljava/nio/charset/Charset;" (.ref u8)) (qo : Sta Z h "jdk/internal/util/Preconditions" "SIOOBE_FORMATTER" "Ljava/util/function/BiFunction;" G3) (q3 : n0 ≤ a0) (q4 : a1 ≠ a0) (q5 : a2 ≠ a0) (qv : a5 ≠ a0) (q8 : wb ≠ a0) (q9 : wo ≠ a0)
    (X : Sx Z "com/example/pathlattice/pathlattice/graph/Edges" prog_18_method_1_code 7 p l e ({ frames := 6, cells := 30, slots := 722, locals := 103 } : Room) (s.setVm vm0) m #[(.ref a0), (.ref a1), (.ref a2), (.ref a3), (.int (2 : Int32)), (.ref a5)] below meth cc T locs 14 680 h) (hS : s.Since vm0 k0) (hk : k0 ≤ h.size) (HR : CHr Z consts_1 s.vm s.heap vm0 h) (Z0 : n0 ≤ h.size) (N : Fr n0 locs) (Kp : Keep h0 h [a0]) (hnm : meth.name = "<init>") (hret : meth.sig.returnType = none) (hlk : meth.locks = false) :
    Go p e below (EndsH Z consts_1 s (fun v h L => ∃ rn x0 q0 x1 q1 x2 q2 : Addr, v = none ∧ Fr n0 L ∧ Keep h0 h [a0] ∧ Exa Z h a0 "com/example/pathlattice/pathlattice/graph/Edges" ∧ Fld Z h a0 "com/example/pathlattice/pathlattice/graph/Edges" "roleNames" "[Ljava/lang/String;" (.ref rn) ∧ Fld Z h a0 "com/example/pathlattice/pathlattice/graph/Edges" "roles" "[I" (.ref a3) ∧ Av Z h rn (.object "java/lang/String") [(.ref x0), (.ref x1), (.ref x2)] ∧ h0.size ≤ x0 ∧ h0.size ≤ x1 ∧ h0.size ≤ x2 ∧ StrB Z h x0 q0 [(.int b0)] ∧ StrB Z h x1 q1 [(.int b1), (.int b2)] ∧ StrB Z h x2 q2 []) ({ frames := 6, cells := 30, slots := 722, locals := 103 } : Room).cells ({ frames := 6, cells := 30, slots := 722, locals := 103 } : Room).slots) (T.setTop (mkF m 118 #[.val (.ref a0), .val (.ref a1), .val (.ref a2), .val (.ref a3), .val (.int (2 : Int32)), .val (.ref a5), .val (.int (3 : Int32))] [])) := by
 refine g_aloadN X d9_118 (pc' := 119) rfl rfl rfl ?_
 refine g_iload X d9_119 (pc' := 121) rfl rfl ?_
 refine g_putfield X (host := "") (Or.inl (tb hw 67 rfl)) Via.refl jq qa (Or.inr ⟨(tb hw 68 rfl), rfl, hnm⟩) (tb hw 52 rfl) (ty := .int) (by decide) rfl rfl d9_121 (pc' := 124) rfl ?_
 intro T h X W
 have HR' := HR.trans (CHr.wr W (Safe.exa (State.Warmed39.alike X.2.2.2.2.2.1) qa (by decide) (by decide)) HR.1)
 replace HR := HR'
 replace hk := Nat.le_trans hk (Nat.le_of_eq W.size.symm)
 replace qa := qa.wr W
 replace jc := jc.other W (Or.inr (slot_ne (Or.inr (tb hw 70 rfl)) (Or.inr (tb hw 68 rfl)) (by decide) (t := (.array .int)) (t' := .int) (by decide) (by decide)))
 replace q7 := q7.other W (Or.inr (slot_ne (Or.inr (tb hw 72 rfl)) (Or.inr (tb hw 68 rfl)) (by decide) (t := (.array .int)) (t' := .int) (by decide) (by decide)))
 replace qg := qg.other W (Or.inr (slot_ne (Or.inr (tb hw 74 rfl)) (Or.inr (tb hw 68 rfl)) (by decide) (t := (.array .int)) (t' := .int) (by decide) (by decide)))
 replace qc := qc.other W (Or.inr (slot_ne (Or.inr (tb hw 78 rfl)) (Or.inr (tb hw 68 rfl)) (by decide) (t := (.array (.object "java/lang/String"))) (t' := .int) (by decide) (by decide)))
 replace qp := qp.other W (Or.inr (slot_ne (Or.inr (tb hw 133 rfl)) (Or.inr (tb hw 68 rfl)) (by decide) (t := (.array .int)) (t' := .int) (by decide) (by decide)))
 replace qq := qq.other W (Or.inr (slot_ne (Or.inr (tb hw 135 rfl)) (Or.inr (tb hw 68 rfl)) (by decide) (t := (.array .int)) (t' := .int) (by decide) (by decide)))
 replace qr := qr.other W (Or.inr (slot_ne (Or.inr (tb hw 137 rfl)) (Or.inr (tb hw 68 rfl)) (by decide) (t := (.array .int)) (t' := .int) (by decide) (by decide)))
 replace qs := qs.other W (Or.inr (slot_ne (Or.inr (tb hw 139 rfl)) (Or.inr (tb hw 68 rfl)) (by decide) (t := (.array .int)) (t' := .int) (by decide) (by decide)))
 replace qh := qh.other W q4
 replace qi := qi.other W q5
 replace qb := qb.wr W
 replace qe := qe.other W (Or.inl qv)
 replace qj := qj.other W (Or.inl qv)
 replace qd := qd.other W q9
 replace qf := qf.other W q8
 replace qk := qk.wr W
 replace ql := ql.wr W
 replace qm := qm.wr W
 replace qn := qn.wr W
 replace qo := qo.wr W
 replace Z0 := Nat.le_trans Z0 (Nat.le_of_eq W.size.symm)
 replace N := Fr.snoc X.1 N q3
 replace Kp := Kp.wr W (Or.inl (List.mem_of_getElem? (i := 0) rfl))
 refine g_aloadN X d9_124 (pc' := 125) rfl rfl rfl ?_
 refine g_aloadN X d9_125 (pc' := 126) rfl rfl rfl ?_
 refine g_putfield X (host := "") (Or.inl (tb hw 69 rfl)) Via.refl jc qa (Or.inr ⟨(tb hw 70 rfl), rfl, hnm⟩) (tb hw 52 rfl) (ty := (.array .int)) (by decide) rfl rfl d9_126 (pc' := 129) rfl ?_
 intro T h X W
 have HR' := HR.trans (CHr.wr W (Safe.exa (State.Warmed39.alike X.2.2.2.2.2.1) qa (by decide) (by decide)) HR.1)
 replace HR := HR'
 replace hk := Nat.le_trans hk (Nat.le_of_eq W.size.symm)
 replace qa := qa.wr W
 replace q7 := q7.other W (Or.inr (slot_ne (Or.inr (tb hw 72 rfl)) (Or.inr (tb hw 70 rfl)) (by decide) (t := (.array .int)) (t' := (.array .int)) (by decide) (by decide)))
 replace qg := qg.other W (Or.inr (slot_ne (Or.inr (tb hw 74 rfl)) (Or.inr (tb hw 70 rfl)) (by decide) (t := (.array .int)) (t' := (.array .int)) (by decide) (by decide)))
 replace qc := qc.other W (Or.inr (slot_ne (Or.inr (tb hw 78 rfl)) (Or.inr (tb hw 70 rfl)) (by decide) (t := (.array (.object "java/lang/String"))) (t' := (.array .int)) (by decide) (by decide)))
 replace qp := qp.other W (Or.inr (slot_ne (Or.inr (tb hw 133 rfl)) (Or.inr (tb hw 70 rfl)) (by decide) (t := (.array .int)) (t' := (.array .int)) (by decide) (by decide)))
 replace qq := qq.other W (Or.inr (slot_ne (Or.inr (tb hw 135 rfl)) (Or.inr (tb hw 70 rfl)) (by decide) (t := (.array .int)) (t' := (.array .int)) (by decide) (by decide)))
 replace qr := qr.other W (Or.inr (slot_ne (Or.inr (tb hw 137 rfl)) (Or.inr (tb hw 70 rfl)) (by decide) (t := (.array .int)) (t' := (.array .int)) (by decide) (by decide)))
 replace qs := qs.other W (Or.inr (slot_ne (Or.inr (tb hw 139 rfl)) (Or.inr (tb hw 70 rfl)) (by decide) (t := (.array .int)) (t' := (.array .int)) (by decide) (by decide)))
 replace qh := qh.other W q4
 replace qi := qi.other W q5
 replace qb := qb.wr W
 replace qe := qe.other W (Or.inl qv)
 replace qj := qj.other W (Or.inl qv)
 replace qd := qd.other W q9
 replace qf := qf.other W q8
 replace qk := qk.wr W
 replace ql := ql.wr W
 replace qm := qm.wr W
 replace qn := qn.wr W
 replace qo := qo.wr W
 replace Z0 := Nat.le_trans Z0 (Nat.le_of_eq W.size.symm)
 replace N := Fr.snoc X.1 N q3
 replace Kp := Kp.wr W (Or.inl (List.mem_of_getElem? (i := 0) rfl))
 refine g_aloadN X d9_129 (pc' := 130) rfl rfl rfl ?_
 refine g_aloadN X d9_130 (pc' := 131) rfl rfl rfl ?_
 refine g_putfield X (host := "") (Or.inl (tb hw 71 rfl)) Via.refl q7 qa (Or.inr ⟨(tb hw 72 rfl), rfl, hnm⟩) (tb hw 52 rfl) (ty := (.array .int)) (by decide) rfl rfl d9_131 (pc' := 134) rfl ?_
 intro T h X W
 have HR' := HR.trans (CHr.wr W (Safe.exa (State.Warmed39.alike X.2.2.2.2.2.1) qa (by decide) (by decide)) HR.1)
 replace HR := HR'
 replace hk := Nat.le_trans hk (Nat.le_of_eq W.size.symm)
 replace qa := qa.wr W
 replace qg := qg.other W (Or.inr (slot_ne (Or.inr (tb hw 74 rfl)) (Or.inr (tb hw 72 rfl)) (by decide) (t := (.array .int)) (t' := (.array .int)) (by decide) (by decide)))
 replace qc := qc.other W (Or.inr (slot_ne (Or.inr (tb hw 78 rfl)) (Or.inr (tb hw 72 rfl)) (by decide) (t := (.array (.object "java/lang/String"))) (t' := (.array .int)) (by decide) (by decide)))
 replace qp := qp.other W (Or.inr (slot_ne (Or.inr (tb hw 133 rfl)) (Or.inr (tb hw 72 rfl)) (by decide) (t := (.array .int)) (t' := (.array .int)) (by decide) (by decide)))
 replace qq := qq.other W (Or.inr (slot_ne (Or.inr (tb hw 135 rfl)) (Or.inr (tb hw 72 rfl)) (by decide) (t := (.array .int)) (t' := (.array .int)) (by decide) (by decide)))
 replace qr := qr.other W (Or.inr (slot_ne (Or.inr (tb hw 137 rfl)) (Or.inr (tb hw 72 rfl)) (by decide) (t := (.array .int)) (t' := (.array .int)) (by decide) (by decide)))
 replace qs := qs.other W (Or.inr (slot_ne (Or.inr (tb hw 139 rfl)) (Or.inr (tb hw 72 rfl)) (by decide) (t := (.array .int)) (t' := (.array .int)) (by decide) (by decide)))
 replace qh := qh.other W q4
 replace qi := qi.other W q5
 replace qb := qb.wr W
 replace qe := qe.other W (Or.inl qv)
 replace qj := qj.other W (Or.inl qv)
 replace qd := qd.other W q9
 replace qf := qf.other W q8
 replace qk := qk.wr W
 replace ql := ql.wr W
 replace qm := qm.wr W
 replace qn := qn.wr W
 replace qo := qo.wr W
 replace Z0 := Nat.le_trans Z0 (Nat.le_of_eq W.size.symm)
 replace N := Fr.snoc X.1 N q3
 replace Kp := Kp.wr W (Or.inl (List.mem_of_getElem? (i := 0) rfl))
 refine g_aloadN X d9_134 (pc' := 135) rfl rfl rfl ?_
 refine g_aloadN X d9_135 (pc' := 136) rfl rfl rfl ?_
 refine g_putfield X (host := "") (Or.inl (tb hw 73 rfl)) Via.refl qg qa (Or.inr ⟨(tb hw 74 rfl), rfl, hnm⟩) (tb hw 52 rfl) (ty := (.array .int)) (by decide) rfl rfl d9_136 (pc' := 139) rfl ?_
 intro T h X W
 have HR' := HR.trans (CHr.wr W (Safe.exa (State.Warmed39.alike X.2.2.2.2.2.1) qa (by decide) (by decide)) HR.1)
 replace HR := HR'
 replace hk := Nat.le_trans hk (Nat.le_of_eq W.size.symm)
 replace qa := qa.wr W
 replace qg := qg.same W
 replace qc := qc.other W (Or.inr (slot_ne (Or.inr (tb hw 78 rfl)) (Or.inr (tb hw 74 rfl)) (by decide) (t := (.array (.object "java/lang/String"))) (t' := (.array .int)) (by decide) (by decide)))
 replace qp := qp.other W (Or.inr (slot_ne (Or.inr (tb hw 133 rfl)) (Or.inr (tb hw 74 rfl)) (by decide) (t := (.array .int)) (t' := (.array .int)) (by decide) (by decide)))
 replace qq := qq.other W (Or.inr (slot_ne (Or.inr (tb hw 135 rfl)) (Or.inr (tb hw 74 rfl)) (by decide) (t := (.array .int)) (t' := (.array .int)) (by decide) (by decide)))
 replace qr := qr.other W (Or.inr (slot_ne (Or.inr (tb hw 137 rfl)) (Or.inr (tb hw 74 rfl)) (by decide) (t := (.array .int)) (t' := (.array .int)) (by decide) (by decide)))
 replace qs := qs.other W (Or.inr (slot_ne (Or.inr (tb hw 139 rfl)) (Or.inr (tb hw 74 rfl)) (by decide) (t := (.array .int)) (t' := (.array .int)) (by decide) (by decide)))
 replace qh := qh.other W q4
 replace qi := qi.other W q5
 replace qb := qb.wr W
 replace qe := qe.other W (Or.inl qv)
 replace qj := qj.other W (Or.inl qv)
 replace qd := qd.other W q9
 replace qf := qf.other W q8
 replace qk := qk.wr W
 replace ql := ql.wr W
 replace qm := qm.wr W
 replace qn := qn.wr W
 replace qo := qo.wr W
 replace Z0 := Nat.le_trans Z0 (Nat.le_of_eq W.size.symm)
 replace N := Fr.snoc X.1 N q3
 replace Kp := Kp.wr W (Or.inl (List.mem_of_getElem? (i := 0) rfl))
 refine g_aloadN X d9_139 (pc' := 140) rfl rfl rfl ?_
 refine g_aload X d9_140 (pc' := 142) rfl rfl rfl ?_
 refine g_virtual X (W := 1) (a := a5) (C := "com/example/pathlattice/pathlattice/graph/Strings") [] [(.ref a0)] qb (tb hw 61 rfl) (tb hw 62 rfl) (tb hw 64 rfl) (tb hw 63 rfl) (tb hw 34 rfl) (tb hw 65 rfl) (rCnt l Z aa hw [] a5 wo _ qb qe qd) d9_142 (pc' := 145) rfl (by decide) (by decide) (by decide) rfl rfl rfl (lenOf pd_15 rfl) (Nat.le_refl _) (by decide) (by decide) ?_
 intro v T L X q
 obtain ⟨rfl, X⟩ := pureX X q
 show Go p e below _ (T.setTop (mkF m 145 _ [(.int (3 : Int32)), (.ref a0)]))
 refine g_anewarray X 3 (tb hw 75 rfl) (tb hw 76 rfl) d9_145 (pc' := 148) rfl (by decide) (by decide) 3 (by decide) (by decide) (by decide) (by decide) (vs := [.null, .null, .null]) rfl (ad := "[Ljava/lang/String;") (by decide) ?_
 intro T h qt qw X Ex qx qu qy
 have qz : a0 ≠ qt := Nat.ne_of_lt (by rw [qw]; exact qa.lt)
 have jj : a1 ≠ qt := Nat.ne_of_lt (by rw [qw]; exact qh.lt)
 have jk : a2 ≠ qt := Nat.ne_of_lt (by rw [qw]; exact qi.lt)
 have jd : a5 ≠ qt := Nat.ne_of_lt (by rw [qw]; exact qb.lt)
 have jl : wo ≠ qt := Nat.ne_of_lt (by rw [qw]; exact qd.lt)
 have jm : wb ≠ qt := Nat.ne_of_lt (by rw [qw]; exact qf.lt)
 have jn : n0 ≤ qt := by rw [qw]; exact Z0
 have jo : h0.size ≤ qt := by rw [qw]; exact Kp.1
 replace qa := qa.ext Ex
 replace qg := qg.ext Ex
 replace qc := qc.ext Ex
 replace qp := qp.ext Ex
 replace qq := qq.ext Ex
 replace qr := qr.ext Ex
 replace qs := qs.ext Ex
 replace qh := qh.ext Ex
 replace qi := qi.ext Ex
 replace qb := qb.ext Ex
 replace qe := qe.ext Ex
 replace qj := qj.ext Ex
 replace qd := qd.ext Ex
 replace qf := qf.ext Ex
 replace qk := qk.ext Ex
 replace ql := ql.ext Ex
 replace qm := qm.ext Ex
 replace qn := qn.ext Ex
 replace qo := qo.ext Ex
 replace Z0 := Nat.le_trans Z0 Ex.1
 replace Kp := Kp.ext Ex
 have S_b145_8 := Safe.ext Ex HR.1 (Safe.new (Nat.le_of_eq qw.symm))
 replace HR := HR.trans (CHr.ext Ex HR.1)
 replace hk := Nat.le_trans hk Ex.1
 refine g_putfield X (host := "") (Or.inl (tb hw 77 rfl)) Via.refl qc qa (Or.inr ⟨(tb hw 78 rfl), rfl, hnm⟩) (tb hw 52 rfl) (ty := (.array (.object "java/lang/String"))) (by decide) rfl rfl d9_148 (pc' := 151) rfl ?_
 intro T h X W
 replace S_b145_8 := Safe.wr W (Safe.exa (State.Warmed39.alike X.2.2.2.2.2.1) qa (by decide) (by decide)) HR.1 S_b145_8
 have HR' := HR.trans (CHr.wr W (Safe.exa (State.Warmed39.alike X.2.2.2.2.2.1) qa (by decide) (by decide)) HR.1)
 replace HR := HR'
 replace hk := Nat.le_trans hk (Nat.le_of_eq W.size.symm)
 replace qa := qa.wr W
 replace qg := qg.other W (Or.inr (slot_ne (Or.inr (tb hw 74 rfl)) (Or.inr (tb hw 78 rfl)) (by decide) (t := (.array .int)) (t' := (.array (.object "java/lang/String"))) (by decide) (by decide)))
 replace qc := qc.same W
 replace qp := qp.other W (Or.inr (slot_ne (Or.inr (tb hw 133 rfl)) (Or.inr (tb hw 78 rfl)) (by decide) (t := (.array .int)) (t' := (.array (.object "java/lang/String"))) (by decide) (by decide)))
 replace qq := qq.other W (Or.inr (slot_ne (Or.inr (tb hw 135 rfl)) (Or.inr (tb hw 78 rfl)) (by decide) (t := (.array .int)) (t' := (.array (.object "java/lang/String"))) (by decide) (by decide)))
 replace qr := qr.other W (Or.inr (slot_ne (Or.inr (tb hw 137 rfl)) (Or.inr (tb hw 78 rfl)) (by decide) (t := (.array .int)) (t' := (.array (.object "java/lang/String"))) (by decide) (by decide)))
 replace qs := qs.other W (Or.inr (slot_ne (Or.inr (tb hw 139 rfl)) (Or.inr (tb hw 78 rfl)) (by decide) (t := (.array .int)) (t' := (.array (.object "java/lang/String"))) (by decide) (by decide)))
 replace qh := qh.other W q4
 replace qi := qi.other W q5
 replace qb := qb.wr W
 replace qe := qe.other W (Or.inl qv)
 replace qj := qj.other W (Or.inl qv)
 replace qd := qd.other W q9
 replace qf := qf.other W q8
 replace qk := qk.wr W
 replace qx := qx.wr W
 replace qu := qu.other W (Ne.symm qz)
 replace qy := qy.wr W
 replace ql := ql.wr W
 replace qm := qm.wr W
 replace qn := qn.wr W
 replace qo := qo.wr W
 replace Z0 := Nat.le_trans Z0 (Nat.le_of_eq W.size.symm)
 replace N := Fr.snoc X.1 N q3
 replace Kp := Kp.wr W (Or.inl (List.mem_of_getElem? (i := 0) rfl))
 refine g_iconst X (0 : Int32) d9_151 (pc' := 152) rfl rfl ?_
 refine g_istore X d9_152 (pc' := 154) (Ls' := #[.val (.ref a0), .val (.ref a1), .val (.ref a2), .val (.ref a3), .val (.int (2 : Int32)), .val (.ref a5), .val (.int (0 : Int32))]) rfl rfl ?_
 refine g_iload X d9_154 (pc' := 156) rfl rfl ?_
 refine g_aloadN X d9_156 (pc' := 157) rfl rfl rfl ?_
 refine g_getfield X (host := "") (Or.inl (tb hw 77 rfl)) Via.refl qc d9_157 (pc' := 160) rfl ?_
 intro T X
 refine g_arraylength X qu d9_160 (pc' := 161) rfl (z := (3 : Int32)) rfl ?_
 refine g_icN X d9_161 (tlt (show (0 : Int32) < (3 : Int32) from (by decide))).2.1 (pc' := 164) rfl ?_
 refine g_aloadN X d9_164 (pc' := 165) rfl rfl rfl ?_
 refine g_getfield X (host := "") (Or.inl (tb hw 77 rfl)) Via.refl qc d9_165 (pc' := 168) rfl ?_
 intro T X
 refine g_iload X d9_168 (pc' := 170) rfl rfl ?_
 refine g_aload X d9_170 (pc' := 172) rfl rfl rfl ?_
 refine g_iload X d9_172 (pc' := 174) rfl rfl ?_
 refine g_virtualS X hS hk (elw hw) HR.1 ss0 (W := 2) (a := a5) (C := "com/example/pathlattice/pathlattice/graph/Strings") [(.int (0 : Int32))] [(.int (0 : Int32)), (.ref qt)] qb (tb hw 79 rfl) (tb hw 80 rfl) (tb hw 82 rfl) (tb hw 81 rfl) (tb hw 34 rfl) (tb hw 83 rfl) (rGet0 l Z aa hw [] a5 wo wb u8 b0 b1 b2 G1 G3 _ n0 Z0 qe qj qb qd qf ql P5 qm qk qn qo rG3 nb0 nb1 nb2 hfit) d9_174 (pc' := 177) rfl (by decide) (by decide) (by decide) rfl rfl rfl (lenOf pd_16 rfl) (Nat.le_refl _) (by decide) (by decide) ?_
 intro v T L X q k1 hS hk HRn
 obtain ⟨q6, je, rfl, Nq, Kq, jf, ju, jb, jg, jh, ja⟩ := q
 have jr : a0 ≠ q6 := Nat.ne_of_lt (Nat.lt_of_lt_of_le qa.lt jf)
 have ji : qt ≠ q6 := Nat.ne_of_lt (Nat.lt_of_lt_of_le qx.lt jf)
 have js : h0.size ≤ q6 := Nat.le_trans Kp.1 jf
 replace N := N.app Nq
 replace S_b145_8 := HRn.safe qx.lt S_b145_8
 replace HR := HR.trans HRn
 replace ql := Sta.keep ql Kq ss0
 replace qm := Sta.keep qm Kq ss0
 replace qn := Sta.keep qn Kq ss0
 replace qo := Sta.keep qo Kq ss0
 replace qa := qa.keep Kq
 replace qg := qg.keep Kq nin0
 replace qc := qc.keep Kq nin0
 replace qp := qp.keep Kq nin0
 replace qq := qq.keep Kq nin0
 replace qr := qr.keep Kq nin0
 replace qs := qs.keep Kq nin0
 replace qh := qh.keep Kq nin0
 replace qi := qi.keep Kq nin0
 replace qb := qb.keep Kq
 replace qe := qe.keep Kq nin0
 replace qj := qj.keep Kq nin0
 replace qd := qd.keep Kq nin0
 replace qf := qf.keep Kq nin0
 replace qk := qk.keep Kq
 replace qx := qx.keep Kq
 replace qu := qu.keep Kq nin0
 replace qy := qy.keep Kq nin0
 replace Z0 := Nat.le_trans Z0 Kq.1
 replace Kp := Kp.trans Kq all0
 have jt : je ≠ a0 := ja.neE qa (tb hw 52 rfl)
 have jp : je ≠ qt := ja.neT qu (by decide)
 show Go p e below _ (T.setTop (mkF m 177 _ [(.ref q6), (.int (0 : Int32)), (.ref qt)]))
 refine g_aastore X qu (qy.sto (Ins.self jb)) 0 d9_177 (pc' := 178) rfl rfl (by decide) (by decide) (Nat.le_of_ble_eq_true rfl) ?_
 intro T h X W qu
 replace qu : Av Z h qt (.object "java/lang/String") [(.ref q6), .null, .null] := qu
 have HR' := HR.trans (CHr.wr W S_b145_8 HR.1)
 replace S_b145_8 := Safe.wr W S_b145_8 HR.1 S_b145_8
 replace HR := HR'
 replace hk := Nat.le_trans hk (Nat.le_of_eq W.size.symm)
 replace qa := qa.wr W
 replace qg := qg.other W (Or.inl qz)
 replace qc := qc.other W (Or.inl qz)
 replace qp := qp.other W (Or.inl qz)
 replace qq := qq.other W (Or.inl qz)
 replace qr := qr.other W (Or.inl qz)
 replace qs := qs.other W (Or.inl qz)
 replace qh := qh.other W jj
 replace qi := qi.other W jk
 replace qb := qb.wr W
 replace qe := qe.other W (Or.inl jd)
 replace qj := qj.other W (Or.inl jd)
 replace qd := qd.other W jl
 replace qf := qf.other W jm
 replace qk := qk.wr W
 replace qx := qx.wr W
 replace qy := qy.wr W
 replace jb := jb.wr W
 replace jg := jg.other W (Or.inl (Ne.symm ji))
 replace jh := jh.other W (Or.inl (Ne.symm ji))
 replace ja := ja.other W jp
 replace ql := ql.wr W
 replace qm := qm.wr W
 replace qn := qn.wr W
 replace qo := qo.wr W
 replace Z0 := Nat.le_trans Z0 (Nat.le_of_eq W.size.symm)
 replace N := Fr.snoc X.1 N jn
 replace Kp := Kp.wr W (Or.inr jo)
 refine g_iinc X d9_178 (pc' := 181) (q := (1 : Int32)) (Ls' := #[.val (.ref a0), .val (.ref a1), .val (.ref a2), .val (.ref a3), .val (.int (2 : Int32)), .val (.ref a5), .val (.int (1 : Int32))]) rfl rfl rfl rfl ?_
 refine g_goto X d9_181 (pc' := 154) (by decide) (by decide) ?_
 exact rEdi4 l Z aa hw a0 a1 a2 a3 a5 wo wb u8 s0 s1 s2 e0 e1 e2 r0 r1 r2 b0 b1 b2 G1 G3 qt q6 je h0 n0 P5 rG3 nb0 nb1 nb2 hfit zs0 zs1 zs2 ze0 ze1 ze2 qa qg qc qp qq qr qs qh qi qb qe qj qd qf qk qx qu qy jb jg jh ja ql qm qn qo S_b145_8 q3 jn jo js qz jr q4 jj q5 jk jd ji jt jp jm jl X hS hk HR Z0 N Kp hnm hret hlk
set_option maxRecDepth 65536 in
set_option maxHeartbeats 40000000 in
theorem rEdi2 (l : Launch) (Z : State) (aa : Array Value) (hw : ∀ d ∈ tables_1, d.before aa Z = true) (a0 : Addr) (a1 : Addr) (a2 : Addr) (a3 : Addr) (a5 : Addr) (wo : Addr) (wb : Addr) (u8 : Addr) (s0 : Int32) (s1 : Int32) (s2 : Int32) (e0 : Int32) (e1 : Int32) (e2 : Int32) (r0 : Int32) (r1 : Int32) (r2 : Int32) (b0 : Int32) (b1 : Int32) (b2 : Int32) (G1 : Int32) (G3 : Value) (h0 : Heap) (n0 : Nat) {p : Program} {e : Env} {s : State} {m : MethodId} {below : List Frame} {meth : Method} {cc : Code} {T : State} {locs : List Loc} {h : Heap} {vm0 : Vm} {k0 : Nat} (P5 : ¬ G1 = (0 : Int32)) (rG3 : G3.isRef = true) (nb0 : ¬ b0 < (0 : Int32)) (nb1 : ¬ b1 < (0 : Int32)) (nb2 : ¬ b2 < (0 : Int32)) (hfit : ∀ v ∈ ([(.int b0), (.int b1), (.int b2)] : List Value), fits .byte v = true) (zs0 : s0 = 0 ∨ s0 = 1) (zs1 : s1 = 0 ∨ s1 = 1) (zs2 : s2 = 0 ∨ s2 = 1) (ze0 : e0 = 0 ∨ e0 = 1) (ze1 : e1 = 0 ∨ e1 = 1) (ze2 : e2 = 0 ∨ e2 = 1) (zr2 : ¬ r2 < (0 : Int32) ∧ r2 < (3 : Int32)) (qf : Exa Z h a0 "com/example/pathlattice/pathlattice/graph/Edges") (qg : Fld Z h a0 "com/example/pathlattice/pathlattice/graph/Edges" "nodeCount" "I" (.int (0 : Int32))) (qh : Fld Z h a0 "com/example/pathlattice/pathlattice/graph/Edges" "starts" "[I" .null) (qi : Fld Z h a0 "com/example/pathlattice/pathlattice/graph/Edges" "ends" "[I" .null) (qj : Fld Z h a0 "com/example/pathlattice/pathlattice/graph/Edges" "roles" "[I" .null) (qk : Fld Z h a0 "com/example/pathlattice/pathlattice/graph/Edges" "roleNames" "[Ljava/lang/String;" .null) (ql : Fld Z h a0 "com/example/pathlattice/pathlattice/graph/Edges" "outOffsets" "[I" .null) (qm : Fld Z h a0 "com/example/pathlattice/pathlattice/graph/Edges" "outgoing" "[I" .null) (qn : Fld Z h a0 "com/example/pathlattice/pathlattice/graph/Edges" "inOffsets" "[I" .null) (qo : Fld Z h a0 "com/example/pathlattice/pathlattice/graph/Edges" "incoming" "[I" .null) (qa : Av Z h a1 .int [(.int s0), (.int s1), (.int s2)]) (qb : Av Z h a2 .int [(.int e0), (.int e1), (.int e2)]) (qw : Av Z h a3 .int [(.int r0), (.int r1), (.int r2)]) (qc : Exa Z h a5 "com/example/pathlattice/pathlattice/graph/Strings") (qd : Fld Z h a5 "com/example/pathlattice/pathlattice/graph/Strings" "offsets" "[I" (.ref wo)) (qp : Fld Z h a5 "com/example/pathlattice/pathlattice/graph/Strings" "bytes" "[B" (.ref wb)) (qe : Av Z h wo .int [(.int (0 : Int32)), (.int (1 : Int32)), (.int (3 : Int32)), (.int (3 : Int32))]) (qq : Av Z h wb .byte [(.int b0), (.int b1), (.int b2)]) (qr : Exa Z h u8 "sun/nio/cs/UTF_8") (qs : Sta Z h "java/lang/String" "COMPACT_STRINGS" "Z" (.int G1)) (qt : Sta Z h "sun/nio/cs/UTF_8" "INSTANCE" "Lsun/nio/cs/UTF_8;" (.ref u8)) (qu : Sta Z h "java/nio/charset/StandardCharsets" "UTF_8" "Ljava/nio/charset/Charset;" (.ref u8)) (qv : Sta Z h "jdk/internal/util/Preconditions" "SIOOBE_FORMATTER" "Ljava/util/function/BiFunction;" G3) (qz : n0 ≤ a0) (q3 : a1 ≠ a0) (q4 : a2 ≠ a0) (q5 : a5 ≠ a0) (q6 : wb ≠ a0) (q7 : wo ≠ a0)
    (X : Sx Z "com/example/pathlattice/pathlattice/graph/Edges" prog_18_method_1_code 7 p l e ({ frames := 6, cells := 30, slots := 722, locals := 103 } : Room) (s.setVm vm0) m #[(.ref a0), (.ref a1), (.ref a2), (.ref a3), (.int (2 : Int32)), (.ref a5)] below meth cc T locs 10 508 h) (hS : s.Since vm0 k0) (hk : k0 ≤ h.size) (HR : CHr Z consts_1 s.vm s.heap vm0 h) (Z0 : n0 ≤ h.size) (N : Fr n0 locs) (Kp : Keep h0 h [a0]) (hnm : meth.name = "<init>") (hret : meth.sig.returnType = none) (hlk : meth.locks = false) :
    Go p e below (EndsH Z consts_1 s (fun v h L => ∃ rn x0 q0 x1 q1 x2 q2 : Addr, v = none ∧ Fr n0 L ∧ Keep h0 h [a0] ∧ Exa Z h a0 "com/example/pathlattice/pathlattice/graph/Edges" ∧ Fld Z h a0 "com/example/pathlattice/pathlattice/graph/Edges" "roleNames" "[Ljava/lang/String;" (.ref rn) ∧ Fld Z h a0 "com/example/pathlattice/pathlattice/graph/Edges" "roles" "[I" (.ref a3) ∧ Av Z h rn (.object "java/lang/String") [(.ref x0), (.ref x1), (.ref x2)] ∧ h0.size ≤ x0 ∧ h0.size ≤ x1 ∧ h0.size ≤ x2 ∧ StrB Z h x0 q0 [(.int b0)] ∧ StrB Z h x1 q1 [(.int b1), (.int b2)] ∧ StrB Z h x2 q2 []) ({ frames := 6, cells := 30, slots := 722, locals := 103 } : Room).cells ({ frames := 6, cells := 30, slots := 722, locals := 103 } : Room).slots) (T.setTop (mkF m 31 #[.val (.ref a0), .val (.ref a1), .val (.ref a2), .val (.ref a3), .val (.int (2 : Int32)), .val (.ref a5), .val (.int (2 : Int32))] [])) := by
 refine g_iload X d9_31 (pc' := 33) rfl rfl ?_
 refine g_aloadN X d9_33 (pc' := 34) rfl rfl rfl ?_
 refine g_arraylength X qa d9_34 (pc' := 35) rfl (z := (3 : Int32)) rfl ?_
 refine g_icN X d9_35 (tlt (show (2 : Int32) < (3 : Int32) from (by decide))).2.1 (pc' := 38) rfl ?_
 refine g_iconst X (0 : Int32) d9_38 (pc' := 39) rfl rfl ?_
 refine g_aloadN X d9_39 (pc' := 40) rfl rfl rfl ?_
 refine g_iload X d9_40 (pc' := 42) rfl rfl ?_
 refine g_iaload X qa 2 d9_42 (pc' := 43) rfl (by decide) (by decide) rfl ?_
 refine g_icN X d9_43 (flt (show ¬ (s2 < (0 : Int32)) from (bit zs2).1)).2.2.1 (pc' := 46) rfl ?_
 refine g_aloadN X d9_46 (pc' := 47) rfl rfl rfl ?_
 refine g_iload X d9_47 (pc' := 49) rfl rfl ?_
 refine g_iaload X qa 2 d9_49 (pc' := 50) rfl (by decide) (by decide) rfl ?_
 refine g_iload X d9_50 (pc' := 52) rfl rfl ?_
 refine g_icN X d9_52 (tlt (show s2 < (2 : Int32) from (bit zs2).2)).2.1 (pc' := 55) rfl ?_
 refine g_iconst X (0 : Int32) d9_55 (pc' := 56) rfl rfl ?_
 refine g_aloadN X d9_56 (pc' := 57) rfl rfl rfl ?_
 refine g_iload X d9_57 (pc' := 59) rfl rfl ?_
 refine g_iaload X qb 2 d9_59 (pc' := 60) rfl (by decide) (by decide) rfl ?_
 refine g_icN X d9_60 (flt (show ¬ (e2 < (0 : Int32)) from (bit ze2).1)).2.2.1 (pc' := 63) rfl ?_
 refine g_aloadN X d9_63 (pc' := 64) rfl rfl rfl ?_
 refine g_iload X d9_64 (pc' := 66) rfl rfl ?_
 refine g_iaload X qb 2 d9_66 (pc' := 67) rfl (by decide) (by decide) rfl ?_
 refine g_iload X d9_67 (pc' := 69) rfl rfl ?_
 refine g_icN X d9_69 (tlt (show e2 < (2 : Int32) from (bit ze2).2)).2.1 (pc' := 72) rfl ?_
 refine g_iconst X (1 : Int32) d9_72 (pc' := 73) rfl rfl ?_
 refine g_goto X d9_73 (pc' := 77) (by decide) (by decide) ?_
 refine g_ldcH X hS hk (elw hw) (List.mem_of_getElem? (i := 1) rfl) HR.1 (tb hw 60 rfl) (sAt hw) (vs := [(.int (101 : Int32)), (.int (100 : Int32)), (.int (103 : Int32)), (.int (101 : Int32)), (.int (115 : Int32)), (.int (32 : Int32)), (.int (98 : Int32)), (.int (101 : Int32)), (.int (116 : Int32)), (.int (119 : Int32)), (.int (101 : Int32)), (.int (101 : Int32)), (.int (110 : Int32)), (.int (32 : Int32)), (.int (116 : Int32)), (.int (104 : Int32)), (.int (101 : Int32)), (.int (32 : Int32)), (.int (110 : Int32)), (.int (111 : Int32)), (.int (100 : Int32)), (.int (101 : Int32)), (.int (115 : Int32))]) (z := (23 : Int32)) ⟨by decide +kernel, by first | rfl | decide +kernel⟩ (by decide) rfl d9_77 (pc' := 79) rfl (n := 92) (by decide +kernel) (by decide) (by decide) (by decide) ?_
 intro qx T h k1 q8 X Ex hS hk q9 ja jb jc HRn SF
 replace qf := qf.ext Ex
 replace qg := qg.ext Ex
 replace qh := qh.ext Ex
 replace qi := qi.ext Ex
 replace qj := qj.ext Ex
 replace qk := qk.ext Ex
 replace ql := ql.ext Ex
 replace qm := qm.ext Ex
 replace qn := qn.ext Ex
 replace qo := qo.ext Ex
 replace qa := qa.ext Ex
 replace qb := qb.ext Ex
 replace qw := qw.ext Ex
 replace qc := qc.ext Ex
 replace qd := qd.ext Ex
 replace qp := qp.ext Ex
 replace qe := qe.ext Ex
 replace qq := qq.ext Ex
 replace qr := qr.ext Ex
 replace qs := qs.ext Ex
 replace qt := qt.ext Ex
 replace qu := qu.ext Ex
 replace qv := qv.ext Ex
 replace Z0 := Nat.le_trans Z0 Ex.1
 replace Kp := Kp.ext Ex
 replace HR := HR.trans HRn
 show Go p e below _ (T.setTop (mkF m 79 _ [(.ref qx), (.int (1 : Int32))]))
 refine g_static X (W := 0) [(.int (1 : Int32)), (.ref qx)] [] (tb hw 59 rfl) (tb hw 43 rfl) (tb hw 44 rfl) (tb hw 45 rfl) (rReq l Z aa hw [] qx _) d9_79 (pc' := 82) rfl (by decide) (by decide) (by decide) rfl rfl rfl (lenOf pd_13 rfl) (Nat.le_refl _) (by decide) (by decide) ?_
 intro v T L X q
 obtain ⟨rfl, X⟩ := pureXV X q
 show Go p e below _ (T.setTop (mkF m 82 _ []))
 refine g_iconst X (0 : Int32) d9_82 (pc' := 83) rfl rfl ?_
 refine g_aloadN X d9_83 (pc' := 84) rfl rfl rfl ?_
 refine g_iload X d9_84 (pc' := 86) rfl rfl ?_
 refine g_iaload X qw 2 d9_86 (pc' := 87) rfl (by decide) (by decide) rfl ?_
 refine g_icN X d9_87 (flt (show ¬ (r2 < (0 : Int32)) from zr2.1)).2.2.1 (pc' := 90) rfl ?_
 refine g_aloadN X d9_90 (pc' := 91) rfl rfl rfl ?_
 refine g_iload X d9_91 (pc' := 93) rfl rfl ?_
 refine g_iaload X qw 2 d9_93 (pc' := 94) rfl (by decide) (by decide) rfl ?_
 refine g_aload X d9_94 (pc' := 96) rfl rfl rfl ?_
 refine g_virtual X (W := 1) (a := a5) (C := "com/example/pathlattice/pathlattice/graph/Strings") [] [(.int r2)] qc (tb hw 61 rfl) (tb hw 62 rfl) (tb hw 64 rfl) (tb hw 63 rfl) (tb hw 34 rfl) (tb hw 65 rfl) (rCnt l Z aa hw [] a5 wo _ qc qd qe) d9_96 (pc' := 99) rfl (by decide) (by decide) (by decide) rfl rfl rfl (lenOf pd_15 rfl) (Nat.le_refl _) (by decide) (by decide) ?_
 intro v T L X q
 obtain ⟨rfl, X⟩ := pureX X q
 show Go p e below _ (T.setTop (mkF m 99 _ [(.int (3 : Int32)), (.int r2)]))
 refine g_icN X d9_99 (tlt (show r2 < (3 : Int32) from zr2.2)).2.1 (pc' := 102) rfl ?_
 refine g_iconst X (1 : Int32) d9_102 (pc' := 103) rfl rfl ?_
 refine g_goto X d9_103 (pc' := 107) (by decide) (by decide) ?_
 refine g_ldcH X hS hk (elw hw) (List.mem_of_getElem? (i := 2) rfl) HR.1 (tb hw 66 rfl) (sAt hw) (vs := [(.int (114 : Int32)), (.int (111 : Int32)), (.int (108 : Int32)), (.int (101 : Int32)), (.int (115 : Int32)), (.int (32 : Int32)), (.int (111 : Int32)), (.int (102 : Int32)), (.int (32 : Int32)), (.int (116 : Int32)), (.int (104 : Int32)), (.int (101 : Int32)), (.int (32 : Int32)), (.int (101 : Int32)), (.int (100 : Int32)), (.int (103 : Int32)), (.int (101 : Int32)), (.int (115 : Int32))]) (z := (18 : Int32)) ⟨by decide +kernel, by first | rfl | decide +kernel⟩ (by decide) rfl d9_107 (pc' := 109) rfl (n := 72) (by decide +kernel) (by decide) (by decide) (by decide) ?_
 intro qy T h k1 jd X Ex hS hk je jf jg jh HRn SF
 replace qf := qf.ext Ex
 replace qg := qg.ext Ex
 replace qh := qh.ext Ex
 replace qi := qi.ext Ex
 replace qj := qj.ext Ex
 replace qk := qk.ext Ex
 replace ql := ql.ext Ex
 replace qm := qm.ext Ex
 replace qn := qn.ext Ex
 replace qo := qo.ext Ex
 replace qa := qa.ext Ex
 replace qb := qb.ext Ex
 replace qc := qc.ext Ex
 replace qd := qd.ext Ex
 replace qp := qp.ext Ex
 replace qe := qe.ext Ex
 replace qq := qq.ext Ex
 replace qr := qr.ext Ex
 replace qs := qs.ext Ex
 replace qt := qt.ext Ex
 replace qu := qu.ext Ex
 replace qv := qv.ext Ex
 replace Z0 := Nat.le_trans Z0 Ex.1
 replace Kp := Kp.ext Ex
 replace HR := HR.trans HRn
 show Go p e below _ (T.setTop (mkF m 109 _ [(.ref qy), (.int (1 : Int32))]))
 refine g_static X (W := 0) [(.int (1 : Int32)), (.ref qy)] [] (tb hw 59 rfl) (tb hw 43 rfl) (tb hw 44 rfl) (tb hw 45 rfl) (rReq l Z aa hw [] qy _) d9_109 (pc' := 112) rfl (by decide) (by decide) (by decide) rfl rfl rfl (lenOf pd_13 rfl) (Nat.le_refl _) (by decide) (by decide) ?_
 intro v T L X q
 obtain ⟨rfl, X⟩ := pureXV X q
 show Go p e below _ (T.setTop (mkF m 112 _ []))
 refine g_iinc X d9_112 (pc' := 115) (q := (1 : Int32)) (Ls' := #[.val (.ref a0), .val (.ref a1), .val (.ref a2), .val (.ref a3), .val (.int (2 : Int32)), .val (.ref a5), .val (.int (3 : Int32))]) rfl rfl rfl rfl ?_
 refine g_goto X d9_115 (pc' := 31) (by decide) (by decide) ?_
 refine g_iload X d9_31 (pc' := 33) rfl rfl ?_
 refine g_aloadN X d9_33 (pc' := 34) rfl rfl rfl ?_
 refine g_arraylength X qa d9_34 (pc' := 35) rfl (z := (3 : Int32)) rfl ?_
 refine g_icY X d9_35 (flt (show ¬ ((3 : Int32) < (3 : Int32)) from (by decide))).2.1 (pc' := 118) (by decide) (by decide) ?_
 exact rEdi3 l Z aa hw a0 a1 a2 a3 a5 wo wb u8 s0 s1 s2 e0 e1 e2 r0 r1 r2 b0 b1 b2 G1 G3 h0 n0 P5 rG3 nb0 nb1 nb2 hfit zs0 zs1 zs2 ze0 ze1 ze2 qf qg qh qi qj qk ql qm qn qo qa qb qc qd qp qe qq qr qs qt qu qv qz q3 q4 q5 q6 q7 X hS hk HR Z0 N Kp hnm hret hlk
set_option maxRecDepth 65536 in
set_option maxHeartbeats 40000000 in
theorem rEdi1 (l : Launch) (Z : State) (aa : Array Value) (hw : ∀ d ∈ tables_1, d.before aa Z = true) (a0 : Addr) (a1 : Addr) (a2 : Addr) (a3 : Addr) (a5 : Addr) (wo : Addr) (wb : Addr) (u8 : Addr) (s0 : Int32) (s1 : Int32) (s2 : Int32) (e0 : Int32) (e1 : Int32) (e2 : Int32) (r0 : Int32) (r1 : Int32) (r2 : Int32) (b0 : Int32) (b1 : Int32) (b2 : Int32) (G1 : Int32) (G3 : Value) (h0 : Heap) (n0 : Nat) {p : Program} {e : Env} {s : State} {m : MethodId} {below : List Frame} {meth : Method} {cc : Code} {T : State} {locs : List Loc} {h : Heap} {vm0 : Vm} {k0 : Nat} (P5 : ¬ G1 = (0 : Int32)) (rG3 : G3.isRef = true) (nb0 : ¬ b0 < (0 : Int32)) (nb1 : ¬ b1 < (0 : Int32)) (nb2 : ¬ b2 < (0 : Int32)) (hfit : ∀ v ∈ ([(.int b0), (.int b1), (.int b2)] : List Value), fits .byte v = true) (zs0 : s0 = 0 ∨ s0 = 1) (zs1 : s1 = 0 ∨ s1 = 1) (zs2 : s2 = 0 ∨ s2 = 1) (ze0 : e0 = 0 ∨ e0 = 1) (ze1 : e1 = 0 ∨ e1 = 1) (ze2 : e2 = 0 ∨ e2 = 1) (zr1 : ¬ r1 < (0 : Int32) ∧ r1 < (3 : Int32)) (zr2 : ¬ r2 < (0 : Int32) ∧ r2 < (3 : Int32)) (qg : Exa Z h a0 "com/example/pathlattice/pathlattice/graph/Edges") (qh : Fld Z h a0 "com/example/pathlattice/pathlattice/graph/Edges" "nodeCount" "I" (.int (0 : Int32))) (qi : Fld Z h a0 "com/example/pathlattice/pathlattice/graph/Edges" "starts" "[I" .null) (qj : Fld Z h a0 "com/example/pathlattice/pathlattice/graph/Edges" "ends" "[I" .null) (qk : Fld Z h a0 "com/example/pathlattice/pathlattice/graph/Edges" "roles" "[I" .null) (ql : Fld Z h a0 "com/example/pathlattice/pathlattice/graph/Edges" "roleNames" "[Ljava/lang/String;" .null) (qm : Fld Z h a0 "com/example/pathlattice/pathlattice/graph/Edges" "outOffsets" "[I" .null) (qn : Fld Z h a0 "com/example/pathlattice/pathlattice/graph/Edges" "outgoing" "[I" .null) (qo : Fld Z h a0 "com/example/pathlattice/pathlattice/graph/Edges" "inOffsets" "[I" .null) (qp : Fld Z h a0 "com/example/pathlattice/pathlattice/graph/Edges" "incoming" "[I" .null) (qa : Av Z h a1 .int [(.int s0), (.int s1), (.int s2)]) (qb : Av Z h a2 .int [(.int e0), (.int e1), (.int e2)]) (qc : Av Z h a3 .int [(.int r0), (.int r1), (.int r2)]) (qd : Exa Z h a5 "com/example/pathlattice/pathlattice/graph/Strings") (qe : Fld Z h a5 "com/example/pathlattice/pathlattice/graph/Strings" "offsets" "[I" (.ref wo)) (qq : Fld Z h a5 "com/example/pathlattice/pathlattice/graph/Strings" "bytes" "[B" (.ref wb)) (qf : Av Z h wo .int [(.int (0 : Int32)), (.int (1 : Int32)), (.int (3 : Int32)), (.int (3 : Int32))]) (qr : Av Z h wb .byte [(.int b0), (.int b1), (.int b2)]) (qs : Exa Z h u8 "sun/nio/cs/UTF_8") (qt : Sta Z h "java/lang/String" "COMPACT_STRINGS" "Z" (.int G1)) (qu : Sta Z h "sun/nio/cs/UTF_8" "INSTANCE" "Lsun/nio/cs/UTF_8;" (.ref u8)) (qv : Sta Z h "java/nio/charset/StandardCharsets" "UTF_8" "Ljava/nio/charset/Charset;" (.ref u8)) (qw : Sta Z h "jdk/internal/util/Preconditions" "SIOOBE_FORMATTER" "Ljava/util/function/BiFunction;" G3) (qz : n0 ≤ a0) (q3 : a1 ≠ a0) (q4 : a2 ≠ a0) (q5 : a5 ≠ a0) (q6 : wb ≠ a0) (q7 : wo ≠ a0)
    (X : Sx Z "com/example/pathlattice/pathlattice/graph/Edges" prog_18_method_1_code 7 p l e ({ frames := 6, cells := 30, slots := 722, locals := 103 } : Room) (s.setVm vm0) m #[(.ref a0), (.ref a1), (.ref a2), (.ref a3), (.int (2 : Int32)), (.ref a5)] below meth cc T locs 6 336 h) (hS : s.Since vm0 k0) (hk : k0 ≤ h.size) (HR : CHr Z consts_1 s.vm s.heap vm0 h) (Z0 : n0 ≤ h.size) (N : Fr n0 locs) (Kp : Keep h0 h [a0]) (hnm : meth.name = "<init>") (hret : meth.sig.returnType = none) (hlk : meth.locks = false) :
    Go p e below (EndsH Z consts_1 s (fun v h L => ∃ rn x0 q0 x1 q1 x2 q2 : Addr, v = none ∧ Fr n0 L ∧ Keep h0 h [a0] ∧ Exa Z h a0 "com/example/pathlattice/pathlattice/graph/Edges" ∧ Fld Z h a0 "com/example/pathlattice/pathlattice/graph/Edges" "roleNames" "[Ljava/lang/String;" (.ref rn) ∧ Fld Z h a0 "com/example/pathlattice/pathlattice/graph/Edges" "roles" "[I" (.ref a3) ∧ Av Z h rn (.object "java/lang/String") [(.ref x0), (.ref x1), (.ref x2)] ∧ h0.size ≤ x0 ∧ h0.size ≤ x1 ∧ h0.size ≤ x2 ∧ StrB Z h x0 q0 [(.int b0)] ∧ StrB Z h x1 q1 [(.int b1), (.int b2)] ∧ StrB Z h x2 q2 []) ({ frames := 6, cells := 30, slots := 722, locals := 103 } : Room).cells ({ frames := 6, cells := 30, slots := 722, locals := 103 } : Room).slots) (T.setTop (mkF m 31 #[.val (.ref a0), .val (.ref a1), .val (.ref a2), .val (.ref a3), .val (.int (2 : Int32)), .val (.ref a5), .val (.int (1 : Int32))] [])) := by
 refine g_iload X d9_31 (pc' := 33) rfl rfl ?_
 refine g_aloadN X d9_33 (pc' := 34) rfl rfl rfl ?_
 refine g_arraylength X qa d9_34 (pc' := 35) rfl (z := (3 : Int32)) rfl ?_
 refine g_icN X d9_35 (tlt (show (1 : Int32) < (3 : Int32) from (by decide))).2.1 (pc' := 38) rfl ?_
 refine g_iconst X (0 : Int32) d9_38 (pc' := 39) rfl rfl ?_
 refine g_aloadN X d9_39 (pc' := 40) rfl rfl rfl ?_
 refine g_iload X d9_40 (pc' := 42) rfl rfl ?_
 refine g_iaload X qa 1 d9_42 (pc' := 43) rfl (by decide) (by decide) rfl ?_
 refine g_icN X d9_43 (flt (show ¬ (s1 < (0 : Int32)) from (bit zs1).1)).2.2.1 (pc' := 46) rfl ?_
 refine g_aloadN X d9_46 (pc' := 47) rfl rfl rfl ?_
 refine g_iload X d9_47 (pc' := 49) rfl rfl ?_
 refine g_iaload X qa 1 d9_49 (pc' := 50) rfl (by decide) (by decide) rfl ?_
 refine g_iload X d9_50 (pc' := 52) rfl rfl ?_
 refine g_icN X d9_52 (tlt (show s1 < (2 : Int32) from (bit zs1).2)).2.1 (pc' := 55) rfl ?_
 refine g_iconst X (0 : Int32) d9_55 (pc' := 56) rfl rfl ?_
 refine g_aloadN X d9_56 (pc' := 57) rfl rfl rfl ?_
 refine g_iload X d9_57 (pc' := 59) rfl rfl ?_
 refine g_iaload X qb 1 d9_59 (pc' := 60) rfl (by decide) (by decide) rfl ?_
 refine g_icN X d9_60 (flt (show ¬ (e1 < (0 : Int32)) from (bit ze1).1)).2.2.1 (pc' := 63) rfl ?_
 refine g_aloadN X d9_63 (pc' := 64) rfl rfl rfl ?_
 refine g_iload X d9_64 (pc' := 66) rfl rfl ?_
 refine g_iaload X qb 1 d9_66 (pc' := 67) rfl (by decide) (by decide) rfl ?_
 refine g_iload X d9_67 (pc' := 69) rfl rfl ?_
 refine g_icN X d9_69 (tlt (show e1 < (2 : Int32) from (bit ze1).2)).2.1 (pc' := 72) rfl ?_
 refine g_iconst X (1 : Int32) d9_72 (pc' := 73) rfl rfl ?_
 refine g_goto X d9_73 (pc' := 77) (by decide) (by decide) ?_
 refine g_ldcH X hS hk (elw hw) (List.mem_of_getElem? (i := 1) rfl) HR.1 (tb hw 60 rfl) (sAt hw) (vs := [(.int (101 : Int32)), (.int (100 : Int32)), (.int (103 : Int32)), (.int (101 : Int32)), (.int (115 : Int32)), (.int (32 : Int32)), (.int (98 : Int32)), (.int (101 : Int32)), (.int (116 : Int32)), (.int (119 : Int32)), (.int (101 : Int32)), (.int (101 : Int32)), (.int (110 : Int32)), (.int (32 : Int32)), (.int (116 : Int32)), (.int (104 : Int32)), (.int (101 : Int32)), (.int (32 : Int32)), (.int (110 : Int32)), (.int (111 : Int32)), (.int (100 : Int32)), (.int (101 : Int32)), (.int (115 : Int32))]) (z := (23 : Int32)) ⟨by decide +kernel, by first | rfl | decide +kernel⟩ (by decide) rfl d9_77 (pc' := 79) rfl (n := 92) (by decide +kernel) (by decide) (by decide) (by decide) ?_
 intro qx T h k1 q8 X Ex hS hk q9 ja jb jc HRn SF
 replace qg := qg.ext Ex
 replace qh := qh.ext Ex
 replace qi := qi.ext Ex
 replace qj := qj.ext Ex
 replace qk := qk.ext Ex
 replace ql := ql.ext Ex
 replace qm := qm.ext Ex
 replace qn := qn.ext Ex
 replace qo := qo.ext Ex
 replace qp := qp.ext Ex
 replace qa := qa.ext Ex
 replace qb := qb.ext Ex
 replace qc := qc.ext Ex
 replace qd := qd.ext Ex
 replace qe := qe.ext Ex
 replace qq := qq.ext Ex
 replace qf := qf.ext Ex
 replace qr := qr.ext Ex
 replace qs := qs.ext Ex
 replace qt := qt.ext Ex
 replace qu := qu.ext Ex
 replace qv := qv.ext Ex
 replace qw := qw.ext Ex
 replace Z0 := Nat.le_trans Z0 Ex.1
 replace Kp := Kp.ext Ex
 replace HR := HR.trans HRn
 show Go p e below _ (T.setTop (mkF m 79 _ [(.ref qx), (.int (1 : Int32))]))
 refine g_static X (W := 0) [(.int (1 : Int32)), (.ref qx)] [] (tb hw 59 rfl) (tb hw 43 rfl) (tb hw 44 rfl) (tb hw 45 rfl) (rReq l Z aa hw [] qx _) d9_79 (pc' := 82) rfl (by decide) (by decide) (by decide) rfl rfl rfl (lenOf pd_13 rfl) (Nat.le_refl _) (by decide) (by decide) ?_
 intro v T L X q
 obtain ⟨rfl, X⟩ := pureXV X q
 show Go p e below _ (T.setTop (mkF m 82 _ []))
 refine g_iconst X (0 : Int32) d9_82 (pc' := 83) rfl rfl ?_
 refine g_aloadN X d9_83 (pc' := 84) rfl rfl rfl ?_
 refine g_iload X d9_84 (pc' := 86) rfl rfl ?_
 refine g_iaload X qc 1 d9_86 (pc' := 87) rfl (by decide) (by decide) rfl ?_
 refine g_icN X d9_87 (flt (show ¬ (r1 < (0 : Int32)) from zr1.1)).2.2.1 (pc' := 90) rfl ?_
 refine g_aloadN X d9_90 (pc' := 91) rfl rfl rfl ?_
 refine g_iload X d9_91 (pc' := 93) rfl rfl ?_
 refine g_iaload X qc 1 d9_93 (pc' := 94) rfl (by decide) (by decide) rfl ?_
 refine g_aload X d9_94 (pc' := 96) rfl rfl rfl ?_
 refine g_virtual X (W := 1) (a := a5) (C := "com/example/pathlattice/pathlattice/graph/Strings") [] [(.int r1)] qd (tb hw 61 rfl) (tb hw 62 rfl) (tb hw 64 rfl) (tb hw 63 rfl) (tb hw 34 rfl) (tb hw 65 rfl) (rCnt l Z aa hw [] a5 wo _ qd qe qf) d9_96 (pc' := 99) rfl (by decide) (by decide) (by decide) rfl rfl rfl (lenOf pd_15 rfl) (Nat.le_refl _) (by decide) (by decide) ?_
 intro v T L X q
 obtain ⟨rfl, X⟩ := pureX X q
 show Go p e below _ (T.setTop (mkF m 99 _ [(.int (3 : Int32)), (.int r1)]))
 refine g_icN X d9_99 (tlt (show r1 < (3 : Int32) from zr1.2)).2.1 (pc' := 102) rfl ?_
 refine g_iconst X (1 : Int32) d9_102 (pc' := 103) rfl rfl ?_
 refine g_goto X d9_103 (pc' := 107) (by decide) (by decide) ?_
 refine g_ldcH X hS hk (elw hw) (List.mem_of_getElem? (i := 2) rfl) HR.1 (tb hw 66 rfl) (sAt hw) (vs := [(.int (114 : Int32)), (.int (111 : Int32)), (.int (108 : Int32)), (.int (101 : Int32)), (.int (115 : Int32)), (.int (32 : Int32)), (.int (111 : Int32)), (.int (102 : Int32)), (.int (32 : Int32)), (.int (116 : Int32)), (.int (104 : Int32)), (.int (101 : Int32)), (.int (32 : Int32)), (.int (101 : Int32)), (.int (100 : Int32)), (.int (103 : Int32)), (.int (101 : Int32)), (.int (115 : Int32))]) (z := (18 : Int32)) ⟨by decide +kernel, by first | rfl | decide +kernel⟩ (by decide) rfl d9_107 (pc' := 109) rfl (n := 72) (by decide +kernel) (by decide) (by decide) (by decide) ?_
 intro qy T h k1 jd X Ex hS hk je jf jg jh HRn SF
 replace qg := qg.ext Ex
 replace qh := qh.ext Ex
 replace qi := qi.ext Ex
 replace qj := qj.ext Ex
 replace qk := qk.ext Ex
 replace ql := ql.ext Ex
 replace qm := qm.ext Ex
 replace qn := qn.ext Ex
 replace qo := qo.ext Ex
 replace qp := qp.ext Ex
 replace qa := qa.ext Ex
 replace qb := qb.ext Ex
 replace qc := qc.ext Ex
 replace qd := qd.ext Ex
 replace qe := qe.ext Ex
 replace qq := qq.ext Ex
 replace qf := qf.ext Ex
 replace qr := qr.ext Ex
 replace qs := qs.ext Ex
 replace qt := qt.ext Ex
 replace qu := qu.ext Ex
 replace qv := qv.ext Ex
 replace qw := qw.ext Ex
 replace Z0 := Nat.le_trans Z0 Ex.1
 replace Kp := Kp.ext Ex
 replace HR := HR.trans HRn
 show Go p e below _ (T.setTop (mkF m 109 _ [(.ref qy), (.int (1 : Int32))]))
 refine g_static X (W := 0) [(.int (1 : Int32)), (.ref qy)] [] (tb hw 59 rfl) (tb hw 43 rfl) (tb hw 44 rfl) (tb hw 45 rfl) (rReq l Z aa hw [] qy _) d9_109 (pc' := 112) rfl (by decide) (by decide) (by decide) rfl rfl rfl (lenOf pd_13 rfl) (Nat.le_refl _) (by decide) (by decide) ?_
 intro v T L X q
 obtain ⟨rfl, X⟩ := pureXV X q
 show Go p e below _ (T.setTop (mkF m 112 _ []))
 refine g_iinc X d9_112 (pc' := 115) (q := (1 : Int32)) (Ls' := #[.val (.ref a0), .val (.ref a1), .val (.ref a2), .val (.ref a3), .val (.int (2 : Int32)), .val (.ref a5), .val (.int (2 : Int32))]) rfl rfl rfl rfl ?_
 refine g_goto X d9_115 (pc' := 31) (by decide) (by decide) ?_
 exact rEdi2 l Z aa hw a0 a1 a2 a3 a5 wo wb u8 s0 s1 s2 e0 e1 e2 r0 r1 r2 b0 b1 b2 G1 G3 h0 n0 P5 rG3 nb0 nb1 nb2 hfit zs0 zs1 zs2 ze0 ze1 ze2 zr2 qg qh qi qj qk ql qm qn qo qp qa qb qc qd qe qq qf qr qs qt qu qv qw qz q3 q4 q5 q6 q7 X hS hk HR Z0 N Kp hnm hret hlk
theorem ef_rEdi (m : MethodId) (x0 : Addr) (x1 : Addr) (x2 : Addr) (x3 : Addr) (x4 : Int32) (x5 : Addr) : entryFrame m #[(.ref x0), (.ref x1), (.ref x2), (.ref x3), (.int x4), (.ref x5)] 7 = mkF m 0 #[.val (.ref x0), .val (.ref x1), .val (.ref x2), .val (.ref x3), .val (.int x4), .val (.ref x5), .unset] [] := by first | (simp [entryFrame, mkF, argsToLocals, Value.category]; done) | rfl
set_option maxRecDepth 65536 in
set_option maxHeartbeats 40000000 in
theorem rEdi (l : Launch) (Z : State) (aa : Array Value) (hw : ∀ d ∈ tables_1, d.before aa Z = true) (ws : List Jvm.Cond) (a0 : Addr) (a1 : Addr) (a2 : Addr) (a3 : Addr) (a5 : Addr) (wo : Addr) (wb : Addr) (u8 : Addr) (s0 : Int32) (s1 : Int32) (s2 : Int32) (e0 : Int32) (e1 : Int32) (e2 : Int32) (r0 : Int32) (r1 : Int32) (r2 : Int32) (b0 : Int32) (b1 : Int32) (b2 : Int32) (G1 : Int32) (G3 : Value) (h0 : Heap) (n0 : Nat) (Z0 : n0 ≤ h0.size) (qg : Exa Z h0 a0 "com/example/pathlattice/pathlattice/graph/Edges") (qh : Fld Z h0 a0 "com/example/pathlattice/pathlattice/graph/Edges" "nodeCount" "I" (.int (0 : Int32))) (qi : Fld Z h0 a0 "com/example/pathlattice/pathlattice/graph/Edges" "starts" "[I" .null) (qj : Fld Z h0 a0 "com/example/pathlattice/pathlattice/graph/Edges" "ends" "[I" .null) (qk : Fld Z h0 a0 "com/example/pathlattice/pathlattice/graph/Edges" "roles" "[I" .null) (ql : Fld Z h0 a0 "com/example/pathlattice/pathlattice/graph/Edges" "roleNames" "[Ljava/lang/String;" .null) (qm : Fld Z h0 a0 "com/example/pathlattice/pathlattice/graph/Edges" "outOffsets" "[I" .null) (qn : Fld Z h0 a0 "com/example/pathlattice/pathlattice/graph/Edges" "outgoing" "[I" .null) (qo : Fld Z h0 a0 "com/example/pathlattice/pathlattice/graph/Edges" "inOffsets" "[I" .null) (qp : Fld Z h0 a0 "com/example/pathlattice/pathlattice/graph/Edges" "incoming" "[I" .null) (qa : Av Z h0 a1 .int [(.int s0), (.int s1), (.int s2)]) (qb : Av Z h0 a2 .int [(.int e0), (.int e1), (.int e2)]) (qc : Av Z h0 a3 .int [(.int r0), (.int r1), (.int r2)]) (qd : Exa Z h0 a5 "com/example/pathlattice/pathlattice/graph/Strings") (qe : Fld Z h0 a5 "com/example/pathlattice/pathlattice/graph/Strings" "offsets" "[I" (.ref wo)) (qq : Fld Z h0 a5 "com/example/pathlattice/pathlattice/graph/Strings" "bytes" "[B" (.ref wb)) (qf : Av Z h0 wo .int [(.int (0 : Int32)), (.int (1 : Int32)), (.int (3 : Int32)), (.int (3 : Int32))]) (qr : Av Z h0 wb .byte [(.int b0), (.int b1), (.int b2)]) (q3 : n0 ≤ a0) (q4 : a1 ≠ a0) (q5 : a2 ≠ a0) (q9 : a3 ≠ a0) (q6 : a5 ≠ a0) (q7 : wo ≠ a0) (q8 : wb ≠ a0) (ja : u8 ≠ a0) (qs : Sta Z h0 "java/lang/String" "COMPACT_STRINGS" "Z" (.int G1)) (P5 : ¬ G1 = (0 : Int32)) (qt : Sta Z h0 "sun/nio/cs/UTF_8" "INSTANCE" "Lsun/nio/cs/UTF_8;" (.ref u8)) (qu : Exa Z h0 u8 "sun/nio/cs/UTF_8") (qv : Sta Z h0 "java/nio/charset/StandardCharsets" "UTF_8" "Ljava/nio/charset/Charset;" (.ref u8)) (qw : Sta Z h0 "jdk/internal/util/Preconditions" "SIOOBE_FORMATTER" "Ljava/util/function/BiFunction;" G3) (rG3 : G3.isRef = true) (nb0 : ¬ b0 < (0 : Int32)) (nb1 : ¬ b1 < (0 : Int32)) (nb2 : ¬ b2 < (0 : Int32)) (hfit : ∀ v ∈ ([(.int b0), (.int b1), (.int b2)] : List Value), fits .byte v = true) (zs0 : s0 = 0 ∨ s0 = 1) (zs1 : s1 = 0 ∨ s1 = 1) (zs2 : s2 = 0 ∨ s2 = 1) (ze0 : e0 = 0 ∨ e0 = 1) (ze1 : e1 = 0 ∨ e1 = 1) (ze2 : e2 = 0 ∨ e2 = 1) (zr0 : ¬ r0 < (0 : Int32) ∧ r0 < (3 : Int32)) (zr1 : ¬ r1 < (0 : Int32) ∧ r1 < (3 : Int32)) (zr2 : ¬ r2 < (0 : Int32) ∧ r2 < (3 : Int32)) :
    RmS l Z consts_1 [] (Jvm.Cond.code (⟨"com/example/pathlattice/pathlattice/graph/Edges", "<init>", "([I[I[IILcom/example/pathlattice/pathlattice/graph/Strings;)V"⟩ : MethodName) prog_18_method_1_code 7 none) (⟨"com/example/pathlattice/pathlattice/graph/Edges", "<init>", "([I[I[IILcom/example/pathlattice/pathlattice/graph/Strings;)V"⟩ : MethodName) ({ frames := 6, cells := 30, slots := 722, locals := 103 } : Room) #[(.ref a0), (.ref a1), (.ref a2), (.ref a3), (.int (2 : Int32)), (.ref a5)] h0 (fun v h L => ∃ rn x0 q0 x1 q1 x2 q2 : Addr, v = none ∧ Fr n0 L ∧ Keep h0 h [a0] ∧ Exa Z h a0 "com/example/pathlattice/pathlattice/graph/Edges" ∧ Fld Z h a0 "com/example/pathlattice/pathlattice/graph/Edges" "roleNames" "[Ljava/lang/String;" (.ref rn) ∧ Fld Z h a0 "com/example/pathlattice/pathlattice/graph/Edges" "roles" "[I" (.ref a3) ∧ Av Z h rn (.object "java/lang/String") [(.ref x0), (.ref x1), (.ref x2)] ∧ h0.size ≤ x0 ∧ h0.size ≤ x1 ∧ h0.size ≤ x2 ∧ StrB Z h x0 q0 [(.int b0)] ∧ StrB Z h x1 q1 [(.int b1), (.int b2)] ∧ StrB Z h x2 q2 []) := by
 refine RmS.of (plainFor_of_name pn_8) ?_
 intro p e s m below meth cc T X hS hk HR hSS hnm hret hlk
 refine Go.at_ (ef_rEdi m a0 a1 a2 a3 (2 : Int32) a5) ?_
 have N := Fr.nil n0
 have Kp := Keep.refl h0 [a0]
 refine g_aloadN X d9_0 (pc' := 1) rfl rfl rfl ?_
 refine g_initO X (W := 0) (tb hw 57 rfl) (tb hw 15 rfl) (tb hw 16 rfl) d9_1 (pc' := 4) rfl rfl (by decide) (Nat.le_refl _) (by decide) ?_
 intro T X
 refine g_aloadN X d9_4 (pc' := 5) rfl rfl rfl ?_
 refine g_arraylength X qb d9_5 (pc' := 6) rfl (z := (3 : Int32)) rfl ?_
 refine g_aloadN X d9_6 (pc' := 7) rfl rfl rfl ?_
 refine g_arraylength X qa d9_7 (pc' := 8) rfl (z := (3 : Int32)) rfl ?_
 refine g_icN X d9_8 (teq (show (3 : Int32) = (3 : Int32) from (by decide))).2 (pc' := 11) rfl ?_
 refine g_aloadN X d9_11 (pc' := 12) rfl rfl rfl ?_
 refine g_arraylength X qc d9_12 (pc' := 13) rfl (z := (3 : Int32)) rfl ?_
 refine g_aloadN X d9_13 (pc' := 14) rfl rfl rfl ?_
 refine g_arraylength X qa d9_14 (pc' := 15) rfl (z := (3 : Int32)) rfl ?_
 refine g_icN X d9_15 (teq (show (3 : Int32) = (3 : Int32) from (by decide))).2 (pc' := 18) rfl ?_
 refine g_iconst X (1 : Int32) d9_18 (pc' := 19) rfl rfl ?_
 refine g_goto X d9_19 (pc' := 23) (by decide) (by decide) ?_
 refine g_ldcH X hS hk (elw hw) (List.mem_of_getElem? (i := 0) rfl) HR.1 (tb hw 58 rfl) (sAt hw) (vs := [(.int (97 : Int32)), (.int (32 : Int32)), (.int (115 : Int32)), (.int (116 : Int32)), (.int (97 : Int32)), (.int (114 : Int32)), (.int (116 : Int32)), (.int (44 : Int32)), (.int (32 : Int32)), (.int (97 : Int32)), (.int (110 : Int32)), (.int (32 : Int32)), (.int (101 : Int32)), (.int (110 : Int32)), (.int (100 : Int32)), (.int (32 : Int32)), (.int (97 : Int32)), (.int (110 : Int32)), (.int (100 : Int32)), (.int (32 : Int32)), (.int (97 : Int32)), (.int (32 : Int32)), (.int (114 : Int32)), (.int (111 : Int32)), (.int (108 : Int32)), (.int (101 : Int32)), (.int (32 : Int32)), (.int (102 : Int32)), (.int (111 : Int32)), (.int (114 : Int32)), (.int (32 : Int32)), (.int (101 : Int32)), (.int (97 : Int32)), (.int (99 : Int32)), (.int (104 : Int32)), (.int (32 : Int32)), (.int (101 : Int32)), (.int (100 : Int32)), (.int (103 : Int32)), (.int (101 : Int32))]) (z := (40 : Int32)) ⟨by decide +kernel, by first | rfl | decide +kernel⟩ (by decide) rfl d9_23 (pc' := 25) rfl (n := 160) (by decide +kernel) (by decide) (by decide) (by decide) ?_
 intro qx T h k1 jb X Ex hS hk jc jd je jf HRn SF
 replace qg := qg.ext Ex
 replace qh := qh.ext Ex
 replace qi := qi.ext Ex
 replace qj := qj.ext Ex
 replace qk := qk.ext Ex
 replace ql := ql.ext Ex
 replace qm := qm.ext Ex
 replace qn := qn.ext Ex
 replace qo := qo.ext Ex
 replace qp := qp.ext Ex
 replace qa := qa.ext Ex
 replace qb := qb.ext Ex
 replace qc := qc.ext Ex
 replace qd := qd.ext Ex
 replace qe := qe.ext Ex
 replace qq := qq.ext Ex
 replace qf := qf.ext Ex
 replace qr := qr.ext Ex
 replace qu := qu.ext Ex
 replace qs := qs.ext Ex
 replace qt := qt.ext Ex
 replace qv := qv.ext Ex
 replace qw := qw.ext Ex
 replace Z0 := Nat.le_trans Z0 Ex.1
 replace Kp := Kp.ext Ex
 replace HR := HR.trans HRn
 show Go p e below _ (T.setTop (mkF m 25 _ [(.ref qx), (.int (1 : Int32))]))
 refine g_static X (W := 0) [(.int (1 : Int32)), (.ref qx)] [] (tb hw 59 rfl) (tb hw 43 rfl) (tb hw 44 rfl) (tb hw 45 rfl) (rReq l Z aa hw [] qx _) d9_25 (pc' := 28) rfl (by decide) (by decide) (by decide) rfl rfl rfl (lenOf pd_13 rfl) (Nat.le_refl _) (by decide) (by decide) ?_
 intro v T L X q
 obtain ⟨rfl, X⟩ := pureXV X q
 show Go p e below _ (T.setTop (mkF m 28 _ []))
 refine g_iconst X (0 : Int32) d9_28 (pc' := 29) rfl rfl ?_
 refine g_istore X d9_29 (pc' := 31) (Ls' := #[.val (.ref a0), .val (.ref a1), .val (.ref a2), .val (.ref a3), .val (.int (2 : Int32)), .val (.ref a5), .val (.int (0 : Int32))]) rfl rfl ?_
 refine g_iload X d9_31 (pc' := 33) rfl rfl ?_
 refine g_aloadN X d9_33 (pc' := 34) rfl rfl rfl ?_
 refine g_arraylength X qa d9_34 (pc' := 35) rfl (z := (3 : Int32)) rfl ?_
 refine g_icN X d9_35 (tlt (show (0 : Int32) < (3 : Int32) from (by decide))).2.1 (pc' := 38) rfl ?_
 refine g_iconst X (0 : Int32) d9_38 (pc' := 39) rfl rfl ?_
 refine g_aloadN X d9_39 (pc' := 40) rfl rfl rfl ?_
 refine g_iload X d9_40 (pc' := 42) rfl rfl ?_
 refine g_iaload X qa 0 d9_42 (pc' := 43) rfl (by decide) (by decide) rfl ?_
 refine g_icN X d9_43 (flt (show ¬ (s0 < (0 : Int32)) from (bit zs0).1)).2.2.1 (pc' := 46) rfl ?_
 refine g_aloadN X d9_46 (pc' := 47) rfl rfl rfl ?_
 refine g_iload X d9_47 (pc' := 49) rfl rfl ?_
 refine g_iaload X qa 0 d9_49 (pc' := 50) rfl (by decide) (by decide) rfl ?_
 refine g_iload X d9_50 (pc' := 52) rfl rfl ?_
 refine g_icN X d9_52 (tlt (show s0 < (2 : Int32) from (bit zs0).2)).2.1 (pc' := 55) rfl ?_
 refine g_iconst X (0 : Int32) d9_55 (pc' := 56) rfl rfl ?_
 refine g_aloadN X d9_56 (pc' := 57) rfl rfl rfl ?_
 refine g_iload X d9_57 (pc' := 59) rfl rfl ?_
 refine g_iaload X qb 0 d9_59 (pc' := 60) rfl (by decide) (by decide) rfl ?_
 refine g_icN X d9_60 (flt (show ¬ (e0 < (0 : Int32)) from (bit ze0).1)).2.2.1 (pc' := 63) rfl ?_
 refine g_aloadN X d9_63 (pc' := 64) rfl rfl rfl ?_
 refine g_iload X d9_64 (pc' := 66) rfl rfl ?_
 refine g_iaload X qb 0 d9_66 (pc' := 67) rfl (by decide) (by decide) rfl ?_
 refine g_iload X d9_67 (pc' := 69) rfl rfl ?_
 refine g_icN X d9_69 (tlt (show e0 < (2 : Int32) from (bit ze0).2)).2.1 (pc' := 72) rfl ?_
 refine g_iconst X (1 : Int32) d9_72 (pc' := 73) rfl rfl ?_
 refine g_goto X d9_73 (pc' := 77) (by decide) (by decide) ?_
 refine g_ldcH X hS hk (elw hw) (List.mem_of_getElem? (i := 1) rfl) HR.1 (tb hw 60 rfl) (sAt hw) (vs := [(.int (101 : Int32)), (.int (100 : Int32)), (.int (103 : Int32)), (.int (101 : Int32)), (.int (115 : Int32)), (.int (32 : Int32)), (.int (98 : Int32)), (.int (101 : Int32)), (.int (116 : Int32)), (.int (119 : Int32)), (.int (101 : Int32)), (.int (101 : Int32)), (.int (110 : Int32)), (.int (32 : Int32)), (.int (116 : Int32)), (.int (104 : Int32)), (.int (101 : Int32)), (.int (32 : Int32)), (.int (110 : Int32)), (.int (111 : Int32)), (.int (100 : Int32)), (.int (101 : Int32)), (.int (115 : Int32))]) (z := (23 : Int32)) ⟨by decide +kernel, by first | rfl | decide +kernel⟩ (by decide) rfl d9_77 (pc' := 79) rfl (n := 92) (by decide +kernel) (by decide) (by decide) (by decide) ?_
 intro qy T h k1 jg X Ex hS hk jh ji jj jk HRn SF
 replace qg := qg.ext Ex
 replace qh := qh.ext Ex
 replace qi := qi.ext Ex
 replace qj := qj.ext Ex
 replace qk := qk.ext Ex
 replace ql := ql.ext Ex
 replace qm := qm.ext Ex
 replace qn := qn.ext Ex
 replace qo := qo.ext Ex
 replace qp := qp.ext Ex
 replace qa := qa.ext Ex
 replace qb := qb.ext Ex
 replace qc := qc.ext Ex
 replace qd := qd.ext Ex
 replace qe := qe.ext Ex
 replace qq := qq.ext Ex
 replace qf := qf.ext Ex
 replace qr := qr.ext Ex
 replace qu := qu.ext Ex
 replace qs := qs.ext Ex
 replace qt := qt.ext Ex
 replace qv := qv.ext Ex
 replace qw := qw.ext Ex
 replace Z0 := Nat.le_trans Z0 Ex.1
 replace Kp := Kp.ext Ex
 replace HR := HR.trans HRn
 show Go p e below _ (T.setTop (mkF m 79 _ [(.ref qy), (.int (1 : Int32))]))
 refine g_static X (W := 0) [(.int (1 : Int32)), (.ref qy)] [] (tb hw 59 rfl) (tb hw 43 rfl) (tb hw 44 rfl) (tb hw 45 rfl) (rReq l Z aa hw [] qy _) d9_79 (pc' := 82) rfl (by decide) (by decide) (by decide) rfl rfl rfl (lenOf pd_13 rfl) (Nat.le_refl _) (by decide) (by decide) ?_
 intro v T L X q
 obtain ⟨rfl, X⟩ := pureXV X q
 show Go p e below _ (T.setTop (mkF m 82 _ []))
 refine g_iconst X (0 : Int32) d9_82 (pc' := 83) rfl rfl ?_
 refine g_aloadN X d9_83 (pc' := 84) rfl rfl rfl ?_
 refine g_iload X d9_84 (pc' := 86) rfl rfl ?_
 refine g_iaload X qc 0 d9_86 (pc' := 87) rfl (by decide) (by decide) rfl ?_
 refine g_icN X d9_87 (flt (show ¬ (r0 < (0 : Int32)) from zr0.1)).2.2.1 (pc' := 90) rfl ?_
 refine g_aloadN X d9_90 (pc' := 91) rfl rfl rfl ?_
 refine g_iload X d9_91 (pc' := 93) rfl rfl ?_
 refine g_iaload X qc 0 d9_93 (pc' := 94) rfl (by decide) (by decide) rfl ?_
 refine g_aload X d9_94 (pc' := 96) rfl rfl rfl ?_
 refine g_virtual X (W := 1) (a := a5) (C := "com/example/pathlattice/pathlattice/graph/Strings") [] [(.int r0)] qd (tb hw 61 rfl) (tb hw 62 rfl) (tb hw 64 rfl) (tb hw 63 rfl) (tb hw 34 rfl) (tb hw 65 rfl) (rCnt l Z aa hw [] a5 wo _ qd qe qf) d9_96 (pc' := 99) rfl (by decide) (by decide) (by decide) rfl rfl rfl (lenOf pd_15 rfl) (Nat.le_refl _) (by decide) (by decide) ?_
 intro v T L X q
 obtain ⟨rfl, X⟩ := pureX X q
 show Go p e below _ (T.setTop (mkF m 99 _ [(.int (3 : Int32)), (.int r0)]))
 refine g_icN X d9_99 (tlt (show r0 < (3 : Int32) from zr0.2)).2.1 (pc' := 102) rfl ?_
 refine g_iconst X (1 : Int32) d9_102 (pc' := 103) rfl rfl ?_
 refine g_goto X d9_103 (pc' := 107) (by decide) (by decide) ?_
 refine g_ldcH X hS hk (elw hw) (List.mem_of_getElem? (i := 2) rfl) HR.1 (tb hw 66 rfl) (sAt hw) (vs := [(.int (114 : Int32)), (.int (111 : Int32)), (.int (108 : Int32)), (.int (101 : Int32)), (.int (115 : Int32)), (.int (32 : Int32)), (.int (111 : Int32)), (.int (102 : Int32)), (.int (32 : Int32)), (.int (116 : Int32)), (.int (104 : Int32)), (.int (101 : Int32)), (.int (32 : Int32)), (.int (101 : Int32)), (.int (100 : Int32)), (.int (103 : Int32)), (.int (101 : Int32)), (.int (115 : Int32))]) (z := (18 : Int32)) ⟨by decide +kernel, by first | rfl | decide +kernel⟩ (by decide) rfl d9_107 (pc' := 109) rfl (n := 72) (by decide +kernel) (by decide) (by decide) (by decide) ?_
 intro qz T h k1 jl X Ex hS hk jm jn jo jp HRn SF
 replace qg := qg.ext Ex
 replace qh := qh.ext Ex
 replace qi := qi.ext Ex
 replace qj := qj.ext Ex
 replace qk := qk.ext Ex
 replace ql := ql.ext Ex
 replace qm := qm.ext Ex
 replace qn := qn.ext Ex
 replace qo := qo.ext Ex
 replace qp := qp.ext Ex
 replace qa := qa.ext Ex
 replace qb := qb.ext Ex
 replace qc := qc.ext Ex
 replace qd := qd.ext Ex
 replace qe := qe.ext Ex
 replace qq := qq.ext Ex
 replace qf := qf.ext Ex
 replace qr := qr.ext Ex
 replace qu := qu.ext Ex
 replace qs := qs.ext Ex
 replace qt := qt.ext Ex
 replace qv := qv.ext Ex
 replace qw := qw.ext Ex
 replace Z0 := Nat.le_trans Z0 Ex.1
 replace Kp := Kp.ext Ex
 replace HR := HR.trans HRn
 show Go p e below _ (T.setTop (mkF m 109 _ [(.ref qz), (.int (1 : Int32))]))
 refine g_static X (W := 0) [(.int (1 : Int32)), (.ref qz)] [] (tb hw 59 rfl) (tb hw 43 rfl) (tb hw 44 rfl) (tb hw 45 rfl) (rReq l Z aa hw [] qz _) d9_109 (pc' := 112) rfl (by decide) (by decide) (by decide) rfl rfl rfl (lenOf pd_13 rfl) (Nat.le_refl _) (by decide) (by decide) ?_
 intro v T L X q
 obtain ⟨rfl, X⟩ := pureXV X q
 show Go p e below _ (T.setTop (mkF m 112 _ []))
 refine g_iinc X d9_112 (pc' := 115) (q := (1 : Int32)) (Ls' := #[.val (.ref a0), .val (.ref a1), .val (.ref a2), .val (.ref a3), .val (.int (2 : Int32)), .val (.ref a5), .val (.int (1 : Int32))]) rfl rfl rfl rfl ?_
 refine g_goto X d9_115 (pc' := 31) (by decide) (by decide) ?_
 exact rEdi1 l Z aa hw a0 a1 a2 a3 a5 wo wb u8 s0 s1 s2 e0 e1 e2 r0 r1 r2 b0 b1 b2 G1 G3 h0 n0 P5 rG3 nb0 nb1 nb2 hfit zs0 zs1 zs2 ze0 ze1 ze2 zr1 zr2 qg qh qi qj qk ql qm qn qo qp qa qb qc qd qe qq qf qr qu qs qt qv qw q3 q4 q5 q6 q8 q7 X hS hk HR Z0 N Kp hnm hret hlk
theorem d24_0 : decode prog_18_method_6_code 0 = .ok (.aload_n 0, 1) := by decide +kernel
theorem d24_1 : decode prog_18_method_6_code 1 = .ok (.getfield 43, 3) := by decide +kernel
theorem d24_4 : decode prog_18_method_6_code 4 = .ok (.aload_n 0, 1) := by decide +kernel
theorem d24_5 : decode prog_18_method_6_code 5 = .ok (.getfield 38, 3) := by decide +kernel
theorem d24_8 : decode prog_18_method_6_code 8 = .ok (.iload_n 1, 1) := by decide +kernel
theorem d24_9 : decode prog_18_method_6_code 9 = .ok (.iaload, 1) := by decide +kernel
theorem d24_10 : decode prog_18_method_6_code 10 = .ok (.aaload, 1) := by decide +kernel
theorem d24_11 : decode prog_18_method_6_code 11 = .ok (.areturn, 1) := by decide +kernel
theorem ef_rRo00 (m : MethodId) (x0 : Addr) (x1 : Int32) : entryFrame m #[(.ref x0), (.int x1)] 2 = mkF m 0 #[.val (.ref x0), .val (.int x1)] [] := by first | (simp [entryFrame, mkF, argsToLocals, Value.category]; done) | rfl
set_option maxRecDepth 65536 in
set_option maxHeartbeats 40000000 in
theorem rRo00 (l : Launch) (Z : State) (aa : Array Value) (hw : ∀ d ∈ tables_1, d.before aa Z = true) (ws : List Jvm.Cond) (a0 : Addr) (rn : Addr) (ro : Addr) (x0 : Addr) (x1 : Addr) (x2 : Addr) (r1 : Int32) (r2 : Int32) (h0 : Heap) (qe : Exa Z h0 a0 "com/example/pathlattice/pathlattice/graph/Edges") (qa : Fld Z h0 a0 "com/example/pathlattice/pathlattice/graph/Edges" "roleNames" "[Ljava/lang/String;" (.ref rn)) (qb : Fld Z h0 a0 "com/example/pathlattice/pathlattice/graph/Edges" "roles" "[I" (.ref ro)) (qc : Av Z h0 rn (.object "java/lang/String") [(.ref x0), (.ref x1), (.ref x2)]) (qd : Av Z h0 ro .int [(.int (0 : Int32)), (.int r1), (.int r2)]) :
    Rm l Z (⟨"com/example/pathlattice/pathlattice/graph/Edges", "role", "(I)Ljava/lang/String;"⟩ : MethodName) prog_18_method_6_code 2 (some (.object "java/lang/String")) ws ({ frames := 0, cells := 0, slots := 0, locals := 0 } : Room) #[(.ref a0), (.int (0 : Int32))] h0 (Pu (.ref x0) h0) := by
 refine Rm.of (plainFor_of_name pn_8) ?_
 intro p e s m below meth cc T X hnm hret hlk
 refine Go.at_ (ef_rRo00 m a0 (0 : Int32)) ?_
 refine g_aloadN X d24_0 (pc' := 1) rfl rfl rfl ?_
 refine g_getfield X (host := "") (Or.inl (tb hw 77 rfl)) Via.refl qa d24_1 (pc' := 4) rfl ?_
 intro T X
 refine g_aloadN X d24_4 (pc' := 5) rfl rfl rfl ?_
 refine g_getfield X (host := "") (Or.inl (tb hw 73 rfl)) Via.refl qb d24_5 (pc' := 8) rfl ?_
 intro T X
 refine g_iloadN X d24_8 (pc' := 9) rfl rfl ?_
 refine g_iaload X qd 0 d24_9 (pc' := 10) rfl (by decide) (by decide) rfl ?_
 refine g_aaload X qc 0 d24_10 (pc' := 11) rfl rfl (by decide) (by decide) rfl ?_
 refine g_areturn X rfl rfl d24_11 hret hlk (by decide) (by decide) ?_
 exact ⟨rfl, rfl, rfl⟩
theorem ef_rRo01 (m : MethodId) (x0 : Addr) (x1 : Int32) : entryFrame m #[(.ref x0), (.int x1)] 2 = mkF m 0 #[.val (.ref x0), .val (.int x1)] [] := by first | (simp [entryFrame, mkF, argsToLocals, Value.category]; done) | rfl
set_option maxRecDepth 65536 in
set_option maxHeartbeats 40000000 in
theorem rRo01 (l : Launch) (Z : State) (aa : Array Value) (hw : ∀ d ∈ tables_1, d.before aa Z = true) (ws : List Jvm.Cond) (a0 : Addr) (rn : Addr) (ro : Addr) (x0 : Addr) (x1 : Addr) (x2 : Addr) (r1 : Int32) (r2 : Int32) (h0 : Heap) (qe : Exa Z h0 a0 "com/example/pathlattice/pathlattice/graph/Edges") (qa : Fld Z h0 a0 "com/example/pathlattice/pathlattice/graph/Edges" "roleNames" "[Ljava/lang/String;" (.ref rn)) (qb : Fld Z h0 a0 "com/example/pathlattice/pathlattice/graph/Edges" "roles" "[I" (.ref ro)) (qc : Av Z h0 rn (.object "java/lang/String") [(.ref x0), (.ref x1), (.ref x2)]) (qd : Av Z h0 ro .int [(.int (1 : Int32)), (.int r1), (.int r2)]) :
    Rm l Z (⟨"com/example/pathlattice/pathlattice/graph/Edges", "role", "(I)Ljava/lang/String;"⟩ : MethodName) prog_18_method_6_code 2 (some (.object "java/lang/String")) ws ({ frames := 0, cells := 0, slots := 0, locals := 0 } : Room) #[(.ref a0), (.int (0 : Int32))] h0 (Pu (.ref x1) h0) := by
 refine Rm.of (plainFor_of_name pn_8) ?_
 intro p e s m below meth cc T X hnm hret hlk
 refine Go.at_ (ef_rRo01 m a0 (0 : Int32)) ?_
 refine g_aloadN X d24_0 (pc' := 1) rfl rfl rfl ?_
 refine g_getfield X (host := "") (Or.inl (tb hw 77 rfl)) Via.refl qa d24_1 (pc' := 4) rfl ?_
 intro T X
 refine g_aloadN X d24_4 (pc' := 5) rfl rfl rfl ?_
 refine g_getfield X (host := "") (Or.inl (tb hw 73 rfl)) Via.refl qb d24_5 (pc' := 8) rfl ?_
 intro T X
 refine g_iloadN X d24_8 (pc' := 9) rfl rfl ?_
 refine g_iaload X qd 0 d24_9 (pc' := 10) rfl (by decide) (by decide) rfl ?_
 refine g_aaload X qc 1 d24_10 (pc' := 11) rfl rfl (by decide) (by decide) rfl ?_
 refine g_areturn X rfl rfl d24_11 hret hlk (by decide) (by decide) ?_
 exact ⟨rfl, rfl, rfl⟩
theorem ef_rRo02 (m : MethodId) (x0 : Addr) (x1 : Int32) : entryFrame m #[(.ref x0), (.int x1)] 2 = mkF m 0 #[.val (.ref x0), .val (.int x1)] [] := by first | (simp [entryFrame, mkF, argsToLocals, Value.category]; done) | rfl
set_option maxRecDepth 65536 in
set_option maxHeartbeats 40000000 in
theorem rRo02 (l : Launch) (Z : State) (aa : Array Value) (hw : ∀ d ∈ tables_1, d.before aa Z = true) (ws : List Jvm.Cond) (a0 : Addr) (rn : Addr) (ro : Addr) (x0 : Addr) (x1 : Addr) (x2 : Addr) (r1 : Int32) (r2 : Int32) (h0 : Heap) (qe : Exa Z h0 a0 "com/example/pathlattice/pathlattice/graph/Edges") (qa : Fld Z h0 a0 "com/example/pathlattice/pathlattice/graph/Edges" "roleNames" "[Ljava/lang/String;" (.ref rn)) (qb : Fld Z h0 a0 "com/example/pathlattice/pathlattice/graph/Edges" "roles" "[I" (.ref ro)) (qc : Av Z h0 rn (.object "java/lang/String") [(.ref x0), (.ref x1), (.ref x2)]) (qd : Av Z h0 ro .int [(.int (2 : Int32)), (.int r1), (.int r2)]) :
    Rm l Z (⟨"com/example/pathlattice/pathlattice/graph/Edges", "role", "(I)Ljava/lang/String;"⟩ : MethodName) prog_18_method_6_code 2 (some (.object "java/lang/String")) ws ({ frames := 0, cells := 0, slots := 0, locals := 0 } : Room) #[(.ref a0), (.int (0 : Int32))] h0 (Pu (.ref x2) h0) := by
 refine Rm.of (plainFor_of_name pn_8) ?_
 intro p e s m below meth cc T X hnm hret hlk
 refine Go.at_ (ef_rRo02 m a0 (0 : Int32)) ?_
 refine g_aloadN X d24_0 (pc' := 1) rfl rfl rfl ?_
 refine g_getfield X (host := "") (Or.inl (tb hw 77 rfl)) Via.refl qa d24_1 (pc' := 4) rfl ?_
 intro T X
 refine g_aloadN X d24_4 (pc' := 5) rfl rfl rfl ?_
 refine g_getfield X (host := "") (Or.inl (tb hw 73 rfl)) Via.refl qb d24_5 (pc' := 8) rfl ?_
 intro T X
 refine g_iloadN X d24_8 (pc' := 9) rfl rfl ?_
 refine g_iaload X qd 0 d24_9 (pc' := 10) rfl (by decide) (by decide) rfl ?_
 refine g_aaload X qc 2 d24_10 (pc' := 11) rfl rfl (by decide) (by decide) rfl ?_
 refine g_areturn X rfl rfl d24_11 hret hlk (by decide) (by decide) ?_
 exact ⟨rfl, rfl, rfl⟩
theorem ef_rRo10 (m : MethodId) (x0 : Addr) (x1 : Int32) : entryFrame m #[(.ref x0), (.int x1)] 2 = mkF m 0 #[.val (.ref x0), .val (.int x1)] [] := by first | (simp [entryFrame, mkF, argsToLocals, Value.category]; done) | rfl
set_option maxRecDepth 65536 in
set_option maxHeartbeats 40000000 in
theorem rRo10 (l : Launch) (Z : State) (aa : Array Value) (hw : ∀ d ∈ tables_1, d.before aa Z = true) (ws : List Jvm.Cond) (a0 : Addr) (rn : Addr) (ro : Addr) (x0 : Addr) (x1 : Addr) (x2 : Addr) (r0 : Int32) (r2 : Int32) (h0 : Heap) (qe : Exa Z h0 a0 "com/example/pathlattice/pathlattice/graph/Edges") (qa : Fld Z h0 a0 "com/example/pathlattice/pathlattice/graph/Edges" "roleNames" "[Ljava/lang/String;" (.ref rn)) (qb : Fld Z h0 a0 "com/example/pathlattice/pathlattice/graph/Edges" "roles" "[I" (.ref ro)) (qc : Av Z h0 rn (.object "java/lang/String") [(.ref x0), (.ref x1), (.ref x2)]) (qd : Av Z h0 ro .int [(.int r0), (.int (0 : Int32)), (.int r2)]) :
    Rm l Z (⟨"com/example/pathlattice/pathlattice/graph/Edges", "role", "(I)Ljava/lang/String;"⟩ : MethodName) prog_18_method_6_code 2 (some (.object "java/lang/String")) ws ({ frames := 0, cells := 0, slots := 0, locals := 0 } : Room) #[(.ref a0), (.int (1 : Int32))] h0 (Pu (.ref x0) h0) := by
 refine Rm.of (plainFor_of_name pn_8) ?_
 intro p e s m below meth cc T X hnm hret hlk
 refine Go.at_ (ef_rRo10 m a0 (1 : Int32)) ?_
 refine g_aloadN X d24_0 (pc' := 1) rfl rfl rfl ?_
 refine g_getfield X (host := "") (Or.inl (tb hw 77 rfl)) Via.refl qa d24_1 (pc' := 4) rfl ?_
 intro T X
 refine g_aloadN X d24_4 (pc' := 5) rfl rfl rfl ?_
 refine g_getfield X (host := "") (Or.inl (tb hw 73 rfl)) Via.refl qb d24_5 (pc' := 8) rfl ?_
 intro T X
 refine g_iloadN X d24_8 (pc' := 9) rfl rfl ?_
 refine g_iaload X qd 1 d24_9 (pc' := 10) rfl (by decide) (by decide) rfl ?_
 refine g_aaload X qc 0 d24_10 (pc' := 11) rfl rfl (by decide) (by decide) rfl ?_
 refine g_areturn X rfl rfl d24_11 hret hlk (by decide) (by decide) ?_
 exact ⟨rfl, rfl, rfl⟩
theorem ef_rRo11 (m : MethodId) (x0 : Addr) (x1 : Int32) : entryFrame m #[(.ref x0), (.int x1)] 2 = mkF m 0 #[.val (.ref x0), .val (.int x1)] [] := by first | (simp [entryFrame, mkF, argsToLocals, Value.category]; done) | rfl
set_option maxRecDepth 65536 in
set_option maxHeartbeats 40000000 in
theorem rRo11 (l : Launch) (Z : State) (aa : Array Value) (hw : ∀ d ∈ tables_1, d.before aa Z = true) (ws : List Jvm.Cond) (a0 : Addr) (rn : Addr) (ro : Addr) (x0 : Addr) (x1 : Addr) (x2 : Addr) (r0 : Int32) (r2 : Int32) (h0 : Heap) (qe : Exa Z h0 a0 "com/example/pathlattice/pathlattice/graph/Edges") (qa : Fld Z h0 a0 "com/example/pathlattice/pathlattice/graph/Edges" "roleNames" "[Ljava/lang/String;" (.ref rn)) (qb : Fld Z h0 a0 "com/example/pathlattice/pathlattice/graph/Edges" "roles" "[I" (.ref ro)) (qc : Av Z h0 rn (.object "java/lang/String") [(.ref x0), (.ref x1), (.ref x2)]) (qd : Av Z h0 ro .int [(.int r0), (.int (1 : Int32)), (.int r2)]) :
    Rm l Z (⟨"com/example/pathlattice/pathlattice/graph/Edges", "role", "(I)Ljava/lang/String;"⟩ : MethodName) prog_18_method_6_code 2 (some (.object "java/lang/String")) ws ({ frames := 0, cells := 0, slots := 0, locals := 0 } : Room) #[(.ref a0), (.int (1 : Int32))] h0 (Pu (.ref x1) h0) := by
 refine Rm.of (plainFor_of_name pn_8) ?_
 intro p e s m below meth cc T X hnm hret hlk
 refine Go.at_ (ef_rRo11 m a0 (1 : Int32)) ?_
 refine g_aloadN X d24_0 (pc' := 1) rfl rfl rfl ?_
 refine g_getfield X (host := "") (Or.inl (tb hw 77 rfl)) Via.refl qa d24_1 (pc' := 4) rfl ?_
 intro T X
 refine g_aloadN X d24_4 (pc' := 5) rfl rfl rfl ?_
 refine g_getfield X (host := "") (Or.inl (tb hw 73 rfl)) Via.refl qb d24_5 (pc' := 8) rfl ?_
 intro T X
 refine g_iloadN X d24_8 (pc' := 9) rfl rfl ?_
 refine g_iaload X qd 1 d24_9 (pc' := 10) rfl (by decide) (by decide) rfl ?_
 refine g_aaload X qc 1 d24_10 (pc' := 11) rfl rfl (by decide) (by decide) rfl ?_
 refine g_areturn X rfl rfl d24_11 hret hlk (by decide) (by decide) ?_
 exact ⟨rfl, rfl, rfl⟩
theorem ef_rRo12 (m : MethodId) (x0 : Addr) (x1 : Int32) : entryFrame m #[(.ref x0), (.int x1)] 2 = mkF m 0 #[.val (.ref x0), .val (.int x1)] [] := by first | (simp [entryFrame, mkF, argsToLocals, Value.category]; done) | rfl
set_option maxRecDepth 65536 in
set_option maxHeartbeats 40000000 in
theorem rRo12 (l : Launch) (Z : State) (aa : Array Value) (hw : ∀ d ∈ tables_1, d.before aa Z = true) (ws : List Jvm.Cond) (a0 : Addr) (rn : Addr) (ro : Addr) (x0 : Addr) (x1 : Addr) (x2 : Addr) (r0 : Int32) (r2 : Int32) (h0 : Heap) (qe : Exa Z h0 a0 "com/example/pathlattice/pathlattice/graph/Edges") (qa : Fld Z h0 a0 "com/example/pathlattice/pathlattice/graph/Edges" "roleNames" "[Ljava/lang/String;" (.ref rn)) (qb : Fld Z h0 a0 "com/example/pathlattice/pathlattice/graph/Edges" "roles" "[I" (.ref ro)) (qc : Av Z h0 rn (.object "java/lang/String") [(.ref x0), (.ref x1), (.ref x2)]) (qd : Av Z h0 ro .int [(.int r0), (.int (2 : Int32)), (.int r2)]) :
    Rm l Z (⟨"com/example/pathlattice/pathlattice/graph/Edges", "role", "(I)Ljava/lang/String;"⟩ : MethodName) prog_18_method_6_code 2 (some (.object "java/lang/String")) ws ({ frames := 0, cells := 0, slots := 0, locals := 0 } : Room) #[(.ref a0), (.int (1 : Int32))] h0 (Pu (.ref x2) h0) := by
 refine Rm.of (plainFor_of_name pn_8) ?_
 intro p e s m below meth cc T X hnm hret hlk
 refine Go.at_ (ef_rRo12 m a0 (1 : Int32)) ?_
 refine g_aloadN X d24_0 (pc' := 1) rfl rfl rfl ?_
 refine g_getfield X (host := "") (Or.inl (tb hw 77 rfl)) Via.refl qa d24_1 (pc' := 4) rfl ?_
 intro T X
 refine g_aloadN X d24_4 (pc' := 5) rfl rfl rfl ?_
 refine g_getfield X (host := "") (Or.inl (tb hw 73 rfl)) Via.refl qb d24_5 (pc' := 8) rfl ?_
 intro T X
 refine g_iloadN X d24_8 (pc' := 9) rfl rfl ?_
 refine g_iaload X qd 1 d24_9 (pc' := 10) rfl (by decide) (by decide) rfl ?_
 refine g_aaload X qc 2 d24_10 (pc' := 11) rfl rfl (by decide) (by decide) rfl ?_
 refine g_areturn X rfl rfl d24_11 hret hlk (by decide) (by decide) ?_
 exact ⟨rfl, rfl, rfl⟩
theorem ef_rRo20 (m : MethodId) (x0 : Addr) (x1 : Int32) : entryFrame m #[(.ref x0), (.int x1)] 2 = mkF m 0 #[.val (.ref x0), .val (.int x1)] [] := by first | (simp [entryFrame, mkF, argsToLocals, Value.category]; done) | rfl
set_option maxRecDepth 65536 in
set_option maxHeartbeats 40000000 in
theorem rRo20 (l : Launch) (Z : State) (aa : Array Value) (hw : ∀ d ∈ tables_1, d.before aa Z = true) (ws : List Jvm.Cond) (a0 : Addr) (rn : Addr) (ro : Addr) (x0 : Addr) (x1 : Addr) (x2 : Addr) (r0 : Int32) (r1 : Int32) (h0 : Heap) (qe : Exa Z h0 a0 "com/example/pathlattice/pathlattice/graph/Edges") (qa : Fld Z h0 a0 "com/example/pathlattice/pathlattice/graph/Edges" "roleNames" "[Ljava/lang/String;" (.ref rn)) (qb : Fld Z h0 a0 "com/example/pathlattice/pathlattice/graph/Edges" "roles" "[I" (.ref ro)) (qc : Av Z h0 rn (.object "java/lang/String") [(.ref x0), (.ref x1), (.ref x2)]) (qd : Av Z h0 ro .int [(.int r0), (.int r1), (.int (0 : Int32))]) :
    Rm l Z (⟨"com/example/pathlattice/pathlattice/graph/Edges", "role", "(I)Ljava/lang/String;"⟩ : MethodName) prog_18_method_6_code 2 (some (.object "java/lang/String")) ws ({ frames := 0, cells := 0, slots := 0, locals := 0 } : Room) #[(.ref a0), (.int (2 : Int32))] h0 (Pu (.ref x0) h0) := by
 refine Rm.of (plainFor_of_name pn_8) ?_
 intro p e s m below meth cc T X hnm hret hlk
 refine Go.at_ (ef_rRo20 m a0 (2 : Int32)) ?_
 refine g_aloadN X d24_0 (pc' := 1) rfl rfl rfl ?_
 refine g_getfield X (host := "") (Or.inl (tb hw 77 rfl)) Via.refl qa d24_1 (pc' := 4) rfl ?_
 intro T X
 refine g_aloadN X d24_4 (pc' := 5) rfl rfl rfl ?_
 refine g_getfield X (host := "") (Or.inl (tb hw 73 rfl)) Via.refl qb d24_5 (pc' := 8) rfl ?_
 intro T X
 refine g_iloadN X d24_8 (pc' := 9) rfl rfl ?_
 refine g_iaload X qd 2 d24_9 (pc' := 10) rfl (by decide) (by decide) rfl ?_
 refine g_aaload X qc 0 d24_10 (pc' := 11) rfl rfl (by decide) (by decide) rfl ?_
 refine g_areturn X rfl rfl d24_11 hret hlk (by decide) (by decide) ?_
 exact ⟨rfl, rfl, rfl⟩
theorem ef_rRo21 (m : MethodId) (x0 : Addr) (x1 : Int32) : entryFrame m #[(.ref x0), (.int x1)] 2 = mkF m 0 #[.val (.ref x0), .val (.int x1)] [] := by first | (simp [entryFrame, mkF, argsToLocals, Value.category]; done) | rfl
set_option maxRecDepth 65536 in
set_option maxHeartbeats 40000000 in
theorem rRo21 (l : Launch) (Z : State) (aa : Array Value) (hw : ∀ d ∈ tables_1, d.before aa Z = true) (ws : List Jvm.Cond) (a0 : Addr) (rn : Addr) (ro : Addr) (x0 : Addr) (x1 : Addr) (x2 : Addr) (r0 : Int32) (r1 : Int32) (h0 : Heap) (qe : Exa Z h0 a0 "com/example/pathlattice/pathlattice/graph/Edges") (qa : Fld Z h0 a0 "com/example/pathlattice/pathlattice/graph/Edges" "roleNames" "[Ljava/lang/String;" (.ref rn)) (qb : Fld Z h0 a0 "com/example/pathlattice/pathlattice/graph/Edges" "roles" "[I" (.ref ro)) (qc : Av Z h0 rn (.object "java/lang/String") [(.ref x0), (.ref x1), (.ref x2)]) (qd : Av Z h0 ro .int [(.int r0), (.int r1), (.int (1 : Int32))]) :
    Rm l Z (⟨"com/example/pathlattice/pathlattice/graph/Edges", "role", "(I)Ljava/lang/String;"⟩ : MethodName) prog_18_method_6_code 2 (some (.object "java/lang/String")) ws ({ frames := 0, cells := 0, slots := 0, locals := 0 } : Room) #[(.ref a0), (.int (2 : Int32))] h0 (Pu (.ref x1) h0) := by
 refine Rm.of (plainFor_of_name pn_8) ?_
 intro p e s m below meth cc T X hnm hret hlk
 refine Go.at_ (ef_rRo21 m a0 (2 : Int32)) ?_
 refine g_aloadN X d24_0 (pc' := 1) rfl rfl rfl ?_
 refine g_getfield X (host := "") (Or.inl (tb hw 77 rfl)) Via.refl qa d24_1 (pc' := 4) rfl ?_
 intro T X
 refine g_aloadN X d24_4 (pc' := 5) rfl rfl rfl ?_
 refine g_getfield X (host := "") (Or.inl (tb hw 73 rfl)) Via.refl qb d24_5 (pc' := 8) rfl ?_
 intro T X
 refine g_iloadN X d24_8 (pc' := 9) rfl rfl ?_
 refine g_iaload X qd 2 d24_9 (pc' := 10) rfl (by decide) (by decide) rfl ?_
 refine g_aaload X qc 1 d24_10 (pc' := 11) rfl rfl (by decide) (by decide) rfl ?_
 refine g_areturn X rfl rfl d24_11 hret hlk (by decide) (by decide) ?_
 exact ⟨rfl, rfl, rfl⟩
theorem ef_rRo22 (m : MethodId) (x0 : Addr) (x1 : Int32) : entryFrame m #[(.ref x0), (.int x1)] 2 = mkF m 0 #[.val (.ref x0), .val (.int x1)] [] := by first | (simp [entryFrame, mkF, argsToLocals, Value.category]; done) | rfl
set_option maxRecDepth 65536 in
set_option maxHeartbeats 40000000 in
theorem rRo22 (l : Launch) (Z : State) (aa : Array Value) (hw : ∀ d ∈ tables_1, d.before aa Z = true) (ws : List Jvm.Cond) (a0 : Addr) (rn : Addr) (ro : Addr) (x0 : Addr) (x1 : Addr) (x2 : Addr) (r0 : Int32) (r1 : Int32) (h0 : Heap) (qe : Exa Z h0 a0 "com/example/pathlattice/pathlattice/graph/Edges") (qa : Fld Z h0 a0 "com/example/pathlattice/pathlattice/graph/Edges" "roleNames" "[Ljava/lang/String;" (.ref rn)) (qb : Fld Z h0 a0 "com/example/pathlattice/pathlattice/graph/Edges" "roles" "[I" (.ref ro)) (qc : Av Z h0 rn (.object "java/lang/String") [(.ref x0), (.ref x1), (.ref x2)]) (qd : Av Z h0 ro .int [(.int r0), (.int r1), (.int (2 : Int32))]) :
    Rm l Z (⟨"com/example/pathlattice/pathlattice/graph/Edges", "role", "(I)Ljava/lang/String;"⟩ : MethodName) prog_18_method_6_code 2 (some (.object "java/lang/String")) ws ({ frames := 0, cells := 0, slots := 0, locals := 0 } : Room) #[(.ref a0), (.int (2 : Int32))] h0 (Pu (.ref x2) h0) := by
 refine Rm.of (plainFor_of_name pn_8) ?_
 intro p e s m below meth cc T X hnm hret hlk
 refine Go.at_ (ef_rRo22 m a0 (2 : Int32)) ?_
 refine g_aloadN X d24_0 (pc' := 1) rfl rfl rfl ?_
 refine g_getfield X (host := "") (Or.inl (tb hw 77 rfl)) Via.refl qa d24_1 (pc' := 4) rfl ?_
 intro T X
 refine g_aloadN X d24_4 (pc' := 5) rfl rfl rfl ?_
 refine g_getfield X (host := "") (Or.inl (tb hw 73 rfl)) Via.refl qb d24_5 (pc' := 8) rfl ?_
 intro T X
 refine g_iloadN X d24_8 (pc' := 9) rfl rfl ?_
 refine g_iaload X qd 2 d24_9 (pc' := 10) rfl (by decide) (by decide) rfl ?_
 refine g_aaload X qc 2 d24_10 (pc' := 11) rfl rfl (by decide) (by decide) rfl ?_
 refine g_areturn X rfl rfl d24_11 hret hlk (by decide) (by decide) ?_
 exact ⟨rfl, rfl, rfl⟩
theorem pn_9 : plainName "java/lang/StringLatin1" = true := by first | (simp [plainName, overriddenIn]; done) | decide +kernel
theorem d26_0 : decode jdk_43_method_13_code 0 = .ok (.aload_n 0, 1) := by decide +kernel
theorem d26_1 : decode jdk_43_method_13_code 1 = .ok (.arraylength, 1) := by decide +kernel
theorem d26_2 : decode jdk_43_method_13_code 2 = .ok (.aload_n 1, 1) := by decide +kernel
theorem d26_3 : decode jdk_43_method_13_code 3 = .ok (.arraylength, 1) := by decide +kernel
theorem d26_4 : decode jdk_43_method_13_code 4 = .ok (.if_icmp .ne 30, 3) := by decide +kernel
theorem d26_7 : decode jdk_43_method_13_code 7 = .ok (.iconst 0, 1) := by decide +kernel
theorem d26_8 : decode jdk_43_method_13_code 8 = .ok (.istore_n 2, 1) := by decide +kernel
theorem d26_9 : decode jdk_43_method_13_code 9 = .ok (.iload_n 2, 1) := by decide +kernel
theorem d26_10 : decode jdk_43_method_13_code 10 = .ok (.aload_n 0, 1) := by decide +kernel
theorem d26_11 : decode jdk_43_method_13_code 11 = .ok (.arraylength, 1) := by decide +kernel
theorem d26_12 : decode jdk_43_method_13_code 12 = .ok (.if_icmp .ge 20, 3) := by decide +kernel
theorem d26_32 : decode jdk_43_method_13_code 32 = .ok (.iconst 1, 1) := by decide +kernel
theorem d26_33 : decode jdk_43_method_13_code 33 = .ok (.ireturn, 1) := by decide +kernel
theorem ef_rEql0 (m : MethodId) (x0 : Addr) (x1 : Addr) : entryFrame m #[(.ref x0), (.ref x1)] 3 = mkF m 0 #[.val (.ref x0), .val (.ref x1), .unset] [] := by first | (simp [entryFrame, mkF, argsToLocals, Value.category]; done) | rfl
set_option maxRecDepth 65536 in
set_option maxHeartbeats 40000000 in
theorem rEql0 (l : Launch) (Z : State) (aa : Array Value) (hw : ∀ d ∈ tables_1, d.before aa Z = true) (ws : List Jvm.Cond) (v0 : Addr) (v1 : Addr) (h0 : Heap) (qa : Av Z h0 v0 .byte []) (qb : Av Z h0 v1 .byte []) :
    Rm l Z (⟨"java/lang/StringLatin1", "equals", "([B[B)Z"⟩ : MethodName) jdk_43_method_13_code 3 (some .boolean) ws ({ frames := 0, cells := 0, slots := 0, locals := 0 } : Room) #[(.ref v0), (.ref v1)] h0 (Pu (.int (1 : Int32)) h0) := by
 refine Rm.of (plainFor_of_name pn_9) ?_
 intro p e s m below meth cc T X hnm hret hlk
 refine Go.at_ (ef_rEql0 m v0 v1) ?_
 refine g_aloadN X d26_0 (pc' := 1) rfl rfl rfl ?_
 refine g_arraylength X qa d26_1 (pc' := 2) rfl (z := (0 : Int32)) rfl ?_
 refine g_aloadN X d26_2 (pc' := 3) rfl rfl rfl ?_
 refine g_arraylength X qb d26_3 (pc' := 4) rfl (z := (0 : Int32)) rfl ?_
 refine g_icN X d26_4 (teq (show (0 : Int32) = (0 : Int32) from (by decide))).2 (pc' := 7) rfl ?_
 refine g_iconst X (0 : Int32) d26_7 (pc' := 8) rfl rfl ?_
 refine g_istoreN X d26_8 (pc' := 9) (Ls' := #[.val (.ref v0), .val (.ref v1), .val (.int (0 : Int32))]) rfl rfl ?_
 refine g_iloadN X d26_9 (pc' := 10) rfl rfl ?_
 refine g_aloadN X d26_10 (pc' := 11) rfl rfl rfl ?_
 refine g_arraylength X qa d26_11 (pc' := 12) rfl (z := (0 : Int32)) rfl ?_
 refine g_icY X d26_12 (flt (show ¬ ((0 : Int32) < (0 : Int32)) from (by decide))).2.1 (pc' := 32) (by decide) (by decide) ?_
 refine g_iconst X (1 : Int32) d26_32 (pc' := 33) rfl rfl ?_
 refine g_ireturnN X (t := .boolean) (by simp) d26_33 hret hlk (by decide) (by decide) ?_
 exact ⟨rfl, rfl, rfl⟩
theorem d26_15 : decode jdk_43_method_13_code 15 = .ok (.aload_n 0, 1) := by decide +kernel
theorem d26_16 : decode jdk_43_method_13_code 16 = .ok (.iload_n 2, 1) := by decide +kernel
theorem d26_17 : decode jdk_43_method_13_code 17 = .ok (.baload, 1) := by decide +kernel
theorem d26_18 : decode jdk_43_method_13_code 18 = .ok (.aload_n 1, 1) := by decide +kernel
theorem d26_19 : decode jdk_43_method_13_code 19 = .ok (.iload_n 2, 1) := by decide +kernel
theorem d26_20 : decode jdk_43_method_13_code 20 = .ok (.baload, 1) := by decide +kernel
theorem d26_21 : decode jdk_43_method_13_code 21 = .ok (.if_icmp .eq 5, 3) := by decide +kernel
theorem d26_26 : decode jdk_43_method_13_code 26 = .ok (.iinc 2 1, 3) := by decide +kernel
theorem d26_29 : decode jdk_43_method_13_code 29 = .ok (.goto (-20), 3) := by decide +kernel
theorem ef_rEql1 (m : MethodId) (x0 : Addr) (x1 : Addr) : entryFrame m #[(.ref x0), (.ref x1)] 3 = mkF m 0 #[.val (.ref x0), .val (.ref x1), .unset] [] := by first | (simp [entryFrame, mkF, argsToLocals, Value.category]; done) | rfl
set_option maxRecDepth 65536 in
set_option maxHeartbeats 40000000 in
theorem rEql1 (l : Launch) (Z : State) (aa : Array Value) (hw : ∀ d ∈ tables_1, d.before aa Z = true) (ws : List Jvm.Cond) (v0 : Addr) (v1 : Addr) (y0 : Int32) (h0 : Heap) (qa : Av Z h0 v0 .byte [(.int y0)]) (qb : Av Z h0 v1 .byte [(.int y0)]) :
    Rm l Z (⟨"java/lang/StringLatin1", "equals", "([B[B)Z"⟩ : MethodName) jdk_43_method_13_code 3 (some .boolean) ws ({ frames := 0, cells := 0, slots := 0, locals := 0 } : Room) #[(.ref v0), (.ref v1)] h0 (Pu (.int (1 : Int32)) h0) := by
 refine Rm.of (plainFor_of_name pn_9) ?_
 intro p e s m below meth cc T X hnm hret hlk
 refine Go.at_ (ef_rEql1 m v0 v1) ?_
 refine g_aloadN X d26_0 (pc' := 1) rfl rfl rfl ?_
 refine g_arraylength X qa d26_1 (pc' := 2) rfl (z := (1 : Int32)) rfl ?_
 refine g_aloadN X d26_2 (pc' := 3) rfl rfl rfl ?_
 refine g_arraylength X qb d26_3 (pc' := 4) rfl (z := (1 : Int32)) rfl ?_
 refine g_icN X d26_4 (teq (show (1 : Int32) = (1 : Int32) from (by decide))).2 (pc' := 7) rfl ?_
 refine g_iconst X (0 : Int32) d26_7 (pc' := 8) rfl rfl ?_
 refine g_istoreN X d26_8 (pc' := 9) (Ls' := #[.val (.ref v0), .val (.ref v1), .val (.int (0 : Int32))]) rfl rfl ?_
 refine g_iloadN X d26_9 (pc' := 10) rfl rfl ?_
 refine g_aloadN X d26_10 (pc' := 11) rfl rfl rfl ?_
 refine g_arraylength X qa d26_11 (pc' := 12) rfl (z := (1 : Int32)) rfl ?_
 refine g_icN X d26_12 (tlt (show (0 : Int32) < (1 : Int32) from (by decide))).2.1 (pc' := 15) rfl ?_
 refine g_aloadN X d26_15 (pc' := 16) rfl rfl rfl ?_
 refine g_iloadN X d26_16 (pc' := 17) rfl rfl ?_
 refine g_baload X qa 0 d26_17 (pc' := 18) rfl (by decide) (by decide) rfl ?_
 refine g_aloadN X d26_18 (pc' := 19) rfl rfl rfl ?_
 refine g_iloadN X d26_19 (pc' := 20) rfl rfl ?_
 refine g_baload X qb 0 d26_20 (pc' := 21) rfl (by decide) (by decide) rfl ?_
 refine g_icY X d26_21 (teq (show y0 = y0 from rfl)).1 (pc' := 26) (by decide) (by decide) ?_
 refine g_iinc X d26_26 (pc' := 29) (q := (1 : Int32)) (Ls' := #[.val (.ref v0), .val (.ref v1), .val (.int (1 : Int32))]) rfl rfl rfl rfl ?_
 refine g_goto X d26_29 (pc' := 9) (by decide) (by decide) ?_
 refine g_iloadN X d26_9 (pc' := 10) rfl rfl ?_
 refine g_aloadN X d26_10 (pc' := 11) rfl rfl rfl ?_
 refine g_arraylength X qa d26_11 (pc' := 12) rfl (z := (1 : Int32)) rfl ?_
 refine g_icY X d26_12 (flt (show ¬ ((1 : Int32) < (1 : Int32)) from (by decide))).2.1 (pc' := 32) (by decide) (by decide) ?_
 refine g_iconst X (1 : Int32) d26_32 (pc' := 33) rfl rfl ?_
 refine g_ireturnN X (t := .boolean) (by simp) d26_33 hret hlk (by decide) (by decide) ?_
 exact ⟨rfl, rfl, rfl⟩
theorem ef_rEql2 (m : MethodId) (x0 : Addr) (x1 : Addr) : entryFrame m #[(.ref x0), (.ref x1)] 3 = mkF m 0 #[.val (.ref x0), .val (.ref x1), .unset] [] := by first | (simp [entryFrame, mkF, argsToLocals, Value.category]; done) | rfl
set_option maxRecDepth 65536 in
set_option maxHeartbeats 40000000 in
theorem rEql2 (l : Launch) (Z : State) (aa : Array Value) (hw : ∀ d ∈ tables_1, d.before aa Z = true) (ws : List Jvm.Cond) (v0 : Addr) (v1 : Addr) (y0 : Int32) (y1 : Int32) (h0 : Heap) (qa : Av Z h0 v0 .byte [(.int y0), (.int y1)]) (qb : Av Z h0 v1 .byte [(.int y0), (.int y1)]) :
    Rm l Z (⟨"java/lang/StringLatin1", "equals", "([B[B)Z"⟩ : MethodName) jdk_43_method_13_code 3 (some .boolean) ws ({ frames := 0, cells := 0, slots := 0, locals := 0 } : Room) #[(.ref v0), (.ref v1)] h0 (Pu (.int (1 : Int32)) h0) := by
 refine Rm.of (plainFor_of_name pn_9) ?_
 intro p e s m below meth cc T X hnm hret hlk
 refine Go.at_ (ef_rEql2 m v0 v1) ?_
 refine g_aloadN X d26_0 (pc' := 1) rfl rfl rfl ?_
 refine g_arraylength X qa d26_1 (pc' := 2) rfl (z := (2 : Int32)) rfl ?_
 refine g_aloadN X d26_2 (pc' := 3) rfl rfl rfl ?_
 refine g_arraylength X qb d26_3 (pc' := 4) rfl (z := (2 : Int32)) rfl ?_
 refine g_icN X d26_4 (teq (show (2 : Int32) = (2 : Int32) from (by decide))).2 (pc' := 7) rfl ?_
 refine g_iconst X (0 : Int32) d26_7 (pc' := 8) rfl rfl ?_
 refine g_istoreN X d26_8 (pc' := 9) (Ls' := #[.val (.ref v0), .val (.ref v1), .val (.int (0 : Int32))]) rfl rfl ?_
 refine g_iloadN X d26_9 (pc' := 10) rfl rfl ?_
 refine g_aloadN X d26_10 (pc' := 11) rfl rfl rfl ?_
 refine g_arraylength X qa d26_11 (pc' := 12) rfl (z := (2 : Int32)) rfl ?_
 refine g_icN X d26_12 (tlt (show (0 : Int32) < (2 : Int32) from (by decide))).2.1 (pc' := 15) rfl ?_
 refine g_aloadN X d26_15 (pc' := 16) rfl rfl rfl ?_
 refine g_iloadN X d26_16 (pc' := 17) rfl rfl ?_
 refine g_baload X qa 0 d26_17 (pc' := 18) rfl (by decide) (by decide) rfl ?_
 refine g_aloadN X d26_18 (pc' := 19) rfl rfl rfl ?_
 refine g_iloadN X d26_19 (pc' := 20) rfl rfl ?_
 refine g_baload X qb 0 d26_20 (pc' := 21) rfl (by decide) (by decide) rfl ?_
 refine g_icY X d26_21 (teq (show y0 = y0 from rfl)).1 (pc' := 26) (by decide) (by decide) ?_
 refine g_iinc X d26_26 (pc' := 29) (q := (1 : Int32)) (Ls' := #[.val (.ref v0), .val (.ref v1), .val (.int (1 : Int32))]) rfl rfl rfl rfl ?_
 refine g_goto X d26_29 (pc' := 9) (by decide) (by decide) ?_
 refine g_iloadN X d26_9 (pc' := 10) rfl rfl ?_
 refine g_aloadN X d26_10 (pc' := 11) rfl rfl rfl ?_
 refine g_arraylength X qa d26_11 (pc' := 12) rfl (z := (2 : Int32)) rfl ?_
 refine g_icN X d26_12 (tlt (show (1 : Int32) < (2 : Int32) from (by decide))).2.1 (pc' := 15) rfl ?_
 refine g_aloadN X d26_15 (pc' := 16) rfl rfl rfl ?_
 refine g_iloadN X d26_16 (pc' := 17) rfl rfl ?_
 refine g_baload X qa 1 d26_17 (pc' := 18) rfl (by decide) (by decide) rfl ?_
 refine g_aloadN X d26_18 (pc' := 19) rfl rfl rfl ?_
 refine g_iloadN X d26_19 (pc' := 20) rfl rfl ?_
 refine g_baload X qb 1 d26_20 (pc' := 21) rfl (by decide) (by decide) rfl ?_
 refine g_icY X d26_21 (teq (show y1 = y1 from rfl)).1 (pc' := 26) (by decide) (by decide) ?_
 refine g_iinc X d26_26 (pc' := 29) (q := (1 : Int32)) (Ls' := #[.val (.ref v0), .val (.ref v1), .val (.int (2 : Int32))]) rfl rfl rfl rfl ?_
 refine g_goto X d26_29 (pc' := 9) (by decide) (by decide) ?_
 refine g_iloadN X d26_9 (pc' := 10) rfl rfl ?_
 refine g_aloadN X d26_10 (pc' := 11) rfl rfl rfl ?_
 refine g_arraylength X qa d26_11 (pc' := 12) rfl (z := (2 : Int32)) rfl ?_
 refine g_icY X d26_12 (flt (show ¬ ((2 : Int32) < (2 : Int32)) from (by decide))).2.1 (pc' := 32) (by decide) (by decide) ?_
 refine g_iconst X (1 : Int32) d26_32 (pc' := 33) rfl rfl ?_
 refine g_ireturnN X (t := .boolean) (by simp) d26_33 hret hlk (by decide) (by decide) ?_
 exact ⟨rfl, rfl, rfl⟩
theorem d25_0 : decode jdk_42_method_66_code 0 = .ok (.aload_n 0, 1) := by decide +kernel
theorem d25_1 : decode jdk_42_method_66_code 1 = .ok (.aload_n 1, 1) := by decide +kernel
theorem d25_2 : decode jdk_42_method_66_code 2 = .ok (.if_acmp .ne 5, 3) := by decide +kernel
theorem d25_7 : decode jdk_42_method_66_code 7 = .ok (.aload_n 1, 1) := by decide +kernel
theorem d25_8 : decode jdk_42_method_66_code 8 = .ok (.instanceof 10, 3) := by decide +kernel
theorem d25_11 : decode jdk_42_method_66_code 11 = .ok (.ifCond .eq 43, 3) := by decide +kernel
theorem d25_14 : decode jdk_42_method_66_code 14 = .ok (.aload_n 1, 1) := by decide +kernel
theorem d25_15 : decode jdk_42_method_66_code 15 = .ok (.checkcast 10, 3) := by decide +kernel
theorem d25_18 : decode jdk_42_method_66_code 18 = .ok (.astore_n 2, 1) := by decide +kernel
theorem d25_19 : decode jdk_42_method_66_code 19 = .ok (.getstatic 38, 3) := by decide +kernel
theorem d25_22 : decode jdk_42_method_66_code 22 = .ok (.ifCond .eq 14, 3) := by decide +kernel
theorem d25_25 : decode jdk_42_method_66_code 25 = .ok (.aload_n 0, 1) := by decide +kernel
theorem d25_26 : decode jdk_42_method_66_code 26 = .ok (.getfield 15, 3) := by decide +kernel
theorem d25_29 : decode jdk_42_method_66_code 29 = .ok (.aload_n 2, 1) := by decide +kernel
theorem d25_30 : decode jdk_42_method_66_code 30 = .ok (.getfield 15, 3) := by decide +kernel
theorem d25_33 : decode jdk_42_method_66_code 33 = .ok (.if_icmp .ne 21, 3) := by decide +kernel
theorem d25_36 : decode jdk_42_method_66_code 36 = .ok (.aload_n 0, 1) := by decide +kernel
theorem d25_37 : decode jdk_42_method_66_code 37 = .ok (.getfield 9, 3) := by decide +kernel
theorem d25_40 : decode jdk_42_method_66_code 40 = .ok (.aload_n 2, 1) := by decide +kernel
theorem d25_41 : decode jdk_42_method_66_code 41 = .ok (.getfield 9, 3) := by decide +kernel
theorem d25_44 : decode jdk_42_method_66_code 44 = .ok (.invokestatic 541, 3) := by decide +kernel
theorem pd_18 : parseMethodDescriptor "([B[B)Z" = some ⟨[(.array .byte), (.array .byte)], some .boolean⟩ := by decide +kernel
theorem d25_47 : decode jdk_42_method_66_code 47 = .ok (.ifCond .eq 7, 3) := by decide +kernel
theorem d25_50 : decode jdk_42_method_66_code 50 = .ok (.iconst 1, 1) := by decide +kernel
theorem d25_51 : decode jdk_42_method_66_code 51 = .ok (.goto 4, 3) := by decide +kernel
theorem d25_55 : decode jdk_42_method_66_code 55 = .ok (.ireturn, 1) := by decide +kernel
theorem ef_rEq0 (m : MethodId) (x0 : Addr) (x1 : Addr) : entryFrame m #[(.ref x0), (.ref x1)] 3 = mkF m 0 #[.val (.ref x0), .val (.ref x1), .unset] [] := by first | (simp [entryFrame, mkF, argsToLocals, Value.category]; done) | rfl
set_option maxRecDepth 65536 in
set_option maxHeartbeats 40000000 in
theorem rEq0 (l : Launch) (Z : State) (aa : Array Value) (hw : ∀ d ∈ tables_1, d.before aa Z = true) (ws : List Jvm.Cond) (a0 : Addr) (a1 : Addr) (G1 : Int32) (v0 : Addr) (v1 : Addr) (h0 : Heap) (qb : a0 ≠ a1) (qj : Exa Z h0 a0 "java/lang/String") (qc : Fld Z h0 a0 "java/lang/String" "coder" "B" (.int (0 : Int32))) (qd : Fld Z h0 a0 "java/lang/String" "value" "[B" (.ref v0)) (qe : Av Z h0 v0 .byte []) (qa : Exa Z h0 a1 "java/lang/String") (qf : Fld Z h0 a1 "java/lang/String" "coder" "B" (.int (0 : Int32))) (qg : Fld Z h0 a1 "java/lang/String" "value" "[B" (.ref v1)) (qh : Av Z h0 v1 .byte []) (qi : Sta Z h0 "java/lang/String" "COMPACT_STRINGS" "Z" (.int G1)) (P5 : ¬ G1 = (0 : Int32)) :
    Rm l Z (⟨"java/lang/String", "equals", "(Ljava/lang/Object;)Z"⟩ : MethodName) jdk_42_method_66_code 3 (some .boolean) ws ({ frames := 1, cells := 0, slots := 0, locals := 14 } : Room) #[(.ref a0), (.ref a1)] h0 (Pu (.int (1 : Int32)) h0) := by
 refine Rm.of (plainFor_of_name pn_1) ?_
 intro p e s m below meth cc T X hnm hret hlk
 refine Go.at_ (ef_rEq0 m a0 a1) ?_
 refine g_aloadN X d25_0 (pc' := 1) rfl rfl rfl ?_
 refine g_aloadN X d25_1 (pc' := 2) rfl rfl rfl ?_
 refine g_acmp X d25_2 (pc' := 7) (same := false) rfl rfl (decide_eq_false fun q => qb (Value.ref.inj q)) (by decide) (by decide) ?_
 refine g_aloadN X d25_7 (pc' := 8) rfl rfl rfl ?_
 refine g_instY X (tb hw 156 rfl) (Ins.self qa) d25_8 (pc' := 11) rfl ?_
 intro T X
 refine g_ifN X d25_11 ((if0 _ _).trans (feq (show ¬ ((1 : Int32) = (0 : Int32)) from (by decide))).1) (pc' := 14) rfl ?_
 refine g_aloadN X d25_14 (pc' := 15) rfl rfl rfl ?_
 refine g_checkcast X (tb hw 156 rfl) (Ins.self qa) d25_15 (pc' := 18) rfl ?_
 intro T X
 refine g_astoreN X d25_18 (pc' := 19) (Ls' := #[.val (.ref a0), .val (.ref a1), .val (.ref a1)]) rfl rfl rfl ?_
 refine g_getstatic X (host := "") (Or.inl (tb hw 17 rfl)) Via.refl qi d25_19 (pc' := 22) rfl ?_
 intro T X
 refine g_ifN X d25_22 ((if0 _ _).trans (feq (show ¬ (G1 = (0 : Int32)) from P5)).1) (pc' := 25) rfl ?_
 refine g_aloadN X d25_25 (pc' := 26) rfl rfl rfl ?_
 refine g_getfield X (host := "") (Or.inl (tb hw 28 rfl)) Via.refl qc d25_26 (pc' := 29) rfl ?_
 intro T X
 refine g_aloadN X d25_29 (pc' := 30) rfl rfl rfl ?_
 refine g_getfield X (host := "") (Or.inl (tb hw 28 rfl)) Via.refl qf d25_30 (pc' := 33) rfl ?_
 intro T X
 refine g_icN X d25_33 (teq (show (0 : Int32) = (0 : Int32) from (by decide))).2 (pc' := 36) rfl ?_
 refine g_aloadN X d25_36 (pc' := 37) rfl rfl rfl ?_
 refine g_getfield X (host := "") (Or.inl (tb hw 30 rfl)) Via.refl qd d25_37 (pc' := 40) rfl ?_
 intro T X
 refine g_aloadN X d25_40 (pc' := 41) rfl rfl rfl ?_
 refine g_getfield X (host := "") (Or.inl (tb hw 30 rfl)) Via.refl qg d25_41 (pc' := 44) rfl ?_
 intro T X
 refine g_static X (W := 0) [(.ref v0), (.ref v1)] [] (tb hw 157 rfl) (tb hw 158 rfl) (tb hw 159 rfl) (tb hw 160 rfl) (rEql0 l Z aa hw [] v0 v1 _ qe qh) d25_44 (pc' := 47) rfl (by decide) (by decide) (by decide) rfl rfl rfl (lenOf pd_18 rfl) (Nat.le_refl _) (by decide) (by decide) ?_
 intro v T L X q
 obtain ⟨rfl, X⟩ := pureX X q
 show Go p e below _ (T.setTop (mkF m 47 _ [(.int (1 : Int32))]))
 refine g_ifN X d25_47 ((if0 _ _).trans (feq (show ¬ ((1 : Int32) = (0 : Int32)) from (by decide))).1) (pc' := 50) rfl ?_
 refine g_iconst X (1 : Int32) d25_50 (pc' := 51) rfl rfl ?_
 refine g_goto X d25_51 (pc' := 55) (by decide) (by decide) ?_
 refine g_ireturnN X (t := .boolean) (by simp) d25_55 hret hlk (by decide) (by decide) ?_
 exact ⟨rfl, rfl, rfl⟩
theorem ef_rEq1 (m : MethodId) (x0 : Addr) (x1 : Addr) : entryFrame m #[(.ref x0), (.ref x1)] 3 = mkF m 0 #[.val (.ref x0), .val (.ref x1), .unset] [] := by first | (simp [entryFrame, mkF, argsToLocals, Value.category]; done) | rfl
set_option maxRecDepth 65536 in
set_option maxHeartbeats 40000000 in
theorem rEq1 (l : Launch) (Z : State) (aa : Array Value) (hw : ∀ d ∈ tables_1, d.before aa Z = true) (ws : List Jvm.Cond) (a0 : Addr) (a1 : Addr) (G1 : Int32) (v0 : Addr) (y0 : Int32) (v1 : Addr) (h0 : Heap) (qb : a0 ≠ a1) (qj : Exa Z h0 a0 "java/lang/String") (qc : Fld Z h0 a0 "java/lang/String" "coder" "B" (.int (0 : Int32))) (qd : Fld Z h0 a0 "java/lang/String" "value" "[B" (.ref v0)) (qe : Av Z h0 v0 .byte [(.int y0)]) (qa : Exa Z h0 a1 "java/lang/String") (qf : Fld Z h0 a1 "java/lang/String" "coder" "B" (.int (0 : Int32))) (qg : Fld Z h0 a1 "java/lang/String" "value" "[B" (.ref v1)) (qh : Av Z h0 v1 .byte [(.int y0)]) (qi : Sta Z h0 "java/lang/String" "COMPACT_STRINGS" "Z" (.int G1)) (P5 : ¬ G1 = (0 : Int32)) :
    Rm l Z (⟨"java/lang/String", "equals", "(Ljava/lang/Object;)Z"⟩ : MethodName) jdk_42_method_66_code 3 (some .boolean) ws ({ frames := 1, cells := 0, slots := 0, locals := 14 } : Room) #[(.ref a0), (.ref a1)] h0 (Pu (.int (1 : Int32)) h0) := by
 refine Rm.of (plainFor_of_name pn_1) ?_
 intro p e s m below meth cc T X hnm hret hlk
 refine Go.at_ (ef_rEq1 m a0 a1) ?_
 refine g_aloadN X d25_0 (pc' := 1) rfl rfl rfl ?_
 refine g_aloadN X d25_1 (pc' := 2) rfl rfl rfl ?_
 refine g_acmp X d25_2 (pc' := 7) (same := false) rfl rfl (decide_eq_false fun q => qb (Value.ref.inj q)) (by decide) (by decide) ?_
 refine g_aloadN X d25_7 (pc' := 8) rfl rfl rfl ?_
 refine g_instY X (tb hw 156 rfl) (Ins.self qa) d25_8 (pc' := 11) rfl ?_
 intro T X
 refine g_ifN X d25_11 ((if0 _ _).trans (feq (show ¬ ((1 : Int32) = (0 : Int32)) from (by decide))).1) (pc' := 14) rfl ?_
 refine g_aloadN X d25_14 (pc' := 15) rfl rfl rfl ?_
 refine g_checkcast X (tb hw 156 rfl) (Ins.self qa) d25_15 (pc' := 18) rfl ?_
 intro T X
 refine g_astoreN X d25_18 (pc' := 19) (Ls' := #[.val (.ref a0), .val (.ref a1), .val (.ref a1)]) rfl rfl rfl ?_
 refine g_getstatic X (host := "") (Or.inl (tb hw 17 rfl)) Via.refl qi d25_19 (pc' := 22) rfl ?_
 intro T X
 refine g_ifN X d25_22 ((if0 _ _).trans (feq (show ¬ (G1 = (0 : Int32)) from P5)).1) (pc' := 25) rfl ?_
 refine g_aloadN X d25_25 (pc' := 26) rfl rfl rfl ?_
 refine g_getfield X (host := "") (Or.inl (tb hw 28 rfl)) Via.refl qc d25_26 (pc' := 29) rfl ?_
 intro T X
 refine g_aloadN X d25_29 (pc' := 30) rfl rfl rfl ?_
 refine g_getfield X (host := "") (Or.inl (tb hw 28 rfl)) Via.refl qf d25_30 (pc' := 33) rfl ?_
 intro T X
 refine g_icN X d25_33 (teq (show (0 : Int32) = (0 : Int32) from (by decide))).2 (pc' := 36) rfl ?_
 refine g_aloadN X d25_36 (pc' := 37) rfl rfl rfl ?_
 refine g_getfield X (host := "") (Or.inl (tb hw 30 rfl)) Via.refl qd d25_37 (pc' := 40) rfl ?_
 intro T X
 refine g_aloadN X d25_40 (pc' := 41) rfl rfl rfl ?_
 refine g_getfield X (host := "") (Or.inl (tb hw 30 rfl)) Via.refl qg d25_41 (pc' := 44) rfl ?_
 intro T X
 refine g_static X (W := 0) [(.ref v0), (.ref v1)] [] (tb hw 157 rfl) (tb hw 158 rfl) (tb hw 159 rfl) (tb hw 160 rfl) (rEql1 l Z aa hw [] v0 v1 y0 _ qe qh) d25_44 (pc' := 47) rfl (by decide) (by decide) (by decide) rfl rfl rfl (lenOf pd_18 rfl) (Nat.le_refl _) (by decide) (by decide) ?_
 intro v T L X q
 obtain ⟨rfl, X⟩ := pureX X q
 show Go p e below _ (T.setTop (mkF m 47 _ [(.int (1 : Int32))]))
 refine g_ifN X d25_47 ((if0 _ _).trans (feq (show ¬ ((1 : Int32) = (0 : Int32)) from (by decide))).1) (pc' := 50) rfl ?_
 refine g_iconst X (1 : Int32) d25_50 (pc' := 51) rfl rfl ?_
 refine g_goto X d25_51 (pc' := 55) (by decide) (by decide) ?_
 refine g_ireturnN X (t := .boolean) (by simp) d25_55 hret hlk (by decide) (by decide) ?_
 exact ⟨rfl, rfl, rfl⟩
theorem ef_rEq2 (m : MethodId) (x0 : Addr) (x1 : Addr) : entryFrame m #[(.ref x0), (.ref x1)] 3 = mkF m 0 #[.val (.ref x0), .val (.ref x1), .unset] [] := by first | (simp [entryFrame, mkF, argsToLocals, Value.category]; done) | rfl
set_option maxRecDepth 65536 in
set_option maxHeartbeats 40000000 in
theorem rEq2 (l : Launch) (Z : State) (aa : Array Value) (hw : ∀ d ∈ tables_1, d.before aa Z = true) (ws : List Jvm.Cond) (a0 : Addr) (a1 : Addr) (G1 : Int32) (v0 : Addr) (y0 : Int32) (y1 : Int32) (v1 : Addr) (h0 : Heap) (qb : a0 ≠ a1) (qj : Exa Z h0 a0 "java/lang/String") (qc : Fld Z h0 a0 "java/lang/String" "coder" "B" (.int (0 : Int32))) (qd : Fld Z h0 a0 "java/lang/String" "value" "[B" (.ref v0)) (qe : Av Z h0 v0 .byte [(.int y0), (.int y1)]) (qa : Exa Z h0 a1 "java/lang/String") (qf : Fld Z h0 a1 "java/lang/String" "coder" "B" (.int (0 : Int32))) (qg : Fld Z h0 a1 "java/lang/String" "value" "[B" (.ref v1)) (qh : Av Z h0 v1 .byte [(.int y0), (.int y1)]) (qi : Sta Z h0 "java/lang/String" "COMPACT_STRINGS" "Z" (.int G1)) (P5 : ¬ G1 = (0 : Int32)) :
    Rm l Z (⟨"java/lang/String", "equals", "(Ljava/lang/Object;)Z"⟩ : MethodName) jdk_42_method_66_code 3 (some .boolean) ws ({ frames := 1, cells := 0, slots := 0, locals := 14 } : Room) #[(.ref a0), (.ref a1)] h0 (Pu (.int (1 : Int32)) h0) := by
 refine Rm.of (plainFor_of_name pn_1) ?_
 intro p e s m below meth cc T X hnm hret hlk
 refine Go.at_ (ef_rEq2 m a0 a1) ?_
 refine g_aloadN X d25_0 (pc' := 1) rfl rfl rfl ?_
 refine g_aloadN X d25_1 (pc' := 2) rfl rfl rfl ?_
 refine g_acmp X d25_2 (pc' := 7) (same := false) rfl rfl (decide_eq_false fun q => qb (Value.ref.inj q)) (by decide) (by decide) ?_
 refine g_aloadN X d25_7 (pc' := 8) rfl rfl rfl ?_
 refine g_instY X (tb hw 156 rfl) (Ins.self qa) d25_8 (pc' := 11) rfl ?_
 intro T X
 refine g_ifN X d25_11 ((if0 _ _).trans (feq (show ¬ ((1 : Int32) = (0 : Int32)) from (by decide))).1) (pc' := 14) rfl ?_
 refine g_aloadN X d25_14 (pc' := 15) rfl rfl rfl ?_
 refine g_checkcast X (tb hw 156 rfl) (Ins.self qa) d25_15 (pc' := 18) rfl ?_
 intro T X
 refine g_astoreN X d25_18 (pc' := 19) (Ls' := #[.val (.ref a0), .val (.ref a1), .val (.ref a1)]) rfl rfl rfl ?_
 refine g_getstatic X (host := "") (Or.inl (tb hw 17 rfl)) Via.refl qi d25_19 (pc' := 22) rfl ?_
 intro T X
 refine g_ifN X d25_22 ((if0 _ _).trans (feq (show ¬ (G1 = (0 : Int32)) from P5)).1) (pc' := 25) rfl ?_
 refine g_aloadN X d25_25 (pc' := 26) rfl rfl rfl ?_
 refine g_getfield X (host := "") (Or.inl (tb hw 28 rfl)) Via.refl qc d25_26 (pc' := 29) rfl ?_
 intro T X
 refine g_aloadN X d25_29 (pc' := 30) rfl rfl rfl ?_
 refine g_getfield X (host := "") (Or.inl (tb hw 28 rfl)) Via.refl qf d25_30 (pc' := 33) rfl ?_
 intro T X
 refine g_icN X d25_33 (teq (show (0 : Int32) = (0 : Int32) from (by decide))).2 (pc' := 36) rfl ?_
 refine g_aloadN X d25_36 (pc' := 37) rfl rfl rfl ?_
 refine g_getfield X (host := "") (Or.inl (tb hw 30 rfl)) Via.refl qd d25_37 (pc' := 40) rfl ?_
 intro T X
 refine g_aloadN X d25_40 (pc' := 41) rfl rfl rfl ?_
 refine g_getfield X (host := "") (Or.inl (tb hw 30 rfl)) Via.refl qg d25_41 (pc' := 44) rfl ?_
 intro T X
 refine g_static X (W := 0) [(.ref v0), (.ref v1)] [] (tb hw 157 rfl) (tb hw 158 rfl) (tb hw 159 rfl) (tb hw 160 rfl) (rEql2 l Z aa hw [] v0 v1 y0 y1 _ qe qh) d25_44 (pc' := 47) rfl (by decide) (by decide) (by decide) rfl rfl rfl (lenOf pd_18 rfl) (Nat.le_refl _) (by decide) (by decide) ?_
 intro v T L X q
 obtain ⟨rfl, X⟩ := pureX X q
 show Go p e below _ (T.setTop (mkF m 47 _ [(.int (1 : Int32))]))
 refine g_ifN X d25_47 ((if0 _ _).trans (feq (show ¬ ((1 : Int32) = (0 : Int32)) from (by decide))).1) (pc' := 50) rfl ?_
 refine g_iconst X (1 : Int32) d25_50 (pc' := 51) rfl rfl ?_
 refine g_goto X d25_51 (pc' := 55) (by decide) (by decide) ?_
 refine g_ireturnN X (t := .boolean) (by simp) d25_55 hret hlk (by decide) (by decide) ?_
 exact ⟨rfl, rfl, rfl⟩
theorem chR {x v : Int32} (e : ((x &&& (127 : Int32)).toUInt32.toUInt16.toUInt32.toInt32) = v) : 0 ≤ v.toInt ∧ v.toInt ≤ 127 := by
  have q : (x &&& 127).toInt = x.toInt % 128 := c_mask x 127 7 (by decide) (by decide)
  have a := c_i2c (x &&& 127)
  rw [e] at a; omega
theorem byt {a v : Int32} (h : 0 ≤ a.toInt ∧ a.toInt ≤ 127) (e : a.toInt8.toInt32 = v) : nar .byte v = a := by
  have b := c_i2b a
  rw [e] at b
  have b2 := c_i2b v
  apply Int32.toInt_inj.mp
  show (v.toInt8.toInt32).toInt = _
  omega
theorem narC7 {a : Int32} (h : 0 ≤ a.toInt ∧ a.toInt ≤ 127) : nar .char a = a := by
  have b := c_i2c a
  apply Int32.toInt_inj.mp
  show (a.toUInt32.toUInt16.toUInt32.toInt32).toInt = _
  omega
theorem bcC {a : Int32} (h : 0 ≤ a.toInt ∧ a.toInt ≤ 127) : nar .byte ((nar .char a).toInt8.toInt32) = a := by rw [narC7 h]; exact byt h rfl
theorem plC {a : Int32} (h : 0 ≤ a.toInt ∧ a.toInt ≤ 127) : ¬ (255 : Int32) < nar .char a := by rw [narC7 h, Int32.lt_iff_toInt_lt]; simp only [Int32.reduceToInt]; omega
theorem nbC {a : Int32} (h : 0 ≤ a.toInt ∧ a.toInt ≤ 127) : ¬ a < (0 : Int32) := by rw [Int32.lt_iff_toInt_lt]; simp only [Int32.reduceToInt]; omega
theorem ftC {a : Int32} (h : 0 ≤ a.toInt ∧ a.toInt ≤ 127) : fits .byte (.int a) = true := by
  have q : nar .byte a.toInt8.toInt32 = a := byt h rfl
  have r := fits_nar_byte a.toInt8.toInt32
  have e : a.toInt8.toInt32.toInt8.toInt32 = a := q
  rw [e] at r; exact r
theorem bit1 {x v : Int32} (e : x &&& (1 : Int32) = v) : v = 0 ∨ v = 1 := by
  have q : (x &&& 1).toInt = x.toInt % 2 := c_mask x 1 1 (by decide) (by decide)
  rw [e] at q
  simp only [← Int32.toInt_inj, Int32.reduceToInt]; omega
theorem rol3 {x v : Int32} (e : (x &&& (255 : Int32)) % (3 : Int32) = v) : ¬ v < (0 : Int32) ∧ v < (3 : Int32) := by
  have q : (x &&& 255).toInt = x.toInt % 256 := c_mask x 255 8 (by decide) (by decide)
  have r := (c_irem (x &&& 255) 3 3 rfl).1 (by omega)
  rw [e] at r
  simp only [Int32.lt_iff_toInt_lt, Int32.reduceToInt]; omega
theorem edg3 {x v : Int32} (e : (x &&& (2147483647 : Int32)) % (3 : Int32) = v) : ¬ v < (0 : Int32) ∧ v < (3 : Int32) := by
  have q : (x &&& 2147483647).toInt = x.toInt % 2147483648 := c_mask x 2147483647 31 (by decide) (by decide)
  have r := (c_irem (x &&& 2147483647) 3 3 rfl).1 (by omega)
  rw [e] at r
  simp only [Int32.lt_iff_toInt_lt, Int32.reduceToInt]; omega
theorem two {v : Int32} (h : ¬ v < (0 : Int32) ∧ v < (3 : Int32)) (h0 : ¬ v = (0 : Int32)) (h1 : ¬ v = (1 : Int32)) : v = (2 : Int32) := by
  simp only [Int32.lt_iff_toInt_lt, ← Int32.toInt_inj, Int32.reduceToInt] at h h0 h1 ⊢; omega
theorem pick {d w r0 r1 r2 k : Int32} (h : (d = 0 ∧ w = r0) ∨ (d = 1 ∧ w = r1) ∨ (d = 2 ∧ w = r2)) (e : w = k) : (d = 0 ∧ r0 = k) ∨ (d = 1 ∧ r1 = k) ∨ (d = 2 ∧ r2 = k) := by
  rcases h with ⟨a, b⟩ | ⟨a, b⟩ | ⟨a, b⟩
  · exact Or.inl ⟨a, b ▸ e⟩
  · exact Or.inr (Or.inl ⟨a, b ▸ e⟩)
  · exact Or.inr (Or.inr ⟨a, b ▸ e⟩)
theorem pn_10 : plainName "com/example/pathlattice/pathlattice/graph/EdgesRolePinLaw" = true := by first | (simp [plainName, overriddenIn]; done) | decide +kernel
theorem pd_19 : parseMethodDescriptor "([C)V" = some ⟨[(.array .char)], none⟩ := by decide +kernel
theorem pd_20 : parseMethodDescriptor "([I[B)V" = some ⟨[(.array .int), (.array .byte)], none⟩ := by decide +kernel
theorem pd_21 : parseMethodDescriptor "([I[I[IILcom/example/pathlattice/pathlattice/graph/Strings;)V" = some ⟨[(.array .int), (.array .int), (.array .int), .int, (.object "com/example/pathlattice/pathlattice/graph/Strings")], none⟩ := by decide +kernel
theorem pd_22 : parseMethodDescriptor "(Ljava/lang/Object;)Z" = some ⟨[(.object "java/lang/Object")], some .boolean⟩ := by decide +kernel
set_option maxRecDepth 65536 in
set_option maxHeartbeats 40000000 in
theorem rLaw20 (l : Launch) (Z : State) (aa : Array Value) (hw : ∀ d ∈ tables_1, d.before aa Z = true) (i0 : Int32) (i1 : Int32) (i2 : Int32) (i3 : Int32) (u8 : Addr) (G1 : Int32) (G3 : Value) (qh : Addr) (qi : Addr) (qf : Addr) (qk : Addr) (ql : Addr) (qg : Int32) (qr : Int32) (qs : Int32) (qm : Int32) (qn : Int32) (qo : Int32) (jj : Int32) (jk : Int32) (jl : Int32) (jm : Int32) (jn : Int32) (jo : Int32) (q9 : Int32) (wt : Int32) (qc : Addr) (q3 : Addr) (h0 : Heap) (n0 : Nat) {p : Program} {e : Env} {s : State} {m : MethodId} {below : List Frame} {meth : Method} {cc : Code} {T : State} {locs : List Loc} {h : Heap} {vm0 vmA : Vm} {k0 : Nat} {hA : Heap} (P5 : ¬ G1 = (0 : Int32)) (rG3 : G3.isRef = true) (nb0 : ¬ qg < (0 : Int32)) (zr0 : ¬ qm < (0 : Int32) ∧ qm < (3 : Int32)) (nb1 : ¬ qr < (0 : Int32)) (zr1 : ¬ qn < (0 : Int32) ∧ qn < (3 : Int32)) (nb2 : ¬ qs < (0 : Int32)) (zr2 : ¬ qo < (0 : Int32) ∧ qo < (3 : Int32)) (zs0 : jj = 0 ∨ jj = 1) (zs1 : jk = 0 ∨ jk = 1) (zs2 : jl = 0 ∨ jl = 1) (ze0 : jm = 0 ∨ jm = 1) (ze1 : jn = 0 ∨ jn = 1) (ze2 : jo = 0 ∨ jo = 1) (hfit : ∀ v ∈ ([(.int qg), (.int qr), (.int qs)] : List Value), fits .byte v = true) (hkk : (q9 = (0 : Int32) ∧ qm = (0 : Int32)) ∨ (q9 = (1 : Int32) ∧ qn = (0 : Int32)) ∨ (q9 = (2 : Int32) ∧ qo = (0 : Int32))) (qz : Exa Z h u8 "sun/nio/cs/UTF_8") (ja : Exa Z h qh "[B") (q0 : Av Z h qh .byte [(.int qg), (.int qr), (.int qs)]) (jb : Exa Z h qi "[I") (q1 : Av Z h qi .int [(.int (0 : Int32)), (.int (1 : Int32)), (.int (3 : Int32)), (.int (3 : Int32))]) (jc : Exa Z h qf "[I") (qp : Av Z h qf .int [(.int qm), (.int qn), (.int qo)]) (jd : Exa Z h qk "[I") (q4 : Av Z h qk .int [(.int jj), (.int jk), (.int jl)]) (je : Exa Z h ql "[I") (q5 : Av Z h ql .int [(.int jm), (.int jn), (.int jo)]) (qd : Exa Z h qc "java/lang/String") (qt : Fld Z h qc "java/lang/String" "coder" "B" (.int (0 : Int32))) (qu : Fld Z h qc "java/lang/String" "value" "[B" (.ref q3)) (qj : Av Z h q3 .byte [(.int qg)]) (qq : Sta Z h "java/lang/String" "COMPACT_STRINGS" "Z" (.int G1)) (q6 : Sta Z h "sun/nio/cs/UTF_8" "INSTANCE" "Lsun/nio/cs/UTF_8;" (.ref u8)) (q7 : Sta Z h "java/nio/charset/StandardCharsets" "UTF_8" "Ljava/nio/charset/Charset;" (.ref u8)) (q8 : Sta Z h "jdk/internal/util/Preconditions" "SIOOBE_FORMATTER" "Ljava/util/function/BiFunction;" G3)
    (X : Sx Z x.cls code maxLocals p l e room_1 (s.setVm vm0) m #[(.int i0), (.int i1), (.int i2), (.int i3)] below meth cc T locs 8 22 h) (hS : s.Since vm0 k0) (hk : k0 ≤ h.size) (HR : CHr Z consts_1 vmA hA vm0 h) (Z0 : n0 ≤ h.size) (N : Fr n0 locs) (hnm : meth.name = x.name) (hret : meth.sig.returnType = ret) (hlk : meth.locks = false) :
    Go p e below (EndsW s (fun v h L => v = some (.int 1) ∧ Fr n0 L) room_1.cells room_1.slots) (T.setTop (mkF m 281 #[.val (.int i0), .val (.int i1), .val (.int i2), .val (.int i3), .val (.int qg), .val (.int qr), .val (.int qs), .val (.ref qh), .val (.ref qi), .val (.int qm), .val (.int qn), .val (.int qo), .val (.ref qf), .val (.ref qk), .val (.ref ql), .val (.int q9), .val (.int wt), .val (.ref qc), .unset, .unset, .unset] [])) := by
 refine g_new X (tb hw 32 rfl) (tb hw 33 rfl) (tb hw 34 rfl) at_281 (pc' := 284) rfl (by decide) (by decide) ?_
 intro T h qb q2 X Ex qv jz
 have j0 : qh ≠ qb := Nat.ne_of_lt (by rw [q2]; exact ja.lt)
 have j1 : qi ≠ qb := Nat.ne_of_lt (by rw [q2]; exact jb.lt)
 have j5 : qf ≠ qb := Nat.ne_of_lt (by rw [q2]; exact jc.lt)
 have j6 : qk ≠ qb := Nat.ne_of_lt (by rw [q2]; exact jd.lt)
 have j7 : ql ≠ qb := Nat.ne_of_lt (by rw [q2]; exact je.lt)
 have j2 : qc ≠ qb := Nat.ne_of_lt (by rw [q2]; exact qd.lt)
 have j8 : q3 ≠ qb := Nat.ne_of_lt (by rw [q2]; exact qj.lt)
 have j9 : n0 ≤ qb := by rw [q2]; exact Z0
 replace qz := qz.ext Ex
 replace ja := ja.ext Ex
 replace q0 := q0.ext Ex
 replace jb := jb.ext Ex
 replace q1 := q1.ext Ex
 replace jc := jc.ext Ex
 replace qp := qp.ext Ex
 replace jd := jd.ext Ex
 replace q4 := q4.ext Ex
 replace je := je.ext Ex
 replace q5 := q5.ext Ex
 replace qd := qd.ext Ex
 replace qt := qt.ext Ex
 replace qu := qu.ext Ex
 replace qj := qj.ext Ex
 replace qq := qq.ext Ex
 replace q6 := q6.ext Ex
 replace q7 := q7.ext Ex
 replace q8 := q8.ext Ex
 replace Z0 := Nat.le_trans Z0 Ex.1
 replace HR := HR.trans (CHr.ext Ex HR.1)
 replace hk := Nat.le_trans hk Ex.1
 have jf : Fld Z h qb "com/example/pathlattice/pathlattice/graph/Strings" "offsets" "[I" .null := jz (Or.inr (tb hw 48 rfl)) (ty := (.array .int)) (by decide)
 have jg : Fld Z h qb "com/example/pathlattice/pathlattice/graph/Strings" "bytes" "[B" .null := jz (Or.inr (tb hw 50 rfl)) (ty := (.array .byte)) (by decide)
 refine g_dup X at_284 (pc' := 285) rfl rfl ?_
 refine g_aload X at_285 (pc' := 287) rfl rfl rfl ?_
 refine g_aload X at_287 (pc' := 289) rfl rfl rfl ?_
 refine g_specialS X hS hk (elw hw) HR.1 ss0 (W := 1) (a := qb) [(.ref qi), (.ref qh)] [(.ref qb)] rfl (tb hw 35 rfl) (tb hw 36 rfl) (tb hw 34 rfl) (tb hw 37 rfl) (rSti l Z aa hw [] qb qi qh qg qr qs _ n0 Z0 qv jf jg q1 q0 j9 j1 j0) at_289 (pc' := 292) rfl (by decide) (by decide) (by decide) rfl rfl rfl (lenOf pd_20 rfl) (Nat.le_refl _) (by decide) (by decide) ?_
 intro v T L X q k1 hS hk HRn
 obtain ⟨rfl, Nq, Kq, wa, wb, wc⟩ := q
 replace N := N.app Nq
 replace HR := HR.trans HRn
 replace qq := Sta.keep qq Kq (ssS (Exa.nostat qv) ss0)
 replace q6 := Sta.keep q6 Kq (ssS (Exa.nostat qv) ss0)
 replace q7 := Sta.keep q7 Kq (ssS (Exa.nostat qv) ss0)
 replace q8 := Sta.keep q8 Kq (ssS (Exa.nostat qv) ss0)
 replace qz := qz.keep Kq
 replace ja := ja.keep Kq
 replace q0 := q0.keep Kq (ninS j0 nin0)
 replace jb := jb.keep Kq
 replace q1 := q1.keep Kq (ninS j1 nin0)
 replace jc := jc.keep Kq
 replace qp := qp.keep Kq (ninS j5 nin0)
 replace jd := jd.keep Kq
 replace q4 := q4.keep Kq (ninS j6 nin0)
 replace je := je.keep Kq
 replace q5 := q5.keep Kq (ninS j7 nin0)
 replace qd := qd.keep Kq
 replace qt := qt.keep Kq (ninS j2 nin0)
 replace qu := qu.keep Kq (ninS j2 nin0)
 replace qj := qj.keep Kq (ninS j8 nin0)
 replace Z0 := Nat.le_trans Z0 Kq.1
 replace qv := wa
 replace jf := wb
 replace jg := wc
 show Go p e below _ (T.setTop (mkF m 292 _ [(.ref qb)]))
 refine g_astore X at_292 (pc' := 294) (Ls' := #[.val (.int i0), .val (.int i1), .val (.int i2), .val (.int i3), .val (.int qg), .val (.int qr), .val (.int qs), .val (.ref qh), .val (.ref qi), .val (.int qm), .val (.int qn), .val (.int qo), .val (.ref qf), .val (.ref qk), .val (.ref ql), .val (.int q9), .val (.int wt), .val (.ref qc), .val (.ref qb), .unset, .unset]) rfl rfl rfl ?_
 refine g_new X (tb hw 51 rfl) (tb hw 52 rfl) (tb hw 53 rfl) at_294 (pc' := 297) rfl (by decide) (by decide) ?_
 intro T h qa qw X Ex qx qy
 have wd : u8 ≠ qa := Nat.ne_of_lt (by rw [qw]; exact qz.lt)
 have we : qh ≠ qa := Nat.ne_of_lt (by rw [qw]; exact ja.lt)
 have wf : qi ≠ qa := Nat.ne_of_lt (by rw [qw]; exact jb.lt)
 have j3 : qf ≠ qa := Nat.ne_of_lt (by rw [qw]; exact jc.lt)
 have wg : qk ≠ qa := Nat.ne_of_lt (by rw [qw]; exact jd.lt)
 have wh : ql ≠ qa := Nat.ne_of_lt (by rw [qw]; exact je.lt)
 have j4 : qc ≠ qa := Nat.ne_of_lt (by rw [qw]; exact qd.lt)
 have wi : q3 ≠ qa := Nat.ne_of_lt (by rw [qw]; exact qj.lt)
 have wj : qb ≠ qa := Nat.ne_of_lt (by rw [qw]; exact qv.lt)
 have wk : n0 ≤ qa := by rw [qw]; exact Z0
 replace qz := qz.ext Ex
 replace q0 := q0.ext Ex
 replace q1 := q1.ext Ex
 replace qp := qp.ext Ex
 replace q4 := q4.ext Ex
 replace q5 := q5.ext Ex
 replace qd := qd.ext Ex
 replace qt := qt.ext Ex
 replace qu := qu.ext Ex
 replace qj := qj.ext Ex
 replace qv := qv.ext Ex
 replace jf := jf.ext Ex
 replace jg := jg.ext Ex
 replace qq := qq.ext Ex
 replace q6 := q6.ext Ex
 replace q7 := q7.ext Ex
 replace q8 := q8.ext Ex
 replace Z0 := Nat.le_trans Z0 Ex.1
 replace HR := HR.trans (CHr.ext Ex HR.1)
 replace hk := Nat.le_trans hk Ex.1
 have wl : Fld Z h qa "com/example/pathlattice/pathlattice/graph/Edges" "nodeCount" "I" (.int (0 : Int32)) := qy (Or.inr (tb hw 68 rfl)) (ty := .int) (by decide)
 have wm : Fld Z h qa "com/example/pathlattice/pathlattice/graph/Edges" "starts" "[I" .null := qy (Or.inr (tb hw 70 rfl)) (ty := (.array .int)) (by decide)
 have wn : Fld Z h qa "com/example/pathlattice/pathlattice/graph/Edges" "ends" "[I" .null := qy (Or.inr (tb hw 72 rfl)) (ty := (.array .int)) (by decide)
 have jh : Fld Z h qa "com/example/pathlattice/pathlattice/graph/Edges" "roles" "[I" .null := qy (Or.inr (tb hw 74 rfl)) (ty := (.array .int)) (by decide)
 have ji : Fld Z h qa "com/example/pathlattice/pathlattice/graph/Edges" "roleNames" "[Ljava/lang/String;" .null := qy (Or.inr (tb hw 78 rfl)) (ty := (.array (.object "java/lang/String"))) (by decide)
 have wo : Fld Z h qa "com/example/pathlattice/pathlattice/graph/Edges" "outOffsets" "[I" .null := qy (Or.inr (tb hw 133 rfl)) (ty := (.array .int)) (by decide)
 have wp : Fld Z h qa "com/example/pathlattice/pathlattice/graph/Edges" "outgoing" "[I" .null := qy (Or.inr (tb hw 135 rfl)) (ty := (.array .int)) (by decide)
 have wq : Fld Z h qa "com/example/pathlattice/pathlattice/graph/Edges" "inOffsets" "[I" .null := qy (Or.inr (tb hw 137 rfl)) (ty := (.array .int)) (by decide)
 have wr : Fld Z h qa "com/example/pathlattice/pathlattice/graph/Edges" "incoming" "[I" .null := qy (Or.inr (tb hw 139 rfl)) (ty := (.array .int)) (by decide)
 refine g_dup X at_297 (pc' := 298) rfl rfl ?_
 refine g_aload X at_298 (pc' := 300) rfl rfl rfl ?_
 refine g_aload X at_300 (pc' := 302) rfl rfl rfl ?_
 refine g_aload X at_302 (pc' := 304) rfl rfl rfl ?_
 refine g_iconst X (2 : Int32) at_304 (pc' := 305) rfl rfl ?_
 refine g_aload X at_305 (pc' := 307) rfl rfl rfl ?_
 refine g_specialS X hS hk (elw hw) HR.1 ss0 (W := 1) (a := qa) [(.ref qk), (.ref ql), (.ref qf), (.int (2 : Int32)), (.ref qb)] [(.ref qa)] rfl (tb hw 54 rfl) (tb hw 55 rfl) (tb hw 53 rfl) (tb hw 56 rfl) (rEdi l Z aa hw [] qa qk ql qf qb qi qh u8 jj jk jl jm jn jo qm qn qo qg qr qs G1 G3 _ n0 Z0 qx wl wm wn jh ji wo wp wq wr q4 q5 qp qv jf jg q1 q0 wk wg wh j3 wj wf we wd qq P5 q6 qz q7 q8 rG3 nb0 nb1 nb2 hfit zs0 zs1 zs2 ze0 ze1 ze2 zr0 zr1 zr2) at_307 (pc' := 310) rfl (by decide) (by decide) (by decide) rfl rfl rfl (lenOf pd_21 rfl) (Nat.le_refl _) (by decide) (by decide) ?_
 intro v T L X q k1 hS hk HRn
 obtain ⟨jp, qe, jq, jr, wx, js, wy, rfl, Nq, Kq, ws, wu, wv, jt, ww, wz, w0, ⟨ju, jv, jw, jx⟩, ⟨w1, w2, w3, w4⟩, ⟨w5, w6, w7, w8⟩⟩ := q
 have jy : qc ≠ qe := Nat.ne_of_lt (Nat.lt_of_lt_of_le qd.lt ww)
 replace N := N.app Nq
 replace HR := HR.trans HRn
 replace qq := Sta.keep qq Kq (ssS (Exa.nostat qx) ss0)
 replace qp := qp.keep Kq (ninS j3 nin0)
 replace qd := qd.keep Kq
 replace qt := qt.keep Kq (ninS j4 nin0)
 replace qu := qu.keep Kq (ninS j4 nin0)
 replace qj := qj.keep Kq (ninS wi nin0)
 replace Z0 := Nat.le_trans Z0 Kq.1
 replace qx := ws
 replace ji := wu
 replace jh := wv
 show Go p e below _ (T.setTop (mkF m 310 _ [(.ref qa)]))
 refine g_astore X at_310 (pc' := 312) (Ls' := #[.val (.int i0), .val (.int i1), .val (.int i2), .val (.int i3), .val (.int qg), .val (.int qr), .val (.int qs), .val (.ref qh), .val (.ref qi), .val (.int qm), .val (.int qn), .val (.int qo), .val (.ref qf), .val (.ref qk), .val (.ref ql), .val (.int q9), .val (.int wt), .val (.ref qc), .val (.ref qb), .val (.ref qa), .unset]) rfl rfl rfl ?_
 rcases hkk with ⟨hs1, hs2⟩ | ⟨hs1, hs2⟩ | ⟨hs1, hs2⟩
 subst hs1
 subst hs2
 show Go p e below _ (T.setTop (mkF m 312 _ []))
 refine g_aload X at_312 (pc' := 314) rfl rfl rfl ?_
 refine g_iload X at_314 (pc' := 316) rfl rfl ?_
 refine g_virtual X (W := 0) (a := qa) (C := "com/example/pathlattice/pathlattice/graph/Edges") [(.int (0 : Int32))] [] qx (tb hw 146 rfl) (tb hw 147 rfl) (tb hw 149 rfl) (tb hw 148 rfl) (tb hw 53 rfl) (tb hw 150 rfl) (rRo00 l Z aa hw [] qa jp qf qe jr js qn qo _ qx ji jh jt qp) at_316 (pc' := 319) rfl (by decide) (by decide) (by decide) rfl rfl rfl (lenOf pd_16 rfl) (Nat.le_refl _) (by decide) (by decide) ?_
 intro v T L X q
 obtain ⟨rfl, X⟩ := pureX X q
 show Go p e below _ (T.setTop (mkF m 319 _ [(.ref qe)]))
 refine g_astore X at_319 (pc' := 321) (Ls' := #[.val (.int i0), .val (.int i1), .val (.int i2), .val (.int i3), .val (.int qg), .val (.int qr), .val (.int qs), .val (.ref qh), .val (.ref qi), .val (.int (0 : Int32)), .val (.int qn), .val (.int qo), .val (.ref qf), .val (.ref qk), .val (.ref ql), .val (.int (0 : Int32)), .val (.int wt), .val (.ref qc), .val (.ref qb), .val (.ref qa), .val (.ref qe)]) rfl rfl rfl ?_
 refine g_aload X at_321 (pc' := 323) rfl rfl rfl ?_
 refine g_aload X at_323 (pc' := 325) rfl rfl rfl ?_
 refine g_virtual X (W := 0) (a := qc) (C := "java/lang/String") [(.ref qe)] [] qd (tb hw 151 rfl) (tb hw 152 rfl) (tb hw 154 rfl) (tb hw 153 rfl) (tb hw 5 rfl) (tb hw 155 rfl) (rEq1 l Z aa hw [] qc qe G1 q3 qg jq _ jy qd qt qu qj ju jv jw jx qq P5) at_325 (pc' := 328) rfl (by decide) (by decide) (by decide) rfl rfl rfl (lenOf pd_22 rfl) (Nat.le_refl _) (by decide) (by decide) ?_
 intro v T L X q
 obtain ⟨rfl, X⟩ := pureX X q
 show Go p e below _ (T.setTop (mkF m 328 _ [(.int (1 : Int32))]))
 refine g_ireturnNW X hS hk (t := .boolean) (by simp) at_328 hret hlk (by decide) (by decide) ?_
 exact ⟨rfl, N⟩
 subst hs1
 subst hs2
 show Go p e below _ (T.setTop (mkF m 312 _ []))
 refine g_aload X at_312 (pc' := 314) rfl rfl rfl ?_
 refine g_iload X at_314 (pc' := 316) rfl rfl ?_
 refine g_virtual X (W := 0) (a := qa) (C := "com/example/pathlattice/pathlattice/graph/Edges") [(.int (1 : Int32))] [] qx (tb hw 146 rfl) (tb hw 147 rfl) (tb hw 149 rfl) (tb hw 148 rfl) (tb hw 53 rfl) (tb hw 150 rfl) (rRo10 l Z aa hw [] qa jp qf qe jr js qm qo _ qx ji jh jt qp) at_316 (pc' := 319) rfl (by decide) (by decide) (by decide) rfl rfl rfl (lenOf pd_16 rfl) (Nat.le_refl _) (by decide) (by decide) ?_
 intro v T L X q
 obtain ⟨rfl, X⟩ := pureX X q
 show Go p e below _ (T.setTop (mkF m 319 _ [(.ref qe)]))
 refine g_astore X at_319 (pc' := 321) (Ls' := #[.val (.int i0), .val (.int i1), .val (.int i2), .val (.int i3), .val (.int qg), .val (.int qr), .val (.int qs), .val (.ref qh), .val (.ref qi), .val (.int qm), .val (.int (0 : Int32)), .val (.int qo), .val (.ref qf), .val (.ref qk), .val (.ref ql), .val (.int (1 : Int32)), .val (.int wt), .val (.ref qc), .val (.ref qb), .val (.ref qa), .val (.ref qe)]) rfl rfl rfl ?_
 refine g_aload X at_321 (pc' := 323) rfl rfl rfl ?_
 refine g_aload X at_323 (pc' := 325) rfl rfl rfl ?_
 refine g_virtual X (W := 0) (a := qc) (C := "java/lang/String") [(.ref qe)] [] qd (tb hw 151 rfl) (tb hw 152 rfl) (tb hw 154 rfl) (tb hw 153 rfl) (tb hw 5 rfl) (tb hw 155 rfl) (rEq1 l Z aa hw [] qc qe G1 q3 qg jq _ jy qd qt qu qj ju jv jw jx qq P5) at_325 (pc' := 328) rfl (by decide) (by decide) (by decide) rfl rfl rfl (lenOf pd_22 rfl) (Nat.le_refl _) (by decide) (by decide) ?_
 intro v T L X q
 obtain ⟨rfl, X⟩ := pureX X q
 show Go p e below _ (T.setTop (mkF m 328 _ [(.int (1 : Int32))]))
 refine g_ireturnNW X hS hk (t := .boolean) (by simp) at_328 hret hlk (by decide) (by decide) ?_
 exact ⟨rfl, N⟩
 subst hs1
 subst hs2
 show Go p e below _ (T.setTop (mkF m 312 _ []))
 refine g_aload X at_312 (pc' := 314) rfl rfl rfl ?_
 refine g_iload X at_314 (pc' := 316) rfl rfl ?_
 refine g_virtual X (W := 0) (a := qa) (C := "com/example/pathlattice/pathlattice/graph/Edges") [(.int (2 : Int32))] [] qx (tb hw 146 rfl) (tb hw 147 rfl) (tb hw 149 rfl) (tb hw 148 rfl) (tb hw 53 rfl) (tb hw 150 rfl) (rRo20 l Z aa hw [] qa jp qf qe jr js qm qn _ qx ji jh jt qp) at_316 (pc' := 319) rfl (by decide) (by decide) (by decide) rfl rfl rfl (lenOf pd_16 rfl) (Nat.le_refl _) (by decide) (by decide) ?_
 intro v T L X q
 obtain ⟨rfl, X⟩ := pureX X q
 show Go p e below _ (T.setTop (mkF m 319 _ [(.ref qe)]))
 refine g_astore X at_319 (pc' := 321) (Ls' := #[.val (.int i0), .val (.int i1), .val (.int i2), .val (.int i3), .val (.int qg), .val (.int qr), .val (.int qs), .val (.ref qh), .val (.ref qi), .val (.int qm), .val (.int qn), .val (.int (0 : Int32)), .val (.ref qf), .val (.ref qk), .val (.ref ql), .val (.int (2 : Int32)), .val (.int wt), .val (.ref qc), .val (.ref qb), .val (.ref qa), .val (.ref qe)]) rfl rfl rfl ?_
 refine g_aload X at_321 (pc' := 323) rfl rfl rfl ?_
 refine g_aload X at_323 (pc' := 325) rfl rfl rfl ?_
 refine g_virtual X (W := 0) (a := qc) (C := "java/lang/String") [(.ref qe)] [] qd (tb hw 151 rfl) (tb hw 152 rfl) (tb hw 154 rfl) (tb hw 153 rfl) (tb hw 5 rfl) (tb hw 155 rfl) (rEq1 l Z aa hw [] qc qe G1 q3 qg jq _ jy qd qt qu qj ju jv jw jx qq P5) at_325 (pc' := 328) rfl (by decide) (by decide) (by decide) rfl rfl rfl (lenOf pd_22 rfl) (Nat.le_refl _) (by decide) (by decide) ?_
 intro v T L X q
 obtain ⟨rfl, X⟩ := pureX X q
 show Go p e below _ (T.setTop (mkF m 328 _ [(.int (1 : Int32))]))
 refine g_ireturnNW X hS hk (t := .boolean) (by simp) at_328 hret hlk (by decide) (by decide) ?_
 exact ⟨rfl, N⟩
set_option maxRecDepth 65536 in
set_option maxHeartbeats 40000000 in
theorem rLaw21 (l : Launch) (Z : State) (aa : Array Value) (hw : ∀ d ∈ tables_1, d.before aa Z = true) (i0 : Int32) (i1 : Int32) (i2 : Int32) (i3 : Int32) (u8 : Addr) (G1 : Int32) (G3 : Value) (qi : Addr) (qj : Addr) (qf : Addr) (ql : Addr) (qm : Addr) (qs : Int32) (qg : Int32) (qh : Int32) (qn : Int32) (qo : Int32) (qp : Int32) (jj : Int32) (jk : Int32) (jl : Int32) (jm : Int32) (jn : Int32) (jo : Int32) (q9 : Int32) (wt : Int32) (qc : Addr) (q3 : Addr) (h0 : Heap) (n0 : Nat) {p : Program} {e : Env} {s : State} {m : MethodId} {below : List Frame} {meth : Method} {cc : Code} {T : State} {locs : List Loc} {h : Heap} {vm0 vmA : Vm} {k0 : Nat} {hA : Heap} (P5 : ¬ G1 = (0 : Int32)) (rG3 : G3.isRef = true) (nb0 : ¬ qs < (0 : Int32)) (zr0 : ¬ qn < (0 : Int32) ∧ qn < (3 : Int32)) (nb1 : ¬ qg < (0 : Int32)) (zr1 : ¬ qo < (0 : Int32) ∧ qo < (3 : Int32)) (nb2 : ¬ qh < (0 : Int32)) (zr2 : ¬ qp < (0 : Int32) ∧ qp < (3 : Int32)) (zs0 : jj = 0 ∨ jj = 1) (zs1 : jk = 0 ∨ jk = 1) (zs2 : jl = 0 ∨ jl = 1) (ze0 : jm = 0 ∨ jm = 1) (ze1 : jn = 0 ∨ jn = 1) (ze2 : jo = 0 ∨ jo = 1) (hfit : ∀ v ∈ ([(.int qs), (.int qg), (.int qh)] : List Value), fits .byte v = true) (hkk : (q9 = (0 : Int32) ∧ qn = (1 : Int32)) ∨ (q9 = (1 : Int32) ∧ qo = (1 : Int32)) ∨ (q9 = (2 : Int32) ∧ qp = (1 : Int32))) (qz : Exa Z h u8 "sun/nio/cs/UTF_8") (ja : Exa Z h qi "[B") (q0 : Av Z h qi .byte [(.int qs), (.int qg), (.int qh)]) (jb : Exa Z h qj "[I") (q1 : Av Z h qj .int [(.int (0 : Int32)), (.int (1 : Int32)), (.int (3 : Int32)), (.int (3 : Int32))]) (jc : Exa Z h qf "[I") (qq : Av Z h qf .int [(.int qn), (.int qo), (.int qp)]) (jd : Exa Z h ql "[I") (q4 : Av Z h ql .int [(.int jj), (.int jk), (.int jl)]) (je : Exa Z h qm "[I") (q5 : Av Z h qm .int [(.int jm), (.int jn), (.int jo)]) (qd : Exa Z h qc "java/lang/String") (qt : Fld Z h qc "java/lang/String" "coder" "B" (.int (0 : Int32))) (qu : Fld Z h qc "java/lang/String" "value" "[B" (.ref q3)) (qk : Av Z h q3 .byte [(.int qg), (.int qh)]) (qr : Sta Z h "java/lang/String" "COMPACT_STRINGS" "Z" (.int G1)) (q6 : Sta Z h "sun/nio/cs/UTF_8" "INSTANCE" "Lsun/nio/cs/UTF_8;" (.ref u8)) (q7 : Sta Z h "java/nio/charset/StandardCharsets" "UTF_8" "Ljava/nio/charset/Charset;" (.ref u8)) (q8 : Sta Z h "jdk/internal/util/Preconditions" "SIOOBE_FORMATTER" "Ljava/util/function/BiFunction;" G3)
    (X : Sx Z x.cls code maxLocals p l e room_1 (s.setVm vm0) m #[(.int i0), (.int i1), (.int i2), (.int i3)] below meth cc T locs 8 24 h) (hS : s.Since vm0 k0) (hk : k0 ≤ h.size) (HR : CHr Z consts_1 vmA hA vm0 h) (Z0 : n0 ≤ h.size) (N : Fr n0 locs) (hnm : meth.name = x.name) (hret : meth.sig.returnType = ret) (hlk : meth.locks = false) :
    Go p e below (EndsW s (fun v h L => v = some (.int 1) ∧ Fr n0 L) room_1.cells room_1.slots) (T.setTop (mkF m 281 #[.val (.int i0), .val (.int i1), .val (.int i2), .val (.int i3), .val (.int qs), .val (.int qg), .val (.int qh), .val (.ref qi), .val (.ref qj), .val (.int qn), .val (.int qo), .val (.int qp), .val (.ref qf), .val (.ref ql), .val (.ref qm), .val (.int q9), .val (.int wt), .val (.ref qc), .unset, .unset, .unset] [])) := by
 refine g_new X (tb hw 32 rfl) (tb hw 33 rfl) (tb hw 34 rfl) at_281 (pc' := 284) rfl (by decide) (by decide) ?_
 intro T h qb q2 X Ex qv jz
 have j0 : qi ≠ qb := Nat.ne_of_lt (by rw [q2]; exact ja.lt)
 have j1 : qj ≠ qb := Nat.ne_of_lt (by rw [q2]; exact jb.lt)
 have j5 : qf ≠ qb := Nat.ne_of_lt (by rw [q2]; exact jc.lt)
 have j6 : ql ≠ qb := Nat.ne_of_lt (by rw [q2]; exact jd.lt)
 have j7 : qm ≠ qb := Nat.ne_of_lt (by rw [q2]; exact je.lt)
 have j2 : qc ≠ qb := Nat.ne_of_lt (by rw [q2]; exact qd.lt)
 have j8 : q3 ≠ qb := Nat.ne_of_lt (by rw [q2]; exact qk.lt)
 have j9 : n0 ≤ qb := by rw [q2]; exact Z0
 replace qz := qz.ext Ex
 replace ja := ja.ext Ex
 replace q0 := q0.ext Ex
 replace jb := jb.ext Ex
 replace q1 := q1.ext Ex
 replace jc := jc.ext Ex
 replace qq := qq.ext Ex
 replace jd := jd.ext Ex
 replace q4 := q4.ext Ex
 replace je := je.ext Ex
 replace q5 := q5.ext Ex
 replace qd := qd.ext Ex
 replace qt := qt.ext Ex
 replace qu := qu.ext Ex
 replace qk := qk.ext Ex
 replace qr := qr.ext Ex
 replace q6 := q6.ext Ex
 replace q7 := q7.ext Ex
 replace q8 := q8.ext Ex
 replace Z0 := Nat.le_trans Z0 Ex.1
 replace HR := HR.trans (CHr.ext Ex HR.1)
 replace hk := Nat.le_trans hk Ex.1
 have jf : Fld Z h qb "com/example/pathlattice/pathlattice/graph/Strings" "offsets" "[I" .null := jz (Or.inr (tb hw 48 rfl)) (ty := (.array .int)) (by decide)
 have jg : Fld Z h qb "com/example/pathlattice/pathlattice/graph/Strings" "bytes" "[B" .null := jz (Or.inr (tb hw 50 rfl)) (ty := (.array .byte)) (by decide)
 refine g_dup X at_284 (pc' := 285) rfl rfl ?_
 refine g_aload X at_285 (pc' := 287) rfl rfl rfl ?_
 refine g_aload X at_287 (pc' := 289) rfl rfl rfl ?_
 refine g_specialS X hS hk (elw hw) HR.1 ss0 (W := 1) (a := qb) [(.ref qj), (.ref qi)] [(.ref qb)] rfl (tb hw 35 rfl) (tb hw 36 rfl) (tb hw 34 rfl) (tb hw 37 rfl) (rSti l Z aa hw [] qb qj qi qs qg qh _ n0 Z0 qv jf jg q1 q0 j9 j1 j0) at_289 (pc' := 292) rfl (by decide) (by decide) (by decide) rfl rfl rfl (lenOf pd_20 rfl) (Nat.le_refl _) (by decide) (by decide) ?_
 intro v T L X q k1 hS hk HRn
 obtain ⟨rfl, Nq, Kq, wa, wb, wc⟩ := q
 replace N := N.app Nq
 replace HR := HR.trans HRn
 replace qr := Sta.keep qr Kq (ssS (Exa.nostat qv) ss0)
 replace q6 := Sta.keep q6 Kq (ssS (Exa.nostat qv) ss0)
 replace q7 := Sta.keep q7 Kq (ssS (Exa.nostat qv) ss0)
 replace q8 := Sta.keep q8 Kq (ssS (Exa.nostat qv) ss0)
 replace qz := qz.keep Kq
 replace ja := ja.keep Kq
 replace q0 := q0.keep Kq (ninS j0 nin0)
 replace jb := jb.keep Kq
 replace q1 := q1.keep Kq (ninS j1 nin0)
 replace jc := jc.keep Kq
 replace qq := qq.keep Kq (ninS j5 nin0)
 replace jd := jd.keep Kq
 replace q4 := q4.keep Kq (ninS j6 nin0)
 replace je := je.keep Kq
 replace q5 := q5.keep Kq (ninS j7 nin0)
 replace qd := qd.keep Kq
 replace qt := qt.keep Kq (ninS j2 nin0)
 replace qu := qu.keep Kq (ninS j2 nin0)
 replace qk := qk.keep Kq (ninS j8 nin0)
 replace Z0 := Nat.le_trans Z0 Kq.1
 replace qv := wa
 replace jf := wb
 replace jg := wc
 show Go p e below _ (T.setTop (mkF m 292 _ [(.ref qb)]))
 refine g_astore X at_292 (pc' := 294) (Ls' := #[.val (.int i0), .val (.int i1), .val (.int i2), .val (.int i3), .val (.int qs), .val (.int qg), .val (.int qh), .val (.ref qi), .val (.ref qj), .val (.int qn), .val (.int qo), .val (.int qp), .val (.ref qf), .val (.ref ql), .val (.ref qm), .val (.int q9), .val (.int wt), .val (.ref qc), .val (.ref qb), .unset, .unset]) rfl rfl rfl ?_
 refine g_new X (tb hw 51 rfl) (tb hw 52 rfl) (tb hw 53 rfl) at_294 (pc' := 297) rfl (by decide) (by decide) ?_
 intro T h qa qw X Ex qx qy
 have wd : u8 ≠ qa := Nat.ne_of_lt (by rw [qw]; exact qz.lt)
 have we : qi ≠ qa := Nat.ne_of_lt (by rw [qw]; exact ja.lt)
 have wf : qj ≠ qa := Nat.ne_of_lt (by rw [qw]; exact jb.lt)
 have j3 : qf ≠ qa := Nat.ne_of_lt (by rw [qw]; exact jc.lt)
 have wg : ql ≠ qa := Nat.ne_of_lt (by rw [qw]; exact jd.lt)
 have wh : qm ≠ qa := Nat.ne_of_lt (by rw [qw]; exact je.lt)
 have j4 : qc ≠ qa := Nat.ne_of_lt (by rw [qw]; exact qd.lt)
 have wi : q3 ≠ qa := Nat.ne_of_lt (by rw [qw]; exact qk.lt)
 have wj : qb ≠ qa := Nat.ne_of_lt (by rw [qw]; exact qv.lt)
 have wk : n0 ≤ qa := by rw [qw]; exact Z0
 replace qz := qz.ext Ex
 replace q0 := q0.ext Ex
 replace q1 := q1.ext Ex
 replace qq := qq.ext Ex
 replace q4 := q4.ext Ex
 replace q5 := q5.ext Ex
 replace qd := qd.ext Ex
 replace qt := qt.ext Ex
 replace qu := qu.ext Ex
 replace qk := qk.ext Ex
 replace qv := qv.ext Ex
 replace jf := jf.ext Ex
 replace jg := jg.ext Ex
 replace qr := qr.ext Ex
 replace q6 := q6.ext Ex
 replace q7 := q7.ext Ex
 replace q8 := q8.ext Ex
 replace Z0 := Nat.le_trans Z0 Ex.1
 replace HR := HR.trans (CHr.ext Ex HR.1)
 replace hk := Nat.le_trans hk Ex.1
 have wl : Fld Z h qa "com/example/pathlattice/pathlattice/graph/Edges" "nodeCount" "I" (.int (0 : Int32)) := qy (Or.inr (tb hw 68 rfl)) (ty := .int) (by decide)
 have wm : Fld Z h qa "com/example/pathlattice/pathlattice/graph/Edges" "starts" "[I" .null := qy (Or.inr (tb hw 70 rfl)) (ty := (.array .int)) (by decide)
 have wn : Fld Z h qa "com/example/pathlattice/pathlattice/graph/Edges" "ends" "[I" .null := qy (Or.inr (tb hw 72 rfl)) (ty := (.array .int)) (by decide)
 have jh : Fld Z h qa "com/example/pathlattice/pathlattice/graph/Edges" "roles" "[I" .null := qy (Or.inr (tb hw 74 rfl)) (ty := (.array .int)) (by decide)
 have ji : Fld Z h qa "com/example/pathlattice/pathlattice/graph/Edges" "roleNames" "[Ljava/lang/String;" .null := qy (Or.inr (tb hw 78 rfl)) (ty := (.array (.object "java/lang/String"))) (by decide)
 have wo : Fld Z h qa "com/example/pathlattice/pathlattice/graph/Edges" "outOffsets" "[I" .null := qy (Or.inr (tb hw 133 rfl)) (ty := (.array .int)) (by decide)
 have wp : Fld Z h qa "com/example/pathlattice/pathlattice/graph/Edges" "outgoing" "[I" .null := qy (Or.inr (tb hw 135 rfl)) (ty := (.array .int)) (by decide)
 have wq : Fld Z h qa "com/example/pathlattice/pathlattice/graph/Edges" "inOffsets" "[I" .null := qy (Or.inr (tb hw 137 rfl)) (ty := (.array .int)) (by decide)
 have wr : Fld Z h qa "com/example/pathlattice/pathlattice/graph/Edges" "incoming" "[I" .null := qy (Or.inr (tb hw 139 rfl)) (ty := (.array .int)) (by decide)
 refine g_dup X at_297 (pc' := 298) rfl rfl ?_
 refine g_aload X at_298 (pc' := 300) rfl rfl rfl ?_
 refine g_aload X at_300 (pc' := 302) rfl rfl rfl ?_
 refine g_aload X at_302 (pc' := 304) rfl rfl rfl ?_
 refine g_iconst X (2 : Int32) at_304 (pc' := 305) rfl rfl ?_
 refine g_aload X at_305 (pc' := 307) rfl rfl rfl ?_
 refine g_specialS X hS hk (elw hw) HR.1 ss0 (W := 1) (a := qa) [(.ref ql), (.ref qm), (.ref qf), (.int (2 : Int32)), (.ref qb)] [(.ref qa)] rfl (tb hw 54 rfl) (tb hw 55 rfl) (tb hw 53 rfl) (tb hw 56 rfl) (rEdi l Z aa hw [] qa ql qm qf qb qj qi u8 jj jk jl jm jn jo qn qo qp qs qg qh G1 G3 _ n0 Z0 qx wl wm wn jh ji wo wp wq wr q4 q5 qq qv jf jg q1 q0 wk wg wh j3 wj wf we wd qr P5 q6 qz q7 q8 rG3 nb0 nb1 nb2 hfit zs0 zs1 zs2 ze0 ze1 ze2 zr0 zr1 zr2) at_307 (pc' := 310) rfl (by decide) (by decide) (by decide) rfl rfl rfl (lenOf pd_21 rfl) (Nat.le_refl _) (by decide) (by decide) ?_
 intro v T L X q k1 hS hk HRn
 obtain ⟨jp, jq, wx, qe, jr, js, wy, rfl, Nq, Kq, ws, wu, wv, jt, wz, ww, w0, ⟨w1, w2, w3, w4⟩, ⟨ju, jv, jw, jx⟩, ⟨w5, w6, w7, w8⟩⟩ := q
 have jy : qc ≠ qe := Nat.ne_of_lt (Nat.lt_of_lt_of_le qd.lt ww)
 replace N := N.app Nq
 replace HR := HR.trans HRn
 replace qr := Sta.keep qr Kq (ssS (Exa.nostat qx) ss0)
 replace qq := qq.keep Kq (ninS j3 nin0)
 replace qd := qd.keep Kq
 replace qt := qt.keep Kq (ninS j4 nin0)
 replace qu := qu.keep Kq (ninS j4 nin0)
 replace qk := qk.keep Kq (ninS wi nin0)
 replace Z0 := Nat.le_trans Z0 Kq.1
 replace qx := ws
 replace ji := wu
 replace jh := wv
 show Go p e below _ (T.setTop (mkF m 310 _ [(.ref qa)]))
 refine g_astore X at_310 (pc' := 312) (Ls' := #[.val (.int i0), .val (.int i1), .val (.int i2), .val (.int i3), .val (.int qs), .val (.int qg), .val (.int qh), .val (.ref qi), .val (.ref qj), .val (.int qn), .val (.int qo), .val (.int qp), .val (.ref qf), .val (.ref ql), .val (.ref qm), .val (.int q9), .val (.int wt), .val (.ref qc), .val (.ref qb), .val (.ref qa), .unset]) rfl rfl rfl ?_
 rcases hkk with ⟨hs1, hs2⟩ | ⟨hs1, hs2⟩ | ⟨hs1, hs2⟩
 subst hs1
 subst hs2
 show Go p e below _ (T.setTop (mkF m 312 _ []))
 refine g_aload X at_312 (pc' := 314) rfl rfl rfl ?_
 refine g_iload X at_314 (pc' := 316) rfl rfl ?_
 refine g_virtual X (W := 0) (a := qa) (C := "com/example/pathlattice/pathlattice/graph/Edges") [(.int (0 : Int32))] [] qx (tb hw 146 rfl) (tb hw 147 rfl) (tb hw 149 rfl) (tb hw 148 rfl) (tb hw 53 rfl) (tb hw 150 rfl) (rRo01 l Z aa hw [] qa jp qf jq qe js qo qp _ qx ji jh jt qq) at_316 (pc' := 319) rfl (by decide) (by decide) (by decide) rfl rfl rfl (lenOf pd_16 rfl) (Nat.le_refl _) (by decide) (by decide) ?_
 intro v T L X q
 obtain ⟨rfl, X⟩ := pureX X q
 show Go p e below _ (T.setTop (mkF m 319 _ [(.ref qe)]))
 refine g_astore X at_319 (pc' := 321) (Ls' := #[.val (.int i0), .val (.int i1), .val (.int i2), .val (.int i3), .val (.int qs), .val (.int qg), .val (.int qh), .val (.ref qi), .val (.ref qj), .val (.int (1 : Int32)), .val (.int qo), .val (.int qp), .val (.ref qf), .val (.ref ql), .val (.ref qm), .val (.int (0 : Int32)), .val (.int wt), .val (.ref qc), .val (.ref qb), .val (.ref qa), .val (.ref qe)]) rfl rfl rfl ?_
 refine g_aload X at_321 (pc' := 323) rfl rfl rfl ?_
 refine g_aload X at_323 (pc' := 325) rfl rfl rfl ?_
 refine g_virtual X (W := 0) (a := qc) (C := "java/lang/String") [(.ref qe)] [] qd (tb hw 151 rfl) (tb hw 152 rfl) (tb hw 154 rfl) (tb hw 153 rfl) (tb hw 5 rfl) (tb hw 155 rfl) (rEq2 l Z aa hw [] qc qe G1 q3 qg qh jr _ jy qd qt qu qk ju jv jw jx qr P5) at_325 (pc' := 328) rfl (by decide) (by decide) (by decide) rfl rfl rfl (lenOf pd_22 rfl) (Nat.le_refl _) (by decide) (by decide) ?_
 intro v T L X q
 obtain ⟨rfl, X⟩ := pureX X q
 show Go p e below _ (T.setTop (mkF m 328 _ [(.int (1 : Int32))]))
 refine g_ireturnNW X hS hk (t := .boolean) (by simp) at_328 hret hlk (by decide) (by decide) ?_
 exact ⟨rfl, N⟩
 subst hs1
 subst hs2
 show Go p e below _ (T.setTop (mkF m 312 _ []))
 refine g_aload X at_312 (pc' := 314) rfl rfl rfl ?_
 refine g_iload X at_314 (pc' := 316) rfl rfl ?_
 refine g_virtual X (W := 0) (a := qa) (C := "com/example/pathlattice/pathlattice/graph/Edges") [(.int (1 : Int32))] [] qx (tb hw 146 rfl) (tb hw 147 rfl) (tb hw 149 rfl) (tb hw 148 rfl) (tb hw 53 rfl) (tb hw 150 rfl) (rRo11 l Z aa hw [] qa jp qf jq qe js qn qp _ qx ji jh jt qq) at_316 (pc' := 319) rfl (by decide) (by decide) (by decide) rfl rfl rfl (lenOf pd_16 rfl) (Nat.le_refl _) (by decide) (by decide) ?_
 intro v T L X q
 obtain ⟨rfl, X⟩ := pureX X q
 show Go p e below _ (T.setTop (mkF m 319 _ [(.ref qe)]))
 refine g_astore X at_319 (pc' := 321) (Ls' := #[.val (.int i0), .val (.int i1), .val (.int i2), .val (.int i3), .val (.int qs), .val (.int qg), .val (.int qh), .val (.ref qi), .val (.ref qj), .val (.int qn), .val (.int (1 : Int32)), .val (.int qp), .val (.ref qf), .val (.ref ql), .val (.ref qm), .val (.int (1 : Int32)), .val (.int wt), .val (.ref qc), .val (.ref qb), .val (.ref qa), .val (.ref qe)]) rfl rfl rfl ?_
 refine g_aload X at_321 (pc' := 323) rfl rfl rfl ?_
 refine g_aload X at_323 (pc' := 325) rfl rfl rfl ?_
 refine g_virtual X (W := 0) (a := qc) (C := "java/lang/String") [(.ref qe)] [] qd (tb hw 151 rfl) (tb hw 152 rfl) (tb hw 154 rfl) (tb hw 153 rfl) (tb hw 5 rfl) (tb hw 155 rfl) (rEq2 l Z aa hw [] qc qe G1 q3 qg qh jr _ jy qd qt qu qk ju jv jw jx qr P5) at_325 (pc' := 328) rfl (by decide) (by decide) (by decide) rfl rfl rfl (lenOf pd_22 rfl) (Nat.le_refl _) (by decide) (by decide) ?_
 intro v T L X q
 obtain ⟨rfl, X⟩ := pureX X q
 show Go p e below _ (T.setTop (mkF m 328 _ [(.int (1 : Int32))]))
 refine g_ireturnNW X hS hk (t := .boolean) (by simp) at_328 hret hlk (by decide) (by decide) ?_
 exact ⟨rfl, N⟩
 subst hs1
 subst hs2
 show Go p e below _ (T.setTop (mkF m 312 _ []))
 refine g_aload X at_312 (pc' := 314) rfl rfl rfl ?_
 refine g_iload X at_314 (pc' := 316) rfl rfl ?_
 refine g_virtual X (W := 0) (a := qa) (C := "com/example/pathlattice/pathlattice/graph/Edges") [(.int (2 : Int32))] [] qx (tb hw 146 rfl) (tb hw 147 rfl) (tb hw 149 rfl) (tb hw 148 rfl) (tb hw 53 rfl) (tb hw 150 rfl) (rRo21 l Z aa hw [] qa jp qf jq qe js qn qo _ qx ji jh jt qq) at_316 (pc' := 319) rfl (by decide) (by decide) (by decide) rfl rfl rfl (lenOf pd_16 rfl) (Nat.le_refl _) (by decide) (by decide) ?_
 intro v T L X q
 obtain ⟨rfl, X⟩ := pureX X q
 show Go p e below _ (T.setTop (mkF m 319 _ [(.ref qe)]))
 refine g_astore X at_319 (pc' := 321) (Ls' := #[.val (.int i0), .val (.int i1), .val (.int i2), .val (.int i3), .val (.int qs), .val (.int qg), .val (.int qh), .val (.ref qi), .val (.ref qj), .val (.int qn), .val (.int qo), .val (.int (1 : Int32)), .val (.ref qf), .val (.ref ql), .val (.ref qm), .val (.int (2 : Int32)), .val (.int wt), .val (.ref qc), .val (.ref qb), .val (.ref qa), .val (.ref qe)]) rfl rfl rfl ?_
 refine g_aload X at_321 (pc' := 323) rfl rfl rfl ?_
 refine g_aload X at_323 (pc' := 325) rfl rfl rfl ?_
 refine g_virtual X (W := 0) (a := qc) (C := "java/lang/String") [(.ref qe)] [] qd (tb hw 151 rfl) (tb hw 152 rfl) (tb hw 154 rfl) (tb hw 153 rfl) (tb hw 5 rfl) (tb hw 155 rfl) (rEq2 l Z aa hw [] qc qe G1 q3 qg qh jr _ jy qd qt qu qk ju jv jw jx qr P5) at_325 (pc' := 328) rfl (by decide) (by decide) (by decide) rfl rfl rfl (lenOf pd_22 rfl) (Nat.le_refl _) (by decide) (by decide) ?_
 intro v T L X q
 obtain ⟨rfl, X⟩ := pureX X q
 show Go p e below _ (T.setTop (mkF m 328 _ [(.int (1 : Int32))]))
 refine g_ireturnNW X hS hk (t := .boolean) (by simp) at_328 hret hlk (by decide) (by decide) ?_
 exact ⟨rfl, N⟩
set_option maxRecDepth 65536 in
set_option maxHeartbeats 40000000 in
theorem rLaw22 (l : Launch) (Z : State) (aa : Array Value) (hw : ∀ d ∈ tables_1, d.before aa Z = true) (i0 : Int32) (i1 : Int32) (i2 : Int32) (i3 : Int32) (u8 : Addr) (G1 : Int32) (G3 : Value) (qg : Addr) (qh : Addr) (qf : Addr) (qj : Addr) (qk : Addr) (qq : Int32) (qr : Int32) (qs : Int32) (ql : Int32) (qm : Int32) (qn : Int32) (jj : Int32) (jk : Int32) (jl : Int32) (jm : Int32) (jn : Int32) (jo : Int32) (q9 : Int32) (wt : Int32) (qc : Addr) (q3 : Addr) (h0 : Heap) (n0 : Nat) {p : Program} {e : Env} {s : State} {m : MethodId} {below : List Frame} {meth : Method} {cc : Code} {T : State} {locs : List Loc} {h : Heap} {vm0 vmA : Vm} {k0 : Nat} {hA : Heap} (P5 : ¬ G1 = (0 : Int32)) (rG3 : G3.isRef = true) (nb0 : ¬ qq < (0 : Int32)) (zr0 : ¬ ql < (0 : Int32) ∧ ql < (3 : Int32)) (nb1 : ¬ qr < (0 : Int32)) (zr1 : ¬ qm < (0 : Int32) ∧ qm < (3 : Int32)) (nb2 : ¬ qs < (0 : Int32)) (zr2 : ¬ qn < (0 : Int32) ∧ qn < (3 : Int32)) (zs0 : jj = 0 ∨ jj = 1) (zs1 : jk = 0 ∨ jk = 1) (zs2 : jl = 0 ∨ jl = 1) (ze0 : jm = 0 ∨ jm = 1) (ze1 : jn = 0 ∨ jn = 1) (ze2 : jo = 0 ∨ jo = 1) (hfit : ∀ v ∈ ([(.int qq), (.int qr), (.int qs)] : List Value), fits .byte v = true) (hkk : (q9 = (0 : Int32) ∧ ql = (2 : Int32)) ∨ (q9 = (1 : Int32) ∧ qm = (2 : Int32)) ∨ (q9 = (2 : Int32) ∧ qn = (2 : Int32))) (qz : Exa Z h u8 "sun/nio/cs/UTF_8") (ja : Exa Z h qg "[B") (q0 : Av Z h qg .byte [(.int qq), (.int qr), (.int qs)]) (jb : Exa Z h qh "[I") (q1 : Av Z h qh .int [(.int (0 : Int32)), (.int (1 : Int32)), (.int (3 : Int32)), (.int (3 : Int32))]) (jc : Exa Z h qf "[I") (qo : Av Z h qf .int [(.int ql), (.int qm), (.int qn)]) (jd : Exa Z h qj "[I") (q4 : Av Z h qj .int [(.int jj), (.int jk), (.int jl)]) (je : Exa Z h qk "[I") (q5 : Av Z h qk .int [(.int jm), (.int jn), (.int jo)]) (qd : Exa Z h qc "java/lang/String") (qt : Fld Z h qc "java/lang/String" "coder" "B" (.int (0 : Int32))) (qu : Fld Z h qc "java/lang/String" "value" "[B" (.ref q3)) (qi : Av Z h q3 .byte []) (qp : Sta Z h "java/lang/String" "COMPACT_STRINGS" "Z" (.int G1)) (q6 : Sta Z h "sun/nio/cs/UTF_8" "INSTANCE" "Lsun/nio/cs/UTF_8;" (.ref u8)) (q7 : Sta Z h "java/nio/charset/StandardCharsets" "UTF_8" "Ljava/nio/charset/Charset;" (.ref u8)) (q8 : Sta Z h "jdk/internal/util/Preconditions" "SIOOBE_FORMATTER" "Ljava/util/function/BiFunction;" G3)
    (X : Sx Z x.cls code maxLocals p l e room_1 (s.setVm vm0) m #[(.int i0), (.int i1), (.int i2), (.int i3)] below meth cc T locs 11 28 h) (hS : s.Since vm0 k0) (hk : k0 ≤ h.size) (HR : CHr Z consts_1 vmA hA vm0 h) (Z0 : n0 ≤ h.size) (N : Fr n0 locs) (hnm : meth.name = x.name) (hret : meth.sig.returnType = ret) (hlk : meth.locks = false) :
    Go p e below (EndsW s (fun v h L => v = some (.int 1) ∧ Fr n0 L) room_1.cells room_1.slots) (T.setTop (mkF m 281 #[.val (.int i0), .val (.int i1), .val (.int i2), .val (.int i3), .val (.int qq), .val (.int qr), .val (.int qs), .val (.ref qg), .val (.ref qh), .val (.int ql), .val (.int qm), .val (.int qn), .val (.ref qf), .val (.ref qj), .val (.ref qk), .val (.int q9), .val (.int wt), .val (.ref qc), .unset, .unset, .unset] [])) := by
 refine g_new X (tb hw 32 rfl) (tb hw 33 rfl) (tb hw 34 rfl) at_281 (pc' := 284) rfl (by decide) (by decide) ?_
 intro T h qb q2 X Ex qv jz
 have j0 : qg ≠ qb := Nat.ne_of_lt (by rw [q2]; exact ja.lt)
 have j1 : qh ≠ qb := Nat.ne_of_lt (by rw [q2]; exact jb.lt)
 have j5 : qf ≠ qb := Nat.ne_of_lt (by rw [q2]; exact jc.lt)
 have j6 : qj ≠ qb := Nat.ne_of_lt (by rw [q2]; exact jd.lt)
 have j7 : qk ≠ qb := Nat.ne_of_lt (by rw [q2]; exact je.lt)
 have j2 : qc ≠ qb := Nat.ne_of_lt (by rw [q2]; exact qd.lt)
 have j8 : q3 ≠ qb := Nat.ne_of_lt (by rw [q2]; exact qi.lt)
 have j9 : n0 ≤ qb := by rw [q2]; exact Z0
 replace qz := qz.ext Ex
 replace ja := ja.ext Ex
 replace q0 := q0.ext Ex
 replace jb := jb.ext Ex
 replace q1 := q1.ext Ex
 replace jc := jc.ext Ex
 replace qo := qo.ext Ex
 replace jd := jd.ext Ex
 replace q4 := q4.ext Ex
 replace je := je.ext Ex
 replace q5 := q5.ext Ex
 replace qd := qd.ext Ex
 replace qt := qt.ext Ex
 replace qu := qu.ext Ex
 replace qi := qi.ext Ex
 replace qp := qp.ext Ex
 replace q6 := q6.ext Ex
 replace q7 := q7.ext Ex
 replace q8 := q8.ext Ex
 replace Z0 := Nat.le_trans Z0 Ex.1
 replace HR := HR.trans (CHr.ext Ex HR.1)
 replace hk := Nat.le_trans hk Ex.1
 have jf : Fld Z h qb "com/example/pathlattice/pathlattice/graph/Strings" "offsets" "[I" .null := jz (Or.inr (tb hw 48 rfl)) (ty := (.array .int)) (by decide)
 have jg : Fld Z h qb "com/example/pathlattice/pathlattice/graph/Strings" "bytes" "[B" .null := jz (Or.inr (tb hw 50 rfl)) (ty := (.array .byte)) (by decide)
 refine g_dup X at_284 (pc' := 285) rfl rfl ?_
 refine g_aload X at_285 (pc' := 287) rfl rfl rfl ?_
 refine g_aload X at_287 (pc' := 289) rfl rfl rfl ?_
 refine g_specialS X hS hk (elw hw) HR.1 ss0 (W := 1) (a := qb) [(.ref qh), (.ref qg)] [(.ref qb)] rfl (tb hw 35 rfl) (tb hw 36 rfl) (tb hw 34 rfl) (tb hw 37 rfl) (rSti l Z aa hw [] qb qh qg qq qr qs _ n0 Z0 qv jf jg q1 q0 j9 j1 j0) at_289 (pc' := 292) rfl (by decide) (by decide) (by decide) rfl rfl rfl (lenOf pd_20 rfl) (Nat.le_refl _) (by decide) (by decide) ?_
 intro v T L X q k1 hS hk HRn
 obtain ⟨rfl, Nq, Kq, wa, wb, wc⟩ := q
 replace N := N.app Nq
 replace HR := HR.trans HRn
 replace qp := Sta.keep qp Kq (ssS (Exa.nostat qv) ss0)
 replace q6 := Sta.keep q6 Kq (ssS (Exa.nostat qv) ss0)
 replace q7 := Sta.keep q7 Kq (ssS (Exa.nostat qv) ss0)
 replace q8 := Sta.keep q8 Kq (ssS (Exa.nostat qv) ss0)
 replace qz := qz.keep Kq
 replace ja := ja.keep Kq
 replace q0 := q0.keep Kq (ninS j0 nin0)
 replace jb := jb.keep Kq
 replace q1 := q1.keep Kq (ninS j1 nin0)
 replace jc := jc.keep Kq
 replace qo := qo.keep Kq (ninS j5 nin0)
 replace jd := jd.keep Kq
 replace q4 := q4.keep Kq (ninS j6 nin0)
 replace je := je.keep Kq
 replace q5 := q5.keep Kq (ninS j7 nin0)
 replace qd := qd.keep Kq
 replace qt := qt.keep Kq (ninS j2 nin0)
 replace qu := qu.keep Kq (ninS j2 nin0)
 replace qi := qi.keep Kq (ninS j8 nin0)
 replace Z0 := Nat.le_trans Z0 Kq.1
 replace qv := wa
 replace jf := wb
 replace jg := wc
 show Go p e below _ (T.setTop (mkF m 292 _ [(.ref qb)]))
 refine g_astore X at_292 (pc' := 294) (Ls' := #[.val (.int i0), .val (.int i1), .val (.int i2), .val (.int i3), .val (.int qq), .val (.int qr), .val (.int qs), .val (.ref qg), .val (.ref qh), .val (.int ql), .val (.int qm), .val (.int qn), .val (.ref qf), .val (.ref qj), .val (.ref qk), .val (.int q9), .val (.int wt), .val (.ref qc), .val (.ref qb), .unset, .unset]) rfl rfl rfl ?_
 refine g_new X (tb hw 51 rfl) (tb hw 52 rfl) (tb hw 53 rfl) at_294 (pc' := 297) rfl (by decide) (by decide) ?_
 intro T h qa qw X Ex qx qy
 have wd : u8 ≠ qa := Nat.ne_of_lt (by rw [qw]; exact qz.lt)
 have we : qg ≠ qa := Nat.ne_of_lt (by rw [qw]; exact ja.lt)
 have wf : qh ≠ qa := Nat.ne_of_lt (by rw [qw]; exact jb.lt)
 have j3 : qf ≠ qa := Nat.ne_of_lt (by rw [qw]; exact jc.lt)
 have wg : qj ≠ qa := Nat.ne_of_lt (by rw [qw]; exact jd.lt)
 have wh : qk ≠ qa := Nat.ne_of_lt (by rw [qw]; exact je.lt)
 have j4 : qc ≠ qa := Nat.ne_of_lt (by rw [qw]; exact qd.lt)
 have wi : q3 ≠ qa := Nat.ne_of_lt (by rw [qw]; exact qi.lt)
 have wj : qb ≠ qa := Nat.ne_of_lt (by rw [qw]; exact qv.lt)
 have wk : n0 ≤ qa := by rw [qw]; exact Z0
 replace qz := qz.ext Ex
 replace q0 := q0.ext Ex
 replace q1 := q1.ext Ex
 replace qo := qo.ext Ex
 replace q4 := q4.ext Ex
 replace q5 := q5.ext Ex
 replace qd := qd.ext Ex
 replace qt := qt.ext Ex
 replace qu := qu.ext Ex
 replace qi := qi.ext Ex
 replace qv := qv.ext Ex
 replace jf := jf.ext Ex
 replace jg := jg.ext Ex
 replace qp := qp.ext Ex
 replace q6 := q6.ext Ex
 replace q7 := q7.ext Ex
 replace q8 := q8.ext Ex
 replace Z0 := Nat.le_trans Z0 Ex.1
 replace HR := HR.trans (CHr.ext Ex HR.1)
 replace hk := Nat.le_trans hk Ex.1
 have wl : Fld Z h qa "com/example/pathlattice/pathlattice/graph/Edges" "nodeCount" "I" (.int (0 : Int32)) := qy (Or.inr (tb hw 68 rfl)) (ty := .int) (by decide)
 have wm : Fld Z h qa "com/example/pathlattice/pathlattice/graph/Edges" "starts" "[I" .null := qy (Or.inr (tb hw 70 rfl)) (ty := (.array .int)) (by decide)
 have wn : Fld Z h qa "com/example/pathlattice/pathlattice/graph/Edges" "ends" "[I" .null := qy (Or.inr (tb hw 72 rfl)) (ty := (.array .int)) (by decide)
 have jh : Fld Z h qa "com/example/pathlattice/pathlattice/graph/Edges" "roles" "[I" .null := qy (Or.inr (tb hw 74 rfl)) (ty := (.array .int)) (by decide)
 have ji : Fld Z h qa "com/example/pathlattice/pathlattice/graph/Edges" "roleNames" "[Ljava/lang/String;" .null := qy (Or.inr (tb hw 78 rfl)) (ty := (.array (.object "java/lang/String"))) (by decide)
 have wo : Fld Z h qa "com/example/pathlattice/pathlattice/graph/Edges" "outOffsets" "[I" .null := qy (Or.inr (tb hw 133 rfl)) (ty := (.array .int)) (by decide)
 have wp : Fld Z h qa "com/example/pathlattice/pathlattice/graph/Edges" "outgoing" "[I" .null := qy (Or.inr (tb hw 135 rfl)) (ty := (.array .int)) (by decide)
 have wq : Fld Z h qa "com/example/pathlattice/pathlattice/graph/Edges" "inOffsets" "[I" .null := qy (Or.inr (tb hw 137 rfl)) (ty := (.array .int)) (by decide)
 have wr : Fld Z h qa "com/example/pathlattice/pathlattice/graph/Edges" "incoming" "[I" .null := qy (Or.inr (tb hw 139 rfl)) (ty := (.array .int)) (by decide)
 refine g_dup X at_297 (pc' := 298) rfl rfl ?_
 refine g_aload X at_298 (pc' := 300) rfl rfl rfl ?_
 refine g_aload X at_300 (pc' := 302) rfl rfl rfl ?_
 refine g_aload X at_302 (pc' := 304) rfl rfl rfl ?_
 refine g_iconst X (2 : Int32) at_304 (pc' := 305) rfl rfl ?_
 refine g_aload X at_305 (pc' := 307) rfl rfl rfl ?_
 refine g_specialS X hS hk (elw hw) HR.1 ss0 (W := 1) (a := qa) [(.ref qj), (.ref qk), (.ref qf), (.int (2 : Int32)), (.ref qb)] [(.ref qa)] rfl (tb hw 54 rfl) (tb hw 55 rfl) (tb hw 53 rfl) (tb hw 56 rfl) (rEdi l Z aa hw [] qa qj qk qf qb qh qg u8 jj jk jl jm jn jo ql qm qn qq qr qs G1 G3 _ n0 Z0 qx wl wm wn jh ji wo wp wq wr q4 q5 qo qv jf jg q1 q0 wk wg wh j3 wj wf we wd qp P5 q6 qz q7 q8 rG3 nb0 nb1 nb2 hfit zs0 zs1 zs2 ze0 ze1 ze2 zr0 zr1 zr2) at_307 (pc' := 310) rfl (by decide) (by decide) (by decide) rfl rfl rfl (lenOf pd_21 rfl) (Nat.le_refl _) (by decide) (by decide) ?_
 intro v T L X q k1 hS hk HRn
 obtain ⟨jp, jq, wx, jr, wy, qe, js, rfl, Nq, Kq, ws, wu, wv, jt, wz, w0, ww, ⟨w1, w2, w3, w4⟩, ⟨w5, w6, w7, w8⟩, ⟨ju, jv, jw, jx⟩⟩ := q
 have jy : qc ≠ qe := Nat.ne_of_lt (Nat.lt_of_lt_of_le qd.lt ww)
 replace N := N.app Nq
 replace HR := HR.trans HRn
 replace qp := Sta.keep qp Kq (ssS (Exa.nostat qx) ss0)
 replace qo := qo.keep Kq (ninS j3 nin0)
 replace qd := qd.keep Kq
 replace qt := qt.keep Kq (ninS j4 nin0)
 replace qu := qu.keep Kq (ninS j4 nin0)
 replace qi := qi.keep Kq (ninS wi nin0)
 replace Z0 := Nat.le_trans Z0 Kq.1
 replace qx := ws
 replace ji := wu
 replace jh := wv
 show Go p e below _ (T.setTop (mkF m 310 _ [(.ref qa)]))
 refine g_astore X at_310 (pc' := 312) (Ls' := #[.val (.int i0), .val (.int i1), .val (.int i2), .val (.int i3), .val (.int qq), .val (.int qr), .val (.int qs), .val (.ref qg), .val (.ref qh), .val (.int ql), .val (.int qm), .val (.int qn), .val (.ref qf), .val (.ref qj), .val (.ref qk), .val (.int q9), .val (.int wt), .val (.ref qc), .val (.ref qb), .val (.ref qa), .unset]) rfl rfl rfl ?_
 rcases hkk with ⟨hs1, hs2⟩ | ⟨hs1, hs2⟩ | ⟨hs1, hs2⟩
 subst hs1
 subst hs2
 show Go p e below _ (T.setTop (mkF m 312 _ []))
 refine g_aload X at_312 (pc' := 314) rfl rfl rfl ?_
 refine g_iload X at_314 (pc' := 316) rfl rfl ?_
 refine g_virtual X (W := 0) (a := qa) (C := "com/example/pathlattice/pathlattice/graph/Edges") [(.int (0 : Int32))] [] qx (tb hw 146 rfl) (tb hw 147 rfl) (tb hw 149 rfl) (tb hw 148 rfl) (tb hw 53 rfl) (tb hw 150 rfl) (rRo02 l Z aa hw [] qa jp qf jq jr qe qm qn _ qx ji jh jt qo) at_316 (pc' := 319) rfl (by decide) (by decide) (by decide) rfl rfl rfl (lenOf pd_16 rfl) (Nat.le_refl _) (by decide) (by decide) ?_
 intro v T L X q
 obtain ⟨rfl, X⟩ := pureX X q
 show Go p e below _ (T.setTop (mkF m 319 _ [(.ref qe)]))
 refine g_astore X at_319 (pc' := 321) (Ls' := #[.val (.int i0), .val (.int i1), .val (.int i2), .val (.int i3), .val (.int qq), .val (.int qr), .val (.int qs), .val (.ref qg), .val (.ref qh), .val (.int (2 : Int32)), .val (.int qm), .val (.int qn), .val (.ref qf), .val (.ref qj), .val (.ref qk), .val (.int (0 : Int32)), .val (.int wt), .val (.ref qc), .val (.ref qb), .val (.ref qa), .val (.ref qe)]) rfl rfl rfl ?_
 refine g_aload X at_321 (pc' := 323) rfl rfl rfl ?_
 refine g_aload X at_323 (pc' := 325) rfl rfl rfl ?_
 refine g_virtual X (W := 0) (a := qc) (C := "java/lang/String") [(.ref qe)] [] qd (tb hw 151 rfl) (tb hw 152 rfl) (tb hw 154 rfl) (tb hw 153 rfl) (tb hw 5 rfl) (tb hw 155 rfl) (rEq0 l Z aa hw [] qc qe G1 q3 js _ jy qd qt qu qi ju jv jw jx qp P5) at_325 (pc' := 328) rfl (by decide) (by decide) (by decide) rfl rfl rfl (lenOf pd_22 rfl) (Nat.le_refl _) (by decide) (by decide) ?_
 intro v T L X q
 obtain ⟨rfl, X⟩ := pureX X q
 show Go p e below _ (T.setTop (mkF m 328 _ [(.int (1 : Int32))]))
 refine g_ireturnNW X hS hk (t := .boolean) (by simp) at_328 hret hlk (by decide) (by decide) ?_
 exact ⟨rfl, N⟩
 subst hs1
 subst hs2
 show Go p e below _ (T.setTop (mkF m 312 _ []))
 refine g_aload X at_312 (pc' := 314) rfl rfl rfl ?_
 refine g_iload X at_314 (pc' := 316) rfl rfl ?_
 refine g_virtual X (W := 0) (a := qa) (C := "com/example/pathlattice/pathlattice/graph/Edges") [(.int (1 : Int32))] [] qx (tb hw 146 rfl) (tb hw 147 rfl) (tb hw 149 rfl) (tb hw 148 rfl) (tb hw 53 rfl) (tb hw 150 rfl) (rRo12 l Z aa hw [] qa jp qf jq jr qe ql qn _ qx ji jh jt qo) at_316 (pc' := 319) rfl (by decide) (by decide) (by decide) rfl rfl rfl (lenOf pd_16 rfl) (Nat.le_refl _) (by decide) (by decide) ?_
 intro v T L X q
 obtain ⟨rfl, X⟩ := pureX X q
 show Go p e below _ (T.setTop (mkF m 319 _ [(.ref qe)]))
 refine g_astore X at_319 (pc' := 321) (Ls' := #[.val (.int i0), .val (.int i1), .val (.int i2), .val (.int i3), .val (.int qq), .val (.int qr), .val (.int qs), .val (.ref qg), .val (.ref qh), .val (.int ql), .val (.int (2 : Int32)), .val (.int qn), .val (.ref qf), .val (.ref qj), .val (.ref qk), .val (.int (1 : Int32)), .val (.int wt), .val (.ref qc), .val (.ref qb), .val (.ref qa), .val (.ref qe)]) rfl rfl rfl ?_
 refine g_aload X at_321 (pc' := 323) rfl rfl rfl ?_
 refine g_aload X at_323 (pc' := 325) rfl rfl rfl ?_
 refine g_virtual X (W := 0) (a := qc) (C := "java/lang/String") [(.ref qe)] [] qd (tb hw 151 rfl) (tb hw 152 rfl) (tb hw 154 rfl) (tb hw 153 rfl) (tb hw 5 rfl) (tb hw 155 rfl) (rEq0 l Z aa hw [] qc qe G1 q3 js _ jy qd qt qu qi ju jv jw jx qp P5) at_325 (pc' := 328) rfl (by decide) (by decide) (by decide) rfl rfl rfl (lenOf pd_22 rfl) (Nat.le_refl _) (by decide) (by decide) ?_
 intro v T L X q
 obtain ⟨rfl, X⟩ := pureX X q
 show Go p e below _ (T.setTop (mkF m 328 _ [(.int (1 : Int32))]))
 refine g_ireturnNW X hS hk (t := .boolean) (by simp) at_328 hret hlk (by decide) (by decide) ?_
 exact ⟨rfl, N⟩
 subst hs1
 subst hs2
 show Go p e below _ (T.setTop (mkF m 312 _ []))
 refine g_aload X at_312 (pc' := 314) rfl rfl rfl ?_
 refine g_iload X at_314 (pc' := 316) rfl rfl ?_
 refine g_virtual X (W := 0) (a := qa) (C := "com/example/pathlattice/pathlattice/graph/Edges") [(.int (2 : Int32))] [] qx (tb hw 146 rfl) (tb hw 147 rfl) (tb hw 149 rfl) (tb hw 148 rfl) (tb hw 53 rfl) (tb hw 150 rfl) (rRo22 l Z aa hw [] qa jp qf jq jr qe ql qm _ qx ji jh jt qo) at_316 (pc' := 319) rfl (by decide) (by decide) (by decide) rfl rfl rfl (lenOf pd_16 rfl) (Nat.le_refl _) (by decide) (by decide) ?_
 intro v T L X q
 obtain ⟨rfl, X⟩ := pureX X q
 show Go p e below _ (T.setTop (mkF m 319 _ [(.ref qe)]))
 refine g_astore X at_319 (pc' := 321) (Ls' := #[.val (.int i0), .val (.int i1), .val (.int i2), .val (.int i3), .val (.int qq), .val (.int qr), .val (.int qs), .val (.ref qg), .val (.ref qh), .val (.int ql), .val (.int qm), .val (.int (2 : Int32)), .val (.ref qf), .val (.ref qj), .val (.ref qk), .val (.int (2 : Int32)), .val (.int wt), .val (.ref qc), .val (.ref qb), .val (.ref qa), .val (.ref qe)]) rfl rfl rfl ?_
 refine g_aload X at_321 (pc' := 323) rfl rfl rfl ?_
 refine g_aload X at_323 (pc' := 325) rfl rfl rfl ?_
 refine g_virtual X (W := 0) (a := qc) (C := "java/lang/String") [(.ref qe)] [] qd (tb hw 151 rfl) (tb hw 152 rfl) (tb hw 154 rfl) (tb hw 153 rfl) (tb hw 5 rfl) (tb hw 155 rfl) (rEq0 l Z aa hw [] qc qe G1 q3 js _ jy qd qt qu qi ju jv jw jx qp P5) at_325 (pc' := 328) rfl (by decide) (by decide) (by decide) rfl rfl rfl (lenOf pd_22 rfl) (Nat.le_refl _) (by decide) (by decide) ?_
 intro v T L X q
 obtain ⟨rfl, X⟩ := pureX X q
 show Go p e below _ (T.setTop (mkF m 328 _ [(.int (1 : Int32))]))
 refine g_ireturnNW X hS hk (t := .boolean) (by simp) at_328 hret hlk (by decide) (by decide) ?_
 exact ⟨rfl, N⟩
set_option maxRecDepth 65536 in
set_option maxHeartbeats 40000000 in
theorem rLaw1 (l : Launch) (Z : State) (aa : Array Value) (hw : ∀ d ∈ tables_1, d.before aa Z = true) (i0 : Int32) (i1 : Int32) (i2 : Int32) (i3 : Int32) (u8 : Addr) (G1 : Int32) (G3 : Value) (qs : Addr) (qt : Addr) (qu : Addr) (qv : Addr) (qw : Addr) (qq : Int32) (qp : Int32) (qr : Int32) (q2 : Int32) (q3 : Int32) (q4 : Int32) (jj : Int32) (jk : Int32) (jl : Int32) (jm : Int32) (jn : Int32) (jo : Int32) (q5 : Int32) (wt : Int32) (h0 : Heap) (n0 : Nat) {p : Program} {e : Env} {s : State} {m : MethodId} {below : List Frame} {meth : Method} {cc : Code} {T : State} {locs : List Loc} {h : Heap} {vm0 vmA : Vm} {k0 : Nat} {hA : Heap} (P5 : ¬ G1 = (0 : Int32)) (rG3 : G3.isRef = true) (hwt : (q5 = 0 ∧ wt = q2) ∨ (q5 = 1 ∧ wt = q3) ∨ (q5 = 2 ∧ wt = q4)) (hwr : ¬ wt < (0 : Int32) ∧ wt < (3 : Int32)) (nb0 : ¬ qq < (0 : Int32)) (pl0 : ¬ (255 : Int32) < (nar .char qq)) (bc0 : (nar .byte ((nar .char qq).toInt8.toInt32)) = qq) (zr0 : ¬ q2 < (0 : Int32) ∧ q2 < (3 : Int32)) (nb1 : ¬ qp < (0 : Int32)) (pl1 : ¬ (255 : Int32) < (nar .char qp)) (bc1 : (nar .byte ((nar .char qp).toInt8.toInt32)) = qp) (zr1 : ¬ q3 < (0 : Int32) ∧ q3 < (3 : Int32)) (nb2 : ¬ qr < (0 : Int32)) (pl2 : ¬ (255 : Int32) < (nar .char qr)) (bc2 : (nar .byte ((nar .char qr).toInt8.toInt32)) = qr) (zr2 : ¬ q4 < (0 : Int32) ∧ q4 < (3 : Int32)) (zs0 : jj = 0 ∨ jj = 1) (zs1 : jk = 0 ∨ jk = 1) (zs2 : jl = 0 ∨ jl = 1) (ze0 : jm = 0 ∨ jm = 1) (ze1 : jn = 0 ∨ jn = 1) (ze2 : jo = 0 ∨ jo = 1) (hfit : ∀ v ∈ ([(.int qq), (.int qp), (.int qr)] : List Value), fits .byte v = true) (qg : Exa Z h u8 "sun/nio/cs/UTF_8") (qa : Exa Z h qs "[B") (qh : Av Z h qs .byte [(.int qq), (.int qp), (.int qr)]) (qb : Exa Z h qt "[I") (qi : Av Z h qt .int [(.int (0 : Int32)), (.int (1 : Int32)), (.int (3 : Int32)), (.int (3 : Int32))]) (qc : Exa Z h qu "[I") (qj : Av Z h qu .int [(.int q2), (.int q3), (.int q4)]) (qd : Exa Z h qv "[I") (qk : Av Z h qv .int [(.int jj), (.int jk), (.int jl)]) (qe : Exa Z h qw "[I") (ql : Av Z h qw .int [(.int jm), (.int jn), (.int jo)]) (qf : Sta Z h "java/lang/String" "COMPACT_STRINGS" "Z" (.int G1)) (qm : Sta Z h "sun/nio/cs/UTF_8" "INSTANCE" "Lsun/nio/cs/UTF_8;" (.ref u8)) (qn : Sta Z h "java/nio/charset/StandardCharsets" "UTF_8" "Ljava/nio/charset/Charset;" (.ref u8)) (qo : Sta Z h "jdk/internal/util/Preconditions" "SIOOBE_FORMATTER" "Ljava/util/function/BiFunction;" G3)
    (X : Sx Z x.cls code maxLocals p l e room_1 (s.setVm vm0) m #[(.int i0), (.int i1), (.int i2), (.int i3)] below meth cc T locs 5 16 h) (hS : s.Since vm0 k0) (hk : k0 ≤ h.size) (HR : CHr Z consts_1 vmA hA vm0 h) (Z0 : n0 ≤ h.size) (N : Fr n0 locs) (hnm : meth.name = x.name) (hret : meth.sig.returnType = ret) (hlk : meth.locks = false) :
    Go p e below (EndsW s (fun v h L => v = some (.int 1) ∧ Fr n0 L) room_1.cells room_1.slots) (T.setTop (mkF m 211 #[.val (.int i0), .val (.int i1), .val (.int i2), .val (.int i3), .val (.int qq), .val (.int qp), .val (.int qr), .val (.ref qs), .val (.ref qt), .val (.int q2), .val (.int q3), .val (.int q4), .val (.ref qu), .val (.ref qv), .val (.ref qw), .val (.int q5), .unset, .unset, .unset, .unset, .unset] [(.int wt)])) := by
 refine g_istore X at_211 (pc' := 213) (Ls' := #[.val (.int i0), .val (.int i1), .val (.int i2), .val (.int i3), .val (.int qq), .val (.int qp), .val (.int qr), .val (.ref qs), .val (.ref qt), .val (.int q2), .val (.int q3), .val (.int q4), .val (.ref qu), .val (.ref qv), .val (.ref qw), .val (.int q5), .val (.int wt), .unset, .unset, .unset, .unset]) rfl rfl ?_
 refine g_iload X at_213 (pc' := 215) rfl rfl ?_
 by_cases jt : wt = (0 : Int32)
 refine g_ifN X at_215 ((if0 _ _).trans (teq jt).2) (pc' := 218) rfl ?_
 refine g_new X (tb hw 3 rfl) (tb hw 4 rfl) (tb hw 5 rfl) at_218 (pc' := 221) rfl (by decide) (by decide) ?_
 intro T h qx je X Ex q1 jz
 have j8 : qs ≠ qx := Nat.ne_of_lt (by rw [je]; exact qa.lt)
 have j9 : qt ≠ qx := Nat.ne_of_lt (by rw [je]; exact qb.lt)
 have wa : qu ≠ qx := Nat.ne_of_lt (by rw [je]; exact qc.lt)
 have wb : qv ≠ qx := Nat.ne_of_lt (by rw [je]; exact qd.lt)
 have wc : qw ≠ qx := Nat.ne_of_lt (by rw [je]; exact qe.lt)
 have wd : n0 ≤ qx := by rw [je]; exact Z0
 replace qg := qg.ext Ex
 replace qa := qa.ext Ex
 replace qh := qh.ext Ex
 replace qb := qb.ext Ex
 replace qi := qi.ext Ex
 replace qc := qc.ext Ex
 replace qj := qj.ext Ex
 replace qd := qd.ext Ex
 replace qk := qk.ext Ex
 replace qe := qe.ext Ex
 replace ql := ql.ext Ex
 replace qf := qf.ext Ex
 replace qm := qm.ext Ex
 replace qn := qn.ext Ex
 replace qo := qo.ext Ex
 replace Z0 := Nat.le_trans Z0 Ex.1
 have S_b218_24 := Safe.ext Ex HR.1 (Safe.new (Nat.le_of_eq je.symm))
 replace HR := HR.trans (CHr.ext Ex HR.1)
 replace hk := Nat.le_trans hk Ex.1
 have jf : Fld Z h qx "java/lang/String" "coder" "B" (.int (0 : Int32)) := jz (Or.inr (tb hw 29 rfl)) (ty := .byte) (by decide)
 have jg : Fld Z h qx "java/lang/String" "value" "[B" .null := jz (Or.inr (tb hw 31 rfl)) (ty := (.array .byte)) (by decide)
 refine g_dup X at_221 (pc' := 222) rfl rfl ?_
 refine g_iconst X (1 : Int32) at_222 (pc' := 223) rfl rfl ?_
 refine g_newarray X 1 (tb hw 6 rfl) at_223 (pc' := 225) rfl (by decide) (by decide) 1 (by decide) (by decide) (by decide) (by decide) (vs := [(.int (0 : Int32))]) rfl (ad := "[C") (by decide) ?_
 intro T h q8 jc X Ex ye jp
 have we : qs ≠ q8 := Nat.ne_of_lt (by rw [jc]; exact qa.lt)
 have wf : qt ≠ q8 := Nat.ne_of_lt (by rw [jc]; exact qb.lt)
 have wg : qu ≠ q8 := Nat.ne_of_lt (by rw [jc]; exact qc.lt)
 have wh : qv ≠ q8 := Nat.ne_of_lt (by rw [jc]; exact qd.lt)
 have wi : qw ≠ q8 := Nat.ne_of_lt (by rw [jc]; exact qe.lt)
 have jv : qx ≠ q8 := Nat.ne_of_lt (by rw [jc]; exact q1.lt)
 have wj : n0 ≤ q8 := by rw [jc]; exact Z0
 replace qg := qg.ext Ex
 replace qa := qa.ext Ex
 replace qh := qh.ext Ex
 replace qb := qb.ext Ex
 replace qi := qi.ext Ex
 replace qc := qc.ext Ex
 replace qj := qj.ext Ex
 replace qd := qd.ext Ex
 replace qk := qk.ext Ex
 replace qe := qe.ext Ex
 replace ql := ql.ext Ex
 replace q1 := q1.ext Ex
 replace jf := jf.ext Ex
 replace jg := jg.ext Ex
 replace qf := qf.ext Ex
 replace qm := qm.ext Ex
 replace qn := qn.ext Ex
 replace qo := qo.ext Ex
 replace Z0 := Nat.le_trans Z0 Ex.1
 replace S_b218_24 := Safe.ext Ex HR.1 S_b218_24
 have S_b223_25 := Safe.ext Ex HR.1 (Safe.new (Nat.le_of_eq jc.symm))
 replace HR := HR.trans (CHr.ext Ex HR.1)
 replace hk := Nat.le_trans hk Ex.1
 refine g_dup X at_225 (pc' := 226) rfl rfl ?_
 refine g_iconst X (0 : Int32) at_226 (pc' := 227) rfl rfl ?_
 refine g_iload X at_227 (pc' := 229) rfl rfl ?_
 refine g_castore X jp 0 at_229 (pc' := 230) rfl (by decide) (by decide) (Nat.le_of_ble_eq_true rfl) ?_
 intro T h X W jp
 replace jp : Av Z h q8 .char [(.int (nar .char qq))] := jp
 replace S_b218_24 := Safe.wr W S_b223_25 HR.1 S_b218_24
 have HR' := HR.trans (CHr.wr W S_b223_25 HR.1)
 replace HR := HR'
 replace hk := Nat.le_trans hk (Nat.le_of_eq W.size.symm)
 replace qg := qg.wr W
 replace qa := qa.wr W
 replace qh := qh.other W we
 replace qb := qb.wr W
 replace qi := qi.other W wf
 replace qc := qc.wr W
 replace qj := qj.other W wg
 replace qd := qd.wr W
 replace qk := qk.other W wh
 replace qe := qe.wr W
 replace ql := ql.other W wi
 replace q1 := q1.wr W
 replace jf := jf.other W (Or.inl jv)
 replace jg := jg.other W (Or.inl jv)
 replace qf := qf.wr W
 replace qm := qm.wr W
 replace qn := qn.wr W
 replace qo := qo.wr W
 replace Z0 := Nat.le_trans Z0 (Nat.le_of_eq W.size.symm)
 replace N := Fr.snoc X.1 N wj
 refine g_specialS X hS hk (elw hw) HR.1 (ssS ⟨q1.lt, S_b218_24⟩ ss0) (W := 1) (a := qx) [(.ref q8)] [(.ref qx)] rfl (tb hw 7 rfl) (tb hw 8 rfl) (tb hw 5 rfl) (tb hw 9 rfl) (rSj1 l Z aa hw [] qx q8 (nar .char qq) G1 _ n0 Z0 q1 jg jf jp wd (Ne.symm jv) qf P5 pl0) at_230 (pc' := 233) rfl (by decide) (by decide) (by decide) rfl rfl rfl (lenOf pd_19 rfl) (Nat.le_refl _) (by decide) (by decide) ?_
 intro v T L X q k1 hS hk HRn
 obtain ⟨wk, rfl, Nq, Kq, wl, wm, wn, jw⟩ := q
 replace N := N.app Nq
 replace HR := HR.trans HRn
 replace qf := Sta.keep qf Kq (ssS (Exa.nostat q1) ss0)
 replace qm := Sta.keep qm Kq (ssS (Exa.nostat q1) ss0)
 replace qn := Sta.keep qn Kq (ssS (Exa.nostat q1) ss0)
 replace qo := Sta.keep qo Kq (ssS (Exa.nostat q1) ss0)
 replace qg := qg.keep Kq
 replace qa := qa.keep Kq
 replace qh := qh.keep Kq (ninS j8 nin0)
 replace qb := qb.keep Kq
 replace qi := qi.keep Kq (ninS j9 nin0)
 replace qc := qc.keep Kq
 replace qj := qj.keep Kq (ninS wa nin0)
 replace qd := qd.keep Kq
 replace qk := qk.keep Kq (ninS wb nin0)
 replace qe := qe.keep Kq
 replace ql := ql.keep Kq (ninS wc nin0)
 replace Z0 := Nat.le_trans Z0 Kq.1
 replace q1 := wl
 replace jf := wm
 replace jg := wn
 show Go p e below _ (T.setTop (mkF m 233 _ [(.ref qx)]))
 replace jw := jw.eq (vs' := [(.int qq)]) (by rw [bc0])
 refine g_astore X at_233 (pc' := 235) (Ls' := #[.val (.int i0), .val (.int i1), .val (.int i2), .val (.int i3), .val (.int qq), .val (.int qp), .val (.int qr), .val (.ref qs), .val (.ref qt), .val (.int q2), .val (.int q3), .val (.int q4), .val (.ref qu), .val (.ref qv), .val (.ref qw), .val (.int q5), .val (.int wt), .val (.ref qx), .unset, .unset, .unset]) rfl rfl rfl ?_
 refine g_goto X at_235 (pc' := 281) (by decide) (by decide) ?_
 exact rLaw20 l Z aa hw i0 i1 i2 i3 u8 G1 G3 qs qt qu qv qw qq qp qr q2 q3 q4 jj jk jl jm jn jo q5 wt qx wk h0 n0 P5 rG3 nb0 zr0 nb1 zr1 nb2 zr2 zs0 zs1 zs2 ze0 ze1 ze2 hfit (pick hwt jt) qg qa qh qb qi qc qj qd qk qe ql q1 jf jg jw qf qm qn qo X hS hk HR Z0 N hnm hret hlk
 refine g_ifY X at_215 ((if0 _ _).trans (feq jt).2) (pc' := 238) (by decide) (by decide) ?_
 refine g_iload X at_238 (pc' := 240) rfl rfl ?_
 refine g_iconst X (1 : Int32) at_240 (pc' := 241) rfl rfl ?_
 by_cases ju : wt = (1 : Int32)
 refine g_icN X at_241 (teq ju).2 (pc' := 244) rfl ?_
 refine g_new X (tb hw 3 rfl) (tb hw 4 rfl) (tb hw 5 rfl) at_244 (pc' := 247) rfl (by decide) (by decide) ?_
 intro T h qy jh X Ex qz j0
 have wo : qs ≠ qy := Nat.ne_of_lt (by rw [jh]; exact qa.lt)
 have wp : qt ≠ qy := Nat.ne_of_lt (by rw [jh]; exact qb.lt)
 have wq : qu ≠ qy := Nat.ne_of_lt (by rw [jh]; exact qc.lt)
 have ws : qv ≠ qy := Nat.ne_of_lt (by rw [jh]; exact qd.lt)
 have wu : qw ≠ qy := Nat.ne_of_lt (by rw [jh]; exact qe.lt)
 have wv : n0 ≤ qy := by rw [jh]; exact Z0
 replace qg := qg.ext Ex
 replace qa := qa.ext Ex
 replace qh := qh.ext Ex
 replace qb := qb.ext Ex
 replace qi := qi.ext Ex
 replace qc := qc.ext Ex
 replace qj := qj.ext Ex
 replace qd := qd.ext Ex
 replace qk := qk.ext Ex
 replace qe := qe.ext Ex
 replace ql := ql.ext Ex
 replace qf := qf.ext Ex
 replace qm := qm.ext Ex
 replace qn := qn.ext Ex
 replace qo := qo.ext Ex
 replace Z0 := Nat.le_trans Z0 Ex.1
 have S_b244_34 := Safe.ext Ex HR.1 (Safe.new (Nat.le_of_eq jh.symm))
 replace HR := HR.trans (CHr.ext Ex HR.1)
 replace hk := Nat.le_trans hk Ex.1
 have q9 : Fld Z h qy "java/lang/String" "coder" "B" (.int (0 : Int32)) := j0 (Or.inr (tb hw 29 rfl)) (ty := .byte) (by decide)
 have ja : Fld Z h qy "java/lang/String" "value" "[B" .null := j0 (Or.inr (tb hw 31 rfl)) (ty := (.array .byte)) (by decide)
 refine g_dup X at_247 (pc' := 248) rfl rfl ?_
 refine g_iconst X (2 : Int32) at_248 (pc' := 249) rfl rfl ?_
 refine g_newarray X 2 (tb hw 6 rfl) at_249 (pc' := 251) rfl (by decide) (by decide) 2 (by decide) (by decide) (by decide) (by decide) (vs := [(.int (0 : Int32)), (.int (0 : Int32))]) rfl (ad := "[C") (by decide) ?_
 intro T h q6 jd X Ex yf jb
 have j1 : qs ≠ q6 := Nat.ne_of_lt (by rw [jd]; exact qa.lt)
 have j2 : qt ≠ q6 := Nat.ne_of_lt (by rw [jd]; exact qb.lt)
 have j3 : qu ≠ q6 := Nat.ne_of_lt (by rw [jd]; exact qc.lt)
 have j4 : qv ≠ q6 := Nat.ne_of_lt (by rw [jd]; exact qd.lt)
 have j5 : qw ≠ q6 := Nat.ne_of_lt (by rw [jd]; exact qe.lt)
 have jq : qy ≠ q6 := Nat.ne_of_lt (by rw [jd]; exact qz.lt)
 have j6 : n0 ≤ q6 := by rw [jd]; exact Z0
 replace qg := qg.ext Ex
 replace qa := qa.ext Ex
 replace qh := qh.ext Ex
 replace qb := qb.ext Ex
 replace qi := qi.ext Ex
 replace qc := qc.ext Ex
 replace qj := qj.ext Ex
 replace qd := qd.ext Ex
 replace qk := qk.ext Ex
 replace qe := qe.ext Ex
 replace ql := ql.ext Ex
 replace qz := qz.ext Ex
 replace q9 := q9.ext Ex
 replace ja := ja.ext Ex
 replace qf := qf.ext Ex
 replace qm := qm.ext Ex
 replace qn := qn.ext Ex
 replace qo := qo.ext Ex
 replace Z0 := Nat.le_trans Z0 Ex.1
 replace S_b244_34 := Safe.ext Ex HR.1 S_b244_34
 have S_b249_35 := Safe.ext Ex HR.1 (Safe.new (Nat.le_of_eq jd.symm))
 replace HR := HR.trans (CHr.ext Ex HR.1)
 replace hk := Nat.le_trans hk Ex.1
 refine g_dup X at_251 (pc' := 252) rfl rfl ?_
 refine g_iconst X (0 : Int32) at_252 (pc' := 253) rfl rfl ?_
 refine g_iload X at_253 (pc' := 255) rfl rfl ?_
 refine g_castore X jb 0 at_255 (pc' := 256) rfl (by decide) (by decide) (Nat.le_of_ble_eq_true rfl) ?_
 intro T h X W jb
 replace jb : Av Z h q6 .char [(.int (nar .char qp)), (.int (0 : Int32))] := jb
 replace S_b244_34 := Safe.wr W S_b249_35 HR.1 S_b244_34
 have HR' := HR.trans (CHr.wr W S_b249_35 HR.1)
 replace S_b249_35 := Safe.wr W S_b249_35 HR.1 S_b249_35
 replace HR := HR'
 replace hk := Nat.le_trans hk (Nat.le_of_eq W.size.symm)
 replace qg := qg.wr W
 replace qa := qa.wr W
 replace qh := qh.other W j1
 replace qb := qb.wr W
 replace qi := qi.other W j2
 replace qc := qc.wr W
 replace qj := qj.other W j3
 replace qd := qd.wr W
 replace qk := qk.other W j4
 replace qe := qe.wr W
 replace ql := ql.other W j5
 replace qz := qz.wr W
 replace q9 := q9.other W (Or.inl jq)
 replace ja := ja.other W (Or.inl jq)
 replace qf := qf.wr W
 replace qm := qm.wr W
 replace qn := qn.wr W
 replace qo := qo.wr W
 replace Z0 := Nat.le_trans Z0 (Nat.le_of_eq W.size.symm)
 replace N := Fr.snoc X.1 N j6
 refine g_dup X at_256 (pc' := 257) rfl rfl ?_
 refine g_iconst X (1 : Int32) at_257 (pc' := 258) rfl rfl ?_
 refine g_iload X at_258 (pc' := 260) rfl rfl ?_
 refine g_castore X jb 1 at_260 (pc' := 261) rfl (by decide) (by decide) (Nat.le_of_ble_eq_true rfl) ?_
 intro T h X W jb
 replace jb : Av Z h q6 .char [(.int (nar .char qp)), (.int (nar .char qr))] := jb
 replace S_b244_34 := Safe.wr W S_b249_35 HR.1 S_b244_34
 have HR' := HR.trans (CHr.wr W S_b249_35 HR.1)
 replace HR := HR'
 replace hk := Nat.le_trans hk (Nat.le_of_eq W.size.symm)
 replace qg := qg.wr W
 replace qa := qa.wr W
 replace qh := qh.other W j1
 replace qb := qb.wr W
 replace qi := qi.other W j2
 replace qc := qc.wr W
 replace qj := qj.other W j3
 replace qd := qd.wr W
 replace qk := qk.other W j4
 replace qe := qe.wr W
 replace ql := ql.other W j5
 replace qz := qz.wr W
 replace q9 := q9.other W (Or.inl jq)
 replace ja := ja.other W (Or.inl jq)
 replace qf := qf.wr W
 replace qm := qm.wr W
 replace qn := qn.wr W
 replace qo := qo.wr W
 replace Z0 := Nat.le_trans Z0 (Nat.le_of_eq W.size.symm)
 replace N := Fr.snoc X.1 N j6
 refine g_specialS X hS hk (elw hw) HR.1 (ssS ⟨qz.lt, S_b244_34⟩ ss0) (W := 1) (a := qy) [(.ref q6)] [(.ref qy)] rfl (tb hw 7 rfl) (tb hw 8 rfl) (tb hw 5 rfl) (tb hw 9 rfl) (rSj2 l Z aa hw [] qy q6 (nar .char qp) (nar .char qr) G1 _ n0 Z0 qz ja q9 jb wv (Ne.symm jq) qf P5 pl1 pl2) at_261 (pc' := 264) rfl (by decide) (by decide) (by decide) rfl rfl rfl (lenOf pd_19 rfl) (Nat.le_refl _) (by decide) (by decide) ?_
 intro v T L X q k1 hS hk HRn
 obtain ⟨ww, rfl, Nq, Kq, wx, wy, wz, jx⟩ := q
 replace N := N.app Nq
 replace HR := HR.trans HRn
 replace qf := Sta.keep qf Kq (ssS (Exa.nostat qz) ss0)
 replace qm := Sta.keep qm Kq (ssS (Exa.nostat qz) ss0)
 replace qn := Sta.keep qn Kq (ssS (Exa.nostat qz) ss0)
 replace qo := Sta.keep qo Kq (ssS (Exa.nostat qz) ss0)
 replace qg := qg.keep Kq
 replace qa := qa.keep Kq
 replace qh := qh.keep Kq (ninS wo nin0)
 replace qb := qb.keep Kq
 replace qi := qi.keep Kq (ninS wp nin0)
 replace qc := qc.keep Kq
 replace qj := qj.keep Kq (ninS wq nin0)
 replace qd := qd.keep Kq
 replace qk := qk.keep Kq (ninS ws nin0)
 replace qe := qe.keep Kq
 replace ql := ql.keep Kq (ninS wu nin0)
 replace Z0 := Nat.le_trans Z0 Kq.1
 replace qz := wx
 replace q9 := wy
 replace ja := wz
 show Go p e below _ (T.setTop (mkF m 264 _ [(.ref qy)]))
 replace jx := jx.eq (vs' := [(.int qp), (.int qr)]) (by rw [bc1, bc2])
 refine g_astore X at_264 (pc' := 266) (Ls' := #[.val (.int i0), .val (.int i1), .val (.int i2), .val (.int i3), .val (.int qq), .val (.int qp), .val (.int qr), .val (.ref qs), .val (.ref qt), .val (.int q2), .val (.int q3), .val (.int q4), .val (.ref qu), .val (.ref qv), .val (.ref qw), .val (.int q5), .val (.int wt), .val (.ref qy), .unset, .unset, .unset]) rfl rfl rfl ?_
 refine g_goto X at_266 (pc' := 281) (by decide) (by decide) ?_
 exact rLaw21 l Z aa hw i0 i1 i2 i3 u8 G1 G3 qs qt qu qv qw qq qp qr q2 q3 q4 jj jk jl jm jn jo q5 wt qy ww h0 n0 P5 rG3 nb0 zr0 nb1 zr1 nb2 zr2 zs0 zs1 zs2 ze0 ze1 ze2 hfit (pick hwt ju) qg qa qh qb qi qc qj qd qk qe ql qz q9 ja jx qf qm qn qo X hS hk HR Z0 N hnm hret hlk
 refine g_icY X at_241 (feq ju).2 (pc' := 269) (by decide) (by decide) ?_
 refine g_new X (tb hw 3 rfl) (tb hw 4 rfl) (tb hw 5 rfl) at_269 (pc' := 272) rfl (by decide) (by decide) ?_
 intro T h q0 ji X Ex q7 j7
 have w0 : qs ≠ q0 := Nat.ne_of_lt (by rw [ji]; exact qa.lt)
 have w1 : qt ≠ q0 := Nat.ne_of_lt (by rw [ji]; exact qb.lt)
 have w2 : qu ≠ q0 := Nat.ne_of_lt (by rw [ji]; exact qc.lt)
 have w3 : qv ≠ q0 := Nat.ne_of_lt (by rw [ji]; exact qd.lt)
 have w4 : qw ≠ q0 := Nat.ne_of_lt (by rw [ji]; exact qe.lt)
 have w5 : n0 ≤ q0 := by rw [ji]; exact Z0
 replace qg := qg.ext Ex
 replace qa := qa.ext Ex
 replace qh := qh.ext Ex
 replace qb := qb.ext Ex
 replace qi := qi.ext Ex
 replace qc := qc.ext Ex
 replace qj := qj.ext Ex
 replace qd := qd.ext Ex
 replace qk := qk.ext Ex
 replace qe := qe.ext Ex
 replace ql := ql.ext Ex
 replace qf := qf.ext Ex
 replace qm := qm.ext Ex
 replace qn := qn.ext Ex
 replace qo := qo.ext Ex
 replace Z0 := Nat.le_trans Z0 Ex.1
 have S_b269_43 := Safe.ext Ex HR.1 (Safe.new (Nat.le_of_eq ji.symm))
 replace HR := HR.trans (CHr.ext Ex HR.1)
 replace hk := Nat.le_trans hk Ex.1
 have jr : Fld Z h q0 "java/lang/String" "coder" "B" (.int (0 : Int32)) := j7 (Or.inr (tb hw 29 rfl)) (ty := .byte) (by decide)
 have js : Fld Z h q0 "java/lang/String" "value" "[B" .null := j7 (Or.inr (tb hw 31 rfl)) (ty := (.array .byte)) (by decide)
 refine g_dup X at_272 (pc' := 273) rfl rfl ?_
 refine g_iconst X (0 : Int32) at_273 (pc' := 274) rfl rfl ?_
 refine g_newarray X 0 (tb hw 6 rfl) at_274 (pc' := 276) rfl (by decide) (by decide) 0 (by decide) (by decide) (by decide) (by decide) (vs := []) rfl (ad := "[C") (by decide) ?_
 intro T h jy w6 X Ex yg w7
 have w8 : q0 ≠ jy := Nat.ne_of_lt (by rw [w6]; exact q7.lt)
 replace qg := qg.ext Ex
 replace qa := qa.ext Ex
 replace qh := qh.ext Ex
 replace qb := qb.ext Ex
 replace qi := qi.ext Ex
 replace qc := qc.ext Ex
 replace qj := qj.ext Ex
 replace qd := qd.ext Ex
 replace qk := qk.ext Ex
 replace qe := qe.ext Ex
 replace ql := ql.ext Ex
 replace q7 := q7.ext Ex
 replace jr := jr.ext Ex
 replace js := js.ext Ex
 replace qf := qf.ext Ex
 replace qm := qm.ext Ex
 replace qn := qn.ext Ex
 replace qo := qo.ext Ex
 replace Z0 := Nat.le_trans Z0 Ex.1
 replace S_b269_43 := Safe.ext Ex HR.1 S_b269_43
 replace HR := HR.trans (CHr.ext Ex HR.1)
 replace hk := Nat.le_trans hk Ex.1
 refine g_specialS X hS hk (elw hw) HR.1 (ssS ⟨q7.lt, S_b269_43⟩ ss0) (W := 1) (a := q0) [(.ref jy)] [(.ref q0)] rfl (tb hw 7 rfl) (tb hw 8 rfl) (tb hw 5 rfl) (tb hw 9 rfl) (rSj0 l Z aa hw [] q0 jy G1 _ n0 Z0 q7 js jr w7 w5 (Ne.symm w8) qf P5) at_276 (pc' := 279) rfl (by decide) (by decide) (by decide) rfl rfl rfl (lenOf pd_19 rfl) (Nat.le_refl _) (by decide) (by decide) ?_
 intro v T L X q k1 hS hk HRn
 obtain ⟨w9, rfl, Nq, Kq, ya, yb, yc, yd⟩ := q
 replace N := N.app Nq
 replace HR := HR.trans HRn
 replace qf := Sta.keep qf Kq (ssS (Exa.nostat q7) ss0)
 replace qm := Sta.keep qm Kq (ssS (Exa.nostat q7) ss0)
 replace qn := Sta.keep qn Kq (ssS (Exa.nostat q7) ss0)
 replace qo := Sta.keep qo Kq (ssS (Exa.nostat q7) ss0)
 replace qg := qg.keep Kq
 replace qa := qa.keep Kq
 replace qh := qh.keep Kq (ninS w0 nin0)
 replace qb := qb.keep Kq
 replace qi := qi.keep Kq (ninS w1 nin0)
 replace qc := qc.keep Kq
 replace qj := qj.keep Kq (ninS w2 nin0)
 replace qd := qd.keep Kq
 replace qk := qk.keep Kq (ninS w3 nin0)
 replace qe := qe.keep Kq
 replace ql := ql.keep Kq (ninS w4 nin0)
 replace Z0 := Nat.le_trans Z0 Kq.1
 replace q7 := ya
 replace jr := yb
 replace js := yc
 show Go p e below _ (T.setTop (mkF m 279 _ [(.ref q0)]))
 refine g_astore X at_279 (pc' := 281) (Ls' := #[.val (.int i0), .val (.int i1), .val (.int i2), .val (.int i3), .val (.int qq), .val (.int qp), .val (.int qr), .val (.ref qs), .val (.ref qt), .val (.int q2), .val (.int q3), .val (.int q4), .val (.ref qu), .val (.ref qv), .val (.ref qw), .val (.int q5), .val (.int wt), .val (.ref q0), .unset, .unset, .unset]) rfl rfl rfl ?_
 exact rLaw22 l Z aa hw i0 i1 i2 i3 u8 G1 G3 qs qt qu qv qw qq qp qr q2 q3 q4 jj jk jl jm jn jo q5 wt q0 w9 h0 n0 P5 rG3 nb0 zr0 nb1 zr1 nb2 zr2 zs0 zs1 zs2 ze0 ze1 ze2 hfit (pick hwt (two hwr jt ju)) qg qa qh qb qi qc qj qd qk qe ql q7 jr js yd qf qm qn qo X hS hk HR Z0 N hnm hret hlk
theorem ef_rLaw (m : MethodId) (x0 : Int32) (x1 : Int32) (x2 : Int32) (x3 : Int32) : entryFrame m #[(.int x0), (.int x1), (.int x2), (.int x3)] maxLocals = mkF m 0 #[.val (.int x0), .val (.int x1), .val (.int x2), .val (.int x3), .unset, .unset, .unset, .unset, .unset, .unset, .unset, .unset, .unset, .unset, .unset, .unset, .unset, .unset, .unset, .unset, .unset] [] := by first | (simp [entryFrame, mkF, argsToLocals, Value.category, maxLocals]; done) | rfl
set_option maxRecDepth 65536 in
set_option maxHeartbeats 40000000 in
theorem rLaw (l : Launch) (Z : State) (aa : Array Value) (hw : ∀ d ∈ tables_1, d.before aa Z = true) (ws : List Jvm.Cond) (i0 : Int32) (i1 : Int32) (i2 : Int32) (i3 : Int32) (u8 : Addr) (G1 : Int32) (G3 : Value) (h0 : Heap) (n0 : Nat) (Z0 : n0 ≤ h0.size) (qc : Sta Z h0 "java/lang/String" "COMPACT_STRINGS" "Z" (.int G1)) (P5 : ¬ G1 = (0 : Int32)) (qd : Sta Z h0 "sun/nio/cs/UTF_8" "INSTANCE" "Lsun/nio/cs/UTF_8;" (.ref u8)) (qe : Exa Z h0 u8 "sun/nio/cs/UTF_8") (qf : Sta Z h0 "java/nio/charset/StandardCharsets" "UTF_8" "Ljava/nio/charset/Charset;" (.ref u8)) (qg : Sta Z h0 "jdk/internal/util/Preconditions" "SIOOBE_FORMATTER" "Ljava/util/function/BiFunction;" G3) (rG3 : G3.isRef = true) :
    RmW l Z consts_1 x code maxLocals ret ws room_1 #[(.int i0), (.int i1), (.int i2), (.int i3)] h0 (fun v h L => v = some (.int 1) ∧ Fr n0 L) := by
 refine RmW.of (plainFor_of_name pn_10) ?_
 intro p e s m below meth cc T X hS hk HC0 hnm hret hlk
 have HR := CHr.refl HC0
 refine Go.at_ (ef_rLaw m i0 i1 i2 i3) ?_
 have N := Fr.nil n0
 refine g_iloadN X at_0 (pc' := 1) rfl rfl ?_
 refine g_bipush X (127 : Int32) at_1 (pc' := 3) rfl rfl ?_
 refine g_iand X at_3 (pc' := 4) rfl ?_
 refine g_i2c X at_4 (pc' := 5) rfl ?_
 generalize j4 : ((i0 &&& (127 : Int32)).toUInt32.toUInt16.toUInt32.toInt32) = qp
 refine g_istore X at_5 (pc' := 7) (Ls' := #[.val (.int i0), .val (.int i1), .val (.int i2), .val (.int i3), .val (.int qp), .unset, .unset, .unset, .unset, .unset, .unset, .unset, .unset, .unset, .unset, .unset, .unset, .unset, .unset, .unset, .unset]) rfl rfl ?_
 refine g_iloadN X at_7 (pc' := 8) rfl rfl ?_
 refine g_bipush X (7 : Int32) at_8 (pc' := 10) rfl rfl ?_
 refine g_iushr X at_10 (pc' := 11) rfl ?_
 refine g_bipush X (127 : Int32) at_11 (pc' := 13) rfl rfl ?_
 refine g_iand X at_13 (pc' := 14) rfl ?_
 refine g_i2c X at_14 (pc' := 15) rfl ?_
 generalize j5 : ((((i0.toUInt32 >>> ((7 : Int32) &&& 31).toUInt32).toInt32) &&& (127 : Int32)).toUInt32.toUInt16.toUInt32.toInt32) = qq
 refine g_istore X at_15 (pc' := 17) (Ls' := #[.val (.int i0), .val (.int i1), .val (.int i2), .val (.int i3), .val (.int qp), .val (.int qq), .unset, .unset, .unset, .unset, .unset, .unset, .unset, .unset, .unset, .unset, .unset, .unset, .unset, .unset, .unset]) rfl rfl ?_
 refine g_iloadN X at_17 (pc' := 18) rfl rfl ?_
 refine g_bipush X (14 : Int32) at_18 (pc' := 20) rfl rfl ?_
 refine g_iushr X at_20 (pc' := 21) rfl ?_
 refine g_bipush X (127 : Int32) at_21 (pc' := 23) rfl rfl ?_
 refine g_iand X at_23 (pc' := 24) rfl ?_
 refine g_i2c X at_24 (pc' := 25) rfl ?_
 generalize j6 : ((((i0.toUInt32 >>> ((14 : Int32) &&& 31).toUInt32).toInt32) &&& (127 : Int32)).toUInt32.toUInt16.toUInt32.toInt32) = qr
 refine g_istore X at_25 (pc' := 27) (Ls' := #[.val (.int i0), .val (.int i1), .val (.int i2), .val (.int i3), .val (.int qp), .val (.int qq), .val (.int qr), .unset, .unset, .unset, .unset, .unset, .unset, .unset, .unset, .unset, .unset, .unset, .unset, .unset, .unset]) rfl rfl ?_
 refine g_iconst X (3 : Int32) at_27 (pc' := 28) rfl rfl ?_
 refine g_newarray X 3 (tb hw 0 rfl) at_28 (pc' := 30) rfl (by decide) (by decide) 3 (by decide) (by decide) (by decide) (by decide) (vs := [(.int (0 : Int32)), (.int (0 : Int32)), (.int (0 : Int32))]) rfl (ad := "[B") (by decide) ?_
 intro T h qm j2 X Ex qb qa
 have jh : n0 ≤ qm := by rw [j2]; exact Z0
 replace qe := qe.ext Ex
 replace qc := qc.ext Ex
 replace qd := qd.ext Ex
 replace qf := qf.ext Ex
 replace qg := qg.ext Ex
 replace Z0 := Nat.le_trans Z0 Ex.1
 have S_b28_4 := Safe.ext Ex HR.1 (Safe.new (Nat.le_of_eq j2.symm))
 replace HR := HR.trans (CHr.ext Ex HR.1)
 replace hk := Nat.le_trans hk Ex.1
 refine g_dup X at_30 (pc' := 31) rfl rfl ?_
 refine g_iconst X (0 : Int32) at_31 (pc' := 32) rfl rfl ?_
 refine g_iload X at_32 (pc' := 34) rfl rfl ?_
 refine g_i2b X at_34 (pc' := 35) rfl ?_
 generalize j7 : (qp.toInt8.toInt32) = ji
 refine g_bastore X qa 0 at_35 (pc' := 36) rfl (by decide) (by decide) (Nat.le_of_ble_eq_true rfl) ?_
 intro T h X W qa
 replace qa : Av Z h qm .byte [(.int (nar .byte ji)), (.int (0 : Int32)), (.int (0 : Int32))] := qa
 have HR' := HR.trans (CHr.wr W S_b28_4 HR.1)
 replace S_b28_4 := Safe.wr W S_b28_4 HR.1 S_b28_4
 replace HR := HR'
 replace hk := Nat.le_trans hk (Nat.le_of_eq W.size.symm)
 replace qe := qe.wr W
 replace qb := qb.wr W
 replace qc := qc.wr W
 replace qd := qd.wr W
 replace qf := qf.wr W
 replace qg := qg.wr W
 replace Z0 := Nat.le_trans Z0 (Nat.le_of_eq W.size.symm)
 replace N := Fr.snoc X.1 N jh
 refine g_dup X at_36 (pc' := 37) rfl rfl ?_
 refine g_iconst X (1 : Int32) at_37 (pc' := 38) rfl rfl ?_
 refine g_iload X at_38 (pc' := 40) rfl rfl ?_
 refine g_i2b X at_40 (pc' := 41) rfl ?_
 generalize j8 : (qq.toInt8.toInt32) = j3
 refine g_bastore X qa 1 at_41 (pc' := 42) rfl (by decide) (by decide) (Nat.le_of_ble_eq_true rfl) ?_
 intro T h X W qa
 replace qa : Av Z h qm .byte [(.int (nar .byte ji)), (.int (nar .byte j3)), (.int (0 : Int32))] := qa
 have HR' := HR.trans (CHr.wr W S_b28_4 HR.1)
 replace S_b28_4 := Safe.wr W S_b28_4 HR.1 S_b28_4
 replace HR := HR'
 replace hk := Nat.le_trans hk (Nat.le_of_eq W.size.symm)
 replace qe := qe.wr W
 replace qb := qb.wr W
 replace qc := qc.wr W
 replace qd := qd.wr W
 replace qf := qf.wr W
 replace qg := qg.wr W
 replace Z0 := Nat.le_trans Z0 (Nat.le_of_eq W.size.symm)
 replace N := Fr.snoc X.1 N jh
 refine g_dup X at_42 (pc' := 43) rfl rfl ?_
 refine g_iconst X (2 : Int32) at_43 (pc' := 44) rfl rfl ?_
 refine g_iload X at_44 (pc' := 46) rfl rfl ?_
 refine g_i2b X at_46 (pc' := 47) rfl ?_
 generalize j9 : (qr.toInt8.toInt32) = wa
 refine g_bastore X qa 2 at_47 (pc' := 48) rfl (by decide) (by decide) (Nat.le_of_ble_eq_true rfl) ?_
 intro T h X W qa
 replace qa : Av Z h qm .byte [(.int (nar .byte ji)), (.int (nar .byte j3)), (.int (nar .byte wa))] := qa
 have HR' := HR.trans (CHr.wr W S_b28_4 HR.1)
 replace HR := HR'
 replace hk := Nat.le_trans hk (Nat.le_of_eq W.size.symm)
 replace qe := qe.wr W
 replace qb := qb.wr W
 replace qc := qc.wr W
 replace qd := qd.wr W
 replace qf := qf.wr W
 replace qg := qg.wr W
 replace Z0 := Nat.le_trans Z0 (Nat.le_of_eq W.size.symm)
 replace N := Fr.snoc X.1 N jh
 have R0 := chR j4
 have R1 := chR j5
 have R2 := chR j6
 replace qa := qa.eq (vs' := [(.int qp), (.int qq), (.int qr)]) (by rw [byt R0 j7, byt R1 j8, byt R2 j9])
 refine g_astore X at_48 (pc' := 50) (Ls' := #[.val (.int i0), .val (.int i1), .val (.int i2), .val (.int i3), .val (.int qp), .val (.int qq), .val (.int qr), .val (.ref qm), .unset, .unset, .unset, .unset, .unset, .unset, .unset, .unset, .unset, .unset, .unset, .unset, .unset]) rfl rfl rfl ?_
 refine g_iconst X (4 : Int32) at_50 (pc' := 51) rfl rfl ?_
 refine g_newarray X 4 (tb hw 1 rfl) at_51 (pc' := 53) rfl (by decide) (by decide) 4 (by decide) (by decide) (by decide) (by decide) (vs := [(.int (0 : Int32)), (.int (0 : Int32)), (.int (0 : Int32)), (.int (0 : Int32))]) rfl (ad := "[I") (by decide) ?_
 intro T h qn jj X Ex qi qh
 have q7 : qm ≠ qn := Nat.ne_of_lt (by rw [jj]; exact qb.lt)
 have q8 : n0 ≤ qn := by rw [jj]; exact Z0
 replace qe := qe.ext Ex
 replace qb := qb.ext Ex
 replace qa := qa.ext Ex
 replace qc := qc.ext Ex
 replace qd := qd.ext Ex
 replace qf := qf.ext Ex
 replace qg := qg.ext Ex
 replace Z0 := Nat.le_trans Z0 Ex.1
 have S_b51_8 := Safe.ext Ex HR.1 (Safe.new (Nat.le_of_eq jj.symm))
 replace HR := HR.trans (CHr.ext Ex HR.1)
 replace hk := Nat.le_trans hk Ex.1
 refine g_dup X at_53 (pc' := 54) rfl rfl ?_
 refine g_iconst X (0 : Int32) at_54 (pc' := 55) rfl rfl ?_
 refine g_iconst X (0 : Int32) at_55 (pc' := 56) rfl rfl ?_
 refine g_iastore X qh 0 at_56 (pc' := 57) rfl (by decide) (by decide) (Nat.le_of_ble_eq_true rfl) ?_
 intro T h X W qh
 replace qh : Av Z h qn .int [(.int (0 : Int32)), (.int (0 : Int32)), (.int (0 : Int32)), (.int (0 : Int32))] := qh
 have HR' := HR.trans (CHr.wr W S_b51_8 HR.1)
 replace S_b51_8 := Safe.wr W S_b51_8 HR.1 S_b51_8
 replace HR := HR'
 replace hk := Nat.le_trans hk (Nat.le_of_eq W.size.symm)
 replace qe := qe.wr W
 replace qb := qb.wr W
 replace qa := qa.other W q7
 replace qi := qi.wr W
 replace qc := qc.wr W
 replace qd := qd.wr W
 replace qf := qf.wr W
 replace qg := qg.wr W
 replace Z0 := Nat.le_trans Z0 (Nat.le_of_eq W.size.symm)
 replace N := Fr.snoc X.1 N q8
 refine g_dup X at_57 (pc' := 58) rfl rfl ?_
 refine g_iconst X (1 : Int32) at_58 (pc' := 59) rfl rfl ?_
 refine g_iconst X (1 : Int32) at_59 (pc' := 60) rfl rfl ?_
 refine g_iastore X qh 1 at_60 (pc' := 61) rfl (by decide) (by decide) (Nat.le_of_ble_eq_true rfl) ?_
 intro T h X W qh
 replace qh : Av Z h qn .int [(.int (0 : Int32)), (.int (1 : Int32)), (.int (0 : Int32)), (.int (0 : Int32))] := qh
 have HR' := HR.trans (CHr.wr W S_b51_8 HR.1)
 replace S_b51_8 := Safe.wr W S_b51_8 HR.1 S_b51_8
 replace HR := HR'
 replace hk := Nat.le_trans hk (Nat.le_of_eq W.size.symm)
 replace qe := qe.wr W
 replace qb := qb.wr W
 replace qa := qa.other W q7
 replace qi := qi.wr W
 replace qc := qc.wr W
 replace qd := qd.wr W
 replace qf := qf.wr W
 replace qg := qg.wr W
 replace Z0 := Nat.le_trans Z0 (Nat.le_of_eq W.size.symm)
 replace N := Fr.snoc X.1 N q8
 refine g_dup X at_61 (pc' := 62) rfl rfl ?_
 refine g_iconst X (2 : Int32) at_62 (pc' := 63) rfl rfl ?_
 refine g_iconst X (3 : Int32) at_63 (pc' := 64) rfl rfl ?_
 refine g_iastore X qh 2 at_64 (pc' := 65) rfl (by decide) (by decide) (Nat.le_of_ble_eq_true rfl) ?_
 intro T h X W qh
 replace qh : Av Z h qn .int [(.int (0 : Int32)), (.int (1 : Int32)), (.int (3 : Int32)), (.int (0 : Int32))] := qh
 have HR' := HR.trans (CHr.wr W S_b51_8 HR.1)
 replace S_b51_8 := Safe.wr W S_b51_8 HR.1 S_b51_8
 replace HR := HR'
 replace hk := Nat.le_trans hk (Nat.le_of_eq W.size.symm)
 replace qe := qe.wr W
 replace qb := qb.wr W
 replace qa := qa.other W q7
 replace qi := qi.wr W
 replace qc := qc.wr W
 replace qd := qd.wr W
 replace qf := qf.wr W
 replace qg := qg.wr W
 replace Z0 := Nat.le_trans Z0 (Nat.le_of_eq W.size.symm)
 replace N := Fr.snoc X.1 N q8
 refine g_dup X at_65 (pc' := 66) rfl rfl ?_
 refine g_iconst X (3 : Int32) at_66 (pc' := 67) rfl rfl ?_
 refine g_iconst X (3 : Int32) at_67 (pc' := 68) rfl rfl ?_
 refine g_iastore X qh 3 at_68 (pc' := 69) rfl (by decide) (by decide) (Nat.le_of_ble_eq_true rfl) ?_
 intro T h X W qh
 replace qh : Av Z h qn .int [(.int (0 : Int32)), (.int (1 : Int32)), (.int (3 : Int32)), (.int (3 : Int32))] := qh
 have HR' := HR.trans (CHr.wr W S_b51_8 HR.1)
 replace HR := HR'
 replace hk := Nat.le_trans hk (Nat.le_of_eq W.size.symm)
 replace qe := qe.wr W
 replace qb := qb.wr W
 replace qa := qa.other W q7
 replace qi := qi.wr W
 replace qc := qc.wr W
 replace qd := qd.wr W
 replace qf := qf.wr W
 replace qg := qg.wr W
 replace Z0 := Nat.le_trans Z0 (Nat.le_of_eq W.size.symm)
 replace N := Fr.snoc X.1 N q8
 refine g_astore X at_69 (pc' := 71) (Ls' := #[.val (.int i0), .val (.int i1), .val (.int i2), .val (.int i3), .val (.int qp), .val (.int qq), .val (.int qr), .val (.ref qm), .val (.ref qn), .unset, .unset, .unset, .unset, .unset, .unset, .unset, .unset, .unset, .unset, .unset, .unset]) rfl rfl rfl ?_
 refine g_iloadN X at_71 (pc' := 72) rfl rfl ?_
 refine g_sipush X (255 : Int32) at_72 (pc' := 75) rfl rfl ?_
 refine g_iand X at_75 (pc' := 76) rfl ?_
 refine g_iconst X (3 : Int32) at_76 (pc' := 77) rfl rfl ?_
 refine g_irem X at_77 (pc' := 78) rfl (by decide) ?_
 generalize q9 : ((i1 &&& (255 : Int32)) % (3 : Int32)) = qu
 refine g_istore X at_78 (pc' := 80) (Ls' := #[.val (.int i0), .val (.int i1), .val (.int i2), .val (.int i3), .val (.int qp), .val (.int qq), .val (.int qr), .val (.ref qm), .val (.ref qn), .val (.int qu), .unset, .unset, .unset, .unset, .unset, .unset, .unset, .unset, .unset, .unset, .unset]) rfl rfl ?_
 refine g_iloadN X at_80 (pc' := 81) rfl rfl ?_
 refine g_bipush X (8 : Int32) at_81 (pc' := 83) rfl rfl ?_
 refine g_iushr X at_83 (pc' := 84) rfl ?_
 refine g_sipush X (255 : Int32) at_84 (pc' := 87) rfl rfl ?_
 refine g_iand X at_87 (pc' := 88) rfl ?_
 refine g_iconst X (3 : Int32) at_88 (pc' := 89) rfl rfl ?_
 refine g_irem X at_89 (pc' := 90) rfl (by decide) ?_
 generalize ja : ((((i1.toUInt32 >>> ((8 : Int32) &&& 31).toUInt32).toInt32) &&& (255 : Int32)) % (3 : Int32)) = qx
 refine g_istore X at_90 (pc' := 92) (Ls' := #[.val (.int i0), .val (.int i1), .val (.int i2), .val (.int i3), .val (.int qp), .val (.int qq), .val (.int qr), .val (.ref qm), .val (.ref qn), .val (.int qu), .val (.int qx), .unset, .unset, .unset, .unset, .unset, .unset, .unset, .unset, .unset, .unset]) rfl rfl ?_
 refine g_iloadN X at_92 (pc' := 93) rfl rfl ?_
 refine g_bipush X (16 : Int32) at_93 (pc' := 95) rfl rfl ?_
 refine g_iushr X at_95 (pc' := 96) rfl ?_
 refine g_sipush X (255 : Int32) at_96 (pc' := 99) rfl rfl ?_
 refine g_iand X at_99 (pc' := 100) rfl ?_
 refine g_iconst X (3 : Int32) at_100 (pc' := 101) rfl rfl ?_
 refine g_irem X at_101 (pc' := 102) rfl (by decide) ?_
 generalize jb : ((((i1.toUInt32 >>> ((16 : Int32) &&& 31).toUInt32).toInt32) &&& (255 : Int32)) % (3 : Int32)) = qy
 refine g_istore X at_102 (pc' := 104) (Ls' := #[.val (.int i0), .val (.int i1), .val (.int i2), .val (.int i3), .val (.int qp), .val (.int qq), .val (.int qr), .val (.ref qm), .val (.ref qn), .val (.int qu), .val (.int qx), .val (.int qy), .unset, .unset, .unset, .unset, .unset, .unset, .unset, .unset, .unset]) rfl rfl ?_
 refine g_iconst X (3 : Int32) at_104 (pc' := 105) rfl rfl ?_
 refine g_newarray X 3 (tb hw 1 rfl) at_105 (pc' := 107) rfl (by decide) (by decide) 3 (by decide) (by decide) (by decide) (by decide) (vs := [(.int (0 : Int32)), (.int (0 : Int32)), (.int (0 : Int32))]) rfl (ad := "[I") (by decide) ?_
 intro T h qs jc X Ex qk qj
 have jk : qm ≠ qs := Nat.ne_of_lt (by rw [jc]; exact qb.lt)
 have jl : qn ≠ qs := Nat.ne_of_lt (by rw [jc]; exact qi.lt)
 have jm : n0 ≤ qs := by rw [jc]; exact Z0
 replace qe := qe.ext Ex
 replace qb := qb.ext Ex
 replace qa := qa.ext Ex
 replace qi := qi.ext Ex
 replace qh := qh.ext Ex
 replace qc := qc.ext Ex
 replace qd := qd.ext Ex
 replace qf := qf.ext Ex
 replace qg := qg.ext Ex
 replace Z0 := Nat.le_trans Z0 Ex.1
 have S_b105_12 := Safe.ext Ex HR.1 (Safe.new (Nat.le_of_eq jc.symm))
 replace HR := HR.trans (CHr.ext Ex HR.1)
 replace hk := Nat.le_trans hk Ex.1
 refine g_dup X at_107 (pc' := 108) rfl rfl ?_
 refine g_iconst X (0 : Int32) at_108 (pc' := 109) rfl rfl ?_
 refine g_iload X at_109 (pc' := 111) rfl rfl ?_
 refine g_iastore X qj 0 at_111 (pc' := 112) rfl (by decide) (by decide) (Nat.le_of_ble_eq_true rfl) ?_
 intro T h X W qj
 replace qj : Av Z h qs .int [(.int qu), (.int (0 : Int32)), (.int (0 : Int32))] := qj
 have HR' := HR.trans (CHr.wr W S_b105_12 HR.1)
 replace S_b105_12 := Safe.wr W S_b105_12 HR.1 S_b105_12
 replace HR := HR'
 replace hk := Nat.le_trans hk (Nat.le_of_eq W.size.symm)
 replace qe := qe.wr W
 replace qb := qb.wr W
 replace qa := qa.other W jk
 replace qi := qi.wr W
 replace qh := qh.other W jl
 replace qk := qk.wr W
 replace qc := qc.wr W
 replace qd := qd.wr W
 replace qf := qf.wr W
 replace qg := qg.wr W
 replace Z0 := Nat.le_trans Z0 (Nat.le_of_eq W.size.symm)
 replace N := Fr.snoc X.1 N jm
 refine g_dup X at_112 (pc' := 113) rfl rfl ?_
 refine g_iconst X (1 : Int32) at_113 (pc' := 114) rfl rfl ?_
 refine g_iload X at_114 (pc' := 116) rfl rfl ?_
 refine g_iastore X qj 1 at_116 (pc' := 117) rfl (by decide) (by decide) (Nat.le_of_ble_eq_true rfl) ?_
 intro T h X W qj
 replace qj : Av Z h qs .int [(.int qu), (.int qx), (.int (0 : Int32))] := qj
 have HR' := HR.trans (CHr.wr W S_b105_12 HR.1)
 replace S_b105_12 := Safe.wr W S_b105_12 HR.1 S_b105_12
 replace HR := HR'
 replace hk := Nat.le_trans hk (Nat.le_of_eq W.size.symm)
 replace qe := qe.wr W
 replace qb := qb.wr W
 replace qa := qa.other W jk
 replace qi := qi.wr W
 replace qh := qh.other W jl
 replace qk := qk.wr W
 replace qc := qc.wr W
 replace qd := qd.wr W
 replace qf := qf.wr W
 replace qg := qg.wr W
 replace Z0 := Nat.le_trans Z0 (Nat.le_of_eq W.size.symm)
 replace N := Fr.snoc X.1 N jm
 refine g_dup X at_117 (pc' := 118) rfl rfl ?_
 refine g_iconst X (2 : Int32) at_118 (pc' := 119) rfl rfl ?_
 refine g_iload X at_119 (pc' := 121) rfl rfl ?_
 refine g_iastore X qj 2 at_121 (pc' := 122) rfl (by decide) (by decide) (Nat.le_of_ble_eq_true rfl) ?_
 intro T h X W qj
 replace qj : Av Z h qs .int [(.int qu), (.int qx), (.int qy)] := qj
 have HR' := HR.trans (CHr.wr W S_b105_12 HR.1)
 replace HR := HR'
 replace hk := Nat.le_trans hk (Nat.le_of_eq W.size.symm)
 replace qe := qe.wr W
 replace qb := qb.wr W
 replace qa := qa.other W jk
 replace qi := qi.wr W
 replace qh := qh.other W jl
 replace qk := qk.wr W
 replace qc := qc.wr W
 replace qd := qd.wr W
 replace qf := qf.wr W
 replace qg := qg.wr W
 replace Z0 := Nat.le_trans Z0 (Nat.le_of_eq W.size.symm)
 replace N := Fr.snoc X.1 N jm
 refine g_astore X at_122 (pc' := 124) (Ls' := #[.val (.int i0), .val (.int i1), .val (.int i2), .val (.int i3), .val (.int qp), .val (.int qq), .val (.int qr), .val (.ref qm), .val (.ref qn), .val (.int qu), .val (.int qx), .val (.int qy), .val (.ref qs), .unset, .unset, .unset, .unset, .unset, .unset, .unset, .unset]) rfl rfl rfl ?_
 refine g_iconst X (3 : Int32) at_124 (pc' := 125) rfl rfl ?_
 refine g_newarray X 3 (tb hw 1 rfl) at_125 (pc' := 127) rfl (by decide) (by decide) 3 (by decide) (by decide) (by decide) (by decide) (vs := [(.int (0 : Int32)), (.int (0 : Int32)), (.int (0 : Int32))]) rfl (ad := "[I") (by decide) ?_
 intro T h qv q4 X Ex qo ql
 have jn : qm ≠ qv := Nat.ne_of_lt (by rw [q4]; exact qb.lt)
 have jo : qn ≠ qv := Nat.ne_of_lt (by rw [q4]; exact qi.lt)
 have jp : qs ≠ qv := Nat.ne_of_lt (by rw [q4]; exact qk.lt)
 have jq : n0 ≤ qv := by rw [q4]; exact Z0
 replace qe := qe.ext Ex
 replace qb := qb.ext Ex
 replace qa := qa.ext Ex
 replace qi := qi.ext Ex
 replace qh := qh.ext Ex
 replace qk := qk.ext Ex
 replace qj := qj.ext Ex
 replace qc := qc.ext Ex
 replace qd := qd.ext Ex
 replace qf := qf.ext Ex
 replace qg := qg.ext Ex
 replace Z0 := Nat.le_trans Z0 Ex.1
 have S_b125_13 := Safe.ext Ex HR.1 (Safe.new (Nat.le_of_eq q4.symm))
 replace HR := HR.trans (CHr.ext Ex HR.1)
 replace hk := Nat.le_trans hk Ex.1
 refine g_dup X at_127 (pc' := 128) rfl rfl ?_
 refine g_iconst X (0 : Int32) at_128 (pc' := 129) rfl rfl ?_
 refine g_iloadN X at_129 (pc' := 130) rfl rfl ?_
 refine g_iconst X (1 : Int32) at_130 (pc' := 131) rfl rfl ?_
 refine g_iand X at_131 (pc' := 132) rfl ?_
 generalize jr : (i3 &&& (1 : Int32)) = q0
 refine g_iastore X ql 0 at_132 (pc' := 133) rfl (by decide) (by decide) (Nat.le_of_ble_eq_true rfl) ?_
 intro T h X W ql
 replace ql : Av Z h qv .int [(.int q0), (.int (0 : Int32)), (.int (0 : Int32))] := ql
 have HR' := HR.trans (CHr.wr W S_b125_13 HR.1)
 replace S_b125_13 := Safe.wr W S_b125_13 HR.1 S_b125_13
 replace HR := HR'
 replace hk := Nat.le_trans hk (Nat.le_of_eq W.size.symm)
 replace qe := qe.wr W
 replace qb := qb.wr W
 replace qa := qa.other W jn
 replace qi := qi.wr W
 replace qh := qh.other W jo
 replace qk := qk.wr W
 replace qj := qj.other W jp
 replace qo := qo.wr W
 replace qc := qc.wr W
 replace qd := qd.wr W
 replace qf := qf.wr W
 replace qg := qg.wr W
 replace Z0 := Nat.le_trans Z0 (Nat.le_of_eq W.size.symm)
 replace N := Fr.snoc X.1 N jq
 refine g_dup X at_133 (pc' := 134) rfl rfl ?_
 refine g_iconst X (1 : Int32) at_134 (pc' := 135) rfl rfl ?_
 refine g_iloadN X at_135 (pc' := 136) rfl rfl ?_
 refine g_iconst X (1 : Int32) at_136 (pc' := 137) rfl rfl ?_
 refine g_iushr X at_137 (pc' := 138) rfl ?_
 refine g_iconst X (1 : Int32) at_138 (pc' := 139) rfl rfl ?_
 refine g_iand X at_139 (pc' := 140) rfl ?_
 generalize js : (((i3.toUInt32 >>> ((1 : Int32) &&& 31).toUInt32).toInt32) &&& (1 : Int32)) = q5
 refine g_iastore X ql 1 at_140 (pc' := 141) rfl (by decide) (by decide) (Nat.le_of_ble_eq_true rfl) ?_
 intro T h X W ql
 replace ql : Av Z h qv .int [(.int q0), (.int q5), (.int (0 : Int32))] := ql
 have HR' := HR.trans (CHr.wr W S_b125_13 HR.1)
 replace S_b125_13 := Safe.wr W S_b125_13 HR.1 S_b125_13
 replace HR := HR'
 replace hk := Nat.le_trans hk (Nat.le_of_eq W.size.symm)
 replace qe := qe.wr W
 replace qb := qb.wr W
 replace qa := qa.other W jn
 replace qi := qi.wr W
 replace qh := qh.other W jo
 replace qk := qk.wr W
 replace qj := qj.other W jp
 replace qo := qo.wr W
 replace qc := qc.wr W
 replace qd := qd.wr W
 replace qf := qf.wr W
 replace qg := qg.wr W
 replace Z0 := Nat.le_trans Z0 (Nat.le_of_eq W.size.symm)
 replace N := Fr.snoc X.1 N jq
 refine g_dup X at_141 (pc' := 142) rfl rfl ?_
 refine g_iconst X (2 : Int32) at_142 (pc' := 143) rfl rfl ?_
 refine g_iloadN X at_143 (pc' := 144) rfl rfl ?_
 refine g_iconst X (2 : Int32) at_144 (pc' := 145) rfl rfl ?_
 refine g_iushr X at_145 (pc' := 146) rfl ?_
 refine g_iconst X (1 : Int32) at_146 (pc' := 147) rfl rfl ?_
 refine g_iand X at_147 (pc' := 148) rfl ?_
 generalize jt : (((i3.toUInt32 >>> ((2 : Int32) &&& 31).toUInt32).toInt32) &&& (1 : Int32)) = jd
 refine g_iastore X ql 2 at_148 (pc' := 149) rfl (by decide) (by decide) (Nat.le_of_ble_eq_true rfl) ?_
 intro T h X W ql
 replace ql : Av Z h qv .int [(.int q0), (.int q5), (.int jd)] := ql
 have HR' := HR.trans (CHr.wr W S_b125_13 HR.1)
 replace HR := HR'
 replace hk := Nat.le_trans hk (Nat.le_of_eq W.size.symm)
 replace qe := qe.wr W
 replace qb := qb.wr W
 replace qa := qa.other W jn
 replace qi := qi.wr W
 replace qh := qh.other W jo
 replace qk := qk.wr W
 replace qj := qj.other W jp
 replace qo := qo.wr W
 replace qc := qc.wr W
 replace qd := qd.wr W
 replace qf := qf.wr W
 replace qg := qg.wr W
 replace Z0 := Nat.le_trans Z0 (Nat.le_of_eq W.size.symm)
 replace N := Fr.snoc X.1 N jq
 refine g_astore X at_149 (pc' := 151) (Ls' := #[.val (.int i0), .val (.int i1), .val (.int i2), .val (.int i3), .val (.int qp), .val (.int qq), .val (.int qr), .val (.ref qm), .val (.ref qn), .val (.int qu), .val (.int qx), .val (.int qy), .val (.ref qs), .val (.ref qv), .unset, .unset, .unset, .unset, .unset, .unset, .unset]) rfl rfl rfl ?_
 refine g_iconst X (3 : Int32) at_151 (pc' := 152) rfl rfl ?_
 refine g_newarray X 3 (tb hw 1 rfl) at_152 (pc' := 154) rfl (by decide) (by decide) 3 (by decide) (by decide) (by decide) (by decide) (vs := [(.int (0 : Int32)), (.int (0 : Int32)), (.int (0 : Int32))]) rfl (ad := "[I") (by decide) ?_
 intro T h qw q1 X Ex qz qt
 have ju : qm ≠ qw := Nat.ne_of_lt (by rw [q1]; exact qb.lt)
 have jv : qn ≠ qw := Nat.ne_of_lt (by rw [q1]; exact qi.lt)
 have jw : qs ≠ qw := Nat.ne_of_lt (by rw [q1]; exact qk.lt)
 have jx : qv ≠ qw := Nat.ne_of_lt (by rw [q1]; exact qo.lt)
 have jy : n0 ≤ qw := by rw [q1]; exact Z0
 replace qe := qe.ext Ex
 replace qb := qb.ext Ex
 replace qa := qa.ext Ex
 replace qi := qi.ext Ex
 replace qh := qh.ext Ex
 replace qk := qk.ext Ex
 replace qj := qj.ext Ex
 replace qo := qo.ext Ex
 replace ql := ql.ext Ex
 replace qc := qc.ext Ex
 replace qd := qd.ext Ex
 replace qf := qf.ext Ex
 replace qg := qg.ext Ex
 replace Z0 := Nat.le_trans Z0 Ex.1
 have S_b152_17 := Safe.ext Ex HR.1 (Safe.new (Nat.le_of_eq q1.symm))
 replace HR := HR.trans (CHr.ext Ex HR.1)
 replace hk := Nat.le_trans hk Ex.1
 refine g_dup X at_154 (pc' := 155) rfl rfl ?_
 refine g_iconst X (0 : Int32) at_155 (pc' := 156) rfl rfl ?_
 refine g_iloadN X at_156 (pc' := 157) rfl rfl ?_
 refine g_iconst X (3 : Int32) at_157 (pc' := 158) rfl rfl ?_
 refine g_iushr X at_158 (pc' := 159) rfl ?_
 refine g_iconst X (1 : Int32) at_159 (pc' := 160) rfl rfl ?_
 refine g_iand X at_160 (pc' := 161) rfl ?_
 generalize jz : (((i3.toUInt32 >>> ((3 : Int32) &&& 31).toUInt32).toInt32) &&& (1 : Int32)) = q2
 refine g_iastore X qt 0 at_161 (pc' := 162) rfl (by decide) (by decide) (Nat.le_of_ble_eq_true rfl) ?_
 intro T h X W qt
 replace qt : Av Z h qw .int [(.int q2), (.int (0 : Int32)), (.int (0 : Int32))] := qt
 have HR' := HR.trans (CHr.wr W S_b152_17 HR.1)
 replace S_b152_17 := Safe.wr W S_b152_17 HR.1 S_b152_17
 replace HR := HR'
 replace hk := Nat.le_trans hk (Nat.le_of_eq W.size.symm)
 replace qe := qe.wr W
 replace qb := qb.wr W
 replace qa := qa.other W ju
 replace qi := qi.wr W
 replace qh := qh.other W jv
 replace qk := qk.wr W
 replace qj := qj.other W jw
 replace qo := qo.wr W
 replace ql := ql.other W jx
 replace qz := qz.wr W
 replace qc := qc.wr W
 replace qd := qd.wr W
 replace qf := qf.wr W
 replace qg := qg.wr W
 replace Z0 := Nat.le_trans Z0 (Nat.le_of_eq W.size.symm)
 replace N := Fr.snoc X.1 N jy
 refine g_dup X at_162 (pc' := 163) rfl rfl ?_
 refine g_iconst X (1 : Int32) at_163 (pc' := 164) rfl rfl ?_
 refine g_iloadN X at_164 (pc' := 165) rfl rfl ?_
 refine g_iconst X (4 : Int32) at_165 (pc' := 166) rfl rfl ?_
 refine g_iushr X at_166 (pc' := 167) rfl ?_
 refine g_iconst X (1 : Int32) at_167 (pc' := 168) rfl rfl ?_
 refine g_iand X at_168 (pc' := 169) rfl ?_
 generalize j0 : (((i3.toUInt32 >>> ((4 : Int32) &&& 31).toUInt32).toInt32) &&& (1 : Int32)) = q6
 refine g_iastore X qt 1 at_169 (pc' := 170) rfl (by decide) (by decide) (Nat.le_of_ble_eq_true rfl) ?_
 intro T h X W qt
 replace qt : Av Z h qw .int [(.int q2), (.int q6), (.int (0 : Int32))] := qt
 have HR' := HR.trans (CHr.wr W S_b152_17 HR.1)
 replace S_b152_17 := Safe.wr W S_b152_17 HR.1 S_b152_17
 replace HR := HR'
 replace hk := Nat.le_trans hk (Nat.le_of_eq W.size.symm)
 replace qe := qe.wr W
 replace qb := qb.wr W
 replace qa := qa.other W ju
 replace qi := qi.wr W
 replace qh := qh.other W jv
 replace qk := qk.wr W
 replace qj := qj.other W jw
 replace qo := qo.wr W
 replace ql := ql.other W jx
 replace qz := qz.wr W
 replace qc := qc.wr W
 replace qd := qd.wr W
 replace qf := qf.wr W
 replace qg := qg.wr W
 replace Z0 := Nat.le_trans Z0 (Nat.le_of_eq W.size.symm)
 replace N := Fr.snoc X.1 N jy
 refine g_dup X at_170 (pc' := 171) rfl rfl ?_
 refine g_iconst X (2 : Int32) at_171 (pc' := 172) rfl rfl ?_
 refine g_iloadN X at_172 (pc' := 173) rfl rfl ?_
 refine g_iconst X (5 : Int32) at_173 (pc' := 174) rfl rfl ?_
 refine g_iushr X at_174 (pc' := 175) rfl ?_
 refine g_iconst X (1 : Int32) at_175 (pc' := 176) rfl rfl ?_
 refine g_iand X at_176 (pc' := 177) rfl ?_
 generalize j1 : (((i3.toUInt32 >>> ((5 : Int32) &&& 31).toUInt32).toInt32) &&& (1 : Int32)) = je
 refine g_iastore X qt 2 at_177 (pc' := 178) rfl (by decide) (by decide) (Nat.le_of_ble_eq_true rfl) ?_
 intro T h X W qt
 replace qt : Av Z h qw .int [(.int q2), (.int q6), (.int je)] := qt
 have HR' := HR.trans (CHr.wr W S_b152_17 HR.1)
 replace HR := HR'
 replace hk := Nat.le_trans hk (Nat.le_of_eq W.size.symm)
 replace qe := qe.wr W
 replace qb := qb.wr W
 replace qa := qa.other W ju
 replace qi := qi.wr W
 replace qh := qh.other W jv
 replace qk := qk.wr W
 replace qj := qj.other W jw
 replace qo := qo.wr W
 replace ql := ql.other W jx
 replace qz := qz.wr W
 replace qc := qc.wr W
 replace qd := qd.wr W
 replace qf := qf.wr W
 replace qg := qg.wr W
 replace Z0 := Nat.le_trans Z0 (Nat.le_of_eq W.size.symm)
 replace N := Fr.snoc X.1 N jy
 refine g_astore X at_178 (pc' := 180) (Ls' := #[.val (.int i0), .val (.int i1), .val (.int i2), .val (.int i3), .val (.int qp), .val (.int qq), .val (.int qr), .val (.ref qm), .val (.ref qn), .val (.int qu), .val (.int qx), .val (.int qy), .val (.ref qs), .val (.ref qv), .val (.ref qw), .unset, .unset, .unset, .unset, .unset, .unset]) rfl rfl rfl ?_
 refine g_iloadN X at_180 (pc' := 181) rfl rfl ?_
 refine g_ldc X (tb hw 2 rfl) at_181 (pc' := 183) rfl ?_
 refine g_iand X at_183 (pc' := 184) rfl ?_
 refine g_iconst X (3 : Int32) at_184 (pc' := 185) rfl rfl ?_
 refine g_irem X at_185 (pc' := 186) rfl (by decide) ?_
 generalize wb : ((i2 &&& (2147483647 : Int32)) % (3 : Int32)) = q3
 refine g_istore X at_186 (pc' := 188) (Ls' := #[.val (.int i0), .val (.int i1), .val (.int i2), .val (.int i3), .val (.int qp), .val (.int qq), .val (.int qr), .val (.ref qm), .val (.ref qn), .val (.int qu), .val (.int qx), .val (.int qy), .val (.ref qs), .val (.ref qv), .val (.ref qw), .val (.int q3), .unset, .unset, .unset, .unset, .unset]) rfl rfl ?_
 refine g_iload X at_188 (pc' := 190) rfl rfl ?_
 by_cases jf : q3 = (0 : Int32)
 refine g_ifN X at_190 ((if0 _ _).trans (teq jf).2) (pc' := 193) rfl ?_
 refine g_iload X at_193 (pc' := 195) rfl rfl ?_
 refine g_goto X at_195 (pc' := 211) (by decide) (by decide) ?_
 exact rLaw1 l Z aa hw i0 i1 i2 i3 u8 G1 G3 qm qn qs qv qw qp qq qr qu qx qy q0 q5 jd q2 q6 je q3 qu h0 n0 P5 rG3 (Or.inl ⟨jf, rfl⟩) (rol3 q9) (nbC R0) (plC R0) (bcC R0) (rol3 q9) (nbC R1) (plC R1) (bcC R1) (rol3 ja) (nbC R2) (plC R2) (bcC R2) (rol3 jb) (bit1 jr) (bit1 js) (bit1 jt) (bit1 jz) (bit1 j0) (bit1 j1) (fitS (ftC R0) (fitS (ftC R1) (fitS (ftC R2) fit0))) qe qb qa qi qh qk qj qo ql qz qt qc qd qf qg X hS hk HR Z0 N hnm hret hlk
 refine g_ifY X at_190 ((if0 _ _).trans (feq jf).2) (pc' := 198) (by decide) (by decide) ?_
 refine g_iload X at_198 (pc' := 200) rfl rfl ?_
 refine g_iconst X (1 : Int32) at_200 (pc' := 201) rfl rfl ?_
 by_cases jg : q3 = (1 : Int32)
 refine g_icN X at_201 (teq jg).2 (pc' := 204) rfl ?_
 refine g_iload X at_204 (pc' := 206) rfl rfl ?_
 refine g_goto X at_206 (pc' := 211) (by decide) (by decide) ?_
 exact rLaw1 l Z aa hw i0 i1 i2 i3 u8 G1 G3 qm qn qs qv qw qp qq qr qu qx qy q0 q5 jd q2 q6 je q3 qx h0 n0 P5 rG3 (Or.inr (Or.inl ⟨jg, rfl⟩)) (rol3 ja) (nbC R0) (plC R0) (bcC R0) (rol3 q9) (nbC R1) (plC R1) (bcC R1) (rol3 ja) (nbC R2) (plC R2) (bcC R2) (rol3 jb) (bit1 jr) (bit1 js) (bit1 jt) (bit1 jz) (bit1 j0) (bit1 j1) (fitS (ftC R0) (fitS (ftC R1) (fitS (ftC R2) fit0))) qe qb qa qi qh qk qj qo ql qz qt qc qd qf qg X hS hk HR Z0 N hnm hret hlk
 refine g_icY X at_201 (feq jg).2 (pc' := 209) (by decide) (by decide) ?_
 refine g_iload X at_209 (pc' := 211) rfl rfl ?_
 exact rLaw1 l Z aa hw i0 i1 i2 i3 u8 G1 G3 qm qn qs qv qw qp qq qr qu qx qy q0 q5 jd q2 q6 je q3 qy h0 n0 P5 rG3 (Or.inr (Or.inr ⟨two (edg3 wb) jf jg, rfl⟩)) (rol3 jb) (nbC R0) (plC R0) (bcC R0) (rol3 q9) (nbC R1) (plC R1) (bcC R1) (rol3 ja) (nbC R2) (plC R2) (bcC R2) (rol3 jb) (bit1 jr) (bit1 js) (bit1 jt) (bit1 jz) (bit1 j0) (bit1 j1) (fitS (ftC R0) (fitS (ftC R1) (fitS (ftC R2) fit0))) qe qb qa qi qh qk qj qo ql qz qt qc qd qf qg X hS hk HR Z0 N hnm hret hlk
set_option maxRecDepth 65536 in
set_option maxHeartbeats 40000000 in
theorem comes_1 {Post : Tables → Env → Array Value → State → Outcome → State → Prop} (hpost : ∀ tb e args s v u, (limb_1_1.after args s (.returned v) u = true ∧ limb_1_2.after args s (.returned v) u = true ∧ True) → ReturnedEndW s (.returned v) u (Jvm.fieldLocs frame_1_writes args s ++ Jvm.arrayLocs frame_1_arrays args s ++ Jvm.staticLocs frame_1_statics s) 64 6400 → Post tb e args s (.returned v) u) :
    ArmFor flags0 classFile x code maxLocals ret World_1 tables_1 room_1 Calls_1 rest_1 Pre_1 Post := by
  intro l hfl _ _ p e ha hc hk s m args below hf hA hF happ hP
  obtain ⟨hcalls, hrest, hpre⟩ := hP
  obtain ⟨-, -, -, hnamed, -, -, -, hat⟩ := (Spec.applies_iff hf).mp happ
  obtain ⟨hg, hn⟩ := and_e (Cond.before_iff.mp (show (Jvm.Cond.and given_1 narrow_1).before args s = true from hpre))
  obtain ⟨g1, g2⟩ := and_e hg
  obtain ⟨g3, g4⟩ := and_e g2
  obtain ⟨g5, g6⟩ := and_e g4
  obtain ⟨g7, g8⟩ := and_e g6
  obtain ⟨w0, w1, w2, w3, rfl⟩ : ∃ w0 w1 w2 w3 : Value, args = #[w0, w1, w2, w3] := by
    have hs : args.size = 4 := by simpa [Cond.value, given_1] using g1
    obtain ⟨L⟩ := args
    match L, hs with
    | [w0, w1, w2, w3], _ => exact ⟨w0, w1, w2, w3, rfl⟩
  have hw := fun d (hd : d ∈ tables_1) => atoms_spec (ws := Jvm.Cond.code x code maxLocals ret :: tables_1) hat d (List.mem_cons_of_mem _ hd)
  have hfit : Fit s := fun {y c} hc i hi => by
    obtain ⟨ha, rfl⟩ := Array.getElem?_eq_some_iff.mp hc
    have q := List.all_eq_true.mp ((Array.all_eq_true_iff_forall_mem.mp hF) _ (Array.getElem_mem ha)) i (List.mem_range.mpr hi)
    simpa [Array.getElem?_eq_getElem hi] using q
  obtain ⟨hsets, hown0⟩ := atoms_of _ (rest_1_c_eq ▸ (show rest_1_c.before _ s = true from hrest))
  have hr0 := Cond.before_iff.mp hown0
  obtain ⟨i0, ei0⟩ := is_v g3
  obtain rfl : w0 = (.int i0) := Option.some.inj ei0
  obtain ⟨i1, ei1⟩ := is_v g5
  obtain rfl : w1 = (.int i1) := Option.some.inj ei1
  obtain ⟨i2, ei2⟩ := is_v g7
  obtain rfl : w2 = (.int i2) := Option.some.inj ei2
  obtain ⟨i3, ei3⟩ := is_v g8
  obtain rfl : w3 = (.int i3) := Option.some.inj ei3
  have n5 := not_v (Cond.before_iff.mp (hsets _ (List.mem_of_getElem? (i := 2) rfl)))
  obtain ⟨G1, eG1⟩ := is_v (Cond.before_iff.mp (hsets _ (List.mem_of_getElem? (i := 1) rfl)))
  have O_cs : Sta s s.heap "java/lang/String" "COMPACT_STRINGS" "Z" (.int G1) := Sta.start eG1 (Or.inl (hsets _ (List.mem_of_getElem? (i := 0) rfl)))
  have P5 : ¬ (G1 = (0 : Int32)) := gotF (Cond.eq_ints eG1 (Term.int_eval (0))) n5
  obtain ⟨G3, eG3, rG3⟩ := isR_v (Cond.before_iff.mp (hsets _ (List.mem_of_getElem? (i := 8) rfl)))
  have O_sf : Sta s s.heap "jdk/internal/util/Preconditions" "SIOOBE_FORMATTER" "Ljava/util/function/BiFunction;" G3 := Sta.start eG3 (Or.inl (hsets _ (List.mem_of_getElem? (i := 7) rfl)))
  obtain ⟨u8, v_u8⟩ := exa_v (Cond.before_iff.mp (hsets _ (List.mem_of_getElem? (i := 17) rfl)))
  have E_u8 := Exa.start v_u8 (Cond.before_iff.mp (hsets _ (List.mem_of_getElem? (i := 17) rfl)))
  have O_u8 : Sta s s.heap "sun/nio/cs/UTF_8" "INSTANCE" "Lsun/nio/cs/UTF_8;" (.ref u8) := Sta.start v_u8 (Or.inl (hsets _ (List.mem_of_getElem? (i := 12) rfl)))
  have O_sc : Sta s s.heap "java/nio/charset/StandardCharsets" "UTF_8" "Ljava/nio/charset/Charset;" (.ref u8) := Sta.start (Cond.eq_refs (hsets _ (List.mem_of_getElem? (i := 13) rfl)) v_u8 rfl) (Or.inl (hsets _ (List.mem_of_getElem? (i := 10) rfl)))
  have hC : CHv s consts_1 s.vm s.heap := CHv.start (elw hw) hcalls.1 (hsets _ (List.mem_of_getElem? (i := 2) rfl)) (tb hw 0 rfl) (tb hw 4 rfl)
  obtain ⟨n, o, h1, h2, h3, _, L, rfl, ⟨rfl, N⟩, hq⟩ := rLaw l s _ hw tables_1 i0 i1 i2 i3 u8 G1 G3 s.heap s.heap.size (Nat.le_refl _) O_cs P5 O_u8 E_u8 O_sc O_sf rG3 p e ha hc hk s m _ below hf ((Spec.applies_iff_loose hf).mp happ).1 ⟨rfl, State.Warmed39.refl s, rfl, hC⟩ trivial
  refine ⟨n, _, h1, h2, h3, hpost _ _ _ _ _ _ ⟨Cond.after_iff.mpr rfl, Cond.after_iff.mpr (eq_i res_at (Term.int_eval (1)) rfl), trivial⟩ ⟨hq.1, hq.2.1, hq.2.2.1, (hq.2.2.2.sift fun y hy => Or.inr (N y hy)).mono (by decide) (by decide)⟩⟩
theorem main_1_1 : Claimed_1_1 := comes_1 fun _ _ _ _ _ _ h hF => ⟨h.1, hF⟩
theorem main_1_2 : Claimed_1_2 := comes_1 fun _ _ _ _ _ _ h hF => ⟨h.2.1, hF⟩

end Jvm.Pilot.@@N@@
namespace Jvm.Pilot.@@N@@
open Jvm Jvm.ClassFile Sem Op Lib Jvm.Free Jvm.Stand Jvm.Pilot.@@N@@.Jvm.D
/-! MADE BY PROGRAM (witnessworld.py) out of the Statement's table words and the real class files: 33 classes; the members and pool entries that the words name. The judged class is class 1, her method 1. -/
namespace start1
open Jvm.ClassFile
def u (s : String) : CpInfo := .utf8 (stringToUtf16 s)
/-- a pool by its gaps: so many unusable entries, then the entry; so many at the end -/
def gap : Nat → List CpInfo → List CpInfo
  | 0, r => r
  | n + 1, r => .unusable :: gap n r
def poolList (es : List (Nat × CpInfo)) (last : Nat) : List CpInfo := es.foldr (fun e r => gap e.1 (e.2 :: r)) (gap last [])
def pool (es : List (Nat × CpInfo)) (last : Nat) : Array CpInfo := ⟨poolList es last⟩
def fileOf (pool : Array CpInfo) (this : Nat) (attrs : Array Attribute := #[]) (ms : Array MethodInfo := #[]) (fl : Nat := 33) (sup : Nat := 0) (ifs : Array Nat := #[]) (fds : Array FieldInfo := #[]) : ClassFile where
  minorVersion := 0
  majorVersion := 65
  constantPool := pool
  accessFlags := fl
  thisClass := this
  superClass := sup
  interfaces := ifs
  fields := fds
  methods := ms
  attributes := attrs
def plain (name : String) (sup : Option ClassId) : Class where
  name := name
  kind := .ordinary
  loader := none
  accessFlags := 33
  super := sup
  interfaces := #[]
  cf := none
  fields := #[]
  methods := #[]
  instanceTypes := #[]
  staticTypes := #[]
  resolved := #[]
  callSites := []
  init := .initialized
  statics := none
  mirror := none

def pool0 : Array CpInfo := pool [(5, u "<init>"), (0, u "()V"), (1, .class_ 10), (1, u "java/lang/Object")] 113

def k0c0 : Code := { maxStack := 0, maxLocals := 1, code := object_method_1_code, exceptionTable := #[], attributes := #[] }
def k0m0 : Method := { name := "<init>", desc := "()V", sig := { parameters := [], returnType := none }, accessFlags := 1, code := some k0c0 }
/-- java/lang/Object -/
def k0 : Class := { plain "java/lang/Object" none with
  accessFlags := 33
  interfaces := #[]
  cf := some (fileOf pool0 8 #[] #[{ accessFlags := 1, nameIndex := 5, descriptorIndex := 6, attributes := #[] }] 33 0 #[] #[])
  fields := #[]
  methods := #[k0m0]
  instanceTypes := #[]
  staticTypes := #[]
  resolved := Array.replicate 124 none
  statics := none }

def pool1 : Array CpInfo := pool [(2, .class_ 4), (1, u "java/lang/Object"), (0, u "<init>"), (0, u "()V"), (0, .integer 2147483647), (0, .class_ 9), (0, u "java/lang/String"), (0, .methodref 8 11), (0, .nameAndType 5 12), (0, u "([C)V"), (0, .class_ 14), (0, u "com/example/pathlattice/pathlattice/graph/Strings"), (0, .methodref 13 16), (0, .nameAndType 5 17), (0, u "([I[B)V"), (0, .class_ 19), (0, u "com/example/pathlattice/pathlattice/graph/Edges"), (0, .methodref 18 21), (0, .nameAndType 5 22), (0, u "([I[I[IILcom/example/pathlattice/pathlattice/graph/Strings;)V"), (0, .methodref 18 24), (0, .nameAndType 25 26), (0, u "role"), (0, u "(I)Ljava/lang/String;"), (0, .methodref 8 28), (0, .nameAndType 29 30), (0, u "equals"), (0, u "(Ljava/lang/Object;)Z"), (0, .class_ 32), (0, u "com/example/pathlattice/pathlattice/graph/EdgesRolePinLaw"), (2, u "law"), (0, u "(IIII)Z")] 7

def k1m0 : Method := { name := "<init>", desc := "()V", sig := { parameters := [], returnType := none }, accessFlags := 1, code := none }
def k1c1 : Code := { maxStack := 7, maxLocals := 21, code := code, exceptionTable := #[], attributes := #[] }
def k1m1 : Method := { name := "law", desc := "(IIII)Z", sig := { parameters := [.int, .int, .int, .int], returnType := some .boolean }, accessFlags := 9, code := some k1c1 }
/-- com/example/pathlattice/pathlattice/graph/EdgesRolePinLaw -/
def k1 : Class := { plain "com/example/pathlattice/pathlattice/graph/EdgesRolePinLaw" (some 0) with
  accessFlags := 49
  interfaces := #[]
  cf := some (fileOf pool1 31 #[] #[{ accessFlags := 1, nameIndex := 5, descriptorIndex := 6, attributes := #[] }, { accessFlags := 9, nameIndex := 35, descriptorIndex := 36, attributes := #[] }] 49 2 #[] #[])
  fields := #[]
  methods := #[k1m0, k1m1]
  instanceTypes := #[]
  staticTypes := #[]
  resolved := Array.replicate 44 none
  statics := none }

def pool2 : Array CpInfo := pool [(1, .class_ 2), (0, u "java/io/Serializable"), (0, .class_ 4), (0, u "java/lang/Object")] 2

/-- java/io/Serializable -/
def k2 : Class := { plain "java/io/Serializable" (some 0) with
  accessFlags := 1537
  interfaces := #[]
  cf := some (fileOf pool2 1 #[] #[] 1537 3 #[] #[])
  fields := #[]
  methods := #[]
  instanceTypes := #[]
  staticTypes := #[]
  resolved := Array.replicate 7 none
  statics := none }

def pool3 : Array CpInfo := pool [(1, .class_ 2), (0, u "java/lang/Comparable"), (0, .class_ 4), (0, u "java/lang/Object")] 7

/-- java/lang/Comparable -/
def k3 : Class := { plain "java/lang/Comparable" (some 0) with
  accessFlags := 1537
  interfaces := #[]
  cf := some (fileOf pool3 1 #[] #[] 1537 3 #[] #[])
  fields := #[]
  methods := #[]
  instanceTypes := #[]
  staticTypes := #[]
  resolved := Array.replicate 12 none
  statics := none }

def pool4 : Array CpInfo := pool [(2, .class_ 4), (1, u "java/lang/CharSequence"), (42, .class_ 48), (0, u "java/lang/CharSequence$1CodePointIterator"), (10, .class_ 60), (0, u "java/lang/CharSequence$1CharIterator"), (5, .class_ 67), (0, u "java/lang/Object")] 63

/-- java/lang/CharSequence -/
def k4 : Class := { plain "java/lang/CharSequence" (some 0) with
  accessFlags := 1537
  interfaces := #[]
  cf := some (fileOf pool4 2 #[.nestMembers #[47, 59]] #[] 1537 66 #[] #[])
  fields := #[]
  methods := #[]
  instanceTypes := #[]
  staticTypes := #[]
  resolved := Array.replicate 131 none
  statics := none }

def pool5 : Array CpInfo := pool [(1, .class_ 2), (0, u "java/lang/constant/Constable"), (0, .class_ 4), (0, u "java/lang/Object")] 6

/-- java/lang/constant/Constable -/
def k5 : Class := { plain "java/lang/constant/Constable" (some 0) with
  accessFlags := 1537
  interfaces := #[]
  cf := some (fileOf pool5 1 #[] #[] 1537 3 #[] #[])
  fields := #[]
  methods := #[]
  instanceTypes := #[]
  staticTypes := #[]
  resolved := Array.replicate 11 none
  statics := none }

def pool6 : Array CpInfo := pool [(1, .class_ 2), (0, u "java/lang/constant/ConstantDesc"), (0, .class_ 4), (0, u "java/lang/Object")] 32

/-- java/lang/constant/ConstantDesc -/
def k6 : Class := { plain "java/lang/constant/ConstantDesc" (some 0) with
  accessFlags := 1537
  interfaces := #[]
  cf := some (fileOf pool6 1 #[] #[] 1537 3 #[] #[])
  fields := #[]
  methods := #[]
  instanceTypes := #[]
  staticTypes := #[]
  resolved := Array.replicate 37 none
  statics := none }

def pool7 : Array CpInfo := pool [(1, .methodref 2 3), (0, .class_ 4), (0, .nameAndType 5 6), (0, u "java/lang/Object"), (0, u "<init>"), (0, u "()V"), (0, .string 8), (0, u ""), (0, .fieldref 10 11), (0, .class_ 12), (0, .nameAndType 13 14), (0, u "java/lang/String"), (0, u "value"), (0, u "[B"), (0, .fieldref 10 16), (0, .nameAndType 17 18), (0, u "coder"), (0, u "B"), (2, u "hash"), (0, u "I"), (2, u "hashIsZero"), (0, u "Z"), (0, .methodref 10 28), (0, .nameAndType 5 29), (0, u "([CIILjava/lang/Void;)V"), (4, .methodref 10 35), (0, .nameAndType 36 37), (0, u "checkBoundsOffCount"), (0, u "(III)I"), (0, .fieldref 10 39), (0, .nameAndType 40 26), (0, u "COMPACT_STRINGS"), (1, .class_ 44), (1, u "java/lang/StringUTF16"), (0, u "compress"), (1, .methodref 42 48), (0, .nameAndType 49 50), (0, u "coderFromArrayLen"), (0, u "([BI)B"), (3, .methodref 55 56), (0, .class_ 57), (0, .nameAndType 58 59), (0, u "java/util/Arrays"), (0, u "copyOfRange"), (0, u "([BII)[B"), (15, .methodref 10 76), (0, .nameAndType 5 77), (0, u "(Ljava/nio/charset/Charset;[BII)V"), (0, .methodref 79 80), (0, .class_ 81), (0, .nameAndType 82 83), (0, u "java/util/Objects"), (0, u "requireNonNull"), (0, u "(Ljava/lang/Object;)Ljava/lang/Object;"), (0, .class_ 85), (0, u "java/nio/charset/Charset"), (0, .fieldref 87 88), (0, .class_ 89), (0, .nameAndType 90 91), (0, u "sun/nio/cs/UTF_8"), (0, u "INSTANCE"), (0, u "Lsun/nio/cs/UTF_8;"), (0, .methodref 93 94), (0, .class_ 95), (0, .nameAndType 96 97), (0, u "java/lang/StringCoding"), (0, u "countPositives"), (0, u "([BII)I"), (9, .class_ 109), (1, u "java/lang/StringLatin1"), (67, .methodref 42 178), (0, .nameAndType 45 179), (0, u "([CII)[B"), (58, u "([BIILjava/nio/charset/Charset;)V"), (302, .methodref 107 542), (0, .nameAndType 543 544), (0, u "equals"), (0, u "([B[B)Z"), (28, u "(Ljava/lang/Object;)Z"), (1, .class_ 576), (0, u "java/lang/CharSequence"), (22, u "CASE_INSENSITIVE_ORDER"), (0, u "Ljava/util/Comparator;"), (409, u "([C)V"), (42, .fieldref 1054 1055), (0, .class_ 1056), (0, .nameAndType 1057 1058), (0, u "jdk/internal/util/Preconditions"), (0, u "SIOOBE_FORMATTER"), (0, u "Ljava/util/function/BiFunction;"), (5, u "(IIILjava/util/function/BiFunction;)I"), (0, .methodref 1054 1066), (0, .nameAndType 1067 1064), (0, u "checkFromIndexSize"), (33, u "serialPersistentFields"), (0, u "[Ljava/io/ObjectStreamField;"), (0, .class_ 1104), (0, u "java/lang/String$CaseInsensitiveComparator"), (1, .class_ 1107), (0, u "java/io/Serializable"), (0, .class_ 1109), (0, u "java/lang/Comparable"), (0, .class_ 1111), (0, u "java/lang/constant/Constable"), (0, .class_ 1113), (0, u "java/lang/constant/ConstantDesc"), (2, u "serialVersionUID"), (0, u "J"), (3, u "REPL"), (0, u "C"), (2, u "LATIN1"), (1, u "UTF16")] 323

def k7m0 : Method := { name := "<init>", desc := "()V", sig := { parameters := [], returnType := none }, accessFlags := 1, code := none }
def k7c1 : Code := { maxStack := 5, maxLocals := 2, code := jdk_42_method_3_code, exceptionTable := #[], attributes := #[] }
def k7m1 : Method := { name := "<init>", desc := "([C)V", sig := { parameters := [(.array .char)], returnType := none }, accessFlags := 1, code := some k7c1 }
def k7c2 : Code := { maxStack := 6, maxLocals := 5, code := jdk_42_method_10_code, exceptionTable := #[], attributes := #[] }
def k7m2 : Method := { name := "<init>", desc := "([BIILjava/nio/charset/Charset;)V", sig := { parameters := [(.array .byte), .int, .int, (.object "java/nio/charset/Charset")], returnType := none }, accessFlags := 1, code := some k7c2 }
def k7c3 : Code := { maxStack := 6, maxLocals := 11, code := jdk_42_method_11_code, exceptionTable := #[{ startPc := 800, endPc := 813, handlerPc := 816, catchType := 202 }], attributes := #[] }
def k7m3 : Method := { name := "<init>", desc := "(Ljava/nio/charset/Charset;[BII)V", sig := { parameters := [(.object "java/nio/charset/Charset"), (.array .byte), .int, .int], returnType := none }, accessFlags := 2, code := some k7c3 }
def k7c4 : Code := { maxStack := 2, maxLocals := 3, code := jdk_42_method_66_code, exceptionTable := #[], attributes := #[] }
def k7m4 : Method := { name := "equals", desc := "(Ljava/lang/Object;)Z", sig := { parameters := [(.object "java/lang/Object")], returnType := some .boolean }, accessFlags := 1, code := some k7c4 }
def k7c5 : Code := { maxStack := 4, maxLocals := 6, code := jdk_42_method_149_code, exceptionTable := #[], attributes := #[] }
def k7m5 : Method := { name := "<init>", desc := "([CIILjava/lang/Void;)V", sig := { parameters := [(.array .char), .int, .int, (.object "java/lang/Void")], returnType := none }, accessFlags := 2, code := some k7c5 }
def k7c6 : Code := { maxStack := 4, maxLocals := 3, code := jdk_42_method_157_code, exceptionTable := #[], attributes := #[] }
def k7m6 : Method := { name := "checkBoundsOffCount", desc := "(III)I", sig := { parameters := [.int, .int, .int], returnType := some .int }, accessFlags := 8, code := some k7c6 }
/-- java/lang/String -/
def k7 : Class := { plain "java/lang/String" (some 0) with
  accessFlags := 49
  interfaces := #[2, 3, 4, 5, 6]
  cf := some (fileOf pool7 10 #[.nestMembers #[1103]] #[{ accessFlags := 1, nameIndex := 5, descriptorIndex := 6, attributes := #[] }, { accessFlags := 1, nameIndex := 5, descriptorIndex := 1010, attributes := #[] }, { accessFlags := 1, nameIndex := 5, descriptorIndex := 238, attributes := #[] }, { accessFlags := 2, nameIndex := 5, descriptorIndex := 77, attributes := #[] }, { accessFlags := 1, nameIndex := 543, descriptorIndex := 573, attributes := #[] }, { accessFlags := 2, nameIndex := 5, descriptorIndex := 29, attributes := #[] }, { accessFlags := 8, nameIndex := 36, descriptorIndex := 37, attributes := #[] }] 49 2 #[1106, 1108, 575, 1110, 1112] #[{ accessFlags := 18, nameIndex := 13, descriptorIndex := 14, attributes := #[] }, { accessFlags := 18, nameIndex := 17, descriptorIndex := 18, attributes := #[] }, { accessFlags := 2, nameIndex := 21, descriptorIndex := 22, attributes := #[] }, { accessFlags := 2, nameIndex := 25, descriptorIndex := 26, attributes := #[] }, { accessFlags := 26, nameIndex := 1116, descriptorIndex := 1117, attributes := #[] }, { accessFlags := 24, nameIndex := 40, descriptorIndex := 26, attributes := #[] }, { accessFlags := 26, nameIndex := 1101, descriptorIndex := 1102, attributes := #[] }, { accessFlags := 26, nameIndex := 1121, descriptorIndex := 1122, attributes := #[] }, { accessFlags := 25, nameIndex := 599, descriptorIndex := 600, attributes := #[] }, { accessFlags := 24, nameIndex := 1125, descriptorIndex := 18, attributes := #[] }, { accessFlags := 24, nameIndex := 1127, descriptorIndex := 18, attributes := #[] }])
  fields := #[{ name := "value", type := (.array .byte), accessFlags := 18, slot := 0, constantValue := 0 }, { name := "coder", type := .byte, accessFlags := 18, slot := 1, constantValue := 0 }, { name := "hash", type := .int, accessFlags := 2, slot := 2, constantValue := 0 }, { name := "hashIsZero", type := .boolean, accessFlags := 2, slot := 3, constantValue := 0 }, { name := "serialVersionUID", type := .long, accessFlags := 26, slot := 0, constantValue := 0 }, { name := "COMPACT_STRINGS", type := .boolean, accessFlags := 24, slot := 1, constantValue := 0 }, { name := "serialPersistentFields", type := (.array (.object "java/io/ObjectStreamField")), accessFlags := 26, slot := 2, constantValue := 0 }, { name := "REPL", type := .char, accessFlags := 26, slot := 3, constantValue := 0 }, { name := "CASE_INSENSITIVE_ORDER", type := (.object "java/util/Comparator"), accessFlags := 25, slot := 4, constantValue := 0 }, { name := "LATIN1", type := .byte, accessFlags := 24, slot := 5, constantValue := 0 }, { name := "UTF16", type := .byte, accessFlags := 24, slot := 6, constantValue := 0 }]
  methods := #[k7m0, k7m1, k7m2, k7m3, k7m4, k7m5, k7m6]
  instanceTypes := #[(.array .byte), .byte, .int, .boolean]
  staticTypes := #[.long, .boolean, (.array (.object "java/io/ObjectStreamField")), .char, (.object "java/util/Comparator"), .byte, .byte]
  resolved := Array.replicate 1451 none
  statics := some 0 }

def pool8 : Array CpInfo := pool [(6, .class_ 8), (1, u "java/lang/Object"), (0, u "<init>"), (0, u "()V"), (1, .class_ 14), (1, u "java/lang/StringUTF16"), (31, u "$assertionsDisabled"), (0, u "Z"), (13, u "HI_BYTE_SHIFT"), (0, u "I"), (2, u "LO_BYTE_SHIFT"), (49, .methodref 12 116), (0, .nameAndType 117 118), (0, u "compress"), (0, u "([CI[BII)I"), (3, u "([CII)[B"), (138, u "coderFromArrayLen"), (0, u "([BI)B"), (106, .class_ 371), (1, u "java/lang/StringUTF16$LinesSpliterator"), (58, u "MAX_LENGTH"), (196, .class_ 628), (0, u "java/lang/StringUTF16$CodePointsSpliterator"), (0, .class_ 630), (0, u "java/lang/StringUTF16$CharsSpliterator")] 4

def k8m0 : Method := { name := "<init>", desc := "()V", sig := { parameters := [], returnType := none }, accessFlags := 0, code := none }
def k8c1 : Code := { maxStack := 2, maxLocals := 2, code := jdk_52_method_15_code, exceptionTable := #[], attributes := #[] }
def k8m1 : Method := { name := "coderFromArrayLen", desc := "([BI)B", sig := { parameters := [(.array .byte), .int], returnType := some .byte }, accessFlags := 8, code := some k8c1 }
def k8c2 : Code := { maxStack := 5, maxLocals := 6, code := jdk_52_method_16_code, exceptionTable := #[], attributes := #[] }
def k8m2 : Method := { name := "compress", desc := "([CII)[B", sig := { parameters := [(.array .char), .int, .int], returnType := some (.array .byte) }, accessFlags := 9, code := some k8c2 }
def k8c3 : Code := { maxStack := 3, maxLocals := 7, code := jdk_52_method_21_code, exceptionTable := #[], attributes := #[] }
def k8m3 : Method := { name := "compress", desc := "([CI[BII)I", sig := { parameters := [(.array .char), .int, (.array .byte), .int, .int], returnType := some .int }, accessFlags := 9, code := some k8c3 }
/-- java/lang/StringUTF16 -/
def k8 : Class := { plain "java/lang/StringUTF16" (some 0) with
  accessFlags := 48
  interfaces := #[]
  cf := some (fileOf pool8 12 #[.nestMembers #[627, 629, 369]] #[{ accessFlags := 0, nameIndex := 9, descriptorIndex := 10, attributes := #[] }, { accessFlags := 8, nameIndex := 261, descriptorIndex := 262, attributes := #[] }, { accessFlags := 9, nameIndex := 117, descriptorIndex := 122, attributes := #[] }, { accessFlags := 9, nameIndex := 117, descriptorIndex := 118, attributes := #[] }] 48 6 #[] #[{ accessFlags := 26, nameIndex := 61, descriptorIndex := 62, attributes := #[] }, { accessFlags := 26, nameIndex := 65, descriptorIndex := 62, attributes := #[] }, { accessFlags := 24, nameIndex := 430, descriptorIndex := 62, attributes := #[] }, { accessFlags := 4120, nameIndex := 46, descriptorIndex := 47, attributes := #[] }])
  fields := #[{ name := "HI_BYTE_SHIFT", type := .int, accessFlags := 26, slot := 0, constantValue := 0 }, { name := "LO_BYTE_SHIFT", type := .int, accessFlags := 26, slot := 1, constantValue := 0 }, { name := "MAX_LENGTH", type := .int, accessFlags := 24, slot := 2, constantValue := 0 }, { name := "$assertionsDisabled", type := .boolean, accessFlags := 4120, slot := 3, constantValue := 0 }]
  methods := #[k8m0, k8m1, k8m2, k8m3]
  instanceTypes := #[]
  staticTypes := #[.int, .int, .int, .boolean]
  resolved := Array.replicate 635 none
  statics := none }

def pool9 : Array CpInfo := pool [(1, .methodref 2 3), (0, .class_ 4), (0, .nameAndType 5 6), (0, u "java/lang/Object"), (0, u "<init>"), (0, u "()V"), (0, .string 8), (0, u "string offsets from the first byte to the last"), (0, .methodref 10 11), (0, .class_ 12), (0, .nameAndType 13 14), (0, u "com/example/pathlattice/pathlattice/graph/Graph"), (0, u "require"), (0, u "(ZLjava/lang/String;)V"), (0, .string 16), (0, u "string offsets that rise"), (0, .fieldref 18 19), (0, .class_ 20), (0, .nameAndType 21 22), (0, u "com/example/pathlattice/pathlattice/graph/Strings"), (0, u "offsets"), (0, u "[I"), (0, .fieldref 18 24), (0, .nameAndType 25 26), (0, u "bytes"), (0, u "[B"), (2, u "([I[B)V"), (11, u "()I"), (3, u "get"), (1, .class_ 48), (0, u "java/lang/String"), (29, .fieldref 79 80), (0, .class_ 81), (0, .nameAndType 82 83), (0, u "java/nio/charset/StandardCharsets"), (0, u "UTF_8"), (0, u "Ljava/nio/charset/Charset;"), (35, .methodref 47 120), (0, .nameAndType 5 121), (0, u "([BIILjava/nio/charset/Charset;)V"), (14, u "count"), (15, u "(I)Ljava/lang/String;")] 23

def k9c0 : Code := { maxStack := 3, maxLocals := 4, code := prog_28_method_1_code, exceptionTable := #[], attributes := #[] }
def k9m0 : Method := { name := "<init>", desc := "([I[B)V", sig := { parameters := [(.array .int), (.array .byte)], returnType := none }, accessFlags := 1, code := some k9c0 }
def k9c1 : Code := { maxStack := 2, maxLocals := 1, code := prog_28_method_6_code, exceptionTable := #[], attributes := #[] }
def k9m1 : Method := { name := "count", desc := "()I", sig := { parameters := [], returnType := some .int }, accessFlags := 1, code := some k9c1 }
def k9c2 : Code := { maxStack := 7, maxLocals := 2, code := prog_28_method_7_code, exceptionTable := #[], attributes := #[] }
def k9m2 : Method := { name := "get", desc := "(I)Ljava/lang/String;", sig := { parameters := [.int], returnType := some (.object "java/lang/String") }, accessFlags := 1, code := some k9c2 }
/-- com/example/pathlattice/pathlattice/graph/Strings -/
def k9 : Class := { plain "com/example/pathlattice/pathlattice/graph/Strings" (some 0) with
  accessFlags := 49
  interfaces := #[]
  cf := some (fileOf pool9 18 #[] #[{ accessFlags := 1, nameIndex := 5, descriptorIndex := 29, attributes := #[] }, { accessFlags := 1, nameIndex := 136, descriptorIndex := 41, attributes := #[] }, { accessFlags := 1, nameIndex := 45, descriptorIndex := 152, attributes := #[] }] 49 2 #[] #[{ accessFlags := 18, nameIndex := 21, descriptorIndex := 22, attributes := #[] }, { accessFlags := 18, nameIndex := 25, descriptorIndex := 26, attributes := #[] }])
  fields := #[{ name := "offsets", type := (.array .int), accessFlags := 18, slot := 0, constantValue := 0 }, { name := "bytes", type := (.array .byte), accessFlags := 18, slot := 1, constantValue := 0 }]
  methods := #[k9m0, k9m1, k9m2]
  instanceTypes := #[(.array .int), (.array .byte)]
  staticTypes := #[]
  resolved := Array.replicate 176 none
  statics := none }

def pool10 : Array CpInfo := pool [(2, .class_ 4), (1, u "java/lang/Object"), (3, .class_ 10), (1, u "com/example/pathlattice/pathlattice/graph/Graph"), (0, u "parts"), (0, u "Lcom/example/pathlattice/pathlattice/graph/Graph$Parts;"), (10, .class_ 25), (1, u "com/example/pathlattice/pathlattice/graph/Graph$Parts"), (211, u "require"), (0, u "(ZLjava/lang/String;)V"), (30, .class_ 270), (0, u "com/example/pathlattice/pathlattice/graph/Graph$Built")] 62

def k10c0 : Code := { maxStack := 3, maxLocals := 2, code := prog_20_method_3_code, exceptionTable := #[], attributes := #[] }
def k10m0 : Method := { name := "require", desc := "(ZLjava/lang/String;)V", sig := { parameters := [.boolean, (.object "java/lang/String")], returnType := none }, accessFlags := 8, code := some k10c0 }
/-- com/example/pathlattice/pathlattice/graph/Graph -/
def k10 : Class := { plain "com/example/pathlattice/pathlattice/graph/Graph" (some 0) with
  accessFlags := 49
  interfaces := #[]
  cf := some (fileOf pool10 8 #[.nestMembers #[269, 23]] #[{ accessFlags := 8, nameIndex := 237, descriptorIndex := 238, attributes := #[] }] 49 2 #[] #[{ accessFlags := 18, nameIndex := 11, descriptorIndex := 12, attributes := #[] }])
  fields := #[{ name := "parts", type := (.object "com/example/pathlattice/pathlattice/graph/Graph$Parts"), accessFlags := 18, slot := 0, constantValue := 0 }]
  methods := #[k10m0]
  instanceTypes := #[(.object "com/example/pathlattice/pathlattice/graph/Graph$Parts")]
  staticTypes := #[]
  resolved := Array.replicate 333 none
  statics := none }

def pool11 : Array CpInfo := pool [(1, .methodref 2 3), (0, .class_ 4), (0, .nameAndType 5 6), (0, u "java/lang/Object"), (0, u "<init>"), (0, u "()V"), (0, .string 8), (0, u "a start, an end and a role for each edge"), (0, .methodref 10 11), (0, .class_ 12), (0, .nameAndType 13 14), (0, u "com/example/pathlattice/pathlattice/graph/Graph"), (0, u "require"), (0, u "(ZLjava/lang/String;)V"), (0, .string 16), (0, u "edges between the nodes"), (0, .methodref 18 19), (0, .class_ 20), (0, .nameAndType 21 22), (0, u "com/example/pathlattice/pathlattice/graph/Strings"), (0, u "count"), (0, u "()I"), (0, .string 24), (0, u "roles of the edges"), (0, .fieldref 26 27), (0, .class_ 28), (0, .nameAndType 29 30), (0, u "com/example/pathlattice/pathlattice/graph/Edges"), (0, u "nodeCount"), (0, u "I"), (0, .fieldref 26 32), (0, .nameAndType 33 34), (0, u "starts"), (0, u "[I"), (0, .fieldref 26 36), (0, .nameAndType 37 34), (0, u "ends"), (0, .fieldref 26 39), (0, .nameAndType 40 34), (0, u "roles"), (0, .class_ 42), (0, u "java/lang/String"), (0, .fieldref 26 44), (0, .nameAndType 45 46), (0, u "roleNames"), (0, u "[Ljava/lang/String;"), (0, .methodref 18 48), (0, .nameAndType 49 50), (0, u "get"), (0, u "(I)Ljava/lang/String;"), (0, .fieldref 26 52), (0, .nameAndType 53 34), (0, u "outOffsets"), (0, .fieldref 26 55), (0, .nameAndType 56 34), (0, u "outgoing"), (0, .fieldref 26 58), (0, .nameAndType 59 34), (0, u "inOffsets"), (0, .fieldref 26 61), (0, .nameAndType 62 34), (0, u "incoming"), (0, .methodref 26 64), (0, .nameAndType 65 66), (0, u "group"), (0, u "([I[I[I)V"), (0, .methodref 68 69), (0, .class_ 70), (0, .nameAndType 71 72), (0, u "java/util/Arrays"), (0, u "copyOf"), (0, u "([II)[I"), (49, u "UNSEEN"), (0, u "B"), (2, u "ON_PATH"), (1, u "DONE"), (1, u "([I[I[IILcom/example/pathlattice/pathlattice/graph/Strings;)V"), (7, u "role")] 15

def k11c0 : Code := { maxStack := 4, maxLocals := 7, code := prog_18_method_1_code, exceptionTable := #[], attributes := #[] }
def k11m0 : Method := { name := "<init>", desc := "([I[I[IILcom/example/pathlattice/pathlattice/graph/Strings;)V", sig := { parameters := [(.array .int), (.array .int), (.array .int), .int, (.object "com/example/pathlattice/pathlattice/graph/Strings")], returnType := none }, accessFlags := 1, code := some k11c0 }
def k11c1 : Code := { maxStack := 6, maxLocals := 7, code := prog_18_method_2_code, exceptionTable := #[], attributes := #[] }
def k11m1 : Method := { name := "group", desc := "([I[I[I)V", sig := { parameters := [(.array .int), (.array .int), (.array .int)], returnType := none }, accessFlags := 10, code := some k11c1 }
def k11c2 : Code := { maxStack := 3, maxLocals := 2, code := prog_18_method_6_code, exceptionTable := #[], attributes := #[] }
def k11m2 : Method := { name := "role", desc := "(I)Ljava/lang/String;", sig := { parameters := [.int], returnType := some (.object "java/lang/String") }, accessFlags := 0, code := some k11c2 }
/-- com/example/pathlattice/pathlattice/graph/Edges -/
def k11 : Class := { plain "com/example/pathlattice/pathlattice/graph/Edges" (some 0) with
  accessFlags := 49
  interfaces := #[]
  cf := some (fileOf pool11 26 #[] #[{ accessFlags := 1, nameIndex := 5, descriptorIndex := 130, attributes := #[] }, { accessFlags := 10, nameIndex := 65, descriptorIndex := 66, attributes := #[] }, { accessFlags := 0, nameIndex := 138, descriptorIndex := 50, attributes := #[] }] 49 2 #[] #[{ accessFlags := 26, nameIndex := 122, descriptorIndex := 123, attributes := #[] }, { accessFlags := 26, nameIndex := 126, descriptorIndex := 123, attributes := #[] }, { accessFlags := 26, nameIndex := 128, descriptorIndex := 123, attributes := #[] }, { accessFlags := 18, nameIndex := 29, descriptorIndex := 30, attributes := #[] }, { accessFlags := 18, nameIndex := 33, descriptorIndex := 34, attributes := #[] }, { accessFlags := 18, nameIndex := 37, descriptorIndex := 34, attributes := #[] }, { accessFlags := 18, nameIndex := 40, descriptorIndex := 34, attributes := #[] }, { accessFlags := 18, nameIndex := 45, descriptorIndex := 46, attributes := #[] }, { accessFlags := 18, nameIndex := 53, descriptorIndex := 34, attributes := #[] }, { accessFlags := 18, nameIndex := 56, descriptorIndex := 34, attributes := #[] }, { accessFlags := 18, nameIndex := 59, descriptorIndex := 34, attributes := #[] }, { accessFlags := 18, nameIndex := 62, descriptorIndex := 34, attributes := #[] }])
  fields := #[{ name := "UNSEEN", type := .byte, accessFlags := 26, slot := 0, constantValue := 0 }, { name := "ON_PATH", type := .byte, accessFlags := 26, slot := 1, constantValue := 0 }, { name := "DONE", type := .byte, accessFlags := 26, slot := 2, constantValue := 0 }, { name := "nodeCount", type := .int, accessFlags := 18, slot := 0, constantValue := 0 }, { name := "starts", type := (.array .int), accessFlags := 18, slot := 1, constantValue := 0 }, { name := "ends", type := (.array .int), accessFlags := 18, slot := 2, constantValue := 0 }, { name := "roles", type := (.array .int), accessFlags := 18, slot := 3, constantValue := 0 }, { name := "roleNames", type := (.array (.object "java/lang/String")), accessFlags := 18, slot := 4, constantValue := 0 }, { name := "outOffsets", type := (.array .int), accessFlags := 18, slot := 5, constantValue := 0 }, { name := "outgoing", type := (.array .int), accessFlags := 18, slot := 6, constantValue := 0 }, { name := "inOffsets", type := (.array .int), accessFlags := 18, slot := 7, constantValue := 0 }, { name := "incoming", type := (.array .int), accessFlags := 18, slot := 8, constantValue := 0 }]
  methods := #[k11m0, k11m1, k11m2]
  instanceTypes := #[.int, (.array .int), (.array .int), (.array .int), (.array (.object "java/lang/String")), (.array .int), (.array .int), (.array .int), (.array .int)]
  staticTypes := #[.byte, .byte, .byte]
  resolved := Array.replicate 154 none
  statics := none }

def pool12 : Array CpInfo := pool [(2, .class_ 4), (1, u "java/lang/Object"), (0, u "<init>"), (0, u "()V"), (14, .class_ 23), (1, u "java/nio/charset/StandardCharsets"), (0, u "US_ASCII"), (0, u "Ljava/nio/charset/Charset;"), (7, u "ISO_8859_1"), (7, u "UTF_8"), (5, u "UTF_16BE"), (5, u "UTF_16LE"), (5, u "UTF_16")] 8

def k12m0 : Method := { name := "<init>", desc := "()V", sig := { parameters := [], returnType := none }, accessFlags := 2, code := none }
/-- java/nio/charset/StandardCharsets -/
def k12 : Class := { plain "java/nio/charset/StandardCharsets" (some 0) with
  accessFlags := 49
  interfaces := #[]
  cf := some (fileOf pool12 21 #[] #[{ accessFlags := 2, nameIndex := 5, descriptorIndex := 6, attributes := #[] }] 49 2 #[] #[{ accessFlags := 25, nameIndex := 24, descriptorIndex := 25, attributes := #[] }, { accessFlags := 25, nameIndex := 33, descriptorIndex := 25, attributes := #[] }, { accessFlags := 25, nameIndex := 41, descriptorIndex := 25, attributes := #[] }, { accessFlags := 25, nameIndex := 47, descriptorIndex := 25, attributes := #[] }, { accessFlags := 25, nameIndex := 53, descriptorIndex := 25, attributes := #[] }, { accessFlags := 25, nameIndex := 59, descriptorIndex := 25, attributes := #[] }])
  fields := #[{ name := "US_ASCII", type := (.object "java/nio/charset/Charset"), accessFlags := 25, slot := 0, constantValue := 0 }, { name := "ISO_8859_1", type := (.object "java/nio/charset/Charset"), accessFlags := 25, slot := 1, constantValue := 0 }, { name := "UTF_8", type := (.object "java/nio/charset/Charset"), accessFlags := 25, slot := 2, constantValue := 0 }, { name := "UTF_16BE", type := (.object "java/nio/charset/Charset"), accessFlags := 25, slot := 3, constantValue := 0 }, { name := "UTF_16LE", type := (.object "java/nio/charset/Charset"), accessFlags := 25, slot := 4, constantValue := 0 }, { name := "UTF_16", type := (.object "java/nio/charset/Charset"), accessFlags := 25, slot := 5, constantValue := 0 }]
  methods := #[k12m0]
  instanceTypes := #[]
  staticTypes := #[(.object "java/nio/charset/Charset"), (.object "java/nio/charset/Charset"), (.object "java/nio/charset/Charset"), (.object "java/nio/charset/Charset"), (.object "java/nio/charset/Charset"), (.object "java/nio/charset/Charset")]
  resolved := Array.replicate 68 none
  statics := some 1 }

def pool13 : Array CpInfo := pool [(2, .class_ 4), (1, u "java/lang/Object"), (0, u "<init>"), (0, u "()V"), (35, .class_ 44), (1, u "java/util/Objects"), (0, u "requireNonNull"), (0, u "(Ljava/lang/Object;)Ljava/lang/Object;")] 137

def k13m0 : Method := { name := "<init>", desc := "()V", sig := { parameters := [], returnType := none }, accessFlags := 2, code := none }
def k13c1 : Code := { maxStack := 2, maxLocals := 1, code := jdk_31_method_10_code, exceptionTable := #[], attributes := #[] }
def k13m1 : Method := { name := "requireNonNull", desc := "(Ljava/lang/Object;)Ljava/lang/Object;", sig := { parameters := [(.object "java/lang/Object")], returnType := some (.object "java/lang/Object") }, accessFlags := 9, code := some k13c1 }
/-- java/util/Objects -/
def k13 : Class := { plain "java/util/Objects" (some 0) with
  accessFlags := 49
  interfaces := #[]
  cf := some (fileOf pool13 42 #[] #[{ accessFlags := 2, nameIndex := 5, descriptorIndex := 6, attributes := #[] }, { accessFlags := 9, nameIndex := 45, descriptorIndex := 46, attributes := #[] }] 49 2 #[] #[])
  fields := #[]
  methods := #[k13m0, k13m1]
  instanceTypes := #[]
  staticTypes := #[]
  resolved := Array.replicate 184 none
  statics := none }

def pool14 : Array CpInfo := pool [(18, .class_ 20), (1, u "java/nio/charset/Charset"), (0, u "cache1"), (0, u "[Ljava/lang/Object;"), (2, u "cache2"), (0, .class_ 27), (0, u "java/lang/Object"), (0, .class_ 29), (0, u "java/nio/charset/Charset$1"), (4, .class_ 36), (1, u "java/nio/charset/Charset$ThreadTrackHolder"), (21, .class_ 59), (0, u "java/nio/charset/Charset$2"), (11, .class_ 73), (1, u "java/nio/charset/Charset$ExtendedProviderHolder"), (22, u "standardProvider"), (0, u "Ljava/nio/charset/spi/CharsetProvider;"), (29, u "name"), (7, .class_ 136), (0, u "java/nio/charset/Charset$3"), (5, u "defaultCharset"), (0, u "Ljava/nio/charset/Charset;"), (14, u "zeroAliases"), (0, u "[Ljava/lang/String;"), (29, u "Ljava/lang/String;"), (2, u "aliases"), (2, u "aliasSet"), (0, u "Ljava/util/Set;"), (82, .class_ 280), (0, u "java/lang/Comparable"), (84, .class_ 366), (0, u "java/nio/charset/Charset$ExtendedProviderHolder$1")] 3

/-- java/nio/charset/Charset -/
def k14 : Class := { plain "java/nio/charset/Charset" (some 0) with
  accessFlags := 1057
  interfaces := #[3]
  cf := some (fileOf pool14 18 #[.nestMembers #[71, 365, 34, 135, 58, 28]] #[] 1057 26 #[279] #[{ accessFlags := 26, nameIndex := 96, descriptorIndex := 97, attributes := #[] }, { accessFlags := 26, nameIndex := 158, descriptorIndex := 159, attributes := #[] }, { accessFlags := 74, nameIndex := 21, descriptorIndex := 22, attributes := #[] }, { accessFlags := 74, nameIndex := 25, descriptorIndex := 22, attributes := #[] }, { accessFlags := 10, nameIndex := 142, descriptorIndex := 143, attributes := #[] }, { accessFlags := 18, nameIndex := 127, descriptorIndex := 189, attributes := #[] }, { accessFlags := 18, nameIndex := 192, descriptorIndex := 159, attributes := #[] }, { accessFlags := 2, nameIndex := 195, descriptorIndex := 196, attributes := #[] }])
  fields := #[{ name := "standardProvider", type := (.object "java/nio/charset/spi/CharsetProvider"), accessFlags := 26, slot := 0, constantValue := 0 }, { name := "zeroAliases", type := (.array (.object "java/lang/String")), accessFlags := 26, slot := 1, constantValue := 0 }, { name := "cache1", type := (.array (.object "java/lang/Object")), accessFlags := 74, slot := 2, constantValue := 0 }, { name := "cache2", type := (.array (.object "java/lang/Object")), accessFlags := 74, slot := 3, constantValue := 0 }, { name := "defaultCharset", type := (.object "java/nio/charset/Charset"), accessFlags := 10, slot := 4, constantValue := 0 }, { name := "name", type := (.object "java/lang/String"), accessFlags := 18, slot := 0, constantValue := 0 }, { name := "aliases", type := (.array (.object "java/lang/String")), accessFlags := 18, slot := 1, constantValue := 0 }, { name := "aliasSet", type := (.object "java/util/Set"), accessFlags := 2, slot := 2, constantValue := 0 }]
  methods := #[]
  instanceTypes := #[(.object "java/lang/String"), (.array (.object "java/lang/String")), (.object "java/util/Set")]
  staticTypes := #[(.object "java/nio/charset/spi/CharsetProvider"), (.array (.object "java/lang/String")), (.array (.object "java/lang/Object")), (.array (.object "java/lang/Object")), (.object "java/nio/charset/Charset")]
  resolved := Array.replicate 370 none
  statics := none }

def pool15 : Array CpInfo := pool [(1, .class_ 2), (0, u "sun/nio/cs/HistoricallyNamedCharset"), (0, .class_ 4), (0, u "java/lang/Object")] 4

/-- sun/nio/cs/HistoricallyNamedCharset -/
def k15 : Class := { plain "sun/nio/cs/HistoricallyNamedCharset" (some 0) with
  accessFlags := 1537
  interfaces := #[]
  cf := some (fileOf pool15 1 #[] #[] 1537 3 #[] #[])
  fields := #[]
  methods := #[]
  instanceTypes := #[]
  staticTypes := #[]
  resolved := Array.replicate 9 none
  statics := none }

def pool16 : Array CpInfo := pool [(2, .class_ 4), (1, u "java/nio/charset/Charset"), (130, .class_ 136), (0, u "sun/nio/cs/Unicode"), (0, .class_ 138), (0, u "sun/nio/cs/HistoricallyNamedCharset")] 15

/-- sun/nio/cs/Unicode -/
def k16 : Class := { plain "sun/nio/cs/Unicode" (some 14) with
  accessFlags := 1056
  interfaces := #[15]
  cf := some (fileOf pool16 135 #[] #[] 1056 2 #[137] #[])
  fields := #[]
  methods := #[]
  instanceTypes := #[(.object "java/lang/String"), (.array (.object "java/lang/String")), (.object "java/util/Set")]
  staticTypes := #[]
  resolved := Array.replicate 154 none
  statics := none }

def pool17 : Array CpInfo := pool [(10, .class_ 12), (1, u "sun/nio/cs/Unicode"), (0, u "<init>"), (3, .class_ 18), (0, u "sun/nio/cs/UTF_8$Decoder"), (3, .class_ 23), (0, u "sun/nio/cs/UTF_8$Encoder"), (15, .class_ 40), (0, u "sun/nio/cs/UTF_8"), (2, u "()V"), (2, u "INSTANCE"), (0, u "Lsun/nio/cs/UTF_8;"), (8, u "JLA"), (0, u "Ljdk/internal/access/JavaLangAccess;")] 26

def k17m0 : Method := { name := "<init>", desc := "()V", sig := { parameters := [], returnType := none }, accessFlags := 1, code := none }
/-- sun/nio/cs/UTF_8 -/
def k17 : Class := { plain "sun/nio/cs/UTF_8" (some 16) with
  accessFlags := 49
  interfaces := #[]
  cf := some (fileOf pool17 39 #[.nestMembers #[22, 17]] #[{ accessFlags := 1, nameIndex := 13, descriptorIndex := 43, attributes := #[] }] 49 10 #[] #[{ accessFlags := 25, nameIndex := 46, descriptorIndex := 47, attributes := #[] }, { accessFlags := 26, nameIndex := 56, descriptorIndex := 57, attributes := #[] }])
  fields := #[{ name := "INSTANCE", type := (.object "sun/nio/cs/UTF_8"), accessFlags := 25, slot := 0, constantValue := 0 }, { name := "JLA", type := (.object "jdk/internal/access/JavaLangAccess"), accessFlags := 26, slot := 1, constantValue := 0 }]
  methods := #[k17m0]
  instanceTypes := #[(.object "java/lang/String"), (.array (.object "java/lang/String")), (.object "java/util/Set")]
  staticTypes := #[(.object "sun/nio/cs/UTF_8"), (.object "jdk/internal/access/JavaLangAccess")]
  resolved := Array.replicate 84 none
  statics := some 2 }

def pool18 : Array CpInfo := pool [(2, .class_ 4), (1, u "java/lang/Object"), (0, u "<init>"), (0, u "()V"), (17, .class_ 26), (1, u "jdk/internal/util/Preconditions"), (22, u "checkFromIndexSize"), (5, .class_ 56), (0, u "jdk/internal/util/Preconditions$4"), (57, .class_ 115), (0, u "jdk/internal/util/Preconditions$1"), (7, u "SIOOBE_FORMATTER"), (0, u "Ljava/util/function/BiFunction;"), (0, .class_ 126), (0, u "jdk/internal/util/Preconditions$2"), (3, u "AIOOBE_FORMATTER"), (0, .class_ 132), (0, u "jdk/internal/util/Preconditions$3"), (3, u "IOOBE_FORMATTER"), (46, u "(IIILjava/util/function/BiFunction;)I")] 10

def k18m0 : Method := { name := "<init>", desc := "()V", sig := { parameters := [], returnType := none }, accessFlags := 1, code := none }
def k18c1 : Code := { maxStack := 4, maxLocals := 4, code := jdk_41_method_13_code, exceptionTable := #[], attributes := #[] }
def k18m1 : Method := { name := "checkFromIndexSize", desc := "(IIILjava/util/function/BiFunction;)I", sig := { parameters := [.int, .int, .int, (.object "java/util/function/BiFunction")], returnType := some .int }, accessFlags := 9, code := some k18c1 }
/-- jdk/internal/util/Preconditions -/
def k18 : Class := { plain "jdk/internal/util/Preconditions" (some 0) with
  accessFlags := 33
  interfaces := #[]
  cf := some (fileOf pool18 24 #[.nestMembers #[55, 131, 125, 114]] #[{ accessFlags := 1, nameIndex := 5, descriptorIndex := 6, attributes := #[] }, { accessFlags := 9, nameIndex := 49, descriptorIndex := 183, attributes := #[] }] 33 2 #[] #[{ accessFlags := 25, nameIndex := 123, descriptorIndex := 124, attributes := #[] }, { accessFlags := 25, nameIndex := 130, descriptorIndex := 124, attributes := #[] }, { accessFlags := 25, nameIndex := 136, descriptorIndex := 124, attributes := #[] }])
  fields := #[{ name := "SIOOBE_FORMATTER", type := (.object "java/util/function/BiFunction"), accessFlags := 25, slot := 0, constantValue := 0 }, { name := "AIOOBE_FORMATTER", type := (.object "java/util/function/BiFunction"), accessFlags := 25, slot := 1, constantValue := 0 }, { name := "IOOBE_FORMATTER", type := (.object "java/util/function/BiFunction"), accessFlags := 25, slot := 2, constantValue := 0 }]
  methods := #[k18m0, k18m1]
  instanceTypes := #[]
  staticTypes := #[(.object "java/util/function/BiFunction"), (.object "java/util/function/BiFunction"), (.object "java/util/function/BiFunction")]
  resolved := Array.replicate 194 none
  statics := some 3 }

def pool19 : Array CpInfo := pool [(2, .class_ 4), (1, u "java/lang/Object"), (0, u "<init>"), (0, u "()V"), (1, .class_ 10), (1, u "java/lang/StringCoding"), (0, u "countPositives"), (0, u "([BII)I")] 36

def k19m0 : Method := { name := "<init>", desc := "()V", sig := { parameters := [], returnType := none }, accessFlags := 2, code := none }
def k19c1 : Code := { maxStack := 2, maxLocals := 5, code := jdk_123_method_3_code, exceptionTable := #[], attributes := #[] }
def k19m1 : Method := { name := "countPositives", desc := "([BII)I", sig := { parameters := [(.array .byte), .int, .int], returnType := some .int }, accessFlags := 9, code := some k19c1 }
/-- java/lang/StringCoding -/
def k19 : Class := { plain "java/lang/StringCoding" (some 0) with
  accessFlags := 32
  interfaces := #[]
  cf := some (fileOf pool19 8 #[] #[{ accessFlags := 2, nameIndex := 5, descriptorIndex := 6, attributes := #[] }, { accessFlags := 9, nameIndex := 11, descriptorIndex := 12, attributes := #[] }] 32 2 #[] #[])
  fields := #[]
  methods := #[k19m0, k19m1]
  instanceTypes := #[]
  staticTypes := #[]
  resolved := Array.replicate 49 none
  statics := none }

def pool20 : Array CpInfo := pool [(2, .class_ 4), (1, u "java/lang/Object"), (0, u "<init>"), (0, u "()V"), (7, .class_ 16), (1, u "java/util/Arrays"), (57, .class_ 76), (1, u "java/util/Arrays$NaturalOrder"), (36, .class_ 115), (1, u "java/util/Arrays$LegacyMergeSort"), (1, u "Z"), (21, u "copyOfRange"), (10, .methodref 151 152), (0, .class_ 153), (0, .nameAndType 154 155), (0, u "java/lang/System"), (0, u "arraycopy"), (0, u "(Ljava/lang/Object;ILjava/lang/Object;II)V"), (146, u "copyOf"), (1, .methodref 305 306), (0, .class_ 307), (0, .nameAndType 308 309), (0, u "java/lang/Math"), (0, u "min"), (0, u "(II)I"), (29, .methodref 14 340), (0, .nameAndType 341 342), (0, u "copyOfRangeByte"), (0, u "([BII)[B"), (0, .methodref 14 344), (0, .nameAndType 345 346), (0, u "checkLength"), (0, u "(II)V"), (28, .class_ 376), (0, u "java/util/Arrays$ArrayList"), (68, u "$assertionsDisabled"), (269, u "MIN_ARRAY_SORT_GRAN"), (0, u "I"), (2, u "INSERTIONSORT_THRESHOLD"), (151, u "([II)[I"), (103, .class_ 976), (0, u "java/util/Arrays$ArrayItr")] 52

def k20m0 : Method := { name := "<init>", desc := "()V", sig := { parameters := [], returnType := none }, accessFlags := 2, code := none }
def k20c1 : Code := { maxStack := 6, maxLocals := 3, code := jdk_65_method_123_code, exceptionTable := #[], attributes := #[] }
def k20m1 : Method := { name := "copyOf", desc := "([II)[I", sig := { parameters := [(.array .int), .int], returnType := some (.array .int) }, accessFlags := 9, code := some k20c1 }
def k20c2 : Code := { maxStack := 4, maxLocals := 2, code := jdk_65_method_131_code, exceptionTable := #[], attributes := #[] }
def k20m2 : Method := { name := "checkLength", desc := "(II)V", sig := { parameters := [.int, .int], returnType := none }, accessFlags := 10, code := some k20c2 }
def k20c3 : Code := { maxStack := 3, maxLocals := 3, code := jdk_65_method_132_code, exceptionTable := #[], attributes := #[] }
def k20m3 : Method := { name := "copyOfRange", desc := "([BII)[B", sig := { parameters := [(.array .byte), .int, .int], returnType := some (.array .byte) }, accessFlags := 9, code := some k20c3 }
def k20c4 : Code := { maxStack := 6, maxLocals := 5, code := jdk_65_method_133_code, exceptionTable := #[], attributes := #[] }
def k20m4 : Method := { name := "copyOfRangeByte", desc := "([BII)[B", sig := { parameters := [(.array .byte), .int, .int], returnType := some (.array .byte) }, accessFlags := 10, code := some k20c4 }
/-- java/util/Arrays -/
def k20 : Class := { plain "java/util/Arrays" (some 0) with
  accessFlags := 49
  interfaces := #[]
  cf := some (fileOf pool20 14 #[.nestMembers #[975, 375, 113, 74]] #[{ accessFlags := 2, nameIndex := 5, descriptorIndex := 6, attributes := #[] }, { accessFlags := 9, nameIndex := 302, descriptorIndex := 871, attributes := #[] }, { accessFlags := 10, nameIndex := 345, descriptorIndex := 346, attributes := #[] }, { accessFlags := 9, nameIndex := 139, descriptorIndex := 342, attributes := #[] }, { accessFlags := 10, nameIndex := 341, descriptorIndex := 342, attributes := #[] }] 49 2 #[] #[{ accessFlags := 26, nameIndex := 715, descriptorIndex := 716, attributes := #[] }, { accessFlags := 26, nameIndex := 719, descriptorIndex := 716, attributes := #[] }, { accessFlags := 4120, nameIndex := 445, descriptorIndex := 117, attributes := #[] }])
  fields := #[{ name := "MIN_ARRAY_SORT_GRAN", type := .int, accessFlags := 26, slot := 0, constantValue := 0 }, { name := "INSERTIONSORT_THRESHOLD", type := .int, accessFlags := 26, slot := 1, constantValue := 0 }, { name := "$assertionsDisabled", type := .boolean, accessFlags := 4120, slot := 2, constantValue := 0 }]
  methods := #[k20m0, k20m1, k20m2, k20m3, k20m4]
  instanceTypes := #[]
  staticTypes := #[.int, .int, .boolean]
  resolved := Array.replicate 1029 none
  statics := none }

def pool21 : Array CpInfo := pool [(1, .class_ 2), (0, u "java/lang/Math"), (1, .class_ 6), (1, u "java/lang/Object"), (0, u "<init>"), (0, u "()V"), (89, .class_ 100), (1, u "java/lang/Math$RandomNumberGeneratorHolder"), (71, u "negativeZeroFloatBits"), (0, u "J"), (2, u "negativeZeroDoubleBits"), (24, u "min"), (43, u "$assertionsDisabled"), (0, u "Z"), (88, u "(II)I"), (2, u "twoToTheDoubleScaleDown"), (0, u "D"), (4, u "twoToTheDoubleScaleUp"), (9, u "E"), (3, u "PI"), (2, u "TAU"), (2, u "DEGREES_TO_RADIANS"), (0, u "RADIANS_TO_DEGREES")] 94

def k21m0 : Method := { name := "<init>", desc := "()V", sig := { parameters := [], returnType := none }, accessFlags := 2, code := none }
def k21c1 : Code := { maxStack := 2, maxLocals := 2, code := jdk_29_method_69_code, exceptionTable := #[], attributes := #[] }
def k21m1 : Method := { name := "min", desc := "(II)I", sig := { parameters := [.int, .int], returnType := some .int }, accessFlags := 9, code := some k21c1 }
/-- java/lang/Math -/
def k21 : Class := { plain "java/lang/Math" (some 0) with
  accessFlags := 49
  interfaces := #[]
  cf := some (fileOf pool21 1 #[.nestMembers #[98]] #[{ accessFlags := 2, nameIndex := 7, descriptorIndex := 8, attributes := #[] }, { accessFlags := 9, nameIndex := 201, descriptorIndex := 335, attributes := #[] }] 49 4 #[] #[{ accessFlags := 25, nameIndex := 354, descriptorIndex := 339, attributes := #[] }, { accessFlags := 25, nameIndex := 358, descriptorIndex := 339, attributes := #[] }, { accessFlags := 25, nameIndex := 361, descriptorIndex := 339, attributes := #[] }, { accessFlags := 26, nameIndex := 364, descriptorIndex := 339, attributes := #[] }, { accessFlags := 26, nameIndex := 365, descriptorIndex := 339, attributes := #[] }, { accessFlags := 26, nameIndex := 172, descriptorIndex := 173, attributes := #[] }, { accessFlags := 26, nameIndex := 176, descriptorIndex := 173, attributes := #[] }, { accessFlags := 8, nameIndex := 344, descriptorIndex := 339, attributes := #[] }, { accessFlags := 8, nameIndex := 338, descriptorIndex := 339, attributes := #[] }, { accessFlags := 4120, nameIndex := 245, descriptorIndex := 246, attributes := #[] }])
  fields := #[{ name := "E", type := .double, accessFlags := 25, slot := 0, constantValue := 0 }, { name := "PI", type := .double, accessFlags := 25, slot := 1, constantValue := 0 }, { name := "TAU", type := .double, accessFlags := 25, slot := 2, constantValue := 0 }, { name := "DEGREES_TO_RADIANS", type := .double, accessFlags := 26, slot := 3, constantValue := 0 }, { name := "RADIANS_TO_DEGREES", type := .double, accessFlags := 26, slot := 4, constantValue := 0 }, { name := "negativeZeroFloatBits", type := .long, accessFlags := 26, slot := 5, constantValue := 0 }, { name := "negativeZeroDoubleBits", type := .long, accessFlags := 26, slot := 6, constantValue := 0 }, { name := "twoToTheDoubleScaleUp", type := .double, accessFlags := 8, slot := 7, constantValue := 0 }, { name := "twoToTheDoubleScaleDown", type := .double, accessFlags := 8, slot := 8, constantValue := 0 }, { name := "$assertionsDisabled", type := .boolean, accessFlags := 4120, slot := 9, constantValue := 0 }]
  methods := #[k21m0, k21m1]
  instanceTypes := #[]
  staticTypes := #[.double, .double, .double, .double, .double, .long, .long, .double, .double, .boolean]
  resolved := Array.replicate 460 none
  statics := none }

def pool22 : Array CpInfo := pool [(2, .class_ 4), (1, u "java/lang/Object"), (0, u "<init>"), (0, u "()V"), (1, .class_ 10), (1, u "java/lang/System"), (0, u "allowSecurityManager"), (0, u "I"), (16, u "cons"), (0, u "Ljava/io/Console;"), (77, .class_ 110), (1, u "java/lang/System$CallersHolder"), (43, u "initialErrStream"), (0, u "Ljava/io/PrintStream;"), (19, u "security"), (0, u "Ljava/lang/SecurityManager;"), (31, .class_ 209), (0, u "java/lang/System$1"), (7, u "props"), (0, u "Ljava/util/Properties;"), (2, u "lineSeparator"), (0, u "Ljava/lang/String;"), (96, .class_ 321), (1, u "java/lang/System$LoggerFinder"), (5, .class_ 328), (0, u "java/lang/System$Logger"), (67, u "err"), (2, u "out"), (91, u "notSupportedJnuEncoding"), (15, u "in"), (17, u "initialIn"), (0, u "Ljava/io/InputStream;"), (35, u "bootLayer"), (0, u "Ljava/lang/ModuleLayer;"), (99, .class_ 664), (0, u "java/lang/System$2"), (9, u "NEVER"), (2, u "MAYBE"), (49, u "arraycopy"), (0, u "(Ljava/lang/Object;ILjava/lang/Object;II)V"), (72, .class_ 802), (0, u "java/lang/System$Logger$Level")] 31

def k22m0 : Method := { name := "<init>", desc := "()V", sig := { parameters := [], returnType := none }, accessFlags := 2, code := none }
def k22m1 : Method := { name := "arraycopy", desc := "(Ljava/lang/Object;ILjava/lang/Object;II)V", sig := { parameters := [(.object "java/lang/Object"), .int, (.object "java/lang/Object"), .int, .int], returnType := none }, accessFlags := 265, code := none }
/-- java/lang/System -/
def k22 : Class := { plain "java/lang/System" (some 0) with
  accessFlags := 49
  interfaces := #[]
  cf := some (fileOf pool22 8 #[.nestMembers #[319, 327, 801, 108, 663, 208]] #[{ accessFlags := 2, nameIndex := 5, descriptorIndex := 6, attributes := #[] }, { accessFlags := 265, nameIndex := 727, descriptorIndex := 728, attributes := #[] }] 49 2 #[] #[{ accessFlags := 25, nameIndex := 507, descriptorIndex := 526, attributes := #[] }, { accessFlags := 25, nameIndex := 399, descriptorIndex := 155, attributes := #[] }, { accessFlags := 25, nameIndex := 396, descriptorIndex := 155, attributes := #[] }, { accessFlags := 10, nameIndex := 525, descriptorIndex := 526, attributes := #[] }, { accessFlags := 26, nameIndex := 674, descriptorIndex := 12, attributes := #[] }, { accessFlags := 26, nameIndex := 677, descriptorIndex := 12, attributes := #[] }, { accessFlags := 10, nameIndex := 11, descriptorIndex := 12, attributes := #[] }, { accessFlags := 74, nameIndex := 175, descriptorIndex := 176, attributes := #[] }, { accessFlags := 10, nameIndex := 491, descriptorIndex := 222, attributes := #[] }, { accessFlags := 74, nameIndex := 29, descriptorIndex := 30, attributes := #[] }, { accessFlags := 74, nameIndex := 154, descriptorIndex := 155, attributes := #[] }, { accessFlags := 10, nameIndex := 217, descriptorIndex := 218, attributes := #[] }, { accessFlags := 10, nameIndex := 221, descriptorIndex := 222, attributes := #[] }, { accessFlags := 8, nameIndex := 562, descriptorIndex := 563, attributes := #[] }])
  fields := #[{ name := "in", type := (.object "java/io/InputStream"), accessFlags := 25, slot := 0, constantValue := 0 }, { name := "out", type := (.object "java/io/PrintStream"), accessFlags := 25, slot := 1, constantValue := 0 }, { name := "err", type := (.object "java/io/PrintStream"), accessFlags := 25, slot := 2, constantValue := 0 }, { name := "initialIn", type := (.object "java/io/InputStream"), accessFlags := 10, slot := 3, constantValue := 0 }, { name := "NEVER", type := .int, accessFlags := 26, slot := 4, constantValue := 0 }, { name := "MAYBE", type := .int, accessFlags := 26, slot := 5, constantValue := 0 }, { name := "allowSecurityManager", type := .int, accessFlags := 10, slot := 6, constantValue := 0 }, { name := "security", type := (.object "java/lang/SecurityManager"), accessFlags := 74, slot := 7, constantValue := 0 }, { name := "notSupportedJnuEncoding", type := (.object "java/lang/String"), accessFlags := 10, slot := 8, constantValue := 0 }, { name := "cons", type := (.object "java/io/Console"), accessFlags := 74, slot := 9, constantValue := 0 }, { name := "initialErrStream", type := (.object "java/io/PrintStream"), accessFlags := 74, slot := 10, constantValue := 0 }, { name := "props", type := (.object "java/util/Properties"), accessFlags := 10, slot := 11, constantValue := 0 }, { name := "lineSeparator", type := (.object "java/lang/String"), accessFlags := 10, slot := 12, constantValue := 0 }, { name := "bootLayer", type := (.object "java/lang/ModuleLayer"), accessFlags := 8, slot := 13, constantValue := 0 }]
  methods := #[k22m0, k22m1]
  instanceTypes := #[]
  staticTypes := #[(.object "java/io/InputStream"), (.object "java/io/PrintStream"), (.object "java/io/PrintStream"), (.object "java/io/InputStream"), .int, .int, .int, (.object "java/lang/SecurityManager"), (.object "java/lang/String"), (.object "java/io/Console"), (.object "java/io/PrintStream"), (.object "java/util/Properties"), (.object "java/lang/String"), (.object "java/lang/ModuleLayer")]
  resolved := Array.replicate 834 none
  statics := none }

def pool23 : Array CpInfo := pool [(4, .class_ 6), (1, u "java/lang/Object"), (0, u "<init>"), (0, u "()V"), (5, .class_ 16), (1, u "java/lang/StringLatin1"), (104, u "$assertionsDisabled"), (0, u "Z"), (98, .class_ 223), (1, u "java/lang/StringLatin1$LinesSpliterator"), (57, u "equals"), (0, u "([B[B)Z"), (107, .class_ 391), (0, u "java/lang/StringLatin1$CharsSpliterator")] 3

def k23m0 : Method := { name := "<init>", desc := "()V", sig := { parameters := [], returnType := none }, accessFlags := 0, code := none }
def k23c1 : Code := { maxStack := 3, maxLocals := 3, code := jdk_43_method_13_code, exceptionTable := #[], attributes := #[] }
def k23m1 : Method := { name := "equals", desc := "([B[B)Z", sig := { parameters := [(.array .byte), (.array .byte)], returnType := some .boolean }, accessFlags := 9, code := some k23c1 }
/-- java/lang/StringLatin1 -/
def k23 : Class := { plain "java/lang/StringLatin1" (some 0) with
  accessFlags := 48
  interfaces := #[]
  cf := some (fileOf pool23 14 #[.nestMembers #[390, 221]] #[{ accessFlags := 0, nameIndex := 7, descriptorIndex := 8, attributes := #[] }, { accessFlags := 9, nameIndex := 281, descriptorIndex := 282, attributes := #[] }] 48 4 #[] #[{ accessFlags := 4120, nameIndex := 121, descriptorIndex := 122, attributes := #[] }])
  fields := #[{ name := "$assertionsDisabled", type := .boolean, accessFlags := 4120, slot := 0, constantValue := 0 }]
  methods := #[k23m0, k23m1]
  instanceTypes := #[]
  staticTypes := #[.boolean]
  resolved := Array.replicate 395 none
  statics := none }

def pool24 : Array CpInfo := pool [(9, u "<init>"), (6, .class_ 18), (1, u "java/lang/Object"), (0, u "()V"), (1, .class_ 23), (1, u "jdk/internal/util/ArraysSupport"), (0, u "LOG2_ARRAY_LONG_INDEX_SCALE"), (0, u "I"), (2, u "U"), (0, u "Ljdk/internal/misc/Unsafe;"), (8, u "BIG_ENDIAN"), (0, u "Z"), (8, u "LOG2_BYTE_BIT_SIZE"), (4, u "LOG2_ARRAY_INT_INDEX_SCALE"), (54, u "JLA"), (0, u "Ljdk/internal/access/JavaLangAccess;"), (11, u "LOG2_ARRAY_BOOLEAN_INDEX_SCALE"), (9, u "LOG2_ARRAY_BYTE_INDEX_SCALE"), (5, u "LOG2_ARRAY_CHAR_INDEX_SCALE"), (5, u "LOG2_ARRAY_SHORT_INDEX_SCALE"), (18, u "LOG2_ARRAY_FLOAT_INDEX_SCALE"), (24, u "LOG2_ARRAY_DOUBLE_INDEX_SCALE"), (89, u "T_BOOLEAN"), (2, u "T_CHAR"), (1, u "T_FLOAT"), (1, u "T_DOUBLE"), (1, u "T_BYTE"), (1, u "T_SHORT"), (1, u "T_INT"), (1, u "T_LONG"), (1, u "SOFT_MAX_ARRAY_LENGTH")] 83

def k24m0 : Method := { name := "<init>", desc := "()V", sig := { parameters := [], returnType := none }, accessFlags := 2, code := none }
/-- jdk/internal/util/ArraysSupport -/
def k24 : Class := { plain "jdk/internal/util/ArraysSupport" (some 0) with
  accessFlags := 33
  interfaces := #[]
  cf := some (fileOf pool24 21 #[] #[{ accessFlags := 2, nameIndex := 9, descriptorIndex := 19, attributes := #[] }] 33 16 #[] #[{ accessFlags := 24, nameIndex := 28, descriptorIndex := 29, attributes := #[] }, { accessFlags := 26, nameIndex := 38, descriptorIndex := 39, attributes := #[] }, { accessFlags := 25, nameIndex := 121, descriptorIndex := 25, attributes := #[] }, { accessFlags := 25, nameIndex := 131, descriptorIndex := 25, attributes := #[] }, { accessFlags := 25, nameIndex := 137, descriptorIndex := 25, attributes := #[] }, { accessFlags := 25, nameIndex := 143, descriptorIndex := 25, attributes := #[] }, { accessFlags := 25, nameIndex := 53, descriptorIndex := 25, attributes := #[] }, { accessFlags := 25, nameIndex := 24, descriptorIndex := 25, attributes := #[] }, { accessFlags := 25, nameIndex := 162, descriptorIndex := 25, attributes := #[] }, { accessFlags := 25, nameIndex := 187, descriptorIndex := 25, attributes := #[] }, { accessFlags := 26, nameIndex := 48, descriptorIndex := 25, attributes := #[] }, { accessFlags := 25, nameIndex := 277, descriptorIndex := 25, attributes := #[] }, { accessFlags := 25, nameIndex := 280, descriptorIndex := 25, attributes := #[] }, { accessFlags := 25, nameIndex := 282, descriptorIndex := 25, attributes := #[] }, { accessFlags := 25, nameIndex := 284, descriptorIndex := 25, attributes := #[] }, { accessFlags := 25, nameIndex := 286, descriptorIndex := 25, attributes := #[] }, { accessFlags := 25, nameIndex := 288, descriptorIndex := 25, attributes := #[] }, { accessFlags := 25, nameIndex := 290, descriptorIndex := 25, attributes := #[] }, { accessFlags := 25, nameIndex := 292, descriptorIndex := 25, attributes := #[] }, { accessFlags := 26, nameIndex := 108, descriptorIndex := 109, attributes := #[] }, { accessFlags := 25, nameIndex := 294, descriptorIndex := 25, attributes := #[] }])
  fields := #[{ name := "U", type := (.object "jdk/internal/misc/Unsafe"), accessFlags := 24, slot := 0, constantValue := 0 }, { name := "BIG_ENDIAN", type := .boolean, accessFlags := 26, slot := 1, constantValue := 0 }, { name := "LOG2_ARRAY_BOOLEAN_INDEX_SCALE", type := .int, accessFlags := 25, slot := 2, constantValue := 0 }, { name := "LOG2_ARRAY_BYTE_INDEX_SCALE", type := .int, accessFlags := 25, slot := 3, constantValue := 0 }, { name := "LOG2_ARRAY_CHAR_INDEX_SCALE", type := .int, accessFlags := 25, slot := 4, constantValue := 0 }, { name := "LOG2_ARRAY_SHORT_INDEX_SCALE", type := .int, accessFlags := 25, slot := 5, constantValue := 0 }, { name := "LOG2_ARRAY_INT_INDEX_SCALE", type := .int, accessFlags := 25, slot := 6, constantValue := 0 }, { name := "LOG2_ARRAY_LONG_INDEX_SCALE", type := .int, accessFlags := 25, slot := 7, constantValue := 0 }, { name := "LOG2_ARRAY_FLOAT_INDEX_SCALE", type := .int, accessFlags := 25, slot := 8, constantValue := 0 }, { name := "LOG2_ARRAY_DOUBLE_INDEX_SCALE", type := .int, accessFlags := 25, slot := 9, constantValue := 0 }, { name := "LOG2_BYTE_BIT_SIZE", type := .int, accessFlags := 26, slot := 10, constantValue := 0 }, { name := "T_BOOLEAN", type := .int, accessFlags := 25, slot := 11, constantValue := 0 }, { name := "T_CHAR", type := .int, accessFlags := 25, slot := 12, constantValue := 0 }, { name := "T_FLOAT", type := .int, accessFlags := 25, slot := 13, constantValue := 0 }, { name := "T_DOUBLE", type := .int, accessFlags := 25, slot := 14, constantValue := 0 }, { name := "T_BYTE", type := .int, accessFlags := 25, slot := 15, constantValue := 0 }, { name := "T_SHORT", type := .int, accessFlags := 25, slot := 16, constantValue := 0 }, { name := "T_INT", type := .int, accessFlags := 25, slot := 17, constantValue := 0 }, { name := "T_LONG", type := .int, accessFlags := 25, slot := 18, constantValue := 0 }, { name := "JLA", type := (.object "jdk/internal/access/JavaLangAccess"), accessFlags := 26, slot := 19, constantValue := 0 }, { name := "SOFT_MAX_ARRAY_LENGTH", type := .int, accessFlags := 25, slot := 20, constantValue := 0 }]
  methods := #[k24m0]
  instanceTypes := #[]
  staticTypes := #[(.object "jdk/internal/misc/Unsafe"), .boolean, .int, .int, .int, .int, .int, .int, .int, .int, .int, .int, .int, .int, .int, .int, .int, .int, .int, (.object "jdk/internal/access/JavaLangAccess"), .int]
  resolved := Array.replicate 378 none
  statics := none }

def pool25 : Array CpInfo := pool [(1, u "java/lang/Cloneable"), (0, .class_ 1), (0, u "java/lang/Object"), (0, .class_ 3)] 3

/-- java/lang/Cloneable -/
def k25 : Class := { plain "java/lang/Cloneable" (some 0) with
  accessFlags := 1537
  interfaces := #[]
  cf := some (fileOf pool25 2 #[] #[] 1537 4 #[] #[])
  fields := #[]
  methods := #[]
  instanceTypes := #[]
  staticTypes := #[]
  resolved := Array.replicate 8 none
  statics := none }

/-- the primitive byte -/
def k26 : Class := { plain "byte" none with kind := .primitive 'B', accessFlags := 0x411 }
/-- [B -/
def k27 : Class := { plain "[B" (some 0) with kind := .array 26 .byte, interfaces := #[25, 2], accessFlags := 1041 }

/-- the primitive char -/
def k28 : Class := { plain "char" none with kind := .primitive 'C', accessFlags := 0x411 }
/-- [C -/
def k29 : Class := { plain "[C" (some 0) with kind := .array 28 .char, interfaces := #[25, 2], accessFlags := 1041 }

/-- the primitive int -/
def k30 : Class := { plain "int" none with kind := .primitive 'I', accessFlags := 0x411 }
/-- [I -/
def k31 : Class := { plain "[I" (some 0) with kind := .array 30 .int, interfaces := #[25, 2], accessFlags := 1041 }

/-- [Ljava/lang/String; -/
def k32 : Class := { plain "[Ljava/lang/String;" (some 0) with kind := .array 7 (.object "java/lang/String"), interfaces := #[25, 2], accessFlags := 1041 }

def heap : Heap := #[{ cls := 7, slots := #[.long 0, .int 1, .null, .int 0, .null, .int 0, .int 0], vm := .statics 7 },
  { cls := 12, slots := #[.null, .null, .ref 4, .null, .null, .null], vm := .statics 12 },
  { cls := 17, slots := #[.ref 4, .null], vm := .statics 17 },
  { cls := 18, slots := #[.null, .null, .null], vm := .statics 18 },
  { cls := 17, slots := #[.null, .null, .null], vm := .none }]
def classes : Array Class := #[k0, k1, k2, k3, k4, k5, k6, k7, k8, k9, k10, k11, k12, k13, k14, k15, k16, k17, k18, k19, k20, k21, k22, k23, k24, k25, k26, k27, k28, k29, k30, k31, k32]
def interned : List (Array UInt16 × Addr) := []
def slotsUsed : Nat := 21
def theMethod : MethodId := ⟨1, 1⟩
def args0 : Array Value := #[.int 5, .int 7, .int 3, .int 9]
def aboutOver (below : List Frame) : State where
  vm := { classes := classes, interned := interned.toArray }
  heap := heap
  slotsUsed := slotsUsed
  threads := #[{ frames := .invoking theMethod args0 :: below }]
def below0 : List Frame := [.native { method := ⟨0, 0⟩, args := #[] }]
def about1 : State := aboutOver below0
def p0 : Program := .bare "" "" ""
def e0 : Env := launch0.env 0 0 0
theorem w_frames : about1.frames = Frame.invoking theMethod args0 :: below0 := rfl
set_option maxRecDepth 65536 in
theorem w_args : argsFit about1.vm theMethod args0 = true := by decide +kernel
set_option maxRecDepth 65536 in
theorem w_heap : heapFits about1 = true := by decide +kernel
set_option maxRecDepth 65536 in
theorem w_runnable : about1.curStatus? = some .runnable := by decide +kernel
set_option maxRecDepth 65536 in
theorem w_alone : about1.alone = true := by decide +kernel
set_option maxRecDepth 65536 in
theorem w_named : about1.methodNamed? x = some theMethod := by decide +kernel
set_option maxRecDepth 65536 in
theorem w_hears : about1.hears theMethod below0 = true := by decide +kernel
set_option maxRecDepth 65536 in
theorem w_ripe : about1.ripe theMethod args0 below0 = true := by decide +kernel
theorem w_running : about1.status = .running := rfl
set_option maxRecDepth 65536 in
theorem w_room : about1.hasRoom e0.platform room_1 = true :=
  launch0.hasRoom_least _ room_1 (by decide +kernel) (by decide +kernel) (by decide +kernel) (by decide +kernel) (by decide +kernel) (by decide +kernel)
theorem allAtoms_all (ts : List Jvm.Cond) (a : Array Jvm.Value) (st : Jvm.State) : (allAtoms ts).before a st = ts.all (fun c => c.before a st) := by
  induction ts with
  | nil => rfl
  | cons c t ih =>
    show (Jvm.Cond.and c (allAtoms t)).before a st = _
    rw [Jvm.Cond.before_and, ih, List.all_cons]
def words1 : List Jvm.Cond := Jvm.Cond.code x code maxLocals ret :: tables_1
/-- a 'code' word, met by the world's own term for the bytes: nothing is compared byte by byte -/
theorem code_word {y : MethodName} {bytes : ByteArray} {mx : Nat} {rt : Option FieldType} {a : Array Value} {s : State} {m : MethodId} {meth : Method} {c : Code} (h1 : s.methodNamed? y = some m) (h2 : s.vm.method? m = some meth) (h3 : meth.code = some c) (h4 : c.code = bytes)
    (h5 : (c.maxLocals == mx && c.exceptionTable.isEmpty && decide (c.maxStack ≤ mostOperands) && decide (meth.sig.returnType = rt) && !meth.locks && decide (parseMethodDescriptor y.desc = some meth.sig)) = true) : (Jvm.Cond.code y bytes mx rt).before a s = true := by
  simp only [Bool.and_eq_true, beq_iff_eq, Bool.not_eq_true', decide_eq_true_eq] at h5
  obtain ⟨⟨⟨⟨⟨g1, g2⟩, g3⟩, g4⟩, g5⟩, g6⟩ := h5
  simp [Cond.before, Cond.holds, Cond.value, h1, h2, h3, h4, g1, g2, g3, g4, g5, g6]
theorem codeWith_word {y : MethodName} {bytes : ByteArray} {mx : Nat} {rt : Option FieldType} {hs : List (Nat × Nat × Nat × Nat)} {a : Array Value} {s : State} {m : MethodId} {meth : Method} {c : Code} (h1 : s.methodNamed? y = some m) (h2 : s.vm.method? m = some meth) (h3 : meth.code = some c) (h4 : c.code = bytes) (h0 : c.exceptionTable.toList.map (fun h => (h.startPc, h.endPc, h.handlerPc, h.catchType)) = hs)
    (h5 : (c.maxLocals == mx && decide (c.maxStack ≤ mostOperands) && decide (meth.sig.returnType = rt) && !meth.locks && decide (parseMethodDescriptor y.desc = some meth.sig)) = true) : (Jvm.Cond.codeWith y bytes mx rt hs).before a s = true := by
  simp only [Bool.and_eq_true, beq_iff_eq, Bool.not_eq_true', decide_eq_true_eq] at h5
  obtain ⟨⟨⟨⟨g1, g3⟩, g4⟩, g5⟩, g6⟩ := h5
  simp [Cond.before, Cond.holds, Cond.value, h1, h2, h3, h4, h0, g1, g3, g4, g5, g6]
def isCode : Jvm.Cond → Bool
  | .code _ _ _ _ => true
  | .codeWith _ _ _ _ _ => true
  | _ => false
theorem all_split {L : List Jvm.Cond} {P : Jvm.Cond → Bool} (h1 : L.all (fun c => isCode c || P c) = true) (h2 : ∀ c ∈ L.filter isCode, P c = true) : L.all P = true := by
  refine List.all_eq_true.mpr fun c hc => ?_
  have h := List.all_eq_true.mp h1 c hc
  rcases Bool.eq_false_or_eq_true (isCode c) with hi | hi
  · exact h2 c (List.mem_filter.mpr ⟨hc, hi⟩)
  · simpa [hi] using h
set_option maxRecDepth 65536 in
theorem w_c0 : (Jvm.Cond.code x code maxLocals ret).before args0 about1 = true := code_word (m := ⟨1, 1⟩) (meth := k1m1) (c := k1c1) (by decide +kernel) rfl rfl rfl (by decide +kernel)
set_option maxRecDepth 65536 in
theorem w_c1 : (Jvm.Cond.code ({ cls := "java/lang/String", name := "<init>", desc := "([C)V" } : Jvm.MethodName) jdk_42_method_3_code (2 : Nat) (Option.none : Option Jvm.ClassFile.FieldType)).before args0 about1 = true := code_word (m := ⟨7, 1⟩) (meth := k7m1) (c := k7c1) (by decide +kernel) rfl rfl rfl (by decide +kernel)
set_option maxRecDepth 65536 in
theorem w_c2 : (Jvm.Cond.code ({ cls := "java/lang/String", name := "<init>", desc := "([CIILjava/lang/Void;)V" } : Jvm.MethodName) jdk_42_method_149_code (6 : Nat) (Option.none : Option Jvm.ClassFile.FieldType)).before args0 about1 = true := code_word (m := ⟨7, 5⟩) (meth := k7m5) (c := k7c5) (by decide +kernel) rfl rfl rfl (by decide +kernel)
set_option maxRecDepth 65536 in
theorem w_c3 : (Jvm.Cond.code ({ cls := "java/lang/Object", name := "<init>", desc := "()V" } : Jvm.MethodName) object_method_1_code (1 : Nat) (Option.none : Option Jvm.ClassFile.FieldType)).before args0 about1 = true := code_word (m := ⟨0, 0⟩) (meth := k0m0) (c := k0c0) (by decide +kernel) rfl rfl rfl (by decide +kernel)
set_option maxRecDepth 65536 in
theorem w_c4 : (Jvm.Cond.code ({ cls := "java/lang/StringUTF16", name := "compress", desc := "([CII)[B" } : Jvm.MethodName) jdk_52_method_16_code (6 : Nat) (Option.some (Jvm.ClassFile.FieldType.array Jvm.ClassFile.FieldType.byte))).before args0 about1 = true := code_word (m := ⟨8, 2⟩) (meth := k8m2) (c := k8c2) (by decide +kernel) rfl rfl rfl (by decide +kernel)
set_option maxRecDepth 65536 in
theorem w_c5 : (Jvm.Cond.code ({ cls := "java/lang/StringUTF16", name := "compress", desc := "([CI[BII)I" } : Jvm.MethodName) jdk_52_method_21_code (7 : Nat) (Option.some Jvm.ClassFile.FieldType.int)).before args0 about1 = true := code_word (m := ⟨8, 3⟩) (meth := k8m3) (c := k8c3) (by decide +kernel) rfl rfl rfl (by decide +kernel)
set_option maxRecDepth 65536 in
theorem w_c6 : (Jvm.Cond.code ({ cls := "java/lang/StringUTF16", name := "coderFromArrayLen", desc := "([BI)B" } : Jvm.MethodName) jdk_52_method_15_code (2 : Nat) (Option.some Jvm.ClassFile.FieldType.byte)).before args0 about1 = true := code_word (m := ⟨8, 1⟩) (meth := k8m1) (c := k8c1) (by decide +kernel) rfl rfl rfl (by decide +kernel)
set_option maxRecDepth 65536 in
theorem w_c7 : (Jvm.Cond.code ({ cls := "com/example/pathlattice/pathlattice/graph/Strings", name := "<init>", desc := "([I[B)V" } : Jvm.MethodName) prog_28_method_1_code (4 : Nat) (Option.none : Option Jvm.ClassFile.FieldType)).before args0 about1 = true := code_word (m := ⟨9, 0⟩) (meth := k9m0) (c := k9c0) (by decide +kernel) rfl rfl rfl (by decide +kernel)
set_option maxRecDepth 65536 in
theorem w_c8 : (Jvm.Cond.code ({ cls := "com/example/pathlattice/pathlattice/graph/Graph", name := "require", desc := "(ZLjava/lang/String;)V" } : Jvm.MethodName) prog_20_method_3_code (2 : Nat) (Option.none : Option Jvm.ClassFile.FieldType)).before args0 about1 = true := code_word (m := ⟨10, 0⟩) (meth := k10m0) (c := k10c0) (by decide +kernel) rfl rfl rfl (by decide +kernel)
set_option maxRecDepth 65536 in
theorem w_c9 : (Jvm.Cond.code ({ cls := "com/example/pathlattice/pathlattice/graph/Edges", name := "<init>", desc := "([I[I[IILcom/example/pathlattice/pathlattice/graph/Strings;)V" } : Jvm.MethodName) prog_18_method_1_code (7 : Nat) (Option.none : Option Jvm.ClassFile.FieldType)).before args0 about1 = true := code_word (m := ⟨11, 0⟩) (meth := k11m0) (c := k11c0) (by decide +kernel) rfl rfl rfl (by decide +kernel)
set_option maxRecDepth 65536 in
theorem w_c10 : (Jvm.Cond.code ({ cls := "com/example/pathlattice/pathlattice/graph/Strings", name := "count", desc := "()I" } : Jvm.MethodName) prog_28_method_6_code (1 : Nat) (Option.some Jvm.ClassFile.FieldType.int)).before args0 about1 = true := code_word (m := ⟨9, 1⟩) (meth := k9m1) (c := k9c1) (by decide +kernel) rfl rfl rfl (by decide +kernel)
set_option maxRecDepth 65536 in
theorem w_c11 : (Jvm.Cond.code ({ cls := "com/example/pathlattice/pathlattice/graph/Strings", name := "get", desc := "(I)Ljava/lang/String;" } : Jvm.MethodName) prog_28_method_7_code (2 : Nat) (Option.some (Jvm.ClassFile.FieldType.object "java/lang/String"))).before args0 about1 = true := code_word (m := ⟨9, 2⟩) (meth := k9m2) (c := k9c2) (by decide +kernel) rfl rfl rfl (by decide +kernel)
set_option maxRecDepth 65536 in
theorem w_c12 : (Jvm.Cond.code ({ cls := "java/lang/String", name := "<init>", desc := "([BIILjava/nio/charset/Charset;)V" } : Jvm.MethodName) jdk_42_method_10_code (5 : Nat) (Option.none : Option Jvm.ClassFile.FieldType)).before args0 about1 = true := code_word (m := ⟨7, 2⟩) (meth := k7m2) (c := k7c2) (by decide +kernel) rfl rfl rfl (by decide +kernel)
set_option maxRecDepth 65536 in
theorem w_c13 : (Jvm.Cond.code ({ cls := "java/util/Objects", name := "requireNonNull", desc := "(Ljava/lang/Object;)Ljava/lang/Object;" } : Jvm.MethodName) jdk_31_method_10_code (1 : Nat) (Option.some (Jvm.ClassFile.FieldType.object "java/lang/Object"))).before args0 about1 = true := code_word (m := ⟨13, 1⟩) (meth := k13m1) (c := k13c1) (by decide +kernel) rfl rfl rfl (by decide +kernel)
set_option maxRecDepth 65536 in
theorem w_c14 : (Jvm.Cond.code ({ cls := "java/lang/String", name := "checkBoundsOffCount", desc := "(III)I" } : Jvm.MethodName) jdk_42_method_157_code (3 : Nat) (Option.some Jvm.ClassFile.FieldType.int)).before args0 about1 = true := code_word (m := ⟨7, 6⟩) (meth := k7m6) (c := k7c6) (by decide +kernel) rfl rfl rfl (by decide +kernel)
set_option maxRecDepth 65536 in
theorem w_c15 : (Jvm.Cond.code ({ cls := "jdk/internal/util/Preconditions", name := "checkFromIndexSize", desc := "(IIILjava/util/function/BiFunction;)I" } : Jvm.MethodName) jdk_41_method_13_code (4 : Nat) (Option.some Jvm.ClassFile.FieldType.int)).before args0 about1 = true := code_word (m := ⟨18, 1⟩) (meth := k18m1) (c := k18c1) (by decide +kernel) rfl rfl rfl (by decide +kernel)
set_option maxRecDepth 65536 in
theorem w_c16 : (Jvm.Cond.code ({ cls := "java/lang/StringCoding", name := "countPositives", desc := "([BII)I" } : Jvm.MethodName) jdk_123_method_3_code (5 : Nat) (Option.some Jvm.ClassFile.FieldType.int)).before args0 about1 = true := code_word (m := ⟨19, 1⟩) (meth := k19m1) (c := k19c1) (by decide +kernel) rfl rfl rfl (by decide +kernel)
set_option maxRecDepth 65536 in
theorem w_c17 : (Jvm.Cond.code ({ cls := "java/util/Arrays", name := "copyOfRange", desc := "([BII)[B" } : Jvm.MethodName) jdk_65_method_132_code (3 : Nat) (Option.some (Jvm.ClassFile.FieldType.array Jvm.ClassFile.FieldType.byte))).before args0 about1 = true := code_word (m := ⟨20, 3⟩) (meth := k20m3) (c := k20c3) (by decide +kernel) rfl rfl rfl (by decide +kernel)
set_option maxRecDepth 65536 in
theorem w_c18 : (Jvm.Cond.code ({ cls := "java/util/Arrays", name := "copyOfRangeByte", desc := "([BII)[B" } : Jvm.MethodName) jdk_65_method_133_code (5 : Nat) (Option.some (Jvm.ClassFile.FieldType.array Jvm.ClassFile.FieldType.byte))).before args0 about1 = true := code_word (m := ⟨20, 4⟩) (meth := k20m4) (c := k20c4) (by decide +kernel) rfl rfl rfl (by decide +kernel)
set_option maxRecDepth 65536 in
theorem w_c19 : (Jvm.Cond.code ({ cls := "java/util/Arrays", name := "checkLength", desc := "(II)V" } : Jvm.MethodName) jdk_65_method_131_code (2 : Nat) (Option.none : Option Jvm.ClassFile.FieldType)).before args0 about1 = true := code_word (m := ⟨20, 2⟩) (meth := k20m2) (c := k20c2) (by decide +kernel) rfl rfl rfl (by decide +kernel)
set_option maxRecDepth 65536 in
theorem w_c20 : (Jvm.Cond.code ({ cls := "java/lang/Math", name := "min", desc := "(II)I" } : Jvm.MethodName) jdk_29_method_69_code (2 : Nat) (Option.some Jvm.ClassFile.FieldType.int)).before args0 about1 = true := code_word (m := ⟨21, 1⟩) (meth := k21m1) (c := k21c1) (by decide +kernel) rfl rfl rfl (by decide +kernel)
set_option maxRecDepth 65536 in
theorem w_c21 : (Jvm.Cond.code ({ cls := "com/example/pathlattice/pathlattice/graph/Edges", name := "group", desc := "([I[I[I)V" } : Jvm.MethodName) prog_18_method_2_code (7 : Nat) (Option.none : Option Jvm.ClassFile.FieldType)).before args0 about1 = true := code_word (m := ⟨11, 1⟩) (meth := k11m1) (c := k11c1) (by decide +kernel) rfl rfl rfl (by decide +kernel)
set_option maxRecDepth 65536 in
theorem w_c22 : (Jvm.Cond.code ({ cls := "java/util/Arrays", name := "copyOf", desc := "([II)[I" } : Jvm.MethodName) jdk_65_method_123_code (3 : Nat) (Option.some (Jvm.ClassFile.FieldType.array Jvm.ClassFile.FieldType.int))).before args0 about1 = true := code_word (m := ⟨20, 1⟩) (meth := k20m1) (c := k20c1) (by decide +kernel) rfl rfl rfl (by decide +kernel)
set_option maxRecDepth 65536 in
theorem w_c23 : (Jvm.Cond.code ({ cls := "com/example/pathlattice/pathlattice/graph/Edges", name := "role", desc := "(I)Ljava/lang/String;" } : Jvm.MethodName) prog_18_method_6_code (2 : Nat) (Option.some (Jvm.ClassFile.FieldType.object "java/lang/String"))).before args0 about1 = true := code_word (m := ⟨11, 2⟩) (meth := k11m2) (c := k11c2) (by decide +kernel) rfl rfl rfl (by decide +kernel)
set_option maxRecDepth 65536 in
theorem w_c24 : (Jvm.Cond.code ({ cls := "java/lang/String", name := "equals", desc := "(Ljava/lang/Object;)Z" } : Jvm.MethodName) jdk_42_method_66_code (3 : Nat) (Option.some Jvm.ClassFile.FieldType.boolean)).before args0 about1 = true := code_word (m := ⟨7, 4⟩) (meth := k7m4) (c := k7c4) (by decide +kernel) rfl rfl rfl (by decide +kernel)
set_option maxRecDepth 65536 in
theorem w_c25 : (Jvm.Cond.code ({ cls := "java/lang/StringLatin1", name := "equals", desc := "([B[B)Z" } : Jvm.MethodName) jdk_43_method_13_code (3 : Nat) (Option.some Jvm.ClassFile.FieldType.boolean)).before args0 about1 = true := code_word (m := ⟨23, 1⟩) (meth := k23m1) (c := k23c1) (by decide +kernel) rfl rfl rfl (by decide +kernel)
set_option maxRecDepth 65536 in
theorem w_cW : (Jvm.Cond.codeWith ({ cls := "java/lang/String", name := "<init>", desc := "(Ljava/nio/charset/Charset;[BII)V" } : Jvm.MethodName) jdk_42_method_11_code (11 : Nat) (Option.none : Option Jvm.ClassFile.FieldType) [((800 : Nat), (813 : Nat), (816 : Nat), (202 : Nat))]).before args0 about1 = true := codeWith_word (m := ⟨7, 3⟩) (meth := k7m3) (c := k7c3) (by decide +kernel) rfl rfl rfl rfl (by decide +kernel)
def codes1 : List Jvm.Cond := [Jvm.Cond.code x code maxLocals ret, Jvm.Cond.code ({ cls := "java/lang/String", name := "<init>", desc := "([C)V" } : Jvm.MethodName) jdk_42_method_3_code (2 : Nat) (Option.none : Option Jvm.ClassFile.FieldType), Jvm.Cond.code ({ cls := "java/lang/String", name := "<init>", desc := "([CIILjava/lang/Void;)V" } : Jvm.MethodName) jdk_42_method_149_code (6 : Nat) (Option.none : Option Jvm.ClassFile.FieldType), Jvm.Cond.code ({ cls := "java/lang/Object", name := "<init>", desc := "()V" } : Jvm.MethodName) object_method_1_code (1 : Nat) (Option.none : Option Jvm.ClassFile.FieldType), Jvm.Cond.code ({ cls := "java/lang/StringUTF16", name := "compress", desc := "([CII)[B" } : Jvm.MethodName) jdk_52_method_16_code (6 : Nat) (Option.some (Jvm.ClassFile.FieldType.array Jvm.ClassFile.FieldType.byte)), Jvm.Cond.code ({ cls := "java/lang/StringUTF16", name := "compress", desc := "([CI[BII)I" } : Jvm.MethodName) jdk_52_method_21_code (7 : Nat) (Option.some Jvm.ClassFile.FieldType.int), Jvm.Cond.code ({ cls := "java/lang/StringUTF16", name := "coderFromArrayLen", desc := "([BI)B" } : Jvm.MethodName) jdk_52_method_15_code (2 : Nat) (Option.some Jvm.ClassFile.FieldType.byte), Jvm.Cond.code ({ cls := "com/example/pathlattice/pathlattice/graph/Strings", name := "<init>", desc := "([I[B)V" } : Jvm.MethodName) prog_28_method_1_code (4 : Nat) (Option.none : Option Jvm.ClassFile.FieldType), Jvm.Cond.code ({ cls := "com/example/pathlattice/pathlattice/graph/Graph", name := "require", desc := "(ZLjava/lang/String;)V" } : Jvm.MethodName) prog_20_method_3_code (2 : Nat) (Option.none : Option Jvm.ClassFile.FieldType), Jvm.Cond.code ({ cls := "com/example/pathlattice/pathlattice/graph/Edges", name := "<init>", desc := "([I[I[IILcom/example/pathlattice/pathlattice/graph/Strings;)V" } : Jvm.MethodName) prog_18_method_1_code (7 : Nat) (Option.none : Option Jvm.ClassFile.FieldType), Jvm.Cond.code ({ cls := "com/example/pathlattice/pathlattice/graph/Strings", name := "count", desc := "()I" } : Jvm.MethodName) prog_28_method_6_code (1 : Nat) (Option.some Jvm.ClassFile.FieldType.int), Jvm.Cond.code ({ cls := "com/example/pathlattice/pathlattice/graph/Strings", name := "get", desc := "(I)Ljava/lang/String;" } : Jvm.MethodName) prog_28_method_7_code (2 : Nat) (Option.some (Jvm.ClassFile.FieldType.object "java/lang/String")), Jvm.Cond.code ({ cls := "java/lang/String", name := "<init>", desc := "([BIILjava/nio/charset/Charset;)V" } : Jvm.MethodName) jdk_42_method_10_code (5 : Nat) (Option.none : Option Jvm.ClassFile.FieldType), Jvm.Cond.code ({ cls := "java/util/Objects", name := "requireNonNull", desc := "(Ljava/lang/Object;)Ljava/lang/Object;" } : Jvm.MethodName) jdk_31_method_10_code (1 : Nat) (Option.some (Jvm.ClassFile.FieldType.object "java/lang/Object")), Jvm.Cond.code ({ cls := "java/lang/String", name := "checkBoundsOffCount", desc := "(III)I" } : Jvm.MethodName) jdk_42_method_157_code (3 : Nat) (Option.some Jvm.ClassFile.FieldType.int), Jvm.Cond.code ({ cls := "jdk/internal/util/Preconditions", name := "checkFromIndexSize", desc := "(IIILjava/util/function/BiFunction;)I" } : Jvm.MethodName) jdk_41_method_13_code (4 : Nat) (Option.some Jvm.ClassFile.FieldType.int), Jvm.Cond.codeWith ({ cls := "java/lang/String", name := "<init>", desc := "(Ljava/nio/charset/Charset;[BII)V" } : Jvm.MethodName) jdk_42_method_11_code (11 : Nat) (Option.none : Option Jvm.ClassFile.FieldType) [((800 : Nat), (813 : Nat), (816 : Nat), (202 : Nat))], Jvm.Cond.code ({ cls := "java/lang/StringCoding", name := "countPositives", desc := "([BII)I" } : Jvm.MethodName) jdk_123_method_3_code (5 : Nat) (Option.some Jvm.ClassFile.FieldType.int), Jvm.Cond.code ({ cls := "java/util/Arrays", name := "copyOfRange", desc := "([BII)[B" } : Jvm.MethodName) jdk_65_method_132_code (3 : Nat) (Option.some (Jvm.ClassFile.FieldType.array Jvm.ClassFile.FieldType.byte)), Jvm.Cond.code ({ cls := "java/util/Arrays", name := "copyOfRangeByte", desc := "([BII)[B" } : Jvm.MethodName) jdk_65_method_133_code (5 : Nat) (Option.some (Jvm.ClassFile.FieldType.array Jvm.ClassFile.FieldType.byte)), Jvm.Cond.code ({ cls := "java/util/Arrays", name := "checkLength", desc := "(II)V" } : Jvm.MethodName) jdk_65_method_131_code (2 : Nat) (Option.none : Option Jvm.ClassFile.FieldType), Jvm.Cond.code ({ cls := "java/lang/Math", name := "min", desc := "(II)I" } : Jvm.MethodName) jdk_29_method_69_code (2 : Nat) (Option.some Jvm.ClassFile.FieldType.int), Jvm.Cond.code ({ cls := "com/example/pathlattice/pathlattice/graph/Edges", name := "group", desc := "([I[I[I)V" } : Jvm.MethodName) prog_18_method_2_code (7 : Nat) (Option.none : Option Jvm.ClassFile.FieldType), Jvm.Cond.code ({ cls := "java/util/Arrays", name := "copyOf", desc := "([II)[I" } : Jvm.MethodName) jdk_65_method_123_code (3 : Nat) (Option.some (Jvm.ClassFile.FieldType.array Jvm.ClassFile.FieldType.int)), Jvm.Cond.code ({ cls := "com/example/pathlattice/pathlattice/graph/Edges", name := "role", desc := "(I)Ljava/lang/String;" } : Jvm.MethodName) prog_18_method_6_code (2 : Nat) (Option.some (Jvm.ClassFile.FieldType.object "java/lang/String")), Jvm.Cond.code ({ cls := "java/lang/String", name := "equals", desc := "(Ljava/lang/Object;)Z" } : Jvm.MethodName) jdk_42_method_66_code (3 : Nat) (Option.some Jvm.ClassFile.FieldType.boolean), Jvm.Cond.code ({ cls := "java/lang/StringLatin1", name := "equals", desc := "([B[B)Z" } : Jvm.MethodName) jdk_43_method_13_code (3 : Nat) (Option.some Jvm.ClassFile.FieldType.boolean)]
set_option maxRecDepth 65536 in
theorem codes_eq : words1.filter isCode = codes1 := rfl
theorem w_codes : ∀ c ∈ words1.filter isCode, c.before args0 about1 = true := by
  rw [codes_eq]
  intro c hc
  simp only [codes1, List.mem_cons, List.not_mem_nil, or_false] at hc
  rcases hc with rfl | rfl | rfl | rfl | rfl | rfl | rfl | rfl | rfl | rfl | rfl | rfl | rfl | rfl | rfl | rfl | rfl | rfl | rfl | rfl | rfl | rfl | rfl | rfl | rfl | rfl | rfl
  · exact w_c0
  · exact w_c1
  · exact w_c2
  · exact w_c3
  · exact w_c4
  · exact w_c5
  · exact w_c6
  · exact w_c7
  · exact w_c8
  · exact w_c9
  · exact w_c10
  · exact w_c11
  · exact w_c12
  · exact w_c13
  · exact w_c14
  · exact w_c15
  · exact w_cW
  · exact w_c16
  · exact w_c17
  · exact w_c18
  · exact w_c19
  · exact w_c20
  · exact w_c21
  · exact w_c22
  · exact w_c23
  · exact w_c24
  · exact w_c25
set_option maxRecDepth 65536 in
theorem w_t1 : (words1.take 24).all (fun c => isCode c || c.before args0 about1) = true := by decide +kernel
set_option maxRecDepth 65536 in
theorem w_t2 : ((words1.drop 24).take 24).all (fun c => isCode c || c.before args0 about1) = true := by decide +kernel
set_option maxRecDepth 65536 in
theorem w_t3 : (((words1.drop 24).drop 24).take 24).all (fun c => isCode c || c.before args0 about1) = true := by decide +kernel
set_option maxRecDepth 65536 in
theorem w_t4 : ((((words1.drop 24).drop 24).drop 24).take 24).all (fun c => isCode c || c.before args0 about1) = true := by decide +kernel
set_option maxRecDepth 65536 in
theorem w_t5 : (((((words1.drop 24).drop 24).drop 24).drop 24).take 24).all (fun c => isCode c || c.before args0 about1) = true := by decide +kernel
set_option maxRecDepth 65536 in
theorem w_t6 : ((((((words1.drop 24).drop 24).drop 24).drop 24).drop 24).take 24).all (fun c => isCode c || c.before args0 about1) = true := by decide +kernel
set_option maxRecDepth 65536 in
theorem w_t7 : ((((((words1.drop 24).drop 24).drop 24).drop 24).drop 24).drop 24).all (fun c => isCode c || c.before args0 about1) = true := by decide +kernel
theorem w_tables : (allAtoms (Jvm.Cond.code x code maxLocals ret :: tables_1)).before args0 about1 = true := by
  rw [allAtoms_all]
  show words1.all (fun c => c.before args0 about1) = true
  refine all_split ?_ w_codes
  rw [← List.take_append_drop 24 words1, List.all_append, w_t1, ← List.take_append_drop 24 (words1.drop 24), List.all_append, w_t2, ← List.take_append_drop 24 ((words1.drop 24).drop 24), List.all_append, w_t3, ← List.take_append_drop 24 (((words1.drop 24).drop 24).drop 24), List.all_append, w_t4, ← List.take_append_drop 24 ((((words1.drop 24).drop 24).drop 24).drop 24), List.all_append, w_t5, ← List.take_append_drop 24 (((((words1.drop 24).drop 24).drop 24).drop 24).drop 24), List.all_append, w_t6, w_t7]
  rfl
set_option maxRecDepth 65536 in
theorem w_rest : rest_1_c.before args0 about1 = true := by decide +kernel
set_option maxRecDepth 65536 in
theorem w_case : (Jvm.Cond.and given_1 narrow_1).before args0 about1 = true := by decide +kernel
set_option maxRecDepth 65536 in
theorem w_consts : constsHeld consts_1 about1 := Jvm.Lit.constsHeldB_iff.mp (by decide +kernel)
theorem w_applies : (headSpec (Jvm.Cond.code x code maxLocals ret :: tables_1) room_1).applies x e0.platform about1 = true :=
  (Spec.applies_iff w_frames).mpr ⟨w_running, w_runnable, w_alone, w_named, w_hears, w_ripe, w_room, w_tables⟩
theorem atStart : AtStart classFile x code maxLocals ret World_1 tables_1 room_1 Calls_1 rest_1 Pre_1 launch0 p0 e0 about1 theMethod args0 below0 :=
  ⟨lists_1, trivial, launch0.admits_env _ _ _, launch0.least_env, fairChoices_fair.cas, fairChoices_fair.clock, w_frames, w_args, w_heap, w_applies, ⟨w_consts, trivial⟩, w_rest, w_case⟩
end start1
theorem witness_1 : WitnessClaimed_1 := ⟨start1.p0, start1.e0, start1.about1, start1.theMethod, start1.args0, start1.below0, start1.atStart⟩
end Jvm.Pilot.@@N@@
