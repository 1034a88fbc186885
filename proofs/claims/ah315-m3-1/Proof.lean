import JvmDerived
import JvmDerived.Pilot.@@N@@Statement
import JvmDerived.Pilot.@@N@@Code
set_option linter.unusedVariables false
set_option linter.unusedSimpArgs false
namespace Jvm.RoadKit
open Sem ClassFile Op Lib Jvm.Stand Jvm.Free Jvm.LawKit
section New
variable {p : Program} {l : Launch} {e : Env} {R : Room} {s : State} {m : MethodId} {args : Array Value} {below : List Frame} {meth : Method} {c : Code} {T : State} {locs : List Loc} {cells slots : Nat}
theorem retI (X : Stand p l e R s m args below meth c T locs cells slots) (hx : p.tables.exec = Jvm.exec) {pc : Nat} {Ls : Array Slot} {z : Int32} {rest : List Value} (hret : meth.sig.returnType = some .int) (hd : decode c.code pc = .ok (.ireturn, 1)) {fs : List Frame}
    (hl : ∀ (f : JFrame) (acts : List Action), f.method = m → f.locked = none → f.entered = [] → (doReturn e (T.setTop f) acts (some (.int z))).1 = T.setFrames fs) : Steps p.tables e below (T.setTop (mkF m pc Ls (.int z :: rest))) (T.setFrames fs) := by
  have hm' : T.vm.method? m = some meth := X.method'
  have hn : narrow .int (.int z) = .int z := rfl
  show Steps p.tables e below (T.setTop { method := m, pc := pc, locals := Ls, stack := _ :: rest, locked := none }) _
  jvm_step X.here [X.here.top, hx, hd, hm', hret, hn]
  first | (intro acts; rw [hl _ acts rfl rfl rfl]) | rw [hl _ _ rfl rfl rfl]
  exact Steps.refl _
end New
end Jvm.RoadKit
namespace Jvm.Pilot.@@N@@
open Jvm Jvm.ClassFile Sem Op Lib Jvm.Free Jvm.Stand Jvm.LawKit Jvm.RoadKit Bundle Jvm.Pilot.@@N@@.Jvm.D
/-! THE WALK's GOAL, AND ONE LAW A STEP (each in the form: where the run goes on, it ends well; so it does from here) -/
def Go (p : Program) (e : Env) (below : List Frame) (K : Outcome → State → Prop) (u : State) : Prop := ∃ s₂ o, Steps p.tables e below u s₂ ∧ s₂.status = .running ∧ Ended s₂ below o ∧ K o s₂
theorem Go.step {p : Program} {e : Env} {below : List Frame} {K : Outcome → State → Prop} {u u' : State} (h : ∀ t, Steps p.tables e below u' t → Steps p.tables e below u t) (g : Go p e below K u') : Go p e below K u := by
  obtain ⟨a, o, h1, h2⟩ := g; exact ⟨a, o, h _ h1, h2⟩
def Ends (s : State) (Q : Option Value → Heap → List Loc → Prop) (kc ks : Nat) (o : Outcome) (U : State) : Prop := ∃ v L, o = .returned v ∧ Q v U.heap L ∧ FrameEnd s o U L kc ks
/-- where the run stands, with all that a step asks -/
def Sx (Z : State) (own : String) (bytes : ByteArray) (ml : Nat) (p : Program) (l : Launch) (e : Env) (R : Room) (s : State) (m : MethodId) (args : Array Value) (below : List Frame) (meth : Method) (c : Code) (T : State) (locs : List Loc) (cells slots : Nat) (h : Heap) : Prop :=
  Stand p l e R s m args below meth c T locs cells slots ∧ p.tables.exec = Jvm.exec ∧ c.code = bytes ∧ c.maxLocals = ml ∧ s.vm.findClass own = some m.cls ∧ Z.Warmed39 s.vm ∧ T.heap = h
/-- what a method owes: called at the heap h0 with these arguments it returns, and Q holds -/
abbrev Rm (l : Launch) (Z : State) (y : MethodName) (bytes : ByteArray) (ml : Nat) (ret : Option FieldType) (ws : List Jvm.Cond) (rm : Room) (as' : Array Value) (h0 : Heap) (Q : Option Value → Heap → List Loc → Prop) : Prop :=
  MetFree l y (head1 (Jvm.Cond.code y bytes ml ret :: ws) rm) (fun a U => a = as' ∧ Z.Warmed39 U.vm ∧ U.heap = h0) (fun _ _ _ _ _ => True) (fun _ U o U' => ∃ v L, o = .returned v ∧ Q v U'.heap L ∧ FrameEnd U o U' L rm.cells rm.slots)
theorem Rm.of {l : Launch} {Z : State} {y : MethodName} {bytes : ByteArray} {ml : Nat} {ret : Option FieldType} {ws : List Jvm.Cond} {rm : Room} {as' : Array Value} {h0 : Heap} {Q : Option Value → Heap → List Loc → Prop} (hpl : plainFor y = true)
    (body : ∀ (p : Program) (e : Env) (s : State) (m : MethodId) (below : List Frame) (meth : Method) (c : Code) (T : State), Sx Z y.cls bytes ml p l e rm s m as' below meth c T [] 0 0 h0 → meth.name = y.name → meth.sig.returnType = ret → meth.locks = false → Go p e below (Ends s Q rm.cells rm.slots) (T.setTop (entryFrame m as' ml))) : Rm l Z y bytes ml ret ws rm as' h0 Q := by
  refine MetFree.of_bodySF hpl hisR ?_
  intro p e s m args below meth c s₁ Bd hml0 hP hK
  obtain ⟨rfl, hZ, hh⟩ := hP
  have X0 : Stand p l e rm s m args below meth c s₁ [] 0 0 := Stand.of_body Bd
  exact body p e s m below meth c s₁ ⟨X0, Bd.exec, Bd.bytes, hml0, findClass_of_methodNamed Bd.named, hZ, by rw [← hh, Bd.state]; rfl⟩ (name_of_methodNamed Bd.named Bd.method).1 Bd.returns (BodyLoose.notSynchronized Bd)
/-- a boolean as an int -/
def b2i (b : Bool) : Int32 := if b then 1 else 0
/-- an array and all that it holds -/
def Av (Z : State) (h : Heap) (a : Addr) (ty : FieldType) (vs : List Value) : Prop := ∃ c : Cell, Arr Z h a c ty ∧ c.slots.toList = vs ∧ vs.length < 2147483648
section Facts
variable {Z : State} {h h' : Heap} {a b : Addr} {ty : FieldType} {vs : List Value} {sl : Nat} {v : Value} {ws : List Addr}
theorem Av.lt (F : Av Z h a ty vs) : a < h.size := by obtain ⟨c, A, -⟩ := F; exact A.lt
theorem Av.ext (F : Av Z h a ty vs) (E : Ext h h') : Av Z h' a ty vs := by obtain ⟨c, A, r⟩ := F; exact ⟨c, A.ext E, r⟩
theorem Av.other (F : Av Z h b ty vs) (W : Wr h h' a sl v) (q : b ≠ a) : Av Z h' b ty vs := by obtain ⟨c, A, r⟩ := F; exact ⟨c, A.other W q, r⟩
theorem Av.keep (F : Av Z h a ty vs) (K : Keep h h' ws) (q : a ∉ ws) : Av Z h' a ty vs := by obtain ⟨c, A, r⟩ := F; exact ⟨c, ⟨K.2.1 a c A.1 q, A.2⟩, r⟩
theorem Av.set (F : Av Z h a ty vs) (W : Wr h h' a sl v) : Av Z h' a ty (vs.set sl v) := by
  obtain ⟨c, A, e, r⟩ := F
  refine ⟨_, A.same W, ?_, by simpa using r⟩
  subst e
  simp [Cell.setSlot]
theorem Av.eq {vs' : List Value} (F : Av Z h a ty vs) (e : vs = vs') : Av Z h a ty vs' := e ▸ F
/-- an array of which the length is known alone -/
def AvN (Z : State) (h : Heap) (a : Addr) (ty : FieldType) (z : Int32) : Prop := ∃ vs, Av Z h a ty vs ∧ vs.length.toInt32 = z
theorem AvN.lt {z : Int32} (F : AvN Z h a ty z) : a < h.size := by obtain ⟨vs, A, -⟩ := F; exact A.lt
theorem AvN.ext {z : Int32} (F : AvN Z h a ty z) (E : Ext h h') : AvN Z h' a ty z := by obtain ⟨vs, A, r⟩ := F; exact ⟨vs, A.ext E, r⟩
theorem AvN.other {z : Int32} (F : AvN Z h b ty z) (W : Wr h h' a sl v) (q : b ≠ a) : AvN Z h' b ty z := by obtain ⟨vs, A, r⟩ := F; exact ⟨vs, A.other W q, r⟩
theorem AvN.keep {z : Int32} (F : AvN Z h a ty z) (K : Keep h h' ws) (q : a ∉ ws) : AvN Z h' a ty z := by obtain ⟨vs, A, r⟩ := F; exact ⟨vs, A.keep K q, r⟩
/-- an array over objects of the class C -/
def OvA (Z : State) (h : Heap) (a : Addr) (C : String) : Prop := ∃ cl : Cell, Arr Z h a cl (.object C) ∧ Ovr Z cl.cls C
theorem OvA.lt {C : String} (F : OvA Z h a C) : a < h.size := by obtain ⟨_, A, _⟩ := F; exact A.lt
theorem OvA.ext {C : String} (F : OvA Z h a C) (E : Ext h h') : OvA Z h' a C := by obtain ⟨cl, A, r⟩ := F; exact ⟨cl, A.ext E, r⟩
theorem OvA.keep {C : String} (F : OvA Z h a C) (K : Keep h h' ws) (q : a ∉ ws) : OvA Z h' a C := by obtain ⟨c, A, r⟩ := F; exact ⟨c, ⟨K.2.1 a c A.1 q, A.2⟩, r⟩
theorem OvA.wr {C : String} (F : OvA Z h a C) (W : Wr h h' b sl v) : OvA Z h' a C := by
  obtain ⟨cl, A, r⟩ := F
  by_cases q : a = b
  · subst q; exact ⟨_, A.same W, r⟩
  · exact ⟨cl, A.other W q, r⟩
theorem Sta.keep {C n d : String} (F : Sta Z h C n d v) (K : Keep h h' ws) (q : ∀ x ∈ ws, ∀ c : Cell, h[x]? = some c → c.vm.isStatics = false) : Sta Z h' C n d v := by
  obtain ⟨cf, i, k, f, st, cell, h1, h2, h3, h4, h5, h6, h7⟩ := F
  exact ⟨cf, i, k, f, st, cell, h1, h2, h3, h4, K.2.1 _ _ h5 (fun hm => by rw [q _ hm _ h5] at h6; cases h6), h6, h7⟩
end Facts
section Walk
variable {Z : State} {a0 : Array Value} {own : String} {bytes : ByteArray} {ml : Nat} {p : Program} {l : Launch} {e : Env} {R : Room} {s : State} {m : MethodId} {args : Array Value} {below : List Frame} {meth : Method} {c : Code} {T : State} {locs : List Loc} {cells slots : Nat} {h : Heap} {K : Outcome → State → Prop} {pc pc' : Nat} {Ls Ls' : Array Slot} {st : List Value}
theorem Go.lit32 {x z : Int32} (q : x = z) (k : Go p e below K (T.setTop (mkF m pc Ls (.int z :: st)))) : Go p e below K (T.setTop (mkF m pc Ls (.int x :: st))) := q ▸ k
theorem Go.lit64 {x z : Int64} (q : x = z) (k : Go p e below K (T.setTop (mkF m pc Ls (.long z :: st)))) : Go p e below K (T.setTop (mkF m pc Ls (.long x :: st))) := q ▸ k
theorem Go.at_ {f f' : JFrame} (q : f = f') (k : Go p e below K (T.setTop f')) : Go p e below K (T.setTop f) := q ▸ k
theorem g_iload (X : Sx Z own bytes ml p l e R s m args below meth c T locs cells slots h) {i : Nat} {v : Int32} (hd : decode bytes pc = .ok (.iload i, 2)) (hp : pc + 2 = pc') (hl : Ls[i]? = some (.val (.int v))) (k : Go p e below K (T.setTop (mkF m pc' Ls (.int v :: st)))) : Go p e below K (T.setTop (mkF m pc Ls (st))) := by
  subst hp; exact Go.step (fun t q => XS.iload X.1.here X.2.1 rfl (hb X.2.2.1 hd) hl q) k
theorem g_iloadN (X : Sx Z own bytes ml p l e R s m args below meth c T locs cells slots h) {i : Fin 4} {v : Int32} (hd : decode bytes pc = .ok (.iload_n i, 1)) (hp : pc + 1 = pc') (hl : Ls[i.val]? = some (.val (.int v))) (k : Go p e below K (T.setTop (mkF m pc' Ls (.int v :: st)))) : Go p e below K (T.setTop (mkF m pc Ls (st))) := by
  subst hp; exact Go.step (fun t q => XS.iloadN X.1.here X.2.1 rfl (hb X.2.2.1 hd) hl q) k
theorem g_lload (X : Sx Z own bytes ml p l e R s m args below meth c T locs cells slots h) {i : Nat} {v : Int64} (hd : decode bytes pc = .ok (.lload i, 2)) (hp : pc + 2 = pc') (hl : Ls[i]? = some (.val (.long v))) (k : Go p e below K (T.setTop (mkF m pc' Ls (.long v :: st)))) : Go p e below K (T.setTop (mkF m pc Ls (st))) := by
  subst hp; exact Go.step (fun t q => XS.lload X.1.here X.2.1 rfl (hb X.2.2.1 hd) hl q) k
theorem g_lloadN (X : Sx Z own bytes ml p l e R s m args below meth c T locs cells slots h) {i : Fin 4} {v : Int64} (hd : decode bytes pc = .ok (.lload_n i, 1)) (hp : pc + 1 = pc') (hl : Ls[i.val]? = some (.val (.long v))) (k : Go p e below K (T.setTop (mkF m pc' Ls (.long v :: st)))) : Go p e below K (T.setTop (mkF m pc Ls (st))) := by
  subst hp; exact Go.step (fun t q => XS.lloadN X.1.here X.2.1 rfl (hb X.2.2.1 hd) hl q) k
theorem g_aload (X : Sx Z own bytes ml p l e R s m args below meth c T locs cells slots h) {i : Nat} {v : Value} (hd : decode bytes pc = .ok (.aload i, 2)) (hp : pc + 2 = pc') (hl : Ls[i]? = some (.val v)) (hv : v.isRef = true) (k : Go p e below K (T.setTop (mkF m pc' Ls (v :: st)))) : Go p e below K (T.setTop (mkF m pc Ls (st))) := by
  subst hp; exact Go.step (fun t q => XS.aload X.1.here X.2.1 rfl (hb X.2.2.1 hd) hl hv q) k
theorem g_aloadN (X : Sx Z own bytes ml p l e R s m args below meth c T locs cells slots h) {i : Fin 4} {v : Value} (hd : decode bytes pc = .ok (.aload_n i, 1)) (hp : pc + 1 = pc') (hl : Ls[i.val]? = some (.val v)) (hv : v.isRef = true) (k : Go p e below K (T.setTop (mkF m pc' Ls (v :: st)))) : Go p e below K (T.setTop (mkF m pc Ls (st))) := by
  subst hp; exact Go.step (fun t q => XS.aloadN X.1.here X.2.1 rfl (hb X.2.2.1 hd) hl hv q) k
theorem g_istore (X : Sx Z own bytes ml p l e R s m args below meth c T locs cells slots h) {i : Nat} {v : Int32} (hd : decode bytes pc = .ok (.istore i, 2)) (hp : pc + 2 = pc') (hl : storeLocals Ls i (.int v) = some Ls') (k : Go p e below K (T.setTop (mkF m pc' Ls' (st)))) : Go p e below K (T.setTop (mkF m pc Ls (.int v :: st))) := by
  subst hp; exact Go.step (fun t q => XS.istore X.1.here X.2.1 rfl (hb X.2.2.1 hd) rfl hl q) k
theorem g_istoreN (X : Sx Z own bytes ml p l e R s m args below meth c T locs cells slots h) {i : Fin 4} {v : Int32} (hd : decode bytes pc = .ok (.istore_n i, 1)) (hp : pc + 1 = pc') (hl : storeLocals Ls i.val (.int v) = some Ls') (k : Go p e below K (T.setTop (mkF m pc' Ls' (st)))) : Go p e below K (T.setTop (mkF m pc Ls (.int v :: st))) := by
  subst hp; exact Go.step (fun t q => XS.istoreN X.1.here X.2.1 rfl (hb X.2.2.1 hd) rfl hl q) k
theorem g_lstore (X : Sx Z own bytes ml p l e R s m args below meth c T locs cells slots h) {i : Nat} {v : Int64} (hd : decode bytes pc = .ok (.lstore i, 2)) (hp : pc + 2 = pc') (hl : storeLocals Ls i (.long v) = some Ls') (k : Go p e below K (T.setTop (mkF m pc' Ls' (st)))) : Go p e below K (T.setTop (mkF m pc Ls (.long v :: st))) := by
  subst hp; exact Go.step (fun t q => XS.lstore X.1.here X.2.1 rfl (hb X.2.2.1 hd) rfl hl q) k
theorem g_astore (X : Sx Z own bytes ml p l e R s m args below meth c T locs cells slots h) {i : Nat} {v : Value} (hd : decode bytes pc = .ok (.astore i, 2)) (hp : pc + 2 = pc') (hv : v.isRef = true) (hl : storeLocals Ls i v = some Ls') (k : Go p e below K (T.setTop (mkF m pc' Ls' (st)))) : Go p e below K (T.setTop (mkF m pc Ls (v :: st))) := by
  subst hp; exact Go.step (fun t q => XS.astore X.1.here X.2.1 rfl (hb X.2.2.1 hd) rfl hv hl q) k
theorem g_astoreN (X : Sx Z own bytes ml p l e R s m args below meth c T locs cells slots h) {i : Fin 4} {v : Value} (hd : decode bytes pc = .ok (.astore_n i, 1)) (hp : pc + 1 = pc') (hv : v.isRef = true) (hl : storeLocals Ls i.val v = some Ls') (k : Go p e below K (T.setTop (mkF m pc' Ls' (st)))) : Go p e below K (T.setTop (mkF m pc Ls (v :: st))) := by
  subst hp; exact Go.step (fun t q => XS.astoreN X.1.here X.2.1 rfl (hb X.2.2.1 hd) rfl hv hl q) k
theorem g_iconst (X : Sx Z own bytes ml p l e R s m args below meth c T locs cells slots h) {i : Int} (v : Int32) (hd : decode bytes pc = .ok (.iconst i, 1)) (hp : pc + 1 = pc') (hv : Int32.ofInt i = v) (k : Go p e below K (T.setTop (mkF m pc' Ls (.int v :: st)))) : Go p e below K (T.setTop (mkF m pc Ls (st))) := by
  subst hv; subst hp; exact Go.step (fun t q => XS.iconst X.1.here X.2.1 rfl (hb X.2.2.1 hd)  q) k
theorem g_bipush (X : Sx Z own bytes ml p l e R s m args below meth c T locs cells slots h) {i : Int} (v : Int32) (hd : decode bytes pc = .ok (.bipush i, 2)) (hp : pc + 2 = pc') (hv : (Int8.ofInt i).toInt32 = v) (k : Go p e below K (T.setTop (mkF m pc' Ls (.int v :: st)))) : Go p e below K (T.setTop (mkF m pc Ls (st))) := by
  subst hv; subst hp; exact Go.step (fun t q => XS.bipush X.1.here X.2.1 rfl (hb X.2.2.1 hd)  q) k
theorem g_sipush (X : Sx Z own bytes ml p l e R s m args below meth c T locs cells slots h) {i : Int} (v : Int32) (hd : decode bytes pc = .ok (.sipush i, 3)) (hp : pc + 3 = pc') (hv : (Int16.ofInt i).toInt32 = v) (k : Go p e below K (T.setTop (mkF m pc' Ls (.int v :: st)))) : Go p e below K (T.setTop (mkF m pc Ls (st))) := by
  subst hv; subst hp; exact Go.step (fun t q => XS.sipush X.1.here X.2.1 rfl (hb X.2.2.1 hd)  q) k
theorem g_lconst (X : Sx Z own bytes ml p l e R s m args below meth c T locs cells slots h) {i : Fin 2} (v : Int64) (hd : decode bytes pc = .ok (.lconst i, 1)) (hp : pc + 1 = pc') (hv : Int64.ofNat i = v) (k : Go p e below K (T.setTop (mkF m pc' Ls (.long v :: st)))) : Go p e below K (T.setTop (mkF m pc Ls (st))) := by
  subst hv; subst hp; exact Go.step (fun t q => XS.lconst X.1.here X.2.1 rfl (hb X.2.2.1 hd)  q) k
theorem g_aconst_null (X : Sx Z own bytes ml p l e R s m args below meth c T locs cells slots h) (hd : decode bytes pc = .ok (.aconst_null, 1)) (hp : pc + 1 = pc') (k : Go p e below K (T.setTop (mkF m pc' Ls (.null :: st)))) : Go p e below K (T.setTop (mkF m pc Ls (st))) := by
  subst hp; exact Go.step (fun t q => XS.aconstNull X.1.here X.2.1 rfl (hb X.2.2.1 hd)  q) k
theorem g_iadd (X : Sx Z own bytes ml p l e R s m args below meth c T locs cells slots h) {x y : Int32} (hd : decode bytes pc = .ok (.iadd, 1)) (hp : pc + 1 = pc') (k : Go p e below K (T.setTop (mkF m pc' Ls (.int (x + y) :: st)))) : Go p e below K (T.setTop (mkF m pc Ls (.int y :: .int x :: st))) := by
  subst hp; exact Go.step (fun t q => XS.iadd X.1.here X.2.1 rfl (hb X.2.2.1 hd) rfl q) k
theorem g_isub (X : Sx Z own bytes ml p l e R s m args below meth c T locs cells slots h) {x y : Int32} (hd : decode bytes pc = .ok (.isub, 1)) (hp : pc + 1 = pc') (k : Go p e below K (T.setTop (mkF m pc' Ls (.int (x - y) :: st)))) : Go p e below K (T.setTop (mkF m pc Ls (.int y :: .int x :: st))) := by
  subst hp; exact Go.step (fun t q => XS.isub X.1.here X.2.1 rfl (hb X.2.2.1 hd) rfl q) k
theorem g_imul (X : Sx Z own bytes ml p l e R s m args below meth c T locs cells slots h) {x y : Int32} (hd : decode bytes pc = .ok (.imul, 1)) (hp : pc + 1 = pc') (k : Go p e below K (T.setTop (mkF m pc' Ls (.int (x * y) :: st)))) : Go p e below K (T.setTop (mkF m pc Ls (.int y :: .int x :: st))) := by
  subst hp; exact Go.step (fun t q => XS.imul X.1.here X.2.1 rfl (hb X.2.2.1 hd) rfl q) k
theorem g_iand (X : Sx Z own bytes ml p l e R s m args below meth c T locs cells slots h) {x y : Int32} (hd : decode bytes pc = .ok (.iand, 1)) (hp : pc + 1 = pc') (k : Go p e below K (T.setTop (mkF m pc' Ls (.int (x &&& y) :: st)))) : Go p e below K (T.setTop (mkF m pc Ls (.int y :: .int x :: st))) := by
  subst hp; exact Go.step (fun t q => XS.iand X.1.here X.2.1 rfl (hb X.2.2.1 hd) rfl q) k
theorem g_ior (X : Sx Z own bytes ml p l e R s m args below meth c T locs cells slots h) {x y : Int32} (hd : decode bytes pc = .ok (.ior, 1)) (hp : pc + 1 = pc') (k : Go p e below K (T.setTop (mkF m pc' Ls (.int (x ||| y) :: st)))) : Go p e below K (T.setTop (mkF m pc Ls (.int y :: .int x :: st))) := by
  subst hp; exact Go.step (fun t q => XS.ior X.1.here X.2.1 rfl (hb X.2.2.1 hd) rfl q) k
theorem g_ixor (X : Sx Z own bytes ml p l e R s m args below meth c T locs cells slots h) {x y : Int32} (hd : decode bytes pc = .ok (.ixor, 1)) (hp : pc + 1 = pc') (k : Go p e below K (T.setTop (mkF m pc' Ls (.int (x ^^^ y) :: st)))) : Go p e below K (T.setTop (mkF m pc Ls (.int y :: .int x :: st))) := by
  subst hp; exact Go.step (fun t q => XS.ixor X.1.here X.2.1 rfl (hb X.2.2.1 hd) rfl q) k
theorem g_ishr (X : Sx Z own bytes ml p l e R s m args below meth c T locs cells slots h) {x y : Int32} (hd : decode bytes pc = .ok (.ishr, 1)) (hp : pc + 1 = pc') (k : Go p e below K (T.setTop (mkF m pc' Ls (.int (x >>> (y &&& 31)) :: st)))) : Go p e below K (T.setTop (mkF m pc Ls (.int y :: .int x :: st))) := by
  subst hp; exact Go.step (fun t q => XS.ishr X.1.here X.2.1 rfl (hb X.2.2.1 hd) rfl q) k
theorem g_iushr (X : Sx Z own bytes ml p l e R s m args below meth c T locs cells slots h) {x y : Int32} (hd : decode bytes pc = .ok (.iushr, 1)) (hp : pc + 1 = pc') (k : Go p e below K (T.setTop (mkF m pc' Ls (.int ((x.toUInt32 >>> (y &&& 31).toUInt32).toInt32) :: st)))) : Go p e below K (T.setTop (mkF m pc Ls (.int y :: .int x :: st))) := by
  subst hp; exact Go.step (fun t q => XS.iushr X.1.here X.2.1 rfl (hb X.2.2.1 hd) rfl q) k
theorem g_irem (X : Sx Z own bytes ml p l e R s m args below meth c T locs cells slots h) {x y : Int32} (hd : decode bytes pc = .ok (.irem, 1)) (hp : pc + 1 = pc') (hy : y ≠ 0) (k : Go p e below K (T.setTop (mkF m pc' Ls (.int (x % y) :: st)))) : Go p e below K (T.setTop (mkF m pc Ls (.int y :: .int x :: st))) := by
  subst hp; exact Go.step (fun t q => iremM (g := mkF m pc Ls (.int y :: .int x :: st)) X.1 X.2.1 rfl (hb X.2.2.1 hd) rfl hy q) k
theorem g_lsub (X : Sx Z own bytes ml p l e R s m args below meth c T locs cells slots h) {x y : Int64} (hd : decode bytes pc = .ok (.lsub, 1)) (hp : pc + 1 = pc') (k : Go p e below K (T.setTop (mkF m pc' Ls (.long (x - y) :: st)))) : Go p e below K (T.setTop (mkF m pc Ls (.long y :: .long x :: st))) := by
  subst hp; exact Go.step (fun t q => XS.lsub X.1.here X.2.1 rfl (hb X.2.2.1 hd) rfl q) k
theorem g_lor (X : Sx Z own bytes ml p l e R s m args below meth c T locs cells slots h) {x y : Int64} (hd : decode bytes pc = .ok (.lor, 1)) (hp : pc + 1 = pc') (k : Go p e below K (T.setTop (mkF m pc' Ls (.long (x ||| y) :: st)))) : Go p e below K (T.setTop (mkF m pc Ls (.long y :: .long x :: st))) := by
  subst hp; exact Go.step (fun t q => XS.lor X.1.here X.2.1 rfl (hb X.2.2.1 hd) rfl q) k
theorem g_lshl (X : Sx Z own bytes ml p l e R s m args below meth c T locs cells slots h) {x : Int64} {y : Int32} (hd : decode bytes pc = .ok (.lshl, 1)) (hp : pc + 1 = pc') (k : Go p e below K (T.setTop (mkF m pc' Ls (.long (x <<< (y &&& 0x3f).toInt64) :: st)))) : Go p e below K (T.setTop (mkF m pc Ls (.int y :: .long x :: st))) := by
  subst hp; exact Go.step (fun t q => XS.lshl X.1.here X.2.1 rfl (hb X.2.2.1 hd) rfl q) k
theorem g_lushr (X : Sx Z own bytes ml p l e R s m args below meth c T locs cells slots h) {x : Int64} {y : Int32} (hd : decode bytes pc = .ok (.lushr, 1)) (hp : pc + 1 = pc') (k : Go p e below K (T.setTop (mkF m pc' Ls (.long ((x.toUInt64 >>> (y &&& 0x3f).toInt64.toUInt64).toInt64) :: st)))) : Go p e below K (T.setTop (mkF m pc Ls (.int y :: .long x :: st))) := by
  subst hp; exact Go.step (fun t q => XS.lushr X.1.here X.2.1 rfl (hb X.2.2.1 hd) rfl q) k
theorem g_i2b (X : Sx Z own bytes ml p l e R s m args below meth c T locs cells slots h) {x : Int32} (hd : decode bytes pc = .ok (.i2b, 1)) (hp : pc + 1 = pc') (k : Go p e below K (T.setTop (mkF m pc' Ls (.int (x.toInt8.toInt32) :: st)))) : Go p e below K (T.setTop (mkF m pc Ls (.int x :: st))) := by
  subst hp; exact Go.step (fun t q => XS.i2b X.1.here X.2.1 rfl (hb X.2.2.1 hd) rfl q) k
theorem g_i2l (X : Sx Z own bytes ml p l e R s m args below meth c T locs cells slots h) {x : Int32} (hd : decode bytes pc = .ok (.i2l, 1)) (hp : pc + 1 = pc') (k : Go p e below K (T.setTop (mkF m pc' Ls (.long (x.toInt64) :: st)))) : Go p e below K (T.setTop (mkF m pc Ls (.int x :: st))) := by
  subst hp; exact Go.step (fun t q => XS.i2l X.1.here X.2.1 rfl (hb X.2.2.1 hd) rfl q) k
theorem g_l2i (X : Sx Z own bytes ml p l e R s m args below meth c T locs cells slots h) {x : Int64} (hd : decode bytes pc = .ok (.l2i, 1)) (hp : pc + 1 = pc') (k : Go p e below K (T.setTop (mkF m pc' Ls (.int (x.toInt32) :: st)))) : Go p e below K (T.setTop (mkF m pc Ls (.long x :: st))) := by
  subst hp; exact Go.step (fun t q => XS.l2i X.1.here X.2.1 rfl (hb X.2.2.1 hd) rfl q) k
theorem g_iinc (X : Sx Z own bytes ml p l e R s m args below meth c T locs cells slots h) {i : Nat} {q x : Int32} {n : Int} (hd : decode bytes pc = .ok (.iinc i n, 3)) (hp : pc + 3 = pc') (hq : Int32.ofInt n = q) (hl : Ls[i]? = some (.val (.int x))) (hl' : storeLocals Ls i (.int (x + q)) = some Ls') (k : Go p e below K (T.setTop (mkF m pc' Ls' (st)))) : Go p e below K (T.setTop (mkF m pc Ls (st))) := by
  subst hq; subst hp; exact Go.step (fun t q => XS.iinc X.1.here X.2.1 rfl (hb X.2.2.1 hd) hl hl' q) k
theorem g_dup (X : Sx Z own bytes ml p l e R s m args below meth c T locs cells slots h) {v : Value} (hd : decode bytes pc = .ok (.dup, 1)) (hp : pc + 1 = pc') (hc : v.category = 1) (k : Go p e below K (T.setTop (mkF m pc' Ls (v :: v :: st)))) : Go p e below K (T.setTop (mkF m pc Ls (v :: st))) := by
  subst hp; exact Go.step (fun t q => XS.dup X.1.here X.2.1 rfl (hb X.2.2.1 hd) rfl hc q) k
theorem g_goto (X : Sx Z own bytes ml p l e R s m args below meth c T locs cells slots h) {o : Int} (hd : decode bytes pc = .ok (.goto o, 3)) (ho : 0 ≤ (pc : Int) + o) (hp : ((pc : Int) + o).toNat = pc') (k : Go p e below K (T.setTop (mkF m pc' Ls (st)))) : Go p e below K (T.setTop (mkF m pc Ls (st))) := by
  exact Go.step (fun t q => XS.goto X.1.here X.2.1 rfl rfl (hb X.2.2.1 hd) ho hp q) k
theorem g_ifY (X : Sx Z own bytes ml p l e R s m args below meth c T locs cells slots h) {cd : ClassFile.Cond} {x : Int32} {o : Int} (hd : decode bytes pc = .ok (.ifCond cd o, 3)) (hc : ifCond.holds cd x = true) (ho : 0 ≤ (pc : Int) + o) (hp : ((pc : Int) + o).toNat = pc') (k : Go p e below K (T.setTop (mkF m pc' Ls (st)))) : Go p e below K (T.setTop (mkF m pc Ls (.int x :: st))) := by
  exact Go.step (fun t q => XS.ifYes X.1.here X.2.1 rfl rfl (hb X.2.2.1 hd) rfl hc ho hp q) k
theorem g_ifN (X : Sx Z own bytes ml p l e R s m args below meth c T locs cells slots h) {cd : ClassFile.Cond} {x : Int32} {o : Int} (hd : decode bytes pc = .ok (.ifCond cd o, 3)) (hc : ifCond.holds cd x = false) (hp : pc + 3 = pc') (k : Go p e below K (T.setTop (mkF m pc' Ls (st)))) : Go p e below K (T.setTop (mkF m pc Ls (.int x :: st))) := by
  subst hp; exact Go.step (fun t q => XS.ifNo X.1.here X.2.1 rfl (hb X.2.2.1 hd) rfl hc q) k
theorem g_icY (X : Sx Z own bytes ml p l e R s m args below meth c T locs cells slots h) {cd : ClassFile.Cond} {x y : Int32} {o : Int} (hd : decode bytes pc = .ok (.if_icmp cd o, 3)) (hc : if_icmp.holds cd x y = true) (ho : 0 ≤ (pc : Int) + o) (hp : ((pc : Int) + o).toNat = pc') (k : Go p e below K (T.setTop (mkF m pc' Ls (st)))) : Go p e below K (T.setTop (mkF m pc Ls (.int y :: .int x :: st))) := by
  exact Go.step (fun t q => XS.icmpYes X.1.here X.2.1 rfl rfl (hb X.2.2.1 hd) rfl hc ho hp q) k
theorem g_icN (X : Sx Z own bytes ml p l e R s m args below meth c T locs cells slots h) {cd : ClassFile.Cond} {x y : Int32} {o : Int} (hd : decode bytes pc = .ok (.if_icmp cd o, 3)) (hc : if_icmp.holds cd x y = false) (hp : pc + 3 = pc') (k : Go p e below K (T.setTop (mkF m pc' Ls (st)))) : Go p e below K (T.setTop (mkF m pc Ls (.int y :: .int x :: st))) := by
  subst hp; exact Go.step (fun t q => XS.icmpNo X.1.here X.2.1 rfl (hb X.2.2.1 hd) rfl hc q) k
theorem g_acmp (X : Sx Z own bytes ml p l e R s m args below meth c T locs cells slots h) {cd : ACond} {x y : Value} {o : Int} {same : Bool} (hd : decode bytes pc = .ok (.if_acmp cd o, 3)) (h1 : x.isRef = true) (h2 : y.isRef = true) (hq : decide (x = y) = same) (ho : 0 ≤ (pc : Int) + o) (hp : pc' = if acV cd same = true then ((pc : Int) + o).toNat else pc + 3) (k : Go p e below K (T.setTop (mkF m pc' Ls (st)))) : Go p e below K (T.setTop (mkF m pc Ls (y :: x :: st))) := by
  exact Go.step (fun t q => acmp (g := mkF m pc Ls (y :: x :: st)) X.1 X.2.1 rfl h1 h2 rfl (hb X.2.2.1 hd) rfl hq ho hp q) k
theorem g_baload (X : Sx Z own bytes ml p l e R s m args below meth c T locs cells slots h) {a : Addr} {vs : List Value} {j : Int32} {x : Int32} (A : Av Z h a .byte vs) (n : Nat) (hd : decode bytes pc = .ok (.baload, 1)) (hp : pc + 1 = pc') (hj : ¬ j < 0) (hn : j.toNatClampNeg = n) (hv : vs[n]? = some (.int x)) (k : Go p e below K (T.setTop (mkF m pc' Ls (.int x :: st)))) : Go p e below K (T.setTop (mkF m pc Ls (.int j :: .ref a :: st))) := by
  obtain ⟨cl, A, rfl, r⟩ := A; subst hn; subst hp
  have hv' : cl.slots[j.toNatClampNeg]? = some (.int x) := by rw [← Array.getElem?_toList]; exact hv
  exact Go.step (fun t q => X.1.baloadBytes X.2.1 (j := j) (by rw [X.2.2.2.2.2.2]; exact A.1) (State.isArrayOf_alike X.2.2.2.2.2.1.alike A.2.1) A.2.2 (fun hh => hh.elim hj (fun hh => absurd (Array.getElem?_eq_some_iff.mp hv').1 (Nat.not_lt.mpr hh))) hv' (g := mkF m pc Ls (.int j :: .ref a :: st)) rfl rfl (hb X.2.2.1 hd) _ q) k
theorem g_arraylength (X : Sx Z own bytes ml p l e R s m args below meth c T locs cells slots h) {a : Addr} {vs : List Value} {ty : FieldType} (A : Av Z h a ty vs) (hd : decode bytes pc = .ok (.arraylength, 1)) (hp : pc + 1 = pc') {z : Int32} (hz : vs.length.toInt32 = z) (k : Go p e below K (T.setTop (mkF m pc' Ls (.int z :: st)))) : Go p e below K (T.setTop (mkF m pc Ls (.ref a :: st))) := by
  obtain ⟨cl, A, rfl, r⟩ := A; subst hp
  rw [Array.length_toList] at hz; subst hz
  exact Go.step (fun t q => X.1.arraylength X.2.1 (by rw [X.2.2.2.2.2.2]; exact A.1) (State.isArrayOf_alike X.2.2.2.2.2.1.alike A.2.1) (g := mkF m pc Ls (.ref a :: st)) rfl rfl (hb X.2.2.1 hd) _ q) k
theorem g_bastore (X : Sx Z own bytes ml p l e R s m args below meth c T locs cells slots h) {a : Addr} {vs : List Value} {j : Int32} {x : Int32} (A : Av Z h a .byte vs) (n : Nat) (hd : decode bytes pc = .ok (.bastore, 1)) (hp : pc + 1 = pc') (hj : ¬ j < 0) (hn : j.toNatClampNeg = n) (hlt : n < vs.length) (k : ∀ T' h', Sx Z own bytes ml p l e R s m args below meth c T' (locs ++ [⟨a, n⟩]) cells slots h' → Wr h h' a n (.int (nar .byte x)) → Av Z h' a .byte (vs.set n (.int (nar .byte x))) → Go p e below K (T'.setTop (mkF m pc' Ls (st)))) : Go p e below K (T.setTop (mkF m pc Ls (.int x :: .int j :: .ref a :: st))) := by
  obtain ⟨cl, A, rfl, r⟩ := A; subst hn; subst hp
  obtain ⟨T', h', X', e', W, stp⟩ := stB X.1 X.2.1 X.2.2.2.2.2.1 X.2.2.2.2.2.2 A (j := j) (fun hh => hh.elim hj (fun hh => absurd hlt (by simpa using hh))) (g := mkF m pc Ls (.int x :: .int j :: .ref a :: st)) rfl rfl (hb X.2.2.1 hd)
  exact Go.step (fun t q => stp _ q) (k T' h' ⟨X', X.2.1, X.2.2.1, X.2.2.2.1, X.2.2.2.2.1, X.2.2.2.2.2.1, e'⟩ W (Av.set ⟨cl, A, rfl, r⟩ W))
theorem g_newarray (X : Sx Z own bytes ml p l e R s m args below meth c T locs cells slots h) {aty : ArrayType} {z : Int32} {vs : List Value} {ad : String} (n : Nat) (w : (Cond.arrayClass (newarray.typeOf aty)).before a0 Z = true) (hd : decode bytes pc = .ok (.newarray aty, 2)) (hp : pc + 2 = pc') (hz : ¬ z < 0) (hn : z.toNatClampNeg = n) (cap : Nat) (hcap : n ≤ cap) (hbig : cap * 8 ≤ 536870912) (hc : cells + 1 ≤ R.cells) (hl : slots + cap ≤ R.slots) (hvs : List.replicate n (defaultValue (newarray.typeOf aty)) = vs) (had : "[" ++ (newarray.typeOf aty).toString = ad) (k : ∀ T' h' (a : Addr), a = h.size → Sx Z own bytes ml p l e R s m args below meth c T' locs (cells + 1) (slots + cap) h' → Ext h h' → Exa Z h' a ad → Av Z h' a (newarray.typeOf aty) vs → Go p e below K (T'.setTop (mkF m pc' Ls (.ref a :: st)))) : Go p e below K (T.setTop (mkF m pc Ls (.int z :: st))) := by
  subst hn; subst hp; subst hvs
  obtain ⟨T', h', cA, X', e', E, A, B, stp⟩ := newPE X.1 X.2.1 X.2.2.2.2.2.1 w X.2.2.2.2.2.2 (g := mkF m pc Ls (.int z :: st)) rfl (hb X.2.2.1 hd) rfl hz hcap hbig hc hl had
  refine Go.step (fun t q => stp _ q) (k T' h' _ rfl ⟨X', X.2.1, X.2.2.1, X.2.2.2.1, X.2.2.2.2.1, X.2.2.2.2.2.1, e'⟩ E B ⟨_, A, by simp [newA], ?_⟩)
  simp only [List.length_replicate]
  exact (back32 hz).2
theorem g_new (X : Sx Z own bytes ml p l e R s m args below meth c T locs cells slots h) {i n : Nat} {C : String} (w1 : (Cond.classLink own i C).before a0 Z = true) (w2 : (Cond.instantiable C n).before a0 Z = true) (w3 : (Cond.initialized C).before a0 Z = true) (hd : decode bytes pc = .ok (.new i, 3)) (hp : pc + 3 = pc') (hc : cells + 1 ≤ R.cells) (hl : slots + n ≤ R.slots) (k : ∀ T' h' (a : Addr), a = h.size → Sx Z own bytes ml p l e R s m args below meth c T' locs (cells + 1) (slots + n) h' → Ext h h' → Exa Z h' a C → (∀ {O nm d : String} {ty : FieldType}, Laid Z a0 C O nm d → parseFieldDescriptor d = some ty → Fld Z h' a O nm d (defaultValue ty)) → Go p e below K (T'.setTop (mkF m pc' Ls (.ref a :: st)))) : Go p e below K (T.setTop (mkF m pc Ls (st))) := by
  subst hp
  obtain ⟨T', h', X', e', E, A, D, -, stp⟩ := newO X.1 X.2.1 X.2.2.2.2.2.1 X.2.2.2.2.1 w1 w2 w3 X.2.2.2.2.2.2 (g := mkF m pc Ls st) rfl (hb X.2.2.1 hd) hc hl
  exact Go.step (fun t q => stp _ q) (k T' h' _ rfl ⟨X', X.2.1, X.2.2.1, X.2.2.2.1, X.2.2.2.2.1, X.2.2.2.2.2.1, e'⟩ E A D)
theorem g_getfield (X : Sx Z own bytes ml p l e R s m args below meth c T locs cells slots h) {i : Nat} {R0 O nm d host : String} {a : Addr} {v : Value} (w : (Cond.fieldLink own i R0 nm d).before a0 Z = true ∨ (Cond.fieldLinkNest own i R0 nm d host).before a0 Z = true) (via : Via Z R0 O nm d) (F : Fld Z h a O nm d v) (hd : decode bytes pc = .ok (.getfield i, 3)) (hp : pc + 3 = pc') (k : ∀ T', Sx Z own bytes ml p l e R s m args below meth c T' locs cells slots h → Go p e below K (T'.setTop (mkF m pc' Ls (v :: st)))) : Go p e below K (T.setTop (mkF m pc Ls (.ref a :: st))) := by
  subst hp
  obtain ⟨T', X', e', stp⟩ := getF X.1 X.2.1 X.2.2.2.2.2.1 X.2.2.2.2.1 w via X.2.2.2.2.2.2 F (g := mkF m pc Ls (.ref a :: st)) rfl rfl (hb X.2.2.1 hd)
  exact Go.step (fun t q => stp _ q) (k T' ⟨X', X.2.1, X.2.2.1, X.2.2.2.1, X.2.2.2.2.1, X.2.2.2.2.2.1, e'⟩)
theorem g_getstatic (X : Sx Z own bytes ml p l e R s m args below meth c T locs cells slots h) {i : Nat} {R0 O nm d host : String} {v : Value} (w : (Cond.fieldLink own i R0 nm d).before a0 Z = true ∨ (Cond.fieldLinkNest own i R0 nm d host).before a0 Z = true) (via : Via Z R0 O nm d) (F : Sta Z h O nm d v) (hd : decode bytes pc = .ok (.getstatic i, 3)) (hp : pc + 3 = pc') (k : ∀ T', Sx Z own bytes ml p l e R s m args below meth c T' locs cells slots h → Go p e below K (T'.setTop (mkF m pc' Ls (v :: st)))) : Go p e below K (T.setTop (mkF m pc Ls (st))) := by
  subst hp
  obtain ⟨T', X', e', stp⟩ := getS2 X.1 X.2.1 X.2.2.2.2.2.1 X.2.2.2.2.1 w via X.2.2.2.2.2.2 F (g := mkF m pc Ls st) rfl (hb X.2.2.1 hd)
  exact Go.step (fun t q => stp _ q) (k T' ⟨X', X.2.1, X.2.2.1, X.2.2.2.1, X.2.2.2.2.1, X.2.2.2.2.2.1, e'⟩)
theorem g_putfield (X : Sx Z own bytes ml p l e R s m args below meth c T locs cells slots h) {i kk : Nat} {R0 O nm d host C : String} {a : Addr} {v old : Value} {ty : FieldType} (w : (Cond.fieldLink own i R0 nm d).before a0 Z = true ∨ (Cond.fieldLinkNest own i R0 nm d host).before a0 Z = true) (via : Via Z R0 O nm d) (F : Fld Z h a O nm d old) (E : Exa Z h a C) (L : (Cond.lays C O nm d).before a0 Z = true ∨ ((Cond.laysFinal C O nm d).before a0 Z = true ∧ own = O ∧ meth.name = "<init>")) (wi : (Cond.instantiable C kk).before a0 Z = true) (hty : parseFieldDescriptor d = some ty) (hn : narrow ty v = v) (hf : fits ty v = true) (hd : decode bytes pc = .ok (.putfield i, 3)) (hp : pc + 3 = pc') (k : ∀ T' h', Sx Z own bytes ml p l e R s m args below meth c T' (locs ++ [⟨a, RoadKit.slotOf Z O nm d⟩]) cells slots h' → Wr h h' a (RoadKit.slotOf Z O nm d) v → Go p e below K (T'.setTop (mkF m pc' Ls (st)))) : Go p e below K (T.setTop (mkF m pc Ls (v :: .ref a :: st))) := by
  subst hp
  obtain ⟨T', h', X', e', W, stp⟩ := putF X.1 X.2.1 X.2.2.2.2.2.1 X.2.2.2.2.1 w via X.2.2.2.2.2.2 F E L wi hty hn hf (g := mkF m pc Ls (v :: .ref a :: st)) rfl rfl (hb X.2.2.1 hd)
  exact Go.step (fun t q => stp _ q) (k T' h' ⟨X', X.2.1, X.2.2.1, X.2.2.2.1, X.2.2.2.2.1, X.2.2.2.2.2.1, e'⟩ W)
theorem g_putfieldN (X : Sx Z own bytes ml p l e R s m args below meth c T locs cells slots h) {i kk : Nat} {R0 O nm d C : String} {a : Addr} {v v' old : Value} {ty : FieldType} (w : (Cond.fieldLink own i R0 nm d).before a0 Z = true) (via : Via Z R0 O nm d) (F : Fld Z h a O nm d old) (E : Exa Z h a C) (L : (Cond.lays C O nm d).before a0 Z = true ∨ ((Cond.laysFinal C O nm d).before a0 Z = true ∧ own = O ∧ meth.name = "<init>")) (wi : (Cond.instantiable C kk).before a0 Z = true) (hty : parseFieldDescriptor d = some ty) (hn : narrow ty v = v') (hf : fits ty v' = true) (hd : decode bytes pc = .ok (.putfield i, 3)) (hp : pc + 3 = pc') (k : ∀ T' h', Sx Z own bytes ml p l e R s m args below meth c T' (locs ++ [⟨a, RoadKit.slotOf Z O nm d⟩]) cells slots h' → Wr h h' a (RoadKit.slotOf Z O nm d) v' → Go p e below K (T'.setTop (mkF m pc' Ls (st)))) : Go p e below K (T.setTop (mkF m pc Ls (v :: .ref a :: st))) := by
  subst hp
  obtain ⟨T', h', X', e', W, stp⟩ := putFN X.1 X.2.1 X.2.2.2.2.2.1 X.2.2.2.2.1 w via X.2.2.2.2.2.2 F E L wi hty hn hf (g := mkF m pc Ls (v :: .ref a :: st)) rfl rfl (hb X.2.2.1 hd)
  exact Go.step (fun t q => stp _ q) (k T' h' ⟨X', X.2.1, X.2.2.1, X.2.2.2.1, X.2.2.2.2.1, X.2.2.2.2.2.1, e'⟩ W)
theorem g_initO (X : Sx Z own bytes ml p l e R s m args below meth c T locs cells slots h) {i W : Nat} {a : Addr} (w1 : (Cond.methodLink own i Lib.objectInit).before a0 Z = true) (w2 : (Cond.instanceMethod Lib.objectInit).before a0 Z = true) (w3 : (Cond.code Lib.objectInit ⟨#[0xb1]⟩ 1 none).before a0 Z = true) (hd : decode bytes pc = .ok (.invokespecial i, 3)) (hp : pc + 3 = pc') (hsz : Ls.size = ml) (hf : 1 ≤ R.frames) (hW : (st.map fun v => v.category).sum ≤ W) (hl : W + 12 ≤ R.locals) (k : ∀ T', Sx Z own bytes ml p l e R s m args below meth c T' locs cells slots h → Go p e below K (T'.setTop (mkF m pc' Ls (st)))) : Go p e below K (T.setTop (mkF m pc Ls (.ref a :: st))) := by
  subst hp
  obtain ⟨T', X', e', stp⟩ := initO X.1 X.2.1 X.2.2.2.2.2.1 X.2.2.2.2.1 w1 w2 w3 X.2.2.2.2.2.2 (g := mkF m pc Ls (.ref a :: st)) rfl (by rw [X.2.2.2.1]; exact hsz) rfl (hb X.2.2.1 hd) hf (W := W) (by simpa using hW) hl
  exact Go.step (fun t q => stp _ q) (k T' ⟨X', X.2.1, X.2.2.1, X.2.2.2.1, X.2.2.2.2.1, X.2.2.2.2.2.1, e'⟩)
theorem g_checkcast (X : Sx Z own bytes ml p l e R s m args below meth c T locs cells slots h) {i : Nat} {K0 : String} {a : Addr} (w : (Cond.classLink own i K0).before a0 Z = true) (F : Ins Z h a K0 true) (hd : decode bytes pc = .ok (.checkcast i, 3)) (hp : pc + 3 = pc') (k : ∀ T', Sx Z own bytes ml p l e R s m args below meth c T' locs cells slots h → Go p e below K (T'.setTop (mkF m pc' Ls (.ref a :: st)))) : Go p e below K (T.setTop (mkF m pc Ls (.ref a :: st))) := by
  subst hp
  obtain ⟨T', X', e', stp⟩ := castY X.1 X.2.1 X.2.2.2.2.2.1 X.2.2.2.2.1 w X.2.2.2.2.2.2 F (g := mkF m pc Ls (.ref a :: st)) rfl rfl (hb X.2.2.1 hd)
  exact Go.step (fun t q => stp _ q) (k T' ⟨X', X.2.1, X.2.2.1, X.2.2.2.1, X.2.2.2.2.1, X.2.2.2.2.2.1, e'⟩)
theorem g_static (X : Sx Z own bytes ml p l e R s m args below meth c T locs cells slots h) {y : MethodName} {yb : ByteArray} {yl : Nat} {yr : Option FieldType} {rm : Room} {as' : Array Value} {Q : Option Value → Heap → List Loc → Prop} {i W : Nat} (argsL rest : List Value) (w1 : (Cond.methodLink own i y).before a0 Z = true) (w2 : (Cond.static y).before a0 Z = true) (w3 : (Cond.initialized y.cls).before a0 Z = true) (w4 : (Cond.code y yb yl yr).before a0 Z = true) (M : Rm l Z y yb yl yr [] rm as' h Q) (hd : decode bytes pc = .ok (.invokestatic i, 3)) (hp : pc + 3 = pc') (hy : y.cls ≠ "java/lang/invoke/MethodHandle" ∧ y.cls ≠ "java/lang/invoke/VarHandle") (hf : rm.frames + 1 ≤ R.frames) (hl : W + (yl + 11) + rm.locals ≤ R.locals) (hsz : Ls.size = ml) (ha : argsL.toArray = as') (hst : st = argsL.reverse ++ rest) (hlen : ∀ sig, parseMethodDescriptor y.desc = some sig → argsL.length = sig.parameters.length) (hW : (rest.map fun v => v.category).sum ≤ W) (hc : cells + rm.cells ≤ R.cells) (hs : slots + rm.slots ≤ R.slots) (k : ∀ v T' L, Sx Z own bytes ml p l e R s m args below meth c T' (locs ++ L) (cells + rm.cells) (slots + rm.slots) T'.heap → Q v T'.heap L → Go p e below K (T'.setTop (mkF m pc' Ls (v.toList ++ rest)))) : Go p e below K (T.setTop (mkF m pc Ls (st))) := by
  subst hp; subst hst
  have hZ := X.2.2.2.2.2.1
  obtain ⟨v, vm1, ⟨T', L', k', n'⟩, -, X', ⟨L, hQ, l1, l2, l3⟩, stp⟩ := Jvm.LawKit.callS X.1 X.2.1 X.2.2.2.2.1 (mvT hZ w1) (mvT hZ w2) (mvT hZ w3) (mvT hZ w4) hy (backOf (W := W) M hZ w4 w3 hf hl) (g := mkF m pc Ls (argsL.reverse ++ rest)) rfl (by rw [X.2.2.2.1]; exact hsz) (argsL := argsL) (rest := rest) hlen rfl (by simpa using hW) (hb X.2.2.1 hd) (fun _ _ => ⟨ha, X.2.2.2.2.2.2, hc, hs⟩)
  dsimp only [Pt.U, Pt.locs, Pt.cells, Pt.slots] at X' l1 l2 l3 stp hQ
  subst l1 l2 l3
  exact Go.step (fun t q => stp _ q) (k v T' L ⟨X', X.2.1, X.2.2.1, X.2.2.2.1, X.2.2.2.2.1, X.2.2.2.2.2.1, rfl⟩ hQ)
theorem g_virtual (X : Sx Z own bytes ml p l e R s m args below meth c T locs cells slots h) {y : MethodName} {yb : ByteArray} {yl : Nat} {yr : Option FieldType} {rm : Room} {as' : Array Value} {Q : Option Value → Heap → List Loc → Prop} {i W : Nat} {a : Addr} {C : String} (argsL rest : List Value) (E : Exa Z h a C) (w1 : (Cond.methodLink own i y).before a0 Z = true) (w2 : (Cond.declares y).before a0 Z = true) (w5 : (Cond.selects C y y).before a0 Z = true) (w6 : (Cond.instanceMethod y).before a0 Z = true) (w3 : (Cond.initialized y.cls).before a0 Z = true) (w4 : (Cond.code y yb yl yr).before a0 Z = true) (M : Rm l Z y yb yl yr [] rm as' h Q) (hd : decode bytes pc = .ok (.invokevirtual i, 3)) (hp : pc + 3 = pc') (hy : y.cls ≠ "java/lang/invoke/MethodHandle" ∧ y.cls ≠ "java/lang/invoke/VarHandle") (hf : rm.frames + 1 ≤ R.frames) (hl : W + (yl + 11) + rm.locals ≤ R.locals) (hsz : Ls.size = ml) (ha : (.ref a :: argsL).toArray = as') (hst : st = argsL.reverse ++ .ref a :: rest) (hlen : ∀ sig, parseMethodDescriptor y.desc = some sig → argsL.length = sig.parameters.length) (hW : (rest.map fun v => v.category).sum ≤ W) (hc : cells + rm.cells ≤ R.cells) (hs : slots + rm.slots ≤ R.slots) (k : ∀ v T' L, Sx Z own bytes ml p l e R s m args below meth c T' (locs ++ L) (cells + rm.cells) (slots + rm.slots) T'.heap → Q v T'.heap L → Go p e below K (T'.setTop (mkF m pc' Ls (v.toList ++ rest)))) : Go p e below K (T.setTop (mkF m pc Ls (st))) := by
  subst hp; subst hst
  have hZ := X.2.2.2.2.2.1
  obtain ⟨cq, kq, qa, qb, qc⟩ := isOf hZ X.2.2.2.2.2.2 E
  obtain ⟨v, vm1, ⟨T', L', k', n'⟩, -, X', ⟨L, hQ, l1, l2, l3⟩, stp⟩ := X.1.virtualBack X.2.1 (y := y) (z := y) X.2.2.2.2.1 (mvT hZ w1) (mvT hZ w2) (notFace_of_selects (args := #[]) (mvT hZ w5)) (mvT hZ w5) (mvT hZ w6) hy (backOf (W := W) M hZ w4 w3 hf hl) qa qc (g := mkF m pc Ls (argsL.reverse ++ .ref a :: rest)) rfl (by rw [X.2.2.2.1]; exact hsz) (Steps.refl _) (argsL := argsL) (rest := rest) hlen rfl (by simpa using hW) (hb X.2.2.1 hd) (fun _ _ => ⟨ha, X.2.2.2.2.2.2, hc, hs⟩)
  dsimp only [Pt.U, Pt.locs, Pt.cells, Pt.slots] at X' l1 l2 l3 stp hQ
  subst l1 l2 l3
  exact Go.step (fun t q => stp.trans q) (k v T' L ⟨X', X.2.1, X.2.2.1, X.2.2.2.1, X.2.2.2.2.1, X.2.2.2.2.2.1, rfl⟩ hQ)
theorem g_ireturn (X : Sx Z own bytes ml p l e R s m args below meth c T locs cells slots h) {Q : Option Value → Heap → List Loc → Prop} {kc ks : Nat} {z : Int32} (hd : decode bytes pc = .ok (.ireturn, 1)) (hret : meth.sig.returnType = some .int) (hlk : meth.locks = false) (hc : cells ≤ kc) (hs : slots ≤ ks) (q : Q (some (.int z)) h locs) : Go p e below (Ends s Q kc ks) (T.setTop (mkF m pc Ls (.int z :: st))) := by
  obtain ⟨fs, hr, hrun, hended, hW, hsame⟩ := X.1.leave (v := (some (.int z))) (fun h => by rw [hret] at h; cases h) hlk
  refine ⟨_, _, retI X.1 X.2.1 hret (hb X.2.2.1 hd) hr, hrun, hended, _, _, rfl, ?_, ⟨_, rfl⟩, hW, hsame.mono hc hs⟩
  show Q _ T.heap _
  rw [X.2.2.2.2.2.2]; exact q
theorem g_ireturnN (X : Sx Z own bytes ml p l e R s m args below meth c T locs cells slots h) {Q : Option Value → Heap → List Loc → Prop} {kc ks : Nat} {z : Int32} {t : FieldType} (ht : t = .boolean ∨ t = .byte ∨ t = .char ∨ t = .short) (hd : decode bytes pc = .ok (.ireturn, 1)) (hret : meth.sig.returnType = some t) (hlk : meth.locks = false) (hc : cells ≤ kc) (hs : slots ≤ ks) (q : Q (some (.int (nar t z))) h locs) : Go p e below (Ends s Q kc ks) (T.setTop (mkF m pc Ls (.int z :: st))) := by
  obtain ⟨fs, hr, hrun, hended, hW, hsame⟩ := X.1.leave (v := (some (.int (nar t z)))) (fun h => by rw [hret] at h; cases h) hlk
  refine ⟨_, _, retN X.1 X.2.1 hret ht (hb X.2.2.1 hd) hr, hrun, hended, _, _, rfl, ?_, ⟨_, rfl⟩, hW, hsame.mono hc hs⟩
  show Q _ T.heap _
  rw [X.2.2.2.2.2.2]; exact q
/-- two ways that meet again -/
theorem joinA {α : Type} (X : Sx Z own bytes ml p l e R s m args below meth c T locs cells slots h) (F : α → JFrame) (r : α → Prop) {f : JFrame} (k : ∀ (T' : State), Sx Z own bytes ml p l e R s m args below meth c T' locs cells slots h → ∀ v : α, r v → Go p e below K (T'.setTop (F v)))
    (b : (∀ (T' : State), Sx Z own bytes ml p l e R s m args below meth c T' locs cells slots h → ∀ v : α, r v → Go p e below K (T'.setTop (F v))) → Go p e below K (T.setTop f)) : Go p e below K (T.setTop f) := b k
end Walk
theorem narT : nar .boolean (1 : Int32) = b2i true := rfl
theorem narF : nar .boolean (0 : Int32) = b2i false := rfl
/-- the sheet's k-th word -/
theorem tb {a0 : Array Value} {Z : State} (hw : ∀ d ∈ tables_1, d.before a0 Z = true) (k : Nat) {d : Jvm.Cond} (hd : tables_1[k]? = some d) : d.before a0 Z = true := hw d (List.mem_of_getElem? hd)
/-- what a method says that writes and makes nothing: it returns this -/
def Pu (val : Value) (h0 : Heap) (v : Option Value) (h : Heap) (L : List Loc) : Prop := v = some val ∧ L = [] ∧ h = h0
theorem pureX {Z : State} {own : String} {bytes : ByteArray} {ml : Nat} {p : Program} {l : Launch} {e : Env} {R : Room} {s : State} {m : MethodId} {args : Array Value} {below : List Frame} {meth : Method} {c : Code} {T : State} {locs L : List Loc} {cells slots : Nat} {h : Heap} {val : Value} {v : Option Value}
    (X : Sx Z own bytes ml p l e R s m args below meth c T (locs ++ L) (cells + 0) (slots + 0) T.heap) (q : Pu val h v T.heap L) : v = some val ∧ Sx Z own bytes ml p l e R s m args below meth c T locs cells slots h := by
  obtain ⟨q1, rfl, q3⟩ := q
  rw [List.append_nil] at X
  exact ⟨q1, X.1, X.2.1, X.2.2.1, X.2.2.2.1, X.2.2.2.2.1, X.2.2.2.2.2.1, q3⟩

section Wide
variable {p : Program} {l : Launch} {e : Env} {R : Room} {s : State} {m : MethodId} {args : Array Value} {below : List Frame} {meth : Method} {c : Code} {T : State} {locs : List Loc} {cells slots : Nat} {Z : State} {a0 : Array Value} {h : Heap} {own : String} {bytes : ByteArray} {ml : Nat} {vm0 : Vm} {EL : List (String × Nat)} {k0 : Nat} {pc pc' : Nat} {Ls : Array Slot} {st : List Value} {K : Outcome → State → Prop}
def EndsW (s : State) (Q : Option Value → Heap → List Loc → Prop) (kc ks : Nat) (o : Outcome) (U : State) : Prop := ∃ v L, o = .returned v ∧ Q v U.heap L ∧ ReturnedEndW s o U L kc ks
def EndsH (Z : State) (EL : List (String × Nat)) (s : State) (Q : Option Value → Heap → List Loc → Prop) (kc ks : Nat) (o : Outcome) (U : State) : Prop := ∃ v L, o = .returned v ∧ Q v U.heap L ∧ CHr Z EL s.vm s.heap U.vm U.heap ∧ ReturnedEndW s o U L kc ks
abbrev RmH (l : Launch) (Z : State) (EL : List (String × Nat)) (y : MethodName) (bytes : ByteArray) (ml : Nat) (ret : Option FieldType) (rm : Room) (as' : Array Value) (h0 : Heap) (Q : Option Value → Heap → List Loc → Prop) : Prop :=
  MetFree l y (head1 [Jvm.Cond.code y bytes ml ret] rm) (fun a U => a = as' ∧ Z.Warmed39 U.vm ∧ U.heap = h0 ∧ CHv Z EL U.vm h0) (fun _ _ _ _ _ => True) (fun _ U o U' => ∃ v L, o = .returned v ∧ Q v U'.heap L ∧ CHr Z EL U.vm U.heap U'.vm U'.heap ∧ ReturnedEndW U o U' L rm.cells rm.slots)
theorem RmH.of {y : MethodName} {ret : Option FieldType} {rm : Room} {as' : Array Value} {h0 : Heap} {Q : Option Value → Heap → List Loc → Prop} (hpl : plainFor y = true)
    (body : ∀ (p : Program) (e : Env) (s : State) (m : MethodId) (below : List Frame) (meth : Method) (c : Code) (T : State), Sx Z y.cls bytes ml p l e rm (s.setVm s.vm) m as' below meth c T [] 0 0 h0 → s.Since s.vm s.heap.size → s.heap.size ≤ h0.size → CHr Z EL s.vm s.heap s.vm h0 → meth.name = y.name → meth.sig.returnType = ret → meth.locks = false → Go p e below (EndsH Z EL s Q rm.cells rm.slots) (T.setTop (entryFrame m as' ml))) : RmH l Z EL y bytes ml ret rm as' h0 Q := by
  refine MetFree.of_bodySF hpl hisR ?_
  intro p e s m args below meth c s₁ Bd hml0 hP hK
  obtain ⟨rfl, hZ, hh, hC⟩ := hP
  have X0 : Stand p l e rm s m args below meth c s₁ [] 0 0 := Stand.of_body Bd
  have hs : s₁.heap = h0 := by rw [← hh, Bd.state]; rfl
  refine body p e s m below meth c s₁ ⟨X0, Bd.exec, Bd.bytes, hml0, findClass_of_methodNamed Bd.named, hZ, hs⟩ ⟨State.Warmed39.refl _, ?_⟩ (Nat.le_of_eq (by rw [hh])) ?_ (name_of_methodNamed Bd.named Bd.method).1 Bd.returns (BodyLoose.notSynchronized Bd)
  · intro j q hj hq
    rw [Array.getElem?_eq_none hj] at hq; cases hq
  · subst hh; exact CHr.refl hC
theorem since_self (s : State) : s.Since s.vm s.heap.size := ⟨State.Warmed39.refl _, by
  intro j q hj hq
  rw [Array.getElem?_eq_none hj] at hq; cases hq⟩
theorem g_returnH (X : Sx Z own bytes ml p l e R (s.setVm vm0) m args below meth c T locs cells slots h) (hS : s.Since vm0 k0) (hk : k0 ≤ h.size) (hEL : EW Z a0 EL) (HR : CHr Z EL s.vm s.heap vm0 h) {Q : Option Value → Heap → List Loc → Prop} {kc ks : Nat} (hd : decode bytes pc = .ok (.return_, 1)) (hret : meth.sig.returnType = none) (hlk : meth.locks = false) (hc : cells ≤ kc) (hs : slots ≤ ks) (q : Q none h locs) : Go p e below (EndsH Z EL s Q kc ks) (T.setTop (mkF m pc Ls [])) := by
  obtain ⟨fs, hr, hrun, hended, hW, hB, hE, hsame⟩ := X.1.leaveW hS (by rw [X.2.2.2.2.2.2]; exact hk) (v := none) (fun _ => rfl) hlk
  refine ⟨_, _, X.1.returnOut X.2.1 hret (hb X.2.2.1 hd) hr, hrun, hended, _, _, rfl, ?_, ?_, hW, hB, hE, hsame.mono hc hs⟩
  · show Q _ T.heap _
    rw [X.2.2.2.2.2.2]; exact q
  · show CHr Z EL s.vm s.heap T.vm T.heap
    rw [X.2.2.2.2.2.2]; exact HR.trans (CHv.at X.1 X.2.2.2.2.2.1 hEL HR.1)
theorem g_ireturnNW (X : Sx Z own bytes ml p l e R (s.setVm vm0) m args below meth c T locs cells slots h) (hS : s.Since vm0 k0) (hk : k0 ≤ h.size) {Q : Option Value → Heap → List Loc → Prop} {kc ks : Nat} {z : Int32} {t : FieldType} (ht : t = .boolean ∨ t = .byte ∨ t = .char ∨ t = .short) (hd : decode bytes pc = .ok (.ireturn, 1)) (hret : meth.sig.returnType = some t) (hlk : meth.locks = false) (hc : cells ≤ kc) (hs : slots ≤ ks) (q : Q (some (.int (nar t z))) h locs) : Go p e below (EndsW s Q kc ks) (T.setTop (mkF m pc Ls (.int z :: st))) := by
  obtain ⟨fs, hr, hrun, hended, hW, hB, hE, hsame⟩ := X.1.leaveW hS (by rw [X.2.2.2.2.2.2]; exact hk) (v := some (.int (nar t z))) (fun h => by rw [hret] at h; cases h) hlk
  refine ⟨_, _, retN X.1 X.2.1 hret ht (hb X.2.2.1 hd) hr, hrun, hended, _, _, rfl, ?_, hW, hB, hE, hsame.mono hc hs⟩
  show Q _ T.heap _
  rw [X.2.2.2.2.2.2]; exact q
theorem g_ldcH (X : Sx Z own bytes ml p l e R (s.setVm vm0) m args below meth c T locs cells slots h) (hS : s.Since vm0 k0) (hk : k0 ≤ h.size) (hEL : EW Z a0 EL) {index : Nat} {text : String} (hmem : (own, index) ∈ EL) (H : CHv Z EL vm0 h) (w : (Cond.stringLink own index text).before a0 Z = true) (wS : ∀ a ∈ Bundle.stringAtoms, a.before a0 Z = true)
    {vs : List Value} {z : Int32} (ht : (∀ c ∈ text.toList, c.toNat < 256) ∧ text.toList.map (fun c => Value.int (Jvm.Lit.byteI c.toNat.toUInt16)) = vs) (hz : ¬ z < 0) (hl : z.toNatClampNeg = vs.length) (hd : decode bytes pc = .ok (.ldc index, 2)) (hp : pc + 2 = pc') {n : Nat} (hn : 4 * text.toList.length ≤ n) (hbig : n ≤ 536870912) (hc : cells + 2 ≤ R.cells) (hl' : slots + (n + 4) ≤ R.slots)
    (k : ∀ (a : Addr) (T' : State) (h' : Heap) (k1 : Nat) (b : Addr), Sx Z own bytes ml p l e R (s.setVm T'.vm) m args below meth c T' locs (cells + 2) (slots + (n + 4)) h' → Ext h h' → s.Since T'.vm k1 → k1 ≤ h'.size → Exa Z h' a "java/lang/String" → Fld Z h' a "java/lang/String" "coder" "B" (.int 0) → Fld Z h' a "java/lang/String" "value" "[B" (.ref b) → Av Z h' b .byte vs → CHr Z EL vm0 h T'.vm h' → (∀ x, Safe Z EL T'.vm h' x → x ≠ a ∧ x ≠ b) → Go p e below K (T'.setTop (mkF m pc' Ls (.ref a :: st)))) :
    Go p e below K (T.setTop (mkF m pc Ls st)) := by
  subst hp
  obtain ⟨a, T', h', k1, b, kk, X', e1, E, r4, r5, r6, r7, r8, r9, r10, r11, r12, r13, r14, r15, r16, stp⟩ := ldcCH X.1 X.2.1 X.2.2.2.2.2.1 X.2.2.2.2.1 w wS X.2.2.2.2.2.2 hS hk hEL hmem H ht hz hl (g := mkF m pc Ls st) rfl (hb X.2.2.1 hd) hn hbig hc hl'
  refine Go.step (fun t q => stp _ q) (k a T' h' k1 b ⟨X', X.2.1, X.2.2.1, X.2.2.2.1, r7, r6, e1⟩ E r4 r5 r8 r9 r10 ?_ r14 r16)
  obtain ⟨cl, A, q2, q3, q4, q5, q6⟩ := r11
  have hsz : cl.slots.size = vs.length := by rw [q3, hl]
  have hlen : cl.slots.toList = vs := by
    apply List.ext_getElem?
    intro i
    rw [Array.getElem?_toList]
    by_cases hi : i < vs.length
    · rw [q5 i (by rw [hsz]; exact hi), List.getD_eq_getElem?_getD, List.getElem?_eq_getElem hi]; rfl
    · rw [List.getElem?_eq_none (Nat.le_of_not_lt hi), Array.getElem?_eq_none (by rw [hsz]; exact Nat.le_of_not_lt hi)]
  refine ⟨cl, A, hlen, ?_⟩
  rw [← hl]
  have := (rng32 z).2
  show z.toInt.toNat < _
  omega
/-- a constructor that may load constants -/
theorem g_specialH (X : Sx Z own bytes ml p l e R (s.setVm vm0) m args below meth c T locs cells slots h) (hS : s.Since vm0 k0) (hk : k0 ≤ h.size) (hEL : EW Z a0 EL) (H : CHv Z EL vm0 h) {y : MethodName} {yb : ByteArray} {yl W i : Nat} {rm : Room} {as' : Array Value} {Q : Option Value → Heap → List Loc → Prop} {a : Addr} (argsL rest : List Value) (hi : y.name = "<init>") (w1 : (Cond.methodLink own i y).before a0 Z = true) (w2 : (Cond.instanceMethod y).before a0 Z = true) (w3 : (Cond.initialized y.cls).before a0 Z = true) (w4 : (Cond.code y yb yl none).before a0 Z = true) (M : RmH l Z EL y yb yl none rm as' h Q) (hd : decode bytes pc = .ok (.invokespecial i, 3)) (hp : pc + 3 = pc') (hy : y.cls ≠ "java/lang/invoke/MethodHandle" ∧ y.cls ≠ "java/lang/invoke/VarHandle") (hf : rm.frames + 1 ≤ R.frames) (hl : W + (yl + 11) + rm.locals ≤ R.locals) (hsz : Ls.size = ml) (ha : (.ref a :: argsL).toArray = as') (hst : st = argsL.reverse ++ .ref a :: rest) (hlen : ∀ sig, parseMethodDescriptor y.desc = some sig → argsL.length = sig.parameters.length) (hW : (rest.map fun v => v.category).sum ≤ W) (hc : cells + rm.cells ≤ R.cells) (hs : slots + rm.slots ≤ R.slots)
    (k : ∀ v T' L, Sx Z own bytes ml p l e R (s.setVm T'.vm) m args below meth c T' (locs ++ L) (cells + rm.cells) (slots + rm.slots) T'.heap → Q v T'.heap L → ∀ k1 : Nat, s.Since T'.vm k1 → k1 ≤ T'.heap.size → CHr Z EL vm0 h T'.vm T'.heap → Go p e below K (T'.setTop (mkF m pc' Ls (v.toList ++ rest)))) :
    Go p e below K (T.setTop (mkF m pc Ls st)) := by
  subst hp; subst hst
  have hZ := X.2.2.2.2.2.1
  obtain ⟨v, vm1, ⟨T', L', k', n'⟩, -, X', hS2, hgr, ⟨L, hQ, l1, l2, l3, hC⟩, stp⟩ := X.1.specialBackS X.2.1 (y := y) hi X.2.2.2.2.1 (mvT hZ w1) (mvT hZ w2) (mvT hZ w4) hy (backOfSH (W := W) M hZ w4 w3 hf hl hEL H) (g := mkF m pc Ls (argsL.reverse ++ .ref a :: rest)) rfl (by rw [X.2.2.2.1]; exact hsz) (Steps.refl _) (a := a) (argsL := argsL) (rest := rest) hlen rfl (by simpa using hW) (hb X.2.2.1 hd) (fun _ _ => ⟨ha, X.2.2.2.2.2.2, hc, hs⟩)
  dsimp only [Pt.U, Pt.locs, Pt.cells, Pt.slots] at X' l1 l2 l3 stp hQ hS2 hgr hC
  subst l1 l2 l3
  rw [X.2.2.2.2.2.2] at hgr
  obtain ⟨r1, r2, r3, r4⟩ := rebS hS hk X' hS2 hgr hZ X.2.2.2.2.1
  exact Go.step (fun t q => stp.trans q) (k v T' L ⟨r1, X.2.1, X.2.2.1, X.2.2.2.1, r4, r3, rfl⟩ hQ _ r2 (Nat.le_refl _) hC)
theorem g_instY (X : Sx Z own bytes ml p l e R s m args below meth c T locs cells slots h) {i : Nat} {K0 : String} {a : Addr} (w : (Cond.classLink own i K0).before a0 Z = true) (F : Ins Z h a K0 true) (hd : decode bytes pc = .ok (.instanceof i, 3)) (hp : pc + 3 = pc')
    (k : ∀ T', Sx Z own bytes ml p l e R s m args below meth c T' locs cells slots h → Go p e below K (T'.setTop (mkF m pc' Ls (.int 1 :: st)))) : Go p e below K (T.setTop (mkF m pc Ls (.ref a :: st))) := by
  subst hp
  obtain ⟨T', X', e', stp⟩ := instY X.1 X.2.1 X.2.2.2.2.2.1 X.2.2.2.2.1 w X.2.2.2.2.2.2 F (g := mkF m pc Ls (.ref a :: st)) rfl rfl (hb X.2.2.1 hd)
  exact Go.step (fun t q => stp _ q) (k T' ⟨X', X.2.1, X.2.2.1, X.2.2.2.1, X.2.2.2.2.1, X.2.2.2.2.2.1, e'⟩)
theorem g_instNull (X : Sx Z own bytes ml p l e R s m args below meth c T locs cells slots h) {i : Nat} (hd : decode bytes pc = .ok (.instanceof i, 3)) (hp : pc + 3 = pc')
    (k : Go p e below K (T.setTop (mkF m pc' Ls (.int 0 :: st)))) : Go p e below K (T.setTop (mkF m pc Ls (.null :: st))) := by
  subst hp
  exact Go.step (fun t q => X.1.instanceofNull X.2.1 (g := mkF m pc Ls (.null :: st)) rfl rfl (hb X.2.2.1 hd) t q) k
/-- the law: a start at which the constants are held -/
abbrev RmW (l : Launch) (Z : State) (EL : List (String × Nat)) (y : MethodName) (bytes : ByteArray) (ml : Nat) (ret : Option FieldType) (ws : List Jvm.Cond) (rm : Room) (as' : Array Value) (h0 : Heap) (Q : Option Value → Heap → List Loc → Prop) : Prop :=
  MetFree l y (head1 (Jvm.Cond.code y bytes ml ret :: ws) rm) (fun a U => a = as' ∧ Z.Warmed39 U.vm ∧ U.heap = h0 ∧ CHv Z EL U.vm h0) (fun _ _ _ _ _ => True) (fun _ U o U' => ∃ v L, o = .returned v ∧ Q v U'.heap L ∧ ReturnedEndW U o U' L rm.cells rm.slots)
theorem RmW.of {y : MethodName} {ret : Option FieldType} {ws : List Jvm.Cond} {rm : Room} {as' : Array Value} {h0 : Heap} {Q : Option Value → Heap → List Loc → Prop} (hpl : plainFor y = true)
    (body : ∀ (p : Program) (e : Env) (s : State) (m : MethodId) (below : List Frame) (meth : Method) (c : Code) (T : State), Sx Z y.cls bytes ml p l e rm (s.setVm s.vm) m as' below meth c T [] 0 0 h0 → s.Since s.vm s.heap.size → s.heap.size ≤ h0.size → CHv Z EL s.vm h0 → meth.name = y.name → meth.sig.returnType = ret → meth.locks = false → Go p e below (EndsW s Q rm.cells rm.slots) (T.setTop (entryFrame m as' ml))) : RmW l Z EL y bytes ml ret ws rm as' h0 Q := by
  refine MetFree.of_bodySF hpl hisR ?_
  intro p e s m args below meth c s₁ Bd hml0 hP hK
  obtain ⟨rfl, hZ, hh, hC⟩ := hP
  have X0 : Stand p l e rm s m args below meth c s₁ [] 0 0 := Stand.of_body Bd
  have hs : s₁.heap = h0 := by rw [← hh, Bd.state]; rfl
  exact body p e s m below meth c s₁ ⟨X0, Bd.exec, Bd.bytes, hml0, findClass_of_methodNamed Bd.named, hZ, hs⟩ (since_self s) (Nat.le_of_eq (by rw [hh])) hC (name_of_methodNamed Bd.named Bd.method).1 Bd.returns (BodyLoose.notSynchronized Bd)
end Wide
theorem Av.ne {Z : State} {h : Heap} {a b : Addr} {ty ty' : FieldType} {vs ws : List Value} (F : Av Z h a ty vs) (G : Av Z h b ty' ws) (q : vs.length ≠ ws.length) : a ≠ b := by
  intro e0; subst e0
  obtain ⟨c, A, e, -⟩ := F
  obtain ⟨c', A', e', -⟩ := G
  have : c = c' := Option.some.inj (A.1.symm.trans A'.1)
  subst this
  exact q (by rw [← e, ← e'])
theorem elw {aa : Array Value} {Z : State} (hw : ∀ d ∈ tables_1, d.before aa Z = true) : EW Z aa consts_1 := EW.cons (tb hw 79 rfl) (by decide +kernel) (EW.cons (tb hw 4 rfl) (by decide +kernel) (EW.nil))
theorem sAt {aa : Array Value} {Z : State} (hw : ∀ d ∈ tables_1, d.before aa Z = true) : ∀ a ∈ Bundle.stringAtoms, a.before aa Z = true := fun a ha => hw a ((by decide +kernel : ∀ d ∈ Bundle.stringAtoms, d ∈ tables_1) a ha)
theorem m4 {k v : Int32} (e : k &&& 3 = v) : v = 0 ∨ v = 1 ∨ v = 2 ∨ v = 3 := by
  have q : (k &&& 3).toInt = k.toInt % 4 := c_mask k 3 2 (by decide) (by decide)
  rw [e] at q
  simp only [← Int32.toInt_inj, Int32.reduceToInt]; omega
theorem mr1 {k v : Int32} (e : (k &&& 3) % 1 = v) : v = 0 := by
  have q : (k &&& 3).toInt = k.toInt % 4 := c_mask k 3 2 (by decide) (by decide)
  have r := (c_irem (k &&& 3) 1 1 rfl).1 (by omega)
  rw [e] at r
  simp only [← Int32.toInt_inj, Int32.reduceToInt]; omega
theorem mr2 {k v : Int32} (e : (k &&& 3) % 2 = v) : v = 0 ∨ v = 1 := by
  have q : (k &&& 3).toInt = k.toInt % 4 := c_mask k 3 2 (by decide) (by decide)
  have r := (c_irem (k &&& 3) 2 2 rfl).1 (by omega)
  rw [e] at r
  simp only [← Int32.toInt_inj, Int32.reduceToInt]; omega
theorem mr3 {k v : Int32} (e : (k &&& 3) % 3 = v) : v = 0 ∨ v = 1 ∨ v = 2 := by
  have q : (k &&& 3).toInt = k.toInt % 4 := c_mask k 3 2 (by decide) (by decide)
  have r := (c_irem (k &&& 3) 3 3 rfl).1 (by omega)
  rw [e] at r
  simp only [← Int32.toInt_inj, Int32.reduceToInt]; omega
theorem nb {k : Int32} {v : Int32} (e : k.toInt8.toInt32 = v) : nar .byte v = v := by
  rw [← e]
  show k.toInt8.toInt32.toInt8.toInt32 = _
  rw [Int8.toInt8_toInt32]
theorem or0 {a b : Int32} : (a ||| b = 0) ↔ (a = 0 ∧ b = 0) := Int32.or_eq_zero_iff
theorem xor0 {a b : Int32} : (a ^^^ b = 0) ↔ a = b := Int32.xor_eq_zero_iff
theorem zor {a : Int32} : (0 : Int32) ||| a = a := Int32.zero_or
theorem os12 {s12 : Slot} (h : One s12) (i0 i2 i3 n s0 s1 s2 st c : Int32) (j1 : Int64) (sp tx : Addr) : storeLocals #[.val (.int i0), .val (.long j1), .second, .val (.int i2), .val (.int i3), .val (.int n), .val (.int s0), .val (.int s1), .val (.int s2), .val (.ref sp), .val (.ref tx), .val (.int st), s12, .unset, .unset, .unset, .unset] 12 (.int c) = some #[.val (.int i0), .val (.long j1), .second, .val (.int i2), .val (.int i3), .val (.int n), .val (.int s0), .val (.int s1), .val (.int s2), .val (.ref sp), .val (.ref tx), .val (.int st), .val (.int c), .unset, .unset, .unset, .unset] := by
  rcases h with rfl | ⟨w, rfl, hw⟩
  · rfl
  · cases w <;> first | rfl | (simp [Value.category] at hw)
theorem d3_0 : decode jdk_29_method_69_code 0 = .ok (.iload_n 0, 1) := by decide +kernel
theorem d3_1 : decode jdk_29_method_69_code 1 = .ok (.iload_n 1, 1) := by decide +kernel
theorem d3_2 : decode jdk_29_method_69_code 2 = .ok (.if_icmp .gt 7, 3) := by decide +kernel
theorem d3_5 : decode jdk_29_method_69_code 5 = .ok (.iload_n 0, 1) := by decide +kernel
theorem d3_6 : decode jdk_29_method_69_code 6 = .ok (.goto 4, 3) := by decide +kernel
theorem d3_10 : decode jdk_29_method_69_code 10 = .ok (.ireturn, 1) := by decide +kernel
theorem ef_rMin08 (m : MethodId) (x0 : Int32) (x1 : Int32) : entryFrame m #[(.int x0), (.int x1)] 2 = mkF m 0 #[.val (.int x0), .val (.int x1)] [] := by first | (simp [entryFrame, mkF, argsToLocals, Value.category]; done) | rfl
set_option maxRecDepth 65536 in
set_option maxHeartbeats 40000000 in
theorem rMin08 (l : Launch) (Z : State) (aa : Array Value) (hw : ∀ d ∈ tables_1, d.before aa Z = true) (ws : List Jvm.Cond)  (h0 : Heap) :
    Rm l Z (⟨"java/lang/Math", "min", "(II)I"⟩ : MethodName) jdk_29_method_69_code 2 (some .int) ws ({ frames := 0, cells := 0, slots := 0, locals := 0 } : Room) #[(.int (0 : Int32)), (.int (8 : Int32))] h0 (Pu (.int (0 : Int32)) h0) := by
 refine Rm.of (Jvm.Free.JP.mathPlain rfl (by decide +kernel)) ?_
 intro p e s m below meth cc T X hnm hret hlk
 refine Go.at_ (ef_rMin08 m (0 : Int32) (8 : Int32)) ?_
 refine g_iloadN X d3_0 (pc' := 1) rfl rfl ?_
 refine g_iloadN X d3_1 (pc' := 2) rfl rfl ?_
 refine g_icN X d3_2 (flt (show ¬ ((8 : Int32) < (0 : Int32)) from (by decide))).2.2.1 (pc' := 5) rfl ?_
 refine g_iloadN X d3_5 (pc' := 6) rfl rfl ?_
 refine g_goto X d3_6 (pc' := 10) (by decide) (by decide) ?_
 refine g_ireturn X d3_10 hret hlk (by decide) (by decide) ?_
 exact ⟨rfl, rfl, rfl⟩
theorem ef_rMin18 (m : MethodId) (x0 : Int32) (x1 : Int32) : entryFrame m #[(.int x0), (.int x1)] 2 = mkF m 0 #[.val (.int x0), .val (.int x1)] [] := by first | (simp [entryFrame, mkF, argsToLocals, Value.category]; done) | rfl
set_option maxRecDepth 65536 in
set_option maxHeartbeats 40000000 in
theorem rMin18 (l : Launch) (Z : State) (aa : Array Value) (hw : ∀ d ∈ tables_1, d.before aa Z = true) (ws : List Jvm.Cond)  (h0 : Heap) :
    Rm l Z (⟨"java/lang/Math", "min", "(II)I"⟩ : MethodName) jdk_29_method_69_code 2 (some .int) ws ({ frames := 0, cells := 0, slots := 0, locals := 0 } : Room) #[(.int (1 : Int32)), (.int (8 : Int32))] h0 (Pu (.int (1 : Int32)) h0) := by
 refine Rm.of (Jvm.Free.JP.mathPlain rfl (by decide +kernel)) ?_
 intro p e s m below meth cc T X hnm hret hlk
 refine Go.at_ (ef_rMin18 m (1 : Int32) (8 : Int32)) ?_
 refine g_iloadN X d3_0 (pc' := 1) rfl rfl ?_
 refine g_iloadN X d3_1 (pc' := 2) rfl rfl ?_
 refine g_icN X d3_2 (flt (show ¬ ((8 : Int32) < (1 : Int32)) from (by decide))).2.2.1 (pc' := 5) rfl ?_
 refine g_iloadN X d3_5 (pc' := 6) rfl rfl ?_
 refine g_goto X d3_6 (pc' := 10) (by decide) (by decide) ?_
 refine g_ireturn X d3_10 hret hlk (by decide) (by decide) ?_
 exact ⟨rfl, rfl, rfl⟩
theorem ef_rMin28 (m : MethodId) (x0 : Int32) (x1 : Int32) : entryFrame m #[(.int x0), (.int x1)] 2 = mkF m 0 #[.val (.int x0), .val (.int x1)] [] := by first | (simp [entryFrame, mkF, argsToLocals, Value.category]; done) | rfl
set_option maxRecDepth 65536 in
set_option maxHeartbeats 40000000 in
theorem rMin28 (l : Launch) (Z : State) (aa : Array Value) (hw : ∀ d ∈ tables_1, d.before aa Z = true) (ws : List Jvm.Cond)  (h0 : Heap) :
    Rm l Z (⟨"java/lang/Math", "min", "(II)I"⟩ : MethodName) jdk_29_method_69_code 2 (some .int) ws ({ frames := 0, cells := 0, slots := 0, locals := 0 } : Room) #[(.int (2 : Int32)), (.int (8 : Int32))] h0 (Pu (.int (2 : Int32)) h0) := by
 refine Rm.of (Jvm.Free.JP.mathPlain rfl (by decide +kernel)) ?_
 intro p e s m below meth cc T X hnm hret hlk
 refine Go.at_ (ef_rMin28 m (2 : Int32) (8 : Int32)) ?_
 refine g_iloadN X d3_0 (pc' := 1) rfl rfl ?_
 refine g_iloadN X d3_1 (pc' := 2) rfl rfl ?_
 refine g_icN X d3_2 (flt (show ¬ ((8 : Int32) < (2 : Int32)) from (by decide))).2.2.1 (pc' := 5) rfl ?_
 refine g_iloadN X d3_5 (pc' := 6) rfl rfl ?_
 refine g_goto X d3_6 (pc' := 10) (by decide) (by decide) ?_
 refine g_ireturn X d3_10 hret hlk (by decide) (by decide) ?_
 exact ⟨rfl, rfl, rfl⟩
theorem ef_rMin38 (m : MethodId) (x0 : Int32) (x1 : Int32) : entryFrame m #[(.int x0), (.int x1)] 2 = mkF m 0 #[.val (.int x0), .val (.int x1)] [] := by first | (simp [entryFrame, mkF, argsToLocals, Value.category]; done) | rfl
set_option maxRecDepth 65536 in
set_option maxHeartbeats 40000000 in
theorem rMin38 (l : Launch) (Z : State) (aa : Array Value) (hw : ∀ d ∈ tables_1, d.before aa Z = true) (ws : List Jvm.Cond)  (h0 : Heap) :
    Rm l Z (⟨"java/lang/Math", "min", "(II)I"⟩ : MethodName) jdk_29_method_69_code 2 (some .int) ws ({ frames := 0, cells := 0, slots := 0, locals := 0 } : Room) #[(.int (3 : Int32)), (.int (8 : Int32))] h0 (Pu (.int (3 : Int32)) h0) := by
 refine Rm.of (Jvm.Free.JP.mathPlain rfl (by decide +kernel)) ?_
 intro p e s m below meth cc T X hnm hret hlk
 refine Go.at_ (ef_rMin38 m (3 : Int32) (8 : Int32)) ?_
 refine g_iloadN X d3_0 (pc' := 1) rfl rfl ?_
 refine g_iloadN X d3_1 (pc' := 2) rfl rfl ?_
 refine g_icN X d3_2 (flt (show ¬ ((8 : Int32) < (3 : Int32)) from (by decide))).2.2.1 (pc' := 5) rfl ?_
 refine g_iloadN X d3_5 (pc' := 6) rfl rfl ?_
 refine g_goto X d3_6 (pc' := 10) (by decide) (by decide) ?_
 refine g_ireturn X d3_10 hret hlk (by decide) (by decide) ?_
 exact ⟨rfl, rfl, rfl⟩
theorem ef_rMin11 (m : MethodId) (x0 : Int32) (x1 : Int32) : entryFrame m #[(.int x0), (.int x1)] 2 = mkF m 0 #[.val (.int x0), .val (.int x1)] [] := by first | (simp [entryFrame, mkF, argsToLocals, Value.category]; done) | rfl
set_option maxRecDepth 65536 in
set_option maxHeartbeats 40000000 in
theorem rMin11 (l : Launch) (Z : State) (aa : Array Value) (hw : ∀ d ∈ tables_1, d.before aa Z = true) (ws : List Jvm.Cond)  (h0 : Heap) :
    Rm l Z (⟨"java/lang/Math", "min", "(II)I"⟩ : MethodName) jdk_29_method_69_code 2 (some .int) ws ({ frames := 0, cells := 0, slots := 0, locals := 0 } : Room) #[(.int (1 : Int32)), (.int (1 : Int32))] h0 (Pu (.int (1 : Int32)) h0) := by
 refine Rm.of (Jvm.Free.JP.mathPlain rfl (by decide +kernel)) ?_
 intro p e s m below meth cc T X hnm hret hlk
 refine Go.at_ (ef_rMin11 m (1 : Int32) (1 : Int32)) ?_
 refine g_iloadN X d3_0 (pc' := 1) rfl rfl ?_
 refine g_iloadN X d3_1 (pc' := 2) rfl rfl ?_
 refine g_icN X d3_2 (flt (show ¬ ((1 : Int32) < (1 : Int32)) from (by decide))).2.2.1 (pc' := 5) rfl ?_
 refine g_iloadN X d3_5 (pc' := 6) rfl rfl ?_
 refine g_goto X d3_6 (pc' := 10) (by decide) (by decide) ?_
 refine g_ireturn X d3_10 hret hlk (by decide) (by decide) ?_
 exact ⟨rfl, rfl, rfl⟩
theorem d11_0 : decode jdk_29_method_65_code 0 = .ok (.iload_n 0, 1) := by decide +kernel
theorem d11_1 : decode jdk_29_method_65_code 1 = .ok (.iload_n 1, 1) := by decide +kernel
theorem d11_2 : decode jdk_29_method_65_code 2 = .ok (.if_icmp .lt 7, 3) := by decide +kernel
theorem d11_5 : decode jdk_29_method_65_code 5 = .ok (.iload_n 0, 1) := by decide +kernel
theorem d11_6 : decode jdk_29_method_65_code 6 = .ok (.goto 4, 3) := by decide +kernel
theorem d11_10 : decode jdk_29_method_65_code 10 = .ok (.ireturn, 1) := by decide +kernel
theorem ef_rMax00 (m : MethodId) (x0 : Int32) (x1 : Int32) : entryFrame m #[(.int x0), (.int x1)] 2 = mkF m 0 #[.val (.int x0), .val (.int x1)] [] := by first | (simp [entryFrame, mkF, argsToLocals, Value.category]; done) | rfl
set_option maxRecDepth 65536 in
set_option maxHeartbeats 40000000 in
theorem rMax00 (l : Launch) (Z : State) (aa : Array Value) (hw : ∀ d ∈ tables_1, d.before aa Z = true) (ws : List Jvm.Cond)  (h0 : Heap) :
    Rm l Z (⟨"java/lang/Math", "max", "(II)I"⟩ : MethodName) jdk_29_method_65_code 2 (some .int) ws ({ frames := 0, cells := 0, slots := 0, locals := 0 } : Room) #[(.int (0 : Int32)), (.int (0 : Int32))] h0 (Pu (.int (0 : Int32)) h0) := by
 refine Rm.of (Jvm.Free.JP.mathPlain rfl (by decide +kernel)) ?_
 intro p e s m below meth cc T X hnm hret hlk
 refine Go.at_ (ef_rMax00 m (0 : Int32) (0 : Int32)) ?_
 refine g_iloadN X d11_0 (pc' := 1) rfl rfl ?_
 refine g_iloadN X d11_1 (pc' := 2) rfl rfl ?_
 refine g_icN X d11_2 (flt (show ¬ ((0 : Int32) < (0 : Int32)) from (by decide))).1 (pc' := 5) rfl ?_
 refine g_iloadN X d11_5 (pc' := 6) rfl rfl ?_
 refine g_goto X d11_6 (pc' := 10) (by decide) (by decide) ?_
 refine g_ireturn X d11_10 hret hlk (by decide) (by decide) ?_
 exact ⟨rfl, rfl, rfl⟩
theorem pn_0 : plainName "java/lang/String" = true := by first | (simp [plainName, overriddenIn]; done) | decide +kernel
theorem d6_0 : decode jdk_42_method_154_code 0 = .ok (.getstatic 38, 3) := by decide +kernel
theorem d6_3 : decode jdk_42_method_154_code 3 = .ok (.ifCond .eq 14, 3) := by decide +kernel
theorem d6_6 : decode jdk_42_method_154_code 6 = .ok (.aload_n 0, 1) := by decide +kernel
theorem d6_7 : decode jdk_42_method_154_code 7 = .ok (.getfield 15, 3) := by decide +kernel
theorem d6_10 : decode jdk_42_method_154_code 10 = .ok (.ifCond .ne 7, 3) := by decide +kernel
theorem d6_13 : decode jdk_42_method_154_code 13 = .ok (.iconst 1, 1) := by decide +kernel
theorem d6_14 : decode jdk_42_method_154_code 14 = .ok (.goto 4, 3) := by decide +kernel
theorem d6_18 : decode jdk_42_method_154_code 18 = .ok (.ireturn, 1) := by decide +kernel
theorem ef_rLat (m : MethodId) (x0 : Addr) : entryFrame m #[(.ref x0)] 1 = mkF m 0 #[.val (.ref x0)] [] := by first | (simp [entryFrame, mkF, argsToLocals, Value.category]; done) | rfl
set_option maxRecDepth 65536 in
set_option maxHeartbeats 40000000 in
theorem rLat (l : Launch) (Z : State) (aa : Array Value) (hw : ∀ d ∈ tables_1, d.before aa Z = true) (ws : List Jvm.Cond) (a0 : Addr) (G1 : Int32) (v0 : Addr) (h0 : Heap) (qc : Exa Z h0 a0 "java/lang/String") (qa : Fld Z h0 a0 "java/lang/String" "coder" "B" (.int (0 : Int32))) (qd : Fld Z h0 a0 "java/lang/String" "value" "[B" (.ref v0)) (qe : Av Z h0 v0 .byte [(.int (97 : Int32))]) (qb : Sta Z h0 "java/lang/String" "COMPACT_STRINGS" "Z" (.int G1)) (P5 : ¬ G1 = (0 : Int32)) :
    Rm l Z (⟨"java/lang/String", "isLatin1", "()Z"⟩ : MethodName) jdk_42_method_154_code 1 (some .boolean) ws ({ frames := 0, cells := 0, slots := 0, locals := 0 } : Room) #[(.ref a0)] h0 (Pu (.int (1 : Int32)) h0) := by
 refine Rm.of (plainFor_of_name pn_0) ?_
 intro p e s m below meth cc T X hnm hret hlk
 refine Go.at_ (ef_rLat m a0) ?_
 refine g_getstatic X (host := "") (Or.inl (tb hw 48 rfl)) Via.refl qb d6_0 (pc' := 3) rfl ?_
 intro T X
 refine g_ifN X d6_3 ((if0 _ _).trans (feq (show ¬ (G1 = (0 : Int32)) from P5)).1) (pc' := 6) rfl ?_
 refine g_aloadN X d6_6 (pc' := 7) rfl rfl rfl ?_
 refine g_getfield X (host := "") (Or.inl (tb hw 49 rfl)) Via.refl qa d6_7 (pc' := 10) rfl ?_
 intro T X
 refine g_ifN X d6_10 ((if0 _ _).trans (teq (show (0 : Int32) = (0 : Int32) from (by decide))).2) (pc' := 13) rfl ?_
 refine g_iconst X (1 : Int32) d6_13 (pc' := 14) rfl rfl ?_
 refine g_goto X d6_14 (pc' := 18) (by decide) (by decide) ?_
 refine g_ireturnN X (t := .boolean) (by simp) d6_18 hret hlk (by decide) (by decide) ?_
 exact ⟨rfl, rfl, rfl⟩
theorem d8_0 : decode jdk_42_method_152_code 0 = .ok (.getstatic 38, 3) := by decide +kernel
theorem d8_3 : decode jdk_42_method_152_code 3 = .ok (.ifCond .eq 10, 3) := by decide +kernel
theorem d8_6 : decode jdk_42_method_152_code 6 = .ok (.aload_n 0, 1) := by decide +kernel
theorem d8_7 : decode jdk_42_method_152_code 7 = .ok (.getfield 15, 3) := by decide +kernel
theorem d8_10 : decode jdk_42_method_152_code 10 = .ok (.goto 4, 3) := by decide +kernel
theorem d8_14 : decode jdk_42_method_152_code 14 = .ok (.ireturn, 1) := by decide +kernel
theorem ef_rCod (m : MethodId) (x0 : Addr) : entryFrame m #[(.ref x0)] 1 = mkF m 0 #[.val (.ref x0)] [] := by first | (simp [entryFrame, mkF, argsToLocals, Value.category]; done) | rfl
set_option maxRecDepth 65536 in
set_option maxHeartbeats 40000000 in
theorem rCod (l : Launch) (Z : State) (aa : Array Value) (hw : ∀ d ∈ tables_1, d.before aa Z = true) (ws : List Jvm.Cond) (a0 : Addr) (G1 : Int32) (v0 : Addr) (h0 : Heap) (qc : Exa Z h0 a0 "java/lang/String") (qa : Fld Z h0 a0 "java/lang/String" "coder" "B" (.int (0 : Int32))) (qd : Fld Z h0 a0 "java/lang/String" "value" "[B" (.ref v0)) (qe : Av Z h0 v0 .byte [(.int (97 : Int32))]) (qb : Sta Z h0 "java/lang/String" "COMPACT_STRINGS" "Z" (.int G1)) (P5 : ¬ G1 = (0 : Int32)) :
    Rm l Z (⟨"java/lang/String", "coder", "()B"⟩ : MethodName) jdk_42_method_152_code 1 (some .byte) ws ({ frames := 0, cells := 0, slots := 0, locals := 0 } : Room) #[(.ref a0)] h0 (Pu (.int (0 : Int32)) h0) := by
 refine Rm.of (plainFor_of_name pn_0) ?_
 intro p e s m below meth cc T X hnm hret hlk
 refine Go.at_ (ef_rCod m a0) ?_
 refine g_getstatic X (host := "") (Or.inl (tb hw 48 rfl)) Via.refl qb d8_0 (pc' := 3) rfl ?_
 intro T X
 refine g_ifN X d8_3 ((if0 _ _).trans (feq (show ¬ (G1 = (0 : Int32)) from P5)).1) (pc' := 6) rfl ?_
 refine g_aloadN X d8_6 (pc' := 7) rfl rfl rfl ?_
 refine g_getfield X (host := "") (Or.inl (tb hw 49 rfl)) Via.refl qa d8_7 (pc' := 10) rfl ?_
 intro T X
 refine g_goto X d8_10 (pc' := 14) (by decide) (by decide) ?_
 refine g_ireturnN X (t := .byte) (by simp) d8_14 hret hlk (by decide) (by decide) ?_
 exact ⟨rfl, rfl, rfl⟩
theorem d7_0 : decode jdk_42_method_54_code 0 = .ok (.aload_n 0, 1) := by decide +kernel
theorem d7_1 : decode jdk_42_method_54_code 1 = .ok (.getfield 9, 3) := by decide +kernel
theorem d7_4 : decode jdk_42_method_54_code 4 = .ok (.arraylength, 1) := by decide +kernel
theorem d7_5 : decode jdk_42_method_54_code 5 = .ok (.aload_n 0, 1) := by decide +kernel
theorem d7_6 : decode jdk_42_method_54_code 6 = .ok (.invokevirtual 335, 3) := by decide +kernel
theorem pd_0 : parseMethodDescriptor "()B" = some ⟨[], some .byte⟩ := by decide +kernel
theorem d7_9 : decode jdk_42_method_54_code 9 = .ok (.ishr, 1) := by decide +kernel
theorem d7_10 : decode jdk_42_method_54_code 10 = .ok (.ireturn, 1) := by decide +kernel
theorem ef_rLen (m : MethodId) (x0 : Addr) : entryFrame m #[(.ref x0)] 1 = mkF m 0 #[.val (.ref x0)] [] := by first | (simp [entryFrame, mkF, argsToLocals, Value.category]; done) | rfl
set_option maxRecDepth 65536 in
set_option maxHeartbeats 40000000 in
theorem rLen (l : Launch) (Z : State) (aa : Array Value) (hw : ∀ d ∈ tables_1, d.before aa Z = true) (ws : List Jvm.Cond) (a0 : Addr) (G1 : Int32) (v0 : Addr) (h0 : Heap) (qa : Exa Z h0 a0 "java/lang/String") (qd : Fld Z h0 a0 "java/lang/String" "coder" "B" (.int (0 : Int32))) (qb : Fld Z h0 a0 "java/lang/String" "value" "[B" (.ref v0)) (qc : Av Z h0 v0 .byte [(.int (97 : Int32))]) (qe : Sta Z h0 "java/lang/String" "COMPACT_STRINGS" "Z" (.int G1)) (P5 : ¬ G1 = (0 : Int32)) :
    Rm l Z (⟨"java/lang/String", "length", "()I"⟩ : MethodName) jdk_42_method_54_code 1 (some .int) ws ({ frames := 1, cells := 0, slots := 0, locals := 13 } : Room) #[(.ref a0)] h0 (Pu (.int (1 : Int32)) h0) := by
 refine Rm.of (plainFor_of_name pn_0) ?_
 intro p e s m below meth cc T X hnm hret hlk
 refine Go.at_ (ef_rLen m a0) ?_
 refine g_aloadN X d7_0 (pc' := 1) rfl rfl rfl ?_
 refine g_getfield X (host := "") (Or.inl (tb hw 50 rfl)) Via.refl qb d7_1 (pc' := 4) rfl ?_
 intro T X
 refine g_arraylength X qc d7_4 (pc' := 5) rfl (z := (1 : Int32)) rfl ?_
 refine g_aloadN X d7_5 (pc' := 6) rfl rfl rfl ?_
 refine g_virtual X (W := 1) (a := a0) (C := "java/lang/String") [] [(.int (1 : Int32))] qa (tb hw 56 rfl) (tb hw 57 rfl) (tb hw 59 rfl) (tb hw 58 rfl) (tb hw 5 rfl) (tb hw 60 rfl) (rCod l Z aa hw [] a0 G1 v0 _ qa qd qb qc qe P5) d7_6 (pc' := 9) rfl (by decide) (by decide) (by decide) rfl rfl rfl (lenOf pd_0 rfl) (Nat.le_refl _) (by decide) (by decide) ?_
 intro v T L X q
 obtain ⟨rfl, X⟩ := pureX X q
 show Go p e below _ (T.setTop (mkF m 9 _ [(.int (0 : Int32)), (.int (1 : Int32))]))
 refine g_ishr X d7_9 (pc' := 10) rfl ?_
 refine Go.lit32 (z := (1 : Int32)) (by decide) ?_
 refine g_ireturn X d7_10 hret hlk (by decide) (by decide) ?_
 exact ⟨rfl, rfl, rfl⟩
theorem pn_1 : plainName "java/lang/StringLatin1" = true := by first | (simp [plainName, overriddenIn]; done) | decide +kernel
theorem d10_0 : decode jdk_43_method_4_code 0 = .ok (.iload_n 0, 1) := by decide +kernel
theorem d10_1 : decode jdk_43_method_4_code 1 = .ok (.ifCond .lt 14, 3) := by decide +kernel
theorem d10_4 : decode jdk_43_method_4_code 4 = .ok (.iload_n 0, 1) := by decide +kernel
theorem d10_5 : decode jdk_43_method_4_code 5 = .ok (.sipush 255, 3) := by decide +kernel
theorem d10_8 : decode jdk_43_method_4_code 8 = .ok (.if_icmp .gt 7, 3) := by decide +kernel
theorem d10_11 : decode jdk_43_method_4_code 11 = .ok (.iconst 1, 1) := by decide +kernel
theorem d10_12 : decode jdk_43_method_4_code 12 = .ok (.goto 4, 3) := by decide +kernel
theorem d10_16 : decode jdk_43_method_4_code 16 = .ok (.ireturn, 1) := by decide +kernel
theorem ef_rCan (m : MethodId) (x0 : Int32) : entryFrame m #[(.int x0)] 1 = mkF m 0 #[.val (.int x0)] [] := by first | (simp [entryFrame, mkF, argsToLocals, Value.category]; done) | rfl
set_option maxRecDepth 65536 in
set_option maxHeartbeats 40000000 in
theorem rCan (l : Launch) (Z : State) (aa : Array Value) (hw : ∀ d ∈ tables_1, d.before aa Z = true) (ws : List Jvm.Cond)  (h0 : Heap) :
    Rm l Z (⟨"java/lang/StringLatin1", "canEncode", "(I)Z"⟩ : MethodName) jdk_43_method_4_code 1 (some .boolean) ws ({ frames := 0, cells := 0, slots := 0, locals := 0 } : Room) #[(.int (58 : Int32))] h0 (Pu (.int (1 : Int32)) h0) := by
 refine Rm.of (plainFor_of_name pn_1) ?_
 intro p e s m below meth cc T X hnm hret hlk
 refine Go.at_ (ef_rCan m (58 : Int32)) ?_
 refine g_iloadN X d10_0 (pc' := 1) rfl rfl ?_
 refine g_ifN X d10_1 ((if0 _ _).trans (flt (show ¬ ((58 : Int32) < (0 : Int32)) from (by decide))).1) (pc' := 4) rfl ?_
 refine g_iloadN X d10_4 (pc' := 5) rfl rfl ?_
 refine g_sipush X (255 : Int32) d10_5 (pc' := 8) rfl rfl ?_
 refine g_icN X d10_8 (flt (show ¬ ((255 : Int32) < (58 : Int32)) from (by decide))).2.2.1 (pc' := 11) rfl ?_
 refine g_iconst X (1 : Int32) d10_11 (pc' := 12) rfl rfl ?_
 refine g_goto X d10_12 (pc' := 16) (by decide) (by decide) ?_
 refine g_ireturnN X (t := .boolean) (by simp) d10_16 hret hlk (by decide) (by decide) ?_
 exact ⟨rfl, rfl, rfl⟩
theorem d12_0 : decode jdk_43_method_23_code 0 = .ok (.iload_n 1, 1) := by decide +kernel
theorem d12_1 : decode jdk_43_method_23_code 1 = .ok (.i2b, 1) := by decide +kernel
theorem d12_2 : decode jdk_43_method_23_code 2 = .ok (.istore 4, 2) := by decide +kernel
theorem d12_4 : decode jdk_43_method_23_code 4 = .ok (.iload_n 2, 1) := by decide +kernel
theorem d12_5 : decode jdk_43_method_23_code 5 = .ok (.istore 5, 2) := by decide +kernel
theorem d12_7 : decode jdk_43_method_23_code 7 = .ok (.iload 5, 2) := by decide +kernel
theorem d12_9 : decode jdk_43_method_23_code 9 = .ok (.iload_n 3, 1) := by decide +kernel
theorem d12_10 : decode jdk_43_method_23_code 10 = .ok (.if_icmp .ge 21, 3) := by decide +kernel
theorem d12_13 : decode jdk_43_method_23_code 13 = .ok (.aload_n 0, 1) := by decide +kernel
theorem d12_14 : decode jdk_43_method_23_code 14 = .ok (.iload 5, 2) := by decide +kernel
theorem d12_16 : decode jdk_43_method_23_code 16 = .ok (.baload, 1) := by decide +kernel
theorem d12_17 : decode jdk_43_method_23_code 17 = .ok (.iload 4, 2) := by decide +kernel
theorem d12_19 : decode jdk_43_method_23_code 19 = .ok (.if_icmp .ne 6, 3) := by decide +kernel
theorem d12_25 : decode jdk_43_method_23_code 25 = .ok (.iinc 5 1, 3) := by decide +kernel
theorem d12_28 : decode jdk_43_method_23_code 28 = .ok (.goto (-21), 3) := by decide +kernel
theorem d12_31 : decode jdk_43_method_23_code 31 = .ok (.iconst (-1), 1) := by decide +kernel
theorem d12_32 : decode jdk_43_method_23_code 32 = .ok (.ireturn, 1) := by decide +kernel
theorem ef_rIxc (m : MethodId) (x0 : Addr) (x1 : Int32) (x2 : Int32) (x3 : Int32) : entryFrame m #[(.ref x0), (.int x1), (.int x2), (.int x3)] 6 = mkF m 0 #[.val (.ref x0), .val (.int x1), .val (.int x2), .val (.int x3), .unset, .unset] [] := by first | (simp [entryFrame, mkF, argsToLocals, Value.category]; done) | rfl
set_option maxRecDepth 65536 in
set_option maxHeartbeats 40000000 in
theorem rIxc (l : Launch) (Z : State) (aa : Array Value) (hw : ∀ d ∈ tables_1, d.before aa Z = true) (ws : List Jvm.Cond) (v0 : Addr) (h0 : Heap) (qa : Av Z h0 v0 .byte [(.int (97 : Int32))]) :
    Rm l Z (⟨"java/lang/StringLatin1", "indexOfChar", "([BIII)I"⟩ : MethodName) jdk_43_method_23_code 6 (some .int) ws ({ frames := 0, cells := 0, slots := 0, locals := 0 } : Room) #[(.ref v0), (.int (58 : Int32)), (.int (0 : Int32)), (.int (1 : Int32))] h0 (Pu (.int (-1 : Int32)) h0) := by
 refine Rm.of (plainFor_of_name pn_1) ?_
 intro p e s m below meth cc T X hnm hret hlk
 refine Go.at_ (ef_rIxc m v0 (58 : Int32) (0 : Int32) (1 : Int32)) ?_
 refine g_iloadN X d12_0 (pc' := 1) rfl rfl ?_
 refine g_i2b X d12_1 (pc' := 2) rfl ?_
 refine Go.lit32 (z := (58 : Int32)) (by decide) ?_
 refine g_istore X d12_2 (pc' := 4) (Ls' := #[.val (.ref v0), .val (.int (58 : Int32)), .val (.int (0 : Int32)), .val (.int (1 : Int32)), .val (.int (58 : Int32)), .unset]) rfl rfl ?_
 refine g_iloadN X d12_4 (pc' := 5) rfl rfl ?_
 refine g_istore X d12_5 (pc' := 7) (Ls' := #[.val (.ref v0), .val (.int (58 : Int32)), .val (.int (0 : Int32)), .val (.int (1 : Int32)), .val (.int (58 : Int32)), .val (.int (0 : Int32))]) rfl rfl ?_
 refine g_iload X d12_7 (pc' := 9) rfl rfl ?_
 refine g_iloadN X d12_9 (pc' := 10) rfl rfl ?_
 refine g_icN X d12_10 (tlt (show (0 : Int32) < (1 : Int32) from (by decide))).2.1 (pc' := 13) rfl ?_
 refine g_aloadN X d12_13 (pc' := 14) rfl rfl rfl ?_
 refine g_iload X d12_14 (pc' := 16) rfl rfl ?_
 refine g_baload X qa 0 d12_16 (pc' := 17) rfl (by decide) (by decide) rfl ?_
 refine g_iload X d12_17 (pc' := 19) rfl rfl ?_
 refine g_icY X d12_19 (feq (show ¬ ((97 : Int32) = (58 : Int32)) from (by decide))).2 (pc' := 25) (by decide) (by decide) ?_
 refine g_iinc X d12_25 (pc' := 28) (q := (1 : Int32)) (Ls' := #[.val (.ref v0), .val (.int (58 : Int32)), .val (.int (0 : Int32)), .val (.int (1 : Int32)), .val (.int (58 : Int32)), .val (.int (1 : Int32))]) rfl rfl rfl rfl ?_
 refine g_goto X d12_28 (pc' := 7) (by decide) (by decide) ?_
 refine g_iload X d12_7 (pc' := 9) rfl rfl ?_
 refine g_iloadN X d12_9 (pc' := 10) rfl rfl ?_
 refine g_icY X d12_10 (flt (show ¬ ((1 : Int32) < (1 : Int32)) from (by decide))).2.1 (pc' := 31) (by decide) (by decide) ?_
 refine g_iconst X (-1 : Int32) d12_31 (pc' := 32) rfl rfl ?_
 refine g_ireturn X d12_32 hret hlk (by decide) (by decide) ?_
 exact ⟨rfl, rfl, rfl⟩
theorem d9_0 : decode jdk_43_method_22_code 0 = .ok (.iload_n 1, 1) := by decide +kernel
theorem d9_1 : decode jdk_43_method_22_code 1 = .ok (.invokestatic 88, 3) := by decide +kernel
theorem pd_1 : parseMethodDescriptor "(I)Z" = some ⟨[.int], some .boolean⟩ := by decide +kernel
theorem d9_4 : decode jdk_43_method_22_code 4 = .ok (.ifCond .ne 5, 3) := by decide +kernel
theorem d9_9 : decode jdk_43_method_22_code 9 = .ok (.iload_n 2, 1) := by decide +kernel
theorem d9_10 : decode jdk_43_method_22_code 10 = .ok (.iconst 0, 1) := by decide +kernel
theorem d9_11 : decode jdk_43_method_22_code 11 = .ok (.invokestatic 92, 3) := by decide +kernel
theorem pd_2 : parseMethodDescriptor "(II)I" = some ⟨[.int, .int], some .int⟩ := by decide +kernel
theorem d9_14 : decode jdk_43_method_22_code 14 = .ok (.istore_n 2, 1) := by decide +kernel
theorem d9_15 : decode jdk_43_method_22_code 15 = .ok (.iload_n 3, 1) := by decide +kernel
theorem d9_16 : decode jdk_43_method_22_code 16 = .ok (.aload_n 0, 1) := by decide +kernel
theorem d9_17 : decode jdk_43_method_22_code 17 = .ok (.arraylength, 1) := by decide +kernel
theorem d9_18 : decode jdk_43_method_22_code 18 = .ok (.invokestatic 38, 3) := by decide +kernel
theorem d9_21 : decode jdk_43_method_22_code 21 = .ok (.istore_n 3, 1) := by decide +kernel
theorem d9_22 : decode jdk_43_method_22_code 22 = .ok (.iload_n 2, 1) := by decide +kernel
theorem d9_23 : decode jdk_43_method_22_code 23 = .ok (.iload_n 3, 1) := by decide +kernel
theorem d9_24 : decode jdk_43_method_22_code 24 = .ok (.if_icmp .lt 5, 3) := by decide +kernel
theorem d9_29 : decode jdk_43_method_22_code 29 = .ok (.aload_n 0, 1) := by decide +kernel
theorem d9_30 : decode jdk_43_method_22_code 30 = .ok (.iload_n 1, 1) := by decide +kernel
theorem d9_31 : decode jdk_43_method_22_code 31 = .ok (.iload_n 2, 1) := by decide +kernel
theorem d9_32 : decode jdk_43_method_22_code 32 = .ok (.iload_n 3, 1) := by decide +kernel
theorem d9_33 : decode jdk_43_method_22_code 33 = .ok (.invokestatic 95, 3) := by decide +kernel
theorem pd_3 : parseMethodDescriptor "([BIII)I" = some ⟨[(.array .byte), .int, .int, .int], some .int⟩ := by decide +kernel
theorem d9_36 : decode jdk_43_method_22_code 36 = .ok (.ireturn, 1) := by decide +kernel
theorem ef_rIxl (m : MethodId) (x0 : Addr) (x1 : Int32) (x2 : Int32) (x3 : Int32) : entryFrame m #[(.ref x0), (.int x1), (.int x2), (.int x3)] 4 = mkF m 0 #[.val (.ref x0), .val (.int x1), .val (.int x2), .val (.int x3)] [] := by first | (simp [entryFrame, mkF, argsToLocals, Value.category]; done) | rfl
set_option maxRecDepth 65536 in
set_option maxHeartbeats 40000000 in
theorem rIxl (l : Launch) (Z : State) (aa : Array Value) (hw : ∀ d ∈ tables_1, d.before aa Z = true) (ws : List Jvm.Cond) (v0 : Addr) (h0 : Heap) (qa : Av Z h0 v0 .byte [(.int (97 : Int32))]) :
    Rm l Z (⟨"java/lang/StringLatin1", "indexOf", "([BIII)I"⟩ : MethodName) jdk_43_method_22_code 4 (some .int) ws ({ frames := 1, cells := 0, slots := 0, locals := 17 } : Room) #[(.ref v0), (.int (58 : Int32)), (.int (0 : Int32)), (.int (1 : Int32))] h0 (Pu (.int (-1 : Int32)) h0) := by
 refine Rm.of (plainFor_of_name pn_1) ?_
 intro p e s m below meth cc T X hnm hret hlk
 refine Go.at_ (ef_rIxl m v0 (58 : Int32) (0 : Int32) (1 : Int32)) ?_
 refine g_iloadN X d9_0 (pc' := 1) rfl rfl ?_
 refine g_static X (W := 0) [(.int (58 : Int32))] [] (tb hw 65 rfl) (tb hw 66 rfl) (tb hw 63 rfl) (tb hw 67 rfl) (rCan l Z aa hw []  _) d9_1 (pc' := 4) rfl (by decide) (by decide) (by decide) rfl rfl rfl (lenOf pd_1 rfl) (Nat.le_refl _) (by decide) (by decide) ?_
 intro v T L X q
 obtain ⟨rfl, X⟩ := pureX X q
 show Go p e below _ (T.setTop (mkF m 4 _ [(.int (1 : Int32))]))
 refine g_ifY X d9_4 ((if0 _ _).trans (feq (show ¬ ((1 : Int32) = (0 : Int32)) from (by decide))).2) (pc' := 9) (by decide) (by decide) ?_
 refine g_iloadN X d9_9 (pc' := 10) rfl rfl ?_
 refine g_iconst X (0 : Int32) d9_10 (pc' := 11) rfl rfl ?_
 refine g_static X (W := 0) [(.int (0 : Int32)), (.int (0 : Int32))] [] (tb hw 68 rfl) (tb hw 69 rfl) (tb hw 27 rfl) (tb hw 70 rfl) (rMax00 l Z aa hw []  _) d9_11 (pc' := 14) rfl (by decide) (by decide) (by decide) rfl rfl rfl (lenOf pd_2 rfl) (Nat.le_refl _) (by decide) (by decide) ?_
 intro v T L X q
 obtain ⟨rfl, X⟩ := pureX X q
 show Go p e below _ (T.setTop (mkF m 14 _ [(.int (0 : Int32))]))
 refine g_istoreN X d9_14 (pc' := 15) (Ls' := #[.val (.ref v0), .val (.int (58 : Int32)), .val (.int (0 : Int32)), .val (.int (1 : Int32))]) rfl rfl ?_
 refine g_iloadN X d9_15 (pc' := 16) rfl rfl ?_
 refine g_aloadN X d9_16 (pc' := 17) rfl rfl rfl ?_
 refine g_arraylength X qa d9_17 (pc' := 18) rfl (z := (1 : Int32)) rfl ?_
 refine g_static X (W := 0) [(.int (1 : Int32)), (.int (1 : Int32))] [] (tb hw 71 rfl) (tb hw 26 rfl) (tb hw 27 rfl) (tb hw 28 rfl) (rMin11 l Z aa hw []  _) d9_18 (pc' := 21) rfl (by decide) (by decide) (by decide) rfl rfl rfl (lenOf pd_2 rfl) (Nat.le_refl _) (by decide) (by decide) ?_
 intro v T L X q
 obtain ⟨rfl, X⟩ := pureX X q
 show Go p e below _ (T.setTop (mkF m 21 _ [(.int (1 : Int32))]))
 refine g_istoreN X d9_21 (pc' := 22) (Ls' := #[.val (.ref v0), .val (.int (58 : Int32)), .val (.int (0 : Int32)), .val (.int (1 : Int32))]) rfl rfl ?_
 refine g_iloadN X d9_22 (pc' := 23) rfl rfl ?_
 refine g_iloadN X d9_23 (pc' := 24) rfl rfl ?_
 refine g_icY X d9_24 (tlt (show (0 : Int32) < (1 : Int32) from (by decide))).1 (pc' := 29) (by decide) (by decide) ?_
 refine g_aloadN X d9_29 (pc' := 30) rfl rfl rfl ?_
 refine g_iloadN X d9_30 (pc' := 31) rfl rfl ?_
 refine g_iloadN X d9_31 (pc' := 32) rfl rfl ?_
 refine g_iloadN X d9_32 (pc' := 33) rfl rfl ?_
 refine g_static X (W := 0) [(.ref v0), (.int (58 : Int32)), (.int (0 : Int32)), (.int (1 : Int32))] [] (tb hw 72 rfl) (tb hw 73 rfl) (tb hw 63 rfl) (tb hw 74 rfl) (rIxc l Z aa hw [] v0 _ qa) d9_33 (pc' := 36) rfl (by decide) (by decide) (by decide) rfl rfl rfl (lenOf pd_3 rfl) (Nat.le_refl _) (by decide) (by decide) ?_
 intro v T L X q
 obtain ⟨rfl, X⟩ := pureX X q
 show Go p e below _ (T.setTop (mkF m 36 _ [(.int (-1 : Int32))]))
 refine g_ireturn X d9_36 hret hlk (by decide) (by decide) ?_
 exact ⟨rfl, rfl, rfl⟩
theorem d5_0 : decode jdk_42_method_80_code 0 = .ok (.aload_n 0, 1) := by decide +kernel
theorem d5_1 : decode jdk_42_method_80_code 1 = .ok (.invokevirtual 492, 3) := by decide +kernel
theorem pd_4 : parseMethodDescriptor "()Z" = some ⟨[], some .boolean⟩ := by decide +kernel
theorem d5_4 : decode jdk_42_method_80_code 4 = .ok (.ifCond .eq 19, 3) := by decide +kernel
theorem d5_7 : decode jdk_42_method_80_code 7 = .ok (.aload_n 0, 1) := by decide +kernel
theorem d5_8 : decode jdk_42_method_80_code 8 = .ok (.getfield 9, 3) := by decide +kernel
theorem d5_11 : decode jdk_42_method_80_code 11 = .ok (.iload_n 1, 1) := by decide +kernel
theorem d5_12 : decode jdk_42_method_80_code 12 = .ok (.iload_n 2, 1) := by decide +kernel
theorem d5_13 : decode jdk_42_method_80_code 13 = .ok (.aload_n 0, 1) := by decide +kernel
theorem d5_14 : decode jdk_42_method_80_code 14 = .ok (.invokevirtual 505, 3) := by decide +kernel
theorem pd_5 : parseMethodDescriptor "()I" = some ⟨[], some .int⟩ := by decide +kernel
theorem d5_17 : decode jdk_42_method_80_code 17 = .ok (.invokestatic 637, 3) := by decide +kernel
theorem d5_20 : decode jdk_42_method_80_code 20 = .ok (.goto 16, 3) := by decide +kernel
theorem d5_36 : decode jdk_42_method_80_code 36 = .ok (.ireturn, 1) := by decide +kernel
theorem ef_rIx2 (m : MethodId) (x0 : Addr) (x1 : Int32) (x2 : Int32) : entryFrame m #[(.ref x0), (.int x1), (.int x2)] 3 = mkF m 0 #[.val (.ref x0), .val (.int x1), .val (.int x2)] [] := by first | (simp [entryFrame, mkF, argsToLocals, Value.category]; done) | rfl
set_option maxRecDepth 65536 in
set_option maxHeartbeats 40000000 in
theorem rIx2 (l : Launch) (Z : State) (aa : Array Value) (hw : ∀ d ∈ tables_1, d.before aa Z = true) (ws : List Jvm.Cond) (a0 : Addr) (G1 : Int32) (v0 : Addr) (h0 : Heap) (qa : Exa Z h0 a0 "java/lang/String") (qd : Fld Z h0 a0 "java/lang/String" "coder" "B" (.int (0 : Int32))) (qb : Fld Z h0 a0 "java/lang/String" "value" "[B" (.ref v0)) (qc : Av Z h0 v0 .byte [(.int (97 : Int32))]) (qe : Sta Z h0 "java/lang/String" "COMPACT_STRINGS" "Z" (.int G1)) (P5 : ¬ G1 = (0 : Int32)) :
    Rm l Z (⟨"java/lang/String", "indexOf", "(II)I"⟩ : MethodName) jdk_42_method_80_code 3 (some .int) ws ({ frames := 2, cells := 0, slots := 0, locals := 32 } : Room) #[(.ref a0), (.int (58 : Int32)), (.int (0 : Int32))] h0 (Pu (.int (-1 : Int32)) h0) := by
 refine Rm.of (plainFor_of_name pn_0) ?_
 intro p e s m below meth cc T X hnm hret hlk
 refine Go.at_ (ef_rIx2 m a0 (58 : Int32) (0 : Int32)) ?_
 refine g_aloadN X d5_0 (pc' := 1) rfl rfl rfl ?_
 refine g_virtual X (W := 0) (a := a0) (C := "java/lang/String") [] [] qa (tb hw 43 rfl) (tb hw 44 rfl) (tb hw 46 rfl) (tb hw 45 rfl) (tb hw 5 rfl) (tb hw 47 rfl) (rLat l Z aa hw [] a0 G1 v0 _ qa qd qb qc qe P5) d5_1 (pc' := 4) rfl (by decide) (by decide) (by decide) rfl rfl rfl (lenOf pd_4 rfl) (Nat.le_refl _) (by decide) (by decide) ?_
 intro v T L X q
 obtain ⟨rfl, X⟩ := pureX X q
 show Go p e below _ (T.setTop (mkF m 4 _ [(.int (1 : Int32))]))
 refine g_ifN X d5_4 ((if0 _ _).trans (feq (show ¬ ((1 : Int32) = (0 : Int32)) from (by decide))).1) (pc' := 7) rfl ?_
 refine g_aloadN X d5_7 (pc' := 8) rfl rfl rfl ?_
 refine g_getfield X (host := "") (Or.inl (tb hw 50 rfl)) Via.refl qb d5_8 (pc' := 11) rfl ?_
 intro T X
 refine g_iloadN X d5_11 (pc' := 12) rfl rfl ?_
 refine g_iloadN X d5_12 (pc' := 13) rfl rfl ?_
 refine g_aloadN X d5_13 (pc' := 14) rfl rfl rfl ?_
 refine g_virtual X (W := 3) (a := a0) (C := "java/lang/String") [] [(.int (0 : Int32)), (.int (58 : Int32)), (.ref v0)] qa (tb hw 51 rfl) (tb hw 52 rfl) (tb hw 54 rfl) (tb hw 53 rfl) (tb hw 5 rfl) (tb hw 55 rfl) (rLen l Z aa hw [] a0 G1 v0 _ qa qd qb qc qe P5) d5_14 (pc' := 17) rfl (by decide) (by decide) (by decide) rfl rfl rfl (lenOf pd_5 rfl) (Nat.le_refl _) (by decide) (by decide) ?_
 intro v T L X q
 obtain ⟨rfl, X⟩ := pureX X q
 show Go p e below _ (T.setTop (mkF m 17 _ [(.int (1 : Int32)), (.int (0 : Int32)), (.int (58 : Int32)), (.ref v0)]))
 refine g_static X (W := 0) [(.ref v0), (.int (58 : Int32)), (.int (0 : Int32)), (.int (1 : Int32))] [] (tb hw 61 rfl) (tb hw 62 rfl) (tb hw 63 rfl) (tb hw 64 rfl) (rIxl l Z aa hw [] v0 _ qc) d5_17 (pc' := 20) rfl (by decide) (by decide) (by decide) rfl rfl rfl (lenOf pd_3 rfl) (Nat.le_refl _) (by decide) (by decide) ?_
 intro v T L X q
 obtain ⟨rfl, X⟩ := pureX X q
 show Go p e below _ (T.setTop (mkF m 20 _ [(.int (-1 : Int32))]))
 refine g_goto X d5_20 (pc' := 36) (by decide) (by decide) ?_
 refine g_ireturn X d5_36 hret hlk (by decide) (by decide) ?_
 exact ⟨rfl, rfl, rfl⟩
theorem d4_0 : decode jdk_42_method_79_code 0 = .ok (.aload_n 0, 1) := by decide +kernel
theorem d4_1 : decode jdk_42_method_79_code 1 = .ok (.iload_n 1, 1) := by decide +kernel
theorem d4_2 : decode jdk_42_method_79_code 2 = .ok (.iconst 0, 1) := by decide +kernel
theorem d4_3 : decode jdk_42_method_79_code 3 = .ok (.invokevirtual 633, 3) := by decide +kernel
theorem d4_6 : decode jdk_42_method_79_code 6 = .ok (.ireturn, 1) := by decide +kernel
theorem ef_rIx1 (m : MethodId) (x0 : Addr) (x1 : Int32) : entryFrame m #[(.ref x0), (.int x1)] 2 = mkF m 0 #[.val (.ref x0), .val (.int x1)] [] := by first | (simp [entryFrame, mkF, argsToLocals, Value.category]; done) | rfl
set_option maxRecDepth 65536 in
set_option maxHeartbeats 40000000 in
theorem rIx1 (l : Launch) (Z : State) (aa : Array Value) (hw : ∀ d ∈ tables_1, d.before aa Z = true) (ws : List Jvm.Cond) (a0 : Addr) (G1 : Int32) (v0 : Addr) (h0 : Heap) (qa : Exa Z h0 a0 "java/lang/String") (qb : Fld Z h0 a0 "java/lang/String" "coder" "B" (.int (0 : Int32))) (qc : Fld Z h0 a0 "java/lang/String" "value" "[B" (.ref v0)) (qd : Av Z h0 v0 .byte [(.int (97 : Int32))]) (qe : Sta Z h0 "java/lang/String" "COMPACT_STRINGS" "Z" (.int G1)) (P5 : ¬ G1 = (0 : Int32)) :
    Rm l Z (⟨"java/lang/String", "indexOf", "(I)I"⟩ : MethodName) jdk_42_method_79_code 2 (some .int) ws ({ frames := 3, cells := 0, slots := 0, locals := 46 } : Room) #[(.ref a0), (.int (58 : Int32))] h0 (Pu (.int (-1 : Int32)) h0) := by
 refine Rm.of (plainFor_of_name pn_0) ?_
 intro p e s m below meth cc T X hnm hret hlk
 refine Go.at_ (ef_rIx1 m a0 (58 : Int32)) ?_
 refine g_aloadN X d4_0 (pc' := 1) rfl rfl rfl ?_
 refine g_iloadN X d4_1 (pc' := 2) rfl rfl ?_
 refine g_iconst X (0 : Int32) d4_2 (pc' := 3) rfl rfl ?_
 refine g_virtual X (W := 0) (a := a0) (C := "java/lang/String") [(.int (58 : Int32)), (.int (0 : Int32))] [] qa (tb hw 38 rfl) (tb hw 39 rfl) (tb hw 41 rfl) (tb hw 40 rfl) (tb hw 5 rfl) (tb hw 42 rfl) (rIx2 l Z aa hw [] a0 G1 v0 _ qa qb qc qd qe P5) d4_3 (pc' := 6) rfl (by decide) (by decide) (by decide) rfl rfl rfl (lenOf pd_2 rfl) (Nat.le_refl _) (by decide) (by decide) ?_
 intro v T L X q
 obtain ⟨rfl, X⟩ := pureX X q
 show Go p e below _ (T.setTop (mkF m 6 _ [(.int (-1 : Int32))]))
 refine g_ireturn X d4_6 hret hlk (by decide) (by decide) ?_
 exact ⟨rfl, rfl, rfl⟩
theorem d14_0 : decode jdk_43_method_13_code 0 = .ok (.aload_n 0, 1) := by decide +kernel
theorem d14_1 : decode jdk_43_method_13_code 1 = .ok (.arraylength, 1) := by decide +kernel
theorem d14_2 : decode jdk_43_method_13_code 2 = .ok (.aload_n 1, 1) := by decide +kernel
theorem d14_3 : decode jdk_43_method_13_code 3 = .ok (.arraylength, 1) := by decide +kernel
theorem d14_4 : decode jdk_43_method_13_code 4 = .ok (.if_icmp .ne 30, 3) := by decide +kernel
theorem d14_34 : decode jdk_43_method_13_code 34 = .ok (.iconst 0, 1) := by decide +kernel
theorem d14_35 : decode jdk_43_method_13_code 35 = .ok (.ireturn, 1) := by decide +kernel
theorem ef_rEql (m : MethodId) (x0 : Addr) (x1 : Addr) : entryFrame m #[(.ref x0), (.ref x1)] 3 = mkF m 0 #[.val (.ref x0), .val (.ref x1), .unset] [] := by first | (simp [entryFrame, mkF, argsToLocals, Value.category]; done) | rfl
set_option maxRecDepth 65536 in
set_option maxHeartbeats 40000000 in
theorem rEql (l : Launch) (Z : State) (aa : Array Value) (hw : ∀ d ∈ tables_1, d.before aa Z = true) (ws : List Jvm.Cond) (v0 : Addr) (v1 : Addr) (h0 : Heap) (qa : Av Z h0 v0 .byte [(.int (97 : Int32))]) (qb : Av Z h0 v1 .byte [(.int (120 : Int32)), (.int (109 : Int32)), (.int (108 : Int32)), (.int (110 : Int32)), (.int (115 : Int32))]) :
    Rm l Z (⟨"java/lang/StringLatin1", "equals", "([B[B)Z"⟩ : MethodName) jdk_43_method_13_code 3 (some .boolean) ws ({ frames := 0, cells := 0, slots := 0, locals := 0 } : Room) #[(.ref v0), (.ref v1)] h0 (Pu (.int (0 : Int32)) h0) := by
 refine Rm.of (plainFor_of_name pn_1) ?_
 intro p e s m below meth cc T X hnm hret hlk
 refine Go.at_ (ef_rEql m v0 v1) ?_
 refine g_aloadN X d14_0 (pc' := 1) rfl rfl rfl ?_
 refine g_arraylength X qa d14_1 (pc' := 2) rfl (z := (1 : Int32)) rfl ?_
 refine g_aloadN X d14_2 (pc' := 3) rfl rfl rfl ?_
 refine g_arraylength X qb d14_3 (pc' := 4) rfl (z := (5 : Int32)) rfl ?_
 refine g_icY X d14_4 (feq (show ¬ ((1 : Int32) = (5 : Int32)) from (by decide))).2 (pc' := 34) (by decide) (by decide) ?_
 refine g_iconst X (0 : Int32) d14_34 (pc' := 35) rfl rfl ?_
 refine g_ireturnN X (t := .boolean) (by simp) d14_35 hret hlk (by decide) (by decide) ?_
 exact ⟨rfl, rfl, rfl⟩
theorem d13_0 : decode jdk_42_method_66_code 0 = .ok (.aload_n 0, 1) := by decide +kernel
theorem d13_1 : decode jdk_42_method_66_code 1 = .ok (.aload_n 1, 1) := by decide +kernel
theorem d13_2 : decode jdk_42_method_66_code 2 = .ok (.if_acmp .ne 5, 3) := by decide +kernel
theorem d13_7 : decode jdk_42_method_66_code 7 = .ok (.aload_n 1, 1) := by decide +kernel
theorem d13_8 : decode jdk_42_method_66_code 8 = .ok (.instanceof 10, 3) := by decide +kernel
theorem d13_11 : decode jdk_42_method_66_code 11 = .ok (.ifCond .eq 43, 3) := by decide +kernel
theorem d13_14 : decode jdk_42_method_66_code 14 = .ok (.aload_n 1, 1) := by decide +kernel
theorem d13_15 : decode jdk_42_method_66_code 15 = .ok (.checkcast 10, 3) := by decide +kernel
theorem d13_18 : decode jdk_42_method_66_code 18 = .ok (.astore_n 2, 1) := by decide +kernel
theorem d13_19 : decode jdk_42_method_66_code 19 = .ok (.getstatic 38, 3) := by decide +kernel
theorem d13_22 : decode jdk_42_method_66_code 22 = .ok (.ifCond .eq 14, 3) := by decide +kernel
theorem d13_25 : decode jdk_42_method_66_code 25 = .ok (.aload_n 0, 1) := by decide +kernel
theorem d13_26 : decode jdk_42_method_66_code 26 = .ok (.getfield 15, 3) := by decide +kernel
theorem d13_29 : decode jdk_42_method_66_code 29 = .ok (.aload_n 2, 1) := by decide +kernel
theorem d13_30 : decode jdk_42_method_66_code 30 = .ok (.getfield 15, 3) := by decide +kernel
theorem d13_33 : decode jdk_42_method_66_code 33 = .ok (.if_icmp .ne 21, 3) := by decide +kernel
theorem d13_36 : decode jdk_42_method_66_code 36 = .ok (.aload_n 0, 1) := by decide +kernel
theorem d13_37 : decode jdk_42_method_66_code 37 = .ok (.getfield 9, 3) := by decide +kernel
theorem d13_40 : decode jdk_42_method_66_code 40 = .ok (.aload_n 2, 1) := by decide +kernel
theorem d13_41 : decode jdk_42_method_66_code 41 = .ok (.getfield 9, 3) := by decide +kernel
theorem d13_44 : decode jdk_42_method_66_code 44 = .ok (.invokestatic 541, 3) := by decide +kernel
theorem pd_6 : parseMethodDescriptor "([B[B)Z" = some ⟨[(.array .byte), (.array .byte)], some .boolean⟩ := by decide +kernel
theorem d13_47 : decode jdk_42_method_66_code 47 = .ok (.ifCond .eq 7, 3) := by decide +kernel
theorem d13_54 : decode jdk_42_method_66_code 54 = .ok (.iconst 0, 1) := by decide +kernel
theorem d13_55 : decode jdk_42_method_66_code 55 = .ok (.ireturn, 1) := by decide +kernel
theorem ef_rEq (m : MethodId) (x0 : Addr) (x1 : Addr) : entryFrame m #[(.ref x0), (.ref x1)] 3 = mkF m 0 #[.val (.ref x0), .val (.ref x1), .unset] [] := by first | (simp [entryFrame, mkF, argsToLocals, Value.category]; done) | rfl
set_option maxRecDepth 65536 in
set_option maxHeartbeats 40000000 in
theorem rEq (l : Launch) (Z : State) (aa : Array Value) (hw : ∀ d ∈ tables_1, d.before aa Z = true) (ws : List Jvm.Cond) (a0 : Addr) (a1 : Addr) (G1 : Int32) (v0 : Addr) (v1 : Addr) (h0 : Heap) (qb : a0 ≠ a1) (qj : Exa Z h0 a0 "java/lang/String") (qc : Fld Z h0 a0 "java/lang/String" "coder" "B" (.int (0 : Int32))) (qd : Fld Z h0 a0 "java/lang/String" "value" "[B" (.ref v0)) (qe : Av Z h0 v0 .byte [(.int (97 : Int32))]) (qa : Exa Z h0 a1 "java/lang/String") (qf : Fld Z h0 a1 "java/lang/String" "coder" "B" (.int (0 : Int32))) (qg : Fld Z h0 a1 "java/lang/String" "value" "[B" (.ref v1)) (qh : Av Z h0 v1 .byte [(.int (120 : Int32)), (.int (109 : Int32)), (.int (108 : Int32)), (.int (110 : Int32)), (.int (115 : Int32))]) (qi : Sta Z h0 "java/lang/String" "COMPACT_STRINGS" "Z" (.int G1)) (P5 : ¬ G1 = (0 : Int32)) :
    Rm l Z (⟨"java/lang/String", "equals", "(Ljava/lang/Object;)Z"⟩ : MethodName) jdk_42_method_66_code 3 (some .boolean) ws ({ frames := 1, cells := 0, slots := 0, locals := 14 } : Room) #[(.ref a0), (.ref a1)] h0 (Pu (.int (0 : Int32)) h0) := by
 refine Rm.of (plainFor_of_name pn_0) ?_
 intro p e s m below meth cc T X hnm hret hlk
 refine Go.at_ (ef_rEq m a0 a1) ?_
 refine g_aloadN X d13_0 (pc' := 1) rfl rfl rfl ?_
 refine g_aloadN X d13_1 (pc' := 2) rfl rfl rfl ?_
 refine g_acmp X d13_2 (pc' := 7) (same := false) rfl rfl (decide_eq_false fun q => qb (Value.ref.inj q)) (by decide) (by decide) ?_
 refine g_aloadN X d13_7 (pc' := 8) rfl rfl rfl ?_
 refine g_instY X (tb hw 85 rfl) (Ins.self qa) d13_8 (pc' := 11) rfl ?_
 intro T X
 refine g_ifN X d13_11 ((if0 _ _).trans (feq (show ¬ ((1 : Int32) = (0 : Int32)) from (by decide))).1) (pc' := 14) rfl ?_
 refine g_aloadN X d13_14 (pc' := 15) rfl rfl rfl ?_
 refine g_checkcast X (tb hw 85 rfl) (Ins.self qa) d13_15 (pc' := 18) rfl ?_
 intro T X
 refine g_astoreN X d13_18 (pc' := 19) (Ls' := #[.val (.ref a0), .val (.ref a1), .val (.ref a1)]) rfl rfl rfl ?_
 refine g_getstatic X (host := "") (Or.inl (tb hw 48 rfl)) Via.refl qi d13_19 (pc' := 22) rfl ?_
 intro T X
 refine g_ifN X d13_22 ((if0 _ _).trans (feq (show ¬ (G1 = (0 : Int32)) from P5)).1) (pc' := 25) rfl ?_
 refine g_aloadN X d13_25 (pc' := 26) rfl rfl rfl ?_
 refine g_getfield X (host := "") (Or.inl (tb hw 49 rfl)) Via.refl qc d13_26 (pc' := 29) rfl ?_
 intro T X
 refine g_aloadN X d13_29 (pc' := 30) rfl rfl rfl ?_
 refine g_getfield X (host := "") (Or.inl (tb hw 49 rfl)) Via.refl qf d13_30 (pc' := 33) rfl ?_
 intro T X
 refine g_icN X d13_33 (teq (show (0 : Int32) = (0 : Int32) from (by decide))).2 (pc' := 36) rfl ?_
 refine g_aloadN X d13_36 (pc' := 37) rfl rfl rfl ?_
 refine g_getfield X (host := "") (Or.inl (tb hw 50 rfl)) Via.refl qd d13_37 (pc' := 40) rfl ?_
 intro T X
 refine g_aloadN X d13_40 (pc' := 41) rfl rfl rfl ?_
 refine g_getfield X (host := "") (Or.inl (tb hw 50 rfl)) Via.refl qg d13_41 (pc' := 44) rfl ?_
 intro T X
 refine g_static X (W := 0) [(.ref v0), (.ref v1)] [] (tb hw 87 rfl) (tb hw 88 rfl) (tb hw 63 rfl) (tb hw 89 rfl) (rEql l Z aa hw [] v0 v1 _ qe qh) d13_44 (pc' := 47) rfl (by decide) (by decide) (by decide) rfl rfl rfl (lenOf pd_6 rfl) (Nat.le_refl _) (by decide) (by decide) ?_
 intro v T L X q
 obtain ⟨rfl, X⟩ := pureX X q
 show Go p e below _ (T.setTop (mkF m 47 _ [(.int (0 : Int32))]))
 refine g_ifY X d13_47 ((if0 _ _).trans (teq (show (0 : Int32) = (0 : Int32) from (by decide))).1) (pc' := 54) (by decide) (by decide) ?_
 refine g_iconst X (0 : Int32) d13_54 (pc' := 55) rfl rfl ?_
 refine g_ireturnN X (t := .boolean) (by simp) d13_55 hret hlk (by decide) (by decide) ?_
 exact ⟨rfl, rfl, rfl⟩
theorem ef_rEqn (m : MethodId) (x0 : Addr) : entryFrame m #[(.ref x0), .null] 3 = mkF m 0 #[.val (.ref x0), .val .null, .unset] [] := by first | (simp [entryFrame, mkF, argsToLocals, Value.category]; done) | rfl
set_option maxRecDepth 65536 in
set_option maxHeartbeats 40000000 in
theorem rEqn (l : Launch) (Z : State) (aa : Array Value) (hw : ∀ d ∈ tables_1, d.before aa Z = true) (ws : List Jvm.Cond) (a0 : Addr) (G1 : Int32) (v0 : Addr) (h0 : Heap) (qa : Exa Z h0 a0 "java/lang/String") (qb : Fld Z h0 a0 "java/lang/String" "coder" "B" (.int (0 : Int32))) (qc : Fld Z h0 a0 "java/lang/String" "value" "[B" (.ref v0)) (qd : Av Z h0 v0 .byte [(.int (120 : Int32)), (.int (109 : Int32)), (.int (108 : Int32)), (.int (110 : Int32)), (.int (115 : Int32))]) (qe : Sta Z h0 "java/lang/String" "COMPACT_STRINGS" "Z" (.int G1)) (P5 : ¬ G1 = (0 : Int32)) :
    Rm l Z (⟨"java/lang/String", "equals", "(Ljava/lang/Object;)Z"⟩ : MethodName) jdk_42_method_66_code 3 (some .boolean) ws ({ frames := 0, cells := 0, slots := 0, locals := 0 } : Room) #[(.ref a0), .null] h0 (Pu (.int (0 : Int32)) h0) := by
 refine Rm.of (plainFor_of_name pn_0) ?_
 intro p e s m below meth cc T X hnm hret hlk
 refine Go.at_ (ef_rEqn m a0) ?_
 refine g_aloadN X d13_0 (pc' := 1) rfl rfl rfl ?_
 refine g_aloadN X d13_1 (pc' := 2) rfl rfl rfl ?_
 refine g_acmp X d13_2 (pc' := 7) (same := false) rfl rfl (decide_eq_false nofun) (by decide) (by decide) ?_
 refine g_aloadN X d13_7 (pc' := 8) rfl rfl rfl ?_
 refine g_instNull X d13_8 (pc' := 11) rfl ?_
 refine g_ifY X d13_11 ((if0 _ _).trans (teq (show (0 : Int32) = (0 : Int32) from (by decide))).1) (pc' := 54) (by decide) (by decide) ?_
 refine g_iconst X (0 : Int32) d13_54 (pc' := 55) rfl rfl ?_
 refine g_ireturnN X (t := .boolean) (by simp) d13_55 hret hlk (by decide) (by decide) ?_
 exact ⟨rfl, rfl, rfl⟩
theorem pn_2 : plainName "com/example/scheherazade/scheherazade/core/XmlName" = true := by first | (simp [plainName, overriddenIn]; done) | decide +kernel
theorem d1_0 : decode prog_20_method_1_code 0 = .ok (.aload_n 0, 1) := by decide +kernel
theorem d1_1 : decode prog_20_method_1_code 1 = .ok (.invokespecial 1, 3) := by decide +kernel
theorem d1_4 : decode prog_20_method_1_code 4 = .ok (.aload_n 0, 1) := by decide +kernel
theorem d1_5 : decode prog_20_method_1_code 5 = .ok (.aload_n 1, 1) := by decide +kernel
theorem d1_6 : decode prog_20_method_1_code 6 = .ok (.putfield 7, 3) := by decide +kernel
theorem d1_9 : decode prog_20_method_1_code 9 = .ok (.aload_n 0, 1) := by decide +kernel
theorem d1_10 : decode prog_20_method_1_code 10 = .ok (.aload_n 2, 1) := by decide +kernel
theorem d1_11 : decode prog_20_method_1_code 11 = .ok (.putfield 13, 3) := by decide +kernel
theorem d1_14 : decode prog_20_method_1_code 14 = .ok (.aload_n 0, 1) := by decide +kernel
theorem d1_15 : decode prog_20_method_1_code 15 = .ok (.iload_n 3, 1) := by decide +kernel
theorem d1_16 : decode prog_20_method_1_code 16 = .ok (.putfield 17, 3) := by decide +kernel
theorem d1_19 : decode prog_20_method_1_code 19 = .ok (.aload_n 0, 1) := by decide +kernel
theorem d1_20 : decode prog_20_method_1_code 20 = .ok (.iload 4, 2) := by decide +kernel
theorem d1_22 : decode prog_20_method_1_code 22 = .ok (.putfield 21, 3) := by decide +kernel
theorem d1_25 : decode prog_20_method_1_code 25 = .ok (.aload_n 2, 1) := by decide +kernel
theorem d1_26 : decode prog_20_method_1_code 26 = .ok (.arraylength, 1) := by decide +kernel
theorem d1_27 : decode prog_20_method_1_code 27 = .ok (.bipush 8, 2) := by decide +kernel
theorem d1_29 : decode prog_20_method_1_code 29 = .ok (.invokestatic 27, 3) := by decide +kernel
theorem d1_32 : decode prog_20_method_1_code 32 = .ok (.istore 5, 2) := by decide +kernel
theorem d1_34 : decode prog_20_method_1_code 34 = .ok (.lconst 0, 1) := by decide +kernel
theorem d1_35 : decode prog_20_method_1_code 35 = .ok (.lstore 6, 2) := by decide +kernel
theorem d1_37 : decode prog_20_method_1_code 37 = .ok (.iload 5, 2) := by decide +kernel
theorem d1_39 : decode prog_20_method_1_code 39 = .ok (.iconst 1, 1) := by decide +kernel
theorem d1_40 : decode prog_20_method_1_code 40 = .ok (.isub, 1) := by decide +kernel
theorem d1_41 : decode prog_20_method_1_code 41 = .ok (.istore 8, 2) := by decide +kernel
theorem d1_43 : decode prog_20_method_1_code 43 = .ok (.iload 8, 2) := by decide +kernel
theorem d1_45 : decode prog_20_method_1_code 45 = .ok (.ifCond .lt 26, 3) := by decide +kernel
theorem d1_71 : decode prog_20_method_1_code 71 = .ok (.aload_n 0, 1) := by decide +kernel
theorem d1_72 : decode prog_20_method_1_code 72 = .ok (.lload 6, 2) := by decide +kernel
theorem d1_74 : decode prog_20_method_1_code 74 = .ok (.putfield 33, 3) := by decide +kernel
theorem d1_77 : decode prog_20_method_1_code 77 = .ok (.aload_n 0, 1) := by decide +kernel
theorem d1_78 : decode prog_20_method_1_code 78 = .ok (.iload 5, 2) := by decide +kernel
theorem d1_80 : decode prog_20_method_1_code 80 = .ok (.bipush 8, 2) := by decide +kernel
theorem d1_82 : decode prog_20_method_1_code 82 = .ok (.if_icmp .ne 9, 3) := by decide +kernel
theorem d1_91 : decode prog_20_method_1_code 91 = .ok (.lconst 1, 1) := by decide +kernel
theorem d1_92 : decode prog_20_method_1_code 92 = .ok (.bipush 8, 2) := by decide +kernel
theorem d1_94 : decode prog_20_method_1_code 94 = .ok (.iload 5, 2) := by decide +kernel
theorem d1_96 : decode prog_20_method_1_code 96 = .ok (.imul, 1) := by decide +kernel
theorem d1_97 : decode prog_20_method_1_code 97 = .ok (.lshl, 1) := by decide +kernel
theorem d1_98 : decode prog_20_method_1_code 98 = .ok (.lconst 1, 1) := by decide +kernel
theorem d1_99 : decode prog_20_method_1_code 99 = .ok (.lsub, 1) := by decide +kernel
theorem d1_100 : decode prog_20_method_1_code 100 = .ok (.putfield 39, 3) := by decide +kernel
theorem d1_103 : decode prog_20_method_1_code 103 = .ok (.aload_n 1, 1) := by decide +kernel
theorem d1_104 : decode prog_20_method_1_code 104 = .ok (.bipush 58, 2) := by decide +kernel
theorem d1_106 : decode prog_20_method_1_code 106 = .ok (.invokevirtual 42, 3) := by decide +kernel
theorem pd_7 : parseMethodDescriptor "(I)I" = some ⟨[.int], some .int⟩ := by decide +kernel
theorem d1_109 : decode prog_20_method_1_code 109 = .ok (.istore 8, 2) := by decide +kernel
theorem d1_111 : decode prog_20_method_1_code 111 = .ok (.iload 8, 2) := by decide +kernel
theorem d1_113 : decode prog_20_method_1_code 113 = .ok (.ifCond .ge 16, 3) := by decide +kernel
theorem d1_116 : decode prog_20_method_1_code 116 = .ok (.aload_n 0, 1) := by decide +kernel
theorem d1_117 : decode prog_20_method_1_code 117 = .ok (.aconst_null, 1) := by decide +kernel
theorem d1_118 : decode prog_20_method_1_code 118 = .ok (.putfield 48, 3) := by decide +kernel
theorem d1_121 : decode prog_20_method_1_code 121 = .ok (.aload_n 0, 1) := by decide +kernel
theorem d1_122 : decode prog_20_method_1_code 122 = .ok (.aload_n 1, 1) := by decide +kernel
theorem d1_123 : decode prog_20_method_1_code 123 = .ok (.putfield 51, 3) := by decide +kernel
theorem d1_126 : decode prog_20_method_1_code 126 = .ok (.goto 29, 3) := by decide +kernel
theorem d1_155 : decode prog_20_method_1_code 155 = .ok (.aload_n 0, 1) := by decide +kernel
theorem d1_156 : decode prog_20_method_1_code 156 = .ok (.aload_n 1, 1) := by decide +kernel
theorem d1_157 : decode prog_20_method_1_code 157 = .ok (.ldc 67, 2) := by decide +kernel
theorem d1_159 : decode prog_20_method_1_code 159 = .ok (.invokevirtual 69, 3) := by decide +kernel
theorem pd_8 : parseMethodDescriptor "(Ljava/lang/Object;)Z" = some ⟨[(.object "java/lang/Object")], some .boolean⟩ := by decide +kernel
theorem d1_162 : decode prog_20_method_1_code 162 = .ok (.ifCond .ne 15, 3) := by decide +kernel
theorem d1_165 : decode prog_20_method_1_code 165 = .ok (.ldc 67, 2) := by decide +kernel
theorem d1_167 : decode prog_20_method_1_code 167 = .ok (.aload_n 0, 1) := by decide +kernel
theorem d1_168 : decode prog_20_method_1_code 168 = .ok (.getfield 48, 3) := by decide +kernel
theorem d1_171 : decode prog_20_method_1_code 171 = .ok (.invokevirtual 69, 3) := by decide +kernel
theorem d1_174 : decode prog_20_method_1_code 174 = .ok (.ifCond .eq 7, 3) := by decide +kernel
theorem d1_181 : decode prog_20_method_1_code 181 = .ok (.iconst 0, 1) := by decide +kernel
theorem d1_182 : decode prog_20_method_1_code 182 = .ok (.putfield 73, 3) := by decide +kernel
theorem d1_185 : decode prog_20_method_1_code 185 = .ok (.return_, 1) := by decide +kernel
theorem ef_rInit0 (m : MethodId) (x0 : Addr) (x1 : Addr) (x2 : Addr) (x3 : Int32) (x4 : Int32) : entryFrame m #[(.ref x0), (.ref x1), (.ref x2), (.int x3), (.int x4)] 9 = mkF m 0 #[.val (.ref x0), .val (.ref x1), .val (.ref x2), .val (.int x3), .val (.int x4), .unset, .unset, .unset, .unset] [] := by first | (simp [entryFrame, mkF, argsToLocals, Value.category]; done) | rfl
set_option maxRecDepth 65536 in
set_option maxHeartbeats 40000000 in
theorem rInit0 (l : Launch) (Z : State) (aa : Array Value) (hw : ∀ d ∈ tables_1, d.before aa Z = true) (ws : List Jvm.Cond) (a0 : Addr) (a1 : Addr) (a2 : Addr) (i3 : Int32) (i4 : Int32) (G1 : Int32) (v1 : Addr) (h0 : Heap) (n0 : Nat) (Z0 : n0 ≤ h0.size) (qa : Exa Z h0 a0 "com/example/scheherazade/scheherazade/core/XmlName") (qy : Fld Z h0 a0 "com/example/scheherazade/scheherazade/core/XmlName" "qualified" "Ljava/lang/String;" .null) (qb : Fld Z h0 a0 "com/example/scheherazade/scheherazade/core/XmlName" "spelling" "[B" .null) (qr : Fld Z h0 a0 "com/example/scheherazade/scheherazade/core/XmlName" "hash" "I" (.int (0 : Int32))) (qq : Fld Z h0 a0 "com/example/scheherazade/scheherazade/core/XmlName" "shared" "Z" (.int (0 : Int32))) (qm : Fld Z h0 a0 "com/example/scheherazade/scheherazade/core/XmlName" "head" "J" (.long (0 : Int64))) (ql : Fld Z h0 a0 "com/example/scheherazade/scheherazade/core/XmlName" "headMask" "J" (.long (0 : Int64))) (qd : Fld Z h0 a0 "com/example/scheherazade/scheherazade/core/XmlName" "prefix" "Ljava/lang/String;" .null) (qk : Fld Z h0 a0 "com/example/scheherazade/scheherazade/core/XmlName" "local" "Ljava/lang/String;" .null) (qf : Fld Z h0 a0 "com/example/scheherazade/scheherazade/core/XmlName" "declaring" "Z" (.int (0 : Int32))) (qe : Exa Z h0 a1 "java/lang/String") (qi : Fld Z h0 a1 "java/lang/String" "coder" "B" (.int (0 : Int32))) (qg : Fld Z h0 a1 "java/lang/String" "value" "[B" (.ref v1)) (qh : Av Z h0 v1 .byte [(.int (97 : Int32))]) (qn : Av Z h0 a2 .byte []) (qo : n0 ≤ a0) (qj : a1 ≠ a0) (qp : v1 ≠ a0) (qs : a2 ≠ a0) (qc : Sta Z h0 "java/lang/String" "COMPACT_STRINGS" "Z" (.int G1)) (P5 : ¬ G1 = (0 : Int32)) :
    RmH l Z consts_1 (⟨"com/example/scheherazade/scheherazade/core/XmlName", "<init>", "(Ljava/lang/String;[BIZ)V"⟩ : MethodName) prog_20_method_1_code 9 none ({ frames := 4, cells := 4, slots := 48, locals := 59 } : Room) #[(.ref a0), (.ref a1), (.ref a2), (.int i3), (.int i4)] h0 (fun v h L => v = none ∧ Fr n0 L ∧ Keep h0 h [a0] ∧ Exa Z h a0 "com/example/scheherazade/scheherazade/core/XmlName" ∧ Fld Z h a0 "com/example/scheherazade/scheherazade/core/XmlName" "spelling" "[B" (.ref a2)) := by
 refine RmH.of (plainFor_of_name pn_2) ?_
 intro p e s m below meth cc T X hS hk HR hnm hret hlk
 refine Go.at_ (ef_rInit0 m a0 a1 a2 i3 i4) ?_
 have N := Fr.nil n0
 have Kp := Keep.refl h0 [a0]
 refine g_aloadN X d1_0 (pc' := 1) rfl rfl rfl ?_
 refine g_initO X (W := 0) (tb hw 14 rfl) (tb hw 15 rfl) (tb hw 16 rfl) d1_1 (pc' := 4) rfl rfl (by decide) (Nat.le_refl _) (by decide) ?_
 intro T X
 refine g_aloadN X d1_4 (pc' := 5) rfl rfl rfl ?_
 refine g_aloadN X d1_5 (pc' := 6) rfl rfl rfl ?_
 refine g_putfield X (host := "") (Or.inl (tb hw 17 rfl)) Via.refl qy qa (Or.inr ⟨(tb hw 18 rfl), rfl, hnm⟩) (tb hw 2 rfl) (ty := (.object "java/lang/String")) (by decide) rfl rfl d1_6 (pc' := 9) rfl ?_
 intro T h X W
 replace HR := HR.trans (CHr.wr W (Safe.exa (State.Warmed39.alike X.2.2.2.2.2.1) qa (by decide) (by decide)) HR.1)
 replace hk := Nat.le_trans hk (Nat.le_of_eq W.size.symm)
 replace qa := qa.wr W
 replace qb := qb.other W (Or.inr (slot_ne (Or.inr (tb hw 20 rfl)) (Or.inr (tb hw 18 rfl)) (by decide) (t := (.array .byte)) (t' := (.object "java/lang/String")) (by decide) (by decide)))
 replace qr := qr.other W (Or.inr (slot_ne (Or.inr (tb hw 22 rfl)) (Or.inr (tb hw 18 rfl)) (by decide) (t := .int) (t' := (.object "java/lang/String")) (by decide) (by decide)))
 replace qq := qq.other W (Or.inr (slot_ne (Or.inr (tb hw 24 rfl)) (Or.inr (tb hw 18 rfl)) (by decide) (t := .boolean) (t' := (.object "java/lang/String")) (by decide) (by decide)))
 replace qm := qm.other W (Or.inr (slot_ne (Or.inr (tb hw 30 rfl)) (Or.inr (tb hw 18 rfl)) (by decide) (t := .long) (t' := (.object "java/lang/String")) (by decide) (by decide)))
 replace ql := ql.other W (Or.inr (slot_ne (Or.inr (tb hw 32 rfl)) (Or.inr (tb hw 18 rfl)) (by decide) (t := .long) (t' := (.object "java/lang/String")) (by decide) (by decide)))
 replace qd := qd.other W (Or.inr (slot_ne (Or.inr (tb hw 76 rfl)) (Or.inr (tb hw 18 rfl)) (by decide) (t := (.object "java/lang/String")) (t' := (.object "java/lang/String")) (by decide) (by decide)))
 replace qk := qk.other W (Or.inr (slot_ne (Or.inr (tb hw 78 rfl)) (Or.inr (tb hw 18 rfl)) (by decide) (t := (.object "java/lang/String")) (t' := (.object "java/lang/String")) (by decide) (by decide)))
 replace qf := qf.other W (Or.inr (slot_ne (Or.inr (tb hw 91 rfl)) (Or.inr (tb hw 18 rfl)) (by decide) (t := .boolean) (t' := (.object "java/lang/String")) (by decide) (by decide)))
 replace qe := qe.wr W
 replace qi := qi.other W (Or.inl qj)
 replace qg := qg.other W (Or.inl qj)
 replace qh := qh.other W qp
 replace qn := qn.other W qs
 replace qc := qc.wr W
 replace Z0 := Nat.le_trans Z0 (Nat.le_of_eq W.size.symm)
 replace N := Fr.snoc X.1 N qo
 replace Kp := Kp.wr W (Or.inl (List.mem_of_getElem? (i := 0) rfl))
 refine g_aloadN X d1_9 (pc' := 10) rfl rfl rfl ?_
 refine g_aloadN X d1_10 (pc' := 11) rfl rfl rfl ?_
 refine g_putfield X (host := "") (Or.inl (tb hw 19 rfl)) Via.refl qb qa (Or.inr ⟨(tb hw 20 rfl), rfl, hnm⟩) (tb hw 2 rfl) (ty := (.array .byte)) (by decide) rfl rfl d1_11 (pc' := 14) rfl ?_
 intro T h X W
 replace HR := HR.trans (CHr.wr W (Safe.exa (State.Warmed39.alike X.2.2.2.2.2.1) qa (by decide) (by decide)) HR.1)
 replace hk := Nat.le_trans hk (Nat.le_of_eq W.size.symm)
 replace qa := qa.wr W
 replace qb := qb.same W
 replace qr := qr.other W (Or.inr (slot_ne (Or.inr (tb hw 22 rfl)) (Or.inr (tb hw 20 rfl)) (by decide) (t := .int) (t' := (.array .byte)) (by decide) (by decide)))
 replace qq := qq.other W (Or.inr (slot_ne (Or.inr (tb hw 24 rfl)) (Or.inr (tb hw 20 rfl)) (by decide) (t := .boolean) (t' := (.array .byte)) (by decide) (by decide)))
 replace qm := qm.other W (Or.inr (slot_ne (Or.inr (tb hw 30 rfl)) (Or.inr (tb hw 20 rfl)) (by decide) (t := .long) (t' := (.array .byte)) (by decide) (by decide)))
 replace ql := ql.other W (Or.inr (slot_ne (Or.inr (tb hw 32 rfl)) (Or.inr (tb hw 20 rfl)) (by decide) (t := .long) (t' := (.array .byte)) (by decide) (by decide)))
 replace qd := qd.other W (Or.inr (slot_ne (Or.inr (tb hw 76 rfl)) (Or.inr (tb hw 20 rfl)) (by decide) (t := (.object "java/lang/String")) (t' := (.array .byte)) (by decide) (by decide)))
 replace qk := qk.other W (Or.inr (slot_ne (Or.inr (tb hw 78 rfl)) (Or.inr (tb hw 20 rfl)) (by decide) (t := (.object "java/lang/String")) (t' := (.array .byte)) (by decide) (by decide)))
 replace qf := qf.other W (Or.inr (slot_ne (Or.inr (tb hw 91 rfl)) (Or.inr (tb hw 20 rfl)) (by decide) (t := .boolean) (t' := (.array .byte)) (by decide) (by decide)))
 replace qe := qe.wr W
 replace qi := qi.other W (Or.inl qj)
 replace qg := qg.other W (Or.inl qj)
 replace qh := qh.other W qp
 replace qn := qn.other W qs
 replace qc := qc.wr W
 replace Z0 := Nat.le_trans Z0 (Nat.le_of_eq W.size.symm)
 replace N := Fr.snoc X.1 N qo
 replace Kp := Kp.wr W (Or.inl (List.mem_of_getElem? (i := 0) rfl))
 refine g_aloadN X d1_14 (pc' := 15) rfl rfl rfl ?_
 refine g_iloadN X d1_15 (pc' := 16) rfl rfl ?_
 refine g_putfield X (host := "") (Or.inl (tb hw 21 rfl)) Via.refl qr qa (Or.inr ⟨(tb hw 22 rfl), rfl, hnm⟩) (tb hw 2 rfl) (ty := .int) (by decide) rfl rfl d1_16 (pc' := 19) rfl ?_
 intro T h X W
 replace HR := HR.trans (CHr.wr W (Safe.exa (State.Warmed39.alike X.2.2.2.2.2.1) qa (by decide) (by decide)) HR.1)
 replace hk := Nat.le_trans hk (Nat.le_of_eq W.size.symm)
 replace qa := qa.wr W
 replace qb := qb.other W (Or.inr (slot_ne (Or.inr (tb hw 20 rfl)) (Or.inr (tb hw 22 rfl)) (by decide) (t := (.array .byte)) (t' := .int) (by decide) (by decide)))
 replace qq := qq.other W (Or.inr (slot_ne (Or.inr (tb hw 24 rfl)) (Or.inr (tb hw 22 rfl)) (by decide) (t := .boolean) (t' := .int) (by decide) (by decide)))
 replace qm := qm.other W (Or.inr (slot_ne (Or.inr (tb hw 30 rfl)) (Or.inr (tb hw 22 rfl)) (by decide) (t := .long) (t' := .int) (by decide) (by decide)))
 replace ql := ql.other W (Or.inr (slot_ne (Or.inr (tb hw 32 rfl)) (Or.inr (tb hw 22 rfl)) (by decide) (t := .long) (t' := .int) (by decide) (by decide)))
 replace qd := qd.other W (Or.inr (slot_ne (Or.inr (tb hw 76 rfl)) (Or.inr (tb hw 22 rfl)) (by decide) (t := (.object "java/lang/String")) (t' := .int) (by decide) (by decide)))
 replace qk := qk.other W (Or.inr (slot_ne (Or.inr (tb hw 78 rfl)) (Or.inr (tb hw 22 rfl)) (by decide) (t := (.object "java/lang/String")) (t' := .int) (by decide) (by decide)))
 replace qf := qf.other W (Or.inr (slot_ne (Or.inr (tb hw 91 rfl)) (Or.inr (tb hw 22 rfl)) (by decide) (t := .boolean) (t' := .int) (by decide) (by decide)))
 replace qe := qe.wr W
 replace qi := qi.other W (Or.inl qj)
 replace qg := qg.other W (Or.inl qj)
 replace qh := qh.other W qp
 replace qn := qn.other W qs
 replace qc := qc.wr W
 replace Z0 := Nat.le_trans Z0 (Nat.le_of_eq W.size.symm)
 replace N := Fr.snoc X.1 N qo
 replace Kp := Kp.wr W (Or.inl (List.mem_of_getElem? (i := 0) rfl))
 refine g_aloadN X d1_19 (pc' := 20) rfl rfl rfl ?_
 refine g_iload X d1_20 (pc' := 22) rfl rfl ?_
 refine g_putfieldN X (tb hw 23 rfl) Via.refl qq qa (Or.inr ⟨(tb hw 24 rfl), rfl, hnm⟩) (tb hw 2 rfl) (ty := .boolean) (v' := (.int (nar .boolean i4))) (by decide) rfl (fits_nar_bool _) d1_22 (pc' := 25) rfl ?_
 intro T h X W
 replace HR := HR.trans (CHr.wr W (Safe.exa (State.Warmed39.alike X.2.2.2.2.2.1) qa (by decide) (by decide)) HR.1)
 replace hk := Nat.le_trans hk (Nat.le_of_eq W.size.symm)
 replace qa := qa.wr W
 replace qb := qb.other W (Or.inr (slot_ne (Or.inr (tb hw 20 rfl)) (Or.inr (tb hw 24 rfl)) (by decide) (t := (.array .byte)) (t' := .boolean) (by decide) (by decide)))
 replace qm := qm.other W (Or.inr (slot_ne (Or.inr (tb hw 30 rfl)) (Or.inr (tb hw 24 rfl)) (by decide) (t := .long) (t' := .boolean) (by decide) (by decide)))
 replace ql := ql.other W (Or.inr (slot_ne (Or.inr (tb hw 32 rfl)) (Or.inr (tb hw 24 rfl)) (by decide) (t := .long) (t' := .boolean) (by decide) (by decide)))
 replace qd := qd.other W (Or.inr (slot_ne (Or.inr (tb hw 76 rfl)) (Or.inr (tb hw 24 rfl)) (by decide) (t := (.object "java/lang/String")) (t' := .boolean) (by decide) (by decide)))
 replace qk := qk.other W (Or.inr (slot_ne (Or.inr (tb hw 78 rfl)) (Or.inr (tb hw 24 rfl)) (by decide) (t := (.object "java/lang/String")) (t' := .boolean) (by decide) (by decide)))
 replace qf := qf.other W (Or.inr (slot_ne (Or.inr (tb hw 91 rfl)) (Or.inr (tb hw 24 rfl)) (by decide) (t := .boolean) (t' := .boolean) (by decide) (by decide)))
 replace qe := qe.wr W
 replace qi := qi.other W (Or.inl qj)
 replace qg := qg.other W (Or.inl qj)
 replace qh := qh.other W qp
 replace qn := qn.other W qs
 replace qc := qc.wr W
 replace Z0 := Nat.le_trans Z0 (Nat.le_of_eq W.size.symm)
 replace N := Fr.snoc X.1 N qo
 replace Kp := Kp.wr W (Or.inl (List.mem_of_getElem? (i := 0) rfl))
 refine g_aloadN X d1_25 (pc' := 26) rfl rfl rfl ?_
 refine g_arraylength X qn d1_26 (pc' := 27) rfl (z := (0 : Int32)) rfl ?_
 refine g_bipush X (8 : Int32) d1_27 (pc' := 29) rfl rfl ?_
 refine g_static X (W := 0) [(.int (0 : Int32)), (.int (8 : Int32))] [] (tb hw 25 rfl) (tb hw 26 rfl) (tb hw 27 rfl) (tb hw 28 rfl) (rMin08 l Z aa hw []  _) d1_29 (pc' := 32) rfl (by decide) (by decide) (by decide) rfl rfl rfl (lenOf pd_2 rfl) (Nat.le_refl _) (by decide) (by decide) ?_
 intro v T L X q
 obtain ⟨rfl, X⟩ := pureX X q
 show Go p e below _ (T.setTop (mkF m 32 _ [(.int (0 : Int32))]))
 refine g_istore X d1_32 (pc' := 34) (Ls' := #[.val (.ref a0), .val (.ref a1), .val (.ref a2), .val (.int i3), .val (.int i4), .val (.int (0 : Int32)), .unset, .unset, .unset]) rfl rfl ?_
 refine g_lconst X (0 : Int64) d1_34 (pc' := 35) rfl rfl ?_
 refine g_lstore X d1_35 (pc' := 37) (Ls' := #[.val (.ref a0), .val (.ref a1), .val (.ref a2), .val (.int i3), .val (.int i4), .val (.int (0 : Int32)), .val (.long (0 : Int64)), .second, .unset]) rfl rfl ?_
 refine g_iload X d1_37 (pc' := 39) rfl rfl ?_
 refine g_iconst X (1 : Int32) d1_39 (pc' := 40) rfl rfl ?_
 refine g_isub X d1_40 (pc' := 41) rfl ?_
 refine Go.lit32 (z := (-1 : Int32)) (by decide) ?_
 refine g_istore X d1_41 (pc' := 43) (Ls' := #[.val (.ref a0), .val (.ref a1), .val (.ref a2), .val (.int i3), .val (.int i4), .val (.int (0 : Int32)), .val (.long (0 : Int64)), .second, .val (.int (-1 : Int32))]) rfl rfl ?_
 refine g_iload X d1_43 (pc' := 45) rfl rfl ?_
 refine g_ifY X d1_45 ((if0 _ _).trans (tlt (show (-1 : Int32) < (0 : Int32) from (by decide))).1) (pc' := 71) (by decide) (by decide) ?_
 refine g_aloadN X d1_71 (pc' := 72) rfl rfl rfl ?_
 refine g_lload X d1_72 (pc' := 74) rfl rfl ?_
 refine g_putfield X (host := "") (Or.inl (tb hw 29 rfl)) Via.refl qm qa (Or.inr ⟨(tb hw 30 rfl), rfl, hnm⟩) (tb hw 2 rfl) (ty := .long) (by decide) rfl rfl d1_74 (pc' := 77) rfl ?_
 intro T h X W
 replace HR := HR.trans (CHr.wr W (Safe.exa (State.Warmed39.alike X.2.2.2.2.2.1) qa (by decide) (by decide)) HR.1)
 replace hk := Nat.le_trans hk (Nat.le_of_eq W.size.symm)
 replace qa := qa.wr W
 replace qb := qb.other W (Or.inr (slot_ne (Or.inr (tb hw 20 rfl)) (Or.inr (tb hw 30 rfl)) (by decide) (t := (.array .byte)) (t' := .long) (by decide) (by decide)))
 replace ql := ql.other W (Or.inr (slot_ne (Or.inr (tb hw 32 rfl)) (Or.inr (tb hw 30 rfl)) (by decide) (t := .long) (t' := .long) (by decide) (by decide)))
 replace qd := qd.other W (Or.inr (slot_ne (Or.inr (tb hw 76 rfl)) (Or.inr (tb hw 30 rfl)) (by decide) (t := (.object "java/lang/String")) (t' := .long) (by decide) (by decide)))
 replace qk := qk.other W (Or.inr (slot_ne (Or.inr (tb hw 78 rfl)) (Or.inr (tb hw 30 rfl)) (by decide) (t := (.object "java/lang/String")) (t' := .long) (by decide) (by decide)))
 replace qf := qf.other W (Or.inr (slot_ne (Or.inr (tb hw 91 rfl)) (Or.inr (tb hw 30 rfl)) (by decide) (t := .boolean) (t' := .long) (by decide) (by decide)))
 replace qe := qe.wr W
 replace qi := qi.other W (Or.inl qj)
 replace qg := qg.other W (Or.inl qj)
 replace qh := qh.other W qp
 replace qc := qc.wr W
 replace Z0 := Nat.le_trans Z0 (Nat.le_of_eq W.size.symm)
 replace N := Fr.snoc X.1 N qo
 replace Kp := Kp.wr W (Or.inl (List.mem_of_getElem? (i := 0) rfl))
 refine g_aloadN X d1_77 (pc' := 78) rfl rfl rfl ?_
 refine g_iload X d1_78 (pc' := 80) rfl rfl ?_
 refine g_bipush X (8 : Int32) d1_80 (pc' := 82) rfl rfl ?_
 refine g_icY X d1_82 (feq (show ¬ ((0 : Int32) = (8 : Int32)) from (by decide))).2 (pc' := 91) (by decide) (by decide) ?_
 refine g_lconst X (1 : Int64) d1_91 (pc' := 92) rfl rfl ?_
 refine g_bipush X (8 : Int32) d1_92 (pc' := 94) rfl rfl ?_
 refine g_iload X d1_94 (pc' := 96) rfl rfl ?_
 refine g_imul X d1_96 (pc' := 97) rfl ?_
 refine Go.lit32 (z := (0 : Int32)) (by decide) ?_
 refine g_lshl X d1_97 (pc' := 98) rfl ?_
 refine Go.lit64 (z := (1 : Int64)) (by decide) ?_
 refine g_lconst X (1 : Int64) d1_98 (pc' := 99) rfl rfl ?_
 refine g_lsub X d1_99 (pc' := 100) rfl ?_
 refine Go.lit64 (z := (0 : Int64)) (by decide) ?_
 refine g_putfield X (host := "") (Or.inl (tb hw 31 rfl)) Via.refl ql qa (Or.inr ⟨(tb hw 32 rfl), rfl, hnm⟩) (tb hw 2 rfl) (ty := .long) (by decide) rfl rfl d1_100 (pc' := 103) rfl ?_
 intro T h X W
 replace HR := HR.trans (CHr.wr W (Safe.exa (State.Warmed39.alike X.2.2.2.2.2.1) qa (by decide) (by decide)) HR.1)
 replace hk := Nat.le_trans hk (Nat.le_of_eq W.size.symm)
 replace qa := qa.wr W
 replace qb := qb.other W (Or.inr (slot_ne (Or.inr (tb hw 20 rfl)) (Or.inr (tb hw 32 rfl)) (by decide) (t := (.array .byte)) (t' := .long) (by decide) (by decide)))
 replace qd := qd.other W (Or.inr (slot_ne (Or.inr (tb hw 76 rfl)) (Or.inr (tb hw 32 rfl)) (by decide) (t := (.object "java/lang/String")) (t' := .long) (by decide) (by decide)))
 replace qk := qk.other W (Or.inr (slot_ne (Or.inr (tb hw 78 rfl)) (Or.inr (tb hw 32 rfl)) (by decide) (t := (.object "java/lang/String")) (t' := .long) (by decide) (by decide)))
 replace qf := qf.other W (Or.inr (slot_ne (Or.inr (tb hw 91 rfl)) (Or.inr (tb hw 32 rfl)) (by decide) (t := .boolean) (t' := .long) (by decide) (by decide)))
 replace qe := qe.wr W
 replace qi := qi.other W (Or.inl qj)
 replace qg := qg.other W (Or.inl qj)
 replace qh := qh.other W qp
 replace qc := qc.wr W
 replace Z0 := Nat.le_trans Z0 (Nat.le_of_eq W.size.symm)
 replace N := Fr.snoc X.1 N qo
 replace Kp := Kp.wr W (Or.inl (List.mem_of_getElem? (i := 0) rfl))
 refine g_aloadN X d1_103 (pc' := 104) rfl rfl rfl ?_
 refine g_bipush X (58 : Int32) d1_104 (pc' := 106) rfl rfl ?_
 refine g_virtual X (W := 0) (a := a1) (C := "java/lang/String") [(.int (58 : Int32))] [] qe (tb hw 33 rfl) (tb hw 34 rfl) (tb hw 36 rfl) (tb hw 35 rfl) (tb hw 5 rfl) (tb hw 37 rfl) (rIx1 l Z aa hw [] a1 G1 v1 _ qe qi qg qh qc P5) d1_106 (pc' := 109) rfl (by decide) (by decide) (by decide) rfl rfl rfl (lenOf pd_7 rfl) (Nat.le_refl _) (by decide) (by decide) ?_
 intro v T L X q
 obtain ⟨rfl, X⟩ := pureX X q
 show Go p e below _ (T.setTop (mkF m 109 _ [(.int (-1 : Int32))]))
 refine g_istore X d1_109 (pc' := 111) (Ls' := #[.val (.ref a0), .val (.ref a1), .val (.ref a2), .val (.int i3), .val (.int i4), .val (.int (0 : Int32)), .val (.long (0 : Int64)), .second, .val (.int (-1 : Int32))]) rfl rfl ?_
 refine g_iload X d1_111 (pc' := 113) rfl rfl ?_
 refine g_ifN X d1_113 ((if0 _ _).trans (tlt (show (-1 : Int32) < (0 : Int32) from (by decide))).2.1) (pc' := 116) rfl ?_
 refine g_aloadN X d1_116 (pc' := 117) rfl rfl rfl ?_
 refine g_aconst_null X d1_117 (pc' := 118) rfl ?_
 refine g_putfield X (host := "") (Or.inl (tb hw 75 rfl)) Via.refl qd qa (Or.inr ⟨(tb hw 76 rfl), rfl, hnm⟩) (tb hw 2 rfl) (ty := (.object "java/lang/String")) (by decide) rfl rfl d1_118 (pc' := 121) rfl ?_
 intro T h X W
 replace HR := HR.trans (CHr.wr W (Safe.exa (State.Warmed39.alike X.2.2.2.2.2.1) qa (by decide) (by decide)) HR.1)
 replace hk := Nat.le_trans hk (Nat.le_of_eq W.size.symm)
 replace qa := qa.wr W
 replace qb := qb.other W (Or.inr (slot_ne (Or.inr (tb hw 20 rfl)) (Or.inr (tb hw 76 rfl)) (by decide) (t := (.array .byte)) (t' := (.object "java/lang/String")) (by decide) (by decide)))
 replace qd := qd.same W
 replace qk := qk.other W (Or.inr (slot_ne (Or.inr (tb hw 78 rfl)) (Or.inr (tb hw 76 rfl)) (by decide) (t := (.object "java/lang/String")) (t' := (.object "java/lang/String")) (by decide) (by decide)))
 replace qf := qf.other W (Or.inr (slot_ne (Or.inr (tb hw 91 rfl)) (Or.inr (tb hw 76 rfl)) (by decide) (t := .boolean) (t' := (.object "java/lang/String")) (by decide) (by decide)))
 replace qe := qe.wr W
 replace qi := qi.other W (Or.inl qj)
 replace qg := qg.other W (Or.inl qj)
 replace qh := qh.other W qp
 replace qc := qc.wr W
 replace Z0 := Nat.le_trans Z0 (Nat.le_of_eq W.size.symm)
 replace N := Fr.snoc X.1 N qo
 replace Kp := Kp.wr W (Or.inl (List.mem_of_getElem? (i := 0) rfl))
 refine g_aloadN X d1_121 (pc' := 122) rfl rfl rfl ?_
 refine g_aloadN X d1_122 (pc' := 123) rfl rfl rfl ?_
 refine g_putfield X (host := "") (Or.inl (tb hw 77 rfl)) Via.refl qk qa (Or.inr ⟨(tb hw 78 rfl), rfl, hnm⟩) (tb hw 2 rfl) (ty := (.object "java/lang/String")) (by decide) rfl rfl d1_123 (pc' := 126) rfl ?_
 intro T h X W
 replace HR := HR.trans (CHr.wr W (Safe.exa (State.Warmed39.alike X.2.2.2.2.2.1) qa (by decide) (by decide)) HR.1)
 replace hk := Nat.le_trans hk (Nat.le_of_eq W.size.symm)
 replace qa := qa.wr W
 replace qb := qb.other W (Or.inr (slot_ne (Or.inr (tb hw 20 rfl)) (Or.inr (tb hw 78 rfl)) (by decide) (t := (.array .byte)) (t' := (.object "java/lang/String")) (by decide) (by decide)))
 replace qd := qd.other W (Or.inr (slot_ne (Or.inr (tb hw 76 rfl)) (Or.inr (tb hw 78 rfl)) (by decide) (t := (.object "java/lang/String")) (t' := (.object "java/lang/String")) (by decide) (by decide)))
 replace qf := qf.other W (Or.inr (slot_ne (Or.inr (tb hw 91 rfl)) (Or.inr (tb hw 78 rfl)) (by decide) (t := .boolean) (t' := (.object "java/lang/String")) (by decide) (by decide)))
 replace qe := qe.wr W
 replace qi := qi.other W (Or.inl qj)
 replace qg := qg.other W (Or.inl qj)
 replace qh := qh.other W qp
 replace qc := qc.wr W
 replace Z0 := Nat.le_trans Z0 (Nat.le_of_eq W.size.symm)
 replace N := Fr.snoc X.1 N qo
 replace Kp := Kp.wr W (Or.inl (List.mem_of_getElem? (i := 0) rfl))
 refine g_goto X d1_126 (pc' := 155) (by decide) (by decide) ?_
 refine g_aloadN X d1_155 (pc' := 156) rfl rfl rfl ?_
 refine g_aloadN X d1_156 (pc' := 157) rfl rfl rfl ?_
 refine g_ldcH X hS hk (elw hw) (List.mem_of_getElem? (i := 0) rfl) HR.1 (tb hw 79 rfl) (sAt hw) (vs := [(.int (120 : Int32)), (.int (109 : Int32)), (.int (108 : Int32)), (.int (110 : Int32)), (.int (115 : Int32))]) (z := (5 : Int32)) ⟨by decide +kernel, by first | rfl | decide +kernel⟩ (by decide) rfl d1_157 (pc' := 159) rfl (n := 20) (by decide +kernel) (by decide) (by decide) (by decide) ?_
 intro qt T h k1 qz X Ex hS hk q0 q1 qv qw HRn SF
 replace qa := qa.ext Ex
 replace qb := qb.ext Ex
 replace qd := qd.ext Ex
 replace qf := qf.ext Ex
 replace qe := qe.ext Ex
 replace qi := qi.ext Ex
 replace qg := qg.ext Ex
 replace qh := qh.ext Ex
 replace qc := qc.ext Ex
 replace Z0 := Nat.le_trans Z0 Ex.1
 replace Kp := Kp.ext Ex
 replace HR := HR.trans HRn
 obtain ⟨q7, q8⟩ := SF a0 (Safe.exa (State.Warmed39.alike X.2.2.2.2.2.1) qa (by decide) (by decide))
 have q2 : a1 ≠ qt := qg.ne qv (fun q => qh.ne qw (by decide) (Value.ref.inj q))
 show Go p e below _ (T.setTop (mkF m 159 _ [(.ref qt), (.ref a1), (.ref a0)]))
 refine g_virtual X (W := 1) (a := a1) (C := "java/lang/String") [(.ref qt)] [(.ref a0)] qe (tb hw 80 rfl) (tb hw 81 rfl) (tb hw 83 rfl) (tb hw 82 rfl) (tb hw 5 rfl) (tb hw 84 rfl) (rEq l Z aa hw [] a1 qt G1 v1 qz _ q2 qe qi qg qh q0 q1 qv qw qc P5) d1_159 (pc' := 162) rfl (by decide) (by decide) (by decide) rfl rfl rfl (lenOf pd_8 rfl) (Nat.le_refl _) (by decide) (by decide) ?_
 intro v T L X q
 obtain ⟨rfl, X⟩ := pureX X q
 show Go p e below _ (T.setTop (mkF m 162 _ [(.int (0 : Int32)), (.ref a0)]))
 refine g_ifN X d1_162 ((if0 _ _).trans (teq (show (0 : Int32) = (0 : Int32) from (by decide))).2) (pc' := 165) rfl ?_
 refine g_ldcH X hS hk (elw hw) (List.mem_of_getElem? (i := 0) rfl) HR.1 (tb hw 79 rfl) (sAt hw) (vs := [(.int (120 : Int32)), (.int (109 : Int32)), (.int (108 : Int32)), (.int (110 : Int32)), (.int (115 : Int32))]) (z := (5 : Int32)) ⟨by decide +kernel, by first | rfl | decide +kernel⟩ (by decide) rfl d1_165 (pc' := 167) rfl (n := 20) (by decide +kernel) (by decide) (by decide) (by decide) ?_
 intro qu T h k1 q3 X Ex hS hk qx q4 q5 q6 HRn SF
 replace qa := qa.ext Ex
 replace qb := qb.ext Ex
 replace qd := qd.ext Ex
 replace qf := qf.ext Ex
 replace qc := qc.ext Ex
 replace Z0 := Nat.le_trans Z0 Ex.1
 replace Kp := Kp.ext Ex
 replace HR := HR.trans HRn
 obtain ⟨q9, ja⟩ := SF a0 (Safe.exa (State.Warmed39.alike X.2.2.2.2.2.1) qa (by decide) (by decide))
 show Go p e below _ (T.setTop (mkF m 167 _ [(.ref qu), (.ref a0)]))
 refine g_aloadN X d1_167 (pc' := 168) rfl rfl rfl ?_
 refine g_getfield X (host := "") (Or.inl (tb hw 75 rfl)) Via.refl qd d1_168 (pc' := 171) rfl ?_
 intro T X
 refine g_virtual X (W := 1) (a := qu) (C := "java/lang/String") [.null] [(.ref a0)] qx (tb hw 80 rfl) (tb hw 81 rfl) (tb hw 83 rfl) (tb hw 82 rfl) (tb hw 5 rfl) (tb hw 84 rfl) (rEqn l Z aa hw [] qu G1 q3 _ qx q4 q5 q6 qc P5) d1_171 (pc' := 174) rfl (by decide) (by decide) (by decide) rfl rfl rfl (lenOf pd_8 rfl) (Nat.le_refl _) (by decide) (by decide) ?_
 intro v T L X q
 obtain ⟨rfl, X⟩ := pureX X q
 show Go p e below _ (T.setTop (mkF m 174 _ [(.int (0 : Int32)), (.ref a0)]))
 refine g_ifY X d1_174 ((if0 _ _).trans (teq (show (0 : Int32) = (0 : Int32) from (by decide))).1) (pc' := 181) (by decide) (by decide) ?_
 refine g_iconst X (0 : Int32) d1_181 (pc' := 182) rfl rfl ?_
 refine g_putfieldN X (tb hw 90 rfl) Via.refl qf qa (Or.inr ⟨(tb hw 91 rfl), rfl, hnm⟩) (tb hw 2 rfl) (ty := .boolean) (v' := (.int (nar .boolean (0 : Int32)))) (by decide) rfl (fits_nar_bool _) d1_182 (pc' := 185) rfl ?_
 intro T h X W
 replace HR := HR.trans (CHr.wr W (Safe.exa (State.Warmed39.alike X.2.2.2.2.2.1) qa (by decide) (by decide)) HR.1)
 replace hk := Nat.le_trans hk (Nat.le_of_eq W.size.symm)
 replace qa := qa.wr W
 replace qb := qb.other W (Or.inr (slot_ne (Or.inr (tb hw 20 rfl)) (Or.inr (tb hw 91 rfl)) (by decide) (t := (.array .byte)) (t' := .boolean) (by decide) (by decide)))
 replace Z0 := Nat.le_trans Z0 (Nat.le_of_eq W.size.symm)
 replace N := Fr.snoc X.1 N qo
 replace Kp := Kp.wr W (Or.inl (List.mem_of_getElem? (i := 0) rfl))
 refine g_returnH X hS hk (elw hw) HR d1_185 hret hlk (by decide) (by decide) ?_
 exact ⟨rfl, N, Kp, qa, qb⟩
theorem d1_48 : decode prog_20_method_1_code 48 = .ok (.lload 6, 2) := by decide +kernel
theorem d1_50 : decode prog_20_method_1_code 50 = .ok (.bipush 8, 2) := by decide +kernel
theorem d1_52 : decode prog_20_method_1_code 52 = .ok (.lshl, 1) := by decide +kernel
theorem d1_53 : decode prog_20_method_1_code 53 = .ok (.aload_n 2, 1) := by decide +kernel
theorem d1_54 : decode prog_20_method_1_code 54 = .ok (.iload 8, 2) := by decide +kernel
theorem d1_56 : decode prog_20_method_1_code 56 = .ok (.baload, 1) := by decide +kernel
theorem d1_57 : decode prog_20_method_1_code 57 = .ok (.sipush 255, 3) := by decide +kernel
theorem d1_60 : decode prog_20_method_1_code 60 = .ok (.iand, 1) := by decide +kernel
theorem d1_61 : decode prog_20_method_1_code 61 = .ok (.i2l, 1) := by decide +kernel
theorem d1_62 : decode prog_20_method_1_code 62 = .ok (.lor, 1) := by decide +kernel
theorem d1_63 : decode prog_20_method_1_code 63 = .ok (.lstore 6, 2) := by decide +kernel
theorem d1_65 : decode prog_20_method_1_code 65 = .ok (.iinc 8 (-1), 3) := by decide +kernel
theorem d1_68 : decode prog_20_method_1_code 68 = .ok (.goto (-25), 3) := by decide +kernel
theorem ef_rInit1 (m : MethodId) (x0 : Addr) (x1 : Addr) (x2 : Addr) (x3 : Int32) (x4 : Int32) : entryFrame m #[(.ref x0), (.ref x1), (.ref x2), (.int x3), (.int x4)] 9 = mkF m 0 #[.val (.ref x0), .val (.ref x1), .val (.ref x2), .val (.int x3), .val (.int x4), .unset, .unset, .unset, .unset] [] := by first | (simp [entryFrame, mkF, argsToLocals, Value.category]; done) | rfl
set_option maxRecDepth 65536 in
set_option maxHeartbeats 40000000 in
theorem rInit1 (l : Launch) (Z : State) (aa : Array Value) (hw : ∀ d ∈ tables_1, d.before aa Z = true) (ws : List Jvm.Cond) (a0 : Addr) (a1 : Addr) (a2 : Addr) (i3 : Int32) (i4 : Int32) (G1 : Int32) (v1 : Addr) (e0 : Int32) (h0 : Heap) (n0 : Nat) (Z0 : n0 ≤ h0.size) (qa : Exa Z h0 a0 "com/example/scheherazade/scheherazade/core/XmlName") (qz : Fld Z h0 a0 "com/example/scheherazade/scheherazade/core/XmlName" "qualified" "Ljava/lang/String;" .null) (qb : Fld Z h0 a0 "com/example/scheherazade/scheherazade/core/XmlName" "spelling" "[B" .null) (qr : Fld Z h0 a0 "com/example/scheherazade/scheherazade/core/XmlName" "hash" "I" (.int (0 : Int32))) (qq : Fld Z h0 a0 "com/example/scheherazade/scheherazade/core/XmlName" "shared" "Z" (.int (0 : Int32))) (qn : Fld Z h0 a0 "com/example/scheherazade/scheherazade/core/XmlName" "head" "J" (.long (0 : Int64))) (ql : Fld Z h0 a0 "com/example/scheherazade/scheherazade/core/XmlName" "headMask" "J" (.long (0 : Int64))) (qd : Fld Z h0 a0 "com/example/scheherazade/scheherazade/core/XmlName" "prefix" "Ljava/lang/String;" .null) (qk : Fld Z h0 a0 "com/example/scheherazade/scheherazade/core/XmlName" "local" "Ljava/lang/String;" .null) (qf : Fld Z h0 a0 "com/example/scheherazade/scheherazade/core/XmlName" "declaring" "Z" (.int (0 : Int32))) (qe : Exa Z h0 a1 "java/lang/String") (qi : Fld Z h0 a1 "java/lang/String" "coder" "B" (.int (0 : Int32))) (qg : Fld Z h0 a1 "java/lang/String" "value" "[B" (.ref v1)) (qh : Av Z h0 v1 .byte [(.int (97 : Int32))]) (qm : Av Z h0 a2 .byte [(.int e0)]) (qo : n0 ≤ a0) (qj : a1 ≠ a0) (qp : v1 ≠ a0) (qs : a2 ≠ a0) (qc : Sta Z h0 "java/lang/String" "COMPACT_STRINGS" "Z" (.int G1)) (P5 : ¬ G1 = (0 : Int32)) :
    RmH l Z consts_1 (⟨"com/example/scheherazade/scheherazade/core/XmlName", "<init>", "(Ljava/lang/String;[BIZ)V"⟩ : MethodName) prog_20_method_1_code 9 none ({ frames := 4, cells := 4, slots := 48, locals := 59 } : Room) #[(.ref a0), (.ref a1), (.ref a2), (.int i3), (.int i4)] h0 (fun v h L => v = none ∧ Fr n0 L ∧ Keep h0 h [a0] ∧ Exa Z h a0 "com/example/scheherazade/scheherazade/core/XmlName" ∧ Fld Z h a0 "com/example/scheherazade/scheherazade/core/XmlName" "spelling" "[B" (.ref a2)) := by
 refine RmH.of (plainFor_of_name pn_2) ?_
 intro p e s m below meth cc T X hS hk HR hnm hret hlk
 refine Go.at_ (ef_rInit1 m a0 a1 a2 i3 i4) ?_
 have N := Fr.nil n0
 have Kp := Keep.refl h0 [a0]
 refine g_aloadN X d1_0 (pc' := 1) rfl rfl rfl ?_
 refine g_initO X (W := 0) (tb hw 14 rfl) (tb hw 15 rfl) (tb hw 16 rfl) d1_1 (pc' := 4) rfl rfl (by decide) (Nat.le_refl _) (by decide) ?_
 intro T X
 refine g_aloadN X d1_4 (pc' := 5) rfl rfl rfl ?_
 refine g_aloadN X d1_5 (pc' := 6) rfl rfl rfl ?_
 refine g_putfield X (host := "") (Or.inl (tb hw 17 rfl)) Via.refl qz qa (Or.inr ⟨(tb hw 18 rfl), rfl, hnm⟩) (tb hw 2 rfl) (ty := (.object "java/lang/String")) (by decide) rfl rfl d1_6 (pc' := 9) rfl ?_
 intro T h X W
 replace HR := HR.trans (CHr.wr W (Safe.exa (State.Warmed39.alike X.2.2.2.2.2.1) qa (by decide) (by decide)) HR.1)
 replace hk := Nat.le_trans hk (Nat.le_of_eq W.size.symm)
 replace qa := qa.wr W
 replace qb := qb.other W (Or.inr (slot_ne (Or.inr (tb hw 20 rfl)) (Or.inr (tb hw 18 rfl)) (by decide) (t := (.array .byte)) (t' := (.object "java/lang/String")) (by decide) (by decide)))
 replace qr := qr.other W (Or.inr (slot_ne (Or.inr (tb hw 22 rfl)) (Or.inr (tb hw 18 rfl)) (by decide) (t := .int) (t' := (.object "java/lang/String")) (by decide) (by decide)))
 replace qq := qq.other W (Or.inr (slot_ne (Or.inr (tb hw 24 rfl)) (Or.inr (tb hw 18 rfl)) (by decide) (t := .boolean) (t' := (.object "java/lang/String")) (by decide) (by decide)))
 replace qn := qn.other W (Or.inr (slot_ne (Or.inr (tb hw 30 rfl)) (Or.inr (tb hw 18 rfl)) (by decide) (t := .long) (t' := (.object "java/lang/String")) (by decide) (by decide)))
 replace ql := ql.other W (Or.inr (slot_ne (Or.inr (tb hw 32 rfl)) (Or.inr (tb hw 18 rfl)) (by decide) (t := .long) (t' := (.object "java/lang/String")) (by decide) (by decide)))
 replace qd := qd.other W (Or.inr (slot_ne (Or.inr (tb hw 76 rfl)) (Or.inr (tb hw 18 rfl)) (by decide) (t := (.object "java/lang/String")) (t' := (.object "java/lang/String")) (by decide) (by decide)))
 replace qk := qk.other W (Or.inr (slot_ne (Or.inr (tb hw 78 rfl)) (Or.inr (tb hw 18 rfl)) (by decide) (t := (.object "java/lang/String")) (t' := (.object "java/lang/String")) (by decide) (by decide)))
 replace qf := qf.other W (Or.inr (slot_ne (Or.inr (tb hw 91 rfl)) (Or.inr (tb hw 18 rfl)) (by decide) (t := .boolean) (t' := (.object "java/lang/String")) (by decide) (by decide)))
 replace qe := qe.wr W
 replace qi := qi.other W (Or.inl qj)
 replace qg := qg.other W (Or.inl qj)
 replace qh := qh.other W qp
 replace qm := qm.other W qs
 replace qc := qc.wr W
 replace Z0 := Nat.le_trans Z0 (Nat.le_of_eq W.size.symm)
 replace N := Fr.snoc X.1 N qo
 replace Kp := Kp.wr W (Or.inl (List.mem_of_getElem? (i := 0) rfl))
 refine g_aloadN X d1_9 (pc' := 10) rfl rfl rfl ?_
 refine g_aloadN X d1_10 (pc' := 11) rfl rfl rfl ?_
 refine g_putfield X (host := "") (Or.inl (tb hw 19 rfl)) Via.refl qb qa (Or.inr ⟨(tb hw 20 rfl), rfl, hnm⟩) (tb hw 2 rfl) (ty := (.array .byte)) (by decide) rfl rfl d1_11 (pc' := 14) rfl ?_
 intro T h X W
 replace HR := HR.trans (CHr.wr W (Safe.exa (State.Warmed39.alike X.2.2.2.2.2.1) qa (by decide) (by decide)) HR.1)
 replace hk := Nat.le_trans hk (Nat.le_of_eq W.size.symm)
 replace qa := qa.wr W
 replace qb := qb.same W
 replace qr := qr.other W (Or.inr (slot_ne (Or.inr (tb hw 22 rfl)) (Or.inr (tb hw 20 rfl)) (by decide) (t := .int) (t' := (.array .byte)) (by decide) (by decide)))
 replace qq := qq.other W (Or.inr (slot_ne (Or.inr (tb hw 24 rfl)) (Or.inr (tb hw 20 rfl)) (by decide) (t := .boolean) (t' := (.array .byte)) (by decide) (by decide)))
 replace qn := qn.other W (Or.inr (slot_ne (Or.inr (tb hw 30 rfl)) (Or.inr (tb hw 20 rfl)) (by decide) (t := .long) (t' := (.array .byte)) (by decide) (by decide)))
 replace ql := ql.other W (Or.inr (slot_ne (Or.inr (tb hw 32 rfl)) (Or.inr (tb hw 20 rfl)) (by decide) (t := .long) (t' := (.array .byte)) (by decide) (by decide)))
 replace qd := qd.other W (Or.inr (slot_ne (Or.inr (tb hw 76 rfl)) (Or.inr (tb hw 20 rfl)) (by decide) (t := (.object "java/lang/String")) (t' := (.array .byte)) (by decide) (by decide)))
 replace qk := qk.other W (Or.inr (slot_ne (Or.inr (tb hw 78 rfl)) (Or.inr (tb hw 20 rfl)) (by decide) (t := (.object "java/lang/String")) (t' := (.array .byte)) (by decide) (by decide)))
 replace qf := qf.other W (Or.inr (slot_ne (Or.inr (tb hw 91 rfl)) (Or.inr (tb hw 20 rfl)) (by decide) (t := .boolean) (t' := (.array .byte)) (by decide) (by decide)))
 replace qe := qe.wr W
 replace qi := qi.other W (Or.inl qj)
 replace qg := qg.other W (Or.inl qj)
 replace qh := qh.other W qp
 replace qm := qm.other W qs
 replace qc := qc.wr W
 replace Z0 := Nat.le_trans Z0 (Nat.le_of_eq W.size.symm)
 replace N := Fr.snoc X.1 N qo
 replace Kp := Kp.wr W (Or.inl (List.mem_of_getElem? (i := 0) rfl))
 refine g_aloadN X d1_14 (pc' := 15) rfl rfl rfl ?_
 refine g_iloadN X d1_15 (pc' := 16) rfl rfl ?_
 refine g_putfield X (host := "") (Or.inl (tb hw 21 rfl)) Via.refl qr qa (Or.inr ⟨(tb hw 22 rfl), rfl, hnm⟩) (tb hw 2 rfl) (ty := .int) (by decide) rfl rfl d1_16 (pc' := 19) rfl ?_
 intro T h X W
 replace HR := HR.trans (CHr.wr W (Safe.exa (State.Warmed39.alike X.2.2.2.2.2.1) qa (by decide) (by decide)) HR.1)
 replace hk := Nat.le_trans hk (Nat.le_of_eq W.size.symm)
 replace qa := qa.wr W
 replace qb := qb.other W (Or.inr (slot_ne (Or.inr (tb hw 20 rfl)) (Or.inr (tb hw 22 rfl)) (by decide) (t := (.array .byte)) (t' := .int) (by decide) (by decide)))
 replace qq := qq.other W (Or.inr (slot_ne (Or.inr (tb hw 24 rfl)) (Or.inr (tb hw 22 rfl)) (by decide) (t := .boolean) (t' := .int) (by decide) (by decide)))
 replace qn := qn.other W (Or.inr (slot_ne (Or.inr (tb hw 30 rfl)) (Or.inr (tb hw 22 rfl)) (by decide) (t := .long) (t' := .int) (by decide) (by decide)))
 replace ql := ql.other W (Or.inr (slot_ne (Or.inr (tb hw 32 rfl)) (Or.inr (tb hw 22 rfl)) (by decide) (t := .long) (t' := .int) (by decide) (by decide)))
 replace qd := qd.other W (Or.inr (slot_ne (Or.inr (tb hw 76 rfl)) (Or.inr (tb hw 22 rfl)) (by decide) (t := (.object "java/lang/String")) (t' := .int) (by decide) (by decide)))
 replace qk := qk.other W (Or.inr (slot_ne (Or.inr (tb hw 78 rfl)) (Or.inr (tb hw 22 rfl)) (by decide) (t := (.object "java/lang/String")) (t' := .int) (by decide) (by decide)))
 replace qf := qf.other W (Or.inr (slot_ne (Or.inr (tb hw 91 rfl)) (Or.inr (tb hw 22 rfl)) (by decide) (t := .boolean) (t' := .int) (by decide) (by decide)))
 replace qe := qe.wr W
 replace qi := qi.other W (Or.inl qj)
 replace qg := qg.other W (Or.inl qj)
 replace qh := qh.other W qp
 replace qm := qm.other W qs
 replace qc := qc.wr W
 replace Z0 := Nat.le_trans Z0 (Nat.le_of_eq W.size.symm)
 replace N := Fr.snoc X.1 N qo
 replace Kp := Kp.wr W (Or.inl (List.mem_of_getElem? (i := 0) rfl))
 refine g_aloadN X d1_19 (pc' := 20) rfl rfl rfl ?_
 refine g_iload X d1_20 (pc' := 22) rfl rfl ?_
 refine g_putfieldN X (tb hw 23 rfl) Via.refl qq qa (Or.inr ⟨(tb hw 24 rfl), rfl, hnm⟩) (tb hw 2 rfl) (ty := .boolean) (v' := (.int (nar .boolean i4))) (by decide) rfl (fits_nar_bool _) d1_22 (pc' := 25) rfl ?_
 intro T h X W
 replace HR := HR.trans (CHr.wr W (Safe.exa (State.Warmed39.alike X.2.2.2.2.2.1) qa (by decide) (by decide)) HR.1)
 replace hk := Nat.le_trans hk (Nat.le_of_eq W.size.symm)
 replace qa := qa.wr W
 replace qb := qb.other W (Or.inr (slot_ne (Or.inr (tb hw 20 rfl)) (Or.inr (tb hw 24 rfl)) (by decide) (t := (.array .byte)) (t' := .boolean) (by decide) (by decide)))
 replace qn := qn.other W (Or.inr (slot_ne (Or.inr (tb hw 30 rfl)) (Or.inr (tb hw 24 rfl)) (by decide) (t := .long) (t' := .boolean) (by decide) (by decide)))
 replace ql := ql.other W (Or.inr (slot_ne (Or.inr (tb hw 32 rfl)) (Or.inr (tb hw 24 rfl)) (by decide) (t := .long) (t' := .boolean) (by decide) (by decide)))
 replace qd := qd.other W (Or.inr (slot_ne (Or.inr (tb hw 76 rfl)) (Or.inr (tb hw 24 rfl)) (by decide) (t := (.object "java/lang/String")) (t' := .boolean) (by decide) (by decide)))
 replace qk := qk.other W (Or.inr (slot_ne (Or.inr (tb hw 78 rfl)) (Or.inr (tb hw 24 rfl)) (by decide) (t := (.object "java/lang/String")) (t' := .boolean) (by decide) (by decide)))
 replace qf := qf.other W (Or.inr (slot_ne (Or.inr (tb hw 91 rfl)) (Or.inr (tb hw 24 rfl)) (by decide) (t := .boolean) (t' := .boolean) (by decide) (by decide)))
 replace qe := qe.wr W
 replace qi := qi.other W (Or.inl qj)
 replace qg := qg.other W (Or.inl qj)
 replace qh := qh.other W qp
 replace qm := qm.other W qs
 replace qc := qc.wr W
 replace Z0 := Nat.le_trans Z0 (Nat.le_of_eq W.size.symm)
 replace N := Fr.snoc X.1 N qo
 replace Kp := Kp.wr W (Or.inl (List.mem_of_getElem? (i := 0) rfl))
 refine g_aloadN X d1_25 (pc' := 26) rfl rfl rfl ?_
 refine g_arraylength X qm d1_26 (pc' := 27) rfl (z := (1 : Int32)) rfl ?_
 refine g_bipush X (8 : Int32) d1_27 (pc' := 29) rfl rfl ?_
 refine g_static X (W := 0) [(.int (1 : Int32)), (.int (8 : Int32))] [] (tb hw 25 rfl) (tb hw 26 rfl) (tb hw 27 rfl) (tb hw 28 rfl) (rMin18 l Z aa hw []  _) d1_29 (pc' := 32) rfl (by decide) (by decide) (by decide) rfl rfl rfl (lenOf pd_2 rfl) (Nat.le_refl _) (by decide) (by decide) ?_
 intro v T L X q
 obtain ⟨rfl, X⟩ := pureX X q
 show Go p e below _ (T.setTop (mkF m 32 _ [(.int (1 : Int32))]))
 refine g_istore X d1_32 (pc' := 34) (Ls' := #[.val (.ref a0), .val (.ref a1), .val (.ref a2), .val (.int i3), .val (.int i4), .val (.int (1 : Int32)), .unset, .unset, .unset]) rfl rfl ?_
 refine g_lconst X (0 : Int64) d1_34 (pc' := 35) rfl rfl ?_
 refine g_lstore X d1_35 (pc' := 37) (Ls' := #[.val (.ref a0), .val (.ref a1), .val (.ref a2), .val (.int i3), .val (.int i4), .val (.int (1 : Int32)), .val (.long (0 : Int64)), .second, .unset]) rfl rfl ?_
 refine g_iload X d1_37 (pc' := 39) rfl rfl ?_
 refine g_iconst X (1 : Int32) d1_39 (pc' := 40) rfl rfl ?_
 refine g_isub X d1_40 (pc' := 41) rfl ?_
 refine Go.lit32 (z := (0 : Int32)) (by decide) ?_
 refine g_istore X d1_41 (pc' := 43) (Ls' := #[.val (.ref a0), .val (.ref a1), .val (.ref a2), .val (.int i3), .val (.int i4), .val (.int (1 : Int32)), .val (.long (0 : Int64)), .second, .val (.int (0 : Int32))]) rfl rfl ?_
 refine g_iload X d1_43 (pc' := 45) rfl rfl ?_
 refine g_ifN X d1_45 ((if0 _ _).trans (flt (show ¬ ((0 : Int32) < (0 : Int32)) from (by decide))).1) (pc' := 48) rfl ?_
 refine g_lload X d1_48 (pc' := 50) rfl rfl ?_
 refine g_bipush X (8 : Int32) d1_50 (pc' := 52) rfl rfl ?_
 refine g_lshl X d1_52 (pc' := 53) rfl ?_
 refine Go.lit64 (z := (0 : Int64)) (by decide) ?_
 refine g_aloadN X d1_53 (pc' := 54) rfl rfl rfl ?_
 refine g_iload X d1_54 (pc' := 56) rfl rfl ?_
 refine g_baload X qm 0 d1_56 (pc' := 57) rfl (by decide) (by decide) rfl ?_
 refine g_sipush X (255 : Int32) d1_57 (pc' := 60) rfl rfl ?_
 refine g_iand X d1_60 (pc' := 61) rfl ?_
 refine g_i2l X d1_61 (pc' := 62) rfl ?_
 refine g_lor X d1_62 (pc' := 63) rfl ?_
 generalize q0 : ((0 : Int64) ||| ((e0 &&& (255 : Int32)).toInt64)) = qu
 refine g_lstore X d1_63 (pc' := 65) (Ls' := #[.val (.ref a0), .val (.ref a1), .val (.ref a2), .val (.int i3), .val (.int i4), .val (.int (1 : Int32)), .val (.long qu), .second, .val (.int (0 : Int32))]) rfl rfl ?_
 refine g_iinc X d1_65 (pc' := 68) (q := (-1 : Int32)) (Ls' := #[.val (.ref a0), .val (.ref a1), .val (.ref a2), .val (.int i3), .val (.int i4), .val (.int (1 : Int32)), .val (.long qu), .second, .val (.int (-1 : Int32))]) rfl rfl rfl rfl ?_
 refine g_goto X d1_68 (pc' := 43) (by decide) (by decide) ?_
 refine g_iload X d1_43 (pc' := 45) rfl rfl ?_
 refine g_ifY X d1_45 ((if0 _ _).trans (tlt (show (-1 : Int32) < (0 : Int32) from (by decide))).1) (pc' := 71) (by decide) (by decide) ?_
 refine g_aloadN X d1_71 (pc' := 72) rfl rfl rfl ?_
 refine g_lload X d1_72 (pc' := 74) rfl rfl ?_
 refine g_putfield X (host := "") (Or.inl (tb hw 29 rfl)) Via.refl qn qa (Or.inr ⟨(tb hw 30 rfl), rfl, hnm⟩) (tb hw 2 rfl) (ty := .long) (by decide) rfl rfl d1_74 (pc' := 77) rfl ?_
 intro T h X W
 replace HR := HR.trans (CHr.wr W (Safe.exa (State.Warmed39.alike X.2.2.2.2.2.1) qa (by decide) (by decide)) HR.1)
 replace hk := Nat.le_trans hk (Nat.le_of_eq W.size.symm)
 replace qa := qa.wr W
 replace qb := qb.other W (Or.inr (slot_ne (Or.inr (tb hw 20 rfl)) (Or.inr (tb hw 30 rfl)) (by decide) (t := (.array .byte)) (t' := .long) (by decide) (by decide)))
 replace ql := ql.other W (Or.inr (slot_ne (Or.inr (tb hw 32 rfl)) (Or.inr (tb hw 30 rfl)) (by decide) (t := .long) (t' := .long) (by decide) (by decide)))
 replace qd := qd.other W (Or.inr (slot_ne (Or.inr (tb hw 76 rfl)) (Or.inr (tb hw 30 rfl)) (by decide) (t := (.object "java/lang/String")) (t' := .long) (by decide) (by decide)))
 replace qk := qk.other W (Or.inr (slot_ne (Or.inr (tb hw 78 rfl)) (Or.inr (tb hw 30 rfl)) (by decide) (t := (.object "java/lang/String")) (t' := .long) (by decide) (by decide)))
 replace qf := qf.other W (Or.inr (slot_ne (Or.inr (tb hw 91 rfl)) (Or.inr (tb hw 30 rfl)) (by decide) (t := .boolean) (t' := .long) (by decide) (by decide)))
 replace qe := qe.wr W
 replace qi := qi.other W (Or.inl qj)
 replace qg := qg.other W (Or.inl qj)
 replace qh := qh.other W qp
 replace qc := qc.wr W
 replace Z0 := Nat.le_trans Z0 (Nat.le_of_eq W.size.symm)
 replace N := Fr.snoc X.1 N qo
 replace Kp := Kp.wr W (Or.inl (List.mem_of_getElem? (i := 0) rfl))
 refine g_aloadN X d1_77 (pc' := 78) rfl rfl rfl ?_
 refine g_iload X d1_78 (pc' := 80) rfl rfl ?_
 refine g_bipush X (8 : Int32) d1_80 (pc' := 82) rfl rfl ?_
 refine g_icY X d1_82 (feq (show ¬ ((1 : Int32) = (8 : Int32)) from (by decide))).2 (pc' := 91) (by decide) (by decide) ?_
 refine g_lconst X (1 : Int64) d1_91 (pc' := 92) rfl rfl ?_
 refine g_bipush X (8 : Int32) d1_92 (pc' := 94) rfl rfl ?_
 refine g_iload X d1_94 (pc' := 96) rfl rfl ?_
 refine g_imul X d1_96 (pc' := 97) rfl ?_
 refine Go.lit32 (z := (8 : Int32)) (by decide) ?_
 refine g_lshl X d1_97 (pc' := 98) rfl ?_
 refine Go.lit64 (z := (256 : Int64)) (by decide) ?_
 refine g_lconst X (1 : Int64) d1_98 (pc' := 99) rfl rfl ?_
 refine g_lsub X d1_99 (pc' := 100) rfl ?_
 refine Go.lit64 (z := (255 : Int64)) (by decide) ?_
 refine g_putfield X (host := "") (Or.inl (tb hw 31 rfl)) Via.refl ql qa (Or.inr ⟨(tb hw 32 rfl), rfl, hnm⟩) (tb hw 2 rfl) (ty := .long) (by decide) rfl rfl d1_100 (pc' := 103) rfl ?_
 intro T h X W
 replace HR := HR.trans (CHr.wr W (Safe.exa (State.Warmed39.alike X.2.2.2.2.2.1) qa (by decide) (by decide)) HR.1)
 replace hk := Nat.le_trans hk (Nat.le_of_eq W.size.symm)
 replace qa := qa.wr W
 replace qb := qb.other W (Or.inr (slot_ne (Or.inr (tb hw 20 rfl)) (Or.inr (tb hw 32 rfl)) (by decide) (t := (.array .byte)) (t' := .long) (by decide) (by decide)))
 replace qd := qd.other W (Or.inr (slot_ne (Or.inr (tb hw 76 rfl)) (Or.inr (tb hw 32 rfl)) (by decide) (t := (.object "java/lang/String")) (t' := .long) (by decide) (by decide)))
 replace qk := qk.other W (Or.inr (slot_ne (Or.inr (tb hw 78 rfl)) (Or.inr (tb hw 32 rfl)) (by decide) (t := (.object "java/lang/String")) (t' := .long) (by decide) (by decide)))
 replace qf := qf.other W (Or.inr (slot_ne (Or.inr (tb hw 91 rfl)) (Or.inr (tb hw 32 rfl)) (by decide) (t := .boolean) (t' := .long) (by decide) (by decide)))
 replace qe := qe.wr W
 replace qi := qi.other W (Or.inl qj)
 replace qg := qg.other W (Or.inl qj)
 replace qh := qh.other W qp
 replace qc := qc.wr W
 replace Z0 := Nat.le_trans Z0 (Nat.le_of_eq W.size.symm)
 replace N := Fr.snoc X.1 N qo
 replace Kp := Kp.wr W (Or.inl (List.mem_of_getElem? (i := 0) rfl))
 refine g_aloadN X d1_103 (pc' := 104) rfl rfl rfl ?_
 refine g_bipush X (58 : Int32) d1_104 (pc' := 106) rfl rfl ?_
 refine g_virtual X (W := 0) (a := a1) (C := "java/lang/String") [(.int (58 : Int32))] [] qe (tb hw 33 rfl) (tb hw 34 rfl) (tb hw 36 rfl) (tb hw 35 rfl) (tb hw 5 rfl) (tb hw 37 rfl) (rIx1 l Z aa hw [] a1 G1 v1 _ qe qi qg qh qc P5) d1_106 (pc' := 109) rfl (by decide) (by decide) (by decide) rfl rfl rfl (lenOf pd_7 rfl) (Nat.le_refl _) (by decide) (by decide) ?_
 intro v T L X q
 obtain ⟨rfl, X⟩ := pureX X q
 show Go p e below _ (T.setTop (mkF m 109 _ [(.int (-1 : Int32))]))
 refine g_istore X d1_109 (pc' := 111) (Ls' := #[.val (.ref a0), .val (.ref a1), .val (.ref a2), .val (.int i3), .val (.int i4), .val (.int (1 : Int32)), .val (.long qu), .second, .val (.int (-1 : Int32))]) rfl rfl ?_
 refine g_iload X d1_111 (pc' := 113) rfl rfl ?_
 refine g_ifN X d1_113 ((if0 _ _).trans (tlt (show (-1 : Int32) < (0 : Int32) from (by decide))).2.1) (pc' := 116) rfl ?_
 refine g_aloadN X d1_116 (pc' := 117) rfl rfl rfl ?_
 refine g_aconst_null X d1_117 (pc' := 118) rfl ?_
 refine g_putfield X (host := "") (Or.inl (tb hw 75 rfl)) Via.refl qd qa (Or.inr ⟨(tb hw 76 rfl), rfl, hnm⟩) (tb hw 2 rfl) (ty := (.object "java/lang/String")) (by decide) rfl rfl d1_118 (pc' := 121) rfl ?_
 intro T h X W
 replace HR := HR.trans (CHr.wr W (Safe.exa (State.Warmed39.alike X.2.2.2.2.2.1) qa (by decide) (by decide)) HR.1)
 replace hk := Nat.le_trans hk (Nat.le_of_eq W.size.symm)
 replace qa := qa.wr W
 replace qb := qb.other W (Or.inr (slot_ne (Or.inr (tb hw 20 rfl)) (Or.inr (tb hw 76 rfl)) (by decide) (t := (.array .byte)) (t' := (.object "java/lang/String")) (by decide) (by decide)))
 replace qd := qd.same W
 replace qk := qk.other W (Or.inr (slot_ne (Or.inr (tb hw 78 rfl)) (Or.inr (tb hw 76 rfl)) (by decide) (t := (.object "java/lang/String")) (t' := (.object "java/lang/String")) (by decide) (by decide)))
 replace qf := qf.other W (Or.inr (slot_ne (Or.inr (tb hw 91 rfl)) (Or.inr (tb hw 76 rfl)) (by decide) (t := .boolean) (t' := (.object "java/lang/String")) (by decide) (by decide)))
 replace qe := qe.wr W
 replace qi := qi.other W (Or.inl qj)
 replace qg := qg.other W (Or.inl qj)
 replace qh := qh.other W qp
 replace qc := qc.wr W
 replace Z0 := Nat.le_trans Z0 (Nat.le_of_eq W.size.symm)
 replace N := Fr.snoc X.1 N qo
 replace Kp := Kp.wr W (Or.inl (List.mem_of_getElem? (i := 0) rfl))
 refine g_aloadN X d1_121 (pc' := 122) rfl rfl rfl ?_
 refine g_aloadN X d1_122 (pc' := 123) rfl rfl rfl ?_
 refine g_putfield X (host := "") (Or.inl (tb hw 77 rfl)) Via.refl qk qa (Or.inr ⟨(tb hw 78 rfl), rfl, hnm⟩) (tb hw 2 rfl) (ty := (.object "java/lang/String")) (by decide) rfl rfl d1_123 (pc' := 126) rfl ?_
 intro T h X W
 replace HR := HR.trans (CHr.wr W (Safe.exa (State.Warmed39.alike X.2.2.2.2.2.1) qa (by decide) (by decide)) HR.1)
 replace hk := Nat.le_trans hk (Nat.le_of_eq W.size.symm)
 replace qa := qa.wr W
 replace qb := qb.other W (Or.inr (slot_ne (Or.inr (tb hw 20 rfl)) (Or.inr (tb hw 78 rfl)) (by decide) (t := (.array .byte)) (t' := (.object "java/lang/String")) (by decide) (by decide)))
 replace qd := qd.other W (Or.inr (slot_ne (Or.inr (tb hw 76 rfl)) (Or.inr (tb hw 78 rfl)) (by decide) (t := (.object "java/lang/String")) (t' := (.object "java/lang/String")) (by decide) (by decide)))
 replace qf := qf.other W (Or.inr (slot_ne (Or.inr (tb hw 91 rfl)) (Or.inr (tb hw 78 rfl)) (by decide) (t := .boolean) (t' := (.object "java/lang/String")) (by decide) (by decide)))
 replace qe := qe.wr W
 replace qi := qi.other W (Or.inl qj)
 replace qg := qg.other W (Or.inl qj)
 replace qh := qh.other W qp
 replace qc := qc.wr W
 replace Z0 := Nat.le_trans Z0 (Nat.le_of_eq W.size.symm)
 replace N := Fr.snoc X.1 N qo
 replace Kp := Kp.wr W (Or.inl (List.mem_of_getElem? (i := 0) rfl))
 refine g_goto X d1_126 (pc' := 155) (by decide) (by decide) ?_
 refine g_aloadN X d1_155 (pc' := 156) rfl rfl rfl ?_
 refine g_aloadN X d1_156 (pc' := 157) rfl rfl rfl ?_
 refine g_ldcH X hS hk (elw hw) (List.mem_of_getElem? (i := 0) rfl) HR.1 (tb hw 79 rfl) (sAt hw) (vs := [(.int (120 : Int32)), (.int (109 : Int32)), (.int (108 : Int32)), (.int (110 : Int32)), (.int (115 : Int32))]) (z := (5 : Int32)) ⟨by decide +kernel, by first | rfl | decide +kernel⟩ (by decide) rfl d1_157 (pc' := 159) rfl (n := 20) (by decide +kernel) (by decide) (by decide) (by decide) ?_
 intro qt T h k1 q1 X Ex hS hk q2 q3 qw qx HRn SF
 replace qa := qa.ext Ex
 replace qb := qb.ext Ex
 replace qd := qd.ext Ex
 replace qf := qf.ext Ex
 replace qe := qe.ext Ex
 replace qi := qi.ext Ex
 replace qg := qg.ext Ex
 replace qh := qh.ext Ex
 replace qc := qc.ext Ex
 replace Z0 := Nat.le_trans Z0 Ex.1
 replace Kp := Kp.ext Ex
 replace HR := HR.trans HRn
 obtain ⟨q9, ja⟩ := SF a0 (Safe.exa (State.Warmed39.alike X.2.2.2.2.2.1) qa (by decide) (by decide))
 have q4 : a1 ≠ qt := qg.ne qw (fun q => qh.ne qx (by decide) (Value.ref.inj q))
 show Go p e below _ (T.setTop (mkF m 159 _ [(.ref qt), (.ref a1), (.ref a0)]))
 refine g_virtual X (W := 1) (a := a1) (C := "java/lang/String") [(.ref qt)] [(.ref a0)] qe (tb hw 80 rfl) (tb hw 81 rfl) (tb hw 83 rfl) (tb hw 82 rfl) (tb hw 5 rfl) (tb hw 84 rfl) (rEq l Z aa hw [] a1 qt G1 v1 q1 _ q4 qe qi qg qh q2 q3 qw qx qc P5) d1_159 (pc' := 162) rfl (by decide) (by decide) (by decide) rfl rfl rfl (lenOf pd_8 rfl) (Nat.le_refl _) (by decide) (by decide) ?_
 intro v T L X q
 obtain ⟨rfl, X⟩ := pureX X q
 show Go p e below _ (T.setTop (mkF m 162 _ [(.int (0 : Int32)), (.ref a0)]))
 refine g_ifN X d1_162 ((if0 _ _).trans (teq (show (0 : Int32) = (0 : Int32) from (by decide))).2) (pc' := 165) rfl ?_
 refine g_ldcH X hS hk (elw hw) (List.mem_of_getElem? (i := 0) rfl) HR.1 (tb hw 79 rfl) (sAt hw) (vs := [(.int (120 : Int32)), (.int (109 : Int32)), (.int (108 : Int32)), (.int (110 : Int32)), (.int (115 : Int32))]) (z := (5 : Int32)) ⟨by decide +kernel, by first | rfl | decide +kernel⟩ (by decide) rfl d1_165 (pc' := 167) rfl (n := 20) (by decide +kernel) (by decide) (by decide) (by decide) ?_
 intro qv T h k1 q5 X Ex hS hk qy q6 q7 q8 HRn SF
 replace qa := qa.ext Ex
 replace qb := qb.ext Ex
 replace qd := qd.ext Ex
 replace qf := qf.ext Ex
 replace qc := qc.ext Ex
 replace Z0 := Nat.le_trans Z0 Ex.1
 replace Kp := Kp.ext Ex
 replace HR := HR.trans HRn
 obtain ⟨jb, jc⟩ := SF a0 (Safe.exa (State.Warmed39.alike X.2.2.2.2.2.1) qa (by decide) (by decide))
 show Go p e below _ (T.setTop (mkF m 167 _ [(.ref qv), (.ref a0)]))
 refine g_aloadN X d1_167 (pc' := 168) rfl rfl rfl ?_
 refine g_getfield X (host := "") (Or.inl (tb hw 75 rfl)) Via.refl qd d1_168 (pc' := 171) rfl ?_
 intro T X
 refine g_virtual X (W := 1) (a := qv) (C := "java/lang/String") [.null] [(.ref a0)] qy (tb hw 80 rfl) (tb hw 81 rfl) (tb hw 83 rfl) (tb hw 82 rfl) (tb hw 5 rfl) (tb hw 84 rfl) (rEqn l Z aa hw [] qv G1 q5 _ qy q6 q7 q8 qc P5) d1_171 (pc' := 174) rfl (by decide) (by decide) (by decide) rfl rfl rfl (lenOf pd_8 rfl) (Nat.le_refl _) (by decide) (by decide) ?_
 intro v T L X q
 obtain ⟨rfl, X⟩ := pureX X q
 show Go p e below _ (T.setTop (mkF m 174 _ [(.int (0 : Int32)), (.ref a0)]))
 refine g_ifY X d1_174 ((if0 _ _).trans (teq (show (0 : Int32) = (0 : Int32) from (by decide))).1) (pc' := 181) (by decide) (by decide) ?_
 refine g_iconst X (0 : Int32) d1_181 (pc' := 182) rfl rfl ?_
 refine g_putfieldN X (tb hw 90 rfl) Via.refl qf qa (Or.inr ⟨(tb hw 91 rfl), rfl, hnm⟩) (tb hw 2 rfl) (ty := .boolean) (v' := (.int (nar .boolean (0 : Int32)))) (by decide) rfl (fits_nar_bool _) d1_182 (pc' := 185) rfl ?_
 intro T h X W
 replace HR := HR.trans (CHr.wr W (Safe.exa (State.Warmed39.alike X.2.2.2.2.2.1) qa (by decide) (by decide)) HR.1)
 replace hk := Nat.le_trans hk (Nat.le_of_eq W.size.symm)
 replace qa := qa.wr W
 replace qb := qb.other W (Or.inr (slot_ne (Or.inr (tb hw 20 rfl)) (Or.inr (tb hw 91 rfl)) (by decide) (t := (.array .byte)) (t' := .boolean) (by decide) (by decide)))
 replace Z0 := Nat.le_trans Z0 (Nat.le_of_eq W.size.symm)
 replace N := Fr.snoc X.1 N qo
 replace Kp := Kp.wr W (Or.inl (List.mem_of_getElem? (i := 0) rfl))
 refine g_returnH X hS hk (elw hw) HR d1_185 hret hlk (by decide) (by decide) ?_
 subst q0
 exact ⟨rfl, N, Kp, qa, qb⟩
theorem ef_rInit2 (m : MethodId) (x0 : Addr) (x1 : Addr) (x2 : Addr) (x3 : Int32) (x4 : Int32) : entryFrame m #[(.ref x0), (.ref x1), (.ref x2), (.int x3), (.int x4)] 9 = mkF m 0 #[.val (.ref x0), .val (.ref x1), .val (.ref x2), .val (.int x3), .val (.int x4), .unset, .unset, .unset, .unset] [] := by first | (simp [entryFrame, mkF, argsToLocals, Value.category]; done) | rfl
set_option maxRecDepth 65536 in
set_option maxHeartbeats 40000000 in
theorem rInit2 (l : Launch) (Z : State) (aa : Array Value) (hw : ∀ d ∈ tables_1, d.before aa Z = true) (ws : List Jvm.Cond) (a0 : Addr) (a1 : Addr) (a2 : Addr) (i3 : Int32) (i4 : Int32) (G1 : Int32) (v1 : Addr) (e0 : Int32) (e1 : Int32) (h0 : Heap) (n0 : Nat) (Z0 : n0 ≤ h0.size) (qa : Exa Z h0 a0 "com/example/scheherazade/scheherazade/core/XmlName") (q0 : Fld Z h0 a0 "com/example/scheherazade/scheherazade/core/XmlName" "qualified" "Ljava/lang/String;" .null) (qb : Fld Z h0 a0 "com/example/scheherazade/scheherazade/core/XmlName" "spelling" "[B" .null) (qr : Fld Z h0 a0 "com/example/scheherazade/scheherazade/core/XmlName" "hash" "I" (.int (0 : Int32))) (qq : Fld Z h0 a0 "com/example/scheherazade/scheherazade/core/XmlName" "shared" "Z" (.int (0 : Int32))) (qn : Fld Z h0 a0 "com/example/scheherazade/scheherazade/core/XmlName" "head" "J" (.long (0 : Int64))) (ql : Fld Z h0 a0 "com/example/scheherazade/scheherazade/core/XmlName" "headMask" "J" (.long (0 : Int64))) (qd : Fld Z h0 a0 "com/example/scheherazade/scheherazade/core/XmlName" "prefix" "Ljava/lang/String;" .null) (qk : Fld Z h0 a0 "com/example/scheherazade/scheherazade/core/XmlName" "local" "Ljava/lang/String;" .null) (qf : Fld Z h0 a0 "com/example/scheherazade/scheherazade/core/XmlName" "declaring" "Z" (.int (0 : Int32))) (qe : Exa Z h0 a1 "java/lang/String") (qi : Fld Z h0 a1 "java/lang/String" "coder" "B" (.int (0 : Int32))) (qg : Fld Z h0 a1 "java/lang/String" "value" "[B" (.ref v1)) (qh : Av Z h0 v1 .byte [(.int (97 : Int32))]) (qm : Av Z h0 a2 .byte [(.int e0), (.int e1)]) (qo : n0 ≤ a0) (qj : a1 ≠ a0) (qp : v1 ≠ a0) (qs : a2 ≠ a0) (qc : Sta Z h0 "java/lang/String" "COMPACT_STRINGS" "Z" (.int G1)) (P5 : ¬ G1 = (0 : Int32)) :
    RmH l Z consts_1 (⟨"com/example/scheherazade/scheherazade/core/XmlName", "<init>", "(Ljava/lang/String;[BIZ)V"⟩ : MethodName) prog_20_method_1_code 9 none ({ frames := 4, cells := 4, slots := 48, locals := 59 } : Room) #[(.ref a0), (.ref a1), (.ref a2), (.int i3), (.int i4)] h0 (fun v h L => v = none ∧ Fr n0 L ∧ Keep h0 h [a0] ∧ Exa Z h a0 "com/example/scheherazade/scheherazade/core/XmlName" ∧ Fld Z h a0 "com/example/scheherazade/scheherazade/core/XmlName" "spelling" "[B" (.ref a2)) := by
 refine RmH.of (plainFor_of_name pn_2) ?_
 intro p e s m below meth cc T X hS hk HR hnm hret hlk
 refine Go.at_ (ef_rInit2 m a0 a1 a2 i3 i4) ?_
 have N := Fr.nil n0
 have Kp := Keep.refl h0 [a0]
 refine g_aloadN X d1_0 (pc' := 1) rfl rfl rfl ?_
 refine g_initO X (W := 0) (tb hw 14 rfl) (tb hw 15 rfl) (tb hw 16 rfl) d1_1 (pc' := 4) rfl rfl (by decide) (Nat.le_refl _) (by decide) ?_
 intro T X
 refine g_aloadN X d1_4 (pc' := 5) rfl rfl rfl ?_
 refine g_aloadN X d1_5 (pc' := 6) rfl rfl rfl ?_
 refine g_putfield X (host := "") (Or.inl (tb hw 17 rfl)) Via.refl q0 qa (Or.inr ⟨(tb hw 18 rfl), rfl, hnm⟩) (tb hw 2 rfl) (ty := (.object "java/lang/String")) (by decide) rfl rfl d1_6 (pc' := 9) rfl ?_
 intro T h X W
 replace HR := HR.trans (CHr.wr W (Safe.exa (State.Warmed39.alike X.2.2.2.2.2.1) qa (by decide) (by decide)) HR.1)
 replace hk := Nat.le_trans hk (Nat.le_of_eq W.size.symm)
 replace qa := qa.wr W
 replace qb := qb.other W (Or.inr (slot_ne (Or.inr (tb hw 20 rfl)) (Or.inr (tb hw 18 rfl)) (by decide) (t := (.array .byte)) (t' := (.object "java/lang/String")) (by decide) (by decide)))
 replace qr := qr.other W (Or.inr (slot_ne (Or.inr (tb hw 22 rfl)) (Or.inr (tb hw 18 rfl)) (by decide) (t := .int) (t' := (.object "java/lang/String")) (by decide) (by decide)))
 replace qq := qq.other W (Or.inr (slot_ne (Or.inr (tb hw 24 rfl)) (Or.inr (tb hw 18 rfl)) (by decide) (t := .boolean) (t' := (.object "java/lang/String")) (by decide) (by decide)))
 replace qn := qn.other W (Or.inr (slot_ne (Or.inr (tb hw 30 rfl)) (Or.inr (tb hw 18 rfl)) (by decide) (t := .long) (t' := (.object "java/lang/String")) (by decide) (by decide)))
 replace ql := ql.other W (Or.inr (slot_ne (Or.inr (tb hw 32 rfl)) (Or.inr (tb hw 18 rfl)) (by decide) (t := .long) (t' := (.object "java/lang/String")) (by decide) (by decide)))
 replace qd := qd.other W (Or.inr (slot_ne (Or.inr (tb hw 76 rfl)) (Or.inr (tb hw 18 rfl)) (by decide) (t := (.object "java/lang/String")) (t' := (.object "java/lang/String")) (by decide) (by decide)))
 replace qk := qk.other W (Or.inr (slot_ne (Or.inr (tb hw 78 rfl)) (Or.inr (tb hw 18 rfl)) (by decide) (t := (.object "java/lang/String")) (t' := (.object "java/lang/String")) (by decide) (by decide)))
 replace qf := qf.other W (Or.inr (slot_ne (Or.inr (tb hw 91 rfl)) (Or.inr (tb hw 18 rfl)) (by decide) (t := .boolean) (t' := (.object "java/lang/String")) (by decide) (by decide)))
 replace qe := qe.wr W
 replace qi := qi.other W (Or.inl qj)
 replace qg := qg.other W (Or.inl qj)
 replace qh := qh.other W qp
 replace qm := qm.other W qs
 replace qc := qc.wr W
 replace Z0 := Nat.le_trans Z0 (Nat.le_of_eq W.size.symm)
 replace N := Fr.snoc X.1 N qo
 replace Kp := Kp.wr W (Or.inl (List.mem_of_getElem? (i := 0) rfl))
 refine g_aloadN X d1_9 (pc' := 10) rfl rfl rfl ?_
 refine g_aloadN X d1_10 (pc' := 11) rfl rfl rfl ?_
 refine g_putfield X (host := "") (Or.inl (tb hw 19 rfl)) Via.refl qb qa (Or.inr ⟨(tb hw 20 rfl), rfl, hnm⟩) (tb hw 2 rfl) (ty := (.array .byte)) (by decide) rfl rfl d1_11 (pc' := 14) rfl ?_
 intro T h X W
 replace HR := HR.trans (CHr.wr W (Safe.exa (State.Warmed39.alike X.2.2.2.2.2.1) qa (by decide) (by decide)) HR.1)
 replace hk := Nat.le_trans hk (Nat.le_of_eq W.size.symm)
 replace qa := qa.wr W
 replace qb := qb.same W
 replace qr := qr.other W (Or.inr (slot_ne (Or.inr (tb hw 22 rfl)) (Or.inr (tb hw 20 rfl)) (by decide) (t := .int) (t' := (.array .byte)) (by decide) (by decide)))
 replace qq := qq.other W (Or.inr (slot_ne (Or.inr (tb hw 24 rfl)) (Or.inr (tb hw 20 rfl)) (by decide) (t := .boolean) (t' := (.array .byte)) (by decide) (by decide)))
 replace qn := qn.other W (Or.inr (slot_ne (Or.inr (tb hw 30 rfl)) (Or.inr (tb hw 20 rfl)) (by decide) (t := .long) (t' := (.array .byte)) (by decide) (by decide)))
 replace ql := ql.other W (Or.inr (slot_ne (Or.inr (tb hw 32 rfl)) (Or.inr (tb hw 20 rfl)) (by decide) (t := .long) (t' := (.array .byte)) (by decide) (by decide)))
 replace qd := qd.other W (Or.inr (slot_ne (Or.inr (tb hw 76 rfl)) (Or.inr (tb hw 20 rfl)) (by decide) (t := (.object "java/lang/String")) (t' := (.array .byte)) (by decide) (by decide)))
 replace qk := qk.other W (Or.inr (slot_ne (Or.inr (tb hw 78 rfl)) (Or.inr (tb hw 20 rfl)) (by decide) (t := (.object "java/lang/String")) (t' := (.array .byte)) (by decide) (by decide)))
 replace qf := qf.other W (Or.inr (slot_ne (Or.inr (tb hw 91 rfl)) (Or.inr (tb hw 20 rfl)) (by decide) (t := .boolean) (t' := (.array .byte)) (by decide) (by decide)))
 replace qe := qe.wr W
 replace qi := qi.other W (Or.inl qj)
 replace qg := qg.other W (Or.inl qj)
 replace qh := qh.other W qp
 replace qm := qm.other W qs
 replace qc := qc.wr W
 replace Z0 := Nat.le_trans Z0 (Nat.le_of_eq W.size.symm)
 replace N := Fr.snoc X.1 N qo
 replace Kp := Kp.wr W (Or.inl (List.mem_of_getElem? (i := 0) rfl))
 refine g_aloadN X d1_14 (pc' := 15) rfl rfl rfl ?_
 refine g_iloadN X d1_15 (pc' := 16) rfl rfl ?_
 refine g_putfield X (host := "") (Or.inl (tb hw 21 rfl)) Via.refl qr qa (Or.inr ⟨(tb hw 22 rfl), rfl, hnm⟩) (tb hw 2 rfl) (ty := .int) (by decide) rfl rfl d1_16 (pc' := 19) rfl ?_
 intro T h X W
 replace HR := HR.trans (CHr.wr W (Safe.exa (State.Warmed39.alike X.2.2.2.2.2.1) qa (by decide) (by decide)) HR.1)
 replace hk := Nat.le_trans hk (Nat.le_of_eq W.size.symm)
 replace qa := qa.wr W
 replace qb := qb.other W (Or.inr (slot_ne (Or.inr (tb hw 20 rfl)) (Or.inr (tb hw 22 rfl)) (by decide) (t := (.array .byte)) (t' := .int) (by decide) (by decide)))
 replace qq := qq.other W (Or.inr (slot_ne (Or.inr (tb hw 24 rfl)) (Or.inr (tb hw 22 rfl)) (by decide) (t := .boolean) (t' := .int) (by decide) (by decide)))
 replace qn := qn.other W (Or.inr (slot_ne (Or.inr (tb hw 30 rfl)) (Or.inr (tb hw 22 rfl)) (by decide) (t := .long) (t' := .int) (by decide) (by decide)))
 replace ql := ql.other W (Or.inr (slot_ne (Or.inr (tb hw 32 rfl)) (Or.inr (tb hw 22 rfl)) (by decide) (t := .long) (t' := .int) (by decide) (by decide)))
 replace qd := qd.other W (Or.inr (slot_ne (Or.inr (tb hw 76 rfl)) (Or.inr (tb hw 22 rfl)) (by decide) (t := (.object "java/lang/String")) (t' := .int) (by decide) (by decide)))
 replace qk := qk.other W (Or.inr (slot_ne (Or.inr (tb hw 78 rfl)) (Or.inr (tb hw 22 rfl)) (by decide) (t := (.object "java/lang/String")) (t' := .int) (by decide) (by decide)))
 replace qf := qf.other W (Or.inr (slot_ne (Or.inr (tb hw 91 rfl)) (Or.inr (tb hw 22 rfl)) (by decide) (t := .boolean) (t' := .int) (by decide) (by decide)))
 replace qe := qe.wr W
 replace qi := qi.other W (Or.inl qj)
 replace qg := qg.other W (Or.inl qj)
 replace qh := qh.other W qp
 replace qm := qm.other W qs
 replace qc := qc.wr W
 replace Z0 := Nat.le_trans Z0 (Nat.le_of_eq W.size.symm)
 replace N := Fr.snoc X.1 N qo
 replace Kp := Kp.wr W (Or.inl (List.mem_of_getElem? (i := 0) rfl))
 refine g_aloadN X d1_19 (pc' := 20) rfl rfl rfl ?_
 refine g_iload X d1_20 (pc' := 22) rfl rfl ?_
 refine g_putfieldN X (tb hw 23 rfl) Via.refl qq qa (Or.inr ⟨(tb hw 24 rfl), rfl, hnm⟩) (tb hw 2 rfl) (ty := .boolean) (v' := (.int (nar .boolean i4))) (by decide) rfl (fits_nar_bool _) d1_22 (pc' := 25) rfl ?_
 intro T h X W
 replace HR := HR.trans (CHr.wr W (Safe.exa (State.Warmed39.alike X.2.2.2.2.2.1) qa (by decide) (by decide)) HR.1)
 replace hk := Nat.le_trans hk (Nat.le_of_eq W.size.symm)
 replace qa := qa.wr W
 replace qb := qb.other W (Or.inr (slot_ne (Or.inr (tb hw 20 rfl)) (Or.inr (tb hw 24 rfl)) (by decide) (t := (.array .byte)) (t' := .boolean) (by decide) (by decide)))
 replace qn := qn.other W (Or.inr (slot_ne (Or.inr (tb hw 30 rfl)) (Or.inr (tb hw 24 rfl)) (by decide) (t := .long) (t' := .boolean) (by decide) (by decide)))
 replace ql := ql.other W (Or.inr (slot_ne (Or.inr (tb hw 32 rfl)) (Or.inr (tb hw 24 rfl)) (by decide) (t := .long) (t' := .boolean) (by decide) (by decide)))
 replace qd := qd.other W (Or.inr (slot_ne (Or.inr (tb hw 76 rfl)) (Or.inr (tb hw 24 rfl)) (by decide) (t := (.object "java/lang/String")) (t' := .boolean) (by decide) (by decide)))
 replace qk := qk.other W (Or.inr (slot_ne (Or.inr (tb hw 78 rfl)) (Or.inr (tb hw 24 rfl)) (by decide) (t := (.object "java/lang/String")) (t' := .boolean) (by decide) (by decide)))
 replace qf := qf.other W (Or.inr (slot_ne (Or.inr (tb hw 91 rfl)) (Or.inr (tb hw 24 rfl)) (by decide) (t := .boolean) (t' := .boolean) (by decide) (by decide)))
 replace qe := qe.wr W
 replace qi := qi.other W (Or.inl qj)
 replace qg := qg.other W (Or.inl qj)
 replace qh := qh.other W qp
 replace qm := qm.other W qs
 replace qc := qc.wr W
 replace Z0 := Nat.le_trans Z0 (Nat.le_of_eq W.size.symm)
 replace N := Fr.snoc X.1 N qo
 replace Kp := Kp.wr W (Or.inl (List.mem_of_getElem? (i := 0) rfl))
 refine g_aloadN X d1_25 (pc' := 26) rfl rfl rfl ?_
 refine g_arraylength X qm d1_26 (pc' := 27) rfl (z := (2 : Int32)) rfl ?_
 refine g_bipush X (8 : Int32) d1_27 (pc' := 29) rfl rfl ?_
 refine g_static X (W := 0) [(.int (2 : Int32)), (.int (8 : Int32))] [] (tb hw 25 rfl) (tb hw 26 rfl) (tb hw 27 rfl) (tb hw 28 rfl) (rMin28 l Z aa hw []  _) d1_29 (pc' := 32) rfl (by decide) (by decide) (by decide) rfl rfl rfl (lenOf pd_2 rfl) (Nat.le_refl _) (by decide) (by decide) ?_
 intro v T L X q
 obtain ⟨rfl, X⟩ := pureX X q
 show Go p e below _ (T.setTop (mkF m 32 _ [(.int (2 : Int32))]))
 refine g_istore X d1_32 (pc' := 34) (Ls' := #[.val (.ref a0), .val (.ref a1), .val (.ref a2), .val (.int i3), .val (.int i4), .val (.int (2 : Int32)), .unset, .unset, .unset]) rfl rfl ?_
 refine g_lconst X (0 : Int64) d1_34 (pc' := 35) rfl rfl ?_
 refine g_lstore X d1_35 (pc' := 37) (Ls' := #[.val (.ref a0), .val (.ref a1), .val (.ref a2), .val (.int i3), .val (.int i4), .val (.int (2 : Int32)), .val (.long (0 : Int64)), .second, .unset]) rfl rfl ?_
 refine g_iload X d1_37 (pc' := 39) rfl rfl ?_
 refine g_iconst X (1 : Int32) d1_39 (pc' := 40) rfl rfl ?_
 refine g_isub X d1_40 (pc' := 41) rfl ?_
 refine Go.lit32 (z := (1 : Int32)) (by decide) ?_
 refine g_istore X d1_41 (pc' := 43) (Ls' := #[.val (.ref a0), .val (.ref a1), .val (.ref a2), .val (.int i3), .val (.int i4), .val (.int (2 : Int32)), .val (.long (0 : Int64)), .second, .val (.int (1 : Int32))]) rfl rfl ?_
 refine g_iload X d1_43 (pc' := 45) rfl rfl ?_
 refine g_ifN X d1_45 ((if0 _ _).trans (flt (show ¬ ((1 : Int32) < (0 : Int32)) from (by decide))).1) (pc' := 48) rfl ?_
 refine g_lload X d1_48 (pc' := 50) rfl rfl ?_
 refine g_bipush X (8 : Int32) d1_50 (pc' := 52) rfl rfl ?_
 refine g_lshl X d1_52 (pc' := 53) rfl ?_
 refine Go.lit64 (z := (0 : Int64)) (by decide) ?_
 refine g_aloadN X d1_53 (pc' := 54) rfl rfl rfl ?_
 refine g_iload X d1_54 (pc' := 56) rfl rfl ?_
 refine g_baload X qm 1 d1_56 (pc' := 57) rfl (by decide) (by decide) rfl ?_
 refine g_sipush X (255 : Int32) d1_57 (pc' := 60) rfl rfl ?_
 refine g_iand X d1_60 (pc' := 61) rfl ?_
 refine g_i2l X d1_61 (pc' := 62) rfl ?_
 refine g_lor X d1_62 (pc' := 63) rfl ?_
 generalize q1 : ((0 : Int64) ||| ((e1 &&& (255 : Int32)).toInt64)) = qu
 refine g_lstore X d1_63 (pc' := 65) (Ls' := #[.val (.ref a0), .val (.ref a1), .val (.ref a2), .val (.int i3), .val (.int i4), .val (.int (2 : Int32)), .val (.long qu), .second, .val (.int (1 : Int32))]) rfl rfl ?_
 refine g_iinc X d1_65 (pc' := 68) (q := (-1 : Int32)) (Ls' := #[.val (.ref a0), .val (.ref a1), .val (.ref a2), .val (.int i3), .val (.int i4), .val (.int (2 : Int32)), .val (.long qu), .second, .val (.int (0 : Int32))]) rfl rfl rfl rfl ?_
 refine g_goto X d1_68 (pc' := 43) (by decide) (by decide) ?_
 refine g_iload X d1_43 (pc' := 45) rfl rfl ?_
 refine g_ifN X d1_45 ((if0 _ _).trans (flt (show ¬ ((0 : Int32) < (0 : Int32)) from (by decide))).1) (pc' := 48) rfl ?_
 refine g_lload X d1_48 (pc' := 50) rfl rfl ?_
 refine g_bipush X (8 : Int32) d1_50 (pc' := 52) rfl rfl ?_
 refine g_lshl X d1_52 (pc' := 53) rfl ?_
 refine g_aloadN X d1_53 (pc' := 54) rfl rfl rfl ?_
 refine g_iload X d1_54 (pc' := 56) rfl rfl ?_
 refine g_baload X qm 0 d1_56 (pc' := 57) rfl (by decide) (by decide) rfl ?_
 refine g_sipush X (255 : Int32) d1_57 (pc' := 60) rfl rfl ?_
 refine g_iand X d1_60 (pc' := 61) rfl ?_
 refine g_i2l X d1_61 (pc' := 62) rfl ?_
 refine g_lor X d1_62 (pc' := 63) rfl ?_
 generalize q2 : ((qu <<< ((8 : Int32) &&& 0x3f).toInt64) ||| ((e0 &&& (255 : Int32)).toInt64)) = qv
 refine g_lstore X d1_63 (pc' := 65) (Ls' := #[.val (.ref a0), .val (.ref a1), .val (.ref a2), .val (.int i3), .val (.int i4), .val (.int (2 : Int32)), .val (.long qv), .second, .val (.int (0 : Int32))]) rfl rfl ?_
 refine g_iinc X d1_65 (pc' := 68) (q := (-1 : Int32)) (Ls' := #[.val (.ref a0), .val (.ref a1), .val (.ref a2), .val (.int i3), .val (.int i4), .val (.int (2 : Int32)), .val (.long qv), .second, .val (.int (-1 : Int32))]) rfl rfl rfl rfl ?_
 refine g_goto X d1_68 (pc' := 43) (by decide) (by decide) ?_
 refine g_iload X d1_43 (pc' := 45) rfl rfl ?_
 refine g_ifY X d1_45 ((if0 _ _).trans (tlt (show (-1 : Int32) < (0 : Int32) from (by decide))).1) (pc' := 71) (by decide) (by decide) ?_
 refine g_aloadN X d1_71 (pc' := 72) rfl rfl rfl ?_
 refine g_lload X d1_72 (pc' := 74) rfl rfl ?_
 refine g_putfield X (host := "") (Or.inl (tb hw 29 rfl)) Via.refl qn qa (Or.inr ⟨(tb hw 30 rfl), rfl, hnm⟩) (tb hw 2 rfl) (ty := .long) (by decide) rfl rfl d1_74 (pc' := 77) rfl ?_
 intro T h X W
 replace HR := HR.trans (CHr.wr W (Safe.exa (State.Warmed39.alike X.2.2.2.2.2.1) qa (by decide) (by decide)) HR.1)
 replace hk := Nat.le_trans hk (Nat.le_of_eq W.size.symm)
 replace qa := qa.wr W
 replace qb := qb.other W (Or.inr (slot_ne (Or.inr (tb hw 20 rfl)) (Or.inr (tb hw 30 rfl)) (by decide) (t := (.array .byte)) (t' := .long) (by decide) (by decide)))
 replace ql := ql.other W (Or.inr (slot_ne (Or.inr (tb hw 32 rfl)) (Or.inr (tb hw 30 rfl)) (by decide) (t := .long) (t' := .long) (by decide) (by decide)))
 replace qd := qd.other W (Or.inr (slot_ne (Or.inr (tb hw 76 rfl)) (Or.inr (tb hw 30 rfl)) (by decide) (t := (.object "java/lang/String")) (t' := .long) (by decide) (by decide)))
 replace qk := qk.other W (Or.inr (slot_ne (Or.inr (tb hw 78 rfl)) (Or.inr (tb hw 30 rfl)) (by decide) (t := (.object "java/lang/String")) (t' := .long) (by decide) (by decide)))
 replace qf := qf.other W (Or.inr (slot_ne (Or.inr (tb hw 91 rfl)) (Or.inr (tb hw 30 rfl)) (by decide) (t := .boolean) (t' := .long) (by decide) (by decide)))
 replace qe := qe.wr W
 replace qi := qi.other W (Or.inl qj)
 replace qg := qg.other W (Or.inl qj)
 replace qh := qh.other W qp
 replace qc := qc.wr W
 replace Z0 := Nat.le_trans Z0 (Nat.le_of_eq W.size.symm)
 replace N := Fr.snoc X.1 N qo
 replace Kp := Kp.wr W (Or.inl (List.mem_of_getElem? (i := 0) rfl))
 refine g_aloadN X d1_77 (pc' := 78) rfl rfl rfl ?_
 refine g_iload X d1_78 (pc' := 80) rfl rfl ?_
 refine g_bipush X (8 : Int32) d1_80 (pc' := 82) rfl rfl ?_
 refine g_icY X d1_82 (feq (show ¬ ((2 : Int32) = (8 : Int32)) from (by decide))).2 (pc' := 91) (by decide) (by decide) ?_
 refine g_lconst X (1 : Int64) d1_91 (pc' := 92) rfl rfl ?_
 refine g_bipush X (8 : Int32) d1_92 (pc' := 94) rfl rfl ?_
 refine g_iload X d1_94 (pc' := 96) rfl rfl ?_
 refine g_imul X d1_96 (pc' := 97) rfl ?_
 refine Go.lit32 (z := (16 : Int32)) (by decide) ?_
 refine g_lshl X d1_97 (pc' := 98) rfl ?_
 refine Go.lit64 (z := (65536 : Int64)) (by decide) ?_
 refine g_lconst X (1 : Int64) d1_98 (pc' := 99) rfl rfl ?_
 refine g_lsub X d1_99 (pc' := 100) rfl ?_
 refine Go.lit64 (z := (65535 : Int64)) (by decide) ?_
 refine g_putfield X (host := "") (Or.inl (tb hw 31 rfl)) Via.refl ql qa (Or.inr ⟨(tb hw 32 rfl), rfl, hnm⟩) (tb hw 2 rfl) (ty := .long) (by decide) rfl rfl d1_100 (pc' := 103) rfl ?_
 intro T h X W
 replace HR := HR.trans (CHr.wr W (Safe.exa (State.Warmed39.alike X.2.2.2.2.2.1) qa (by decide) (by decide)) HR.1)
 replace hk := Nat.le_trans hk (Nat.le_of_eq W.size.symm)
 replace qa := qa.wr W
 replace qb := qb.other W (Or.inr (slot_ne (Or.inr (tb hw 20 rfl)) (Or.inr (tb hw 32 rfl)) (by decide) (t := (.array .byte)) (t' := .long) (by decide) (by decide)))
 replace qd := qd.other W (Or.inr (slot_ne (Or.inr (tb hw 76 rfl)) (Or.inr (tb hw 32 rfl)) (by decide) (t := (.object "java/lang/String")) (t' := .long) (by decide) (by decide)))
 replace qk := qk.other W (Or.inr (slot_ne (Or.inr (tb hw 78 rfl)) (Or.inr (tb hw 32 rfl)) (by decide) (t := (.object "java/lang/String")) (t' := .long) (by decide) (by decide)))
 replace qf := qf.other W (Or.inr (slot_ne (Or.inr (tb hw 91 rfl)) (Or.inr (tb hw 32 rfl)) (by decide) (t := .boolean) (t' := .long) (by decide) (by decide)))
 replace qe := qe.wr W
 replace qi := qi.other W (Or.inl qj)
 replace qg := qg.other W (Or.inl qj)
 replace qh := qh.other W qp
 replace qc := qc.wr W
 replace Z0 := Nat.le_trans Z0 (Nat.le_of_eq W.size.symm)
 replace N := Fr.snoc X.1 N qo
 replace Kp := Kp.wr W (Or.inl (List.mem_of_getElem? (i := 0) rfl))
 refine g_aloadN X d1_103 (pc' := 104) rfl rfl rfl ?_
 refine g_bipush X (58 : Int32) d1_104 (pc' := 106) rfl rfl ?_
 refine g_virtual X (W := 0) (a := a1) (C := "java/lang/String") [(.int (58 : Int32))] [] qe (tb hw 33 rfl) (tb hw 34 rfl) (tb hw 36 rfl) (tb hw 35 rfl) (tb hw 5 rfl) (tb hw 37 rfl) (rIx1 l Z aa hw [] a1 G1 v1 _ qe qi qg qh qc P5) d1_106 (pc' := 109) rfl (by decide) (by decide) (by decide) rfl rfl rfl (lenOf pd_7 rfl) (Nat.le_refl _) (by decide) (by decide) ?_
 intro v T L X q
 obtain ⟨rfl, X⟩ := pureX X q
 show Go p e below _ (T.setTop (mkF m 109 _ [(.int (-1 : Int32))]))
 refine g_istore X d1_109 (pc' := 111) (Ls' := #[.val (.ref a0), .val (.ref a1), .val (.ref a2), .val (.int i3), .val (.int i4), .val (.int (2 : Int32)), .val (.long qv), .second, .val (.int (-1 : Int32))]) rfl rfl ?_
 refine g_iload X d1_111 (pc' := 113) rfl rfl ?_
 refine g_ifN X d1_113 ((if0 _ _).trans (tlt (show (-1 : Int32) < (0 : Int32) from (by decide))).2.1) (pc' := 116) rfl ?_
 refine g_aloadN X d1_116 (pc' := 117) rfl rfl rfl ?_
 refine g_aconst_null X d1_117 (pc' := 118) rfl ?_
 refine g_putfield X (host := "") (Or.inl (tb hw 75 rfl)) Via.refl qd qa (Or.inr ⟨(tb hw 76 rfl), rfl, hnm⟩) (tb hw 2 rfl) (ty := (.object "java/lang/String")) (by decide) rfl rfl d1_118 (pc' := 121) rfl ?_
 intro T h X W
 replace HR := HR.trans (CHr.wr W (Safe.exa (State.Warmed39.alike X.2.2.2.2.2.1) qa (by decide) (by decide)) HR.1)
 replace hk := Nat.le_trans hk (Nat.le_of_eq W.size.symm)
 replace qa := qa.wr W
 replace qb := qb.other W (Or.inr (slot_ne (Or.inr (tb hw 20 rfl)) (Or.inr (tb hw 76 rfl)) (by decide) (t := (.array .byte)) (t' := (.object "java/lang/String")) (by decide) (by decide)))
 replace qd := qd.same W
 replace qk := qk.other W (Or.inr (slot_ne (Or.inr (tb hw 78 rfl)) (Or.inr (tb hw 76 rfl)) (by decide) (t := (.object "java/lang/String")) (t' := (.object "java/lang/String")) (by decide) (by decide)))
 replace qf := qf.other W (Or.inr (slot_ne (Or.inr (tb hw 91 rfl)) (Or.inr (tb hw 76 rfl)) (by decide) (t := .boolean) (t' := (.object "java/lang/String")) (by decide) (by decide)))
 replace qe := qe.wr W
 replace qi := qi.other W (Or.inl qj)
 replace qg := qg.other W (Or.inl qj)
 replace qh := qh.other W qp
 replace qc := qc.wr W
 replace Z0 := Nat.le_trans Z0 (Nat.le_of_eq W.size.symm)
 replace N := Fr.snoc X.1 N qo
 replace Kp := Kp.wr W (Or.inl (List.mem_of_getElem? (i := 0) rfl))
 refine g_aloadN X d1_121 (pc' := 122) rfl rfl rfl ?_
 refine g_aloadN X d1_122 (pc' := 123) rfl rfl rfl ?_
 refine g_putfield X (host := "") (Or.inl (tb hw 77 rfl)) Via.refl qk qa (Or.inr ⟨(tb hw 78 rfl), rfl, hnm⟩) (tb hw 2 rfl) (ty := (.object "java/lang/String")) (by decide) rfl rfl d1_123 (pc' := 126) rfl ?_
 intro T h X W
 replace HR := HR.trans (CHr.wr W (Safe.exa (State.Warmed39.alike X.2.2.2.2.2.1) qa (by decide) (by decide)) HR.1)
 replace hk := Nat.le_trans hk (Nat.le_of_eq W.size.symm)
 replace qa := qa.wr W
 replace qb := qb.other W (Or.inr (slot_ne (Or.inr (tb hw 20 rfl)) (Or.inr (tb hw 78 rfl)) (by decide) (t := (.array .byte)) (t' := (.object "java/lang/String")) (by decide) (by decide)))
 replace qd := qd.other W (Or.inr (slot_ne (Or.inr (tb hw 76 rfl)) (Or.inr (tb hw 78 rfl)) (by decide) (t := (.object "java/lang/String")) (t' := (.object "java/lang/String")) (by decide) (by decide)))
 replace qf := qf.other W (Or.inr (slot_ne (Or.inr (tb hw 91 rfl)) (Or.inr (tb hw 78 rfl)) (by decide) (t := .boolean) (t' := (.object "java/lang/String")) (by decide) (by decide)))
 replace qe := qe.wr W
 replace qi := qi.other W (Or.inl qj)
 replace qg := qg.other W (Or.inl qj)
 replace qh := qh.other W qp
 replace qc := qc.wr W
 replace Z0 := Nat.le_trans Z0 (Nat.le_of_eq W.size.symm)
 replace N := Fr.snoc X.1 N qo
 replace Kp := Kp.wr W (Or.inl (List.mem_of_getElem? (i := 0) rfl))
 refine g_goto X d1_126 (pc' := 155) (by decide) (by decide) ?_
 refine g_aloadN X d1_155 (pc' := 156) rfl rfl rfl ?_
 refine g_aloadN X d1_156 (pc' := 157) rfl rfl rfl ?_
 refine g_ldcH X hS hk (elw hw) (List.mem_of_getElem? (i := 0) rfl) HR.1 (tb hw 79 rfl) (sAt hw) (vs := [(.int (120 : Int32)), (.int (109 : Int32)), (.int (108 : Int32)), (.int (110 : Int32)), (.int (115 : Int32))]) (z := (5 : Int32)) ⟨by decide +kernel, by first | rfl | decide +kernel⟩ (by decide) rfl d1_157 (pc' := 159) rfl (n := 20) (by decide +kernel) (by decide) (by decide) (by decide) ?_
 intro qt T h k1 q3 X Ex hS hk q4 q5 qx qy HRn SF
 replace qa := qa.ext Ex
 replace qb := qb.ext Ex
 replace qd := qd.ext Ex
 replace qf := qf.ext Ex
 replace qe := qe.ext Ex
 replace qi := qi.ext Ex
 replace qg := qg.ext Ex
 replace qh := qh.ext Ex
 replace qc := qc.ext Ex
 replace Z0 := Nat.le_trans Z0 Ex.1
 replace Kp := Kp.ext Ex
 replace HR := HR.trans HRn
 obtain ⟨jb, jc⟩ := SF a0 (Safe.exa (State.Warmed39.alike X.2.2.2.2.2.1) qa (by decide) (by decide))
 have q6 : a1 ≠ qt := qg.ne qx (fun q => qh.ne qy (by decide) (Value.ref.inj q))
 show Go p e below _ (T.setTop (mkF m 159 _ [(.ref qt), (.ref a1), (.ref a0)]))
 refine g_virtual X (W := 1) (a := a1) (C := "java/lang/String") [(.ref qt)] [(.ref a0)] qe (tb hw 80 rfl) (tb hw 81 rfl) (tb hw 83 rfl) (tb hw 82 rfl) (tb hw 5 rfl) (tb hw 84 rfl) (rEq l Z aa hw [] a1 qt G1 v1 q3 _ q6 qe qi qg qh q4 q5 qx qy qc P5) d1_159 (pc' := 162) rfl (by decide) (by decide) (by decide) rfl rfl rfl (lenOf pd_8 rfl) (Nat.le_refl _) (by decide) (by decide) ?_
 intro v T L X q
 obtain ⟨rfl, X⟩ := pureX X q
 show Go p e below _ (T.setTop (mkF m 162 _ [(.int (0 : Int32)), (.ref a0)]))
 refine g_ifN X d1_162 ((if0 _ _).trans (teq (show (0 : Int32) = (0 : Int32) from (by decide))).2) (pc' := 165) rfl ?_
 refine g_ldcH X hS hk (elw hw) (List.mem_of_getElem? (i := 0) rfl) HR.1 (tb hw 79 rfl) (sAt hw) (vs := [(.int (120 : Int32)), (.int (109 : Int32)), (.int (108 : Int32)), (.int (110 : Int32)), (.int (115 : Int32))]) (z := (5 : Int32)) ⟨by decide +kernel, by first | rfl | decide +kernel⟩ (by decide) rfl d1_165 (pc' := 167) rfl (n := 20) (by decide +kernel) (by decide) (by decide) (by decide) ?_
 intro qw T h k1 q7 X Ex hS hk qz q8 q9 ja HRn SF
 replace qa := qa.ext Ex
 replace qb := qb.ext Ex
 replace qd := qd.ext Ex
 replace qf := qf.ext Ex
 replace qc := qc.ext Ex
 replace Z0 := Nat.le_trans Z0 Ex.1
 replace Kp := Kp.ext Ex
 replace HR := HR.trans HRn
 obtain ⟨jd, je⟩ := SF a0 (Safe.exa (State.Warmed39.alike X.2.2.2.2.2.1) qa (by decide) (by decide))
 show Go p e below _ (T.setTop (mkF m 167 _ [(.ref qw), (.ref a0)]))
 refine g_aloadN X d1_167 (pc' := 168) rfl rfl rfl ?_
 refine g_getfield X (host := "") (Or.inl (tb hw 75 rfl)) Via.refl qd d1_168 (pc' := 171) rfl ?_
 intro T X
 refine g_virtual X (W := 1) (a := qw) (C := "java/lang/String") [.null] [(.ref a0)] qz (tb hw 80 rfl) (tb hw 81 rfl) (tb hw 83 rfl) (tb hw 82 rfl) (tb hw 5 rfl) (tb hw 84 rfl) (rEqn l Z aa hw [] qw G1 q7 _ qz q8 q9 ja qc P5) d1_171 (pc' := 174) rfl (by decide) (by decide) (by decide) rfl rfl rfl (lenOf pd_8 rfl) (Nat.le_refl _) (by decide) (by decide) ?_
 intro v T L X q
 obtain ⟨rfl, X⟩ := pureX X q
 show Go p e below _ (T.setTop (mkF m 174 _ [(.int (0 : Int32)), (.ref a0)]))
 refine g_ifY X d1_174 ((if0 _ _).trans (teq (show (0 : Int32) = (0 : Int32) from (by decide))).1) (pc' := 181) (by decide) (by decide) ?_
 refine g_iconst X (0 : Int32) d1_181 (pc' := 182) rfl rfl ?_
 refine g_putfieldN X (tb hw 90 rfl) Via.refl qf qa (Or.inr ⟨(tb hw 91 rfl), rfl, hnm⟩) (tb hw 2 rfl) (ty := .boolean) (v' := (.int (nar .boolean (0 : Int32)))) (by decide) rfl (fits_nar_bool _) d1_182 (pc' := 185) rfl ?_
 intro T h X W
 replace HR := HR.trans (CHr.wr W (Safe.exa (State.Warmed39.alike X.2.2.2.2.2.1) qa (by decide) (by decide)) HR.1)
 replace hk := Nat.le_trans hk (Nat.le_of_eq W.size.symm)
 replace qa := qa.wr W
 replace qb := qb.other W (Or.inr (slot_ne (Or.inr (tb hw 20 rfl)) (Or.inr (tb hw 91 rfl)) (by decide) (t := (.array .byte)) (t' := .boolean) (by decide) (by decide)))
 replace Z0 := Nat.le_trans Z0 (Nat.le_of_eq W.size.symm)
 replace N := Fr.snoc X.1 N qo
 replace Kp := Kp.wr W (Or.inl (List.mem_of_getElem? (i := 0) rfl))
 refine g_returnH X hS hk (elw hw) HR d1_185 hret hlk (by decide) (by decide) ?_
 subst q1 q2
 exact ⟨rfl, N, Kp, qa, qb⟩
theorem ef_rInit3 (m : MethodId) (x0 : Addr) (x1 : Addr) (x2 : Addr) (x3 : Int32) (x4 : Int32) : entryFrame m #[(.ref x0), (.ref x1), (.ref x2), (.int x3), (.int x4)] 9 = mkF m 0 #[.val (.ref x0), .val (.ref x1), .val (.ref x2), .val (.int x3), .val (.int x4), .unset, .unset, .unset, .unset] [] := by first | (simp [entryFrame, mkF, argsToLocals, Value.category]; done) | rfl
set_option maxRecDepth 65536 in
set_option maxHeartbeats 40000000 in
theorem rInit3 (l : Launch) (Z : State) (aa : Array Value) (hw : ∀ d ∈ tables_1, d.before aa Z = true) (ws : List Jvm.Cond) (a0 : Addr) (a1 : Addr) (a2 : Addr) (i3 : Int32) (i4 : Int32) (G1 : Int32) (v1 : Addr) (e0 : Int32) (e1 : Int32) (e2 : Int32) (h0 : Heap) (n0 : Nat) (Z0 : n0 ≤ h0.size) (qa : Exa Z h0 a0 "com/example/scheherazade/scheherazade/core/XmlName") (q1 : Fld Z h0 a0 "com/example/scheherazade/scheherazade/core/XmlName" "qualified" "Ljava/lang/String;" .null) (qb : Fld Z h0 a0 "com/example/scheherazade/scheherazade/core/XmlName" "spelling" "[B" .null) (qr : Fld Z h0 a0 "com/example/scheherazade/scheherazade/core/XmlName" "hash" "I" (.int (0 : Int32))) (qq : Fld Z h0 a0 "com/example/scheherazade/scheherazade/core/XmlName" "shared" "Z" (.int (0 : Int32))) (qn : Fld Z h0 a0 "com/example/scheherazade/scheherazade/core/XmlName" "head" "J" (.long (0 : Int64))) (qm : Fld Z h0 a0 "com/example/scheherazade/scheherazade/core/XmlName" "headMask" "J" (.long (0 : Int64))) (qd : Fld Z h0 a0 "com/example/scheherazade/scheherazade/core/XmlName" "prefix" "Ljava/lang/String;" .null) (qk : Fld Z h0 a0 "com/example/scheherazade/scheherazade/core/XmlName" "local" "Ljava/lang/String;" .null) (qf : Fld Z h0 a0 "com/example/scheherazade/scheherazade/core/XmlName" "declaring" "Z" (.int (0 : Int32))) (qe : Exa Z h0 a1 "java/lang/String") (qi : Fld Z h0 a1 "java/lang/String" "coder" "B" (.int (0 : Int32))) (qg : Fld Z h0 a1 "java/lang/String" "value" "[B" (.ref v1)) (qh : Av Z h0 v1 .byte [(.int (97 : Int32))]) (ql : Av Z h0 a2 .byte [(.int e0), (.int e1), (.int e2)]) (qo : n0 ≤ a0) (qj : a1 ≠ a0) (qp : v1 ≠ a0) (qs : a2 ≠ a0) (qc : Sta Z h0 "java/lang/String" "COMPACT_STRINGS" "Z" (.int G1)) (P5 : ¬ G1 = (0 : Int32)) :
    RmH l Z consts_1 (⟨"com/example/scheherazade/scheherazade/core/XmlName", "<init>", "(Ljava/lang/String;[BIZ)V"⟩ : MethodName) prog_20_method_1_code 9 none ({ frames := 4, cells := 4, slots := 48, locals := 59 } : Room) #[(.ref a0), (.ref a1), (.ref a2), (.int i3), (.int i4)] h0 (fun v h L => v = none ∧ Fr n0 L ∧ Keep h0 h [a0] ∧ Exa Z h a0 "com/example/scheherazade/scheherazade/core/XmlName" ∧ Fld Z h a0 "com/example/scheherazade/scheherazade/core/XmlName" "spelling" "[B" (.ref a2)) := by
 refine RmH.of (plainFor_of_name pn_2) ?_
 intro p e s m below meth cc T X hS hk HR hnm hret hlk
 refine Go.at_ (ef_rInit3 m a0 a1 a2 i3 i4) ?_
 have N := Fr.nil n0
 have Kp := Keep.refl h0 [a0]
 refine g_aloadN X d1_0 (pc' := 1) rfl rfl rfl ?_
 refine g_initO X (W := 0) (tb hw 14 rfl) (tb hw 15 rfl) (tb hw 16 rfl) d1_1 (pc' := 4) rfl rfl (by decide) (Nat.le_refl _) (by decide) ?_
 intro T X
 refine g_aloadN X d1_4 (pc' := 5) rfl rfl rfl ?_
 refine g_aloadN X d1_5 (pc' := 6) rfl rfl rfl ?_
 refine g_putfield X (host := "") (Or.inl (tb hw 17 rfl)) Via.refl q1 qa (Or.inr ⟨(tb hw 18 rfl), rfl, hnm⟩) (tb hw 2 rfl) (ty := (.object "java/lang/String")) (by decide) rfl rfl d1_6 (pc' := 9) rfl ?_
 intro T h X W
 replace HR := HR.trans (CHr.wr W (Safe.exa (State.Warmed39.alike X.2.2.2.2.2.1) qa (by decide) (by decide)) HR.1)
 replace hk := Nat.le_trans hk (Nat.le_of_eq W.size.symm)
 replace qa := qa.wr W
 replace qb := qb.other W (Or.inr (slot_ne (Or.inr (tb hw 20 rfl)) (Or.inr (tb hw 18 rfl)) (by decide) (t := (.array .byte)) (t' := (.object "java/lang/String")) (by decide) (by decide)))
 replace qr := qr.other W (Or.inr (slot_ne (Or.inr (tb hw 22 rfl)) (Or.inr (tb hw 18 rfl)) (by decide) (t := .int) (t' := (.object "java/lang/String")) (by decide) (by decide)))
 replace qq := qq.other W (Or.inr (slot_ne (Or.inr (tb hw 24 rfl)) (Or.inr (tb hw 18 rfl)) (by decide) (t := .boolean) (t' := (.object "java/lang/String")) (by decide) (by decide)))
 replace qn := qn.other W (Or.inr (slot_ne (Or.inr (tb hw 30 rfl)) (Or.inr (tb hw 18 rfl)) (by decide) (t := .long) (t' := (.object "java/lang/String")) (by decide) (by decide)))
 replace qm := qm.other W (Or.inr (slot_ne (Or.inr (tb hw 32 rfl)) (Or.inr (tb hw 18 rfl)) (by decide) (t := .long) (t' := (.object "java/lang/String")) (by decide) (by decide)))
 replace qd := qd.other W (Or.inr (slot_ne (Or.inr (tb hw 76 rfl)) (Or.inr (tb hw 18 rfl)) (by decide) (t := (.object "java/lang/String")) (t' := (.object "java/lang/String")) (by decide) (by decide)))
 replace qk := qk.other W (Or.inr (slot_ne (Or.inr (tb hw 78 rfl)) (Or.inr (tb hw 18 rfl)) (by decide) (t := (.object "java/lang/String")) (t' := (.object "java/lang/String")) (by decide) (by decide)))
 replace qf := qf.other W (Or.inr (slot_ne (Or.inr (tb hw 91 rfl)) (Or.inr (tb hw 18 rfl)) (by decide) (t := .boolean) (t' := (.object "java/lang/String")) (by decide) (by decide)))
 replace qe := qe.wr W
 replace qi := qi.other W (Or.inl qj)
 replace qg := qg.other W (Or.inl qj)
 replace qh := qh.other W qp
 replace ql := ql.other W qs
 replace qc := qc.wr W
 replace Z0 := Nat.le_trans Z0 (Nat.le_of_eq W.size.symm)
 replace N := Fr.snoc X.1 N qo
 replace Kp := Kp.wr W (Or.inl (List.mem_of_getElem? (i := 0) rfl))
 refine g_aloadN X d1_9 (pc' := 10) rfl rfl rfl ?_
 refine g_aloadN X d1_10 (pc' := 11) rfl rfl rfl ?_
 refine g_putfield X (host := "") (Or.inl (tb hw 19 rfl)) Via.refl qb qa (Or.inr ⟨(tb hw 20 rfl), rfl, hnm⟩) (tb hw 2 rfl) (ty := (.array .byte)) (by decide) rfl rfl d1_11 (pc' := 14) rfl ?_
 intro T h X W
 replace HR := HR.trans (CHr.wr W (Safe.exa (State.Warmed39.alike X.2.2.2.2.2.1) qa (by decide) (by decide)) HR.1)
 replace hk := Nat.le_trans hk (Nat.le_of_eq W.size.symm)
 replace qa := qa.wr W
 replace qb := qb.same W
 replace qr := qr.other W (Or.inr (slot_ne (Or.inr (tb hw 22 rfl)) (Or.inr (tb hw 20 rfl)) (by decide) (t := .int) (t' := (.array .byte)) (by decide) (by decide)))
 replace qq := qq.other W (Or.inr (slot_ne (Or.inr (tb hw 24 rfl)) (Or.inr (tb hw 20 rfl)) (by decide) (t := .boolean) (t' := (.array .byte)) (by decide) (by decide)))
 replace qn := qn.other W (Or.inr (slot_ne (Or.inr (tb hw 30 rfl)) (Or.inr (tb hw 20 rfl)) (by decide) (t := .long) (t' := (.array .byte)) (by decide) (by decide)))
 replace qm := qm.other W (Or.inr (slot_ne (Or.inr (tb hw 32 rfl)) (Or.inr (tb hw 20 rfl)) (by decide) (t := .long) (t' := (.array .byte)) (by decide) (by decide)))
 replace qd := qd.other W (Or.inr (slot_ne (Or.inr (tb hw 76 rfl)) (Or.inr (tb hw 20 rfl)) (by decide) (t := (.object "java/lang/String")) (t' := (.array .byte)) (by decide) (by decide)))
 replace qk := qk.other W (Or.inr (slot_ne (Or.inr (tb hw 78 rfl)) (Or.inr (tb hw 20 rfl)) (by decide) (t := (.object "java/lang/String")) (t' := (.array .byte)) (by decide) (by decide)))
 replace qf := qf.other W (Or.inr (slot_ne (Or.inr (tb hw 91 rfl)) (Or.inr (tb hw 20 rfl)) (by decide) (t := .boolean) (t' := (.array .byte)) (by decide) (by decide)))
 replace qe := qe.wr W
 replace qi := qi.other W (Or.inl qj)
 replace qg := qg.other W (Or.inl qj)
 replace qh := qh.other W qp
 replace ql := ql.other W qs
 replace qc := qc.wr W
 replace Z0 := Nat.le_trans Z0 (Nat.le_of_eq W.size.symm)
 replace N := Fr.snoc X.1 N qo
 replace Kp := Kp.wr W (Or.inl (List.mem_of_getElem? (i := 0) rfl))
 refine g_aloadN X d1_14 (pc' := 15) rfl rfl rfl ?_
 refine g_iloadN X d1_15 (pc' := 16) rfl rfl ?_
 refine g_putfield X (host := "") (Or.inl (tb hw 21 rfl)) Via.refl qr qa (Or.inr ⟨(tb hw 22 rfl), rfl, hnm⟩) (tb hw 2 rfl) (ty := .int) (by decide) rfl rfl d1_16 (pc' := 19) rfl ?_
 intro T h X W
 replace HR := HR.trans (CHr.wr W (Safe.exa (State.Warmed39.alike X.2.2.2.2.2.1) qa (by decide) (by decide)) HR.1)
 replace hk := Nat.le_trans hk (Nat.le_of_eq W.size.symm)
 replace qa := qa.wr W
 replace qb := qb.other W (Or.inr (slot_ne (Or.inr (tb hw 20 rfl)) (Or.inr (tb hw 22 rfl)) (by decide) (t := (.array .byte)) (t' := .int) (by decide) (by decide)))
 replace qq := qq.other W (Or.inr (slot_ne (Or.inr (tb hw 24 rfl)) (Or.inr (tb hw 22 rfl)) (by decide) (t := .boolean) (t' := .int) (by decide) (by decide)))
 replace qn := qn.other W (Or.inr (slot_ne (Or.inr (tb hw 30 rfl)) (Or.inr (tb hw 22 rfl)) (by decide) (t := .long) (t' := .int) (by decide) (by decide)))
 replace qm := qm.other W (Or.inr (slot_ne (Or.inr (tb hw 32 rfl)) (Or.inr (tb hw 22 rfl)) (by decide) (t := .long) (t' := .int) (by decide) (by decide)))
 replace qd := qd.other W (Or.inr (slot_ne (Or.inr (tb hw 76 rfl)) (Or.inr (tb hw 22 rfl)) (by decide) (t := (.object "java/lang/String")) (t' := .int) (by decide) (by decide)))
 replace qk := qk.other W (Or.inr (slot_ne (Or.inr (tb hw 78 rfl)) (Or.inr (tb hw 22 rfl)) (by decide) (t := (.object "java/lang/String")) (t' := .int) (by decide) (by decide)))
 replace qf := qf.other W (Or.inr (slot_ne (Or.inr (tb hw 91 rfl)) (Or.inr (tb hw 22 rfl)) (by decide) (t := .boolean) (t' := .int) (by decide) (by decide)))
 replace qe := qe.wr W
 replace qi := qi.other W (Or.inl qj)
 replace qg := qg.other W (Or.inl qj)
 replace qh := qh.other W qp
 replace ql := ql.other W qs
 replace qc := qc.wr W
 replace Z0 := Nat.le_trans Z0 (Nat.le_of_eq W.size.symm)
 replace N := Fr.snoc X.1 N qo
 replace Kp := Kp.wr W (Or.inl (List.mem_of_getElem? (i := 0) rfl))
 refine g_aloadN X d1_19 (pc' := 20) rfl rfl rfl ?_
 refine g_iload X d1_20 (pc' := 22) rfl rfl ?_
 refine g_putfieldN X (tb hw 23 rfl) Via.refl qq qa (Or.inr ⟨(tb hw 24 rfl), rfl, hnm⟩) (tb hw 2 rfl) (ty := .boolean) (v' := (.int (nar .boolean i4))) (by decide) rfl (fits_nar_bool _) d1_22 (pc' := 25) rfl ?_
 intro T h X W
 replace HR := HR.trans (CHr.wr W (Safe.exa (State.Warmed39.alike X.2.2.2.2.2.1) qa (by decide) (by decide)) HR.1)
 replace hk := Nat.le_trans hk (Nat.le_of_eq W.size.symm)
 replace qa := qa.wr W
 replace qb := qb.other W (Or.inr (slot_ne (Or.inr (tb hw 20 rfl)) (Or.inr (tb hw 24 rfl)) (by decide) (t := (.array .byte)) (t' := .boolean) (by decide) (by decide)))
 replace qn := qn.other W (Or.inr (slot_ne (Or.inr (tb hw 30 rfl)) (Or.inr (tb hw 24 rfl)) (by decide) (t := .long) (t' := .boolean) (by decide) (by decide)))
 replace qm := qm.other W (Or.inr (slot_ne (Or.inr (tb hw 32 rfl)) (Or.inr (tb hw 24 rfl)) (by decide) (t := .long) (t' := .boolean) (by decide) (by decide)))
 replace qd := qd.other W (Or.inr (slot_ne (Or.inr (tb hw 76 rfl)) (Or.inr (tb hw 24 rfl)) (by decide) (t := (.object "java/lang/String")) (t' := .boolean) (by decide) (by decide)))
 replace qk := qk.other W (Or.inr (slot_ne (Or.inr (tb hw 78 rfl)) (Or.inr (tb hw 24 rfl)) (by decide) (t := (.object "java/lang/String")) (t' := .boolean) (by decide) (by decide)))
 replace qf := qf.other W (Or.inr (slot_ne (Or.inr (tb hw 91 rfl)) (Or.inr (tb hw 24 rfl)) (by decide) (t := .boolean) (t' := .boolean) (by decide) (by decide)))
 replace qe := qe.wr W
 replace qi := qi.other W (Or.inl qj)
 replace qg := qg.other W (Or.inl qj)
 replace qh := qh.other W qp
 replace ql := ql.other W qs
 replace qc := qc.wr W
 replace Z0 := Nat.le_trans Z0 (Nat.le_of_eq W.size.symm)
 replace N := Fr.snoc X.1 N qo
 replace Kp := Kp.wr W (Or.inl (List.mem_of_getElem? (i := 0) rfl))
 refine g_aloadN X d1_25 (pc' := 26) rfl rfl rfl ?_
 refine g_arraylength X ql d1_26 (pc' := 27) rfl (z := (3 : Int32)) rfl ?_
 refine g_bipush X (8 : Int32) d1_27 (pc' := 29) rfl rfl ?_
 refine g_static X (W := 0) [(.int (3 : Int32)), (.int (8 : Int32))] [] (tb hw 25 rfl) (tb hw 26 rfl) (tb hw 27 rfl) (tb hw 28 rfl) (rMin38 l Z aa hw []  _) d1_29 (pc' := 32) rfl (by decide) (by decide) (by decide) rfl rfl rfl (lenOf pd_2 rfl) (Nat.le_refl _) (by decide) (by decide) ?_
 intro v T L X q
 obtain ⟨rfl, X⟩ := pureX X q
 show Go p e below _ (T.setTop (mkF m 32 _ [(.int (3 : Int32))]))
 refine g_istore X d1_32 (pc' := 34) (Ls' := #[.val (.ref a0), .val (.ref a1), .val (.ref a2), .val (.int i3), .val (.int i4), .val (.int (3 : Int32)), .unset, .unset, .unset]) rfl rfl ?_
 refine g_lconst X (0 : Int64) d1_34 (pc' := 35) rfl rfl ?_
 refine g_lstore X d1_35 (pc' := 37) (Ls' := #[.val (.ref a0), .val (.ref a1), .val (.ref a2), .val (.int i3), .val (.int i4), .val (.int (3 : Int32)), .val (.long (0 : Int64)), .second, .unset]) rfl rfl ?_
 refine g_iload X d1_37 (pc' := 39) rfl rfl ?_
 refine g_iconst X (1 : Int32) d1_39 (pc' := 40) rfl rfl ?_
 refine g_isub X d1_40 (pc' := 41) rfl ?_
 refine Go.lit32 (z := (2 : Int32)) (by decide) ?_
 refine g_istore X d1_41 (pc' := 43) (Ls' := #[.val (.ref a0), .val (.ref a1), .val (.ref a2), .val (.int i3), .val (.int i4), .val (.int (3 : Int32)), .val (.long (0 : Int64)), .second, .val (.int (2 : Int32))]) rfl rfl ?_
 refine g_iload X d1_43 (pc' := 45) rfl rfl ?_
 refine g_ifN X d1_45 ((if0 _ _).trans (flt (show ¬ ((2 : Int32) < (0 : Int32)) from (by decide))).1) (pc' := 48) rfl ?_
 refine g_lload X d1_48 (pc' := 50) rfl rfl ?_
 refine g_bipush X (8 : Int32) d1_50 (pc' := 52) rfl rfl ?_
 refine g_lshl X d1_52 (pc' := 53) rfl ?_
 refine Go.lit64 (z := (0 : Int64)) (by decide) ?_
 refine g_aloadN X d1_53 (pc' := 54) rfl rfl rfl ?_
 refine g_iload X d1_54 (pc' := 56) rfl rfl ?_
 refine g_baload X ql 2 d1_56 (pc' := 57) rfl (by decide) (by decide) rfl ?_
 refine g_sipush X (255 : Int32) d1_57 (pc' := 60) rfl rfl ?_
 refine g_iand X d1_60 (pc' := 61) rfl ?_
 refine g_i2l X d1_61 (pc' := 62) rfl ?_
 refine g_lor X d1_62 (pc' := 63) rfl ?_
 generalize q2 : ((0 : Int64) ||| ((e2 &&& (255 : Int32)).toInt64)) = qu
 refine g_lstore X d1_63 (pc' := 65) (Ls' := #[.val (.ref a0), .val (.ref a1), .val (.ref a2), .val (.int i3), .val (.int i4), .val (.int (3 : Int32)), .val (.long qu), .second, .val (.int (2 : Int32))]) rfl rfl ?_
 refine g_iinc X d1_65 (pc' := 68) (q := (-1 : Int32)) (Ls' := #[.val (.ref a0), .val (.ref a1), .val (.ref a2), .val (.int i3), .val (.int i4), .val (.int (3 : Int32)), .val (.long qu), .second, .val (.int (1 : Int32))]) rfl rfl rfl rfl ?_
 refine g_goto X d1_68 (pc' := 43) (by decide) (by decide) ?_
 refine g_iload X d1_43 (pc' := 45) rfl rfl ?_
 refine g_ifN X d1_45 ((if0 _ _).trans (flt (show ¬ ((1 : Int32) < (0 : Int32)) from (by decide))).1) (pc' := 48) rfl ?_
 refine g_lload X d1_48 (pc' := 50) rfl rfl ?_
 refine g_bipush X (8 : Int32) d1_50 (pc' := 52) rfl rfl ?_
 refine g_lshl X d1_52 (pc' := 53) rfl ?_
 refine g_aloadN X d1_53 (pc' := 54) rfl rfl rfl ?_
 refine g_iload X d1_54 (pc' := 56) rfl rfl ?_
 refine g_baload X ql 1 d1_56 (pc' := 57) rfl (by decide) (by decide) rfl ?_
 refine g_sipush X (255 : Int32) d1_57 (pc' := 60) rfl rfl ?_
 refine g_iand X d1_60 (pc' := 61) rfl ?_
 refine g_i2l X d1_61 (pc' := 62) rfl ?_
 refine g_lor X d1_62 (pc' := 63) rfl ?_
 generalize q3 : ((qu <<< ((8 : Int32) &&& 0x3f).toInt64) ||| ((e1 &&& (255 : Int32)).toInt64)) = qv
 refine g_lstore X d1_63 (pc' := 65) (Ls' := #[.val (.ref a0), .val (.ref a1), .val (.ref a2), .val (.int i3), .val (.int i4), .val (.int (3 : Int32)), .val (.long qv), .second, .val (.int (1 : Int32))]) rfl rfl ?_
 refine g_iinc X d1_65 (pc' := 68) (q := (-1 : Int32)) (Ls' := #[.val (.ref a0), .val (.ref a1), .val (.ref a2), .val (.int i3), .val (.int i4), .val (.int (3 : Int32)), .val (.long qv), .second, .val (.int (0 : Int32))]) rfl rfl rfl rfl ?_
 refine g_goto X d1_68 (pc' := 43) (by decide) (by decide) ?_
 refine g_iload X d1_43 (pc' := 45) rfl rfl ?_
 refine g_ifN X d1_45 ((if0 _ _).trans (flt (show ¬ ((0 : Int32) < (0 : Int32)) from (by decide))).1) (pc' := 48) rfl ?_
 refine g_lload X d1_48 (pc' := 50) rfl rfl ?_
 refine g_bipush X (8 : Int32) d1_50 (pc' := 52) rfl rfl ?_
 refine g_lshl X d1_52 (pc' := 53) rfl ?_
 refine g_aloadN X d1_53 (pc' := 54) rfl rfl rfl ?_
 refine g_iload X d1_54 (pc' := 56) rfl rfl ?_
 refine g_baload X ql 0 d1_56 (pc' := 57) rfl (by decide) (by decide) rfl ?_
 refine g_sipush X (255 : Int32) d1_57 (pc' := 60) rfl rfl ?_
 refine g_iand X d1_60 (pc' := 61) rfl ?_
 refine g_i2l X d1_61 (pc' := 62) rfl ?_
 refine g_lor X d1_62 (pc' := 63) rfl ?_
 generalize q4 : ((qv <<< ((8 : Int32) &&& 0x3f).toInt64) ||| ((e0 &&& (255 : Int32)).toInt64)) = qw
 refine g_lstore X d1_63 (pc' := 65) (Ls' := #[.val (.ref a0), .val (.ref a1), .val (.ref a2), .val (.int i3), .val (.int i4), .val (.int (3 : Int32)), .val (.long qw), .second, .val (.int (0 : Int32))]) rfl rfl ?_
 refine g_iinc X d1_65 (pc' := 68) (q := (-1 : Int32)) (Ls' := #[.val (.ref a0), .val (.ref a1), .val (.ref a2), .val (.int i3), .val (.int i4), .val (.int (3 : Int32)), .val (.long qw), .second, .val (.int (-1 : Int32))]) rfl rfl rfl rfl ?_
 refine g_goto X d1_68 (pc' := 43) (by decide) (by decide) ?_
 refine g_iload X d1_43 (pc' := 45) rfl rfl ?_
 refine g_ifY X d1_45 ((if0 _ _).trans (tlt (show (-1 : Int32) < (0 : Int32) from (by decide))).1) (pc' := 71) (by decide) (by decide) ?_
 refine g_aloadN X d1_71 (pc' := 72) rfl rfl rfl ?_
 refine g_lload X d1_72 (pc' := 74) rfl rfl ?_
 refine g_putfield X (host := "") (Or.inl (tb hw 29 rfl)) Via.refl qn qa (Or.inr ⟨(tb hw 30 rfl), rfl, hnm⟩) (tb hw 2 rfl) (ty := .long) (by decide) rfl rfl d1_74 (pc' := 77) rfl ?_
 intro T h X W
 replace HR := HR.trans (CHr.wr W (Safe.exa (State.Warmed39.alike X.2.2.2.2.2.1) qa (by decide) (by decide)) HR.1)
 replace hk := Nat.le_trans hk (Nat.le_of_eq W.size.symm)
 replace qa := qa.wr W
 replace qb := qb.other W (Or.inr (slot_ne (Or.inr (tb hw 20 rfl)) (Or.inr (tb hw 30 rfl)) (by decide) (t := (.array .byte)) (t' := .long) (by decide) (by decide)))
 replace qm := qm.other W (Or.inr (slot_ne (Or.inr (tb hw 32 rfl)) (Or.inr (tb hw 30 rfl)) (by decide) (t := .long) (t' := .long) (by decide) (by decide)))
 replace qd := qd.other W (Or.inr (slot_ne (Or.inr (tb hw 76 rfl)) (Or.inr (tb hw 30 rfl)) (by decide) (t := (.object "java/lang/String")) (t' := .long) (by decide) (by decide)))
 replace qk := qk.other W (Or.inr (slot_ne (Or.inr (tb hw 78 rfl)) (Or.inr (tb hw 30 rfl)) (by decide) (t := (.object "java/lang/String")) (t' := .long) (by decide) (by decide)))
 replace qf := qf.other W (Or.inr (slot_ne (Or.inr (tb hw 91 rfl)) (Or.inr (tb hw 30 rfl)) (by decide) (t := .boolean) (t' := .long) (by decide) (by decide)))
 replace qe := qe.wr W
 replace qi := qi.other W (Or.inl qj)
 replace qg := qg.other W (Or.inl qj)
 replace qh := qh.other W qp
 replace qc := qc.wr W
 replace Z0 := Nat.le_trans Z0 (Nat.le_of_eq W.size.symm)
 replace N := Fr.snoc X.1 N qo
 replace Kp := Kp.wr W (Or.inl (List.mem_of_getElem? (i := 0) rfl))
 refine g_aloadN X d1_77 (pc' := 78) rfl rfl rfl ?_
 refine g_iload X d1_78 (pc' := 80) rfl rfl ?_
 refine g_bipush X (8 : Int32) d1_80 (pc' := 82) rfl rfl ?_
 refine g_icY X d1_82 (feq (show ¬ ((3 : Int32) = (8 : Int32)) from (by decide))).2 (pc' := 91) (by decide) (by decide) ?_
 refine g_lconst X (1 : Int64) d1_91 (pc' := 92) rfl rfl ?_
 refine g_bipush X (8 : Int32) d1_92 (pc' := 94) rfl rfl ?_
 refine g_iload X d1_94 (pc' := 96) rfl rfl ?_
 refine g_imul X d1_96 (pc' := 97) rfl ?_
 refine Go.lit32 (z := (24 : Int32)) (by decide) ?_
 refine g_lshl X d1_97 (pc' := 98) rfl ?_
 refine Go.lit64 (z := (16777216 : Int64)) (by decide) ?_
 refine g_lconst X (1 : Int64) d1_98 (pc' := 99) rfl rfl ?_
 refine g_lsub X d1_99 (pc' := 100) rfl ?_
 refine Go.lit64 (z := (16777215 : Int64)) (by decide) ?_
 refine g_putfield X (host := "") (Or.inl (tb hw 31 rfl)) Via.refl qm qa (Or.inr ⟨(tb hw 32 rfl), rfl, hnm⟩) (tb hw 2 rfl) (ty := .long) (by decide) rfl rfl d1_100 (pc' := 103) rfl ?_
 intro T h X W
 replace HR := HR.trans (CHr.wr W (Safe.exa (State.Warmed39.alike X.2.2.2.2.2.1) qa (by decide) (by decide)) HR.1)
 replace hk := Nat.le_trans hk (Nat.le_of_eq W.size.symm)
 replace qa := qa.wr W
 replace qb := qb.other W (Or.inr (slot_ne (Or.inr (tb hw 20 rfl)) (Or.inr (tb hw 32 rfl)) (by decide) (t := (.array .byte)) (t' := .long) (by decide) (by decide)))
 replace qd := qd.other W (Or.inr (slot_ne (Or.inr (tb hw 76 rfl)) (Or.inr (tb hw 32 rfl)) (by decide) (t := (.object "java/lang/String")) (t' := .long) (by decide) (by decide)))
 replace qk := qk.other W (Or.inr (slot_ne (Or.inr (tb hw 78 rfl)) (Or.inr (tb hw 32 rfl)) (by decide) (t := (.object "java/lang/String")) (t' := .long) (by decide) (by decide)))
 replace qf := qf.other W (Or.inr (slot_ne (Or.inr (tb hw 91 rfl)) (Or.inr (tb hw 32 rfl)) (by decide) (t := .boolean) (t' := .long) (by decide) (by decide)))
 replace qe := qe.wr W
 replace qi := qi.other W (Or.inl qj)
 replace qg := qg.other W (Or.inl qj)
 replace qh := qh.other W qp
 replace qc := qc.wr W
 replace Z0 := Nat.le_trans Z0 (Nat.le_of_eq W.size.symm)
 replace N := Fr.snoc X.1 N qo
 replace Kp := Kp.wr W (Or.inl (List.mem_of_getElem? (i := 0) rfl))
 refine g_aloadN X d1_103 (pc' := 104) rfl rfl rfl ?_
 refine g_bipush X (58 : Int32) d1_104 (pc' := 106) rfl rfl ?_
 refine g_virtual X (W := 0) (a := a1) (C := "java/lang/String") [(.int (58 : Int32))] [] qe (tb hw 33 rfl) (tb hw 34 rfl) (tb hw 36 rfl) (tb hw 35 rfl) (tb hw 5 rfl) (tb hw 37 rfl) (rIx1 l Z aa hw [] a1 G1 v1 _ qe qi qg qh qc P5) d1_106 (pc' := 109) rfl (by decide) (by decide) (by decide) rfl rfl rfl (lenOf pd_7 rfl) (Nat.le_refl _) (by decide) (by decide) ?_
 intro v T L X q
 obtain ⟨rfl, X⟩ := pureX X q
 show Go p e below _ (T.setTop (mkF m 109 _ [(.int (-1 : Int32))]))
 refine g_istore X d1_109 (pc' := 111) (Ls' := #[.val (.ref a0), .val (.ref a1), .val (.ref a2), .val (.int i3), .val (.int i4), .val (.int (3 : Int32)), .val (.long qw), .second, .val (.int (-1 : Int32))]) rfl rfl ?_
 refine g_iload X d1_111 (pc' := 113) rfl rfl ?_
 refine g_ifN X d1_113 ((if0 _ _).trans (tlt (show (-1 : Int32) < (0 : Int32) from (by decide))).2.1) (pc' := 116) rfl ?_
 refine g_aloadN X d1_116 (pc' := 117) rfl rfl rfl ?_
 refine g_aconst_null X d1_117 (pc' := 118) rfl ?_
 refine g_putfield X (host := "") (Or.inl (tb hw 75 rfl)) Via.refl qd qa (Or.inr ⟨(tb hw 76 rfl), rfl, hnm⟩) (tb hw 2 rfl) (ty := (.object "java/lang/String")) (by decide) rfl rfl d1_118 (pc' := 121) rfl ?_
 intro T h X W
 replace HR := HR.trans (CHr.wr W (Safe.exa (State.Warmed39.alike X.2.2.2.2.2.1) qa (by decide) (by decide)) HR.1)
 replace hk := Nat.le_trans hk (Nat.le_of_eq W.size.symm)
 replace qa := qa.wr W
 replace qb := qb.other W (Or.inr (slot_ne (Or.inr (tb hw 20 rfl)) (Or.inr (tb hw 76 rfl)) (by decide) (t := (.array .byte)) (t' := (.object "java/lang/String")) (by decide) (by decide)))
 replace qd := qd.same W
 replace qk := qk.other W (Or.inr (slot_ne (Or.inr (tb hw 78 rfl)) (Or.inr (tb hw 76 rfl)) (by decide) (t := (.object "java/lang/String")) (t' := (.object "java/lang/String")) (by decide) (by decide)))
 replace qf := qf.other W (Or.inr (slot_ne (Or.inr (tb hw 91 rfl)) (Or.inr (tb hw 76 rfl)) (by decide) (t := .boolean) (t' := (.object "java/lang/String")) (by decide) (by decide)))
 replace qe := qe.wr W
 replace qi := qi.other W (Or.inl qj)
 replace qg := qg.other W (Or.inl qj)
 replace qh := qh.other W qp
 replace qc := qc.wr W
 replace Z0 := Nat.le_trans Z0 (Nat.le_of_eq W.size.symm)
 replace N := Fr.snoc X.1 N qo
 replace Kp := Kp.wr W (Or.inl (List.mem_of_getElem? (i := 0) rfl))
 refine g_aloadN X d1_121 (pc' := 122) rfl rfl rfl ?_
 refine g_aloadN X d1_122 (pc' := 123) rfl rfl rfl ?_
 refine g_putfield X (host := "") (Or.inl (tb hw 77 rfl)) Via.refl qk qa (Or.inr ⟨(tb hw 78 rfl), rfl, hnm⟩) (tb hw 2 rfl) (ty := (.object "java/lang/String")) (by decide) rfl rfl d1_123 (pc' := 126) rfl ?_
 intro T h X W
 replace HR := HR.trans (CHr.wr W (Safe.exa (State.Warmed39.alike X.2.2.2.2.2.1) qa (by decide) (by decide)) HR.1)
 replace hk := Nat.le_trans hk (Nat.le_of_eq W.size.symm)
 replace qa := qa.wr W
 replace qb := qb.other W (Or.inr (slot_ne (Or.inr (tb hw 20 rfl)) (Or.inr (tb hw 78 rfl)) (by decide) (t := (.array .byte)) (t' := (.object "java/lang/String")) (by decide) (by decide)))
 replace qd := qd.other W (Or.inr (slot_ne (Or.inr (tb hw 76 rfl)) (Or.inr (tb hw 78 rfl)) (by decide) (t := (.object "java/lang/String")) (t' := (.object "java/lang/String")) (by decide) (by decide)))
 replace qf := qf.other W (Or.inr (slot_ne (Or.inr (tb hw 91 rfl)) (Or.inr (tb hw 78 rfl)) (by decide) (t := .boolean) (t' := (.object "java/lang/String")) (by decide) (by decide)))
 replace qe := qe.wr W
 replace qi := qi.other W (Or.inl qj)
 replace qg := qg.other W (Or.inl qj)
 replace qh := qh.other W qp
 replace qc := qc.wr W
 replace Z0 := Nat.le_trans Z0 (Nat.le_of_eq W.size.symm)
 replace N := Fr.snoc X.1 N qo
 replace Kp := Kp.wr W (Or.inl (List.mem_of_getElem? (i := 0) rfl))
 refine g_goto X d1_126 (pc' := 155) (by decide) (by decide) ?_
 refine g_aloadN X d1_155 (pc' := 156) rfl rfl rfl ?_
 refine g_aloadN X d1_156 (pc' := 157) rfl rfl rfl ?_
 refine g_ldcH X hS hk (elw hw) (List.mem_of_getElem? (i := 0) rfl) HR.1 (tb hw 79 rfl) (sAt hw) (vs := [(.int (120 : Int32)), (.int (109 : Int32)), (.int (108 : Int32)), (.int (110 : Int32)), (.int (115 : Int32))]) (z := (5 : Int32)) ⟨by decide +kernel, by first | rfl | decide +kernel⟩ (by decide) rfl d1_157 (pc' := 159) rfl (n := 20) (by decide +kernel) (by decide) (by decide) (by decide) ?_
 intro qt T h k1 q5 X Ex hS hk q6 q7 qy qz HRn SF
 replace qa := qa.ext Ex
 replace qb := qb.ext Ex
 replace qd := qd.ext Ex
 replace qf := qf.ext Ex
 replace qe := qe.ext Ex
 replace qi := qi.ext Ex
 replace qg := qg.ext Ex
 replace qh := qh.ext Ex
 replace qc := qc.ext Ex
 replace Z0 := Nat.le_trans Z0 Ex.1
 replace Kp := Kp.ext Ex
 replace HR := HR.trans HRn
 obtain ⟨jd, je⟩ := SF a0 (Safe.exa (State.Warmed39.alike X.2.2.2.2.2.1) qa (by decide) (by decide))
 have q8 : a1 ≠ qt := qg.ne qy (fun q => qh.ne qz (by decide) (Value.ref.inj q))
 show Go p e below _ (T.setTop (mkF m 159 _ [(.ref qt), (.ref a1), (.ref a0)]))
 refine g_virtual X (W := 1) (a := a1) (C := "java/lang/String") [(.ref qt)] [(.ref a0)] qe (tb hw 80 rfl) (tb hw 81 rfl) (tb hw 83 rfl) (tb hw 82 rfl) (tb hw 5 rfl) (tb hw 84 rfl) (rEq l Z aa hw [] a1 qt G1 v1 q5 _ q8 qe qi qg qh q6 q7 qy qz qc P5) d1_159 (pc' := 162) rfl (by decide) (by decide) (by decide) rfl rfl rfl (lenOf pd_8 rfl) (Nat.le_refl _) (by decide) (by decide) ?_
 intro v T L X q
 obtain ⟨rfl, X⟩ := pureX X q
 show Go p e below _ (T.setTop (mkF m 162 _ [(.int (0 : Int32)), (.ref a0)]))
 refine g_ifN X d1_162 ((if0 _ _).trans (teq (show (0 : Int32) = (0 : Int32) from (by decide))).2) (pc' := 165) rfl ?_
 refine g_ldcH X hS hk (elw hw) (List.mem_of_getElem? (i := 0) rfl) HR.1 (tb hw 79 rfl) (sAt hw) (vs := [(.int (120 : Int32)), (.int (109 : Int32)), (.int (108 : Int32)), (.int (110 : Int32)), (.int (115 : Int32))]) (z := (5 : Int32)) ⟨by decide +kernel, by first | rfl | decide +kernel⟩ (by decide) rfl d1_165 (pc' := 167) rfl (n := 20) (by decide +kernel) (by decide) (by decide) (by decide) ?_
 intro qx T h k1 q9 X Ex hS hk q0 ja jb jc HRn SF
 replace qa := qa.ext Ex
 replace qb := qb.ext Ex
 replace qd := qd.ext Ex
 replace qf := qf.ext Ex
 replace qc := qc.ext Ex
 replace Z0 := Nat.le_trans Z0 Ex.1
 replace Kp := Kp.ext Ex
 replace HR := HR.trans HRn
 obtain ⟨jf, jg⟩ := SF a0 (Safe.exa (State.Warmed39.alike X.2.2.2.2.2.1) qa (by decide) (by decide))
 show Go p e below _ (T.setTop (mkF m 167 _ [(.ref qx), (.ref a0)]))
 refine g_aloadN X d1_167 (pc' := 168) rfl rfl rfl ?_
 refine g_getfield X (host := "") (Or.inl (tb hw 75 rfl)) Via.refl qd d1_168 (pc' := 171) rfl ?_
 intro T X
 refine g_virtual X (W := 1) (a := qx) (C := "java/lang/String") [.null] [(.ref a0)] q0 (tb hw 80 rfl) (tb hw 81 rfl) (tb hw 83 rfl) (tb hw 82 rfl) (tb hw 5 rfl) (tb hw 84 rfl) (rEqn l Z aa hw [] qx G1 q9 _ q0 ja jb jc qc P5) d1_171 (pc' := 174) rfl (by decide) (by decide) (by decide) rfl rfl rfl (lenOf pd_8 rfl) (Nat.le_refl _) (by decide) (by decide) ?_
 intro v T L X q
 obtain ⟨rfl, X⟩ := pureX X q
 show Go p e below _ (T.setTop (mkF m 174 _ [(.int (0 : Int32)), (.ref a0)]))
 refine g_ifY X d1_174 ((if0 _ _).trans (teq (show (0 : Int32) = (0 : Int32) from (by decide))).1) (pc' := 181) (by decide) (by decide) ?_
 refine g_iconst X (0 : Int32) d1_181 (pc' := 182) rfl rfl ?_
 refine g_putfieldN X (tb hw 90 rfl) Via.refl qf qa (Or.inr ⟨(tb hw 91 rfl), rfl, hnm⟩) (tb hw 2 rfl) (ty := .boolean) (v' := (.int (nar .boolean (0 : Int32)))) (by decide) rfl (fits_nar_bool _) d1_182 (pc' := 185) rfl ?_
 intro T h X W
 replace HR := HR.trans (CHr.wr W (Safe.exa (State.Warmed39.alike X.2.2.2.2.2.1) qa (by decide) (by decide)) HR.1)
 replace hk := Nat.le_trans hk (Nat.le_of_eq W.size.symm)
 replace qa := qa.wr W
 replace qb := qb.other W (Or.inr (slot_ne (Or.inr (tb hw 20 rfl)) (Or.inr (tb hw 91 rfl)) (by decide) (t := (.array .byte)) (t' := .boolean) (by decide) (by decide)))
 replace Z0 := Nat.le_trans Z0 (Nat.le_of_eq W.size.symm)
 replace N := Fr.snoc X.1 N qo
 replace Kp := Kp.wr W (Or.inl (List.mem_of_getElem? (i := 0) rfl))
 refine g_returnH X hS hk (elw hw) HR d1_185 hret hlk (by decide) (by decide) ?_
 subst q2 q3 q4
 exact ⟨rfl, N, Kp, qa, qb⟩
theorem d15_0 : decode prog_20_method_10_code 0 = .ok (.aload_n 0, 1) := by decide +kernel
theorem d15_1 : decode prog_20_method_10_code 1 = .ok (.getfield 13, 3) := by decide +kernel
theorem d15_4 : decode prog_20_method_10_code 4 = .ok (.arraylength, 1) := by decide +kernel
theorem d15_5 : decode prog_20_method_10_code 5 = .ok (.iload_n 3, 1) := by decide +kernel
theorem d15_6 : decode prog_20_method_10_code 6 = .ok (.if_icmp .ne 7, 3) := by decide +kernel
theorem d15_13 : decode prog_20_method_10_code 13 = .ok (.iconst 0, 1) := by decide +kernel
theorem d15_14 : decode prog_20_method_10_code 14 = .ok (.istore 4, 2) := by decide +kernel
theorem d15_16 : decode prog_20_method_10_code 16 = .ok (.iload 4, 2) := by decide +kernel
theorem d15_18 : decode prog_20_method_10_code 18 = .ok (.ifCond .eq 52, 3) := by decide +kernel
theorem d15_70 : decode prog_20_method_10_code 70 = .ok (.iload 4, 2) := by decide +kernel
theorem d15_72 : decode prog_20_method_10_code 72 = .ok (.ireturn, 1) := by decide +kernel
theorem ef_rIsN0 (m : MethodId) (x0 : Addr) (x1 : Addr) (x2 : Int32) (x3 : Int32) : entryFrame m #[(.ref x0), (.ref x1), (.int x2), (.int x3)] 7 = mkF m 0 #[.val (.ref x0), .val (.ref x1), .val (.int x2), .val (.int x3), .unset, .unset, .unset] [] := by first | (simp [entryFrame, mkF, argsToLocals, Value.category]; done) | rfl
set_option maxRecDepth 65536 in
set_option maxHeartbeats 40000000 in
theorem rIsN0 (l : Launch) (Z : State) (aa : Array Value) (hw : ∀ d ∈ tables_1, d.before aa Z = true) (ws : List Jvm.Cond) (a0 : Addr) (a1 : Addr) (i2 : Int32) (i3 : Int32) (wk : Addr) (t0 : Int32) (t1 : Int32) (t2 : Int32) (t3 : Int32) (t4 : Int32) (t5 : Int32) (h0 : Heap) (qc : Exa Z h0 a0 "com/example/scheherazade/scheherazade/core/XmlName") (qa : Fld Z h0 a0 "com/example/scheherazade/scheherazade/core/XmlName" "spelling" "[B" (.ref wk)) (qb : Av Z h0 wk .byte []) (qd : Av Z h0 a1 .byte [(.int t0), (.int t1), (.int t2), (.int t3), (.int t4), (.int t5)]) (pn : ¬ (0 : Int32) = i3) :
    Rm l Z (⟨"com/example/scheherazade/scheherazade/core/XmlName", "isSpelledBy", "([BII)Z"⟩ : MethodName) prog_20_method_10_code 7 (some .boolean) ws ({ frames := 0, cells := 0, slots := 0, locals := 0 } : Room) #[(.ref a0), (.ref a1), (.int i2), (.int i3)] h0 (Pu (.int (0 : Int32)) h0) := by
 refine Rm.of (plainFor_of_name pn_2) ?_
 intro p e s m below meth cc T X hnm hret hlk
 refine Go.at_ (ef_rIsN0 m a0 a1 i2 i3) ?_
 refine g_aloadN X d15_0 (pc' := 1) rfl rfl rfl ?_
 refine g_getfield X (host := "") (Or.inl (tb hw 19 rfl)) Via.refl qa d15_1 (pc' := 4) rfl ?_
 intro T X
 refine g_arraylength X qb d15_4 (pc' := 5) rfl (z := (0 : Int32)) rfl ?_
 refine g_iloadN X d15_5 (pc' := 6) rfl rfl ?_
 refine g_icY X d15_6 (feq (show ¬ ((0 : Int32) = i3) from pn)).2 (pc' := 13) (by decide) (by decide) ?_
 refine g_iconst X (0 : Int32) d15_13 (pc' := 14) rfl rfl ?_
 refine g_istore X d15_14 (pc' := 16) (Ls' := #[.val (.ref a0), .val (.ref a1), .val (.int i2), .val (.int i3), .val (.int (0 : Int32)), .unset, .unset]) rfl rfl ?_
 refine g_iload X d15_16 (pc' := 18) rfl rfl ?_
 refine g_ifY X d15_18 ((if0 _ _).trans (teq (show (0 : Int32) = (0 : Int32) from (by decide))).1) (pc' := 70) (by decide) (by decide) ?_
 refine g_iload X d15_70 (pc' := 72) rfl rfl ?_
 refine g_ireturnN X (t := .boolean) (by simp) d15_72 hret hlk (by decide) (by decide) ?_
 exact ⟨rfl, rfl, rfl⟩
theorem d15_9 : decode prog_20_method_10_code 9 = .ok (.iconst 1, 1) := by decide +kernel
theorem d15_10 : decode prog_20_method_10_code 10 = .ok (.goto 4, 3) := by decide +kernel
theorem d15_21 : decode prog_20_method_10_code 21 = .ok (.iconst 0, 1) := by decide +kernel
theorem d15_22 : decode prog_20_method_10_code 22 = .ok (.istore 5, 2) := by decide +kernel
theorem d15_24 : decode prog_20_method_10_code 24 = .ok (.iconst 0, 1) := by decide +kernel
theorem d15_25 : decode prog_20_method_10_code 25 = .ok (.istore 6, 2) := by decide +kernel
theorem d15_27 : decode prog_20_method_10_code 27 = .ok (.iload 6, 2) := by decide +kernel
theorem d15_29 : decode prog_20_method_10_code 29 = .ok (.iload_n 3, 1) := by decide +kernel
theorem d15_30 : decode prog_20_method_10_code 30 = .ok (.if_icmp .ge 28, 3) := by decide +kernel
theorem d15_58 : decode prog_20_method_10_code 58 = .ok (.iload 5, 2) := by decide +kernel
theorem d15_60 : decode prog_20_method_10_code 60 = .ok (.ifCond .ne 7, 3) := by decide +kernel
theorem d15_63 : decode prog_20_method_10_code 63 = .ok (.iconst 1, 1) := by decide +kernel
theorem d15_64 : decode prog_20_method_10_code 64 = .ok (.goto 4, 3) := by decide +kernel
theorem d15_68 : decode prog_20_method_10_code 68 = .ok (.istore 4, 2) := by decide +kernel
def fIs00 (t0 : Int32) (t1 : Int32) (t2 : Int32) (t3 : Int32) (t4 : Int32) (t5 : Int32) : Bool := true
theorem ef_rIs00 (m : MethodId) (x0 : Addr) (x1 : Addr) (x2 : Int32) (x3 : Int32) : entryFrame m #[(.ref x0), (.ref x1), (.int x2), (.int x3)] 7 = mkF m 0 #[.val (.ref x0), .val (.ref x1), .val (.int x2), .val (.int x3), .unset, .unset, .unset] [] := by first | (simp [entryFrame, mkF, argsToLocals, Value.category]; done) | rfl
set_option maxRecDepth 65536 in
set_option maxHeartbeats 40000000 in
theorem rIs00 (l : Launch) (Z : State) (aa : Array Value) (hw : ∀ d ∈ tables_1, d.before aa Z = true) (ws : List Jvm.Cond) (a0 : Addr) (a1 : Addr) (wk : Addr) (t0 : Int32) (t1 : Int32) (t2 : Int32) (t3 : Int32) (t4 : Int32) (t5 : Int32) (h0 : Heap) (qc : Exa Z h0 a0 "com/example/scheherazade/scheherazade/core/XmlName") (qa : Fld Z h0 a0 "com/example/scheherazade/scheherazade/core/XmlName" "spelling" "[B" (.ref wk)) (qb : Av Z h0 wk .byte []) (qd : Av Z h0 a1 .byte [(.int t0), (.int t1), (.int t2), (.int t3), (.int t4), (.int t5)]) :
    Rm l Z (⟨"com/example/scheherazade/scheherazade/core/XmlName", "isSpelledBy", "([BII)Z"⟩ : MethodName) prog_20_method_10_code 7 (some .boolean) ws ({ frames := 0, cells := 0, slots := 0, locals := 0 } : Room) #[(.ref a0), (.ref a1), (.int (0 : Int32)), (.int (0 : Int32))] h0 (Pu (.int (b2i (fIs00 t0 t1 t2 t3 t4 t5))) h0) := by
 refine Rm.of (plainFor_of_name pn_2) ?_
 intro p e s m below meth cc T X hnm hret hlk
 refine Go.at_ (ef_rIs00 m a0 a1 (0 : Int32) (0 : Int32)) ?_
 refine g_aloadN X d15_0 (pc' := 1) rfl rfl rfl ?_
 refine g_getfield X (host := "") (Or.inl (tb hw 19 rfl)) Via.refl qa d15_1 (pc' := 4) rfl ?_
 intro T X
 refine g_arraylength X qb d15_4 (pc' := 5) rfl (z := (0 : Int32)) rfl ?_
 refine g_iloadN X d15_5 (pc' := 6) rfl rfl ?_
 refine g_icN X d15_6 (teq (show (0 : Int32) = (0 : Int32) from (by decide))).2 (pc' := 9) rfl ?_
 refine g_iconst X (1 : Int32) d15_9 (pc' := 10) rfl rfl ?_
 refine g_goto X d15_10 (pc' := 14) (by decide) (by decide) ?_
 refine g_istore X d15_14 (pc' := 16) (Ls' := #[.val (.ref a0), .val (.ref a1), .val (.int (0 : Int32)), .val (.int (0 : Int32)), .val (.int (1 : Int32)), .unset, .unset]) rfl rfl ?_
 refine g_iload X d15_16 (pc' := 18) rfl rfl ?_
 refine g_ifN X d15_18 ((if0 _ _).trans (feq (show ¬ ((1 : Int32) = (0 : Int32)) from (by decide))).1) (pc' := 21) rfl ?_
 refine g_iconst X (0 : Int32) d15_21 (pc' := 22) rfl rfl ?_
 refine g_istore X d15_22 (pc' := 24) (Ls' := #[.val (.ref a0), .val (.ref a1), .val (.int (0 : Int32)), .val (.int (0 : Int32)), .val (.int (1 : Int32)), .val (.int (0 : Int32)), .unset]) rfl rfl ?_
 refine g_iconst X (0 : Int32) d15_24 (pc' := 25) rfl rfl ?_
 refine g_istore X d15_25 (pc' := 27) (Ls' := #[.val (.ref a0), .val (.ref a1), .val (.int (0 : Int32)), .val (.int (0 : Int32)), .val (.int (1 : Int32)), .val (.int (0 : Int32)), .val (.int (0 : Int32))]) rfl rfl ?_
 refine g_iload X d15_27 (pc' := 29) rfl rfl ?_
 refine g_iloadN X d15_29 (pc' := 30) rfl rfl ?_
 refine g_icY X d15_30 (flt (show ¬ ((0 : Int32) < (0 : Int32)) from (by decide))).2.1 (pc' := 58) (by decide) (by decide) ?_
 refine g_iload X d15_58 (pc' := 60) rfl rfl ?_
 refine g_ifN X d15_60 ((if0 _ _).trans (teq (show (0 : Int32) = (0 : Int32) from (by decide))).2) (pc' := 63) rfl ?_
 refine g_iconst X (1 : Int32) d15_63 (pc' := 64) rfl rfl ?_
 refine g_goto X d15_64 (pc' := 68) (by decide) (by decide) ?_
 refine g_istore X d15_68 (pc' := 70) (Ls' := #[.val (.ref a0), .val (.ref a1), .val (.int (0 : Int32)), .val (.int (0 : Int32)), .val (.int (1 : Int32)), .val (.int (0 : Int32)), .val (.int (0 : Int32))]) rfl rfl ?_
 refine g_iload X d15_70 (pc' := 72) rfl rfl ?_
 refine g_ireturnN X (t := .boolean) (by simp) d15_72 hret hlk (by decide) (by decide) ?_
 exact ⟨congrArg (fun z => some (Value.int z)) (Eq.trans narT (congrArg b2i (Eq.symm (show fIs00 t0 t1 t2 t3 t4 t5 = _ from rfl)))), rfl, rfl⟩
def fIs01 (t0 : Int32) (t1 : Int32) (t2 : Int32) (t3 : Int32) (t4 : Int32) (t5 : Int32) : Bool := true
theorem ef_rIs01 (m : MethodId) (x0 : Addr) (x1 : Addr) (x2 : Int32) (x3 : Int32) : entryFrame m #[(.ref x0), (.ref x1), (.int x2), (.int x3)] 7 = mkF m 0 #[.val (.ref x0), .val (.ref x1), .val (.int x2), .val (.int x3), .unset, .unset, .unset] [] := by first | (simp [entryFrame, mkF, argsToLocals, Value.category]; done) | rfl
set_option maxRecDepth 65536 in
set_option maxHeartbeats 40000000 in
theorem rIs01 (l : Launch) (Z : State) (aa : Array Value) (hw : ∀ d ∈ tables_1, d.before aa Z = true) (ws : List Jvm.Cond) (a0 : Addr) (a1 : Addr) (wk : Addr) (t0 : Int32) (t1 : Int32) (t2 : Int32) (t3 : Int32) (t4 : Int32) (t5 : Int32) (h0 : Heap) (qc : Exa Z h0 a0 "com/example/scheherazade/scheherazade/core/XmlName") (qa : Fld Z h0 a0 "com/example/scheherazade/scheherazade/core/XmlName" "spelling" "[B" (.ref wk)) (qb : Av Z h0 wk .byte []) (qd : Av Z h0 a1 .byte [(.int t0), (.int t1), (.int t2), (.int t3), (.int t4), (.int t5)]) :
    Rm l Z (⟨"com/example/scheherazade/scheherazade/core/XmlName", "isSpelledBy", "([BII)Z"⟩ : MethodName) prog_20_method_10_code 7 (some .boolean) ws ({ frames := 0, cells := 0, slots := 0, locals := 0 } : Room) #[(.ref a0), (.ref a1), (.int (1 : Int32)), (.int (0 : Int32))] h0 (Pu (.int (b2i (fIs01 t0 t1 t2 t3 t4 t5))) h0) := by
 refine Rm.of (plainFor_of_name pn_2) ?_
 intro p e s m below meth cc T X hnm hret hlk
 refine Go.at_ (ef_rIs01 m a0 a1 (1 : Int32) (0 : Int32)) ?_
 refine g_aloadN X d15_0 (pc' := 1) rfl rfl rfl ?_
 refine g_getfield X (host := "") (Or.inl (tb hw 19 rfl)) Via.refl qa d15_1 (pc' := 4) rfl ?_
 intro T X
 refine g_arraylength X qb d15_4 (pc' := 5) rfl (z := (0 : Int32)) rfl ?_
 refine g_iloadN X d15_5 (pc' := 6) rfl rfl ?_
 refine g_icN X d15_6 (teq (show (0 : Int32) = (0 : Int32) from (by decide))).2 (pc' := 9) rfl ?_
 refine g_iconst X (1 : Int32) d15_9 (pc' := 10) rfl rfl ?_
 refine g_goto X d15_10 (pc' := 14) (by decide) (by decide) ?_
 refine g_istore X d15_14 (pc' := 16) (Ls' := #[.val (.ref a0), .val (.ref a1), .val (.int (1 : Int32)), .val (.int (0 : Int32)), .val (.int (1 : Int32)), .unset, .unset]) rfl rfl ?_
 refine g_iload X d15_16 (pc' := 18) rfl rfl ?_
 refine g_ifN X d15_18 ((if0 _ _).trans (feq (show ¬ ((1 : Int32) = (0 : Int32)) from (by decide))).1) (pc' := 21) rfl ?_
 refine g_iconst X (0 : Int32) d15_21 (pc' := 22) rfl rfl ?_
 refine g_istore X d15_22 (pc' := 24) (Ls' := #[.val (.ref a0), .val (.ref a1), .val (.int (1 : Int32)), .val (.int (0 : Int32)), .val (.int (1 : Int32)), .val (.int (0 : Int32)), .unset]) rfl rfl ?_
 refine g_iconst X (0 : Int32) d15_24 (pc' := 25) rfl rfl ?_
 refine g_istore X d15_25 (pc' := 27) (Ls' := #[.val (.ref a0), .val (.ref a1), .val (.int (1 : Int32)), .val (.int (0 : Int32)), .val (.int (1 : Int32)), .val (.int (0 : Int32)), .val (.int (0 : Int32))]) rfl rfl ?_
 refine g_iload X d15_27 (pc' := 29) rfl rfl ?_
 refine g_iloadN X d15_29 (pc' := 30) rfl rfl ?_
 refine g_icY X d15_30 (flt (show ¬ ((0 : Int32) < (0 : Int32)) from (by decide))).2.1 (pc' := 58) (by decide) (by decide) ?_
 refine g_iload X d15_58 (pc' := 60) rfl rfl ?_
 refine g_ifN X d15_60 ((if0 _ _).trans (teq (show (0 : Int32) = (0 : Int32) from (by decide))).2) (pc' := 63) rfl ?_
 refine g_iconst X (1 : Int32) d15_63 (pc' := 64) rfl rfl ?_
 refine g_goto X d15_64 (pc' := 68) (by decide) (by decide) ?_
 refine g_istore X d15_68 (pc' := 70) (Ls' := #[.val (.ref a0), .val (.ref a1), .val (.int (1 : Int32)), .val (.int (0 : Int32)), .val (.int (1 : Int32)), .val (.int (0 : Int32)), .val (.int (0 : Int32))]) rfl rfl ?_
 refine g_iload X d15_70 (pc' := 72) rfl rfl ?_
 refine g_ireturnN X (t := .boolean) (by simp) d15_72 hret hlk (by decide) (by decide) ?_
 exact ⟨congrArg (fun z => some (Value.int z)) (Eq.trans narT (congrArg b2i (Eq.symm (show fIs01 t0 t1 t2 t3 t4 t5 = _ from rfl)))), rfl, rfl⟩
def fIs02 (t0 : Int32) (t1 : Int32) (t2 : Int32) (t3 : Int32) (t4 : Int32) (t5 : Int32) : Bool := true
theorem ef_rIs02 (m : MethodId) (x0 : Addr) (x1 : Addr) (x2 : Int32) (x3 : Int32) : entryFrame m #[(.ref x0), (.ref x1), (.int x2), (.int x3)] 7 = mkF m 0 #[.val (.ref x0), .val (.ref x1), .val (.int x2), .val (.int x3), .unset, .unset, .unset] [] := by first | (simp [entryFrame, mkF, argsToLocals, Value.category]; done) | rfl
set_option maxRecDepth 65536 in
set_option maxHeartbeats 40000000 in
theorem rIs02 (l : Launch) (Z : State) (aa : Array Value) (hw : ∀ d ∈ tables_1, d.before aa Z = true) (ws : List Jvm.Cond) (a0 : Addr) (a1 : Addr) (wk : Addr) (t0 : Int32) (t1 : Int32) (t2 : Int32) (t3 : Int32) (t4 : Int32) (t5 : Int32) (h0 : Heap) (qc : Exa Z h0 a0 "com/example/scheherazade/scheherazade/core/XmlName") (qa : Fld Z h0 a0 "com/example/scheherazade/scheherazade/core/XmlName" "spelling" "[B" (.ref wk)) (qb : Av Z h0 wk .byte []) (qd : Av Z h0 a1 .byte [(.int t0), (.int t1), (.int t2), (.int t3), (.int t4), (.int t5)]) :
    Rm l Z (⟨"com/example/scheherazade/scheherazade/core/XmlName", "isSpelledBy", "([BII)Z"⟩ : MethodName) prog_20_method_10_code 7 (some .boolean) ws ({ frames := 0, cells := 0, slots := 0, locals := 0 } : Room) #[(.ref a0), (.ref a1), (.int (2 : Int32)), (.int (0 : Int32))] h0 (Pu (.int (b2i (fIs02 t0 t1 t2 t3 t4 t5))) h0) := by
 refine Rm.of (plainFor_of_name pn_2) ?_
 intro p e s m below meth cc T X hnm hret hlk
 refine Go.at_ (ef_rIs02 m a0 a1 (2 : Int32) (0 : Int32)) ?_
 refine g_aloadN X d15_0 (pc' := 1) rfl rfl rfl ?_
 refine g_getfield X (host := "") (Or.inl (tb hw 19 rfl)) Via.refl qa d15_1 (pc' := 4) rfl ?_
 intro T X
 refine g_arraylength X qb d15_4 (pc' := 5) rfl (z := (0 : Int32)) rfl ?_
 refine g_iloadN X d15_5 (pc' := 6) rfl rfl ?_
 refine g_icN X d15_6 (teq (show (0 : Int32) = (0 : Int32) from (by decide))).2 (pc' := 9) rfl ?_
 refine g_iconst X (1 : Int32) d15_9 (pc' := 10) rfl rfl ?_
 refine g_goto X d15_10 (pc' := 14) (by decide) (by decide) ?_
 refine g_istore X d15_14 (pc' := 16) (Ls' := #[.val (.ref a0), .val (.ref a1), .val (.int (2 : Int32)), .val (.int (0 : Int32)), .val (.int (1 : Int32)), .unset, .unset]) rfl rfl ?_
 refine g_iload X d15_16 (pc' := 18) rfl rfl ?_
 refine g_ifN X d15_18 ((if0 _ _).trans (feq (show ¬ ((1 : Int32) = (0 : Int32)) from (by decide))).1) (pc' := 21) rfl ?_
 refine g_iconst X (0 : Int32) d15_21 (pc' := 22) rfl rfl ?_
 refine g_istore X d15_22 (pc' := 24) (Ls' := #[.val (.ref a0), .val (.ref a1), .val (.int (2 : Int32)), .val (.int (0 : Int32)), .val (.int (1 : Int32)), .val (.int (0 : Int32)), .unset]) rfl rfl ?_
 refine g_iconst X (0 : Int32) d15_24 (pc' := 25) rfl rfl ?_
 refine g_istore X d15_25 (pc' := 27) (Ls' := #[.val (.ref a0), .val (.ref a1), .val (.int (2 : Int32)), .val (.int (0 : Int32)), .val (.int (1 : Int32)), .val (.int (0 : Int32)), .val (.int (0 : Int32))]) rfl rfl ?_
 refine g_iload X d15_27 (pc' := 29) rfl rfl ?_
 refine g_iloadN X d15_29 (pc' := 30) rfl rfl ?_
 refine g_icY X d15_30 (flt (show ¬ ((0 : Int32) < (0 : Int32)) from (by decide))).2.1 (pc' := 58) (by decide) (by decide) ?_
 refine g_iload X d15_58 (pc' := 60) rfl rfl ?_
 refine g_ifN X d15_60 ((if0 _ _).trans (teq (show (0 : Int32) = (0 : Int32) from (by decide))).2) (pc' := 63) rfl ?_
 refine g_iconst X (1 : Int32) d15_63 (pc' := 64) rfl rfl ?_
 refine g_goto X d15_64 (pc' := 68) (by decide) (by decide) ?_
 refine g_istore X d15_68 (pc' := 70) (Ls' := #[.val (.ref a0), .val (.ref a1), .val (.int (2 : Int32)), .val (.int (0 : Int32)), .val (.int (1 : Int32)), .val (.int (0 : Int32)), .val (.int (0 : Int32))]) rfl rfl ?_
 refine g_iload X d15_70 (pc' := 72) rfl rfl ?_
 refine g_ireturnN X (t := .boolean) (by simp) d15_72 hret hlk (by decide) (by decide) ?_
 exact ⟨congrArg (fun z => some (Value.int z)) (Eq.trans narT (congrArg b2i (Eq.symm (show fIs02 t0 t1 t2 t3 t4 t5 = _ from rfl)))), rfl, rfl⟩
def fIs03 (t0 : Int32) (t1 : Int32) (t2 : Int32) (t3 : Int32) (t4 : Int32) (t5 : Int32) : Bool := true
theorem ef_rIs03 (m : MethodId) (x0 : Addr) (x1 : Addr) (x2 : Int32) (x3 : Int32) : entryFrame m #[(.ref x0), (.ref x1), (.int x2), (.int x3)] 7 = mkF m 0 #[.val (.ref x0), .val (.ref x1), .val (.int x2), .val (.int x3), .unset, .unset, .unset] [] := by first | (simp [entryFrame, mkF, argsToLocals, Value.category]; done) | rfl
set_option maxRecDepth 65536 in
set_option maxHeartbeats 40000000 in
theorem rIs03 (l : Launch) (Z : State) (aa : Array Value) (hw : ∀ d ∈ tables_1, d.before aa Z = true) (ws : List Jvm.Cond) (a0 : Addr) (a1 : Addr) (wk : Addr) (t0 : Int32) (t1 : Int32) (t2 : Int32) (t3 : Int32) (t4 : Int32) (t5 : Int32) (h0 : Heap) (qc : Exa Z h0 a0 "com/example/scheherazade/scheherazade/core/XmlName") (qa : Fld Z h0 a0 "com/example/scheherazade/scheherazade/core/XmlName" "spelling" "[B" (.ref wk)) (qb : Av Z h0 wk .byte []) (qd : Av Z h0 a1 .byte [(.int t0), (.int t1), (.int t2), (.int t3), (.int t4), (.int t5)]) :
    Rm l Z (⟨"com/example/scheherazade/scheherazade/core/XmlName", "isSpelledBy", "([BII)Z"⟩ : MethodName) prog_20_method_10_code 7 (some .boolean) ws ({ frames := 0, cells := 0, slots := 0, locals := 0 } : Room) #[(.ref a0), (.ref a1), (.int (3 : Int32)), (.int (0 : Int32))] h0 (Pu (.int (b2i (fIs03 t0 t1 t2 t3 t4 t5))) h0) := by
 refine Rm.of (plainFor_of_name pn_2) ?_
 intro p e s m below meth cc T X hnm hret hlk
 refine Go.at_ (ef_rIs03 m a0 a1 (3 : Int32) (0 : Int32)) ?_
 refine g_aloadN X d15_0 (pc' := 1) rfl rfl rfl ?_
 refine g_getfield X (host := "") (Or.inl (tb hw 19 rfl)) Via.refl qa d15_1 (pc' := 4) rfl ?_
 intro T X
 refine g_arraylength X qb d15_4 (pc' := 5) rfl (z := (0 : Int32)) rfl ?_
 refine g_iloadN X d15_5 (pc' := 6) rfl rfl ?_
 refine g_icN X d15_6 (teq (show (0 : Int32) = (0 : Int32) from (by decide))).2 (pc' := 9) rfl ?_
 refine g_iconst X (1 : Int32) d15_9 (pc' := 10) rfl rfl ?_
 refine g_goto X d15_10 (pc' := 14) (by decide) (by decide) ?_
 refine g_istore X d15_14 (pc' := 16) (Ls' := #[.val (.ref a0), .val (.ref a1), .val (.int (3 : Int32)), .val (.int (0 : Int32)), .val (.int (1 : Int32)), .unset, .unset]) rfl rfl ?_
 refine g_iload X d15_16 (pc' := 18) rfl rfl ?_
 refine g_ifN X d15_18 ((if0 _ _).trans (feq (show ¬ ((1 : Int32) = (0 : Int32)) from (by decide))).1) (pc' := 21) rfl ?_
 refine g_iconst X (0 : Int32) d15_21 (pc' := 22) rfl rfl ?_
 refine g_istore X d15_22 (pc' := 24) (Ls' := #[.val (.ref a0), .val (.ref a1), .val (.int (3 : Int32)), .val (.int (0 : Int32)), .val (.int (1 : Int32)), .val (.int (0 : Int32)), .unset]) rfl rfl ?_
 refine g_iconst X (0 : Int32) d15_24 (pc' := 25) rfl rfl ?_
 refine g_istore X d15_25 (pc' := 27) (Ls' := #[.val (.ref a0), .val (.ref a1), .val (.int (3 : Int32)), .val (.int (0 : Int32)), .val (.int (1 : Int32)), .val (.int (0 : Int32)), .val (.int (0 : Int32))]) rfl rfl ?_
 refine g_iload X d15_27 (pc' := 29) rfl rfl ?_
 refine g_iloadN X d15_29 (pc' := 30) rfl rfl ?_
 refine g_icY X d15_30 (flt (show ¬ ((0 : Int32) < (0 : Int32)) from (by decide))).2.1 (pc' := 58) (by decide) (by decide) ?_
 refine g_iload X d15_58 (pc' := 60) rfl rfl ?_
 refine g_ifN X d15_60 ((if0 _ _).trans (teq (show (0 : Int32) = (0 : Int32) from (by decide))).2) (pc' := 63) rfl ?_
 refine g_iconst X (1 : Int32) d15_63 (pc' := 64) rfl rfl ?_
 refine g_goto X d15_64 (pc' := 68) (by decide) (by decide) ?_
 refine g_istore X d15_68 (pc' := 70) (Ls' := #[.val (.ref a0), .val (.ref a1), .val (.int (3 : Int32)), .val (.int (0 : Int32)), .val (.int (1 : Int32)), .val (.int (0 : Int32)), .val (.int (0 : Int32))]) rfl rfl ?_
 refine g_iload X d15_70 (pc' := 72) rfl rfl ?_
 refine g_ireturnN X (t := .boolean) (by simp) d15_72 hret hlk (by decide) (by decide) ?_
 exact ⟨congrArg (fun z => some (Value.int z)) (Eq.trans narT (congrArg b2i (Eq.symm (show fIs03 t0 t1 t2 t3 t4 t5 = _ from rfl)))), rfl, rfl⟩
theorem ef_rIsN1 (m : MethodId) (x0 : Addr) (x1 : Addr) (x2 : Int32) (x3 : Int32) : entryFrame m #[(.ref x0), (.ref x1), (.int x2), (.int x3)] 7 = mkF m 0 #[.val (.ref x0), .val (.ref x1), .val (.int x2), .val (.int x3), .unset, .unset, .unset] [] := by first | (simp [entryFrame, mkF, argsToLocals, Value.category]; done) | rfl
set_option maxRecDepth 65536 in
set_option maxHeartbeats 40000000 in
theorem rIsN1 (l : Launch) (Z : State) (aa : Array Value) (hw : ∀ d ∈ tables_1, d.before aa Z = true) (ws : List Jvm.Cond) (a0 : Addr) (a1 : Addr) (i2 : Int32) (i3 : Int32) (wk : Addr) (e0 : Int32) (t0 : Int32) (t1 : Int32) (t2 : Int32) (t3 : Int32) (t4 : Int32) (t5 : Int32) (h0 : Heap) (qc : Exa Z h0 a0 "com/example/scheherazade/scheherazade/core/XmlName") (qa : Fld Z h0 a0 "com/example/scheherazade/scheherazade/core/XmlName" "spelling" "[B" (.ref wk)) (qb : Av Z h0 wk .byte [(.int e0)]) (qd : Av Z h0 a1 .byte [(.int t0), (.int t1), (.int t2), (.int t3), (.int t4), (.int t5)]) (pn : ¬ (1 : Int32) = i3) :
    Rm l Z (⟨"com/example/scheherazade/scheherazade/core/XmlName", "isSpelledBy", "([BII)Z"⟩ : MethodName) prog_20_method_10_code 7 (some .boolean) ws ({ frames := 0, cells := 0, slots := 0, locals := 0 } : Room) #[(.ref a0), (.ref a1), (.int i2), (.int i3)] h0 (Pu (.int (0 : Int32)) h0) := by
 refine Rm.of (plainFor_of_name pn_2) ?_
 intro p e s m below meth cc T X hnm hret hlk
 refine Go.at_ (ef_rIsN1 m a0 a1 i2 i3) ?_
 refine g_aloadN X d15_0 (pc' := 1) rfl rfl rfl ?_
 refine g_getfield X (host := "") (Or.inl (tb hw 19 rfl)) Via.refl qa d15_1 (pc' := 4) rfl ?_
 intro T X
 refine g_arraylength X qb d15_4 (pc' := 5) rfl (z := (1 : Int32)) rfl ?_
 refine g_iloadN X d15_5 (pc' := 6) rfl rfl ?_
 refine g_icY X d15_6 (feq (show ¬ ((1 : Int32) = i3) from pn)).2 (pc' := 13) (by decide) (by decide) ?_
 refine g_iconst X (0 : Int32) d15_13 (pc' := 14) rfl rfl ?_
 refine g_istore X d15_14 (pc' := 16) (Ls' := #[.val (.ref a0), .val (.ref a1), .val (.int i2), .val (.int i3), .val (.int (0 : Int32)), .unset, .unset]) rfl rfl ?_
 refine g_iload X d15_16 (pc' := 18) rfl rfl ?_
 refine g_ifY X d15_18 ((if0 _ _).trans (teq (show (0 : Int32) = (0 : Int32) from (by decide))).1) (pc' := 70) (by decide) (by decide) ?_
 refine g_iload X d15_70 (pc' := 72) rfl rfl ?_
 refine g_ireturnN X (t := .boolean) (by simp) d15_72 hret hlk (by decide) (by decide) ?_
 exact ⟨rfl, rfl, rfl⟩
theorem d15_33 : decode prog_20_method_10_code 33 = .ok (.iload 5, 2) := by decide +kernel
theorem d15_35 : decode prog_20_method_10_code 35 = .ok (.aload_n 0, 1) := by decide +kernel
theorem d15_36 : decode prog_20_method_10_code 36 = .ok (.getfield 13, 3) := by decide +kernel
theorem d15_39 : decode prog_20_method_10_code 39 = .ok (.iload 6, 2) := by decide +kernel
theorem d15_41 : decode prog_20_method_10_code 41 = .ok (.baload, 1) := by decide +kernel
theorem d15_42 : decode prog_20_method_10_code 42 = .ok (.aload_n 1, 1) := by decide +kernel
theorem d15_43 : decode prog_20_method_10_code 43 = .ok (.iload_n 2, 1) := by decide +kernel
theorem d15_44 : decode prog_20_method_10_code 44 = .ok (.iload 6, 2) := by decide +kernel
theorem d15_46 : decode prog_20_method_10_code 46 = .ok (.iadd, 1) := by decide +kernel
theorem d15_47 : decode prog_20_method_10_code 47 = .ok (.baload, 1) := by decide +kernel
theorem d15_48 : decode prog_20_method_10_code 48 = .ok (.ixor, 1) := by decide +kernel
theorem d15_49 : decode prog_20_method_10_code 49 = .ok (.ior, 1) := by decide +kernel
theorem d15_50 : decode prog_20_method_10_code 50 = .ok (.istore 5, 2) := by decide +kernel
theorem d15_52 : decode prog_20_method_10_code 52 = .ok (.iinc 6 1, 3) := by decide +kernel
theorem d15_55 : decode prog_20_method_10_code 55 = .ok (.goto (-28), 3) := by decide +kernel
theorem d15_67 : decode prog_20_method_10_code 67 = .ok (.iconst 0, 1) := by decide +kernel
def fIs10 (e0 : Int32) (t0 : Int32) (t1 : Int32) (t2 : Int32) (t3 : Int32) (t4 : Int32) (t5 : Int32) : Bool := let v50_1 : Int32 := ((0 : Int32) ||| (e0 ^^^ t0)); if v50_1 = (0 : Int32) then (true) else (false)
theorem ef_rIs10 (m : MethodId) (x0 : Addr) (x1 : Addr) (x2 : Int32) (x3 : Int32) : entryFrame m #[(.ref x0), (.ref x1), (.int x2), (.int x3)] 7 = mkF m 0 #[.val (.ref x0), .val (.ref x1), .val (.int x2), .val (.int x3), .unset, .unset, .unset] [] := by first | (simp [entryFrame, mkF, argsToLocals, Value.category]; done) | rfl
set_option maxRecDepth 65536 in
set_option maxHeartbeats 40000000 in
theorem rIs10 (l : Launch) (Z : State) (aa : Array Value) (hw : ∀ d ∈ tables_1, d.before aa Z = true) (ws : List Jvm.Cond) (a0 : Addr) (a1 : Addr) (wk : Addr) (e0 : Int32) (t0 : Int32) (t1 : Int32) (t2 : Int32) (t3 : Int32) (t4 : Int32) (t5 : Int32) (h0 : Heap) (qg : Exa Z h0 a0 "com/example/scheherazade/scheherazade/core/XmlName") (qc : Fld Z h0 a0 "com/example/scheherazade/scheherazade/core/XmlName" "spelling" "[B" (.ref wk)) (qd : Av Z h0 wk .byte [(.int e0)]) (qf : Av Z h0 a1 .byte [(.int t0), (.int t1), (.int t2), (.int t3), (.int t4), (.int t5)]) :
    Rm l Z (⟨"com/example/scheherazade/scheherazade/core/XmlName", "isSpelledBy", "([BII)Z"⟩ : MethodName) prog_20_method_10_code 7 (some .boolean) ws ({ frames := 0, cells := 0, slots := 0, locals := 0 } : Room) #[(.ref a0), (.ref a1), (.int (0 : Int32)), (.int (1 : Int32))] h0 (Pu (.int (b2i (fIs10 e0 t0 t1 t2 t3 t4 t5))) h0) := by
 refine Rm.of (plainFor_of_name pn_2) ?_
 intro p e s m below meth cc T X hnm hret hlk
 refine Go.at_ (ef_rIs10 m a0 a1 (0 : Int32) (1 : Int32)) ?_
 refine g_aloadN X d15_0 (pc' := 1) rfl rfl rfl ?_
 refine g_getfield X (host := "") (Or.inl (tb hw 19 rfl)) Via.refl qc d15_1 (pc' := 4) rfl ?_
 intro T X
 refine g_arraylength X qd d15_4 (pc' := 5) rfl (z := (1 : Int32)) rfl ?_
 refine g_iloadN X d15_5 (pc' := 6) rfl rfl ?_
 refine g_icN X d15_6 (teq (show (1 : Int32) = (1 : Int32) from (by decide))).2 (pc' := 9) rfl ?_
 refine g_iconst X (1 : Int32) d15_9 (pc' := 10) rfl rfl ?_
 refine g_goto X d15_10 (pc' := 14) (by decide) (by decide) ?_
 refine g_istore X d15_14 (pc' := 16) (Ls' := #[.val (.ref a0), .val (.ref a1), .val (.int (0 : Int32)), .val (.int (1 : Int32)), .val (.int (1 : Int32)), .unset, .unset]) rfl rfl ?_
 refine g_iload X d15_16 (pc' := 18) rfl rfl ?_
 refine g_ifN X d15_18 ((if0 _ _).trans (feq (show ¬ ((1 : Int32) = (0 : Int32)) from (by decide))).1) (pc' := 21) rfl ?_
 refine g_iconst X (0 : Int32) d15_21 (pc' := 22) rfl rfl ?_
 refine g_istore X d15_22 (pc' := 24) (Ls' := #[.val (.ref a0), .val (.ref a1), .val (.int (0 : Int32)), .val (.int (1 : Int32)), .val (.int (1 : Int32)), .val (.int (0 : Int32)), .unset]) rfl rfl ?_
 refine g_iconst X (0 : Int32) d15_24 (pc' := 25) rfl rfl ?_
 refine g_istore X d15_25 (pc' := 27) (Ls' := #[.val (.ref a0), .val (.ref a1), .val (.int (0 : Int32)), .val (.int (1 : Int32)), .val (.int (1 : Int32)), .val (.int (0 : Int32)), .val (.int (0 : Int32))]) rfl rfl ?_
 refine g_iload X d15_27 (pc' := 29) rfl rfl ?_
 refine g_iloadN X d15_29 (pc' := 30) rfl rfl ?_
 refine g_icN X d15_30 (tlt (show (0 : Int32) < (1 : Int32) from (by decide))).2.1 (pc' := 33) rfl ?_
 refine g_iload X d15_33 (pc' := 35) rfl rfl ?_
 refine g_aloadN X d15_35 (pc' := 36) rfl rfl rfl ?_
 refine g_getfield X (host := "") (Or.inl (tb hw 19 rfl)) Via.refl qc d15_36 (pc' := 39) rfl ?_
 intro T X
 refine g_iload X d15_39 (pc' := 41) rfl rfl ?_
 refine g_baload X qd 0 d15_41 (pc' := 42) rfl (by decide) (by decide) rfl ?_
 refine g_aloadN X d15_42 (pc' := 43) rfl rfl rfl ?_
 refine g_iloadN X d15_43 (pc' := 44) rfl rfl ?_
 refine g_iload X d15_44 (pc' := 46) rfl rfl ?_
 refine g_iadd X d15_46 (pc' := 47) rfl ?_
 refine Go.lit32 (z := (0 : Int32)) (by decide) ?_
 refine g_baload X qf 0 d15_47 (pc' := 48) rfl (by decide) (by decide) rfl ?_
 refine g_ixor X d15_48 (pc' := 49) rfl ?_
 refine g_ior X d15_49 (pc' := 50) rfl ?_
 generalize qe : ((0 : Int32) ||| (e0 ^^^ t0)) = qa
 refine g_istore X d15_50 (pc' := 52) (Ls' := #[.val (.ref a0), .val (.ref a1), .val (.int (0 : Int32)), .val (.int (1 : Int32)), .val (.int (1 : Int32)), .val (.int qa), .val (.int (0 : Int32))]) rfl rfl ?_
 refine g_iinc X d15_52 (pc' := 55) (q := (1 : Int32)) (Ls' := #[.val (.ref a0), .val (.ref a1), .val (.int (0 : Int32)), .val (.int (1 : Int32)), .val (.int (1 : Int32)), .val (.int qa), .val (.int (1 : Int32))]) rfl rfl rfl rfl ?_
 refine g_goto X d15_55 (pc' := 27) (by decide) (by decide) ?_
 refine g_iload X d15_27 (pc' := 29) rfl rfl ?_
 refine g_iloadN X d15_29 (pc' := 30) rfl rfl ?_
 refine g_icY X d15_30 (flt (show ¬ ((1 : Int32) < (1 : Int32)) from (by decide))).2.1 (pc' := 58) (by decide) (by decide) ?_
 refine g_iload X d15_58 (pc' := 60) rfl rfl ?_
 by_cases qb : qa = (0 : Int32)
 refine g_ifN X d15_60 ((if0 _ _).trans (teq qb).2) (pc' := 63) rfl ?_
 refine g_iconst X (1 : Int32) d15_63 (pc' := 64) rfl rfl ?_
 refine g_goto X d15_64 (pc' := 68) (by decide) (by decide) ?_
 refine g_istore X d15_68 (pc' := 70) (Ls' := #[.val (.ref a0), .val (.ref a1), .val (.int (0 : Int32)), .val (.int (1 : Int32)), .val (.int (1 : Int32)), .val (.int qa), .val (.int (1 : Int32))]) rfl rfl ?_
 refine g_iload X d15_70 (pc' := 72) rfl rfl ?_
 refine g_ireturnN X (t := .boolean) (by simp) d15_72 hret hlk (by decide) (by decide) ?_
 subst qe
 exact ⟨congrArg (fun z => some (Value.int z)) (Eq.trans narT (congrArg b2i (Eq.symm (show fIs10 e0 t0 t1 t2 t3 t4 t5 = _ from (Eq.trans (if_pos qb) rfl))))), rfl, rfl⟩
 refine g_ifY X d15_60 ((if0 _ _).trans (feq qb).2) (pc' := 67) (by decide) (by decide) ?_
 refine g_iconst X (0 : Int32) d15_67 (pc' := 68) rfl rfl ?_
 refine g_istore X d15_68 (pc' := 70) (Ls' := #[.val (.ref a0), .val (.ref a1), .val (.int (0 : Int32)), .val (.int (1 : Int32)), .val (.int (0 : Int32)), .val (.int qa), .val (.int (1 : Int32))]) rfl rfl ?_
 refine g_iload X d15_70 (pc' := 72) rfl rfl ?_
 refine g_ireturnN X (t := .boolean) (by simp) d15_72 hret hlk (by decide) (by decide) ?_
 subst qe
 exact ⟨congrArg (fun z => some (Value.int z)) (Eq.trans narF (congrArg b2i (Eq.symm (show fIs10 e0 t0 t1 t2 t3 t4 t5 = _ from (Eq.trans (if_neg qb) rfl))))), rfl, rfl⟩
def fIs11 (e0 : Int32) (t0 : Int32) (t1 : Int32) (t2 : Int32) (t3 : Int32) (t4 : Int32) (t5 : Int32) : Bool := let v50_1 : Int32 := ((0 : Int32) ||| (e0 ^^^ t1)); if v50_1 = (0 : Int32) then (true) else (false)
theorem ef_rIs11 (m : MethodId) (x0 : Addr) (x1 : Addr) (x2 : Int32) (x3 : Int32) : entryFrame m #[(.ref x0), (.ref x1), (.int x2), (.int x3)] 7 = mkF m 0 #[.val (.ref x0), .val (.ref x1), .val (.int x2), .val (.int x3), .unset, .unset, .unset] [] := by first | (simp [entryFrame, mkF, argsToLocals, Value.category]; done) | rfl
set_option maxRecDepth 65536 in
set_option maxHeartbeats 40000000 in
theorem rIs11 (l : Launch) (Z : State) (aa : Array Value) (hw : ∀ d ∈ tables_1, d.before aa Z = true) (ws : List Jvm.Cond) (a0 : Addr) (a1 : Addr) (wk : Addr) (e0 : Int32) (t0 : Int32) (t1 : Int32) (t2 : Int32) (t3 : Int32) (t4 : Int32) (t5 : Int32) (h0 : Heap) (qg : Exa Z h0 a0 "com/example/scheherazade/scheherazade/core/XmlName") (qc : Fld Z h0 a0 "com/example/scheherazade/scheherazade/core/XmlName" "spelling" "[B" (.ref wk)) (qd : Av Z h0 wk .byte [(.int e0)]) (qf : Av Z h0 a1 .byte [(.int t0), (.int t1), (.int t2), (.int t3), (.int t4), (.int t5)]) :
    Rm l Z (⟨"com/example/scheherazade/scheherazade/core/XmlName", "isSpelledBy", "([BII)Z"⟩ : MethodName) prog_20_method_10_code 7 (some .boolean) ws ({ frames := 0, cells := 0, slots := 0, locals := 0 } : Room) #[(.ref a0), (.ref a1), (.int (1 : Int32)), (.int (1 : Int32))] h0 (Pu (.int (b2i (fIs11 e0 t0 t1 t2 t3 t4 t5))) h0) := by
 refine Rm.of (plainFor_of_name pn_2) ?_
 intro p e s m below meth cc T X hnm hret hlk
 refine Go.at_ (ef_rIs11 m a0 a1 (1 : Int32) (1 : Int32)) ?_
 refine g_aloadN X d15_0 (pc' := 1) rfl rfl rfl ?_
 refine g_getfield X (host := "") (Or.inl (tb hw 19 rfl)) Via.refl qc d15_1 (pc' := 4) rfl ?_
 intro T X
 refine g_arraylength X qd d15_4 (pc' := 5) rfl (z := (1 : Int32)) rfl ?_
 refine g_iloadN X d15_5 (pc' := 6) rfl rfl ?_
 refine g_icN X d15_6 (teq (show (1 : Int32) = (1 : Int32) from (by decide))).2 (pc' := 9) rfl ?_
 refine g_iconst X (1 : Int32) d15_9 (pc' := 10) rfl rfl ?_
 refine g_goto X d15_10 (pc' := 14) (by decide) (by decide) ?_
 refine g_istore X d15_14 (pc' := 16) (Ls' := #[.val (.ref a0), .val (.ref a1), .val (.int (1 : Int32)), .val (.int (1 : Int32)), .val (.int (1 : Int32)), .unset, .unset]) rfl rfl ?_
 refine g_iload X d15_16 (pc' := 18) rfl rfl ?_
 refine g_ifN X d15_18 ((if0 _ _).trans (feq (show ¬ ((1 : Int32) = (0 : Int32)) from (by decide))).1) (pc' := 21) rfl ?_
 refine g_iconst X (0 : Int32) d15_21 (pc' := 22) rfl rfl ?_
 refine g_istore X d15_22 (pc' := 24) (Ls' := #[.val (.ref a0), .val (.ref a1), .val (.int (1 : Int32)), .val (.int (1 : Int32)), .val (.int (1 : Int32)), .val (.int (0 : Int32)), .unset]) rfl rfl ?_
 refine g_iconst X (0 : Int32) d15_24 (pc' := 25) rfl rfl ?_
 refine g_istore X d15_25 (pc' := 27) (Ls' := #[.val (.ref a0), .val (.ref a1), .val (.int (1 : Int32)), .val (.int (1 : Int32)), .val (.int (1 : Int32)), .val (.int (0 : Int32)), .val (.int (0 : Int32))]) rfl rfl ?_
 refine g_iload X d15_27 (pc' := 29) rfl rfl ?_
 refine g_iloadN X d15_29 (pc' := 30) rfl rfl ?_
 refine g_icN X d15_30 (tlt (show (0 : Int32) < (1 : Int32) from (by decide))).2.1 (pc' := 33) rfl ?_
 refine g_iload X d15_33 (pc' := 35) rfl rfl ?_
 refine g_aloadN X d15_35 (pc' := 36) rfl rfl rfl ?_
 refine g_getfield X (host := "") (Or.inl (tb hw 19 rfl)) Via.refl qc d15_36 (pc' := 39) rfl ?_
 intro T X
 refine g_iload X d15_39 (pc' := 41) rfl rfl ?_
 refine g_baload X qd 0 d15_41 (pc' := 42) rfl (by decide) (by decide) rfl ?_
 refine g_aloadN X d15_42 (pc' := 43) rfl rfl rfl ?_
 refine g_iloadN X d15_43 (pc' := 44) rfl rfl ?_
 refine g_iload X d15_44 (pc' := 46) rfl rfl ?_
 refine g_iadd X d15_46 (pc' := 47) rfl ?_
 refine Go.lit32 (z := (1 : Int32)) (by decide) ?_
 refine g_baload X qf 1 d15_47 (pc' := 48) rfl (by decide) (by decide) rfl ?_
 refine g_ixor X d15_48 (pc' := 49) rfl ?_
 refine g_ior X d15_49 (pc' := 50) rfl ?_
 generalize qe : ((0 : Int32) ||| (e0 ^^^ t1)) = qa
 refine g_istore X d15_50 (pc' := 52) (Ls' := #[.val (.ref a0), .val (.ref a1), .val (.int (1 : Int32)), .val (.int (1 : Int32)), .val (.int (1 : Int32)), .val (.int qa), .val (.int (0 : Int32))]) rfl rfl ?_
 refine g_iinc X d15_52 (pc' := 55) (q := (1 : Int32)) (Ls' := #[.val (.ref a0), .val (.ref a1), .val (.int (1 : Int32)), .val (.int (1 : Int32)), .val (.int (1 : Int32)), .val (.int qa), .val (.int (1 : Int32))]) rfl rfl rfl rfl ?_
 refine g_goto X d15_55 (pc' := 27) (by decide) (by decide) ?_
 refine g_iload X d15_27 (pc' := 29) rfl rfl ?_
 refine g_iloadN X d15_29 (pc' := 30) rfl rfl ?_
 refine g_icY X d15_30 (flt (show ¬ ((1 : Int32) < (1 : Int32)) from (by decide))).2.1 (pc' := 58) (by decide) (by decide) ?_
 refine g_iload X d15_58 (pc' := 60) rfl rfl ?_
 by_cases qb : qa = (0 : Int32)
 refine g_ifN X d15_60 ((if0 _ _).trans (teq qb).2) (pc' := 63) rfl ?_
 refine g_iconst X (1 : Int32) d15_63 (pc' := 64) rfl rfl ?_
 refine g_goto X d15_64 (pc' := 68) (by decide) (by decide) ?_
 refine g_istore X d15_68 (pc' := 70) (Ls' := #[.val (.ref a0), .val (.ref a1), .val (.int (1 : Int32)), .val (.int (1 : Int32)), .val (.int (1 : Int32)), .val (.int qa), .val (.int (1 : Int32))]) rfl rfl ?_
 refine g_iload X d15_70 (pc' := 72) rfl rfl ?_
 refine g_ireturnN X (t := .boolean) (by simp) d15_72 hret hlk (by decide) (by decide) ?_
 subst qe
 exact ⟨congrArg (fun z => some (Value.int z)) (Eq.trans narT (congrArg b2i (Eq.symm (show fIs11 e0 t0 t1 t2 t3 t4 t5 = _ from (Eq.trans (if_pos qb) rfl))))), rfl, rfl⟩
 refine g_ifY X d15_60 ((if0 _ _).trans (feq qb).2) (pc' := 67) (by decide) (by decide) ?_
 refine g_iconst X (0 : Int32) d15_67 (pc' := 68) rfl rfl ?_
 refine g_istore X d15_68 (pc' := 70) (Ls' := #[.val (.ref a0), .val (.ref a1), .val (.int (1 : Int32)), .val (.int (1 : Int32)), .val (.int (0 : Int32)), .val (.int qa), .val (.int (1 : Int32))]) rfl rfl ?_
 refine g_iload X d15_70 (pc' := 72) rfl rfl ?_
 refine g_ireturnN X (t := .boolean) (by simp) d15_72 hret hlk (by decide) (by decide) ?_
 subst qe
 exact ⟨congrArg (fun z => some (Value.int z)) (Eq.trans narF (congrArg b2i (Eq.symm (show fIs11 e0 t0 t1 t2 t3 t4 t5 = _ from (Eq.trans (if_neg qb) rfl))))), rfl, rfl⟩
def fIs12 (e0 : Int32) (t0 : Int32) (t1 : Int32) (t2 : Int32) (t3 : Int32) (t4 : Int32) (t5 : Int32) : Bool := let v50_1 : Int32 := ((0 : Int32) ||| (e0 ^^^ t2)); if v50_1 = (0 : Int32) then (true) else (false)
theorem ef_rIs12 (m : MethodId) (x0 : Addr) (x1 : Addr) (x2 : Int32) (x3 : Int32) : entryFrame m #[(.ref x0), (.ref x1), (.int x2), (.int x3)] 7 = mkF m 0 #[.val (.ref x0), .val (.ref x1), .val (.int x2), .val (.int x3), .unset, .unset, .unset] [] := by first | (simp [entryFrame, mkF, argsToLocals, Value.category]; done) | rfl
set_option maxRecDepth 65536 in
set_option maxHeartbeats 40000000 in
theorem rIs12 (l : Launch) (Z : State) (aa : Array Value) (hw : ∀ d ∈ tables_1, d.before aa Z = true) (ws : List Jvm.Cond) (a0 : Addr) (a1 : Addr) (wk : Addr) (e0 : Int32) (t0 : Int32) (t1 : Int32) (t2 : Int32) (t3 : Int32) (t4 : Int32) (t5 : Int32) (h0 : Heap) (qg : Exa Z h0 a0 "com/example/scheherazade/scheherazade/core/XmlName") (qc : Fld Z h0 a0 "com/example/scheherazade/scheherazade/core/XmlName" "spelling" "[B" (.ref wk)) (qd : Av Z h0 wk .byte [(.int e0)]) (qf : Av Z h0 a1 .byte [(.int t0), (.int t1), (.int t2), (.int t3), (.int t4), (.int t5)]) :
    Rm l Z (⟨"com/example/scheherazade/scheherazade/core/XmlName", "isSpelledBy", "([BII)Z"⟩ : MethodName) prog_20_method_10_code 7 (some .boolean) ws ({ frames := 0, cells := 0, slots := 0, locals := 0 } : Room) #[(.ref a0), (.ref a1), (.int (2 : Int32)), (.int (1 : Int32))] h0 (Pu (.int (b2i (fIs12 e0 t0 t1 t2 t3 t4 t5))) h0) := by
 refine Rm.of (plainFor_of_name pn_2) ?_
 intro p e s m below meth cc T X hnm hret hlk
 refine Go.at_ (ef_rIs12 m a0 a1 (2 : Int32) (1 : Int32)) ?_
 refine g_aloadN X d15_0 (pc' := 1) rfl rfl rfl ?_
 refine g_getfield X (host := "") (Or.inl (tb hw 19 rfl)) Via.refl qc d15_1 (pc' := 4) rfl ?_
 intro T X
 refine g_arraylength X qd d15_4 (pc' := 5) rfl (z := (1 : Int32)) rfl ?_
 refine g_iloadN X d15_5 (pc' := 6) rfl rfl ?_
 refine g_icN X d15_6 (teq (show (1 : Int32) = (1 : Int32) from (by decide))).2 (pc' := 9) rfl ?_
 refine g_iconst X (1 : Int32) d15_9 (pc' := 10) rfl rfl ?_
 refine g_goto X d15_10 (pc' := 14) (by decide) (by decide) ?_
 refine g_istore X d15_14 (pc' := 16) (Ls' := #[.val (.ref a0), .val (.ref a1), .val (.int (2 : Int32)), .val (.int (1 : Int32)), .val (.int (1 : Int32)), .unset, .unset]) rfl rfl ?_
 refine g_iload X d15_16 (pc' := 18) rfl rfl ?_
 refine g_ifN X d15_18 ((if0 _ _).trans (feq (show ¬ ((1 : Int32) = (0 : Int32)) from (by decide))).1) (pc' := 21) rfl ?_
 refine g_iconst X (0 : Int32) d15_21 (pc' := 22) rfl rfl ?_
 refine g_istore X d15_22 (pc' := 24) (Ls' := #[.val (.ref a0), .val (.ref a1), .val (.int (2 : Int32)), .val (.int (1 : Int32)), .val (.int (1 : Int32)), .val (.int (0 : Int32)), .unset]) rfl rfl ?_
 refine g_iconst X (0 : Int32) d15_24 (pc' := 25) rfl rfl ?_
 refine g_istore X d15_25 (pc' := 27) (Ls' := #[.val (.ref a0), .val (.ref a1), .val (.int (2 : Int32)), .val (.int (1 : Int32)), .val (.int (1 : Int32)), .val (.int (0 : Int32)), .val (.int (0 : Int32))]) rfl rfl ?_
 refine g_iload X d15_27 (pc' := 29) rfl rfl ?_
 refine g_iloadN X d15_29 (pc' := 30) rfl rfl ?_
 refine g_icN X d15_30 (tlt (show (0 : Int32) < (1 : Int32) from (by decide))).2.1 (pc' := 33) rfl ?_
 refine g_iload X d15_33 (pc' := 35) rfl rfl ?_
 refine g_aloadN X d15_35 (pc' := 36) rfl rfl rfl ?_
 refine g_getfield X (host := "") (Or.inl (tb hw 19 rfl)) Via.refl qc d15_36 (pc' := 39) rfl ?_
 intro T X
 refine g_iload X d15_39 (pc' := 41) rfl rfl ?_
 refine g_baload X qd 0 d15_41 (pc' := 42) rfl (by decide) (by decide) rfl ?_
 refine g_aloadN X d15_42 (pc' := 43) rfl rfl rfl ?_
 refine g_iloadN X d15_43 (pc' := 44) rfl rfl ?_
 refine g_iload X d15_44 (pc' := 46) rfl rfl ?_
 refine g_iadd X d15_46 (pc' := 47) rfl ?_
 refine Go.lit32 (z := (2 : Int32)) (by decide) ?_
 refine g_baload X qf 2 d15_47 (pc' := 48) rfl (by decide) (by decide) rfl ?_
 refine g_ixor X d15_48 (pc' := 49) rfl ?_
 refine g_ior X d15_49 (pc' := 50) rfl ?_
 generalize qe : ((0 : Int32) ||| (e0 ^^^ t2)) = qa
 refine g_istore X d15_50 (pc' := 52) (Ls' := #[.val (.ref a0), .val (.ref a1), .val (.int (2 : Int32)), .val (.int (1 : Int32)), .val (.int (1 : Int32)), .val (.int qa), .val (.int (0 : Int32))]) rfl rfl ?_
 refine g_iinc X d15_52 (pc' := 55) (q := (1 : Int32)) (Ls' := #[.val (.ref a0), .val (.ref a1), .val (.int (2 : Int32)), .val (.int (1 : Int32)), .val (.int (1 : Int32)), .val (.int qa), .val (.int (1 : Int32))]) rfl rfl rfl rfl ?_
 refine g_goto X d15_55 (pc' := 27) (by decide) (by decide) ?_
 refine g_iload X d15_27 (pc' := 29) rfl rfl ?_
 refine g_iloadN X d15_29 (pc' := 30) rfl rfl ?_
 refine g_icY X d15_30 (flt (show ¬ ((1 : Int32) < (1 : Int32)) from (by decide))).2.1 (pc' := 58) (by decide) (by decide) ?_
 refine g_iload X d15_58 (pc' := 60) rfl rfl ?_
 by_cases qb : qa = (0 : Int32)
 refine g_ifN X d15_60 ((if0 _ _).trans (teq qb).2) (pc' := 63) rfl ?_
 refine g_iconst X (1 : Int32) d15_63 (pc' := 64) rfl rfl ?_
 refine g_goto X d15_64 (pc' := 68) (by decide) (by decide) ?_
 refine g_istore X d15_68 (pc' := 70) (Ls' := #[.val (.ref a0), .val (.ref a1), .val (.int (2 : Int32)), .val (.int (1 : Int32)), .val (.int (1 : Int32)), .val (.int qa), .val (.int (1 : Int32))]) rfl rfl ?_
 refine g_iload X d15_70 (pc' := 72) rfl rfl ?_
 refine g_ireturnN X (t := .boolean) (by simp) d15_72 hret hlk (by decide) (by decide) ?_
 subst qe
 exact ⟨congrArg (fun z => some (Value.int z)) (Eq.trans narT (congrArg b2i (Eq.symm (show fIs12 e0 t0 t1 t2 t3 t4 t5 = _ from (Eq.trans (if_pos qb) rfl))))), rfl, rfl⟩
 refine g_ifY X d15_60 ((if0 _ _).trans (feq qb).2) (pc' := 67) (by decide) (by decide) ?_
 refine g_iconst X (0 : Int32) d15_67 (pc' := 68) rfl rfl ?_
 refine g_istore X d15_68 (pc' := 70) (Ls' := #[.val (.ref a0), .val (.ref a1), .val (.int (2 : Int32)), .val (.int (1 : Int32)), .val (.int (0 : Int32)), .val (.int qa), .val (.int (1 : Int32))]) rfl rfl ?_
 refine g_iload X d15_70 (pc' := 72) rfl rfl ?_
 refine g_ireturnN X (t := .boolean) (by simp) d15_72 hret hlk (by decide) (by decide) ?_
 subst qe
 exact ⟨congrArg (fun z => some (Value.int z)) (Eq.trans narF (congrArg b2i (Eq.symm (show fIs12 e0 t0 t1 t2 t3 t4 t5 = _ from (Eq.trans (if_neg qb) rfl))))), rfl, rfl⟩
def fIs13 (e0 : Int32) (t0 : Int32) (t1 : Int32) (t2 : Int32) (t3 : Int32) (t4 : Int32) (t5 : Int32) : Bool := let v50_1 : Int32 := ((0 : Int32) ||| (e0 ^^^ t3)); if v50_1 = (0 : Int32) then (true) else (false)
theorem ef_rIs13 (m : MethodId) (x0 : Addr) (x1 : Addr) (x2 : Int32) (x3 : Int32) : entryFrame m #[(.ref x0), (.ref x1), (.int x2), (.int x3)] 7 = mkF m 0 #[.val (.ref x0), .val (.ref x1), .val (.int x2), .val (.int x3), .unset, .unset, .unset] [] := by first | (simp [entryFrame, mkF, argsToLocals, Value.category]; done) | rfl
set_option maxRecDepth 65536 in
set_option maxHeartbeats 40000000 in
theorem rIs13 (l : Launch) (Z : State) (aa : Array Value) (hw : ∀ d ∈ tables_1, d.before aa Z = true) (ws : List Jvm.Cond) (a0 : Addr) (a1 : Addr) (wk : Addr) (e0 : Int32) (t0 : Int32) (t1 : Int32) (t2 : Int32) (t3 : Int32) (t4 : Int32) (t5 : Int32) (h0 : Heap) (qg : Exa Z h0 a0 "com/example/scheherazade/scheherazade/core/XmlName") (qc : Fld Z h0 a0 "com/example/scheherazade/scheherazade/core/XmlName" "spelling" "[B" (.ref wk)) (qd : Av Z h0 wk .byte [(.int e0)]) (qf : Av Z h0 a1 .byte [(.int t0), (.int t1), (.int t2), (.int t3), (.int t4), (.int t5)]) :
    Rm l Z (⟨"com/example/scheherazade/scheherazade/core/XmlName", "isSpelledBy", "([BII)Z"⟩ : MethodName) prog_20_method_10_code 7 (some .boolean) ws ({ frames := 0, cells := 0, slots := 0, locals := 0 } : Room) #[(.ref a0), (.ref a1), (.int (3 : Int32)), (.int (1 : Int32))] h0 (Pu (.int (b2i (fIs13 e0 t0 t1 t2 t3 t4 t5))) h0) := by
 refine Rm.of (plainFor_of_name pn_2) ?_
 intro p e s m below meth cc T X hnm hret hlk
 refine Go.at_ (ef_rIs13 m a0 a1 (3 : Int32) (1 : Int32)) ?_
 refine g_aloadN X d15_0 (pc' := 1) rfl rfl rfl ?_
 refine g_getfield X (host := "") (Or.inl (tb hw 19 rfl)) Via.refl qc d15_1 (pc' := 4) rfl ?_
 intro T X
 refine g_arraylength X qd d15_4 (pc' := 5) rfl (z := (1 : Int32)) rfl ?_
 refine g_iloadN X d15_5 (pc' := 6) rfl rfl ?_
 refine g_icN X d15_6 (teq (show (1 : Int32) = (1 : Int32) from (by decide))).2 (pc' := 9) rfl ?_
 refine g_iconst X (1 : Int32) d15_9 (pc' := 10) rfl rfl ?_
 refine g_goto X d15_10 (pc' := 14) (by decide) (by decide) ?_
 refine g_istore X d15_14 (pc' := 16) (Ls' := #[.val (.ref a0), .val (.ref a1), .val (.int (3 : Int32)), .val (.int (1 : Int32)), .val (.int (1 : Int32)), .unset, .unset]) rfl rfl ?_
 refine g_iload X d15_16 (pc' := 18) rfl rfl ?_
 refine g_ifN X d15_18 ((if0 _ _).trans (feq (show ¬ ((1 : Int32) = (0 : Int32)) from (by decide))).1) (pc' := 21) rfl ?_
 refine g_iconst X (0 : Int32) d15_21 (pc' := 22) rfl rfl ?_
 refine g_istore X d15_22 (pc' := 24) (Ls' := #[.val (.ref a0), .val (.ref a1), .val (.int (3 : Int32)), .val (.int (1 : Int32)), .val (.int (1 : Int32)), .val (.int (0 : Int32)), .unset]) rfl rfl ?_
 refine g_iconst X (0 : Int32) d15_24 (pc' := 25) rfl rfl ?_
 refine g_istore X d15_25 (pc' := 27) (Ls' := #[.val (.ref a0), .val (.ref a1), .val (.int (3 : Int32)), .val (.int (1 : Int32)), .val (.int (1 : Int32)), .val (.int (0 : Int32)), .val (.int (0 : Int32))]) rfl rfl ?_
 refine g_iload X d15_27 (pc' := 29) rfl rfl ?_
 refine g_iloadN X d15_29 (pc' := 30) rfl rfl ?_
 refine g_icN X d15_30 (tlt (show (0 : Int32) < (1 : Int32) from (by decide))).2.1 (pc' := 33) rfl ?_
 refine g_iload X d15_33 (pc' := 35) rfl rfl ?_
 refine g_aloadN X d15_35 (pc' := 36) rfl rfl rfl ?_
 refine g_getfield X (host := "") (Or.inl (tb hw 19 rfl)) Via.refl qc d15_36 (pc' := 39) rfl ?_
 intro T X
 refine g_iload X d15_39 (pc' := 41) rfl rfl ?_
 refine g_baload X qd 0 d15_41 (pc' := 42) rfl (by decide) (by decide) rfl ?_
 refine g_aloadN X d15_42 (pc' := 43) rfl rfl rfl ?_
 refine g_iloadN X d15_43 (pc' := 44) rfl rfl ?_
 refine g_iload X d15_44 (pc' := 46) rfl rfl ?_
 refine g_iadd X d15_46 (pc' := 47) rfl ?_
 refine Go.lit32 (z := (3 : Int32)) (by decide) ?_
 refine g_baload X qf 3 d15_47 (pc' := 48) rfl (by decide) (by decide) rfl ?_
 refine g_ixor X d15_48 (pc' := 49) rfl ?_
 refine g_ior X d15_49 (pc' := 50) rfl ?_
 generalize qe : ((0 : Int32) ||| (e0 ^^^ t3)) = qa
 refine g_istore X d15_50 (pc' := 52) (Ls' := #[.val (.ref a0), .val (.ref a1), .val (.int (3 : Int32)), .val (.int (1 : Int32)), .val (.int (1 : Int32)), .val (.int qa), .val (.int (0 : Int32))]) rfl rfl ?_
 refine g_iinc X d15_52 (pc' := 55) (q := (1 : Int32)) (Ls' := #[.val (.ref a0), .val (.ref a1), .val (.int (3 : Int32)), .val (.int (1 : Int32)), .val (.int (1 : Int32)), .val (.int qa), .val (.int (1 : Int32))]) rfl rfl rfl rfl ?_
 refine g_goto X d15_55 (pc' := 27) (by decide) (by decide) ?_
 refine g_iload X d15_27 (pc' := 29) rfl rfl ?_
 refine g_iloadN X d15_29 (pc' := 30) rfl rfl ?_
 refine g_icY X d15_30 (flt (show ¬ ((1 : Int32) < (1 : Int32)) from (by decide))).2.1 (pc' := 58) (by decide) (by decide) ?_
 refine g_iload X d15_58 (pc' := 60) rfl rfl ?_
 by_cases qb : qa = (0 : Int32)
 refine g_ifN X d15_60 ((if0 _ _).trans (teq qb).2) (pc' := 63) rfl ?_
 refine g_iconst X (1 : Int32) d15_63 (pc' := 64) rfl rfl ?_
 refine g_goto X d15_64 (pc' := 68) (by decide) (by decide) ?_
 refine g_istore X d15_68 (pc' := 70) (Ls' := #[.val (.ref a0), .val (.ref a1), .val (.int (3 : Int32)), .val (.int (1 : Int32)), .val (.int (1 : Int32)), .val (.int qa), .val (.int (1 : Int32))]) rfl rfl ?_
 refine g_iload X d15_70 (pc' := 72) rfl rfl ?_
 refine g_ireturnN X (t := .boolean) (by simp) d15_72 hret hlk (by decide) (by decide) ?_
 subst qe
 exact ⟨congrArg (fun z => some (Value.int z)) (Eq.trans narT (congrArg b2i (Eq.symm (show fIs13 e0 t0 t1 t2 t3 t4 t5 = _ from (Eq.trans (if_pos qb) rfl))))), rfl, rfl⟩
 refine g_ifY X d15_60 ((if0 _ _).trans (feq qb).2) (pc' := 67) (by decide) (by decide) ?_
 refine g_iconst X (0 : Int32) d15_67 (pc' := 68) rfl rfl ?_
 refine g_istore X d15_68 (pc' := 70) (Ls' := #[.val (.ref a0), .val (.ref a1), .val (.int (3 : Int32)), .val (.int (1 : Int32)), .val (.int (0 : Int32)), .val (.int qa), .val (.int (1 : Int32))]) rfl rfl ?_
 refine g_iload X d15_70 (pc' := 72) rfl rfl ?_
 refine g_ireturnN X (t := .boolean) (by simp) d15_72 hret hlk (by decide) (by decide) ?_
 subst qe
 exact ⟨congrArg (fun z => some (Value.int z)) (Eq.trans narF (congrArg b2i (Eq.symm (show fIs13 e0 t0 t1 t2 t3 t4 t5 = _ from (Eq.trans (if_neg qb) rfl))))), rfl, rfl⟩
theorem ef_rIsN2 (m : MethodId) (x0 : Addr) (x1 : Addr) (x2 : Int32) (x3 : Int32) : entryFrame m #[(.ref x0), (.ref x1), (.int x2), (.int x3)] 7 = mkF m 0 #[.val (.ref x0), .val (.ref x1), .val (.int x2), .val (.int x3), .unset, .unset, .unset] [] := by first | (simp [entryFrame, mkF, argsToLocals, Value.category]; done) | rfl
set_option maxRecDepth 65536 in
set_option maxHeartbeats 40000000 in
theorem rIsN2 (l : Launch) (Z : State) (aa : Array Value) (hw : ∀ d ∈ tables_1, d.before aa Z = true) (ws : List Jvm.Cond) (a0 : Addr) (a1 : Addr) (i2 : Int32) (i3 : Int32) (wk : Addr) (e0 : Int32) (e1 : Int32) (t0 : Int32) (t1 : Int32) (t2 : Int32) (t3 : Int32) (t4 : Int32) (t5 : Int32) (h0 : Heap) (qc : Exa Z h0 a0 "com/example/scheherazade/scheherazade/core/XmlName") (qa : Fld Z h0 a0 "com/example/scheherazade/scheherazade/core/XmlName" "spelling" "[B" (.ref wk)) (qb : Av Z h0 wk .byte [(.int e0), (.int e1)]) (qd : Av Z h0 a1 .byte [(.int t0), (.int t1), (.int t2), (.int t3), (.int t4), (.int t5)]) (pn : ¬ (2 : Int32) = i3) :
    Rm l Z (⟨"com/example/scheherazade/scheherazade/core/XmlName", "isSpelledBy", "([BII)Z"⟩ : MethodName) prog_20_method_10_code 7 (some .boolean) ws ({ frames := 0, cells := 0, slots := 0, locals := 0 } : Room) #[(.ref a0), (.ref a1), (.int i2), (.int i3)] h0 (Pu (.int (0 : Int32)) h0) := by
 refine Rm.of (plainFor_of_name pn_2) ?_
 intro p e s m below meth cc T X hnm hret hlk
 refine Go.at_ (ef_rIsN2 m a0 a1 i2 i3) ?_
 refine g_aloadN X d15_0 (pc' := 1) rfl rfl rfl ?_
 refine g_getfield X (host := "") (Or.inl (tb hw 19 rfl)) Via.refl qa d15_1 (pc' := 4) rfl ?_
 intro T X
 refine g_arraylength X qb d15_4 (pc' := 5) rfl (z := (2 : Int32)) rfl ?_
 refine g_iloadN X d15_5 (pc' := 6) rfl rfl ?_
 refine g_icY X d15_6 (feq (show ¬ ((2 : Int32) = i3) from pn)).2 (pc' := 13) (by decide) (by decide) ?_
 refine g_iconst X (0 : Int32) d15_13 (pc' := 14) rfl rfl ?_
 refine g_istore X d15_14 (pc' := 16) (Ls' := #[.val (.ref a0), .val (.ref a1), .val (.int i2), .val (.int i3), .val (.int (0 : Int32)), .unset, .unset]) rfl rfl ?_
 refine g_iload X d15_16 (pc' := 18) rfl rfl ?_
 refine g_ifY X d15_18 ((if0 _ _).trans (teq (show (0 : Int32) = (0 : Int32) from (by decide))).1) (pc' := 70) (by decide) (by decide) ?_
 refine g_iload X d15_70 (pc' := 72) rfl rfl ?_
 refine g_ireturnN X (t := .boolean) (by simp) d15_72 hret hlk (by decide) (by decide) ?_
 exact ⟨rfl, rfl, rfl⟩
def fIs20 (e0 : Int32) (e1 : Int32) (t0 : Int32) (t1 : Int32) (t2 : Int32) (t3 : Int32) (t4 : Int32) (t5 : Int32) : Bool := let v50_1 : Int32 := ((0 : Int32) ||| (e0 ^^^ t0)); let v50_2 : Int32 := (v50_1 ||| (e1 ^^^ t1)); if v50_2 = (0 : Int32) then (true) else (false)
theorem ef_rIs20 (m : MethodId) (x0 : Addr) (x1 : Addr) (x2 : Int32) (x3 : Int32) : entryFrame m #[(.ref x0), (.ref x1), (.int x2), (.int x3)] 7 = mkF m 0 #[.val (.ref x0), .val (.ref x1), .val (.int x2), .val (.int x3), .unset, .unset, .unset] [] := by first | (simp [entryFrame, mkF, argsToLocals, Value.category]; done) | rfl
set_option maxRecDepth 65536 in
set_option maxHeartbeats 40000000 in
theorem rIs20 (l : Launch) (Z : State) (aa : Array Value) (hw : ∀ d ∈ tables_1, d.before aa Z = true) (ws : List Jvm.Cond) (a0 : Addr) (a1 : Addr) (wk : Addr) (e0 : Int32) (e1 : Int32) (t0 : Int32) (t1 : Int32) (t2 : Int32) (t3 : Int32) (t4 : Int32) (t5 : Int32) (h0 : Heap) (qi : Exa Z h0 a0 "com/example/scheherazade/scheherazade/core/XmlName") (qc : Fld Z h0 a0 "com/example/scheherazade/scheherazade/core/XmlName" "spelling" "[B" (.ref wk)) (qd : Av Z h0 wk .byte [(.int e0), (.int e1)]) (qf : Av Z h0 a1 .byte [(.int t0), (.int t1), (.int t2), (.int t3), (.int t4), (.int t5)]) :
    Rm l Z (⟨"com/example/scheherazade/scheherazade/core/XmlName", "isSpelledBy", "([BII)Z"⟩ : MethodName) prog_20_method_10_code 7 (some .boolean) ws ({ frames := 0, cells := 0, slots := 0, locals := 0 } : Room) #[(.ref a0), (.ref a1), (.int (0 : Int32)), (.int (2 : Int32))] h0 (Pu (.int (b2i (fIs20 e0 e1 t0 t1 t2 t3 t4 t5))) h0) := by
 refine Rm.of (plainFor_of_name pn_2) ?_
 intro p e s m below meth cc T X hnm hret hlk
 refine Go.at_ (ef_rIs20 m a0 a1 (0 : Int32) (2 : Int32)) ?_
 refine g_aloadN X d15_0 (pc' := 1) rfl rfl rfl ?_
 refine g_getfield X (host := "") (Or.inl (tb hw 19 rfl)) Via.refl qc d15_1 (pc' := 4) rfl ?_
 intro T X
 refine g_arraylength X qd d15_4 (pc' := 5) rfl (z := (2 : Int32)) rfl ?_
 refine g_iloadN X d15_5 (pc' := 6) rfl rfl ?_
 refine g_icN X d15_6 (teq (show (2 : Int32) = (2 : Int32) from (by decide))).2 (pc' := 9) rfl ?_
 refine g_iconst X (1 : Int32) d15_9 (pc' := 10) rfl rfl ?_
 refine g_goto X d15_10 (pc' := 14) (by decide) (by decide) ?_
 refine g_istore X d15_14 (pc' := 16) (Ls' := #[.val (.ref a0), .val (.ref a1), .val (.int (0 : Int32)), .val (.int (2 : Int32)), .val (.int (1 : Int32)), .unset, .unset]) rfl rfl ?_
 refine g_iload X d15_16 (pc' := 18) rfl rfl ?_
 refine g_ifN X d15_18 ((if0 _ _).trans (feq (show ¬ ((1 : Int32) = (0 : Int32)) from (by decide))).1) (pc' := 21) rfl ?_
 refine g_iconst X (0 : Int32) d15_21 (pc' := 22) rfl rfl ?_
 refine g_istore X d15_22 (pc' := 24) (Ls' := #[.val (.ref a0), .val (.ref a1), .val (.int (0 : Int32)), .val (.int (2 : Int32)), .val (.int (1 : Int32)), .val (.int (0 : Int32)), .unset]) rfl rfl ?_
 refine g_iconst X (0 : Int32) d15_24 (pc' := 25) rfl rfl ?_
 refine g_istore X d15_25 (pc' := 27) (Ls' := #[.val (.ref a0), .val (.ref a1), .val (.int (0 : Int32)), .val (.int (2 : Int32)), .val (.int (1 : Int32)), .val (.int (0 : Int32)), .val (.int (0 : Int32))]) rfl rfl ?_
 refine g_iload X d15_27 (pc' := 29) rfl rfl ?_
 refine g_iloadN X d15_29 (pc' := 30) rfl rfl ?_
 refine g_icN X d15_30 (tlt (show (0 : Int32) < (2 : Int32) from (by decide))).2.1 (pc' := 33) rfl ?_
 refine g_iload X d15_33 (pc' := 35) rfl rfl ?_
 refine g_aloadN X d15_35 (pc' := 36) rfl rfl rfl ?_
 refine g_getfield X (host := "") (Or.inl (tb hw 19 rfl)) Via.refl qc d15_36 (pc' := 39) rfl ?_
 intro T X
 refine g_iload X d15_39 (pc' := 41) rfl rfl ?_
 refine g_baload X qd 0 d15_41 (pc' := 42) rfl (by decide) (by decide) rfl ?_
 refine g_aloadN X d15_42 (pc' := 43) rfl rfl rfl ?_
 refine g_iloadN X d15_43 (pc' := 44) rfl rfl ?_
 refine g_iload X d15_44 (pc' := 46) rfl rfl ?_
 refine g_iadd X d15_46 (pc' := 47) rfl ?_
 refine Go.lit32 (z := (0 : Int32)) (by decide) ?_
 refine g_baload X qf 0 d15_47 (pc' := 48) rfl (by decide) (by decide) rfl ?_
 refine g_ixor X d15_48 (pc' := 49) rfl ?_
 refine g_ior X d15_49 (pc' := 50) rfl ?_
 generalize qg : ((0 : Int32) ||| (e0 ^^^ t0)) = qe
 refine g_istore X d15_50 (pc' := 52) (Ls' := #[.val (.ref a0), .val (.ref a1), .val (.int (0 : Int32)), .val (.int (2 : Int32)), .val (.int (1 : Int32)), .val (.int qe), .val (.int (0 : Int32))]) rfl rfl ?_
 refine g_iinc X d15_52 (pc' := 55) (q := (1 : Int32)) (Ls' := #[.val (.ref a0), .val (.ref a1), .val (.int (0 : Int32)), .val (.int (2 : Int32)), .val (.int (1 : Int32)), .val (.int qe), .val (.int (1 : Int32))]) rfl rfl rfl rfl ?_
 refine g_goto X d15_55 (pc' := 27) (by decide) (by decide) ?_
 refine g_iload X d15_27 (pc' := 29) rfl rfl ?_
 refine g_iloadN X d15_29 (pc' := 30) rfl rfl ?_
 refine g_icN X d15_30 (tlt (show (1 : Int32) < (2 : Int32) from (by decide))).2.1 (pc' := 33) rfl ?_
 refine g_iload X d15_33 (pc' := 35) rfl rfl ?_
 refine g_aloadN X d15_35 (pc' := 36) rfl rfl rfl ?_
 refine g_getfield X (host := "") (Or.inl (tb hw 19 rfl)) Via.refl qc d15_36 (pc' := 39) rfl ?_
 intro T X
 refine g_iload X d15_39 (pc' := 41) rfl rfl ?_
 refine g_baload X qd 1 d15_41 (pc' := 42) rfl (by decide) (by decide) rfl ?_
 refine g_aloadN X d15_42 (pc' := 43) rfl rfl rfl ?_
 refine g_iloadN X d15_43 (pc' := 44) rfl rfl ?_
 refine g_iload X d15_44 (pc' := 46) rfl rfl ?_
 refine g_iadd X d15_46 (pc' := 47) rfl ?_
 refine Go.lit32 (z := (1 : Int32)) (by decide) ?_
 refine g_baload X qf 1 d15_47 (pc' := 48) rfl (by decide) (by decide) rfl ?_
 refine g_ixor X d15_48 (pc' := 49) rfl ?_
 refine g_ior X d15_49 (pc' := 50) rfl ?_
 generalize qh : (qe ||| (e1 ^^^ t1)) = qa
 refine g_istore X d15_50 (pc' := 52) (Ls' := #[.val (.ref a0), .val (.ref a1), .val (.int (0 : Int32)), .val (.int (2 : Int32)), .val (.int (1 : Int32)), .val (.int qa), .val (.int (1 : Int32))]) rfl rfl ?_
 refine g_iinc X d15_52 (pc' := 55) (q := (1 : Int32)) (Ls' := #[.val (.ref a0), .val (.ref a1), .val (.int (0 : Int32)), .val (.int (2 : Int32)), .val (.int (1 : Int32)), .val (.int qa), .val (.int (2 : Int32))]) rfl rfl rfl rfl ?_
 refine g_goto X d15_55 (pc' := 27) (by decide) (by decide) ?_
 refine g_iload X d15_27 (pc' := 29) rfl rfl ?_
 refine g_iloadN X d15_29 (pc' := 30) rfl rfl ?_
 refine g_icY X d15_30 (flt (show ¬ ((2 : Int32) < (2 : Int32)) from (by decide))).2.1 (pc' := 58) (by decide) (by decide) ?_
 refine g_iload X d15_58 (pc' := 60) rfl rfl ?_
 by_cases qb : qa = (0 : Int32)
 refine g_ifN X d15_60 ((if0 _ _).trans (teq qb).2) (pc' := 63) rfl ?_
 refine g_iconst X (1 : Int32) d15_63 (pc' := 64) rfl rfl ?_
 refine g_goto X d15_64 (pc' := 68) (by decide) (by decide) ?_
 refine g_istore X d15_68 (pc' := 70) (Ls' := #[.val (.ref a0), .val (.ref a1), .val (.int (0 : Int32)), .val (.int (2 : Int32)), .val (.int (1 : Int32)), .val (.int qa), .val (.int (2 : Int32))]) rfl rfl ?_
 refine g_iload X d15_70 (pc' := 72) rfl rfl ?_
 refine g_ireturnN X (t := .boolean) (by simp) d15_72 hret hlk (by decide) (by decide) ?_
 subst qg qh
 exact ⟨congrArg (fun z => some (Value.int z)) (Eq.trans narT (congrArg b2i (Eq.symm (show fIs20 e0 e1 t0 t1 t2 t3 t4 t5 = _ from (Eq.trans (if_pos qb) rfl))))), rfl, rfl⟩
 refine g_ifY X d15_60 ((if0 _ _).trans (feq qb).2) (pc' := 67) (by decide) (by decide) ?_
 refine g_iconst X (0 : Int32) d15_67 (pc' := 68) rfl rfl ?_
 refine g_istore X d15_68 (pc' := 70) (Ls' := #[.val (.ref a0), .val (.ref a1), .val (.int (0 : Int32)), .val (.int (2 : Int32)), .val (.int (0 : Int32)), .val (.int qa), .val (.int (2 : Int32))]) rfl rfl ?_
 refine g_iload X d15_70 (pc' := 72) rfl rfl ?_
 refine g_ireturnN X (t := .boolean) (by simp) d15_72 hret hlk (by decide) (by decide) ?_
 subst qg qh
 exact ⟨congrArg (fun z => some (Value.int z)) (Eq.trans narF (congrArg b2i (Eq.symm (show fIs20 e0 e1 t0 t1 t2 t3 t4 t5 = _ from (Eq.trans (if_neg qb) rfl))))), rfl, rfl⟩
def fIs21 (e0 : Int32) (e1 : Int32) (t0 : Int32) (t1 : Int32) (t2 : Int32) (t3 : Int32) (t4 : Int32) (t5 : Int32) : Bool := let v50_1 : Int32 := ((0 : Int32) ||| (e0 ^^^ t1)); let v50_2 : Int32 := (v50_1 ||| (e1 ^^^ t2)); if v50_2 = (0 : Int32) then (true) else (false)
theorem ef_rIs21 (m : MethodId) (x0 : Addr) (x1 : Addr) (x2 : Int32) (x3 : Int32) : entryFrame m #[(.ref x0), (.ref x1), (.int x2), (.int x3)] 7 = mkF m 0 #[.val (.ref x0), .val (.ref x1), .val (.int x2), .val (.int x3), .unset, .unset, .unset] [] := by first | (simp [entryFrame, mkF, argsToLocals, Value.category]; done) | rfl
set_option maxRecDepth 65536 in
set_option maxHeartbeats 40000000 in
theorem rIs21 (l : Launch) (Z : State) (aa : Array Value) (hw : ∀ d ∈ tables_1, d.before aa Z = true) (ws : List Jvm.Cond) (a0 : Addr) (a1 : Addr) (wk : Addr) (e0 : Int32) (e1 : Int32) (t0 : Int32) (t1 : Int32) (t2 : Int32) (t3 : Int32) (t4 : Int32) (t5 : Int32) (h0 : Heap) (qi : Exa Z h0 a0 "com/example/scheherazade/scheherazade/core/XmlName") (qc : Fld Z h0 a0 "com/example/scheherazade/scheherazade/core/XmlName" "spelling" "[B" (.ref wk)) (qd : Av Z h0 wk .byte [(.int e0), (.int e1)]) (qf : Av Z h0 a1 .byte [(.int t0), (.int t1), (.int t2), (.int t3), (.int t4), (.int t5)]) :
    Rm l Z (⟨"com/example/scheherazade/scheherazade/core/XmlName", "isSpelledBy", "([BII)Z"⟩ : MethodName) prog_20_method_10_code 7 (some .boolean) ws ({ frames := 0, cells := 0, slots := 0, locals := 0 } : Room) #[(.ref a0), (.ref a1), (.int (1 : Int32)), (.int (2 : Int32))] h0 (Pu (.int (b2i (fIs21 e0 e1 t0 t1 t2 t3 t4 t5))) h0) := by
 refine Rm.of (plainFor_of_name pn_2) ?_
 intro p e s m below meth cc T X hnm hret hlk
 refine Go.at_ (ef_rIs21 m a0 a1 (1 : Int32) (2 : Int32)) ?_
 refine g_aloadN X d15_0 (pc' := 1) rfl rfl rfl ?_
 refine g_getfield X (host := "") (Or.inl (tb hw 19 rfl)) Via.refl qc d15_1 (pc' := 4) rfl ?_
 intro T X
 refine g_arraylength X qd d15_4 (pc' := 5) rfl (z := (2 : Int32)) rfl ?_
 refine g_iloadN X d15_5 (pc' := 6) rfl rfl ?_
 refine g_icN X d15_6 (teq (show (2 : Int32) = (2 : Int32) from (by decide))).2 (pc' := 9) rfl ?_
 refine g_iconst X (1 : Int32) d15_9 (pc' := 10) rfl rfl ?_
 refine g_goto X d15_10 (pc' := 14) (by decide) (by decide) ?_
 refine g_istore X d15_14 (pc' := 16) (Ls' := #[.val (.ref a0), .val (.ref a1), .val (.int (1 : Int32)), .val (.int (2 : Int32)), .val (.int (1 : Int32)), .unset, .unset]) rfl rfl ?_
 refine g_iload X d15_16 (pc' := 18) rfl rfl ?_
 refine g_ifN X d15_18 ((if0 _ _).trans (feq (show ¬ ((1 : Int32) = (0 : Int32)) from (by decide))).1) (pc' := 21) rfl ?_
 refine g_iconst X (0 : Int32) d15_21 (pc' := 22) rfl rfl ?_
 refine g_istore X d15_22 (pc' := 24) (Ls' := #[.val (.ref a0), .val (.ref a1), .val (.int (1 : Int32)), .val (.int (2 : Int32)), .val (.int (1 : Int32)), .val (.int (0 : Int32)), .unset]) rfl rfl ?_
 refine g_iconst X (0 : Int32) d15_24 (pc' := 25) rfl rfl ?_
 refine g_istore X d15_25 (pc' := 27) (Ls' := #[.val (.ref a0), .val (.ref a1), .val (.int (1 : Int32)), .val (.int (2 : Int32)), .val (.int (1 : Int32)), .val (.int (0 : Int32)), .val (.int (0 : Int32))]) rfl rfl ?_
 refine g_iload X d15_27 (pc' := 29) rfl rfl ?_
 refine g_iloadN X d15_29 (pc' := 30) rfl rfl ?_
 refine g_icN X d15_30 (tlt (show (0 : Int32) < (2 : Int32) from (by decide))).2.1 (pc' := 33) rfl ?_
 refine g_iload X d15_33 (pc' := 35) rfl rfl ?_
 refine g_aloadN X d15_35 (pc' := 36) rfl rfl rfl ?_
 refine g_getfield X (host := "") (Or.inl (tb hw 19 rfl)) Via.refl qc d15_36 (pc' := 39) rfl ?_
 intro T X
 refine g_iload X d15_39 (pc' := 41) rfl rfl ?_
 refine g_baload X qd 0 d15_41 (pc' := 42) rfl (by decide) (by decide) rfl ?_
 refine g_aloadN X d15_42 (pc' := 43) rfl rfl rfl ?_
 refine g_iloadN X d15_43 (pc' := 44) rfl rfl ?_
 refine g_iload X d15_44 (pc' := 46) rfl rfl ?_
 refine g_iadd X d15_46 (pc' := 47) rfl ?_
 refine Go.lit32 (z := (1 : Int32)) (by decide) ?_
 refine g_baload X qf 1 d15_47 (pc' := 48) rfl (by decide) (by decide) rfl ?_
 refine g_ixor X d15_48 (pc' := 49) rfl ?_
 refine g_ior X d15_49 (pc' := 50) rfl ?_
 generalize qg : ((0 : Int32) ||| (e0 ^^^ t1)) = qe
 refine g_istore X d15_50 (pc' := 52) (Ls' := #[.val (.ref a0), .val (.ref a1), .val (.int (1 : Int32)), .val (.int (2 : Int32)), .val (.int (1 : Int32)), .val (.int qe), .val (.int (0 : Int32))]) rfl rfl ?_
 refine g_iinc X d15_52 (pc' := 55) (q := (1 : Int32)) (Ls' := #[.val (.ref a0), .val (.ref a1), .val (.int (1 : Int32)), .val (.int (2 : Int32)), .val (.int (1 : Int32)), .val (.int qe), .val (.int (1 : Int32))]) rfl rfl rfl rfl ?_
 refine g_goto X d15_55 (pc' := 27) (by decide) (by decide) ?_
 refine g_iload X d15_27 (pc' := 29) rfl rfl ?_
 refine g_iloadN X d15_29 (pc' := 30) rfl rfl ?_
 refine g_icN X d15_30 (tlt (show (1 : Int32) < (2 : Int32) from (by decide))).2.1 (pc' := 33) rfl ?_
 refine g_iload X d15_33 (pc' := 35) rfl rfl ?_
 refine g_aloadN X d15_35 (pc' := 36) rfl rfl rfl ?_
 refine g_getfield X (host := "") (Or.inl (tb hw 19 rfl)) Via.refl qc d15_36 (pc' := 39) rfl ?_
 intro T X
 refine g_iload X d15_39 (pc' := 41) rfl rfl ?_
 refine g_baload X qd 1 d15_41 (pc' := 42) rfl (by decide) (by decide) rfl ?_
 refine g_aloadN X d15_42 (pc' := 43) rfl rfl rfl ?_
 refine g_iloadN X d15_43 (pc' := 44) rfl rfl ?_
 refine g_iload X d15_44 (pc' := 46) rfl rfl ?_
 refine g_iadd X d15_46 (pc' := 47) rfl ?_
 refine Go.lit32 (z := (2 : Int32)) (by decide) ?_
 refine g_baload X qf 2 d15_47 (pc' := 48) rfl (by decide) (by decide) rfl ?_
 refine g_ixor X d15_48 (pc' := 49) rfl ?_
 refine g_ior X d15_49 (pc' := 50) rfl ?_
 generalize qh : (qe ||| (e1 ^^^ t2)) = qa
 refine g_istore X d15_50 (pc' := 52) (Ls' := #[.val (.ref a0), .val (.ref a1), .val (.int (1 : Int32)), .val (.int (2 : Int32)), .val (.int (1 : Int32)), .val (.int qa), .val (.int (1 : Int32))]) rfl rfl ?_
 refine g_iinc X d15_52 (pc' := 55) (q := (1 : Int32)) (Ls' := #[.val (.ref a0), .val (.ref a1), .val (.int (1 : Int32)), .val (.int (2 : Int32)), .val (.int (1 : Int32)), .val (.int qa), .val (.int (2 : Int32))]) rfl rfl rfl rfl ?_
 refine g_goto X d15_55 (pc' := 27) (by decide) (by decide) ?_
 refine g_iload X d15_27 (pc' := 29) rfl rfl ?_
 refine g_iloadN X d15_29 (pc' := 30) rfl rfl ?_
 refine g_icY X d15_30 (flt (show ¬ ((2 : Int32) < (2 : Int32)) from (by decide))).2.1 (pc' := 58) (by decide) (by decide) ?_
 refine g_iload X d15_58 (pc' := 60) rfl rfl ?_
 by_cases qb : qa = (0 : Int32)
 refine g_ifN X d15_60 ((if0 _ _).trans (teq qb).2) (pc' := 63) rfl ?_
 refine g_iconst X (1 : Int32) d15_63 (pc' := 64) rfl rfl ?_
 refine g_goto X d15_64 (pc' := 68) (by decide) (by decide) ?_
 refine g_istore X d15_68 (pc' := 70) (Ls' := #[.val (.ref a0), .val (.ref a1), .val (.int (1 : Int32)), .val (.int (2 : Int32)), .val (.int (1 : Int32)), .val (.int qa), .val (.int (2 : Int32))]) rfl rfl ?_
 refine g_iload X d15_70 (pc' := 72) rfl rfl ?_
 refine g_ireturnN X (t := .boolean) (by simp) d15_72 hret hlk (by decide) (by decide) ?_
 subst qg qh
 exact ⟨congrArg (fun z => some (Value.int z)) (Eq.trans narT (congrArg b2i (Eq.symm (show fIs21 e0 e1 t0 t1 t2 t3 t4 t5 = _ from (Eq.trans (if_pos qb) rfl))))), rfl, rfl⟩
 refine g_ifY X d15_60 ((if0 _ _).trans (feq qb).2) (pc' := 67) (by decide) (by decide) ?_
 refine g_iconst X (0 : Int32) d15_67 (pc' := 68) rfl rfl ?_
 refine g_istore X d15_68 (pc' := 70) (Ls' := #[.val (.ref a0), .val (.ref a1), .val (.int (1 : Int32)), .val (.int (2 : Int32)), .val (.int (0 : Int32)), .val (.int qa), .val (.int (2 : Int32))]) rfl rfl ?_
 refine g_iload X d15_70 (pc' := 72) rfl rfl ?_
 refine g_ireturnN X (t := .boolean) (by simp) d15_72 hret hlk (by decide) (by decide) ?_
 subst qg qh
 exact ⟨congrArg (fun z => some (Value.int z)) (Eq.trans narF (congrArg b2i (Eq.symm (show fIs21 e0 e1 t0 t1 t2 t3 t4 t5 = _ from (Eq.trans (if_neg qb) rfl))))), rfl, rfl⟩
def fIs22 (e0 : Int32) (e1 : Int32) (t0 : Int32) (t1 : Int32) (t2 : Int32) (t3 : Int32) (t4 : Int32) (t5 : Int32) : Bool := let v50_1 : Int32 := ((0 : Int32) ||| (e0 ^^^ t2)); let v50_2 : Int32 := (v50_1 ||| (e1 ^^^ t3)); if v50_2 = (0 : Int32) then (true) else (false)
theorem ef_rIs22 (m : MethodId) (x0 : Addr) (x1 : Addr) (x2 : Int32) (x3 : Int32) : entryFrame m #[(.ref x0), (.ref x1), (.int x2), (.int x3)] 7 = mkF m 0 #[.val (.ref x0), .val (.ref x1), .val (.int x2), .val (.int x3), .unset, .unset, .unset] [] := by first | (simp [entryFrame, mkF, argsToLocals, Value.category]; done) | rfl
set_option maxRecDepth 65536 in
set_option maxHeartbeats 40000000 in
theorem rIs22 (l : Launch) (Z : State) (aa : Array Value) (hw : ∀ d ∈ tables_1, d.before aa Z = true) (ws : List Jvm.Cond) (a0 : Addr) (a1 : Addr) (wk : Addr) (e0 : Int32) (e1 : Int32) (t0 : Int32) (t1 : Int32) (t2 : Int32) (t3 : Int32) (t4 : Int32) (t5 : Int32) (h0 : Heap) (qi : Exa Z h0 a0 "com/example/scheherazade/scheherazade/core/XmlName") (qc : Fld Z h0 a0 "com/example/scheherazade/scheherazade/core/XmlName" "spelling" "[B" (.ref wk)) (qd : Av Z h0 wk .byte [(.int e0), (.int e1)]) (qf : Av Z h0 a1 .byte [(.int t0), (.int t1), (.int t2), (.int t3), (.int t4), (.int t5)]) :
    Rm l Z (⟨"com/example/scheherazade/scheherazade/core/XmlName", "isSpelledBy", "([BII)Z"⟩ : MethodName) prog_20_method_10_code 7 (some .boolean) ws ({ frames := 0, cells := 0, slots := 0, locals := 0 } : Room) #[(.ref a0), (.ref a1), (.int (2 : Int32)), (.int (2 : Int32))] h0 (Pu (.int (b2i (fIs22 e0 e1 t0 t1 t2 t3 t4 t5))) h0) := by
 refine Rm.of (plainFor_of_name pn_2) ?_
 intro p e s m below meth cc T X hnm hret hlk
 refine Go.at_ (ef_rIs22 m a0 a1 (2 : Int32) (2 : Int32)) ?_
 refine g_aloadN X d15_0 (pc' := 1) rfl rfl rfl ?_
 refine g_getfield X (host := "") (Or.inl (tb hw 19 rfl)) Via.refl qc d15_1 (pc' := 4) rfl ?_
 intro T X
 refine g_arraylength X qd d15_4 (pc' := 5) rfl (z := (2 : Int32)) rfl ?_
 refine g_iloadN X d15_5 (pc' := 6) rfl rfl ?_
 refine g_icN X d15_6 (teq (show (2 : Int32) = (2 : Int32) from (by decide))).2 (pc' := 9) rfl ?_
 refine g_iconst X (1 : Int32) d15_9 (pc' := 10) rfl rfl ?_
 refine g_goto X d15_10 (pc' := 14) (by decide) (by decide) ?_
 refine g_istore X d15_14 (pc' := 16) (Ls' := #[.val (.ref a0), .val (.ref a1), .val (.int (2 : Int32)), .val (.int (2 : Int32)), .val (.int (1 : Int32)), .unset, .unset]) rfl rfl ?_
 refine g_iload X d15_16 (pc' := 18) rfl rfl ?_
 refine g_ifN X d15_18 ((if0 _ _).trans (feq (show ¬ ((1 : Int32) = (0 : Int32)) from (by decide))).1) (pc' := 21) rfl ?_
 refine g_iconst X (0 : Int32) d15_21 (pc' := 22) rfl rfl ?_
 refine g_istore X d15_22 (pc' := 24) (Ls' := #[.val (.ref a0), .val (.ref a1), .val (.int (2 : Int32)), .val (.int (2 : Int32)), .val (.int (1 : Int32)), .val (.int (0 : Int32)), .unset]) rfl rfl ?_
 refine g_iconst X (0 : Int32) d15_24 (pc' := 25) rfl rfl ?_
 refine g_istore X d15_25 (pc' := 27) (Ls' := #[.val (.ref a0), .val (.ref a1), .val (.int (2 : Int32)), .val (.int (2 : Int32)), .val (.int (1 : Int32)), .val (.int (0 : Int32)), .val (.int (0 : Int32))]) rfl rfl ?_
 refine g_iload X d15_27 (pc' := 29) rfl rfl ?_
 refine g_iloadN X d15_29 (pc' := 30) rfl rfl ?_
 refine g_icN X d15_30 (tlt (show (0 : Int32) < (2 : Int32) from (by decide))).2.1 (pc' := 33) rfl ?_
 refine g_iload X d15_33 (pc' := 35) rfl rfl ?_
 refine g_aloadN X d15_35 (pc' := 36) rfl rfl rfl ?_
 refine g_getfield X (host := "") (Or.inl (tb hw 19 rfl)) Via.refl qc d15_36 (pc' := 39) rfl ?_
 intro T X
 refine g_iload X d15_39 (pc' := 41) rfl rfl ?_
 refine g_baload X qd 0 d15_41 (pc' := 42) rfl (by decide) (by decide) rfl ?_
 refine g_aloadN X d15_42 (pc' := 43) rfl rfl rfl ?_
 refine g_iloadN X d15_43 (pc' := 44) rfl rfl ?_
 refine g_iload X d15_44 (pc' := 46) rfl rfl ?_
 refine g_iadd X d15_46 (pc' := 47) rfl ?_
 refine Go.lit32 (z := (2 : Int32)) (by decide) ?_
 refine g_baload X qf 2 d15_47 (pc' := 48) rfl (by decide) (by decide) rfl ?_
 refine g_ixor X d15_48 (pc' := 49) rfl ?_
 refine g_ior X d15_49 (pc' := 50) rfl ?_
 generalize qg : ((0 : Int32) ||| (e0 ^^^ t2)) = qe
 refine g_istore X d15_50 (pc' := 52) (Ls' := #[.val (.ref a0), .val (.ref a1), .val (.int (2 : Int32)), .val (.int (2 : Int32)), .val (.int (1 : Int32)), .val (.int qe), .val (.int (0 : Int32))]) rfl rfl ?_
 refine g_iinc X d15_52 (pc' := 55) (q := (1 : Int32)) (Ls' := #[.val (.ref a0), .val (.ref a1), .val (.int (2 : Int32)), .val (.int (2 : Int32)), .val (.int (1 : Int32)), .val (.int qe), .val (.int (1 : Int32))]) rfl rfl rfl rfl ?_
 refine g_goto X d15_55 (pc' := 27) (by decide) (by decide) ?_
 refine g_iload X d15_27 (pc' := 29) rfl rfl ?_
 refine g_iloadN X d15_29 (pc' := 30) rfl rfl ?_
 refine g_icN X d15_30 (tlt (show (1 : Int32) < (2 : Int32) from (by decide))).2.1 (pc' := 33) rfl ?_
 refine g_iload X d15_33 (pc' := 35) rfl rfl ?_
 refine g_aloadN X d15_35 (pc' := 36) rfl rfl rfl ?_
 refine g_getfield X (host := "") (Or.inl (tb hw 19 rfl)) Via.refl qc d15_36 (pc' := 39) rfl ?_
 intro T X
 refine g_iload X d15_39 (pc' := 41) rfl rfl ?_
 refine g_baload X qd 1 d15_41 (pc' := 42) rfl (by decide) (by decide) rfl ?_
 refine g_aloadN X d15_42 (pc' := 43) rfl rfl rfl ?_
 refine g_iloadN X d15_43 (pc' := 44) rfl rfl ?_
 refine g_iload X d15_44 (pc' := 46) rfl rfl ?_
 refine g_iadd X d15_46 (pc' := 47) rfl ?_
 refine Go.lit32 (z := (3 : Int32)) (by decide) ?_
 refine g_baload X qf 3 d15_47 (pc' := 48) rfl (by decide) (by decide) rfl ?_
 refine g_ixor X d15_48 (pc' := 49) rfl ?_
 refine g_ior X d15_49 (pc' := 50) rfl ?_
 generalize qh : (qe ||| (e1 ^^^ t3)) = qa
 refine g_istore X d15_50 (pc' := 52) (Ls' := #[.val (.ref a0), .val (.ref a1), .val (.int (2 : Int32)), .val (.int (2 : Int32)), .val (.int (1 : Int32)), .val (.int qa), .val (.int (1 : Int32))]) rfl rfl ?_
 refine g_iinc X d15_52 (pc' := 55) (q := (1 : Int32)) (Ls' := #[.val (.ref a0), .val (.ref a1), .val (.int (2 : Int32)), .val (.int (2 : Int32)), .val (.int (1 : Int32)), .val (.int qa), .val (.int (2 : Int32))]) rfl rfl rfl rfl ?_
 refine g_goto X d15_55 (pc' := 27) (by decide) (by decide) ?_
 refine g_iload X d15_27 (pc' := 29) rfl rfl ?_
 refine g_iloadN X d15_29 (pc' := 30) rfl rfl ?_
 refine g_icY X d15_30 (flt (show ¬ ((2 : Int32) < (2 : Int32)) from (by decide))).2.1 (pc' := 58) (by decide) (by decide) ?_
 refine g_iload X d15_58 (pc' := 60) rfl rfl ?_
 by_cases qb : qa = (0 : Int32)
 refine g_ifN X d15_60 ((if0 _ _).trans (teq qb).2) (pc' := 63) rfl ?_
 refine g_iconst X (1 : Int32) d15_63 (pc' := 64) rfl rfl ?_
 refine g_goto X d15_64 (pc' := 68) (by decide) (by decide) ?_
 refine g_istore X d15_68 (pc' := 70) (Ls' := #[.val (.ref a0), .val (.ref a1), .val (.int (2 : Int32)), .val (.int (2 : Int32)), .val (.int (1 : Int32)), .val (.int qa), .val (.int (2 : Int32))]) rfl rfl ?_
 refine g_iload X d15_70 (pc' := 72) rfl rfl ?_
 refine g_ireturnN X (t := .boolean) (by simp) d15_72 hret hlk (by decide) (by decide) ?_
 subst qg qh
 exact ⟨congrArg (fun z => some (Value.int z)) (Eq.trans narT (congrArg b2i (Eq.symm (show fIs22 e0 e1 t0 t1 t2 t3 t4 t5 = _ from (Eq.trans (if_pos qb) rfl))))), rfl, rfl⟩
 refine g_ifY X d15_60 ((if0 _ _).trans (feq qb).2) (pc' := 67) (by decide) (by decide) ?_
 refine g_iconst X (0 : Int32) d15_67 (pc' := 68) rfl rfl ?_
 refine g_istore X d15_68 (pc' := 70) (Ls' := #[.val (.ref a0), .val (.ref a1), .val (.int (2 : Int32)), .val (.int (2 : Int32)), .val (.int (0 : Int32)), .val (.int qa), .val (.int (2 : Int32))]) rfl rfl ?_
 refine g_iload X d15_70 (pc' := 72) rfl rfl ?_
 refine g_ireturnN X (t := .boolean) (by simp) d15_72 hret hlk (by decide) (by decide) ?_
 subst qg qh
 exact ⟨congrArg (fun z => some (Value.int z)) (Eq.trans narF (congrArg b2i (Eq.symm (show fIs22 e0 e1 t0 t1 t2 t3 t4 t5 = _ from (Eq.trans (if_neg qb) rfl))))), rfl, rfl⟩
def fIs23 (e0 : Int32) (e1 : Int32) (t0 : Int32) (t1 : Int32) (t2 : Int32) (t3 : Int32) (t4 : Int32) (t5 : Int32) : Bool := let v50_1 : Int32 := ((0 : Int32) ||| (e0 ^^^ t3)); let v50_2 : Int32 := (v50_1 ||| (e1 ^^^ t4)); if v50_2 = (0 : Int32) then (true) else (false)
theorem ef_rIs23 (m : MethodId) (x0 : Addr) (x1 : Addr) (x2 : Int32) (x3 : Int32) : entryFrame m #[(.ref x0), (.ref x1), (.int x2), (.int x3)] 7 = mkF m 0 #[.val (.ref x0), .val (.ref x1), .val (.int x2), .val (.int x3), .unset, .unset, .unset] [] := by first | (simp [entryFrame, mkF, argsToLocals, Value.category]; done) | rfl
set_option maxRecDepth 65536 in
set_option maxHeartbeats 40000000 in
theorem rIs23 (l : Launch) (Z : State) (aa : Array Value) (hw : ∀ d ∈ tables_1, d.before aa Z = true) (ws : List Jvm.Cond) (a0 : Addr) (a1 : Addr) (wk : Addr) (e0 : Int32) (e1 : Int32) (t0 : Int32) (t1 : Int32) (t2 : Int32) (t3 : Int32) (t4 : Int32) (t5 : Int32) (h0 : Heap) (qi : Exa Z h0 a0 "com/example/scheherazade/scheherazade/core/XmlName") (qc : Fld Z h0 a0 "com/example/scheherazade/scheherazade/core/XmlName" "spelling" "[B" (.ref wk)) (qd : Av Z h0 wk .byte [(.int e0), (.int e1)]) (qf : Av Z h0 a1 .byte [(.int t0), (.int t1), (.int t2), (.int t3), (.int t4), (.int t5)]) :
    Rm l Z (⟨"com/example/scheherazade/scheherazade/core/XmlName", "isSpelledBy", "([BII)Z"⟩ : MethodName) prog_20_method_10_code 7 (some .boolean) ws ({ frames := 0, cells := 0, slots := 0, locals := 0 } : Room) #[(.ref a0), (.ref a1), (.int (3 : Int32)), (.int (2 : Int32))] h0 (Pu (.int (b2i (fIs23 e0 e1 t0 t1 t2 t3 t4 t5))) h0) := by
 refine Rm.of (plainFor_of_name pn_2) ?_
 intro p e s m below meth cc T X hnm hret hlk
 refine Go.at_ (ef_rIs23 m a0 a1 (3 : Int32) (2 : Int32)) ?_
 refine g_aloadN X d15_0 (pc' := 1) rfl rfl rfl ?_
 refine g_getfield X (host := "") (Or.inl (tb hw 19 rfl)) Via.refl qc d15_1 (pc' := 4) rfl ?_
 intro T X
 refine g_arraylength X qd d15_4 (pc' := 5) rfl (z := (2 : Int32)) rfl ?_
 refine g_iloadN X d15_5 (pc' := 6) rfl rfl ?_
 refine g_icN X d15_6 (teq (show (2 : Int32) = (2 : Int32) from (by decide))).2 (pc' := 9) rfl ?_
 refine g_iconst X (1 : Int32) d15_9 (pc' := 10) rfl rfl ?_
 refine g_goto X d15_10 (pc' := 14) (by decide) (by decide) ?_
 refine g_istore X d15_14 (pc' := 16) (Ls' := #[.val (.ref a0), .val (.ref a1), .val (.int (3 : Int32)), .val (.int (2 : Int32)), .val (.int (1 : Int32)), .unset, .unset]) rfl rfl ?_
 refine g_iload X d15_16 (pc' := 18) rfl rfl ?_
 refine g_ifN X d15_18 ((if0 _ _).trans (feq (show ¬ ((1 : Int32) = (0 : Int32)) from (by decide))).1) (pc' := 21) rfl ?_
 refine g_iconst X (0 : Int32) d15_21 (pc' := 22) rfl rfl ?_
 refine g_istore X d15_22 (pc' := 24) (Ls' := #[.val (.ref a0), .val (.ref a1), .val (.int (3 : Int32)), .val (.int (2 : Int32)), .val (.int (1 : Int32)), .val (.int (0 : Int32)), .unset]) rfl rfl ?_
 refine g_iconst X (0 : Int32) d15_24 (pc' := 25) rfl rfl ?_
 refine g_istore X d15_25 (pc' := 27) (Ls' := #[.val (.ref a0), .val (.ref a1), .val (.int (3 : Int32)), .val (.int (2 : Int32)), .val (.int (1 : Int32)), .val (.int (0 : Int32)), .val (.int (0 : Int32))]) rfl rfl ?_
 refine g_iload X d15_27 (pc' := 29) rfl rfl ?_
 refine g_iloadN X d15_29 (pc' := 30) rfl rfl ?_
 refine g_icN X d15_30 (tlt (show (0 : Int32) < (2 : Int32) from (by decide))).2.1 (pc' := 33) rfl ?_
 refine g_iload X d15_33 (pc' := 35) rfl rfl ?_
 refine g_aloadN X d15_35 (pc' := 36) rfl rfl rfl ?_
 refine g_getfield X (host := "") (Or.inl (tb hw 19 rfl)) Via.refl qc d15_36 (pc' := 39) rfl ?_
 intro T X
 refine g_iload X d15_39 (pc' := 41) rfl rfl ?_
 refine g_baload X qd 0 d15_41 (pc' := 42) rfl (by decide) (by decide) rfl ?_
 refine g_aloadN X d15_42 (pc' := 43) rfl rfl rfl ?_
 refine g_iloadN X d15_43 (pc' := 44) rfl rfl ?_
 refine g_iload X d15_44 (pc' := 46) rfl rfl ?_
 refine g_iadd X d15_46 (pc' := 47) rfl ?_
 refine Go.lit32 (z := (3 : Int32)) (by decide) ?_
 refine g_baload X qf 3 d15_47 (pc' := 48) rfl (by decide) (by decide) rfl ?_
 refine g_ixor X d15_48 (pc' := 49) rfl ?_
 refine g_ior X d15_49 (pc' := 50) rfl ?_
 generalize qg : ((0 : Int32) ||| (e0 ^^^ t3)) = qe
 refine g_istore X d15_50 (pc' := 52) (Ls' := #[.val (.ref a0), .val (.ref a1), .val (.int (3 : Int32)), .val (.int (2 : Int32)), .val (.int (1 : Int32)), .val (.int qe), .val (.int (0 : Int32))]) rfl rfl ?_
 refine g_iinc X d15_52 (pc' := 55) (q := (1 : Int32)) (Ls' := #[.val (.ref a0), .val (.ref a1), .val (.int (3 : Int32)), .val (.int (2 : Int32)), .val (.int (1 : Int32)), .val (.int qe), .val (.int (1 : Int32))]) rfl rfl rfl rfl ?_
 refine g_goto X d15_55 (pc' := 27) (by decide) (by decide) ?_
 refine g_iload X d15_27 (pc' := 29) rfl rfl ?_
 refine g_iloadN X d15_29 (pc' := 30) rfl rfl ?_
 refine g_icN X d15_30 (tlt (show (1 : Int32) < (2 : Int32) from (by decide))).2.1 (pc' := 33) rfl ?_
 refine g_iload X d15_33 (pc' := 35) rfl rfl ?_
 refine g_aloadN X d15_35 (pc' := 36) rfl rfl rfl ?_
 refine g_getfield X (host := "") (Or.inl (tb hw 19 rfl)) Via.refl qc d15_36 (pc' := 39) rfl ?_
 intro T X
 refine g_iload X d15_39 (pc' := 41) rfl rfl ?_
 refine g_baload X qd 1 d15_41 (pc' := 42) rfl (by decide) (by decide) rfl ?_
 refine g_aloadN X d15_42 (pc' := 43) rfl rfl rfl ?_
 refine g_iloadN X d15_43 (pc' := 44) rfl rfl ?_
 refine g_iload X d15_44 (pc' := 46) rfl rfl ?_
 refine g_iadd X d15_46 (pc' := 47) rfl ?_
 refine Go.lit32 (z := (4 : Int32)) (by decide) ?_
 refine g_baload X qf 4 d15_47 (pc' := 48) rfl (by decide) (by decide) rfl ?_
 refine g_ixor X d15_48 (pc' := 49) rfl ?_
 refine g_ior X d15_49 (pc' := 50) rfl ?_
 generalize qh : (qe ||| (e1 ^^^ t4)) = qa
 refine g_istore X d15_50 (pc' := 52) (Ls' := #[.val (.ref a0), .val (.ref a1), .val (.int (3 : Int32)), .val (.int (2 : Int32)), .val (.int (1 : Int32)), .val (.int qa), .val (.int (1 : Int32))]) rfl rfl ?_
 refine g_iinc X d15_52 (pc' := 55) (q := (1 : Int32)) (Ls' := #[.val (.ref a0), .val (.ref a1), .val (.int (3 : Int32)), .val (.int (2 : Int32)), .val (.int (1 : Int32)), .val (.int qa), .val (.int (2 : Int32))]) rfl rfl rfl rfl ?_
 refine g_goto X d15_55 (pc' := 27) (by decide) (by decide) ?_
 refine g_iload X d15_27 (pc' := 29) rfl rfl ?_
 refine g_iloadN X d15_29 (pc' := 30) rfl rfl ?_
 refine g_icY X d15_30 (flt (show ¬ ((2 : Int32) < (2 : Int32)) from (by decide))).2.1 (pc' := 58) (by decide) (by decide) ?_
 refine g_iload X d15_58 (pc' := 60) rfl rfl ?_
 by_cases qb : qa = (0 : Int32)
 refine g_ifN X d15_60 ((if0 _ _).trans (teq qb).2) (pc' := 63) rfl ?_
 refine g_iconst X (1 : Int32) d15_63 (pc' := 64) rfl rfl ?_
 refine g_goto X d15_64 (pc' := 68) (by decide) (by decide) ?_
 refine g_istore X d15_68 (pc' := 70) (Ls' := #[.val (.ref a0), .val (.ref a1), .val (.int (3 : Int32)), .val (.int (2 : Int32)), .val (.int (1 : Int32)), .val (.int qa), .val (.int (2 : Int32))]) rfl rfl ?_
 refine g_iload X d15_70 (pc' := 72) rfl rfl ?_
 refine g_ireturnN X (t := .boolean) (by simp) d15_72 hret hlk (by decide) (by decide) ?_
 subst qg qh
 exact ⟨congrArg (fun z => some (Value.int z)) (Eq.trans narT (congrArg b2i (Eq.symm (show fIs23 e0 e1 t0 t1 t2 t3 t4 t5 = _ from (Eq.trans (if_pos qb) rfl))))), rfl, rfl⟩
 refine g_ifY X d15_60 ((if0 _ _).trans (feq qb).2) (pc' := 67) (by decide) (by decide) ?_
 refine g_iconst X (0 : Int32) d15_67 (pc' := 68) rfl rfl ?_
 refine g_istore X d15_68 (pc' := 70) (Ls' := #[.val (.ref a0), .val (.ref a1), .val (.int (3 : Int32)), .val (.int (2 : Int32)), .val (.int (0 : Int32)), .val (.int qa), .val (.int (2 : Int32))]) rfl rfl ?_
 refine g_iload X d15_70 (pc' := 72) rfl rfl ?_
 refine g_ireturnN X (t := .boolean) (by simp) d15_72 hret hlk (by decide) (by decide) ?_
 subst qg qh
 exact ⟨congrArg (fun z => some (Value.int z)) (Eq.trans narF (congrArg b2i (Eq.symm (show fIs23 e0 e1 t0 t1 t2 t3 t4 t5 = _ from (Eq.trans (if_neg qb) rfl))))), rfl, rfl⟩
theorem ef_rIsN3 (m : MethodId) (x0 : Addr) (x1 : Addr) (x2 : Int32) (x3 : Int32) : entryFrame m #[(.ref x0), (.ref x1), (.int x2), (.int x3)] 7 = mkF m 0 #[.val (.ref x0), .val (.ref x1), .val (.int x2), .val (.int x3), .unset, .unset, .unset] [] := by first | (simp [entryFrame, mkF, argsToLocals, Value.category]; done) | rfl
set_option maxRecDepth 65536 in
set_option maxHeartbeats 40000000 in
theorem rIsN3 (l : Launch) (Z : State) (aa : Array Value) (hw : ∀ d ∈ tables_1, d.before aa Z = true) (ws : List Jvm.Cond) (a0 : Addr) (a1 : Addr) (i2 : Int32) (i3 : Int32) (wk : Addr) (e0 : Int32) (e1 : Int32) (e2 : Int32) (t0 : Int32) (t1 : Int32) (t2 : Int32) (t3 : Int32) (t4 : Int32) (t5 : Int32) (h0 : Heap) (qc : Exa Z h0 a0 "com/example/scheherazade/scheherazade/core/XmlName") (qa : Fld Z h0 a0 "com/example/scheherazade/scheherazade/core/XmlName" "spelling" "[B" (.ref wk)) (qb : Av Z h0 wk .byte [(.int e0), (.int e1), (.int e2)]) (qd : Av Z h0 a1 .byte [(.int t0), (.int t1), (.int t2), (.int t3), (.int t4), (.int t5)]) (pn : ¬ (3 : Int32) = i3) :
    Rm l Z (⟨"com/example/scheherazade/scheherazade/core/XmlName", "isSpelledBy", "([BII)Z"⟩ : MethodName) prog_20_method_10_code 7 (some .boolean) ws ({ frames := 0, cells := 0, slots := 0, locals := 0 } : Room) #[(.ref a0), (.ref a1), (.int i2), (.int i3)] h0 (Pu (.int (0 : Int32)) h0) := by
 refine Rm.of (plainFor_of_name pn_2) ?_
 intro p e s m below meth cc T X hnm hret hlk
 refine Go.at_ (ef_rIsN3 m a0 a1 i2 i3) ?_
 refine g_aloadN X d15_0 (pc' := 1) rfl rfl rfl ?_
 refine g_getfield X (host := "") (Or.inl (tb hw 19 rfl)) Via.refl qa d15_1 (pc' := 4) rfl ?_
 intro T X
 refine g_arraylength X qb d15_4 (pc' := 5) rfl (z := (3 : Int32)) rfl ?_
 refine g_iloadN X d15_5 (pc' := 6) rfl rfl ?_
 refine g_icY X d15_6 (feq (show ¬ ((3 : Int32) = i3) from pn)).2 (pc' := 13) (by decide) (by decide) ?_
 refine g_iconst X (0 : Int32) d15_13 (pc' := 14) rfl rfl ?_
 refine g_istore X d15_14 (pc' := 16) (Ls' := #[.val (.ref a0), .val (.ref a1), .val (.int i2), .val (.int i3), .val (.int (0 : Int32)), .unset, .unset]) rfl rfl ?_
 refine g_iload X d15_16 (pc' := 18) rfl rfl ?_
 refine g_ifY X d15_18 ((if0 _ _).trans (teq (show (0 : Int32) = (0 : Int32) from (by decide))).1) (pc' := 70) (by decide) (by decide) ?_
 refine g_iload X d15_70 (pc' := 72) rfl rfl ?_
 refine g_ireturnN X (t := .boolean) (by simp) d15_72 hret hlk (by decide) (by decide) ?_
 exact ⟨rfl, rfl, rfl⟩
def fIs30 (e0 : Int32) (e1 : Int32) (e2 : Int32) (t0 : Int32) (t1 : Int32) (t2 : Int32) (t3 : Int32) (t4 : Int32) (t5 : Int32) : Bool := let v50_1 : Int32 := ((0 : Int32) ||| (e0 ^^^ t0)); let v50_2 : Int32 := (v50_1 ||| (e1 ^^^ t1)); let v50_3 : Int32 := (v50_2 ||| (e2 ^^^ t2)); if v50_3 = (0 : Int32) then (true) else (false)
theorem ef_rIs30 (m : MethodId) (x0 : Addr) (x1 : Addr) (x2 : Int32) (x3 : Int32) : entryFrame m #[(.ref x0), (.ref x1), (.int x2), (.int x3)] 7 = mkF m 0 #[.val (.ref x0), .val (.ref x1), .val (.int x2), .val (.int x3), .unset, .unset, .unset] [] := by first | (simp [entryFrame, mkF, argsToLocals, Value.category]; done) | rfl
set_option maxRecDepth 65536 in
set_option maxHeartbeats 40000000 in
theorem rIs30 (l : Launch) (Z : State) (aa : Array Value) (hw : ∀ d ∈ tables_1, d.before aa Z = true) (ws : List Jvm.Cond) (a0 : Addr) (a1 : Addr) (wk : Addr) (e0 : Int32) (e1 : Int32) (e2 : Int32) (t0 : Int32) (t1 : Int32) (t2 : Int32) (t3 : Int32) (t4 : Int32) (t5 : Int32) (h0 : Heap) (qk : Exa Z h0 a0 "com/example/scheherazade/scheherazade/core/XmlName") (qb : Fld Z h0 a0 "com/example/scheherazade/scheherazade/core/XmlName" "spelling" "[B" (.ref wk)) (qc : Av Z h0 wk .byte [(.int e0), (.int e1), (.int e2)]) (qe : Av Z h0 a1 .byte [(.int t0), (.int t1), (.int t2), (.int t3), (.int t4), (.int t5)]) :
    Rm l Z (⟨"com/example/scheherazade/scheherazade/core/XmlName", "isSpelledBy", "([BII)Z"⟩ : MethodName) prog_20_method_10_code 7 (some .boolean) ws ({ frames := 0, cells := 0, slots := 0, locals := 0 } : Room) #[(.ref a0), (.ref a1), (.int (0 : Int32)), (.int (3 : Int32))] h0 (Pu (.int (b2i (fIs30 e0 e1 e2 t0 t1 t2 t3 t4 t5))) h0) := by
 refine Rm.of (plainFor_of_name pn_2) ?_
 intro p e s m below meth cc T X hnm hret hlk
 refine Go.at_ (ef_rIs30 m a0 a1 (0 : Int32) (3 : Int32)) ?_
 refine g_aloadN X d15_0 (pc' := 1) rfl rfl rfl ?_
 refine g_getfield X (host := "") (Or.inl (tb hw 19 rfl)) Via.refl qb d15_1 (pc' := 4) rfl ?_
 intro T X
 refine g_arraylength X qc d15_4 (pc' := 5) rfl (z := (3 : Int32)) rfl ?_
 refine g_iloadN X d15_5 (pc' := 6) rfl rfl ?_
 refine g_icN X d15_6 (teq (show (3 : Int32) = (3 : Int32) from (by decide))).2 (pc' := 9) rfl ?_
 refine g_iconst X (1 : Int32) d15_9 (pc' := 10) rfl rfl ?_
 refine g_goto X d15_10 (pc' := 14) (by decide) (by decide) ?_
 refine g_istore X d15_14 (pc' := 16) (Ls' := #[.val (.ref a0), .val (.ref a1), .val (.int (0 : Int32)), .val (.int (3 : Int32)), .val (.int (1 : Int32)), .unset, .unset]) rfl rfl ?_
 refine g_iload X d15_16 (pc' := 18) rfl rfl ?_
 refine g_ifN X d15_18 ((if0 _ _).trans (feq (show ¬ ((1 : Int32) = (0 : Int32)) from (by decide))).1) (pc' := 21) rfl ?_
 refine g_iconst X (0 : Int32) d15_21 (pc' := 22) rfl rfl ?_
 refine g_istore X d15_22 (pc' := 24) (Ls' := #[.val (.ref a0), .val (.ref a1), .val (.int (0 : Int32)), .val (.int (3 : Int32)), .val (.int (1 : Int32)), .val (.int (0 : Int32)), .unset]) rfl rfl ?_
 refine g_iconst X (0 : Int32) d15_24 (pc' := 25) rfl rfl ?_
 refine g_istore X d15_25 (pc' := 27) (Ls' := #[.val (.ref a0), .val (.ref a1), .val (.int (0 : Int32)), .val (.int (3 : Int32)), .val (.int (1 : Int32)), .val (.int (0 : Int32)), .val (.int (0 : Int32))]) rfl rfl ?_
 refine g_iload X d15_27 (pc' := 29) rfl rfl ?_
 refine g_iloadN X d15_29 (pc' := 30) rfl rfl ?_
 refine g_icN X d15_30 (tlt (show (0 : Int32) < (3 : Int32) from (by decide))).2.1 (pc' := 33) rfl ?_
 refine g_iload X d15_33 (pc' := 35) rfl rfl ?_
 refine g_aloadN X d15_35 (pc' := 36) rfl rfl rfl ?_
 refine g_getfield X (host := "") (Or.inl (tb hw 19 rfl)) Via.refl qb d15_36 (pc' := 39) rfl ?_
 intro T X
 refine g_iload X d15_39 (pc' := 41) rfl rfl ?_
 refine g_baload X qc 0 d15_41 (pc' := 42) rfl (by decide) (by decide) rfl ?_
 refine g_aloadN X d15_42 (pc' := 43) rfl rfl rfl ?_
 refine g_iloadN X d15_43 (pc' := 44) rfl rfl ?_
 refine g_iload X d15_44 (pc' := 46) rfl rfl ?_
 refine g_iadd X d15_46 (pc' := 47) rfl ?_
 refine Go.lit32 (z := (0 : Int32)) (by decide) ?_
 refine g_baload X qe 0 d15_47 (pc' := 48) rfl (by decide) (by decide) rfl ?_
 refine g_ixor X d15_48 (pc' := 49) rfl ?_
 refine g_ior X d15_49 (pc' := 50) rfl ?_
 generalize qh : ((0 : Int32) ||| (e0 ^^^ t0)) = qf
 refine g_istore X d15_50 (pc' := 52) (Ls' := #[.val (.ref a0), .val (.ref a1), .val (.int (0 : Int32)), .val (.int (3 : Int32)), .val (.int (1 : Int32)), .val (.int qf), .val (.int (0 : Int32))]) rfl rfl ?_
 refine g_iinc X d15_52 (pc' := 55) (q := (1 : Int32)) (Ls' := #[.val (.ref a0), .val (.ref a1), .val (.int (0 : Int32)), .val (.int (3 : Int32)), .val (.int (1 : Int32)), .val (.int qf), .val (.int (1 : Int32))]) rfl rfl rfl rfl ?_
 refine g_goto X d15_55 (pc' := 27) (by decide) (by decide) ?_
 refine g_iload X d15_27 (pc' := 29) rfl rfl ?_
 refine g_iloadN X d15_29 (pc' := 30) rfl rfl ?_
 refine g_icN X d15_30 (tlt (show (1 : Int32) < (3 : Int32) from (by decide))).2.1 (pc' := 33) rfl ?_
 refine g_iload X d15_33 (pc' := 35) rfl rfl ?_
 refine g_aloadN X d15_35 (pc' := 36) rfl rfl rfl ?_
 refine g_getfield X (host := "") (Or.inl (tb hw 19 rfl)) Via.refl qb d15_36 (pc' := 39) rfl ?_
 intro T X
 refine g_iload X d15_39 (pc' := 41) rfl rfl ?_
 refine g_baload X qc 1 d15_41 (pc' := 42) rfl (by decide) (by decide) rfl ?_
 refine g_aloadN X d15_42 (pc' := 43) rfl rfl rfl ?_
 refine g_iloadN X d15_43 (pc' := 44) rfl rfl ?_
 refine g_iload X d15_44 (pc' := 46) rfl rfl ?_
 refine g_iadd X d15_46 (pc' := 47) rfl ?_
 refine Go.lit32 (z := (1 : Int32)) (by decide) ?_
 refine g_baload X qe 1 d15_47 (pc' := 48) rfl (by decide) (by decide) rfl ?_
 refine g_ixor X d15_48 (pc' := 49) rfl ?_
 refine g_ior X d15_49 (pc' := 50) rfl ?_
 generalize qi : (qf ||| (e1 ^^^ t1)) = qg
 refine g_istore X d15_50 (pc' := 52) (Ls' := #[.val (.ref a0), .val (.ref a1), .val (.int (0 : Int32)), .val (.int (3 : Int32)), .val (.int (1 : Int32)), .val (.int qg), .val (.int (1 : Int32))]) rfl rfl ?_
 refine g_iinc X d15_52 (pc' := 55) (q := (1 : Int32)) (Ls' := #[.val (.ref a0), .val (.ref a1), .val (.int (0 : Int32)), .val (.int (3 : Int32)), .val (.int (1 : Int32)), .val (.int qg), .val (.int (2 : Int32))]) rfl rfl rfl rfl ?_
 refine g_goto X d15_55 (pc' := 27) (by decide) (by decide) ?_
 refine g_iload X d15_27 (pc' := 29) rfl rfl ?_
 refine g_iloadN X d15_29 (pc' := 30) rfl rfl ?_
 refine g_icN X d15_30 (tlt (show (2 : Int32) < (3 : Int32) from (by decide))).2.1 (pc' := 33) rfl ?_
 refine g_iload X d15_33 (pc' := 35) rfl rfl ?_
 refine g_aloadN X d15_35 (pc' := 36) rfl rfl rfl ?_
 refine g_getfield X (host := "") (Or.inl (tb hw 19 rfl)) Via.refl qb d15_36 (pc' := 39) rfl ?_
 intro T X
 refine g_iload X d15_39 (pc' := 41) rfl rfl ?_
 refine g_baload X qc 2 d15_41 (pc' := 42) rfl (by decide) (by decide) rfl ?_
 refine g_aloadN X d15_42 (pc' := 43) rfl rfl rfl ?_
 refine g_iloadN X d15_43 (pc' := 44) rfl rfl ?_
 refine g_iload X d15_44 (pc' := 46) rfl rfl ?_
 refine g_iadd X d15_46 (pc' := 47) rfl ?_
 refine Go.lit32 (z := (2 : Int32)) (by decide) ?_
 refine g_baload X qe 2 d15_47 (pc' := 48) rfl (by decide) (by decide) rfl ?_
 refine g_ixor X d15_48 (pc' := 49) rfl ?_
 refine g_ior X d15_49 (pc' := 50) rfl ?_
 generalize qj : (qg ||| (e2 ^^^ t2)) = qa
 refine g_istore X d15_50 (pc' := 52) (Ls' := #[.val (.ref a0), .val (.ref a1), .val (.int (0 : Int32)), .val (.int (3 : Int32)), .val (.int (1 : Int32)), .val (.int qa), .val (.int (2 : Int32))]) rfl rfl ?_
 refine g_iinc X d15_52 (pc' := 55) (q := (1 : Int32)) (Ls' := #[.val (.ref a0), .val (.ref a1), .val (.int (0 : Int32)), .val (.int (3 : Int32)), .val (.int (1 : Int32)), .val (.int qa), .val (.int (3 : Int32))]) rfl rfl rfl rfl ?_
 refine g_goto X d15_55 (pc' := 27) (by decide) (by decide) ?_
 refine g_iload X d15_27 (pc' := 29) rfl rfl ?_
 refine g_iloadN X d15_29 (pc' := 30) rfl rfl ?_
 refine g_icY X d15_30 (flt (show ¬ ((3 : Int32) < (3 : Int32)) from (by decide))).2.1 (pc' := 58) (by decide) (by decide) ?_
 refine g_iload X d15_58 (pc' := 60) rfl rfl ?_
 by_cases qd : qa = (0 : Int32)
 refine g_ifN X d15_60 ((if0 _ _).trans (teq qd).2) (pc' := 63) rfl ?_
 refine g_iconst X (1 : Int32) d15_63 (pc' := 64) rfl rfl ?_
 refine g_goto X d15_64 (pc' := 68) (by decide) (by decide) ?_
 refine g_istore X d15_68 (pc' := 70) (Ls' := #[.val (.ref a0), .val (.ref a1), .val (.int (0 : Int32)), .val (.int (3 : Int32)), .val (.int (1 : Int32)), .val (.int qa), .val (.int (3 : Int32))]) rfl rfl ?_
 refine g_iload X d15_70 (pc' := 72) rfl rfl ?_
 refine g_ireturnN X (t := .boolean) (by simp) d15_72 hret hlk (by decide) (by decide) ?_
 subst qh qi qj
 exact ⟨congrArg (fun z => some (Value.int z)) (Eq.trans narT (congrArg b2i (Eq.symm (show fIs30 e0 e1 e2 t0 t1 t2 t3 t4 t5 = _ from (Eq.trans (if_pos qd) rfl))))), rfl, rfl⟩
 refine g_ifY X d15_60 ((if0 _ _).trans (feq qd).2) (pc' := 67) (by decide) (by decide) ?_
 refine g_iconst X (0 : Int32) d15_67 (pc' := 68) rfl rfl ?_
 refine g_istore X d15_68 (pc' := 70) (Ls' := #[.val (.ref a0), .val (.ref a1), .val (.int (0 : Int32)), .val (.int (3 : Int32)), .val (.int (0 : Int32)), .val (.int qa), .val (.int (3 : Int32))]) rfl rfl ?_
 refine g_iload X d15_70 (pc' := 72) rfl rfl ?_
 refine g_ireturnN X (t := .boolean) (by simp) d15_72 hret hlk (by decide) (by decide) ?_
 subst qh qi qj
 exact ⟨congrArg (fun z => some (Value.int z)) (Eq.trans narF (congrArg b2i (Eq.symm (show fIs30 e0 e1 e2 t0 t1 t2 t3 t4 t5 = _ from (Eq.trans (if_neg qd) rfl))))), rfl, rfl⟩
def fIs31 (e0 : Int32) (e1 : Int32) (e2 : Int32) (t0 : Int32) (t1 : Int32) (t2 : Int32) (t3 : Int32) (t4 : Int32) (t5 : Int32) : Bool := let v50_1 : Int32 := ((0 : Int32) ||| (e0 ^^^ t1)); let v50_2 : Int32 := (v50_1 ||| (e1 ^^^ t2)); let v50_3 : Int32 := (v50_2 ||| (e2 ^^^ t3)); if v50_3 = (0 : Int32) then (true) else (false)
theorem ef_rIs31 (m : MethodId) (x0 : Addr) (x1 : Addr) (x2 : Int32) (x3 : Int32) : entryFrame m #[(.ref x0), (.ref x1), (.int x2), (.int x3)] 7 = mkF m 0 #[.val (.ref x0), .val (.ref x1), .val (.int x2), .val (.int x3), .unset, .unset, .unset] [] := by first | (simp [entryFrame, mkF, argsToLocals, Value.category]; done) | rfl
set_option maxRecDepth 65536 in
set_option maxHeartbeats 40000000 in
theorem rIs31 (l : Launch) (Z : State) (aa : Array Value) (hw : ∀ d ∈ tables_1, d.before aa Z = true) (ws : List Jvm.Cond) (a0 : Addr) (a1 : Addr) (wk : Addr) (e0 : Int32) (e1 : Int32) (e2 : Int32) (t0 : Int32) (t1 : Int32) (t2 : Int32) (t3 : Int32) (t4 : Int32) (t5 : Int32) (h0 : Heap) (qk : Exa Z h0 a0 "com/example/scheherazade/scheherazade/core/XmlName") (qb : Fld Z h0 a0 "com/example/scheherazade/scheherazade/core/XmlName" "spelling" "[B" (.ref wk)) (qc : Av Z h0 wk .byte [(.int e0), (.int e1), (.int e2)]) (qe : Av Z h0 a1 .byte [(.int t0), (.int t1), (.int t2), (.int t3), (.int t4), (.int t5)]) :
    Rm l Z (⟨"com/example/scheherazade/scheherazade/core/XmlName", "isSpelledBy", "([BII)Z"⟩ : MethodName) prog_20_method_10_code 7 (some .boolean) ws ({ frames := 0, cells := 0, slots := 0, locals := 0 } : Room) #[(.ref a0), (.ref a1), (.int (1 : Int32)), (.int (3 : Int32))] h0 (Pu (.int (b2i (fIs31 e0 e1 e2 t0 t1 t2 t3 t4 t5))) h0) := by
 refine Rm.of (plainFor_of_name pn_2) ?_
 intro p e s m below meth cc T X hnm hret hlk
 refine Go.at_ (ef_rIs31 m a0 a1 (1 : Int32) (3 : Int32)) ?_
 refine g_aloadN X d15_0 (pc' := 1) rfl rfl rfl ?_
 refine g_getfield X (host := "") (Or.inl (tb hw 19 rfl)) Via.refl qb d15_1 (pc' := 4) rfl ?_
 intro T X
 refine g_arraylength X qc d15_4 (pc' := 5) rfl (z := (3 : Int32)) rfl ?_
 refine g_iloadN X d15_5 (pc' := 6) rfl rfl ?_
 refine g_icN X d15_6 (teq (show (3 : Int32) = (3 : Int32) from (by decide))).2 (pc' := 9) rfl ?_
 refine g_iconst X (1 : Int32) d15_9 (pc' := 10) rfl rfl ?_
 refine g_goto X d15_10 (pc' := 14) (by decide) (by decide) ?_
 refine g_istore X d15_14 (pc' := 16) (Ls' := #[.val (.ref a0), .val (.ref a1), .val (.int (1 : Int32)), .val (.int (3 : Int32)), .val (.int (1 : Int32)), .unset, .unset]) rfl rfl ?_
 refine g_iload X d15_16 (pc' := 18) rfl rfl ?_
 refine g_ifN X d15_18 ((if0 _ _).trans (feq (show ¬ ((1 : Int32) = (0 : Int32)) from (by decide))).1) (pc' := 21) rfl ?_
 refine g_iconst X (0 : Int32) d15_21 (pc' := 22) rfl rfl ?_
 refine g_istore X d15_22 (pc' := 24) (Ls' := #[.val (.ref a0), .val (.ref a1), .val (.int (1 : Int32)), .val (.int (3 : Int32)), .val (.int (1 : Int32)), .val (.int (0 : Int32)), .unset]) rfl rfl ?_
 refine g_iconst X (0 : Int32) d15_24 (pc' := 25) rfl rfl ?_
 refine g_istore X d15_25 (pc' := 27) (Ls' := #[.val (.ref a0), .val (.ref a1), .val (.int (1 : Int32)), .val (.int (3 : Int32)), .val (.int (1 : Int32)), .val (.int (0 : Int32)), .val (.int (0 : Int32))]) rfl rfl ?_
 refine g_iload X d15_27 (pc' := 29) rfl rfl ?_
 refine g_iloadN X d15_29 (pc' := 30) rfl rfl ?_
 refine g_icN X d15_30 (tlt (show (0 : Int32) < (3 : Int32) from (by decide))).2.1 (pc' := 33) rfl ?_
 refine g_iload X d15_33 (pc' := 35) rfl rfl ?_
 refine g_aloadN X d15_35 (pc' := 36) rfl rfl rfl ?_
 refine g_getfield X (host := "") (Or.inl (tb hw 19 rfl)) Via.refl qb d15_36 (pc' := 39) rfl ?_
 intro T X
 refine g_iload X d15_39 (pc' := 41) rfl rfl ?_
 refine g_baload X qc 0 d15_41 (pc' := 42) rfl (by decide) (by decide) rfl ?_
 refine g_aloadN X d15_42 (pc' := 43) rfl rfl rfl ?_
 refine g_iloadN X d15_43 (pc' := 44) rfl rfl ?_
 refine g_iload X d15_44 (pc' := 46) rfl rfl ?_
 refine g_iadd X d15_46 (pc' := 47) rfl ?_
 refine Go.lit32 (z := (1 : Int32)) (by decide) ?_
 refine g_baload X qe 1 d15_47 (pc' := 48) rfl (by decide) (by decide) rfl ?_
 refine g_ixor X d15_48 (pc' := 49) rfl ?_
 refine g_ior X d15_49 (pc' := 50) rfl ?_
 generalize qh : ((0 : Int32) ||| (e0 ^^^ t1)) = qf
 refine g_istore X d15_50 (pc' := 52) (Ls' := #[.val (.ref a0), .val (.ref a1), .val (.int (1 : Int32)), .val (.int (3 : Int32)), .val (.int (1 : Int32)), .val (.int qf), .val (.int (0 : Int32))]) rfl rfl ?_
 refine g_iinc X d15_52 (pc' := 55) (q := (1 : Int32)) (Ls' := #[.val (.ref a0), .val (.ref a1), .val (.int (1 : Int32)), .val (.int (3 : Int32)), .val (.int (1 : Int32)), .val (.int qf), .val (.int (1 : Int32))]) rfl rfl rfl rfl ?_
 refine g_goto X d15_55 (pc' := 27) (by decide) (by decide) ?_
 refine g_iload X d15_27 (pc' := 29) rfl rfl ?_
 refine g_iloadN X d15_29 (pc' := 30) rfl rfl ?_
 refine g_icN X d15_30 (tlt (show (1 : Int32) < (3 : Int32) from (by decide))).2.1 (pc' := 33) rfl ?_
 refine g_iload X d15_33 (pc' := 35) rfl rfl ?_
 refine g_aloadN X d15_35 (pc' := 36) rfl rfl rfl ?_
 refine g_getfield X (host := "") (Or.inl (tb hw 19 rfl)) Via.refl qb d15_36 (pc' := 39) rfl ?_
 intro T X
 refine g_iload X d15_39 (pc' := 41) rfl rfl ?_
 refine g_baload X qc 1 d15_41 (pc' := 42) rfl (by decide) (by decide) rfl ?_
 refine g_aloadN X d15_42 (pc' := 43) rfl rfl rfl ?_
 refine g_iloadN X d15_43 (pc' := 44) rfl rfl ?_
 refine g_iload X d15_44 (pc' := 46) rfl rfl ?_
 refine g_iadd X d15_46 (pc' := 47) rfl ?_
 refine Go.lit32 (z := (2 : Int32)) (by decide) ?_
 refine g_baload X qe 2 d15_47 (pc' := 48) rfl (by decide) (by decide) rfl ?_
 refine g_ixor X d15_48 (pc' := 49) rfl ?_
 refine g_ior X d15_49 (pc' := 50) rfl ?_
 generalize qi : (qf ||| (e1 ^^^ t2)) = qg
 refine g_istore X d15_50 (pc' := 52) (Ls' := #[.val (.ref a0), .val (.ref a1), .val (.int (1 : Int32)), .val (.int (3 : Int32)), .val (.int (1 : Int32)), .val (.int qg), .val (.int (1 : Int32))]) rfl rfl ?_
 refine g_iinc X d15_52 (pc' := 55) (q := (1 : Int32)) (Ls' := #[.val (.ref a0), .val (.ref a1), .val (.int (1 : Int32)), .val (.int (3 : Int32)), .val (.int (1 : Int32)), .val (.int qg), .val (.int (2 : Int32))]) rfl rfl rfl rfl ?_
 refine g_goto X d15_55 (pc' := 27) (by decide) (by decide) ?_
 refine g_iload X d15_27 (pc' := 29) rfl rfl ?_
 refine g_iloadN X d15_29 (pc' := 30) rfl rfl ?_
 refine g_icN X d15_30 (tlt (show (2 : Int32) < (3 : Int32) from (by decide))).2.1 (pc' := 33) rfl ?_
 refine g_iload X d15_33 (pc' := 35) rfl rfl ?_
 refine g_aloadN X d15_35 (pc' := 36) rfl rfl rfl ?_
 refine g_getfield X (host := "") (Or.inl (tb hw 19 rfl)) Via.refl qb d15_36 (pc' := 39) rfl ?_
 intro T X
 refine g_iload X d15_39 (pc' := 41) rfl rfl ?_
 refine g_baload X qc 2 d15_41 (pc' := 42) rfl (by decide) (by decide) rfl ?_
 refine g_aloadN X d15_42 (pc' := 43) rfl rfl rfl ?_
 refine g_iloadN X d15_43 (pc' := 44) rfl rfl ?_
 refine g_iload X d15_44 (pc' := 46) rfl rfl ?_
 refine g_iadd X d15_46 (pc' := 47) rfl ?_
 refine Go.lit32 (z := (3 : Int32)) (by decide) ?_
 refine g_baload X qe 3 d15_47 (pc' := 48) rfl (by decide) (by decide) rfl ?_
 refine g_ixor X d15_48 (pc' := 49) rfl ?_
 refine g_ior X d15_49 (pc' := 50) rfl ?_
 generalize qj : (qg ||| (e2 ^^^ t3)) = qa
 refine g_istore X d15_50 (pc' := 52) (Ls' := #[.val (.ref a0), .val (.ref a1), .val (.int (1 : Int32)), .val (.int (3 : Int32)), .val (.int (1 : Int32)), .val (.int qa), .val (.int (2 : Int32))]) rfl rfl ?_
 refine g_iinc X d15_52 (pc' := 55) (q := (1 : Int32)) (Ls' := #[.val (.ref a0), .val (.ref a1), .val (.int (1 : Int32)), .val (.int (3 : Int32)), .val (.int (1 : Int32)), .val (.int qa), .val (.int (3 : Int32))]) rfl rfl rfl rfl ?_
 refine g_goto X d15_55 (pc' := 27) (by decide) (by decide) ?_
 refine g_iload X d15_27 (pc' := 29) rfl rfl ?_
 refine g_iloadN X d15_29 (pc' := 30) rfl rfl ?_
 refine g_icY X d15_30 (flt (show ¬ ((3 : Int32) < (3 : Int32)) from (by decide))).2.1 (pc' := 58) (by decide) (by decide) ?_
 refine g_iload X d15_58 (pc' := 60) rfl rfl ?_
 by_cases qd : qa = (0 : Int32)
 refine g_ifN X d15_60 ((if0 _ _).trans (teq qd).2) (pc' := 63) rfl ?_
 refine g_iconst X (1 : Int32) d15_63 (pc' := 64) rfl rfl ?_
 refine g_goto X d15_64 (pc' := 68) (by decide) (by decide) ?_
 refine g_istore X d15_68 (pc' := 70) (Ls' := #[.val (.ref a0), .val (.ref a1), .val (.int (1 : Int32)), .val (.int (3 : Int32)), .val (.int (1 : Int32)), .val (.int qa), .val (.int (3 : Int32))]) rfl rfl ?_
 refine g_iload X d15_70 (pc' := 72) rfl rfl ?_
 refine g_ireturnN X (t := .boolean) (by simp) d15_72 hret hlk (by decide) (by decide) ?_
 subst qh qi qj
 exact ⟨congrArg (fun z => some (Value.int z)) (Eq.trans narT (congrArg b2i (Eq.symm (show fIs31 e0 e1 e2 t0 t1 t2 t3 t4 t5 = _ from (Eq.trans (if_pos qd) rfl))))), rfl, rfl⟩
 refine g_ifY X d15_60 ((if0 _ _).trans (feq qd).2) (pc' := 67) (by decide) (by decide) ?_
 refine g_iconst X (0 : Int32) d15_67 (pc' := 68) rfl rfl ?_
 refine g_istore X d15_68 (pc' := 70) (Ls' := #[.val (.ref a0), .val (.ref a1), .val (.int (1 : Int32)), .val (.int (3 : Int32)), .val (.int (0 : Int32)), .val (.int qa), .val (.int (3 : Int32))]) rfl rfl ?_
 refine g_iload X d15_70 (pc' := 72) rfl rfl ?_
 refine g_ireturnN X (t := .boolean) (by simp) d15_72 hret hlk (by decide) (by decide) ?_
 subst qh qi qj
 exact ⟨congrArg (fun z => some (Value.int z)) (Eq.trans narF (congrArg b2i (Eq.symm (show fIs31 e0 e1 e2 t0 t1 t2 t3 t4 t5 = _ from (Eq.trans (if_neg qd) rfl))))), rfl, rfl⟩
def fIs32 (e0 : Int32) (e1 : Int32) (e2 : Int32) (t0 : Int32) (t1 : Int32) (t2 : Int32) (t3 : Int32) (t4 : Int32) (t5 : Int32) : Bool := let v50_1 : Int32 := ((0 : Int32) ||| (e0 ^^^ t2)); let v50_2 : Int32 := (v50_1 ||| (e1 ^^^ t3)); let v50_3 : Int32 := (v50_2 ||| (e2 ^^^ t4)); if v50_3 = (0 : Int32) then (true) else (false)
theorem ef_rIs32 (m : MethodId) (x0 : Addr) (x1 : Addr) (x2 : Int32) (x3 : Int32) : entryFrame m #[(.ref x0), (.ref x1), (.int x2), (.int x3)] 7 = mkF m 0 #[.val (.ref x0), .val (.ref x1), .val (.int x2), .val (.int x3), .unset, .unset, .unset] [] := by first | (simp [entryFrame, mkF, argsToLocals, Value.category]; done) | rfl
set_option maxRecDepth 65536 in
set_option maxHeartbeats 40000000 in
theorem rIs32 (l : Launch) (Z : State) (aa : Array Value) (hw : ∀ d ∈ tables_1, d.before aa Z = true) (ws : List Jvm.Cond) (a0 : Addr) (a1 : Addr) (wk : Addr) (e0 : Int32) (e1 : Int32) (e2 : Int32) (t0 : Int32) (t1 : Int32) (t2 : Int32) (t3 : Int32) (t4 : Int32) (t5 : Int32) (h0 : Heap) (qk : Exa Z h0 a0 "com/example/scheherazade/scheherazade/core/XmlName") (qb : Fld Z h0 a0 "com/example/scheherazade/scheherazade/core/XmlName" "spelling" "[B" (.ref wk)) (qc : Av Z h0 wk .byte [(.int e0), (.int e1), (.int e2)]) (qe : Av Z h0 a1 .byte [(.int t0), (.int t1), (.int t2), (.int t3), (.int t4), (.int t5)]) :
    Rm l Z (⟨"com/example/scheherazade/scheherazade/core/XmlName", "isSpelledBy", "([BII)Z"⟩ : MethodName) prog_20_method_10_code 7 (some .boolean) ws ({ frames := 0, cells := 0, slots := 0, locals := 0 } : Room) #[(.ref a0), (.ref a1), (.int (2 : Int32)), (.int (3 : Int32))] h0 (Pu (.int (b2i (fIs32 e0 e1 e2 t0 t1 t2 t3 t4 t5))) h0) := by
 refine Rm.of (plainFor_of_name pn_2) ?_
 intro p e s m below meth cc T X hnm hret hlk
 refine Go.at_ (ef_rIs32 m a0 a1 (2 : Int32) (3 : Int32)) ?_
 refine g_aloadN X d15_0 (pc' := 1) rfl rfl rfl ?_
 refine g_getfield X (host := "") (Or.inl (tb hw 19 rfl)) Via.refl qb d15_1 (pc' := 4) rfl ?_
 intro T X
 refine g_arraylength X qc d15_4 (pc' := 5) rfl (z := (3 : Int32)) rfl ?_
 refine g_iloadN X d15_5 (pc' := 6) rfl rfl ?_
 refine g_icN X d15_6 (teq (show (3 : Int32) = (3 : Int32) from (by decide))).2 (pc' := 9) rfl ?_
 refine g_iconst X (1 : Int32) d15_9 (pc' := 10) rfl rfl ?_
 refine g_goto X d15_10 (pc' := 14) (by decide) (by decide) ?_
 refine g_istore X d15_14 (pc' := 16) (Ls' := #[.val (.ref a0), .val (.ref a1), .val (.int (2 : Int32)), .val (.int (3 : Int32)), .val (.int (1 : Int32)), .unset, .unset]) rfl rfl ?_
 refine g_iload X d15_16 (pc' := 18) rfl rfl ?_
 refine g_ifN X d15_18 ((if0 _ _).trans (feq (show ¬ ((1 : Int32) = (0 : Int32)) from (by decide))).1) (pc' := 21) rfl ?_
 refine g_iconst X (0 : Int32) d15_21 (pc' := 22) rfl rfl ?_
 refine g_istore X d15_22 (pc' := 24) (Ls' := #[.val (.ref a0), .val (.ref a1), .val (.int (2 : Int32)), .val (.int (3 : Int32)), .val (.int (1 : Int32)), .val (.int (0 : Int32)), .unset]) rfl rfl ?_
 refine g_iconst X (0 : Int32) d15_24 (pc' := 25) rfl rfl ?_
 refine g_istore X d15_25 (pc' := 27) (Ls' := #[.val (.ref a0), .val (.ref a1), .val (.int (2 : Int32)), .val (.int (3 : Int32)), .val (.int (1 : Int32)), .val (.int (0 : Int32)), .val (.int (0 : Int32))]) rfl rfl ?_
 refine g_iload X d15_27 (pc' := 29) rfl rfl ?_
 refine g_iloadN X d15_29 (pc' := 30) rfl rfl ?_
 refine g_icN X d15_30 (tlt (show (0 : Int32) < (3 : Int32) from (by decide))).2.1 (pc' := 33) rfl ?_
 refine g_iload X d15_33 (pc' := 35) rfl rfl ?_
 refine g_aloadN X d15_35 (pc' := 36) rfl rfl rfl ?_
 refine g_getfield X (host := "") (Or.inl (tb hw 19 rfl)) Via.refl qb d15_36 (pc' := 39) rfl ?_
 intro T X
 refine g_iload X d15_39 (pc' := 41) rfl rfl ?_
 refine g_baload X qc 0 d15_41 (pc' := 42) rfl (by decide) (by decide) rfl ?_
 refine g_aloadN X d15_42 (pc' := 43) rfl rfl rfl ?_
 refine g_iloadN X d15_43 (pc' := 44) rfl rfl ?_
 refine g_iload X d15_44 (pc' := 46) rfl rfl ?_
 refine g_iadd X d15_46 (pc' := 47) rfl ?_
 refine Go.lit32 (z := (2 : Int32)) (by decide) ?_
 refine g_baload X qe 2 d15_47 (pc' := 48) rfl (by decide) (by decide) rfl ?_
 refine g_ixor X d15_48 (pc' := 49) rfl ?_
 refine g_ior X d15_49 (pc' := 50) rfl ?_
 generalize qh : ((0 : Int32) ||| (e0 ^^^ t2)) = qf
 refine g_istore X d15_50 (pc' := 52) (Ls' := #[.val (.ref a0), .val (.ref a1), .val (.int (2 : Int32)), .val (.int (3 : Int32)), .val (.int (1 : Int32)), .val (.int qf), .val (.int (0 : Int32))]) rfl rfl ?_
 refine g_iinc X d15_52 (pc' := 55) (q := (1 : Int32)) (Ls' := #[.val (.ref a0), .val (.ref a1), .val (.int (2 : Int32)), .val (.int (3 : Int32)), .val (.int (1 : Int32)), .val (.int qf), .val (.int (1 : Int32))]) rfl rfl rfl rfl ?_
 refine g_goto X d15_55 (pc' := 27) (by decide) (by decide) ?_
 refine g_iload X d15_27 (pc' := 29) rfl rfl ?_
 refine g_iloadN X d15_29 (pc' := 30) rfl rfl ?_
 refine g_icN X d15_30 (tlt (show (1 : Int32) < (3 : Int32) from (by decide))).2.1 (pc' := 33) rfl ?_
 refine g_iload X d15_33 (pc' := 35) rfl rfl ?_
 refine g_aloadN X d15_35 (pc' := 36) rfl rfl rfl ?_
 refine g_getfield X (host := "") (Or.inl (tb hw 19 rfl)) Via.refl qb d15_36 (pc' := 39) rfl ?_
 intro T X
 refine g_iload X d15_39 (pc' := 41) rfl rfl ?_
 refine g_baload X qc 1 d15_41 (pc' := 42) rfl (by decide) (by decide) rfl ?_
 refine g_aloadN X d15_42 (pc' := 43) rfl rfl rfl ?_
 refine g_iloadN X d15_43 (pc' := 44) rfl rfl ?_
 refine g_iload X d15_44 (pc' := 46) rfl rfl ?_
 refine g_iadd X d15_46 (pc' := 47) rfl ?_
 refine Go.lit32 (z := (3 : Int32)) (by decide) ?_
 refine g_baload X qe 3 d15_47 (pc' := 48) rfl (by decide) (by decide) rfl ?_
 refine g_ixor X d15_48 (pc' := 49) rfl ?_
 refine g_ior X d15_49 (pc' := 50) rfl ?_
 generalize qi : (qf ||| (e1 ^^^ t3)) = qg
 refine g_istore X d15_50 (pc' := 52) (Ls' := #[.val (.ref a0), .val (.ref a1), .val (.int (2 : Int32)), .val (.int (3 : Int32)), .val (.int (1 : Int32)), .val (.int qg), .val (.int (1 : Int32))]) rfl rfl ?_
 refine g_iinc X d15_52 (pc' := 55) (q := (1 : Int32)) (Ls' := #[.val (.ref a0), .val (.ref a1), .val (.int (2 : Int32)), .val (.int (3 : Int32)), .val (.int (1 : Int32)), .val (.int qg), .val (.int (2 : Int32))]) rfl rfl rfl rfl ?_
 refine g_goto X d15_55 (pc' := 27) (by decide) (by decide) ?_
 refine g_iload X d15_27 (pc' := 29) rfl rfl ?_
 refine g_iloadN X d15_29 (pc' := 30) rfl rfl ?_
 refine g_icN X d15_30 (tlt (show (2 : Int32) < (3 : Int32) from (by decide))).2.1 (pc' := 33) rfl ?_
 refine g_iload X d15_33 (pc' := 35) rfl rfl ?_
 refine g_aloadN X d15_35 (pc' := 36) rfl rfl rfl ?_
 refine g_getfield X (host := "") (Or.inl (tb hw 19 rfl)) Via.refl qb d15_36 (pc' := 39) rfl ?_
 intro T X
 refine g_iload X d15_39 (pc' := 41) rfl rfl ?_
 refine g_baload X qc 2 d15_41 (pc' := 42) rfl (by decide) (by decide) rfl ?_
 refine g_aloadN X d15_42 (pc' := 43) rfl rfl rfl ?_
 refine g_iloadN X d15_43 (pc' := 44) rfl rfl ?_
 refine g_iload X d15_44 (pc' := 46) rfl rfl ?_
 refine g_iadd X d15_46 (pc' := 47) rfl ?_
 refine Go.lit32 (z := (4 : Int32)) (by decide) ?_
 refine g_baload X qe 4 d15_47 (pc' := 48) rfl (by decide) (by decide) rfl ?_
 refine g_ixor X d15_48 (pc' := 49) rfl ?_
 refine g_ior X d15_49 (pc' := 50) rfl ?_
 generalize qj : (qg ||| (e2 ^^^ t4)) = qa
 refine g_istore X d15_50 (pc' := 52) (Ls' := #[.val (.ref a0), .val (.ref a1), .val (.int (2 : Int32)), .val (.int (3 : Int32)), .val (.int (1 : Int32)), .val (.int qa), .val (.int (2 : Int32))]) rfl rfl ?_
 refine g_iinc X d15_52 (pc' := 55) (q := (1 : Int32)) (Ls' := #[.val (.ref a0), .val (.ref a1), .val (.int (2 : Int32)), .val (.int (3 : Int32)), .val (.int (1 : Int32)), .val (.int qa), .val (.int (3 : Int32))]) rfl rfl rfl rfl ?_
 refine g_goto X d15_55 (pc' := 27) (by decide) (by decide) ?_
 refine g_iload X d15_27 (pc' := 29) rfl rfl ?_
 refine g_iloadN X d15_29 (pc' := 30) rfl rfl ?_
 refine g_icY X d15_30 (flt (show ¬ ((3 : Int32) < (3 : Int32)) from (by decide))).2.1 (pc' := 58) (by decide) (by decide) ?_
 refine g_iload X d15_58 (pc' := 60) rfl rfl ?_
 by_cases qd : qa = (0 : Int32)
 refine g_ifN X d15_60 ((if0 _ _).trans (teq qd).2) (pc' := 63) rfl ?_
 refine g_iconst X (1 : Int32) d15_63 (pc' := 64) rfl rfl ?_
 refine g_goto X d15_64 (pc' := 68) (by decide) (by decide) ?_
 refine g_istore X d15_68 (pc' := 70) (Ls' := #[.val (.ref a0), .val (.ref a1), .val (.int (2 : Int32)), .val (.int (3 : Int32)), .val (.int (1 : Int32)), .val (.int qa), .val (.int (3 : Int32))]) rfl rfl ?_
 refine g_iload X d15_70 (pc' := 72) rfl rfl ?_
 refine g_ireturnN X (t := .boolean) (by simp) d15_72 hret hlk (by decide) (by decide) ?_
 subst qh qi qj
 exact ⟨congrArg (fun z => some (Value.int z)) (Eq.trans narT (congrArg b2i (Eq.symm (show fIs32 e0 e1 e2 t0 t1 t2 t3 t4 t5 = _ from (Eq.trans (if_pos qd) rfl))))), rfl, rfl⟩
 refine g_ifY X d15_60 ((if0 _ _).trans (feq qd).2) (pc' := 67) (by decide) (by decide) ?_
 refine g_iconst X (0 : Int32) d15_67 (pc' := 68) rfl rfl ?_
 refine g_istore X d15_68 (pc' := 70) (Ls' := #[.val (.ref a0), .val (.ref a1), .val (.int (2 : Int32)), .val (.int (3 : Int32)), .val (.int (0 : Int32)), .val (.int qa), .val (.int (3 : Int32))]) rfl rfl ?_
 refine g_iload X d15_70 (pc' := 72) rfl rfl ?_
 refine g_ireturnN X (t := .boolean) (by simp) d15_72 hret hlk (by decide) (by decide) ?_
 subst qh qi qj
 exact ⟨congrArg (fun z => some (Value.int z)) (Eq.trans narF (congrArg b2i (Eq.symm (show fIs32 e0 e1 e2 t0 t1 t2 t3 t4 t5 = _ from (Eq.trans (if_neg qd) rfl))))), rfl, rfl⟩
def fIs33 (e0 : Int32) (e1 : Int32) (e2 : Int32) (t0 : Int32) (t1 : Int32) (t2 : Int32) (t3 : Int32) (t4 : Int32) (t5 : Int32) : Bool := let v50_1 : Int32 := ((0 : Int32) ||| (e0 ^^^ t3)); let v50_2 : Int32 := (v50_1 ||| (e1 ^^^ t4)); let v50_3 : Int32 := (v50_2 ||| (e2 ^^^ t5)); if v50_3 = (0 : Int32) then (true) else (false)
theorem ef_rIs33 (m : MethodId) (x0 : Addr) (x1 : Addr) (x2 : Int32) (x3 : Int32) : entryFrame m #[(.ref x0), (.ref x1), (.int x2), (.int x3)] 7 = mkF m 0 #[.val (.ref x0), .val (.ref x1), .val (.int x2), .val (.int x3), .unset, .unset, .unset] [] := by first | (simp [entryFrame, mkF, argsToLocals, Value.category]; done) | rfl
set_option maxRecDepth 65536 in
set_option maxHeartbeats 40000000 in
theorem rIs33 (l : Launch) (Z : State) (aa : Array Value) (hw : ∀ d ∈ tables_1, d.before aa Z = true) (ws : List Jvm.Cond) (a0 : Addr) (a1 : Addr) (wk : Addr) (e0 : Int32) (e1 : Int32) (e2 : Int32) (t0 : Int32) (t1 : Int32) (t2 : Int32) (t3 : Int32) (t4 : Int32) (t5 : Int32) (h0 : Heap) (qk : Exa Z h0 a0 "com/example/scheherazade/scheherazade/core/XmlName") (qb : Fld Z h0 a0 "com/example/scheherazade/scheherazade/core/XmlName" "spelling" "[B" (.ref wk)) (qc : Av Z h0 wk .byte [(.int e0), (.int e1), (.int e2)]) (qe : Av Z h0 a1 .byte [(.int t0), (.int t1), (.int t2), (.int t3), (.int t4), (.int t5)]) :
    Rm l Z (⟨"com/example/scheherazade/scheherazade/core/XmlName", "isSpelledBy", "([BII)Z"⟩ : MethodName) prog_20_method_10_code 7 (some .boolean) ws ({ frames := 0, cells := 0, slots := 0, locals := 0 } : Room) #[(.ref a0), (.ref a1), (.int (3 : Int32)), (.int (3 : Int32))] h0 (Pu (.int (b2i (fIs33 e0 e1 e2 t0 t1 t2 t3 t4 t5))) h0) := by
 refine Rm.of (plainFor_of_name pn_2) ?_
 intro p e s m below meth cc T X hnm hret hlk
 refine Go.at_ (ef_rIs33 m a0 a1 (3 : Int32) (3 : Int32)) ?_
 refine g_aloadN X d15_0 (pc' := 1) rfl rfl rfl ?_
 refine g_getfield X (host := "") (Or.inl (tb hw 19 rfl)) Via.refl qb d15_1 (pc' := 4) rfl ?_
 intro T X
 refine g_arraylength X qc d15_4 (pc' := 5) rfl (z := (3 : Int32)) rfl ?_
 refine g_iloadN X d15_5 (pc' := 6) rfl rfl ?_
 refine g_icN X d15_6 (teq (show (3 : Int32) = (3 : Int32) from (by decide))).2 (pc' := 9) rfl ?_
 refine g_iconst X (1 : Int32) d15_9 (pc' := 10) rfl rfl ?_
 refine g_goto X d15_10 (pc' := 14) (by decide) (by decide) ?_
 refine g_istore X d15_14 (pc' := 16) (Ls' := #[.val (.ref a0), .val (.ref a1), .val (.int (3 : Int32)), .val (.int (3 : Int32)), .val (.int (1 : Int32)), .unset, .unset]) rfl rfl ?_
 refine g_iload X d15_16 (pc' := 18) rfl rfl ?_
 refine g_ifN X d15_18 ((if0 _ _).trans (feq (show ¬ ((1 : Int32) = (0 : Int32)) from (by decide))).1) (pc' := 21) rfl ?_
 refine g_iconst X (0 : Int32) d15_21 (pc' := 22) rfl rfl ?_
 refine g_istore X d15_22 (pc' := 24) (Ls' := #[.val (.ref a0), .val (.ref a1), .val (.int (3 : Int32)), .val (.int (3 : Int32)), .val (.int (1 : Int32)), .val (.int (0 : Int32)), .unset]) rfl rfl ?_
 refine g_iconst X (0 : Int32) d15_24 (pc' := 25) rfl rfl ?_
 refine g_istore X d15_25 (pc' := 27) (Ls' := #[.val (.ref a0), .val (.ref a1), .val (.int (3 : Int32)), .val (.int (3 : Int32)), .val (.int (1 : Int32)), .val (.int (0 : Int32)), .val (.int (0 : Int32))]) rfl rfl ?_
 refine g_iload X d15_27 (pc' := 29) rfl rfl ?_
 refine g_iloadN X d15_29 (pc' := 30) rfl rfl ?_
 refine g_icN X d15_30 (tlt (show (0 : Int32) < (3 : Int32) from (by decide))).2.1 (pc' := 33) rfl ?_
 refine g_iload X d15_33 (pc' := 35) rfl rfl ?_
 refine g_aloadN X d15_35 (pc' := 36) rfl rfl rfl ?_
 refine g_getfield X (host := "") (Or.inl (tb hw 19 rfl)) Via.refl qb d15_36 (pc' := 39) rfl ?_
 intro T X
 refine g_iload X d15_39 (pc' := 41) rfl rfl ?_
 refine g_baload X qc 0 d15_41 (pc' := 42) rfl (by decide) (by decide) rfl ?_
 refine g_aloadN X d15_42 (pc' := 43) rfl rfl rfl ?_
 refine g_iloadN X d15_43 (pc' := 44) rfl rfl ?_
 refine g_iload X d15_44 (pc' := 46) rfl rfl ?_
 refine g_iadd X d15_46 (pc' := 47) rfl ?_
 refine Go.lit32 (z := (3 : Int32)) (by decide) ?_
 refine g_baload X qe 3 d15_47 (pc' := 48) rfl (by decide) (by decide) rfl ?_
 refine g_ixor X d15_48 (pc' := 49) rfl ?_
 refine g_ior X d15_49 (pc' := 50) rfl ?_
 generalize qh : ((0 : Int32) ||| (e0 ^^^ t3)) = qf
 refine g_istore X d15_50 (pc' := 52) (Ls' := #[.val (.ref a0), .val (.ref a1), .val (.int (3 : Int32)), .val (.int (3 : Int32)), .val (.int (1 : Int32)), .val (.int qf), .val (.int (0 : Int32))]) rfl rfl ?_
 refine g_iinc X d15_52 (pc' := 55) (q := (1 : Int32)) (Ls' := #[.val (.ref a0), .val (.ref a1), .val (.int (3 : Int32)), .val (.int (3 : Int32)), .val (.int (1 : Int32)), .val (.int qf), .val (.int (1 : Int32))]) rfl rfl rfl rfl ?_
 refine g_goto X d15_55 (pc' := 27) (by decide) (by decide) ?_
 refine g_iload X d15_27 (pc' := 29) rfl rfl ?_
 refine g_iloadN X d15_29 (pc' := 30) rfl rfl ?_
 refine g_icN X d15_30 (tlt (show (1 : Int32) < (3 : Int32) from (by decide))).2.1 (pc' := 33) rfl ?_
 refine g_iload X d15_33 (pc' := 35) rfl rfl ?_
 refine g_aloadN X d15_35 (pc' := 36) rfl rfl rfl ?_
 refine g_getfield X (host := "") (Or.inl (tb hw 19 rfl)) Via.refl qb d15_36 (pc' := 39) rfl ?_
 intro T X
 refine g_iload X d15_39 (pc' := 41) rfl rfl ?_
 refine g_baload X qc 1 d15_41 (pc' := 42) rfl (by decide) (by decide) rfl ?_
 refine g_aloadN X d15_42 (pc' := 43) rfl rfl rfl ?_
 refine g_iloadN X d15_43 (pc' := 44) rfl rfl ?_
 refine g_iload X d15_44 (pc' := 46) rfl rfl ?_
 refine g_iadd X d15_46 (pc' := 47) rfl ?_
 refine Go.lit32 (z := (4 : Int32)) (by decide) ?_
 refine g_baload X qe 4 d15_47 (pc' := 48) rfl (by decide) (by decide) rfl ?_
 refine g_ixor X d15_48 (pc' := 49) rfl ?_
 refine g_ior X d15_49 (pc' := 50) rfl ?_
 generalize qi : (qf ||| (e1 ^^^ t4)) = qg
 refine g_istore X d15_50 (pc' := 52) (Ls' := #[.val (.ref a0), .val (.ref a1), .val (.int (3 : Int32)), .val (.int (3 : Int32)), .val (.int (1 : Int32)), .val (.int qg), .val (.int (1 : Int32))]) rfl rfl ?_
 refine g_iinc X d15_52 (pc' := 55) (q := (1 : Int32)) (Ls' := #[.val (.ref a0), .val (.ref a1), .val (.int (3 : Int32)), .val (.int (3 : Int32)), .val (.int (1 : Int32)), .val (.int qg), .val (.int (2 : Int32))]) rfl rfl rfl rfl ?_
 refine g_goto X d15_55 (pc' := 27) (by decide) (by decide) ?_
 refine g_iload X d15_27 (pc' := 29) rfl rfl ?_
 refine g_iloadN X d15_29 (pc' := 30) rfl rfl ?_
 refine g_icN X d15_30 (tlt (show (2 : Int32) < (3 : Int32) from (by decide))).2.1 (pc' := 33) rfl ?_
 refine g_iload X d15_33 (pc' := 35) rfl rfl ?_
 refine g_aloadN X d15_35 (pc' := 36) rfl rfl rfl ?_
 refine g_getfield X (host := "") (Or.inl (tb hw 19 rfl)) Via.refl qb d15_36 (pc' := 39) rfl ?_
 intro T X
 refine g_iload X d15_39 (pc' := 41) rfl rfl ?_
 refine g_baload X qc 2 d15_41 (pc' := 42) rfl (by decide) (by decide) rfl ?_
 refine g_aloadN X d15_42 (pc' := 43) rfl rfl rfl ?_
 refine g_iloadN X d15_43 (pc' := 44) rfl rfl ?_
 refine g_iload X d15_44 (pc' := 46) rfl rfl ?_
 refine g_iadd X d15_46 (pc' := 47) rfl ?_
 refine Go.lit32 (z := (5 : Int32)) (by decide) ?_
 refine g_baload X qe 5 d15_47 (pc' := 48) rfl (by decide) (by decide) rfl ?_
 refine g_ixor X d15_48 (pc' := 49) rfl ?_
 refine g_ior X d15_49 (pc' := 50) rfl ?_
 generalize qj : (qg ||| (e2 ^^^ t5)) = qa
 refine g_istore X d15_50 (pc' := 52) (Ls' := #[.val (.ref a0), .val (.ref a1), .val (.int (3 : Int32)), .val (.int (3 : Int32)), .val (.int (1 : Int32)), .val (.int qa), .val (.int (2 : Int32))]) rfl rfl ?_
 refine g_iinc X d15_52 (pc' := 55) (q := (1 : Int32)) (Ls' := #[.val (.ref a0), .val (.ref a1), .val (.int (3 : Int32)), .val (.int (3 : Int32)), .val (.int (1 : Int32)), .val (.int qa), .val (.int (3 : Int32))]) rfl rfl rfl rfl ?_
 refine g_goto X d15_55 (pc' := 27) (by decide) (by decide) ?_
 refine g_iload X d15_27 (pc' := 29) rfl rfl ?_
 refine g_iloadN X d15_29 (pc' := 30) rfl rfl ?_
 refine g_icY X d15_30 (flt (show ¬ ((3 : Int32) < (3 : Int32)) from (by decide))).2.1 (pc' := 58) (by decide) (by decide) ?_
 refine g_iload X d15_58 (pc' := 60) rfl rfl ?_
 by_cases qd : qa = (0 : Int32)
 refine g_ifN X d15_60 ((if0 _ _).trans (teq qd).2) (pc' := 63) rfl ?_
 refine g_iconst X (1 : Int32) d15_63 (pc' := 64) rfl rfl ?_
 refine g_goto X d15_64 (pc' := 68) (by decide) (by decide) ?_
 refine g_istore X d15_68 (pc' := 70) (Ls' := #[.val (.ref a0), .val (.ref a1), .val (.int (3 : Int32)), .val (.int (3 : Int32)), .val (.int (1 : Int32)), .val (.int qa), .val (.int (3 : Int32))]) rfl rfl ?_
 refine g_iload X d15_70 (pc' := 72) rfl rfl ?_
 refine g_ireturnN X (t := .boolean) (by simp) d15_72 hret hlk (by decide) (by decide) ?_
 subst qh qi qj
 exact ⟨congrArg (fun z => some (Value.int z)) (Eq.trans narT (congrArg b2i (Eq.symm (show fIs33 e0 e1 e2 t0 t1 t2 t3 t4 t5 = _ from (Eq.trans (if_pos qd) rfl))))), rfl, rfl⟩
 refine g_ifY X d15_60 ((if0 _ _).trans (feq qd).2) (pc' := 67) (by decide) (by decide) ?_
 refine g_iconst X (0 : Int32) d15_67 (pc' := 68) rfl rfl ?_
 refine g_istore X d15_68 (pc' := 70) (Ls' := #[.val (.ref a0), .val (.ref a1), .val (.int (3 : Int32)), .val (.int (3 : Int32)), .val (.int (0 : Int32)), .val (.int qa), .val (.int (3 : Int32))]) rfl rfl ?_
 refine g_iload X d15_70 (pc' := 72) rfl rfl ?_
 refine g_ireturnN X (t := .boolean) (by simp) d15_72 hret hlk (by decide) (by decide) ?_
 subst qh qi qj
 exact ⟨congrArg (fun z => some (Value.int z)) (Eq.trans narF (congrArg b2i (Eq.symm (show fIs33 e0 e1 e2 t0 t1 t2 t3 t4 t5 = _ from (Eq.trans (if_neg qd) rfl))))), rfl, rfl⟩
theorem pd_9 : parseMethodDescriptor "(Ljava/lang/String;[BIZ)V" = some ⟨[(.object "java/lang/String"), (.array .byte), .int, .boolean], none⟩ := by decide +kernel
theorem pd_10 : parseMethodDescriptor "([BII)Z" = some ⟨[(.array .byte), .int, .int], some .boolean⟩ := by decide +kernel
set_option maxRecDepth 65536 in
set_option maxHeartbeats 40000000 in
theorem tail0 (l : Launch) (Z : State) (aa : Array Value) (hw : ∀ d ∈ tables_1, d.before aa Z = true) {p : Program} {e : Env} {s : State} {m : MethodId} {args : Array Value} {below : List Frame} {meth : Method} {cc : Code} {T : State} {locs : List Loc} {h : Heap} {vm0 : Vm} {k0 : Nat} (n0 : Nat) (i0 i2 i3 s0 s1 s2 st t0 t1 t2 t3 t4 t5 G1 : Int32) (j1 : Int64) (sp tx : Addr) (s12 : Slot)
    (X : Sx Z x.cls code maxLocals p l e room_1 (s.setVm vm0) m args below meth cc T locs 2 6 h) (hS : s.Since vm0 k0) (hk : k0 ≤ h.size) (HC : CHv Z consts_1 vm0 h) (Z0 : n0 ≤ h.size) (N : Fr n0 locs) (hret : meth.sig.returnType = ret) (hlk : meth.locks = false) (qc : Av Z h sp .byte []) (qd : Av Z h tx .byte [(.int t0), (.int t1), (.int t2), (.int t3), (.int t4), (.int t5)]) (qg : Sta Z h "java/lang/String" "COMPACT_STRINGS" "Z" (.int G1)) (P5 : ¬ G1 = (0 : Int32)) (hst : st = 0 ∨ st = 1 ∨ st = 2 ∨ st = 3) (hs12 : One s12) (hn0 : nar .byte s0 = s0) (hn1 : nar .byte s1 = s1) (hn2 : nar .byte s2 = s2) :
    Go p e below (EndsW s (fun v h L => v = some (.int 1) ∧ Fr n0 L) room_1.cells room_1.slots) (T.setTop (mkF m 225 #[.val (.int i0), .val (.long j1), .second, .val (.int i2), .val (.int i3), .val (.int (0 : Int32)), .val (.int s0), .val (.int s1), .val (.int s2), .val (.ref sp), .val (.ref tx), .val (.int st), s12, .unset, .unset, .unset, .unset] [])) := by
 refine joinA X (α := Int32) (fun x1 => (mkF m 245 #[.val (.int i0), .val (.long j1), .second, .val (.int i2), .val (.int i3), .val (.int (0 : Int32)), .val (.int s0), .val (.int s1), .val (.int s2), .val (.ref sp), .val (.ref tx), .val (.int st), s12, .unset, .unset, .unset, .unset] [(.int x1)])) (fun _ => True) ?_ ?_
 clear X
 intro T X x1 _
 show Go p e below _ (T.setTop (mkF m 245 _ [(.int x1)]))
 refine g_istore X at_245 (pc' := 247) (Ls' := #[.val (.int i0), .val (.long j1), .second, .val (.int i2), .val (.int i3), .val (.int (0 : Int32)), .val (.int s0), .val (.int s1), .val (.int s2), .val (.ref sp), .val (.ref tx), .val (.int st), .val (.int x1), .unset, .unset, .unset, .unset]) rfl (os12 hs12 _ _ _ _ _ _ _ _ _ _ _ _) ?_
 refine joinA X (α := Int32) (fun x2 => (mkF m 261 #[.val (.int i0), .val (.long j1), .second, .val (.int i2), .val (.int i3), .val (.int (0 : Int32)), .val (.int s0), .val (.int s1), .val (.int s2), .val (.ref sp), .val (.ref tx), .val (.int st), .val (.int x1), .unset, .unset, .unset, .unset] [(.int x2)])) (fun _ => True) ?_ ?_
 clear X
 intro T X x2 _
 show Go p e below _ (T.setTop (mkF m 261 _ [(.int x2)]))
 refine g_istore X at_261 (pc' := 263) (Ls' := #[.val (.int i0), .val (.long j1), .second, .val (.int i2), .val (.int i3), .val (.int (0 : Int32)), .val (.int s0), .val (.int s1), .val (.int s2), .val (.ref sp), .val (.ref tx), .val (.int st), .val (.int x1), .val (.int x2), .unset, .unset, .unset]) rfl rfl ?_
 refine g_new X (tb hw 1 rfl) (tb hw 2 rfl) (tb hw 3 rfl) at_263 (pc' := 266) rfl (by decide) (by decide) ?_
 intro T h qa qh X Ex qb qe
 have qr : sp ≠ qa := Nat.ne_of_lt (by rw [qh]; exact qc.lt)
 have qu : tx ≠ qa := Nat.ne_of_lt (by rw [qh]; exact qd.lt)
 have qv : n0 ≤ qa := by rw [qh]; exact Z0
 replace qc := qc.ext Ex
 replace qd := qd.ext Ex
 replace qg := qg.ext Ex
 replace Z0 := Nat.le_trans Z0 Ex.1
 replace hk := Nat.le_trans hk Ex.1
 replace HC := CHv.ext Ex HC
 have qi : Fld Z h qa "com/example/scheherazade/scheherazade/core/XmlName" "qualified" "Ljava/lang/String;" .null := qe (Or.inr (tb hw 18 rfl)) (ty := (.object "java/lang/String")) (by decide)
 have qf : Fld Z h qa "com/example/scheherazade/scheherazade/core/XmlName" "spelling" "[B" .null := qe (Or.inr (tb hw 20 rfl)) (ty := (.array .byte)) (by decide)
 have qj : Fld Z h qa "com/example/scheherazade/scheherazade/core/XmlName" "hash" "I" (.int (0 : Int32)) := qe (Or.inr (tb hw 22 rfl)) (ty := .int) (by decide)
 have qk : Fld Z h qa "com/example/scheherazade/scheherazade/core/XmlName" "shared" "Z" (.int (0 : Int32)) := qe (Or.inr (tb hw 24 rfl)) (ty := .boolean) (by decide)
 have ql : Fld Z h qa "com/example/scheherazade/scheherazade/core/XmlName" "head" "J" (.long (0 : Int64)) := qe (Or.inr (tb hw 30 rfl)) (ty := .long) (by decide)
 have qm : Fld Z h qa "com/example/scheherazade/scheherazade/core/XmlName" "headMask" "J" (.long (0 : Int64)) := qe (Or.inr (tb hw 32 rfl)) (ty := .long) (by decide)
 have qn : Fld Z h qa "com/example/scheherazade/scheherazade/core/XmlName" "prefix" "Ljava/lang/String;" .null := qe (Or.inr (tb hw 76 rfl)) (ty := (.object "java/lang/String")) (by decide)
 have qo : Fld Z h qa "com/example/scheherazade/scheherazade/core/XmlName" "local" "Ljava/lang/String;" .null := qe (Or.inr (tb hw 78 rfl)) (ty := (.object "java/lang/String")) (by decide)
 have qp : Fld Z h qa "com/example/scheherazade/scheherazade/core/XmlName" "declaring" "Z" (.int (0 : Int32)) := qe (Or.inr (tb hw 91 rfl)) (ty := .boolean) (by decide)
 refine g_dup X at_266 (pc' := 267) rfl rfl ?_
 refine g_ldcH X hS hk (elw hw) (List.mem_of_getElem? (i := 1) rfl) HC (tb hw 4 rfl) (sAt hw) (vs := [(.int (97 : Int32))]) (z := (1 : Int32)) ⟨by decide +kernel, by first | rfl | decide +kernel⟩ (by decide) rfl at_267 (pc' := 269) rfl (n := 4) (by decide +kernel) (by decide) (by decide) (by decide) ?_
 intro qq T h k1 qw X Ex hS hk qx qy qz q0 HRn SF
 replace qc := qc.ext Ex
 replace qd := qd.ext Ex
 replace qb := qb.ext Ex
 replace qi := qi.ext Ex
 replace qf := qf.ext Ex
 replace qj := qj.ext Ex
 replace qk := qk.ext Ex
 replace ql := ql.ext Ex
 replace qm := qm.ext Ex
 replace qn := qn.ext Ex
 replace qo := qo.ext Ex
 replace qp := qp.ext Ex
 replace qg := qg.ext Ex
 replace Z0 := Nat.le_trans Z0 Ex.1
 replace HC := HRn.1
 obtain ⟨q1, q2⟩ := SF qa (Safe.exa (State.Warmed39.alike X.2.2.2.2.2.1) qb (by decide) (by decide))
 show Go p e below _ (T.setTop (mkF m 269 _ [(.ref qq), (.ref qa), (.ref qa)]))
 refine g_aload X at_269 (pc' := 271) rfl rfl rfl ?_
 refine g_iload X at_271 (pc' := 273) rfl rfl ?_
 refine g_iload X at_273 (pc' := 275) rfl rfl ?_
 refine g_specialH X hS hk (elw hw) HC (W := 1) (a := qa) [(.ref qq), (.ref sp), (.int i3), (.int x2)] [(.ref qa)] rfl (tb hw 11 rfl) (tb hw 12 rfl) (tb hw 3 rfl) (tb hw 13 rfl) (rInit0 l Z aa hw [] qa qq sp i3 x2 G1 qw _ n0 Z0 qb qi qf qj qk ql qm qn qo qp qx qy qz q0 qc qv (Ne.symm q1) (Ne.symm q2) qr qg P5) at_275 (pc' := 278) rfl (by decide) (by decide) (by decide) rfl rfl rfl (lenOf pd_9 rfl) (Nat.le_refl _) (by decide) (by decide) ?_
 intro v T L X q k1 hS hk HRn
 replace HC := HRn.1
 obtain ⟨rfl, Nq, Kq, q3, q4⟩ := q
 replace N := N.app Nq
 replace qc := qc.keep Kq (ninS qr nin0)
 replace qd := qd.keep Kq (ninS qu nin0)
 replace Z0 := Nat.le_trans Z0 Kq.1
 replace qb := q3
 replace qf := q4
 show Go p e below _ (T.setTop (mkF m 278 _ [(.ref qa)]))
 refine g_astore X at_278 (pc' := 280) (Ls' := #[.val (.int i0), .val (.long j1), .second, .val (.int i2), .val (.int i3), .val (.int (0 : Int32)), .val (.int s0), .val (.int s1), .val (.int s2), .val (.ref sp), .val (.ref tx), .val (.int st), .val (.int x1), .val (.int x2), .val (.ref qa), .unset, .unset]) rfl rfl rfl ?_
 by_cases hl : (0 : Int32) = x1
 subst hl
 show Go p e below _ (T.setTop (mkF m 280 _ []))
 rcases (hst : st = (0 : Int32) ∨ st = (1 : Int32) ∨ st = (2 : Int32) ∨ st = (3 : Int32)) with hs | hs | hs | hs
 subst hs
 show Go p e below _ (T.setTop (mkF m 280 _ []))
 refine g_aload X at_280 (pc' := 282) rfl rfl rfl ?_
 refine g_aload X at_282 (pc' := 284) rfl rfl rfl ?_
 refine g_iload X at_284 (pc' := 286) rfl rfl ?_
 refine g_iload X at_286 (pc' := 288) rfl rfl ?_
 refine g_virtual X (W := 0) (a := qa) (C := "com/example/scheherazade/scheherazade/core/XmlName") [(.ref tx), (.int (0 : Int32)), (.int (0 : Int32))] [] qb (tb hw 92 rfl) (tb hw 93 rfl) (tb hw 95 rfl) (tb hw 94 rfl) (tb hw 3 rfl) (tb hw 96 rfl) (rIs00 l Z aa hw [] qa tx sp t0 t1 t2 t3 t4 t5 _ qb qf qc qd) at_288 (pc' := 291) rfl (by decide) (by decide) (by decide) rfl rfl rfl (lenOf pd_10 rfl) (Nat.le_refl _) (by decide) (by decide) ?_
 intro v T L X q
 obtain ⟨rfl, X⟩ := pureX X q
 show Go p e below _ (T.setTop (mkF m 291 _ [(.int (b2i (fIs00 t0 t1 t2 t3 t4 t5)))]))
 refine g_istore X at_291 (pc' := 293) (Ls' := #[.val (.int i0), .val (.long j1), .second, .val (.int i2), .val (.int i3), .val (.int (0 : Int32)), .val (.int s0), .val (.int s1), .val (.int s2), .val (.ref sp), .val (.ref tx), .val (.int (0 : Int32)), .val (.int (0 : Int32)), .val (.int x2), .val (.ref qa), .val (.int (b2i (fIs00 t0 t1 t2 t3 t4 t5))), .unset]) rfl rfl ?_
 refine g_iload X at_293 (pc' := 295) rfl rfl ?_
 refine g_iload X at_295 (pc' := 297) rfl rfl ?_
 refine g_icN X at_297 (teq (show (0 : Int32) = (0 : Int32) from (by decide))).2 (pc' := 300) rfl ?_
 refine g_iload X at_300 (pc' := 302) rfl rfl ?_
 refine g_iconst X (1 : Int32) at_302 (pc' := 303) rfl rfl ?_
 refine g_icY X at_303 (tlt (show (0 : Int32) < (1 : Int32) from (by decide))).1 (pc' := 316) (by decide) (by decide) ?_
 refine g_iload X at_316 (pc' := 318) rfl rfl ?_
 refine g_iconst X (2 : Int32) at_318 (pc' := 319) rfl rfl ?_
 refine g_icY X at_319 (tlt (show (0 : Int32) < (2 : Int32) from (by decide))).1 (pc' := 334) (by decide) (by decide) ?_
 refine g_iload X at_334 (pc' := 336) rfl rfl ?_
 refine g_iconst X (3 : Int32) at_336 (pc' := 337) rfl rfl ?_
 refine g_icY X at_337 (tlt (show (0 : Int32) < (3 : Int32) from (by decide))).1 (pc' := 352) (by decide) (by decide) ?_
 refine g_iconst X (1 : Int32) at_352 (pc' := 353) rfl rfl ?_
 refine g_goto X at_353 (pc' := 357) (by decide) (by decide) ?_
 refine g_istore X at_357 (pc' := 359) (Ls' := #[.val (.int i0), .val (.long j1), .second, .val (.int i2), .val (.int i3), .val (.int (0 : Int32)), .val (.int s0), .val (.int s1), .val (.int s2), .val (.ref sp), .val (.ref tx), .val (.int (0 : Int32)), .val (.int (0 : Int32)), .val (.int x2), .val (.ref qa), .val (.int (b2i (fIs00 t0 t1 t2 t3 t4 t5))), .val (.int (1 : Int32))]) rfl rfl ?_
 refine g_iload X at_359 (pc' := 361) rfl rfl ?_
 refine g_iload X at_361 (pc' := 363) rfl rfl ?_
 refine g_icN X at_363 (teq (show (b2i (fIs00 t0 t1 t2 t3 t4 t5)) = (1 : Int32) from (by simp [fIs00, b2i, or0, xor0, zor]))).2 (pc' := 366) rfl ?_
 refine g_iconst X (1 : Int32) at_366 (pc' := 367) rfl rfl ?_
 refine g_goto X at_367 (pc' := 371) (by decide) (by decide) ?_
 refine g_ireturnNW X hS hk (t := .boolean) (by simp) at_371 hret hlk (by decide) (by decide) ?_
 exact ⟨rfl, N⟩
 subst hs
 show Go p e below _ (T.setTop (mkF m 280 _ []))
 refine g_aload X at_280 (pc' := 282) rfl rfl rfl ?_
 refine g_aload X at_282 (pc' := 284) rfl rfl rfl ?_
 refine g_iload X at_284 (pc' := 286) rfl rfl ?_
 refine g_iload X at_286 (pc' := 288) rfl rfl ?_
 refine g_virtual X (W := 0) (a := qa) (C := "com/example/scheherazade/scheherazade/core/XmlName") [(.ref tx), (.int (1 : Int32)), (.int (0 : Int32))] [] qb (tb hw 92 rfl) (tb hw 93 rfl) (tb hw 95 rfl) (tb hw 94 rfl) (tb hw 3 rfl) (tb hw 96 rfl) (rIs01 l Z aa hw [] qa tx sp t0 t1 t2 t3 t4 t5 _ qb qf qc qd) at_288 (pc' := 291) rfl (by decide) (by decide) (by decide) rfl rfl rfl (lenOf pd_10 rfl) (Nat.le_refl _) (by decide) (by decide) ?_
 intro v T L X q
 obtain ⟨rfl, X⟩ := pureX X q
 show Go p e below _ (T.setTop (mkF m 291 _ [(.int (b2i (fIs01 t0 t1 t2 t3 t4 t5)))]))
 refine g_istore X at_291 (pc' := 293) (Ls' := #[.val (.int i0), .val (.long j1), .second, .val (.int i2), .val (.int i3), .val (.int (0 : Int32)), .val (.int s0), .val (.int s1), .val (.int s2), .val (.ref sp), .val (.ref tx), .val (.int (1 : Int32)), .val (.int (0 : Int32)), .val (.int x2), .val (.ref qa), .val (.int (b2i (fIs01 t0 t1 t2 t3 t4 t5))), .unset]) rfl rfl ?_
 refine g_iload X at_293 (pc' := 295) rfl rfl ?_
 refine g_iload X at_295 (pc' := 297) rfl rfl ?_
 refine g_icN X at_297 (teq (show (0 : Int32) = (0 : Int32) from (by decide))).2 (pc' := 300) rfl ?_
 refine g_iload X at_300 (pc' := 302) rfl rfl ?_
 refine g_iconst X (1 : Int32) at_302 (pc' := 303) rfl rfl ?_
 refine g_icY X at_303 (tlt (show (0 : Int32) < (1 : Int32) from (by decide))).1 (pc' := 316) (by decide) (by decide) ?_
 refine g_iload X at_316 (pc' := 318) rfl rfl ?_
 refine g_iconst X (2 : Int32) at_318 (pc' := 319) rfl rfl ?_
 refine g_icY X at_319 (tlt (show (0 : Int32) < (2 : Int32) from (by decide))).1 (pc' := 334) (by decide) (by decide) ?_
 refine g_iload X at_334 (pc' := 336) rfl rfl ?_
 refine g_iconst X (3 : Int32) at_336 (pc' := 337) rfl rfl ?_
 refine g_icY X at_337 (tlt (show (0 : Int32) < (3 : Int32) from (by decide))).1 (pc' := 352) (by decide) (by decide) ?_
 refine g_iconst X (1 : Int32) at_352 (pc' := 353) rfl rfl ?_
 refine g_goto X at_353 (pc' := 357) (by decide) (by decide) ?_
 refine g_istore X at_357 (pc' := 359) (Ls' := #[.val (.int i0), .val (.long j1), .second, .val (.int i2), .val (.int i3), .val (.int (0 : Int32)), .val (.int s0), .val (.int s1), .val (.int s2), .val (.ref sp), .val (.ref tx), .val (.int (1 : Int32)), .val (.int (0 : Int32)), .val (.int x2), .val (.ref qa), .val (.int (b2i (fIs01 t0 t1 t2 t3 t4 t5))), .val (.int (1 : Int32))]) rfl rfl ?_
 refine g_iload X at_359 (pc' := 361) rfl rfl ?_
 refine g_iload X at_361 (pc' := 363) rfl rfl ?_
 refine g_icN X at_363 (teq (show (b2i (fIs01 t0 t1 t2 t3 t4 t5)) = (1 : Int32) from (by simp [fIs01, b2i, or0, xor0, zor]))).2 (pc' := 366) rfl ?_
 refine g_iconst X (1 : Int32) at_366 (pc' := 367) rfl rfl ?_
 refine g_goto X at_367 (pc' := 371) (by decide) (by decide) ?_
 refine g_ireturnNW X hS hk (t := .boolean) (by simp) at_371 hret hlk (by decide) (by decide) ?_
 exact ⟨rfl, N⟩
 subst hs
 show Go p e below _ (T.setTop (mkF m 280 _ []))
 refine g_aload X at_280 (pc' := 282) rfl rfl rfl ?_
 refine g_aload X at_282 (pc' := 284) rfl rfl rfl ?_
 refine g_iload X at_284 (pc' := 286) rfl rfl ?_
 refine g_iload X at_286 (pc' := 288) rfl rfl ?_
 refine g_virtual X (W := 0) (a := qa) (C := "com/example/scheherazade/scheherazade/core/XmlName") [(.ref tx), (.int (2 : Int32)), (.int (0 : Int32))] [] qb (tb hw 92 rfl) (tb hw 93 rfl) (tb hw 95 rfl) (tb hw 94 rfl) (tb hw 3 rfl) (tb hw 96 rfl) (rIs02 l Z aa hw [] qa tx sp t0 t1 t2 t3 t4 t5 _ qb qf qc qd) at_288 (pc' := 291) rfl (by decide) (by decide) (by decide) rfl rfl rfl (lenOf pd_10 rfl) (Nat.le_refl _) (by decide) (by decide) ?_
 intro v T L X q
 obtain ⟨rfl, X⟩ := pureX X q
 show Go p e below _ (T.setTop (mkF m 291 _ [(.int (b2i (fIs02 t0 t1 t2 t3 t4 t5)))]))
 refine g_istore X at_291 (pc' := 293) (Ls' := #[.val (.int i0), .val (.long j1), .second, .val (.int i2), .val (.int i3), .val (.int (0 : Int32)), .val (.int s0), .val (.int s1), .val (.int s2), .val (.ref sp), .val (.ref tx), .val (.int (2 : Int32)), .val (.int (0 : Int32)), .val (.int x2), .val (.ref qa), .val (.int (b2i (fIs02 t0 t1 t2 t3 t4 t5))), .unset]) rfl rfl ?_
 refine g_iload X at_293 (pc' := 295) rfl rfl ?_
 refine g_iload X at_295 (pc' := 297) rfl rfl ?_
 refine g_icN X at_297 (teq (show (0 : Int32) = (0 : Int32) from (by decide))).2 (pc' := 300) rfl ?_
 refine g_iload X at_300 (pc' := 302) rfl rfl ?_
 refine g_iconst X (1 : Int32) at_302 (pc' := 303) rfl rfl ?_
 refine g_icY X at_303 (tlt (show (0 : Int32) < (1 : Int32) from (by decide))).1 (pc' := 316) (by decide) (by decide) ?_
 refine g_iload X at_316 (pc' := 318) rfl rfl ?_
 refine g_iconst X (2 : Int32) at_318 (pc' := 319) rfl rfl ?_
 refine g_icY X at_319 (tlt (show (0 : Int32) < (2 : Int32) from (by decide))).1 (pc' := 334) (by decide) (by decide) ?_
 refine g_iload X at_334 (pc' := 336) rfl rfl ?_
 refine g_iconst X (3 : Int32) at_336 (pc' := 337) rfl rfl ?_
 refine g_icY X at_337 (tlt (show (0 : Int32) < (3 : Int32) from (by decide))).1 (pc' := 352) (by decide) (by decide) ?_
 refine g_iconst X (1 : Int32) at_352 (pc' := 353) rfl rfl ?_
 refine g_goto X at_353 (pc' := 357) (by decide) (by decide) ?_
 refine g_istore X at_357 (pc' := 359) (Ls' := #[.val (.int i0), .val (.long j1), .second, .val (.int i2), .val (.int i3), .val (.int (0 : Int32)), .val (.int s0), .val (.int s1), .val (.int s2), .val (.ref sp), .val (.ref tx), .val (.int (2 : Int32)), .val (.int (0 : Int32)), .val (.int x2), .val (.ref qa), .val (.int (b2i (fIs02 t0 t1 t2 t3 t4 t5))), .val (.int (1 : Int32))]) rfl rfl ?_
 refine g_iload X at_359 (pc' := 361) rfl rfl ?_
 refine g_iload X at_361 (pc' := 363) rfl rfl ?_
 refine g_icN X at_363 (teq (show (b2i (fIs02 t0 t1 t2 t3 t4 t5)) = (1 : Int32) from (by simp [fIs02, b2i, or0, xor0, zor]))).2 (pc' := 366) rfl ?_
 refine g_iconst X (1 : Int32) at_366 (pc' := 367) rfl rfl ?_
 refine g_goto X at_367 (pc' := 371) (by decide) (by decide) ?_
 refine g_ireturnNW X hS hk (t := .boolean) (by simp) at_371 hret hlk (by decide) (by decide) ?_
 exact ⟨rfl, N⟩
 subst hs
 show Go p e below _ (T.setTop (mkF m 280 _ []))
 refine g_aload X at_280 (pc' := 282) rfl rfl rfl ?_
 refine g_aload X at_282 (pc' := 284) rfl rfl rfl ?_
 refine g_iload X at_284 (pc' := 286) rfl rfl ?_
 refine g_iload X at_286 (pc' := 288) rfl rfl ?_
 refine g_virtual X (W := 0) (a := qa) (C := "com/example/scheherazade/scheherazade/core/XmlName") [(.ref tx), (.int (3 : Int32)), (.int (0 : Int32))] [] qb (tb hw 92 rfl) (tb hw 93 rfl) (tb hw 95 rfl) (tb hw 94 rfl) (tb hw 3 rfl) (tb hw 96 rfl) (rIs03 l Z aa hw [] qa tx sp t0 t1 t2 t3 t4 t5 _ qb qf qc qd) at_288 (pc' := 291) rfl (by decide) (by decide) (by decide) rfl rfl rfl (lenOf pd_10 rfl) (Nat.le_refl _) (by decide) (by decide) ?_
 intro v T L X q
 obtain ⟨rfl, X⟩ := pureX X q
 show Go p e below _ (T.setTop (mkF m 291 _ [(.int (b2i (fIs03 t0 t1 t2 t3 t4 t5)))]))
 refine g_istore X at_291 (pc' := 293) (Ls' := #[.val (.int i0), .val (.long j1), .second, .val (.int i2), .val (.int i3), .val (.int (0 : Int32)), .val (.int s0), .val (.int s1), .val (.int s2), .val (.ref sp), .val (.ref tx), .val (.int (3 : Int32)), .val (.int (0 : Int32)), .val (.int x2), .val (.ref qa), .val (.int (b2i (fIs03 t0 t1 t2 t3 t4 t5))), .unset]) rfl rfl ?_
 refine g_iload X at_293 (pc' := 295) rfl rfl ?_
 refine g_iload X at_295 (pc' := 297) rfl rfl ?_
 refine g_icN X at_297 (teq (show (0 : Int32) = (0 : Int32) from (by decide))).2 (pc' := 300) rfl ?_
 refine g_iload X at_300 (pc' := 302) rfl rfl ?_
 refine g_iconst X (1 : Int32) at_302 (pc' := 303) rfl rfl ?_
 refine g_icY X at_303 (tlt (show (0 : Int32) < (1 : Int32) from (by decide))).1 (pc' := 316) (by decide) (by decide) ?_
 refine g_iload X at_316 (pc' := 318) rfl rfl ?_
 refine g_iconst X (2 : Int32) at_318 (pc' := 319) rfl rfl ?_
 refine g_icY X at_319 (tlt (show (0 : Int32) < (2 : Int32) from (by decide))).1 (pc' := 334) (by decide) (by decide) ?_
 refine g_iload X at_334 (pc' := 336) rfl rfl ?_
 refine g_iconst X (3 : Int32) at_336 (pc' := 337) rfl rfl ?_
 refine g_icY X at_337 (tlt (show (0 : Int32) < (3 : Int32) from (by decide))).1 (pc' := 352) (by decide) (by decide) ?_
 refine g_iconst X (1 : Int32) at_352 (pc' := 353) rfl rfl ?_
 refine g_goto X at_353 (pc' := 357) (by decide) (by decide) ?_
 refine g_istore X at_357 (pc' := 359) (Ls' := #[.val (.int i0), .val (.long j1), .second, .val (.int i2), .val (.int i3), .val (.int (0 : Int32)), .val (.int s0), .val (.int s1), .val (.int s2), .val (.ref sp), .val (.ref tx), .val (.int (3 : Int32)), .val (.int (0 : Int32)), .val (.int x2), .val (.ref qa), .val (.int (b2i (fIs03 t0 t1 t2 t3 t4 t5))), .val (.int (1 : Int32))]) rfl rfl ?_
 refine g_iload X at_359 (pc' := 361) rfl rfl ?_
 refine g_iload X at_361 (pc' := 363) rfl rfl ?_
 refine g_icN X at_363 (teq (show (b2i (fIs03 t0 t1 t2 t3 t4 t5)) = (1 : Int32) from (by simp [fIs03, b2i, or0, xor0, zor]))).2 (pc' := 366) rfl ?_
 refine g_iconst X (1 : Int32) at_366 (pc' := 367) rfl rfl ?_
 refine g_goto X at_367 (pc' := 371) (by decide) (by decide) ?_
 refine g_ireturnNW X hS hk (t := .boolean) (by simp) at_371 hret hlk (by decide) (by decide) ?_
 exact ⟨rfl, N⟩
 refine g_aload X at_280 (pc' := 282) rfl rfl rfl ?_
 refine g_aload X at_282 (pc' := 284) rfl rfl rfl ?_
 refine g_iload X at_284 (pc' := 286) rfl rfl ?_
 refine g_iload X at_286 (pc' := 288) rfl rfl ?_
 refine g_virtual X (W := 0) (a := qa) (C := "com/example/scheherazade/scheherazade/core/XmlName") [(.ref tx), (.int st), (.int x1)] [] qb (tb hw 92 rfl) (tb hw 93 rfl) (tb hw 95 rfl) (tb hw 94 rfl) (tb hw 3 rfl) (tb hw 96 rfl) (rIsN0 l Z aa hw [] qa tx st x1 sp t0 t1 t2 t3 t4 t5 _ qb qf qc qd hl) at_288 (pc' := 291) rfl (by decide) (by decide) (by decide) rfl rfl rfl (lenOf pd_10 rfl) (Nat.le_refl _) (by decide) (by decide) ?_
 intro v T L X q
 obtain ⟨rfl, X⟩ := pureX X q
 show Go p e below _ (T.setTop (mkF m 291 _ [(.int (0 : Int32))]))
 refine g_istore X at_291 (pc' := 293) (Ls' := #[.val (.int i0), .val (.long j1), .second, .val (.int i2), .val (.int i3), .val (.int (0 : Int32)), .val (.int s0), .val (.int s1), .val (.int s2), .val (.ref sp), .val (.ref tx), .val (.int st), .val (.int x1), .val (.int x2), .val (.ref qa), .val (.int (0 : Int32)), .unset]) rfl rfl ?_
 refine g_iload X at_293 (pc' := 295) rfl rfl ?_
 refine g_iload X at_295 (pc' := 297) rfl rfl ?_
 refine g_icY X at_297 (feq (show ¬ ((0 : Int32) = x1) from hl)).2 (pc' := 356) (by decide) (by decide) ?_
 refine g_iconst X (0 : Int32) at_356 (pc' := 357) rfl rfl ?_
 refine g_istore X at_357 (pc' := 359) (Ls' := #[.val (.int i0), .val (.long j1), .second, .val (.int i2), .val (.int i3), .val (.int (0 : Int32)), .val (.int s0), .val (.int s1), .val (.int s2), .val (.ref sp), .val (.ref tx), .val (.int st), .val (.int x1), .val (.int x2), .val (.ref qa), .val (.int (0 : Int32)), .val (.int (0 : Int32))]) rfl rfl ?_
 refine g_iload X at_359 (pc' := 361) rfl rfl ?_
 refine g_iload X at_361 (pc' := 363) rfl rfl ?_
 refine g_icN X at_363 (teq (show (0 : Int32) = (0 : Int32) from rfl)).2 (pc' := 366) rfl ?_
 refine g_iconst X (1 : Int32) at_366 (pc' := 367) rfl rfl ?_
 refine g_goto X at_367 (pc' := 371) (by decide) (by decide) ?_
 refine g_ireturnNW X hS hk (t := .boolean) (by simp) at_371 hret hlk (by decide) (by decide) ?_
 exact ⟨rfl, N⟩
 intro kj
 refine g_iloadN X at_247 (pc' := 248) rfl rfl ?_
 refine g_bipush X (11 : Int32) at_248 (pc' := 250) rfl rfl ?_
 refine g_iushr X at_250 (pc' := 251) rfl ?_
 refine g_iconst X (1 : Int32) at_251 (pc' := 252) rfl rfl ?_
 refine g_iand X at_252 (pc' := 253) rfl ?_
 by_cases qs : (((i2.toUInt32 >>> ((11 : Int32) &&& 31).toUInt32).toInt32) &&& (1 : Int32)) = (0 : Int32)
 refine g_ifY X at_253 ((if0 _ _).trans (teq qs).1) (pc' := 260) (by decide) (by decide) ?_
 refine g_iconst X (0 : Int32) at_260 (pc' := 261) rfl rfl ?_
 exact kj T X (0 : Int32) trivial
 refine g_ifN X at_253 ((if0 _ _).trans (feq qs).1) (pc' := 256) rfl ?_
 refine g_iconst X (1 : Int32) at_256 (pc' := 257) rfl rfl ?_
 refine g_goto X at_257 (pc' := 261) (by decide) (by decide) ?_
 exact kj T X (1 : Int32) trivial
 intro kj
 refine g_iloadN X at_225 (pc' := 226) rfl rfl ?_
 refine g_bipush X (8 : Int32) at_226 (pc' := 228) rfl rfl ?_
 refine g_iushr X at_228 (pc' := 229) rfl ?_
 refine g_iconst X (1 : Int32) at_229 (pc' := 230) rfl rfl ?_
 refine g_iand X at_230 (pc' := 231) rfl ?_
 by_cases qt : (((i2.toUInt32 >>> ((8 : Int32) &&& 31).toUInt32).toInt32) &&& (1 : Int32)) = (0 : Int32)
 refine g_ifY X at_231 ((if0 _ _).trans (teq qt).1) (pc' := 239) (by decide) (by decide) ?_
 refine g_iloadN X at_239 (pc' := 240) rfl rfl ?_
 refine g_bipush X (9 : Int32) at_240 (pc' := 242) rfl rfl ?_
 refine g_iushr X at_242 (pc' := 243) rfl ?_
 refine g_iconst X (3 : Int32) at_243 (pc' := 244) rfl rfl ?_
 refine g_iand X at_244 (pc' := 245) rfl ?_
 exact kj T X (((i2.toUInt32 >>> ((9 : Int32) &&& 31).toUInt32).toInt32) &&& (3 : Int32)) trivial
 refine g_ifN X at_231 ((if0 _ _).trans (feq qt).1) (pc' := 234) rfl ?_
 refine g_iload X at_234 (pc' := 236) rfl rfl ?_
 refine g_goto X at_236 (pc' := 245) (by decide) (by decide) ?_
 exact kj T X (0 : Int32) trivial
set_option maxRecDepth 65536 in
set_option maxHeartbeats 40000000 in
theorem tail1 (l : Launch) (Z : State) (aa : Array Value) (hw : ∀ d ∈ tables_1, d.before aa Z = true) {p : Program} {e : Env} {s : State} {m : MethodId} {args : Array Value} {below : List Frame} {meth : Method} {cc : Code} {T : State} {locs : List Loc} {h : Heap} {vm0 : Vm} {k0 : Nat} (n0 : Nat) (i0 i2 i3 s0 s1 s2 st t0 t1 t2 t3 t4 t5 G1 : Int32) (j1 : Int64) (sp tx : Addr) (s12 : Slot)
    (X : Sx Z x.cls code maxLocals p l e room_1 (s.setVm vm0) m args below meth cc T locs 2 7 h) (hS : s.Since vm0 k0) (hk : k0 ≤ h.size) (HC : CHv Z consts_1 vm0 h) (Z0 : n0 ≤ h.size) (N : Fr n0 locs) (hret : meth.sig.returnType = ret) (hlk : meth.locks = false) (qd : Av Z h sp .byte [(.int (nar .byte s0))]) (qb : Av Z h tx .byte [(.int t0), (.int t1), (.int t2), (.int t3), (.int t4), (.int t5)]) (qg : Sta Z h "java/lang/String" "COMPACT_STRINGS" "Z" (.int G1)) (P5 : ¬ G1 = (0 : Int32)) (hst : st = 0 ∨ st = 1 ∨ st = 2 ∨ st = 3) (hs12 : One s12) (hn0 : nar .byte s0 = s0) (hn1 : nar .byte s1 = s1) (hn2 : nar .byte s2 = s2) :
    Go p e below (EndsW s (fun v h L => v = some (.int 1) ∧ Fr n0 L) room_1.cells room_1.slots) (T.setTop (mkF m 225 #[.val (.int i0), .val (.long j1), .second, .val (.int i2), .val (.int i3), .val (.int (1 : Int32)), .val (.int s0), .val (.int s1), .val (.int s2), .val (.ref sp), .val (.ref tx), .val (.int st), s12, .unset, .unset, .unset, .unset] [])) := by
 refine joinA X (α := Int32) (fun x1 => (mkF m 245 #[.val (.int i0), .val (.long j1), .second, .val (.int i2), .val (.int i3), .val (.int (1 : Int32)), .val (.int s0), .val (.int s1), .val (.int s2), .val (.ref sp), .val (.ref tx), .val (.int st), s12, .unset, .unset, .unset, .unset] [(.int x1)])) (fun _ => True) ?_ ?_
 clear X
 intro T X x1 _
 show Go p e below _ (T.setTop (mkF m 245 _ [(.int x1)]))
 refine g_istore X at_245 (pc' := 247) (Ls' := #[.val (.int i0), .val (.long j1), .second, .val (.int i2), .val (.int i3), .val (.int (1 : Int32)), .val (.int s0), .val (.int s1), .val (.int s2), .val (.ref sp), .val (.ref tx), .val (.int st), .val (.int x1), .unset, .unset, .unset, .unset]) rfl (os12 hs12 _ _ _ _ _ _ _ _ _ _ _ _) ?_
 refine joinA X (α := Int32) (fun x2 => (mkF m 261 #[.val (.int i0), .val (.long j1), .second, .val (.int i2), .val (.int i3), .val (.int (1 : Int32)), .val (.int s0), .val (.int s1), .val (.int s2), .val (.ref sp), .val (.ref tx), .val (.int st), .val (.int x1), .unset, .unset, .unset, .unset] [(.int x2)])) (fun _ => True) ?_ ?_
 clear X
 intro T X x2 _
 show Go p e below _ (T.setTop (mkF m 261 _ [(.int x2)]))
 refine g_istore X at_261 (pc' := 263) (Ls' := #[.val (.int i0), .val (.long j1), .second, .val (.int i2), .val (.int i3), .val (.int (1 : Int32)), .val (.int s0), .val (.int s1), .val (.int s2), .val (.ref sp), .val (.ref tx), .val (.int st), .val (.int x1), .val (.int x2), .unset, .unset, .unset]) rfl rfl ?_
 refine g_new X (tb hw 1 rfl) (tb hw 2 rfl) (tb hw 3 rfl) at_263 (pc' := 266) rfl (by decide) (by decide) ?_
 intro T h qa ql X Ex qc qe
 have qv : sp ≠ qa := Nat.ne_of_lt (by rw [ql]; exact qd.lt)
 have qy : tx ≠ qa := Nat.ne_of_lt (by rw [ql]; exact qb.lt)
 have qz : n0 ≤ qa := by rw [ql]; exact Z0
 replace qd := qd.ext Ex
 replace qb := qb.ext Ex
 replace qg := qg.ext Ex
 replace Z0 := Nat.le_trans Z0 Ex.1
 replace hk := Nat.le_trans hk Ex.1
 replace HC := CHv.ext Ex HC
 have qm : Fld Z h qa "com/example/scheherazade/scheherazade/core/XmlName" "qualified" "Ljava/lang/String;" .null := qe (Or.inr (tb hw 18 rfl)) (ty := (.object "java/lang/String")) (by decide)
 have qf : Fld Z h qa "com/example/scheherazade/scheherazade/core/XmlName" "spelling" "[B" .null := qe (Or.inr (tb hw 20 rfl)) (ty := (.array .byte)) (by decide)
 have qn : Fld Z h qa "com/example/scheherazade/scheherazade/core/XmlName" "hash" "I" (.int (0 : Int32)) := qe (Or.inr (tb hw 22 rfl)) (ty := .int) (by decide)
 have qo : Fld Z h qa "com/example/scheherazade/scheherazade/core/XmlName" "shared" "Z" (.int (0 : Int32)) := qe (Or.inr (tb hw 24 rfl)) (ty := .boolean) (by decide)
 have qp : Fld Z h qa "com/example/scheherazade/scheherazade/core/XmlName" "head" "J" (.long (0 : Int64)) := qe (Or.inr (tb hw 30 rfl)) (ty := .long) (by decide)
 have qq : Fld Z h qa "com/example/scheherazade/scheherazade/core/XmlName" "headMask" "J" (.long (0 : Int64)) := qe (Or.inr (tb hw 32 rfl)) (ty := .long) (by decide)
 have qr : Fld Z h qa "com/example/scheherazade/scheherazade/core/XmlName" "prefix" "Ljava/lang/String;" .null := qe (Or.inr (tb hw 76 rfl)) (ty := (.object "java/lang/String")) (by decide)
 have qs : Fld Z h qa "com/example/scheherazade/scheherazade/core/XmlName" "local" "Ljava/lang/String;" .null := qe (Or.inr (tb hw 78 rfl)) (ty := (.object "java/lang/String")) (by decide)
 have qt : Fld Z h qa "com/example/scheherazade/scheherazade/core/XmlName" "declaring" "Z" (.int (0 : Int32)) := qe (Or.inr (tb hw 91 rfl)) (ty := .boolean) (by decide)
 refine g_dup X at_266 (pc' := 267) rfl rfl ?_
 refine g_ldcH X hS hk (elw hw) (List.mem_of_getElem? (i := 1) rfl) HC (tb hw 4 rfl) (sAt hw) (vs := [(.int (97 : Int32))]) (z := (1 : Int32)) ⟨by decide +kernel, by first | rfl | decide +kernel⟩ (by decide) rfl at_267 (pc' := 269) rfl (n := 4) (by decide +kernel) (by decide) (by decide) (by decide) ?_
 intro qu T h k1 q0 X Ex hS hk q1 q2 q3 q4 HRn SF
 replace qd := qd.ext Ex
 replace qb := qb.ext Ex
 replace qc := qc.ext Ex
 replace qm := qm.ext Ex
 replace qf := qf.ext Ex
 replace qn := qn.ext Ex
 replace qo := qo.ext Ex
 replace qp := qp.ext Ex
 replace qq := qq.ext Ex
 replace qr := qr.ext Ex
 replace qs := qs.ext Ex
 replace qt := qt.ext Ex
 replace qg := qg.ext Ex
 replace Z0 := Nat.le_trans Z0 Ex.1
 replace HC := HRn.1
 obtain ⟨q5, q6⟩ := SF qa (Safe.exa (State.Warmed39.alike X.2.2.2.2.2.1) qc (by decide) (by decide))
 show Go p e below _ (T.setTop (mkF m 269 _ [(.ref qu), (.ref qa), (.ref qa)]))
 refine g_aload X at_269 (pc' := 271) rfl rfl rfl ?_
 refine g_iload X at_271 (pc' := 273) rfl rfl ?_
 refine g_iload X at_273 (pc' := 275) rfl rfl ?_
 refine g_specialH X hS hk (elw hw) HC (W := 1) (a := qa) [(.ref qu), (.ref sp), (.int i3), (.int x2)] [(.ref qa)] rfl (tb hw 11 rfl) (tb hw 12 rfl) (tb hw 3 rfl) (tb hw 13 rfl) (rInit1 l Z aa hw [] qa qu sp i3 x2 G1 q0 (nar .byte s0) _ n0 Z0 qc qm qf qn qo qp qq qr qs qt q1 q2 q3 q4 qd qz (Ne.symm q5) (Ne.symm q6) qv qg P5) at_275 (pc' := 278) rfl (by decide) (by decide) (by decide) rfl rfl rfl (lenOf pd_9 rfl) (Nat.le_refl _) (by decide) (by decide) ?_
 intro v T L X q k1 hS hk HRn
 replace HC := HRn.1
 obtain ⟨rfl, Nq, Kq, q7, q8⟩ := q
 replace N := N.app Nq
 replace qd := qd.keep Kq (ninS qv nin0)
 replace qb := qb.keep Kq (ninS qy nin0)
 replace Z0 := Nat.le_trans Z0 Kq.1
 replace qc := q7
 replace qf := q8
 show Go p e below _ (T.setTop (mkF m 278 _ [(.ref qa)]))
 refine g_astore X at_278 (pc' := 280) (Ls' := #[.val (.int i0), .val (.long j1), .second, .val (.int i2), .val (.int i3), .val (.int (1 : Int32)), .val (.int s0), .val (.int s1), .val (.int s2), .val (.ref sp), .val (.ref tx), .val (.int st), .val (.int x1), .val (.int x2), .val (.ref qa), .unset, .unset]) rfl rfl rfl ?_
 by_cases hl : (1 : Int32) = x1
 subst hl
 show Go p e below _ (T.setTop (mkF m 280 _ []))
 rcases (hst : st = (0 : Int32) ∨ st = (1 : Int32) ∨ st = (2 : Int32) ∨ st = (3 : Int32)) with hs | hs | hs | hs
 subst hs
 show Go p e below _ (T.setTop (mkF m 280 _ []))
 refine g_aload X at_280 (pc' := 282) rfl rfl rfl ?_
 refine g_aload X at_282 (pc' := 284) rfl rfl rfl ?_
 refine g_iload X at_284 (pc' := 286) rfl rfl ?_
 refine g_iload X at_286 (pc' := 288) rfl rfl ?_
 refine g_virtual X (W := 0) (a := qa) (C := "com/example/scheherazade/scheherazade/core/XmlName") [(.ref tx), (.int (0 : Int32)), (.int (1 : Int32))] [] qc (tb hw 92 rfl) (tb hw 93 rfl) (tb hw 95 rfl) (tb hw 94 rfl) (tb hw 3 rfl) (tb hw 96 rfl) (rIs10 l Z aa hw [] qa tx sp (nar .byte s0) t0 t1 t2 t3 t4 t5 _ qc qf qd qb) at_288 (pc' := 291) rfl (by decide) (by decide) (by decide) rfl rfl rfl (lenOf pd_10 rfl) (Nat.le_refl _) (by decide) (by decide) ?_
 intro v T L X q
 obtain ⟨rfl, X⟩ := pureX X q
 show Go p e below _ (T.setTop (mkF m 291 _ [(.int (b2i (fIs10 (nar .byte s0) t0 t1 t2 t3 t4 t5)))]))
 refine g_istore X at_291 (pc' := 293) (Ls' := #[.val (.int i0), .val (.long j1), .second, .val (.int i2), .val (.int i3), .val (.int (1 : Int32)), .val (.int s0), .val (.int s1), .val (.int s2), .val (.ref sp), .val (.ref tx), .val (.int (0 : Int32)), .val (.int (1 : Int32)), .val (.int x2), .val (.ref qa), .val (.int (b2i (fIs10 (nar .byte s0) t0 t1 t2 t3 t4 t5))), .unset]) rfl rfl ?_
 refine g_iload X at_293 (pc' := 295) rfl rfl ?_
 refine g_iload X at_295 (pc' := 297) rfl rfl ?_
 refine g_icN X at_297 (teq (show (1 : Int32) = (1 : Int32) from (by decide))).2 (pc' := 300) rfl ?_
 refine g_iload X at_300 (pc' := 302) rfl rfl ?_
 refine g_iconst X (1 : Int32) at_302 (pc' := 303) rfl rfl ?_
 refine g_icN X at_303 (flt (show ¬ ((1 : Int32) < (1 : Int32)) from (by decide))).1 (pc' := 306) rfl ?_
 refine g_iload X at_306 (pc' := 308) rfl rfl ?_
 refine g_aload X at_308 (pc' := 310) rfl rfl rfl ?_
 refine g_iload X at_310 (pc' := 312) rfl rfl ?_
 refine g_baload X qb 0 at_312 (pc' := 313) rfl (by decide) (by decide) rfl ?_
 by_cases qh : s0 = t0
 refine g_icN X at_313 (teq qh).2 (pc' := 316) rfl ?_
 refine g_iload X at_316 (pc' := 318) rfl rfl ?_
 refine g_iconst X (2 : Int32) at_318 (pc' := 319) rfl rfl ?_
 refine g_icY X at_319 (tlt (show (1 : Int32) < (2 : Int32) from (by decide))).1 (pc' := 334) (by decide) (by decide) ?_
 refine g_iload X at_334 (pc' := 336) rfl rfl ?_
 refine g_iconst X (3 : Int32) at_336 (pc' := 337) rfl rfl ?_
 refine g_icY X at_337 (tlt (show (1 : Int32) < (3 : Int32) from (by decide))).1 (pc' := 352) (by decide) (by decide) ?_
 refine g_iconst X (1 : Int32) at_352 (pc' := 353) rfl rfl ?_
 refine g_goto X at_353 (pc' := 357) (by decide) (by decide) ?_
 refine g_istore X at_357 (pc' := 359) (Ls' := #[.val (.int i0), .val (.long j1), .second, .val (.int i2), .val (.int i3), .val (.int (1 : Int32)), .val (.int s0), .val (.int s1), .val (.int s2), .val (.ref sp), .val (.ref tx), .val (.int (0 : Int32)), .val (.int (1 : Int32)), .val (.int x2), .val (.ref qa), .val (.int (b2i (fIs10 (nar .byte s0) t0 t1 t2 t3 t4 t5))), .val (.int (1 : Int32))]) rfl rfl ?_
 refine g_iload X at_359 (pc' := 361) rfl rfl ?_
 refine g_iload X at_361 (pc' := 363) rfl rfl ?_
 refine g_icN X at_363 (teq (show (b2i (fIs10 (nar .byte s0) t0 t1 t2 t3 t4 t5)) = (1 : Int32) from (by rw [hn0]; simp [fIs10, b2i, or0, xor0, zor, qh]))).2 (pc' := 366) rfl ?_
 refine g_iconst X (1 : Int32) at_366 (pc' := 367) rfl rfl ?_
 refine g_goto X at_367 (pc' := 371) (by decide) (by decide) ?_
 refine g_ireturnNW X hS hk (t := .boolean) (by simp) at_371 hret hlk (by decide) (by decide) ?_
 exact ⟨rfl, N⟩
 refine g_icY X at_313 (feq qh).2 (pc' := 356) (by decide) (by decide) ?_
 refine g_iconst X (0 : Int32) at_356 (pc' := 357) rfl rfl ?_
 refine g_istore X at_357 (pc' := 359) (Ls' := #[.val (.int i0), .val (.long j1), .second, .val (.int i2), .val (.int i3), .val (.int (1 : Int32)), .val (.int s0), .val (.int s1), .val (.int s2), .val (.ref sp), .val (.ref tx), .val (.int (0 : Int32)), .val (.int (1 : Int32)), .val (.int x2), .val (.ref qa), .val (.int (b2i (fIs10 (nar .byte s0) t0 t1 t2 t3 t4 t5))), .val (.int (0 : Int32))]) rfl rfl ?_
 refine g_iload X at_359 (pc' := 361) rfl rfl ?_
 refine g_iload X at_361 (pc' := 363) rfl rfl ?_
 refine g_icN X at_363 (teq (show (b2i (fIs10 (nar .byte s0) t0 t1 t2 t3 t4 t5)) = (0 : Int32) from (by rw [hn0]; simp [fIs10, b2i, or0, xor0, zor, qh]))).2 (pc' := 366) rfl ?_
 refine g_iconst X (1 : Int32) at_366 (pc' := 367) rfl rfl ?_
 refine g_goto X at_367 (pc' := 371) (by decide) (by decide) ?_
 refine g_ireturnNW X hS hk (t := .boolean) (by simp) at_371 hret hlk (by decide) (by decide) ?_
 exact ⟨rfl, N⟩
 subst hs
 show Go p e below _ (T.setTop (mkF m 280 _ []))
 refine g_aload X at_280 (pc' := 282) rfl rfl rfl ?_
 refine g_aload X at_282 (pc' := 284) rfl rfl rfl ?_
 refine g_iload X at_284 (pc' := 286) rfl rfl ?_
 refine g_iload X at_286 (pc' := 288) rfl rfl ?_
 refine g_virtual X (W := 0) (a := qa) (C := "com/example/scheherazade/scheherazade/core/XmlName") [(.ref tx), (.int (1 : Int32)), (.int (1 : Int32))] [] qc (tb hw 92 rfl) (tb hw 93 rfl) (tb hw 95 rfl) (tb hw 94 rfl) (tb hw 3 rfl) (tb hw 96 rfl) (rIs11 l Z aa hw [] qa tx sp (nar .byte s0) t0 t1 t2 t3 t4 t5 _ qc qf qd qb) at_288 (pc' := 291) rfl (by decide) (by decide) (by decide) rfl rfl rfl (lenOf pd_10 rfl) (Nat.le_refl _) (by decide) (by decide) ?_
 intro v T L X q
 obtain ⟨rfl, X⟩ := pureX X q
 show Go p e below _ (T.setTop (mkF m 291 _ [(.int (b2i (fIs11 (nar .byte s0) t0 t1 t2 t3 t4 t5)))]))
 refine g_istore X at_291 (pc' := 293) (Ls' := #[.val (.int i0), .val (.long j1), .second, .val (.int i2), .val (.int i3), .val (.int (1 : Int32)), .val (.int s0), .val (.int s1), .val (.int s2), .val (.ref sp), .val (.ref tx), .val (.int (1 : Int32)), .val (.int (1 : Int32)), .val (.int x2), .val (.ref qa), .val (.int (b2i (fIs11 (nar .byte s0) t0 t1 t2 t3 t4 t5))), .unset]) rfl rfl ?_
 refine g_iload X at_293 (pc' := 295) rfl rfl ?_
 refine g_iload X at_295 (pc' := 297) rfl rfl ?_
 refine g_icN X at_297 (teq (show (1 : Int32) = (1 : Int32) from (by decide))).2 (pc' := 300) rfl ?_
 refine g_iload X at_300 (pc' := 302) rfl rfl ?_
 refine g_iconst X (1 : Int32) at_302 (pc' := 303) rfl rfl ?_
 refine g_icN X at_303 (flt (show ¬ ((1 : Int32) < (1 : Int32)) from (by decide))).1 (pc' := 306) rfl ?_
 refine g_iload X at_306 (pc' := 308) rfl rfl ?_
 refine g_aload X at_308 (pc' := 310) rfl rfl rfl ?_
 refine g_iload X at_310 (pc' := 312) rfl rfl ?_
 refine g_baload X qb 1 at_312 (pc' := 313) rfl (by decide) (by decide) rfl ?_
 by_cases qi : s0 = t1
 refine g_icN X at_313 (teq qi).2 (pc' := 316) rfl ?_
 refine g_iload X at_316 (pc' := 318) rfl rfl ?_
 refine g_iconst X (2 : Int32) at_318 (pc' := 319) rfl rfl ?_
 refine g_icY X at_319 (tlt (show (1 : Int32) < (2 : Int32) from (by decide))).1 (pc' := 334) (by decide) (by decide) ?_
 refine g_iload X at_334 (pc' := 336) rfl rfl ?_
 refine g_iconst X (3 : Int32) at_336 (pc' := 337) rfl rfl ?_
 refine g_icY X at_337 (tlt (show (1 : Int32) < (3 : Int32) from (by decide))).1 (pc' := 352) (by decide) (by decide) ?_
 refine g_iconst X (1 : Int32) at_352 (pc' := 353) rfl rfl ?_
 refine g_goto X at_353 (pc' := 357) (by decide) (by decide) ?_
 refine g_istore X at_357 (pc' := 359) (Ls' := #[.val (.int i0), .val (.long j1), .second, .val (.int i2), .val (.int i3), .val (.int (1 : Int32)), .val (.int s0), .val (.int s1), .val (.int s2), .val (.ref sp), .val (.ref tx), .val (.int (1 : Int32)), .val (.int (1 : Int32)), .val (.int x2), .val (.ref qa), .val (.int (b2i (fIs11 (nar .byte s0) t0 t1 t2 t3 t4 t5))), .val (.int (1 : Int32))]) rfl rfl ?_
 refine g_iload X at_359 (pc' := 361) rfl rfl ?_
 refine g_iload X at_361 (pc' := 363) rfl rfl ?_
 refine g_icN X at_363 (teq (show (b2i (fIs11 (nar .byte s0) t0 t1 t2 t3 t4 t5)) = (1 : Int32) from (by rw [hn0]; simp [fIs11, b2i, or0, xor0, zor, qi]))).2 (pc' := 366) rfl ?_
 refine g_iconst X (1 : Int32) at_366 (pc' := 367) rfl rfl ?_
 refine g_goto X at_367 (pc' := 371) (by decide) (by decide) ?_
 refine g_ireturnNW X hS hk (t := .boolean) (by simp) at_371 hret hlk (by decide) (by decide) ?_
 exact ⟨rfl, N⟩
 refine g_icY X at_313 (feq qi).2 (pc' := 356) (by decide) (by decide) ?_
 refine g_iconst X (0 : Int32) at_356 (pc' := 357) rfl rfl ?_
 refine g_istore X at_357 (pc' := 359) (Ls' := #[.val (.int i0), .val (.long j1), .second, .val (.int i2), .val (.int i3), .val (.int (1 : Int32)), .val (.int s0), .val (.int s1), .val (.int s2), .val (.ref sp), .val (.ref tx), .val (.int (1 : Int32)), .val (.int (1 : Int32)), .val (.int x2), .val (.ref qa), .val (.int (b2i (fIs11 (nar .byte s0) t0 t1 t2 t3 t4 t5))), .val (.int (0 : Int32))]) rfl rfl ?_
 refine g_iload X at_359 (pc' := 361) rfl rfl ?_
 refine g_iload X at_361 (pc' := 363) rfl rfl ?_
 refine g_icN X at_363 (teq (show (b2i (fIs11 (nar .byte s0) t0 t1 t2 t3 t4 t5)) = (0 : Int32) from (by rw [hn0]; simp [fIs11, b2i, or0, xor0, zor, qi]))).2 (pc' := 366) rfl ?_
 refine g_iconst X (1 : Int32) at_366 (pc' := 367) rfl rfl ?_
 refine g_goto X at_367 (pc' := 371) (by decide) (by decide) ?_
 refine g_ireturnNW X hS hk (t := .boolean) (by simp) at_371 hret hlk (by decide) (by decide) ?_
 exact ⟨rfl, N⟩
 subst hs
 show Go p e below _ (T.setTop (mkF m 280 _ []))
 refine g_aload X at_280 (pc' := 282) rfl rfl rfl ?_
 refine g_aload X at_282 (pc' := 284) rfl rfl rfl ?_
 refine g_iload X at_284 (pc' := 286) rfl rfl ?_
 refine g_iload X at_286 (pc' := 288) rfl rfl ?_
 refine g_virtual X (W := 0) (a := qa) (C := "com/example/scheherazade/scheherazade/core/XmlName") [(.ref tx), (.int (2 : Int32)), (.int (1 : Int32))] [] qc (tb hw 92 rfl) (tb hw 93 rfl) (tb hw 95 rfl) (tb hw 94 rfl) (tb hw 3 rfl) (tb hw 96 rfl) (rIs12 l Z aa hw [] qa tx sp (nar .byte s0) t0 t1 t2 t3 t4 t5 _ qc qf qd qb) at_288 (pc' := 291) rfl (by decide) (by decide) (by decide) rfl rfl rfl (lenOf pd_10 rfl) (Nat.le_refl _) (by decide) (by decide) ?_
 intro v T L X q
 obtain ⟨rfl, X⟩ := pureX X q
 show Go p e below _ (T.setTop (mkF m 291 _ [(.int (b2i (fIs12 (nar .byte s0) t0 t1 t2 t3 t4 t5)))]))
 refine g_istore X at_291 (pc' := 293) (Ls' := #[.val (.int i0), .val (.long j1), .second, .val (.int i2), .val (.int i3), .val (.int (1 : Int32)), .val (.int s0), .val (.int s1), .val (.int s2), .val (.ref sp), .val (.ref tx), .val (.int (2 : Int32)), .val (.int (1 : Int32)), .val (.int x2), .val (.ref qa), .val (.int (b2i (fIs12 (nar .byte s0) t0 t1 t2 t3 t4 t5))), .unset]) rfl rfl ?_
 refine g_iload X at_293 (pc' := 295) rfl rfl ?_
 refine g_iload X at_295 (pc' := 297) rfl rfl ?_
 refine g_icN X at_297 (teq (show (1 : Int32) = (1 : Int32) from (by decide))).2 (pc' := 300) rfl ?_
 refine g_iload X at_300 (pc' := 302) rfl rfl ?_
 refine g_iconst X (1 : Int32) at_302 (pc' := 303) rfl rfl ?_
 refine g_icN X at_303 (flt (show ¬ ((1 : Int32) < (1 : Int32)) from (by decide))).1 (pc' := 306) rfl ?_
 refine g_iload X at_306 (pc' := 308) rfl rfl ?_
 refine g_aload X at_308 (pc' := 310) rfl rfl rfl ?_
 refine g_iload X at_310 (pc' := 312) rfl rfl ?_
 refine g_baload X qb 2 at_312 (pc' := 313) rfl (by decide) (by decide) rfl ?_
 by_cases qj : s0 = t2
 refine g_icN X at_313 (teq qj).2 (pc' := 316) rfl ?_
 refine g_iload X at_316 (pc' := 318) rfl rfl ?_
 refine g_iconst X (2 : Int32) at_318 (pc' := 319) rfl rfl ?_
 refine g_icY X at_319 (tlt (show (1 : Int32) < (2 : Int32) from (by decide))).1 (pc' := 334) (by decide) (by decide) ?_
 refine g_iload X at_334 (pc' := 336) rfl rfl ?_
 refine g_iconst X (3 : Int32) at_336 (pc' := 337) rfl rfl ?_
 refine g_icY X at_337 (tlt (show (1 : Int32) < (3 : Int32) from (by decide))).1 (pc' := 352) (by decide) (by decide) ?_
 refine g_iconst X (1 : Int32) at_352 (pc' := 353) rfl rfl ?_
 refine g_goto X at_353 (pc' := 357) (by decide) (by decide) ?_
 refine g_istore X at_357 (pc' := 359) (Ls' := #[.val (.int i0), .val (.long j1), .second, .val (.int i2), .val (.int i3), .val (.int (1 : Int32)), .val (.int s0), .val (.int s1), .val (.int s2), .val (.ref sp), .val (.ref tx), .val (.int (2 : Int32)), .val (.int (1 : Int32)), .val (.int x2), .val (.ref qa), .val (.int (b2i (fIs12 (nar .byte s0) t0 t1 t2 t3 t4 t5))), .val (.int (1 : Int32))]) rfl rfl ?_
 refine g_iload X at_359 (pc' := 361) rfl rfl ?_
 refine g_iload X at_361 (pc' := 363) rfl rfl ?_
 refine g_icN X at_363 (teq (show (b2i (fIs12 (nar .byte s0) t0 t1 t2 t3 t4 t5)) = (1 : Int32) from (by rw [hn0]; simp [fIs12, b2i, or0, xor0, zor, qj]))).2 (pc' := 366) rfl ?_
 refine g_iconst X (1 : Int32) at_366 (pc' := 367) rfl rfl ?_
 refine g_goto X at_367 (pc' := 371) (by decide) (by decide) ?_
 refine g_ireturnNW X hS hk (t := .boolean) (by simp) at_371 hret hlk (by decide) (by decide) ?_
 exact ⟨rfl, N⟩
 refine g_icY X at_313 (feq qj).2 (pc' := 356) (by decide) (by decide) ?_
 refine g_iconst X (0 : Int32) at_356 (pc' := 357) rfl rfl ?_
 refine g_istore X at_357 (pc' := 359) (Ls' := #[.val (.int i0), .val (.long j1), .second, .val (.int i2), .val (.int i3), .val (.int (1 : Int32)), .val (.int s0), .val (.int s1), .val (.int s2), .val (.ref sp), .val (.ref tx), .val (.int (2 : Int32)), .val (.int (1 : Int32)), .val (.int x2), .val (.ref qa), .val (.int (b2i (fIs12 (nar .byte s0) t0 t1 t2 t3 t4 t5))), .val (.int (0 : Int32))]) rfl rfl ?_
 refine g_iload X at_359 (pc' := 361) rfl rfl ?_
 refine g_iload X at_361 (pc' := 363) rfl rfl ?_
 refine g_icN X at_363 (teq (show (b2i (fIs12 (nar .byte s0) t0 t1 t2 t3 t4 t5)) = (0 : Int32) from (by rw [hn0]; simp [fIs12, b2i, or0, xor0, zor, qj]))).2 (pc' := 366) rfl ?_
 refine g_iconst X (1 : Int32) at_366 (pc' := 367) rfl rfl ?_
 refine g_goto X at_367 (pc' := 371) (by decide) (by decide) ?_
 refine g_ireturnNW X hS hk (t := .boolean) (by simp) at_371 hret hlk (by decide) (by decide) ?_
 exact ⟨rfl, N⟩
 subst hs
 show Go p e below _ (T.setTop (mkF m 280 _ []))
 refine g_aload X at_280 (pc' := 282) rfl rfl rfl ?_
 refine g_aload X at_282 (pc' := 284) rfl rfl rfl ?_
 refine g_iload X at_284 (pc' := 286) rfl rfl ?_
 refine g_iload X at_286 (pc' := 288) rfl rfl ?_
 refine g_virtual X (W := 0) (a := qa) (C := "com/example/scheherazade/scheherazade/core/XmlName") [(.ref tx), (.int (3 : Int32)), (.int (1 : Int32))] [] qc (tb hw 92 rfl) (tb hw 93 rfl) (tb hw 95 rfl) (tb hw 94 rfl) (tb hw 3 rfl) (tb hw 96 rfl) (rIs13 l Z aa hw [] qa tx sp (nar .byte s0) t0 t1 t2 t3 t4 t5 _ qc qf qd qb) at_288 (pc' := 291) rfl (by decide) (by decide) (by decide) rfl rfl rfl (lenOf pd_10 rfl) (Nat.le_refl _) (by decide) (by decide) ?_
 intro v T L X q
 obtain ⟨rfl, X⟩ := pureX X q
 show Go p e below _ (T.setTop (mkF m 291 _ [(.int (b2i (fIs13 (nar .byte s0) t0 t1 t2 t3 t4 t5)))]))
 refine g_istore X at_291 (pc' := 293) (Ls' := #[.val (.int i0), .val (.long j1), .second, .val (.int i2), .val (.int i3), .val (.int (1 : Int32)), .val (.int s0), .val (.int s1), .val (.int s2), .val (.ref sp), .val (.ref tx), .val (.int (3 : Int32)), .val (.int (1 : Int32)), .val (.int x2), .val (.ref qa), .val (.int (b2i (fIs13 (nar .byte s0) t0 t1 t2 t3 t4 t5))), .unset]) rfl rfl ?_
 refine g_iload X at_293 (pc' := 295) rfl rfl ?_
 refine g_iload X at_295 (pc' := 297) rfl rfl ?_
 refine g_icN X at_297 (teq (show (1 : Int32) = (1 : Int32) from (by decide))).2 (pc' := 300) rfl ?_
 refine g_iload X at_300 (pc' := 302) rfl rfl ?_
 refine g_iconst X (1 : Int32) at_302 (pc' := 303) rfl rfl ?_
 refine g_icN X at_303 (flt (show ¬ ((1 : Int32) < (1 : Int32)) from (by decide))).1 (pc' := 306) rfl ?_
 refine g_iload X at_306 (pc' := 308) rfl rfl ?_
 refine g_aload X at_308 (pc' := 310) rfl rfl rfl ?_
 refine g_iload X at_310 (pc' := 312) rfl rfl ?_
 refine g_baload X qb 3 at_312 (pc' := 313) rfl (by decide) (by decide) rfl ?_
 by_cases qk : s0 = t3
 refine g_icN X at_313 (teq qk).2 (pc' := 316) rfl ?_
 refine g_iload X at_316 (pc' := 318) rfl rfl ?_
 refine g_iconst X (2 : Int32) at_318 (pc' := 319) rfl rfl ?_
 refine g_icY X at_319 (tlt (show (1 : Int32) < (2 : Int32) from (by decide))).1 (pc' := 334) (by decide) (by decide) ?_
 refine g_iload X at_334 (pc' := 336) rfl rfl ?_
 refine g_iconst X (3 : Int32) at_336 (pc' := 337) rfl rfl ?_
 refine g_icY X at_337 (tlt (show (1 : Int32) < (3 : Int32) from (by decide))).1 (pc' := 352) (by decide) (by decide) ?_
 refine g_iconst X (1 : Int32) at_352 (pc' := 353) rfl rfl ?_
 refine g_goto X at_353 (pc' := 357) (by decide) (by decide) ?_
 refine g_istore X at_357 (pc' := 359) (Ls' := #[.val (.int i0), .val (.long j1), .second, .val (.int i2), .val (.int i3), .val (.int (1 : Int32)), .val (.int s0), .val (.int s1), .val (.int s2), .val (.ref sp), .val (.ref tx), .val (.int (3 : Int32)), .val (.int (1 : Int32)), .val (.int x2), .val (.ref qa), .val (.int (b2i (fIs13 (nar .byte s0) t0 t1 t2 t3 t4 t5))), .val (.int (1 : Int32))]) rfl rfl ?_
 refine g_iload X at_359 (pc' := 361) rfl rfl ?_
 refine g_iload X at_361 (pc' := 363) rfl rfl ?_
 refine g_icN X at_363 (teq (show (b2i (fIs13 (nar .byte s0) t0 t1 t2 t3 t4 t5)) = (1 : Int32) from (by rw [hn0]; simp [fIs13, b2i, or0, xor0, zor, qk]))).2 (pc' := 366) rfl ?_
 refine g_iconst X (1 : Int32) at_366 (pc' := 367) rfl rfl ?_
 refine g_goto X at_367 (pc' := 371) (by decide) (by decide) ?_
 refine g_ireturnNW X hS hk (t := .boolean) (by simp) at_371 hret hlk (by decide) (by decide) ?_
 exact ⟨rfl, N⟩
 refine g_icY X at_313 (feq qk).2 (pc' := 356) (by decide) (by decide) ?_
 refine g_iconst X (0 : Int32) at_356 (pc' := 357) rfl rfl ?_
 refine g_istore X at_357 (pc' := 359) (Ls' := #[.val (.int i0), .val (.long j1), .second, .val (.int i2), .val (.int i3), .val (.int (1 : Int32)), .val (.int s0), .val (.int s1), .val (.int s2), .val (.ref sp), .val (.ref tx), .val (.int (3 : Int32)), .val (.int (1 : Int32)), .val (.int x2), .val (.ref qa), .val (.int (b2i (fIs13 (nar .byte s0) t0 t1 t2 t3 t4 t5))), .val (.int (0 : Int32))]) rfl rfl ?_
 refine g_iload X at_359 (pc' := 361) rfl rfl ?_
 refine g_iload X at_361 (pc' := 363) rfl rfl ?_
 refine g_icN X at_363 (teq (show (b2i (fIs13 (nar .byte s0) t0 t1 t2 t3 t4 t5)) = (0 : Int32) from (by rw [hn0]; simp [fIs13, b2i, or0, xor0, zor, qk]))).2 (pc' := 366) rfl ?_
 refine g_iconst X (1 : Int32) at_366 (pc' := 367) rfl rfl ?_
 refine g_goto X at_367 (pc' := 371) (by decide) (by decide) ?_
 refine g_ireturnNW X hS hk (t := .boolean) (by simp) at_371 hret hlk (by decide) (by decide) ?_
 exact ⟨rfl, N⟩
 refine g_aload X at_280 (pc' := 282) rfl rfl rfl ?_
 refine g_aload X at_282 (pc' := 284) rfl rfl rfl ?_
 refine g_iload X at_284 (pc' := 286) rfl rfl ?_
 refine g_iload X at_286 (pc' := 288) rfl rfl ?_
 refine g_virtual X (W := 0) (a := qa) (C := "com/example/scheherazade/scheherazade/core/XmlName") [(.ref tx), (.int st), (.int x1)] [] qc (tb hw 92 rfl) (tb hw 93 rfl) (tb hw 95 rfl) (tb hw 94 rfl) (tb hw 3 rfl) (tb hw 96 rfl) (rIsN1 l Z aa hw [] qa tx st x1 sp (nar .byte s0) t0 t1 t2 t3 t4 t5 _ qc qf qd qb hl) at_288 (pc' := 291) rfl (by decide) (by decide) (by decide) rfl rfl rfl (lenOf pd_10 rfl) (Nat.le_refl _) (by decide) (by decide) ?_
 intro v T L X q
 obtain ⟨rfl, X⟩ := pureX X q
 show Go p e below _ (T.setTop (mkF m 291 _ [(.int (0 : Int32))]))
 refine g_istore X at_291 (pc' := 293) (Ls' := #[.val (.int i0), .val (.long j1), .second, .val (.int i2), .val (.int i3), .val (.int (1 : Int32)), .val (.int s0), .val (.int s1), .val (.int s2), .val (.ref sp), .val (.ref tx), .val (.int st), .val (.int x1), .val (.int x2), .val (.ref qa), .val (.int (0 : Int32)), .unset]) rfl rfl ?_
 refine g_iload X at_293 (pc' := 295) rfl rfl ?_
 refine g_iload X at_295 (pc' := 297) rfl rfl ?_
 refine g_icY X at_297 (feq (show ¬ ((1 : Int32) = x1) from hl)).2 (pc' := 356) (by decide) (by decide) ?_
 refine g_iconst X (0 : Int32) at_356 (pc' := 357) rfl rfl ?_
 refine g_istore X at_357 (pc' := 359) (Ls' := #[.val (.int i0), .val (.long j1), .second, .val (.int i2), .val (.int i3), .val (.int (1 : Int32)), .val (.int s0), .val (.int s1), .val (.int s2), .val (.ref sp), .val (.ref tx), .val (.int st), .val (.int x1), .val (.int x2), .val (.ref qa), .val (.int (0 : Int32)), .val (.int (0 : Int32))]) rfl rfl ?_
 refine g_iload X at_359 (pc' := 361) rfl rfl ?_
 refine g_iload X at_361 (pc' := 363) rfl rfl ?_
 refine g_icN X at_363 (teq (show (0 : Int32) = (0 : Int32) from rfl)).2 (pc' := 366) rfl ?_
 refine g_iconst X (1 : Int32) at_366 (pc' := 367) rfl rfl ?_
 refine g_goto X at_367 (pc' := 371) (by decide) (by decide) ?_
 refine g_ireturnNW X hS hk (t := .boolean) (by simp) at_371 hret hlk (by decide) (by decide) ?_
 exact ⟨rfl, N⟩
 intro kj
 refine g_iloadN X at_247 (pc' := 248) rfl rfl ?_
 refine g_bipush X (11 : Int32) at_248 (pc' := 250) rfl rfl ?_
 refine g_iushr X at_250 (pc' := 251) rfl ?_
 refine g_iconst X (1 : Int32) at_251 (pc' := 252) rfl rfl ?_
 refine g_iand X at_252 (pc' := 253) rfl ?_
 by_cases qw : (((i2.toUInt32 >>> ((11 : Int32) &&& 31).toUInt32).toInt32) &&& (1 : Int32)) = (0 : Int32)
 refine g_ifY X at_253 ((if0 _ _).trans (teq qw).1) (pc' := 260) (by decide) (by decide) ?_
 refine g_iconst X (0 : Int32) at_260 (pc' := 261) rfl rfl ?_
 exact kj T X (0 : Int32) trivial
 refine g_ifN X at_253 ((if0 _ _).trans (feq qw).1) (pc' := 256) rfl ?_
 refine g_iconst X (1 : Int32) at_256 (pc' := 257) rfl rfl ?_
 refine g_goto X at_257 (pc' := 261) (by decide) (by decide) ?_
 exact kj T X (1 : Int32) trivial
 intro kj
 refine g_iloadN X at_225 (pc' := 226) rfl rfl ?_
 refine g_bipush X (8 : Int32) at_226 (pc' := 228) rfl rfl ?_
 refine g_iushr X at_228 (pc' := 229) rfl ?_
 refine g_iconst X (1 : Int32) at_229 (pc' := 230) rfl rfl ?_
 refine g_iand X at_230 (pc' := 231) rfl ?_
 by_cases qx : (((i2.toUInt32 >>> ((8 : Int32) &&& 31).toUInt32).toInt32) &&& (1 : Int32)) = (0 : Int32)
 refine g_ifY X at_231 ((if0 _ _).trans (teq qx).1) (pc' := 239) (by decide) (by decide) ?_
 refine g_iloadN X at_239 (pc' := 240) rfl rfl ?_
 refine g_bipush X (9 : Int32) at_240 (pc' := 242) rfl rfl ?_
 refine g_iushr X at_242 (pc' := 243) rfl ?_
 refine g_iconst X (3 : Int32) at_243 (pc' := 244) rfl rfl ?_
 refine g_iand X at_244 (pc' := 245) rfl ?_
 exact kj T X (((i2.toUInt32 >>> ((9 : Int32) &&& 31).toUInt32).toInt32) &&& (3 : Int32)) trivial
 refine g_ifN X at_231 ((if0 _ _).trans (feq qx).1) (pc' := 234) rfl ?_
 refine g_iload X at_234 (pc' := 236) rfl rfl ?_
 refine g_goto X at_236 (pc' := 245) (by decide) (by decide) ?_
 exact kj T X (1 : Int32) trivial
set_option maxRecDepth 65536 in
set_option maxHeartbeats 40000000 in
theorem tail2 (l : Launch) (Z : State) (aa : Array Value) (hw : ∀ d ∈ tables_1, d.before aa Z = true) {p : Program} {e : Env} {s : State} {m : MethodId} {args : Array Value} {below : List Frame} {meth : Method} {cc : Code} {T : State} {locs : List Loc} {h : Heap} {vm0 : Vm} {k0 : Nat} (n0 : Nat) (i0 i2 i3 s0 s1 s2 st t0 t1 t2 t3 t4 t5 G1 : Int32) (j1 : Int64) (sp tx : Addr) (s12 : Slot)
    (X : Sx Z x.cls code maxLocals p l e room_1 (s.setVm vm0) m args below meth cc T locs 2 8 h) (hS : s.Since vm0 k0) (hk : k0 ≤ h.size) (HC : CHv Z consts_1 vm0 h) (Z0 : n0 ≤ h.size) (N : Fr n0 locs) (hret : meth.sig.returnType = ret) (hlk : meth.locks = false) (qd : Av Z h sp .byte [(.int (nar .byte s0)), (.int (nar .byte s1))]) (qb : Av Z h tx .byte [(.int t0), (.int t1), (.int t2), (.int t3), (.int t4), (.int t5)]) (qg : Sta Z h "java/lang/String" "COMPACT_STRINGS" "Z" (.int G1)) (P5 : ¬ G1 = (0 : Int32)) (hst : st = 0 ∨ st = 1 ∨ st = 2 ∨ st = 3) (hs12 : One s12) (hn0 : nar .byte s0 = s0) (hn1 : nar .byte s1 = s1) (hn2 : nar .byte s2 = s2) :
    Go p e below (EndsW s (fun v h L => v = some (.int 1) ∧ Fr n0 L) room_1.cells room_1.slots) (T.setTop (mkF m 225 #[.val (.int i0), .val (.long j1), .second, .val (.int i2), .val (.int i3), .val (.int (2 : Int32)), .val (.int s0), .val (.int s1), .val (.int s2), .val (.ref sp), .val (.ref tx), .val (.int st), s12, .unset, .unset, .unset, .unset] [])) := by
 refine joinA X (α := Int32) (fun x1 => (mkF m 245 #[.val (.int i0), .val (.long j1), .second, .val (.int i2), .val (.int i3), .val (.int (2 : Int32)), .val (.int s0), .val (.int s1), .val (.int s2), .val (.ref sp), .val (.ref tx), .val (.int st), s12, .unset, .unset, .unset, .unset] [(.int x1)])) (fun _ => True) ?_ ?_
 clear X
 intro T X x1 _
 show Go p e below _ (T.setTop (mkF m 245 _ [(.int x1)]))
 refine g_istore X at_245 (pc' := 247) (Ls' := #[.val (.int i0), .val (.long j1), .second, .val (.int i2), .val (.int i3), .val (.int (2 : Int32)), .val (.int s0), .val (.int s1), .val (.int s2), .val (.ref sp), .val (.ref tx), .val (.int st), .val (.int x1), .unset, .unset, .unset, .unset]) rfl (os12 hs12 _ _ _ _ _ _ _ _ _ _ _ _) ?_
 refine joinA X (α := Int32) (fun x2 => (mkF m 261 #[.val (.int i0), .val (.long j1), .second, .val (.int i2), .val (.int i3), .val (.int (2 : Int32)), .val (.int s0), .val (.int s1), .val (.int s2), .val (.ref sp), .val (.ref tx), .val (.int st), .val (.int x1), .unset, .unset, .unset, .unset] [(.int x2)])) (fun _ => True) ?_ ?_
 clear X
 intro T X x2 _
 show Go p e below _ (T.setTop (mkF m 261 _ [(.int x2)]))
 refine g_istore X at_261 (pc' := 263) (Ls' := #[.val (.int i0), .val (.long j1), .second, .val (.int i2), .val (.int i3), .val (.int (2 : Int32)), .val (.int s0), .val (.int s1), .val (.int s2), .val (.ref sp), .val (.ref tx), .val (.int st), .val (.int x1), .val (.int x2), .unset, .unset, .unset]) rfl rfl ?_
 refine g_new X (tb hw 1 rfl) (tb hw 2 rfl) (tb hw 3 rfl) at_263 (pc' := 266) rfl (by decide) (by decide) ?_
 intro T h qa qp X Ex qc qe
 have qz : sp ≠ qa := Nat.ne_of_lt (by rw [qp]; exact qd.lt)
 have q2 : tx ≠ qa := Nat.ne_of_lt (by rw [qp]; exact qb.lt)
 have q3 : n0 ≤ qa := by rw [qp]; exact Z0
 replace qd := qd.ext Ex
 replace qb := qb.ext Ex
 replace qg := qg.ext Ex
 replace Z0 := Nat.le_trans Z0 Ex.1
 replace hk := Nat.le_trans hk Ex.1
 replace HC := CHv.ext Ex HC
 have qq : Fld Z h qa "com/example/scheherazade/scheherazade/core/XmlName" "qualified" "Ljava/lang/String;" .null := qe (Or.inr (tb hw 18 rfl)) (ty := (.object "java/lang/String")) (by decide)
 have qf : Fld Z h qa "com/example/scheherazade/scheherazade/core/XmlName" "spelling" "[B" .null := qe (Or.inr (tb hw 20 rfl)) (ty := (.array .byte)) (by decide)
 have qr : Fld Z h qa "com/example/scheherazade/scheherazade/core/XmlName" "hash" "I" (.int (0 : Int32)) := qe (Or.inr (tb hw 22 rfl)) (ty := .int) (by decide)
 have qs : Fld Z h qa "com/example/scheherazade/scheherazade/core/XmlName" "shared" "Z" (.int (0 : Int32)) := qe (Or.inr (tb hw 24 rfl)) (ty := .boolean) (by decide)
 have qt : Fld Z h qa "com/example/scheherazade/scheherazade/core/XmlName" "head" "J" (.long (0 : Int64)) := qe (Or.inr (tb hw 30 rfl)) (ty := .long) (by decide)
 have qu : Fld Z h qa "com/example/scheherazade/scheherazade/core/XmlName" "headMask" "J" (.long (0 : Int64)) := qe (Or.inr (tb hw 32 rfl)) (ty := .long) (by decide)
 have qv : Fld Z h qa "com/example/scheherazade/scheherazade/core/XmlName" "prefix" "Ljava/lang/String;" .null := qe (Or.inr (tb hw 76 rfl)) (ty := (.object "java/lang/String")) (by decide)
 have qw : Fld Z h qa "com/example/scheherazade/scheherazade/core/XmlName" "local" "Ljava/lang/String;" .null := qe (Or.inr (tb hw 78 rfl)) (ty := (.object "java/lang/String")) (by decide)
 have qx : Fld Z h qa "com/example/scheherazade/scheherazade/core/XmlName" "declaring" "Z" (.int (0 : Int32)) := qe (Or.inr (tb hw 91 rfl)) (ty := .boolean) (by decide)
 refine g_dup X at_266 (pc' := 267) rfl rfl ?_
 refine g_ldcH X hS hk (elw hw) (List.mem_of_getElem? (i := 1) rfl) HC (tb hw 4 rfl) (sAt hw) (vs := [(.int (97 : Int32))]) (z := (1 : Int32)) ⟨by decide +kernel, by first | rfl | decide +kernel⟩ (by decide) rfl at_267 (pc' := 269) rfl (n := 4) (by decide +kernel) (by decide) (by decide) (by decide) ?_
 intro qy T h k1 q4 X Ex hS hk q5 q6 q7 q8 HRn SF
 replace qd := qd.ext Ex
 replace qb := qb.ext Ex
 replace qc := qc.ext Ex
 replace qq := qq.ext Ex
 replace qf := qf.ext Ex
 replace qr := qr.ext Ex
 replace qs := qs.ext Ex
 replace qt := qt.ext Ex
 replace qu := qu.ext Ex
 replace qv := qv.ext Ex
 replace qw := qw.ext Ex
 replace qx := qx.ext Ex
 replace qg := qg.ext Ex
 replace Z0 := Nat.le_trans Z0 Ex.1
 replace HC := HRn.1
 obtain ⟨q9, ja⟩ := SF qa (Safe.exa (State.Warmed39.alike X.2.2.2.2.2.1) qc (by decide) (by decide))
 show Go p e below _ (T.setTop (mkF m 269 _ [(.ref qy), (.ref qa), (.ref qa)]))
 refine g_aload X at_269 (pc' := 271) rfl rfl rfl ?_
 refine g_iload X at_271 (pc' := 273) rfl rfl ?_
 refine g_iload X at_273 (pc' := 275) rfl rfl ?_
 refine g_specialH X hS hk (elw hw) HC (W := 1) (a := qa) [(.ref qy), (.ref sp), (.int i3), (.int x2)] [(.ref qa)] rfl (tb hw 11 rfl) (tb hw 12 rfl) (tb hw 3 rfl) (tb hw 13 rfl) (rInit2 l Z aa hw [] qa qy sp i3 x2 G1 q4 (nar .byte s0) (nar .byte s1) _ n0 Z0 qc qq qf qr qs qt qu qv qw qx q5 q6 q7 q8 qd q3 (Ne.symm q9) (Ne.symm ja) qz qg P5) at_275 (pc' := 278) rfl (by decide) (by decide) (by decide) rfl rfl rfl (lenOf pd_9 rfl) (Nat.le_refl _) (by decide) (by decide) ?_
 intro v T L X q k1 hS hk HRn
 replace HC := HRn.1
 obtain ⟨rfl, Nq, Kq, jb, jc⟩ := q
 replace N := N.app Nq
 replace qd := qd.keep Kq (ninS qz nin0)
 replace qb := qb.keep Kq (ninS q2 nin0)
 replace Z0 := Nat.le_trans Z0 Kq.1
 replace qc := jb
 replace qf := jc
 show Go p e below _ (T.setTop (mkF m 278 _ [(.ref qa)]))
 refine g_astore X at_278 (pc' := 280) (Ls' := #[.val (.int i0), .val (.long j1), .second, .val (.int i2), .val (.int i3), .val (.int (2 : Int32)), .val (.int s0), .val (.int s1), .val (.int s2), .val (.ref sp), .val (.ref tx), .val (.int st), .val (.int x1), .val (.int x2), .val (.ref qa), .unset, .unset]) rfl rfl rfl ?_
 by_cases hl : (2 : Int32) = x1
 subst hl
 show Go p e below _ (T.setTop (mkF m 280 _ []))
 rcases (hst : st = (0 : Int32) ∨ st = (1 : Int32) ∨ st = (2 : Int32) ∨ st = (3 : Int32)) with hs | hs | hs | hs
 subst hs
 show Go p e below _ (T.setTop (mkF m 280 _ []))
 refine g_aload X at_280 (pc' := 282) rfl rfl rfl ?_
 refine g_aload X at_282 (pc' := 284) rfl rfl rfl ?_
 refine g_iload X at_284 (pc' := 286) rfl rfl ?_
 refine g_iload X at_286 (pc' := 288) rfl rfl ?_
 refine g_virtual X (W := 0) (a := qa) (C := "com/example/scheherazade/scheherazade/core/XmlName") [(.ref tx), (.int (0 : Int32)), (.int (2 : Int32))] [] qc (tb hw 92 rfl) (tb hw 93 rfl) (tb hw 95 rfl) (tb hw 94 rfl) (tb hw 3 rfl) (tb hw 96 rfl) (rIs20 l Z aa hw [] qa tx sp (nar .byte s0) (nar .byte s1) t0 t1 t2 t3 t4 t5 _ qc qf qd qb) at_288 (pc' := 291) rfl (by decide) (by decide) (by decide) rfl rfl rfl (lenOf pd_10 rfl) (Nat.le_refl _) (by decide) (by decide) ?_
 intro v T L X q
 obtain ⟨rfl, X⟩ := pureX X q
 show Go p e below _ (T.setTop (mkF m 291 _ [(.int (b2i (fIs20 (nar .byte s0) (nar .byte s1) t0 t1 t2 t3 t4 t5)))]))
 refine g_istore X at_291 (pc' := 293) (Ls' := #[.val (.int i0), .val (.long j1), .second, .val (.int i2), .val (.int i3), .val (.int (2 : Int32)), .val (.int s0), .val (.int s1), .val (.int s2), .val (.ref sp), .val (.ref tx), .val (.int (0 : Int32)), .val (.int (2 : Int32)), .val (.int x2), .val (.ref qa), .val (.int (b2i (fIs20 (nar .byte s0) (nar .byte s1) t0 t1 t2 t3 t4 t5))), .unset]) rfl rfl ?_
 refine g_iload X at_293 (pc' := 295) rfl rfl ?_
 refine g_iload X at_295 (pc' := 297) rfl rfl ?_
 refine g_icN X at_297 (teq (show (2 : Int32) = (2 : Int32) from (by decide))).2 (pc' := 300) rfl ?_
 refine g_iload X at_300 (pc' := 302) rfl rfl ?_
 refine g_iconst X (1 : Int32) at_302 (pc' := 303) rfl rfl ?_
 refine g_icN X at_303 (flt (show ¬ ((2 : Int32) < (1 : Int32)) from (by decide))).1 (pc' := 306) rfl ?_
 refine g_iload X at_306 (pc' := 308) rfl rfl ?_
 refine g_aload X at_308 (pc' := 310) rfl rfl rfl ?_
 refine g_iload X at_310 (pc' := 312) rfl rfl ?_
 refine g_baload X qb 0 at_312 (pc' := 313) rfl (by decide) (by decide) rfl ?_
 by_cases qh : s0 = t0
 refine g_icN X at_313 (teq qh).2 (pc' := 316) rfl ?_
 refine g_iload X at_316 (pc' := 318) rfl rfl ?_
 refine g_iconst X (2 : Int32) at_318 (pc' := 319) rfl rfl ?_
 refine g_icN X at_319 (flt (show ¬ ((2 : Int32) < (2 : Int32)) from (by decide))).1 (pc' := 322) rfl ?_
 refine g_iload X at_322 (pc' := 324) rfl rfl ?_
 refine g_aload X at_324 (pc' := 326) rfl rfl rfl ?_
 refine g_iload X at_326 (pc' := 328) rfl rfl ?_
 refine g_iconst X (1 : Int32) at_328 (pc' := 329) rfl rfl ?_
 refine g_iadd X at_329 (pc' := 330) rfl ?_
 refine Go.lit32 (z := (1 : Int32)) (by decide) ?_
 refine g_baload X qb 1 at_330 (pc' := 331) rfl (by decide) (by decide) rfl ?_
 by_cases ql : s1 = t1
 refine g_icN X at_331 (teq ql).2 (pc' := 334) rfl ?_
 refine g_iload X at_334 (pc' := 336) rfl rfl ?_
 refine g_iconst X (3 : Int32) at_336 (pc' := 337) rfl rfl ?_
 refine g_icY X at_337 (tlt (show (2 : Int32) < (3 : Int32) from (by decide))).1 (pc' := 352) (by decide) (by decide) ?_
 refine g_iconst X (1 : Int32) at_352 (pc' := 353) rfl rfl ?_
 refine g_goto X at_353 (pc' := 357) (by decide) (by decide) ?_
 refine g_istore X at_357 (pc' := 359) (Ls' := #[.val (.int i0), .val (.long j1), .second, .val (.int i2), .val (.int i3), .val (.int (2 : Int32)), .val (.int s0), .val (.int s1), .val (.int s2), .val (.ref sp), .val (.ref tx), .val (.int (0 : Int32)), .val (.int (2 : Int32)), .val (.int x2), .val (.ref qa), .val (.int (b2i (fIs20 (nar .byte s0) (nar .byte s1) t0 t1 t2 t3 t4 t5))), .val (.int (1 : Int32))]) rfl rfl ?_
 refine g_iload X at_359 (pc' := 361) rfl rfl ?_
 refine g_iload X at_361 (pc' := 363) rfl rfl ?_
 refine g_icN X at_363 (teq (show (b2i (fIs20 (nar .byte s0) (nar .byte s1) t0 t1 t2 t3 t4 t5)) = (1 : Int32) from (by rw [hn0, hn1]; simp [fIs20, b2i, or0, xor0, zor, qh, ql]))).2 (pc' := 366) rfl ?_
 refine g_iconst X (1 : Int32) at_366 (pc' := 367) rfl rfl ?_
 refine g_goto X at_367 (pc' := 371) (by decide) (by decide) ?_
 refine g_ireturnNW X hS hk (t := .boolean) (by simp) at_371 hret hlk (by decide) (by decide) ?_
 exact ⟨rfl, N⟩
 refine g_icY X at_331 (feq ql).2 (pc' := 356) (by decide) (by decide) ?_
 refine g_iconst X (0 : Int32) at_356 (pc' := 357) rfl rfl ?_
 refine g_istore X at_357 (pc' := 359) (Ls' := #[.val (.int i0), .val (.long j1), .second, .val (.int i2), .val (.int i3), .val (.int (2 : Int32)), .val (.int s0), .val (.int s1), .val (.int s2), .val (.ref sp), .val (.ref tx), .val (.int (0 : Int32)), .val (.int (2 : Int32)), .val (.int x2), .val (.ref qa), .val (.int (b2i (fIs20 (nar .byte s0) (nar .byte s1) t0 t1 t2 t3 t4 t5))), .val (.int (0 : Int32))]) rfl rfl ?_
 refine g_iload X at_359 (pc' := 361) rfl rfl ?_
 refine g_iload X at_361 (pc' := 363) rfl rfl ?_
 refine g_icN X at_363 (teq (show (b2i (fIs20 (nar .byte s0) (nar .byte s1) t0 t1 t2 t3 t4 t5)) = (0 : Int32) from (by rw [hn0, hn1]; simp [fIs20, b2i, or0, xor0, zor, qh, ql]))).2 (pc' := 366) rfl ?_
 refine g_iconst X (1 : Int32) at_366 (pc' := 367) rfl rfl ?_
 refine g_goto X at_367 (pc' := 371) (by decide) (by decide) ?_
 refine g_ireturnNW X hS hk (t := .boolean) (by simp) at_371 hret hlk (by decide) (by decide) ?_
 exact ⟨rfl, N⟩
 refine g_icY X at_313 (feq qh).2 (pc' := 356) (by decide) (by decide) ?_
 refine g_iconst X (0 : Int32) at_356 (pc' := 357) rfl rfl ?_
 refine g_istore X at_357 (pc' := 359) (Ls' := #[.val (.int i0), .val (.long j1), .second, .val (.int i2), .val (.int i3), .val (.int (2 : Int32)), .val (.int s0), .val (.int s1), .val (.int s2), .val (.ref sp), .val (.ref tx), .val (.int (0 : Int32)), .val (.int (2 : Int32)), .val (.int x2), .val (.ref qa), .val (.int (b2i (fIs20 (nar .byte s0) (nar .byte s1) t0 t1 t2 t3 t4 t5))), .val (.int (0 : Int32))]) rfl rfl ?_
 refine g_iload X at_359 (pc' := 361) rfl rfl ?_
 refine g_iload X at_361 (pc' := 363) rfl rfl ?_
 refine g_icN X at_363 (teq (show (b2i (fIs20 (nar .byte s0) (nar .byte s1) t0 t1 t2 t3 t4 t5)) = (0 : Int32) from (by rw [hn0, hn1]; simp [fIs20, b2i, or0, xor0, zor, qh]))).2 (pc' := 366) rfl ?_
 refine g_iconst X (1 : Int32) at_366 (pc' := 367) rfl rfl ?_
 refine g_goto X at_367 (pc' := 371) (by decide) (by decide) ?_
 refine g_ireturnNW X hS hk (t := .boolean) (by simp) at_371 hret hlk (by decide) (by decide) ?_
 exact ⟨rfl, N⟩
 subst hs
 show Go p e below _ (T.setTop (mkF m 280 _ []))
 refine g_aload X at_280 (pc' := 282) rfl rfl rfl ?_
 refine g_aload X at_282 (pc' := 284) rfl rfl rfl ?_
 refine g_iload X at_284 (pc' := 286) rfl rfl ?_
 refine g_iload X at_286 (pc' := 288) rfl rfl ?_
 refine g_virtual X (W := 0) (a := qa) (C := "com/example/scheherazade/scheherazade/core/XmlName") [(.ref tx), (.int (1 : Int32)), (.int (2 : Int32))] [] qc (tb hw 92 rfl) (tb hw 93 rfl) (tb hw 95 rfl) (tb hw 94 rfl) (tb hw 3 rfl) (tb hw 96 rfl) (rIs21 l Z aa hw [] qa tx sp (nar .byte s0) (nar .byte s1) t0 t1 t2 t3 t4 t5 _ qc qf qd qb) at_288 (pc' := 291) rfl (by decide) (by decide) (by decide) rfl rfl rfl (lenOf pd_10 rfl) (Nat.le_refl _) (by decide) (by decide) ?_
 intro v T L X q
 obtain ⟨rfl, X⟩ := pureX X q
 show Go p e below _ (T.setTop (mkF m 291 _ [(.int (b2i (fIs21 (nar .byte s0) (nar .byte s1) t0 t1 t2 t3 t4 t5)))]))
 refine g_istore X at_291 (pc' := 293) (Ls' := #[.val (.int i0), .val (.long j1), .second, .val (.int i2), .val (.int i3), .val (.int (2 : Int32)), .val (.int s0), .val (.int s1), .val (.int s2), .val (.ref sp), .val (.ref tx), .val (.int (1 : Int32)), .val (.int (2 : Int32)), .val (.int x2), .val (.ref qa), .val (.int (b2i (fIs21 (nar .byte s0) (nar .byte s1) t0 t1 t2 t3 t4 t5))), .unset]) rfl rfl ?_
 refine g_iload X at_293 (pc' := 295) rfl rfl ?_
 refine g_iload X at_295 (pc' := 297) rfl rfl ?_
 refine g_icN X at_297 (teq (show (2 : Int32) = (2 : Int32) from (by decide))).2 (pc' := 300) rfl ?_
 refine g_iload X at_300 (pc' := 302) rfl rfl ?_
 refine g_iconst X (1 : Int32) at_302 (pc' := 303) rfl rfl ?_
 refine g_icN X at_303 (flt (show ¬ ((2 : Int32) < (1 : Int32)) from (by decide))).1 (pc' := 306) rfl ?_
 refine g_iload X at_306 (pc' := 308) rfl rfl ?_
 refine g_aload X at_308 (pc' := 310) rfl rfl rfl ?_
 refine g_iload X at_310 (pc' := 312) rfl rfl ?_
 refine g_baload X qb 1 at_312 (pc' := 313) rfl (by decide) (by decide) rfl ?_
 by_cases qi : s0 = t1
 refine g_icN X at_313 (teq qi).2 (pc' := 316) rfl ?_
 refine g_iload X at_316 (pc' := 318) rfl rfl ?_
 refine g_iconst X (2 : Int32) at_318 (pc' := 319) rfl rfl ?_
 refine g_icN X at_319 (flt (show ¬ ((2 : Int32) < (2 : Int32)) from (by decide))).1 (pc' := 322) rfl ?_
 refine g_iload X at_322 (pc' := 324) rfl rfl ?_
 refine g_aload X at_324 (pc' := 326) rfl rfl rfl ?_
 refine g_iload X at_326 (pc' := 328) rfl rfl ?_
 refine g_iconst X (1 : Int32) at_328 (pc' := 329) rfl rfl ?_
 refine g_iadd X at_329 (pc' := 330) rfl ?_
 refine Go.lit32 (z := (2 : Int32)) (by decide) ?_
 refine g_baload X qb 2 at_330 (pc' := 331) rfl (by decide) (by decide) rfl ?_
 by_cases qm : s1 = t2
 refine g_icN X at_331 (teq qm).2 (pc' := 334) rfl ?_
 refine g_iload X at_334 (pc' := 336) rfl rfl ?_
 refine g_iconst X (3 : Int32) at_336 (pc' := 337) rfl rfl ?_
 refine g_icY X at_337 (tlt (show (2 : Int32) < (3 : Int32) from (by decide))).1 (pc' := 352) (by decide) (by decide) ?_
 refine g_iconst X (1 : Int32) at_352 (pc' := 353) rfl rfl ?_
 refine g_goto X at_353 (pc' := 357) (by decide) (by decide) ?_
 refine g_istore X at_357 (pc' := 359) (Ls' := #[.val (.int i0), .val (.long j1), .second, .val (.int i2), .val (.int i3), .val (.int (2 : Int32)), .val (.int s0), .val (.int s1), .val (.int s2), .val (.ref sp), .val (.ref tx), .val (.int (1 : Int32)), .val (.int (2 : Int32)), .val (.int x2), .val (.ref qa), .val (.int (b2i (fIs21 (nar .byte s0) (nar .byte s1) t0 t1 t2 t3 t4 t5))), .val (.int (1 : Int32))]) rfl rfl ?_
 refine g_iload X at_359 (pc' := 361) rfl rfl ?_
 refine g_iload X at_361 (pc' := 363) rfl rfl ?_
 refine g_icN X at_363 (teq (show (b2i (fIs21 (nar .byte s0) (nar .byte s1) t0 t1 t2 t3 t4 t5)) = (1 : Int32) from (by rw [hn0, hn1]; simp [fIs21, b2i, or0, xor0, zor, qi, qm]))).2 (pc' := 366) rfl ?_
 refine g_iconst X (1 : Int32) at_366 (pc' := 367) rfl rfl ?_
 refine g_goto X at_367 (pc' := 371) (by decide) (by decide) ?_
 refine g_ireturnNW X hS hk (t := .boolean) (by simp) at_371 hret hlk (by decide) (by decide) ?_
 exact ⟨rfl, N⟩
 refine g_icY X at_331 (feq qm).2 (pc' := 356) (by decide) (by decide) ?_
 refine g_iconst X (0 : Int32) at_356 (pc' := 357) rfl rfl ?_
 refine g_istore X at_357 (pc' := 359) (Ls' := #[.val (.int i0), .val (.long j1), .second, .val (.int i2), .val (.int i3), .val (.int (2 : Int32)), .val (.int s0), .val (.int s1), .val (.int s2), .val (.ref sp), .val (.ref tx), .val (.int (1 : Int32)), .val (.int (2 : Int32)), .val (.int x2), .val (.ref qa), .val (.int (b2i (fIs21 (nar .byte s0) (nar .byte s1) t0 t1 t2 t3 t4 t5))), .val (.int (0 : Int32))]) rfl rfl ?_
 refine g_iload X at_359 (pc' := 361) rfl rfl ?_
 refine g_iload X at_361 (pc' := 363) rfl rfl ?_
 refine g_icN X at_363 (teq (show (b2i (fIs21 (nar .byte s0) (nar .byte s1) t0 t1 t2 t3 t4 t5)) = (0 : Int32) from (by rw [hn0, hn1]; simp [fIs21, b2i, or0, xor0, zor, qi, qm]))).2 (pc' := 366) rfl ?_
 refine g_iconst X (1 : Int32) at_366 (pc' := 367) rfl rfl ?_
 refine g_goto X at_367 (pc' := 371) (by decide) (by decide) ?_
 refine g_ireturnNW X hS hk (t := .boolean) (by simp) at_371 hret hlk (by decide) (by decide) ?_
 exact ⟨rfl, N⟩
 refine g_icY X at_313 (feq qi).2 (pc' := 356) (by decide) (by decide) ?_
 refine g_iconst X (0 : Int32) at_356 (pc' := 357) rfl rfl ?_
 refine g_istore X at_357 (pc' := 359) (Ls' := #[.val (.int i0), .val (.long j1), .second, .val (.int i2), .val (.int i3), .val (.int (2 : Int32)), .val (.int s0), .val (.int s1), .val (.int s2), .val (.ref sp), .val (.ref tx), .val (.int (1 : Int32)), .val (.int (2 : Int32)), .val (.int x2), .val (.ref qa), .val (.int (b2i (fIs21 (nar .byte s0) (nar .byte s1) t0 t1 t2 t3 t4 t5))), .val (.int (0 : Int32))]) rfl rfl ?_
 refine g_iload X at_359 (pc' := 361) rfl rfl ?_
 refine g_iload X at_361 (pc' := 363) rfl rfl ?_
 refine g_icN X at_363 (teq (show (b2i (fIs21 (nar .byte s0) (nar .byte s1) t0 t1 t2 t3 t4 t5)) = (0 : Int32) from (by rw [hn0, hn1]; simp [fIs21, b2i, or0, xor0, zor, qi]))).2 (pc' := 366) rfl ?_
 refine g_iconst X (1 : Int32) at_366 (pc' := 367) rfl rfl ?_
 refine g_goto X at_367 (pc' := 371) (by decide) (by decide) ?_
 refine g_ireturnNW X hS hk (t := .boolean) (by simp) at_371 hret hlk (by decide) (by decide) ?_
 exact ⟨rfl, N⟩
 subst hs
 show Go p e below _ (T.setTop (mkF m 280 _ []))
 refine g_aload X at_280 (pc' := 282) rfl rfl rfl ?_
 refine g_aload X at_282 (pc' := 284) rfl rfl rfl ?_
 refine g_iload X at_284 (pc' := 286) rfl rfl ?_
 refine g_iload X at_286 (pc' := 288) rfl rfl ?_
 refine g_virtual X (W := 0) (a := qa) (C := "com/example/scheherazade/scheherazade/core/XmlName") [(.ref tx), (.int (2 : Int32)), (.int (2 : Int32))] [] qc (tb hw 92 rfl) (tb hw 93 rfl) (tb hw 95 rfl) (tb hw 94 rfl) (tb hw 3 rfl) (tb hw 96 rfl) (rIs22 l Z aa hw [] qa tx sp (nar .byte s0) (nar .byte s1) t0 t1 t2 t3 t4 t5 _ qc qf qd qb) at_288 (pc' := 291) rfl (by decide) (by decide) (by decide) rfl rfl rfl (lenOf pd_10 rfl) (Nat.le_refl _) (by decide) (by decide) ?_
 intro v T L X q
 obtain ⟨rfl, X⟩ := pureX X q
 show Go p e below _ (T.setTop (mkF m 291 _ [(.int (b2i (fIs22 (nar .byte s0) (nar .byte s1) t0 t1 t2 t3 t4 t5)))]))
 refine g_istore X at_291 (pc' := 293) (Ls' := #[.val (.int i0), .val (.long j1), .second, .val (.int i2), .val (.int i3), .val (.int (2 : Int32)), .val (.int s0), .val (.int s1), .val (.int s2), .val (.ref sp), .val (.ref tx), .val (.int (2 : Int32)), .val (.int (2 : Int32)), .val (.int x2), .val (.ref qa), .val (.int (b2i (fIs22 (nar .byte s0) (nar .byte s1) t0 t1 t2 t3 t4 t5))), .unset]) rfl rfl ?_
 refine g_iload X at_293 (pc' := 295) rfl rfl ?_
 refine g_iload X at_295 (pc' := 297) rfl rfl ?_
 refine g_icN X at_297 (teq (show (2 : Int32) = (2 : Int32) from (by decide))).2 (pc' := 300) rfl ?_
 refine g_iload X at_300 (pc' := 302) rfl rfl ?_
 refine g_iconst X (1 : Int32) at_302 (pc' := 303) rfl rfl ?_
 refine g_icN X at_303 (flt (show ¬ ((2 : Int32) < (1 : Int32)) from (by decide))).1 (pc' := 306) rfl ?_
 refine g_iload X at_306 (pc' := 308) rfl rfl ?_
 refine g_aload X at_308 (pc' := 310) rfl rfl rfl ?_
 refine g_iload X at_310 (pc' := 312) rfl rfl ?_
 refine g_baload X qb 2 at_312 (pc' := 313) rfl (by decide) (by decide) rfl ?_
 by_cases qj : s0 = t2
 refine g_icN X at_313 (teq qj).2 (pc' := 316) rfl ?_
 refine g_iload X at_316 (pc' := 318) rfl rfl ?_
 refine g_iconst X (2 : Int32) at_318 (pc' := 319) rfl rfl ?_
 refine g_icN X at_319 (flt (show ¬ ((2 : Int32) < (2 : Int32)) from (by decide))).1 (pc' := 322) rfl ?_
 refine g_iload X at_322 (pc' := 324) rfl rfl ?_
 refine g_aload X at_324 (pc' := 326) rfl rfl rfl ?_
 refine g_iload X at_326 (pc' := 328) rfl rfl ?_
 refine g_iconst X (1 : Int32) at_328 (pc' := 329) rfl rfl ?_
 refine g_iadd X at_329 (pc' := 330) rfl ?_
 refine Go.lit32 (z := (3 : Int32)) (by decide) ?_
 refine g_baload X qb 3 at_330 (pc' := 331) rfl (by decide) (by decide) rfl ?_
 by_cases qn : s1 = t3
 refine g_icN X at_331 (teq qn).2 (pc' := 334) rfl ?_
 refine g_iload X at_334 (pc' := 336) rfl rfl ?_
 refine g_iconst X (3 : Int32) at_336 (pc' := 337) rfl rfl ?_
 refine g_icY X at_337 (tlt (show (2 : Int32) < (3 : Int32) from (by decide))).1 (pc' := 352) (by decide) (by decide) ?_
 refine g_iconst X (1 : Int32) at_352 (pc' := 353) rfl rfl ?_
 refine g_goto X at_353 (pc' := 357) (by decide) (by decide) ?_
 refine g_istore X at_357 (pc' := 359) (Ls' := #[.val (.int i0), .val (.long j1), .second, .val (.int i2), .val (.int i3), .val (.int (2 : Int32)), .val (.int s0), .val (.int s1), .val (.int s2), .val (.ref sp), .val (.ref tx), .val (.int (2 : Int32)), .val (.int (2 : Int32)), .val (.int x2), .val (.ref qa), .val (.int (b2i (fIs22 (nar .byte s0) (nar .byte s1) t0 t1 t2 t3 t4 t5))), .val (.int (1 : Int32))]) rfl rfl ?_
 refine g_iload X at_359 (pc' := 361) rfl rfl ?_
 refine g_iload X at_361 (pc' := 363) rfl rfl ?_
 refine g_icN X at_363 (teq (show (b2i (fIs22 (nar .byte s0) (nar .byte s1) t0 t1 t2 t3 t4 t5)) = (1 : Int32) from (by rw [hn0, hn1]; simp [fIs22, b2i, or0, xor0, zor, qj, qn]))).2 (pc' := 366) rfl ?_
 refine g_iconst X (1 : Int32) at_366 (pc' := 367) rfl rfl ?_
 refine g_goto X at_367 (pc' := 371) (by decide) (by decide) ?_
 refine g_ireturnNW X hS hk (t := .boolean) (by simp) at_371 hret hlk (by decide) (by decide) ?_
 exact ⟨rfl, N⟩
 refine g_icY X at_331 (feq qn).2 (pc' := 356) (by decide) (by decide) ?_
 refine g_iconst X (0 : Int32) at_356 (pc' := 357) rfl rfl ?_
 refine g_istore X at_357 (pc' := 359) (Ls' := #[.val (.int i0), .val (.long j1), .second, .val (.int i2), .val (.int i3), .val (.int (2 : Int32)), .val (.int s0), .val (.int s1), .val (.int s2), .val (.ref sp), .val (.ref tx), .val (.int (2 : Int32)), .val (.int (2 : Int32)), .val (.int x2), .val (.ref qa), .val (.int (b2i (fIs22 (nar .byte s0) (nar .byte s1) t0 t1 t2 t3 t4 t5))), .val (.int (0 : Int32))]) rfl rfl ?_
 refine g_iload X at_359 (pc' := 361) rfl rfl ?_
 refine g_iload X at_361 (pc' := 363) rfl rfl ?_
 refine g_icN X at_363 (teq (show (b2i (fIs22 (nar .byte s0) (nar .byte s1) t0 t1 t2 t3 t4 t5)) = (0 : Int32) from (by rw [hn0, hn1]; simp [fIs22, b2i, or0, xor0, zor, qj, qn]))).2 (pc' := 366) rfl ?_
 refine g_iconst X (1 : Int32) at_366 (pc' := 367) rfl rfl ?_
 refine g_goto X at_367 (pc' := 371) (by decide) (by decide) ?_
 refine g_ireturnNW X hS hk (t := .boolean) (by simp) at_371 hret hlk (by decide) (by decide) ?_
 exact ⟨rfl, N⟩
 refine g_icY X at_313 (feq qj).2 (pc' := 356) (by decide) (by decide) ?_
 refine g_iconst X (0 : Int32) at_356 (pc' := 357) rfl rfl ?_
 refine g_istore X at_357 (pc' := 359) (Ls' := #[.val (.int i0), .val (.long j1), .second, .val (.int i2), .val (.int i3), .val (.int (2 : Int32)), .val (.int s0), .val (.int s1), .val (.int s2), .val (.ref sp), .val (.ref tx), .val (.int (2 : Int32)), .val (.int (2 : Int32)), .val (.int x2), .val (.ref qa), .val (.int (b2i (fIs22 (nar .byte s0) (nar .byte s1) t0 t1 t2 t3 t4 t5))), .val (.int (0 : Int32))]) rfl rfl ?_
 refine g_iload X at_359 (pc' := 361) rfl rfl ?_
 refine g_iload X at_361 (pc' := 363) rfl rfl ?_
 refine g_icN X at_363 (teq (show (b2i (fIs22 (nar .byte s0) (nar .byte s1) t0 t1 t2 t3 t4 t5)) = (0 : Int32) from (by rw [hn0, hn1]; simp [fIs22, b2i, or0, xor0, zor, qj]))).2 (pc' := 366) rfl ?_
 refine g_iconst X (1 : Int32) at_366 (pc' := 367) rfl rfl ?_
 refine g_goto X at_367 (pc' := 371) (by decide) (by decide) ?_
 refine g_ireturnNW X hS hk (t := .boolean) (by simp) at_371 hret hlk (by decide) (by decide) ?_
 exact ⟨rfl, N⟩
 subst hs
 show Go p e below _ (T.setTop (mkF m 280 _ []))
 refine g_aload X at_280 (pc' := 282) rfl rfl rfl ?_
 refine g_aload X at_282 (pc' := 284) rfl rfl rfl ?_
 refine g_iload X at_284 (pc' := 286) rfl rfl ?_
 refine g_iload X at_286 (pc' := 288) rfl rfl ?_
 refine g_virtual X (W := 0) (a := qa) (C := "com/example/scheherazade/scheherazade/core/XmlName") [(.ref tx), (.int (3 : Int32)), (.int (2 : Int32))] [] qc (tb hw 92 rfl) (tb hw 93 rfl) (tb hw 95 rfl) (tb hw 94 rfl) (tb hw 3 rfl) (tb hw 96 rfl) (rIs23 l Z aa hw [] qa tx sp (nar .byte s0) (nar .byte s1) t0 t1 t2 t3 t4 t5 _ qc qf qd qb) at_288 (pc' := 291) rfl (by decide) (by decide) (by decide) rfl rfl rfl (lenOf pd_10 rfl) (Nat.le_refl _) (by decide) (by decide) ?_
 intro v T L X q
 obtain ⟨rfl, X⟩ := pureX X q
 show Go p e below _ (T.setTop (mkF m 291 _ [(.int (b2i (fIs23 (nar .byte s0) (nar .byte s1) t0 t1 t2 t3 t4 t5)))]))
 refine g_istore X at_291 (pc' := 293) (Ls' := #[.val (.int i0), .val (.long j1), .second, .val (.int i2), .val (.int i3), .val (.int (2 : Int32)), .val (.int s0), .val (.int s1), .val (.int s2), .val (.ref sp), .val (.ref tx), .val (.int (3 : Int32)), .val (.int (2 : Int32)), .val (.int x2), .val (.ref qa), .val (.int (b2i (fIs23 (nar .byte s0) (nar .byte s1) t0 t1 t2 t3 t4 t5))), .unset]) rfl rfl ?_
 refine g_iload X at_293 (pc' := 295) rfl rfl ?_
 refine g_iload X at_295 (pc' := 297) rfl rfl ?_
 refine g_icN X at_297 (teq (show (2 : Int32) = (2 : Int32) from (by decide))).2 (pc' := 300) rfl ?_
 refine g_iload X at_300 (pc' := 302) rfl rfl ?_
 refine g_iconst X (1 : Int32) at_302 (pc' := 303) rfl rfl ?_
 refine g_icN X at_303 (flt (show ¬ ((2 : Int32) < (1 : Int32)) from (by decide))).1 (pc' := 306) rfl ?_
 refine g_iload X at_306 (pc' := 308) rfl rfl ?_
 refine g_aload X at_308 (pc' := 310) rfl rfl rfl ?_
 refine g_iload X at_310 (pc' := 312) rfl rfl ?_
 refine g_baload X qb 3 at_312 (pc' := 313) rfl (by decide) (by decide) rfl ?_
 by_cases qk : s0 = t3
 refine g_icN X at_313 (teq qk).2 (pc' := 316) rfl ?_
 refine g_iload X at_316 (pc' := 318) rfl rfl ?_
 refine g_iconst X (2 : Int32) at_318 (pc' := 319) rfl rfl ?_
 refine g_icN X at_319 (flt (show ¬ ((2 : Int32) < (2 : Int32)) from (by decide))).1 (pc' := 322) rfl ?_
 refine g_iload X at_322 (pc' := 324) rfl rfl ?_
 refine g_aload X at_324 (pc' := 326) rfl rfl rfl ?_
 refine g_iload X at_326 (pc' := 328) rfl rfl ?_
 refine g_iconst X (1 : Int32) at_328 (pc' := 329) rfl rfl ?_
 refine g_iadd X at_329 (pc' := 330) rfl ?_
 refine Go.lit32 (z := (4 : Int32)) (by decide) ?_
 refine g_baload X qb 4 at_330 (pc' := 331) rfl (by decide) (by decide) rfl ?_
 by_cases qo : s1 = t4
 refine g_icN X at_331 (teq qo).2 (pc' := 334) rfl ?_
 refine g_iload X at_334 (pc' := 336) rfl rfl ?_
 refine g_iconst X (3 : Int32) at_336 (pc' := 337) rfl rfl ?_
 refine g_icY X at_337 (tlt (show (2 : Int32) < (3 : Int32) from (by decide))).1 (pc' := 352) (by decide) (by decide) ?_
 refine g_iconst X (1 : Int32) at_352 (pc' := 353) rfl rfl ?_
 refine g_goto X at_353 (pc' := 357) (by decide) (by decide) ?_
 refine g_istore X at_357 (pc' := 359) (Ls' := #[.val (.int i0), .val (.long j1), .second, .val (.int i2), .val (.int i3), .val (.int (2 : Int32)), .val (.int s0), .val (.int s1), .val (.int s2), .val (.ref sp), .val (.ref tx), .val (.int (3 : Int32)), .val (.int (2 : Int32)), .val (.int x2), .val (.ref qa), .val (.int (b2i (fIs23 (nar .byte s0) (nar .byte s1) t0 t1 t2 t3 t4 t5))), .val (.int (1 : Int32))]) rfl rfl ?_
 refine g_iload X at_359 (pc' := 361) rfl rfl ?_
 refine g_iload X at_361 (pc' := 363) rfl rfl ?_
 refine g_icN X at_363 (teq (show (b2i (fIs23 (nar .byte s0) (nar .byte s1) t0 t1 t2 t3 t4 t5)) = (1 : Int32) from (by rw [hn0, hn1]; simp [fIs23, b2i, or0, xor0, zor, qk, qo]))).2 (pc' := 366) rfl ?_
 refine g_iconst X (1 : Int32) at_366 (pc' := 367) rfl rfl ?_
 refine g_goto X at_367 (pc' := 371) (by decide) (by decide) ?_
 refine g_ireturnNW X hS hk (t := .boolean) (by simp) at_371 hret hlk (by decide) (by decide) ?_
 exact ⟨rfl, N⟩
 refine g_icY X at_331 (feq qo).2 (pc' := 356) (by decide) (by decide) ?_
 refine g_iconst X (0 : Int32) at_356 (pc' := 357) rfl rfl ?_
 refine g_istore X at_357 (pc' := 359) (Ls' := #[.val (.int i0), .val (.long j1), .second, .val (.int i2), .val (.int i3), .val (.int (2 : Int32)), .val (.int s0), .val (.int s1), .val (.int s2), .val (.ref sp), .val (.ref tx), .val (.int (3 : Int32)), .val (.int (2 : Int32)), .val (.int x2), .val (.ref qa), .val (.int (b2i (fIs23 (nar .byte s0) (nar .byte s1) t0 t1 t2 t3 t4 t5))), .val (.int (0 : Int32))]) rfl rfl ?_
 refine g_iload X at_359 (pc' := 361) rfl rfl ?_
 refine g_iload X at_361 (pc' := 363) rfl rfl ?_
 refine g_icN X at_363 (teq (show (b2i (fIs23 (nar .byte s0) (nar .byte s1) t0 t1 t2 t3 t4 t5)) = (0 : Int32) from (by rw [hn0, hn1]; simp [fIs23, b2i, or0, xor0, zor, qk, qo]))).2 (pc' := 366) rfl ?_
 refine g_iconst X (1 : Int32) at_366 (pc' := 367) rfl rfl ?_
 refine g_goto X at_367 (pc' := 371) (by decide) (by decide) ?_
 refine g_ireturnNW X hS hk (t := .boolean) (by simp) at_371 hret hlk (by decide) (by decide) ?_
 exact ⟨rfl, N⟩
 refine g_icY X at_313 (feq qk).2 (pc' := 356) (by decide) (by decide) ?_
 refine g_iconst X (0 : Int32) at_356 (pc' := 357) rfl rfl ?_
 refine g_istore X at_357 (pc' := 359) (Ls' := #[.val (.int i0), .val (.long j1), .second, .val (.int i2), .val (.int i3), .val (.int (2 : Int32)), .val (.int s0), .val (.int s1), .val (.int s2), .val (.ref sp), .val (.ref tx), .val (.int (3 : Int32)), .val (.int (2 : Int32)), .val (.int x2), .val (.ref qa), .val (.int (b2i (fIs23 (nar .byte s0) (nar .byte s1) t0 t1 t2 t3 t4 t5))), .val (.int (0 : Int32))]) rfl rfl ?_
 refine g_iload X at_359 (pc' := 361) rfl rfl ?_
 refine g_iload X at_361 (pc' := 363) rfl rfl ?_
 refine g_icN X at_363 (teq (show (b2i (fIs23 (nar .byte s0) (nar .byte s1) t0 t1 t2 t3 t4 t5)) = (0 : Int32) from (by rw [hn0, hn1]; simp [fIs23, b2i, or0, xor0, zor, qk]))).2 (pc' := 366) rfl ?_
 refine g_iconst X (1 : Int32) at_366 (pc' := 367) rfl rfl ?_
 refine g_goto X at_367 (pc' := 371) (by decide) (by decide) ?_
 refine g_ireturnNW X hS hk (t := .boolean) (by simp) at_371 hret hlk (by decide) (by decide) ?_
 exact ⟨rfl, N⟩
 refine g_aload X at_280 (pc' := 282) rfl rfl rfl ?_
 refine g_aload X at_282 (pc' := 284) rfl rfl rfl ?_
 refine g_iload X at_284 (pc' := 286) rfl rfl ?_
 refine g_iload X at_286 (pc' := 288) rfl rfl ?_
 refine g_virtual X (W := 0) (a := qa) (C := "com/example/scheherazade/scheherazade/core/XmlName") [(.ref tx), (.int st), (.int x1)] [] qc (tb hw 92 rfl) (tb hw 93 rfl) (tb hw 95 rfl) (tb hw 94 rfl) (tb hw 3 rfl) (tb hw 96 rfl) (rIsN2 l Z aa hw [] qa tx st x1 sp (nar .byte s0) (nar .byte s1) t0 t1 t2 t3 t4 t5 _ qc qf qd qb hl) at_288 (pc' := 291) rfl (by decide) (by decide) (by decide) rfl rfl rfl (lenOf pd_10 rfl) (Nat.le_refl _) (by decide) (by decide) ?_
 intro v T L X q
 obtain ⟨rfl, X⟩ := pureX X q
 show Go p e below _ (T.setTop (mkF m 291 _ [(.int (0 : Int32))]))
 refine g_istore X at_291 (pc' := 293) (Ls' := #[.val (.int i0), .val (.long j1), .second, .val (.int i2), .val (.int i3), .val (.int (2 : Int32)), .val (.int s0), .val (.int s1), .val (.int s2), .val (.ref sp), .val (.ref tx), .val (.int st), .val (.int x1), .val (.int x2), .val (.ref qa), .val (.int (0 : Int32)), .unset]) rfl rfl ?_
 refine g_iload X at_293 (pc' := 295) rfl rfl ?_
 refine g_iload X at_295 (pc' := 297) rfl rfl ?_
 refine g_icY X at_297 (feq (show ¬ ((2 : Int32) = x1) from hl)).2 (pc' := 356) (by decide) (by decide) ?_
 refine g_iconst X (0 : Int32) at_356 (pc' := 357) rfl rfl ?_
 refine g_istore X at_357 (pc' := 359) (Ls' := #[.val (.int i0), .val (.long j1), .second, .val (.int i2), .val (.int i3), .val (.int (2 : Int32)), .val (.int s0), .val (.int s1), .val (.int s2), .val (.ref sp), .val (.ref tx), .val (.int st), .val (.int x1), .val (.int x2), .val (.ref qa), .val (.int (0 : Int32)), .val (.int (0 : Int32))]) rfl rfl ?_
 refine g_iload X at_359 (pc' := 361) rfl rfl ?_
 refine g_iload X at_361 (pc' := 363) rfl rfl ?_
 refine g_icN X at_363 (teq (show (0 : Int32) = (0 : Int32) from rfl)).2 (pc' := 366) rfl ?_
 refine g_iconst X (1 : Int32) at_366 (pc' := 367) rfl rfl ?_
 refine g_goto X at_367 (pc' := 371) (by decide) (by decide) ?_
 refine g_ireturnNW X hS hk (t := .boolean) (by simp) at_371 hret hlk (by decide) (by decide) ?_
 exact ⟨rfl, N⟩
 intro kj
 refine g_iloadN X at_247 (pc' := 248) rfl rfl ?_
 refine g_bipush X (11 : Int32) at_248 (pc' := 250) rfl rfl ?_
 refine g_iushr X at_250 (pc' := 251) rfl ?_
 refine g_iconst X (1 : Int32) at_251 (pc' := 252) rfl rfl ?_
 refine g_iand X at_252 (pc' := 253) rfl ?_
 by_cases q0 : (((i2.toUInt32 >>> ((11 : Int32) &&& 31).toUInt32).toInt32) &&& (1 : Int32)) = (0 : Int32)
 refine g_ifY X at_253 ((if0 _ _).trans (teq q0).1) (pc' := 260) (by decide) (by decide) ?_
 refine g_iconst X (0 : Int32) at_260 (pc' := 261) rfl rfl ?_
 exact kj T X (0 : Int32) trivial
 refine g_ifN X at_253 ((if0 _ _).trans (feq q0).1) (pc' := 256) rfl ?_
 refine g_iconst X (1 : Int32) at_256 (pc' := 257) rfl rfl ?_
 refine g_goto X at_257 (pc' := 261) (by decide) (by decide) ?_
 exact kj T X (1 : Int32) trivial
 intro kj
 refine g_iloadN X at_225 (pc' := 226) rfl rfl ?_
 refine g_bipush X (8 : Int32) at_226 (pc' := 228) rfl rfl ?_
 refine g_iushr X at_228 (pc' := 229) rfl ?_
 refine g_iconst X (1 : Int32) at_229 (pc' := 230) rfl rfl ?_
 refine g_iand X at_230 (pc' := 231) rfl ?_
 by_cases q1 : (((i2.toUInt32 >>> ((8 : Int32) &&& 31).toUInt32).toInt32) &&& (1 : Int32)) = (0 : Int32)
 refine g_ifY X at_231 ((if0 _ _).trans (teq q1).1) (pc' := 239) (by decide) (by decide) ?_
 refine g_iloadN X at_239 (pc' := 240) rfl rfl ?_
 refine g_bipush X (9 : Int32) at_240 (pc' := 242) rfl rfl ?_
 refine g_iushr X at_242 (pc' := 243) rfl ?_
 refine g_iconst X (3 : Int32) at_243 (pc' := 244) rfl rfl ?_
 refine g_iand X at_244 (pc' := 245) rfl ?_
 exact kj T X (((i2.toUInt32 >>> ((9 : Int32) &&& 31).toUInt32).toInt32) &&& (3 : Int32)) trivial
 refine g_ifN X at_231 ((if0 _ _).trans (feq q1).1) (pc' := 234) rfl ?_
 refine g_iload X at_234 (pc' := 236) rfl rfl ?_
 refine g_goto X at_236 (pc' := 245) (by decide) (by decide) ?_
 exact kj T X (2 : Int32) trivial
set_option maxRecDepth 65536 in
set_option maxHeartbeats 40000000 in
theorem tail3 (l : Launch) (Z : State) (aa : Array Value) (hw : ∀ d ∈ tables_1, d.before aa Z = true) {p : Program} {e : Env} {s : State} {m : MethodId} {args : Array Value} {below : List Frame} {meth : Method} {cc : Code} {T : State} {locs : List Loc} {h : Heap} {vm0 : Vm} {k0 : Nat} (n0 : Nat) (i0 i2 i3 s0 s1 s2 st t0 t1 t2 t3 t4 t5 G1 : Int32) (j1 : Int64) (sp tx : Addr) (s12 : Slot)
    (X : Sx Z x.cls code maxLocals p l e room_1 (s.setVm vm0) m args below meth cc T locs 2 9 h) (hS : s.Since vm0 k0) (hk : k0 ≤ h.size) (HC : CHv Z consts_1 vm0 h) (Z0 : n0 ≤ h.size) (N : Fr n0 locs) (hret : meth.sig.returnType = ret) (hlk : meth.locks = false) (qd : Av Z h sp .byte [(.int (nar .byte s0)), (.int (nar .byte s1)), (.int (nar .byte s2))]) (qb : Av Z h tx .byte [(.int t0), (.int t1), (.int t2), (.int t3), (.int t4), (.int t5)]) (qk : Sta Z h "java/lang/String" "COMPACT_STRINGS" "Z" (.int G1)) (P5 : ¬ G1 = (0 : Int32)) (hst : st = 0 ∨ st = 1 ∨ st = 2 ∨ st = 3) (hs12 : One s12) (hn0 : nar .byte s0 = s0) (hn1 : nar .byte s1 = s1) (hn2 : nar .byte s2 = s2) :
    Go p e below (EndsW s (fun v h L => v = some (.int 1) ∧ Fr n0 L) room_1.cells room_1.slots) (T.setTop (mkF m 225 #[.val (.int i0), .val (.long j1), .second, .val (.int i2), .val (.int i3), .val (.int (3 : Int32)), .val (.int s0), .val (.int s1), .val (.int s2), .val (.ref sp), .val (.ref tx), .val (.int st), s12, .unset, .unset, .unset, .unset] [])) := by
 refine joinA X (α := Int32) (fun x1 => (mkF m 245 #[.val (.int i0), .val (.long j1), .second, .val (.int i2), .val (.int i3), .val (.int (3 : Int32)), .val (.int s0), .val (.int s1), .val (.int s2), .val (.ref sp), .val (.ref tx), .val (.int st), s12, .unset, .unset, .unset, .unset] [(.int x1)])) (fun _ => True) ?_ ?_
 clear X
 intro T X x1 _
 show Go p e below _ (T.setTop (mkF m 245 _ [(.int x1)]))
 refine g_istore X at_245 (pc' := 247) (Ls' := #[.val (.int i0), .val (.long j1), .second, .val (.int i2), .val (.int i3), .val (.int (3 : Int32)), .val (.int s0), .val (.int s1), .val (.int s2), .val (.ref sp), .val (.ref tx), .val (.int st), .val (.int x1), .unset, .unset, .unset, .unset]) rfl (os12 hs12 _ _ _ _ _ _ _ _ _ _ _ _) ?_
 refine joinA X (α := Int32) (fun x2 => (mkF m 261 #[.val (.int i0), .val (.long j1), .second, .val (.int i2), .val (.int i3), .val (.int (3 : Int32)), .val (.int s0), .val (.int s1), .val (.int s2), .val (.ref sp), .val (.ref tx), .val (.int st), .val (.int x1), .unset, .unset, .unset, .unset] [(.int x2)])) (fun _ => True) ?_ ?_
 clear X
 intro T X x2 _
 show Go p e below _ (T.setTop (mkF m 261 _ [(.int x2)]))
 refine g_istore X at_261 (pc' := 263) (Ls' := #[.val (.int i0), .val (.long j1), .second, .val (.int i2), .val (.int i3), .val (.int (3 : Int32)), .val (.int s0), .val (.int s1), .val (.int s2), .val (.ref sp), .val (.ref tx), .val (.int st), .val (.int x1), .val (.int x2), .unset, .unset, .unset]) rfl rfl ?_
 refine g_new X (tb hw 1 rfl) (tb hw 2 rfl) (tb hw 3 rfl) at_263 (pc' := 266) rfl (by decide) (by decide) ?_
 intro T h qa qt X Ex qc qe
 have q3 : sp ≠ qa := Nat.ne_of_lt (by rw [qt]; exact qd.lt)
 have q6 : tx ≠ qa := Nat.ne_of_lt (by rw [qt]; exact qb.lt)
 have q7 : n0 ≤ qa := by rw [qt]; exact Z0
 replace qd := qd.ext Ex
 replace qb := qb.ext Ex
 replace qk := qk.ext Ex
 replace Z0 := Nat.le_trans Z0 Ex.1
 replace hk := Nat.le_trans hk Ex.1
 replace HC := CHv.ext Ex HC
 have qu : Fld Z h qa "com/example/scheherazade/scheherazade/core/XmlName" "qualified" "Ljava/lang/String;" .null := qe (Or.inr (tb hw 18 rfl)) (ty := (.object "java/lang/String")) (by decide)
 have qf : Fld Z h qa "com/example/scheherazade/scheherazade/core/XmlName" "spelling" "[B" .null := qe (Or.inr (tb hw 20 rfl)) (ty := (.array .byte)) (by decide)
 have qv : Fld Z h qa "com/example/scheherazade/scheherazade/core/XmlName" "hash" "I" (.int (0 : Int32)) := qe (Or.inr (tb hw 22 rfl)) (ty := .int) (by decide)
 have qw : Fld Z h qa "com/example/scheherazade/scheherazade/core/XmlName" "shared" "Z" (.int (0 : Int32)) := qe (Or.inr (tb hw 24 rfl)) (ty := .boolean) (by decide)
 have qx : Fld Z h qa "com/example/scheherazade/scheherazade/core/XmlName" "head" "J" (.long (0 : Int64)) := qe (Or.inr (tb hw 30 rfl)) (ty := .long) (by decide)
 have qy : Fld Z h qa "com/example/scheherazade/scheherazade/core/XmlName" "headMask" "J" (.long (0 : Int64)) := qe (Or.inr (tb hw 32 rfl)) (ty := .long) (by decide)
 have qz : Fld Z h qa "com/example/scheherazade/scheherazade/core/XmlName" "prefix" "Ljava/lang/String;" .null := qe (Or.inr (tb hw 76 rfl)) (ty := (.object "java/lang/String")) (by decide)
 have q0 : Fld Z h qa "com/example/scheherazade/scheherazade/core/XmlName" "local" "Ljava/lang/String;" .null := qe (Or.inr (tb hw 78 rfl)) (ty := (.object "java/lang/String")) (by decide)
 have q1 : Fld Z h qa "com/example/scheherazade/scheherazade/core/XmlName" "declaring" "Z" (.int (0 : Int32)) := qe (Or.inr (tb hw 91 rfl)) (ty := .boolean) (by decide)
 refine g_dup X at_266 (pc' := 267) rfl rfl ?_
 refine g_ldcH X hS hk (elw hw) (List.mem_of_getElem? (i := 1) rfl) HC (tb hw 4 rfl) (sAt hw) (vs := [(.int (97 : Int32))]) (z := (1 : Int32)) ⟨by decide +kernel, by first | rfl | decide +kernel⟩ (by decide) rfl at_267 (pc' := 269) rfl (n := 4) (by decide +kernel) (by decide) (by decide) (by decide) ?_
 intro q2 T h k1 q8 X Ex hS hk q9 ja jb jc HRn SF
 replace qd := qd.ext Ex
 replace qb := qb.ext Ex
 replace qc := qc.ext Ex
 replace qu := qu.ext Ex
 replace qf := qf.ext Ex
 replace qv := qv.ext Ex
 replace qw := qw.ext Ex
 replace qx := qx.ext Ex
 replace qy := qy.ext Ex
 replace qz := qz.ext Ex
 replace q0 := q0.ext Ex
 replace q1 := q1.ext Ex
 replace qk := qk.ext Ex
 replace Z0 := Nat.le_trans Z0 Ex.1
 replace HC := HRn.1
 obtain ⟨jd, je⟩ := SF qa (Safe.exa (State.Warmed39.alike X.2.2.2.2.2.1) qc (by decide) (by decide))
 show Go p e below _ (T.setTop (mkF m 269 _ [(.ref q2), (.ref qa), (.ref qa)]))
 refine g_aload X at_269 (pc' := 271) rfl rfl rfl ?_
 refine g_iload X at_271 (pc' := 273) rfl rfl ?_
 refine g_iload X at_273 (pc' := 275) rfl rfl ?_
 refine g_specialH X hS hk (elw hw) HC (W := 1) (a := qa) [(.ref q2), (.ref sp), (.int i3), (.int x2)] [(.ref qa)] rfl (tb hw 11 rfl) (tb hw 12 rfl) (tb hw 3 rfl) (tb hw 13 rfl) (rInit3 l Z aa hw [] qa q2 sp i3 x2 G1 q8 (nar .byte s0) (nar .byte s1) (nar .byte s2) _ n0 Z0 qc qu qf qv qw qx qy qz q0 q1 q9 ja jb jc qd q7 (Ne.symm jd) (Ne.symm je) q3 qk P5) at_275 (pc' := 278) rfl (by decide) (by decide) (by decide) rfl rfl rfl (lenOf pd_9 rfl) (Nat.le_refl _) (by decide) (by decide) ?_
 intro v T L X q k1 hS hk HRn
 replace HC := HRn.1
 obtain ⟨rfl, Nq, Kq, jf, jg⟩ := q
 replace N := N.app Nq
 replace qd := qd.keep Kq (ninS q3 nin0)
 replace qb := qb.keep Kq (ninS q6 nin0)
 replace Z0 := Nat.le_trans Z0 Kq.1
 replace qc := jf
 replace qf := jg
 show Go p e below _ (T.setTop (mkF m 278 _ [(.ref qa)]))
 refine g_astore X at_278 (pc' := 280) (Ls' := #[.val (.int i0), .val (.long j1), .second, .val (.int i2), .val (.int i3), .val (.int (3 : Int32)), .val (.int s0), .val (.int s1), .val (.int s2), .val (.ref sp), .val (.ref tx), .val (.int st), .val (.int x1), .val (.int x2), .val (.ref qa), .unset, .unset]) rfl rfl rfl ?_
 by_cases hl : (3 : Int32) = x1
 subst hl
 show Go p e below _ (T.setTop (mkF m 280 _ []))
 rcases (hst : st = (0 : Int32) ∨ st = (1 : Int32) ∨ st = (2 : Int32) ∨ st = (3 : Int32)) with hs | hs | hs | hs
 subst hs
 show Go p e below _ (T.setTop (mkF m 280 _ []))
 refine g_aload X at_280 (pc' := 282) rfl rfl rfl ?_
 refine g_aload X at_282 (pc' := 284) rfl rfl rfl ?_
 refine g_iload X at_284 (pc' := 286) rfl rfl ?_
 refine g_iload X at_286 (pc' := 288) rfl rfl ?_
 refine g_virtual X (W := 0) (a := qa) (C := "com/example/scheherazade/scheherazade/core/XmlName") [(.ref tx), (.int (0 : Int32)), (.int (3 : Int32))] [] qc (tb hw 92 rfl) (tb hw 93 rfl) (tb hw 95 rfl) (tb hw 94 rfl) (tb hw 3 rfl) (tb hw 96 rfl) (rIs30 l Z aa hw [] qa tx sp (nar .byte s0) (nar .byte s1) (nar .byte s2) t0 t1 t2 t3 t4 t5 _ qc qf qd qb) at_288 (pc' := 291) rfl (by decide) (by decide) (by decide) rfl rfl rfl (lenOf pd_10 rfl) (Nat.le_refl _) (by decide) (by decide) ?_
 intro v T L X q
 obtain ⟨rfl, X⟩ := pureX X q
 show Go p e below _ (T.setTop (mkF m 291 _ [(.int (b2i (fIs30 (nar .byte s0) (nar .byte s1) (nar .byte s2) t0 t1 t2 t3 t4 t5)))]))
 refine g_istore X at_291 (pc' := 293) (Ls' := #[.val (.int i0), .val (.long j1), .second, .val (.int i2), .val (.int i3), .val (.int (3 : Int32)), .val (.int s0), .val (.int s1), .val (.int s2), .val (.ref sp), .val (.ref tx), .val (.int (0 : Int32)), .val (.int (3 : Int32)), .val (.int x2), .val (.ref qa), .val (.int (b2i (fIs30 (nar .byte s0) (nar .byte s1) (nar .byte s2) t0 t1 t2 t3 t4 t5))), .unset]) rfl rfl ?_
 refine g_iload X at_293 (pc' := 295) rfl rfl ?_
 refine g_iload X at_295 (pc' := 297) rfl rfl ?_
 refine g_icN X at_297 (teq (show (3 : Int32) = (3 : Int32) from (by decide))).2 (pc' := 300) rfl ?_
 refine g_iload X at_300 (pc' := 302) rfl rfl ?_
 refine g_iconst X (1 : Int32) at_302 (pc' := 303) rfl rfl ?_
 refine g_icN X at_303 (flt (show ¬ ((3 : Int32) < (1 : Int32)) from (by decide))).1 (pc' := 306) rfl ?_
 refine g_iload X at_306 (pc' := 308) rfl rfl ?_
 refine g_aload X at_308 (pc' := 310) rfl rfl rfl ?_
 refine g_iload X at_310 (pc' := 312) rfl rfl ?_
 refine g_baload X qb 0 at_312 (pc' := 313) rfl (by decide) (by decide) rfl ?_
 by_cases qg : s0 = t0
 refine g_icN X at_313 (teq qg).2 (pc' := 316) rfl ?_
 refine g_iload X at_316 (pc' := 318) rfl rfl ?_
 refine g_iconst X (2 : Int32) at_318 (pc' := 319) rfl rfl ?_
 refine g_icN X at_319 (flt (show ¬ ((3 : Int32) < (2 : Int32)) from (by decide))).1 (pc' := 322) rfl ?_
 refine g_iload X at_322 (pc' := 324) rfl rfl ?_
 refine g_aload X at_324 (pc' := 326) rfl rfl rfl ?_
 refine g_iload X at_326 (pc' := 328) rfl rfl ?_
 refine g_iconst X (1 : Int32) at_328 (pc' := 329) rfl rfl ?_
 refine g_iadd X at_329 (pc' := 330) rfl ?_
 refine Go.lit32 (z := (1 : Int32)) (by decide) ?_
 refine g_baload X qb 1 at_330 (pc' := 331) rfl (by decide) (by decide) rfl ?_
 by_cases ql : s1 = t1
 refine g_icN X at_331 (teq ql).2 (pc' := 334) rfl ?_
 refine g_iload X at_334 (pc' := 336) rfl rfl ?_
 refine g_iconst X (3 : Int32) at_336 (pc' := 337) rfl rfl ?_
 refine g_icN X at_337 (flt (show ¬ ((3 : Int32) < (3 : Int32)) from (by decide))).1 (pc' := 340) rfl ?_
 refine g_iload X at_340 (pc' := 342) rfl rfl ?_
 refine g_aload X at_342 (pc' := 344) rfl rfl rfl ?_
 refine g_iload X at_344 (pc' := 346) rfl rfl ?_
 refine g_iconst X (2 : Int32) at_346 (pc' := 347) rfl rfl ?_
 refine g_iadd X at_347 (pc' := 348) rfl ?_
 refine Go.lit32 (z := (2 : Int32)) (by decide) ?_
 refine g_baload X qb 2 at_348 (pc' := 349) rfl (by decide) (by decide) rfl ?_
 by_cases qp : s2 = t2
 refine g_icN X at_349 (teq qp).2 (pc' := 352) rfl ?_
 refine g_iconst X (1 : Int32) at_352 (pc' := 353) rfl rfl ?_
 refine g_goto X at_353 (pc' := 357) (by decide) (by decide) ?_
 refine g_istore X at_357 (pc' := 359) (Ls' := #[.val (.int i0), .val (.long j1), .second, .val (.int i2), .val (.int i3), .val (.int (3 : Int32)), .val (.int s0), .val (.int s1), .val (.int s2), .val (.ref sp), .val (.ref tx), .val (.int (0 : Int32)), .val (.int (3 : Int32)), .val (.int x2), .val (.ref qa), .val (.int (b2i (fIs30 (nar .byte s0) (nar .byte s1) (nar .byte s2) t0 t1 t2 t3 t4 t5))), .val (.int (1 : Int32))]) rfl rfl ?_
 refine g_iload X at_359 (pc' := 361) rfl rfl ?_
 refine g_iload X at_361 (pc' := 363) rfl rfl ?_
 refine g_icN X at_363 (teq (show (b2i (fIs30 (nar .byte s0) (nar .byte s1) (nar .byte s2) t0 t1 t2 t3 t4 t5)) = (1 : Int32) from (by rw [hn0, hn1, hn2]; simp [fIs30, b2i, or0, xor0, zor, qg, ql, qp]))).2 (pc' := 366) rfl ?_
 refine g_iconst X (1 : Int32) at_366 (pc' := 367) rfl rfl ?_
 refine g_goto X at_367 (pc' := 371) (by decide) (by decide) ?_
 refine g_ireturnNW X hS hk (t := .boolean) (by simp) at_371 hret hlk (by decide) (by decide) ?_
 exact ⟨rfl, N⟩
 refine g_icY X at_349 (feq qp).2 (pc' := 356) (by decide) (by decide) ?_
 refine g_iconst X (0 : Int32) at_356 (pc' := 357) rfl rfl ?_
 refine g_istore X at_357 (pc' := 359) (Ls' := #[.val (.int i0), .val (.long j1), .second, .val (.int i2), .val (.int i3), .val (.int (3 : Int32)), .val (.int s0), .val (.int s1), .val (.int s2), .val (.ref sp), .val (.ref tx), .val (.int (0 : Int32)), .val (.int (3 : Int32)), .val (.int x2), .val (.ref qa), .val (.int (b2i (fIs30 (nar .byte s0) (nar .byte s1) (nar .byte s2) t0 t1 t2 t3 t4 t5))), .val (.int (0 : Int32))]) rfl rfl ?_
 refine g_iload X at_359 (pc' := 361) rfl rfl ?_
 refine g_iload X at_361 (pc' := 363) rfl rfl ?_
 refine g_icN X at_363 (teq (show (b2i (fIs30 (nar .byte s0) (nar .byte s1) (nar .byte s2) t0 t1 t2 t3 t4 t5)) = (0 : Int32) from (by rw [hn0, hn1, hn2]; simp [fIs30, b2i, or0, xor0, zor, qg, ql, qp]))).2 (pc' := 366) rfl ?_
 refine g_iconst X (1 : Int32) at_366 (pc' := 367) rfl rfl ?_
 refine g_goto X at_367 (pc' := 371) (by decide) (by decide) ?_
 refine g_ireturnNW X hS hk (t := .boolean) (by simp) at_371 hret hlk (by decide) (by decide) ?_
 exact ⟨rfl, N⟩
 refine g_icY X at_331 (feq ql).2 (pc' := 356) (by decide) (by decide) ?_
 refine g_iconst X (0 : Int32) at_356 (pc' := 357) rfl rfl ?_
 refine g_istore X at_357 (pc' := 359) (Ls' := #[.val (.int i0), .val (.long j1), .second, .val (.int i2), .val (.int i3), .val (.int (3 : Int32)), .val (.int s0), .val (.int s1), .val (.int s2), .val (.ref sp), .val (.ref tx), .val (.int (0 : Int32)), .val (.int (3 : Int32)), .val (.int x2), .val (.ref qa), .val (.int (b2i (fIs30 (nar .byte s0) (nar .byte s1) (nar .byte s2) t0 t1 t2 t3 t4 t5))), .val (.int (0 : Int32))]) rfl rfl ?_
 refine g_iload X at_359 (pc' := 361) rfl rfl ?_
 refine g_iload X at_361 (pc' := 363) rfl rfl ?_
 refine g_icN X at_363 (teq (show (b2i (fIs30 (nar .byte s0) (nar .byte s1) (nar .byte s2) t0 t1 t2 t3 t4 t5)) = (0 : Int32) from (by rw [hn0, hn1, hn2]; simp [fIs30, b2i, or0, xor0, zor, qg, ql]))).2 (pc' := 366) rfl ?_
 refine g_iconst X (1 : Int32) at_366 (pc' := 367) rfl rfl ?_
 refine g_goto X at_367 (pc' := 371) (by decide) (by decide) ?_
 refine g_ireturnNW X hS hk (t := .boolean) (by simp) at_371 hret hlk (by decide) (by decide) ?_
 exact ⟨rfl, N⟩
 refine g_icY X at_313 (feq qg).2 (pc' := 356) (by decide) (by decide) ?_
 refine g_iconst X (0 : Int32) at_356 (pc' := 357) rfl rfl ?_
 refine g_istore X at_357 (pc' := 359) (Ls' := #[.val (.int i0), .val (.long j1), .second, .val (.int i2), .val (.int i3), .val (.int (3 : Int32)), .val (.int s0), .val (.int s1), .val (.int s2), .val (.ref sp), .val (.ref tx), .val (.int (0 : Int32)), .val (.int (3 : Int32)), .val (.int x2), .val (.ref qa), .val (.int (b2i (fIs30 (nar .byte s0) (nar .byte s1) (nar .byte s2) t0 t1 t2 t3 t4 t5))), .val (.int (0 : Int32))]) rfl rfl ?_
 refine g_iload X at_359 (pc' := 361) rfl rfl ?_
 refine g_iload X at_361 (pc' := 363) rfl rfl ?_
 refine g_icN X at_363 (teq (show (b2i (fIs30 (nar .byte s0) (nar .byte s1) (nar .byte s2) t0 t1 t2 t3 t4 t5)) = (0 : Int32) from (by rw [hn0, hn1, hn2]; simp [fIs30, b2i, or0, xor0, zor, qg]))).2 (pc' := 366) rfl ?_
 refine g_iconst X (1 : Int32) at_366 (pc' := 367) rfl rfl ?_
 refine g_goto X at_367 (pc' := 371) (by decide) (by decide) ?_
 refine g_ireturnNW X hS hk (t := .boolean) (by simp) at_371 hret hlk (by decide) (by decide) ?_
 exact ⟨rfl, N⟩
 subst hs
 show Go p e below _ (T.setTop (mkF m 280 _ []))
 refine g_aload X at_280 (pc' := 282) rfl rfl rfl ?_
 refine g_aload X at_282 (pc' := 284) rfl rfl rfl ?_
 refine g_iload X at_284 (pc' := 286) rfl rfl ?_
 refine g_iload X at_286 (pc' := 288) rfl rfl ?_
 refine g_virtual X (W := 0) (a := qa) (C := "com/example/scheherazade/scheherazade/core/XmlName") [(.ref tx), (.int (1 : Int32)), (.int (3 : Int32))] [] qc (tb hw 92 rfl) (tb hw 93 rfl) (tb hw 95 rfl) (tb hw 94 rfl) (tb hw 3 rfl) (tb hw 96 rfl) (rIs31 l Z aa hw [] qa tx sp (nar .byte s0) (nar .byte s1) (nar .byte s2) t0 t1 t2 t3 t4 t5 _ qc qf qd qb) at_288 (pc' := 291) rfl (by decide) (by decide) (by decide) rfl rfl rfl (lenOf pd_10 rfl) (Nat.le_refl _) (by decide) (by decide) ?_
 intro v T L X q
 obtain ⟨rfl, X⟩ := pureX X q
 show Go p e below _ (T.setTop (mkF m 291 _ [(.int (b2i (fIs31 (nar .byte s0) (nar .byte s1) (nar .byte s2) t0 t1 t2 t3 t4 t5)))]))
 refine g_istore X at_291 (pc' := 293) (Ls' := #[.val (.int i0), .val (.long j1), .second, .val (.int i2), .val (.int i3), .val (.int (3 : Int32)), .val (.int s0), .val (.int s1), .val (.int s2), .val (.ref sp), .val (.ref tx), .val (.int (1 : Int32)), .val (.int (3 : Int32)), .val (.int x2), .val (.ref qa), .val (.int (b2i (fIs31 (nar .byte s0) (nar .byte s1) (nar .byte s2) t0 t1 t2 t3 t4 t5))), .unset]) rfl rfl ?_
 refine g_iload X at_293 (pc' := 295) rfl rfl ?_
 refine g_iload X at_295 (pc' := 297) rfl rfl ?_
 refine g_icN X at_297 (teq (show (3 : Int32) = (3 : Int32) from (by decide))).2 (pc' := 300) rfl ?_
 refine g_iload X at_300 (pc' := 302) rfl rfl ?_
 refine g_iconst X (1 : Int32) at_302 (pc' := 303) rfl rfl ?_
 refine g_icN X at_303 (flt (show ¬ ((3 : Int32) < (1 : Int32)) from (by decide))).1 (pc' := 306) rfl ?_
 refine g_iload X at_306 (pc' := 308) rfl rfl ?_
 refine g_aload X at_308 (pc' := 310) rfl rfl rfl ?_
 refine g_iload X at_310 (pc' := 312) rfl rfl ?_
 refine g_baload X qb 1 at_312 (pc' := 313) rfl (by decide) (by decide) rfl ?_
 by_cases qh : s0 = t1
 refine g_icN X at_313 (teq qh).2 (pc' := 316) rfl ?_
 refine g_iload X at_316 (pc' := 318) rfl rfl ?_
 refine g_iconst X (2 : Int32) at_318 (pc' := 319) rfl rfl ?_
 refine g_icN X at_319 (flt (show ¬ ((3 : Int32) < (2 : Int32)) from (by decide))).1 (pc' := 322) rfl ?_
 refine g_iload X at_322 (pc' := 324) rfl rfl ?_
 refine g_aload X at_324 (pc' := 326) rfl rfl rfl ?_
 refine g_iload X at_326 (pc' := 328) rfl rfl ?_
 refine g_iconst X (1 : Int32) at_328 (pc' := 329) rfl rfl ?_
 refine g_iadd X at_329 (pc' := 330) rfl ?_
 refine Go.lit32 (z := (2 : Int32)) (by decide) ?_
 refine g_baload X qb 2 at_330 (pc' := 331) rfl (by decide) (by decide) rfl ?_
 by_cases qm : s1 = t2
 refine g_icN X at_331 (teq qm).2 (pc' := 334) rfl ?_
 refine g_iload X at_334 (pc' := 336) rfl rfl ?_
 refine g_iconst X (3 : Int32) at_336 (pc' := 337) rfl rfl ?_
 refine g_icN X at_337 (flt (show ¬ ((3 : Int32) < (3 : Int32)) from (by decide))).1 (pc' := 340) rfl ?_
 refine g_iload X at_340 (pc' := 342) rfl rfl ?_
 refine g_aload X at_342 (pc' := 344) rfl rfl rfl ?_
 refine g_iload X at_344 (pc' := 346) rfl rfl ?_
 refine g_iconst X (2 : Int32) at_346 (pc' := 347) rfl rfl ?_
 refine g_iadd X at_347 (pc' := 348) rfl ?_
 refine Go.lit32 (z := (3 : Int32)) (by decide) ?_
 refine g_baload X qb 3 at_348 (pc' := 349) rfl (by decide) (by decide) rfl ?_
 by_cases qq : s2 = t3
 refine g_icN X at_349 (teq qq).2 (pc' := 352) rfl ?_
 refine g_iconst X (1 : Int32) at_352 (pc' := 353) rfl rfl ?_
 refine g_goto X at_353 (pc' := 357) (by decide) (by decide) ?_
 refine g_istore X at_357 (pc' := 359) (Ls' := #[.val (.int i0), .val (.long j1), .second, .val (.int i2), .val (.int i3), .val (.int (3 : Int32)), .val (.int s0), .val (.int s1), .val (.int s2), .val (.ref sp), .val (.ref tx), .val (.int (1 : Int32)), .val (.int (3 : Int32)), .val (.int x2), .val (.ref qa), .val (.int (b2i (fIs31 (nar .byte s0) (nar .byte s1) (nar .byte s2) t0 t1 t2 t3 t4 t5))), .val (.int (1 : Int32))]) rfl rfl ?_
 refine g_iload X at_359 (pc' := 361) rfl rfl ?_
 refine g_iload X at_361 (pc' := 363) rfl rfl ?_
 refine g_icN X at_363 (teq (show (b2i (fIs31 (nar .byte s0) (nar .byte s1) (nar .byte s2) t0 t1 t2 t3 t4 t5)) = (1 : Int32) from (by rw [hn0, hn1, hn2]; simp [fIs31, b2i, or0, xor0, zor, qh, qm, qq]))).2 (pc' := 366) rfl ?_
 refine g_iconst X (1 : Int32) at_366 (pc' := 367) rfl rfl ?_
 refine g_goto X at_367 (pc' := 371) (by decide) (by decide) ?_
 refine g_ireturnNW X hS hk (t := .boolean) (by simp) at_371 hret hlk (by decide) (by decide) ?_
 exact ⟨rfl, N⟩
 refine g_icY X at_349 (feq qq).2 (pc' := 356) (by decide) (by decide) ?_
 refine g_iconst X (0 : Int32) at_356 (pc' := 357) rfl rfl ?_
 refine g_istore X at_357 (pc' := 359) (Ls' := #[.val (.int i0), .val (.long j1), .second, .val (.int i2), .val (.int i3), .val (.int (3 : Int32)), .val (.int s0), .val (.int s1), .val (.int s2), .val (.ref sp), .val (.ref tx), .val (.int (1 : Int32)), .val (.int (3 : Int32)), .val (.int x2), .val (.ref qa), .val (.int (b2i (fIs31 (nar .byte s0) (nar .byte s1) (nar .byte s2) t0 t1 t2 t3 t4 t5))), .val (.int (0 : Int32))]) rfl rfl ?_
 refine g_iload X at_359 (pc' := 361) rfl rfl ?_
 refine g_iload X at_361 (pc' := 363) rfl rfl ?_
 refine g_icN X at_363 (teq (show (b2i (fIs31 (nar .byte s0) (nar .byte s1) (nar .byte s2) t0 t1 t2 t3 t4 t5)) = (0 : Int32) from (by rw [hn0, hn1, hn2]; simp [fIs31, b2i, or0, xor0, zor, qh, qm, qq]))).2 (pc' := 366) rfl ?_
 refine g_iconst X (1 : Int32) at_366 (pc' := 367) rfl rfl ?_
 refine g_goto X at_367 (pc' := 371) (by decide) (by decide) ?_
 refine g_ireturnNW X hS hk (t := .boolean) (by simp) at_371 hret hlk (by decide) (by decide) ?_
 exact ⟨rfl, N⟩
 refine g_icY X at_331 (feq qm).2 (pc' := 356) (by decide) (by decide) ?_
 refine g_iconst X (0 : Int32) at_356 (pc' := 357) rfl rfl ?_
 refine g_istore X at_357 (pc' := 359) (Ls' := #[.val (.int i0), .val (.long j1), .second, .val (.int i2), .val (.int i3), .val (.int (3 : Int32)), .val (.int s0), .val (.int s1), .val (.int s2), .val (.ref sp), .val (.ref tx), .val (.int (1 : Int32)), .val (.int (3 : Int32)), .val (.int x2), .val (.ref qa), .val (.int (b2i (fIs31 (nar .byte s0) (nar .byte s1) (nar .byte s2) t0 t1 t2 t3 t4 t5))), .val (.int (0 : Int32))]) rfl rfl ?_
 refine g_iload X at_359 (pc' := 361) rfl rfl ?_
 refine g_iload X at_361 (pc' := 363) rfl rfl ?_
 refine g_icN X at_363 (teq (show (b2i (fIs31 (nar .byte s0) (nar .byte s1) (nar .byte s2) t0 t1 t2 t3 t4 t5)) = (0 : Int32) from (by rw [hn0, hn1, hn2]; simp [fIs31, b2i, or0, xor0, zor, qh, qm]))).2 (pc' := 366) rfl ?_
 refine g_iconst X (1 : Int32) at_366 (pc' := 367) rfl rfl ?_
 refine g_goto X at_367 (pc' := 371) (by decide) (by decide) ?_
 refine g_ireturnNW X hS hk (t := .boolean) (by simp) at_371 hret hlk (by decide) (by decide) ?_
 exact ⟨rfl, N⟩
 refine g_icY X at_313 (feq qh).2 (pc' := 356) (by decide) (by decide) ?_
 refine g_iconst X (0 : Int32) at_356 (pc' := 357) rfl rfl ?_
 refine g_istore X at_357 (pc' := 359) (Ls' := #[.val (.int i0), .val (.long j1), .second, .val (.int i2), .val (.int i3), .val (.int (3 : Int32)), .val (.int s0), .val (.int s1), .val (.int s2), .val (.ref sp), .val (.ref tx), .val (.int (1 : Int32)), .val (.int (3 : Int32)), .val (.int x2), .val (.ref qa), .val (.int (b2i (fIs31 (nar .byte s0) (nar .byte s1) (nar .byte s2) t0 t1 t2 t3 t4 t5))), .val (.int (0 : Int32))]) rfl rfl ?_
 refine g_iload X at_359 (pc' := 361) rfl rfl ?_
 refine g_iload X at_361 (pc' := 363) rfl rfl ?_
 refine g_icN X at_363 (teq (show (b2i (fIs31 (nar .byte s0) (nar .byte s1) (nar .byte s2) t0 t1 t2 t3 t4 t5)) = (0 : Int32) from (by rw [hn0, hn1, hn2]; simp [fIs31, b2i, or0, xor0, zor, qh]))).2 (pc' := 366) rfl ?_
 refine g_iconst X (1 : Int32) at_366 (pc' := 367) rfl rfl ?_
 refine g_goto X at_367 (pc' := 371) (by decide) (by decide) ?_
 refine g_ireturnNW X hS hk (t := .boolean) (by simp) at_371 hret hlk (by decide) (by decide) ?_
 exact ⟨rfl, N⟩
 subst hs
 show Go p e below _ (T.setTop (mkF m 280 _ []))
 refine g_aload X at_280 (pc' := 282) rfl rfl rfl ?_
 refine g_aload X at_282 (pc' := 284) rfl rfl rfl ?_
 refine g_iload X at_284 (pc' := 286) rfl rfl ?_
 refine g_iload X at_286 (pc' := 288) rfl rfl ?_
 refine g_virtual X (W := 0) (a := qa) (C := "com/example/scheherazade/scheherazade/core/XmlName") [(.ref tx), (.int (2 : Int32)), (.int (3 : Int32))] [] qc (tb hw 92 rfl) (tb hw 93 rfl) (tb hw 95 rfl) (tb hw 94 rfl) (tb hw 3 rfl) (tb hw 96 rfl) (rIs32 l Z aa hw [] qa tx sp (nar .byte s0) (nar .byte s1) (nar .byte s2) t0 t1 t2 t3 t4 t5 _ qc qf qd qb) at_288 (pc' := 291) rfl (by decide) (by decide) (by decide) rfl rfl rfl (lenOf pd_10 rfl) (Nat.le_refl _) (by decide) (by decide) ?_
 intro v T L X q
 obtain ⟨rfl, X⟩ := pureX X q
 show Go p e below _ (T.setTop (mkF m 291 _ [(.int (b2i (fIs32 (nar .byte s0) (nar .byte s1) (nar .byte s2) t0 t1 t2 t3 t4 t5)))]))
 refine g_istore X at_291 (pc' := 293) (Ls' := #[.val (.int i0), .val (.long j1), .second, .val (.int i2), .val (.int i3), .val (.int (3 : Int32)), .val (.int s0), .val (.int s1), .val (.int s2), .val (.ref sp), .val (.ref tx), .val (.int (2 : Int32)), .val (.int (3 : Int32)), .val (.int x2), .val (.ref qa), .val (.int (b2i (fIs32 (nar .byte s0) (nar .byte s1) (nar .byte s2) t0 t1 t2 t3 t4 t5))), .unset]) rfl rfl ?_
 refine g_iload X at_293 (pc' := 295) rfl rfl ?_
 refine g_iload X at_295 (pc' := 297) rfl rfl ?_
 refine g_icN X at_297 (teq (show (3 : Int32) = (3 : Int32) from (by decide))).2 (pc' := 300) rfl ?_
 refine g_iload X at_300 (pc' := 302) rfl rfl ?_
 refine g_iconst X (1 : Int32) at_302 (pc' := 303) rfl rfl ?_
 refine g_icN X at_303 (flt (show ¬ ((3 : Int32) < (1 : Int32)) from (by decide))).1 (pc' := 306) rfl ?_
 refine g_iload X at_306 (pc' := 308) rfl rfl ?_
 refine g_aload X at_308 (pc' := 310) rfl rfl rfl ?_
 refine g_iload X at_310 (pc' := 312) rfl rfl ?_
 refine g_baload X qb 2 at_312 (pc' := 313) rfl (by decide) (by decide) rfl ?_
 by_cases qi : s0 = t2
 refine g_icN X at_313 (teq qi).2 (pc' := 316) rfl ?_
 refine g_iload X at_316 (pc' := 318) rfl rfl ?_
 refine g_iconst X (2 : Int32) at_318 (pc' := 319) rfl rfl ?_
 refine g_icN X at_319 (flt (show ¬ ((3 : Int32) < (2 : Int32)) from (by decide))).1 (pc' := 322) rfl ?_
 refine g_iload X at_322 (pc' := 324) rfl rfl ?_
 refine g_aload X at_324 (pc' := 326) rfl rfl rfl ?_
 refine g_iload X at_326 (pc' := 328) rfl rfl ?_
 refine g_iconst X (1 : Int32) at_328 (pc' := 329) rfl rfl ?_
 refine g_iadd X at_329 (pc' := 330) rfl ?_
 refine Go.lit32 (z := (3 : Int32)) (by decide) ?_
 refine g_baload X qb 3 at_330 (pc' := 331) rfl (by decide) (by decide) rfl ?_
 by_cases qn : s1 = t3
 refine g_icN X at_331 (teq qn).2 (pc' := 334) rfl ?_
 refine g_iload X at_334 (pc' := 336) rfl rfl ?_
 refine g_iconst X (3 : Int32) at_336 (pc' := 337) rfl rfl ?_
 refine g_icN X at_337 (flt (show ¬ ((3 : Int32) < (3 : Int32)) from (by decide))).1 (pc' := 340) rfl ?_
 refine g_iload X at_340 (pc' := 342) rfl rfl ?_
 refine g_aload X at_342 (pc' := 344) rfl rfl rfl ?_
 refine g_iload X at_344 (pc' := 346) rfl rfl ?_
 refine g_iconst X (2 : Int32) at_346 (pc' := 347) rfl rfl ?_
 refine g_iadd X at_347 (pc' := 348) rfl ?_
 refine Go.lit32 (z := (4 : Int32)) (by decide) ?_
 refine g_baload X qb 4 at_348 (pc' := 349) rfl (by decide) (by decide) rfl ?_
 by_cases qr : s2 = t4
 refine g_icN X at_349 (teq qr).2 (pc' := 352) rfl ?_
 refine g_iconst X (1 : Int32) at_352 (pc' := 353) rfl rfl ?_
 refine g_goto X at_353 (pc' := 357) (by decide) (by decide) ?_
 refine g_istore X at_357 (pc' := 359) (Ls' := #[.val (.int i0), .val (.long j1), .second, .val (.int i2), .val (.int i3), .val (.int (3 : Int32)), .val (.int s0), .val (.int s1), .val (.int s2), .val (.ref sp), .val (.ref tx), .val (.int (2 : Int32)), .val (.int (3 : Int32)), .val (.int x2), .val (.ref qa), .val (.int (b2i (fIs32 (nar .byte s0) (nar .byte s1) (nar .byte s2) t0 t1 t2 t3 t4 t5))), .val (.int (1 : Int32))]) rfl rfl ?_
 refine g_iload X at_359 (pc' := 361) rfl rfl ?_
 refine g_iload X at_361 (pc' := 363) rfl rfl ?_
 refine g_icN X at_363 (teq (show (b2i (fIs32 (nar .byte s0) (nar .byte s1) (nar .byte s2) t0 t1 t2 t3 t4 t5)) = (1 : Int32) from (by rw [hn0, hn1, hn2]; simp [fIs32, b2i, or0, xor0, zor, qi, qn, qr]))).2 (pc' := 366) rfl ?_
 refine g_iconst X (1 : Int32) at_366 (pc' := 367) rfl rfl ?_
 refine g_goto X at_367 (pc' := 371) (by decide) (by decide) ?_
 refine g_ireturnNW X hS hk (t := .boolean) (by simp) at_371 hret hlk (by decide) (by decide) ?_
 exact ⟨rfl, N⟩
 refine g_icY X at_349 (feq qr).2 (pc' := 356) (by decide) (by decide) ?_
 refine g_iconst X (0 : Int32) at_356 (pc' := 357) rfl rfl ?_
 refine g_istore X at_357 (pc' := 359) (Ls' := #[.val (.int i0), .val (.long j1), .second, .val (.int i2), .val (.int i3), .val (.int (3 : Int32)), .val (.int s0), .val (.int s1), .val (.int s2), .val (.ref sp), .val (.ref tx), .val (.int (2 : Int32)), .val (.int (3 : Int32)), .val (.int x2), .val (.ref qa), .val (.int (b2i (fIs32 (nar .byte s0) (nar .byte s1) (nar .byte s2) t0 t1 t2 t3 t4 t5))), .val (.int (0 : Int32))]) rfl rfl ?_
 refine g_iload X at_359 (pc' := 361) rfl rfl ?_
 refine g_iload X at_361 (pc' := 363) rfl rfl ?_
 refine g_icN X at_363 (teq (show (b2i (fIs32 (nar .byte s0) (nar .byte s1) (nar .byte s2) t0 t1 t2 t3 t4 t5)) = (0 : Int32) from (by rw [hn0, hn1, hn2]; simp [fIs32, b2i, or0, xor0, zor, qi, qn, qr]))).2 (pc' := 366) rfl ?_
 refine g_iconst X (1 : Int32) at_366 (pc' := 367) rfl rfl ?_
 refine g_goto X at_367 (pc' := 371) (by decide) (by decide) ?_
 refine g_ireturnNW X hS hk (t := .boolean) (by simp) at_371 hret hlk (by decide) (by decide) ?_
 exact ⟨rfl, N⟩
 refine g_icY X at_331 (feq qn).2 (pc' := 356) (by decide) (by decide) ?_
 refine g_iconst X (0 : Int32) at_356 (pc' := 357) rfl rfl ?_
 refine g_istore X at_357 (pc' := 359) (Ls' := #[.val (.int i0), .val (.long j1), .second, .val (.int i2), .val (.int i3), .val (.int (3 : Int32)), .val (.int s0), .val (.int s1), .val (.int s2), .val (.ref sp), .val (.ref tx), .val (.int (2 : Int32)), .val (.int (3 : Int32)), .val (.int x2), .val (.ref qa), .val (.int (b2i (fIs32 (nar .byte s0) (nar .byte s1) (nar .byte s2) t0 t1 t2 t3 t4 t5))), .val (.int (0 : Int32))]) rfl rfl ?_
 refine g_iload X at_359 (pc' := 361) rfl rfl ?_
 refine g_iload X at_361 (pc' := 363) rfl rfl ?_
 refine g_icN X at_363 (teq (show (b2i (fIs32 (nar .byte s0) (nar .byte s1) (nar .byte s2) t0 t1 t2 t3 t4 t5)) = (0 : Int32) from (by rw [hn0, hn1, hn2]; simp [fIs32, b2i, or0, xor0, zor, qi, qn]))).2 (pc' := 366) rfl ?_
 refine g_iconst X (1 : Int32) at_366 (pc' := 367) rfl rfl ?_
 refine g_goto X at_367 (pc' := 371) (by decide) (by decide) ?_
 refine g_ireturnNW X hS hk (t := .boolean) (by simp) at_371 hret hlk (by decide) (by decide) ?_
 exact ⟨rfl, N⟩
 refine g_icY X at_313 (feq qi).2 (pc' := 356) (by decide) (by decide) ?_
 refine g_iconst X (0 : Int32) at_356 (pc' := 357) rfl rfl ?_
 refine g_istore X at_357 (pc' := 359) (Ls' := #[.val (.int i0), .val (.long j1), .second, .val (.int i2), .val (.int i3), .val (.int (3 : Int32)), .val (.int s0), .val (.int s1), .val (.int s2), .val (.ref sp), .val (.ref tx), .val (.int (2 : Int32)), .val (.int (3 : Int32)), .val (.int x2), .val (.ref qa), .val (.int (b2i (fIs32 (nar .byte s0) (nar .byte s1) (nar .byte s2) t0 t1 t2 t3 t4 t5))), .val (.int (0 : Int32))]) rfl rfl ?_
 refine g_iload X at_359 (pc' := 361) rfl rfl ?_
 refine g_iload X at_361 (pc' := 363) rfl rfl ?_
 refine g_icN X at_363 (teq (show (b2i (fIs32 (nar .byte s0) (nar .byte s1) (nar .byte s2) t0 t1 t2 t3 t4 t5)) = (0 : Int32) from (by rw [hn0, hn1, hn2]; simp [fIs32, b2i, or0, xor0, zor, qi]))).2 (pc' := 366) rfl ?_
 refine g_iconst X (1 : Int32) at_366 (pc' := 367) rfl rfl ?_
 refine g_goto X at_367 (pc' := 371) (by decide) (by decide) ?_
 refine g_ireturnNW X hS hk (t := .boolean) (by simp) at_371 hret hlk (by decide) (by decide) ?_
 exact ⟨rfl, N⟩
 subst hs
 show Go p e below _ (T.setTop (mkF m 280 _ []))
 refine g_aload X at_280 (pc' := 282) rfl rfl rfl ?_
 refine g_aload X at_282 (pc' := 284) rfl rfl rfl ?_
 refine g_iload X at_284 (pc' := 286) rfl rfl ?_
 refine g_iload X at_286 (pc' := 288) rfl rfl ?_
 refine g_virtual X (W := 0) (a := qa) (C := "com/example/scheherazade/scheherazade/core/XmlName") [(.ref tx), (.int (3 : Int32)), (.int (3 : Int32))] [] qc (tb hw 92 rfl) (tb hw 93 rfl) (tb hw 95 rfl) (tb hw 94 rfl) (tb hw 3 rfl) (tb hw 96 rfl) (rIs33 l Z aa hw [] qa tx sp (nar .byte s0) (nar .byte s1) (nar .byte s2) t0 t1 t2 t3 t4 t5 _ qc qf qd qb) at_288 (pc' := 291) rfl (by decide) (by decide) (by decide) rfl rfl rfl (lenOf pd_10 rfl) (Nat.le_refl _) (by decide) (by decide) ?_
 intro v T L X q
 obtain ⟨rfl, X⟩ := pureX X q
 show Go p e below _ (T.setTop (mkF m 291 _ [(.int (b2i (fIs33 (nar .byte s0) (nar .byte s1) (nar .byte s2) t0 t1 t2 t3 t4 t5)))]))
 refine g_istore X at_291 (pc' := 293) (Ls' := #[.val (.int i0), .val (.long j1), .second, .val (.int i2), .val (.int i3), .val (.int (3 : Int32)), .val (.int s0), .val (.int s1), .val (.int s2), .val (.ref sp), .val (.ref tx), .val (.int (3 : Int32)), .val (.int (3 : Int32)), .val (.int x2), .val (.ref qa), .val (.int (b2i (fIs33 (nar .byte s0) (nar .byte s1) (nar .byte s2) t0 t1 t2 t3 t4 t5))), .unset]) rfl rfl ?_
 refine g_iload X at_293 (pc' := 295) rfl rfl ?_
 refine g_iload X at_295 (pc' := 297) rfl rfl ?_
 refine g_icN X at_297 (teq (show (3 : Int32) = (3 : Int32) from (by decide))).2 (pc' := 300) rfl ?_
 refine g_iload X at_300 (pc' := 302) rfl rfl ?_
 refine g_iconst X (1 : Int32) at_302 (pc' := 303) rfl rfl ?_
 refine g_icN X at_303 (flt (show ¬ ((3 : Int32) < (1 : Int32)) from (by decide))).1 (pc' := 306) rfl ?_
 refine g_iload X at_306 (pc' := 308) rfl rfl ?_
 refine g_aload X at_308 (pc' := 310) rfl rfl rfl ?_
 refine g_iload X at_310 (pc' := 312) rfl rfl ?_
 refine g_baload X qb 3 at_312 (pc' := 313) rfl (by decide) (by decide) rfl ?_
 by_cases qj : s0 = t3
 refine g_icN X at_313 (teq qj).2 (pc' := 316) rfl ?_
 refine g_iload X at_316 (pc' := 318) rfl rfl ?_
 refine g_iconst X (2 : Int32) at_318 (pc' := 319) rfl rfl ?_
 refine g_icN X at_319 (flt (show ¬ ((3 : Int32) < (2 : Int32)) from (by decide))).1 (pc' := 322) rfl ?_
 refine g_iload X at_322 (pc' := 324) rfl rfl ?_
 refine g_aload X at_324 (pc' := 326) rfl rfl rfl ?_
 refine g_iload X at_326 (pc' := 328) rfl rfl ?_
 refine g_iconst X (1 : Int32) at_328 (pc' := 329) rfl rfl ?_
 refine g_iadd X at_329 (pc' := 330) rfl ?_
 refine Go.lit32 (z := (4 : Int32)) (by decide) ?_
 refine g_baload X qb 4 at_330 (pc' := 331) rfl (by decide) (by decide) rfl ?_
 by_cases qo : s1 = t4
 refine g_icN X at_331 (teq qo).2 (pc' := 334) rfl ?_
 refine g_iload X at_334 (pc' := 336) rfl rfl ?_
 refine g_iconst X (3 : Int32) at_336 (pc' := 337) rfl rfl ?_
 refine g_icN X at_337 (flt (show ¬ ((3 : Int32) < (3 : Int32)) from (by decide))).1 (pc' := 340) rfl ?_
 refine g_iload X at_340 (pc' := 342) rfl rfl ?_
 refine g_aload X at_342 (pc' := 344) rfl rfl rfl ?_
 refine g_iload X at_344 (pc' := 346) rfl rfl ?_
 refine g_iconst X (2 : Int32) at_346 (pc' := 347) rfl rfl ?_
 refine g_iadd X at_347 (pc' := 348) rfl ?_
 refine Go.lit32 (z := (5 : Int32)) (by decide) ?_
 refine g_baload X qb 5 at_348 (pc' := 349) rfl (by decide) (by decide) rfl ?_
 by_cases qs : s2 = t5
 refine g_icN X at_349 (teq qs).2 (pc' := 352) rfl ?_
 refine g_iconst X (1 : Int32) at_352 (pc' := 353) rfl rfl ?_
 refine g_goto X at_353 (pc' := 357) (by decide) (by decide) ?_
 refine g_istore X at_357 (pc' := 359) (Ls' := #[.val (.int i0), .val (.long j1), .second, .val (.int i2), .val (.int i3), .val (.int (3 : Int32)), .val (.int s0), .val (.int s1), .val (.int s2), .val (.ref sp), .val (.ref tx), .val (.int (3 : Int32)), .val (.int (3 : Int32)), .val (.int x2), .val (.ref qa), .val (.int (b2i (fIs33 (nar .byte s0) (nar .byte s1) (nar .byte s2) t0 t1 t2 t3 t4 t5))), .val (.int (1 : Int32))]) rfl rfl ?_
 refine g_iload X at_359 (pc' := 361) rfl rfl ?_
 refine g_iload X at_361 (pc' := 363) rfl rfl ?_
 refine g_icN X at_363 (teq (show (b2i (fIs33 (nar .byte s0) (nar .byte s1) (nar .byte s2) t0 t1 t2 t3 t4 t5)) = (1 : Int32) from (by rw [hn0, hn1, hn2]; simp [fIs33, b2i, or0, xor0, zor, qj, qo, qs]))).2 (pc' := 366) rfl ?_
 refine g_iconst X (1 : Int32) at_366 (pc' := 367) rfl rfl ?_
 refine g_goto X at_367 (pc' := 371) (by decide) (by decide) ?_
 refine g_ireturnNW X hS hk (t := .boolean) (by simp) at_371 hret hlk (by decide) (by decide) ?_
 exact ⟨rfl, N⟩
 refine g_icY X at_349 (feq qs).2 (pc' := 356) (by decide) (by decide) ?_
 refine g_iconst X (0 : Int32) at_356 (pc' := 357) rfl rfl ?_
 refine g_istore X at_357 (pc' := 359) (Ls' := #[.val (.int i0), .val (.long j1), .second, .val (.int i2), .val (.int i3), .val (.int (3 : Int32)), .val (.int s0), .val (.int s1), .val (.int s2), .val (.ref sp), .val (.ref tx), .val (.int (3 : Int32)), .val (.int (3 : Int32)), .val (.int x2), .val (.ref qa), .val (.int (b2i (fIs33 (nar .byte s0) (nar .byte s1) (nar .byte s2) t0 t1 t2 t3 t4 t5))), .val (.int (0 : Int32))]) rfl rfl ?_
 refine g_iload X at_359 (pc' := 361) rfl rfl ?_
 refine g_iload X at_361 (pc' := 363) rfl rfl ?_
 refine g_icN X at_363 (teq (show (b2i (fIs33 (nar .byte s0) (nar .byte s1) (nar .byte s2) t0 t1 t2 t3 t4 t5)) = (0 : Int32) from (by rw [hn0, hn1, hn2]; simp [fIs33, b2i, or0, xor0, zor, qj, qo, qs]))).2 (pc' := 366) rfl ?_
 refine g_iconst X (1 : Int32) at_366 (pc' := 367) rfl rfl ?_
 refine g_goto X at_367 (pc' := 371) (by decide) (by decide) ?_
 refine g_ireturnNW X hS hk (t := .boolean) (by simp) at_371 hret hlk (by decide) (by decide) ?_
 exact ⟨rfl, N⟩
 refine g_icY X at_331 (feq qo).2 (pc' := 356) (by decide) (by decide) ?_
 refine g_iconst X (0 : Int32) at_356 (pc' := 357) rfl rfl ?_
 refine g_istore X at_357 (pc' := 359) (Ls' := #[.val (.int i0), .val (.long j1), .second, .val (.int i2), .val (.int i3), .val (.int (3 : Int32)), .val (.int s0), .val (.int s1), .val (.int s2), .val (.ref sp), .val (.ref tx), .val (.int (3 : Int32)), .val (.int (3 : Int32)), .val (.int x2), .val (.ref qa), .val (.int (b2i (fIs33 (nar .byte s0) (nar .byte s1) (nar .byte s2) t0 t1 t2 t3 t4 t5))), .val (.int (0 : Int32))]) rfl rfl ?_
 refine g_iload X at_359 (pc' := 361) rfl rfl ?_
 refine g_iload X at_361 (pc' := 363) rfl rfl ?_
 refine g_icN X at_363 (teq (show (b2i (fIs33 (nar .byte s0) (nar .byte s1) (nar .byte s2) t0 t1 t2 t3 t4 t5)) = (0 : Int32) from (by rw [hn0, hn1, hn2]; simp [fIs33, b2i, or0, xor0, zor, qj, qo]))).2 (pc' := 366) rfl ?_
 refine g_iconst X (1 : Int32) at_366 (pc' := 367) rfl rfl ?_
 refine g_goto X at_367 (pc' := 371) (by decide) (by decide) ?_
 refine g_ireturnNW X hS hk (t := .boolean) (by simp) at_371 hret hlk (by decide) (by decide) ?_
 exact ⟨rfl, N⟩
 refine g_icY X at_313 (feq qj).2 (pc' := 356) (by decide) (by decide) ?_
 refine g_iconst X (0 : Int32) at_356 (pc' := 357) rfl rfl ?_
 refine g_istore X at_357 (pc' := 359) (Ls' := #[.val (.int i0), .val (.long j1), .second, .val (.int i2), .val (.int i3), .val (.int (3 : Int32)), .val (.int s0), .val (.int s1), .val (.int s2), .val (.ref sp), .val (.ref tx), .val (.int (3 : Int32)), .val (.int (3 : Int32)), .val (.int x2), .val (.ref qa), .val (.int (b2i (fIs33 (nar .byte s0) (nar .byte s1) (nar .byte s2) t0 t1 t2 t3 t4 t5))), .val (.int (0 : Int32))]) rfl rfl ?_
 refine g_iload X at_359 (pc' := 361) rfl rfl ?_
 refine g_iload X at_361 (pc' := 363) rfl rfl ?_
 refine g_icN X at_363 (teq (show (b2i (fIs33 (nar .byte s0) (nar .byte s1) (nar .byte s2) t0 t1 t2 t3 t4 t5)) = (0 : Int32) from (by rw [hn0, hn1, hn2]; simp [fIs33, b2i, or0, xor0, zor, qj]))).2 (pc' := 366) rfl ?_
 refine g_iconst X (1 : Int32) at_366 (pc' := 367) rfl rfl ?_
 refine g_goto X at_367 (pc' := 371) (by decide) (by decide) ?_
 refine g_ireturnNW X hS hk (t := .boolean) (by simp) at_371 hret hlk (by decide) (by decide) ?_
 exact ⟨rfl, N⟩
 refine g_aload X at_280 (pc' := 282) rfl rfl rfl ?_
 refine g_aload X at_282 (pc' := 284) rfl rfl rfl ?_
 refine g_iload X at_284 (pc' := 286) rfl rfl ?_
 refine g_iload X at_286 (pc' := 288) rfl rfl ?_
 refine g_virtual X (W := 0) (a := qa) (C := "com/example/scheherazade/scheherazade/core/XmlName") [(.ref tx), (.int st), (.int x1)] [] qc (tb hw 92 rfl) (tb hw 93 rfl) (tb hw 95 rfl) (tb hw 94 rfl) (tb hw 3 rfl) (tb hw 96 rfl) (rIsN3 l Z aa hw [] qa tx st x1 sp (nar .byte s0) (nar .byte s1) (nar .byte s2) t0 t1 t2 t3 t4 t5 _ qc qf qd qb hl) at_288 (pc' := 291) rfl (by decide) (by decide) (by decide) rfl rfl rfl (lenOf pd_10 rfl) (Nat.le_refl _) (by decide) (by decide) ?_
 intro v T L X q
 obtain ⟨rfl, X⟩ := pureX X q
 show Go p e below _ (T.setTop (mkF m 291 _ [(.int (0 : Int32))]))
 refine g_istore X at_291 (pc' := 293) (Ls' := #[.val (.int i0), .val (.long j1), .second, .val (.int i2), .val (.int i3), .val (.int (3 : Int32)), .val (.int s0), .val (.int s1), .val (.int s2), .val (.ref sp), .val (.ref tx), .val (.int st), .val (.int x1), .val (.int x2), .val (.ref qa), .val (.int (0 : Int32)), .unset]) rfl rfl ?_
 refine g_iload X at_293 (pc' := 295) rfl rfl ?_
 refine g_iload X at_295 (pc' := 297) rfl rfl ?_
 refine g_icY X at_297 (feq (show ¬ ((3 : Int32) = x1) from hl)).2 (pc' := 356) (by decide) (by decide) ?_
 refine g_iconst X (0 : Int32) at_356 (pc' := 357) rfl rfl ?_
 refine g_istore X at_357 (pc' := 359) (Ls' := #[.val (.int i0), .val (.long j1), .second, .val (.int i2), .val (.int i3), .val (.int (3 : Int32)), .val (.int s0), .val (.int s1), .val (.int s2), .val (.ref sp), .val (.ref tx), .val (.int st), .val (.int x1), .val (.int x2), .val (.ref qa), .val (.int (0 : Int32)), .val (.int (0 : Int32))]) rfl rfl ?_
 refine g_iload X at_359 (pc' := 361) rfl rfl ?_
 refine g_iload X at_361 (pc' := 363) rfl rfl ?_
 refine g_icN X at_363 (teq (show (0 : Int32) = (0 : Int32) from rfl)).2 (pc' := 366) rfl ?_
 refine g_iconst X (1 : Int32) at_366 (pc' := 367) rfl rfl ?_
 refine g_goto X at_367 (pc' := 371) (by decide) (by decide) ?_
 refine g_ireturnNW X hS hk (t := .boolean) (by simp) at_371 hret hlk (by decide) (by decide) ?_
 exact ⟨rfl, N⟩
 intro kj
 refine g_iloadN X at_247 (pc' := 248) rfl rfl ?_
 refine g_bipush X (11 : Int32) at_248 (pc' := 250) rfl rfl ?_
 refine g_iushr X at_250 (pc' := 251) rfl ?_
 refine g_iconst X (1 : Int32) at_251 (pc' := 252) rfl rfl ?_
 refine g_iand X at_252 (pc' := 253) rfl ?_
 by_cases q4 : (((i2.toUInt32 >>> ((11 : Int32) &&& 31).toUInt32).toInt32) &&& (1 : Int32)) = (0 : Int32)
 refine g_ifY X at_253 ((if0 _ _).trans (teq q4).1) (pc' := 260) (by decide) (by decide) ?_
 refine g_iconst X (0 : Int32) at_260 (pc' := 261) rfl rfl ?_
 exact kj T X (0 : Int32) trivial
 refine g_ifN X at_253 ((if0 _ _).trans (feq q4).1) (pc' := 256) rfl ?_
 refine g_iconst X (1 : Int32) at_256 (pc' := 257) rfl rfl ?_
 refine g_goto X at_257 (pc' := 261) (by decide) (by decide) ?_
 exact kj T X (1 : Int32) trivial
 intro kj
 refine g_iloadN X at_225 (pc' := 226) rfl rfl ?_
 refine g_bipush X (8 : Int32) at_226 (pc' := 228) rfl rfl ?_
 refine g_iushr X at_228 (pc' := 229) rfl ?_
 refine g_iconst X (1 : Int32) at_229 (pc' := 230) rfl rfl ?_
 refine g_iand X at_230 (pc' := 231) rfl ?_
 by_cases q5 : (((i2.toUInt32 >>> ((8 : Int32) &&& 31).toUInt32).toInt32) &&& (1 : Int32)) = (0 : Int32)
 refine g_ifY X at_231 ((if0 _ _).trans (teq q5).1) (pc' := 239) (by decide) (by decide) ?_
 refine g_iloadN X at_239 (pc' := 240) rfl rfl ?_
 refine g_bipush X (9 : Int32) at_240 (pc' := 242) rfl rfl ?_
 refine g_iushr X at_242 (pc' := 243) rfl ?_
 refine g_iconst X (3 : Int32) at_243 (pc' := 244) rfl rfl ?_
 refine g_iand X at_244 (pc' := 245) rfl ?_
 exact kj T X (((i2.toUInt32 >>> ((9 : Int32) &&& 31).toUInt32).toInt32) &&& (3 : Int32)) trivial
 refine g_ifN X at_231 ((if0 _ _).trans (feq q5).1) (pc' := 234) rfl ?_
 refine g_iload X at_234 (pc' := 236) rfl rfl ?_
 refine g_goto X at_236 (pc' := 245) (by decide) (by decide) ?_
 exact kj T X (3 : Int32) trivial
theorem pn_3 : plainName "com/example/scheherazade/scheherazade/core/XmlNameIsSpelledByPinLaw" = true := by first | (simp [plainName, overriddenIn]; done) | decide +kernel
theorem ef_rLaw (m : MethodId) (x0 : Int32) (x1 : Int64) (x2 : Int32) (x3 : Int32) : entryFrame m #[(.int x0), (.long x1), (.int x2), (.int x3)] maxLocals = mkF m 0 #[.val (.int x0), .val (.long x1), .second, .val (.int x2), .val (.int x3), .unset, .unset, .unset, .unset, .unset, .unset, .unset, .unset, .unset, .unset, .unset, .unset] [] := by first | (simp [entryFrame, mkF, argsToLocals, Value.category, maxLocals]; done) | rfl
set_option maxRecDepth 65536 in
set_option maxHeartbeats 40000000 in
theorem rLaw (l : Launch) (Z : State) (aa : Array Value) (hw : ∀ d ∈ tables_1, d.before aa Z = true) (ws : List Jvm.Cond) (i0 : Int32) (j1 : Int64) (i2 : Int32) (i3 : Int32) (G1 : Int32) (h0 : Heap) (n0 : Nat) (Z0 : n0 ≤ h0.size) (qa : Sta Z h0 "java/lang/String" "COMPACT_STRINGS" "Z" (.int G1)) (P5 : ¬ G1 = (0 : Int32)) :
    RmW l Z consts_1 x code maxLocals ret ws room_1 #[(.int i0), (.long j1), (.int i2), (.int i3)] h0 (fun v h L => v = some (.int 1) ∧ Fr n0 L) := by
 refine RmW.of (plainFor_of_name pn_3) ?_
 intro p e s m below meth cc T X hS hk HC0 hnm hret hlk
 refine Go.at_ (ef_rLaw m i0 j1 i2 i3) ?_
 have N := Fr.nil n0
 have Kp := Keep.refl h0 []
 refine g_iloadN X at_0 (pc' := 1) rfl rfl ?_
 refine g_iconst X (3 : Int32) at_1 (pc' := 2) rfl rfl ?_
 refine g_iand X at_2 (pc' := 3) rfl ?_
 generalize z1 : (i2 &&& (3 : Int32)) = jp
 refine g_istore X at_3 (pc' := 5) (Ls' := #[.val (.int i0), .val (.long j1), .second, .val (.int i2), .val (.int i3), .val (.int jp), .unset, .unset, .unset, .unset, .unset, .unset, .unset, .unset, .unset, .unset, .unset]) rfl rfl ?_
 refine g_iloadN X at_5 (pc' := 6) rfl rfl ?_
 refine g_i2b X at_6 (pc' := 7) rfl ?_
 generalize z2 : (i0.toInt8.toInt32) = qc
 refine g_istore X at_7 (pc' := 9) (Ls' := #[.val (.int i0), .val (.long j1), .second, .val (.int i2), .val (.int i3), .val (.int jp), .val (.int qc), .unset, .unset, .unset, .unset, .unset, .unset, .unset, .unset, .unset, .unset]) rfl rfl ?_
 refine g_iloadN X at_9 (pc' := 10) rfl rfl ?_
 refine g_bipush X (8 : Int32) at_10 (pc' := 12) rfl rfl ?_
 refine g_iushr X at_12 (pc' := 13) rfl ?_
 refine g_i2b X at_13 (pc' := 14) rfl ?_
 generalize z3 : (((i0.toUInt32 >>> ((8 : Int32) &&& 31).toUInt32).toInt32).toInt8.toInt32) = qd
 refine g_istore X at_14 (pc' := 16) (Ls' := #[.val (.int i0), .val (.long j1), .second, .val (.int i2), .val (.int i3), .val (.int jp), .val (.int qc), .val (.int qd), .unset, .unset, .unset, .unset, .unset, .unset, .unset, .unset, .unset]) rfl rfl ?_
 refine g_iloadN X at_16 (pc' := 17) rfl rfl ?_
 refine g_bipush X (16 : Int32) at_17 (pc' := 19) rfl rfl ?_
 refine g_iushr X at_19 (pc' := 20) rfl ?_
 refine g_i2b X at_20 (pc' := 21) rfl ?_
 generalize z4 : (((i0.toUInt32 >>> ((16 : Int32) &&& 31).toUInt32).toInt32).toInt8.toInt32) = qf
 refine g_istore X at_21 (pc' := 23) (Ls' := #[.val (.int i0), .val (.long j1), .second, .val (.int i2), .val (.int i3), .val (.int jp), .val (.int qc), .val (.int qd), .val (.int qf), .unset, .unset, .unset, .unset, .unset, .unset, .unset, .unset]) rfl rfl ?_
 have hn0 := nb z2
 have hn1 := nb z3
 have hn2 := nb z4
 rcases (m4 z1 : jp = (0 : Int32) ∨ jp = (1 : Int32) ∨ jp = (2 : Int32) ∨ jp = (3 : Int32)) with hs | hs | hs | hs
 subst hs
 show Go p e below _ (T.setTop (mkF m 23 _ []))
 refine g_iload X at_23 (pc' := 25) rfl rfl ?_
 refine g_newarray X 0 (tb hw 0 rfl) at_25 (pc' := 27) rfl (by decide) (by decide) 0 (by decide) (by decide) (by decide) (by decide) (vs := []) rfl (ad := "[B") (by decide) ?_
 intro T h jq u0 X Ex z5 jf
 replace qa := qa.ext Ex
 replace Z0 := Nat.le_trans Z0 Ex.1
 replace Kp := Kp.ext Ex
 replace hk := Nat.le_trans hk Ex.1
 refine g_astore X at_27 (pc' := 29) (Ls' := #[.val (.int i0), .val (.long j1), .second, .val (.int i2), .val (.int i3), .val (.int (0 : Int32)), .val (.int qc), .val (.int qd), .val (.int qf), .val (.ref jq), .unset, .unset, .unset, .unset, .unset, .unset, .unset]) rfl rfl rfl ?_
 refine g_iload X at_29 (pc' := 31) rfl rfl ?_
 refine g_ifY X at_31 ((if0 _ _).trans (flt (show ¬ ((0 : Int32) < (0 : Int32)) from (by decide))).2.2.2) (pc' := 40) (by decide) (by decide) ?_
 refine g_iload X at_40 (pc' := 42) rfl rfl ?_
 refine g_iconst X (1 : Int32) at_42 (pc' := 43) rfl rfl ?_
 refine g_icY X at_43 (flt (show ¬ ((1 : Int32) < (0 : Int32)) from (by decide))).2.2.2 (pc' := 52) (by decide) (by decide) ?_
 refine g_iload X at_52 (pc' := 54) rfl rfl ?_
 refine g_iconst X (2 : Int32) at_54 (pc' := 55) rfl rfl ?_
 refine g_icY X at_55 (flt (show ¬ ((2 : Int32) < (0 : Int32)) from (by decide))).2.2.2 (pc' := 64) (by decide) (by decide) ?_
 refine g_bipush X (6 : Int32) at_64 (pc' := 66) rfl rfl ?_
 refine g_newarray X 6 (tb hw 0 rfl) at_66 (pc' := 68) rfl (by decide) (by decide) 6 (by decide) (by decide) (by decide) (by decide) (vs := [(.int (0 : Int32)), (.int (0 : Int32)), (.int (0 : Int32)), (.int (0 : Int32)), (.int (0 : Int32)), (.int (0 : Int32))]) rfl (ad := "[B") (by decide) ?_
 intro T h jj wa X Ex u1 q7
 have ju : jq ≠ jj := Nat.ne_of_lt (by rw [wa]; exact z5.lt)
 have jv : n0 ≤ jj := by rw [wa]; exact Z0
 have jw : h0.size ≤ jj := by rw [wa]; exact Kp.1
 replace jf := jf.ext Ex
 replace qa := qa.ext Ex
 replace Z0 := Nat.le_trans Z0 Ex.1
 replace Kp := Kp.ext Ex
 replace hk := Nat.le_trans hk Ex.1
 refine g_astore X at_68 (pc' := 70) (Ls' := #[.val (.int i0), .val (.long j1), .second, .val (.int i2), .val (.int i3), .val (.int (0 : Int32)), .val (.int qc), .val (.int qd), .val (.int qf), .val (.ref jq), .val (.ref jj), .unset, .unset, .unset, .unset, .unset, .unset]) rfl rfl rfl ?_
 refine g_aload X at_70 (pc' := 72) rfl rfl rfl ?_
 refine g_iconst X (0 : Int32) at_72 (pc' := 73) rfl rfl ?_
 refine g_lloadN X at_73 (pc' := 74) rfl rfl ?_
 refine g_l2i X at_74 (pc' := 75) rfl ?_
 refine g_i2b X at_75 (pc' := 76) rfl ?_
 generalize u2 : ((j1.toInt32).toInt8.toInt32) = jk
 refine g_bastore X q7 0 at_76 (pc' := 77) rfl (by decide) (by decide) (Nat.le_of_ble_eq_true rfl) ?_
 intro T h X W q7
 replace q7 : Av Z h jj .byte [(.int (nar .byte jk)), (.int (0 : Int32)), (.int (0 : Int32)), (.int (0 : Int32)), (.int (0 : Int32)), (.int (0 : Int32))] := q7
 replace hk := Nat.le_trans hk (Nat.le_of_eq W.size.symm)
 replace jf := jf.other W ju
 replace qa := qa.wr W
 replace Z0 := Nat.le_trans Z0 (Nat.le_of_eq W.size.symm)
 replace N := Fr.snoc X.1 N jv
 replace Kp := Kp.wr W (Or.inr jw)
 refine g_aload X at_77 (pc' := 79) rfl rfl rfl ?_
 refine g_iconst X (1 : Int32) at_79 (pc' := 80) rfl rfl ?_
 refine g_lloadN X at_80 (pc' := 81) rfl rfl ?_
 refine g_bipush X (8 : Int32) at_81 (pc' := 83) rfl rfl ?_
 refine g_lushr X at_83 (pc' := 84) rfl ?_
 refine g_l2i X at_84 (pc' := 85) rfl ?_
 refine g_i2b X at_85 (pc' := 86) rfl ?_
 generalize u3 : ((((j1.toUInt64 >>> ((8 : Int32) &&& 0x3f).toInt64.toUInt64).toInt64).toInt32).toInt8.toInt32) = jo
 refine g_bastore X q7 1 at_86 (pc' := 87) rfl (by decide) (by decide) (Nat.le_of_ble_eq_true rfl) ?_
 intro T h X W q7
 replace q7 : Av Z h jj .byte [(.int (nar .byte jk)), (.int (nar .byte jo)), (.int (0 : Int32)), (.int (0 : Int32)), (.int (0 : Int32)), (.int (0 : Int32))] := q7
 replace hk := Nat.le_trans hk (Nat.le_of_eq W.size.symm)
 replace jf := jf.other W ju
 replace qa := qa.wr W
 replace Z0 := Nat.le_trans Z0 (Nat.le_of_eq W.size.symm)
 replace N := Fr.snoc X.1 N jv
 replace Kp := Kp.wr W (Or.inr jw)
 refine g_aload X at_87 (pc' := 89) rfl rfl rfl ?_
 refine g_iconst X (2 : Int32) at_89 (pc' := 90) rfl rfl ?_
 refine g_lloadN X at_90 (pc' := 91) rfl rfl ?_
 refine g_bipush X (16 : Int32) at_91 (pc' := 93) rfl rfl ?_
 refine g_lushr X at_93 (pc' := 94) rfl ?_
 refine g_l2i X at_94 (pc' := 95) rfl ?_
 refine g_i2b X at_95 (pc' := 96) rfl ?_
 generalize u4 : ((((j1.toUInt64 >>> ((16 : Int32) &&& 0x3f).toInt64.toUInt64).toInt64).toInt32).toInt8.toInt32) = jr
 refine g_bastore X q7 2 at_96 (pc' := 97) rfl (by decide) (by decide) (Nat.le_of_ble_eq_true rfl) ?_
 intro T h X W q7
 replace q7 : Av Z h jj .byte [(.int (nar .byte jk)), (.int (nar .byte jo)), (.int (nar .byte jr)), (.int (0 : Int32)), (.int (0 : Int32)), (.int (0 : Int32))] := q7
 replace hk := Nat.le_trans hk (Nat.le_of_eq W.size.symm)
 replace jf := jf.other W ju
 replace qa := qa.wr W
 replace Z0 := Nat.le_trans Z0 (Nat.le_of_eq W.size.symm)
 replace N := Fr.snoc X.1 N jv
 replace Kp := Kp.wr W (Or.inr jw)
 refine g_aload X at_97 (pc' := 99) rfl rfl rfl ?_
 refine g_iconst X (3 : Int32) at_99 (pc' := 100) rfl rfl ?_
 refine g_lloadN X at_100 (pc' := 101) rfl rfl ?_
 refine g_bipush X (24 : Int32) at_101 (pc' := 103) rfl rfl ?_
 refine g_lushr X at_103 (pc' := 104) rfl ?_
 refine g_l2i X at_104 (pc' := 105) rfl ?_
 refine g_i2b X at_105 (pc' := 106) rfl ?_
 generalize u5 : ((((j1.toUInt64 >>> ((24 : Int32) &&& 0x3f).toInt64.toUInt64).toInt64).toInt32).toInt8.toInt32) = js
 refine g_bastore X q7 3 at_106 (pc' := 107) rfl (by decide) (by decide) (Nat.le_of_ble_eq_true rfl) ?_
 intro T h X W q7
 replace q7 : Av Z h jj .byte [(.int (nar .byte jk)), (.int (nar .byte jo)), (.int (nar .byte jr)), (.int (nar .byte js)), (.int (0 : Int32)), (.int (0 : Int32))] := q7
 replace hk := Nat.le_trans hk (Nat.le_of_eq W.size.symm)
 replace jf := jf.other W ju
 replace qa := qa.wr W
 replace Z0 := Nat.le_trans Z0 (Nat.le_of_eq W.size.symm)
 replace N := Fr.snoc X.1 N jv
 replace Kp := Kp.wr W (Or.inr jw)
 refine g_aload X at_107 (pc' := 109) rfl rfl rfl ?_
 refine g_iconst X (4 : Int32) at_109 (pc' := 110) rfl rfl ?_
 refine g_lloadN X at_110 (pc' := 111) rfl rfl ?_
 refine g_bipush X (32 : Int32) at_111 (pc' := 113) rfl rfl ?_
 refine g_lushr X at_113 (pc' := 114) rfl ?_
 refine g_l2i X at_114 (pc' := 115) rfl ?_
 refine g_i2b X at_115 (pc' := 116) rfl ?_
 generalize u6 : ((((j1.toUInt64 >>> ((32 : Int32) &&& 0x3f).toInt64.toUInt64).toInt64).toInt32).toInt8.toInt32) = jx
 refine g_bastore X q7 4 at_116 (pc' := 117) rfl (by decide) (by decide) (Nat.le_of_ble_eq_true rfl) ?_
 intro T h X W q7
 replace q7 : Av Z h jj .byte [(.int (nar .byte jk)), (.int (nar .byte jo)), (.int (nar .byte jr)), (.int (nar .byte js)), (.int (nar .byte jx)), (.int (0 : Int32))] := q7
 replace hk := Nat.le_trans hk (Nat.le_of_eq W.size.symm)
 replace jf := jf.other W ju
 replace qa := qa.wr W
 replace Z0 := Nat.le_trans Z0 (Nat.le_of_eq W.size.symm)
 replace N := Fr.snoc X.1 N jv
 replace Kp := Kp.wr W (Or.inr jw)
 refine g_aload X at_117 (pc' := 119) rfl rfl rfl ?_
 refine g_iconst X (5 : Int32) at_119 (pc' := 120) rfl rfl ?_
 refine g_lloadN X at_120 (pc' := 121) rfl rfl ?_
 refine g_bipush X (40 : Int32) at_121 (pc' := 123) rfl rfl ?_
 refine g_lushr X at_123 (pc' := 124) rfl ?_
 refine g_l2i X at_124 (pc' := 125) rfl ?_
 refine g_i2b X at_125 (pc' := 126) rfl ?_
 generalize u7 : ((((j1.toUInt64 >>> ((40 : Int32) &&& 0x3f).toInt64.toUInt64).toInt64).toInt32).toInt8.toInt32) = jy
 refine g_bastore X q7 5 at_126 (pc' := 127) rfl (by decide) (by decide) (Nat.le_of_ble_eq_true rfl) ?_
 intro T h X W q7
 replace q7 : Av Z h jj .byte [(.int (nar .byte jk)), (.int (nar .byte jo)), (.int (nar .byte jr)), (.int (nar .byte js)), (.int (nar .byte jx)), (.int (nar .byte jy))] := q7
 replace hk := Nat.le_trans hk (Nat.le_of_eq W.size.symm)
 replace jf := jf.other W ju
 replace qa := qa.wr W
 replace Z0 := Nat.le_trans Z0 (Nat.le_of_eq W.size.symm)
 replace N := Fr.snoc X.1 N jv
 replace Kp := Kp.wr W (Or.inr jw)
 refine g_iloadN X at_127 (pc' := 128) rfl rfl ?_
 refine g_iconst X (4 : Int32) at_128 (pc' := 129) rfl rfl ?_
 refine g_iushr X at_129 (pc' := 130) rfl ?_
 refine g_iconst X (3 : Int32) at_130 (pc' := 131) rfl rfl ?_
 refine g_iand X at_131 (pc' := 132) rfl ?_
 generalize z6 : (((i2.toUInt32 >>> ((4 : Int32) &&& 31).toUInt32).toInt32) &&& (3 : Int32)) = jz
 refine g_istore X at_132 (pc' := 134) (Ls' := #[.val (.int i0), .val (.long j1), .second, .val (.int i2), .val (.int i3), .val (.int (0 : Int32)), .val (.int qc), .val (.int qd), .val (.int qf), .val (.ref jq), .val (.ref jj), .val (.int jz), .unset, .unset, .unset, .unset, .unset]) rfl rfl ?_
 have hst := m4 z6
 refine g_iloadN X at_134 (pc' := 135) rfl rfl ?_
 refine g_iconst X (4 : Int32) at_135 (pc' := 136) rfl rfl ?_
 refine g_iand X at_136 (pc' := 137) rfl ?_
 by_cases wp : (i2 &&& (4 : Int32)) = (0 : Int32)
 refine g_ifY X at_137 ((if0 _ _).trans (teq wp).1) (pc' := 182) (by decide) (by decide) ?_
 refine g_iloadN X at_182 (pc' := 183) rfl rfl ?_
 refine g_bipush X (8 : Int32) at_183 (pc' := 185) rfl rfl ?_
 refine g_iand X at_185 (pc' := 186) rfl ?_
 by_cases wq : (i2 &&& (8 : Int32)) = (0 : Int32)
 refine g_ifY X at_186 ((if0 _ _).trans (teq wq).1) (pc' := 225) (by decide) (by decide) ?_
 exact tail0 l Z aa hw n0 i0 i2 i3 qc qd qf jz (nar .byte jk) (nar .byte jo) (nar .byte jr) (nar .byte js) (nar .byte jx) (nar .byte jy) G1 j1 jq jj (.unset) X hS hk (CHv.keep Kp (fun _ q => nomatch q) HC0) Z0 N hret hlk jf q7 qa P5 hst One.u hn0 hn1 hn2
 refine g_ifN X at_186 ((if0 _ _).trans (feq wq).1) (pc' := 189) rfl ?_
 refine g_iload X at_189 (pc' := 191) rfl rfl ?_
 refine g_ifY X at_191 ((if0 _ _).trans (flt (show ¬ ((0 : Int32) < (0 : Int32)) from (by decide))).2.2.2) (pc' := 225) (by decide) (by decide) ?_
 exact tail0 l Z aa hw n0 i0 i2 i3 qc qd qf jz (nar .byte jk) (nar .byte jo) (nar .byte jr) (nar .byte js) (nar .byte jx) (nar .byte jy) G1 j1 jq jj (.unset) X hS hk (CHv.keep Kp (fun _ q => nomatch q) HC0) Z0 N hret hlk jf q7 qa P5 hst One.u hn0 hn1 hn2
 refine g_ifN X at_137 ((if0 _ _).trans (feq wp).1) (pc' := 140) rfl ?_
 refine g_iload X at_140 (pc' := 142) rfl rfl ?_
 refine g_ifY X at_142 ((if0 _ _).trans (flt (show ¬ ((0 : Int32) < (0 : Int32)) from (by decide))).2.2.2) (pc' := 152) (by decide) (by decide) ?_
 refine g_iload X at_152 (pc' := 154) rfl rfl ?_
 refine g_iconst X (1 : Int32) at_154 (pc' := 155) rfl rfl ?_
 refine g_icY X at_155 (flt (show ¬ ((1 : Int32) < (0 : Int32)) from (by decide))).2.2.2 (pc' := 167) (by decide) (by decide) ?_
 refine g_iload X at_167 (pc' := 169) rfl rfl ?_
 refine g_iconst X (2 : Int32) at_169 (pc' := 170) rfl rfl ?_
 refine g_icY X at_170 (flt (show ¬ ((2 : Int32) < (0 : Int32)) from (by decide))).2.2.2 (pc' := 182) (by decide) (by decide) ?_
 refine g_iloadN X at_182 (pc' := 183) rfl rfl ?_
 refine g_bipush X (8 : Int32) at_183 (pc' := 185) rfl rfl ?_
 refine g_iand X at_185 (pc' := 186) rfl ?_
 by_cases wt : (i2 &&& (8 : Int32)) = (0 : Int32)
 refine g_ifY X at_186 ((if0 _ _).trans (teq wt).1) (pc' := 225) (by decide) (by decide) ?_
 exact tail0 l Z aa hw n0 i0 i2 i3 qc qd qf jz (nar .byte jk) (nar .byte jo) (nar .byte jr) (nar .byte js) (nar .byte jx) (nar .byte jy) G1 j1 jq jj (.unset) X hS hk (CHv.keep Kp (fun _ q => nomatch q) HC0) Z0 N hret hlk jf q7 qa P5 hst One.u hn0 hn1 hn2
 refine g_ifN X at_186 ((if0 _ _).trans (feq wt).1) (pc' := 189) rfl ?_
 refine g_iload X at_189 (pc' := 191) rfl rfl ?_
 refine g_ifY X at_191 ((if0 _ _).trans (flt (show ¬ ((0 : Int32) < (0 : Int32)) from (by decide))).2.2.2) (pc' := 225) (by decide) (by decide) ?_
 exact tail0 l Z aa hw n0 i0 i2 i3 qc qd qf jz (nar .byte jk) (nar .byte jo) (nar .byte jr) (nar .byte js) (nar .byte jx) (nar .byte jy) G1 j1 jq jj (.unset) X hS hk (CHv.keep Kp (fun _ q => nomatch q) HC0) Z0 N hret hlk jf q7 qa P5 hst One.u hn0 hn1 hn2
 subst hs
 show Go p e below _ (T.setTop (mkF m 23 _ []))
 refine g_iload X at_23 (pc' := 25) rfl rfl ?_
 refine g_newarray X 1 (tb hw 0 rfl) at_25 (pc' := 27) rfl (by decide) (by decide) 1 (by decide) (by decide) (by decide) (by decide) (vs := [(.int (0 : Int32))]) rfl (ad := "[B") (by decide) ?_
 intro T h q8 wu X Ex wb qn
 have z7 : n0 ≤ q8 := by rw [wu]; exact Z0
 have z8 : h0.size ≤ q8 := by rw [wu]; exact Kp.1
 replace qa := qa.ext Ex
 replace Z0 := Nat.le_trans Z0 Ex.1
 replace Kp := Kp.ext Ex
 replace hk := Nat.le_trans hk Ex.1
 refine g_astore X at_27 (pc' := 29) (Ls' := #[.val (.int i0), .val (.long j1), .second, .val (.int i2), .val (.int i3), .val (.int (1 : Int32)), .val (.int qc), .val (.int qd), .val (.int qf), .val (.ref q8), .unset, .unset, .unset, .unset, .unset, .unset, .unset]) rfl rfl rfl ?_
 refine g_iload X at_29 (pc' := 31) rfl rfl ?_
 refine g_ifN X at_31 ((if0 _ _).trans (tlt (show (0 : Int32) < (1 : Int32) from (by decide))).2.2.2) (pc' := 34) rfl ?_
 refine g_aload X at_34 (pc' := 36) rfl rfl rfl ?_
 refine g_iconst X (0 : Int32) at_36 (pc' := 37) rfl rfl ?_
 refine g_iload X at_37 (pc' := 39) rfl rfl ?_
 refine g_bastore X qn 0 at_39 (pc' := 40) rfl (by decide) (by decide) (Nat.le_of_ble_eq_true rfl) ?_
 intro T h X W qn
 replace qn : Av Z h q8 .byte [(.int (nar .byte qc))] := qn
 replace hk := Nat.le_trans hk (Nat.le_of_eq W.size.symm)
 replace wb := wb.wr W
 replace qa := qa.wr W
 replace Z0 := Nat.le_trans Z0 (Nat.le_of_eq W.size.symm)
 replace N := Fr.snoc X.1 N z7
 replace Kp := Kp.wr W (Or.inr z8)
 refine g_iload X at_40 (pc' := 42) rfl rfl ?_
 refine g_iconst X (1 : Int32) at_42 (pc' := 43) rfl rfl ?_
 refine g_icY X at_43 (flt (show ¬ ((1 : Int32) < (1 : Int32)) from (by decide))).2.2.2 (pc' := 52) (by decide) (by decide) ?_
 refine g_iload X at_52 (pc' := 54) rfl rfl ?_
 refine g_iconst X (2 : Int32) at_54 (pc' := 55) rfl rfl ?_
 refine g_icY X at_55 (flt (show ¬ ((2 : Int32) < (1 : Int32)) from (by decide))).2.2.2 (pc' := 64) (by decide) (by decide) ?_
 refine g_bipush X (6 : Int32) at_64 (pc' := 66) rfl rfl ?_
 refine g_newarray X 6 (tb hw 0 rfl) at_66 (pc' := 68) rfl (by decide) (by decide) 6 (by decide) (by decide) (by decide) (by decide) (vs := [(.int (0 : Int32)), (.int (0 : Int32)), (.int (0 : Int32)), (.int (0 : Int32)), (.int (0 : Int32)), (.int (0 : Int32))]) rfl (ad := "[B") (by decide) ?_
 intro T h qs wc X Ex u8 qh
 have jg : q8 ≠ qs := Nat.ne_of_lt (by rw [wc]; exact wb.lt)
 have jh : n0 ≤ qs := by rw [wc]; exact Z0
 have ji : h0.size ≤ qs := by rw [wc]; exact Kp.1
 replace qn := qn.ext Ex
 replace qa := qa.ext Ex
 replace Z0 := Nat.le_trans Z0 Ex.1
 replace Kp := Kp.ext Ex
 replace hk := Nat.le_trans hk Ex.1
 refine g_astore X at_68 (pc' := 70) (Ls' := #[.val (.int i0), .val (.long j1), .second, .val (.int i2), .val (.int i3), .val (.int (1 : Int32)), .val (.int qc), .val (.int qd), .val (.int qf), .val (.ref q8), .val (.ref qs), .unset, .unset, .unset, .unset, .unset, .unset]) rfl rfl rfl ?_
 refine g_aload X at_70 (pc' := 72) rfl rfl rfl ?_
 refine g_iconst X (0 : Int32) at_72 (pc' := 73) rfl rfl ?_
 refine g_lloadN X at_73 (pc' := 74) rfl rfl ?_
 refine g_l2i X at_74 (pc' := 75) rfl ?_
 refine g_i2b X at_75 (pc' := 76) rfl ?_
 generalize u9 : ((j1.toInt32).toInt8.toInt32) = ja
 refine g_bastore X qh 0 at_76 (pc' := 77) rfl (by decide) (by decide) (Nat.le_of_ble_eq_true rfl) ?_
 intro T h X W qh
 replace qh : Av Z h qs .byte [(.int (nar .byte ja)), (.int (0 : Int32)), (.int (0 : Int32)), (.int (0 : Int32)), (.int (0 : Int32)), (.int (0 : Int32))] := qh
 replace hk := Nat.le_trans hk (Nat.le_of_eq W.size.symm)
 replace qn := qn.other W jg
 replace qa := qa.wr W
 replace Z0 := Nat.le_trans Z0 (Nat.le_of_eq W.size.symm)
 replace N := Fr.snoc X.1 N jh
 replace Kp := Kp.wr W (Or.inr ji)
 refine g_aload X at_77 (pc' := 79) rfl rfl rfl ?_
 refine g_iconst X (1 : Int32) at_79 (pc' := 80) rfl rfl ?_
 refine g_lloadN X at_80 (pc' := 81) rfl rfl ?_
 refine g_bipush X (8 : Int32) at_81 (pc' := 83) rfl rfl ?_
 refine g_lushr X at_83 (pc' := 84) rfl ?_
 refine g_l2i X at_84 (pc' := 85) rfl ?_
 refine g_i2b X at_85 (pc' := 86) rfl ?_
 generalize qaa : ((((j1.toUInt64 >>> ((8 : Int32) &&& 0x3f).toInt64.toUInt64).toInt64).toInt32).toInt8.toInt32) = jc
 refine g_bastore X qh 1 at_86 (pc' := 87) rfl (by decide) (by decide) (Nat.le_of_ble_eq_true rfl) ?_
 intro T h X W qh
 replace qh : Av Z h qs .byte [(.int (nar .byte ja)), (.int (nar .byte jc)), (.int (0 : Int32)), (.int (0 : Int32)), (.int (0 : Int32)), (.int (0 : Int32))] := qh
 replace hk := Nat.le_trans hk (Nat.le_of_eq W.size.symm)
 replace qn := qn.other W jg
 replace qa := qa.wr W
 replace Z0 := Nat.le_trans Z0 (Nat.le_of_eq W.size.symm)
 replace N := Fr.snoc X.1 N jh
 replace Kp := Kp.wr W (Or.inr ji)
 refine g_aload X at_87 (pc' := 89) rfl rfl rfl ?_
 refine g_iconst X (2 : Int32) at_89 (pc' := 90) rfl rfl ?_
 refine g_lloadN X at_90 (pc' := 91) rfl rfl ?_
 refine g_bipush X (16 : Int32) at_91 (pc' := 93) rfl rfl ?_
 refine g_lushr X at_93 (pc' := 94) rfl ?_
 refine g_l2i X at_94 (pc' := 95) rfl ?_
 refine g_i2b X at_95 (pc' := 96) rfl ?_
 generalize qab : ((((j1.toUInt64 >>> ((16 : Int32) &&& 0x3f).toInt64.toUInt64).toInt64).toInt32).toInt8.toInt32) = jd
 refine g_bastore X qh 2 at_96 (pc' := 97) rfl (by decide) (by decide) (Nat.le_of_ble_eq_true rfl) ?_
 intro T h X W qh
 replace qh : Av Z h qs .byte [(.int (nar .byte ja)), (.int (nar .byte jc)), (.int (nar .byte jd)), (.int (0 : Int32)), (.int (0 : Int32)), (.int (0 : Int32))] := qh
 replace hk := Nat.le_trans hk (Nat.le_of_eq W.size.symm)
 replace qn := qn.other W jg
 replace qa := qa.wr W
 replace Z0 := Nat.le_trans Z0 (Nat.le_of_eq W.size.symm)
 replace N := Fr.snoc X.1 N jh
 replace Kp := Kp.wr W (Or.inr ji)
 refine g_aload X at_97 (pc' := 99) rfl rfl rfl ?_
 refine g_iconst X (3 : Int32) at_99 (pc' := 100) rfl rfl ?_
 refine g_lloadN X at_100 (pc' := 101) rfl rfl ?_
 refine g_bipush X (24 : Int32) at_101 (pc' := 103) rfl rfl ?_
 refine g_lushr X at_103 (pc' := 104) rfl ?_
 refine g_l2i X at_104 (pc' := 105) rfl ?_
 refine g_i2b X at_105 (pc' := 106) rfl ?_
 generalize qac : ((((j1.toUInt64 >>> ((24 : Int32) &&& 0x3f).toInt64.toUInt64).toInt64).toInt32).toInt8.toInt32) = je
 refine g_bastore X qh 3 at_106 (pc' := 107) rfl (by decide) (by decide) (Nat.le_of_ble_eq_true rfl) ?_
 intro T h X W qh
 replace qh : Av Z h qs .byte [(.int (nar .byte ja)), (.int (nar .byte jc)), (.int (nar .byte jd)), (.int (nar .byte je)), (.int (0 : Int32)), (.int (0 : Int32))] := qh
 replace hk := Nat.le_trans hk (Nat.le_of_eq W.size.symm)
 replace qn := qn.other W jg
 replace qa := qa.wr W
 replace Z0 := Nat.le_trans Z0 (Nat.le_of_eq W.size.symm)
 replace N := Fr.snoc X.1 N jh
 replace Kp := Kp.wr W (Or.inr ji)
 refine g_aload X at_107 (pc' := 109) rfl rfl rfl ?_
 refine g_iconst X (4 : Int32) at_109 (pc' := 110) rfl rfl ?_
 refine g_lloadN X at_110 (pc' := 111) rfl rfl ?_
 refine g_bipush X (32 : Int32) at_111 (pc' := 113) rfl rfl ?_
 refine g_lushr X at_113 (pc' := 114) rfl ?_
 refine g_l2i X at_114 (pc' := 115) rfl ?_
 refine g_i2b X at_115 (pc' := 116) rfl ?_
 generalize qad : ((((j1.toUInt64 >>> ((32 : Int32) &&& 0x3f).toInt64.toUInt64).toInt64).toInt32).toInt8.toInt32) = q9
 refine g_bastore X qh 4 at_116 (pc' := 117) rfl (by decide) (by decide) (Nat.le_of_ble_eq_true rfl) ?_
 intro T h X W qh
 replace qh : Av Z h qs .byte [(.int (nar .byte ja)), (.int (nar .byte jc)), (.int (nar .byte jd)), (.int (nar .byte je)), (.int (nar .byte q9)), (.int (0 : Int32))] := qh
 replace hk := Nat.le_trans hk (Nat.le_of_eq W.size.symm)
 replace qn := qn.other W jg
 replace qa := qa.wr W
 replace Z0 := Nat.le_trans Z0 (Nat.le_of_eq W.size.symm)
 replace N := Fr.snoc X.1 N jh
 replace Kp := Kp.wr W (Or.inr ji)
 refine g_aload X at_117 (pc' := 119) rfl rfl rfl ?_
 refine g_iconst X (5 : Int32) at_119 (pc' := 120) rfl rfl ?_
 refine g_lloadN X at_120 (pc' := 121) rfl rfl ?_
 refine g_bipush X (40 : Int32) at_121 (pc' := 123) rfl rfl ?_
 refine g_lushr X at_123 (pc' := 124) rfl ?_
 refine g_l2i X at_124 (pc' := 125) rfl ?_
 refine g_i2b X at_125 (pc' := 126) rfl ?_
 generalize qae : ((((j1.toUInt64 >>> ((40 : Int32) &&& 0x3f).toInt64.toUInt64).toInt64).toInt32).toInt8.toInt32) = jb
 refine g_bastore X qh 5 at_126 (pc' := 127) rfl (by decide) (by decide) (Nat.le_of_ble_eq_true rfl) ?_
 intro T h X W qh
 replace qh : Av Z h qs .byte [(.int (nar .byte ja)), (.int (nar .byte jc)), (.int (nar .byte jd)), (.int (nar .byte je)), (.int (nar .byte q9)), (.int (nar .byte jb))] := qh
 replace hk := Nat.le_trans hk (Nat.le_of_eq W.size.symm)
 replace qn := qn.other W jg
 replace qa := qa.wr W
 replace Z0 := Nat.le_trans Z0 (Nat.le_of_eq W.size.symm)
 replace N := Fr.snoc X.1 N jh
 replace Kp := Kp.wr W (Or.inr ji)
 refine g_iloadN X at_127 (pc' := 128) rfl rfl ?_
 refine g_iconst X (4 : Int32) at_128 (pc' := 129) rfl rfl ?_
 refine g_iushr X at_129 (pc' := 130) rfl ?_
 refine g_iconst X (3 : Int32) at_130 (pc' := 131) rfl rfl ?_
 refine g_iand X at_131 (pc' := 132) rfl ?_
 generalize z9 : (((i2.toUInt32 >>> ((4 : Int32) &&& 31).toUInt32).toInt32) &&& (3 : Int32)) = jl
 refine g_istore X at_132 (pc' := 134) (Ls' := #[.val (.int i0), .val (.long j1), .second, .val (.int i2), .val (.int i3), .val (.int (1 : Int32)), .val (.int qc), .val (.int qd), .val (.int qf), .val (.ref q8), .val (.ref qs), .val (.int jl), .unset, .unset, .unset, .unset, .unset]) rfl rfl ?_
 have hst := m4 z9
 refine g_iloadN X at_134 (pc' := 135) rfl rfl ?_
 refine g_iconst X (4 : Int32) at_135 (pc' := 136) rfl rfl ?_
 refine g_iand X at_136 (pc' := 137) rfl ?_
 by_cases wv : (i2 &&& (4 : Int32)) = (0 : Int32)
 refine g_ifY X at_137 ((if0 _ _).trans (teq wv).1) (pc' := 182) (by decide) (by decide) ?_
 refine g_iloadN X at_182 (pc' := 183) rfl rfl ?_
 refine g_bipush X (8 : Int32) at_183 (pc' := 185) rfl rfl ?_
 refine g_iand X at_185 (pc' := 186) rfl ?_
 by_cases ww : (i2 &&& (8 : Int32)) = (0 : Int32)
 refine g_ifY X at_186 ((if0 _ _).trans (teq ww).1) (pc' := 225) (by decide) (by decide) ?_
 exact tail1 l Z aa hw n0 i0 i2 i3 qc qd qf jl (nar .byte ja) (nar .byte jc) (nar .byte jd) (nar .byte je) (nar .byte q9) (nar .byte jb) G1 j1 q8 qs (.unset) X hS hk (CHv.keep Kp (fun _ q => nomatch q) HC0) Z0 N hret hlk qn qh qa P5 hst One.u hn0 hn1 hn2
 refine g_ifN X at_186 ((if0 _ _).trans (feq ww).1) (pc' := 189) rfl ?_
 refine g_iload X at_189 (pc' := 191) rfl rfl ?_
 refine g_ifN X at_191 ((if0 _ _).trans (tlt (show (0 : Int32) < (1 : Int32) from (by decide))).2.2.2) (pc' := 194) rfl ?_
 rcases (hst : jl = (0 : Int32) ∨ jl = (1 : Int32) ∨ jl = (2 : Int32) ∨ jl = (3 : Int32)) with hs | hs | hs | hs
 subst hs
 show Go p e below _ (T.setTop (mkF m 194 _ []))
 refine g_iloadN X at_194 (pc' := 195) rfl rfl ?_
 refine g_bipush X (6 : Int32) at_195 (pc' := 197) rfl rfl ?_
 refine g_iushr X at_197 (pc' := 198) rfl ?_
 refine g_iconst X (3 : Int32) at_198 (pc' := 199) rfl rfl ?_
 refine g_iand X at_199 (pc' := 200) rfl ?_
 refine g_iload X at_200 (pc' := 202) rfl rfl ?_
 refine g_irem X at_202 (pc' := 203) rfl (by decide) ?_
 generalize ua : ((((i2.toUInt32 >>> ((6 : Int32) &&& 31).toUInt32).toInt32) &&& (3 : Int32)) % (1 : Int32)) = wx
 refine g_istore X at_203 (pc' := 205) (Ls' := #[.val (.int i0), .val (.long j1), .second, .val (.int i2), .val (.int i3), .val (.int (1 : Int32)), .val (.int qc), .val (.int qd), .val (.int qf), .val (.ref q8), .val (.ref qs), .val (.int (0 : Int32)), .val (.int wx), .unset, .unset, .unset, .unset]) rfl rfl ?_
 rcases (mr1 ua : wx = (0 : Int32)) with hs
 subst hs
 show Go p e below _ (T.setTop (mkF m 205 _ []))
 refine g_aload X at_205 (pc' := 207) rfl rfl rfl ?_
 refine g_iload X at_207 (pc' := 209) rfl rfl ?_
 refine g_iload X at_209 (pc' := 211) rfl rfl ?_
 refine g_iadd X at_211 (pc' := 212) rfl ?_
 refine Go.lit32 (z := (0 : Int32)) (by decide) ?_
 refine g_aload X at_212 (pc' := 214) rfl rfl rfl ?_
 refine g_iload X at_214 (pc' := 216) rfl rfl ?_
 refine g_iload X at_216 (pc' := 218) rfl rfl ?_
 refine g_iadd X at_218 (pc' := 219) rfl ?_
 refine Go.lit32 (z := (0 : Int32)) (by decide) ?_
 refine g_baload X qh 0 at_219 (pc' := 220) rfl (by decide) (by decide) rfl ?_
 refine g_iload X at_220 (pc' := 222) rfl rfl ?_
 refine g_ixor X at_222 (pc' := 223) rfl ?_
 refine g_i2b X at_223 (pc' := 224) rfl ?_
 generalize qaf : (((nar .byte ja) ^^^ i3).toInt8.toInt32) = wy
 refine g_bastore X qh 0 at_224 (pc' := 225) rfl (by decide) (by decide) (Nat.le_of_ble_eq_true rfl) ?_
 intro T h X W qh
 replace qh : Av Z h qs .byte [(.int (nar .byte wy)), (.int (nar .byte jc)), (.int (nar .byte jd)), (.int (nar .byte je)), (.int (nar .byte q9)), (.int (nar .byte jb))] := qh
 replace hk := Nat.le_trans hk (Nat.le_of_eq W.size.symm)
 replace qn := qn.other W jg
 replace qa := qa.wr W
 replace Z0 := Nat.le_trans Z0 (Nat.le_of_eq W.size.symm)
 replace N := Fr.snoc X.1 N jh
 replace Kp := Kp.wr W (Or.inr ji)
 exact tail1 l Z aa hw n0 i0 i2 i3 qc qd qf (0 : Int32) (nar .byte wy) (nar .byte jc) (nar .byte jd) (nar .byte je) (nar .byte q9) (nar .byte jb) G1 j1 q8 qs (.val (.int (0 : Int32))) X hS hk (CHv.keep Kp (fun _ q => nomatch q) HC0) Z0 N hret hlk qn qh qa P5 (Or.inl rfl) (One.val rfl) hn0 hn1 hn2
 subst hs
 show Go p e below _ (T.setTop (mkF m 194 _ []))
 refine g_iloadN X at_194 (pc' := 195) rfl rfl ?_
 refine g_bipush X (6 : Int32) at_195 (pc' := 197) rfl rfl ?_
 refine g_iushr X at_197 (pc' := 198) rfl ?_
 refine g_iconst X (3 : Int32) at_198 (pc' := 199) rfl rfl ?_
 refine g_iand X at_199 (pc' := 200) rfl ?_
 refine g_iload X at_200 (pc' := 202) rfl rfl ?_
 refine g_irem X at_202 (pc' := 203) rfl (by decide) ?_
 generalize ub : ((((i2.toUInt32 >>> ((6 : Int32) &&& 31).toUInt32).toInt32) &&& (3 : Int32)) % (1 : Int32)) = wz
 refine g_istore X at_203 (pc' := 205) (Ls' := #[.val (.int i0), .val (.long j1), .second, .val (.int i2), .val (.int i3), .val (.int (1 : Int32)), .val (.int qc), .val (.int qd), .val (.int qf), .val (.ref q8), .val (.ref qs), .val (.int (1 : Int32)), .val (.int wz), .unset, .unset, .unset, .unset]) rfl rfl ?_
 rcases (mr1 ub : wz = (0 : Int32)) with hs
 subst hs
 show Go p e below _ (T.setTop (mkF m 205 _ []))
 refine g_aload X at_205 (pc' := 207) rfl rfl rfl ?_
 refine g_iload X at_207 (pc' := 209) rfl rfl ?_
 refine g_iload X at_209 (pc' := 211) rfl rfl ?_
 refine g_iadd X at_211 (pc' := 212) rfl ?_
 refine Go.lit32 (z := (1 : Int32)) (by decide) ?_
 refine g_aload X at_212 (pc' := 214) rfl rfl rfl ?_
 refine g_iload X at_214 (pc' := 216) rfl rfl ?_
 refine g_iload X at_216 (pc' := 218) rfl rfl ?_
 refine g_iadd X at_218 (pc' := 219) rfl ?_
 refine Go.lit32 (z := (1 : Int32)) (by decide) ?_
 refine g_baload X qh 1 at_219 (pc' := 220) rfl (by decide) (by decide) rfl ?_
 refine g_iload X at_220 (pc' := 222) rfl rfl ?_
 refine g_ixor X at_222 (pc' := 223) rfl ?_
 refine g_i2b X at_223 (pc' := 224) rfl ?_
 generalize qag : (((nar .byte jc) ^^^ i3).toInt8.toInt32) = w0
 refine g_bastore X qh 1 at_224 (pc' := 225) rfl (by decide) (by decide) (Nat.le_of_ble_eq_true rfl) ?_
 intro T h X W qh
 replace qh : Av Z h qs .byte [(.int (nar .byte ja)), (.int (nar .byte w0)), (.int (nar .byte jd)), (.int (nar .byte je)), (.int (nar .byte q9)), (.int (nar .byte jb))] := qh
 replace hk := Nat.le_trans hk (Nat.le_of_eq W.size.symm)
 replace qn := qn.other W jg
 replace qa := qa.wr W
 replace Z0 := Nat.le_trans Z0 (Nat.le_of_eq W.size.symm)
 replace N := Fr.snoc X.1 N jh
 replace Kp := Kp.wr W (Or.inr ji)
 exact tail1 l Z aa hw n0 i0 i2 i3 qc qd qf (1 : Int32) (nar .byte ja) (nar .byte w0) (nar .byte jd) (nar .byte je) (nar .byte q9) (nar .byte jb) G1 j1 q8 qs (.val (.int (0 : Int32))) X hS hk (CHv.keep Kp (fun _ q => nomatch q) HC0) Z0 N hret hlk qn qh qa P5 (Or.inr (Or.inl rfl)) (One.val rfl) hn0 hn1 hn2
 subst hs
 show Go p e below _ (T.setTop (mkF m 194 _ []))
 refine g_iloadN X at_194 (pc' := 195) rfl rfl ?_
 refine g_bipush X (6 : Int32) at_195 (pc' := 197) rfl rfl ?_
 refine g_iushr X at_197 (pc' := 198) rfl ?_
 refine g_iconst X (3 : Int32) at_198 (pc' := 199) rfl rfl ?_
 refine g_iand X at_199 (pc' := 200) rfl ?_
 refine g_iload X at_200 (pc' := 202) rfl rfl ?_
 refine g_irem X at_202 (pc' := 203) rfl (by decide) ?_
 generalize uc : ((((i2.toUInt32 >>> ((6 : Int32) &&& 31).toUInt32).toInt32) &&& (3 : Int32)) % (1 : Int32)) = w1
 refine g_istore X at_203 (pc' := 205) (Ls' := #[.val (.int i0), .val (.long j1), .second, .val (.int i2), .val (.int i3), .val (.int (1 : Int32)), .val (.int qc), .val (.int qd), .val (.int qf), .val (.ref q8), .val (.ref qs), .val (.int (2 : Int32)), .val (.int w1), .unset, .unset, .unset, .unset]) rfl rfl ?_
 rcases (mr1 uc : w1 = (0 : Int32)) with hs
 subst hs
 show Go p e below _ (T.setTop (mkF m 205 _ []))
 refine g_aload X at_205 (pc' := 207) rfl rfl rfl ?_
 refine g_iload X at_207 (pc' := 209) rfl rfl ?_
 refine g_iload X at_209 (pc' := 211) rfl rfl ?_
 refine g_iadd X at_211 (pc' := 212) rfl ?_
 refine Go.lit32 (z := (2 : Int32)) (by decide) ?_
 refine g_aload X at_212 (pc' := 214) rfl rfl rfl ?_
 refine g_iload X at_214 (pc' := 216) rfl rfl ?_
 refine g_iload X at_216 (pc' := 218) rfl rfl ?_
 refine g_iadd X at_218 (pc' := 219) rfl ?_
 refine Go.lit32 (z := (2 : Int32)) (by decide) ?_
 refine g_baload X qh 2 at_219 (pc' := 220) rfl (by decide) (by decide) rfl ?_
 refine g_iload X at_220 (pc' := 222) rfl rfl ?_
 refine g_ixor X at_222 (pc' := 223) rfl ?_
 refine g_i2b X at_223 (pc' := 224) rfl ?_
 generalize qah : (((nar .byte jd) ^^^ i3).toInt8.toInt32) = w2
 refine g_bastore X qh 2 at_224 (pc' := 225) rfl (by decide) (by decide) (Nat.le_of_ble_eq_true rfl) ?_
 intro T h X W qh
 replace qh : Av Z h qs .byte [(.int (nar .byte ja)), (.int (nar .byte jc)), (.int (nar .byte w2)), (.int (nar .byte je)), (.int (nar .byte q9)), (.int (nar .byte jb))] := qh
 replace hk := Nat.le_trans hk (Nat.le_of_eq W.size.symm)
 replace qn := qn.other W jg
 replace qa := qa.wr W
 replace Z0 := Nat.le_trans Z0 (Nat.le_of_eq W.size.symm)
 replace N := Fr.snoc X.1 N jh
 replace Kp := Kp.wr W (Or.inr ji)
 exact tail1 l Z aa hw n0 i0 i2 i3 qc qd qf (2 : Int32) (nar .byte ja) (nar .byte jc) (nar .byte w2) (nar .byte je) (nar .byte q9) (nar .byte jb) G1 j1 q8 qs (.val (.int (0 : Int32))) X hS hk (CHv.keep Kp (fun _ q => nomatch q) HC0) Z0 N hret hlk qn qh qa P5 (Or.inr (Or.inr (Or.inl rfl))) (One.val rfl) hn0 hn1 hn2
 subst hs
 show Go p e below _ (T.setTop (mkF m 194 _ []))
 refine g_iloadN X at_194 (pc' := 195) rfl rfl ?_
 refine g_bipush X (6 : Int32) at_195 (pc' := 197) rfl rfl ?_
 refine g_iushr X at_197 (pc' := 198) rfl ?_
 refine g_iconst X (3 : Int32) at_198 (pc' := 199) rfl rfl ?_
 refine g_iand X at_199 (pc' := 200) rfl ?_
 refine g_iload X at_200 (pc' := 202) rfl rfl ?_
 refine g_irem X at_202 (pc' := 203) rfl (by decide) ?_
 generalize ud : ((((i2.toUInt32 >>> ((6 : Int32) &&& 31).toUInt32).toInt32) &&& (3 : Int32)) % (1 : Int32)) = w3
 refine g_istore X at_203 (pc' := 205) (Ls' := #[.val (.int i0), .val (.long j1), .second, .val (.int i2), .val (.int i3), .val (.int (1 : Int32)), .val (.int qc), .val (.int qd), .val (.int qf), .val (.ref q8), .val (.ref qs), .val (.int (3 : Int32)), .val (.int w3), .unset, .unset, .unset, .unset]) rfl rfl ?_
 rcases (mr1 ud : w3 = (0 : Int32)) with hs
 subst hs
 show Go p e below _ (T.setTop (mkF m 205 _ []))
 refine g_aload X at_205 (pc' := 207) rfl rfl rfl ?_
 refine g_iload X at_207 (pc' := 209) rfl rfl ?_
 refine g_iload X at_209 (pc' := 211) rfl rfl ?_
 refine g_iadd X at_211 (pc' := 212) rfl ?_
 refine Go.lit32 (z := (3 : Int32)) (by decide) ?_
 refine g_aload X at_212 (pc' := 214) rfl rfl rfl ?_
 refine g_iload X at_214 (pc' := 216) rfl rfl ?_
 refine g_iload X at_216 (pc' := 218) rfl rfl ?_
 refine g_iadd X at_218 (pc' := 219) rfl ?_
 refine Go.lit32 (z := (3 : Int32)) (by decide) ?_
 refine g_baload X qh 3 at_219 (pc' := 220) rfl (by decide) (by decide) rfl ?_
 refine g_iload X at_220 (pc' := 222) rfl rfl ?_
 refine g_ixor X at_222 (pc' := 223) rfl ?_
 refine g_i2b X at_223 (pc' := 224) rfl ?_
 generalize qai : (((nar .byte je) ^^^ i3).toInt8.toInt32) = w4
 refine g_bastore X qh 3 at_224 (pc' := 225) rfl (by decide) (by decide) (Nat.le_of_ble_eq_true rfl) ?_
 intro T h X W qh
 replace qh : Av Z h qs .byte [(.int (nar .byte ja)), (.int (nar .byte jc)), (.int (nar .byte jd)), (.int (nar .byte w4)), (.int (nar .byte q9)), (.int (nar .byte jb))] := qh
 replace hk := Nat.le_trans hk (Nat.le_of_eq W.size.symm)
 replace qn := qn.other W jg
 replace qa := qa.wr W
 replace Z0 := Nat.le_trans Z0 (Nat.le_of_eq W.size.symm)
 replace N := Fr.snoc X.1 N jh
 replace Kp := Kp.wr W (Or.inr ji)
 exact tail1 l Z aa hw n0 i0 i2 i3 qc qd qf (3 : Int32) (nar .byte ja) (nar .byte jc) (nar .byte jd) (nar .byte w4) (nar .byte q9) (nar .byte jb) G1 j1 q8 qs (.val (.int (0 : Int32))) X hS hk (CHv.keep Kp (fun _ q => nomatch q) HC0) Z0 N hret hlk qn qh qa P5 (Or.inr (Or.inr (Or.inr (rfl)))) (One.val rfl) hn0 hn1 hn2
 refine g_ifN X at_137 ((if0 _ _).trans (feq wv).1) (pc' := 140) rfl ?_
 rcases (hst : jl = (0 : Int32) ∨ jl = (1 : Int32) ∨ jl = (2 : Int32) ∨ jl = (3 : Int32)) with hs | hs | hs | hs
 subst hs
 show Go p e below _ (T.setTop (mkF m 140 _ []))
 refine g_iload X at_140 (pc' := 142) rfl rfl ?_
 refine g_ifN X at_142 ((if0 _ _).trans (tlt (show (0 : Int32) < (1 : Int32) from (by decide))).2.2.2) (pc' := 145) rfl ?_
 refine g_aload X at_145 (pc' := 147) rfl rfl rfl ?_
 refine g_iload X at_147 (pc' := 149) rfl rfl ?_
 refine g_iload X at_149 (pc' := 151) rfl rfl ?_
 refine g_bastore X qh 0 at_151 (pc' := 152) rfl (by decide) (by decide) (Nat.le_of_ble_eq_true rfl) ?_
 intro T h X W qh
 replace qh : Av Z h qs .byte [(.int (nar .byte qc)), (.int (nar .byte jc)), (.int (nar .byte jd)), (.int (nar .byte je)), (.int (nar .byte q9)), (.int (nar .byte jb))] := qh
 replace hk := Nat.le_trans hk (Nat.le_of_eq W.size.symm)
 replace qn := qn.other W jg
 replace qa := qa.wr W
 replace Z0 := Nat.le_trans Z0 (Nat.le_of_eq W.size.symm)
 replace N := Fr.snoc X.1 N jh
 replace Kp := Kp.wr W (Or.inr ji)
 refine g_iload X at_152 (pc' := 154) rfl rfl ?_
 refine g_iconst X (1 : Int32) at_154 (pc' := 155) rfl rfl ?_
 refine g_icY X at_155 (flt (show ¬ ((1 : Int32) < (1 : Int32)) from (by decide))).2.2.2 (pc' := 167) (by decide) (by decide) ?_
 refine g_iload X at_167 (pc' := 169) rfl rfl ?_
 refine g_iconst X (2 : Int32) at_169 (pc' := 170) rfl rfl ?_
 refine g_icY X at_170 (flt (show ¬ ((2 : Int32) < (1 : Int32)) from (by decide))).2.2.2 (pc' := 182) (by decide) (by decide) ?_
 refine g_iloadN X at_182 (pc' := 183) rfl rfl ?_
 refine g_bipush X (8 : Int32) at_183 (pc' := 185) rfl rfl ?_
 refine g_iand X at_185 (pc' := 186) rfl ?_
 by_cases w5 : (i2 &&& (8 : Int32)) = (0 : Int32)
 refine g_ifY X at_186 ((if0 _ _).trans (teq w5).1) (pc' := 225) (by decide) (by decide) ?_
 exact tail1 l Z aa hw n0 i0 i2 i3 qc qd qf (0 : Int32) (nar .byte qc) (nar .byte jc) (nar .byte jd) (nar .byte je) (nar .byte q9) (nar .byte jb) G1 j1 q8 qs (.unset) X hS hk (CHv.keep Kp (fun _ q => nomatch q) HC0) Z0 N hret hlk qn qh qa P5 (Or.inl rfl) One.u hn0 hn1 hn2
 refine g_ifN X at_186 ((if0 _ _).trans (feq w5).1) (pc' := 189) rfl ?_
 refine g_iload X at_189 (pc' := 191) rfl rfl ?_
 refine g_ifN X at_191 ((if0 _ _).trans (tlt (show (0 : Int32) < (1 : Int32) from (by decide))).2.2.2) (pc' := 194) rfl ?_
 refine g_iloadN X at_194 (pc' := 195) rfl rfl ?_
 refine g_bipush X (6 : Int32) at_195 (pc' := 197) rfl rfl ?_
 refine g_iushr X at_197 (pc' := 198) rfl ?_
 refine g_iconst X (3 : Int32) at_198 (pc' := 199) rfl rfl ?_
 refine g_iand X at_199 (pc' := 200) rfl ?_
 refine g_iload X at_200 (pc' := 202) rfl rfl ?_
 refine g_irem X at_202 (pc' := 203) rfl (by decide) ?_
 generalize ue : ((((i2.toUInt32 >>> ((6 : Int32) &&& 31).toUInt32).toInt32) &&& (3 : Int32)) % (1 : Int32)) = w6
 refine g_istore X at_203 (pc' := 205) (Ls' := #[.val (.int i0), .val (.long j1), .second, .val (.int i2), .val (.int i3), .val (.int (1 : Int32)), .val (.int qc), .val (.int qd), .val (.int qf), .val (.ref q8), .val (.ref qs), .val (.int (0 : Int32)), .val (.int w6), .unset, .unset, .unset, .unset]) rfl rfl ?_
 rcases (mr1 ue : w6 = (0 : Int32)) with hs
 subst hs
 show Go p e below _ (T.setTop (mkF m 205 _ []))
 refine g_aload X at_205 (pc' := 207) rfl rfl rfl ?_
 refine g_iload X at_207 (pc' := 209) rfl rfl ?_
 refine g_iload X at_209 (pc' := 211) rfl rfl ?_
 refine g_iadd X at_211 (pc' := 212) rfl ?_
 refine Go.lit32 (z := (0 : Int32)) (by decide) ?_
 refine g_aload X at_212 (pc' := 214) rfl rfl rfl ?_
 refine g_iload X at_214 (pc' := 216) rfl rfl ?_
 refine g_iload X at_216 (pc' := 218) rfl rfl ?_
 refine g_iadd X at_218 (pc' := 219) rfl ?_
 refine Go.lit32 (z := (0 : Int32)) (by decide) ?_
 refine g_baload X qh 0 at_219 (pc' := 220) rfl (by decide) (by decide) rfl ?_
 refine g_iload X at_220 (pc' := 222) rfl rfl ?_
 refine g_ixor X at_222 (pc' := 223) rfl ?_
 refine g_i2b X at_223 (pc' := 224) rfl ?_
 generalize qaj : (((nar .byte qc) ^^^ i3).toInt8.toInt32) = w7
 refine g_bastore X qh 0 at_224 (pc' := 225) rfl (by decide) (by decide) (Nat.le_of_ble_eq_true rfl) ?_
 intro T h X W qh
 replace qh : Av Z h qs .byte [(.int (nar .byte w7)), (.int (nar .byte jc)), (.int (nar .byte jd)), (.int (nar .byte je)), (.int (nar .byte q9)), (.int (nar .byte jb))] := qh
 replace hk := Nat.le_trans hk (Nat.le_of_eq W.size.symm)
 replace qn := qn.other W jg
 replace qa := qa.wr W
 replace Z0 := Nat.le_trans Z0 (Nat.le_of_eq W.size.symm)
 replace N := Fr.snoc X.1 N jh
 replace Kp := Kp.wr W (Or.inr ji)
 exact tail1 l Z aa hw n0 i0 i2 i3 qc qd qf (0 : Int32) (nar .byte w7) (nar .byte jc) (nar .byte jd) (nar .byte je) (nar .byte q9) (nar .byte jb) G1 j1 q8 qs (.val (.int (0 : Int32))) X hS hk (CHv.keep Kp (fun _ q => nomatch q) HC0) Z0 N hret hlk qn qh qa P5 (Or.inl rfl) (One.val rfl) hn0 hn1 hn2
 subst hs
 show Go p e below _ (T.setTop (mkF m 140 _ []))
 refine g_iload X at_140 (pc' := 142) rfl rfl ?_
 refine g_ifN X at_142 ((if0 _ _).trans (tlt (show (0 : Int32) < (1 : Int32) from (by decide))).2.2.2) (pc' := 145) rfl ?_
 refine g_aload X at_145 (pc' := 147) rfl rfl rfl ?_
 refine g_iload X at_147 (pc' := 149) rfl rfl ?_
 refine g_iload X at_149 (pc' := 151) rfl rfl ?_
 refine g_bastore X qh 1 at_151 (pc' := 152) rfl (by decide) (by decide) (Nat.le_of_ble_eq_true rfl) ?_
 intro T h X W qh
 replace qh : Av Z h qs .byte [(.int (nar .byte ja)), (.int (nar .byte qc)), (.int (nar .byte jd)), (.int (nar .byte je)), (.int (nar .byte q9)), (.int (nar .byte jb))] := qh
 replace hk := Nat.le_trans hk (Nat.le_of_eq W.size.symm)
 replace qn := qn.other W jg
 replace qa := qa.wr W
 replace Z0 := Nat.le_trans Z0 (Nat.le_of_eq W.size.symm)
 replace N := Fr.snoc X.1 N jh
 replace Kp := Kp.wr W (Or.inr ji)
 refine g_iload X at_152 (pc' := 154) rfl rfl ?_
 refine g_iconst X (1 : Int32) at_154 (pc' := 155) rfl rfl ?_
 refine g_icY X at_155 (flt (show ¬ ((1 : Int32) < (1 : Int32)) from (by decide))).2.2.2 (pc' := 167) (by decide) (by decide) ?_
 refine g_iload X at_167 (pc' := 169) rfl rfl ?_
 refine g_iconst X (2 : Int32) at_169 (pc' := 170) rfl rfl ?_
 refine g_icY X at_170 (flt (show ¬ ((2 : Int32) < (1 : Int32)) from (by decide))).2.2.2 (pc' := 182) (by decide) (by decide) ?_
 refine g_iloadN X at_182 (pc' := 183) rfl rfl ?_
 refine g_bipush X (8 : Int32) at_183 (pc' := 185) rfl rfl ?_
 refine g_iand X at_185 (pc' := 186) rfl ?_
 by_cases w8 : (i2 &&& (8 : Int32)) = (0 : Int32)
 refine g_ifY X at_186 ((if0 _ _).trans (teq w8).1) (pc' := 225) (by decide) (by decide) ?_
 exact tail1 l Z aa hw n0 i0 i2 i3 qc qd qf (1 : Int32) (nar .byte ja) (nar .byte qc) (nar .byte jd) (nar .byte je) (nar .byte q9) (nar .byte jb) G1 j1 q8 qs (.unset) X hS hk (CHv.keep Kp (fun _ q => nomatch q) HC0) Z0 N hret hlk qn qh qa P5 (Or.inr (Or.inl rfl)) One.u hn0 hn1 hn2
 refine g_ifN X at_186 ((if0 _ _).trans (feq w8).1) (pc' := 189) rfl ?_
 refine g_iload X at_189 (pc' := 191) rfl rfl ?_
 refine g_ifN X at_191 ((if0 _ _).trans (tlt (show (0 : Int32) < (1 : Int32) from (by decide))).2.2.2) (pc' := 194) rfl ?_
 refine g_iloadN X at_194 (pc' := 195) rfl rfl ?_
 refine g_bipush X (6 : Int32) at_195 (pc' := 197) rfl rfl ?_
 refine g_iushr X at_197 (pc' := 198) rfl ?_
 refine g_iconst X (3 : Int32) at_198 (pc' := 199) rfl rfl ?_
 refine g_iand X at_199 (pc' := 200) rfl ?_
 refine g_iload X at_200 (pc' := 202) rfl rfl ?_
 refine g_irem X at_202 (pc' := 203) rfl (by decide) ?_
 generalize uf : ((((i2.toUInt32 >>> ((6 : Int32) &&& 31).toUInt32).toInt32) &&& (3 : Int32)) % (1 : Int32)) = w9
 refine g_istore X at_203 (pc' := 205) (Ls' := #[.val (.int i0), .val (.long j1), .second, .val (.int i2), .val (.int i3), .val (.int (1 : Int32)), .val (.int qc), .val (.int qd), .val (.int qf), .val (.ref q8), .val (.ref qs), .val (.int (1 : Int32)), .val (.int w9), .unset, .unset, .unset, .unset]) rfl rfl ?_
 rcases (mr1 uf : w9 = (0 : Int32)) with hs
 subst hs
 show Go p e below _ (T.setTop (mkF m 205 _ []))
 refine g_aload X at_205 (pc' := 207) rfl rfl rfl ?_
 refine g_iload X at_207 (pc' := 209) rfl rfl ?_
 refine g_iload X at_209 (pc' := 211) rfl rfl ?_
 refine g_iadd X at_211 (pc' := 212) rfl ?_
 refine Go.lit32 (z := (1 : Int32)) (by decide) ?_
 refine g_aload X at_212 (pc' := 214) rfl rfl rfl ?_
 refine g_iload X at_214 (pc' := 216) rfl rfl ?_
 refine g_iload X at_216 (pc' := 218) rfl rfl ?_
 refine g_iadd X at_218 (pc' := 219) rfl ?_
 refine Go.lit32 (z := (1 : Int32)) (by decide) ?_
 refine g_baload X qh 1 at_219 (pc' := 220) rfl (by decide) (by decide) rfl ?_
 refine g_iload X at_220 (pc' := 222) rfl rfl ?_
 refine g_ixor X at_222 (pc' := 223) rfl ?_
 refine g_i2b X at_223 (pc' := 224) rfl ?_
 generalize qak : (((nar .byte qc) ^^^ i3).toInt8.toInt32) = ya
 refine g_bastore X qh 1 at_224 (pc' := 225) rfl (by decide) (by decide) (Nat.le_of_ble_eq_true rfl) ?_
 intro T h X W qh
 replace qh : Av Z h qs .byte [(.int (nar .byte ja)), (.int (nar .byte ya)), (.int (nar .byte jd)), (.int (nar .byte je)), (.int (nar .byte q9)), (.int (nar .byte jb))] := qh
 replace hk := Nat.le_trans hk (Nat.le_of_eq W.size.symm)
 replace qn := qn.other W jg
 replace qa := qa.wr W
 replace Z0 := Nat.le_trans Z0 (Nat.le_of_eq W.size.symm)
 replace N := Fr.snoc X.1 N jh
 replace Kp := Kp.wr W (Or.inr ji)
 exact tail1 l Z aa hw n0 i0 i2 i3 qc qd qf (1 : Int32) (nar .byte ja) (nar .byte ya) (nar .byte jd) (nar .byte je) (nar .byte q9) (nar .byte jb) G1 j1 q8 qs (.val (.int (0 : Int32))) X hS hk (CHv.keep Kp (fun _ q => nomatch q) HC0) Z0 N hret hlk qn qh qa P5 (Or.inr (Or.inl rfl)) (One.val rfl) hn0 hn1 hn2
 subst hs
 show Go p e below _ (T.setTop (mkF m 140 _ []))
 refine g_iload X at_140 (pc' := 142) rfl rfl ?_
 refine g_ifN X at_142 ((if0 _ _).trans (tlt (show (0 : Int32) < (1 : Int32) from (by decide))).2.2.2) (pc' := 145) rfl ?_
 refine g_aload X at_145 (pc' := 147) rfl rfl rfl ?_
 refine g_iload X at_147 (pc' := 149) rfl rfl ?_
 refine g_iload X at_149 (pc' := 151) rfl rfl ?_
 refine g_bastore X qh 2 at_151 (pc' := 152) rfl (by decide) (by decide) (Nat.le_of_ble_eq_true rfl) ?_
 intro T h X W qh
 replace qh : Av Z h qs .byte [(.int (nar .byte ja)), (.int (nar .byte jc)), (.int (nar .byte qc)), (.int (nar .byte je)), (.int (nar .byte q9)), (.int (nar .byte jb))] := qh
 replace hk := Nat.le_trans hk (Nat.le_of_eq W.size.symm)
 replace qn := qn.other W jg
 replace qa := qa.wr W
 replace Z0 := Nat.le_trans Z0 (Nat.le_of_eq W.size.symm)
 replace N := Fr.snoc X.1 N jh
 replace Kp := Kp.wr W (Or.inr ji)
 refine g_iload X at_152 (pc' := 154) rfl rfl ?_
 refine g_iconst X (1 : Int32) at_154 (pc' := 155) rfl rfl ?_
 refine g_icY X at_155 (flt (show ¬ ((1 : Int32) < (1 : Int32)) from (by decide))).2.2.2 (pc' := 167) (by decide) (by decide) ?_
 refine g_iload X at_167 (pc' := 169) rfl rfl ?_
 refine g_iconst X (2 : Int32) at_169 (pc' := 170) rfl rfl ?_
 refine g_icY X at_170 (flt (show ¬ ((2 : Int32) < (1 : Int32)) from (by decide))).2.2.2 (pc' := 182) (by decide) (by decide) ?_
 refine g_iloadN X at_182 (pc' := 183) rfl rfl ?_
 refine g_bipush X (8 : Int32) at_183 (pc' := 185) rfl rfl ?_
 refine g_iand X at_185 (pc' := 186) rfl ?_
 by_cases yb : (i2 &&& (8 : Int32)) = (0 : Int32)
 refine g_ifY X at_186 ((if0 _ _).trans (teq yb).1) (pc' := 225) (by decide) (by decide) ?_
 exact tail1 l Z aa hw n0 i0 i2 i3 qc qd qf (2 : Int32) (nar .byte ja) (nar .byte jc) (nar .byte qc) (nar .byte je) (nar .byte q9) (nar .byte jb) G1 j1 q8 qs (.unset) X hS hk (CHv.keep Kp (fun _ q => nomatch q) HC0) Z0 N hret hlk qn qh qa P5 (Or.inr (Or.inr (Or.inl rfl))) One.u hn0 hn1 hn2
 refine g_ifN X at_186 ((if0 _ _).trans (feq yb).1) (pc' := 189) rfl ?_
 refine g_iload X at_189 (pc' := 191) rfl rfl ?_
 refine g_ifN X at_191 ((if0 _ _).trans (tlt (show (0 : Int32) < (1 : Int32) from (by decide))).2.2.2) (pc' := 194) rfl ?_
 refine g_iloadN X at_194 (pc' := 195) rfl rfl ?_
 refine g_bipush X (6 : Int32) at_195 (pc' := 197) rfl rfl ?_
 refine g_iushr X at_197 (pc' := 198) rfl ?_
 refine g_iconst X (3 : Int32) at_198 (pc' := 199) rfl rfl ?_
 refine g_iand X at_199 (pc' := 200) rfl ?_
 refine g_iload X at_200 (pc' := 202) rfl rfl ?_
 refine g_irem X at_202 (pc' := 203) rfl (by decide) ?_
 generalize ug : ((((i2.toUInt32 >>> ((6 : Int32) &&& 31).toUInt32).toInt32) &&& (3 : Int32)) % (1 : Int32)) = yc
 refine g_istore X at_203 (pc' := 205) (Ls' := #[.val (.int i0), .val (.long j1), .second, .val (.int i2), .val (.int i3), .val (.int (1 : Int32)), .val (.int qc), .val (.int qd), .val (.int qf), .val (.ref q8), .val (.ref qs), .val (.int (2 : Int32)), .val (.int yc), .unset, .unset, .unset, .unset]) rfl rfl ?_
 rcases (mr1 ug : yc = (0 : Int32)) with hs
 subst hs
 show Go p e below _ (T.setTop (mkF m 205 _ []))
 refine g_aload X at_205 (pc' := 207) rfl rfl rfl ?_
 refine g_iload X at_207 (pc' := 209) rfl rfl ?_
 refine g_iload X at_209 (pc' := 211) rfl rfl ?_
 refine g_iadd X at_211 (pc' := 212) rfl ?_
 refine Go.lit32 (z := (2 : Int32)) (by decide) ?_
 refine g_aload X at_212 (pc' := 214) rfl rfl rfl ?_
 refine g_iload X at_214 (pc' := 216) rfl rfl ?_
 refine g_iload X at_216 (pc' := 218) rfl rfl ?_
 refine g_iadd X at_218 (pc' := 219) rfl ?_
 refine Go.lit32 (z := (2 : Int32)) (by decide) ?_
 refine g_baload X qh 2 at_219 (pc' := 220) rfl (by decide) (by decide) rfl ?_
 refine g_iload X at_220 (pc' := 222) rfl rfl ?_
 refine g_ixor X at_222 (pc' := 223) rfl ?_
 refine g_i2b X at_223 (pc' := 224) rfl ?_
 generalize qal : (((nar .byte qc) ^^^ i3).toInt8.toInt32) = yd
 refine g_bastore X qh 2 at_224 (pc' := 225) rfl (by decide) (by decide) (Nat.le_of_ble_eq_true rfl) ?_
 intro T h X W qh
 replace qh : Av Z h qs .byte [(.int (nar .byte ja)), (.int (nar .byte jc)), (.int (nar .byte yd)), (.int (nar .byte je)), (.int (nar .byte q9)), (.int (nar .byte jb))] := qh
 replace hk := Nat.le_trans hk (Nat.le_of_eq W.size.symm)
 replace qn := qn.other W jg
 replace qa := qa.wr W
 replace Z0 := Nat.le_trans Z0 (Nat.le_of_eq W.size.symm)
 replace N := Fr.snoc X.1 N jh
 replace Kp := Kp.wr W (Or.inr ji)
 exact tail1 l Z aa hw n0 i0 i2 i3 qc qd qf (2 : Int32) (nar .byte ja) (nar .byte jc) (nar .byte yd) (nar .byte je) (nar .byte q9) (nar .byte jb) G1 j1 q8 qs (.val (.int (0 : Int32))) X hS hk (CHv.keep Kp (fun _ q => nomatch q) HC0) Z0 N hret hlk qn qh qa P5 (Or.inr (Or.inr (Or.inl rfl))) (One.val rfl) hn0 hn1 hn2
 subst hs
 show Go p e below _ (T.setTop (mkF m 140 _ []))
 refine g_iload X at_140 (pc' := 142) rfl rfl ?_
 refine g_ifN X at_142 ((if0 _ _).trans (tlt (show (0 : Int32) < (1 : Int32) from (by decide))).2.2.2) (pc' := 145) rfl ?_
 refine g_aload X at_145 (pc' := 147) rfl rfl rfl ?_
 refine g_iload X at_147 (pc' := 149) rfl rfl ?_
 refine g_iload X at_149 (pc' := 151) rfl rfl ?_
 refine g_bastore X qh 3 at_151 (pc' := 152) rfl (by decide) (by decide) (Nat.le_of_ble_eq_true rfl) ?_
 intro T h X W qh
 replace qh : Av Z h qs .byte [(.int (nar .byte ja)), (.int (nar .byte jc)), (.int (nar .byte jd)), (.int (nar .byte qc)), (.int (nar .byte q9)), (.int (nar .byte jb))] := qh
 replace hk := Nat.le_trans hk (Nat.le_of_eq W.size.symm)
 replace qn := qn.other W jg
 replace qa := qa.wr W
 replace Z0 := Nat.le_trans Z0 (Nat.le_of_eq W.size.symm)
 replace N := Fr.snoc X.1 N jh
 replace Kp := Kp.wr W (Or.inr ji)
 refine g_iload X at_152 (pc' := 154) rfl rfl ?_
 refine g_iconst X (1 : Int32) at_154 (pc' := 155) rfl rfl ?_
 refine g_icY X at_155 (flt (show ¬ ((1 : Int32) < (1 : Int32)) from (by decide))).2.2.2 (pc' := 167) (by decide) (by decide) ?_
 refine g_iload X at_167 (pc' := 169) rfl rfl ?_
 refine g_iconst X (2 : Int32) at_169 (pc' := 170) rfl rfl ?_
 refine g_icY X at_170 (flt (show ¬ ((2 : Int32) < (1 : Int32)) from (by decide))).2.2.2 (pc' := 182) (by decide) (by decide) ?_
 refine g_iloadN X at_182 (pc' := 183) rfl rfl ?_
 refine g_bipush X (8 : Int32) at_183 (pc' := 185) rfl rfl ?_
 refine g_iand X at_185 (pc' := 186) rfl ?_
 by_cases ye : (i2 &&& (8 : Int32)) = (0 : Int32)
 refine g_ifY X at_186 ((if0 _ _).trans (teq ye).1) (pc' := 225) (by decide) (by decide) ?_
 exact tail1 l Z aa hw n0 i0 i2 i3 qc qd qf (3 : Int32) (nar .byte ja) (nar .byte jc) (nar .byte jd) (nar .byte qc) (nar .byte q9) (nar .byte jb) G1 j1 q8 qs (.unset) X hS hk (CHv.keep Kp (fun _ q => nomatch q) HC0) Z0 N hret hlk qn qh qa P5 (Or.inr (Or.inr (Or.inr (rfl)))) One.u hn0 hn1 hn2
 refine g_ifN X at_186 ((if0 _ _).trans (feq ye).1) (pc' := 189) rfl ?_
 refine g_iload X at_189 (pc' := 191) rfl rfl ?_
 refine g_ifN X at_191 ((if0 _ _).trans (tlt (show (0 : Int32) < (1 : Int32) from (by decide))).2.2.2) (pc' := 194) rfl ?_
 refine g_iloadN X at_194 (pc' := 195) rfl rfl ?_
 refine g_bipush X (6 : Int32) at_195 (pc' := 197) rfl rfl ?_
 refine g_iushr X at_197 (pc' := 198) rfl ?_
 refine g_iconst X (3 : Int32) at_198 (pc' := 199) rfl rfl ?_
 refine g_iand X at_199 (pc' := 200) rfl ?_
 refine g_iload X at_200 (pc' := 202) rfl rfl ?_
 refine g_irem X at_202 (pc' := 203) rfl (by decide) ?_
 generalize uh : ((((i2.toUInt32 >>> ((6 : Int32) &&& 31).toUInt32).toInt32) &&& (3 : Int32)) % (1 : Int32)) = yf
 refine g_istore X at_203 (pc' := 205) (Ls' := #[.val (.int i0), .val (.long j1), .second, .val (.int i2), .val (.int i3), .val (.int (1 : Int32)), .val (.int qc), .val (.int qd), .val (.int qf), .val (.ref q8), .val (.ref qs), .val (.int (3 : Int32)), .val (.int yf), .unset, .unset, .unset, .unset]) rfl rfl ?_
 rcases (mr1 uh : yf = (0 : Int32)) with hs
 subst hs
 show Go p e below _ (T.setTop (mkF m 205 _ []))
 refine g_aload X at_205 (pc' := 207) rfl rfl rfl ?_
 refine g_iload X at_207 (pc' := 209) rfl rfl ?_
 refine g_iload X at_209 (pc' := 211) rfl rfl ?_
 refine g_iadd X at_211 (pc' := 212) rfl ?_
 refine Go.lit32 (z := (3 : Int32)) (by decide) ?_
 refine g_aload X at_212 (pc' := 214) rfl rfl rfl ?_
 refine g_iload X at_214 (pc' := 216) rfl rfl ?_
 refine g_iload X at_216 (pc' := 218) rfl rfl ?_
 refine g_iadd X at_218 (pc' := 219) rfl ?_
 refine Go.lit32 (z := (3 : Int32)) (by decide) ?_
 refine g_baload X qh 3 at_219 (pc' := 220) rfl (by decide) (by decide) rfl ?_
 refine g_iload X at_220 (pc' := 222) rfl rfl ?_
 refine g_ixor X at_222 (pc' := 223) rfl ?_
 refine g_i2b X at_223 (pc' := 224) rfl ?_
 generalize qam : (((nar .byte qc) ^^^ i3).toInt8.toInt32) = yg
 refine g_bastore X qh 3 at_224 (pc' := 225) rfl (by decide) (by decide) (Nat.le_of_ble_eq_true rfl) ?_
 intro T h X W qh
 replace qh : Av Z h qs .byte [(.int (nar .byte ja)), (.int (nar .byte jc)), (.int (nar .byte jd)), (.int (nar .byte yg)), (.int (nar .byte q9)), (.int (nar .byte jb))] := qh
 replace hk := Nat.le_trans hk (Nat.le_of_eq W.size.symm)
 replace qn := qn.other W jg
 replace qa := qa.wr W
 replace Z0 := Nat.le_trans Z0 (Nat.le_of_eq W.size.symm)
 replace N := Fr.snoc X.1 N jh
 replace Kp := Kp.wr W (Or.inr ji)
 exact tail1 l Z aa hw n0 i0 i2 i3 qc qd qf (3 : Int32) (nar .byte ja) (nar .byte jc) (nar .byte jd) (nar .byte yg) (nar .byte q9) (nar .byte jb) G1 j1 q8 qs (.val (.int (0 : Int32))) X hS hk (CHv.keep Kp (fun _ q => nomatch q) HC0) Z0 N hret hlk qn qh qa P5 (Or.inr (Or.inr (Or.inr (rfl)))) (One.val rfl) hn0 hn1 hn2
 subst hs
 show Go p e below _ (T.setTop (mkF m 23 _ []))
 refine g_iload X at_23 (pc' := 25) rfl rfl ?_
 refine g_newarray X 2 (tb hw 0 rfl) at_25 (pc' := 27) rfl (by decide) (by decide) 2 (by decide) (by decide) (by decide) (by decide) (vs := [(.int (0 : Int32)), (.int (0 : Int32))]) rfl (ad := "[B") (by decide) ?_
 intro T h q0 yh X Ex j0 qi
 have yi : n0 ≤ q0 := by rw [yh]; exact Z0
 have yj : h0.size ≤ q0 := by rw [yh]; exact Kp.1
 replace qa := qa.ext Ex
 replace Z0 := Nat.le_trans Z0 Ex.1
 replace Kp := Kp.ext Ex
 replace hk := Nat.le_trans hk Ex.1
 refine g_astore X at_27 (pc' := 29) (Ls' := #[.val (.int i0), .val (.long j1), .second, .val (.int i2), .val (.int i3), .val (.int (2 : Int32)), .val (.int qc), .val (.int qd), .val (.int qf), .val (.ref q0), .unset, .unset, .unset, .unset, .unset, .unset, .unset]) rfl rfl rfl ?_
 refine g_iload X at_29 (pc' := 31) rfl rfl ?_
 refine g_ifN X at_31 ((if0 _ _).trans (tlt (show (0 : Int32) < (2 : Int32) from (by decide))).2.2.2) (pc' := 34) rfl ?_
 refine g_aload X at_34 (pc' := 36) rfl rfl rfl ?_
 refine g_iconst X (0 : Int32) at_36 (pc' := 37) rfl rfl ?_
 refine g_iload X at_37 (pc' := 39) rfl rfl ?_
 refine g_bastore X qi 0 at_39 (pc' := 40) rfl (by decide) (by decide) (Nat.le_of_ble_eq_true rfl) ?_
 intro T h X W qi
 replace qi : Av Z h q0 .byte [(.int (nar .byte qc)), (.int (0 : Int32))] := qi
 replace hk := Nat.le_trans hk (Nat.le_of_eq W.size.symm)
 replace j0 := j0.wr W
 replace qa := qa.wr W
 replace Z0 := Nat.le_trans Z0 (Nat.le_of_eq W.size.symm)
 replace N := Fr.snoc X.1 N yi
 replace Kp := Kp.wr W (Or.inr yj)
 refine g_iload X at_40 (pc' := 42) rfl rfl ?_
 refine g_iconst X (1 : Int32) at_42 (pc' := 43) rfl rfl ?_
 refine g_icN X at_43 (tlt (show (1 : Int32) < (2 : Int32) from (by decide))).2.2.2 (pc' := 46) rfl ?_
 refine g_aload X at_46 (pc' := 48) rfl rfl rfl ?_
 refine g_iconst X (1 : Int32) at_48 (pc' := 49) rfl rfl ?_
 refine g_iload X at_49 (pc' := 51) rfl rfl ?_
 refine g_bastore X qi 1 at_51 (pc' := 52) rfl (by decide) (by decide) (Nat.le_of_ble_eq_true rfl) ?_
 intro T h X W qi
 replace qi : Av Z h q0 .byte [(.int (nar .byte qc)), (.int (nar .byte qd))] := qi
 replace hk := Nat.le_trans hk (Nat.le_of_eq W.size.symm)
 replace j0 := j0.wr W
 replace qa := qa.wr W
 replace Z0 := Nat.le_trans Z0 (Nat.le_of_eq W.size.symm)
 replace N := Fr.snoc X.1 N yi
 replace Kp := Kp.wr W (Or.inr yj)
 refine g_iload X at_52 (pc' := 54) rfl rfl ?_
 refine g_iconst X (2 : Int32) at_54 (pc' := 55) rfl rfl ?_
 refine g_icY X at_55 (flt (show ¬ ((2 : Int32) < (2 : Int32)) from (by decide))).2.2.2 (pc' := 64) (by decide) (by decide) ?_
 refine g_bipush X (6 : Int32) at_64 (pc' := 66) rfl rfl ?_
 refine g_newarray X 6 (tb hw 0 rfl) at_66 (pc' := 68) rfl (by decide) (by decide) 6 (by decide) (by decide) (by decide) (by decide) (vs := [(.int (0 : Int32)), (.int (0 : Int32)), (.int (0 : Int32)), (.int (0 : Int32)), (.int (0 : Int32)), (.int (0 : Int32))]) rfl (ad := "[B") (by decide) ?_
 intro T h qk wd X Ex qan qe
 have q4 : q0 ≠ qk := Nat.ne_of_lt (by rw [wd]; exact j0.lt)
 have q5 : n0 ≤ qk := by rw [wd]; exact Z0
 have q6 : h0.size ≤ qk := by rw [wd]; exact Kp.1
 replace qi := qi.ext Ex
 replace qa := qa.ext Ex
 replace Z0 := Nat.le_trans Z0 Ex.1
 replace Kp := Kp.ext Ex
 replace hk := Nat.le_trans hk Ex.1
 refine g_astore X at_68 (pc' := 70) (Ls' := #[.val (.int i0), .val (.long j1), .second, .val (.int i2), .val (.int i3), .val (.int (2 : Int32)), .val (.int qc), .val (.int qd), .val (.int qf), .val (.ref q0), .val (.ref qk), .unset, .unset, .unset, .unset, .unset, .unset]) rfl rfl rfl ?_
 refine g_aload X at_70 (pc' := 72) rfl rfl rfl ?_
 refine g_iconst X (0 : Int32) at_72 (pc' := 73) rfl rfl ?_
 refine g_lloadN X at_73 (pc' := 74) rfl rfl ?_
 refine g_l2i X at_74 (pc' := 75) rfl ?_
 refine g_i2b X at_75 (pc' := 76) rfl ?_
 generalize qao : ((j1.toInt32).toInt8.toInt32) = qt
 refine g_bastore X qe 0 at_76 (pc' := 77) rfl (by decide) (by decide) (Nat.le_of_ble_eq_true rfl) ?_
 intro T h X W qe
 replace qe : Av Z h qk .byte [(.int (nar .byte qt)), (.int (0 : Int32)), (.int (0 : Int32)), (.int (0 : Int32)), (.int (0 : Int32)), (.int (0 : Int32))] := qe
 replace hk := Nat.le_trans hk (Nat.le_of_eq W.size.symm)
 replace qi := qi.other W q4
 replace qa := qa.wr W
 replace Z0 := Nat.le_trans Z0 (Nat.le_of_eq W.size.symm)
 replace N := Fr.snoc X.1 N q5
 replace Kp := Kp.wr W (Or.inr q6)
 refine g_aload X at_77 (pc' := 79) rfl rfl rfl ?_
 refine g_iconst X (1 : Int32) at_79 (pc' := 80) rfl rfl ?_
 refine g_lloadN X at_80 (pc' := 81) rfl rfl ?_
 refine g_bipush X (8 : Int32) at_81 (pc' := 83) rfl rfl ?_
 refine g_lushr X at_83 (pc' := 84) rfl ?_
 refine g_l2i X at_84 (pc' := 85) rfl ?_
 refine g_i2b X at_85 (pc' := 86) rfl ?_
 generalize qap : ((((j1.toUInt64 >>> ((8 : Int32) &&& 0x3f).toInt64.toUInt64).toInt64).toInt32).toInt8.toInt32) = q1
 refine g_bastore X qe 1 at_86 (pc' := 87) rfl (by decide) (by decide) (Nat.le_of_ble_eq_true rfl) ?_
 intro T h X W qe
 replace qe : Av Z h qk .byte [(.int (nar .byte qt)), (.int (nar .byte q1)), (.int (0 : Int32)), (.int (0 : Int32)), (.int (0 : Int32)), (.int (0 : Int32))] := qe
 replace hk := Nat.le_trans hk (Nat.le_of_eq W.size.symm)
 replace qi := qi.other W q4
 replace qa := qa.wr W
 replace Z0 := Nat.le_trans Z0 (Nat.le_of_eq W.size.symm)
 replace N := Fr.snoc X.1 N q5
 replace Kp := Kp.wr W (Or.inr q6)
 refine g_aload X at_87 (pc' := 89) rfl rfl rfl ?_
 refine g_iconst X (2 : Int32) at_89 (pc' := 90) rfl rfl ?_
 refine g_lloadN X at_90 (pc' := 91) rfl rfl ?_
 refine g_bipush X (16 : Int32) at_91 (pc' := 93) rfl rfl ?_
 refine g_lushr X at_93 (pc' := 94) rfl ?_
 refine g_l2i X at_94 (pc' := 95) rfl ?_
 refine g_i2b X at_95 (pc' := 96) rfl ?_
 generalize qaq : ((((j1.toUInt64 >>> ((16 : Int32) &&& 0x3f).toInt64.toUInt64).toInt64).toInt32).toInt8.toInt32) = q2
 refine g_bastore X qe 2 at_96 (pc' := 97) rfl (by decide) (by decide) (Nat.le_of_ble_eq_true rfl) ?_
 intro T h X W qe
 replace qe : Av Z h qk .byte [(.int (nar .byte qt)), (.int (nar .byte q1)), (.int (nar .byte q2)), (.int (0 : Int32)), (.int (0 : Int32)), (.int (0 : Int32))] := qe
 replace hk := Nat.le_trans hk (Nat.le_of_eq W.size.symm)
 replace qi := qi.other W q4
 replace qa := qa.wr W
 replace Z0 := Nat.le_trans Z0 (Nat.le_of_eq W.size.symm)
 replace N := Fr.snoc X.1 N q5
 replace Kp := Kp.wr W (Or.inr q6)
 refine g_aload X at_97 (pc' := 99) rfl rfl rfl ?_
 refine g_iconst X (3 : Int32) at_99 (pc' := 100) rfl rfl ?_
 refine g_lloadN X at_100 (pc' := 101) rfl rfl ?_
 refine g_bipush X (24 : Int32) at_101 (pc' := 103) rfl rfl ?_
 refine g_lushr X at_103 (pc' := 104) rfl ?_
 refine g_l2i X at_104 (pc' := 105) rfl ?_
 refine g_i2b X at_105 (pc' := 106) rfl ?_
 generalize qar : ((((j1.toUInt64 >>> ((24 : Int32) &&& 0x3f).toInt64.toUInt64).toInt64).toInt32).toInt8.toInt32) = q3
 refine g_bastore X qe 3 at_106 (pc' := 107) rfl (by decide) (by decide) (Nat.le_of_ble_eq_true rfl) ?_
 intro T h X W qe
 replace qe : Av Z h qk .byte [(.int (nar .byte qt)), (.int (nar .byte q1)), (.int (nar .byte q2)), (.int (nar .byte q3)), (.int (0 : Int32)), (.int (0 : Int32))] := qe
 replace hk := Nat.le_trans hk (Nat.le_of_eq W.size.symm)
 replace qi := qi.other W q4
 replace qa := qa.wr W
 replace Z0 := Nat.le_trans Z0 (Nat.le_of_eq W.size.symm)
 replace N := Fr.snoc X.1 N q5
 replace Kp := Kp.wr W (Or.inr q6)
 refine g_aload X at_107 (pc' := 109) rfl rfl rfl ?_
 refine g_iconst X (4 : Int32) at_109 (pc' := 110) rfl rfl ?_
 refine g_lloadN X at_110 (pc' := 111) rfl rfl ?_
 refine g_bipush X (32 : Int32) at_111 (pc' := 113) rfl rfl ?_
 refine g_lushr X at_113 (pc' := 114) rfl ?_
 refine g_l2i X at_114 (pc' := 115) rfl ?_
 refine g_i2b X at_115 (pc' := 116) rfl ?_
 generalize qas : ((((j1.toUInt64 >>> ((32 : Int32) &&& 0x3f).toInt64.toUInt64).toInt64).toInt32).toInt8.toInt32) = qx
 refine g_bastore X qe 4 at_116 (pc' := 117) rfl (by decide) (by decide) (Nat.le_of_ble_eq_true rfl) ?_
 intro T h X W qe
 replace qe : Av Z h qk .byte [(.int (nar .byte qt)), (.int (nar .byte q1)), (.int (nar .byte q2)), (.int (nar .byte q3)), (.int (nar .byte qx)), (.int (0 : Int32))] := qe
 replace hk := Nat.le_trans hk (Nat.le_of_eq W.size.symm)
 replace qi := qi.other W q4
 replace qa := qa.wr W
 replace Z0 := Nat.le_trans Z0 (Nat.le_of_eq W.size.symm)
 replace N := Fr.snoc X.1 N q5
 replace Kp := Kp.wr W (Or.inr q6)
 refine g_aload X at_117 (pc' := 119) rfl rfl rfl ?_
 refine g_iconst X (5 : Int32) at_119 (pc' := 120) rfl rfl ?_
 refine g_lloadN X at_120 (pc' := 121) rfl rfl ?_
 refine g_bipush X (40 : Int32) at_121 (pc' := 123) rfl rfl ?_
 refine g_lushr X at_123 (pc' := 124) rfl ?_
 refine g_l2i X at_124 (pc' := 125) rfl ?_
 refine g_i2b X at_125 (pc' := 126) rfl ?_
 generalize qat : ((((j1.toUInt64 >>> ((40 : Int32) &&& 0x3f).toInt64.toUInt64).toInt64).toInt32).toInt8.toInt32) = qq
 refine g_bastore X qe 5 at_126 (pc' := 127) rfl (by decide) (by decide) (Nat.le_of_ble_eq_true rfl) ?_
 intro T h X W qe
 replace qe : Av Z h qk .byte [(.int (nar .byte qt)), (.int (nar .byte q1)), (.int (nar .byte q2)), (.int (nar .byte q3)), (.int (nar .byte qx)), (.int (nar .byte qq))] := qe
 replace hk := Nat.le_trans hk (Nat.le_of_eq W.size.symm)
 replace qi := qi.other W q4
 replace qa := qa.wr W
 replace Z0 := Nat.le_trans Z0 (Nat.le_of_eq W.size.symm)
 replace N := Fr.snoc X.1 N q5
 replace Kp := Kp.wr W (Or.inr q6)
 refine g_iloadN X at_127 (pc' := 128) rfl rfl ?_
 refine g_iconst X (4 : Int32) at_128 (pc' := 129) rfl rfl ?_
 refine g_iushr X at_129 (pc' := 130) rfl ?_
 refine g_iconst X (3 : Int32) at_130 (pc' := 131) rfl rfl ?_
 refine g_iand X at_131 (pc' := 132) rfl ?_
 generalize ui : (((i2.toUInt32 >>> ((4 : Int32) &&& 31).toUInt32).toInt32) &&& (3 : Int32)) = jm
 refine g_istore X at_132 (pc' := 134) (Ls' := #[.val (.int i0), .val (.long j1), .second, .val (.int i2), .val (.int i3), .val (.int (2 : Int32)), .val (.int qc), .val (.int qd), .val (.int qf), .val (.ref q0), .val (.ref qk), .val (.int jm), .unset, .unset, .unset, .unset, .unset]) rfl rfl ?_
 have hst := m4 ui
 refine g_iloadN X at_134 (pc' := 135) rfl rfl ?_
 refine g_iconst X (4 : Int32) at_135 (pc' := 136) rfl rfl ?_
 refine g_iand X at_136 (pc' := 137) rfl ?_
 by_cases yk : (i2 &&& (4 : Int32)) = (0 : Int32)
 refine g_ifY X at_137 ((if0 _ _).trans (teq yk).1) (pc' := 182) (by decide) (by decide) ?_
 refine g_iloadN X at_182 (pc' := 183) rfl rfl ?_
 refine g_bipush X (8 : Int32) at_183 (pc' := 185) rfl rfl ?_
 refine g_iand X at_185 (pc' := 186) rfl ?_
 by_cases yl : (i2 &&& (8 : Int32)) = (0 : Int32)
 refine g_ifY X at_186 ((if0 _ _).trans (teq yl).1) (pc' := 225) (by decide) (by decide) ?_
 exact tail2 l Z aa hw n0 i0 i2 i3 qc qd qf jm (nar .byte qt) (nar .byte q1) (nar .byte q2) (nar .byte q3) (nar .byte qx) (nar .byte qq) G1 j1 q0 qk (.unset) X hS hk (CHv.keep Kp (fun _ q => nomatch q) HC0) Z0 N hret hlk qi qe qa P5 hst One.u hn0 hn1 hn2
 refine g_ifN X at_186 ((if0 _ _).trans (feq yl).1) (pc' := 189) rfl ?_
 refine g_iload X at_189 (pc' := 191) rfl rfl ?_
 refine g_ifN X at_191 ((if0 _ _).trans (tlt (show (0 : Int32) < (2 : Int32) from (by decide))).2.2.2) (pc' := 194) rfl ?_
 rcases (hst : jm = (0 : Int32) ∨ jm = (1 : Int32) ∨ jm = (2 : Int32) ∨ jm = (3 : Int32)) with hs | hs | hs | hs
 subst hs
 show Go p e below _ (T.setTop (mkF m 194 _ []))
 refine g_iloadN X at_194 (pc' := 195) rfl rfl ?_
 refine g_bipush X (6 : Int32) at_195 (pc' := 197) rfl rfl ?_
 refine g_iushr X at_197 (pc' := 198) rfl ?_
 refine g_iconst X (3 : Int32) at_198 (pc' := 199) rfl rfl ?_
 refine g_iand X at_199 (pc' := 200) rfl ?_
 refine g_iload X at_200 (pc' := 202) rfl rfl ?_
 refine g_irem X at_202 (pc' := 203) rfl (by decide) ?_
 generalize uj : ((((i2.toUInt32 >>> ((6 : Int32) &&& 31).toUInt32).toInt32) &&& (3 : Int32)) % (2 : Int32)) = we
 refine g_istore X at_203 (pc' := 205) (Ls' := #[.val (.int i0), .val (.long j1), .second, .val (.int i2), .val (.int i3), .val (.int (2 : Int32)), .val (.int qc), .val (.int qd), .val (.int qf), .val (.ref q0), .val (.ref qk), .val (.int (0 : Int32)), .val (.int we), .unset, .unset, .unset, .unset]) rfl rfl ?_
 rcases (mr2 uj : we = (0 : Int32) ∨ we = (1 : Int32)) with hs | hs
 subst hs
 show Go p e below _ (T.setTop (mkF m 205 _ []))
 refine g_aload X at_205 (pc' := 207) rfl rfl rfl ?_
 refine g_iload X at_207 (pc' := 209) rfl rfl ?_
 refine g_iload X at_209 (pc' := 211) rfl rfl ?_
 refine g_iadd X at_211 (pc' := 212) rfl ?_
 refine Go.lit32 (z := (0 : Int32)) (by decide) ?_
 refine g_aload X at_212 (pc' := 214) rfl rfl rfl ?_
 refine g_iload X at_214 (pc' := 216) rfl rfl ?_
 refine g_iload X at_216 (pc' := 218) rfl rfl ?_
 refine g_iadd X at_218 (pc' := 219) rfl ?_
 refine Go.lit32 (z := (0 : Int32)) (by decide) ?_
 refine g_baload X qe 0 at_219 (pc' := 220) rfl (by decide) (by decide) rfl ?_
 refine g_iload X at_220 (pc' := 222) rfl rfl ?_
 refine g_ixor X at_222 (pc' := 223) rfl ?_
 refine g_i2b X at_223 (pc' := 224) rfl ?_
 generalize qau : (((nar .byte qt) ^^^ i3).toInt8.toInt32) = ym
 refine g_bastore X qe 0 at_224 (pc' := 225) rfl (by decide) (by decide) (Nat.le_of_ble_eq_true rfl) ?_
 intro T h X W qe
 replace qe : Av Z h qk .byte [(.int (nar .byte ym)), (.int (nar .byte q1)), (.int (nar .byte q2)), (.int (nar .byte q3)), (.int (nar .byte qx)), (.int (nar .byte qq))] := qe
 replace hk := Nat.le_trans hk (Nat.le_of_eq W.size.symm)
 replace qi := qi.other W q4
 replace qa := qa.wr W
 replace Z0 := Nat.le_trans Z0 (Nat.le_of_eq W.size.symm)
 replace N := Fr.snoc X.1 N q5
 replace Kp := Kp.wr W (Or.inr q6)
 exact tail2 l Z aa hw n0 i0 i2 i3 qc qd qf (0 : Int32) (nar .byte ym) (nar .byte q1) (nar .byte q2) (nar .byte q3) (nar .byte qx) (nar .byte qq) G1 j1 q0 qk (.val (.int (0 : Int32))) X hS hk (CHv.keep Kp (fun _ q => nomatch q) HC0) Z0 N hret hlk qi qe qa P5 (Or.inl rfl) (One.val rfl) hn0 hn1 hn2
 subst hs
 show Go p e below _ (T.setTop (mkF m 205 _ []))
 refine g_aload X at_205 (pc' := 207) rfl rfl rfl ?_
 refine g_iload X at_207 (pc' := 209) rfl rfl ?_
 refine g_iload X at_209 (pc' := 211) rfl rfl ?_
 refine g_iadd X at_211 (pc' := 212) rfl ?_
 refine Go.lit32 (z := (1 : Int32)) (by decide) ?_
 refine g_aload X at_212 (pc' := 214) rfl rfl rfl ?_
 refine g_iload X at_214 (pc' := 216) rfl rfl ?_
 refine g_iload X at_216 (pc' := 218) rfl rfl ?_
 refine g_iadd X at_218 (pc' := 219) rfl ?_
 refine Go.lit32 (z := (1 : Int32)) (by decide) ?_
 refine g_baload X qe 1 at_219 (pc' := 220) rfl (by decide) (by decide) rfl ?_
 refine g_iload X at_220 (pc' := 222) rfl rfl ?_
 refine g_ixor X at_222 (pc' := 223) rfl ?_
 refine g_i2b X at_223 (pc' := 224) rfl ?_
 generalize qav : (((nar .byte q1) ^^^ i3).toInt8.toInt32) = yn
 refine g_bastore X qe 1 at_224 (pc' := 225) rfl (by decide) (by decide) (Nat.le_of_ble_eq_true rfl) ?_
 intro T h X W qe
 replace qe : Av Z h qk .byte [(.int (nar .byte qt)), (.int (nar .byte yn)), (.int (nar .byte q2)), (.int (nar .byte q3)), (.int (nar .byte qx)), (.int (nar .byte qq))] := qe
 replace hk := Nat.le_trans hk (Nat.le_of_eq W.size.symm)
 replace qi := qi.other W q4
 replace qa := qa.wr W
 replace Z0 := Nat.le_trans Z0 (Nat.le_of_eq W.size.symm)
 replace N := Fr.snoc X.1 N q5
 replace Kp := Kp.wr W (Or.inr q6)
 exact tail2 l Z aa hw n0 i0 i2 i3 qc qd qf (0 : Int32) (nar .byte qt) (nar .byte yn) (nar .byte q2) (nar .byte q3) (nar .byte qx) (nar .byte qq) G1 j1 q0 qk (.val (.int (1 : Int32))) X hS hk (CHv.keep Kp (fun _ q => nomatch q) HC0) Z0 N hret hlk qi qe qa P5 (Or.inl rfl) (One.val rfl) hn0 hn1 hn2
 subst hs
 show Go p e below _ (T.setTop (mkF m 194 _ []))
 refine g_iloadN X at_194 (pc' := 195) rfl rfl ?_
 refine g_bipush X (6 : Int32) at_195 (pc' := 197) rfl rfl ?_
 refine g_iushr X at_197 (pc' := 198) rfl ?_
 refine g_iconst X (3 : Int32) at_198 (pc' := 199) rfl rfl ?_
 refine g_iand X at_199 (pc' := 200) rfl ?_
 refine g_iload X at_200 (pc' := 202) rfl rfl ?_
 refine g_irem X at_202 (pc' := 203) rfl (by decide) ?_
 generalize uk : ((((i2.toUInt32 >>> ((6 : Int32) &&& 31).toUInt32).toInt32) &&& (3 : Int32)) % (2 : Int32)) = wf
 refine g_istore X at_203 (pc' := 205) (Ls' := #[.val (.int i0), .val (.long j1), .second, .val (.int i2), .val (.int i3), .val (.int (2 : Int32)), .val (.int qc), .val (.int qd), .val (.int qf), .val (.ref q0), .val (.ref qk), .val (.int (1 : Int32)), .val (.int wf), .unset, .unset, .unset, .unset]) rfl rfl ?_
 rcases (mr2 uk : wf = (0 : Int32) ∨ wf = (1 : Int32)) with hs | hs
 subst hs
 show Go p e below _ (T.setTop (mkF m 205 _ []))
 refine g_aload X at_205 (pc' := 207) rfl rfl rfl ?_
 refine g_iload X at_207 (pc' := 209) rfl rfl ?_
 refine g_iload X at_209 (pc' := 211) rfl rfl ?_
 refine g_iadd X at_211 (pc' := 212) rfl ?_
 refine Go.lit32 (z := (1 : Int32)) (by decide) ?_
 refine g_aload X at_212 (pc' := 214) rfl rfl rfl ?_
 refine g_iload X at_214 (pc' := 216) rfl rfl ?_
 refine g_iload X at_216 (pc' := 218) rfl rfl ?_
 refine g_iadd X at_218 (pc' := 219) rfl ?_
 refine Go.lit32 (z := (1 : Int32)) (by decide) ?_
 refine g_baload X qe 1 at_219 (pc' := 220) rfl (by decide) (by decide) rfl ?_
 refine g_iload X at_220 (pc' := 222) rfl rfl ?_
 refine g_ixor X at_222 (pc' := 223) rfl ?_
 refine g_i2b X at_223 (pc' := 224) rfl ?_
 generalize qaw : (((nar .byte q1) ^^^ i3).toInt8.toInt32) = yo
 refine g_bastore X qe 1 at_224 (pc' := 225) rfl (by decide) (by decide) (Nat.le_of_ble_eq_true rfl) ?_
 intro T h X W qe
 replace qe : Av Z h qk .byte [(.int (nar .byte qt)), (.int (nar .byte yo)), (.int (nar .byte q2)), (.int (nar .byte q3)), (.int (nar .byte qx)), (.int (nar .byte qq))] := qe
 replace hk := Nat.le_trans hk (Nat.le_of_eq W.size.symm)
 replace qi := qi.other W q4
 replace qa := qa.wr W
 replace Z0 := Nat.le_trans Z0 (Nat.le_of_eq W.size.symm)
 replace N := Fr.snoc X.1 N q5
 replace Kp := Kp.wr W (Or.inr q6)
 exact tail2 l Z aa hw n0 i0 i2 i3 qc qd qf (1 : Int32) (nar .byte qt) (nar .byte yo) (nar .byte q2) (nar .byte q3) (nar .byte qx) (nar .byte qq) G1 j1 q0 qk (.val (.int (0 : Int32))) X hS hk (CHv.keep Kp (fun _ q => nomatch q) HC0) Z0 N hret hlk qi qe qa P5 (Or.inr (Or.inl rfl)) (One.val rfl) hn0 hn1 hn2
 subst hs
 show Go p e below _ (T.setTop (mkF m 205 _ []))
 refine g_aload X at_205 (pc' := 207) rfl rfl rfl ?_
 refine g_iload X at_207 (pc' := 209) rfl rfl ?_
 refine g_iload X at_209 (pc' := 211) rfl rfl ?_
 refine g_iadd X at_211 (pc' := 212) rfl ?_
 refine Go.lit32 (z := (2 : Int32)) (by decide) ?_
 refine g_aload X at_212 (pc' := 214) rfl rfl rfl ?_
 refine g_iload X at_214 (pc' := 216) rfl rfl ?_
 refine g_iload X at_216 (pc' := 218) rfl rfl ?_
 refine g_iadd X at_218 (pc' := 219) rfl ?_
 refine Go.lit32 (z := (2 : Int32)) (by decide) ?_
 refine g_baload X qe 2 at_219 (pc' := 220) rfl (by decide) (by decide) rfl ?_
 refine g_iload X at_220 (pc' := 222) rfl rfl ?_
 refine g_ixor X at_222 (pc' := 223) rfl ?_
 refine g_i2b X at_223 (pc' := 224) rfl ?_
 generalize qax : (((nar .byte q2) ^^^ i3).toInt8.toInt32) = yp
 refine g_bastore X qe 2 at_224 (pc' := 225) rfl (by decide) (by decide) (Nat.le_of_ble_eq_true rfl) ?_
 intro T h X W qe
 replace qe : Av Z h qk .byte [(.int (nar .byte qt)), (.int (nar .byte q1)), (.int (nar .byte yp)), (.int (nar .byte q3)), (.int (nar .byte qx)), (.int (nar .byte qq))] := qe
 replace hk := Nat.le_trans hk (Nat.le_of_eq W.size.symm)
 replace qi := qi.other W q4
 replace qa := qa.wr W
 replace Z0 := Nat.le_trans Z0 (Nat.le_of_eq W.size.symm)
 replace N := Fr.snoc X.1 N q5
 replace Kp := Kp.wr W (Or.inr q6)
 exact tail2 l Z aa hw n0 i0 i2 i3 qc qd qf (1 : Int32) (nar .byte qt) (nar .byte q1) (nar .byte yp) (nar .byte q3) (nar .byte qx) (nar .byte qq) G1 j1 q0 qk (.val (.int (1 : Int32))) X hS hk (CHv.keep Kp (fun _ q => nomatch q) HC0) Z0 N hret hlk qi qe qa P5 (Or.inr (Or.inl rfl)) (One.val rfl) hn0 hn1 hn2
 subst hs
 show Go p e below _ (T.setTop (mkF m 194 _ []))
 refine g_iloadN X at_194 (pc' := 195) rfl rfl ?_
 refine g_bipush X (6 : Int32) at_195 (pc' := 197) rfl rfl ?_
 refine g_iushr X at_197 (pc' := 198) rfl ?_
 refine g_iconst X (3 : Int32) at_198 (pc' := 199) rfl rfl ?_
 refine g_iand X at_199 (pc' := 200) rfl ?_
 refine g_iload X at_200 (pc' := 202) rfl rfl ?_
 refine g_irem X at_202 (pc' := 203) rfl (by decide) ?_
 generalize ul : ((((i2.toUInt32 >>> ((6 : Int32) &&& 31).toUInt32).toInt32) &&& (3 : Int32)) % (2 : Int32)) = wg
 refine g_istore X at_203 (pc' := 205) (Ls' := #[.val (.int i0), .val (.long j1), .second, .val (.int i2), .val (.int i3), .val (.int (2 : Int32)), .val (.int qc), .val (.int qd), .val (.int qf), .val (.ref q0), .val (.ref qk), .val (.int (2 : Int32)), .val (.int wg), .unset, .unset, .unset, .unset]) rfl rfl ?_
 rcases (mr2 ul : wg = (0 : Int32) ∨ wg = (1 : Int32)) with hs | hs
 subst hs
 show Go p e below _ (T.setTop (mkF m 205 _ []))
 refine g_aload X at_205 (pc' := 207) rfl rfl rfl ?_
 refine g_iload X at_207 (pc' := 209) rfl rfl ?_
 refine g_iload X at_209 (pc' := 211) rfl rfl ?_
 refine g_iadd X at_211 (pc' := 212) rfl ?_
 refine Go.lit32 (z := (2 : Int32)) (by decide) ?_
 refine g_aload X at_212 (pc' := 214) rfl rfl rfl ?_
 refine g_iload X at_214 (pc' := 216) rfl rfl ?_
 refine g_iload X at_216 (pc' := 218) rfl rfl ?_
 refine g_iadd X at_218 (pc' := 219) rfl ?_
 refine Go.lit32 (z := (2 : Int32)) (by decide) ?_
 refine g_baload X qe 2 at_219 (pc' := 220) rfl (by decide) (by decide) rfl ?_
 refine g_iload X at_220 (pc' := 222) rfl rfl ?_
 refine g_ixor X at_222 (pc' := 223) rfl ?_
 refine g_i2b X at_223 (pc' := 224) rfl ?_
 generalize qay : (((nar .byte q2) ^^^ i3).toInt8.toInt32) = yq
 refine g_bastore X qe 2 at_224 (pc' := 225) rfl (by decide) (by decide) (Nat.le_of_ble_eq_true rfl) ?_
 intro T h X W qe
 replace qe : Av Z h qk .byte [(.int (nar .byte qt)), (.int (nar .byte q1)), (.int (nar .byte yq)), (.int (nar .byte q3)), (.int (nar .byte qx)), (.int (nar .byte qq))] := qe
 replace hk := Nat.le_trans hk (Nat.le_of_eq W.size.symm)
 replace qi := qi.other W q4
 replace qa := qa.wr W
 replace Z0 := Nat.le_trans Z0 (Nat.le_of_eq W.size.symm)
 replace N := Fr.snoc X.1 N q5
 replace Kp := Kp.wr W (Or.inr q6)
 exact tail2 l Z aa hw n0 i0 i2 i3 qc qd qf (2 : Int32) (nar .byte qt) (nar .byte q1) (nar .byte yq) (nar .byte q3) (nar .byte qx) (nar .byte qq) G1 j1 q0 qk (.val (.int (0 : Int32))) X hS hk (CHv.keep Kp (fun _ q => nomatch q) HC0) Z0 N hret hlk qi qe qa P5 (Or.inr (Or.inr (Or.inl rfl))) (One.val rfl) hn0 hn1 hn2
 subst hs
 show Go p e below _ (T.setTop (mkF m 205 _ []))
 refine g_aload X at_205 (pc' := 207) rfl rfl rfl ?_
 refine g_iload X at_207 (pc' := 209) rfl rfl ?_
 refine g_iload X at_209 (pc' := 211) rfl rfl ?_
 refine g_iadd X at_211 (pc' := 212) rfl ?_
 refine Go.lit32 (z := (3 : Int32)) (by decide) ?_
 refine g_aload X at_212 (pc' := 214) rfl rfl rfl ?_
 refine g_iload X at_214 (pc' := 216) rfl rfl ?_
 refine g_iload X at_216 (pc' := 218) rfl rfl ?_
 refine g_iadd X at_218 (pc' := 219) rfl ?_
 refine Go.lit32 (z := (3 : Int32)) (by decide) ?_
 refine g_baload X qe 3 at_219 (pc' := 220) rfl (by decide) (by decide) rfl ?_
 refine g_iload X at_220 (pc' := 222) rfl rfl ?_
 refine g_ixor X at_222 (pc' := 223) rfl ?_
 refine g_i2b X at_223 (pc' := 224) rfl ?_
 generalize qaz : (((nar .byte q3) ^^^ i3).toInt8.toInt32) = yr
 refine g_bastore X qe 3 at_224 (pc' := 225) rfl (by decide) (by decide) (Nat.le_of_ble_eq_true rfl) ?_
 intro T h X W qe
 replace qe : Av Z h qk .byte [(.int (nar .byte qt)), (.int (nar .byte q1)), (.int (nar .byte q2)), (.int (nar .byte yr)), (.int (nar .byte qx)), (.int (nar .byte qq))] := qe
 replace hk := Nat.le_trans hk (Nat.le_of_eq W.size.symm)
 replace qi := qi.other W q4
 replace qa := qa.wr W
 replace Z0 := Nat.le_trans Z0 (Nat.le_of_eq W.size.symm)
 replace N := Fr.snoc X.1 N q5
 replace Kp := Kp.wr W (Or.inr q6)
 exact tail2 l Z aa hw n0 i0 i2 i3 qc qd qf (2 : Int32) (nar .byte qt) (nar .byte q1) (nar .byte q2) (nar .byte yr) (nar .byte qx) (nar .byte qq) G1 j1 q0 qk (.val (.int (1 : Int32))) X hS hk (CHv.keep Kp (fun _ q => nomatch q) HC0) Z0 N hret hlk qi qe qa P5 (Or.inr (Or.inr (Or.inl rfl))) (One.val rfl) hn0 hn1 hn2
 subst hs
 show Go p e below _ (T.setTop (mkF m 194 _ []))
 refine g_iloadN X at_194 (pc' := 195) rfl rfl ?_
 refine g_bipush X (6 : Int32) at_195 (pc' := 197) rfl rfl ?_
 refine g_iushr X at_197 (pc' := 198) rfl ?_
 refine g_iconst X (3 : Int32) at_198 (pc' := 199) rfl rfl ?_
 refine g_iand X at_199 (pc' := 200) rfl ?_
 refine g_iload X at_200 (pc' := 202) rfl rfl ?_
 refine g_irem X at_202 (pc' := 203) rfl (by decide) ?_
 generalize um : ((((i2.toUInt32 >>> ((6 : Int32) &&& 31).toUInt32).toInt32) &&& (3 : Int32)) % (2 : Int32)) = wh
 refine g_istore X at_203 (pc' := 205) (Ls' := #[.val (.int i0), .val (.long j1), .second, .val (.int i2), .val (.int i3), .val (.int (2 : Int32)), .val (.int qc), .val (.int qd), .val (.int qf), .val (.ref q0), .val (.ref qk), .val (.int (3 : Int32)), .val (.int wh), .unset, .unset, .unset, .unset]) rfl rfl ?_
 rcases (mr2 um : wh = (0 : Int32) ∨ wh = (1 : Int32)) with hs | hs
 subst hs
 show Go p e below _ (T.setTop (mkF m 205 _ []))
 refine g_aload X at_205 (pc' := 207) rfl rfl rfl ?_
 refine g_iload X at_207 (pc' := 209) rfl rfl ?_
 refine g_iload X at_209 (pc' := 211) rfl rfl ?_
 refine g_iadd X at_211 (pc' := 212) rfl ?_
 refine Go.lit32 (z := (3 : Int32)) (by decide) ?_
 refine g_aload X at_212 (pc' := 214) rfl rfl rfl ?_
 refine g_iload X at_214 (pc' := 216) rfl rfl ?_
 refine g_iload X at_216 (pc' := 218) rfl rfl ?_
 refine g_iadd X at_218 (pc' := 219) rfl ?_
 refine Go.lit32 (z := (3 : Int32)) (by decide) ?_
 refine g_baload X qe 3 at_219 (pc' := 220) rfl (by decide) (by decide) rfl ?_
 refine g_iload X at_220 (pc' := 222) rfl rfl ?_
 refine g_ixor X at_222 (pc' := 223) rfl ?_
 refine g_i2b X at_223 (pc' := 224) rfl ?_
 generalize qa0 : (((nar .byte q3) ^^^ i3).toInt8.toInt32) = ys
 refine g_bastore X qe 3 at_224 (pc' := 225) rfl (by decide) (by decide) (Nat.le_of_ble_eq_true rfl) ?_
 intro T h X W qe
 replace qe : Av Z h qk .byte [(.int (nar .byte qt)), (.int (nar .byte q1)), (.int (nar .byte q2)), (.int (nar .byte ys)), (.int (nar .byte qx)), (.int (nar .byte qq))] := qe
 replace hk := Nat.le_trans hk (Nat.le_of_eq W.size.symm)
 replace qi := qi.other W q4
 replace qa := qa.wr W
 replace Z0 := Nat.le_trans Z0 (Nat.le_of_eq W.size.symm)
 replace N := Fr.snoc X.1 N q5
 replace Kp := Kp.wr W (Or.inr q6)
 exact tail2 l Z aa hw n0 i0 i2 i3 qc qd qf (3 : Int32) (nar .byte qt) (nar .byte q1) (nar .byte q2) (nar .byte ys) (nar .byte qx) (nar .byte qq) G1 j1 q0 qk (.val (.int (0 : Int32))) X hS hk (CHv.keep Kp (fun _ q => nomatch q) HC0) Z0 N hret hlk qi qe qa P5 (Or.inr (Or.inr (Or.inr (rfl)))) (One.val rfl) hn0 hn1 hn2
 subst hs
 show Go p e below _ (T.setTop (mkF m 205 _ []))
 refine g_aload X at_205 (pc' := 207) rfl rfl rfl ?_
 refine g_iload X at_207 (pc' := 209) rfl rfl ?_
 refine g_iload X at_209 (pc' := 211) rfl rfl ?_
 refine g_iadd X at_211 (pc' := 212) rfl ?_
 refine Go.lit32 (z := (4 : Int32)) (by decide) ?_
 refine g_aload X at_212 (pc' := 214) rfl rfl rfl ?_
 refine g_iload X at_214 (pc' := 216) rfl rfl ?_
 refine g_iload X at_216 (pc' := 218) rfl rfl ?_
 refine g_iadd X at_218 (pc' := 219) rfl ?_
 refine Go.lit32 (z := (4 : Int32)) (by decide) ?_
 refine g_baload X qe 4 at_219 (pc' := 220) rfl (by decide) (by decide) rfl ?_
 refine g_iload X at_220 (pc' := 222) rfl rfl ?_
 refine g_ixor X at_222 (pc' := 223) rfl ?_
 refine g_i2b X at_223 (pc' := 224) rfl ?_
 generalize qa1 : (((nar .byte qx) ^^^ i3).toInt8.toInt32) = yt
 refine g_bastore X qe 4 at_224 (pc' := 225) rfl (by decide) (by decide) (Nat.le_of_ble_eq_true rfl) ?_
 intro T h X W qe
 replace qe : Av Z h qk .byte [(.int (nar .byte qt)), (.int (nar .byte q1)), (.int (nar .byte q2)), (.int (nar .byte q3)), (.int (nar .byte yt)), (.int (nar .byte qq))] := qe
 replace hk := Nat.le_trans hk (Nat.le_of_eq W.size.symm)
 replace qi := qi.other W q4
 replace qa := qa.wr W
 replace Z0 := Nat.le_trans Z0 (Nat.le_of_eq W.size.symm)
 replace N := Fr.snoc X.1 N q5
 replace Kp := Kp.wr W (Or.inr q6)
 exact tail2 l Z aa hw n0 i0 i2 i3 qc qd qf (3 : Int32) (nar .byte qt) (nar .byte q1) (nar .byte q2) (nar .byte q3) (nar .byte yt) (nar .byte qq) G1 j1 q0 qk (.val (.int (1 : Int32))) X hS hk (CHv.keep Kp (fun _ q => nomatch q) HC0) Z0 N hret hlk qi qe qa P5 (Or.inr (Or.inr (Or.inr (rfl)))) (One.val rfl) hn0 hn1 hn2
 refine g_ifN X at_137 ((if0 _ _).trans (feq yk).1) (pc' := 140) rfl ?_
 rcases (hst : jm = (0 : Int32) ∨ jm = (1 : Int32) ∨ jm = (2 : Int32) ∨ jm = (3 : Int32)) with hs | hs | hs | hs
 subst hs
 show Go p e below _ (T.setTop (mkF m 140 _ []))
 refine g_iload X at_140 (pc' := 142) rfl rfl ?_
 refine g_ifN X at_142 ((if0 _ _).trans (tlt (show (0 : Int32) < (2 : Int32) from (by decide))).2.2.2) (pc' := 145) rfl ?_
 refine g_aload X at_145 (pc' := 147) rfl rfl rfl ?_
 refine g_iload X at_147 (pc' := 149) rfl rfl ?_
 refine g_iload X at_149 (pc' := 151) rfl rfl ?_
 refine g_bastore X qe 0 at_151 (pc' := 152) rfl (by decide) (by decide) (Nat.le_of_ble_eq_true rfl) ?_
 intro T h X W qe
 replace qe : Av Z h qk .byte [(.int (nar .byte qc)), (.int (nar .byte q1)), (.int (nar .byte q2)), (.int (nar .byte q3)), (.int (nar .byte qx)), (.int (nar .byte qq))] := qe
 replace hk := Nat.le_trans hk (Nat.le_of_eq W.size.symm)
 replace qi := qi.other W q4
 replace qa := qa.wr W
 replace Z0 := Nat.le_trans Z0 (Nat.le_of_eq W.size.symm)
 replace N := Fr.snoc X.1 N q5
 replace Kp := Kp.wr W (Or.inr q6)
 refine g_iload X at_152 (pc' := 154) rfl rfl ?_
 refine g_iconst X (1 : Int32) at_154 (pc' := 155) rfl rfl ?_
 refine g_icN X at_155 (tlt (show (1 : Int32) < (2 : Int32) from (by decide))).2.2.2 (pc' := 158) rfl ?_
 refine g_aload X at_158 (pc' := 160) rfl rfl rfl ?_
 refine g_iload X at_160 (pc' := 162) rfl rfl ?_
 refine g_iconst X (1 : Int32) at_162 (pc' := 163) rfl rfl ?_
 refine g_iadd X at_163 (pc' := 164) rfl ?_
 refine Go.lit32 (z := (1 : Int32)) (by decide) ?_
 refine g_iload X at_164 (pc' := 166) rfl rfl ?_
 refine g_bastore X qe 1 at_166 (pc' := 167) rfl (by decide) (by decide) (Nat.le_of_ble_eq_true rfl) ?_
 intro T h X W qe
 replace qe : Av Z h qk .byte [(.int (nar .byte qc)), (.int (nar .byte qd)), (.int (nar .byte q2)), (.int (nar .byte q3)), (.int (nar .byte qx)), (.int (nar .byte qq))] := qe
 replace hk := Nat.le_trans hk (Nat.le_of_eq W.size.symm)
 replace qi := qi.other W q4
 replace qa := qa.wr W
 replace Z0 := Nat.le_trans Z0 (Nat.le_of_eq W.size.symm)
 replace N := Fr.snoc X.1 N q5
 replace Kp := Kp.wr W (Or.inr q6)
 refine g_iload X at_167 (pc' := 169) rfl rfl ?_
 refine g_iconst X (2 : Int32) at_169 (pc' := 170) rfl rfl ?_
 refine g_icY X at_170 (flt (show ¬ ((2 : Int32) < (2 : Int32)) from (by decide))).2.2.2 (pc' := 182) (by decide) (by decide) ?_
 refine g_iloadN X at_182 (pc' := 183) rfl rfl ?_
 refine g_bipush X (8 : Int32) at_183 (pc' := 185) rfl rfl ?_
 refine g_iand X at_185 (pc' := 186) rfl ?_
 by_cases yu : (i2 &&& (8 : Int32)) = (0 : Int32)
 refine g_ifY X at_186 ((if0 _ _).trans (teq yu).1) (pc' := 225) (by decide) (by decide) ?_
 exact tail2 l Z aa hw n0 i0 i2 i3 qc qd qf (0 : Int32) (nar .byte qc) (nar .byte qd) (nar .byte q2) (nar .byte q3) (nar .byte qx) (nar .byte qq) G1 j1 q0 qk (.unset) X hS hk (CHv.keep Kp (fun _ q => nomatch q) HC0) Z0 N hret hlk qi qe qa P5 (Or.inl rfl) One.u hn0 hn1 hn2
 refine g_ifN X at_186 ((if0 _ _).trans (feq yu).1) (pc' := 189) rfl ?_
 refine g_iload X at_189 (pc' := 191) rfl rfl ?_
 refine g_ifN X at_191 ((if0 _ _).trans (tlt (show (0 : Int32) < (2 : Int32) from (by decide))).2.2.2) (pc' := 194) rfl ?_
 refine g_iloadN X at_194 (pc' := 195) rfl rfl ?_
 refine g_bipush X (6 : Int32) at_195 (pc' := 197) rfl rfl ?_
 refine g_iushr X at_197 (pc' := 198) rfl ?_
 refine g_iconst X (3 : Int32) at_198 (pc' := 199) rfl rfl ?_
 refine g_iand X at_199 (pc' := 200) rfl ?_
 refine g_iload X at_200 (pc' := 202) rfl rfl ?_
 refine g_irem X at_202 (pc' := 203) rfl (by decide) ?_
 generalize un : ((((i2.toUInt32 >>> ((6 : Int32) &&& 31).toUInt32).toInt32) &&& (3 : Int32)) % (2 : Int32)) = wi
 refine g_istore X at_203 (pc' := 205) (Ls' := #[.val (.int i0), .val (.long j1), .second, .val (.int i2), .val (.int i3), .val (.int (2 : Int32)), .val (.int qc), .val (.int qd), .val (.int qf), .val (.ref q0), .val (.ref qk), .val (.int (0 : Int32)), .val (.int wi), .unset, .unset, .unset, .unset]) rfl rfl ?_
 rcases (mr2 un : wi = (0 : Int32) ∨ wi = (1 : Int32)) with hs | hs
 subst hs
 show Go p e below _ (T.setTop (mkF m 205 _ []))
 refine g_aload X at_205 (pc' := 207) rfl rfl rfl ?_
 refine g_iload X at_207 (pc' := 209) rfl rfl ?_
 refine g_iload X at_209 (pc' := 211) rfl rfl ?_
 refine g_iadd X at_211 (pc' := 212) rfl ?_
 refine Go.lit32 (z := (0 : Int32)) (by decide) ?_
 refine g_aload X at_212 (pc' := 214) rfl rfl rfl ?_
 refine g_iload X at_214 (pc' := 216) rfl rfl ?_
 refine g_iload X at_216 (pc' := 218) rfl rfl ?_
 refine g_iadd X at_218 (pc' := 219) rfl ?_
 refine Go.lit32 (z := (0 : Int32)) (by decide) ?_
 refine g_baload X qe 0 at_219 (pc' := 220) rfl (by decide) (by decide) rfl ?_
 refine g_iload X at_220 (pc' := 222) rfl rfl ?_
 refine g_ixor X at_222 (pc' := 223) rfl ?_
 refine g_i2b X at_223 (pc' := 224) rfl ?_
 generalize qa2 : (((nar .byte qc) ^^^ i3).toInt8.toInt32) = yv
 refine g_bastore X qe 0 at_224 (pc' := 225) rfl (by decide) (by decide) (Nat.le_of_ble_eq_true rfl) ?_
 intro T h X W qe
 replace qe : Av Z h qk .byte [(.int (nar .byte yv)), (.int (nar .byte qd)), (.int (nar .byte q2)), (.int (nar .byte q3)), (.int (nar .byte qx)), (.int (nar .byte qq))] := qe
 replace hk := Nat.le_trans hk (Nat.le_of_eq W.size.symm)
 replace qi := qi.other W q4
 replace qa := qa.wr W
 replace Z0 := Nat.le_trans Z0 (Nat.le_of_eq W.size.symm)
 replace N := Fr.snoc X.1 N q5
 replace Kp := Kp.wr W (Or.inr q6)
 exact tail2 l Z aa hw n0 i0 i2 i3 qc qd qf (0 : Int32) (nar .byte yv) (nar .byte qd) (nar .byte q2) (nar .byte q3) (nar .byte qx) (nar .byte qq) G1 j1 q0 qk (.val (.int (0 : Int32))) X hS hk (CHv.keep Kp (fun _ q => nomatch q) HC0) Z0 N hret hlk qi qe qa P5 (Or.inl rfl) (One.val rfl) hn0 hn1 hn2
 subst hs
 show Go p e below _ (T.setTop (mkF m 205 _ []))
 refine g_aload X at_205 (pc' := 207) rfl rfl rfl ?_
 refine g_iload X at_207 (pc' := 209) rfl rfl ?_
 refine g_iload X at_209 (pc' := 211) rfl rfl ?_
 refine g_iadd X at_211 (pc' := 212) rfl ?_
 refine Go.lit32 (z := (1 : Int32)) (by decide) ?_
 refine g_aload X at_212 (pc' := 214) rfl rfl rfl ?_
 refine g_iload X at_214 (pc' := 216) rfl rfl ?_
 refine g_iload X at_216 (pc' := 218) rfl rfl ?_
 refine g_iadd X at_218 (pc' := 219) rfl ?_
 refine Go.lit32 (z := (1 : Int32)) (by decide) ?_
 refine g_baload X qe 1 at_219 (pc' := 220) rfl (by decide) (by decide) rfl ?_
 refine g_iload X at_220 (pc' := 222) rfl rfl ?_
 refine g_ixor X at_222 (pc' := 223) rfl ?_
 refine g_i2b X at_223 (pc' := 224) rfl ?_
 generalize qa3 : (((nar .byte qd) ^^^ i3).toInt8.toInt32) = yw
 refine g_bastore X qe 1 at_224 (pc' := 225) rfl (by decide) (by decide) (Nat.le_of_ble_eq_true rfl) ?_
 intro T h X W qe
 replace qe : Av Z h qk .byte [(.int (nar .byte qc)), (.int (nar .byte yw)), (.int (nar .byte q2)), (.int (nar .byte q3)), (.int (nar .byte qx)), (.int (nar .byte qq))] := qe
 replace hk := Nat.le_trans hk (Nat.le_of_eq W.size.symm)
 replace qi := qi.other W q4
 replace qa := qa.wr W
 replace Z0 := Nat.le_trans Z0 (Nat.le_of_eq W.size.symm)
 replace N := Fr.snoc X.1 N q5
 replace Kp := Kp.wr W (Or.inr q6)
 exact tail2 l Z aa hw n0 i0 i2 i3 qc qd qf (0 : Int32) (nar .byte qc) (nar .byte yw) (nar .byte q2) (nar .byte q3) (nar .byte qx) (nar .byte qq) G1 j1 q0 qk (.val (.int (1 : Int32))) X hS hk (CHv.keep Kp (fun _ q => nomatch q) HC0) Z0 N hret hlk qi qe qa P5 (Or.inl rfl) (One.val rfl) hn0 hn1 hn2
 subst hs
 show Go p e below _ (T.setTop (mkF m 140 _ []))
 refine g_iload X at_140 (pc' := 142) rfl rfl ?_
 refine g_ifN X at_142 ((if0 _ _).trans (tlt (show (0 : Int32) < (2 : Int32) from (by decide))).2.2.2) (pc' := 145) rfl ?_
 refine g_aload X at_145 (pc' := 147) rfl rfl rfl ?_
 refine g_iload X at_147 (pc' := 149) rfl rfl ?_
 refine g_iload X at_149 (pc' := 151) rfl rfl ?_
 refine g_bastore X qe 1 at_151 (pc' := 152) rfl (by decide) (by decide) (Nat.le_of_ble_eq_true rfl) ?_
 intro T h X W qe
 replace qe : Av Z h qk .byte [(.int (nar .byte qt)), (.int (nar .byte qc)), (.int (nar .byte q2)), (.int (nar .byte q3)), (.int (nar .byte qx)), (.int (nar .byte qq))] := qe
 replace hk := Nat.le_trans hk (Nat.le_of_eq W.size.symm)
 replace qi := qi.other W q4
 replace qa := qa.wr W
 replace Z0 := Nat.le_trans Z0 (Nat.le_of_eq W.size.symm)
 replace N := Fr.snoc X.1 N q5
 replace Kp := Kp.wr W (Or.inr q6)
 refine g_iload X at_152 (pc' := 154) rfl rfl ?_
 refine g_iconst X (1 : Int32) at_154 (pc' := 155) rfl rfl ?_
 refine g_icN X at_155 (tlt (show (1 : Int32) < (2 : Int32) from (by decide))).2.2.2 (pc' := 158) rfl ?_
 refine g_aload X at_158 (pc' := 160) rfl rfl rfl ?_
 refine g_iload X at_160 (pc' := 162) rfl rfl ?_
 refine g_iconst X (1 : Int32) at_162 (pc' := 163) rfl rfl ?_
 refine g_iadd X at_163 (pc' := 164) rfl ?_
 refine Go.lit32 (z := (2 : Int32)) (by decide) ?_
 refine g_iload X at_164 (pc' := 166) rfl rfl ?_
 refine g_bastore X qe 2 at_166 (pc' := 167) rfl (by decide) (by decide) (Nat.le_of_ble_eq_true rfl) ?_
 intro T h X W qe
 replace qe : Av Z h qk .byte [(.int (nar .byte qt)), (.int (nar .byte qc)), (.int (nar .byte qd)), (.int (nar .byte q3)), (.int (nar .byte qx)), (.int (nar .byte qq))] := qe
 replace hk := Nat.le_trans hk (Nat.le_of_eq W.size.symm)
 replace qi := qi.other W q4
 replace qa := qa.wr W
 replace Z0 := Nat.le_trans Z0 (Nat.le_of_eq W.size.symm)
 replace N := Fr.snoc X.1 N q5
 replace Kp := Kp.wr W (Or.inr q6)
 refine g_iload X at_167 (pc' := 169) rfl rfl ?_
 refine g_iconst X (2 : Int32) at_169 (pc' := 170) rfl rfl ?_
 refine g_icY X at_170 (flt (show ¬ ((2 : Int32) < (2 : Int32)) from (by decide))).2.2.2 (pc' := 182) (by decide) (by decide) ?_
 refine g_iloadN X at_182 (pc' := 183) rfl rfl ?_
 refine g_bipush X (8 : Int32) at_183 (pc' := 185) rfl rfl ?_
 refine g_iand X at_185 (pc' := 186) rfl ?_
 by_cases yx : (i2 &&& (8 : Int32)) = (0 : Int32)
 refine g_ifY X at_186 ((if0 _ _).trans (teq yx).1) (pc' := 225) (by decide) (by decide) ?_
 exact tail2 l Z aa hw n0 i0 i2 i3 qc qd qf (1 : Int32) (nar .byte qt) (nar .byte qc) (nar .byte qd) (nar .byte q3) (nar .byte qx) (nar .byte qq) G1 j1 q0 qk (.unset) X hS hk (CHv.keep Kp (fun _ q => nomatch q) HC0) Z0 N hret hlk qi qe qa P5 (Or.inr (Or.inl rfl)) One.u hn0 hn1 hn2
 refine g_ifN X at_186 ((if0 _ _).trans (feq yx).1) (pc' := 189) rfl ?_
 refine g_iload X at_189 (pc' := 191) rfl rfl ?_
 refine g_ifN X at_191 ((if0 _ _).trans (tlt (show (0 : Int32) < (2 : Int32) from (by decide))).2.2.2) (pc' := 194) rfl ?_
 refine g_iloadN X at_194 (pc' := 195) rfl rfl ?_
 refine g_bipush X (6 : Int32) at_195 (pc' := 197) rfl rfl ?_
 refine g_iushr X at_197 (pc' := 198) rfl ?_
 refine g_iconst X (3 : Int32) at_198 (pc' := 199) rfl rfl ?_
 refine g_iand X at_199 (pc' := 200) rfl ?_
 refine g_iload X at_200 (pc' := 202) rfl rfl ?_
 refine g_irem X at_202 (pc' := 203) rfl (by decide) ?_
 generalize uo : ((((i2.toUInt32 >>> ((6 : Int32) &&& 31).toUInt32).toInt32) &&& (3 : Int32)) % (2 : Int32)) = wj
 refine g_istore X at_203 (pc' := 205) (Ls' := #[.val (.int i0), .val (.long j1), .second, .val (.int i2), .val (.int i3), .val (.int (2 : Int32)), .val (.int qc), .val (.int qd), .val (.int qf), .val (.ref q0), .val (.ref qk), .val (.int (1 : Int32)), .val (.int wj), .unset, .unset, .unset, .unset]) rfl rfl ?_
 rcases (mr2 uo : wj = (0 : Int32) ∨ wj = (1 : Int32)) with hs | hs
 subst hs
 show Go p e below _ (T.setTop (mkF m 205 _ []))
 refine g_aload X at_205 (pc' := 207) rfl rfl rfl ?_
 refine g_iload X at_207 (pc' := 209) rfl rfl ?_
 refine g_iload X at_209 (pc' := 211) rfl rfl ?_
 refine g_iadd X at_211 (pc' := 212) rfl ?_
 refine Go.lit32 (z := (1 : Int32)) (by decide) ?_
 refine g_aload X at_212 (pc' := 214) rfl rfl rfl ?_
 refine g_iload X at_214 (pc' := 216) rfl rfl ?_
 refine g_iload X at_216 (pc' := 218) rfl rfl ?_
 refine g_iadd X at_218 (pc' := 219) rfl ?_
 refine Go.lit32 (z := (1 : Int32)) (by decide) ?_
 refine g_baload X qe 1 at_219 (pc' := 220) rfl (by decide) (by decide) rfl ?_
 refine g_iload X at_220 (pc' := 222) rfl rfl ?_
 refine g_ixor X at_222 (pc' := 223) rfl ?_
 refine g_i2b X at_223 (pc' := 224) rfl ?_
 generalize qa4 : (((nar .byte qc) ^^^ i3).toInt8.toInt32) = yy
 refine g_bastore X qe 1 at_224 (pc' := 225) rfl (by decide) (by decide) (Nat.le_of_ble_eq_true rfl) ?_
 intro T h X W qe
 replace qe : Av Z h qk .byte [(.int (nar .byte qt)), (.int (nar .byte yy)), (.int (nar .byte qd)), (.int (nar .byte q3)), (.int (nar .byte qx)), (.int (nar .byte qq))] := qe
 replace hk := Nat.le_trans hk (Nat.le_of_eq W.size.symm)
 replace qi := qi.other W q4
 replace qa := qa.wr W
 replace Z0 := Nat.le_trans Z0 (Nat.le_of_eq W.size.symm)
 replace N := Fr.snoc X.1 N q5
 replace Kp := Kp.wr W (Or.inr q6)
 exact tail2 l Z aa hw n0 i0 i2 i3 qc qd qf (1 : Int32) (nar .byte qt) (nar .byte yy) (nar .byte qd) (nar .byte q3) (nar .byte qx) (nar .byte qq) G1 j1 q0 qk (.val (.int (0 : Int32))) X hS hk (CHv.keep Kp (fun _ q => nomatch q) HC0) Z0 N hret hlk qi qe qa P5 (Or.inr (Or.inl rfl)) (One.val rfl) hn0 hn1 hn2
 subst hs
 show Go p e below _ (T.setTop (mkF m 205 _ []))
 refine g_aload X at_205 (pc' := 207) rfl rfl rfl ?_
 refine g_iload X at_207 (pc' := 209) rfl rfl ?_
 refine g_iload X at_209 (pc' := 211) rfl rfl ?_
 refine g_iadd X at_211 (pc' := 212) rfl ?_
 refine Go.lit32 (z := (2 : Int32)) (by decide) ?_
 refine g_aload X at_212 (pc' := 214) rfl rfl rfl ?_
 refine g_iload X at_214 (pc' := 216) rfl rfl ?_
 refine g_iload X at_216 (pc' := 218) rfl rfl ?_
 refine g_iadd X at_218 (pc' := 219) rfl ?_
 refine Go.lit32 (z := (2 : Int32)) (by decide) ?_
 refine g_baload X qe 2 at_219 (pc' := 220) rfl (by decide) (by decide) rfl ?_
 refine g_iload X at_220 (pc' := 222) rfl rfl ?_
 refine g_ixor X at_222 (pc' := 223) rfl ?_
 refine g_i2b X at_223 (pc' := 224) rfl ?_
 generalize qa5 : (((nar .byte qd) ^^^ i3).toInt8.toInt32) = yz
 refine g_bastore X qe 2 at_224 (pc' := 225) rfl (by decide) (by decide) (Nat.le_of_ble_eq_true rfl) ?_
 intro T h X W qe
 replace qe : Av Z h qk .byte [(.int (nar .byte qt)), (.int (nar .byte qc)), (.int (nar .byte yz)), (.int (nar .byte q3)), (.int (nar .byte qx)), (.int (nar .byte qq))] := qe
 replace hk := Nat.le_trans hk (Nat.le_of_eq W.size.symm)
 replace qi := qi.other W q4
 replace qa := qa.wr W
 replace Z0 := Nat.le_trans Z0 (Nat.le_of_eq W.size.symm)
 replace N := Fr.snoc X.1 N q5
 replace Kp := Kp.wr W (Or.inr q6)
 exact tail2 l Z aa hw n0 i0 i2 i3 qc qd qf (1 : Int32) (nar .byte qt) (nar .byte qc) (nar .byte yz) (nar .byte q3) (nar .byte qx) (nar .byte qq) G1 j1 q0 qk (.val (.int (1 : Int32))) X hS hk (CHv.keep Kp (fun _ q => nomatch q) HC0) Z0 N hret hlk qi qe qa P5 (Or.inr (Or.inl rfl)) (One.val rfl) hn0 hn1 hn2
 subst hs
 show Go p e below _ (T.setTop (mkF m 140 _ []))
 refine g_iload X at_140 (pc' := 142) rfl rfl ?_
 refine g_ifN X at_142 ((if0 _ _).trans (tlt (show (0 : Int32) < (2 : Int32) from (by decide))).2.2.2) (pc' := 145) rfl ?_
 refine g_aload X at_145 (pc' := 147) rfl rfl rfl ?_
 refine g_iload X at_147 (pc' := 149) rfl rfl ?_
 refine g_iload X at_149 (pc' := 151) rfl rfl ?_
 refine g_bastore X qe 2 at_151 (pc' := 152) rfl (by decide) (by decide) (Nat.le_of_ble_eq_true rfl) ?_
 intro T h X W qe
 replace qe : Av Z h qk .byte [(.int (nar .byte qt)), (.int (nar .byte q1)), (.int (nar .byte qc)), (.int (nar .byte q3)), (.int (nar .byte qx)), (.int (nar .byte qq))] := qe
 replace hk := Nat.le_trans hk (Nat.le_of_eq W.size.symm)
 replace qi := qi.other W q4
 replace qa := qa.wr W
 replace Z0 := Nat.le_trans Z0 (Nat.le_of_eq W.size.symm)
 replace N := Fr.snoc X.1 N q5
 replace Kp := Kp.wr W (Or.inr q6)
 refine g_iload X at_152 (pc' := 154) rfl rfl ?_
 refine g_iconst X (1 : Int32) at_154 (pc' := 155) rfl rfl ?_
 refine g_icN X at_155 (tlt (show (1 : Int32) < (2 : Int32) from (by decide))).2.2.2 (pc' := 158) rfl ?_
 refine g_aload X at_158 (pc' := 160) rfl rfl rfl ?_
 refine g_iload X at_160 (pc' := 162) rfl rfl ?_
 refine g_iconst X (1 : Int32) at_162 (pc' := 163) rfl rfl ?_
 refine g_iadd X at_163 (pc' := 164) rfl ?_
 refine Go.lit32 (z := (3 : Int32)) (by decide) ?_
 refine g_iload X at_164 (pc' := 166) rfl rfl ?_
 refine g_bastore X qe 3 at_166 (pc' := 167) rfl (by decide) (by decide) (Nat.le_of_ble_eq_true rfl) ?_
 intro T h X W qe
 replace qe : Av Z h qk .byte [(.int (nar .byte qt)), (.int (nar .byte q1)), (.int (nar .byte qc)), (.int (nar .byte qd)), (.int (nar .byte qx)), (.int (nar .byte qq))] := qe
 replace hk := Nat.le_trans hk (Nat.le_of_eq W.size.symm)
 replace qi := qi.other W q4
 replace qa := qa.wr W
 replace Z0 := Nat.le_trans Z0 (Nat.le_of_eq W.size.symm)
 replace N := Fr.snoc X.1 N q5
 replace Kp := Kp.wr W (Or.inr q6)
 refine g_iload X at_167 (pc' := 169) rfl rfl ?_
 refine g_iconst X (2 : Int32) at_169 (pc' := 170) rfl rfl ?_
 refine g_icY X at_170 (flt (show ¬ ((2 : Int32) < (2 : Int32)) from (by decide))).2.2.2 (pc' := 182) (by decide) (by decide) ?_
 refine g_iloadN X at_182 (pc' := 183) rfl rfl ?_
 refine g_bipush X (8 : Int32) at_183 (pc' := 185) rfl rfl ?_
 refine g_iand X at_185 (pc' := 186) rfl ?_
 by_cases y0 : (i2 &&& (8 : Int32)) = (0 : Int32)
 refine g_ifY X at_186 ((if0 _ _).trans (teq y0).1) (pc' := 225) (by decide) (by decide) ?_
 exact tail2 l Z aa hw n0 i0 i2 i3 qc qd qf (2 : Int32) (nar .byte qt) (nar .byte q1) (nar .byte qc) (nar .byte qd) (nar .byte qx) (nar .byte qq) G1 j1 q0 qk (.unset) X hS hk (CHv.keep Kp (fun _ q => nomatch q) HC0) Z0 N hret hlk qi qe qa P5 (Or.inr (Or.inr (Or.inl rfl))) One.u hn0 hn1 hn2
 refine g_ifN X at_186 ((if0 _ _).trans (feq y0).1) (pc' := 189) rfl ?_
 refine g_iload X at_189 (pc' := 191) rfl rfl ?_
 refine g_ifN X at_191 ((if0 _ _).trans (tlt (show (0 : Int32) < (2 : Int32) from (by decide))).2.2.2) (pc' := 194) rfl ?_
 refine g_iloadN X at_194 (pc' := 195) rfl rfl ?_
 refine g_bipush X (6 : Int32) at_195 (pc' := 197) rfl rfl ?_
 refine g_iushr X at_197 (pc' := 198) rfl ?_
 refine g_iconst X (3 : Int32) at_198 (pc' := 199) rfl rfl ?_
 refine g_iand X at_199 (pc' := 200) rfl ?_
 refine g_iload X at_200 (pc' := 202) rfl rfl ?_
 refine g_irem X at_202 (pc' := 203) rfl (by decide) ?_
 generalize up : ((((i2.toUInt32 >>> ((6 : Int32) &&& 31).toUInt32).toInt32) &&& (3 : Int32)) % (2 : Int32)) = wk
 refine g_istore X at_203 (pc' := 205) (Ls' := #[.val (.int i0), .val (.long j1), .second, .val (.int i2), .val (.int i3), .val (.int (2 : Int32)), .val (.int qc), .val (.int qd), .val (.int qf), .val (.ref q0), .val (.ref qk), .val (.int (2 : Int32)), .val (.int wk), .unset, .unset, .unset, .unset]) rfl rfl ?_
 rcases (mr2 up : wk = (0 : Int32) ∨ wk = (1 : Int32)) with hs | hs
 subst hs
 show Go p e below _ (T.setTop (mkF m 205 _ []))
 refine g_aload X at_205 (pc' := 207) rfl rfl rfl ?_
 refine g_iload X at_207 (pc' := 209) rfl rfl ?_
 refine g_iload X at_209 (pc' := 211) rfl rfl ?_
 refine g_iadd X at_211 (pc' := 212) rfl ?_
 refine Go.lit32 (z := (2 : Int32)) (by decide) ?_
 refine g_aload X at_212 (pc' := 214) rfl rfl rfl ?_
 refine g_iload X at_214 (pc' := 216) rfl rfl ?_
 refine g_iload X at_216 (pc' := 218) rfl rfl ?_
 refine g_iadd X at_218 (pc' := 219) rfl ?_
 refine Go.lit32 (z := (2 : Int32)) (by decide) ?_
 refine g_baload X qe 2 at_219 (pc' := 220) rfl (by decide) (by decide) rfl ?_
 refine g_iload X at_220 (pc' := 222) rfl rfl ?_
 refine g_ixor X at_222 (pc' := 223) rfl ?_
 refine g_i2b X at_223 (pc' := 224) rfl ?_
 generalize qa6 : (((nar .byte qc) ^^^ i3).toInt8.toInt32) = y1
 refine g_bastore X qe 2 at_224 (pc' := 225) rfl (by decide) (by decide) (Nat.le_of_ble_eq_true rfl) ?_
 intro T h X W qe
 replace qe : Av Z h qk .byte [(.int (nar .byte qt)), (.int (nar .byte q1)), (.int (nar .byte y1)), (.int (nar .byte qd)), (.int (nar .byte qx)), (.int (nar .byte qq))] := qe
 replace hk := Nat.le_trans hk (Nat.le_of_eq W.size.symm)
 replace qi := qi.other W q4
 replace qa := qa.wr W
 replace Z0 := Nat.le_trans Z0 (Nat.le_of_eq W.size.symm)
 replace N := Fr.snoc X.1 N q5
 replace Kp := Kp.wr W (Or.inr q6)
 exact tail2 l Z aa hw n0 i0 i2 i3 qc qd qf (2 : Int32) (nar .byte qt) (nar .byte q1) (nar .byte y1) (nar .byte qd) (nar .byte qx) (nar .byte qq) G1 j1 q0 qk (.val (.int (0 : Int32))) X hS hk (CHv.keep Kp (fun _ q => nomatch q) HC0) Z0 N hret hlk qi qe qa P5 (Or.inr (Or.inr (Or.inl rfl))) (One.val rfl) hn0 hn1 hn2
 subst hs
 show Go p e below _ (T.setTop (mkF m 205 _ []))
 refine g_aload X at_205 (pc' := 207) rfl rfl rfl ?_
 refine g_iload X at_207 (pc' := 209) rfl rfl ?_
 refine g_iload X at_209 (pc' := 211) rfl rfl ?_
 refine g_iadd X at_211 (pc' := 212) rfl ?_
 refine Go.lit32 (z := (3 : Int32)) (by decide) ?_
 refine g_aload X at_212 (pc' := 214) rfl rfl rfl ?_
 refine g_iload X at_214 (pc' := 216) rfl rfl ?_
 refine g_iload X at_216 (pc' := 218) rfl rfl ?_
 refine g_iadd X at_218 (pc' := 219) rfl ?_
 refine Go.lit32 (z := (3 : Int32)) (by decide) ?_
 refine g_baload X qe 3 at_219 (pc' := 220) rfl (by decide) (by decide) rfl ?_
 refine g_iload X at_220 (pc' := 222) rfl rfl ?_
 refine g_ixor X at_222 (pc' := 223) rfl ?_
 refine g_i2b X at_223 (pc' := 224) rfl ?_
 generalize qa7 : (((nar .byte qd) ^^^ i3).toInt8.toInt32) = y2
 refine g_bastore X qe 3 at_224 (pc' := 225) rfl (by decide) (by decide) (Nat.le_of_ble_eq_true rfl) ?_
 intro T h X W qe
 replace qe : Av Z h qk .byte [(.int (nar .byte qt)), (.int (nar .byte q1)), (.int (nar .byte qc)), (.int (nar .byte y2)), (.int (nar .byte qx)), (.int (nar .byte qq))] := qe
 replace hk := Nat.le_trans hk (Nat.le_of_eq W.size.symm)
 replace qi := qi.other W q4
 replace qa := qa.wr W
 replace Z0 := Nat.le_trans Z0 (Nat.le_of_eq W.size.symm)
 replace N := Fr.snoc X.1 N q5
 replace Kp := Kp.wr W (Or.inr q6)
 exact tail2 l Z aa hw n0 i0 i2 i3 qc qd qf (2 : Int32) (nar .byte qt) (nar .byte q1) (nar .byte qc) (nar .byte y2) (nar .byte qx) (nar .byte qq) G1 j1 q0 qk (.val (.int (1 : Int32))) X hS hk (CHv.keep Kp (fun _ q => nomatch q) HC0) Z0 N hret hlk qi qe qa P5 (Or.inr (Or.inr (Or.inl rfl))) (One.val rfl) hn0 hn1 hn2
 subst hs
 show Go p e below _ (T.setTop (mkF m 140 _ []))
 refine g_iload X at_140 (pc' := 142) rfl rfl ?_
 refine g_ifN X at_142 ((if0 _ _).trans (tlt (show (0 : Int32) < (2 : Int32) from (by decide))).2.2.2) (pc' := 145) rfl ?_
 refine g_aload X at_145 (pc' := 147) rfl rfl rfl ?_
 refine g_iload X at_147 (pc' := 149) rfl rfl ?_
 refine g_iload X at_149 (pc' := 151) rfl rfl ?_
 refine g_bastore X qe 3 at_151 (pc' := 152) rfl (by decide) (by decide) (Nat.le_of_ble_eq_true rfl) ?_
 intro T h X W qe
 replace qe : Av Z h qk .byte [(.int (nar .byte qt)), (.int (nar .byte q1)), (.int (nar .byte q2)), (.int (nar .byte qc)), (.int (nar .byte qx)), (.int (nar .byte qq))] := qe
 replace hk := Nat.le_trans hk (Nat.le_of_eq W.size.symm)
 replace qi := qi.other W q4
 replace qa := qa.wr W
 replace Z0 := Nat.le_trans Z0 (Nat.le_of_eq W.size.symm)
 replace N := Fr.snoc X.1 N q5
 replace Kp := Kp.wr W (Or.inr q6)
 refine g_iload X at_152 (pc' := 154) rfl rfl ?_
 refine g_iconst X (1 : Int32) at_154 (pc' := 155) rfl rfl ?_
 refine g_icN X at_155 (tlt (show (1 : Int32) < (2 : Int32) from (by decide))).2.2.2 (pc' := 158) rfl ?_
 refine g_aload X at_158 (pc' := 160) rfl rfl rfl ?_
 refine g_iload X at_160 (pc' := 162) rfl rfl ?_
 refine g_iconst X (1 : Int32) at_162 (pc' := 163) rfl rfl ?_
 refine g_iadd X at_163 (pc' := 164) rfl ?_
 refine Go.lit32 (z := (4 : Int32)) (by decide) ?_
 refine g_iload X at_164 (pc' := 166) rfl rfl ?_
 refine g_bastore X qe 4 at_166 (pc' := 167) rfl (by decide) (by decide) (Nat.le_of_ble_eq_true rfl) ?_
 intro T h X W qe
 replace qe : Av Z h qk .byte [(.int (nar .byte qt)), (.int (nar .byte q1)), (.int (nar .byte q2)), (.int (nar .byte qc)), (.int (nar .byte qd)), (.int (nar .byte qq))] := qe
 replace hk := Nat.le_trans hk (Nat.le_of_eq W.size.symm)
 replace qi := qi.other W q4
 replace qa := qa.wr W
 replace Z0 := Nat.le_trans Z0 (Nat.le_of_eq W.size.symm)
 replace N := Fr.snoc X.1 N q5
 replace Kp := Kp.wr W (Or.inr q6)
 refine g_iload X at_167 (pc' := 169) rfl rfl ?_
 refine g_iconst X (2 : Int32) at_169 (pc' := 170) rfl rfl ?_
 refine g_icY X at_170 (flt (show ¬ ((2 : Int32) < (2 : Int32)) from (by decide))).2.2.2 (pc' := 182) (by decide) (by decide) ?_
 refine g_iloadN X at_182 (pc' := 183) rfl rfl ?_
 refine g_bipush X (8 : Int32) at_183 (pc' := 185) rfl rfl ?_
 refine g_iand X at_185 (pc' := 186) rfl ?_
 by_cases y3 : (i2 &&& (8 : Int32)) = (0 : Int32)
 refine g_ifY X at_186 ((if0 _ _).trans (teq y3).1) (pc' := 225) (by decide) (by decide) ?_
 exact tail2 l Z aa hw n0 i0 i2 i3 qc qd qf (3 : Int32) (nar .byte qt) (nar .byte q1) (nar .byte q2) (nar .byte qc) (nar .byte qd) (nar .byte qq) G1 j1 q0 qk (.unset) X hS hk (CHv.keep Kp (fun _ q => nomatch q) HC0) Z0 N hret hlk qi qe qa P5 (Or.inr (Or.inr (Or.inr (rfl)))) One.u hn0 hn1 hn2
 refine g_ifN X at_186 ((if0 _ _).trans (feq y3).1) (pc' := 189) rfl ?_
 refine g_iload X at_189 (pc' := 191) rfl rfl ?_
 refine g_ifN X at_191 ((if0 _ _).trans (tlt (show (0 : Int32) < (2 : Int32) from (by decide))).2.2.2) (pc' := 194) rfl ?_
 refine g_iloadN X at_194 (pc' := 195) rfl rfl ?_
 refine g_bipush X (6 : Int32) at_195 (pc' := 197) rfl rfl ?_
 refine g_iushr X at_197 (pc' := 198) rfl ?_
 refine g_iconst X (3 : Int32) at_198 (pc' := 199) rfl rfl ?_
 refine g_iand X at_199 (pc' := 200) rfl ?_
 refine g_iload X at_200 (pc' := 202) rfl rfl ?_
 refine g_irem X at_202 (pc' := 203) rfl (by decide) ?_
 generalize uq : ((((i2.toUInt32 >>> ((6 : Int32) &&& 31).toUInt32).toInt32) &&& (3 : Int32)) % (2 : Int32)) = wl
 refine g_istore X at_203 (pc' := 205) (Ls' := #[.val (.int i0), .val (.long j1), .second, .val (.int i2), .val (.int i3), .val (.int (2 : Int32)), .val (.int qc), .val (.int qd), .val (.int qf), .val (.ref q0), .val (.ref qk), .val (.int (3 : Int32)), .val (.int wl), .unset, .unset, .unset, .unset]) rfl rfl ?_
 rcases (mr2 uq : wl = (0 : Int32) ∨ wl = (1 : Int32)) with hs | hs
 subst hs
 show Go p e below _ (T.setTop (mkF m 205 _ []))
 refine g_aload X at_205 (pc' := 207) rfl rfl rfl ?_
 refine g_iload X at_207 (pc' := 209) rfl rfl ?_
 refine g_iload X at_209 (pc' := 211) rfl rfl ?_
 refine g_iadd X at_211 (pc' := 212) rfl ?_
 refine Go.lit32 (z := (3 : Int32)) (by decide) ?_
 refine g_aload X at_212 (pc' := 214) rfl rfl rfl ?_
 refine g_iload X at_214 (pc' := 216) rfl rfl ?_
 refine g_iload X at_216 (pc' := 218) rfl rfl ?_
 refine g_iadd X at_218 (pc' := 219) rfl ?_
 refine Go.lit32 (z := (3 : Int32)) (by decide) ?_
 refine g_baload X qe 3 at_219 (pc' := 220) rfl (by decide) (by decide) rfl ?_
 refine g_iload X at_220 (pc' := 222) rfl rfl ?_
 refine g_ixor X at_222 (pc' := 223) rfl ?_
 refine g_i2b X at_223 (pc' := 224) rfl ?_
 generalize qa8 : (((nar .byte qc) ^^^ i3).toInt8.toInt32) = y4
 refine g_bastore X qe 3 at_224 (pc' := 225) rfl (by decide) (by decide) (Nat.le_of_ble_eq_true rfl) ?_
 intro T h X W qe
 replace qe : Av Z h qk .byte [(.int (nar .byte qt)), (.int (nar .byte q1)), (.int (nar .byte q2)), (.int (nar .byte y4)), (.int (nar .byte qd)), (.int (nar .byte qq))] := qe
 replace hk := Nat.le_trans hk (Nat.le_of_eq W.size.symm)
 replace qi := qi.other W q4
 replace qa := qa.wr W
 replace Z0 := Nat.le_trans Z0 (Nat.le_of_eq W.size.symm)
 replace N := Fr.snoc X.1 N q5
 replace Kp := Kp.wr W (Or.inr q6)
 exact tail2 l Z aa hw n0 i0 i2 i3 qc qd qf (3 : Int32) (nar .byte qt) (nar .byte q1) (nar .byte q2) (nar .byte y4) (nar .byte qd) (nar .byte qq) G1 j1 q0 qk (.val (.int (0 : Int32))) X hS hk (CHv.keep Kp (fun _ q => nomatch q) HC0) Z0 N hret hlk qi qe qa P5 (Or.inr (Or.inr (Or.inr (rfl)))) (One.val rfl) hn0 hn1 hn2
 subst hs
 show Go p e below _ (T.setTop (mkF m 205 _ []))
 refine g_aload X at_205 (pc' := 207) rfl rfl rfl ?_
 refine g_iload X at_207 (pc' := 209) rfl rfl ?_
 refine g_iload X at_209 (pc' := 211) rfl rfl ?_
 refine g_iadd X at_211 (pc' := 212) rfl ?_
 refine Go.lit32 (z := (4 : Int32)) (by decide) ?_
 refine g_aload X at_212 (pc' := 214) rfl rfl rfl ?_
 refine g_iload X at_214 (pc' := 216) rfl rfl ?_
 refine g_iload X at_216 (pc' := 218) rfl rfl ?_
 refine g_iadd X at_218 (pc' := 219) rfl ?_
 refine Go.lit32 (z := (4 : Int32)) (by decide) ?_
 refine g_baload X qe 4 at_219 (pc' := 220) rfl (by decide) (by decide) rfl ?_
 refine g_iload X at_220 (pc' := 222) rfl rfl ?_
 refine g_ixor X at_222 (pc' := 223) rfl ?_
 refine g_i2b X at_223 (pc' := 224) rfl ?_
 generalize qa9 : (((nar .byte qd) ^^^ i3).toInt8.toInt32) = y5
 refine g_bastore X qe 4 at_224 (pc' := 225) rfl (by decide) (by decide) (Nat.le_of_ble_eq_true rfl) ?_
 intro T h X W qe
 replace qe : Av Z h qk .byte [(.int (nar .byte qt)), (.int (nar .byte q1)), (.int (nar .byte q2)), (.int (nar .byte qc)), (.int (nar .byte y5)), (.int (nar .byte qq))] := qe
 replace hk := Nat.le_trans hk (Nat.le_of_eq W.size.symm)
 replace qi := qi.other W q4
 replace qa := qa.wr W
 replace Z0 := Nat.le_trans Z0 (Nat.le_of_eq W.size.symm)
 replace N := Fr.snoc X.1 N q5
 replace Kp := Kp.wr W (Or.inr q6)
 exact tail2 l Z aa hw n0 i0 i2 i3 qc qd qf (3 : Int32) (nar .byte qt) (nar .byte q1) (nar .byte q2) (nar .byte qc) (nar .byte y5) (nar .byte qq) G1 j1 q0 qk (.val (.int (1 : Int32))) X hS hk (CHv.keep Kp (fun _ q => nomatch q) HC0) Z0 N hret hlk qi qe qa P5 (Or.inr (Or.inr (Or.inr (rfl)))) (One.val rfl) hn0 hn1 hn2
 subst hs
 show Go p e below _ (T.setTop (mkF m 23 _ []))
 refine g_iload X at_23 (pc' := 25) rfl rfl ?_
 refine g_newarray X 3 (tb hw 0 rfl) at_25 (pc' := 27) rfl (by decide) (by decide) 3 (by decide) (by decide) (by decide) (by decide) (vs := [(.int (0 : Int32)), (.int (0 : Int32)), (.int (0 : Int32))]) rfl (ad := "[B") (by decide) ?_
 intro T h qr y6 X Ex jt qg
 have wm : n0 ≤ qr := by rw [y6]; exact Z0
 have wn : h0.size ≤ qr := by rw [y6]; exact Kp.1
 replace qa := qa.ext Ex
 replace Z0 := Nat.le_trans Z0 Ex.1
 replace Kp := Kp.ext Ex
 replace hk := Nat.le_trans hk Ex.1
 refine g_astore X at_27 (pc' := 29) (Ls' := #[.val (.int i0), .val (.long j1), .second, .val (.int i2), .val (.int i3), .val (.int (3 : Int32)), .val (.int qc), .val (.int qd), .val (.int qf), .val (.ref qr), .unset, .unset, .unset, .unset, .unset, .unset, .unset]) rfl rfl rfl ?_
 refine g_iload X at_29 (pc' := 31) rfl rfl ?_
 refine g_ifN X at_31 ((if0 _ _).trans (tlt (show (0 : Int32) < (3 : Int32) from (by decide))).2.2.2) (pc' := 34) rfl ?_
 refine g_aload X at_34 (pc' := 36) rfl rfl rfl ?_
 refine g_iconst X (0 : Int32) at_36 (pc' := 37) rfl rfl ?_
 refine g_iload X at_37 (pc' := 39) rfl rfl ?_
 refine g_bastore X qg 0 at_39 (pc' := 40) rfl (by decide) (by decide) (Nat.le_of_ble_eq_true rfl) ?_
 intro T h X W qg
 replace qg : Av Z h qr .byte [(.int (nar .byte qc)), (.int (0 : Int32)), (.int (0 : Int32))] := qg
 replace hk := Nat.le_trans hk (Nat.le_of_eq W.size.symm)
 replace jt := jt.wr W
 replace qa := qa.wr W
 replace Z0 := Nat.le_trans Z0 (Nat.le_of_eq W.size.symm)
 replace N := Fr.snoc X.1 N wm
 replace Kp := Kp.wr W (Or.inr wn)
 refine g_iload X at_40 (pc' := 42) rfl rfl ?_
 refine g_iconst X (1 : Int32) at_42 (pc' := 43) rfl rfl ?_
 refine g_icN X at_43 (tlt (show (1 : Int32) < (3 : Int32) from (by decide))).2.2.2 (pc' := 46) rfl ?_
 refine g_aload X at_46 (pc' := 48) rfl rfl rfl ?_
 refine g_iconst X (1 : Int32) at_48 (pc' := 49) rfl rfl ?_
 refine g_iload X at_49 (pc' := 51) rfl rfl ?_
 refine g_bastore X qg 1 at_51 (pc' := 52) rfl (by decide) (by decide) (Nat.le_of_ble_eq_true rfl) ?_
 intro T h X W qg
 replace qg : Av Z h qr .byte [(.int (nar .byte qc)), (.int (nar .byte qd)), (.int (0 : Int32))] := qg
 replace hk := Nat.le_trans hk (Nat.le_of_eq W.size.symm)
 replace jt := jt.wr W
 replace qa := qa.wr W
 replace Z0 := Nat.le_trans Z0 (Nat.le_of_eq W.size.symm)
 replace N := Fr.snoc X.1 N wm
 replace Kp := Kp.wr W (Or.inr wn)
 refine g_iload X at_52 (pc' := 54) rfl rfl ?_
 refine g_iconst X (2 : Int32) at_54 (pc' := 55) rfl rfl ?_
 refine g_icN X at_55 (tlt (show (2 : Int32) < (3 : Int32) from (by decide))).2.2.2 (pc' := 58) rfl ?_
 refine g_aload X at_58 (pc' := 60) rfl rfl rfl ?_
 refine g_iconst X (2 : Int32) at_60 (pc' := 61) rfl rfl ?_
 refine g_iload X at_61 (pc' := 63) rfl rfl ?_
 refine g_bastore X qg 2 at_63 (pc' := 64) rfl (by decide) (by decide) (Nat.le_of_ble_eq_true rfl) ?_
 intro T h X W qg
 replace qg : Av Z h qr .byte [(.int (nar .byte qc)), (.int (nar .byte qd)), (.int (nar .byte qf))] := qg
 replace hk := Nat.le_trans hk (Nat.le_of_eq W.size.symm)
 replace jt := jt.wr W
 replace qa := qa.wr W
 replace Z0 := Nat.le_trans Z0 (Nat.le_of_eq W.size.symm)
 replace N := Fr.snoc X.1 N wm
 replace Kp := Kp.wr W (Or.inr wn)
 refine g_bipush X (6 : Int32) at_64 (pc' := 66) rfl rfl ?_
 refine g_newarray X 6 (tb hw 0 rfl) at_66 (pc' := 68) rfl (by decide) (by decide) 6 (by decide) (by decide) (by decide) (by decide) (vs := [(.int (0 : Int32)), (.int (0 : Int32)), (.int (0 : Int32)), (.int (0 : Int32)), (.int (0 : Int32)), (.int (0 : Int32))]) rfl (ad := "[B") (by decide) ?_
 intro T h qj wo X Ex qba qb
 have qu : qr ≠ qj := Nat.ne_of_lt (by rw [wo]; exact jt.lt)
 have qv : n0 ≤ qj := by rw [wo]; exact Z0
 have qw : h0.size ≤ qj := by rw [wo]; exact Kp.1
 replace qg := qg.ext Ex
 replace qa := qa.ext Ex
 replace Z0 := Nat.le_trans Z0 Ex.1
 replace Kp := Kp.ext Ex
 replace hk := Nat.le_trans hk Ex.1
 refine g_astore X at_68 (pc' := 70) (Ls' := #[.val (.int i0), .val (.long j1), .second, .val (.int i2), .val (.int i3), .val (.int (3 : Int32)), .val (.int qc), .val (.int qd), .val (.int qf), .val (.ref qr), .val (.ref qj), .unset, .unset, .unset, .unset, .unset, .unset]) rfl rfl rfl ?_
 refine g_aload X at_70 (pc' := 72) rfl rfl rfl ?_
 refine g_iconst X (0 : Int32) at_72 (pc' := 73) rfl rfl ?_
 refine g_lloadN X at_73 (pc' := 74) rfl rfl ?_
 refine g_l2i X at_74 (pc' := 75) rfl ?_
 refine g_i2b X at_75 (pc' := 76) rfl ?_
 generalize qbb : ((j1.toInt32).toInt8.toInt32) = ql
 refine g_bastore X qb 0 at_76 (pc' := 77) rfl (by decide) (by decide) (Nat.le_of_ble_eq_true rfl) ?_
 intro T h X W qb
 replace qb : Av Z h qj .byte [(.int (nar .byte ql)), (.int (0 : Int32)), (.int (0 : Int32)), (.int (0 : Int32)), (.int (0 : Int32)), (.int (0 : Int32))] := qb
 replace hk := Nat.le_trans hk (Nat.le_of_eq W.size.symm)
 replace qg := qg.other W qu
 replace qa := qa.wr W
 replace Z0 := Nat.le_trans Z0 (Nat.le_of_eq W.size.symm)
 replace N := Fr.snoc X.1 N qv
 replace Kp := Kp.wr W (Or.inr qw)
 refine g_aload X at_77 (pc' := 79) rfl rfl rfl ?_
 refine g_iconst X (1 : Int32) at_79 (pc' := 80) rfl rfl ?_
 refine g_lloadN X at_80 (pc' := 81) rfl rfl ?_
 refine g_bipush X (8 : Int32) at_81 (pc' := 83) rfl rfl ?_
 refine g_lushr X at_83 (pc' := 84) rfl ?_
 refine g_l2i X at_84 (pc' := 85) rfl ?_
 refine g_i2b X at_85 (pc' := 86) rfl ?_
 generalize qbc : ((((j1.toUInt64 >>> ((8 : Int32) &&& 0x3f).toInt64.toUInt64).toInt64).toInt32).toInt8.toInt32) = qo
 refine g_bastore X qb 1 at_86 (pc' := 87) rfl (by decide) (by decide) (Nat.le_of_ble_eq_true rfl) ?_
 intro T h X W qb
 replace qb : Av Z h qj .byte [(.int (nar .byte ql)), (.int (nar .byte qo)), (.int (0 : Int32)), (.int (0 : Int32)), (.int (0 : Int32)), (.int (0 : Int32))] := qb
 replace hk := Nat.le_trans hk (Nat.le_of_eq W.size.symm)
 replace qg := qg.other W qu
 replace qa := qa.wr W
 replace Z0 := Nat.le_trans Z0 (Nat.le_of_eq W.size.symm)
 replace N := Fr.snoc X.1 N qv
 replace Kp := Kp.wr W (Or.inr qw)
 refine g_aload X at_87 (pc' := 89) rfl rfl rfl ?_
 refine g_iconst X (2 : Int32) at_89 (pc' := 90) rfl rfl ?_
 refine g_lloadN X at_90 (pc' := 91) rfl rfl ?_
 refine g_bipush X (16 : Int32) at_91 (pc' := 93) rfl rfl ?_
 refine g_lushr X at_93 (pc' := 94) rfl ?_
 refine g_l2i X at_94 (pc' := 95) rfl ?_
 refine g_i2b X at_95 (pc' := 96) rfl ?_
 generalize qbd : ((((j1.toUInt64 >>> ((16 : Int32) &&& 0x3f).toInt64.toUInt64).toInt64).toInt32).toInt8.toInt32) = qy
 refine g_bastore X qb 2 at_96 (pc' := 97) rfl (by decide) (by decide) (Nat.le_of_ble_eq_true rfl) ?_
 intro T h X W qb
 replace qb : Av Z h qj .byte [(.int (nar .byte ql)), (.int (nar .byte qo)), (.int (nar .byte qy)), (.int (0 : Int32)), (.int (0 : Int32)), (.int (0 : Int32))] := qb
 replace hk := Nat.le_trans hk (Nat.le_of_eq W.size.symm)
 replace qg := qg.other W qu
 replace qa := qa.wr W
 replace Z0 := Nat.le_trans Z0 (Nat.le_of_eq W.size.symm)
 replace N := Fr.snoc X.1 N qv
 replace Kp := Kp.wr W (Or.inr qw)
 refine g_aload X at_97 (pc' := 99) rfl rfl rfl ?_
 refine g_iconst X (3 : Int32) at_99 (pc' := 100) rfl rfl ?_
 refine g_lloadN X at_100 (pc' := 101) rfl rfl ?_
 refine g_bipush X (24 : Int32) at_101 (pc' := 103) rfl rfl ?_
 refine g_lushr X at_103 (pc' := 104) rfl ?_
 refine g_l2i X at_104 (pc' := 105) rfl ?_
 refine g_i2b X at_105 (pc' := 106) rfl ?_
 generalize qbe : ((((j1.toUInt64 >>> ((24 : Int32) &&& 0x3f).toInt64.toUInt64).toInt64).toInt32).toInt8.toInt32) = qz
 refine g_bastore X qb 3 at_106 (pc' := 107) rfl (by decide) (by decide) (Nat.le_of_ble_eq_true rfl) ?_
 intro T h X W qb
 replace qb : Av Z h qj .byte [(.int (nar .byte ql)), (.int (nar .byte qo)), (.int (nar .byte qy)), (.int (nar .byte qz)), (.int (0 : Int32)), (.int (0 : Int32))] := qb
 replace hk := Nat.le_trans hk (Nat.le_of_eq W.size.symm)
 replace qg := qg.other W qu
 replace qa := qa.wr W
 replace Z0 := Nat.le_trans Z0 (Nat.le_of_eq W.size.symm)
 replace N := Fr.snoc X.1 N qv
 replace Kp := Kp.wr W (Or.inr qw)
 refine g_aload X at_107 (pc' := 109) rfl rfl rfl ?_
 refine g_iconst X (4 : Int32) at_109 (pc' := 110) rfl rfl ?_
 refine g_lloadN X at_110 (pc' := 111) rfl rfl ?_
 refine g_bipush X (32 : Int32) at_111 (pc' := 113) rfl rfl ?_
 refine g_lushr X at_113 (pc' := 114) rfl ?_
 refine g_l2i X at_114 (pc' := 115) rfl ?_
 refine g_i2b X at_115 (pc' := 116) rfl ?_
 generalize qbf : ((((j1.toUInt64 >>> ((32 : Int32) &&& 0x3f).toInt64.toUInt64).toInt64).toInt32).toInt8.toInt32) = qp
 refine g_bastore X qb 4 at_116 (pc' := 117) rfl (by decide) (by decide) (Nat.le_of_ble_eq_true rfl) ?_
 intro T h X W qb
 replace qb : Av Z h qj .byte [(.int (nar .byte ql)), (.int (nar .byte qo)), (.int (nar .byte qy)), (.int (nar .byte qz)), (.int (nar .byte qp)), (.int (0 : Int32))] := qb
 replace hk := Nat.le_trans hk (Nat.le_of_eq W.size.symm)
 replace qg := qg.other W qu
 replace qa := qa.wr W
 replace Z0 := Nat.le_trans Z0 (Nat.le_of_eq W.size.symm)
 replace N := Fr.snoc X.1 N qv
 replace Kp := Kp.wr W (Or.inr qw)
 refine g_aload X at_117 (pc' := 119) rfl rfl rfl ?_
 refine g_iconst X (5 : Int32) at_119 (pc' := 120) rfl rfl ?_
 refine g_lloadN X at_120 (pc' := 121) rfl rfl ?_
 refine g_bipush X (40 : Int32) at_121 (pc' := 123) rfl rfl ?_
 refine g_lushr X at_123 (pc' := 124) rfl ?_
 refine g_l2i X at_124 (pc' := 125) rfl ?_
 refine g_i2b X at_125 (pc' := 126) rfl ?_
 generalize qbg : ((((j1.toUInt64 >>> ((40 : Int32) &&& 0x3f).toInt64.toUInt64).toInt64).toInt32).toInt8.toInt32) = qm
 refine g_bastore X qb 5 at_126 (pc' := 127) rfl (by decide) (by decide) (Nat.le_of_ble_eq_true rfl) ?_
 intro T h X W qb
 replace qb : Av Z h qj .byte [(.int (nar .byte ql)), (.int (nar .byte qo)), (.int (nar .byte qy)), (.int (nar .byte qz)), (.int (nar .byte qp)), (.int (nar .byte qm))] := qb
 replace hk := Nat.le_trans hk (Nat.le_of_eq W.size.symm)
 replace qg := qg.other W qu
 replace qa := qa.wr W
 replace Z0 := Nat.le_trans Z0 (Nat.le_of_eq W.size.symm)
 replace N := Fr.snoc X.1 N qv
 replace Kp := Kp.wr W (Or.inr qw)
 refine g_iloadN X at_127 (pc' := 128) rfl rfl ?_
 refine g_iconst X (4 : Int32) at_128 (pc' := 129) rfl rfl ?_
 refine g_iushr X at_129 (pc' := 130) rfl ?_
 refine g_iconst X (3 : Int32) at_130 (pc' := 131) rfl rfl ?_
 refine g_iand X at_131 (pc' := 132) rfl ?_
 generalize ur : (((i2.toUInt32 >>> ((4 : Int32) &&& 31).toUInt32).toInt32) &&& (3 : Int32)) = jn
 refine g_istore X at_132 (pc' := 134) (Ls' := #[.val (.int i0), .val (.long j1), .second, .val (.int i2), .val (.int i3), .val (.int (3 : Int32)), .val (.int qc), .val (.int qd), .val (.int qf), .val (.ref qr), .val (.ref qj), .val (.int jn), .unset, .unset, .unset, .unset, .unset]) rfl rfl ?_
 have hst := m4 ur
 refine g_iloadN X at_134 (pc' := 135) rfl rfl ?_
 refine g_iconst X (4 : Int32) at_135 (pc' := 136) rfl rfl ?_
 refine g_iand X at_136 (pc' := 137) rfl ?_
 by_cases y7 : (i2 &&& (4 : Int32)) = (0 : Int32)
 refine g_ifY X at_137 ((if0 _ _).trans (teq y7).1) (pc' := 182) (by decide) (by decide) ?_
 refine g_iloadN X at_182 (pc' := 183) rfl rfl ?_
 refine g_bipush X (8 : Int32) at_183 (pc' := 185) rfl rfl ?_
 refine g_iand X at_185 (pc' := 186) rfl ?_
 by_cases y8 : (i2 &&& (8 : Int32)) = (0 : Int32)
 refine g_ifY X at_186 ((if0 _ _).trans (teq y8).1) (pc' := 225) (by decide) (by decide) ?_
 exact tail3 l Z aa hw n0 i0 i2 i3 qc qd qf jn (nar .byte ql) (nar .byte qo) (nar .byte qy) (nar .byte qz) (nar .byte qp) (nar .byte qm) G1 j1 qr qj (.unset) X hS hk (CHv.keep Kp (fun _ q => nomatch q) HC0) Z0 N hret hlk qg qb qa P5 hst One.u hn0 hn1 hn2
 refine g_ifN X at_186 ((if0 _ _).trans (feq y8).1) (pc' := 189) rfl ?_
 refine g_iload X at_189 (pc' := 191) rfl rfl ?_
 refine g_ifN X at_191 ((if0 _ _).trans (tlt (show (0 : Int32) < (3 : Int32) from (by decide))).2.2.2) (pc' := 194) rfl ?_
 rcases (hst : jn = (0 : Int32) ∨ jn = (1 : Int32) ∨ jn = (2 : Int32) ∨ jn = (3 : Int32)) with hs | hs | hs | hs
 subst hs
 show Go p e below _ (T.setTop (mkF m 194 _ []))
 refine g_iloadN X at_194 (pc' := 195) rfl rfl ?_
 refine g_bipush X (6 : Int32) at_195 (pc' := 197) rfl rfl ?_
 refine g_iushr X at_197 (pc' := 198) rfl ?_
 refine g_iconst X (3 : Int32) at_198 (pc' := 199) rfl rfl ?_
 refine g_iand X at_199 (pc' := 200) rfl ?_
 refine g_iload X at_200 (pc' := 202) rfl rfl ?_
 refine g_irem X at_202 (pc' := 203) rfl (by decide) ?_
 generalize us : ((((i2.toUInt32 >>> ((6 : Int32) &&& 31).toUInt32).toInt32) &&& (3 : Int32)) % (3 : Int32)) = j2
 refine g_istore X at_203 (pc' := 205) (Ls' := #[.val (.int i0), .val (.long j1), .second, .val (.int i2), .val (.int i3), .val (.int (3 : Int32)), .val (.int qc), .val (.int qd), .val (.int qf), .val (.ref qr), .val (.ref qj), .val (.int (0 : Int32)), .val (.int j2), .unset, .unset, .unset, .unset]) rfl rfl ?_
 rcases (mr3 us : j2 = (0 : Int32) ∨ j2 = (1 : Int32) ∨ j2 = (2 : Int32)) with hs | hs | hs
 subst hs
 show Go p e below _ (T.setTop (mkF m 205 _ []))
 refine g_aload X at_205 (pc' := 207) rfl rfl rfl ?_
 refine g_iload X at_207 (pc' := 209) rfl rfl ?_
 refine g_iload X at_209 (pc' := 211) rfl rfl ?_
 refine g_iadd X at_211 (pc' := 212) rfl ?_
 refine Go.lit32 (z := (0 : Int32)) (by decide) ?_
 refine g_aload X at_212 (pc' := 214) rfl rfl rfl ?_
 refine g_iload X at_214 (pc' := 216) rfl rfl ?_
 refine g_iload X at_216 (pc' := 218) rfl rfl ?_
 refine g_iadd X at_218 (pc' := 219) rfl ?_
 refine Go.lit32 (z := (0 : Int32)) (by decide) ?_
 refine g_baload X qb 0 at_219 (pc' := 220) rfl (by decide) (by decide) rfl ?_
 refine g_iload X at_220 (pc' := 222) rfl rfl ?_
 refine g_ixor X at_222 (pc' := 223) rfl ?_
 refine g_i2b X at_223 (pc' := 224) rfl ?_
 generalize qbh : (((nar .byte ql) ^^^ i3).toInt8.toInt32) = y9
 refine g_bastore X qb 0 at_224 (pc' := 225) rfl (by decide) (by decide) (Nat.le_of_ble_eq_true rfl) ?_
 intro T h X W qb
 replace qb : Av Z h qj .byte [(.int (nar .byte y9)), (.int (nar .byte qo)), (.int (nar .byte qy)), (.int (nar .byte qz)), (.int (nar .byte qp)), (.int (nar .byte qm))] := qb
 replace hk := Nat.le_trans hk (Nat.le_of_eq W.size.symm)
 replace qg := qg.other W qu
 replace qa := qa.wr W
 replace Z0 := Nat.le_trans Z0 (Nat.le_of_eq W.size.symm)
 replace N := Fr.snoc X.1 N qv
 replace Kp := Kp.wr W (Or.inr qw)
 exact tail3 l Z aa hw n0 i0 i2 i3 qc qd qf (0 : Int32) (nar .byte y9) (nar .byte qo) (nar .byte qy) (nar .byte qz) (nar .byte qp) (nar .byte qm) G1 j1 qr qj (.val (.int (0 : Int32))) X hS hk (CHv.keep Kp (fun _ q => nomatch q) HC0) Z0 N hret hlk qg qb qa P5 (Or.inl rfl) (One.val rfl) hn0 hn1 hn2
 subst hs
 show Go p e below _ (T.setTop (mkF m 205 _ []))
 refine g_aload X at_205 (pc' := 207) rfl rfl rfl ?_
 refine g_iload X at_207 (pc' := 209) rfl rfl ?_
 refine g_iload X at_209 (pc' := 211) rfl rfl ?_
 refine g_iadd X at_211 (pc' := 212) rfl ?_
 refine Go.lit32 (z := (1 : Int32)) (by decide) ?_
 refine g_aload X at_212 (pc' := 214) rfl rfl rfl ?_
 refine g_iload X at_214 (pc' := 216) rfl rfl ?_
 refine g_iload X at_216 (pc' := 218) rfl rfl ?_
 refine g_iadd X at_218 (pc' := 219) rfl ?_
 refine Go.lit32 (z := (1 : Int32)) (by decide) ?_
 refine g_baload X qb 1 at_219 (pc' := 220) rfl (by decide) (by decide) rfl ?_
 refine g_iload X at_220 (pc' := 222) rfl rfl ?_
 refine g_ixor X at_222 (pc' := 223) rfl ?_
 refine g_i2b X at_223 (pc' := 224) rfl ?_
 generalize qbi : (((nar .byte qo) ^^^ i3).toInt8.toInt32) = za
 refine g_bastore X qb 1 at_224 (pc' := 225) rfl (by decide) (by decide) (Nat.le_of_ble_eq_true rfl) ?_
 intro T h X W qb
 replace qb : Av Z h qj .byte [(.int (nar .byte ql)), (.int (nar .byte za)), (.int (nar .byte qy)), (.int (nar .byte qz)), (.int (nar .byte qp)), (.int (nar .byte qm))] := qb
 replace hk := Nat.le_trans hk (Nat.le_of_eq W.size.symm)
 replace qg := qg.other W qu
 replace qa := qa.wr W
 replace Z0 := Nat.le_trans Z0 (Nat.le_of_eq W.size.symm)
 replace N := Fr.snoc X.1 N qv
 replace Kp := Kp.wr W (Or.inr qw)
 exact tail3 l Z aa hw n0 i0 i2 i3 qc qd qf (0 : Int32) (nar .byte ql) (nar .byte za) (nar .byte qy) (nar .byte qz) (nar .byte qp) (nar .byte qm) G1 j1 qr qj (.val (.int (1 : Int32))) X hS hk (CHv.keep Kp (fun _ q => nomatch q) HC0) Z0 N hret hlk qg qb qa P5 (Or.inl rfl) (One.val rfl) hn0 hn1 hn2
 subst hs
 show Go p e below _ (T.setTop (mkF m 205 _ []))
 refine g_aload X at_205 (pc' := 207) rfl rfl rfl ?_
 refine g_iload X at_207 (pc' := 209) rfl rfl ?_
 refine g_iload X at_209 (pc' := 211) rfl rfl ?_
 refine g_iadd X at_211 (pc' := 212) rfl ?_
 refine Go.lit32 (z := (2 : Int32)) (by decide) ?_
 refine g_aload X at_212 (pc' := 214) rfl rfl rfl ?_
 refine g_iload X at_214 (pc' := 216) rfl rfl ?_
 refine g_iload X at_216 (pc' := 218) rfl rfl ?_
 refine g_iadd X at_218 (pc' := 219) rfl ?_
 refine Go.lit32 (z := (2 : Int32)) (by decide) ?_
 refine g_baload X qb 2 at_219 (pc' := 220) rfl (by decide) (by decide) rfl ?_
 refine g_iload X at_220 (pc' := 222) rfl rfl ?_
 refine g_ixor X at_222 (pc' := 223) rfl ?_
 refine g_i2b X at_223 (pc' := 224) rfl ?_
 generalize qbj : (((nar .byte qy) ^^^ i3).toInt8.toInt32) = zb
 refine g_bastore X qb 2 at_224 (pc' := 225) rfl (by decide) (by decide) (Nat.le_of_ble_eq_true rfl) ?_
 intro T h X W qb
 replace qb : Av Z h qj .byte [(.int (nar .byte ql)), (.int (nar .byte qo)), (.int (nar .byte zb)), (.int (nar .byte qz)), (.int (nar .byte qp)), (.int (nar .byte qm))] := qb
 replace hk := Nat.le_trans hk (Nat.le_of_eq W.size.symm)
 replace qg := qg.other W qu
 replace qa := qa.wr W
 replace Z0 := Nat.le_trans Z0 (Nat.le_of_eq W.size.symm)
 replace N := Fr.snoc X.1 N qv
 replace Kp := Kp.wr W (Or.inr qw)
 exact tail3 l Z aa hw n0 i0 i2 i3 qc qd qf (0 : Int32) (nar .byte ql) (nar .byte qo) (nar .byte zb) (nar .byte qz) (nar .byte qp) (nar .byte qm) G1 j1 qr qj (.val (.int (2 : Int32))) X hS hk (CHv.keep Kp (fun _ q => nomatch q) HC0) Z0 N hret hlk qg qb qa P5 (Or.inl rfl) (One.val rfl) hn0 hn1 hn2
 subst hs
 show Go p e below _ (T.setTop (mkF m 194 _ []))
 refine g_iloadN X at_194 (pc' := 195) rfl rfl ?_
 refine g_bipush X (6 : Int32) at_195 (pc' := 197) rfl rfl ?_
 refine g_iushr X at_197 (pc' := 198) rfl ?_
 refine g_iconst X (3 : Int32) at_198 (pc' := 199) rfl rfl ?_
 refine g_iand X at_199 (pc' := 200) rfl ?_
 refine g_iload X at_200 (pc' := 202) rfl rfl ?_
 refine g_irem X at_202 (pc' := 203) rfl (by decide) ?_
 generalize ut : ((((i2.toUInt32 >>> ((6 : Int32) &&& 31).toUInt32).toInt32) &&& (3 : Int32)) % (3 : Int32)) = j3
 refine g_istore X at_203 (pc' := 205) (Ls' := #[.val (.int i0), .val (.long j1), .second, .val (.int i2), .val (.int i3), .val (.int (3 : Int32)), .val (.int qc), .val (.int qd), .val (.int qf), .val (.ref qr), .val (.ref qj), .val (.int (1 : Int32)), .val (.int j3), .unset, .unset, .unset, .unset]) rfl rfl ?_
 rcases (mr3 ut : j3 = (0 : Int32) ∨ j3 = (1 : Int32) ∨ j3 = (2 : Int32)) with hs | hs | hs
 subst hs
 show Go p e below _ (T.setTop (mkF m 205 _ []))
 refine g_aload X at_205 (pc' := 207) rfl rfl rfl ?_
 refine g_iload X at_207 (pc' := 209) rfl rfl ?_
 refine g_iload X at_209 (pc' := 211) rfl rfl ?_
 refine g_iadd X at_211 (pc' := 212) rfl ?_
 refine Go.lit32 (z := (1 : Int32)) (by decide) ?_
 refine g_aload X at_212 (pc' := 214) rfl rfl rfl ?_
 refine g_iload X at_214 (pc' := 216) rfl rfl ?_
 refine g_iload X at_216 (pc' := 218) rfl rfl ?_
 refine g_iadd X at_218 (pc' := 219) rfl ?_
 refine Go.lit32 (z := (1 : Int32)) (by decide) ?_
 refine g_baload X qb 1 at_219 (pc' := 220) rfl (by decide) (by decide) rfl ?_
 refine g_iload X at_220 (pc' := 222) rfl rfl ?_
 refine g_ixor X at_222 (pc' := 223) rfl ?_
 refine g_i2b X at_223 (pc' := 224) rfl ?_
 generalize qbk : (((nar .byte qo) ^^^ i3).toInt8.toInt32) = zc
 refine g_bastore X qb 1 at_224 (pc' := 225) rfl (by decide) (by decide) (Nat.le_of_ble_eq_true rfl) ?_
 intro T h X W qb
 replace qb : Av Z h qj .byte [(.int (nar .byte ql)), (.int (nar .byte zc)), (.int (nar .byte qy)), (.int (nar .byte qz)), (.int (nar .byte qp)), (.int (nar .byte qm))] := qb
 replace hk := Nat.le_trans hk (Nat.le_of_eq W.size.symm)
 replace qg := qg.other W qu
 replace qa := qa.wr W
 replace Z0 := Nat.le_trans Z0 (Nat.le_of_eq W.size.symm)
 replace N := Fr.snoc X.1 N qv
 replace Kp := Kp.wr W (Or.inr qw)
 exact tail3 l Z aa hw n0 i0 i2 i3 qc qd qf (1 : Int32) (nar .byte ql) (nar .byte zc) (nar .byte qy) (nar .byte qz) (nar .byte qp) (nar .byte qm) G1 j1 qr qj (.val (.int (0 : Int32))) X hS hk (CHv.keep Kp (fun _ q => nomatch q) HC0) Z0 N hret hlk qg qb qa P5 (Or.inr (Or.inl rfl)) (One.val rfl) hn0 hn1 hn2
 subst hs
 show Go p e below _ (T.setTop (mkF m 205 _ []))
 refine g_aload X at_205 (pc' := 207) rfl rfl rfl ?_
 refine g_iload X at_207 (pc' := 209) rfl rfl ?_
 refine g_iload X at_209 (pc' := 211) rfl rfl ?_
 refine g_iadd X at_211 (pc' := 212) rfl ?_
 refine Go.lit32 (z := (2 : Int32)) (by decide) ?_
 refine g_aload X at_212 (pc' := 214) rfl rfl rfl ?_
 refine g_iload X at_214 (pc' := 216) rfl rfl ?_
 refine g_iload X at_216 (pc' := 218) rfl rfl ?_
 refine g_iadd X at_218 (pc' := 219) rfl ?_
 refine Go.lit32 (z := (2 : Int32)) (by decide) ?_
 refine g_baload X qb 2 at_219 (pc' := 220) rfl (by decide) (by decide) rfl ?_
 refine g_iload X at_220 (pc' := 222) rfl rfl ?_
 refine g_ixor X at_222 (pc' := 223) rfl ?_
 refine g_i2b X at_223 (pc' := 224) rfl ?_
 generalize qbl : (((nar .byte qy) ^^^ i3).toInt8.toInt32) = zd
 refine g_bastore X qb 2 at_224 (pc' := 225) rfl (by decide) (by decide) (Nat.le_of_ble_eq_true rfl) ?_
 intro T h X W qb
 replace qb : Av Z h qj .byte [(.int (nar .byte ql)), (.int (nar .byte qo)), (.int (nar .byte zd)), (.int (nar .byte qz)), (.int (nar .byte qp)), (.int (nar .byte qm))] := qb
 replace hk := Nat.le_trans hk (Nat.le_of_eq W.size.symm)
 replace qg := qg.other W qu
 replace qa := qa.wr W
 replace Z0 := Nat.le_trans Z0 (Nat.le_of_eq W.size.symm)
 replace N := Fr.snoc X.1 N qv
 replace Kp := Kp.wr W (Or.inr qw)
 exact tail3 l Z aa hw n0 i0 i2 i3 qc qd qf (1 : Int32) (nar .byte ql) (nar .byte qo) (nar .byte zd) (nar .byte qz) (nar .byte qp) (nar .byte qm) G1 j1 qr qj (.val (.int (1 : Int32))) X hS hk (CHv.keep Kp (fun _ q => nomatch q) HC0) Z0 N hret hlk qg qb qa P5 (Or.inr (Or.inl rfl)) (One.val rfl) hn0 hn1 hn2
 subst hs
 show Go p e below _ (T.setTop (mkF m 205 _ []))
 refine g_aload X at_205 (pc' := 207) rfl rfl rfl ?_
 refine g_iload X at_207 (pc' := 209) rfl rfl ?_
 refine g_iload X at_209 (pc' := 211) rfl rfl ?_
 refine g_iadd X at_211 (pc' := 212) rfl ?_
 refine Go.lit32 (z := (3 : Int32)) (by decide) ?_
 refine g_aload X at_212 (pc' := 214) rfl rfl rfl ?_
 refine g_iload X at_214 (pc' := 216) rfl rfl ?_
 refine g_iload X at_216 (pc' := 218) rfl rfl ?_
 refine g_iadd X at_218 (pc' := 219) rfl ?_
 refine Go.lit32 (z := (3 : Int32)) (by decide) ?_
 refine g_baload X qb 3 at_219 (pc' := 220) rfl (by decide) (by decide) rfl ?_
 refine g_iload X at_220 (pc' := 222) rfl rfl ?_
 refine g_ixor X at_222 (pc' := 223) rfl ?_
 refine g_i2b X at_223 (pc' := 224) rfl ?_
 generalize qbm : (((nar .byte qz) ^^^ i3).toInt8.toInt32) = ze
 refine g_bastore X qb 3 at_224 (pc' := 225) rfl (by decide) (by decide) (Nat.le_of_ble_eq_true rfl) ?_
 intro T h X W qb
 replace qb : Av Z h qj .byte [(.int (nar .byte ql)), (.int (nar .byte qo)), (.int (nar .byte qy)), (.int (nar .byte ze)), (.int (nar .byte qp)), (.int (nar .byte qm))] := qb
 replace hk := Nat.le_trans hk (Nat.le_of_eq W.size.symm)
 replace qg := qg.other W qu
 replace qa := qa.wr W
 replace Z0 := Nat.le_trans Z0 (Nat.le_of_eq W.size.symm)
 replace N := Fr.snoc X.1 N qv
 replace Kp := Kp.wr W (Or.inr qw)
 exact tail3 l Z aa hw n0 i0 i2 i3 qc qd qf (1 : Int32) (nar .byte ql) (nar .byte qo) (nar .byte qy) (nar .byte ze) (nar .byte qp) (nar .byte qm) G1 j1 qr qj (.val (.int (2 : Int32))) X hS hk (CHv.keep Kp (fun _ q => nomatch q) HC0) Z0 N hret hlk qg qb qa P5 (Or.inr (Or.inl rfl)) (One.val rfl) hn0 hn1 hn2
 subst hs
 show Go p e below _ (T.setTop (mkF m 194 _ []))
 refine g_iloadN X at_194 (pc' := 195) rfl rfl ?_
 refine g_bipush X (6 : Int32) at_195 (pc' := 197) rfl rfl ?_
 refine g_iushr X at_197 (pc' := 198) rfl ?_
 refine g_iconst X (3 : Int32) at_198 (pc' := 199) rfl rfl ?_
 refine g_iand X at_199 (pc' := 200) rfl ?_
 refine g_iload X at_200 (pc' := 202) rfl rfl ?_
 refine g_irem X at_202 (pc' := 203) rfl (by decide) ?_
 generalize uu : ((((i2.toUInt32 >>> ((6 : Int32) &&& 31).toUInt32).toInt32) &&& (3 : Int32)) % (3 : Int32)) = j4
 refine g_istore X at_203 (pc' := 205) (Ls' := #[.val (.int i0), .val (.long j1), .second, .val (.int i2), .val (.int i3), .val (.int (3 : Int32)), .val (.int qc), .val (.int qd), .val (.int qf), .val (.ref qr), .val (.ref qj), .val (.int (2 : Int32)), .val (.int j4), .unset, .unset, .unset, .unset]) rfl rfl ?_
 rcases (mr3 uu : j4 = (0 : Int32) ∨ j4 = (1 : Int32) ∨ j4 = (2 : Int32)) with hs | hs | hs
 subst hs
 show Go p e below _ (T.setTop (mkF m 205 _ []))
 refine g_aload X at_205 (pc' := 207) rfl rfl rfl ?_
 refine g_iload X at_207 (pc' := 209) rfl rfl ?_
 refine g_iload X at_209 (pc' := 211) rfl rfl ?_
 refine g_iadd X at_211 (pc' := 212) rfl ?_
 refine Go.lit32 (z := (2 : Int32)) (by decide) ?_
 refine g_aload X at_212 (pc' := 214) rfl rfl rfl ?_
 refine g_iload X at_214 (pc' := 216) rfl rfl ?_
 refine g_iload X at_216 (pc' := 218) rfl rfl ?_
 refine g_iadd X at_218 (pc' := 219) rfl ?_
 refine Go.lit32 (z := (2 : Int32)) (by decide) ?_
 refine g_baload X qb 2 at_219 (pc' := 220) rfl (by decide) (by decide) rfl ?_
 refine g_iload X at_220 (pc' := 222) rfl rfl ?_
 refine g_ixor X at_222 (pc' := 223) rfl ?_
 refine g_i2b X at_223 (pc' := 224) rfl ?_
 generalize qbn : (((nar .byte qy) ^^^ i3).toInt8.toInt32) = zf
 refine g_bastore X qb 2 at_224 (pc' := 225) rfl (by decide) (by decide) (Nat.le_of_ble_eq_true rfl) ?_
 intro T h X W qb
 replace qb : Av Z h qj .byte [(.int (nar .byte ql)), (.int (nar .byte qo)), (.int (nar .byte zf)), (.int (nar .byte qz)), (.int (nar .byte qp)), (.int (nar .byte qm))] := qb
 replace hk := Nat.le_trans hk (Nat.le_of_eq W.size.symm)
 replace qg := qg.other W qu
 replace qa := qa.wr W
 replace Z0 := Nat.le_trans Z0 (Nat.le_of_eq W.size.symm)
 replace N := Fr.snoc X.1 N qv
 replace Kp := Kp.wr W (Or.inr qw)
 exact tail3 l Z aa hw n0 i0 i2 i3 qc qd qf (2 : Int32) (nar .byte ql) (nar .byte qo) (nar .byte zf) (nar .byte qz) (nar .byte qp) (nar .byte qm) G1 j1 qr qj (.val (.int (0 : Int32))) X hS hk (CHv.keep Kp (fun _ q => nomatch q) HC0) Z0 N hret hlk qg qb qa P5 (Or.inr (Or.inr (Or.inl rfl))) (One.val rfl) hn0 hn1 hn2
 subst hs
 show Go p e below _ (T.setTop (mkF m 205 _ []))
 refine g_aload X at_205 (pc' := 207) rfl rfl rfl ?_
 refine g_iload X at_207 (pc' := 209) rfl rfl ?_
 refine g_iload X at_209 (pc' := 211) rfl rfl ?_
 refine g_iadd X at_211 (pc' := 212) rfl ?_
 refine Go.lit32 (z := (3 : Int32)) (by decide) ?_
 refine g_aload X at_212 (pc' := 214) rfl rfl rfl ?_
 refine g_iload X at_214 (pc' := 216) rfl rfl ?_
 refine g_iload X at_216 (pc' := 218) rfl rfl ?_
 refine g_iadd X at_218 (pc' := 219) rfl ?_
 refine Go.lit32 (z := (3 : Int32)) (by decide) ?_
 refine g_baload X qb 3 at_219 (pc' := 220) rfl (by decide) (by decide) rfl ?_
 refine g_iload X at_220 (pc' := 222) rfl rfl ?_
 refine g_ixor X at_222 (pc' := 223) rfl ?_
 refine g_i2b X at_223 (pc' := 224) rfl ?_
 generalize qbo : (((nar .byte qz) ^^^ i3).toInt8.toInt32) = zg
 refine g_bastore X qb 3 at_224 (pc' := 225) rfl (by decide) (by decide) (Nat.le_of_ble_eq_true rfl) ?_
 intro T h X W qb
 replace qb : Av Z h qj .byte [(.int (nar .byte ql)), (.int (nar .byte qo)), (.int (nar .byte qy)), (.int (nar .byte zg)), (.int (nar .byte qp)), (.int (nar .byte qm))] := qb
 replace hk := Nat.le_trans hk (Nat.le_of_eq W.size.symm)
 replace qg := qg.other W qu
 replace qa := qa.wr W
 replace Z0 := Nat.le_trans Z0 (Nat.le_of_eq W.size.symm)
 replace N := Fr.snoc X.1 N qv
 replace Kp := Kp.wr W (Or.inr qw)
 exact tail3 l Z aa hw n0 i0 i2 i3 qc qd qf (2 : Int32) (nar .byte ql) (nar .byte qo) (nar .byte qy) (nar .byte zg) (nar .byte qp) (nar .byte qm) G1 j1 qr qj (.val (.int (1 : Int32))) X hS hk (CHv.keep Kp (fun _ q => nomatch q) HC0) Z0 N hret hlk qg qb qa P5 (Or.inr (Or.inr (Or.inl rfl))) (One.val rfl) hn0 hn1 hn2
 subst hs
 show Go p e below _ (T.setTop (mkF m 205 _ []))
 refine g_aload X at_205 (pc' := 207) rfl rfl rfl ?_
 refine g_iload X at_207 (pc' := 209) rfl rfl ?_
 refine g_iload X at_209 (pc' := 211) rfl rfl ?_
 refine g_iadd X at_211 (pc' := 212) rfl ?_
 refine Go.lit32 (z := (4 : Int32)) (by decide) ?_
 refine g_aload X at_212 (pc' := 214) rfl rfl rfl ?_
 refine g_iload X at_214 (pc' := 216) rfl rfl ?_
 refine g_iload X at_216 (pc' := 218) rfl rfl ?_
 refine g_iadd X at_218 (pc' := 219) rfl ?_
 refine Go.lit32 (z := (4 : Int32)) (by decide) ?_
 refine g_baload X qb 4 at_219 (pc' := 220) rfl (by decide) (by decide) rfl ?_
 refine g_iload X at_220 (pc' := 222) rfl rfl ?_
 refine g_ixor X at_222 (pc' := 223) rfl ?_
 refine g_i2b X at_223 (pc' := 224) rfl ?_
 generalize qbp : (((nar .byte qp) ^^^ i3).toInt8.toInt32) = zh
 refine g_bastore X qb 4 at_224 (pc' := 225) rfl (by decide) (by decide) (Nat.le_of_ble_eq_true rfl) ?_
 intro T h X W qb
 replace qb : Av Z h qj .byte [(.int (nar .byte ql)), (.int (nar .byte qo)), (.int (nar .byte qy)), (.int (nar .byte qz)), (.int (nar .byte zh)), (.int (nar .byte qm))] := qb
 replace hk := Nat.le_trans hk (Nat.le_of_eq W.size.symm)
 replace qg := qg.other W qu
 replace qa := qa.wr W
 replace Z0 := Nat.le_trans Z0 (Nat.le_of_eq W.size.symm)
 replace N := Fr.snoc X.1 N qv
 replace Kp := Kp.wr W (Or.inr qw)
 exact tail3 l Z aa hw n0 i0 i2 i3 qc qd qf (2 : Int32) (nar .byte ql) (nar .byte qo) (nar .byte qy) (nar .byte qz) (nar .byte zh) (nar .byte qm) G1 j1 qr qj (.val (.int (2 : Int32))) X hS hk (CHv.keep Kp (fun _ q => nomatch q) HC0) Z0 N hret hlk qg qb qa P5 (Or.inr (Or.inr (Or.inl rfl))) (One.val rfl) hn0 hn1 hn2
 subst hs
 show Go p e below _ (T.setTop (mkF m 194 _ []))
 refine g_iloadN X at_194 (pc' := 195) rfl rfl ?_
 refine g_bipush X (6 : Int32) at_195 (pc' := 197) rfl rfl ?_
 refine g_iushr X at_197 (pc' := 198) rfl ?_
 refine g_iconst X (3 : Int32) at_198 (pc' := 199) rfl rfl ?_
 refine g_iand X at_199 (pc' := 200) rfl ?_
 refine g_iload X at_200 (pc' := 202) rfl rfl ?_
 refine g_irem X at_202 (pc' := 203) rfl (by decide) ?_
 generalize uv : ((((i2.toUInt32 >>> ((6 : Int32) &&& 31).toUInt32).toInt32) &&& (3 : Int32)) % (3 : Int32)) = j5
 refine g_istore X at_203 (pc' := 205) (Ls' := #[.val (.int i0), .val (.long j1), .second, .val (.int i2), .val (.int i3), .val (.int (3 : Int32)), .val (.int qc), .val (.int qd), .val (.int qf), .val (.ref qr), .val (.ref qj), .val (.int (3 : Int32)), .val (.int j5), .unset, .unset, .unset, .unset]) rfl rfl ?_
 rcases (mr3 uv : j5 = (0 : Int32) ∨ j5 = (1 : Int32) ∨ j5 = (2 : Int32)) with hs | hs | hs
 subst hs
 show Go p e below _ (T.setTop (mkF m 205 _ []))
 refine g_aload X at_205 (pc' := 207) rfl rfl rfl ?_
 refine g_iload X at_207 (pc' := 209) rfl rfl ?_
 refine g_iload X at_209 (pc' := 211) rfl rfl ?_
 refine g_iadd X at_211 (pc' := 212) rfl ?_
 refine Go.lit32 (z := (3 : Int32)) (by decide) ?_
 refine g_aload X at_212 (pc' := 214) rfl rfl rfl ?_
 refine g_iload X at_214 (pc' := 216) rfl rfl ?_
 refine g_iload X at_216 (pc' := 218) rfl rfl ?_
 refine g_iadd X at_218 (pc' := 219) rfl ?_
 refine Go.lit32 (z := (3 : Int32)) (by decide) ?_
 refine g_baload X qb 3 at_219 (pc' := 220) rfl (by decide) (by decide) rfl ?_
 refine g_iload X at_220 (pc' := 222) rfl rfl ?_
 refine g_ixor X at_222 (pc' := 223) rfl ?_
 refine g_i2b X at_223 (pc' := 224) rfl ?_
 generalize qbq : (((nar .byte qz) ^^^ i3).toInt8.toInt32) = zi
 refine g_bastore X qb 3 at_224 (pc' := 225) rfl (by decide) (by decide) (Nat.le_of_ble_eq_true rfl) ?_
 intro T h X W qb
 replace qb : Av Z h qj .byte [(.int (nar .byte ql)), (.int (nar .byte qo)), (.int (nar .byte qy)), (.int (nar .byte zi)), (.int (nar .byte qp)), (.int (nar .byte qm))] := qb
 replace hk := Nat.le_trans hk (Nat.le_of_eq W.size.symm)
 replace qg := qg.other W qu
 replace qa := qa.wr W
 replace Z0 := Nat.le_trans Z0 (Nat.le_of_eq W.size.symm)
 replace N := Fr.snoc X.1 N qv
 replace Kp := Kp.wr W (Or.inr qw)
 exact tail3 l Z aa hw n0 i0 i2 i3 qc qd qf (3 : Int32) (nar .byte ql) (nar .byte qo) (nar .byte qy) (nar .byte zi) (nar .byte qp) (nar .byte qm) G1 j1 qr qj (.val (.int (0 : Int32))) X hS hk (CHv.keep Kp (fun _ q => nomatch q) HC0) Z0 N hret hlk qg qb qa P5 (Or.inr (Or.inr (Or.inr (rfl)))) (One.val rfl) hn0 hn1 hn2
 subst hs
 show Go p e below _ (T.setTop (mkF m 205 _ []))
 refine g_aload X at_205 (pc' := 207) rfl rfl rfl ?_
 refine g_iload X at_207 (pc' := 209) rfl rfl ?_
 refine g_iload X at_209 (pc' := 211) rfl rfl ?_
 refine g_iadd X at_211 (pc' := 212) rfl ?_
 refine Go.lit32 (z := (4 : Int32)) (by decide) ?_
 refine g_aload X at_212 (pc' := 214) rfl rfl rfl ?_
 refine g_iload X at_214 (pc' := 216) rfl rfl ?_
 refine g_iload X at_216 (pc' := 218) rfl rfl ?_
 refine g_iadd X at_218 (pc' := 219) rfl ?_
 refine Go.lit32 (z := (4 : Int32)) (by decide) ?_
 refine g_baload X qb 4 at_219 (pc' := 220) rfl (by decide) (by decide) rfl ?_
 refine g_iload X at_220 (pc' := 222) rfl rfl ?_
 refine g_ixor X at_222 (pc' := 223) rfl ?_
 refine g_i2b X at_223 (pc' := 224) rfl ?_
 generalize qbr : (((nar .byte qp) ^^^ i3).toInt8.toInt32) = zj
 refine g_bastore X qb 4 at_224 (pc' := 225) rfl (by decide) (by decide) (Nat.le_of_ble_eq_true rfl) ?_
 intro T h X W qb
 replace qb : Av Z h qj .byte [(.int (nar .byte ql)), (.int (nar .byte qo)), (.int (nar .byte qy)), (.int (nar .byte qz)), (.int (nar .byte zj)), (.int (nar .byte qm))] := qb
 replace hk := Nat.le_trans hk (Nat.le_of_eq W.size.symm)
 replace qg := qg.other W qu
 replace qa := qa.wr W
 replace Z0 := Nat.le_trans Z0 (Nat.le_of_eq W.size.symm)
 replace N := Fr.snoc X.1 N qv
 replace Kp := Kp.wr W (Or.inr qw)
 exact tail3 l Z aa hw n0 i0 i2 i3 qc qd qf (3 : Int32) (nar .byte ql) (nar .byte qo) (nar .byte qy) (nar .byte qz) (nar .byte zj) (nar .byte qm) G1 j1 qr qj (.val (.int (1 : Int32))) X hS hk (CHv.keep Kp (fun _ q => nomatch q) HC0) Z0 N hret hlk qg qb qa P5 (Or.inr (Or.inr (Or.inr (rfl)))) (One.val rfl) hn0 hn1 hn2
 subst hs
 show Go p e below _ (T.setTop (mkF m 205 _ []))
 refine g_aload X at_205 (pc' := 207) rfl rfl rfl ?_
 refine g_iload X at_207 (pc' := 209) rfl rfl ?_
 refine g_iload X at_209 (pc' := 211) rfl rfl ?_
 refine g_iadd X at_211 (pc' := 212) rfl ?_
 refine Go.lit32 (z := (5 : Int32)) (by decide) ?_
 refine g_aload X at_212 (pc' := 214) rfl rfl rfl ?_
 refine g_iload X at_214 (pc' := 216) rfl rfl ?_
 refine g_iload X at_216 (pc' := 218) rfl rfl ?_
 refine g_iadd X at_218 (pc' := 219) rfl ?_
 refine Go.lit32 (z := (5 : Int32)) (by decide) ?_
 refine g_baload X qb 5 at_219 (pc' := 220) rfl (by decide) (by decide) rfl ?_
 refine g_iload X at_220 (pc' := 222) rfl rfl ?_
 refine g_ixor X at_222 (pc' := 223) rfl ?_
 refine g_i2b X at_223 (pc' := 224) rfl ?_
 generalize qbs : (((nar .byte qm) ^^^ i3).toInt8.toInt32) = zk
 refine g_bastore X qb 5 at_224 (pc' := 225) rfl (by decide) (by decide) (Nat.le_of_ble_eq_true rfl) ?_
 intro T h X W qb
 replace qb : Av Z h qj .byte [(.int (nar .byte ql)), (.int (nar .byte qo)), (.int (nar .byte qy)), (.int (nar .byte qz)), (.int (nar .byte qp)), (.int (nar .byte zk))] := qb
 replace hk := Nat.le_trans hk (Nat.le_of_eq W.size.symm)
 replace qg := qg.other W qu
 replace qa := qa.wr W
 replace Z0 := Nat.le_trans Z0 (Nat.le_of_eq W.size.symm)
 replace N := Fr.snoc X.1 N qv
 replace Kp := Kp.wr W (Or.inr qw)
 exact tail3 l Z aa hw n0 i0 i2 i3 qc qd qf (3 : Int32) (nar .byte ql) (nar .byte qo) (nar .byte qy) (nar .byte qz) (nar .byte qp) (nar .byte zk) G1 j1 qr qj (.val (.int (2 : Int32))) X hS hk (CHv.keep Kp (fun _ q => nomatch q) HC0) Z0 N hret hlk qg qb qa P5 (Or.inr (Or.inr (Or.inr (rfl)))) (One.val rfl) hn0 hn1 hn2
 refine g_ifN X at_137 ((if0 _ _).trans (feq y7).1) (pc' := 140) rfl ?_
 rcases (hst : jn = (0 : Int32) ∨ jn = (1 : Int32) ∨ jn = (2 : Int32) ∨ jn = (3 : Int32)) with hs | hs | hs | hs
 subst hs
 show Go p e below _ (T.setTop (mkF m 140 _ []))
 refine g_iload X at_140 (pc' := 142) rfl rfl ?_
 refine g_ifN X at_142 ((if0 _ _).trans (tlt (show (0 : Int32) < (3 : Int32) from (by decide))).2.2.2) (pc' := 145) rfl ?_
 refine g_aload X at_145 (pc' := 147) rfl rfl rfl ?_
 refine g_iload X at_147 (pc' := 149) rfl rfl ?_
 refine g_iload X at_149 (pc' := 151) rfl rfl ?_
 refine g_bastore X qb 0 at_151 (pc' := 152) rfl (by decide) (by decide) (Nat.le_of_ble_eq_true rfl) ?_
 intro T h X W qb
 replace qb : Av Z h qj .byte [(.int (nar .byte qc)), (.int (nar .byte qo)), (.int (nar .byte qy)), (.int (nar .byte qz)), (.int (nar .byte qp)), (.int (nar .byte qm))] := qb
 replace hk := Nat.le_trans hk (Nat.le_of_eq W.size.symm)
 replace qg := qg.other W qu
 replace qa := qa.wr W
 replace Z0 := Nat.le_trans Z0 (Nat.le_of_eq W.size.symm)
 replace N := Fr.snoc X.1 N qv
 replace Kp := Kp.wr W (Or.inr qw)
 refine g_iload X at_152 (pc' := 154) rfl rfl ?_
 refine g_iconst X (1 : Int32) at_154 (pc' := 155) rfl rfl ?_
 refine g_icN X at_155 (tlt (show (1 : Int32) < (3 : Int32) from (by decide))).2.2.2 (pc' := 158) rfl ?_
 refine g_aload X at_158 (pc' := 160) rfl rfl rfl ?_
 refine g_iload X at_160 (pc' := 162) rfl rfl ?_
 refine g_iconst X (1 : Int32) at_162 (pc' := 163) rfl rfl ?_
 refine g_iadd X at_163 (pc' := 164) rfl ?_
 refine Go.lit32 (z := (1 : Int32)) (by decide) ?_
 refine g_iload X at_164 (pc' := 166) rfl rfl ?_
 refine g_bastore X qb 1 at_166 (pc' := 167) rfl (by decide) (by decide) (Nat.le_of_ble_eq_true rfl) ?_
 intro T h X W qb
 replace qb : Av Z h qj .byte [(.int (nar .byte qc)), (.int (nar .byte qd)), (.int (nar .byte qy)), (.int (nar .byte qz)), (.int (nar .byte qp)), (.int (nar .byte qm))] := qb
 replace hk := Nat.le_trans hk (Nat.le_of_eq W.size.symm)
 replace qg := qg.other W qu
 replace qa := qa.wr W
 replace Z0 := Nat.le_trans Z0 (Nat.le_of_eq W.size.symm)
 replace N := Fr.snoc X.1 N qv
 replace Kp := Kp.wr W (Or.inr qw)
 refine g_iload X at_167 (pc' := 169) rfl rfl ?_
 refine g_iconst X (2 : Int32) at_169 (pc' := 170) rfl rfl ?_
 refine g_icN X at_170 (tlt (show (2 : Int32) < (3 : Int32) from (by decide))).2.2.2 (pc' := 173) rfl ?_
 refine g_aload X at_173 (pc' := 175) rfl rfl rfl ?_
 refine g_iload X at_175 (pc' := 177) rfl rfl ?_
 refine g_iconst X (2 : Int32) at_177 (pc' := 178) rfl rfl ?_
 refine g_iadd X at_178 (pc' := 179) rfl ?_
 refine Go.lit32 (z := (2 : Int32)) (by decide) ?_
 refine g_iload X at_179 (pc' := 181) rfl rfl ?_
 refine g_bastore X qb 2 at_181 (pc' := 182) rfl (by decide) (by decide) (Nat.le_of_ble_eq_true rfl) ?_
 intro T h X W qb
 replace qb : Av Z h qj .byte [(.int (nar .byte qc)), (.int (nar .byte qd)), (.int (nar .byte qf)), (.int (nar .byte qz)), (.int (nar .byte qp)), (.int (nar .byte qm))] := qb
 replace hk := Nat.le_trans hk (Nat.le_of_eq W.size.symm)
 replace qg := qg.other W qu
 replace qa := qa.wr W
 replace Z0 := Nat.le_trans Z0 (Nat.le_of_eq W.size.symm)
 replace N := Fr.snoc X.1 N qv
 replace Kp := Kp.wr W (Or.inr qw)
 refine g_iloadN X at_182 (pc' := 183) rfl rfl ?_
 refine g_bipush X (8 : Int32) at_183 (pc' := 185) rfl rfl ?_
 refine g_iand X at_185 (pc' := 186) rfl ?_
 by_cases zl : (i2 &&& (8 : Int32)) = (0 : Int32)
 refine g_ifY X at_186 ((if0 _ _).trans (teq zl).1) (pc' := 225) (by decide) (by decide) ?_
 exact tail3 l Z aa hw n0 i0 i2 i3 qc qd qf (0 : Int32) (nar .byte qc) (nar .byte qd) (nar .byte qf) (nar .byte qz) (nar .byte qp) (nar .byte qm) G1 j1 qr qj (.unset) X hS hk (CHv.keep Kp (fun _ q => nomatch q) HC0) Z0 N hret hlk qg qb qa P5 (Or.inl rfl) One.u hn0 hn1 hn2
 refine g_ifN X at_186 ((if0 _ _).trans (feq zl).1) (pc' := 189) rfl ?_
 refine g_iload X at_189 (pc' := 191) rfl rfl ?_
 refine g_ifN X at_191 ((if0 _ _).trans (tlt (show (0 : Int32) < (3 : Int32) from (by decide))).2.2.2) (pc' := 194) rfl ?_
 refine g_iloadN X at_194 (pc' := 195) rfl rfl ?_
 refine g_bipush X (6 : Int32) at_195 (pc' := 197) rfl rfl ?_
 refine g_iushr X at_197 (pc' := 198) rfl ?_
 refine g_iconst X (3 : Int32) at_198 (pc' := 199) rfl rfl ?_
 refine g_iand X at_199 (pc' := 200) rfl ?_
 refine g_iload X at_200 (pc' := 202) rfl rfl ?_
 refine g_irem X at_202 (pc' := 203) rfl (by decide) ?_
 generalize uw : ((((i2.toUInt32 >>> ((6 : Int32) &&& 31).toUInt32).toInt32) &&& (3 : Int32)) % (3 : Int32)) = j6
 refine g_istore X at_203 (pc' := 205) (Ls' := #[.val (.int i0), .val (.long j1), .second, .val (.int i2), .val (.int i3), .val (.int (3 : Int32)), .val (.int qc), .val (.int qd), .val (.int qf), .val (.ref qr), .val (.ref qj), .val (.int (0 : Int32)), .val (.int j6), .unset, .unset, .unset, .unset]) rfl rfl ?_
 rcases (mr3 uw : j6 = (0 : Int32) ∨ j6 = (1 : Int32) ∨ j6 = (2 : Int32)) with hs | hs | hs
 subst hs
 show Go p e below _ (T.setTop (mkF m 205 _ []))
 refine g_aload X at_205 (pc' := 207) rfl rfl rfl ?_
 refine g_iload X at_207 (pc' := 209) rfl rfl ?_
 refine g_iload X at_209 (pc' := 211) rfl rfl ?_
 refine g_iadd X at_211 (pc' := 212) rfl ?_
 refine Go.lit32 (z := (0 : Int32)) (by decide) ?_
 refine g_aload X at_212 (pc' := 214) rfl rfl rfl ?_
 refine g_iload X at_214 (pc' := 216) rfl rfl ?_
 refine g_iload X at_216 (pc' := 218) rfl rfl ?_
 refine g_iadd X at_218 (pc' := 219) rfl ?_
 refine Go.lit32 (z := (0 : Int32)) (by decide) ?_
 refine g_baload X qb 0 at_219 (pc' := 220) rfl (by decide) (by decide) rfl ?_
 refine g_iload X at_220 (pc' := 222) rfl rfl ?_
 refine g_ixor X at_222 (pc' := 223) rfl ?_
 refine g_i2b X at_223 (pc' := 224) rfl ?_
 generalize qbt : (((nar .byte qc) ^^^ i3).toInt8.toInt32) = zm
 refine g_bastore X qb 0 at_224 (pc' := 225) rfl (by decide) (by decide) (Nat.le_of_ble_eq_true rfl) ?_
 intro T h X W qb
 replace qb : Av Z h qj .byte [(.int (nar .byte zm)), (.int (nar .byte qd)), (.int (nar .byte qf)), (.int (nar .byte qz)), (.int (nar .byte qp)), (.int (nar .byte qm))] := qb
 replace hk := Nat.le_trans hk (Nat.le_of_eq W.size.symm)
 replace qg := qg.other W qu
 replace qa := qa.wr W
 replace Z0 := Nat.le_trans Z0 (Nat.le_of_eq W.size.symm)
 replace N := Fr.snoc X.1 N qv
 replace Kp := Kp.wr W (Or.inr qw)
 exact tail3 l Z aa hw n0 i0 i2 i3 qc qd qf (0 : Int32) (nar .byte zm) (nar .byte qd) (nar .byte qf) (nar .byte qz) (nar .byte qp) (nar .byte qm) G1 j1 qr qj (.val (.int (0 : Int32))) X hS hk (CHv.keep Kp (fun _ q => nomatch q) HC0) Z0 N hret hlk qg qb qa P5 (Or.inl rfl) (One.val rfl) hn0 hn1 hn2
 subst hs
 show Go p e below _ (T.setTop (mkF m 205 _ []))
 refine g_aload X at_205 (pc' := 207) rfl rfl rfl ?_
 refine g_iload X at_207 (pc' := 209) rfl rfl ?_
 refine g_iload X at_209 (pc' := 211) rfl rfl ?_
 refine g_iadd X at_211 (pc' := 212) rfl ?_
 refine Go.lit32 (z := (1 : Int32)) (by decide) ?_
 refine g_aload X at_212 (pc' := 214) rfl rfl rfl ?_
 refine g_iload X at_214 (pc' := 216) rfl rfl ?_
 refine g_iload X at_216 (pc' := 218) rfl rfl ?_
 refine g_iadd X at_218 (pc' := 219) rfl ?_
 refine Go.lit32 (z := (1 : Int32)) (by decide) ?_
 refine g_baload X qb 1 at_219 (pc' := 220) rfl (by decide) (by decide) rfl ?_
 refine g_iload X at_220 (pc' := 222) rfl rfl ?_
 refine g_ixor X at_222 (pc' := 223) rfl ?_
 refine g_i2b X at_223 (pc' := 224) rfl ?_
 generalize qbu : (((nar .byte qd) ^^^ i3).toInt8.toInt32) = zn
 refine g_bastore X qb 1 at_224 (pc' := 225) rfl (by decide) (by decide) (Nat.le_of_ble_eq_true rfl) ?_
 intro T h X W qb
 replace qb : Av Z h qj .byte [(.int (nar .byte qc)), (.int (nar .byte zn)), (.int (nar .byte qf)), (.int (nar .byte qz)), (.int (nar .byte qp)), (.int (nar .byte qm))] := qb
 replace hk := Nat.le_trans hk (Nat.le_of_eq W.size.symm)
 replace qg := qg.other W qu
 replace qa := qa.wr W
 replace Z0 := Nat.le_trans Z0 (Nat.le_of_eq W.size.symm)
 replace N := Fr.snoc X.1 N qv
 replace Kp := Kp.wr W (Or.inr qw)
 exact tail3 l Z aa hw n0 i0 i2 i3 qc qd qf (0 : Int32) (nar .byte qc) (nar .byte zn) (nar .byte qf) (nar .byte qz) (nar .byte qp) (nar .byte qm) G1 j1 qr qj (.val (.int (1 : Int32))) X hS hk (CHv.keep Kp (fun _ q => nomatch q) HC0) Z0 N hret hlk qg qb qa P5 (Or.inl rfl) (One.val rfl) hn0 hn1 hn2
 subst hs
 show Go p e below _ (T.setTop (mkF m 205 _ []))
 refine g_aload X at_205 (pc' := 207) rfl rfl rfl ?_
 refine g_iload X at_207 (pc' := 209) rfl rfl ?_
 refine g_iload X at_209 (pc' := 211) rfl rfl ?_
 refine g_iadd X at_211 (pc' := 212) rfl ?_
 refine Go.lit32 (z := (2 : Int32)) (by decide) ?_
 refine g_aload X at_212 (pc' := 214) rfl rfl rfl ?_
 refine g_iload X at_214 (pc' := 216) rfl rfl ?_
 refine g_iload X at_216 (pc' := 218) rfl rfl ?_
 refine g_iadd X at_218 (pc' := 219) rfl ?_
 refine Go.lit32 (z := (2 : Int32)) (by decide) ?_
 refine g_baload X qb 2 at_219 (pc' := 220) rfl (by decide) (by decide) rfl ?_
 refine g_iload X at_220 (pc' := 222) rfl rfl ?_
 refine g_ixor X at_222 (pc' := 223) rfl ?_
 refine g_i2b X at_223 (pc' := 224) rfl ?_
 generalize qbv : (((nar .byte qf) ^^^ i3).toInt8.toInt32) = zo
 refine g_bastore X qb 2 at_224 (pc' := 225) rfl (by decide) (by decide) (Nat.le_of_ble_eq_true rfl) ?_
 intro T h X W qb
 replace qb : Av Z h qj .byte [(.int (nar .byte qc)), (.int (nar .byte qd)), (.int (nar .byte zo)), (.int (nar .byte qz)), (.int (nar .byte qp)), (.int (nar .byte qm))] := qb
 replace hk := Nat.le_trans hk (Nat.le_of_eq W.size.symm)
 replace qg := qg.other W qu
 replace qa := qa.wr W
 replace Z0 := Nat.le_trans Z0 (Nat.le_of_eq W.size.symm)
 replace N := Fr.snoc X.1 N qv
 replace Kp := Kp.wr W (Or.inr qw)
 exact tail3 l Z aa hw n0 i0 i2 i3 qc qd qf (0 : Int32) (nar .byte qc) (nar .byte qd) (nar .byte zo) (nar .byte qz) (nar .byte qp) (nar .byte qm) G1 j1 qr qj (.val (.int (2 : Int32))) X hS hk (CHv.keep Kp (fun _ q => nomatch q) HC0) Z0 N hret hlk qg qb qa P5 (Or.inl rfl) (One.val rfl) hn0 hn1 hn2
 subst hs
 show Go p e below _ (T.setTop (mkF m 140 _ []))
 refine g_iload X at_140 (pc' := 142) rfl rfl ?_
 refine g_ifN X at_142 ((if0 _ _).trans (tlt (show (0 : Int32) < (3 : Int32) from (by decide))).2.2.2) (pc' := 145) rfl ?_
 refine g_aload X at_145 (pc' := 147) rfl rfl rfl ?_
 refine g_iload X at_147 (pc' := 149) rfl rfl ?_
 refine g_iload X at_149 (pc' := 151) rfl rfl ?_
 refine g_bastore X qb 1 at_151 (pc' := 152) rfl (by decide) (by decide) (Nat.le_of_ble_eq_true rfl) ?_
 intro T h X W qb
 replace qb : Av Z h qj .byte [(.int (nar .byte ql)), (.int (nar .byte qc)), (.int (nar .byte qy)), (.int (nar .byte qz)), (.int (nar .byte qp)), (.int (nar .byte qm))] := qb
 replace hk := Nat.le_trans hk (Nat.le_of_eq W.size.symm)
 replace qg := qg.other W qu
 replace qa := qa.wr W
 replace Z0 := Nat.le_trans Z0 (Nat.le_of_eq W.size.symm)
 replace N := Fr.snoc X.1 N qv
 replace Kp := Kp.wr W (Or.inr qw)
 refine g_iload X at_152 (pc' := 154) rfl rfl ?_
 refine g_iconst X (1 : Int32) at_154 (pc' := 155) rfl rfl ?_
 refine g_icN X at_155 (tlt (show (1 : Int32) < (3 : Int32) from (by decide))).2.2.2 (pc' := 158) rfl ?_
 refine g_aload X at_158 (pc' := 160) rfl rfl rfl ?_
 refine g_iload X at_160 (pc' := 162) rfl rfl ?_
 refine g_iconst X (1 : Int32) at_162 (pc' := 163) rfl rfl ?_
 refine g_iadd X at_163 (pc' := 164) rfl ?_
 refine Go.lit32 (z := (2 : Int32)) (by decide) ?_
 refine g_iload X at_164 (pc' := 166) rfl rfl ?_
 refine g_bastore X qb 2 at_166 (pc' := 167) rfl (by decide) (by decide) (Nat.le_of_ble_eq_true rfl) ?_
 intro T h X W qb
 replace qb : Av Z h qj .byte [(.int (nar .byte ql)), (.int (nar .byte qc)), (.int (nar .byte qd)), (.int (nar .byte qz)), (.int (nar .byte qp)), (.int (nar .byte qm))] := qb
 replace hk := Nat.le_trans hk (Nat.le_of_eq W.size.symm)
 replace qg := qg.other W qu
 replace qa := qa.wr W
 replace Z0 := Nat.le_trans Z0 (Nat.le_of_eq W.size.symm)
 replace N := Fr.snoc X.1 N qv
 replace Kp := Kp.wr W (Or.inr qw)
 refine g_iload X at_167 (pc' := 169) rfl rfl ?_
 refine g_iconst X (2 : Int32) at_169 (pc' := 170) rfl rfl ?_
 refine g_icN X at_170 (tlt (show (2 : Int32) < (3 : Int32) from (by decide))).2.2.2 (pc' := 173) rfl ?_
 refine g_aload X at_173 (pc' := 175) rfl rfl rfl ?_
 refine g_iload X at_175 (pc' := 177) rfl rfl ?_
 refine g_iconst X (2 : Int32) at_177 (pc' := 178) rfl rfl ?_
 refine g_iadd X at_178 (pc' := 179) rfl ?_
 refine Go.lit32 (z := (3 : Int32)) (by decide) ?_
 refine g_iload X at_179 (pc' := 181) rfl rfl ?_
 refine g_bastore X qb 3 at_181 (pc' := 182) rfl (by decide) (by decide) (Nat.le_of_ble_eq_true rfl) ?_
 intro T h X W qb
 replace qb : Av Z h qj .byte [(.int (nar .byte ql)), (.int (nar .byte qc)), (.int (nar .byte qd)), (.int (nar .byte qf)), (.int (nar .byte qp)), (.int (nar .byte qm))] := qb
 replace hk := Nat.le_trans hk (Nat.le_of_eq W.size.symm)
 replace qg := qg.other W qu
 replace qa := qa.wr W
 replace Z0 := Nat.le_trans Z0 (Nat.le_of_eq W.size.symm)
 replace N := Fr.snoc X.1 N qv
 replace Kp := Kp.wr W (Or.inr qw)
 refine g_iloadN X at_182 (pc' := 183) rfl rfl ?_
 refine g_bipush X (8 : Int32) at_183 (pc' := 185) rfl rfl ?_
 refine g_iand X at_185 (pc' := 186) rfl ?_
 by_cases zp : (i2 &&& (8 : Int32)) = (0 : Int32)
 refine g_ifY X at_186 ((if0 _ _).trans (teq zp).1) (pc' := 225) (by decide) (by decide) ?_
 exact tail3 l Z aa hw n0 i0 i2 i3 qc qd qf (1 : Int32) (nar .byte ql) (nar .byte qc) (nar .byte qd) (nar .byte qf) (nar .byte qp) (nar .byte qm) G1 j1 qr qj (.unset) X hS hk (CHv.keep Kp (fun _ q => nomatch q) HC0) Z0 N hret hlk qg qb qa P5 (Or.inr (Or.inl rfl)) One.u hn0 hn1 hn2
 refine g_ifN X at_186 ((if0 _ _).trans (feq zp).1) (pc' := 189) rfl ?_
 refine g_iload X at_189 (pc' := 191) rfl rfl ?_
 refine g_ifN X at_191 ((if0 _ _).trans (tlt (show (0 : Int32) < (3 : Int32) from (by decide))).2.2.2) (pc' := 194) rfl ?_
 refine g_iloadN X at_194 (pc' := 195) rfl rfl ?_
 refine g_bipush X (6 : Int32) at_195 (pc' := 197) rfl rfl ?_
 refine g_iushr X at_197 (pc' := 198) rfl ?_
 refine g_iconst X (3 : Int32) at_198 (pc' := 199) rfl rfl ?_
 refine g_iand X at_199 (pc' := 200) rfl ?_
 refine g_iload X at_200 (pc' := 202) rfl rfl ?_
 refine g_irem X at_202 (pc' := 203) rfl (by decide) ?_
 generalize ux : ((((i2.toUInt32 >>> ((6 : Int32) &&& 31).toUInt32).toInt32) &&& (3 : Int32)) % (3 : Int32)) = j7
 refine g_istore X at_203 (pc' := 205) (Ls' := #[.val (.int i0), .val (.long j1), .second, .val (.int i2), .val (.int i3), .val (.int (3 : Int32)), .val (.int qc), .val (.int qd), .val (.int qf), .val (.ref qr), .val (.ref qj), .val (.int (1 : Int32)), .val (.int j7), .unset, .unset, .unset, .unset]) rfl rfl ?_
 rcases (mr3 ux : j7 = (0 : Int32) ∨ j7 = (1 : Int32) ∨ j7 = (2 : Int32)) with hs | hs | hs
 subst hs
 show Go p e below _ (T.setTop (mkF m 205 _ []))
 refine g_aload X at_205 (pc' := 207) rfl rfl rfl ?_
 refine g_iload X at_207 (pc' := 209) rfl rfl ?_
 refine g_iload X at_209 (pc' := 211) rfl rfl ?_
 refine g_iadd X at_211 (pc' := 212) rfl ?_
 refine Go.lit32 (z := (1 : Int32)) (by decide) ?_
 refine g_aload X at_212 (pc' := 214) rfl rfl rfl ?_
 refine g_iload X at_214 (pc' := 216) rfl rfl ?_
 refine g_iload X at_216 (pc' := 218) rfl rfl ?_
 refine g_iadd X at_218 (pc' := 219) rfl ?_
 refine Go.lit32 (z := (1 : Int32)) (by decide) ?_
 refine g_baload X qb 1 at_219 (pc' := 220) rfl (by decide) (by decide) rfl ?_
 refine g_iload X at_220 (pc' := 222) rfl rfl ?_
 refine g_ixor X at_222 (pc' := 223) rfl ?_
 refine g_i2b X at_223 (pc' := 224) rfl ?_
 generalize qbw : (((nar .byte qc) ^^^ i3).toInt8.toInt32) = zq
 refine g_bastore X qb 1 at_224 (pc' := 225) rfl (by decide) (by decide) (Nat.le_of_ble_eq_true rfl) ?_
 intro T h X W qb
 replace qb : Av Z h qj .byte [(.int (nar .byte ql)), (.int (nar .byte zq)), (.int (nar .byte qd)), (.int (nar .byte qf)), (.int (nar .byte qp)), (.int (nar .byte qm))] := qb
 replace hk := Nat.le_trans hk (Nat.le_of_eq W.size.symm)
 replace qg := qg.other W qu
 replace qa := qa.wr W
 replace Z0 := Nat.le_trans Z0 (Nat.le_of_eq W.size.symm)
 replace N := Fr.snoc X.1 N qv
 replace Kp := Kp.wr W (Or.inr qw)
 exact tail3 l Z aa hw n0 i0 i2 i3 qc qd qf (1 : Int32) (nar .byte ql) (nar .byte zq) (nar .byte qd) (nar .byte qf) (nar .byte qp) (nar .byte qm) G1 j1 qr qj (.val (.int (0 : Int32))) X hS hk (CHv.keep Kp (fun _ q => nomatch q) HC0) Z0 N hret hlk qg qb qa P5 (Or.inr (Or.inl rfl)) (One.val rfl) hn0 hn1 hn2
 subst hs
 show Go p e below _ (T.setTop (mkF m 205 _ []))
 refine g_aload X at_205 (pc' := 207) rfl rfl rfl ?_
 refine g_iload X at_207 (pc' := 209) rfl rfl ?_
 refine g_iload X at_209 (pc' := 211) rfl rfl ?_
 refine g_iadd X at_211 (pc' := 212) rfl ?_
 refine Go.lit32 (z := (2 : Int32)) (by decide) ?_
 refine g_aload X at_212 (pc' := 214) rfl rfl rfl ?_
 refine g_iload X at_214 (pc' := 216) rfl rfl ?_
 refine g_iload X at_216 (pc' := 218) rfl rfl ?_
 refine g_iadd X at_218 (pc' := 219) rfl ?_
 refine Go.lit32 (z := (2 : Int32)) (by decide) ?_
 refine g_baload X qb 2 at_219 (pc' := 220) rfl (by decide) (by decide) rfl ?_
 refine g_iload X at_220 (pc' := 222) rfl rfl ?_
 refine g_ixor X at_222 (pc' := 223) rfl ?_
 refine g_i2b X at_223 (pc' := 224) rfl ?_
 generalize qbx : (((nar .byte qd) ^^^ i3).toInt8.toInt32) = zr
 refine g_bastore X qb 2 at_224 (pc' := 225) rfl (by decide) (by decide) (Nat.le_of_ble_eq_true rfl) ?_
 intro T h X W qb
 replace qb : Av Z h qj .byte [(.int (nar .byte ql)), (.int (nar .byte qc)), (.int (nar .byte zr)), (.int (nar .byte qf)), (.int (nar .byte qp)), (.int (nar .byte qm))] := qb
 replace hk := Nat.le_trans hk (Nat.le_of_eq W.size.symm)
 replace qg := qg.other W qu
 replace qa := qa.wr W
 replace Z0 := Nat.le_trans Z0 (Nat.le_of_eq W.size.symm)
 replace N := Fr.snoc X.1 N qv
 replace Kp := Kp.wr W (Or.inr qw)
 exact tail3 l Z aa hw n0 i0 i2 i3 qc qd qf (1 : Int32) (nar .byte ql) (nar .byte qc) (nar .byte zr) (nar .byte qf) (nar .byte qp) (nar .byte qm) G1 j1 qr qj (.val (.int (1 : Int32))) X hS hk (CHv.keep Kp (fun _ q => nomatch q) HC0) Z0 N hret hlk qg qb qa P5 (Or.inr (Or.inl rfl)) (One.val rfl) hn0 hn1 hn2
 subst hs
 show Go p e below _ (T.setTop (mkF m 205 _ []))
 refine g_aload X at_205 (pc' := 207) rfl rfl rfl ?_
 refine g_iload X at_207 (pc' := 209) rfl rfl ?_
 refine g_iload X at_209 (pc' := 211) rfl rfl ?_
 refine g_iadd X at_211 (pc' := 212) rfl ?_
 refine Go.lit32 (z := (3 : Int32)) (by decide) ?_
 refine g_aload X at_212 (pc' := 214) rfl rfl rfl ?_
 refine g_iload X at_214 (pc' := 216) rfl rfl ?_
 refine g_iload X at_216 (pc' := 218) rfl rfl ?_
 refine g_iadd X at_218 (pc' := 219) rfl ?_
 refine Go.lit32 (z := (3 : Int32)) (by decide) ?_
 refine g_baload X qb 3 at_219 (pc' := 220) rfl (by decide) (by decide) rfl ?_
 refine g_iload X at_220 (pc' := 222) rfl rfl ?_
 refine g_ixor X at_222 (pc' := 223) rfl ?_
 refine g_i2b X at_223 (pc' := 224) rfl ?_
 generalize qby : (((nar .byte qf) ^^^ i3).toInt8.toInt32) = zs
 refine g_bastore X qb 3 at_224 (pc' := 225) rfl (by decide) (by decide) (Nat.le_of_ble_eq_true rfl) ?_
 intro T h X W qb
 replace qb : Av Z h qj .byte [(.int (nar .byte ql)), (.int (nar .byte qc)), (.int (nar .byte qd)), (.int (nar .byte zs)), (.int (nar .byte qp)), (.int (nar .byte qm))] := qb
 replace hk := Nat.le_trans hk (Nat.le_of_eq W.size.symm)
 replace qg := qg.other W qu
 replace qa := qa.wr W
 replace Z0 := Nat.le_trans Z0 (Nat.le_of_eq W.size.symm)
 replace N := Fr.snoc X.1 N qv
 replace Kp := Kp.wr W (Or.inr qw)
 exact tail3 l Z aa hw n0 i0 i2 i3 qc qd qf (1 : Int32) (nar .byte ql) (nar .byte qc) (nar .byte qd) (nar .byte zs) (nar .byte qp) (nar .byte qm) G1 j1 qr qj (.val (.int (2 : Int32))) X hS hk (CHv.keep Kp (fun _ q => nomatch q) HC0) Z0 N hret hlk qg qb qa P5 (Or.inr (Or.inl rfl)) (One.val rfl) hn0 hn1 hn2
 subst hs
 show Go p e below _ (T.setTop (mkF m 140 _ []))
 refine g_iload X at_140 (pc' := 142) rfl rfl ?_
 refine g_ifN X at_142 ((if0 _ _).trans (tlt (show (0 : Int32) < (3 : Int32) from (by decide))).2.2.2) (pc' := 145) rfl ?_
 refine g_aload X at_145 (pc' := 147) rfl rfl rfl ?_
 refine g_iload X at_147 (pc' := 149) rfl rfl ?_
 refine g_iload X at_149 (pc' := 151) rfl rfl ?_
 refine g_bastore X qb 2 at_151 (pc' := 152) rfl (by decide) (by decide) (Nat.le_of_ble_eq_true rfl) ?_
 intro T h X W qb
 replace qb : Av Z h qj .byte [(.int (nar .byte ql)), (.int (nar .byte qo)), (.int (nar .byte qc)), (.int (nar .byte qz)), (.int (nar .byte qp)), (.int (nar .byte qm))] := qb
 replace hk := Nat.le_trans hk (Nat.le_of_eq W.size.symm)
 replace qg := qg.other W qu
 replace qa := qa.wr W
 replace Z0 := Nat.le_trans Z0 (Nat.le_of_eq W.size.symm)
 replace N := Fr.snoc X.1 N qv
 replace Kp := Kp.wr W (Or.inr qw)
 refine g_iload X at_152 (pc' := 154) rfl rfl ?_
 refine g_iconst X (1 : Int32) at_154 (pc' := 155) rfl rfl ?_
 refine g_icN X at_155 (tlt (show (1 : Int32) < (3 : Int32) from (by decide))).2.2.2 (pc' := 158) rfl ?_
 refine g_aload X at_158 (pc' := 160) rfl rfl rfl ?_
 refine g_iload X at_160 (pc' := 162) rfl rfl ?_
 refine g_iconst X (1 : Int32) at_162 (pc' := 163) rfl rfl ?_
 refine g_iadd X at_163 (pc' := 164) rfl ?_
 refine Go.lit32 (z := (3 : Int32)) (by decide) ?_
 refine g_iload X at_164 (pc' := 166) rfl rfl ?_
 refine g_bastore X qb 3 at_166 (pc' := 167) rfl (by decide) (by decide) (Nat.le_of_ble_eq_true rfl) ?_
 intro T h X W qb
 replace qb : Av Z h qj .byte [(.int (nar .byte ql)), (.int (nar .byte qo)), (.int (nar .byte qc)), (.int (nar .byte qd)), (.int (nar .byte qp)), (.int (nar .byte qm))] := qb
 replace hk := Nat.le_trans hk (Nat.le_of_eq W.size.symm)
 replace qg := qg.other W qu
 replace qa := qa.wr W
 replace Z0 := Nat.le_trans Z0 (Nat.le_of_eq W.size.symm)
 replace N := Fr.snoc X.1 N qv
 replace Kp := Kp.wr W (Or.inr qw)
 refine g_iload X at_167 (pc' := 169) rfl rfl ?_
 refine g_iconst X (2 : Int32) at_169 (pc' := 170) rfl rfl ?_
 refine g_icN X at_170 (tlt (show (2 : Int32) < (3 : Int32) from (by decide))).2.2.2 (pc' := 173) rfl ?_
 refine g_aload X at_173 (pc' := 175) rfl rfl rfl ?_
 refine g_iload X at_175 (pc' := 177) rfl rfl ?_
 refine g_iconst X (2 : Int32) at_177 (pc' := 178) rfl rfl ?_
 refine g_iadd X at_178 (pc' := 179) rfl ?_
 refine Go.lit32 (z := (4 : Int32)) (by decide) ?_
 refine g_iload X at_179 (pc' := 181) rfl rfl ?_
 refine g_bastore X qb 4 at_181 (pc' := 182) rfl (by decide) (by decide) (Nat.le_of_ble_eq_true rfl) ?_
 intro T h X W qb
 replace qb : Av Z h qj .byte [(.int (nar .byte ql)), (.int (nar .byte qo)), (.int (nar .byte qc)), (.int (nar .byte qd)), (.int (nar .byte qf)), (.int (nar .byte qm))] := qb
 replace hk := Nat.le_trans hk (Nat.le_of_eq W.size.symm)
 replace qg := qg.other W qu
 replace qa := qa.wr W
 replace Z0 := Nat.le_trans Z0 (Nat.le_of_eq W.size.symm)
 replace N := Fr.snoc X.1 N qv
 replace Kp := Kp.wr W (Or.inr qw)
 refine g_iloadN X at_182 (pc' := 183) rfl rfl ?_
 refine g_bipush X (8 : Int32) at_183 (pc' := 185) rfl rfl ?_
 refine g_iand X at_185 (pc' := 186) rfl ?_
 by_cases zt : (i2 &&& (8 : Int32)) = (0 : Int32)
 refine g_ifY X at_186 ((if0 _ _).trans (teq zt).1) (pc' := 225) (by decide) (by decide) ?_
 exact tail3 l Z aa hw n0 i0 i2 i3 qc qd qf (2 : Int32) (nar .byte ql) (nar .byte qo) (nar .byte qc) (nar .byte qd) (nar .byte qf) (nar .byte qm) G1 j1 qr qj (.unset) X hS hk (CHv.keep Kp (fun _ q => nomatch q) HC0) Z0 N hret hlk qg qb qa P5 (Or.inr (Or.inr (Or.inl rfl))) One.u hn0 hn1 hn2
 refine g_ifN X at_186 ((if0 _ _).trans (feq zt).1) (pc' := 189) rfl ?_
 refine g_iload X at_189 (pc' := 191) rfl rfl ?_
 refine g_ifN X at_191 ((if0 _ _).trans (tlt (show (0 : Int32) < (3 : Int32) from (by decide))).2.2.2) (pc' := 194) rfl ?_
 refine g_iloadN X at_194 (pc' := 195) rfl rfl ?_
 refine g_bipush X (6 : Int32) at_195 (pc' := 197) rfl rfl ?_
 refine g_iushr X at_197 (pc' := 198) rfl ?_
 refine g_iconst X (3 : Int32) at_198 (pc' := 199) rfl rfl ?_
 refine g_iand X at_199 (pc' := 200) rfl ?_
 refine g_iload X at_200 (pc' := 202) rfl rfl ?_
 refine g_irem X at_202 (pc' := 203) rfl (by decide) ?_
 generalize uy : ((((i2.toUInt32 >>> ((6 : Int32) &&& 31).toUInt32).toInt32) &&& (3 : Int32)) % (3 : Int32)) = j8
 refine g_istore X at_203 (pc' := 205) (Ls' := #[.val (.int i0), .val (.long j1), .second, .val (.int i2), .val (.int i3), .val (.int (3 : Int32)), .val (.int qc), .val (.int qd), .val (.int qf), .val (.ref qr), .val (.ref qj), .val (.int (2 : Int32)), .val (.int j8), .unset, .unset, .unset, .unset]) rfl rfl ?_
 rcases (mr3 uy : j8 = (0 : Int32) ∨ j8 = (1 : Int32) ∨ j8 = (2 : Int32)) with hs | hs | hs
 subst hs
 show Go p e below _ (T.setTop (mkF m 205 _ []))
 refine g_aload X at_205 (pc' := 207) rfl rfl rfl ?_
 refine g_iload X at_207 (pc' := 209) rfl rfl ?_
 refine g_iload X at_209 (pc' := 211) rfl rfl ?_
 refine g_iadd X at_211 (pc' := 212) rfl ?_
 refine Go.lit32 (z := (2 : Int32)) (by decide) ?_
 refine g_aload X at_212 (pc' := 214) rfl rfl rfl ?_
 refine g_iload X at_214 (pc' := 216) rfl rfl ?_
 refine g_iload X at_216 (pc' := 218) rfl rfl ?_
 refine g_iadd X at_218 (pc' := 219) rfl ?_
 refine Go.lit32 (z := (2 : Int32)) (by decide) ?_
 refine g_baload X qb 2 at_219 (pc' := 220) rfl (by decide) (by decide) rfl ?_
 refine g_iload X at_220 (pc' := 222) rfl rfl ?_
 refine g_ixor X at_222 (pc' := 223) rfl ?_
 refine g_i2b X at_223 (pc' := 224) rfl ?_
 generalize qbz : (((nar .byte qc) ^^^ i3).toInt8.toInt32) = zu
 refine g_bastore X qb 2 at_224 (pc' := 225) rfl (by decide) (by decide) (Nat.le_of_ble_eq_true rfl) ?_
 intro T h X W qb
 replace qb : Av Z h qj .byte [(.int (nar .byte ql)), (.int (nar .byte qo)), (.int (nar .byte zu)), (.int (nar .byte qd)), (.int (nar .byte qf)), (.int (nar .byte qm))] := qb
 replace hk := Nat.le_trans hk (Nat.le_of_eq W.size.symm)
 replace qg := qg.other W qu
 replace qa := qa.wr W
 replace Z0 := Nat.le_trans Z0 (Nat.le_of_eq W.size.symm)
 replace N := Fr.snoc X.1 N qv
 replace Kp := Kp.wr W (Or.inr qw)
 exact tail3 l Z aa hw n0 i0 i2 i3 qc qd qf (2 : Int32) (nar .byte ql) (nar .byte qo) (nar .byte zu) (nar .byte qd) (nar .byte qf) (nar .byte qm) G1 j1 qr qj (.val (.int (0 : Int32))) X hS hk (CHv.keep Kp (fun _ q => nomatch q) HC0) Z0 N hret hlk qg qb qa P5 (Or.inr (Or.inr (Or.inl rfl))) (One.val rfl) hn0 hn1 hn2
 subst hs
 show Go p e below _ (T.setTop (mkF m 205 _ []))
 refine g_aload X at_205 (pc' := 207) rfl rfl rfl ?_
 refine g_iload X at_207 (pc' := 209) rfl rfl ?_
 refine g_iload X at_209 (pc' := 211) rfl rfl ?_
 refine g_iadd X at_211 (pc' := 212) rfl ?_
 refine Go.lit32 (z := (3 : Int32)) (by decide) ?_
 refine g_aload X at_212 (pc' := 214) rfl rfl rfl ?_
 refine g_iload X at_214 (pc' := 216) rfl rfl ?_
 refine g_iload X at_216 (pc' := 218) rfl rfl ?_
 refine g_iadd X at_218 (pc' := 219) rfl ?_
 refine Go.lit32 (z := (3 : Int32)) (by decide) ?_
 refine g_baload X qb 3 at_219 (pc' := 220) rfl (by decide) (by decide) rfl ?_
 refine g_iload X at_220 (pc' := 222) rfl rfl ?_
 refine g_ixor X at_222 (pc' := 223) rfl ?_
 refine g_i2b X at_223 (pc' := 224) rfl ?_
 generalize qb0 : (((nar .byte qd) ^^^ i3).toInt8.toInt32) = zv
 refine g_bastore X qb 3 at_224 (pc' := 225) rfl (by decide) (by decide) (Nat.le_of_ble_eq_true rfl) ?_
 intro T h X W qb
 replace qb : Av Z h qj .byte [(.int (nar .byte ql)), (.int (nar .byte qo)), (.int (nar .byte qc)), (.int (nar .byte zv)), (.int (nar .byte qf)), (.int (nar .byte qm))] := qb
 replace hk := Nat.le_trans hk (Nat.le_of_eq W.size.symm)
 replace qg := qg.other W qu
 replace qa := qa.wr W
 replace Z0 := Nat.le_trans Z0 (Nat.le_of_eq W.size.symm)
 replace N := Fr.snoc X.1 N qv
 replace Kp := Kp.wr W (Or.inr qw)
 exact tail3 l Z aa hw n0 i0 i2 i3 qc qd qf (2 : Int32) (nar .byte ql) (nar .byte qo) (nar .byte qc) (nar .byte zv) (nar .byte qf) (nar .byte qm) G1 j1 qr qj (.val (.int (1 : Int32))) X hS hk (CHv.keep Kp (fun _ q => nomatch q) HC0) Z0 N hret hlk qg qb qa P5 (Or.inr (Or.inr (Or.inl rfl))) (One.val rfl) hn0 hn1 hn2
 subst hs
 show Go p e below _ (T.setTop (mkF m 205 _ []))
 refine g_aload X at_205 (pc' := 207) rfl rfl rfl ?_
 refine g_iload X at_207 (pc' := 209) rfl rfl ?_
 refine g_iload X at_209 (pc' := 211) rfl rfl ?_
 refine g_iadd X at_211 (pc' := 212) rfl ?_
 refine Go.lit32 (z := (4 : Int32)) (by decide) ?_
 refine g_aload X at_212 (pc' := 214) rfl rfl rfl ?_
 refine g_iload X at_214 (pc' := 216) rfl rfl ?_
 refine g_iload X at_216 (pc' := 218) rfl rfl ?_
 refine g_iadd X at_218 (pc' := 219) rfl ?_
 refine Go.lit32 (z := (4 : Int32)) (by decide) ?_
 refine g_baload X qb 4 at_219 (pc' := 220) rfl (by decide) (by decide) rfl ?_
 refine g_iload X at_220 (pc' := 222) rfl rfl ?_
 refine g_ixor X at_222 (pc' := 223) rfl ?_
 refine g_i2b X at_223 (pc' := 224) rfl ?_
 generalize qb1 : (((nar .byte qf) ^^^ i3).toInt8.toInt32) = zw
 refine g_bastore X qb 4 at_224 (pc' := 225) rfl (by decide) (by decide) (Nat.le_of_ble_eq_true rfl) ?_
 intro T h X W qb
 replace qb : Av Z h qj .byte [(.int (nar .byte ql)), (.int (nar .byte qo)), (.int (nar .byte qc)), (.int (nar .byte qd)), (.int (nar .byte zw)), (.int (nar .byte qm))] := qb
 replace hk := Nat.le_trans hk (Nat.le_of_eq W.size.symm)
 replace qg := qg.other W qu
 replace qa := qa.wr W
 replace Z0 := Nat.le_trans Z0 (Nat.le_of_eq W.size.symm)
 replace N := Fr.snoc X.1 N qv
 replace Kp := Kp.wr W (Or.inr qw)
 exact tail3 l Z aa hw n0 i0 i2 i3 qc qd qf (2 : Int32) (nar .byte ql) (nar .byte qo) (nar .byte qc) (nar .byte qd) (nar .byte zw) (nar .byte qm) G1 j1 qr qj (.val (.int (2 : Int32))) X hS hk (CHv.keep Kp (fun _ q => nomatch q) HC0) Z0 N hret hlk qg qb qa P5 (Or.inr (Or.inr (Or.inl rfl))) (One.val rfl) hn0 hn1 hn2
 subst hs
 show Go p e below _ (T.setTop (mkF m 140 _ []))
 refine g_iload X at_140 (pc' := 142) rfl rfl ?_
 refine g_ifN X at_142 ((if0 _ _).trans (tlt (show (0 : Int32) < (3 : Int32) from (by decide))).2.2.2) (pc' := 145) rfl ?_
 refine g_aload X at_145 (pc' := 147) rfl rfl rfl ?_
 refine g_iload X at_147 (pc' := 149) rfl rfl ?_
 refine g_iload X at_149 (pc' := 151) rfl rfl ?_
 refine g_bastore X qb 3 at_151 (pc' := 152) rfl (by decide) (by decide) (Nat.le_of_ble_eq_true rfl) ?_
 intro T h X W qb
 replace qb : Av Z h qj .byte [(.int (nar .byte ql)), (.int (nar .byte qo)), (.int (nar .byte qy)), (.int (nar .byte qc)), (.int (nar .byte qp)), (.int (nar .byte qm))] := qb
 replace hk := Nat.le_trans hk (Nat.le_of_eq W.size.symm)
 replace qg := qg.other W qu
 replace qa := qa.wr W
 replace Z0 := Nat.le_trans Z0 (Nat.le_of_eq W.size.symm)
 replace N := Fr.snoc X.1 N qv
 replace Kp := Kp.wr W (Or.inr qw)
 refine g_iload X at_152 (pc' := 154) rfl rfl ?_
 refine g_iconst X (1 : Int32) at_154 (pc' := 155) rfl rfl ?_
 refine g_icN X at_155 (tlt (show (1 : Int32) < (3 : Int32) from (by decide))).2.2.2 (pc' := 158) rfl ?_
 refine g_aload X at_158 (pc' := 160) rfl rfl rfl ?_
 refine g_iload X at_160 (pc' := 162) rfl rfl ?_
 refine g_iconst X (1 : Int32) at_162 (pc' := 163) rfl rfl ?_
 refine g_iadd X at_163 (pc' := 164) rfl ?_
 refine Go.lit32 (z := (4 : Int32)) (by decide) ?_
 refine g_iload X at_164 (pc' := 166) rfl rfl ?_
 refine g_bastore X qb 4 at_166 (pc' := 167) rfl (by decide) (by decide) (Nat.le_of_ble_eq_true rfl) ?_
 intro T h X W qb
 replace qb : Av Z h qj .byte [(.int (nar .byte ql)), (.int (nar .byte qo)), (.int (nar .byte qy)), (.int (nar .byte qc)), (.int (nar .byte qd)), (.int (nar .byte qm))] := qb
 replace hk := Nat.le_trans hk (Nat.le_of_eq W.size.symm)
 replace qg := qg.other W qu
 replace qa := qa.wr W
 replace Z0 := Nat.le_trans Z0 (Nat.le_of_eq W.size.symm)
 replace N := Fr.snoc X.1 N qv
 replace Kp := Kp.wr W (Or.inr qw)
 refine g_iload X at_167 (pc' := 169) rfl rfl ?_
 refine g_iconst X (2 : Int32) at_169 (pc' := 170) rfl rfl ?_
 refine g_icN X at_170 (tlt (show (2 : Int32) < (3 : Int32) from (by decide))).2.2.2 (pc' := 173) rfl ?_
 refine g_aload X at_173 (pc' := 175) rfl rfl rfl ?_
 refine g_iload X at_175 (pc' := 177) rfl rfl ?_
 refine g_iconst X (2 : Int32) at_177 (pc' := 178) rfl rfl ?_
 refine g_iadd X at_178 (pc' := 179) rfl ?_
 refine Go.lit32 (z := (5 : Int32)) (by decide) ?_
 refine g_iload X at_179 (pc' := 181) rfl rfl ?_
 refine g_bastore X qb 5 at_181 (pc' := 182) rfl (by decide) (by decide) (Nat.le_of_ble_eq_true rfl) ?_
 intro T h X W qb
 replace qb : Av Z h qj .byte [(.int (nar .byte ql)), (.int (nar .byte qo)), (.int (nar .byte qy)), (.int (nar .byte qc)), (.int (nar .byte qd)), (.int (nar .byte qf))] := qb
 replace hk := Nat.le_trans hk (Nat.le_of_eq W.size.symm)
 replace qg := qg.other W qu
 replace qa := qa.wr W
 replace Z0 := Nat.le_trans Z0 (Nat.le_of_eq W.size.symm)
 replace N := Fr.snoc X.1 N qv
 replace Kp := Kp.wr W (Or.inr qw)
 refine g_iloadN X at_182 (pc' := 183) rfl rfl ?_
 refine g_bipush X (8 : Int32) at_183 (pc' := 185) rfl rfl ?_
 refine g_iand X at_185 (pc' := 186) rfl ?_
 by_cases zx : (i2 &&& (8 : Int32)) = (0 : Int32)
 refine g_ifY X at_186 ((if0 _ _).trans (teq zx).1) (pc' := 225) (by decide) (by decide) ?_
 exact tail3 l Z aa hw n0 i0 i2 i3 qc qd qf (3 : Int32) (nar .byte ql) (nar .byte qo) (nar .byte qy) (nar .byte qc) (nar .byte qd) (nar .byte qf) G1 j1 qr qj (.unset) X hS hk (CHv.keep Kp (fun _ q => nomatch q) HC0) Z0 N hret hlk qg qb qa P5 (Or.inr (Or.inr (Or.inr (rfl)))) One.u hn0 hn1 hn2
 refine g_ifN X at_186 ((if0 _ _).trans (feq zx).1) (pc' := 189) rfl ?_
 refine g_iload X at_189 (pc' := 191) rfl rfl ?_
 refine g_ifN X at_191 ((if0 _ _).trans (tlt (show (0 : Int32) < (3 : Int32) from (by decide))).2.2.2) (pc' := 194) rfl ?_
 refine g_iloadN X at_194 (pc' := 195) rfl rfl ?_
 refine g_bipush X (6 : Int32) at_195 (pc' := 197) rfl rfl ?_
 refine g_iushr X at_197 (pc' := 198) rfl ?_
 refine g_iconst X (3 : Int32) at_198 (pc' := 199) rfl rfl ?_
 refine g_iand X at_199 (pc' := 200) rfl ?_
 refine g_iload X at_200 (pc' := 202) rfl rfl ?_
 refine g_irem X at_202 (pc' := 203) rfl (by decide) ?_
 generalize uz : ((((i2.toUInt32 >>> ((6 : Int32) &&& 31).toUInt32).toInt32) &&& (3 : Int32)) % (3 : Int32)) = j9
 refine g_istore X at_203 (pc' := 205) (Ls' := #[.val (.int i0), .val (.long j1), .second, .val (.int i2), .val (.int i3), .val (.int (3 : Int32)), .val (.int qc), .val (.int qd), .val (.int qf), .val (.ref qr), .val (.ref qj), .val (.int (3 : Int32)), .val (.int j9), .unset, .unset, .unset, .unset]) rfl rfl ?_
 rcases (mr3 uz : j9 = (0 : Int32) ∨ j9 = (1 : Int32) ∨ j9 = (2 : Int32)) with hs | hs | hs
 subst hs
 show Go p e below _ (T.setTop (mkF m 205 _ []))
 refine g_aload X at_205 (pc' := 207) rfl rfl rfl ?_
 refine g_iload X at_207 (pc' := 209) rfl rfl ?_
 refine g_iload X at_209 (pc' := 211) rfl rfl ?_
 refine g_iadd X at_211 (pc' := 212) rfl ?_
 refine Go.lit32 (z := (3 : Int32)) (by decide) ?_
 refine g_aload X at_212 (pc' := 214) rfl rfl rfl ?_
 refine g_iload X at_214 (pc' := 216) rfl rfl ?_
 refine g_iload X at_216 (pc' := 218) rfl rfl ?_
 refine g_iadd X at_218 (pc' := 219) rfl ?_
 refine Go.lit32 (z := (3 : Int32)) (by decide) ?_
 refine g_baload X qb 3 at_219 (pc' := 220) rfl (by decide) (by decide) rfl ?_
 refine g_iload X at_220 (pc' := 222) rfl rfl ?_
 refine g_ixor X at_222 (pc' := 223) rfl ?_
 refine g_i2b X at_223 (pc' := 224) rfl ?_
 generalize qb2 : (((nar .byte qc) ^^^ i3).toInt8.toInt32) = zy
 refine g_bastore X qb 3 at_224 (pc' := 225) rfl (by decide) (by decide) (Nat.le_of_ble_eq_true rfl) ?_
 intro T h X W qb
 replace qb : Av Z h qj .byte [(.int (nar .byte ql)), (.int (nar .byte qo)), (.int (nar .byte qy)), (.int (nar .byte zy)), (.int (nar .byte qd)), (.int (nar .byte qf))] := qb
 replace hk := Nat.le_trans hk (Nat.le_of_eq W.size.symm)
 replace qg := qg.other W qu
 replace qa := qa.wr W
 replace Z0 := Nat.le_trans Z0 (Nat.le_of_eq W.size.symm)
 replace N := Fr.snoc X.1 N qv
 replace Kp := Kp.wr W (Or.inr qw)
 exact tail3 l Z aa hw n0 i0 i2 i3 qc qd qf (3 : Int32) (nar .byte ql) (nar .byte qo) (nar .byte qy) (nar .byte zy) (nar .byte qd) (nar .byte qf) G1 j1 qr qj (.val (.int (0 : Int32))) X hS hk (CHv.keep Kp (fun _ q => nomatch q) HC0) Z0 N hret hlk qg qb qa P5 (Or.inr (Or.inr (Or.inr (rfl)))) (One.val rfl) hn0 hn1 hn2
 subst hs
 show Go p e below _ (T.setTop (mkF m 205 _ []))
 refine g_aload X at_205 (pc' := 207) rfl rfl rfl ?_
 refine g_iload X at_207 (pc' := 209) rfl rfl ?_
 refine g_iload X at_209 (pc' := 211) rfl rfl ?_
 refine g_iadd X at_211 (pc' := 212) rfl ?_
 refine Go.lit32 (z := (4 : Int32)) (by decide) ?_
 refine g_aload X at_212 (pc' := 214) rfl rfl rfl ?_
 refine g_iload X at_214 (pc' := 216) rfl rfl ?_
 refine g_iload X at_216 (pc' := 218) rfl rfl ?_
 refine g_iadd X at_218 (pc' := 219) rfl ?_
 refine Go.lit32 (z := (4 : Int32)) (by decide) ?_
 refine g_baload X qb 4 at_219 (pc' := 220) rfl (by decide) (by decide) rfl ?_
 refine g_iload X at_220 (pc' := 222) rfl rfl ?_
 refine g_ixor X at_222 (pc' := 223) rfl ?_
 refine g_i2b X at_223 (pc' := 224) rfl ?_
 generalize qb3 : (((nar .byte qd) ^^^ i3).toInt8.toInt32) = zz
 refine g_bastore X qb 4 at_224 (pc' := 225) rfl (by decide) (by decide) (Nat.le_of_ble_eq_true rfl) ?_
 intro T h X W qb
 replace qb : Av Z h qj .byte [(.int (nar .byte ql)), (.int (nar .byte qo)), (.int (nar .byte qy)), (.int (nar .byte qc)), (.int (nar .byte zz)), (.int (nar .byte qf))] := qb
 replace hk := Nat.le_trans hk (Nat.le_of_eq W.size.symm)
 replace qg := qg.other W qu
 replace qa := qa.wr W
 replace Z0 := Nat.le_trans Z0 (Nat.le_of_eq W.size.symm)
 replace N := Fr.snoc X.1 N qv
 replace Kp := Kp.wr W (Or.inr qw)
 exact tail3 l Z aa hw n0 i0 i2 i3 qc qd qf (3 : Int32) (nar .byte ql) (nar .byte qo) (nar .byte qy) (nar .byte qc) (nar .byte zz) (nar .byte qf) G1 j1 qr qj (.val (.int (1 : Int32))) X hS hk (CHv.keep Kp (fun _ q => nomatch q) HC0) Z0 N hret hlk qg qb qa P5 (Or.inr (Or.inr (Or.inr (rfl)))) (One.val rfl) hn0 hn1 hn2
 subst hs
 show Go p e below _ (T.setTop (mkF m 205 _ []))
 refine g_aload X at_205 (pc' := 207) rfl rfl rfl ?_
 refine g_iload X at_207 (pc' := 209) rfl rfl ?_
 refine g_iload X at_209 (pc' := 211) rfl rfl ?_
 refine g_iadd X at_211 (pc' := 212) rfl ?_
 refine Go.lit32 (z := (5 : Int32)) (by decide) ?_
 refine g_aload X at_212 (pc' := 214) rfl rfl rfl ?_
 refine g_iload X at_214 (pc' := 216) rfl rfl ?_
 refine g_iload X at_216 (pc' := 218) rfl rfl ?_
 refine g_iadd X at_218 (pc' := 219) rfl ?_
 refine Go.lit32 (z := (5 : Int32)) (by decide) ?_
 refine g_baload X qb 5 at_219 (pc' := 220) rfl (by decide) (by decide) rfl ?_
 refine g_iload X at_220 (pc' := 222) rfl rfl ?_
 refine g_ixor X at_222 (pc' := 223) rfl ?_
 refine g_i2b X at_223 (pc' := 224) rfl ?_
 generalize qb4 : (((nar .byte qf) ^^^ i3).toInt8.toInt32) = z0
 refine g_bastore X qb 5 at_224 (pc' := 225) rfl (by decide) (by decide) (Nat.le_of_ble_eq_true rfl) ?_
 intro T h X W qb
 replace qb : Av Z h qj .byte [(.int (nar .byte ql)), (.int (nar .byte qo)), (.int (nar .byte qy)), (.int (nar .byte qc)), (.int (nar .byte qd)), (.int (nar .byte z0))] := qb
 replace hk := Nat.le_trans hk (Nat.le_of_eq W.size.symm)
 replace qg := qg.other W qu
 replace qa := qa.wr W
 replace Z0 := Nat.le_trans Z0 (Nat.le_of_eq W.size.symm)
 replace N := Fr.snoc X.1 N qv
 replace Kp := Kp.wr W (Or.inr qw)
 exact tail3 l Z aa hw n0 i0 i2 i3 qc qd qf (3 : Int32) (nar .byte ql) (nar .byte qo) (nar .byte qy) (nar .byte qc) (nar .byte qd) (nar .byte z0) G1 j1 qr qj (.val (.int (2 : Int32))) X hS hk (CHv.keep Kp (fun _ q => nomatch q) HC0) Z0 N hret hlk qg qb qa P5 (Or.inr (Or.inr (Or.inr (rfl)))) (One.val rfl) hn0 hn1 hn2
set_option maxRecDepth 65536 in
set_option maxHeartbeats 40000000 in
theorem comes_1 {Post : Tables → Env → Array Value → State → Outcome → State → Prop} (hpost : ∀ tb e args s v u, (limb_1_1.after args s (.returned v) u = true ∧ limb_1_2.after args s (.returned v) u = true ∧ True) → ReturnedEndW s (.returned v) u (Jvm.fieldLocs frame_1_writes args s ++ Jvm.arrayLocs frame_1_arrays args s ++ Jvm.staticLocs frame_1_statics s) 24 2176 → Post tb e args s (.returned v) u) :
    ArmFor flags0 classFile x code maxLocals ret World_1 tables_1 room_1 Calls_1 rest_1 Pre_1 Post := by
  intro l hfl _ _ p e ha hc hk s m args below hf hA hF happ hP
  obtain ⟨hcalls, hrest, hpre⟩ := hP
  obtain ⟨-, -, -, hnamed, -, -, -, hat⟩ := (Spec.applies_iff hf).mp happ
  obtain ⟨hg, hn⟩ := and_e (Cond.before_iff.mp (show (Jvm.Cond.and given_1 narrow_1).before args s = true from hpre))
  obtain ⟨g1, g2⟩ := and_e hg
  obtain ⟨g3, g4⟩ := and_e g2
  obtain ⟨g5, g6⟩ := and_e g4
  obtain ⟨g7, g8⟩ := and_e g6
  obtain ⟨w0, w1, w2, w3, rfl⟩ : ∃ w0 w1 w2 w3 : Value, args = #[w0, w1, w2, w3] := by
    have hs : args.size = 4 := by simpa [Cond.value, given_1] using g1
    obtain ⟨L⟩ := args
    match L, hs with
    | [w0, w1, w2, w3], _ => exact ⟨w0, w1, w2, w3, rfl⟩
  have hw := fun d (hd : d ∈ tables_1) => atoms_spec (ws := Jvm.Cond.code x code maxLocals ret :: tables_1) hat d (List.mem_cons_of_mem _ hd)
  have hfit : Fit s := fun {y c} hc i hi => by
    obtain ⟨ha, rfl⟩ := Array.getElem?_eq_some_iff.mp hc
    have q := List.all_eq_true.mp ((Array.all_eq_true_iff_forall_mem.mp hF) _ (Array.getElem_mem ha)) i (List.mem_range.mpr hi)
    simpa [Array.getElem?_eq_getElem hi] using q
  obtain ⟨hsets, hown0⟩ := atoms_of _ (rest_1_c_eq ▸ (show rest_1_c.before _ s = true from hrest))
  have hr0 := Cond.before_iff.mp hown0
  obtain ⟨i0, ei0⟩ := is_v g3
  obtain rfl : w0 = (.int i0) := Option.some.inj ei0
  obtain ⟨i1, ei1⟩ := isL_v g5
  obtain rfl : w1 = (.long i1) := Option.some.inj ei1
  obtain ⟨i2, ei2⟩ := is_v g7
  obtain rfl : w2 = (.int i2) := Option.some.inj ei2
  obtain ⟨i3, ei3⟩ := is_v g8
  obtain rfl : w3 = (.int i3) := Option.some.inj ei3
  have n5 := not_v (Cond.before_iff.mp (hsets _ (List.mem_of_getElem? (i := 2) rfl)))
  obtain ⟨G1, eG1⟩ := is_v (Cond.before_iff.mp (hsets _ (List.mem_of_getElem? (i := 1) rfl)))
  have O2 : Sta s s.heap "java/lang/String" "COMPACT_STRINGS" "Z" (.int G1) := Sta.start eG1 (Or.inl (hsets _ (List.mem_of_getElem? (i := 0) rfl)))
  have P5 : ¬ (G1 = (0 : Int32)) := gotF (Cond.eq_ints eG1 (Term.int_eval (0))) n5
  have hC : CHv s consts_1 s.vm s.heap := CHv.start (elw hw) hcalls.1 (hsets _ (List.mem_of_getElem? (i := 2) rfl)) (tb hw 0 rfl) (tb hw 6 rfl)
  obtain ⟨n, o, h1, h2, h3, _, L, rfl, ⟨rfl, N⟩, hq⟩ := rLaw l s _ hw tables_1 i0 i1 i2 i3 G1 s.heap s.heap.size (Nat.le_refl _) O2 P5 p e ha hc hk s m _ below hf ((Spec.applies_iff_loose hf).mp happ).1 ⟨rfl, State.Warmed39.refl s, rfl, hC⟩ trivial
  refine ⟨n, _, h1, h2, h3, hpost _ _ _ _ _ _ ⟨Cond.after_iff.mpr rfl, Cond.after_iff.mpr (eq_i res_at (Term.int_eval (1)) rfl), trivial⟩ ⟨hq.1, hq.2.1, hq.2.2.1, (hq.2.2.2.sift fun y hy => Or.inr (N y hy)).mono (by decide) (by decide)⟩⟩
theorem main_1_1 : Claimed_1_1 := comes_1 fun _ _ _ _ _ _ h hF => ⟨h.1, hF⟩
theorem main_1_2 : Claimed_1_2 := comes_1 fun _ _ _ _ _ _ h hF => ⟨h.2.1, hF⟩

end Jvm.Pilot.@@N@@
namespace Jvm.Pilot.@@N@@
open Jvm Jvm.ClassFile Sem Op Lib Jvm.Free Jvm.Stand Jvm.Pilot.@@N@@.Jvm.D
/-! MADE BY PROGRAM (witnessworld.py) out of the Statement's table words and the real class files: 16 classes; the members and pool entries that the words name. The judged class is class 1, her method 1. -/
namespace start1
open Jvm.ClassFile
def u (s : String) : CpInfo := .utf8 (stringToUtf16 s)
/-- a pool by its gaps: so many unusable entries, then the entry; so many at the end -/
def gap : Nat → List CpInfo → List CpInfo
  | 0, r => r
  | n + 1, r => .unusable :: gap n r
def poolList (es : List (Nat × CpInfo)) (last : Nat) : List CpInfo := es.foldr (fun e r => gap e.1 (e.2 :: r)) (gap last [])
def pool (es : List (Nat × CpInfo)) (last : Nat) : Array CpInfo := ⟨poolList es last⟩
def fileOf (pool : Array CpInfo) (this : Nat) (attrs : Array Attribute := #[]) (ms : Array MethodInfo := #[]) (fl : Nat := 33) (sup : Nat := 0) (ifs : Array Nat := #[]) (fds : Array FieldInfo := #[]) : ClassFile where
  minorVersion := 0
  majorVersion := 65
  constantPool := pool
  accessFlags := fl
  thisClass := this
  superClass := sup
  interfaces := ifs
  fields := fds
  methods := ms
  attributes := attrs
def plain (name : String) (sup : Option ClassId) : Class where
  name := name
  kind := .ordinary
  loader := none
  accessFlags := 33
  super := sup
  interfaces := #[]
  cf := none
  fields := #[]
  methods := #[]
  instanceTypes := #[]
  staticTypes := #[]
  resolved := #[]
  callSites := []
  init := .initialized
  statics := none
  mirror := none

def pool0 : Array CpInfo := pool [(5, u "<init>"), (0, u "()V"), (1, .class_ 10), (1, u "java/lang/Object")] 113

def k0c0 : Code := { maxStack := 0, maxLocals := 1, code := object_method_1_code, exceptionTable := #[], attributes := #[] }
def k0m0 : Method := { name := "<init>", desc := "()V", sig := { parameters := [], returnType := none }, accessFlags := 1, code := some k0c0 }
/-- java/lang/Object -/
def k0 : Class := { plain "java/lang/Object" none with
  accessFlags := 33
  interfaces := #[]
  cf := some (fileOf pool0 8 #[] #[{ accessFlags := 1, nameIndex := 5, descriptorIndex := 6, attributes := #[] }] 33 0 #[] #[])
  fields := #[]
  methods := #[k0m0]
  instanceTypes := #[]
  staticTypes := #[]
  resolved := Array.replicate 124 none
  statics := none }

def pool1 : Array CpInfo := pool [(2, .class_ 4), (1, u "java/lang/Object"), (0, u "<init>"), (0, u "()V"), (0, .class_ 8), (0, u "com/example/scheherazade/scheherazade/core/XmlName"), (0, .string 10), (0, u "a"), (0, .methodref 7 12), (0, .nameAndType 5 13), (0, u "(Ljava/lang/String;[BIZ)V"), (0, .methodref 7 15), (0, .nameAndType 16 17), (0, u "isSpelledBy"), (0, u "([BII)Z"), (0, .class_ 19), (0, u "com/example/scheherazade/scheherazade/core/XmlNameIsSpelledByPinLaw"), (2, u "law"), (0, u "(IJII)Z")] 5

def k1m0 : Method := { name := "<init>", desc := "()V", sig := { parameters := [], returnType := none }, accessFlags := 1, code := none }
def k1c1 : Code := { maxStack := 6, maxLocals := 17, code := code, exceptionTable := #[], attributes := #[] }
def k1m1 : Method := { name := "law", desc := "(IJII)Z", sig := { parameters := [.int, .long, .int, .int], returnType := some .boolean }, accessFlags := 9, code := some k1c1 }
/-- com/example/scheherazade/scheherazade/core/XmlNameIsSpelledByPinLaw -/
def k1 : Class := { plain "com/example/scheherazade/scheherazade/core/XmlNameIsSpelledByPinLaw" (some 0) with
  accessFlags := 49
  interfaces := #[]
  cf := some (fileOf pool1 18 #[] #[{ accessFlags := 1, nameIndex := 5, descriptorIndex := 6, attributes := #[] }, { accessFlags := 9, nameIndex := 22, descriptorIndex := 23, attributes := #[] }] 49 2 #[] #[])
  fields := #[]
  methods := #[k1m0, k1m1]
  instanceTypes := #[]
  staticTypes := #[]
  resolved := Array.replicate 29 none
  statics := none }

def pool2 : Array CpInfo := pool [(1, .methodref 2 3), (0, .class_ 4), (0, .nameAndType 5 6), (0, u "java/lang/Object"), (0, u "<init>"), (0, u "()V"), (0, .fieldref 8 9), (0, .class_ 10), (0, .nameAndType 11 12), (0, u "com/example/scheherazade/scheherazade/core/XmlName"), (0, u "qualified"), (0, u "Ljava/lang/String;"), (0, .fieldref 8 14), (0, .nameAndType 15 16), (0, u "spelling"), (0, u "[B"), (0, .fieldref 8 18), (0, .nameAndType 19 20), (0, u "hash"), (0, u "I"), (0, .fieldref 8 22), (0, .nameAndType 23 24), (0, u "shared"), (0, u "Z"), (2, .methodref 28 29), (0, .class_ 30), (0, .nameAndType 31 32), (0, u "java/lang/Math"), (0, u "min"), (0, u "(II)I"), (0, .fieldref 8 34), (0, .nameAndType 35 36), (0, u "head"), (0, u "J"), (0, .long 18446744073709551615), (1, .fieldref 8 40), (0, .nameAndType 41 36), (0, u "headMask"), (0, .methodref 43 44), (0, .class_ 45), (0, .nameAndType 46 47), (0, u "java/lang/String"), (0, u "indexOf"), (0, u "(I)I"), (0, .fieldref 8 49), (0, .nameAndType 50 12), (0, u "prefix"), (0, .fieldref 8 52), (0, .nameAndType 53 12), (0, u "local"), (13, .string 68), (0, u "xmlns"), (0, .methodref 43 70), (0, .nameAndType 71 72), (0, u "equals"), (0, u "(Ljava/lang/Object;)Z"), (0, .fieldref 8 74), (0, .nameAndType 75 24), (0, u "declaring"), (2, u "tag"), (2, u "(Ljava/lang/String;[BIZ)V"), (13, u "isSpelledBy"), (0, u "([BII)Z")] 4

def k2c0 : Code := { maxStack := 5, maxLocals := 9, code := prog_20_method_1_code, exceptionTable := #[], attributes := #[] }
def k2m0 : Method := { name := "<init>", desc := "(Ljava/lang/String;[BIZ)V", sig := { parameters := [(.object "java/lang/String"), (.array .byte), .int, .boolean], returnType := none }, accessFlags := 0, code := some k2c0 }
def k2c1 : Code := { maxStack := 5, maxLocals := 7, code := prog_20_method_10_code, exceptionTable := #[], attributes := #[] }
def k2m1 : Method := { name := "isSpelledBy", desc := "([BII)Z", sig := { parameters := [(.array .byte), .int, .int], returnType := some .boolean }, accessFlags := 0, code := some k2c1 }
/-- com/example/scheherazade/scheherazade/core/XmlName -/
def k2 : Class := { plain "com/example/scheherazade/scheherazade/core/XmlName" (some 0) with
  accessFlags := 33
  interfaces := #[]
  cf := some (fileOf pool2 8 #[] #[{ accessFlags := 0, nameIndex := 5, descriptorIndex := 81, attributes := #[] }, { accessFlags := 0, nameIndex := 95, descriptorIndex := 96, attributes := #[] }] 33 2 #[] #[{ accessFlags := 18, nameIndex := 11, descriptorIndex := 12, attributes := #[] }, { accessFlags := 18, nameIndex := 50, descriptorIndex := 12, attributes := #[] }, { accessFlags := 18, nameIndex := 53, descriptorIndex := 12, attributes := #[] }, { accessFlags := 18, nameIndex := 15, descriptorIndex := 16, attributes := #[] }, { accessFlags := 18, nameIndex := 35, descriptorIndex := 36, attributes := #[] }, { accessFlags := 18, nameIndex := 41, descriptorIndex := 36, attributes := #[] }, { accessFlags := 18, nameIndex := 19, descriptorIndex := 20, attributes := #[] }, { accessFlags := 18, nameIndex := 23, descriptorIndex := 24, attributes := #[] }, { accessFlags := 18, nameIndex := 75, descriptorIndex := 24, attributes := #[] }, { accessFlags := 2, nameIndex := 78, descriptorIndex := 20, attributes := #[] }])
  fields := #[{ name := "qualified", type := (.object "java/lang/String"), accessFlags := 18, slot := 0, constantValue := 0 }, { name := "prefix", type := (.object "java/lang/String"), accessFlags := 18, slot := 1, constantValue := 0 }, { name := "local", type := (.object "java/lang/String"), accessFlags := 18, slot := 2, constantValue := 0 }, { name := "spelling", type := (.array .byte), accessFlags := 18, slot := 3, constantValue := 0 }, { name := "head", type := .long, accessFlags := 18, slot := 4, constantValue := 0 }, { name := "headMask", type := .long, accessFlags := 18, slot := 5, constantValue := 0 }, { name := "hash", type := .int, accessFlags := 18, slot := 6, constantValue := 0 }, { name := "shared", type := .boolean, accessFlags := 18, slot := 7, constantValue := 0 }, { name := "declaring", type := .boolean, accessFlags := 18, slot := 8, constantValue := 0 }, { name := "tag", type := .int, accessFlags := 2, slot := 9, constantValue := 0 }]
  methods := #[k2m0, k2m1]
  instanceTypes := #[(.object "java/lang/String"), (.object "java/lang/String"), (.object "java/lang/String"), (.array .byte), .long, .long, .int, .boolean, .boolean, .int]
  staticTypes := #[]
  resolved := Array.replicate 101 none
  statics := none }

def pool3 : Array CpInfo := pool [(1, .class_ 2), (0, u "java/io/Serializable"), (0, .class_ 4), (0, u "java/lang/Object")] 2

/-- java/io/Serializable -/
def k3 : Class := { plain "java/io/Serializable" (some 0) with
  accessFlags := 1537
  interfaces := #[]
  cf := some (fileOf pool3 1 #[] #[] 1537 3 #[] #[])
  fields := #[]
  methods := #[]
  instanceTypes := #[]
  staticTypes := #[]
  resolved := Array.replicate 7 none
  statics := none }

def pool4 : Array CpInfo := pool [(1, .class_ 2), (0, u "java/lang/Comparable"), (0, .class_ 4), (0, u "java/lang/Object")] 7

/-- java/lang/Comparable -/
def k4 : Class := { plain "java/lang/Comparable" (some 0) with
  accessFlags := 1537
  interfaces := #[]
  cf := some (fileOf pool4 1 #[] #[] 1537 3 #[] #[])
  fields := #[]
  methods := #[]
  instanceTypes := #[]
  staticTypes := #[]
  resolved := Array.replicate 12 none
  statics := none }

def pool5 : Array CpInfo := pool [(2, .class_ 4), (1, u "java/lang/CharSequence"), (42, .class_ 48), (0, u "java/lang/CharSequence$1CodePointIterator"), (10, .class_ 60), (0, u "java/lang/CharSequence$1CharIterator"), (5, .class_ 67), (0, u "java/lang/Object")] 63

/-- java/lang/CharSequence -/
def k5 : Class := { plain "java/lang/CharSequence" (some 0) with
  accessFlags := 1537
  interfaces := #[]
  cf := some (fileOf pool5 2 #[.nestMembers #[47, 59]] #[] 1537 66 #[] #[])
  fields := #[]
  methods := #[]
  instanceTypes := #[]
  staticTypes := #[]
  resolved := Array.replicate 131 none
  statics := none }

def pool6 : Array CpInfo := pool [(1, .class_ 2), (0, u "java/lang/constant/Constable"), (0, .class_ 4), (0, u "java/lang/Object")] 6

/-- java/lang/constant/Constable -/
def k6 : Class := { plain "java/lang/constant/Constable" (some 0) with
  accessFlags := 1537
  interfaces := #[]
  cf := some (fileOf pool6 1 #[] #[] 1537 3 #[] #[])
  fields := #[]
  methods := #[]
  instanceTypes := #[]
  staticTypes := #[]
  resolved := Array.replicate 11 none
  statics := none }

def pool7 : Array CpInfo := pool [(1, .class_ 2), (0, u "java/lang/constant/ConstantDesc"), (0, .class_ 4), (0, u "java/lang/Object")] 32

/-- java/lang/constant/ConstantDesc -/
def k7 : Class := { plain "java/lang/constant/ConstantDesc" (some 0) with
  accessFlags := 1537
  interfaces := #[]
  cf := some (fileOf pool7 1 #[] #[] 1537 3 #[] #[])
  fields := #[]
  methods := #[]
  instanceTypes := #[]
  staticTypes := #[]
  resolved := Array.replicate 37 none
  statics := none }

def pool8 : Array CpInfo := pool [(2, .class_ 4), (1, u "java/lang/Object"), (0, u "<init>"), (0, u "()V"), (2, .fieldref 10 11), (0, .class_ 12), (0, .nameAndType 13 14), (0, u "java/lang/String"), (0, u "value"), (0, u "[B"), (0, .fieldref 10 16), (0, .nameAndType 17 18), (0, u "coder"), (0, u "B"), (2, u "hash"), (0, u "I"), (2, u "hashIsZero"), (0, u "Z"), (11, .fieldref 10 39), (0, .nameAndType 40 26), (0, u "COMPACT_STRINGS"), (66, .class_ 109), (1, u "java/lang/StringLatin1"), (32, u "()Z"), (191, u "()I"), (0, .methodref 10 336), (0, .nameAndType 17 337), (0, u "()B"), (154, .methodref 10 493), (0, .nameAndType 494 142), (0, u "isLatin1"), (10, .methodref 10 506), (0, .nameAndType 507 334), (0, u "length"), (33, .methodref 107 542), (0, .nameAndType 543 544), (0, u "equals"), (0, u "([B[B)Z"), (28, u "(Ljava/lang/Object;)Z"), (1, .class_ 576), (0, u "java/lang/CharSequence"), (22, u "CASE_INSENSITIVE_ORDER"), (0, u "Ljava/util/Comparator;"), (32, .methodref 10 634), (0, .nameAndType 635 636), (0, u "indexOf"), (0, u "(II)I"), (0, .methodref 107 638), (0, .nameAndType 635 639), (0, u "([BIII)I"), (125, u "(I)I"), (335, u "serialPersistentFields"), (0, u "[Ljava/io/ObjectStreamField;"), (0, .class_ 1104), (0, u "java/lang/String$CaseInsensitiveComparator"), (1, .class_ 1107), (0, u "java/io/Serializable"), (0, .class_ 1109), (0, u "java/lang/Comparable"), (0, .class_ 1111), (0, u "java/lang/constant/Constable"), (0, .class_ 1113), (0, u "java/lang/constant/ConstantDesc"), (2, u "serialVersionUID"), (0, u "J"), (3, u "REPL"), (0, u "C"), (2, u "LATIN1"), (1, u "UTF16")] 323

def k8m0 : Method := { name := "<init>", desc := "()V", sig := { parameters := [], returnType := none }, accessFlags := 1, code := none }
def k8c1 : Code := { maxStack := 2, maxLocals := 1, code := jdk_42_method_54_code, exceptionTable := #[], attributes := #[] }
def k8m1 : Method := { name := "length", desc := "()I", sig := { parameters := [], returnType := some .int }, accessFlags := 1, code := some k8c1 }
def k8c2 : Code := { maxStack := 2, maxLocals := 3, code := jdk_42_method_66_code, exceptionTable := #[], attributes := #[] }
def k8m2 : Method := { name := "equals", desc := "(Ljava/lang/Object;)Z", sig := { parameters := [(.object "java/lang/Object")], returnType := some .boolean }, accessFlags := 1, code := some k8c2 }
def k8c3 : Code := { maxStack := 3, maxLocals := 2, code := jdk_42_method_79_code, exceptionTable := #[], attributes := #[] }
def k8m3 : Method := { name := "indexOf", desc := "(I)I", sig := { parameters := [.int], returnType := some .int }, accessFlags := 1, code := some k8c3 }
def k8c4 : Code := { maxStack := 4, maxLocals := 3, code := jdk_42_method_80_code, exceptionTable := #[], attributes := #[] }
def k8m4 : Method := { name := "indexOf", desc := "(II)I", sig := { parameters := [.int, .int], returnType := some .int }, accessFlags := 1, code := some k8c4 }
def k8c5 : Code := { maxStack := 1, maxLocals := 1, code := jdk_42_method_152_code, exceptionTable := #[], attributes := #[] }
def k8m5 : Method := { name := "coder", desc := "()B", sig := { parameters := [], returnType := some .byte }, accessFlags := 0, code := some k8c5 }
def k8c6 : Code := { maxStack := 1, maxLocals := 1, code := jdk_42_method_154_code, exceptionTable := #[], attributes := #[] }
def k8m6 : Method := { name := "isLatin1", desc := "()Z", sig := { parameters := [], returnType := some .boolean }, accessFlags := 0, code := some k8c6 }
/-- java/lang/String -/
def k8 : Class := { plain "java/lang/String" (some 0) with
  accessFlags := 49
  interfaces := #[3, 4, 5, 6, 7]
  cf := some (fileOf pool8 10 #[.nestMembers #[1103]] #[{ accessFlags := 1, nameIndex := 5, descriptorIndex := 6, attributes := #[] }, { accessFlags := 1, nameIndex := 507, descriptorIndex := 334, attributes := #[] }, { accessFlags := 1, nameIndex := 543, descriptorIndex := 573, attributes := #[] }, { accessFlags := 1, nameIndex := 635, descriptorIndex := 765, attributes := #[] }, { accessFlags := 1, nameIndex := 635, descriptorIndex := 636, attributes := #[] }, { accessFlags := 0, nameIndex := 17, descriptorIndex := 337, attributes := #[] }, { accessFlags := 0, nameIndex := 494, descriptorIndex := 142, attributes := #[] }] 49 2 #[1106, 1108, 575, 1110, 1112] #[{ accessFlags := 18, nameIndex := 13, descriptorIndex := 14, attributes := #[] }, { accessFlags := 18, nameIndex := 17, descriptorIndex := 18, attributes := #[] }, { accessFlags := 2, nameIndex := 21, descriptorIndex := 22, attributes := #[] }, { accessFlags := 2, nameIndex := 25, descriptorIndex := 26, attributes := #[] }, { accessFlags := 26, nameIndex := 1116, descriptorIndex := 1117, attributes := #[] }, { accessFlags := 24, nameIndex := 40, descriptorIndex := 26, attributes := #[] }, { accessFlags := 26, nameIndex := 1101, descriptorIndex := 1102, attributes := #[] }, { accessFlags := 26, nameIndex := 1121, descriptorIndex := 1122, attributes := #[] }, { accessFlags := 25, nameIndex := 599, descriptorIndex := 600, attributes := #[] }, { accessFlags := 24, nameIndex := 1125, descriptorIndex := 18, attributes := #[] }, { accessFlags := 24, nameIndex := 1127, descriptorIndex := 18, attributes := #[] }])
  fields := #[{ name := "value", type := (.array .byte), accessFlags := 18, slot := 0, constantValue := 0 }, { name := "coder", type := .byte, accessFlags := 18, slot := 1, constantValue := 0 }, { name := "hash", type := .int, accessFlags := 2, slot := 2, constantValue := 0 }, { name := "hashIsZero", type := .boolean, accessFlags := 2, slot := 3, constantValue := 0 }, { name := "serialVersionUID", type := .long, accessFlags := 26, slot := 0, constantValue := 0 }, { name := "COMPACT_STRINGS", type := .boolean, accessFlags := 24, slot := 1, constantValue := 0 }, { name := "serialPersistentFields", type := (.array (.object "java/io/ObjectStreamField")), accessFlags := 26, slot := 2, constantValue := 0 }, { name := "REPL", type := .char, accessFlags := 26, slot := 3, constantValue := 0 }, { name := "CASE_INSENSITIVE_ORDER", type := (.object "java/util/Comparator"), accessFlags := 25, slot := 4, constantValue := 0 }, { name := "LATIN1", type := .byte, accessFlags := 24, slot := 5, constantValue := 0 }, { name := "UTF16", type := .byte, accessFlags := 24, slot := 6, constantValue := 0 }]
  methods := #[k8m0, k8m1, k8m2, k8m3, k8m4, k8m5, k8m6]
  instanceTypes := #[(.array .byte), .byte, .int, .boolean]
  staticTypes := #[.long, .boolean, (.array (.object "java/io/ObjectStreamField")), .char, (.object "java/util/Comparator"), .byte, .byte]
  resolved := Array.replicate 1451 none
  statics := some 0 }

def pool9 : Array CpInfo := pool [(1, .class_ 2), (0, u "java/lang/Math"), (1, .class_ 6), (1, u "java/lang/Object"), (0, u "<init>"), (0, u "()V"), (89, .class_ 100), (1, u "java/lang/Math$RandomNumberGeneratorHolder"), (71, u "negativeZeroFloatBits"), (0, u "J"), (2, u "negativeZeroDoubleBits"), (21, u "max"), (2, u "min"), (43, u "$assertionsDisabled"), (0, u "Z"), (88, u "(II)I"), (2, u "twoToTheDoubleScaleDown"), (0, u "D"), (4, u "twoToTheDoubleScaleUp"), (9, u "E"), (3, u "PI"), (2, u "TAU"), (2, u "DEGREES_TO_RADIANS"), (0, u "RADIANS_TO_DEGREES")] 94

def k9m0 : Method := { name := "<init>", desc := "()V", sig := { parameters := [], returnType := none }, accessFlags := 2, code := none }
def k9c1 : Code := { maxStack := 2, maxLocals := 2, code := jdk_29_method_65_code, exceptionTable := #[], attributes := #[] }
def k9m1 : Method := { name := "max", desc := "(II)I", sig := { parameters := [.int, .int], returnType := some .int }, accessFlags := 9, code := some k9c1 }
def k9c2 : Code := { maxStack := 2, maxLocals := 2, code := jdk_29_method_69_code, exceptionTable := #[], attributes := #[] }
def k9m2 : Method := { name := "min", desc := "(II)I", sig := { parameters := [.int, .int], returnType := some .int }, accessFlags := 9, code := some k9c2 }
/-- java/lang/Math -/
def k9 : Class := { plain "java/lang/Math" (some 0) with
  accessFlags := 49
  interfaces := #[]
  cf := some (fileOf pool9 1 #[.nestMembers #[98]] #[{ accessFlags := 2, nameIndex := 7, descriptorIndex := 8, attributes := #[] }, { accessFlags := 9, nameIndex := 198, descriptorIndex := 335, attributes := #[] }, { accessFlags := 9, nameIndex := 201, descriptorIndex := 335, attributes := #[] }] 49 4 #[] #[{ accessFlags := 25, nameIndex := 354, descriptorIndex := 339, attributes := #[] }, { accessFlags := 25, nameIndex := 358, descriptorIndex := 339, attributes := #[] }, { accessFlags := 25, nameIndex := 361, descriptorIndex := 339, attributes := #[] }, { accessFlags := 26, nameIndex := 364, descriptorIndex := 339, attributes := #[] }, { accessFlags := 26, nameIndex := 365, descriptorIndex := 339, attributes := #[] }, { accessFlags := 26, nameIndex := 172, descriptorIndex := 173, attributes := #[] }, { accessFlags := 26, nameIndex := 176, descriptorIndex := 173, attributes := #[] }, { accessFlags := 8, nameIndex := 344, descriptorIndex := 339, attributes := #[] }, { accessFlags := 8, nameIndex := 338, descriptorIndex := 339, attributes := #[] }, { accessFlags := 4120, nameIndex := 245, descriptorIndex := 246, attributes := #[] }])
  fields := #[{ name := "E", type := .double, accessFlags := 25, slot := 0, constantValue := 0 }, { name := "PI", type := .double, accessFlags := 25, slot := 1, constantValue := 0 }, { name := "TAU", type := .double, accessFlags := 25, slot := 2, constantValue := 0 }, { name := "DEGREES_TO_RADIANS", type := .double, accessFlags := 26, slot := 3, constantValue := 0 }, { name := "RADIANS_TO_DEGREES", type := .double, accessFlags := 26, slot := 4, constantValue := 0 }, { name := "negativeZeroFloatBits", type := .long, accessFlags := 26, slot := 5, constantValue := 0 }, { name := "negativeZeroDoubleBits", type := .long, accessFlags := 26, slot := 6, constantValue := 0 }, { name := "twoToTheDoubleScaleUp", type := .double, accessFlags := 8, slot := 7, constantValue := 0 }, { name := "twoToTheDoubleScaleDown", type := .double, accessFlags := 8, slot := 8, constantValue := 0 }, { name := "$assertionsDisabled", type := .boolean, accessFlags := 4120, slot := 9, constantValue := 0 }]
  methods := #[k9m0, k9m1, k9m2]
  instanceTypes := #[]
  staticTypes := #[.double, .double, .double, .double, .double, .long, .long, .double, .double, .boolean]
  resolved := Array.replicate 460 none
  statics := none }

def pool10 : Array CpInfo := pool [(4, .class_ 6), (1, u "java/lang/Object"), (0, u "<init>"), (0, u "()V"), (5, .class_ 16), (1, u "java/lang/StringLatin1"), (21, .methodref 39 40), (0, .class_ 41), (0, .nameAndType 42 43), (0, u "java/lang/Math"), (0, u "min"), (0, u "(II)I"), (44, .methodref 14 89), (0, .nameAndType 90 91), (0, u "canEncode"), (0, u "(I)Z"), (0, .methodref 39 93), (0, .nameAndType 94 43), (0, u "max"), (0, .methodref 14 96), (0, .nameAndType 97 98), (0, u "indexOfChar"), (0, u "([BIII)I"), (2, u "indexOf"), (19, u "$assertionsDisabled"), (0, u "Z"), (98, .class_ 223), (1, u "java/lang/StringLatin1$LinesSpliterator"), (57, u "equals"), (0, u "([B[B)Z"), (107, .class_ 391), (0, u "java/lang/StringLatin1$CharsSpliterator")] 3

def k10m0 : Method := { name := "<init>", desc := "()V", sig := { parameters := [], returnType := none }, accessFlags := 0, code := none }
def k10c1 : Code := { maxStack := 2, maxLocals := 1, code := jdk_43_method_4_code, exceptionTable := #[], attributes := #[] }
def k10m1 : Method := { name := "canEncode", desc := "(I)Z", sig := { parameters := [.int], returnType := some .boolean }, accessFlags := 9, code := some k10c1 }
def k10c2 : Code := { maxStack := 3, maxLocals := 3, code := jdk_43_method_13_code, exceptionTable := #[], attributes := #[] }
def k10m2 : Method := { name := "equals", desc := "([B[B)Z", sig := { parameters := [(.array .byte), (.array .byte)], returnType := some .boolean }, accessFlags := 9, code := some k10c2 }
def k10c3 : Code := { maxStack := 4, maxLocals := 4, code := jdk_43_method_22_code, exceptionTable := #[], attributes := #[] }
def k10m3 : Method := { name := "indexOf", desc := "([BIII)I", sig := { parameters := [(.array .byte), .int, .int, .int], returnType := some .int }, accessFlags := 9, code := some k10c3 }
def k10c4 : Code := { maxStack := 2, maxLocals := 6, code := jdk_43_method_23_code, exceptionTable := #[], attributes := #[] }
def k10m4 : Method := { name := "indexOfChar", desc := "([BIII)I", sig := { parameters := [(.array .byte), .int, .int, .int], returnType := some .int }, accessFlags := 10, code := some k10c4 }
/-- java/lang/StringLatin1 -/
def k10 : Class := { plain "java/lang/StringLatin1" (some 0) with
  accessFlags := 48
  interfaces := #[]
  cf := some (fileOf pool10 14 #[.nestMembers #[390, 221]] #[{ accessFlags := 0, nameIndex := 7, descriptorIndex := 8, attributes := #[] }, { accessFlags := 9, nameIndex := 90, descriptorIndex := 91, attributes := #[] }, { accessFlags := 9, nameIndex := 281, descriptorIndex := 282, attributes := #[] }, { accessFlags := 9, nameIndex := 101, descriptorIndex := 98, attributes := #[] }, { accessFlags := 10, nameIndex := 97, descriptorIndex := 98, attributes := #[] }] 48 4 #[] #[{ accessFlags := 4120, nameIndex := 121, descriptorIndex := 122, attributes := #[] }])
  fields := #[{ name := "$assertionsDisabled", type := .boolean, accessFlags := 4120, slot := 0, constantValue := 0 }]
  methods := #[k10m0, k10m1, k10m2, k10m3, k10m4]
  instanceTypes := #[]
  staticTypes := #[.boolean]
  resolved := Array.replicate 395 none
  statics := none }

def pool11 : Array CpInfo := pool [(2, .class_ 4), (1, u "java/lang/Object"), (0, u "<init>"), (0, u "()V"), (17, .class_ 26), (1, u "jdk/internal/util/Preconditions"), (28, .class_ 56), (0, u "jdk/internal/util/Preconditions$4"), (57, .class_ 115), (0, u "jdk/internal/util/Preconditions$1"), (7, u "SIOOBE_FORMATTER"), (0, u "Ljava/util/function/BiFunction;"), (0, .class_ 126), (0, u "jdk/internal/util/Preconditions$2"), (3, u "AIOOBE_FORMATTER"), (0, .class_ 132), (0, u "jdk/internal/util/Preconditions$3"), (3, u "IOOBE_FORMATTER")] 57

def k11m0 : Method := { name := "<init>", desc := "()V", sig := { parameters := [], returnType := none }, accessFlags := 1, code := none }
/-- jdk/internal/util/Preconditions -/
def k11 : Class := { plain "jdk/internal/util/Preconditions" (some 0) with
  accessFlags := 33
  interfaces := #[]
  cf := some (fileOf pool11 24 #[.nestMembers #[55, 131, 125, 114]] #[{ accessFlags := 1, nameIndex := 5, descriptorIndex := 6, attributes := #[] }] 33 2 #[] #[{ accessFlags := 25, nameIndex := 123, descriptorIndex := 124, attributes := #[] }, { accessFlags := 25, nameIndex := 130, descriptorIndex := 124, attributes := #[] }, { accessFlags := 25, nameIndex := 136, descriptorIndex := 124, attributes := #[] }])
  fields := #[{ name := "SIOOBE_FORMATTER", type := (.object "java/util/function/BiFunction"), accessFlags := 25, slot := 0, constantValue := 0 }, { name := "AIOOBE_FORMATTER", type := (.object "java/util/function/BiFunction"), accessFlags := 25, slot := 1, constantValue := 0 }, { name := "IOOBE_FORMATTER", type := (.object "java/util/function/BiFunction"), accessFlags := 25, slot := 2, constantValue := 0 }]
  methods := #[k11m0]
  instanceTypes := #[]
  staticTypes := #[(.object "java/util/function/BiFunction"), (.object "java/util/function/BiFunction"), (.object "java/util/function/BiFunction")]
  resolved := Array.replicate 194 none
  statics := some 1 }

def pool12 : Array CpInfo := pool [(9, u "<init>"), (6, .class_ 18), (1, u "java/lang/Object"), (0, u "()V"), (1, .class_ 23), (1, u "jdk/internal/util/ArraysSupport"), (0, u "LOG2_ARRAY_LONG_INDEX_SCALE"), (0, u "I"), (2, u "U"), (0, u "Ljdk/internal/misc/Unsafe;"), (8, u "BIG_ENDIAN"), (0, u "Z"), (8, u "LOG2_BYTE_BIT_SIZE"), (4, u "LOG2_ARRAY_INT_INDEX_SCALE"), (54, u "JLA"), (0, u "Ljdk/internal/access/JavaLangAccess;"), (11, u "LOG2_ARRAY_BOOLEAN_INDEX_SCALE"), (9, u "LOG2_ARRAY_BYTE_INDEX_SCALE"), (5, u "LOG2_ARRAY_CHAR_INDEX_SCALE"), (5, u "LOG2_ARRAY_SHORT_INDEX_SCALE"), (18, u "LOG2_ARRAY_FLOAT_INDEX_SCALE"), (24, u "LOG2_ARRAY_DOUBLE_INDEX_SCALE"), (89, u "T_BOOLEAN"), (2, u "T_CHAR"), (1, u "T_FLOAT"), (1, u "T_DOUBLE"), (1, u "T_BYTE"), (1, u "T_SHORT"), (1, u "T_INT"), (1, u "T_LONG"), (1, u "SOFT_MAX_ARRAY_LENGTH")] 83

def k12m0 : Method := { name := "<init>", desc := "()V", sig := { parameters := [], returnType := none }, accessFlags := 2, code := none }
/-- jdk/internal/util/ArraysSupport -/
def k12 : Class := { plain "jdk/internal/util/ArraysSupport" (some 0) with
  accessFlags := 33
  interfaces := #[]
  cf := some (fileOf pool12 21 #[] #[{ accessFlags := 2, nameIndex := 9, descriptorIndex := 19, attributes := #[] }] 33 16 #[] #[{ accessFlags := 24, nameIndex := 28, descriptorIndex := 29, attributes := #[] }, { accessFlags := 26, nameIndex := 38, descriptorIndex := 39, attributes := #[] }, { accessFlags := 25, nameIndex := 121, descriptorIndex := 25, attributes := #[] }, { accessFlags := 25, nameIndex := 131, descriptorIndex := 25, attributes := #[] }, { accessFlags := 25, nameIndex := 137, descriptorIndex := 25, attributes := #[] }, { accessFlags := 25, nameIndex := 143, descriptorIndex := 25, attributes := #[] }, { accessFlags := 25, nameIndex := 53, descriptorIndex := 25, attributes := #[] }, { accessFlags := 25, nameIndex := 24, descriptorIndex := 25, attributes := #[] }, { accessFlags := 25, nameIndex := 162, descriptorIndex := 25, attributes := #[] }, { accessFlags := 25, nameIndex := 187, descriptorIndex := 25, attributes := #[] }, { accessFlags := 26, nameIndex := 48, descriptorIndex := 25, attributes := #[] }, { accessFlags := 25, nameIndex := 277, descriptorIndex := 25, attributes := #[] }, { accessFlags := 25, nameIndex := 280, descriptorIndex := 25, attributes := #[] }, { accessFlags := 25, nameIndex := 282, descriptorIndex := 25, attributes := #[] }, { accessFlags := 25, nameIndex := 284, descriptorIndex := 25, attributes := #[] }, { accessFlags := 25, nameIndex := 286, descriptorIndex := 25, attributes := #[] }, { accessFlags := 25, nameIndex := 288, descriptorIndex := 25, attributes := #[] }, { accessFlags := 25, nameIndex := 290, descriptorIndex := 25, attributes := #[] }, { accessFlags := 25, nameIndex := 292, descriptorIndex := 25, attributes := #[] }, { accessFlags := 26, nameIndex := 108, descriptorIndex := 109, attributes := #[] }, { accessFlags := 25, nameIndex := 294, descriptorIndex := 25, attributes := #[] }])
  fields := #[{ name := "U", type := (.object "jdk/internal/misc/Unsafe"), accessFlags := 24, slot := 0, constantValue := 0 }, { name := "BIG_ENDIAN", type := .boolean, accessFlags := 26, slot := 1, constantValue := 0 }, { name := "LOG2_ARRAY_BOOLEAN_INDEX_SCALE", type := .int, accessFlags := 25, slot := 2, constantValue := 0 }, { name := "LOG2_ARRAY_BYTE_INDEX_SCALE", type := .int, accessFlags := 25, slot := 3, constantValue := 0 }, { name := "LOG2_ARRAY_CHAR_INDEX_SCALE", type := .int, accessFlags := 25, slot := 4, constantValue := 0 }, { name := "LOG2_ARRAY_SHORT_INDEX_SCALE", type := .int, accessFlags := 25, slot := 5, constantValue := 0 }, { name := "LOG2_ARRAY_INT_INDEX_SCALE", type := .int, accessFlags := 25, slot := 6, constantValue := 0 }, { name := "LOG2_ARRAY_LONG_INDEX_SCALE", type := .int, accessFlags := 25, slot := 7, constantValue := 0 }, { name := "LOG2_ARRAY_FLOAT_INDEX_SCALE", type := .int, accessFlags := 25, slot := 8, constantValue := 0 }, { name := "LOG2_ARRAY_DOUBLE_INDEX_SCALE", type := .int, accessFlags := 25, slot := 9, constantValue := 0 }, { name := "LOG2_BYTE_BIT_SIZE", type := .int, accessFlags := 26, slot := 10, constantValue := 0 }, { name := "T_BOOLEAN", type := .int, accessFlags := 25, slot := 11, constantValue := 0 }, { name := "T_CHAR", type := .int, accessFlags := 25, slot := 12, constantValue := 0 }, { name := "T_FLOAT", type := .int, accessFlags := 25, slot := 13, constantValue := 0 }, { name := "T_DOUBLE", type := .int, accessFlags := 25, slot := 14, constantValue := 0 }, { name := "T_BYTE", type := .int, accessFlags := 25, slot := 15, constantValue := 0 }, { name := "T_SHORT", type := .int, accessFlags := 25, slot := 16, constantValue := 0 }, { name := "T_INT", type := .int, accessFlags := 25, slot := 17, constantValue := 0 }, { name := "T_LONG", type := .int, accessFlags := 25, slot := 18, constantValue := 0 }, { name := "JLA", type := (.object "jdk/internal/access/JavaLangAccess"), accessFlags := 26, slot := 19, constantValue := 0 }, { name := "SOFT_MAX_ARRAY_LENGTH", type := .int, accessFlags := 25, slot := 20, constantValue := 0 }]
  methods := #[k12m0]
  instanceTypes := #[]
  staticTypes := #[(.object "jdk/internal/misc/Unsafe"), .boolean, .int, .int, .int, .int, .int, .int, .int, .int, .int, .int, .int, .int, .int, .int, .int, .int, .int, (.object "jdk/internal/access/JavaLangAccess"), .int]
  resolved := Array.replicate 378 none
  statics := none }

def pool13 : Array CpInfo := pool [(1, u "java/lang/Cloneable"), (0, .class_ 1), (0, u "java/lang/Object"), (0, .class_ 3)] 3

/-- java/lang/Cloneable -/
def k13 : Class := { plain "java/lang/Cloneable" (some 0) with
  accessFlags := 1537
  interfaces := #[]
  cf := some (fileOf pool13 2 #[] #[] 1537 4 #[] #[])
  fields := #[]
  methods := #[]
  instanceTypes := #[]
  staticTypes := #[]
  resolved := Array.replicate 8 none
  statics := none }

/-- the primitive byte -/
def k14 : Class := { plain "byte" none with kind := .primitive 'B', accessFlags := 0x411 }
/-- [B -/
def k15 : Class := { plain "[B" (some 0) with kind := .array 14 .byte, interfaces := #[13, 3], accessFlags := 1041 }

def heap : Heap := #[{ cls := 8, slots := #[.long 0, .int 1, .null, .int 0, .null, .int 0, .int 0], vm := .statics 8 },
  { cls := 11, slots := #[.null, .null, .null], vm := .statics 11 }]
def classes : Array Class := #[k0, k1, k2, k3, k4, k5, k6, k7, k8, k9, k10, k11, k12, k13, k14, k15]
def interned : List (Array UInt16 × Addr) := []
def slotsUsed : Nat := 10
def theMethod : MethodId := ⟨1, 1⟩
def args0 : Array Value := #[.int 5, .long 7, .int 3, .int 9]
def aboutOver (below : List Frame) : State where
  vm := { classes := classes, interned := interned.toArray }
  heap := heap
  slotsUsed := slotsUsed
  threads := #[{ frames := .invoking theMethod args0 :: below }]
def below0 : List Frame := [.native { method := ⟨0, 0⟩, args := #[] }]
def about1 : State := aboutOver below0
def p0 : Program := .bare "" "" ""
def e0 : Env := launch0.env 0 0 0
theorem w_frames : about1.frames = Frame.invoking theMethod args0 :: below0 := rfl
set_option maxRecDepth 65536 in
theorem w_args : argsFit about1.vm theMethod args0 = true := by decide +kernel
set_option maxRecDepth 65536 in
theorem w_heap : heapFits about1 = true := by decide +kernel
set_option maxRecDepth 65536 in
theorem w_runnable : about1.curStatus? = some .runnable := by decide +kernel
set_option maxRecDepth 65536 in
theorem w_alone : about1.alone = true := by decide +kernel
set_option maxRecDepth 65536 in
theorem w_named : about1.methodNamed? x = some theMethod := by decide +kernel
set_option maxRecDepth 65536 in
theorem w_hears : about1.hears theMethod below0 = true := by decide +kernel
set_option maxRecDepth 65536 in
theorem w_ripe : about1.ripe theMethod args0 below0 = true := by decide +kernel
theorem w_running : about1.status = .running := rfl
set_option maxRecDepth 65536 in
theorem w_room : about1.hasRoom e0.platform room_1 = true :=
  launch0.hasRoom_least _ room_1 (by decide +kernel) (by decide +kernel) (by decide +kernel) (by decide +kernel) (by decide +kernel) (by decide +kernel)
theorem allAtoms_all (ts : List Jvm.Cond) (a : Array Jvm.Value) (st : Jvm.State) : (allAtoms ts).before a st = ts.all (fun c => c.before a st) := by
  induction ts with
  | nil => rfl
  | cons c t ih =>
    show (Jvm.Cond.and c (allAtoms t)).before a st = _
    rw [Jvm.Cond.before_and, ih, List.all_cons]
def words1 : List Jvm.Cond := Jvm.Cond.code x code maxLocals ret :: tables_1
/-- a 'code' word, met by the world's own term for the bytes: nothing is compared byte by byte -/
theorem code_word {y : MethodName} {bytes : ByteArray} {mx : Nat} {rt : Option FieldType} {a : Array Value} {s : State} {m : MethodId} {meth : Method} {c : Code} (h1 : s.methodNamed? y = some m) (h2 : s.vm.method? m = some meth) (h3 : meth.code = some c) (h4 : c.code = bytes)
    (h5 : (c.maxLocals == mx && c.exceptionTable.isEmpty && decide (c.maxStack ≤ mostOperands) && decide (meth.sig.returnType = rt) && !meth.locks && decide (parseMethodDescriptor y.desc = some meth.sig)) = true) : (Jvm.Cond.code y bytes mx rt).before a s = true := by
  simp only [Bool.and_eq_true, beq_iff_eq, Bool.not_eq_true', decide_eq_true_eq] at h5
  obtain ⟨⟨⟨⟨⟨g1, g2⟩, g3⟩, g4⟩, g5⟩, g6⟩ := h5
  simp [Cond.before, Cond.holds, Cond.value, h1, h2, h3, h4, g1, g2, g3, g4, g5, g6]
def isCode : Jvm.Cond → Bool
  | .code _ _ _ _ => true
  | _ => false
theorem all_split {L : List Jvm.Cond} {P : Jvm.Cond → Bool} (h1 : L.all (fun c => isCode c || P c) = true) (h2 : ∀ c ∈ L.filter isCode, P c = true) : L.all P = true := by
  refine List.all_eq_true.mpr fun c hc => ?_
  have h := List.all_eq_true.mp h1 c hc
  rcases Bool.eq_false_or_eq_true (isCode c) with hi | hi
  · exact h2 c (List.mem_filter.mpr ⟨hc, hi⟩)
  · simpa [hi] using h
set_option maxRecDepth 65536 in
theorem w_c0 : (Jvm.Cond.code x code maxLocals ret).before args0 about1 = true := code_word (m := ⟨1, 1⟩) (meth := k1m1) (c := k1c1) (by decide +kernel) rfl rfl rfl (by decide +kernel)
set_option maxRecDepth 65536 in
theorem w_c1 : (Jvm.Cond.code ({ cls := "com/example/scheherazade/scheherazade/core/XmlName", name := "<init>", desc := "(Ljava/lang/String;[BIZ)V" } : Jvm.MethodName) prog_20_method_1_code (9 : Nat) (Option.none : Option Jvm.ClassFile.FieldType)).before args0 about1 = true := code_word (m := ⟨2, 0⟩) (meth := k2m0) (c := k2c0) (by decide +kernel) rfl rfl rfl (by decide +kernel)
set_option maxRecDepth 65536 in
theorem w_c2 : (Jvm.Cond.code ({ cls := "java/lang/Object", name := "<init>", desc := "()V" } : Jvm.MethodName) object_method_1_code (1 : Nat) (Option.none : Option Jvm.ClassFile.FieldType)).before args0 about1 = true := code_word (m := ⟨0, 0⟩) (meth := k0m0) (c := k0c0) (by decide +kernel) rfl rfl rfl (by decide +kernel)
set_option maxRecDepth 65536 in
theorem w_c3 : (Jvm.Cond.code ({ cls := "java/lang/Math", name := "min", desc := "(II)I" } : Jvm.MethodName) jdk_29_method_69_code (2 : Nat) (Option.some Jvm.ClassFile.FieldType.int)).before args0 about1 = true := code_word (m := ⟨9, 2⟩) (meth := k9m2) (c := k9c2) (by decide +kernel) rfl rfl rfl (by decide +kernel)
set_option maxRecDepth 65536 in
theorem w_c4 : (Jvm.Cond.code ({ cls := "java/lang/String", name := "indexOf", desc := "(I)I" } : Jvm.MethodName) jdk_42_method_79_code (2 : Nat) (Option.some Jvm.ClassFile.FieldType.int)).before args0 about1 = true := code_word (m := ⟨8, 3⟩) (meth := k8m3) (c := k8c3) (by decide +kernel) rfl rfl rfl (by decide +kernel)
set_option maxRecDepth 65536 in
theorem w_c5 : (Jvm.Cond.code ({ cls := "java/lang/String", name := "indexOf", desc := "(II)I" } : Jvm.MethodName) jdk_42_method_80_code (3 : Nat) (Option.some Jvm.ClassFile.FieldType.int)).before args0 about1 = true := code_word (m := ⟨8, 4⟩) (meth := k8m4) (c := k8c4) (by decide +kernel) rfl rfl rfl (by decide +kernel)
set_option maxRecDepth 65536 in
theorem w_c6 : (Jvm.Cond.code ({ cls := "java/lang/String", name := "isLatin1", desc := "()Z" } : Jvm.MethodName) jdk_42_method_154_code (1 : Nat) (Option.some Jvm.ClassFile.FieldType.boolean)).before args0 about1 = true := code_word (m := ⟨8, 6⟩) (meth := k8m6) (c := k8c6) (by decide +kernel) rfl rfl rfl (by decide +kernel)
set_option maxRecDepth 65536 in
theorem w_c7 : (Jvm.Cond.code ({ cls := "java/lang/String", name := "length", desc := "()I" } : Jvm.MethodName) jdk_42_method_54_code (1 : Nat) (Option.some Jvm.ClassFile.FieldType.int)).before args0 about1 = true := code_word (m := ⟨8, 1⟩) (meth := k8m1) (c := k8c1) (by decide +kernel) rfl rfl rfl (by decide +kernel)
set_option maxRecDepth 65536 in
theorem w_c8 : (Jvm.Cond.code ({ cls := "java/lang/String", name := "coder", desc := "()B" } : Jvm.MethodName) jdk_42_method_152_code (1 : Nat) (Option.some Jvm.ClassFile.FieldType.byte)).before args0 about1 = true := code_word (m := ⟨8, 5⟩) (meth := k8m5) (c := k8c5) (by decide +kernel) rfl rfl rfl (by decide +kernel)
set_option maxRecDepth 65536 in
theorem w_c9 : (Jvm.Cond.code ({ cls := "java/lang/StringLatin1", name := "indexOf", desc := "([BIII)I" } : Jvm.MethodName) jdk_43_method_22_code (4 : Nat) (Option.some Jvm.ClassFile.FieldType.int)).before args0 about1 = true := code_word (m := ⟨10, 3⟩) (meth := k10m3) (c := k10c3) (by decide +kernel) rfl rfl rfl (by decide +kernel)
set_option maxRecDepth 65536 in
theorem w_c10 : (Jvm.Cond.code ({ cls := "java/lang/StringLatin1", name := "canEncode", desc := "(I)Z" } : Jvm.MethodName) jdk_43_method_4_code (1 : Nat) (Option.some Jvm.ClassFile.FieldType.boolean)).before args0 about1 = true := code_word (m := ⟨10, 1⟩) (meth := k10m1) (c := k10c1) (by decide +kernel) rfl rfl rfl (by decide +kernel)
set_option maxRecDepth 65536 in
theorem w_c11 : (Jvm.Cond.code ({ cls := "java/lang/Math", name := "max", desc := "(II)I" } : Jvm.MethodName) jdk_29_method_65_code (2 : Nat) (Option.some Jvm.ClassFile.FieldType.int)).before args0 about1 = true := code_word (m := ⟨9, 1⟩) (meth := k9m1) (c := k9c1) (by decide +kernel) rfl rfl rfl (by decide +kernel)
set_option maxRecDepth 65536 in
theorem w_c12 : (Jvm.Cond.code ({ cls := "java/lang/StringLatin1", name := "indexOfChar", desc := "([BIII)I" } : Jvm.MethodName) jdk_43_method_23_code (6 : Nat) (Option.some Jvm.ClassFile.FieldType.int)).before args0 about1 = true := code_word (m := ⟨10, 4⟩) (meth := k10m4) (c := k10c4) (by decide +kernel) rfl rfl rfl (by decide +kernel)
set_option maxRecDepth 65536 in
theorem w_c13 : (Jvm.Cond.code ({ cls := "java/lang/String", name := "equals", desc := "(Ljava/lang/Object;)Z" } : Jvm.MethodName) jdk_42_method_66_code (3 : Nat) (Option.some Jvm.ClassFile.FieldType.boolean)).before args0 about1 = true := code_word (m := ⟨8, 2⟩) (meth := k8m2) (c := k8c2) (by decide +kernel) rfl rfl rfl (by decide +kernel)
set_option maxRecDepth 65536 in
theorem w_c14 : (Jvm.Cond.code ({ cls := "java/lang/StringLatin1", name := "equals", desc := "([B[B)Z" } : Jvm.MethodName) jdk_43_method_13_code (3 : Nat) (Option.some Jvm.ClassFile.FieldType.boolean)).before args0 about1 = true := code_word (m := ⟨10, 2⟩) (meth := k10m2) (c := k10c2) (by decide +kernel) rfl rfl rfl (by decide +kernel)
set_option maxRecDepth 65536 in
theorem w_c15 : (Jvm.Cond.code ({ cls := "com/example/scheherazade/scheherazade/core/XmlName", name := "isSpelledBy", desc := "([BII)Z" } : Jvm.MethodName) prog_20_method_10_code (7 : Nat) (Option.some Jvm.ClassFile.FieldType.boolean)).before args0 about1 = true := code_word (m := ⟨2, 1⟩) (meth := k2m1) (c := k2c1) (by decide +kernel) rfl rfl rfl (by decide +kernel)
def codes1 : List Jvm.Cond := [Jvm.Cond.code x code maxLocals ret, Jvm.Cond.code ({ cls := "com/example/scheherazade/scheherazade/core/XmlName", name := "<init>", desc := "(Ljava/lang/String;[BIZ)V" } : Jvm.MethodName) prog_20_method_1_code (9 : Nat) (Option.none : Option Jvm.ClassFile.FieldType), Jvm.Cond.code ({ cls := "java/lang/Object", name := "<init>", desc := "()V" } : Jvm.MethodName) object_method_1_code (1 : Nat) (Option.none : Option Jvm.ClassFile.FieldType), Jvm.Cond.code ({ cls := "java/lang/Math", name := "min", desc := "(II)I" } : Jvm.MethodName) jdk_29_method_69_code (2 : Nat) (Option.some Jvm.ClassFile.FieldType.int), Jvm.Cond.code ({ cls := "java/lang/String", name := "indexOf", desc := "(I)I" } : Jvm.MethodName) jdk_42_method_79_code (2 : Nat) (Option.some Jvm.ClassFile.FieldType.int), Jvm.Cond.code ({ cls := "java/lang/String", name := "indexOf", desc := "(II)I" } : Jvm.MethodName) jdk_42_method_80_code (3 : Nat) (Option.some Jvm.ClassFile.FieldType.int), Jvm.Cond.code ({ cls := "java/lang/String", name := "isLatin1", desc := "()Z" } : Jvm.MethodName) jdk_42_method_154_code (1 : Nat) (Option.some Jvm.ClassFile.FieldType.boolean), Jvm.Cond.code ({ cls := "java/lang/String", name := "length", desc := "()I" } : Jvm.MethodName) jdk_42_method_54_code (1 : Nat) (Option.some Jvm.ClassFile.FieldType.int), Jvm.Cond.code ({ cls := "java/lang/String", name := "coder", desc := "()B" } : Jvm.MethodName) jdk_42_method_152_code (1 : Nat) (Option.some Jvm.ClassFile.FieldType.byte), Jvm.Cond.code ({ cls := "java/lang/StringLatin1", name := "indexOf", desc := "([BIII)I" } : Jvm.MethodName) jdk_43_method_22_code (4 : Nat) (Option.some Jvm.ClassFile.FieldType.int), Jvm.Cond.code ({ cls := "java/lang/StringLatin1", name := "canEncode", desc := "(I)Z" } : Jvm.MethodName) jdk_43_method_4_code (1 : Nat) (Option.some Jvm.ClassFile.FieldType.boolean), Jvm.Cond.code ({ cls := "java/lang/Math", name := "max", desc := "(II)I" } : Jvm.MethodName) jdk_29_method_65_code (2 : Nat) (Option.some Jvm.ClassFile.FieldType.int), Jvm.Cond.code ({ cls := "java/lang/StringLatin1", name := "indexOfChar", desc := "([BIII)I" } : Jvm.MethodName) jdk_43_method_23_code (6 : Nat) (Option.some Jvm.ClassFile.FieldType.int), Jvm.Cond.code ({ cls := "java/lang/String", name := "equals", desc := "(Ljava/lang/Object;)Z" } : Jvm.MethodName) jdk_42_method_66_code (3 : Nat) (Option.some Jvm.ClassFile.FieldType.boolean), Jvm.Cond.code ({ cls := "java/lang/StringLatin1", name := "equals", desc := "([B[B)Z" } : Jvm.MethodName) jdk_43_method_13_code (3 : Nat) (Option.some Jvm.ClassFile.FieldType.boolean), Jvm.Cond.code ({ cls := "com/example/scheherazade/scheherazade/core/XmlName", name := "isSpelledBy", desc := "([BII)Z" } : Jvm.MethodName) prog_20_method_10_code (7 : Nat) (Option.some Jvm.ClassFile.FieldType.boolean)]
set_option maxRecDepth 65536 in
theorem codes_eq : words1.filter isCode = codes1 := rfl
theorem w_codes : ∀ c ∈ words1.filter isCode, c.before args0 about1 = true := by
  rw [codes_eq]
  intro c hc
  simp only [codes1, List.mem_cons, List.not_mem_nil, or_false] at hc
  rcases hc with rfl | rfl | rfl | rfl | rfl | rfl | rfl | rfl | rfl | rfl | rfl | rfl | rfl | rfl | rfl | rfl
  · exact w_c0
  · exact w_c1
  · exact w_c2
  · exact w_c3
  · exact w_c4
  · exact w_c5
  · exact w_c6
  · exact w_c7
  · exact w_c8
  · exact w_c9
  · exact w_c10
  · exact w_c11
  · exact w_c12
  · exact w_c13
  · exact w_c14
  · exact w_c15
set_option maxRecDepth 65536 in
theorem w_t1 : (words1.take 24).all (fun c => isCode c || c.before args0 about1) = true := by decide +kernel
set_option maxRecDepth 65536 in
theorem w_t2 : ((words1.drop 24).take 24).all (fun c => isCode c || c.before args0 about1) = true := by decide +kernel
set_option maxRecDepth 65536 in
theorem w_t3 : (((words1.drop 24).drop 24).take 24).all (fun c => isCode c || c.before args0 about1) = true := by decide +kernel
set_option maxRecDepth 65536 in
theorem w_t4 : ((((words1.drop 24).drop 24).drop 24).take 24).all (fun c => isCode c || c.before args0 about1) = true := by decide +kernel
set_option maxRecDepth 65536 in
theorem w_t5 : ((((words1.drop 24).drop 24).drop 24).drop 24).all (fun c => isCode c || c.before args0 about1) = true := by decide +kernel
theorem w_tables : (allAtoms (Jvm.Cond.code x code maxLocals ret :: tables_1)).before args0 about1 = true := by
  rw [allAtoms_all]
  show words1.all (fun c => c.before args0 about1) = true
  refine all_split ?_ w_codes
  rw [← List.take_append_drop 24 words1, List.all_append, w_t1, ← List.take_append_drop 24 (words1.drop 24), List.all_append, w_t2, ← List.take_append_drop 24 ((words1.drop 24).drop 24), List.all_append, w_t3, ← List.take_append_drop 24 (((words1.drop 24).drop 24).drop 24), List.all_append, w_t4, w_t5]
  rfl
set_option maxRecDepth 65536 in
theorem w_rest : rest_1_c.before args0 about1 = true := by decide +kernel
set_option maxRecDepth 65536 in
theorem w_case : (Jvm.Cond.and given_1 narrow_1).before args0 about1 = true := by decide +kernel
set_option maxRecDepth 65536 in
theorem w_consts : constsHeld consts_1 about1 := Jvm.Lit.constsHeldB_iff.mp (by decide +kernel)
theorem w_applies : (headSpec (Jvm.Cond.code x code maxLocals ret :: tables_1) room_1).applies x e0.platform about1 = true :=
  (Spec.applies_iff w_frames).mpr ⟨w_running, w_runnable, w_alone, w_named, w_hears, w_ripe, w_room, w_tables⟩
theorem atStart : AtStart classFile x code maxLocals ret World_1 tables_1 room_1 Calls_1 rest_1 Pre_1 launch0 p0 e0 about1 theMethod args0 below0 :=
  ⟨lists_1, trivial, launch0.admits_env _ _ _, launch0.least_env, fairChoices_fair.cas, fairChoices_fair.clock, w_frames, w_args, w_heap, w_applies, ⟨w_consts, trivial⟩, w_rest, w_case⟩
end start1
theorem witness_1 : WitnessClaimed_1 := ⟨start1.p0, start1.e0, start1.about1, start1.theMethod, start1.args0, start1.below0, start1.atStart⟩
end Jvm.Pilot.@@N@@
