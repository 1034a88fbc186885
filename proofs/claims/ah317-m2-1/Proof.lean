import JvmDerived
import JvmDerived.Pilot.@@N@@Statement
import JvmDerived.Pilot.@@N@@Code
set_option linter.unusedVariables false
set_option linter.unusedSimpArgs false
namespace Jvm.RoadKit
open Sem ClassFile Op Lib Jvm.Stand Jvm.Free Jvm.LawKit
section New
variable {p : Program} {l : Launch} {e : Env} {R : Room} {s : State} {m : MethodId} {args : Array Value} {below : List Frame} {meth : Method} {c : Code} {T : State} {locs : List Loc} {cells slots : Nat}
theorem retI (X : Stand p l e R s m args below meth c T locs cells slots) (hx : p.tables.exec = Jvm.exec) {pc : Nat} {Ls : Array Slot} {z : Int32} {rest : List Value} (hret : meth.sig.returnType = some .int) (hd : decode c.code pc = .ok (.ireturn, 1)) {fs : List Frame}
    (hl : ∀ (f : JFrame) (acts : List Action), f.method = m → f.locked = none → f.entered = [] → (doReturn e (T.setTop f) acts (some (.int z))).1 = T.setFrames fs) : Steps p.tables e below (T.setTop (mkF m pc Ls (.int z :: rest))) (T.setFrames fs) := by
  have hm' : T.vm.method? m = some meth := X.method'
  have hn : narrow .int (.int z) = .int z := rfl
  show Steps p.tables e below (T.setTop { method := m, pc := pc, locals := Ls, stack := _ :: rest, locked := none }) _
  jvm_step X.here [X.here.top, hx, hd, hm', hret, hn]
  first | (intro acts; rw [hl _ acts rfl rfl rfl]) | rw [hl _ _ rfl rfl rfl]
  exact Steps.refl _
end New
end Jvm.RoadKit
namespace Jvm.Pilot.@@N@@
open Jvm Jvm.ClassFile Sem Op Lib Jvm.Free Jvm.Stand Jvm.LawKit Jvm.RoadKit Bundle Jvm.Pilot.@@N@@.Jvm.D
/-! THE WALK's GOAL, AND ONE LAW A STEP (each in the form: where the run goes on, it ends well; so it does from here) -/
def Go (p : Program) (e : Env) (below : List Frame) (K : Outcome → State → Prop) (u : State) : Prop := ∃ s₂ o, Steps p.tables e below u s₂ ∧ s₂.status = .running ∧ Ended s₂ below o ∧ K o s₂
theorem Go.step {p : Program} {e : Env} {below : List Frame} {K : Outcome → State → Prop} {u u' : State} (h : ∀ t, Steps p.tables e below u' t → Steps p.tables e below u t) (g : Go p e below K u') : Go p e below K u := by
  obtain ⟨a, o, h1, h2⟩ := g; exact ⟨a, o, h _ h1, h2⟩
def Ends (s : State) (Q : Option Value → Heap → List Loc → Prop) (kc ks : Nat) (o : Outcome) (U : State) : Prop := ∃ v L, o = .returned v ∧ Q v U.heap L ∧ FrameEnd s o U L kc ks
/-- where the run stands, with all that a step asks -/
def Sx (Z : State) (own : String) (bytes : ByteArray) (ml : Nat) (p : Program) (l : Launch) (e : Env) (R : Room) (s : State) (m : MethodId) (args : Array Value) (below : List Frame) (meth : Method) (c : Code) (T : State) (locs : List Loc) (cells slots : Nat) (h : Heap) : Prop :=
  Stand p l e R s m args below meth c T locs cells slots ∧ p.tables.exec = Jvm.exec ∧ c.code = bytes ∧ c.maxLocals = ml ∧ s.vm.findClass own = some m.cls ∧ Z.Warmed39 s.vm ∧ T.heap = h
/-- what a method owes: called at the heap h0 with these arguments it returns, and Q holds -/
abbrev Rm (l : Launch) (Z : State) (y : MethodName) (bytes : ByteArray) (ml : Nat) (ret : Option FieldType) (ws : List Jvm.Cond) (rm : Room) (as' : Array Value) (h0 : Heap) (Q : Option Value → Heap → List Loc → Prop) : Prop :=
  MetFree l y (head1 (Jvm.Cond.code y bytes ml ret :: ws) rm) (fun a U => a = as' ∧ Z.Warmed39 U.vm ∧ U.heap = h0) (fun _ _ _ _ _ => True) (fun _ U o U' => ∃ v L, o = .returned v ∧ Q v U'.heap L ∧ FrameEnd U o U' L rm.cells rm.slots)
theorem Rm.of {l : Launch} {Z : State} {y : MethodName} {bytes : ByteArray} {ml : Nat} {ret : Option FieldType} {ws : List Jvm.Cond} {rm : Room} {as' : Array Value} {h0 : Heap} {Q : Option Value → Heap → List Loc → Prop} (hpl : plainFor y = true)
    (body : ∀ (p : Program) (e : Env) (s : State) (m : MethodId) (below : List Frame) (meth : Method) (c : Code) (T : State), Sx Z y.cls bytes ml p l e rm s m as' below meth c T [] 0 0 h0 → meth.name = y.name → meth.sig.returnType = ret → meth.locks = false → Go p e below (Ends s Q rm.cells rm.slots) (T.setTop (entryFrame m as' ml))) : Rm l Z y bytes ml ret ws rm as' h0 Q := by
  refine MetFree.of_bodySF hpl hisR ?_
  intro p e s m args below meth c s₁ Bd hml0 hP hK
  obtain ⟨rfl, hZ, hh⟩ := hP
  have X0 : Stand p l e rm s m args below meth c s₁ [] 0 0 := Stand.of_body Bd
  exact body p e s m below meth c s₁ ⟨X0, Bd.exec, Bd.bytes, hml0, findClass_of_methodNamed Bd.named, hZ, by rw [← hh, Bd.state]; rfl⟩ (name_of_methodNamed Bd.named Bd.method).1 Bd.returns (BodyLoose.notSynchronized Bd)
theorem Rm.weaken {l : Launch} {Z : State} {y : MethodName} {bytes : ByteArray} {ml : Nat} {ret : Option FieldType} {ws : List Jvm.Cond} {rm : Room} {as' : Array Value} {h0 : Heap} {Q Q' : Option Value → Heap → List Loc → Prop} (M : Rm l Z y bytes ml ret ws rm as' h0 Q) (hq : ∀ v h L, Q v h L → Q' v h L) : Rm l Z y bytes ml ret ws rm as' h0 Q' := by
  intro p e ha hc hk s m args below hf happ hP hK
  obtain ⟨n, o, h1, h2, h3, v, L, e1, q, r⟩ := M p e ha hc hk s m args below hf happ hP hK
  exact ⟨n, o, h1, h2, h3, v, L, e1, hq _ _ _ q, r⟩
/-- a boolean as an int -/
def b2i (b : Bool) : Int32 := if b then 1 else 0
theorem bne {b : Bool} (h : b = true) : ¬ b2i b = 0 := by subst h; decide
theorem Fr.one {k : Nat} {a : Addr} {sl : Nat} (g : k ≤ a) : Fr k [⟨a, sl⟩] := fun y hy => by cases List.mem_singleton.mp hy; exact g
/-- an array and all that it holds -/
def Av (Z : State) (h : Heap) (a : Addr) (ty : FieldType) (vs : List Value) : Prop := ∃ c : Cell, Arr Z h a c ty ∧ c.slots.toList = vs ∧ vs.length < 2147483648
section Facts
variable {Z : State} {h h' : Heap} {a b : Addr} {ty : FieldType} {vs : List Value} {sl : Nat} {v : Value} {ws : List Addr}
theorem Av.lt (F : Av Z h a ty vs) : a < h.size := by obtain ⟨c, A, -⟩ := F; exact A.lt
theorem Av.ext (F : Av Z h a ty vs) (E : Ext h h') : Av Z h' a ty vs := by obtain ⟨c, A, r⟩ := F; exact ⟨c, A.ext E, r⟩
theorem Av.other (F : Av Z h b ty vs) (W : Wr h h' a sl v) (q : b ≠ a) : Av Z h' b ty vs := by obtain ⟨c, A, r⟩ := F; exact ⟨c, A.other W q, r⟩
theorem Av.keep (F : Av Z h a ty vs) (K : Keep h h' ws) (q : a ∉ ws) : Av Z h' a ty vs := by obtain ⟨c, A, r⟩ := F; exact ⟨c, ⟨K.2.1 a c A.1 q, A.2⟩, r⟩
theorem Av.set (F : Av Z h a ty vs) (W : Wr h h' a sl v) : Av Z h' a ty (vs.set sl v) := by
  obtain ⟨c, A, e, r⟩ := F
  refine ⟨_, A.same W, ?_, by simpa using r⟩
  subst e
  simp [Cell.setSlot]
theorem Av.eq {vs' : List Value} (F : Av Z h a ty vs) (e : vs = vs') : Av Z h a ty vs' := e ▸ F
/-- an array of which the length is known alone -/
def AvN (Z : State) (h : Heap) (a : Addr) (ty : FieldType) (z : Int32) : Prop := ∃ vs, Av Z h a ty vs ∧ vs.length.toInt32 = z
theorem AvN.lt {z : Int32} (F : AvN Z h a ty z) : a < h.size := by obtain ⟨vs, A, -⟩ := F; exact A.lt
theorem AvN.ext {z : Int32} (F : AvN Z h a ty z) (E : Ext h h') : AvN Z h' a ty z := by obtain ⟨vs, A, r⟩ := F; exact ⟨vs, A.ext E, r⟩
theorem AvN.other {z : Int32} (F : AvN Z h b ty z) (W : Wr h h' a sl v) (q : b ≠ a) : AvN Z h' b ty z := by obtain ⟨vs, A, r⟩ := F; exact ⟨vs, A.other W q, r⟩
theorem AvN.keep {z : Int32} (F : AvN Z h a ty z) (K : Keep h h' ws) (q : a ∉ ws) : AvN Z h' a ty z := by obtain ⟨vs, A, r⟩ := F; exact ⟨vs, A.keep K q, r⟩
/-- an array over objects of the class C -/
def OvA (Z : State) (h : Heap) (a : Addr) (C : String) : Prop := ∃ cl : Cell, Arr Z h a cl (.object C) ∧ Ovr Z cl.cls C
theorem OvA.lt {C : String} (F : OvA Z h a C) : a < h.size := by obtain ⟨_, A, _⟩ := F; exact A.lt
theorem OvA.ext {C : String} (F : OvA Z h a C) (E : Ext h h') : OvA Z h' a C := by obtain ⟨cl, A, r⟩ := F; exact ⟨cl, A.ext E, r⟩
theorem OvA.keep {C : String} (F : OvA Z h a C) (K : Keep h h' ws) (q : a ∉ ws) : OvA Z h' a C := by obtain ⟨c, A, r⟩ := F; exact ⟨c, ⟨K.2.1 a c A.1 q, A.2⟩, r⟩
theorem OvA.wr {C : String} (F : OvA Z h a C) (W : Wr h h' b sl v) : OvA Z h' a C := by
  obtain ⟨cl, A, r⟩ := F
  by_cases q : a = b
  · subst q; exact ⟨_, A.same W, r⟩
  · exact ⟨cl, A.other W q, r⟩
theorem fit0 : ∀ v ∈ ([] : List Value), fits ty v = true := fun _ q => nomatch q
theorem fitS (q : fits ty v = true) (r : ∀ w ∈ vs, fits ty w = true) : ∀ w ∈ v :: vs, fits ty w = true := fun w hw => (List.mem_cons.mp hw).elim (fun e => e ▸ q) (r w)
theorem Sta.keep {C n d : String} (F : Sta Z h C n d v) (K : Keep h h' ws) (q : ∀ x ∈ ws, ∀ c : Cell, h[x]? = some c → c.vm.isStatics = false) : Sta Z h' C n d v := by
  obtain ⟨cf, i, k, f, st, cell, h1, h2, h3, h4, h5, h6, h7⟩ := F
  exact ⟨cf, i, k, f, st, cell, h1, h2, h3, h4, K.2.1 _ _ h5 (fun hm => by rw [q _ hm _ h5] at h6; cases h6), h6, h7⟩
end Facts
section Walk
variable {Z : State} {a0 : Array Value} {own : String} {bytes : ByteArray} {ml : Nat} {p : Program} {l : Launch} {e : Env} {R : Room} {s : State} {m : MethodId} {args : Array Value} {below : List Frame} {meth : Method} {c : Code} {T : State} {locs : List Loc} {cells slots : Nat} {h : Heap} {K : Outcome → State → Prop} {pc pc' : Nat} {Ls Ls' : Array Slot} {st : List Value}
theorem Go.lit32 {x z : Int32} (q : x = z) (k : Go p e below K (T.setTop (mkF m pc Ls (.int z :: st)))) : Go p e below K (T.setTop (mkF m pc Ls (.int x :: st))) := q ▸ k
theorem Go.at_ {f f' : JFrame} (q : f = f') (k : Go p e below K (T.setTop f')) : Go p e below K (T.setTop f) := q ▸ k
theorem g_iload (X : Sx Z own bytes ml p l e R s m args below meth c T locs cells slots h) {i : Nat} {v : Int32} (hd : decode bytes pc = .ok (.iload i, 2)) (hp : pc + 2 = pc') (hl : Ls[i]? = some (.val (.int v))) (k : Go p e below K (T.setTop (mkF m pc' Ls (.int v :: st)))) : Go p e below K (T.setTop (mkF m pc Ls (st))) := by
  subst hp; exact Go.step (fun t q => XS.iload X.1.here X.2.1 rfl (hb X.2.2.1 hd) hl q) k
theorem g_iloadN (X : Sx Z own bytes ml p l e R s m args below meth c T locs cells slots h) {i : Fin 4} {v : Int32} (hd : decode bytes pc = .ok (.iload_n i, 1)) (hp : pc + 1 = pc') (hl : Ls[i.val]? = some (.val (.int v))) (k : Go p e below K (T.setTop (mkF m pc' Ls (.int v :: st)))) : Go p e below K (T.setTop (mkF m pc Ls (st))) := by
  subst hp; exact Go.step (fun t q => XS.iloadN X.1.here X.2.1 rfl (hb X.2.2.1 hd) hl q) k
theorem g_lload (X : Sx Z own bytes ml p l e R s m args below meth c T locs cells slots h) {i : Nat} {v : Int64} (hd : decode bytes pc = .ok (.lload i, 2)) (hp : pc + 2 = pc') (hl : Ls[i]? = some (.val (.long v))) (k : Go p e below K (T.setTop (mkF m pc' Ls (.long v :: st)))) : Go p e below K (T.setTop (mkF m pc Ls (st))) := by
  subst hp; exact Go.step (fun t q => XS.lload X.1.here X.2.1 rfl (hb X.2.2.1 hd) hl q) k
theorem g_lloadN (X : Sx Z own bytes ml p l e R s m args below meth c T locs cells slots h) {i : Fin 4} {v : Int64} (hd : decode bytes pc = .ok (.lload_n i, 1)) (hp : pc + 1 = pc') (hl : Ls[i.val]? = some (.val (.long v))) (k : Go p e below K (T.setTop (mkF m pc' Ls (.long v :: st)))) : Go p e below K (T.setTop (mkF m pc Ls (st))) := by
  subst hp; exact Go.step (fun t q => XS.lloadN X.1.here X.2.1 rfl (hb X.2.2.1 hd) hl q) k
theorem g_aload (X : Sx Z own bytes ml p l e R s m args below meth c T locs cells slots h) {i : Nat} {v : Value} (hd : decode bytes pc = .ok (.aload i, 2)) (hp : pc + 2 = pc') (hl : Ls[i]? = some (.val v)) (hv : v.isRef = true) (k : Go p e below K (T.setTop (mkF m pc' Ls (v :: st)))) : Go p e below K (T.setTop (mkF m pc Ls (st))) := by
  subst hp; exact Go.step (fun t q => XS.aload X.1.here X.2.1 rfl (hb X.2.2.1 hd) hl hv q) k
theorem g_aloadN (X : Sx Z own bytes ml p l e R s m args below meth c T locs cells slots h) {i : Fin 4} {v : Value} (hd : decode bytes pc = .ok (.aload_n i, 1)) (hp : pc + 1 = pc') (hl : Ls[i.val]? = some (.val v)) (hv : v.isRef = true) (k : Go p e below K (T.setTop (mkF m pc' Ls (v :: st)))) : Go p e below K (T.setTop (mkF m pc Ls (st))) := by
  subst hp; exact Go.step (fun t q => XS.aloadN X.1.here X.2.1 rfl (hb X.2.2.1 hd) hl hv q) k
theorem g_istore (X : Sx Z own bytes ml p l e R s m args below meth c T locs cells slots h) {i : Nat} {v : Int32} (hd : decode bytes pc = .ok (.istore i, 2)) (hp : pc + 2 = pc') (hl : storeLocals Ls i (.int v) = some Ls') (k : Go p e below K (T.setTop (mkF m pc' Ls' (st)))) : Go p e below K (T.setTop (mkF m pc Ls (.int v :: st))) := by
  subst hp; exact Go.step (fun t q => XS.istore X.1.here X.2.1 rfl (hb X.2.2.1 hd) rfl hl q) k
theorem g_istoreN (X : Sx Z own bytes ml p l e R s m args below meth c T locs cells slots h) {i : Fin 4} {v : Int32} (hd : decode bytes pc = .ok (.istore_n i, 1)) (hp : pc + 1 = pc') (hl : storeLocals Ls i.val (.int v) = some Ls') (k : Go p e below K (T.setTop (mkF m pc' Ls' (st)))) : Go p e below K (T.setTop (mkF m pc Ls (.int v :: st))) := by
  subst hp; exact Go.step (fun t q => XS.istoreN X.1.here X.2.1 rfl (hb X.2.2.1 hd) rfl hl q) k
theorem g_lstore (X : Sx Z own bytes ml p l e R s m args below meth c T locs cells slots h) {i : Nat} {v : Int64} (hd : decode bytes pc = .ok (.lstore i, 2)) (hp : pc + 2 = pc') (hl : storeLocals Ls i (.long v) = some Ls') (k : Go p e below K (T.setTop (mkF m pc' Ls' (st)))) : Go p e below K (T.setTop (mkF m pc Ls (.long v :: st))) := by
  subst hp; exact Go.step (fun t q => XS.lstore X.1.here X.2.1 rfl (hb X.2.2.1 hd) rfl hl q) k
theorem g_astore (X : Sx Z own bytes ml p l e R s m args below meth c T locs cells slots h) {i : Nat} {v : Value} (hd : decode bytes pc = .ok (.astore i, 2)) (hp : pc + 2 = pc') (hv : v.isRef = true) (hl : storeLocals Ls i v = some Ls') (k : Go p e below K (T.setTop (mkF m pc' Ls' (st)))) : Go p e below K (T.setTop (mkF m pc Ls (v :: st))) := by
  subst hp; exact Go.step (fun t q => XS.astore X.1.here X.2.1 rfl (hb X.2.2.1 hd) rfl hv hl q) k
theorem g_iconst (X : Sx Z own bytes ml p l e R s m args below meth c T locs cells slots h) {i : Int} (v : Int32) (hd : decode bytes pc = .ok (.iconst i, 1)) (hp : pc + 1 = pc') (hv : Int32.ofInt i = v) (k : Go p e below K (T.setTop (mkF m pc' Ls (.int v :: st)))) : Go p e below K (T.setTop (mkF m pc Ls (st))) := by
  subst hv; subst hp; exact Go.step (fun t q => XS.iconst X.1.here X.2.1 rfl (hb X.2.2.1 hd)  q) k
theorem g_bipush (X : Sx Z own bytes ml p l e R s m args below meth c T locs cells slots h) {i : Int} (v : Int32) (hd : decode bytes pc = .ok (.bipush i, 2)) (hp : pc + 2 = pc') (hv : (Int8.ofInt i).toInt32 = v) (k : Go p e below K (T.setTop (mkF m pc' Ls (.int v :: st)))) : Go p e below K (T.setTop (mkF m pc Ls (st))) := by
  subst hv; subst hp; exact Go.step (fun t q => XS.bipush X.1.here X.2.1 rfl (hb X.2.2.1 hd)  q) k
theorem g_sipush (X : Sx Z own bytes ml p l e R s m args below meth c T locs cells slots h) {i : Int} (v : Int32) (hd : decode bytes pc = .ok (.sipush i, 3)) (hp : pc + 3 = pc') (hv : (Int16.ofInt i).toInt32 = v) (k : Go p e below K (T.setTop (mkF m pc' Ls (.int v :: st)))) : Go p e below K (T.setTop (mkF m pc Ls (st))) := by
  subst hv; subst hp; exact Go.step (fun t q => XS.sipush X.1.here X.2.1 rfl (hb X.2.2.1 hd)  q) k
theorem g_lconst (X : Sx Z own bytes ml p l e R s m args below meth c T locs cells slots h) {i : Fin 2} (v : Int64) (hd : decode bytes pc = .ok (.lconst i, 1)) (hp : pc + 1 = pc') (hv : Int64.ofNat i = v) (k : Go p e below K (T.setTop (mkF m pc' Ls (.long v :: st)))) : Go p e below K (T.setTop (mkF m pc Ls (st))) := by
  subst hv; subst hp; exact Go.step (fun t q => XS.lconst X.1.here X.2.1 rfl (hb X.2.2.1 hd)  q) k
theorem g_ldcw (X : Sx Z own bytes ml p l e R s m args below meth c T locs cells slots h) {i : Nat} {v : Int32} (w : (Cond.constant own i v).before a0 Z = true) (hd : decode bytes pc = .ok (.ldc_w i, 3)) (hp : pc + 3 = pc') (k : Go p e below K (T.setTop (mkF m pc' Ls (.int v :: st)))) : Go p e below K (T.setTop (mkF m pc Ls (st))) := by
  subst hp; exact Go.step (fun t q => X.1.ldcwInt X.2.1 X.2.2.2.2.1 (mvT X.2.2.2.2.2.1 w) (g := mkF m pc Ls st) rfl (hb X.2.2.1 hd) _ q) k
theorem g_ldc2 (X : Sx Z own bytes ml p l e R s m args below meth c T locs cells slots h) {i : Nat} {v : Int64} (w : (Cond.constantLong own i v).before a0 Z = true) (hd : decode bytes pc = .ok (.ldc2_w i, 3)) (hp : pc + 3 = pc') (k : Go p e below K (T.setTop (mkF m pc' Ls (.long v :: st)))) : Go p e below K (T.setTop (mkF m pc Ls (st))) := by
  subst hp; exact Go.step (fun t q => X.1.ldc2Long X.2.1 X.2.2.2.2.1 (mvT X.2.2.2.2.2.1 w) (g := mkF m pc Ls st) rfl (hb X.2.2.1 hd) _ q) k
theorem g_iadd (X : Sx Z own bytes ml p l e R s m args below meth c T locs cells slots h) {x y : Int32} (hd : decode bytes pc = .ok (.iadd, 1)) (hp : pc + 1 = pc') (k : Go p e below K (T.setTop (mkF m pc' Ls (.int (x + y) :: st)))) : Go p e below K (T.setTop (mkF m pc Ls (.int y :: .int x :: st))) := by
  subst hp; exact Go.step (fun t q => XS.iadd X.1.here X.2.1 rfl (hb X.2.2.1 hd) rfl q) k
theorem g_isub (X : Sx Z own bytes ml p l e R s m args below meth c T locs cells slots h) {x y : Int32} (hd : decode bytes pc = .ok (.isub, 1)) (hp : pc + 1 = pc') (k : Go p e below K (T.setTop (mkF m pc' Ls (.int (x - y) :: st)))) : Go p e below K (T.setTop (mkF m pc Ls (.int y :: .int x :: st))) := by
  subst hp; exact Go.step (fun t q => XS.isub X.1.here X.2.1 rfl (hb X.2.2.1 hd) rfl q) k
theorem g_iushr (X : Sx Z own bytes ml p l e R s m args below meth c T locs cells slots h) {x y : Int32} (hd : decode bytes pc = .ok (.iushr, 1)) (hp : pc + 1 = pc') (k : Go p e below K (T.setTop (mkF m pc' Ls (.int ((x.toUInt32 >>> (y &&& 31).toUInt32).toInt32) :: st)))) : Go p e below K (T.setTop (mkF m pc Ls (.int y :: .int x :: st))) := by
  subst hp; exact Go.step (fun t q => XS.iushr X.1.here X.2.1 rfl (hb X.2.2.1 hd) rfl q) k
theorem g_ladd (X : Sx Z own bytes ml p l e R s m args below meth c T locs cells slots h) {x y : Int64} (hd : decode bytes pc = .ok (.ladd, 1)) (hp : pc + 1 = pc') (k : Go p e below K (T.setTop (mkF m pc' Ls (.long (x + y) :: st)))) : Go p e below K (T.setTop (mkF m pc Ls (.long y :: .long x :: st))) := by
  subst hp; exact Go.step (fun t q => XS.ladd X.1.here X.2.1 rfl (hb X.2.2.1 hd) rfl q) k
theorem g_lsub (X : Sx Z own bytes ml p l e R s m args below meth c T locs cells slots h) {x y : Int64} (hd : decode bytes pc = .ok (.lsub, 1)) (hp : pc + 1 = pc') (k : Go p e below K (T.setTop (mkF m pc' Ls (.long (x - y) :: st)))) : Go p e below K (T.setTop (mkF m pc Ls (.long y :: .long x :: st))) := by
  subst hp; exact Go.step (fun t q => XS.lsub X.1.here X.2.1 rfl (hb X.2.2.1 hd) rfl q) k
theorem g_lmul (X : Sx Z own bytes ml p l e R s m args below meth c T locs cells slots h) {x y : Int64} (hd : decode bytes pc = .ok (.lmul, 1)) (hp : pc + 1 = pc') (k : Go p e below K (T.setTop (mkF m pc' Ls (.long (x * y) :: st)))) : Go p e below K (T.setTop (mkF m pc Ls (.long y :: .long x :: st))) := by
  subst hp; exact Go.step (fun t q => XS.lmul X.1.here X.2.1 rfl (hb X.2.2.1 hd) rfl q) k
theorem g_land (X : Sx Z own bytes ml p l e R s m args below meth c T locs cells slots h) {x y : Int64} (hd : decode bytes pc = .ok (.land, 1)) (hp : pc + 1 = pc') (k : Go p e below K (T.setTop (mkF m pc' Ls (.long (x &&& y) :: st)))) : Go p e below K (T.setTop (mkF m pc Ls (.long y :: .long x :: st))) := by
  subst hp; exact Go.step (fun t q => XS.land X.1.here X.2.1 rfl (hb X.2.2.1 hd) rfl q) k
theorem g_lor (X : Sx Z own bytes ml p l e R s m args below meth c T locs cells slots h) {x y : Int64} (hd : decode bytes pc = .ok (.lor, 1)) (hp : pc + 1 = pc') (k : Go p e below K (T.setTop (mkF m pc' Ls (.long (x ||| y) :: st)))) : Go p e below K (T.setTop (mkF m pc Ls (.long y :: .long x :: st))) := by
  subst hp; exact Go.step (fun t q => XS.lor X.1.here X.2.1 rfl (hb X.2.2.1 hd) rfl q) k
theorem g_lshl (X : Sx Z own bytes ml p l e R s m args below meth c T locs cells slots h) {x : Int64} {y : Int32} (hd : decode bytes pc = .ok (.lshl, 1)) (hp : pc + 1 = pc') (k : Go p e below K (T.setTop (mkF m pc' Ls (.long (x <<< (y &&& 0x3f).toInt64) :: st)))) : Go p e below K (T.setTop (mkF m pc Ls (.int y :: .long x :: st))) := by
  subst hp; exact Go.step (fun t q => XS.lshl X.1.here X.2.1 rfl (hb X.2.2.1 hd) rfl q) k
theorem g_lushr (X : Sx Z own bytes ml p l e R s m args below meth c T locs cells slots h) {x : Int64} {y : Int32} (hd : decode bytes pc = .ok (.lushr, 1)) (hp : pc + 1 = pc') (k : Go p e below K (T.setTop (mkF m pc' Ls (.long ((x.toUInt64 >>> (y &&& 0x3f).toInt64.toUInt64).toInt64) :: st)))) : Go p e below K (T.setTop (mkF m pc Ls (.int y :: .long x :: st))) := by
  subst hp; exact Go.step (fun t q => XS.lushr X.1.here X.2.1 rfl (hb X.2.2.1 hd) rfl q) k
theorem g_lrem (X : Sx Z own bytes ml p l e R s m args below meth c T locs cells slots h) {x y : Int64} (hd : decode bytes pc = .ok (.lrem, 1)) (hp : pc + 1 = pc') (hy : y ≠ 0) (k : Go p e below K (T.setTop (mkF m pc' Ls (.long (x % y) :: st)))) : Go p e below K (T.setTop (mkF m pc Ls (.long y :: .long x :: st))) := by
  rw [← lrem_mod] at k; subst hp; exact Go.step (fun t q => XS.lrem X.1.here X.2.1 rfl (hb X.2.2.1 hd) rfl hy q) k
theorem g_lcmp (X : Sx Z own bytes ml p l e R s m args below meth c T locs cells slots h) {x y : Int64} (hd : decode bytes pc = .ok (.lcmp, 1)) (hp : pc + 1 = pc') (k : Go p e below K (T.setTop (mkF m pc' Ls (.int (lcmpW x y) :: st)))) : Go p e below K (T.setTop (mkF m pc Ls (.long y :: .long x :: st))) := by
  subst hp; exact Go.step (fun t q => XS.lcmp X.1.here X.2.1 rfl (hb X.2.2.1 hd) rfl q) k
theorem g_i2l (X : Sx Z own bytes ml p l e R s m args below meth c T locs cells slots h) {x : Int32} (hd : decode bytes pc = .ok (.i2l, 1)) (hp : pc + 1 = pc') (k : Go p e below K (T.setTop (mkF m pc' Ls (.long (x.toInt64) :: st)))) : Go p e below K (T.setTop (mkF m pc Ls (.int x :: st))) := by
  subst hp; exact Go.step (fun t q => XS.i2l X.1.here X.2.1 rfl (hb X.2.2.1 hd) rfl q) k
theorem g_l2i (X : Sx Z own bytes ml p l e R s m args below meth c T locs cells slots h) {x : Int64} (hd : decode bytes pc = .ok (.l2i, 1)) (hp : pc + 1 = pc') (k : Go p e below K (T.setTop (mkF m pc' Ls (.int (x.toInt32) :: st)))) : Go p e below K (T.setTop (mkF m pc Ls (.long x :: st))) := by
  subst hp; exact Go.step (fun t q => XS.l2i X.1.here X.2.1 rfl (hb X.2.2.1 hd) rfl q) k
theorem g_iinc (X : Sx Z own bytes ml p l e R s m args below meth c T locs cells slots h) {i : Nat} {q x : Int32} {n : Int} (hd : decode bytes pc = .ok (.iinc i n, 3)) (hp : pc + 3 = pc') (hq : Int32.ofInt n = q) (hl : Ls[i]? = some (.val (.int x))) (hl' : storeLocals Ls i (.int (x + q)) = some Ls') (k : Go p e below K (T.setTop (mkF m pc' Ls' (st)))) : Go p e below K (T.setTop (mkF m pc Ls (st))) := by
  subst hq; subst hp; exact Go.step (fun t q => XS.iinc X.1.here X.2.1 rfl (hb X.2.2.1 hd) hl hl' q) k
theorem g_dup (X : Sx Z own bytes ml p l e R s m args below meth c T locs cells slots h) {v : Value} (hd : decode bytes pc = .ok (.dup, 1)) (hp : pc + 1 = pc') (hc : v.category = 1) (k : Go p e below K (T.setTop (mkF m pc' Ls (v :: v :: st)))) : Go p e below K (T.setTop (mkF m pc Ls (v :: st))) := by
  subst hp; exact Go.step (fun t q => XS.dup X.1.here X.2.1 rfl (hb X.2.2.1 hd) rfl hc q) k
theorem g_dup2 (X : Sx Z own bytes ml p l e R s m args below meth c T locs cells slots h) {v w : Value} (hd : decode bytes pc = .ok (.dup2, 1)) (hp : pc + 1 = pc') (hc : v.category = 1) (hc' : w.category = 1) (k : Go p e below K (T.setTop (mkF m pc' Ls (v :: w :: v :: w :: st)))) : Go p e below K (T.setTop (mkF m pc Ls (v :: w :: st))) := by
  subst hp; exact Go.step (fun t q => Jvm.Free.XT.dup2 X.1.here X.2.1 rfl (hb X.2.2.1 hd) rfl hc hc' q) k
theorem g_goto (X : Sx Z own bytes ml p l e R s m args below meth c T locs cells slots h) {o : Int} (hd : decode bytes pc = .ok (.goto o, 3)) (ho : 0 ≤ (pc : Int) + o) (hp : ((pc : Int) + o).toNat = pc') (k : Go p e below K (T.setTop (mkF m pc' Ls (st)))) : Go p e below K (T.setTop (mkF m pc Ls (st))) := by
  exact Go.step (fun t q => XS.goto X.1.here X.2.1 rfl rfl (hb X.2.2.1 hd) ho hp q) k
theorem g_ifY (X : Sx Z own bytes ml p l e R s m args below meth c T locs cells slots h) {cd : ClassFile.Cond} {x : Int32} {o : Int} (hd : decode bytes pc = .ok (.ifCond cd o, 3)) (hc : ifCond.holds cd x = true) (ho : 0 ≤ (pc : Int) + o) (hp : ((pc : Int) + o).toNat = pc') (k : Go p e below K (T.setTop (mkF m pc' Ls (st)))) : Go p e below K (T.setTop (mkF m pc Ls (.int x :: st))) := by
  exact Go.step (fun t q => XS.ifYes X.1.here X.2.1 rfl rfl (hb X.2.2.1 hd) rfl hc ho hp q) k
theorem g_ifN (X : Sx Z own bytes ml p l e R s m args below meth c T locs cells slots h) {cd : ClassFile.Cond} {x : Int32} {o : Int} (hd : decode bytes pc = .ok (.ifCond cd o, 3)) (hc : ifCond.holds cd x = false) (hp : pc + 3 = pc') (k : Go p e below K (T.setTop (mkF m pc' Ls (st)))) : Go p e below K (T.setTop (mkF m pc Ls (.int x :: st))) := by
  subst hp; exact Go.step (fun t q => XS.ifNo X.1.here X.2.1 rfl (hb X.2.2.1 hd) rfl hc q) k
theorem g_icY (X : Sx Z own bytes ml p l e R s m args below meth c T locs cells slots h) {cd : ClassFile.Cond} {x y : Int32} {o : Int} (hd : decode bytes pc = .ok (.if_icmp cd o, 3)) (hc : if_icmp.holds cd x y = true) (ho : 0 ≤ (pc : Int) + o) (hp : ((pc : Int) + o).toNat = pc') (k : Go p e below K (T.setTop (mkF m pc' Ls (st)))) : Go p e below K (T.setTop (mkF m pc Ls (.int y :: .int x :: st))) := by
  exact Go.step (fun t q => XS.icmpYes X.1.here X.2.1 rfl rfl (hb X.2.2.1 hd) rfl hc ho hp q) k
theorem g_icN (X : Sx Z own bytes ml p l e R s m args below meth c T locs cells slots h) {cd : ClassFile.Cond} {x y : Int32} {o : Int} (hd : decode bytes pc = .ok (.if_icmp cd o, 3)) (hc : if_icmp.holds cd x y = false) (hp : pc + 3 = pc') (k : Go p e below K (T.setTop (mkF m pc' Ls (st)))) : Go p e below K (T.setTop (mkF m pc Ls (.int y :: .int x :: st))) := by
  subst hp; exact Go.step (fun t q => XS.icmpNo X.1.here X.2.1 rfl (hb X.2.2.1 hd) rfl hc q) k
theorem g_iaload (X : Sx Z own bytes ml p l e R s m args below meth c T locs cells slots h) {a : Addr} {vs : List Value} {j : Int32} {x : Int32} (A : Av Z h a .int vs) (n : Nat) (hd : decode bytes pc = .ok (.iaload, 1)) (hp : pc + 1 = pc') (hj : ¬ j < 0) (hn : j.toNatClampNeg = n) (hv : vs[n]? = some (.int x)) (k : Go p e below K (T.setTop (mkF m pc' Ls (.int x :: st)))) : Go p e below K (T.setTop (mkF m pc Ls (.int j :: .ref a :: st))) := by
  obtain ⟨cl, A, rfl, r⟩ := A; subst hn; subst hp
  have hv' : cl.slots[j.toNatClampNeg]? = some (.int x) := by rw [← Array.getElem?_toList]; exact hv
  exact Go.step (fun t q => X.1.iaload X.2.1 (j := j) (by rw [X.2.2.2.2.2.2]; exact A.1) (State.isArrayOf_alike X.2.2.2.2.2.1.alike A.2.1) A.2.2 (fun hh => hh.elim hj (fun hh => absurd (Array.getElem?_eq_some_iff.mp hv').1 (Nat.not_lt.mpr hh))) hv' (g := mkF m pc Ls (.int j :: .ref a :: st)) rfl rfl (hb X.2.2.1 hd) _ q) k
theorem g_laload (X : Sx Z own bytes ml p l e R s m args below meth c T locs cells slots h) {a : Addr} {vs : List Value} {j : Int32} {x : Int64} (A : Av Z h a .long vs) (n : Nat) (hd : decode bytes pc = .ok (.laload, 1)) (hp : pc + 1 = pc') (hj : ¬ j < 0) (hn : j.toNatClampNeg = n) (hv : vs[n]? = some (.long x)) (k : Go p e below K (T.setTop (mkF m pc' Ls (.long x :: st)))) : Go p e below K (T.setTop (mkF m pc Ls (.int j :: .ref a :: st))) := by
  obtain ⟨cl, A, rfl, r⟩ := A; subst hn; subst hp
  have hv' : cl.slots[j.toNatClampNeg]? = some (.long x) := by rw [← Array.getElem?_toList]; exact hv
  exact Go.step (fun t q => X.1.laload X.2.1 (j := j) (by rw [X.2.2.2.2.2.2]; exact A.1) (State.isArrayOf_alike X.2.2.2.2.2.1.alike A.2.1) A.2.2 (fun hh => hh.elim hj (fun hh => absurd (Array.getElem?_eq_some_iff.mp hv').1 (Nat.not_lt.mpr hh))) hv' (g := mkF m pc Ls (.int j :: .ref a :: st)) rfl rfl (hb X.2.2.1 hd) _ q) k
theorem g_arraylength (X : Sx Z own bytes ml p l e R s m args below meth c T locs cells slots h) {a : Addr} {vs : List Value} {ty : FieldType} (A : Av Z h a ty vs) (hd : decode bytes pc = .ok (.arraylength, 1)) (hp : pc + 1 = pc') {z : Int32} (hz : vs.length.toInt32 = z) (k : Go p e below K (T.setTop (mkF m pc' Ls (.int z :: st)))) : Go p e below K (T.setTop (mkF m pc Ls (.ref a :: st))) := by
  obtain ⟨cl, A, rfl, r⟩ := A; subst hp
  rw [Array.length_toList] at hz; subst hz
  exact Go.step (fun t q => X.1.arraylength X.2.1 (by rw [X.2.2.2.2.2.2]; exact A.1) (State.isArrayOf_alike X.2.2.2.2.2.1.alike A.2.1) (g := mkF m pc Ls (.ref a :: st)) rfl rfl (hb X.2.2.1 hd) _ q) k
theorem g_iastore (X : Sx Z own bytes ml p l e R s m args below meth c T locs cells slots h) {a : Addr} {vs : List Value} {j : Int32} {x : Int32} (A : Av Z h a .int vs) (n : Nat) (hd : decode bytes pc = .ok (.iastore, 1)) (hp : pc + 1 = pc') (hj : ¬ j < 0) (hn : j.toNatClampNeg = n) (hlt : n < vs.length) (k : ∀ T' h', Sx Z own bytes ml p l e R s m args below meth c T' (locs ++ [⟨a, n⟩]) cells slots h' → Wr h h' a n (.int x) → Av Z h' a .int (vs.set n (.int x)) → Go p e below K (T'.setTop (mkF m pc' Ls (st)))) : Go p e below K (T.setTop (mkF m pc Ls (.int x :: .int j :: .ref a :: st))) := by
  obtain ⟨cl, A, rfl, r⟩ := A; subst hn; subst hp
  obtain ⟨T', h', X', e', W, stp⟩ := stI X.1 X.2.1 X.2.2.2.2.2.1 X.2.2.2.2.2.2 A (j := j) (fun hh => hh.elim hj (fun hh => absurd hlt (by simpa using hh))) (g := mkF m pc Ls (.int x :: .int j :: .ref a :: st)) rfl rfl (hb X.2.2.1 hd)
  exact Go.step (fun t q => stp _ q) (k T' h' ⟨X', X.2.1, X.2.2.1, X.2.2.2.1, X.2.2.2.2.1, X.2.2.2.2.2.1, e'⟩ W (Av.set ⟨cl, A, rfl, r⟩ W))
theorem g_lastore (X : Sx Z own bytes ml p l e R s m args below meth c T locs cells slots h) {a : Addr} {vs : List Value} {j : Int32} {x : Int64} (A : Av Z h a .long vs) (n : Nat) (hd : decode bytes pc = .ok (.lastore, 1)) (hp : pc + 1 = pc') (hj : ¬ j < 0) (hn : j.toNatClampNeg = n) (hlt : n < vs.length) (k : ∀ T' h', Sx Z own bytes ml p l e R s m args below meth c T' (locs ++ [⟨a, n⟩]) cells slots h' → Wr h h' a n (.long x) → Av Z h' a .long (vs.set n (.long x)) → Go p e below K (T'.setTop (mkF m pc' Ls (st)))) : Go p e below K (T.setTop (mkF m pc Ls (.long x :: .int j :: .ref a :: st))) := by
  obtain ⟨cl, A, rfl, r⟩ := A; subst hn; subst hp
  obtain ⟨T', h', X', e', W, stp⟩ := stJ X.1 X.2.1 X.2.2.2.2.2.1 X.2.2.2.2.2.2 A (j := j) (fun hh => hh.elim hj (fun hh => absurd hlt (by simpa using hh))) (g := mkF m pc Ls (.long x :: .int j :: .ref a :: st)) rfl rfl (hb X.2.2.1 hd)
  exact Go.step (fun t q => stp _ q) (k T' h' ⟨X', X.2.1, X.2.2.1, X.2.2.2.1, X.2.2.2.2.1, X.2.2.2.2.2.1, e'⟩ W (Av.set ⟨cl, A, rfl, r⟩ W))
theorem g_newarray (X : Sx Z own bytes ml p l e R s m args below meth c T locs cells slots h) {aty : ArrayType} {z : Int32} {vs : List Value} {ad : String} (n : Nat) (w : (Cond.arrayClass (newarray.typeOf aty)).before a0 Z = true) (hd : decode bytes pc = .ok (.newarray aty, 2)) (hp : pc + 2 = pc') (hz : ¬ z < 0) (hn : z.toNatClampNeg = n) (cap : Nat) (hcap : n ≤ cap) (hbig : cap * 8 ≤ 536870912) (hc : cells + 1 ≤ R.cells) (hl : slots + cap ≤ R.slots) (hvs : List.replicate n (defaultValue (newarray.typeOf aty)) = vs) (had : "[" ++ (newarray.typeOf aty).toString = ad) (k : ∀ T' h' (a : Addr), a = h.size → Sx Z own bytes ml p l e R s m args below meth c T' locs (cells + 1) (slots + cap) h' → Ext h h' → Exa Z h' a ad → Av Z h' a (newarray.typeOf aty) vs → Go p e below K (T'.setTop (mkF m pc' Ls (.ref a :: st)))) : Go p e below K (T.setTop (mkF m pc Ls (.int z :: st))) := by
  subst hn; subst hp; subst hvs
  obtain ⟨T', h', cA, X', e', E, A, B, stp⟩ := newPE X.1 X.2.1 X.2.2.2.2.2.1 w X.2.2.2.2.2.2 (g := mkF m pc Ls (.int z :: st)) rfl (hb X.2.2.1 hd) rfl hz hcap hbig hc hl had
  refine Go.step (fun t q => stp _ q) (k T' h' _ rfl ⟨X', X.2.1, X.2.2.1, X.2.2.2.1, X.2.2.2.2.1, X.2.2.2.2.2.1, e'⟩ E B ⟨_, A, by simp [newA], ?_⟩)
  simp only [List.length_replicate]
  exact (back32 hz).2
theorem g_new (X : Sx Z own bytes ml p l e R s m args below meth c T locs cells slots h) {i n : Nat} {C : String} (w1 : (Cond.classLink own i C).before a0 Z = true) (w2 : (Cond.instantiable C n).before a0 Z = true) (w3 : (Cond.initialized C).before a0 Z = true) (hd : decode bytes pc = .ok (.new i, 3)) (hp : pc + 3 = pc') (hc : cells + 1 ≤ R.cells) (hl : slots + n ≤ R.slots) (k : ∀ T' h' (a : Addr), a = h.size → Sx Z own bytes ml p l e R s m args below meth c T' locs (cells + 1) (slots + n) h' → Ext h h' → Exa Z h' a C → (∀ {O nm d : String} {ty : FieldType}, Laid Z a0 C O nm d → parseFieldDescriptor d = some ty → Fld Z h' a O nm d (defaultValue ty)) → Go p e below K (T'.setTop (mkF m pc' Ls (.ref a :: st)))) : Go p e below K (T.setTop (mkF m pc Ls (st))) := by
  subst hp
  obtain ⟨T', h', X', e', E, A, D, -, stp⟩ := newO X.1 X.2.1 X.2.2.2.2.2.1 X.2.2.2.2.1 w1 w2 w3 X.2.2.2.2.2.2 (g := mkF m pc Ls st) rfl (hb X.2.2.1 hd) hc hl
  exact Go.step (fun t q => stp _ q) (k T' h' _ rfl ⟨X', X.2.1, X.2.2.1, X.2.2.2.1, X.2.2.2.2.1, X.2.2.2.2.2.1, e'⟩ E A D)
theorem g_getfield (X : Sx Z own bytes ml p l e R s m args below meth c T locs cells slots h) {i : Nat} {R0 O nm d host : String} {a : Addr} {v : Value} (w : (Cond.fieldLink own i R0 nm d).before a0 Z = true ∨ (Cond.fieldLinkNest own i R0 nm d host).before a0 Z = true) (via : Via Z R0 O nm d) (F : Fld Z h a O nm d v) (hd : decode bytes pc = .ok (.getfield i, 3)) (hp : pc + 3 = pc') (k : ∀ T', Sx Z own bytes ml p l e R s m args below meth c T' locs cells slots h → Go p e below K (T'.setTop (mkF m pc' Ls (v :: st)))) : Go p e below K (T.setTop (mkF m pc Ls (.ref a :: st))) := by
  subst hp
  obtain ⟨T', X', e', stp⟩ := getF X.1 X.2.1 X.2.2.2.2.2.1 X.2.2.2.2.1 w via X.2.2.2.2.2.2 F (g := mkF m pc Ls (.ref a :: st)) rfl rfl (hb X.2.2.1 hd)
  exact Go.step (fun t q => stp _ q) (k T' ⟨X', X.2.1, X.2.2.1, X.2.2.2.1, X.2.2.2.2.1, X.2.2.2.2.2.1, e'⟩)
theorem g_putfield (X : Sx Z own bytes ml p l e R s m args below meth c T locs cells slots h) {i kk : Nat} {R0 O nm d host C : String} {a : Addr} {v old : Value} {ty : FieldType} (w : (Cond.fieldLink own i R0 nm d).before a0 Z = true ∨ (Cond.fieldLinkNest own i R0 nm d host).before a0 Z = true) (via : Via Z R0 O nm d) (F : Fld Z h a O nm d old) (E : Exa Z h a C) (L : (Cond.lays C O nm d).before a0 Z = true ∨ ((Cond.laysFinal C O nm d).before a0 Z = true ∧ own = O ∧ meth.name = "<init>")) (wi : (Cond.instantiable C kk).before a0 Z = true) (hty : parseFieldDescriptor d = some ty) (hn : narrow ty v = v) (hf : fits ty v = true) (hd : decode bytes pc = .ok (.putfield i, 3)) (hp : pc + 3 = pc') (k : ∀ T' h', Sx Z own bytes ml p l e R s m args below meth c T' (locs ++ [⟨a, RoadKit.slotOf Z O nm d⟩]) cells slots h' → Wr h h' a (RoadKit.slotOf Z O nm d) v → Go p e below K (T'.setTop (mkF m pc' Ls (st)))) : Go p e below K (T.setTop (mkF m pc Ls (v :: .ref a :: st))) := by
  subst hp
  obtain ⟨T', h', X', e', W, stp⟩ := putF X.1 X.2.1 X.2.2.2.2.2.1 X.2.2.2.2.1 w via X.2.2.2.2.2.2 F E L wi hty hn hf (g := mkF m pc Ls (v :: .ref a :: st)) rfl rfl (hb X.2.2.1 hd)
  exact Go.step (fun t q => stp _ q) (k T' h' ⟨X', X.2.1, X.2.2.1, X.2.2.2.1, X.2.2.2.2.1, X.2.2.2.2.2.1, e'⟩ W)
theorem g_initO (X : Sx Z own bytes ml p l e R s m args below meth c T locs cells slots h) {i W : Nat} {a : Addr} (w1 : (Cond.methodLink own i Lib.objectInit).before a0 Z = true) (w2 : (Cond.instanceMethod Lib.objectInit).before a0 Z = true) (w3 : (Cond.code Lib.objectInit ⟨#[0xb1]⟩ 1 none).before a0 Z = true) (hd : decode bytes pc = .ok (.invokespecial i, 3)) (hp : pc + 3 = pc') (hsz : Ls.size = ml) (hf : 1 ≤ R.frames) (hW : (st.map fun v => v.category).sum ≤ W) (hl : W + 12 ≤ R.locals) (k : ∀ T', Sx Z own bytes ml p l e R s m args below meth c T' locs cells slots h → Go p e below K (T'.setTop (mkF m pc' Ls (st)))) : Go p e below K (T.setTop (mkF m pc Ls (.ref a :: st))) := by
  subst hp
  obtain ⟨T', X', e', stp⟩ := initO X.1 X.2.1 X.2.2.2.2.2.1 X.2.2.2.2.1 w1 w2 w3 X.2.2.2.2.2.2 (g := mkF m pc Ls (.ref a :: st)) rfl (by rw [X.2.2.2.1]; exact hsz) rfl (hb X.2.2.1 hd) hf (W := W) (by simpa using hW) hl
  exact Go.step (fun t q => stp _ q) (k T' ⟨X', X.2.1, X.2.2.1, X.2.2.2.1, X.2.2.2.2.1, X.2.2.2.2.2.1, e'⟩)
theorem g_checkcast (X : Sx Z own bytes ml p l e R s m args below meth c T locs cells slots h) {i : Nat} {K0 : String} {a : Addr} (w : (Cond.classLink own i K0).before a0 Z = true) (F : Ins Z h a K0 true) (hd : decode bytes pc = .ok (.checkcast i, 3)) (hp : pc + 3 = pc') (k : ∀ T', Sx Z own bytes ml p l e R s m args below meth c T' locs cells slots h → Go p e below K (T'.setTop (mkF m pc' Ls (.ref a :: st)))) : Go p e below K (T.setTop (mkF m pc Ls (.ref a :: st))) := by
  subst hp
  obtain ⟨T', X', e', stp⟩ := castY X.1 X.2.1 X.2.2.2.2.2.1 X.2.2.2.2.1 w X.2.2.2.2.2.2 F (g := mkF m pc Ls (.ref a :: st)) rfl rfl (hb X.2.2.1 hd)
  exact Go.step (fun t q => stp _ q) (k T' ⟨X', X.2.1, X.2.2.1, X.2.2.2.1, X.2.2.2.2.1, X.2.2.2.2.2.1, e'⟩)
theorem g_clone (X : Sx Z own bytes ml p l e R s m args below meth c T locs cells slots h) {i W : Nat} {ad : String} {a : Addr} {ty : FieldType} {vs : List Value} (w1 : (Cond.methodLink own i ⟨ad, "clone", "()Ljava/lang/Object;"⟩).before a0 Z = true) (w2 : (Cond.sameMethod ad "java/lang/Object" "clone" "()Ljava/lang/Object;").before a0 Z = true) (w3 : (Cond.native ⟨"java/lang/Object", "clone", "()Ljava/lang/Object;"⟩).before a0 Z = true) (w4 : (Cond.instanceMethod ⟨"java/lang/Object", "clone", "()Ljava/lang/Object;"⟩).before a0 Z = true) (w5 : (Cond.selects ad ⟨ad, "clone", "()Ljava/lang/Object;"⟩ ⟨"java/lang/Object", "clone", "()Ljava/lang/Object;"⟩).before a0 Z = true) (w6 : (Cond.castable ad "java/lang/Cloneable").before a0 Z = true) (A : Av Z h a ty vs) (E : Exa Z h a ad) (hfit : ∀ v ∈ vs, fits ty v = true) (hd : decode bytes pc = .ok (.invokevirtual i, 3)) (hp : pc + 3 = pc') (hsz : Ls.size = ml) (hf : 1 ≤ R.frames) (hW : (st.map fun v => v.category).sum ≤ W) (hl : W + 14 ≤ R.locals) (cap : Nat) (hcap : vs.length ≤ cap) (hc : cells + 1 ≤ R.cells) (hs : slots + cap ≤ R.slots) (k : ∀ T' h' (b : Addr), b = h.size → Sx Z own bytes ml p l e R s m args below meth c T' locs (cells + 1) (slots + cap) h' → Ext h h' → Exa Z h' b ad → Av Z h' b ty vs → Go p e below K (T'.setTop (mkF m pc' Ls (.ref b :: st)))) : Go p e below K (T.setTop (mkF m pc Ls (.ref a :: st))) := by
  subst hp
  obtain ⟨cl, A, rfl, r⟩ := A
  have FC : FitC Z cl := fitC_of A fun j hj v hv => hfit v (by rw [← Array.getElem?_toList] at hv; exact List.mem_of_getElem? hv)
  obtain ⟨T', h', X', e', Ex, A', E', stp⟩ := cloneA X.1 X.2.1 X.2.2.2.2.2.1 X.2.2.2.2.1 w1 w2 w3 w4 w5 w6 X.2.2.2.2.2.2 A E FC (g := mkF m pc Ls (.ref a :: st)) rfl (by rw [X.2.2.2.1]; exact hsz) rfl (hb X.2.2.1 hd) hf (W := W) (cap := cap) (by simpa using hW) hl (by simpa using hcap) hc hs
  exact Go.step (fun t q => stp _ q) (k T' h' _ rfl ⟨X', X.2.1, X.2.2.1, X.2.2.2.1, X.2.2.2.2.1, X.2.2.2.2.2.1, e'⟩ Ex E' ⟨_, A', rfl, r⟩)
theorem g_static (X : Sx Z own bytes ml p l e R s m args below meth c T locs cells slots h) {y : MethodName} {yb : ByteArray} {yl : Nat} {yr : Option FieldType} {rm : Room} {as' : Array Value} {Q : Option Value → Heap → List Loc → Prop} {i W : Nat} (argsL rest : List Value) (w1 : (Cond.methodLink own i y).before a0 Z = true) (w2 : (Cond.static y).before a0 Z = true) (w3 : (Cond.initialized y.cls).before a0 Z = true) (w4 : (Cond.code y yb yl yr).before a0 Z = true) (M : Rm l Z y yb yl yr [] rm as' h Q) (hd : decode bytes pc = .ok (.invokestatic i, 3)) (hp : pc + 3 = pc') (hy : y.cls ≠ "java/lang/invoke/MethodHandle" ∧ y.cls ≠ "java/lang/invoke/VarHandle") (hf : rm.frames + 1 ≤ R.frames) (hl : W + (yl + 11) + rm.locals ≤ R.locals) (hsz : Ls.size = ml) (ha : argsL.toArray = as') (hst : st = argsL.reverse ++ rest) (hlen : ∀ sig, parseMethodDescriptor y.desc = some sig → argsL.length = sig.parameters.length) (hW : (rest.map fun v => v.category).sum ≤ W) (hc : cells + rm.cells ≤ R.cells) (hs : slots + rm.slots ≤ R.slots) (k : ∀ v T' L, Sx Z own bytes ml p l e R s m args below meth c T' (locs ++ L) (cells + rm.cells) (slots + rm.slots) T'.heap → Q v T'.heap L → Go p e below K (T'.setTop (mkF m pc' Ls (v.toList ++ rest)))) : Go p e below K (T.setTop (mkF m pc Ls (st))) := by
  subst hp; subst hst
  have hZ := X.2.2.2.2.2.1
  obtain ⟨v, vm1, ⟨T', L', k', n'⟩, -, X', ⟨L, hQ, l1, l2, l3⟩, stp⟩ := Jvm.LawKit.callS X.1 X.2.1 X.2.2.2.2.1 (mvT hZ w1) (mvT hZ w2) (mvT hZ w3) (mvT hZ w4) hy (backOf (W := W) M hZ w4 w3 hf hl) (g := mkF m pc Ls (argsL.reverse ++ rest)) rfl (by rw [X.2.2.2.1]; exact hsz) (argsL := argsL) (rest := rest) hlen rfl (by simpa using hW) (hb X.2.2.1 hd) (fun _ _ => ⟨ha, X.2.2.2.2.2.2, hc, hs⟩)
  dsimp only [Pt.U, Pt.locs, Pt.cells, Pt.slots] at X' l1 l2 l3 stp hQ
  subst l1 l2 l3
  exact Go.step (fun t q => stp _ q) (k v T' L ⟨X', X.2.1, X.2.2.1, X.2.2.2.1, X.2.2.2.2.1, X.2.2.2.2.2.1, rfl⟩ hQ)
theorem g_special (X : Sx Z own bytes ml p l e R s m args below meth c T locs cells slots h) {y : MethodName} {yb : ByteArray} {yl : Nat} {rm : Room} {as' : Array Value} {Q : Option Value → Heap → List Loc → Prop} {i W : Nat} {a : Addr} (argsL rest : List Value) (hi : y.name = "<init>") (w1 : (Cond.methodLink own i y).before a0 Z = true) (w2 : (Cond.instanceMethod y).before a0 Z = true) (w3 : (Cond.initialized y.cls).before a0 Z = true) (w4 : (Cond.code y yb yl none).before a0 Z = true) (M : Rm l Z y yb yl none [] rm as' h Q) (hd : decode bytes pc = .ok (.invokespecial i, 3)) (hp : pc + 3 = pc') (hy : y.cls ≠ "java/lang/invoke/MethodHandle" ∧ y.cls ≠ "java/lang/invoke/VarHandle") (hf : rm.frames + 1 ≤ R.frames) (hl : W + (yl + 11) + rm.locals ≤ R.locals) (hsz : Ls.size = ml) (ha : (.ref a :: argsL).toArray = as') (hst : st = argsL.reverse ++ .ref a :: rest) (hlen : ∀ sig, parseMethodDescriptor y.desc = some sig → argsL.length = sig.parameters.length) (hW : (rest.map fun v => v.category).sum ≤ W) (hc : cells + rm.cells ≤ R.cells) (hs : slots + rm.slots ≤ R.slots) (k : ∀ v T' L, Sx Z own bytes ml p l e R s m args below meth c T' (locs ++ L) (cells + rm.cells) (slots + rm.slots) T'.heap → Q v T'.heap L → Go p e below K (T'.setTop (mkF m pc' Ls (v.toList ++ rest)))) : Go p e below K (T.setTop (mkF m pc Ls (st))) := by
  subst hp; subst hst
  have hZ := X.2.2.2.2.2.1
  obtain ⟨v, vm1, ⟨T', L', k', n'⟩, -, X', ⟨L, hQ, l1, l2, l3⟩, stp⟩ := X.1.specialBack X.2.1 (y := y) hi X.2.2.2.2.1 (mvT hZ w1) (mvT hZ w2) (mvT hZ w4) hy (backOf (W := W) M hZ w4 w3 hf hl) (g := mkF m pc Ls (argsL.reverse ++ .ref a :: rest)) rfl (by rw [X.2.2.2.1]; exact hsz) (Steps.refl _) (a := a) (argsL := argsL) (rest := rest) hlen rfl (by simpa using hW) (hb X.2.2.1 hd) (fun _ _ => ⟨ha, X.2.2.2.2.2.2, hc, hs⟩)
  dsimp only [Pt.U, Pt.locs, Pt.cells, Pt.slots] at X' l1 l2 l3 stp hQ
  subst l1 l2 l3
  exact Go.step (fun t q => stp.trans q) (k v T' L ⟨X', X.2.1, X.2.2.1, X.2.2.2.1, X.2.2.2.2.1, X.2.2.2.2.2.1, rfl⟩ hQ)
theorem g_virtual (X : Sx Z own bytes ml p l e R s m args below meth c T locs cells slots h) {y : MethodName} {yb : ByteArray} {yl : Nat} {yr : Option FieldType} {rm : Room} {as' : Array Value} {Q : Option Value → Heap → List Loc → Prop} {i W : Nat} {a : Addr} {C : String} (argsL rest : List Value) (E : Exa Z h a C) (w1 : (Cond.methodLink own i y).before a0 Z = true) (w2 : (Cond.declares y).before a0 Z = true) (w5 : (Cond.selects C y y).before a0 Z = true) (w6 : (Cond.instanceMethod y).before a0 Z = true) (w3 : (Cond.initialized y.cls).before a0 Z = true) (w4 : (Cond.code y yb yl yr).before a0 Z = true) (M : Rm l Z y yb yl yr [] rm as' h Q) (hd : decode bytes pc = .ok (.invokevirtual i, 3)) (hp : pc + 3 = pc') (hy : y.cls ≠ "java/lang/invoke/MethodHandle" ∧ y.cls ≠ "java/lang/invoke/VarHandle") (hf : rm.frames + 1 ≤ R.frames) (hl : W + (yl + 11) + rm.locals ≤ R.locals) (hsz : Ls.size = ml) (ha : (.ref a :: argsL).toArray = as') (hst : st = argsL.reverse ++ .ref a :: rest) (hlen : ∀ sig, parseMethodDescriptor y.desc = some sig → argsL.length = sig.parameters.length) (hW : (rest.map fun v => v.category).sum ≤ W) (hc : cells + rm.cells ≤ R.cells) (hs : slots + rm.slots ≤ R.slots) (k : ∀ v T' L, Sx Z own bytes ml p l e R s m args below meth c T' (locs ++ L) (cells + rm.cells) (slots + rm.slots) T'.heap → Q v T'.heap L → Go p e below K (T'.setTop (mkF m pc' Ls (v.toList ++ rest)))) : Go p e below K (T.setTop (mkF m pc Ls (st))) := by
  subst hp; subst hst
  have hZ := X.2.2.2.2.2.1
  obtain ⟨cq, kq, qa, qb, qc⟩ := isOf hZ X.2.2.2.2.2.2 E
  obtain ⟨v, vm1, ⟨T', L', k', n'⟩, -, X', ⟨L, hQ, l1, l2, l3⟩, stp⟩ := X.1.virtualBack X.2.1 (y := y) (z := y) X.2.2.2.2.1 (mvT hZ w1) (mvT hZ w2) (notFace_of_selects (args := #[]) (mvT hZ w5)) (mvT hZ w5) (mvT hZ w6) hy (backOf (W := W) M hZ w4 w3 hf hl) qa qc (g := mkF m pc Ls (argsL.reverse ++ .ref a :: rest)) rfl (by rw [X.2.2.2.1]; exact hsz) (Steps.refl _) (argsL := argsL) (rest := rest) hlen rfl (by simpa using hW) (hb X.2.2.1 hd) (fun _ _ => ⟨ha, X.2.2.2.2.2.2, hc, hs⟩)
  dsimp only [Pt.U, Pt.locs, Pt.cells, Pt.slots] at X' l1 l2 l3 stp hQ
  subst l1 l2 l3
  exact Go.step (fun t q => stp.trans q) (k v T' L ⟨X', X.2.1, X.2.2.1, X.2.2.2.1, X.2.2.2.2.1, X.2.2.2.2.2.1, rfl⟩ hQ)
theorem g_ireturn (X : Sx Z own bytes ml p l e R s m args below meth c T locs cells slots h) {Q : Option Value → Heap → List Loc → Prop} {kc ks : Nat} {z : Int32} (hd : decode bytes pc = .ok (.ireturn, 1)) (hret : meth.sig.returnType = some .int) (hlk : meth.locks = false) (hc : cells ≤ kc) (hs : slots ≤ ks) (q : Q (some (.int z)) h locs) : Go p e below (Ends s Q kc ks) (T.setTop (mkF m pc Ls (.int z :: st))) := by
  obtain ⟨fs, hr, hrun, hended, hW, hsame⟩ := X.1.leave (v := (some (.int z))) (fun h => by rw [hret] at h; cases h) hlk
  refine ⟨_, _, retI X.1 X.2.1 hret (hb X.2.2.1 hd) hr, hrun, hended, _, _, rfl, ?_, ⟨_, rfl⟩, hW, hsame.mono hc hs⟩
  show Q _ T.heap _
  rw [X.2.2.2.2.2.2]; exact q
theorem g_ireturnN (X : Sx Z own bytes ml p l e R s m args below meth c T locs cells slots h) {Q : Option Value → Heap → List Loc → Prop} {kc ks : Nat} {z : Int32} {t : FieldType} (ht : t = .boolean ∨ t = .byte ∨ t = .char ∨ t = .short) (hd : decode bytes pc = .ok (.ireturn, 1)) (hret : meth.sig.returnType = some t) (hlk : meth.locks = false) (hc : cells ≤ kc) (hs : slots ≤ ks) (q : Q (some (.int (nar t z))) h locs) : Go p e below (Ends s Q kc ks) (T.setTop (mkF m pc Ls (.int z :: st))) := by
  obtain ⟨fs, hr, hrun, hended, hW, hsame⟩ := X.1.leave (v := (some (.int (nar t z)))) (fun h => by rw [hret] at h; cases h) hlk
  refine ⟨_, _, retN X.1 X.2.1 hret ht (hb X.2.2.1 hd) hr, hrun, hended, _, _, rfl, ?_, ⟨_, rfl⟩, hW, hsame.mono hc hs⟩
  show Q _ T.heap _
  rw [X.2.2.2.2.2.2]; exact q
theorem g_return (X : Sx Z own bytes ml p l e R s m args below meth c T locs cells slots h) {Q : Option Value → Heap → List Loc → Prop} {kc ks : Nat} (hd : decode bytes pc = .ok (.return_, 1)) (hret : meth.sig.returnType = none) (hlk : meth.locks = false) (hc : cells ≤ kc) (hs : slots ≤ ks) (q : Q none h locs) : Go p e below (Ends s Q kc ks) (T.setTop (mkF m pc Ls ([]))) := by
  obtain ⟨fs, hr, hrun, hended, hW, hsame⟩ := X.1.leave (v := none) (fun _ => rfl) hlk
  refine ⟨_, _, X.1.returnOut X.2.1 hret (hb X.2.2.1 hd) hr, hrun, hended, _, _, rfl, ?_, ⟨_, rfl⟩, hW, hsame.mono hc hs⟩
  show Q _ T.heap _
  rw [X.2.2.2.2.2.2]; exact q
/-- two ways that meet again -/
theorem joinA {α : Type} (X : Sx Z own bytes ml p l e R s m args below meth c T locs cells slots h) (F : α → JFrame) (r : α → Prop) {f : JFrame} (k : ∀ (T' : State), Sx Z own bytes ml p l e R s m args below meth c T' locs cells slots h → ∀ v : α, r v → Go p e below K (T'.setTop (F v)))
    (b : (∀ (T' : State), Sx Z own bytes ml p l e R s m args below meth c T' locs cells slots h → ∀ v : α, r v → Go p e below K (T'.setTop (F v))) → Go p e below K (T.setTop f)) : Go p e below K (T.setTop f) := b k
end Walk
theorem narT : nar .boolean (1 : Int32) = b2i true := rfl
theorem narF : nar .boolean (0 : Int32) = b2i false := rfl
/-- the sheet's k-th word -/
theorem tb {a0 : Array Value} {Z : State} (hw : ∀ d ∈ tables_1, d.before a0 Z = true) (k : Nat) {d : Jvm.Cond} (hd : tables_1[k]? = some d) : d.before a0 Z = true := hw d (List.mem_of_getElem? hd)
/-- what a method says that writes and makes nothing: it returns this -/
def Pu (val : Value) (h0 : Heap) (v : Option Value) (h : Heap) (L : List Loc) : Prop := v = some val ∧ L = [] ∧ h = h0
theorem pureX {Z : State} {own : String} {bytes : ByteArray} {ml : Nat} {p : Program} {l : Launch} {e : Env} {R : Room} {s : State} {m : MethodId} {args : Array Value} {below : List Frame} {meth : Method} {c : Code} {T : State} {locs L : List Loc} {cells slots : Nat} {h : Heap} {val : Value} {v : Option Value}
    (X : Sx Z own bytes ml p l e R s m args below meth c T (locs ++ L) (cells + 0) (slots + 0) T.heap) (q : Pu val h v T.heap L) : v = some val ∧ Sx Z own bytes ml p l e R s m args below meth c T locs cells slots h := by
  obtain ⟨q1, rfl, q3⟩ := q
  rw [List.append_nil] at X
  exact ⟨q1, X.1, X.2.1, X.2.2.1, X.2.2.2.1, X.2.2.2.2.1, X.2.2.2.2.2.1, q3⟩
theorem d1_0 : decode jdk_29_method_69_code 0 = .ok (.iload_n 0, 1) := by decide +kernel
theorem d1_1 : decode jdk_29_method_69_code 1 = .ok (.iload_n 1, 1) := by decide +kernel
theorem d1_2 : decode jdk_29_method_69_code 2 = .ok (.if_icmp .gt 7, 3) := by decide +kernel
theorem d1_9 : decode jdk_29_method_69_code 9 = .ok (.iload_n 1, 1) := by decide +kernel
theorem d1_10 : decode jdk_29_method_69_code 10 = .ok (.ireturn, 1) := by decide +kernel
theorem d1_5 : decode jdk_29_method_69_code 5 = .ok (.iload_n 0, 1) := by decide +kernel
theorem d1_6 : decode jdk_29_method_69_code 6 = .ok (.goto 4, 3) := by decide +kernel
def fMin (i0 : Int32) (i1 : Int32) : Int32 := if i1 < i0 then (i1) else (i0)
theorem ef_rMin (m : MethodId) (x0 : Int32) (x1 : Int32) : entryFrame m #[(.int x0), (.int x1)] 2 = mkF m 0 #[.val (.int x0), .val (.int x1)] [] := by first | (simp [entryFrame, mkF, argsToLocals, Value.category]; done) | rfl
set_option maxRecDepth 65536 in
set_option maxHeartbeats 40000000 in
theorem rMin (l : Launch) (Z : State) (aa : Array Value) (hw : ∀ d ∈ tables_1, d.before aa Z = true) (ws : List Jvm.Cond) (i0 : Int32) (i1 : Int32) (h0 : Heap) :
    Rm l Z (⟨"java/lang/Math", "min", "(II)I"⟩ : MethodName) jdk_29_method_69_code 2 (some .int) ws ({ frames := 0, cells := 0, slots := 0, locals := 0 } : Room) #[(.int i0), (.int i1)] h0 (Pu (.int (fMin i0 i1)) h0) := by
 refine Rm.of (Jvm.Free.JP.mathPlain rfl (by decide +kernel)) ?_
 intro p e s m below meth cc T X hnm hret hlk
 refine Go.at_ (ef_rMin m i0 i1) ?_
 refine g_iloadN X d1_0 (pc' := 1) rfl rfl ?_
 refine g_iloadN X d1_1 (pc' := 2) rfl rfl ?_
 by_cases qa : i1 < i0
 refine g_icY X d1_2 (tlt qa).2.2.1 (pc' := 9) (by decide) (by decide) ?_
 refine g_iloadN X d1_9 (pc' := 10) rfl rfl ?_
 refine g_ireturn X d1_10 hret hlk (by decide) (by decide) ?_
 exact ⟨congrArg (fun z => some (Value.int z)) (Eq.symm (show fMin i0 i1 = _ from (Eq.trans (if_pos qa) rfl))), rfl, rfl⟩
 refine g_icN X d1_2 (flt qa).2.2.1 (pc' := 5) rfl ?_
 refine g_iloadN X d1_5 (pc' := 6) rfl rfl ?_
 refine g_goto X d1_6 (pc' := 10) (by decide) (by decide) ?_
 refine g_ireturn X d1_10 hret hlk (by decide) (by decide) ?_
 exact ⟨congrArg (fun z => some (Value.int z)) (Eq.symm (show fMin i0 i1 = _ from (Eq.trans (if_neg qa) rfl))), rfl, rfl⟩
theorem d2_0 : decode jdk_29_method_65_code 0 = .ok (.iload_n 0, 1) := by decide +kernel
theorem d2_1 : decode jdk_29_method_65_code 1 = .ok (.iload_n 1, 1) := by decide +kernel
theorem d2_2 : decode jdk_29_method_65_code 2 = .ok (.if_icmp .lt 7, 3) := by decide +kernel
theorem d2_9 : decode jdk_29_method_65_code 9 = .ok (.iload_n 1, 1) := by decide +kernel
theorem d2_10 : decode jdk_29_method_65_code 10 = .ok (.ireturn, 1) := by decide +kernel
theorem d2_5 : decode jdk_29_method_65_code 5 = .ok (.iload_n 0, 1) := by decide +kernel
theorem d2_6 : decode jdk_29_method_65_code 6 = .ok (.goto 4, 3) := by decide +kernel
def fMax (i0 : Int32) (i1 : Int32) : Int32 := if i0 < i1 then (i1) else (i0)
theorem ef_rMax (m : MethodId) (x0 : Int32) (x1 : Int32) : entryFrame m #[(.int x0), (.int x1)] 2 = mkF m 0 #[.val (.int x0), .val (.int x1)] [] := by first | (simp [entryFrame, mkF, argsToLocals, Value.category]; done) | rfl
set_option maxRecDepth 65536 in
set_option maxHeartbeats 40000000 in
theorem rMax (l : Launch) (Z : State) (aa : Array Value) (hw : ∀ d ∈ tables_1, d.before aa Z = true) (ws : List Jvm.Cond) (i0 : Int32) (i1 : Int32) (h0 : Heap) :
    Rm l Z (⟨"java/lang/Math", "max", "(II)I"⟩ : MethodName) jdk_29_method_65_code 2 (some .int) ws ({ frames := 0, cells := 0, slots := 0, locals := 0 } : Room) #[(.int i0), (.int i1)] h0 (Pu (.int (fMax i0 i1)) h0) := by
 refine Rm.of (Jvm.Free.JP.mathPlain rfl (by decide +kernel)) ?_
 intro p e s m below meth cc T X hnm hret hlk
 refine Go.at_ (ef_rMax m i0 i1) ?_
 refine g_iloadN X d2_0 (pc' := 1) rfl rfl ?_
 refine g_iloadN X d2_1 (pc' := 2) rfl rfl ?_
 by_cases qa : i0 < i1
 refine g_icY X d2_2 (tlt qa).1 (pc' := 9) (by decide) (by decide) ?_
 refine g_iloadN X d2_9 (pc' := 10) rfl rfl ?_
 refine g_ireturn X d2_10 hret hlk (by decide) (by decide) ?_
 exact ⟨congrArg (fun z => some (Value.int z)) (Eq.symm (show fMax i0 i1 = _ from (Eq.trans (if_pos qa) rfl))), rfl, rfl⟩
 refine g_icN X d2_2 (flt qa).1 (pc' := 5) rfl ?_
 refine g_iloadN X d2_5 (pc' := 6) rfl rfl ?_
 refine g_goto X d2_6 (pc' := 10) (by decide) (by decide) ?_
 refine g_ireturn X d2_10 hret hlk (by decide) (by decide) ?_
 exact ⟨congrArg (fun z => some (Value.int z)) (Eq.symm (show fMax i0 i1 = _ from (Eq.trans (if_neg qa) rfl))), rfl, rfl⟩
theorem pn_0 : plainName "com/example/ryazan/ryazan/language/LayoutPackPinLaw" = true := by first | (simp [plainName, overriddenIn]; done) | decide +kernel
theorem d8_0 : decode method_2_code 0 = .ok (.iload_n 3, 1) := by decide +kernel
theorem d8_1 : decode method_2_code 1 = .ok (.i2l, 1) := by decide +kernel
theorem d8_2 : decode method_2_code 2 = .ok (.iload_n 2, 1) := by decide +kernel
theorem d8_3 : decode method_2_code 3 = .ok (.i2l, 1) := by decide +kernel
theorem d8_4 : decode method_2_code 4 = .ok (.lsub, 1) := by decide +kernel
theorem d8_5 : decode method_2_code 5 = .ok (.lstore 4, 2) := by decide +kernel
theorem d8_7 : decode method_2_code 7 = .ok (.lload_n 0, 1) := by decide +kernel
theorem d8_8 : decode method_2_code 8 = .ok (.ldc2_w 9, 3) := by decide +kernel
theorem d8_11 : decode method_2_code 11 = .ok (.land, 1) := by decide +kernel
theorem d8_12 : decode method_2_code 12 = .ok (.lload 4, 2) := by decide +kernel
theorem d8_14 : decode method_2_code 14 = .ok (.lconst 1, 1) := by decide +kernel
theorem d8_15 : decode method_2_code 15 = .ok (.ladd, 1) := by decide +kernel
theorem d8_16 : decode method_2_code 16 = .ok (.lrem, 1) := by decide +kernel
theorem d8_17 : decode method_2_code 17 = .ok (.lstore 6, 2) := by decide +kernel
theorem d8_19 : decode method_2_code 19 = .ok (.iload_n 2, 1) := by decide +kernel
theorem d8_20 : decode method_2_code 20 = .ok (.i2l, 1) := by decide +kernel
theorem d8_21 : decode method_2_code 21 = .ok (.lload 6, 2) := by decide +kernel
theorem d8_23 : decode method_2_code 23 = .ok (.ladd, 1) := by decide +kernel
theorem d8_24 : decode method_2_code 24 = .ok (.l2i, 1) := by decide +kernel
theorem d8_25 : decode method_2_code 25 = .ok (.ireturn, 1) := by decide +kernel
def fPick (j0 : Int64) (i1 : Int32) (i2 : Int32) : Int32 := let v5_1 : Int64 := ((i2.toInt64) - (i1.toInt64)); let v17_2 : Int64 := ((j0 &&& (9223372036854775807 : Int64)) % (v5_1 + (1 : Int64))); (((i1.toInt64) + v17_2).toInt32)
theorem ef_rPick (m : MethodId) (x0 : Int64) (x1 : Int32) (x2 : Int32) : entryFrame m #[(.long x0), (.int x1), (.int x2)] 8 = mkF m 0 #[.val (.long x0), .second, .val (.int x1), .val (.int x2), .unset, .unset, .unset, .unset] [] := by first | (simp [entryFrame, mkF, argsToLocals, Value.category]; done) | rfl
set_option maxRecDepth 65536 in
set_option maxHeartbeats 40000000 in
theorem rPick (l : Launch) (Z : State) (aa : Array Value) (hw : ∀ d ∈ tables_1, d.before aa Z = true) (ws : List Jvm.Cond) (j0 : Int64) (i1 : Int32) (i2 : Int32) (h0 : Heap) (p0 : ¬ ((i2.toInt64 - i1.toInt64) + (1 : Int64)) = (0 : Int64)) :
    Rm l Z (⟨"com/example/ryazan/ryazan/language/LayoutPackPinLaw", "pick", "(JII)I"⟩ : MethodName) method_2_code 8 (some .int) ws ({ frames := 0, cells := 0, slots := 0, locals := 0 } : Room) #[(.long j0), (.int i1), (.int i2)] h0 (Pu (.int (fPick j0 i1 i2)) h0) := by
 refine Rm.of (plainFor_of_name pn_0) ?_
 intro p e s m below meth cc T X hnm hret hlk
 refine Go.at_ (ef_rPick m j0 i1 i2) ?_
 refine g_iloadN X d8_0 (pc' := 1) rfl rfl ?_
 refine g_i2l X d8_1 (pc' := 2) rfl ?_
 refine g_iloadN X d8_2 (pc' := 3) rfl rfl ?_
 refine g_i2l X d8_3 (pc' := 4) rfl ?_
 refine g_lsub X d8_4 (pc' := 5) rfl ?_
 generalize qb : ((i2.toInt64) - (i1.toInt64)) = qa
 refine g_lstore X d8_5 (pc' := 7) (Ls' := #[.val (.long j0), .second, .val (.int i1), .val (.int i2), .val (.long qa), .second, .unset, .unset]) rfl rfl ?_
 refine g_lloadN X d8_7 (pc' := 8) rfl rfl ?_
 refine g_ldc2 X (tb hw 55 rfl) d8_8 (pc' := 11) rfl ?_
 refine g_land X d8_11 (pc' := 12) rfl ?_
 refine g_lload X d8_12 (pc' := 14) rfl rfl ?_
 refine g_lconst X (1 : Int64) d8_14 (pc' := 15) rfl rfl ?_
 refine g_ladd X d8_15 (pc' := 16) rfl ?_
 refine g_lrem X d8_16 (pc' := 17) rfl (by subst_vars; exact p0) ?_
 generalize qc : ((j0 &&& (9223372036854775807 : Int64)) % (qa + (1 : Int64))) = qd
 refine g_lstore X d8_17 (pc' := 19) (Ls' := #[.val (.long j0), .second, .val (.int i1), .val (.int i2), .val (.long qa), .second, .val (.long qd), .second]) rfl rfl ?_
 refine g_iloadN X d8_19 (pc' := 20) rfl rfl ?_
 refine g_i2l X d8_20 (pc' := 21) rfl ?_
 refine g_lload X d8_21 (pc' := 23) rfl rfl ?_
 refine g_ladd X d8_23 (pc' := 24) rfl ?_
 refine g_l2i X d8_24 (pc' := 25) rfl ?_
 refine g_ireturn X d8_25 hret hlk (by decide) (by decide) ?_
 subst qb qc
 exact ⟨congrArg (fun z => some (Value.int z)) (Eq.symm (show fPick j0 i1 i2 = _ from rfl)), rfl, rfl⟩
theorem pn_1 : plainName "java/lang/Integer" = true := by first | (simp [plainName, overriddenIn]; done) | decide +kernel
theorem d6_0 : decode jdk_33_method_47_code 0 = .ok (.iload_n 0, 1) := by decide +kernel
theorem d6_1 : decode jdk_33_method_47_code 1 = .ok (.ifCond .gt 14, 3) := by decide +kernel
theorem d6_15 : decode jdk_33_method_47_code 15 = .ok (.bipush 31, 2) := by decide +kernel
theorem d6_17 : decode jdk_33_method_47_code 17 = .ok (.istore_n 1, 1) := by decide +kernel
theorem d6_18 : decode jdk_33_method_47_code 18 = .ok (.iload_n 0, 1) := by decide +kernel
theorem d6_19 : decode jdk_33_method_47_code 19 = .ok (.ldc_w 264, 3) := by decide +kernel
theorem d6_22 : decode jdk_33_method_47_code 22 = .ok (.if_icmp .lt 11, 3) := by decide +kernel
theorem d6_33 : decode jdk_33_method_47_code 33 = .ok (.iload_n 0, 1) := by decide +kernel
theorem d6_34 : decode jdk_33_method_47_code 34 = .ok (.sipush 256, 3) := by decide +kernel
theorem d6_37 : decode jdk_33_method_47_code 37 = .ok (.if_icmp .lt 11, 3) := by decide +kernel
theorem d6_48 : decode jdk_33_method_47_code 48 = .ok (.iload_n 0, 1) := by decide +kernel
theorem d6_49 : decode jdk_33_method_47_code 49 = .ok (.bipush 16, 2) := by decide +kernel
theorem d6_51 : decode jdk_33_method_47_code 51 = .ok (.if_icmp .lt 10, 3) := by decide +kernel
theorem d6_61 : decode jdk_33_method_47_code 61 = .ok (.iload_n 0, 1) := by decide +kernel
theorem d6_62 : decode jdk_33_method_47_code 62 = .ok (.iconst 4, 1) := by decide +kernel
theorem d6_63 : decode jdk_33_method_47_code 63 = .ok (.if_icmp .lt 10, 3) := by decide +kernel
theorem d6_73 : decode jdk_33_method_47_code 73 = .ok (.iload_n 1, 1) := by decide +kernel
theorem d6_74 : decode jdk_33_method_47_code 74 = .ok (.iload_n 0, 1) := by decide +kernel
theorem d6_75 : decode jdk_33_method_47_code 75 = .ok (.iconst 1, 1) := by decide +kernel
theorem d6_76 : decode jdk_33_method_47_code 76 = .ok (.iushr, 1) := by decide +kernel
theorem d6_77 : decode jdk_33_method_47_code 77 = .ok (.isub, 1) := by decide +kernel
theorem d6_78 : decode jdk_33_method_47_code 78 = .ok (.ireturn, 1) := by decide +kernel
theorem d6_66 : decode jdk_33_method_47_code 66 = .ok (.iinc 1 (-2), 3) := by decide +kernel
theorem d6_69 : decode jdk_33_method_47_code 69 = .ok (.iload_n 0, 1) := by decide +kernel
theorem d6_70 : decode jdk_33_method_47_code 70 = .ok (.iconst 2, 1) := by decide +kernel
theorem d6_71 : decode jdk_33_method_47_code 71 = .ok (.iushr, 1) := by decide +kernel
theorem d6_72 : decode jdk_33_method_47_code 72 = .ok (.istore_n 0, 1) := by decide +kernel
theorem d6_54 : decode jdk_33_method_47_code 54 = .ok (.iinc 1 (-4), 3) := by decide +kernel
theorem d6_57 : decode jdk_33_method_47_code 57 = .ok (.iload_n 0, 1) := by decide +kernel
theorem d6_58 : decode jdk_33_method_47_code 58 = .ok (.iconst 4, 1) := by decide +kernel
theorem d6_59 : decode jdk_33_method_47_code 59 = .ok (.iushr, 1) := by decide +kernel
theorem d6_60 : decode jdk_33_method_47_code 60 = .ok (.istore_n 0, 1) := by decide +kernel
theorem d6_40 : decode jdk_33_method_47_code 40 = .ok (.iinc 1 (-8), 3) := by decide +kernel
theorem d6_43 : decode jdk_33_method_47_code 43 = .ok (.iload_n 0, 1) := by decide +kernel
theorem d6_44 : decode jdk_33_method_47_code 44 = .ok (.bipush 8, 2) := by decide +kernel
theorem d6_46 : decode jdk_33_method_47_code 46 = .ok (.iushr, 1) := by decide +kernel
theorem d6_47 : decode jdk_33_method_47_code 47 = .ok (.istore_n 0, 1) := by decide +kernel
theorem d6_25 : decode jdk_33_method_47_code 25 = .ok (.iinc 1 (-16), 3) := by decide +kernel
theorem d6_28 : decode jdk_33_method_47_code 28 = .ok (.iload_n 0, 1) := by decide +kernel
theorem d6_29 : decode jdk_33_method_47_code 29 = .ok (.bipush 16, 2) := by decide +kernel
theorem d6_31 : decode jdk_33_method_47_code 31 = .ok (.iushr, 1) := by decide +kernel
theorem d6_32 : decode jdk_33_method_47_code 32 = .ok (.istore_n 0, 1) := by decide +kernel
theorem d6_4 : decode jdk_33_method_47_code 4 = .ok (.iload_n 0, 1) := by decide +kernel
theorem d6_5 : decode jdk_33_method_47_code 5 = .ok (.ifCond .ne 8, 3) := by decide +kernel
theorem d6_8 : decode jdk_33_method_47_code 8 = .ok (.bipush 32, 2) := by decide +kernel
theorem d6_10 : decode jdk_33_method_47_code 10 = .ok (.goto 4, 3) := by decide +kernel
theorem d6_14 : decode jdk_33_method_47_code 14 = .ok (.ireturn, 1) := by decide +kernel
theorem d6_13 : decode jdk_33_method_47_code 13 = .ok (.iconst 0, 1) := by decide +kernel
def fNI (i0 : Int32) : Int32 := if (0 : Int32) < i0 then (if i0 < (65536 : Int32) then (if i0 < (256 : Int32) then (if i0 < (16 : Int32) then (if i0 < (4 : Int32) then (((31 : Int32) - ((i0.toUInt32 >>> ((1 : Int32) &&& 31).toUInt32).toInt32))) else (let v72_6 : Int32 := ((i0.toUInt32 >>> ((2 : Int32) &&& 31).toUInt32).toInt32); ((29 : Int32) - ((v72_6.toUInt32 >>> ((1 : Int32) &&& 31).toUInt32).toInt32)))) else (let v60_7 : Int32 := ((i0.toUInt32 >>> ((4 : Int32) &&& 31).toUInt32).toInt32); if v60_7 < (4 : Int32) then (((27 : Int32) - ((v60_7.toUInt32 >>> ((1 : Int32) &&& 31).toUInt32).toInt32))) else (let v72_9 : Int32 := ((v60_7.toUInt32 >>> ((2 : Int32) &&& 31).toUInt32).toInt32); ((25 : Int32) - ((v72_9.toUInt32 >>> ((1 : Int32) &&& 31).toUInt32).toInt32))))) else (let v47_10 : Int32 := ((i0.toUInt32 >>> ((8 : Int32) &&& 31).toUInt32).toInt32); if v47_10 < (16 : Int32) then (if v47_10 < (4 : Int32) then (((23 : Int32) - ((v47_10.toUInt32 >>> ((1 : Int32) &&& 31).toUInt32).toInt32))) else (let v72_13 : Int32 := ((v47_10.toUInt32 >>> ((2 : Int32) &&& 31).toUInt32).toInt32); ((21 : Int32) - ((v72_13.toUInt32 >>> ((1 : Int32) &&& 31).toUInt32).toInt32)))) else (let v60_14 : Int32 := ((v47_10.toUInt32 >>> ((4 : Int32) &&& 31).toUInt32).toInt32); if v60_14 < (4 : Int32) then (((19 : Int32) - ((v60_14.toUInt32 >>> ((1 : Int32) &&& 31).toUInt32).toInt32))) else (let v72_16 : Int32 := ((v60_14.toUInt32 >>> ((2 : Int32) &&& 31).toUInt32).toInt32); ((17 : Int32) - ((v72_16.toUInt32 >>> ((1 : Int32) &&& 31).toUInt32).toInt32)))))) else (let v32_17 : Int32 := ((i0.toUInt32 >>> ((16 : Int32) &&& 31).toUInt32).toInt32); if v32_17 < (256 : Int32) then (if v32_17 < (16 : Int32) then (if v32_17 < (4 : Int32) then (((15 : Int32) - ((v32_17.toUInt32 >>> ((1 : Int32) &&& 31).toUInt32).toInt32))) else (let v72_21 : Int32 := ((v32_17.toUInt32 >>> ((2 : Int32) &&& 31).toUInt32).toInt32); ((13 : Int32) - ((v72_21.toUInt32 >>> ((1 : Int32) &&& 31).toUInt32).toInt32)))) else (let v60_22 : Int32 := ((v32_17.toUInt32 >>> ((4 : Int32) &&& 31).toUInt32).toInt32); if v60_22 < (4 : Int32) then (((11 : Int32) - ((v60_22.toUInt32 >>> ((1 : Int32) &&& 31).toUInt32).toInt32))) else (let v72_24 : Int32 := ((v60_22.toUInt32 >>> ((2 : Int32) &&& 31).toUInt32).toInt32); ((9 : Int32) - ((v72_24.toUInt32 >>> ((1 : Int32) &&& 31).toUInt32).toInt32))))) else (let v47_25 : Int32 := ((v32_17.toUInt32 >>> ((8 : Int32) &&& 31).toUInt32).toInt32); if v47_25 < (16 : Int32) then (if v47_25 < (4 : Int32) then (((7 : Int32) - ((v47_25.toUInt32 >>> ((1 : Int32) &&& 31).toUInt32).toInt32))) else (let v72_28 : Int32 := ((v47_25.toUInt32 >>> ((2 : Int32) &&& 31).toUInt32).toInt32); ((5 : Int32) - ((v72_28.toUInt32 >>> ((1 : Int32) &&& 31).toUInt32).toInt32)))) else (let v60_29 : Int32 := ((v47_25.toUInt32 >>> ((4 : Int32) &&& 31).toUInt32).toInt32); if v60_29 < (4 : Int32) then (((3 : Int32) - ((v60_29.toUInt32 >>> ((1 : Int32) &&& 31).toUInt32).toInt32))) else (let v72_31 : Int32 := ((v60_29.toUInt32 >>> ((2 : Int32) &&& 31).toUInt32).toInt32); ((1 : Int32) - ((v72_31.toUInt32 >>> ((1 : Int32) &&& 31).toUInt32).toInt32))))))) else (if i0 = (0 : Int32) then ((32 : Int32)) else ((0 : Int32)))
theorem ef_rNI (m : MethodId) (x0 : Int32) : entryFrame m #[(.int x0)] 2 = mkF m 0 #[.val (.int x0), .unset] [] := by first | (simp [entryFrame, mkF, argsToLocals, Value.category]; done) | rfl
set_option maxRecDepth 65536 in
set_option maxHeartbeats 40000000 in
theorem rNI (l : Launch) (Z : State) (aa : Array Value) (hw : ∀ d ∈ tables_1, d.before aa Z = true) (ws : List Jvm.Cond) (i0 : Int32) (h0 : Heap) :
    Rm l Z (⟨"java/lang/Integer", "numberOfLeadingZeros", "(I)I"⟩ : MethodName) jdk_33_method_47_code 2 (some .int) ws ({ frames := 0, cells := 0, slots := 0, locals := 0 } : Room) #[(.int i0)] h0 (Pu (.int (fNI i0)) h0) := by
 refine Rm.of (plainFor_of_name pn_1) ?_
 intro p e s m below meth cc T X hnm hret hlk
 refine Go.at_ (ef_rNI m i0) ?_
 refine g_iloadN X d6_0 (pc' := 1) rfl rfl ?_
 by_cases qa : (0 : Int32) < i0
 refine g_ifY X d6_1 ((if0 _ _).trans (tlt qa).2.2.1) (pc' := 15) (by decide) (by decide) ?_
 refine g_bipush X (31 : Int32) d6_15 (pc' := 17) rfl rfl ?_
 refine g_istoreN X d6_17 (pc' := 18) (Ls' := #[.val (.int i0), .val (.int (31 : Int32))]) rfl rfl ?_
 refine g_iloadN X d6_18 (pc' := 19) rfl rfl ?_
 refine g_ldcw X (tb hw 43 rfl) d6_19 (pc' := 22) rfl ?_
 by_cases qb : i0 < (65536 : Int32)
 refine g_icY X d6_22 (tlt qb).1 (pc' := 33) (by decide) (by decide) ?_
 refine g_iloadN X d6_33 (pc' := 34) rfl rfl ?_
 refine g_sipush X (256 : Int32) d6_34 (pc' := 37) rfl rfl ?_
 by_cases qc : i0 < (256 : Int32)
 refine g_icY X d6_37 (tlt qc).1 (pc' := 48) (by decide) (by decide) ?_
 refine g_iloadN X d6_48 (pc' := 49) rfl rfl ?_
 refine g_bipush X (16 : Int32) d6_49 (pc' := 51) rfl rfl ?_
 by_cases qi : i0 < (16 : Int32)
 refine g_icY X d6_51 (tlt qi).1 (pc' := 61) (by decide) (by decide) ?_
 refine g_iloadN X d6_61 (pc' := 62) rfl rfl ?_
 refine g_iconst X (4 : Int32) d6_62 (pc' := 63) rfl rfl ?_
 by_cases qm : i0 < (4 : Int32)
 refine g_icY X d6_63 (tlt qm).1 (pc' := 73) (by decide) (by decide) ?_
 refine g_iloadN X d6_73 (pc' := 74) rfl rfl ?_
 refine g_iloadN X d6_74 (pc' := 75) rfl rfl ?_
 refine g_iconst X (1 : Int32) d6_75 (pc' := 76) rfl rfl ?_
 refine g_iushr X d6_76 (pc' := 77) rfl ?_
 refine g_isub X d6_77 (pc' := 78) rfl ?_
 refine g_ireturn X d6_78 hret hlk (by decide) (by decide) ?_
 exact ⟨congrArg (fun z => some (Value.int z)) (Eq.symm (show fNI i0 = _ from (Eq.trans (if_pos qa) (Eq.trans (if_pos qb) (Eq.trans (if_pos qc) (Eq.trans (if_pos qi) (Eq.trans (if_pos qm) rfl))))))), rfl, rfl⟩
 refine g_icN X d6_63 (flt qm).1 (pc' := 66) rfl ?_
 refine g_iinc X d6_66 (pc' := 69) (q := (-2 : Int32)) (Ls' := #[.val (.int i0), .val (.int (29 : Int32))]) rfl rfl rfl rfl ?_
 refine g_iloadN X d6_69 (pc' := 70) rfl rfl ?_
 refine g_iconst X (2 : Int32) d6_70 (pc' := 71) rfl rfl ?_
 refine g_iushr X d6_71 (pc' := 72) rfl ?_
 generalize q5 : ((i0.toUInt32 >>> ((2 : Int32) &&& 31).toUInt32).toInt32) = q6
 refine g_istoreN X d6_72 (pc' := 73) (Ls' := #[.val (.int q6), .val (.int (29 : Int32))]) rfl rfl ?_
 refine g_iloadN X d6_73 (pc' := 74) rfl rfl ?_
 refine g_iloadN X d6_74 (pc' := 75) rfl rfl ?_
 refine g_iconst X (1 : Int32) d6_75 (pc' := 76) rfl rfl ?_
 refine g_iushr X d6_76 (pc' := 77) rfl ?_
 refine g_isub X d6_77 (pc' := 78) rfl ?_
 refine g_ireturn X d6_78 hret hlk (by decide) (by decide) ?_
 subst q5
 exact ⟨congrArg (fun z => some (Value.int z)) (Eq.symm (show fNI i0 = _ from (Eq.trans (if_pos qa) (Eq.trans (if_pos qb) (Eq.trans (if_pos qc) (Eq.trans (if_pos qi) (Eq.trans (if_neg qm) rfl))))))), rfl, rfl⟩
 refine g_icN X d6_51 (flt qi).1 (pc' := 54) rfl ?_
 refine g_iinc X d6_54 (pc' := 57) (q := (-4 : Int32)) (Ls' := #[.val (.int i0), .val (.int (27 : Int32))]) rfl rfl rfl rfl ?_
 refine g_iloadN X d6_57 (pc' := 58) rfl rfl ?_
 refine g_iconst X (4 : Int32) d6_58 (pc' := 59) rfl rfl ?_
 refine g_iushr X d6_59 (pc' := 60) rfl ?_
 generalize q1 : ((i0.toUInt32 >>> ((4 : Int32) &&& 31).toUInt32).toInt32) = qn
 refine g_istoreN X d6_60 (pc' := 61) (Ls' := #[.val (.int qn), .val (.int (27 : Int32))]) rfl rfl ?_
 refine g_iloadN X d6_61 (pc' := 62) rfl rfl ?_
 refine g_iconst X (4 : Int32) d6_62 (pc' := 63) rfl rfl ?_
 by_cases qo : qn < (4 : Int32)
 refine g_icY X d6_63 (tlt qo).1 (pc' := 73) (by decide) (by decide) ?_
 refine g_iloadN X d6_73 (pc' := 74) rfl rfl ?_
 refine g_iloadN X d6_74 (pc' := 75) rfl rfl ?_
 refine g_iconst X (1 : Int32) d6_75 (pc' := 76) rfl rfl ?_
 refine g_iushr X d6_76 (pc' := 77) rfl ?_
 refine g_isub X d6_77 (pc' := 78) rfl ?_
 refine g_ireturn X d6_78 hret hlk (by decide) (by decide) ?_
 subst q1
 exact ⟨congrArg (fun z => some (Value.int z)) (Eq.symm (show fNI i0 = _ from (Eq.trans (if_pos qa) (Eq.trans (if_pos qb) (Eq.trans (if_pos qc) (Eq.trans (if_neg qi) (Eq.trans (if_pos qo) rfl))))))), rfl, rfl⟩
 refine g_icN X d6_63 (flt qo).1 (pc' := 66) rfl ?_
 refine g_iinc X d6_66 (pc' := 69) (q := (-2 : Int32)) (Ls' := #[.val (.int qn), .val (.int (25 : Int32))]) rfl rfl rfl rfl ?_
 refine g_iloadN X d6_69 (pc' := 70) rfl rfl ?_
 refine g_iconst X (2 : Int32) d6_70 (pc' := 71) rfl rfl ?_
 refine g_iushr X d6_71 (pc' := 72) rfl ?_
 generalize q7 : ((qn.toUInt32 >>> ((2 : Int32) &&& 31).toUInt32).toInt32) = q8
 refine g_istoreN X d6_72 (pc' := 73) (Ls' := #[.val (.int q8), .val (.int (25 : Int32))]) rfl rfl ?_
 refine g_iloadN X d6_73 (pc' := 74) rfl rfl ?_
 refine g_iloadN X d6_74 (pc' := 75) rfl rfl ?_
 refine g_iconst X (1 : Int32) d6_75 (pc' := 76) rfl rfl ?_
 refine g_iushr X d6_76 (pc' := 77) rfl ?_
 refine g_isub X d6_77 (pc' := 78) rfl ?_
 refine g_ireturn X d6_78 hret hlk (by decide) (by decide) ?_
 subst q1 q7
 exact ⟨congrArg (fun z => some (Value.int z)) (Eq.symm (show fNI i0 = _ from (Eq.trans (if_pos qa) (Eq.trans (if_pos qb) (Eq.trans (if_pos qc) (Eq.trans (if_neg qi) (Eq.trans (if_neg qo) rfl))))))), rfl, rfl⟩
 refine g_icN X d6_37 (flt qc).1 (pc' := 40) rfl ?_
 refine g_iinc X d6_40 (pc' := 43) (q := (-8 : Int32)) (Ls' := #[.val (.int i0), .val (.int (23 : Int32))]) rfl rfl rfl rfl ?_
 refine g_iloadN X d6_43 (pc' := 44) rfl rfl ?_
 refine g_bipush X (8 : Int32) d6_44 (pc' := 46) rfl rfl ?_
 refine g_iushr X d6_46 (pc' := 47) rfl ?_
 generalize qp : ((i0.toUInt32 >>> ((8 : Int32) &&& 31).toUInt32).toInt32) = qg
 refine g_istoreN X d6_47 (pc' := 48) (Ls' := #[.val (.int qg), .val (.int (23 : Int32))]) rfl rfl ?_
 refine g_iloadN X d6_48 (pc' := 49) rfl rfl ?_
 refine g_bipush X (16 : Int32) d6_49 (pc' := 51) rfl rfl ?_
 by_cases qj : qg < (16 : Int32)
 refine g_icY X d6_51 (tlt qj).1 (pc' := 61) (by decide) (by decide) ?_
 refine g_iloadN X d6_61 (pc' := 62) rfl rfl ?_
 refine g_iconst X (4 : Int32) d6_62 (pc' := 63) rfl rfl ?_
 by_cases qq : qg < (4 : Int32)
 refine g_icY X d6_63 (tlt qq).1 (pc' := 73) (by decide) (by decide) ?_
 refine g_iloadN X d6_73 (pc' := 74) rfl rfl ?_
 refine g_iloadN X d6_74 (pc' := 75) rfl rfl ?_
 refine g_iconst X (1 : Int32) d6_75 (pc' := 76) rfl rfl ?_
 refine g_iushr X d6_76 (pc' := 77) rfl ?_
 refine g_isub X d6_77 (pc' := 78) rfl ?_
 refine g_ireturn X d6_78 hret hlk (by decide) (by decide) ?_
 subst qp
 exact ⟨congrArg (fun z => some (Value.int z)) (Eq.symm (show fNI i0 = _ from (Eq.trans (if_pos qa) (Eq.trans (if_pos qb) (Eq.trans (if_neg qc) (Eq.trans (if_pos qj) (Eq.trans (if_pos qq) rfl))))))), rfl, rfl⟩
 refine g_icN X d6_63 (flt qq).1 (pc' := 66) rfl ?_
 refine g_iinc X d6_66 (pc' := 69) (q := (-2 : Int32)) (Ls' := #[.val (.int qg), .val (.int (21 : Int32))]) rfl rfl rfl rfl ?_
 refine g_iloadN X d6_69 (pc' := 70) rfl rfl ?_
 refine g_iconst X (2 : Int32) d6_70 (pc' := 71) rfl rfl ?_
 refine g_iushr X d6_71 (pc' := 72) rfl ?_
 generalize q9 : ((qg.toUInt32 >>> ((2 : Int32) &&& 31).toUInt32).toInt32) = ja
 refine g_istoreN X d6_72 (pc' := 73) (Ls' := #[.val (.int ja), .val (.int (21 : Int32))]) rfl rfl ?_
 refine g_iloadN X d6_73 (pc' := 74) rfl rfl ?_
 refine g_iloadN X d6_74 (pc' := 75) rfl rfl ?_
 refine g_iconst X (1 : Int32) d6_75 (pc' := 76) rfl rfl ?_
 refine g_iushr X d6_76 (pc' := 77) rfl ?_
 refine g_isub X d6_77 (pc' := 78) rfl ?_
 refine g_ireturn X d6_78 hret hlk (by decide) (by decide) ?_
 subst qp q9
 exact ⟨congrArg (fun z => some (Value.int z)) (Eq.symm (show fNI i0 = _ from (Eq.trans (if_pos qa) (Eq.trans (if_pos qb) (Eq.trans (if_neg qc) (Eq.trans (if_pos qj) (Eq.trans (if_neg qq) rfl))))))), rfl, rfl⟩
 refine g_icN X d6_51 (flt qj).1 (pc' := 54) rfl ?_
 refine g_iinc X d6_54 (pc' := 57) (q := (-4 : Int32)) (Ls' := #[.val (.int qg), .val (.int (19 : Int32))]) rfl rfl rfl rfl ?_
 refine g_iloadN X d6_57 (pc' := 58) rfl rfl ?_
 refine g_iconst X (4 : Int32) d6_58 (pc' := 59) rfl rfl ?_
 refine g_iushr X d6_59 (pc' := 60) rfl ?_
 generalize q2 : ((qg.toUInt32 >>> ((4 : Int32) &&& 31).toUInt32).toInt32) = qr
 refine g_istoreN X d6_60 (pc' := 61) (Ls' := #[.val (.int qr), .val (.int (19 : Int32))]) rfl rfl ?_
 refine g_iloadN X d6_61 (pc' := 62) rfl rfl ?_
 refine g_iconst X (4 : Int32) d6_62 (pc' := 63) rfl rfl ?_
 by_cases qs : qr < (4 : Int32)
 refine g_icY X d6_63 (tlt qs).1 (pc' := 73) (by decide) (by decide) ?_
 refine g_iloadN X d6_73 (pc' := 74) rfl rfl ?_
 refine g_iloadN X d6_74 (pc' := 75) rfl rfl ?_
 refine g_iconst X (1 : Int32) d6_75 (pc' := 76) rfl rfl ?_
 refine g_iushr X d6_76 (pc' := 77) rfl ?_
 refine g_isub X d6_77 (pc' := 78) rfl ?_
 refine g_ireturn X d6_78 hret hlk (by decide) (by decide) ?_
 subst qp q2
 exact ⟨congrArg (fun z => some (Value.int z)) (Eq.symm (show fNI i0 = _ from (Eq.trans (if_pos qa) (Eq.trans (if_pos qb) (Eq.trans (if_neg qc) (Eq.trans (if_neg qj) (Eq.trans (if_pos qs) rfl))))))), rfl, rfl⟩
 refine g_icN X d6_63 (flt qs).1 (pc' := 66) rfl ?_
 refine g_iinc X d6_66 (pc' := 69) (q := (-2 : Int32)) (Ls' := #[.val (.int qr), .val (.int (17 : Int32))]) rfl rfl rfl rfl ?_
 refine g_iloadN X d6_69 (pc' := 70) rfl rfl ?_
 refine g_iconst X (2 : Int32) d6_70 (pc' := 71) rfl rfl ?_
 refine g_iushr X d6_71 (pc' := 72) rfl ?_
 generalize jb : ((qr.toUInt32 >>> ((2 : Int32) &&& 31).toUInt32).toInt32) = jc
 refine g_istoreN X d6_72 (pc' := 73) (Ls' := #[.val (.int jc), .val (.int (17 : Int32))]) rfl rfl ?_
 refine g_iloadN X d6_73 (pc' := 74) rfl rfl ?_
 refine g_iloadN X d6_74 (pc' := 75) rfl rfl ?_
 refine g_iconst X (1 : Int32) d6_75 (pc' := 76) rfl rfl ?_
 refine g_iushr X d6_76 (pc' := 77) rfl ?_
 refine g_isub X d6_77 (pc' := 78) rfl ?_
 refine g_ireturn X d6_78 hret hlk (by decide) (by decide) ?_
 subst qp q2 jb
 exact ⟨congrArg (fun z => some (Value.int z)) (Eq.symm (show fNI i0 = _ from (Eq.trans (if_pos qa) (Eq.trans (if_pos qb) (Eq.trans (if_neg qc) (Eq.trans (if_neg qj) (Eq.trans (if_neg qs) rfl))))))), rfl, rfl⟩
 refine g_icN X d6_22 (flt qb).1 (pc' := 25) rfl ?_
 refine g_iinc X d6_25 (pc' := 28) (q := (-16 : Int32)) (Ls' := #[.val (.int i0), .val (.int (15 : Int32))]) rfl rfl rfl rfl ?_
 refine g_iloadN X d6_28 (pc' := 29) rfl rfl ?_
 refine g_bipush X (16 : Int32) d6_29 (pc' := 31) rfl rfl ?_
 refine g_iushr X d6_31 (pc' := 32) rfl ?_
 generalize qf : ((i0.toUInt32 >>> ((16 : Int32) &&& 31).toUInt32).toInt32) = qd
 refine g_istoreN X d6_32 (pc' := 33) (Ls' := #[.val (.int qd), .val (.int (15 : Int32))]) rfl rfl ?_
 refine g_iloadN X d6_33 (pc' := 34) rfl rfl ?_
 refine g_sipush X (256 : Int32) d6_34 (pc' := 37) rfl rfl ?_
 by_cases qe : qd < (256 : Int32)
 refine g_icY X d6_37 (tlt qe).1 (pc' := 48) (by decide) (by decide) ?_
 refine g_iloadN X d6_48 (pc' := 49) rfl rfl ?_
 refine g_bipush X (16 : Int32) d6_49 (pc' := 51) rfl rfl ?_
 by_cases qk : qd < (16 : Int32)
 refine g_icY X d6_51 (tlt qk).1 (pc' := 61) (by decide) (by decide) ?_
 refine g_iloadN X d6_61 (pc' := 62) rfl rfl ?_
 refine g_iconst X (4 : Int32) d6_62 (pc' := 63) rfl rfl ?_
 by_cases qt : qd < (4 : Int32)
 refine g_icY X d6_63 (tlt qt).1 (pc' := 73) (by decide) (by decide) ?_
 refine g_iloadN X d6_73 (pc' := 74) rfl rfl ?_
 refine g_iloadN X d6_74 (pc' := 75) rfl rfl ?_
 refine g_iconst X (1 : Int32) d6_75 (pc' := 76) rfl rfl ?_
 refine g_iushr X d6_76 (pc' := 77) rfl ?_
 refine g_isub X d6_77 (pc' := 78) rfl ?_
 refine g_ireturn X d6_78 hret hlk (by decide) (by decide) ?_
 subst qf
 exact ⟨congrArg (fun z => some (Value.int z)) (Eq.symm (show fNI i0 = _ from (Eq.trans (if_pos qa) (Eq.trans (if_neg qb) (Eq.trans (if_pos qe) (Eq.trans (if_pos qk) (Eq.trans (if_pos qt) rfl))))))), rfl, rfl⟩
 refine g_icN X d6_63 (flt qt).1 (pc' := 66) rfl ?_
 refine g_iinc X d6_66 (pc' := 69) (q := (-2 : Int32)) (Ls' := #[.val (.int qd), .val (.int (13 : Int32))]) rfl rfl rfl rfl ?_
 refine g_iloadN X d6_69 (pc' := 70) rfl rfl ?_
 refine g_iconst X (2 : Int32) d6_70 (pc' := 71) rfl rfl ?_
 refine g_iushr X d6_71 (pc' := 72) rfl ?_
 generalize jd : ((qd.toUInt32 >>> ((2 : Int32) &&& 31).toUInt32).toInt32) = je
 refine g_istoreN X d6_72 (pc' := 73) (Ls' := #[.val (.int je), .val (.int (13 : Int32))]) rfl rfl ?_
 refine g_iloadN X d6_73 (pc' := 74) rfl rfl ?_
 refine g_iloadN X d6_74 (pc' := 75) rfl rfl ?_
 refine g_iconst X (1 : Int32) d6_75 (pc' := 76) rfl rfl ?_
 refine g_iushr X d6_76 (pc' := 77) rfl ?_
 refine g_isub X d6_77 (pc' := 78) rfl ?_
 refine g_ireturn X d6_78 hret hlk (by decide) (by decide) ?_
 subst qf jd
 exact ⟨congrArg (fun z => some (Value.int z)) (Eq.symm (show fNI i0 = _ from (Eq.trans (if_pos qa) (Eq.trans (if_neg qb) (Eq.trans (if_pos qe) (Eq.trans (if_pos qk) (Eq.trans (if_neg qt) rfl))))))), rfl, rfl⟩
 refine g_icN X d6_51 (flt qk).1 (pc' := 54) rfl ?_
 refine g_iinc X d6_54 (pc' := 57) (q := (-4 : Int32)) (Ls' := #[.val (.int qd), .val (.int (11 : Int32))]) rfl rfl rfl rfl ?_
 refine g_iloadN X d6_57 (pc' := 58) rfl rfl ?_
 refine g_iconst X (4 : Int32) d6_58 (pc' := 59) rfl rfl ?_
 refine g_iushr X d6_59 (pc' := 60) rfl ?_
 generalize q3 : ((qd.toUInt32 >>> ((4 : Int32) &&& 31).toUInt32).toInt32) = qu
 refine g_istoreN X d6_60 (pc' := 61) (Ls' := #[.val (.int qu), .val (.int (11 : Int32))]) rfl rfl ?_
 refine g_iloadN X d6_61 (pc' := 62) rfl rfl ?_
 refine g_iconst X (4 : Int32) d6_62 (pc' := 63) rfl rfl ?_
 by_cases qv : qu < (4 : Int32)
 refine g_icY X d6_63 (tlt qv).1 (pc' := 73) (by decide) (by decide) ?_
 refine g_iloadN X d6_73 (pc' := 74) rfl rfl ?_
 refine g_iloadN X d6_74 (pc' := 75) rfl rfl ?_
 refine g_iconst X (1 : Int32) d6_75 (pc' := 76) rfl rfl ?_
 refine g_iushr X d6_76 (pc' := 77) rfl ?_
 refine g_isub X d6_77 (pc' := 78) rfl ?_
 refine g_ireturn X d6_78 hret hlk (by decide) (by decide) ?_
 subst qf q3
 exact ⟨congrArg (fun z => some (Value.int z)) (Eq.symm (show fNI i0 = _ from (Eq.trans (if_pos qa) (Eq.trans (if_neg qb) (Eq.trans (if_pos qe) (Eq.trans (if_neg qk) (Eq.trans (if_pos qv) rfl))))))), rfl, rfl⟩
 refine g_icN X d6_63 (flt qv).1 (pc' := 66) rfl ?_
 refine g_iinc X d6_66 (pc' := 69) (q := (-2 : Int32)) (Ls' := #[.val (.int qu), .val (.int (9 : Int32))]) rfl rfl rfl rfl ?_
 refine g_iloadN X d6_69 (pc' := 70) rfl rfl ?_
 refine g_iconst X (2 : Int32) d6_70 (pc' := 71) rfl rfl ?_
 refine g_iushr X d6_71 (pc' := 72) rfl ?_
 generalize jf : ((qu.toUInt32 >>> ((2 : Int32) &&& 31).toUInt32).toInt32) = jg
 refine g_istoreN X d6_72 (pc' := 73) (Ls' := #[.val (.int jg), .val (.int (9 : Int32))]) rfl rfl ?_
 refine g_iloadN X d6_73 (pc' := 74) rfl rfl ?_
 refine g_iloadN X d6_74 (pc' := 75) rfl rfl ?_
 refine g_iconst X (1 : Int32) d6_75 (pc' := 76) rfl rfl ?_
 refine g_iushr X d6_76 (pc' := 77) rfl ?_
 refine g_isub X d6_77 (pc' := 78) rfl ?_
 refine g_ireturn X d6_78 hret hlk (by decide) (by decide) ?_
 subst qf q3 jf
 exact ⟨congrArg (fun z => some (Value.int z)) (Eq.symm (show fNI i0 = _ from (Eq.trans (if_pos qa) (Eq.trans (if_neg qb) (Eq.trans (if_pos qe) (Eq.trans (if_neg qk) (Eq.trans (if_neg qv) rfl))))))), rfl, rfl⟩
 refine g_icN X d6_37 (flt qe).1 (pc' := 40) rfl ?_
 refine g_iinc X d6_40 (pc' := 43) (q := (-8 : Int32)) (Ls' := #[.val (.int qd), .val (.int (7 : Int32))]) rfl rfl rfl rfl ?_
 refine g_iloadN X d6_43 (pc' := 44) rfl rfl ?_
 refine g_bipush X (8 : Int32) d6_44 (pc' := 46) rfl rfl ?_
 refine g_iushr X d6_46 (pc' := 47) rfl ?_
 generalize qw : ((qd.toUInt32 >>> ((8 : Int32) &&& 31).toUInt32).toInt32) = qh
 refine g_istoreN X d6_47 (pc' := 48) (Ls' := #[.val (.int qh), .val (.int (7 : Int32))]) rfl rfl ?_
 refine g_iloadN X d6_48 (pc' := 49) rfl rfl ?_
 refine g_bipush X (16 : Int32) d6_49 (pc' := 51) rfl rfl ?_
 by_cases ql : qh < (16 : Int32)
 refine g_icY X d6_51 (tlt ql).1 (pc' := 61) (by decide) (by decide) ?_
 refine g_iloadN X d6_61 (pc' := 62) rfl rfl ?_
 refine g_iconst X (4 : Int32) d6_62 (pc' := 63) rfl rfl ?_
 by_cases qx : qh < (4 : Int32)
 refine g_icY X d6_63 (tlt qx).1 (pc' := 73) (by decide) (by decide) ?_
 refine g_iloadN X d6_73 (pc' := 74) rfl rfl ?_
 refine g_iloadN X d6_74 (pc' := 75) rfl rfl ?_
 refine g_iconst X (1 : Int32) d6_75 (pc' := 76) rfl rfl ?_
 refine g_iushr X d6_76 (pc' := 77) rfl ?_
 refine g_isub X d6_77 (pc' := 78) rfl ?_
 refine g_ireturn X d6_78 hret hlk (by decide) (by decide) ?_
 subst qf qw
 exact ⟨congrArg (fun z => some (Value.int z)) (Eq.symm (show fNI i0 = _ from (Eq.trans (if_pos qa) (Eq.trans (if_neg qb) (Eq.trans (if_neg qe) (Eq.trans (if_pos ql) (Eq.trans (if_pos qx) rfl))))))), rfl, rfl⟩
 refine g_icN X d6_63 (flt qx).1 (pc' := 66) rfl ?_
 refine g_iinc X d6_66 (pc' := 69) (q := (-2 : Int32)) (Ls' := #[.val (.int qh), .val (.int (5 : Int32))]) rfl rfl rfl rfl ?_
 refine g_iloadN X d6_69 (pc' := 70) rfl rfl ?_
 refine g_iconst X (2 : Int32) d6_70 (pc' := 71) rfl rfl ?_
 refine g_iushr X d6_71 (pc' := 72) rfl ?_
 generalize jh : ((qh.toUInt32 >>> ((2 : Int32) &&& 31).toUInt32).toInt32) = ji
 refine g_istoreN X d6_72 (pc' := 73) (Ls' := #[.val (.int ji), .val (.int (5 : Int32))]) rfl rfl ?_
 refine g_iloadN X d6_73 (pc' := 74) rfl rfl ?_
 refine g_iloadN X d6_74 (pc' := 75) rfl rfl ?_
 refine g_iconst X (1 : Int32) d6_75 (pc' := 76) rfl rfl ?_
 refine g_iushr X d6_76 (pc' := 77) rfl ?_
 refine g_isub X d6_77 (pc' := 78) rfl ?_
 refine g_ireturn X d6_78 hret hlk (by decide) (by decide) ?_
 subst qf qw jh
 exact ⟨congrArg (fun z => some (Value.int z)) (Eq.symm (show fNI i0 = _ from (Eq.trans (if_pos qa) (Eq.trans (if_neg qb) (Eq.trans (if_neg qe) (Eq.trans (if_pos ql) (Eq.trans (if_neg qx) rfl))))))), rfl, rfl⟩
 refine g_icN X d6_51 (flt ql).1 (pc' := 54) rfl ?_
 refine g_iinc X d6_54 (pc' := 57) (q := (-4 : Int32)) (Ls' := #[.val (.int qh), .val (.int (3 : Int32))]) rfl rfl rfl rfl ?_
 refine g_iloadN X d6_57 (pc' := 58) rfl rfl ?_
 refine g_iconst X (4 : Int32) d6_58 (pc' := 59) rfl rfl ?_
 refine g_iushr X d6_59 (pc' := 60) rfl ?_
 generalize q4 : ((qh.toUInt32 >>> ((4 : Int32) &&& 31).toUInt32).toInt32) = qy
 refine g_istoreN X d6_60 (pc' := 61) (Ls' := #[.val (.int qy), .val (.int (3 : Int32))]) rfl rfl ?_
 refine g_iloadN X d6_61 (pc' := 62) rfl rfl ?_
 refine g_iconst X (4 : Int32) d6_62 (pc' := 63) rfl rfl ?_
 by_cases qz : qy < (4 : Int32)
 refine g_icY X d6_63 (tlt qz).1 (pc' := 73) (by decide) (by decide) ?_
 refine g_iloadN X d6_73 (pc' := 74) rfl rfl ?_
 refine g_iloadN X d6_74 (pc' := 75) rfl rfl ?_
 refine g_iconst X (1 : Int32) d6_75 (pc' := 76) rfl rfl ?_
 refine g_iushr X d6_76 (pc' := 77) rfl ?_
 refine g_isub X d6_77 (pc' := 78) rfl ?_
 refine g_ireturn X d6_78 hret hlk (by decide) (by decide) ?_
 subst qf qw q4
 exact ⟨congrArg (fun z => some (Value.int z)) (Eq.symm (show fNI i0 = _ from (Eq.trans (if_pos qa) (Eq.trans (if_neg qb) (Eq.trans (if_neg qe) (Eq.trans (if_neg ql) (Eq.trans (if_pos qz) rfl))))))), rfl, rfl⟩
 refine g_icN X d6_63 (flt qz).1 (pc' := 66) rfl ?_
 refine g_iinc X d6_66 (pc' := 69) (q := (-2 : Int32)) (Ls' := #[.val (.int qy), .val (.int (1 : Int32))]) rfl rfl rfl rfl ?_
 refine g_iloadN X d6_69 (pc' := 70) rfl rfl ?_
 refine g_iconst X (2 : Int32) d6_70 (pc' := 71) rfl rfl ?_
 refine g_iushr X d6_71 (pc' := 72) rfl ?_
 generalize jj : ((qy.toUInt32 >>> ((2 : Int32) &&& 31).toUInt32).toInt32) = jk
 refine g_istoreN X d6_72 (pc' := 73) (Ls' := #[.val (.int jk), .val (.int (1 : Int32))]) rfl rfl ?_
 refine g_iloadN X d6_73 (pc' := 74) rfl rfl ?_
 refine g_iloadN X d6_74 (pc' := 75) rfl rfl ?_
 refine g_iconst X (1 : Int32) d6_75 (pc' := 76) rfl rfl ?_
 refine g_iushr X d6_76 (pc' := 77) rfl ?_
 refine g_isub X d6_77 (pc' := 78) rfl ?_
 refine g_ireturn X d6_78 hret hlk (by decide) (by decide) ?_
 subst qf qw q4 jj
 exact ⟨congrArg (fun z => some (Value.int z)) (Eq.symm (show fNI i0 = _ from (Eq.trans (if_pos qa) (Eq.trans (if_neg qb) (Eq.trans (if_neg qe) (Eq.trans (if_neg ql) (Eq.trans (if_neg qz) rfl))))))), rfl, rfl⟩
 refine g_ifN X d6_1 ((if0 _ _).trans (flt qa).2.2.1) (pc' := 4) rfl ?_
 refine g_iloadN X d6_4 (pc' := 5) rfl rfl ?_
 by_cases q0 : i0 = (0 : Int32)
 refine g_ifN X d6_5 ((if0 _ _).trans (teq q0).2) (pc' := 8) rfl ?_
 refine g_bipush X (32 : Int32) d6_8 (pc' := 10) rfl rfl ?_
 refine g_goto X d6_10 (pc' := 14) (by decide) (by decide) ?_
 refine g_ireturn X d6_14 hret hlk (by decide) (by decide) ?_
 exact ⟨congrArg (fun z => some (Value.int z)) (Eq.symm (show fNI i0 = _ from (Eq.trans (if_neg qa) (Eq.trans (if_pos q0) rfl)))), rfl, rfl⟩
 refine g_ifY X d6_5 ((if0 _ _).trans (feq q0).2) (pc' := 13) (by decide) (by decide) ?_
 refine g_iconst X (0 : Int32) d6_13 (pc' := 14) rfl rfl ?_
 refine g_ireturn X d6_14 hret hlk (by decide) (by decide) ?_
 exact ⟨congrArg (fun z => some (Value.int z)) (Eq.symm (show fNI i0 = _ from (Eq.trans (if_neg qa) (Eq.trans (if_neg q0) rfl)))), rfl, rfl⟩
theorem pn_2 : plainName "java/lang/Long" = true := by first | (simp [plainName, overriddenIn]; done) | decide +kernel
theorem d5_0 : decode jdk_35_method_48_code 0 = .ok (.lload_n 0, 1) := by decide +kernel
theorem d5_1 : decode jdk_35_method_48_code 1 = .ok (.bipush 32, 2) := by decide +kernel
theorem d5_3 : decode jdk_35_method_48_code 3 = .ok (.lushr, 1) := by decide +kernel
theorem d5_4 : decode jdk_35_method_48_code 4 = .ok (.l2i, 1) := by decide +kernel
theorem d5_5 : decode jdk_35_method_48_code 5 = .ok (.istore_n 2, 1) := by decide +kernel
theorem d5_6 : decode jdk_35_method_48_code 6 = .ok (.iload_n 2, 1) := by decide +kernel
theorem d5_7 : decode jdk_35_method_48_code 7 = .ok (.ifCond .ne 14, 3) := by decide +kernel
theorem d5_10 : decode jdk_35_method_48_code 10 = .ok (.bipush 32, 2) := by decide +kernel
theorem d5_12 : decode jdk_35_method_48_code 12 = .ok (.lload_n 0, 1) := by decide +kernel
theorem d5_13 : decode jdk_35_method_48_code 13 = .ok (.l2i, 1) := by decide +kernel
theorem d5_14 : decode jdk_35_method_48_code 14 = .ok (.invokestatic 308, 3) := by decide +kernel
theorem pd_0 : parseMethodDescriptor "(I)I" = some ⟨[.int], some .int⟩ := by decide +kernel
theorem d5_17 : decode jdk_35_method_48_code 17 = .ok (.iadd, 1) := by decide +kernel
theorem d5_18 : decode jdk_35_method_48_code 18 = .ok (.goto 7, 3) := by decide +kernel
theorem d5_25 : decode jdk_35_method_48_code 25 = .ok (.ireturn, 1) := by decide +kernel
theorem d5_21 : decode jdk_35_method_48_code 21 = .ok (.iload_n 2, 1) := by decide +kernel
theorem d5_22 : decode jdk_35_method_48_code 22 = .ok (.invokestatic 308, 3) := by decide +kernel
def fNL (j0 : Int64) : Int32 := let v5_1 : Int32 := (((j0.toUInt64 >>> ((32 : Int32) &&& 0x3f).toInt64.toUInt64).toInt64).toInt32); if v5_1 = (0 : Int32) then (((32 : Int32) + (fNI (j0.toInt32)))) else ((fNI v5_1))
theorem ef_rNL (m : MethodId) (x0 : Int64) : entryFrame m #[(.long x0)] 3 = mkF m 0 #[.val (.long x0), .second, .unset] [] := by first | (simp [entryFrame, mkF, argsToLocals, Value.category]; done) | rfl
set_option maxRecDepth 65536 in
set_option maxHeartbeats 40000000 in
theorem rNL (l : Launch) (Z : State) (aa : Array Value) (hw : ∀ d ∈ tables_1, d.before aa Z = true) (ws : List Jvm.Cond) (j0 : Int64) (h0 : Heap) :
    Rm l Z (⟨"java/lang/Long", "numberOfLeadingZeros", "(J)I"⟩ : MethodName) jdk_35_method_48_code 3 (some .int) ws ({ frames := 1, cells := 0, slots := 0, locals := 14 } : Room) #[(.long j0)] h0 (Pu (.int (fNL j0)) h0) := by
 refine Rm.of (plainFor_of_name pn_2) ?_
 intro p e s m below meth cc T X hnm hret hlk
 refine Go.at_ (ef_rNL m j0) ?_
 refine g_lloadN X d5_0 (pc' := 1) rfl rfl ?_
 refine g_bipush X (32 : Int32) d5_1 (pc' := 3) rfl rfl ?_
 refine g_lushr X d5_3 (pc' := 4) rfl ?_
 refine g_l2i X d5_4 (pc' := 5) rfl ?_
 generalize qc : (((j0.toUInt64 >>> ((32 : Int32) &&& 0x3f).toInt64.toUInt64).toInt64).toInt32) = qa
 refine g_istoreN X d5_5 (pc' := 6) (Ls' := #[.val (.long j0), .second, .val (.int qa)]) rfl rfl ?_
 refine g_iloadN X d5_6 (pc' := 7) rfl rfl ?_
 by_cases qb : qa = (0 : Int32)
 refine g_ifN X d5_7 ((if0 _ _).trans (teq qb).2) (pc' := 10) rfl ?_
 refine g_bipush X (32 : Int32) d5_10 (pc' := 12) rfl rfl ?_
 refine g_lloadN X d5_12 (pc' := 13) rfl rfl ?_
 refine g_l2i X d5_13 (pc' := 14) rfl ?_
 refine g_static X (W := 1) [(.int (j0.toInt32))] [(.int (32 : Int32))] (tb hw 39 rfl) (tb hw 40 rfl) (tb hw 41 rfl) (tb hw 42 rfl) (rNI l Z aa hw [] (j0.toInt32) _) d5_14 (pc' := 17) rfl (by decide) (by decide) (by decide) rfl rfl rfl (lenOf pd_0 rfl) (Nat.le_refl _) (by decide) (by decide) ?_
 intro v T L X q
 obtain ⟨rfl, X⟩ := pureX X q
 show Go p e below _ (T.setTop (mkF m 17 _ [(.int (fNI (j0.toInt32))), (.int (32 : Int32))]))
 refine g_iadd X d5_17 (pc' := 18) rfl ?_
 refine g_goto X d5_18 (pc' := 25) (by decide) (by decide) ?_
 refine g_ireturn X d5_25 hret hlk (by decide) (by decide) ?_
 subst qc
 exact ⟨congrArg (fun z => some (Value.int z)) (Eq.symm (show fNL j0 = _ from (Eq.trans (if_pos qb) rfl))), rfl, rfl⟩
 refine g_ifY X d5_7 ((if0 _ _).trans (feq qb).2) (pc' := 21) (by decide) (by decide) ?_
 refine g_iloadN X d5_21 (pc' := 22) rfl rfl ?_
 refine g_static X (W := 0) [(.int qa)] [] (tb hw 39 rfl) (tb hw 40 rfl) (tb hw 41 rfl) (tb hw 42 rfl) (rNI l Z aa hw [] qa _) d5_22 (pc' := 25) rfl (by decide) (by decide) (by decide) rfl rfl rfl (lenOf pd_0 rfl) (Nat.le_refl _) (by decide) (by decide) ?_
 intro v T L X q
 obtain ⟨rfl, X⟩ := pureX X q
 show Go p e below _ (T.setTop (mkF m 25 _ [(.int (fNI qa))]))
 refine g_ireturn X d5_25 hret hlk (by decide) (by decide) ?_
 subst qc
 exact ⟨congrArg (fun z => some (Value.int z)) (Eq.symm (show fNL j0 = _ from (Eq.trans (if_neg qb) rfl))), rfl, rfl⟩
def bt (l h : Int32) : Int32 := (64 : Int32) - (fNL (h.toInt64 - l.toInt64))
def SL (x : Int64) (s : Int32) : Int64 := x <<< (s &&& 0x3f).toInt64
def SR (x : Int64) (s : Int32) : Int64 := (x.toUInt64 >>> (s &&& 0x3f).toInt64.toUInt64).toInt64
theorem ush (w q : Int32) (k : Nat) (h1 : q.toBitVec.toNat % 32 = k) (h2 : 0 < k) (h3 : 0 ≤ w.toInt) : ((w.toUInt32 >>> (q &&& 31).toUInt32).toInt32).toInt = w.toInt / (2 ^ k : Nat) := by
  rw [c_iushr w q k h1 h2, Int.emod_eq_of_lt h3 (by have := (rng32 w).2; omega)]
theorem leafN {x c w : Int32} (n : Nat) (hc : c.toInt = n) (hn1 : 1 ≤ n) (hn : n ≤ 31) (hw1 : 1 ≤ w.toInt) (hw3 : w.toInt ≤ 3) (he : x.toInt / (2 ^ (31 - n) : Nat) = w.toInt) :
    ∃ r : Nat, (c - ((w.toUInt32 >>> ((1 : Int32) &&& 31).toUInt32).toInt32)).toInt = r ∧ r ≤ 32 ∧ x.toInt < (2 ^ (32 - r) : Nat) := by
  have e1 := ush w 1 1 (by decide) (by decide) (by omega)
  simp only [Nat.pow_one] at e1
  have e2 : (c - ((w.toUInt32 >>> ((1 : Int32) &&& 31).toUInt32).toInt32)).toInt = n - w.toInt / 2 := by
    rw [Int32.toInt_sub, e1, hc]; exact Int.bmod_eq_of_le (by omega) (by omega)
  have pp : 0 < ((2 ^ (31 - n) : Nat) : Int) := by exact_mod_cast Nat.pow_pos (by decide)
  have hx := Int.lt_ediv_add_one_mul_self x.toInt pp
  rw [he] at hx
  rw [e2]
  by_cases h : w.toInt = 1
  · refine ⟨n, by omega, by omega, ?_⟩
    rw [show 32 - n = (31 - n) + 1 by omega, Nat.pow_succ]
    rw [h] at hx
    simp only [Int.natCast_mul, Int.cast_ofNat_Int]
    omega
  · refine ⟨n - 1, by omega, by omega, ?_⟩
    rw [show 32 - (n - 1) = (31 - n) + 1 + 1 by omega, Nat.pow_succ, Nat.pow_succ]
    simp only [Int.natCast_mul, Int.cast_ofNat_Int]
    have hw : (w.toInt + 1) * ((2 ^ (31 - n) : Nat) : Int) ≤ 4 * ((2 ^ (31 - n) : Nat) : Int) := Int.mul_le_mul_of_nonneg_right (by omega) (by omega)
    omega
theorem nI_bound (x : Int32) (hx : 0 < x.toInt) : ∃ r : Nat, (fNI x).toInt = r ∧ r ≤ 32 ∧ x.toInt < (2 ^ (32 - r) : Nat) := by
  have r := rng32 x
  have u16 := fun w h => ush w 16 16 (by decide) (by decide) h
  have u8 := fun w h => ush w 8 8 (by decide) (by decide) h
  have u4 := fun w h => ush w 4 4 (by decide) (by decide) h
  have u2 := fun w h => ush w 2 2 (by decide) (by decide) h
  simp only [Nat.reducePow, Int.cast_ofNat_Int] at u16 u8 u4 u2
  unfold fNI
  dsimp only
  rw [if_pos (by rw [Int32.lt_iff_toInt_lt]; exact hx)]
  by_cases c1 : x < (65536 : Int32)
  · rw [if_pos c1]
    rw [Int32.lt_iff_toInt_lt] at c1; simp only [Int32.reduceToInt] at c1
    by_cases c2 : x < (256 : Int32)
    · rw [if_pos c2]
      rw [Int32.lt_iff_toInt_lt] at c2; simp only [Int32.reduceToInt] at c2
      by_cases c3 : x < (16 : Int32)
      · rw [if_pos c3]
        rw [Int32.lt_iff_toInt_lt] at c3; simp only [Int32.reduceToInt] at c3
        by_cases c4 : x < (4 : Int32)
        · rw [if_pos c4]
          rw [Int32.lt_iff_toInt_lt] at c4; simp only [Int32.reduceToInt] at c4
          exact leafN 31 rfl (by decide) (by decide) (by omega) (by omega) (by simp only [Nat.reduceSub, Nat.reducePow, Int.cast_ofNat_Int]; omega)
        · rw [if_neg c4]
          rw [Int32.lt_iff_toInt_lt] at c4; simp only [Int32.reduceToInt] at c4
          have e4 := u2 x (by omega)
          generalize ((x.toUInt32 >>> ((2 : Int32) &&& 31).toUInt32).toInt32) = w4 at *
          exact leafN 29 rfl (by decide) (by decide) (by omega) (by omega) (by simp only [Nat.reduceSub, Nat.reducePow, Int.cast_ofNat_Int]; omega)
      · rw [if_neg c3]
        rw [Int32.lt_iff_toInt_lt] at c3; simp only [Int32.reduceToInt] at c3
        have e3 := u4 x (by omega)
        generalize ((x.toUInt32 >>> ((4 : Int32) &&& 31).toUInt32).toInt32) = w3 at *
        by_cases c5 : w3 < (4 : Int32)
        · rw [if_pos c5]
          rw [Int32.lt_iff_toInt_lt] at c5; simp only [Int32.reduceToInt] at c5
          exact leafN 27 rfl (by decide) (by decide) (by omega) (by omega) (by simp only [Nat.reduceSub, Nat.reducePow, Int.cast_ofNat_Int]; omega)
        · rw [if_neg c5]
          rw [Int32.lt_iff_toInt_lt] at c5; simp only [Int32.reduceToInt] at c5
          have e5 := u2 w3 (by omega)
          generalize ((w3.toUInt32 >>> ((2 : Int32) &&& 31).toUInt32).toInt32) = w5 at *
          exact leafN 25 rfl (by decide) (by decide) (by omega) (by omega) (by simp only [Nat.reduceSub, Nat.reducePow, Int.cast_ofNat_Int]; omega)
    · rw [if_neg c2]
      rw [Int32.lt_iff_toInt_lt] at c2; simp only [Int32.reduceToInt] at c2
      have e2 := u8 x (by omega)
      generalize ((x.toUInt32 >>> ((8 : Int32) &&& 31).toUInt32).toInt32) = w2 at *
      by_cases c6 : w2 < (16 : Int32)
      · rw [if_pos c6]
        rw [Int32.lt_iff_toInt_lt] at c6; simp only [Int32.reduceToInt] at c6
        by_cases c7 : w2 < (4 : Int32)
        · rw [if_pos c7]
          rw [Int32.lt_iff_toInt_lt] at c7; simp only [Int32.reduceToInt] at c7
          exact leafN 23 rfl (by decide) (by decide) (by omega) (by omega) (by simp only [Nat.reduceSub, Nat.reducePow, Int.cast_ofNat_Int]; omega)
        · rw [if_neg c7]
          rw [Int32.lt_iff_toInt_lt] at c7; simp only [Int32.reduceToInt] at c7
          have e7 := u2 w2 (by omega)
          generalize ((w2.toUInt32 >>> ((2 : Int32) &&& 31).toUInt32).toInt32) = w7 at *
          exact leafN 21 rfl (by decide) (by decide) (by omega) (by omega) (by simp only [Nat.reduceSub, Nat.reducePow, Int.cast_ofNat_Int]; omega)
      · rw [if_neg c6]
        rw [Int32.lt_iff_toInt_lt] at c6; simp only [Int32.reduceToInt] at c6
        have e6 := u4 w2 (by omega)
        generalize ((w2.toUInt32 >>> ((4 : Int32) &&& 31).toUInt32).toInt32) = w6 at *
        by_cases c8 : w6 < (4 : Int32)
        · rw [if_pos c8]
          rw [Int32.lt_iff_toInt_lt] at c8; simp only [Int32.reduceToInt] at c8
          exact leafN 19 rfl (by decide) (by decide) (by omega) (by omega) (by simp only [Nat.reduceSub, Nat.reducePow, Int.cast_ofNat_Int]; omega)
        · rw [if_neg c8]
          rw [Int32.lt_iff_toInt_lt] at c8; simp only [Int32.reduceToInt] at c8
          have e8 := u2 w6 (by omega)
          generalize ((w6.toUInt32 >>> ((2 : Int32) &&& 31).toUInt32).toInt32) = w8 at *
          exact leafN 17 rfl (by decide) (by decide) (by omega) (by omega) (by simp only [Nat.reduceSub, Nat.reducePow, Int.cast_ofNat_Int]; omega)
  · rw [if_neg c1]
    rw [Int32.lt_iff_toInt_lt] at c1; simp only [Int32.reduceToInt] at c1
    have e1 := u16 x (by omega)
    generalize ((x.toUInt32 >>> ((16 : Int32) &&& 31).toUInt32).toInt32) = w1 at *
    by_cases c9 : w1 < (256 : Int32)
    · rw [if_pos c9]
      rw [Int32.lt_iff_toInt_lt] at c9; simp only [Int32.reduceToInt] at c9
      by_cases c10 : w1 < (16 : Int32)
      · rw [if_pos c10]
        rw [Int32.lt_iff_toInt_lt] at c10; simp only [Int32.reduceToInt] at c10
        by_cases c11 : w1 < (4 : Int32)
        · rw [if_pos c11]
          rw [Int32.lt_iff_toInt_lt] at c11; simp only [Int32.reduceToInt] at c11
          exact leafN 15 rfl (by decide) (by decide) (by omega) (by omega) (by simp only [Nat.reduceSub, Nat.reducePow, Int.cast_ofNat_Int]; omega)
        · rw [if_neg c11]
          rw [Int32.lt_iff_toInt_lt] at c11; simp only [Int32.reduceToInt] at c11
          have e11 := u2 w1 (by omega)
          generalize ((w1.toUInt32 >>> ((2 : Int32) &&& 31).toUInt32).toInt32) = w11 at *
          exact leafN 13 rfl (by decide) (by decide) (by omega) (by omega) (by simp only [Nat.reduceSub, Nat.reducePow, Int.cast_ofNat_Int]; omega)
      · rw [if_neg c10]
        rw [Int32.lt_iff_toInt_lt] at c10; simp only [Int32.reduceToInt] at c10
        have e10 := u4 w1 (by omega)
        generalize ((w1.toUInt32 >>> ((4 : Int32) &&& 31).toUInt32).toInt32) = w10 at *
        by_cases c12 : w10 < (4 : Int32)
        · rw [if_pos c12]
          rw [Int32.lt_iff_toInt_lt] at c12; simp only [Int32.reduceToInt] at c12
          exact leafN 11 rfl (by decide) (by decide) (by omega) (by omega) (by simp only [Nat.reduceSub, Nat.reducePow, Int.cast_ofNat_Int]; omega)
        · rw [if_neg c12]
          rw [Int32.lt_iff_toInt_lt] at c12; simp only [Int32.reduceToInt] at c12
          have e12 := u2 w10 (by omega)
          generalize ((w10.toUInt32 >>> ((2 : Int32) &&& 31).toUInt32).toInt32) = w12 at *
          exact leafN 9 rfl (by decide) (by decide) (by omega) (by omega) (by simp only [Nat.reduceSub, Nat.reducePow, Int.cast_ofNat_Int]; omega)
    · rw [if_neg c9]
      rw [Int32.lt_iff_toInt_lt] at c9; simp only [Int32.reduceToInt] at c9
      have e9 := u8 w1 (by omega)
      generalize ((w1.toUInt32 >>> ((8 : Int32) &&& 31).toUInt32).toInt32) = w9 at *
      by_cases c13 : w9 < (16 : Int32)
      · rw [if_pos c13]
        rw [Int32.lt_iff_toInt_lt] at c13; simp only [Int32.reduceToInt] at c13
        by_cases c14 : w9 < (4 : Int32)
        · rw [if_pos c14]
          rw [Int32.lt_iff_toInt_lt] at c14; simp only [Int32.reduceToInt] at c14
          exact leafN 7 rfl (by decide) (by decide) (by omega) (by omega) (by simp only [Nat.reduceSub, Nat.reducePow, Int.cast_ofNat_Int]; omega)
        · rw [if_neg c14]
          rw [Int32.lt_iff_toInt_lt] at c14; simp only [Int32.reduceToInt] at c14
          have e14 := u2 w9 (by omega)
          generalize ((w9.toUInt32 >>> ((2 : Int32) &&& 31).toUInt32).toInt32) = w14 at *
          exact leafN 5 rfl (by decide) (by decide) (by omega) (by omega) (by simp only [Nat.reduceSub, Nat.reducePow, Int.cast_ofNat_Int]; omega)
      · rw [if_neg c13]
        rw [Int32.lt_iff_toInt_lt] at c13; simp only [Int32.reduceToInt] at c13
        have e13 := u4 w9 (by omega)
        generalize ((w9.toUInt32 >>> ((4 : Int32) &&& 31).toUInt32).toInt32) = w13 at *
        by_cases c15 : w13 < (4 : Int32)
        · rw [if_pos c15]
          rw [Int32.lt_iff_toInt_lt] at c15; simp only [Int32.reduceToInt] at c15
          exact leafN 3 rfl (by decide) (by decide) (by omega) (by omega) (by simp only [Nat.reduceSub, Nat.reducePow, Int.cast_ofNat_Int]; omega)
        · rw [if_neg c15]
          rw [Int32.lt_iff_toInt_lt] at c15; simp only [Int32.reduceToInt] at c15
          have e15 := u2 w13 (by omega)
          generalize ((w13.toUInt32 >>> ((2 : Int32) &&& 31).toUInt32).toInt32) = w15 at *
          exact leafN 1 rfl (by decide) (by decide) (by omega) (by omega) (by simp only [Nat.reduceSub, Nat.reducePow, Int.cast_ofNat_Int]; omega)
theorem nL_small (j : Int64) (h0 : 0 ≤ j.toInt) (h1 : j.toInt < 4294967296) : ∃ b : Nat, ((64 : Int32) - fNL j).toInt = b ∧ b ≤ 32 ∧ j.toInt < (2 ^ b : Nat) := by
  have e0 : (((j.toUInt64 >>> ((32 : Int32) &&& 0x3f).toInt64.toUInt64).toInt64).toInt32) = (0 : Int32) := by
    have a := c_lushr j 32 32 (by decide) (by decide)
    simp only [Nat.reducePow, Int.cast_ofNat_Int] at a
    have b := c_l2i ((j.toUInt64 >>> ((32 : Int32) &&& 0x3f).toInt64.toUInt64).toInt64)
    have r := rng32 (((j.toUInt64 >>> ((32 : Int32) &&& 0x3f).toInt64.toUInt64).toInt64).toInt32)
    apply Int32.toInt_inj.mp
    simp only [Int32.reduceToInt]
    omega
  have e1 : fNL j = (32 : Int32) + fNI j.toInt32 := by
    unfold fNL
    exact if_pos e0
  have c2 := c_l2i j
  have r := rng32 j.toInt32
  rw [e1]
  by_cases p : 0 < j.toInt32.toInt
  · obtain ⟨q, q1, q2, q3⟩ := nI_bound j.toInt32 p
    refine ⟨32 - q, ?_, by omega, ?_⟩
    · rw [Int32.toInt_sub, Int32.toInt_add, q1]; simp only [Int32.reduceToInt]
      rw [Int.bmod_eq_of_le (n := 32 + (q : Int)) (by omega) (by omega)]
      rw [Int.bmod_eq_of_le (by omega) (by omega)]; omega
    · rw [show j.toInt = j.toInt32.toInt by omega]; exact q3
  · by_cases z : j.toInt32.toInt = 0
    · have e2 : fNI j.toInt32 = 32 := by
        have hz : j.toInt32 = 0 := Int32.toInt_inj.mp z
        rw [hz]; decide
      rw [e2]
      exact ⟨0, by decide, by decide, by simp only [Nat.pow_zero]; omega⟩
    · have e2 : fNI j.toInt32 = 0 := by
        unfold fNI
        rw [if_neg (by rw [Int32.lt_iff_toInt_lt]; exact p), if_neg (by intro q; apply z; rw [q]; rfl)]
      rw [e2]
      exact ⟨32, by decide, by decide, by simp only [Nat.reducePow]; omega⟩
theorem span_int (l h : Int32) : (h.toInt64 - l.toInt64).toInt = h.toInt - l.toInt := by
  have r := rng32 l; have r2 := rng32 h
  rw [Int64.toInt_sub, Int32.toInt_toInt64, Int32.toInt_toInt64]; exact Int.bmod_eq_of_le (by omega) (by omega)
theorem bt_bound (l h : Int32) (hle : l.toInt ≤ h.toInt) : ∃ b : Nat, (bt l h).toInt = b ∧ b ≤ 32 ∧ h.toInt - l.toInt < (2 ^ b : Nat) := by
  have r := rng32 l; have r2 := rng32 h
  have e := span_int l h
  obtain ⟨b, h1, h2, h3⟩ := nL_small (h.toInt64 - l.toInt64) (by omega) (by omega)
  exact ⟨b, h1, h2, by omega⟩
theorem nat_of32 {s : Int32} {n : Nat} (h : s.toInt = n) : s.toBitVec.toNat = n := by
  have l := s.toBitVec.isLt
  change s.toBitVec.toInt = _ at h
  rw [BitVec.toInt_eq_toNat_cond] at h
  split at h <;> omega
theorem nat_of64 {s : Int64} {n : Nat} (h : s.toInt = n) : s.toBitVec.toNat = n := by
  have l := s.toBitVec.isLt
  change s.toBitVec.toInt = _ at h
  rw [BitVec.toInt_eq_toNat_cond] at h
  split at h <;> omega
theorem sl_bv (x : Int64) {s : Int32} {n : Nat} (hs : s.toInt = n) : (SL x s).toBitVec = x.toBitVec <<< (n % 64) := by
  obtain ⟨e, lt⟩ := sm64 s (n % 64) (by rw [nat_of32 hs])
  show x.toBitVec <<< ((s &&& 0x3f).toInt64.toBitVec.smod 64) = _
  rw [e]
  show x.toBitVec <<< ((BitVec.ofNat 64 (n % 64)).smod 64).toNat = _
  rw [smod64 _ lt]
theorem sr_bv (x : Int64) {s : Int32} {n : Nat} (hs : s.toInt = n) : (SR x s).toBitVec = x.toBitVec >>> (n % 64) := by
  obtain ⟨e, lt⟩ := sm64 s (n % 64) (by rw [nat_of32 hs])
  show x.toBitVec >>> ((s &&& 0x3f).toInt64.toBitVec % 64) = _
  rw [e]
  show x.toBitVec >>> ((BitVec.ofNat 64 (n % 64)) % 64).toNat = _
  rw [BitVec.toNat_umod, BitVec.toNat_ofNat, Nat.mod_eq_of_lt (show n % 64 < 2 ^ 64 by omega)]
  show x.toBitVec >>> (n % 64 % 64) = _
  rw [Nat.mod_mod]
theorem mask_nat {b : Int32} {bb : Nat} (hb : b.toInt = bb) (h32 : bb ≤ 32) : (SL (1 : Int64) b - (1 : Int64)).toBitVec.toNat = 2 ^ bb - 1 := by
  have p : 2 ^ bb ≤ 2 ^ 32 := Nat.pow_le_pow_right (by decide) h32
  have p1 : 0 < 2 ^ bb := Nat.pow_pos (by decide)
  rw [Int64.toBitVec_sub, sl_bv 1 hb, Nat.mod_eq_of_lt (show bb < 64 by omega)]
  have e : ((1 : Int64).toBitVec <<< bb).toNat = 2 ^ bb := by
    rw [BitVec.toNat_shiftLeft]
    show 1 <<< bb % 2 ^ 64 = _
    rw [Nat.shiftLeft_eq, Nat.one_mul, Nat.mod_eq_of_lt (by omega)]
  rw [BitVec.toNat_sub, e]
  show (2 ^ 64 - 1 + 2 ^ bb) % 2 ^ 64 = _
  omega
theorem hi_false {d : BitVec 64} {b t : Nat} (h : d.toNat < 2 ^ b) (ht : b ≤ t) : d.getLsbD t = false :=
  Nat.testBit_lt_two_pow (Nat.lt_of_lt_of_le h (Nat.pow_le_pow_right (by decide) ht))
theorem zero_of {d : BitVec 64} (h : d.toNat < 2 ^ 0) : d = 0 := by
  apply BitVec.eq_of_toNat_eq
  show d.toNat = 0
  simp only [Nat.pow_zero] at h
  omega
theorem slbit {x : Int64} {s : Int32} {n b : Nat} (hs : s.toInt = n) (hnb : n + b ≤ 64) (hd : x.toBitVec.toNat < 2 ^ b) (j : Nat) (hj : j < 64) : (SL x s).toBitVec.getLsbD j = (decide (n ≤ j) && x.toBitVec.getLsbD (j - n)) := by
  rw [sl_bv x hs]
  by_cases h : n < 64
  · rw [Nat.mod_eq_of_lt h, BitVec.getLsbD_shiftLeft]
    by_cases q : n ≤ j
    · simp [q, hj, Nat.not_lt.mpr q]
    · simp [q, Nat.lt_of_not_le q]
  · have e : n = 64 := by omega
    have e2 : b = 0 := by omega
    subst e2
    rw [zero_of hd]
    simp
theorem pick_bits {K x : BitVec 64} {n b : Nat} (hx : x.toNat < 2 ^ b) (bits : ∀ i, i < b → K.getLsbD (n + i) = x.getLsbD i) : (K >>> n).toNat % 2 ^ b = x.toNat := by
  apply Nat.eq_of_testBit_eq
  intro i
  rw [Nat.testBit_mod_two_pow]
  by_cases q : i < b
  · simp only [q, decide_true, Bool.true_and]
    rw [BitVec.toNat_ushiftRight, Nat.testBit_shiftRight]
    exact bits i q
  · simp only [q, decide_false, Bool.false_and]
    exact (hi_false hx (Nat.le_of_not_lt q)).symm
theorem unpk {K d : Int64} {s b : Int32} {n bb : Nat} (hs : s.toInt = n) (hb : b.toInt = bb) (hnb : n + bb ≤ 64) (h32 : bb ≤ 32) (hd : d.toBitVec.toNat < 2 ^ bb) (bits : ∀ i, i < bb → K.toBitVec.getLsbD (n + i) = d.toBitVec.getLsbD i) : SR K s &&& (SL (1 : Int64) b - (1 : Int64)) = d := by
  apply Int64.toBitVec_inj.mp
  apply BitVec.eq_of_toNat_eq
  rw [Int64.toBitVec_and, BitVec.toNat_and, mask_nat hb h32, Nat.and_two_pow_sub_one_eq_mod, sr_bv K hs]
  by_cases h : n < 64
  · rw [Nat.mod_eq_of_lt h]; exact pick_bits hd bits
  · have e2 : bb = 0 := by omega
    subst e2
    rw [zero_of hd]
    simp [Nat.mod_one]
theorem back_int (v l : Int32) : (v.toInt64 - l.toInt64).toInt32 + l = v := by
  have e := span_int l v
  have a := c_l2i (v.toInt64 - l.toInt64)
  have b := c_iadd (v.toInt64 - l.toInt64).toInt32 l
  have r := rng32 v; have r2 := rng32 ((v.toInt64 - l.toInt64).toInt32 + l)
  apply Int32.toInt_inj.mp
  omega
theorem d_nat {l h v : Int32} {b : Nat} (h1 : l.toInt ≤ v.toInt) (h2 : v.toInt ≤ h.toInt) (h3 : h.toInt - l.toInt < (2 ^ b : Nat)) : (v.toInt64 - l.toInt64).toBitVec.toNat < 2 ^ b := by
  have e := span_int l v
  have q : (v.toInt64 - l.toInt64).toBitVec.toNat = (v.toInt - l.toInt).toNat := nat_of64 (by omega)
  rw [q]; omega

theorem d14_0 : decode jdk_35_method_42_code 0 = .ok (.lload_n 0, 1) := by decide +kernel
theorem d14_1 : decode jdk_35_method_42_code 1 = .ok (.lload_n 2, 1) := by decide +kernel
theorem d14_2 : decode jdk_35_method_42_code 2 = .ok (.lcmp, 1) := by decide +kernel
theorem d14_3 : decode jdk_35_method_42_code 3 = .ok (.ifCond .ge 7, 3) := by decide +kernel
theorem d14_6 : decode jdk_35_method_42_code 6 = .ok (.iconst (-1), 1) := by decide +kernel
theorem d14_7 : decode jdk_35_method_42_code 7 = .ok (.goto 14, 3) := by decide +kernel
theorem d14_21 : decode jdk_35_method_42_code 21 = .ok (.ireturn, 1) := by decide +kernel
theorem d14_10 : decode jdk_35_method_42_code 10 = .ok (.lload_n 0, 1) := by decide +kernel
theorem d14_11 : decode jdk_35_method_42_code 11 = .ok (.lload_n 2, 1) := by decide +kernel
theorem d14_12 : decode jdk_35_method_42_code 12 = .ok (.lcmp, 1) := by decide +kernel
theorem d14_13 : decode jdk_35_method_42_code 13 = .ok (.ifCond .ne 7, 3) := by decide +kernel
theorem d14_16 : decode jdk_35_method_42_code 16 = .ok (.iconst 0, 1) := by decide +kernel
theorem d14_17 : decode jdk_35_method_42_code 17 = .ok (.goto 4, 3) := by decide +kernel
theorem d14_20 : decode jdk_35_method_42_code 20 = .ok (.iconst 1, 1) := by decide +kernel
def fCL (j0 : Int64) (j1 : Int64) : Int32 := if j0 < j1 then ((-1 : Int32)) else (if j0 = j1 then ((0 : Int32)) else ((1 : Int32)))
theorem ef_rCL (m : MethodId) (x0 : Int64) (x1 : Int64) : entryFrame m #[(.long x0), (.long x1)] 4 = mkF m 0 #[.val (.long x0), .second, .val (.long x1), .second] [] := by first | (simp [entryFrame, mkF, argsToLocals, Value.category]; done) | rfl
set_option maxRecDepth 65536 in
set_option maxHeartbeats 40000000 in
theorem rCL (l : Launch) (Z : State) (aa : Array Value) (hw : ∀ d ∈ tables_1, d.before aa Z = true) (ws : List Jvm.Cond) (j0 : Int64) (j1 : Int64) (h0 : Heap) :
    Rm l Z (⟨"java/lang/Long", "compare", "(JJ)I"⟩ : MethodName) jdk_35_method_42_code 4 (some .int) ws ({ frames := 0, cells := 0, slots := 0, locals := 0 } : Room) #[(.long j0), (.long j1)] h0 (Pu (.int (fCL j0 j1)) h0) := by
 refine Rm.of (plainFor_of_name pn_2) ?_
 intro p e s m below meth cc T X hnm hret hlk
 refine Go.at_ (ef_rCL m j0 j1) ?_
 refine g_lloadN X d14_0 (pc' := 1) rfl rfl ?_
 refine g_lloadN X d14_1 (pc' := 2) rfl rfl ?_
 refine g_lcmp X d14_2 (pc' := 3) rfl ?_
 by_cases qa : j0 < j1
 refine g_ifN X d14_3 ((if0 _ _).trans (tlt ((lw_lt j0 j1).mpr qa)).2.1) (pc' := 6) rfl ?_
 refine g_iconst X (-1 : Int32) d14_6 (pc' := 7) rfl rfl ?_
 refine g_goto X d14_7 (pc' := 21) (by decide) (by decide) ?_
 refine g_ireturn X d14_21 hret hlk (by decide) (by decide) ?_
 exact ⟨congrArg (fun z => some (Value.int z)) (Eq.symm (show fCL j0 j1 = _ from (Eq.trans (if_pos qa) rfl))), rfl, rfl⟩
 refine g_ifY X d14_3 ((if0 _ _).trans (flt (fun q => qa ((lw_lt j0 j1).mp q))).2.1) (pc' := 10) (by decide) (by decide) ?_
 refine g_lloadN X d14_10 (pc' := 11) rfl rfl ?_
 refine g_lloadN X d14_11 (pc' := 12) rfl rfl ?_
 refine g_lcmp X d14_12 (pc' := 13) rfl ?_
 by_cases qb : j0 = j1
 refine g_ifN X d14_13 ((if0 _ _).trans (teq ((lw_eq j0 j1).mpr qb)).2) (pc' := 16) rfl ?_
 refine g_iconst X (0 : Int32) d14_16 (pc' := 17) rfl rfl ?_
 refine g_goto X d14_17 (pc' := 21) (by decide) (by decide) ?_
 refine g_ireturn X d14_21 hret hlk (by decide) (by decide) ?_
 exact ⟨congrArg (fun z => some (Value.int z)) (Eq.symm (show fCL j0 j1 = _ from (Eq.trans (if_neg qa) (Eq.trans (if_pos qb) rfl)))), rfl, rfl⟩
 refine g_ifY X d14_13 ((if0 _ _).trans (feq (fun q => qb ((lw_eq j0 j1).mp q))).2) (pc' := 20) (by decide) (by decide) ?_
 refine g_iconst X (1 : Int32) d14_20 (pc' := 21) rfl rfl ?_
 refine g_ireturn X d14_21 hret hlk (by decide) (by decide) ?_
 exact ⟨congrArg (fun z => some (Value.int z)) (Eq.symm (show fCL j0 j1 = _ from (Eq.trans (if_neg qa) (Eq.trans (if_neg qb) rfl)))), rfl, rfl⟩
theorem d13_0 : decode jdk_35_method_43_code 0 = .ok (.lload_n 0, 1) := by decide +kernel
theorem d13_1 : decode jdk_35_method_43_code 1 = .ok (.ldc2_w 168, 3) := by decide +kernel
theorem d13_4 : decode jdk_35_method_43_code 4 = .ok (.ladd, 1) := by decide +kernel
theorem d13_5 : decode jdk_35_method_43_code 5 = .ok (.lload_n 2, 1) := by decide +kernel
theorem d13_6 : decode jdk_35_method_43_code 6 = .ok (.ldc2_w 168, 3) := by decide +kernel
theorem d13_9 : decode jdk_35_method_43_code 9 = .ok (.ladd, 1) := by decide +kernel
theorem d13_10 : decode jdk_35_method_43_code 10 = .ok (.invokestatic 302, 3) := by decide +kernel
theorem pd_1 : parseMethodDescriptor "(JJ)I" = some ⟨[.long, .long], some .int⟩ := by decide +kernel
theorem d13_13 : decode jdk_35_method_43_code 13 = .ok (.ireturn, 1) := by decide +kernel
def fCU (j0 : Int64) (j1 : Int64) : Int32 := (fCL (j0 + (-9223372036854775808 : Int64)) (j1 + (-9223372036854775808 : Int64)))
theorem ef_rCU (m : MethodId) (x0 : Int64) (x1 : Int64) : entryFrame m #[(.long x0), (.long x1)] 4 = mkF m 0 #[.val (.long x0), .second, .val (.long x1), .second] [] := by first | (simp [entryFrame, mkF, argsToLocals, Value.category]; done) | rfl
set_option maxRecDepth 65536 in
set_option maxHeartbeats 40000000 in
theorem rCU (l : Launch) (Z : State) (aa : Array Value) (hw : ∀ d ∈ tables_1, d.before aa Z = true) (ws : List Jvm.Cond) (j0 : Int64) (j1 : Int64) (h0 : Heap) :
    Rm l Z (⟨"java/lang/Long", "compareUnsigned", "(JJ)I"⟩ : MethodName) jdk_35_method_43_code 4 (some .int) ws ({ frames := 1, cells := 0, slots := 0, locals := 15 } : Room) #[(.long j0), (.long j1)] h0 (Pu (.int (fCU j0 j1)) h0) := by
 refine Rm.of (plainFor_of_name pn_2) ?_
 intro p e s m below meth cc T X hnm hret hlk
 refine Go.at_ (ef_rCU m j0 j1) ?_
 refine g_lloadN X d13_0 (pc' := 1) rfl rfl ?_
 refine g_ldc2 X (tb hw 82 rfl) d13_1 (pc' := 4) rfl ?_
 refine g_ladd X d13_4 (pc' := 5) rfl ?_
 refine g_lloadN X d13_5 (pc' := 6) rfl rfl ?_
 refine g_ldc2 X (tb hw 82 rfl) d13_6 (pc' := 9) rfl ?_
 refine g_ladd X d13_9 (pc' := 10) rfl ?_
 refine g_static X (W := 0) [(.long (j0 + (-9223372036854775808 : Int64))), (.long (j1 + (-9223372036854775808 : Int64)))] [] (tb hw 83 rfl) (tb hw 84 rfl) (tb hw 37 rfl) (tb hw 85 rfl) (rCL l Z aa hw [] (j0 + (-9223372036854775808 : Int64)) (j1 + (-9223372036854775808 : Int64)) _) d13_10 (pc' := 13) rfl (by decide) (by decide) (by decide) rfl rfl rfl (lenOf pd_1 rfl) (Nat.le_refl _) (by decide) (by decide) ?_
 intro v T L X q
 obtain ⟨rfl, X⟩ := pureX X q
 show Go p e below _ (T.setTop (mkF m 13 _ [(.int (fCL (j0 + (-9223372036854775808 : Int64)) (j1 + (-9223372036854775808 : Int64))))]))
 refine g_ireturn X d13_13 hret hlk (by decide) (by decide) ?_
 exact ⟨congrArg (fun z => some (Value.int z)) (Eq.symm (show fCU j0 j1 = _ from rfl)), rfl, rfl⟩
theorem d15_0 : decode method_4_code 0 = .ok (.iload_n 0, 1) := by decide +kernel
theorem d15_1 : decode method_4_code 1 = .ok (.ifCond .ge 7, 3) := by decide +kernel
theorem d15_4 : decode method_4_code 4 = .ok (.iconst (-1), 1) := by decide +kernel
theorem d15_5 : decode method_4_code 5 = .ok (.goto 12, 3) := by decide +kernel
theorem d15_17 : decode method_4_code 17 = .ok (.ireturn, 1) := by decide +kernel
theorem d15_8 : decode method_4_code 8 = .ok (.iload_n 0, 1) := by decide +kernel
theorem d15_9 : decode method_4_code 9 = .ok (.ifCond .le 7, 3) := by decide +kernel
theorem d15_12 : decode method_4_code 12 = .ok (.iconst 1, 1) := by decide +kernel
theorem d15_13 : decode method_4_code 13 = .ok (.goto 4, 3) := by decide +kernel
theorem d15_16 : decode method_4_code 16 = .ok (.iconst 0, 1) := by decide +kernel
def fSign (i0 : Int32) : Int32 := if i0 < (0 : Int32) then ((-1 : Int32)) else (if (0 : Int32) < i0 then ((1 : Int32)) else ((0 : Int32)))
theorem ef_rSign (m : MethodId) (x0 : Int32) : entryFrame m #[(.int x0)] 1 = mkF m 0 #[.val (.int x0)] [] := by first | (simp [entryFrame, mkF, argsToLocals, Value.category]; done) | rfl
set_option maxRecDepth 65536 in
set_option maxHeartbeats 40000000 in
theorem rSign (l : Launch) (Z : State) (aa : Array Value) (hw : ∀ d ∈ tables_1, d.before aa Z = true) (ws : List Jvm.Cond) (i0 : Int32) (h0 : Heap) :
    Rm l Z (⟨"com/example/ryazan/ryazan/language/LayoutPackPinLaw", "sign", "(I)I"⟩ : MethodName) method_4_code 1 (some .int) ws ({ frames := 0, cells := 0, slots := 0, locals := 0 } : Room) #[(.int i0)] h0 (Pu (.int (fSign i0)) h0) := by
 refine Rm.of (plainFor_of_name pn_0) ?_
 intro p e s m below meth cc T X hnm hret hlk
 refine Go.at_ (ef_rSign m i0) ?_
 refine g_iloadN X d15_0 (pc' := 1) rfl rfl ?_
 by_cases qa : i0 < (0 : Int32)
 refine g_ifN X d15_1 ((if0 _ _).trans (tlt qa).2.1) (pc' := 4) rfl ?_
 refine g_iconst X (-1 : Int32) d15_4 (pc' := 5) rfl rfl ?_
 refine g_goto X d15_5 (pc' := 17) (by decide) (by decide) ?_
 refine g_ireturn X d15_17 hret hlk (by decide) (by decide) ?_
 exact ⟨congrArg (fun z => some (Value.int z)) (Eq.symm (show fSign i0 = _ from (Eq.trans (if_pos qa) rfl))), rfl, rfl⟩
 refine g_ifY X d15_1 ((if0 _ _).trans (flt qa).2.1) (pc' := 8) (by decide) (by decide) ?_
 refine g_iloadN X d15_8 (pc' := 9) rfl rfl ?_
 by_cases qb : (0 : Int32) < i0
 refine g_ifN X d15_9 ((if0 _ _).trans (tlt qb).2.2.2) (pc' := 12) rfl ?_
 refine g_iconst X (1 : Int32) d15_12 (pc' := 13) rfl rfl ?_
 refine g_goto X d15_13 (pc' := 17) (by decide) (by decide) ?_
 refine g_ireturn X d15_17 hret hlk (by decide) (by decide) ?_
 exact ⟨congrArg (fun z => some (Value.int z)) (Eq.symm (show fSign i0 = _ from (Eq.trans (if_neg qa) (Eq.trans (if_pos qb) rfl)))), rfl, rfl⟩
 refine g_ifY X d15_9 ((if0 _ _).trans (flt qb).2.2.2) (pc' := 16) (by decide) (by decide) ?_
 refine g_iconst X (0 : Int32) d15_16 (pc' := 17) rfl rfl ?_
 refine g_ireturn X d15_17 hret hlk (by decide) (by decide) ?_
 exact ⟨congrArg (fun z => some (Value.int z)) (Eq.symm (show fSign i0 = _ from (Eq.trans (if_neg qa) (Eq.trans (if_neg qb) rfl)))), rfl, rfl⟩
theorem d17_0 : decode method_3_code 0 = .ok (.iload_n 0, 1) := by decide +kernel
theorem d17_1 : decode method_3_code 1 = .ok (.iload_n 1, 1) := by decide +kernel
theorem d17_2 : decode method_3_code 2 = .ok (.if_icmp .ge 7, 3) := by decide +kernel
theorem d17_5 : decode method_3_code 5 = .ok (.iconst (-1), 1) := by decide +kernel
theorem d17_6 : decode method_3_code 6 = .ok (.goto 13, 3) := by decide +kernel
theorem d17_19 : decode method_3_code 19 = .ok (.ireturn, 1) := by decide +kernel
theorem d17_9 : decode method_3_code 9 = .ok (.iload_n 0, 1) := by decide +kernel
theorem d17_10 : decode method_3_code 10 = .ok (.iload_n 1, 1) := by decide +kernel
theorem d17_11 : decode method_3_code 11 = .ok (.if_icmp .le 7, 3) := by decide +kernel
theorem d17_14 : decode method_3_code 14 = .ok (.iconst 1, 1) := by decide +kernel
theorem d17_15 : decode method_3_code 15 = .ok (.goto 4, 3) := by decide +kernel
theorem d17_18 : decode method_3_code 18 = .ok (.iconst 0, 1) := by decide +kernel
def fCm (i0 : Int32) (i1 : Int32) : Int32 := if i0 < i1 then ((-1 : Int32)) else (if i1 < i0 then ((1 : Int32)) else ((0 : Int32)))
theorem ef_rCm (m : MethodId) (x0 : Int32) (x1 : Int32) : entryFrame m #[(.int x0), (.int x1)] 2 = mkF m 0 #[.val (.int x0), .val (.int x1)] [] := by first | (simp [entryFrame, mkF, argsToLocals, Value.category]; done) | rfl
set_option maxRecDepth 65536 in
set_option maxHeartbeats 40000000 in
theorem rCm (l : Launch) (Z : State) (aa : Array Value) (hw : ∀ d ∈ tables_1, d.before aa Z = true) (ws : List Jvm.Cond) (i0 : Int32) (i1 : Int32) (h0 : Heap) :
    Rm l Z (⟨"com/example/ryazan/ryazan/language/LayoutPackPinLaw", "cmp", "(II)I"⟩ : MethodName) method_3_code 2 (some .int) ws ({ frames := 0, cells := 0, slots := 0, locals := 0 } : Room) #[(.int i0), (.int i1)] h0 (Pu (.int (fCm i0 i1)) h0) := by
 refine Rm.of (plainFor_of_name pn_0) ?_
 intro p e s m below meth cc T X hnm hret hlk
 refine Go.at_ (ef_rCm m i0 i1) ?_
 refine g_iloadN X d17_0 (pc' := 1) rfl rfl ?_
 refine g_iloadN X d17_1 (pc' := 2) rfl rfl ?_
 by_cases qa : i0 < i1
 refine g_icN X d17_2 (tlt qa).2.1 (pc' := 5) rfl ?_
 refine g_iconst X (-1 : Int32) d17_5 (pc' := 6) rfl rfl ?_
 refine g_goto X d17_6 (pc' := 19) (by decide) (by decide) ?_
 refine g_ireturn X d17_19 hret hlk (by decide) (by decide) ?_
 exact ⟨congrArg (fun z => some (Value.int z)) (Eq.symm (show fCm i0 i1 = _ from (Eq.trans (if_pos qa) rfl))), rfl, rfl⟩
 refine g_icY X d17_2 (flt qa).2.1 (pc' := 9) (by decide) (by decide) ?_
 refine g_iloadN X d17_9 (pc' := 10) rfl rfl ?_
 refine g_iloadN X d17_10 (pc' := 11) rfl rfl ?_
 by_cases qb : i1 < i0
 refine g_icN X d17_11 (tlt qb).2.2.2 (pc' := 14) rfl ?_
 refine g_iconst X (1 : Int32) d17_14 (pc' := 15) rfl rfl ?_
 refine g_goto X d17_15 (pc' := 19) (by decide) (by decide) ?_
 refine g_ireturn X d17_19 hret hlk (by decide) (by decide) ?_
 exact ⟨congrArg (fun z => some (Value.int z)) (Eq.symm (show fCm i0 i1 = _ from (Eq.trans (if_neg qa) (Eq.trans (if_pos qb) rfl)))), rfl, rfl⟩
 refine g_icY X d17_11 (flt qb).2.2.2 (pc' := 18) (by decide) (by decide) ?_
 refine g_iconst X (0 : Int32) d17_18 (pc' := 19) rfl rfl ?_
 refine g_ireturn X d17_19 hret hlk (by decide) (by decide) ?_
 exact ⟨congrArg (fun z => some (Value.int z)) (Eq.symm (show fCm i0 i1 = _ from (Eq.trans (if_neg qa) (Eq.trans (if_neg qb) rfl)))), rfl, rfl⟩
theorem d16_0 : decode method_5_code 0 = .ok (.aload_n 0, 1) := by decide +kernel
theorem d16_1 : decode method_5_code 1 = .ok (.iconst 0, 1) := by decide +kernel
theorem d16_2 : decode method_5_code 2 = .ok (.iaload, 1) := by decide +kernel
theorem d16_3 : decode method_5_code 3 = .ok (.aload_n 1, 1) := by decide +kernel
theorem d16_4 : decode method_5_code 4 = .ok (.iconst 0, 1) := by decide +kernel
theorem d16_5 : decode method_5_code 5 = .ok (.iaload, 1) := by decide +kernel
theorem d16_6 : decode method_5_code 6 = .ok (.invokestatic 11, 3) := by decide +kernel
theorem pd_2 : parseMethodDescriptor "(II)I" = some ⟨[.int, .int], some .int⟩ := by decide +kernel
theorem d16_9 : decode method_5_code 9 = .ok (.istore_n 2, 1) := by decide +kernel
theorem d16_10 : decode method_5_code 10 = .ok (.iload_n 2, 1) := by decide +kernel
theorem d16_11 : decode method_5_code 11 = .ok (.ifCond .eq 5, 3) := by decide +kernel
theorem d16_16 : decode method_5_code 16 = .ok (.aload_n 0, 1) := by decide +kernel
theorem d16_17 : decode method_5_code 17 = .ok (.iconst 1, 1) := by decide +kernel
theorem d16_18 : decode method_5_code 18 = .ok (.iaload, 1) := by decide +kernel
theorem d16_19 : decode method_5_code 19 = .ok (.aload_n 1, 1) := by decide +kernel
theorem d16_20 : decode method_5_code 20 = .ok (.iconst 1, 1) := by decide +kernel
theorem d16_21 : decode method_5_code 21 = .ok (.iaload, 1) := by decide +kernel
theorem d16_22 : decode method_5_code 22 = .ok (.invokestatic 11, 3) := by decide +kernel
theorem d16_25 : decode method_5_code 25 = .ok (.istore_n 2, 1) := by decide +kernel
theorem d16_26 : decode method_5_code 26 = .ok (.iload_n 2, 1) := by decide +kernel
theorem d16_27 : decode method_5_code 27 = .ok (.ifCond .eq 5, 3) := by decide +kernel
theorem d16_32 : decode method_5_code 32 = .ok (.aload_n 0, 1) := by decide +kernel
theorem d16_33 : decode method_5_code 33 = .ok (.iconst 2, 1) := by decide +kernel
theorem d16_34 : decode method_5_code 34 = .ok (.iaload, 1) := by decide +kernel
theorem d16_35 : decode method_5_code 35 = .ok (.aload_n 1, 1) := by decide +kernel
theorem d16_36 : decode method_5_code 36 = .ok (.iconst 2, 1) := by decide +kernel
theorem d16_37 : decode method_5_code 37 = .ok (.iaload, 1) := by decide +kernel
theorem d16_38 : decode method_5_code 38 = .ok (.invokestatic 11, 3) := by decide +kernel
theorem d16_41 : decode method_5_code 41 = .ok (.istore_n 2, 1) := by decide +kernel
theorem d16_42 : decode method_5_code 42 = .ok (.iload_n 2, 1) := by decide +kernel
theorem d16_43 : decode method_5_code 43 = .ok (.ifCond .eq 5, 3) := by decide +kernel
theorem d16_48 : decode method_5_code 48 = .ok (.aload_n 0, 1) := by decide +kernel
theorem d16_49 : decode method_5_code 49 = .ok (.iconst 3, 1) := by decide +kernel
theorem d16_50 : decode method_5_code 50 = .ok (.iaload, 1) := by decide +kernel
theorem d16_51 : decode method_5_code 51 = .ok (.aload_n 1, 1) := by decide +kernel
theorem d16_52 : decode method_5_code 52 = .ok (.iconst 3, 1) := by decide +kernel
theorem d16_53 : decode method_5_code 53 = .ok (.iaload, 1) := by decide +kernel
theorem d16_54 : decode method_5_code 54 = .ok (.invokestatic 11, 3) := by decide +kernel
theorem d16_57 : decode method_5_code 57 = .ok (.ireturn, 1) := by decide +kernel
theorem d16_46 : decode method_5_code 46 = .ok (.iload_n 2, 1) := by decide +kernel
theorem d16_47 : decode method_5_code 47 = .ok (.ireturn, 1) := by decide +kernel
theorem d16_30 : decode method_5_code 30 = .ok (.iload_n 2, 1) := by decide +kernel
theorem d16_31 : decode method_5_code 31 = .ok (.ireturn, 1) := by decide +kernel
theorem d16_14 : decode method_5_code 14 = .ok (.iload_n 2, 1) := by decide +kernel
theorem d16_15 : decode method_5_code 15 = .ok (.ireturn, 1) := by decide +kernel
def fLex (x0 : Int32) (x1 : Int32) (x2 : Int32) (x3 : Int32) (y0 : Int32) (y1 : Int32) (y2 : Int32) (y3 : Int32) : Int32 := let v9_1 : Int32 := (fCm x0 y0); if v9_1 = (0 : Int32) then (let v25_3 : Int32 := (fCm x1 y1); if v25_3 = (0 : Int32) then (let v41_5 : Int32 := (fCm x2 y2); if v41_5 = (0 : Int32) then ((fCm x3 y3)) else (v41_5)) else (v25_3)) else (v9_1)
theorem ef_rLex (m : MethodId) (x0 : Addr) (x1 : Addr) : entryFrame m #[(.ref x0), (.ref x1)] 3 = mkF m 0 #[.val (.ref x0), .val (.ref x1), .unset] [] := by first | (simp [entryFrame, mkF, argsToLocals, Value.category]; done) | rfl
set_option maxRecDepth 65536 in
set_option maxHeartbeats 40000000 in
theorem rLex (l : Launch) (Z : State) (aa : Array Value) (hw : ∀ d ∈ tables_1, d.before aa Z = true) (ws : List Jvm.Cond) (a0 : Addr) (a1 : Addr) (x0 : Int32) (x1 : Int32) (x2 : Int32) (x3 : Int32) (y0 : Int32) (y1 : Int32) (y2 : Int32) (y3 : Int32) (h0 : Heap) (qc : Av Z h0 a0 .int [(.int x0), (.int x1), (.int x2), (.int x3)]) (qd : Av Z h0 a1 .int [(.int y0), (.int y1), (.int y2), (.int y3)]) :
    Rm l Z (⟨"com/example/ryazan/ryazan/language/LayoutPackPinLaw", "lex", "([I[I)I"⟩ : MethodName) method_5_code 3 (some .int) ws ({ frames := 1, cells := 0, slots := 0, locals := 13 } : Room) #[(.ref a0), (.ref a1)] h0 (Pu (.int (fLex x0 x1 x2 x3 y0 y1 y2 y3)) h0) := by
 refine Rm.of (plainFor_of_name pn_0) ?_
 intro p e s m below meth cc T X hnm hret hlk
 refine Go.at_ (ef_rLex m a0 a1) ?_
 refine g_aloadN X d16_0 (pc' := 1) rfl rfl rfl ?_
 refine g_iconst X (0 : Int32) d16_1 (pc' := 2) rfl rfl ?_
 refine g_iaload X qc 0 d16_2 (pc' := 3) rfl (by decide) (by decide) rfl ?_
 refine g_aloadN X d16_3 (pc' := 4) rfl rfl rfl ?_
 refine g_iconst X (0 : Int32) d16_4 (pc' := 5) rfl rfl ?_
 refine g_iaload X qd 0 d16_5 (pc' := 6) rfl (by decide) (by decide) rfl ?_
 refine g_static X (W := 0) [(.int x0), (.int y0)] [] (tb hw 92 rfl) (tb hw 93 rfl) (tb hw 53 rfl) (tb hw 94 rfl) (rCm l Z aa hw [] x0 y0 _) d16_6 (pc' := 9) rfl (by decide) (by decide) (by decide) rfl rfl rfl (lenOf pd_2 rfl) (Nat.le_refl _) (by decide) (by decide) ?_
 intro v T L X q
 obtain ⟨rfl, X⟩ := pureX X q
 show Go p e below _ (T.setTop (mkF m 9 _ [(.int (fCm x0 y0))]))
 generalize qe : (fCm x0 y0) = qh
 refine g_istoreN X d16_9 (pc' := 10) (Ls' := #[.val (.ref a0), .val (.ref a1), .val (.int qh)]) rfl rfl ?_
 refine g_iloadN X d16_10 (pc' := 11) rfl rfl ?_
 by_cases qa : qh = (0 : Int32)
 refine g_ifY X d16_11 ((if0 _ _).trans (teq qa).1) (pc' := 16) (by decide) (by decide) ?_
 refine g_aloadN X d16_16 (pc' := 17) rfl rfl rfl ?_
 refine g_iconst X (1 : Int32) d16_17 (pc' := 18) rfl rfl ?_
 refine g_iaload X qc 1 d16_18 (pc' := 19) rfl (by decide) (by decide) rfl ?_
 refine g_aloadN X d16_19 (pc' := 20) rfl rfl rfl ?_
 refine g_iconst X (1 : Int32) d16_20 (pc' := 21) rfl rfl ?_
 refine g_iaload X qd 1 d16_21 (pc' := 22) rfl (by decide) (by decide) rfl ?_
 refine g_static X (W := 0) [(.int x1), (.int y1)] [] (tb hw 92 rfl) (tb hw 93 rfl) (tb hw 53 rfl) (tb hw 94 rfl) (rCm l Z aa hw [] x1 y1 _) d16_22 (pc' := 25) rfl (by decide) (by decide) (by decide) rfl rfl rfl (lenOf pd_2 rfl) (Nat.le_refl _) (by decide) (by decide) ?_
 intro v T L X q
 obtain ⟨rfl, X⟩ := pureX X q
 show Go p e below _ (T.setTop (mkF m 25 _ [(.int (fCm x1 y1))]))
 generalize qg : (fCm x1 y1) = qi
 refine g_istoreN X d16_25 (pc' := 26) (Ls' := #[.val (.ref a0), .val (.ref a1), .val (.int qi)]) rfl rfl ?_
 refine g_iloadN X d16_26 (pc' := 27) rfl rfl ?_
 by_cases qb : qi = (0 : Int32)
 refine g_ifY X d16_27 ((if0 _ _).trans (teq qb).1) (pc' := 32) (by decide) (by decide) ?_
 refine g_aloadN X d16_32 (pc' := 33) rfl rfl rfl ?_
 refine g_iconst X (2 : Int32) d16_33 (pc' := 34) rfl rfl ?_
 refine g_iaload X qc 2 d16_34 (pc' := 35) rfl (by decide) (by decide) rfl ?_
 refine g_aloadN X d16_35 (pc' := 36) rfl rfl rfl ?_
 refine g_iconst X (2 : Int32) d16_36 (pc' := 37) rfl rfl ?_
 refine g_iaload X qd 2 d16_37 (pc' := 38) rfl (by decide) (by decide) rfl ?_
 refine g_static X (W := 0) [(.int x2), (.int y2)] [] (tb hw 92 rfl) (tb hw 93 rfl) (tb hw 53 rfl) (tb hw 94 rfl) (rCm l Z aa hw [] x2 y2 _) d16_38 (pc' := 41) rfl (by decide) (by decide) (by decide) rfl rfl rfl (lenOf pd_2 rfl) (Nat.le_refl _) (by decide) (by decide) ?_
 intro v T L X q
 obtain ⟨rfl, X⟩ := pureX X q
 show Go p e below _ (T.setTop (mkF m 41 _ [(.int (fCm x2 y2))]))
 generalize qj : (fCm x2 y2) = qk
 refine g_istoreN X d16_41 (pc' := 42) (Ls' := #[.val (.ref a0), .val (.ref a1), .val (.int qk)]) rfl rfl ?_
 refine g_iloadN X d16_42 (pc' := 43) rfl rfl ?_
 by_cases qf : qk = (0 : Int32)
 refine g_ifY X d16_43 ((if0 _ _).trans (teq qf).1) (pc' := 48) (by decide) (by decide) ?_
 refine g_aloadN X d16_48 (pc' := 49) rfl rfl rfl ?_
 refine g_iconst X (3 : Int32) d16_49 (pc' := 50) rfl rfl ?_
 refine g_iaload X qc 3 d16_50 (pc' := 51) rfl (by decide) (by decide) rfl ?_
 refine g_aloadN X d16_51 (pc' := 52) rfl rfl rfl ?_
 refine g_iconst X (3 : Int32) d16_52 (pc' := 53) rfl rfl ?_
 refine g_iaload X qd 3 d16_53 (pc' := 54) rfl (by decide) (by decide) rfl ?_
 refine g_static X (W := 0) [(.int x3), (.int y3)] [] (tb hw 92 rfl) (tb hw 93 rfl) (tb hw 53 rfl) (tb hw 94 rfl) (rCm l Z aa hw [] x3 y3 _) d16_54 (pc' := 57) rfl (by decide) (by decide) (by decide) rfl rfl rfl (lenOf pd_2 rfl) (Nat.le_refl _) (by decide) (by decide) ?_
 intro v T L X q
 obtain ⟨rfl, X⟩ := pureX X q
 show Go p e below _ (T.setTop (mkF m 57 _ [(.int (fCm x3 y3))]))
 refine g_ireturn X d16_57 hret hlk (by decide) (by decide) ?_
 subst qe qg qj
 exact ⟨congrArg (fun z => some (Value.int z)) (Eq.symm (show fLex x0 x1 x2 x3 y0 y1 y2 y3 = _ from (Eq.trans (if_pos qa) (Eq.trans (if_pos qb) (Eq.trans (if_pos qf) rfl))))), rfl, rfl⟩
 refine g_ifN X d16_43 ((if0 _ _).trans (feq qf).1) (pc' := 46) rfl ?_
 refine g_iloadN X d16_46 (pc' := 47) rfl rfl ?_
 refine g_ireturn X d16_47 hret hlk (by decide) (by decide) ?_
 subst qe qg qj
 exact ⟨congrArg (fun z => some (Value.int z)) (Eq.symm (show fLex x0 x1 x2 x3 y0 y1 y2 y3 = _ from (Eq.trans (if_pos qa) (Eq.trans (if_pos qb) (Eq.trans (if_neg qf) rfl))))), rfl, rfl⟩
 refine g_ifN X d16_27 ((if0 _ _).trans (feq qb).1) (pc' := 30) rfl ?_
 refine g_iloadN X d16_30 (pc' := 31) rfl rfl ?_
 refine g_ireturn X d16_31 hret hlk (by decide) (by decide) ?_
 subst qe qg
 exact ⟨congrArg (fun z => some (Value.int z)) (Eq.symm (show fLex x0 x1 x2 x3 y0 y1 y2 y3 = _ from (Eq.trans (if_pos qa) (Eq.trans (if_neg qb) rfl)))), rfl, rfl⟩
 refine g_ifN X d16_11 ((if0 _ _).trans (feq qa).1) (pc' := 14) rfl ?_
 refine g_iloadN X d16_14 (pc' := 15) rfl rfl ?_
 refine g_ireturn X d16_15 hret hlk (by decide) (by decide) ?_
 subst qe
 exact ⟨congrArg (fun z => some (Value.int z)) (Eq.symm (show fLex x0 x1 x2 x3 y0 y1 y2 y3 = _ from (Eq.trans (if_neg qa) rfl))), rfl, rfl⟩
theorem pn_3 : plainName "com/example/ryazan/ryazan/language/Layout" = true := by first | (simp [plainName, overriddenIn]; done) | decide +kernel
theorem d3_0 : decode prog_58_method_1_code 0 = .ok (.aload_n 0, 1) := by decide +kernel
theorem d3_1 : decode prog_58_method_1_code 1 = .ok (.invokespecial 1, 3) := by decide +kernel
theorem d3_4 : decode prog_58_method_1_code 4 = .ok (.aload_n 0, 1) := by decide +kernel
theorem d3_5 : decode prog_58_method_1_code 5 = .ok (.aload_n 1, 1) := by decide +kernel
theorem d3_6 : decode prog_58_method_1_code 6 = .ok (.invokevirtual 7, 3) := by decide +kernel
theorem d3_9 : decode prog_58_method_1_code 9 = .ok (.checkcast 8, 3) := by decide +kernel
theorem d3_12 : decode prog_58_method_1_code 12 = .ok (.putfield 13, 3) := by decide +kernel
theorem d3_15 : decode prog_58_method_1_code 15 = .ok (.aload_n 0, 1) := by decide +kernel
theorem d3_16 : decode prog_58_method_1_code 16 = .ok (.aload_n 1, 1) := by decide +kernel
theorem d3_17 : decode prog_58_method_1_code 17 = .ok (.arraylength, 1) := by decide +kernel
theorem d3_18 : decode prog_58_method_1_code 18 = .ok (.newarray .int, 2) := by decide +kernel
theorem d3_20 : decode prog_58_method_1_code 20 = .ok (.putfield 18, 3) := by decide +kernel
theorem d3_23 : decode prog_58_method_1_code 23 = .ok (.aload_n 0, 1) := by decide +kernel
theorem d3_24 : decode prog_58_method_1_code 24 = .ok (.aload_n 1, 1) := by decide +kernel
theorem d3_25 : decode prog_58_method_1_code 25 = .ok (.arraylength, 1) := by decide +kernel
theorem d3_26 : decode prog_58_method_1_code 26 = .ok (.newarray .int, 2) := by decide +kernel
theorem d3_28 : decode prog_58_method_1_code 28 = .ok (.putfield 21, 3) := by decide +kernel
theorem d3_31 : decode prog_58_method_1_code 31 = .ok (.aload_n 0, 1) := by decide +kernel
theorem d3_32 : decode prog_58_method_1_code 32 = .ok (.aload_n 1, 1) := by decide +kernel
theorem d3_33 : decode prog_58_method_1_code 33 = .ok (.arraylength, 1) := by decide +kernel
theorem d3_34 : decode prog_58_method_1_code 34 = .ok (.newarray .long, 2) := by decide +kernel
theorem d3_36 : decode prog_58_method_1_code 36 = .ok (.putfield 24, 3) := by decide +kernel
theorem d3_39 : decode prog_58_method_1_code 39 = .ok (.iconst 1, 1) := by decide +kernel
theorem d3_40 : decode prog_58_method_1_code 40 = .ok (.istore_n 3, 1) := by decide +kernel
theorem d3_41 : decode prog_58_method_1_code 41 = .ok (.bipush 64, 2) := by decide +kernel
theorem d3_43 : decode prog_58_method_1_code 43 = .ok (.istore 4, 2) := by decide +kernel
theorem d3_45 : decode prog_58_method_1_code 45 = .ok (.iconst 0, 1) := by decide +kernel
theorem d3_46 : decode prog_58_method_1_code 46 = .ok (.istore 5, 2) := by decide +kernel
theorem d3_48 : decode prog_58_method_1_code 48 = .ok (.iload 5, 2) := by decide +kernel
theorem d3_50 : decode prog_58_method_1_code 50 = .ok (.aload_n 1, 1) := by decide +kernel
theorem d3_51 : decode prog_58_method_1_code 51 = .ok (.arraylength, 1) := by decide +kernel
theorem d3_52 : decode prog_58_method_1_code 52 = .ok (.if_icmp .ge 85, 3) := by decide +kernel
theorem d3_55 : decode prog_58_method_1_code 55 = .ok (.aload_n 2, 1) := by decide +kernel
theorem d3_56 : decode prog_58_method_1_code 56 = .ok (.iload 5, 2) := by decide +kernel
theorem d3_58 : decode prog_58_method_1_code 58 = .ok (.iaload, 1) := by decide +kernel
theorem d3_59 : decode prog_58_method_1_code 59 = .ok (.i2l, 1) := by decide +kernel
theorem d3_60 : decode prog_58_method_1_code 60 = .ok (.aload_n 1, 1) := by decide +kernel
theorem d3_61 : decode prog_58_method_1_code 61 = .ok (.iload 5, 2) := by decide +kernel
theorem d3_63 : decode prog_58_method_1_code 63 = .ok (.iaload, 1) := by decide +kernel
theorem d3_64 : decode prog_58_method_1_code 64 = .ok (.i2l, 1) := by decide +kernel
theorem d3_65 : decode prog_58_method_1_code 65 = .ok (.lsub, 1) := by decide +kernel
theorem d3_66 : decode prog_58_method_1_code 66 = .ok (.lstore 6, 2) := by decide +kernel
theorem d3_68 : decode prog_58_method_1_code 68 = .ok (.bipush 64, 2) := by decide +kernel
theorem d3_70 : decode prog_58_method_1_code 70 = .ok (.lload 6, 2) := by decide +kernel
theorem d3_72 : decode prog_58_method_1_code 72 = .ok (.invokestatic 30, 3) := by decide +kernel
theorem pd_3 : parseMethodDescriptor "(J)I" = some ⟨[.long], some .int⟩ := by decide +kernel
theorem d3_75 : decode prog_58_method_1_code 75 = .ok (.isub, 1) := by decide +kernel
theorem d3_76 : decode prog_58_method_1_code 76 = .ok (.istore 8, 2) := by decide +kernel
theorem d3_78 : decode prog_58_method_1_code 78 = .ok (.iload 8, 2) := by decide +kernel
theorem d3_80 : decode prog_58_method_1_code 80 = .ok (.iload 4, 2) := by decide +kernel
theorem d3_82 : decode prog_58_method_1_code 82 = .ok (.if_icmp .le 10, 3) := by decide +kernel
theorem d3_92 : decode prog_58_method_1_code 92 = .ok (.iload 4, 2) := by decide +kernel
theorem d3_94 : decode prog_58_method_1_code 94 = .ok (.iload 8, 2) := by decide +kernel
theorem d3_96 : decode prog_58_method_1_code 96 = .ok (.isub, 1) := by decide +kernel
theorem d3_97 : decode prog_58_method_1_code 97 = .ok (.istore 4, 2) := by decide +kernel
theorem d3_99 : decode prog_58_method_1_code 99 = .ok (.aload_n 0, 1) := by decide +kernel
theorem d3_100 : decode prog_58_method_1_code 100 = .ok (.getfield 18, 3) := by decide +kernel
theorem d3_103 : decode prog_58_method_1_code 103 = .ok (.iload 5, 2) := by decide +kernel
theorem d3_105 : decode prog_58_method_1_code 105 = .ok (.iload_n 3, 1) := by decide +kernel
theorem d3_106 : decode prog_58_method_1_code 106 = .ok (.iconst 1, 1) := by decide +kernel
theorem d3_107 : decode prog_58_method_1_code 107 = .ok (.isub, 1) := by decide +kernel
theorem d3_108 : decode prog_58_method_1_code 108 = .ok (.iastore, 1) := by decide +kernel
theorem d3_109 : decode prog_58_method_1_code 109 = .ok (.aload_n 0, 1) := by decide +kernel
theorem d3_110 : decode prog_58_method_1_code 110 = .ok (.getfield 21, 3) := by decide +kernel
theorem d3_113 : decode prog_58_method_1_code 113 = .ok (.iload 5, 2) := by decide +kernel
theorem d3_115 : decode prog_58_method_1_code 115 = .ok (.iload 4, 2) := by decide +kernel
theorem d3_117 : decode prog_58_method_1_code 117 = .ok (.iastore, 1) := by decide +kernel
theorem d3_118 : decode prog_58_method_1_code 118 = .ok (.aload_n 0, 1) := by decide +kernel
theorem d3_119 : decode prog_58_method_1_code 119 = .ok (.getfield 24, 3) := by decide +kernel
theorem d3_122 : decode prog_58_method_1_code 122 = .ok (.iload 5, 2) := by decide +kernel
theorem d3_124 : decode prog_58_method_1_code 124 = .ok (.lconst 1, 1) := by decide +kernel
theorem d3_125 : decode prog_58_method_1_code 125 = .ok (.iload 8, 2) := by decide +kernel
theorem d3_127 : decode prog_58_method_1_code 127 = .ok (.lshl, 1) := by decide +kernel
theorem d3_128 : decode prog_58_method_1_code 128 = .ok (.lconst 1, 1) := by decide +kernel
theorem d3_129 : decode prog_58_method_1_code 129 = .ok (.lsub, 1) := by decide +kernel
theorem d3_130 : decode prog_58_method_1_code 130 = .ok (.lastore, 1) := by decide +kernel
theorem d3_131 : decode prog_58_method_1_code 131 = .ok (.iinc 5 1, 3) := by decide +kernel
theorem d3_134 : decode prog_58_method_1_code 134 = .ok (.goto (-86), 3) := by decide +kernel
theorem d3_137 : decode prog_58_method_1_code 137 = .ok (.aload_n 0, 1) := by decide +kernel
theorem d3_138 : decode prog_58_method_1_code 138 = .ok (.iload_n 3, 1) := by decide +kernel
theorem d3_139 : decode prog_58_method_1_code 139 = .ok (.putfield 34, 3) := by decide +kernel
theorem d3_142 : decode prog_58_method_1_code 142 = .ok (.return_, 1) := by decide +kernel
theorem ef_rInit0 (m : MethodId) (x0 : Addr) (x1 : Addr) (x2 : Addr) : entryFrame m #[(.ref x0), (.ref x1), (.ref x2)] 9 = mkF m 0 #[.val (.ref x0), .val (.ref x1), .val (.ref x2), .unset, .unset, .unset, .unset, .unset, .unset] [] := by first | (simp [entryFrame, mkF, argsToLocals, Value.category]; done) | rfl
set_option maxRecDepth 65536 in
set_option maxHeartbeats 40000000 in
theorem rInit0 (l : Launch) (Z : State) (aa : Array Value) (hw : ∀ d ∈ tables_1, d.before aa Z = true) (ws : List Jvm.Cond) (a0 : Addr) (a1 : Addr) (a2 : Addr) (l0 : Int32) (l1 : Int32) (l2 : Int32) (l3 : Int32) (y0 : Int32) (y1 : Int32) (y2 : Int32) (y3 : Int32) (h0 : Heap) (n0 : Nat) (Z0 : n0 ≤ h0.size) (qb : Exa Z h0 a0 "com/example/ryazan/ryazan/language/Layout") (qh : Fld Z h0 a0 "com/example/ryazan/ryazan/language/Layout" "low" "[I" .null) (qc : Fld Z h0 a0 "com/example/ryazan/ryazan/language/Layout" "word" "[I" .null) (qd : Fld Z h0 a0 "com/example/ryazan/ryazan/language/Layout" "shift" "[I" .null) (qe : Fld Z h0 a0 "com/example/ryazan/ryazan/language/Layout" "mask" "[J" .null) (qi : Fld Z h0 a0 "com/example/ryazan/ryazan/language/Layout" "width" "I" (.int (0 : Int32))) (qt : Exa Z h0 a1 "[I") (qa : Av Z h0 a1 .int [(.int l0), (.int l1), (.int l2), (.int l3)]) (qj : Av Z h0 a2 .int [(.int y0), (.int y1), (.int y2), (.int y3)]) (jj : n0 ≤ a0) (jw : a1 ≠ a0) (jx : a2 ≠ a0) (q0 : ¬ (64 : Int32) < bt l0 y0) (q1 : ¬ ((64 : Int32) - bt l0 y0) < bt l1 y1) (q2 : ¬ ((64 : Int32) - bt l0 y0 - bt l1 y1) < bt l2 y2) (q3 : ¬ ((64 : Int32) - bt l0 y0 - bt l1 y1 - bt l2 y2) < bt l3 y3) :
    Rm l Z (⟨"com/example/ryazan/ryazan/language/Layout", "<init>", "([I[I)V"⟩ : MethodName) prog_58_method_1_code 9 none ws ({ frames := 2, cells := 4, slots := 16, locals := 29 } : Room) #[(.ref a0), (.ref a1), (.ref a2)] h0 (fun v h L => ∃ q0 q1 q2 q3 : Addr, v = none ∧ Fr n0 L ∧ Keep h0 h [a0] ∧ h0.size ≤ q0 ∧ n0 ≤ q0 ∧ h0.size ≤ q1 ∧ n0 ≤ q1 ∧ h0.size ≤ q2 ∧ n0 ≤ q2 ∧ h0.size ≤ q3 ∧ n0 ≤ q3 ∧ q0 ≠ q1 ∧ q0 ≠ q2 ∧ q0 ≠ q3 ∧ q1 ≠ q2 ∧ q1 ≠ q3 ∧ q2 ≠ q3 ∧ Exa Z h a0 "com/example/ryazan/ryazan/language/Layout" ∧ Fld Z h a0 "com/example/ryazan/ryazan/language/Layout" "low" "[I" (.ref q0) ∧ Fld Z h a0 "com/example/ryazan/ryazan/language/Layout" "word" "[I" (.ref q1) ∧ Fld Z h a0 "com/example/ryazan/ryazan/language/Layout" "shift" "[I" (.ref q2) ∧ Fld Z h a0 "com/example/ryazan/ryazan/language/Layout" "mask" "[J" (.ref q3) ∧ Fld Z h a0 "com/example/ryazan/ryazan/language/Layout" "width" "I" (.int (1 : Int32)) ∧ Exa Z h q0 "[I" ∧ Av Z h q0 .int [(.int l0), (.int l1), (.int l2), (.int l3)] ∧ Exa Z h q1 "[I" ∧ Av Z h q1 .int [(.int (0 : Int32)), (.int (0 : Int32)), (.int (0 : Int32)), (.int (0 : Int32))] ∧ Exa Z h q2 "[I" ∧ Av Z h q2 .int [(.int ((64 : Int32) - ((64 : Int32) - (fNL ((y0.toInt64) - (l0.toInt64)))))), (.int (((64 : Int32) - ((64 : Int32) - (fNL ((y0.toInt64) - (l0.toInt64))))) - ((64 : Int32) - (fNL ((y1.toInt64) - (l1.toInt64)))))), (.int ((((64 : Int32) - ((64 : Int32) - (fNL ((y0.toInt64) - (l0.toInt64))))) - ((64 : Int32) - (fNL ((y1.toInt64) - (l1.toInt64))))) - ((64 : Int32) - (fNL ((y2.toInt64) - (l2.toInt64)))))), (.int (((((64 : Int32) - ((64 : Int32) - (fNL ((y0.toInt64) - (l0.toInt64))))) - ((64 : Int32) - (fNL ((y1.toInt64) - (l1.toInt64))))) - ((64 : Int32) - (fNL ((y2.toInt64) - (l2.toInt64))))) - ((64 : Int32) - (fNL ((y3.toInt64) - (l3.toInt64))))))] ∧ Exa Z h q3 "[J" ∧ Av Z h q3 .long [(.long (((1 : Int64) <<< (((64 : Int32) - (fNL ((y0.toInt64) - (l0.toInt64)))) &&& 0x3f).toInt64) - (1 : Int64))), (.long (((1 : Int64) <<< (((64 : Int32) - (fNL ((y1.toInt64) - (l1.toInt64)))) &&& 0x3f).toInt64) - (1 : Int64))), (.long (((1 : Int64) <<< (((64 : Int32) - (fNL ((y2.toInt64) - (l2.toInt64)))) &&& 0x3f).toInt64) - (1 : Int64))), (.long (((1 : Int64) <<< (((64 : Int32) - (fNL ((y3.toInt64) - (l3.toInt64)))) &&& 0x3f).toInt64) - (1 : Int64)))]) := by
 refine Rm.of (plainFor_of_name pn_3) ?_
 intro p e s m below meth cc T X hnm hret hlk
 refine Go.at_ (ef_rInit0 m a0 a1 a2) ?_
 have N := Fr.nil n0
 have Kp := Keep.refl h0 [a0]
 refine g_aloadN X d3_0 (pc' := 1) rfl rfl rfl ?_
 refine g_initO X (W := 0) (tb hw 14 rfl) (tb hw 15 rfl) (tb hw 16 rfl) d3_1 (pc' := 4) rfl rfl (by decide) (Nat.le_refl _) (by decide) ?_
 intro T X
 refine g_aloadN X d3_4 (pc' := 5) rfl rfl rfl ?_
 refine g_aloadN X d3_5 (pc' := 6) rfl rfl rfl ?_
 refine g_clone X (W := 1) (tb hw 17 rfl) (tb hw 18 rfl) (tb hw 22 rfl) (tb hw 20 rfl) (tb hw 21 rfl) (tb hw 23 rfl) qa qt (fitS rfl (fitS rfl (fitS rfl (fitS rfl fit0)))) d3_6 (pc' := 9) rfl rfl (by decide) (Nat.le_refl _) (by decide) 4 (Nat.le_of_ble_eq_true rfl) (by decide) (by decide) ?_
 intro T h jc j5 X Ex qf qk
 have jk : a0 ≠ jc := Nat.ne_of_lt (by rw [j5]; exact qb.lt)
 have wi : n0 ≤ jc := by rw [j5]; exact Z0
 have wj : h0.size ≤ jc := by rw [j5]; exact Kp.1
 replace qb := qb.ext Ex
 replace qh := qh.ext Ex
 replace qc := qc.ext Ex
 replace qd := qd.ext Ex
 replace qe := qe.ext Ex
 replace qi := qi.ext Ex
 replace qt := qt.ext Ex
 replace qa := qa.ext Ex
 replace qj := qj.ext Ex
 replace Z0 := Nat.le_trans Z0 Ex.1
 replace Kp := Kp.ext Ex
 refine g_checkcast X (tb hw 24 rfl) (Ins.self qf) d3_9 (pc' := 12) rfl ?_
 intro T X
 refine g_putfield X (host := "") (Or.inl (tb hw 26 rfl)) Via.refl qh qb (Or.inr ⟨(tb hw 27 rfl), rfl, hnm⟩) (tb hw 9 rfl) (ty := (.array .int)) (by decide) rfl rfl d3_12 (pc' := 15) rfl ?_
 intro T h X W
 replace qb := qb.wr W
 replace qh := qh.same W
 replace qc := qc.other W (Or.inr (slot_ne (Or.inr (tb hw 29 rfl)) (Or.inr (tb hw 27 rfl)) (by decide) (t := (.array .int)) (t' := (.array .int)) (by decide) (by decide)))
 replace qd := qd.other W (Or.inr (slot_ne (Or.inr (tb hw 31 rfl)) (Or.inr (tb hw 27 rfl)) (by decide) (t := (.array .int)) (t' := (.array .int)) (by decide) (by decide)))
 replace qe := qe.other W (Or.inr (slot_ne (Or.inr (tb hw 34 rfl)) (Or.inr (tb hw 27 rfl)) (by decide) (t := (.array .long)) (t' := (.array .int)) (by decide) (by decide)))
 replace qi := qi.other W (Or.inr (slot_ne (Or.inr (tb hw 45 rfl)) (Or.inr (tb hw 27 rfl)) (by decide) (t := .int) (t' := (.array .int)) (by decide) (by decide)))
 replace qt := qt.wr W
 replace qa := qa.other W jw
 replace qj := qj.other W jx
 replace qf := qf.wr W
 replace qk := qk.other W (Ne.symm jk)
 replace Z0 := Nat.le_trans Z0 (Nat.le_of_eq W.size.symm)
 replace N := Fr.snoc X.1 N jj
 replace Kp := Kp.wr W (Or.inl (List.mem_of_getElem? (i := 0) rfl))
 refine g_aloadN X d3_15 (pc' := 16) rfl rfl rfl ?_
 refine g_aloadN X d3_16 (pc' := 17) rfl rfl rfl ?_
 refine g_arraylength X qa d3_17 (pc' := 18) rfl (z := (4 : Int32)) rfl ?_
 refine g_newarray X 4 (tb hw 0 rfl) d3_18 (pc' := 20) rfl (by decide) (by decide) 4 (by decide) (by decide) (by decide) (by decide) (vs := [(.int (0 : Int32)), (.int (0 : Int32)), (.int (0 : Int32)), (.int (0 : Int32))]) rfl (ad := "[I") (by decide) ?_
 intro T h qu jh X Ex qm qg
 have qq : a0 ≠ qu := Nat.ne_of_lt (by rw [jh]; exact qb.lt)
 have jy : a1 ≠ qu := Nat.ne_of_lt (by rw [jh]; exact qt.lt)
 have j6 : a2 ≠ qu := Nat.ne_of_lt (by rw [jh]; exact qj.lt)
 have jl : jc ≠ qu := Nat.ne_of_lt (by rw [jh]; exact qf.lt)
 have jm : n0 ≤ qu := by rw [jh]; exact Z0
 have jn : h0.size ≤ qu := by rw [jh]; exact Kp.1
 replace qb := qb.ext Ex
 replace qh := qh.ext Ex
 replace qc := qc.ext Ex
 replace qd := qd.ext Ex
 replace qe := qe.ext Ex
 replace qi := qi.ext Ex
 replace qt := qt.ext Ex
 replace qa := qa.ext Ex
 replace qj := qj.ext Ex
 replace qf := qf.ext Ex
 replace qk := qk.ext Ex
 replace Z0 := Nat.le_trans Z0 Ex.1
 replace Kp := Kp.ext Ex
 refine g_putfield X (host := "") (Or.inl (tb hw 28 rfl)) Via.refl qc qb (Or.inr ⟨(tb hw 29 rfl), rfl, hnm⟩) (tb hw 9 rfl) (ty := (.array .int)) (by decide) rfl rfl d3_20 (pc' := 23) rfl ?_
 intro T h X W
 replace qb := qb.wr W
 replace qh := qh.other W (Or.inr (slot_ne (Or.inr (tb hw 27 rfl)) (Or.inr (tb hw 29 rfl)) (by decide) (t := (.array .int)) (t' := (.array .int)) (by decide) (by decide)))
 replace qc := qc.same W
 replace qd := qd.other W (Or.inr (slot_ne (Or.inr (tb hw 31 rfl)) (Or.inr (tb hw 29 rfl)) (by decide) (t := (.array .int)) (t' := (.array .int)) (by decide) (by decide)))
 replace qe := qe.other W (Or.inr (slot_ne (Or.inr (tb hw 34 rfl)) (Or.inr (tb hw 29 rfl)) (by decide) (t := (.array .long)) (t' := (.array .int)) (by decide) (by decide)))
 replace qi := qi.other W (Or.inr (slot_ne (Or.inr (tb hw 45 rfl)) (Or.inr (tb hw 29 rfl)) (by decide) (t := .int) (t' := (.array .int)) (by decide) (by decide)))
 replace qt := qt.wr W
 replace qa := qa.other W jw
 replace qj := qj.other W jx
 replace qf := qf.wr W
 replace qk := qk.other W (Ne.symm jk)
 replace qm := qm.wr W
 replace qg := qg.other W (Ne.symm qq)
 replace Z0 := Nat.le_trans Z0 (Nat.le_of_eq W.size.symm)
 replace N := Fr.snoc X.1 N jj
 replace Kp := Kp.wr W (Or.inl (List.mem_of_getElem? (i := 0) rfl))
 refine g_aloadN X d3_23 (pc' := 24) rfl rfl rfl ?_
 refine g_aloadN X d3_24 (pc' := 25) rfl rfl rfl ?_
 refine g_arraylength X qa d3_25 (pc' := 26) rfl (z := (4 : Int32)) rfl ?_
 refine g_newarray X 4 (tb hw 0 rfl) d3_26 (pc' := 28) rfl (by decide) (by decide) 4 (by decide) (by decide) (by decide) (by decide) (vs := [(.int (0 : Int32)), (.int (0 : Int32)), (.int (0 : Int32)), (.int (0 : Int32))]) rfl (ad := "[I") (by decide) ?_
 intro T h qv jd X Ex qo ql
 have qr : a0 ≠ qv := Nat.ne_of_lt (by rw [jd]; exact qb.lt)
 have jz : a1 ≠ qv := Nat.ne_of_lt (by rw [jd]; exact qt.lt)
 have j7 : a2 ≠ qv := Nat.ne_of_lt (by rw [jd]; exact qj.lt)
 have jo : jc ≠ qv := Nat.ne_of_lt (by rw [jd]; exact qf.lt)
 have qy : qu ≠ qv := Nat.ne_of_lt (by rw [jd]; exact qm.lt)
 have jp : n0 ≤ qv := by rw [jd]; exact Z0
 have jq : h0.size ≤ qv := by rw [jd]; exact Kp.1
 replace qb := qb.ext Ex
 replace qh := qh.ext Ex
 replace qc := qc.ext Ex
 replace qd := qd.ext Ex
 replace qe := qe.ext Ex
 replace qi := qi.ext Ex
 replace qt := qt.ext Ex
 replace qa := qa.ext Ex
 replace qj := qj.ext Ex
 replace qf := qf.ext Ex
 replace qk := qk.ext Ex
 replace qm := qm.ext Ex
 replace qg := qg.ext Ex
 replace Z0 := Nat.le_trans Z0 Ex.1
 replace Kp := Kp.ext Ex
 refine g_putfield X (host := "") (Or.inl (tb hw 30 rfl)) Via.refl qd qb (Or.inr ⟨(tb hw 31 rfl), rfl, hnm⟩) (tb hw 9 rfl) (ty := (.array .int)) (by decide) rfl rfl d3_28 (pc' := 31) rfl ?_
 intro T h X W
 replace qb := qb.wr W
 replace qh := qh.other W (Or.inr (slot_ne (Or.inr (tb hw 27 rfl)) (Or.inr (tb hw 31 rfl)) (by decide) (t := (.array .int)) (t' := (.array .int)) (by decide) (by decide)))
 replace qc := qc.other W (Or.inr (slot_ne (Or.inr (tb hw 29 rfl)) (Or.inr (tb hw 31 rfl)) (by decide) (t := (.array .int)) (t' := (.array .int)) (by decide) (by decide)))
 replace qd := qd.same W
 replace qe := qe.other W (Or.inr (slot_ne (Or.inr (tb hw 34 rfl)) (Or.inr (tb hw 31 rfl)) (by decide) (t := (.array .long)) (t' := (.array .int)) (by decide) (by decide)))
 replace qi := qi.other W (Or.inr (slot_ne (Or.inr (tb hw 45 rfl)) (Or.inr (tb hw 31 rfl)) (by decide) (t := .int) (t' := (.array .int)) (by decide) (by decide)))
 replace qt := qt.wr W
 replace qa := qa.other W jw
 replace qj := qj.other W jx
 replace qf := qf.wr W
 replace qk := qk.other W (Ne.symm jk)
 replace qm := qm.wr W
 replace qg := qg.other W (Ne.symm qq)
 replace qo := qo.wr W
 replace ql := ql.other W (Ne.symm qr)
 replace Z0 := Nat.le_trans Z0 (Nat.le_of_eq W.size.symm)
 replace N := Fr.snoc X.1 N jj
 replace Kp := Kp.wr W (Or.inl (List.mem_of_getElem? (i := 0) rfl))
 refine g_aloadN X d3_31 (pc' := 32) rfl rfl rfl ?_
 refine g_aloadN X d3_32 (pc' := 33) rfl rfl rfl ?_
 refine g_arraylength X qa d3_33 (pc' := 34) rfl (z := (4 : Int32)) rfl ?_
 refine g_newarray X 4 (tb hw 32 rfl) d3_34 (pc' := 36) rfl (by decide) (by decide) 4 (by decide) (by decide) (by decide) (by decide) (vs := [(.long (0 : Int64)), (.long (0 : Int64)), (.long (0 : Int64)), (.long (0 : Int64))]) rfl (ad := "[J") (by decide) ?_
 intro T h qw q6 X Ex qp qn
 have qs : a0 ≠ qw := Nat.ne_of_lt (by rw [q6]; exact qb.lt)
 have j0 : a1 ≠ qw := Nat.ne_of_lt (by rw [q6]; exact qt.lt)
 have j8 : a2 ≠ qw := Nat.ne_of_lt (by rw [q6]; exact qj.lt)
 have jr : jc ≠ qw := Nat.ne_of_lt (by rw [q6]; exact qf.lt)
 have qz : qu ≠ qw := Nat.ne_of_lt (by rw [q6]; exact qm.lt)
 have q4 : qv ≠ qw := Nat.ne_of_lt (by rw [q6]; exact qo.lt)
 have js : n0 ≤ qw := by rw [q6]; exact Z0
 have jt : h0.size ≤ qw := by rw [q6]; exact Kp.1
 replace qb := qb.ext Ex
 replace qh := qh.ext Ex
 replace qc := qc.ext Ex
 replace qd := qd.ext Ex
 replace qe := qe.ext Ex
 replace qi := qi.ext Ex
 replace qa := qa.ext Ex
 replace qj := qj.ext Ex
 replace qf := qf.ext Ex
 replace qk := qk.ext Ex
 replace qm := qm.ext Ex
 replace qg := qg.ext Ex
 replace qo := qo.ext Ex
 replace ql := ql.ext Ex
 replace Z0 := Nat.le_trans Z0 Ex.1
 replace Kp := Kp.ext Ex
 refine g_putfield X (host := "") (Or.inl (tb hw 33 rfl)) Via.refl qe qb (Or.inr ⟨(tb hw 34 rfl), rfl, hnm⟩) (tb hw 9 rfl) (ty := (.array .long)) (by decide) rfl rfl d3_36 (pc' := 39) rfl ?_
 intro T h X W
 replace qb := qb.wr W
 replace qh := qh.other W (Or.inr (slot_ne (Or.inr (tb hw 27 rfl)) (Or.inr (tb hw 34 rfl)) (by decide) (t := (.array .int)) (t' := (.array .long)) (by decide) (by decide)))
 replace qc := qc.other W (Or.inr (slot_ne (Or.inr (tb hw 29 rfl)) (Or.inr (tb hw 34 rfl)) (by decide) (t := (.array .int)) (t' := (.array .long)) (by decide) (by decide)))
 replace qd := qd.other W (Or.inr (slot_ne (Or.inr (tb hw 31 rfl)) (Or.inr (tb hw 34 rfl)) (by decide) (t := (.array .int)) (t' := (.array .long)) (by decide) (by decide)))
 replace qe := qe.same W
 replace qi := qi.other W (Or.inr (slot_ne (Or.inr (tb hw 45 rfl)) (Or.inr (tb hw 34 rfl)) (by decide) (t := .int) (t' := (.array .long)) (by decide) (by decide)))
 replace qa := qa.other W jw
 replace qj := qj.other W jx
 replace qf := qf.wr W
 replace qk := qk.other W (Ne.symm jk)
 replace qm := qm.wr W
 replace qg := qg.other W (Ne.symm qq)
 replace qo := qo.wr W
 replace ql := ql.other W (Ne.symm qr)
 replace qp := qp.wr W
 replace qn := qn.other W (Ne.symm qs)
 replace Z0 := Nat.le_trans Z0 (Nat.le_of_eq W.size.symm)
 replace N := Fr.snoc X.1 N jj
 replace Kp := Kp.wr W (Or.inl (List.mem_of_getElem? (i := 0) rfl))
 refine g_iconst X (1 : Int32) d3_39 (pc' := 40) rfl rfl ?_
 refine g_istoreN X d3_40 (pc' := 41) (Ls' := #[.val (.ref a0), .val (.ref a1), .val (.ref a2), .val (.int (1 : Int32)), .unset, .unset, .unset, .unset, .unset]) rfl rfl ?_
 refine g_bipush X (64 : Int32) d3_41 (pc' := 43) rfl rfl ?_
 refine g_istore X d3_43 (pc' := 45) (Ls' := #[.val (.ref a0), .val (.ref a1), .val (.ref a2), .val (.int (1 : Int32)), .val (.int (64 : Int32)), .unset, .unset, .unset, .unset]) rfl rfl ?_
 refine g_iconst X (0 : Int32) d3_45 (pc' := 46) rfl rfl ?_
 refine g_istore X d3_46 (pc' := 48) (Ls' := #[.val (.ref a0), .val (.ref a1), .val (.ref a2), .val (.int (1 : Int32)), .val (.int (64 : Int32)), .val (.int (0 : Int32)), .unset, .unset, .unset]) rfl rfl ?_
 refine g_iload X d3_48 (pc' := 50) rfl rfl ?_
 refine g_aloadN X d3_50 (pc' := 51) rfl rfl rfl ?_
 refine g_arraylength X qa d3_51 (pc' := 52) rfl (z := (4 : Int32)) rfl ?_
 refine g_icN X d3_52 (tlt (show (0 : Int32) < (4 : Int32) from (by decide))).2.1 (pc' := 55) rfl ?_
 refine g_aloadN X d3_55 (pc' := 56) rfl rfl rfl ?_
 refine g_iload X d3_56 (pc' := 58) rfl rfl ?_
 refine g_iaload X qj 0 d3_58 (pc' := 59) rfl (by decide) (by decide) rfl ?_
 refine g_i2l X d3_59 (pc' := 60) rfl ?_
 refine g_aloadN X d3_60 (pc' := 61) rfl rfl rfl ?_
 refine g_iload X d3_61 (pc' := 63) rfl rfl ?_
 refine g_iaload X qa 0 d3_63 (pc' := 64) rfl (by decide) (by decide) rfl ?_
 refine g_i2l X d3_64 (pc' := 65) rfl ?_
 refine g_lsub X d3_65 (pc' := 66) rfl ?_
 generalize ju : ((y0.toInt64) - (l0.toInt64)) = q7
 refine g_lstore X d3_66 (pc' := 68) (Ls' := #[.val (.ref a0), .val (.ref a1), .val (.ref a2), .val (.int (1 : Int32)), .val (.int (64 : Int32)), .val (.int (0 : Int32)), .val (.long q7), .second, .unset]) rfl rfl ?_
 refine g_bipush X (64 : Int32) d3_68 (pc' := 70) rfl rfl ?_
 refine g_lload X d3_70 (pc' := 72) rfl rfl ?_
 refine g_static X (W := 1) [(.long q7)] [(.int (64 : Int32))] (tb hw 35 rfl) (tb hw 36 rfl) (tb hw 37 rfl) (tb hw 38 rfl) (rNL l Z aa hw [] q7 _) d3_72 (pc' := 75) rfl (by decide) (by decide) (by decide) rfl rfl rfl (lenOf pd_3 rfl) (Nat.le_refl _) (by decide) (by decide) ?_
 intro v T L X q
 obtain ⟨rfl, X⟩ := pureX X q
 show Go p e below _ (T.setTop (mkF m 75 _ [(.int (fNL q7)), (.int (64 : Int32))]))
 refine g_isub X d3_75 (pc' := 76) rfl ?_
 generalize jv : ((64 : Int32) - (fNL q7)) = je
 refine g_istore X d3_76 (pc' := 78) (Ls' := #[.val (.ref a0), .val (.ref a1), .val (.ref a2), .val (.int (1 : Int32)), .val (.int (64 : Int32)), .val (.int (0 : Int32)), .val (.long q7), .second, .val (.int je)]) rfl rfl ?_
 refine g_iload X d3_78 (pc' := 80) rfl rfl ?_
 refine g_iload X d3_80 (pc' := 82) rfl rfl ?_
 refine g_icY X d3_82 (flt (show ¬ ((64 : Int32) < je) from (by rw [← jv, ← ju]; exact q0))).2.2.2 (pc' := 92) (by decide) (by decide) ?_
 refine g_iload X d3_92 (pc' := 94) rfl rfl ?_
 refine g_iload X d3_94 (pc' := 96) rfl rfl ?_
 refine g_isub X d3_96 (pc' := 97) rfl ?_
 generalize j1 : ((64 : Int32) - je) = qx
 refine g_istore X d3_97 (pc' := 99) (Ls' := #[.val (.ref a0), .val (.ref a1), .val (.ref a2), .val (.int (1 : Int32)), .val (.int qx), .val (.int (0 : Int32)), .val (.long q7), .second, .val (.int je)]) rfl rfl ?_
 refine g_aloadN X d3_99 (pc' := 100) rfl rfl rfl ?_
 refine g_getfield X (host := "") (Or.inl (tb hw 28 rfl)) Via.refl qc d3_100 (pc' := 103) rfl ?_
 intro T X
 refine g_iload X d3_103 (pc' := 105) rfl rfl ?_
 refine g_iloadN X d3_105 (pc' := 106) rfl rfl ?_
 refine g_iconst X (1 : Int32) d3_106 (pc' := 107) rfl rfl ?_
 refine g_isub X d3_107 (pc' := 108) rfl ?_
 refine Go.lit32 (z := (0 : Int32)) (by decide) ?_
 refine g_iastore X qg 0 d3_108 (pc' := 109) rfl (by decide) (by decide) (Nat.le_of_ble_eq_true rfl) ?_
 intro T h X W qg
 replace qg : Av Z h qu .int [(.int (0 : Int32)), (.int (0 : Int32)), (.int (0 : Int32)), (.int (0 : Int32))] := qg
 replace qb := qb.wr W
 replace qh := qh.other W (Or.inl qq)
 replace qc := qc.other W (Or.inl qq)
 replace qd := qd.other W (Or.inl qq)
 replace qe := qe.other W (Or.inl qq)
 replace qi := qi.other W (Or.inl qq)
 replace qa := qa.other W jy
 replace qj := qj.other W j6
 replace qf := qf.wr W
 replace qk := qk.other W jl
 replace qm := qm.wr W
 replace qo := qo.wr W
 replace ql := ql.other W (Ne.symm qy)
 replace qp := qp.wr W
 replace qn := qn.other W (Ne.symm qz)
 replace Z0 := Nat.le_trans Z0 (Nat.le_of_eq W.size.symm)
 replace N := Fr.snoc X.1 N jm
 replace Kp := Kp.wr W (Or.inr jn)
 refine g_aloadN X d3_109 (pc' := 110) rfl rfl rfl ?_
 refine g_getfield X (host := "") (Or.inl (tb hw 30 rfl)) Via.refl qd d3_110 (pc' := 113) rfl ?_
 intro T X
 refine g_iload X d3_113 (pc' := 115) rfl rfl ?_
 refine g_iload X d3_115 (pc' := 117) rfl rfl ?_
 refine g_iastore X ql 0 d3_117 (pc' := 118) rfl (by decide) (by decide) (Nat.le_of_ble_eq_true rfl) ?_
 intro T h X W ql
 replace ql : Av Z h qv .int [(.int qx), (.int (0 : Int32)), (.int (0 : Int32)), (.int (0 : Int32))] := ql
 replace qb := qb.wr W
 replace qh := qh.other W (Or.inl qr)
 replace qc := qc.other W (Or.inl qr)
 replace qd := qd.other W (Or.inl qr)
 replace qe := qe.other W (Or.inl qr)
 replace qi := qi.other W (Or.inl qr)
 replace qa := qa.other W jz
 replace qj := qj.other W j7
 replace qf := qf.wr W
 replace qk := qk.other W jo
 replace qm := qm.wr W
 replace qg := qg.other W qy
 replace qo := qo.wr W
 replace qp := qp.wr W
 replace qn := qn.other W (Ne.symm q4)
 replace Z0 := Nat.le_trans Z0 (Nat.le_of_eq W.size.symm)
 replace N := Fr.snoc X.1 N jp
 replace Kp := Kp.wr W (Or.inr jq)
 refine g_aloadN X d3_118 (pc' := 119) rfl rfl rfl ?_
 refine g_getfield X (host := "") (Or.inl (tb hw 33 rfl)) Via.refl qe d3_119 (pc' := 122) rfl ?_
 intro T X
 refine g_iload X d3_122 (pc' := 124) rfl rfl ?_
 refine g_lconst X (1 : Int64) d3_124 (pc' := 125) rfl rfl ?_
 refine g_iload X d3_125 (pc' := 127) rfl rfl ?_
 refine g_lshl X d3_127 (pc' := 128) rfl ?_
 refine g_lconst X (1 : Int64) d3_128 (pc' := 129) rfl rfl ?_
 refine g_lsub X d3_129 (pc' := 130) rfl ?_
 generalize wk : (((1 : Int64) <<< (je &&& 0x3f).toInt64) - (1 : Int64)) = j2
 refine g_lastore X qn 0 d3_130 (pc' := 131) rfl (by decide) (by decide) (Nat.le_of_ble_eq_true rfl) ?_
 intro T h X W qn
 replace qn : Av Z h qw .long [(.long j2), (.long (0 : Int64)), (.long (0 : Int64)), (.long (0 : Int64))] := qn
 replace qb := qb.wr W
 replace qh := qh.other W (Or.inl qs)
 replace qc := qc.other W (Or.inl qs)
 replace qd := qd.other W (Or.inl qs)
 replace qe := qe.other W (Or.inl qs)
 replace qi := qi.other W (Or.inl qs)
 replace qa := qa.other W j0
 replace qj := qj.other W j8
 replace qf := qf.wr W
 replace qk := qk.other W jr
 replace qm := qm.wr W
 replace qg := qg.other W qz
 replace qo := qo.wr W
 replace ql := ql.other W q4
 replace qp := qp.wr W
 replace Z0 := Nat.le_trans Z0 (Nat.le_of_eq W.size.symm)
 replace N := Fr.snoc X.1 N js
 replace Kp := Kp.wr W (Or.inr jt)
 refine g_iinc X d3_131 (pc' := 134) (q := (1 : Int32)) (Ls' := #[.val (.ref a0), .val (.ref a1), .val (.ref a2), .val (.int (1 : Int32)), .val (.int qx), .val (.int (1 : Int32)), .val (.long q7), .second, .val (.int je)]) rfl rfl rfl rfl ?_
 refine g_goto X d3_134 (pc' := 48) (by decide) (by decide) ?_
 refine g_iload X d3_48 (pc' := 50) rfl rfl ?_
 refine g_aloadN X d3_50 (pc' := 51) rfl rfl rfl ?_
 refine g_arraylength X qa d3_51 (pc' := 52) rfl (z := (4 : Int32)) rfl ?_
 refine g_icN X d3_52 (tlt (show (1 : Int32) < (4 : Int32) from (by decide))).2.1 (pc' := 55) rfl ?_
 refine g_aloadN X d3_55 (pc' := 56) rfl rfl rfl ?_
 refine g_iload X d3_56 (pc' := 58) rfl rfl ?_
 refine g_iaload X qj 1 d3_58 (pc' := 59) rfl (by decide) (by decide) rfl ?_
 refine g_i2l X d3_59 (pc' := 60) rfl ?_
 refine g_aloadN X d3_60 (pc' := 61) rfl rfl rfl ?_
 refine g_iload X d3_61 (pc' := 63) rfl rfl ?_
 refine g_iaload X qa 1 d3_63 (pc' := 64) rfl (by decide) (by decide) rfl ?_
 refine g_i2l X d3_64 (pc' := 65) rfl ?_
 refine g_lsub X d3_65 (pc' := 66) rfl ?_
 generalize j3 : ((y1.toInt64) - (l1.toInt64)) = q8
 refine g_lstore X d3_66 (pc' := 68) (Ls' := #[.val (.ref a0), .val (.ref a1), .val (.ref a2), .val (.int (1 : Int32)), .val (.int qx), .val (.int (1 : Int32)), .val (.long q8), .second, .val (.int je)]) rfl rfl ?_
 refine g_bipush X (64 : Int32) d3_68 (pc' := 70) rfl rfl ?_
 refine g_lload X d3_70 (pc' := 72) rfl rfl ?_
 refine g_static X (W := 1) [(.long q8)] [(.int (64 : Int32))] (tb hw 35 rfl) (tb hw 36 rfl) (tb hw 37 rfl) (tb hw 38 rfl) (rNL l Z aa hw [] q8 _) d3_72 (pc' := 75) rfl (by decide) (by decide) (by decide) rfl rfl rfl (lenOf pd_3 rfl) (Nat.le_refl _) (by decide) (by decide) ?_
 intro v T L X q
 obtain ⟨rfl, X⟩ := pureX X q
 show Go p e below _ (T.setTop (mkF m 75 _ [(.int (fNL q8)), (.int (64 : Int32))]))
 refine g_isub X d3_75 (pc' := 76) rfl ?_
 generalize j4 : ((64 : Int32) - (fNL q8)) = jf
 refine g_istore X d3_76 (pc' := 78) (Ls' := #[.val (.ref a0), .val (.ref a1), .val (.ref a2), .val (.int (1 : Int32)), .val (.int qx), .val (.int (1 : Int32)), .val (.long q8), .second, .val (.int jf)]) rfl rfl ?_
 refine g_iload X d3_78 (pc' := 80) rfl rfl ?_
 refine g_iload X d3_80 (pc' := 82) rfl rfl ?_
 refine g_icY X d3_82 (flt (show ¬ (qx < jf) from (by rw [← j4, ← j3, ← j1, ← jv, ← ju]; exact q1))).2.2.2 (pc' := 92) (by decide) (by decide) ?_
 refine g_iload X d3_92 (pc' := 94) rfl rfl ?_
 refine g_iload X d3_94 (pc' := 96) rfl rfl ?_
 refine g_isub X d3_96 (pc' := 97) rfl ?_
 generalize j9 : (qx - jf) = q5
 refine g_istore X d3_97 (pc' := 99) (Ls' := #[.val (.ref a0), .val (.ref a1), .val (.ref a2), .val (.int (1 : Int32)), .val (.int q5), .val (.int (1 : Int32)), .val (.long q8), .second, .val (.int jf)]) rfl rfl ?_
 refine g_aloadN X d3_99 (pc' := 100) rfl rfl rfl ?_
 refine g_getfield X (host := "") (Or.inl (tb hw 28 rfl)) Via.refl qc d3_100 (pc' := 103) rfl ?_
 intro T X
 refine g_iload X d3_103 (pc' := 105) rfl rfl ?_
 refine g_iloadN X d3_105 (pc' := 106) rfl rfl ?_
 refine g_iconst X (1 : Int32) d3_106 (pc' := 107) rfl rfl ?_
 refine g_isub X d3_107 (pc' := 108) rfl ?_
 refine Go.lit32 (z := (0 : Int32)) (by decide) ?_
 refine g_iastore X qg 1 d3_108 (pc' := 109) rfl (by decide) (by decide) (Nat.le_of_ble_eq_true rfl) ?_
 intro T h X W qg
 replace qg : Av Z h qu .int [(.int (0 : Int32)), (.int (0 : Int32)), (.int (0 : Int32)), (.int (0 : Int32))] := qg
 replace qb := qb.wr W
 replace qh := qh.other W (Or.inl qq)
 replace qc := qc.other W (Or.inl qq)
 replace qd := qd.other W (Or.inl qq)
 replace qe := qe.other W (Or.inl qq)
 replace qi := qi.other W (Or.inl qq)
 replace qa := qa.other W jy
 replace qj := qj.other W j6
 replace qf := qf.wr W
 replace qk := qk.other W jl
 replace qm := qm.wr W
 replace qo := qo.wr W
 replace ql := ql.other W (Ne.symm qy)
 replace qp := qp.wr W
 replace qn := qn.other W (Ne.symm qz)
 replace Z0 := Nat.le_trans Z0 (Nat.le_of_eq W.size.symm)
 replace N := Fr.snoc X.1 N jm
 replace Kp := Kp.wr W (Or.inr jn)
 refine g_aloadN X d3_109 (pc' := 110) rfl rfl rfl ?_
 refine g_getfield X (host := "") (Or.inl (tb hw 30 rfl)) Via.refl qd d3_110 (pc' := 113) rfl ?_
 intro T X
 refine g_iload X d3_113 (pc' := 115) rfl rfl ?_
 refine g_iload X d3_115 (pc' := 117) rfl rfl ?_
 refine g_iastore X ql 1 d3_117 (pc' := 118) rfl (by decide) (by decide) (Nat.le_of_ble_eq_true rfl) ?_
 intro T h X W ql
 replace ql : Av Z h qv .int [(.int qx), (.int q5), (.int (0 : Int32)), (.int (0 : Int32))] := ql
 replace qb := qb.wr W
 replace qh := qh.other W (Or.inl qr)
 replace qc := qc.other W (Or.inl qr)
 replace qd := qd.other W (Or.inl qr)
 replace qe := qe.other W (Or.inl qr)
 replace qi := qi.other W (Or.inl qr)
 replace qa := qa.other W jz
 replace qj := qj.other W j7
 replace qf := qf.wr W
 replace qk := qk.other W jo
 replace qm := qm.wr W
 replace qg := qg.other W qy
 replace qo := qo.wr W
 replace qp := qp.wr W
 replace qn := qn.other W (Ne.symm q4)
 replace Z0 := Nat.le_trans Z0 (Nat.le_of_eq W.size.symm)
 replace N := Fr.snoc X.1 N jp
 replace Kp := Kp.wr W (Or.inr jq)
 refine g_aloadN X d3_118 (pc' := 119) rfl rfl rfl ?_
 refine g_getfield X (host := "") (Or.inl (tb hw 33 rfl)) Via.refl qe d3_119 (pc' := 122) rfl ?_
 intro T X
 refine g_iload X d3_122 (pc' := 124) rfl rfl ?_
 refine g_lconst X (1 : Int64) d3_124 (pc' := 125) rfl rfl ?_
 refine g_iload X d3_125 (pc' := 127) rfl rfl ?_
 refine g_lshl X d3_127 (pc' := 128) rfl ?_
 refine g_lconst X (1 : Int64) d3_128 (pc' := 129) rfl rfl ?_
 refine g_lsub X d3_129 (pc' := 130) rfl ?_
 generalize wl : (((1 : Int64) <<< (jf &&& 0x3f).toInt64) - (1 : Int64)) = wa
 refine g_lastore X qn 1 d3_130 (pc' := 131) rfl (by decide) (by decide) (Nat.le_of_ble_eq_true rfl) ?_
 intro T h X W qn
 replace qn : Av Z h qw .long [(.long j2), (.long wa), (.long (0 : Int64)), (.long (0 : Int64))] := qn
 replace qb := qb.wr W
 replace qh := qh.other W (Or.inl qs)
 replace qc := qc.other W (Or.inl qs)
 replace qd := qd.other W (Or.inl qs)
 replace qe := qe.other W (Or.inl qs)
 replace qi := qi.other W (Or.inl qs)
 replace qa := qa.other W j0
 replace qj := qj.other W j8
 replace qf := qf.wr W
 replace qk := qk.other W jr
 replace qm := qm.wr W
 replace qg := qg.other W qz
 replace qo := qo.wr W
 replace ql := ql.other W q4
 replace qp := qp.wr W
 replace Z0 := Nat.le_trans Z0 (Nat.le_of_eq W.size.symm)
 replace N := Fr.snoc X.1 N js
 replace Kp := Kp.wr W (Or.inr jt)
 refine g_iinc X d3_131 (pc' := 134) (q := (1 : Int32)) (Ls' := #[.val (.ref a0), .val (.ref a1), .val (.ref a2), .val (.int (1 : Int32)), .val (.int q5), .val (.int (2 : Int32)), .val (.long q8), .second, .val (.int jf)]) rfl rfl rfl rfl ?_
 refine g_goto X d3_134 (pc' := 48) (by decide) (by decide) ?_
 refine g_iload X d3_48 (pc' := 50) rfl rfl ?_
 refine g_aloadN X d3_50 (pc' := 51) rfl rfl rfl ?_
 refine g_arraylength X qa d3_51 (pc' := 52) rfl (z := (4 : Int32)) rfl ?_
 refine g_icN X d3_52 (tlt (show (2 : Int32) < (4 : Int32) from (by decide))).2.1 (pc' := 55) rfl ?_
 refine g_aloadN X d3_55 (pc' := 56) rfl rfl rfl ?_
 refine g_iload X d3_56 (pc' := 58) rfl rfl ?_
 refine g_iaload X qj 2 d3_58 (pc' := 59) rfl (by decide) (by decide) rfl ?_
 refine g_i2l X d3_59 (pc' := 60) rfl ?_
 refine g_aloadN X d3_60 (pc' := 61) rfl rfl rfl ?_
 refine g_iload X d3_61 (pc' := 63) rfl rfl ?_
 refine g_iaload X qa 2 d3_63 (pc' := 64) rfl (by decide) (by decide) rfl ?_
 refine g_i2l X d3_64 (pc' := 65) rfl ?_
 refine g_lsub X d3_65 (pc' := 66) rfl ?_
 generalize wb : ((y2.toInt64) - (l2.toInt64)) = q9
 refine g_lstore X d3_66 (pc' := 68) (Ls' := #[.val (.ref a0), .val (.ref a1), .val (.ref a2), .val (.int (1 : Int32)), .val (.int q5), .val (.int (2 : Int32)), .val (.long q9), .second, .val (.int jf)]) rfl rfl ?_
 refine g_bipush X (64 : Int32) d3_68 (pc' := 70) rfl rfl ?_
 refine g_lload X d3_70 (pc' := 72) rfl rfl ?_
 refine g_static X (W := 1) [(.long q9)] [(.int (64 : Int32))] (tb hw 35 rfl) (tb hw 36 rfl) (tb hw 37 rfl) (tb hw 38 rfl) (rNL l Z aa hw [] q9 _) d3_72 (pc' := 75) rfl (by decide) (by decide) (by decide) rfl rfl rfl (lenOf pd_3 rfl) (Nat.le_refl _) (by decide) (by decide) ?_
 intro v T L X q
 obtain ⟨rfl, X⟩ := pureX X q
 show Go p e below _ (T.setTop (mkF m 75 _ [(.int (fNL q9)), (.int (64 : Int32))]))
 refine g_isub X d3_75 (pc' := 76) rfl ?_
 generalize wc : ((64 : Int32) - (fNL q9)) = jg
 refine g_istore X d3_76 (pc' := 78) (Ls' := #[.val (.ref a0), .val (.ref a1), .val (.ref a2), .val (.int (1 : Int32)), .val (.int q5), .val (.int (2 : Int32)), .val (.long q9), .second, .val (.int jg)]) rfl rfl ?_
 refine g_iload X d3_78 (pc' := 80) rfl rfl ?_
 refine g_iload X d3_80 (pc' := 82) rfl rfl ?_
 refine g_icY X d3_82 (flt (show ¬ (q5 < jg) from (by rw [← wc, ← wb, ← j9, ← j4, ← j3, ← j1, ← jv, ← ju]; exact q2))).2.2.2 (pc' := 92) (by decide) (by decide) ?_
 refine g_iload X d3_92 (pc' := 94) rfl rfl ?_
 refine g_iload X d3_94 (pc' := 96) rfl rfl ?_
 refine g_isub X d3_96 (pc' := 97) rfl ?_
 generalize we : (q5 - jg) = ja
 refine g_istore X d3_97 (pc' := 99) (Ls' := #[.val (.ref a0), .val (.ref a1), .val (.ref a2), .val (.int (1 : Int32)), .val (.int ja), .val (.int (2 : Int32)), .val (.long q9), .second, .val (.int jg)]) rfl rfl ?_
 refine g_aloadN X d3_99 (pc' := 100) rfl rfl rfl ?_
 refine g_getfield X (host := "") (Or.inl (tb hw 28 rfl)) Via.refl qc d3_100 (pc' := 103) rfl ?_
 intro T X
 refine g_iload X d3_103 (pc' := 105) rfl rfl ?_
 refine g_iloadN X d3_105 (pc' := 106) rfl rfl ?_
 refine g_iconst X (1 : Int32) d3_106 (pc' := 107) rfl rfl ?_
 refine g_isub X d3_107 (pc' := 108) rfl ?_
 refine Go.lit32 (z := (0 : Int32)) (by decide) ?_
 refine g_iastore X qg 2 d3_108 (pc' := 109) rfl (by decide) (by decide) (Nat.le_of_ble_eq_true rfl) ?_
 intro T h X W qg
 replace qg : Av Z h qu .int [(.int (0 : Int32)), (.int (0 : Int32)), (.int (0 : Int32)), (.int (0 : Int32))] := qg
 replace qb := qb.wr W
 replace qh := qh.other W (Or.inl qq)
 replace qc := qc.other W (Or.inl qq)
 replace qd := qd.other W (Or.inl qq)
 replace qe := qe.other W (Or.inl qq)
 replace qi := qi.other W (Or.inl qq)
 replace qa := qa.other W jy
 replace qj := qj.other W j6
 replace qf := qf.wr W
 replace qk := qk.other W jl
 replace qm := qm.wr W
 replace qo := qo.wr W
 replace ql := ql.other W (Ne.symm qy)
 replace qp := qp.wr W
 replace qn := qn.other W (Ne.symm qz)
 replace Z0 := Nat.le_trans Z0 (Nat.le_of_eq W.size.symm)
 replace N := Fr.snoc X.1 N jm
 replace Kp := Kp.wr W (Or.inr jn)
 refine g_aloadN X d3_109 (pc' := 110) rfl rfl rfl ?_
 refine g_getfield X (host := "") (Or.inl (tb hw 30 rfl)) Via.refl qd d3_110 (pc' := 113) rfl ?_
 intro T X
 refine g_iload X d3_113 (pc' := 115) rfl rfl ?_
 refine g_iload X d3_115 (pc' := 117) rfl rfl ?_
 refine g_iastore X ql 2 d3_117 (pc' := 118) rfl (by decide) (by decide) (Nat.le_of_ble_eq_true rfl) ?_
 intro T h X W ql
 replace ql : Av Z h qv .int [(.int qx), (.int q5), (.int ja), (.int (0 : Int32))] := ql
 replace qb := qb.wr W
 replace qh := qh.other W (Or.inl qr)
 replace qc := qc.other W (Or.inl qr)
 replace qd := qd.other W (Or.inl qr)
 replace qe := qe.other W (Or.inl qr)
 replace qi := qi.other W (Or.inl qr)
 replace qa := qa.other W jz
 replace qj := qj.other W j7
 replace qf := qf.wr W
 replace qk := qk.other W jo
 replace qm := qm.wr W
 replace qg := qg.other W qy
 replace qo := qo.wr W
 replace qp := qp.wr W
 replace qn := qn.other W (Ne.symm q4)
 replace Z0 := Nat.le_trans Z0 (Nat.le_of_eq W.size.symm)
 replace N := Fr.snoc X.1 N jp
 replace Kp := Kp.wr W (Or.inr jq)
 refine g_aloadN X d3_118 (pc' := 119) rfl rfl rfl ?_
 refine g_getfield X (host := "") (Or.inl (tb hw 33 rfl)) Via.refl qe d3_119 (pc' := 122) rfl ?_
 intro T X
 refine g_iload X d3_122 (pc' := 124) rfl rfl ?_
 refine g_lconst X (1 : Int64) d3_124 (pc' := 125) rfl rfl ?_
 refine g_iload X d3_125 (pc' := 127) rfl rfl ?_
 refine g_lshl X d3_127 (pc' := 128) rfl ?_
 refine g_lconst X (1 : Int64) d3_128 (pc' := 129) rfl rfl ?_
 refine g_lsub X d3_129 (pc' := 130) rfl ?_
 generalize wm : (((1 : Int64) <<< (jg &&& 0x3f).toInt64) - (1 : Int64)) = wf
 refine g_lastore X qn 2 d3_130 (pc' := 131) rfl (by decide) (by decide) (Nat.le_of_ble_eq_true rfl) ?_
 intro T h X W qn
 replace qn : Av Z h qw .long [(.long j2), (.long wa), (.long wf), (.long (0 : Int64))] := qn
 replace qb := qb.wr W
 replace qh := qh.other W (Or.inl qs)
 replace qc := qc.other W (Or.inl qs)
 replace qd := qd.other W (Or.inl qs)
 replace qe := qe.other W (Or.inl qs)
 replace qi := qi.other W (Or.inl qs)
 replace qa := qa.other W j0
 replace qj := qj.other W j8
 replace qf := qf.wr W
 replace qk := qk.other W jr
 replace qm := qm.wr W
 replace qg := qg.other W qz
 replace qo := qo.wr W
 replace ql := ql.other W q4
 replace qp := qp.wr W
 replace Z0 := Nat.le_trans Z0 (Nat.le_of_eq W.size.symm)
 replace N := Fr.snoc X.1 N js
 replace Kp := Kp.wr W (Or.inr jt)
 refine g_iinc X d3_131 (pc' := 134) (q := (1 : Int32)) (Ls' := #[.val (.ref a0), .val (.ref a1), .val (.ref a2), .val (.int (1 : Int32)), .val (.int ja), .val (.int (3 : Int32)), .val (.long q9), .second, .val (.int jg)]) rfl rfl rfl rfl ?_
 refine g_goto X d3_134 (pc' := 48) (by decide) (by decide) ?_
 refine g_iload X d3_48 (pc' := 50) rfl rfl ?_
 refine g_aloadN X d3_50 (pc' := 51) rfl rfl rfl ?_
 refine g_arraylength X qa d3_51 (pc' := 52) rfl (z := (4 : Int32)) rfl ?_
 refine g_icN X d3_52 (tlt (show (3 : Int32) < (4 : Int32) from (by decide))).2.1 (pc' := 55) rfl ?_
 refine g_aloadN X d3_55 (pc' := 56) rfl rfl rfl ?_
 refine g_iload X d3_56 (pc' := 58) rfl rfl ?_
 refine g_iaload X qj 3 d3_58 (pc' := 59) rfl (by decide) (by decide) rfl ?_
 refine g_i2l X d3_59 (pc' := 60) rfl ?_
 refine g_aloadN X d3_60 (pc' := 61) rfl rfl rfl ?_
 refine g_iload X d3_61 (pc' := 63) rfl rfl ?_
 refine g_iaload X qa 3 d3_63 (pc' := 64) rfl (by decide) (by decide) rfl ?_
 refine g_i2l X d3_64 (pc' := 65) rfl ?_
 refine g_lsub X d3_65 (pc' := 66) rfl ?_
 generalize wg : ((y3.toInt64) - (l3.toInt64)) = jb
 refine g_lstore X d3_66 (pc' := 68) (Ls' := #[.val (.ref a0), .val (.ref a1), .val (.ref a2), .val (.int (1 : Int32)), .val (.int ja), .val (.int (3 : Int32)), .val (.long jb), .second, .val (.int jg)]) rfl rfl ?_
 refine g_bipush X (64 : Int32) d3_68 (pc' := 70) rfl rfl ?_
 refine g_lload X d3_70 (pc' := 72) rfl rfl ?_
 refine g_static X (W := 1) [(.long jb)] [(.int (64 : Int32))] (tb hw 35 rfl) (tb hw 36 rfl) (tb hw 37 rfl) (tb hw 38 rfl) (rNL l Z aa hw [] jb _) d3_72 (pc' := 75) rfl (by decide) (by decide) (by decide) rfl rfl rfl (lenOf pd_3 rfl) (Nat.le_refl _) (by decide) (by decide) ?_
 intro v T L X q
 obtain ⟨rfl, X⟩ := pureX X q
 show Go p e below _ (T.setTop (mkF m 75 _ [(.int (fNL jb)), (.int (64 : Int32))]))
 refine g_isub X d3_75 (pc' := 76) rfl ?_
 generalize wh : ((64 : Int32) - (fNL jb)) = ji
 refine g_istore X d3_76 (pc' := 78) (Ls' := #[.val (.ref a0), .val (.ref a1), .val (.ref a2), .val (.int (1 : Int32)), .val (.int ja), .val (.int (3 : Int32)), .val (.long jb), .second, .val (.int ji)]) rfl rfl ?_
 refine g_iload X d3_78 (pc' := 80) rfl rfl ?_
 refine g_iload X d3_80 (pc' := 82) rfl rfl ?_
 refine g_icY X d3_82 (flt (show ¬ (ja < ji) from (by rw [← wh, ← wg, ← we, ← wc, ← wb, ← j9, ← j4, ← j3, ← j1, ← jv, ← ju]; exact q3))).2.2.2 (pc' := 92) (by decide) (by decide) ?_
 refine g_iload X d3_92 (pc' := 94) rfl rfl ?_
 refine g_iload X d3_94 (pc' := 96) rfl rfl ?_
 refine g_isub X d3_96 (pc' := 97) rfl ?_
 generalize wn : (ja - ji) = wd
 refine g_istore X d3_97 (pc' := 99) (Ls' := #[.val (.ref a0), .val (.ref a1), .val (.ref a2), .val (.int (1 : Int32)), .val (.int wd), .val (.int (3 : Int32)), .val (.long jb), .second, .val (.int ji)]) rfl rfl ?_
 refine g_aloadN X d3_99 (pc' := 100) rfl rfl rfl ?_
 refine g_getfield X (host := "") (Or.inl (tb hw 28 rfl)) Via.refl qc d3_100 (pc' := 103) rfl ?_
 intro T X
 refine g_iload X d3_103 (pc' := 105) rfl rfl ?_
 refine g_iloadN X d3_105 (pc' := 106) rfl rfl ?_
 refine g_iconst X (1 : Int32) d3_106 (pc' := 107) rfl rfl ?_
 refine g_isub X d3_107 (pc' := 108) rfl ?_
 refine Go.lit32 (z := (0 : Int32)) (by decide) ?_
 refine g_iastore X qg 3 d3_108 (pc' := 109) rfl (by decide) (by decide) (Nat.le_of_ble_eq_true rfl) ?_
 intro T h X W qg
 replace qg : Av Z h qu .int [(.int (0 : Int32)), (.int (0 : Int32)), (.int (0 : Int32)), (.int (0 : Int32))] := qg
 replace qb := qb.wr W
 replace qh := qh.other W (Or.inl qq)
 replace qc := qc.other W (Or.inl qq)
 replace qd := qd.other W (Or.inl qq)
 replace qe := qe.other W (Or.inl qq)
 replace qi := qi.other W (Or.inl qq)
 replace qa := qa.other W jy
 replace qf := qf.wr W
 replace qk := qk.other W jl
 replace qm := qm.wr W
 replace qo := qo.wr W
 replace ql := ql.other W (Ne.symm qy)
 replace qp := qp.wr W
 replace qn := qn.other W (Ne.symm qz)
 replace Z0 := Nat.le_trans Z0 (Nat.le_of_eq W.size.symm)
 replace N := Fr.snoc X.1 N jm
 replace Kp := Kp.wr W (Or.inr jn)
 refine g_aloadN X d3_109 (pc' := 110) rfl rfl rfl ?_
 refine g_getfield X (host := "") (Or.inl (tb hw 30 rfl)) Via.refl qd d3_110 (pc' := 113) rfl ?_
 intro T X
 refine g_iload X d3_113 (pc' := 115) rfl rfl ?_
 refine g_iload X d3_115 (pc' := 117) rfl rfl ?_
 refine g_iastore X ql 3 d3_117 (pc' := 118) rfl (by decide) (by decide) (Nat.le_of_ble_eq_true rfl) ?_
 intro T h X W ql
 replace ql : Av Z h qv .int [(.int qx), (.int q5), (.int ja), (.int wd)] := ql
 replace qb := qb.wr W
 replace qh := qh.other W (Or.inl qr)
 replace qc := qc.other W (Or.inl qr)
 replace qd := qd.other W (Or.inl qr)
 replace qe := qe.other W (Or.inl qr)
 replace qi := qi.other W (Or.inl qr)
 replace qa := qa.other W jz
 replace qf := qf.wr W
 replace qk := qk.other W jo
 replace qm := qm.wr W
 replace qg := qg.other W qy
 replace qo := qo.wr W
 replace qp := qp.wr W
 replace qn := qn.other W (Ne.symm q4)
 replace Z0 := Nat.le_trans Z0 (Nat.le_of_eq W.size.symm)
 replace N := Fr.snoc X.1 N jp
 replace Kp := Kp.wr W (Or.inr jq)
 refine g_aloadN X d3_118 (pc' := 119) rfl rfl rfl ?_
 refine g_getfield X (host := "") (Or.inl (tb hw 33 rfl)) Via.refl qe d3_119 (pc' := 122) rfl ?_
 intro T X
 refine g_iload X d3_122 (pc' := 124) rfl rfl ?_
 refine g_lconst X (1 : Int64) d3_124 (pc' := 125) rfl rfl ?_
 refine g_iload X d3_125 (pc' := 127) rfl rfl ?_
 refine g_lshl X d3_127 (pc' := 128) rfl ?_
 refine g_lconst X (1 : Int64) d3_128 (pc' := 129) rfl rfl ?_
 refine g_lsub X d3_129 (pc' := 130) rfl ?_
 generalize wo : (((1 : Int64) <<< (ji &&& 0x3f).toInt64) - (1 : Int64)) = wp
 refine g_lastore X qn 3 d3_130 (pc' := 131) rfl (by decide) (by decide) (Nat.le_of_ble_eq_true rfl) ?_
 intro T h X W qn
 replace qn : Av Z h qw .long [(.long j2), (.long wa), (.long wf), (.long wp)] := qn
 replace qb := qb.wr W
 replace qh := qh.other W (Or.inl qs)
 replace qc := qc.other W (Or.inl qs)
 replace qd := qd.other W (Or.inl qs)
 replace qe := qe.other W (Or.inl qs)
 replace qi := qi.other W (Or.inl qs)
 replace qa := qa.other W j0
 replace qf := qf.wr W
 replace qk := qk.other W jr
 replace qm := qm.wr W
 replace qg := qg.other W qz
 replace qo := qo.wr W
 replace ql := ql.other W q4
 replace qp := qp.wr W
 replace Z0 := Nat.le_trans Z0 (Nat.le_of_eq W.size.symm)
 replace N := Fr.snoc X.1 N js
 replace Kp := Kp.wr W (Or.inr jt)
 refine g_iinc X d3_131 (pc' := 134) (q := (1 : Int32)) (Ls' := #[.val (.ref a0), .val (.ref a1), .val (.ref a2), .val (.int (1 : Int32)), .val (.int wd), .val (.int (4 : Int32)), .val (.long jb), .second, .val (.int ji)]) rfl rfl rfl rfl ?_
 refine g_goto X d3_134 (pc' := 48) (by decide) (by decide) ?_
 refine g_iload X d3_48 (pc' := 50) rfl rfl ?_
 refine g_aloadN X d3_50 (pc' := 51) rfl rfl rfl ?_
 refine g_arraylength X qa d3_51 (pc' := 52) rfl (z := (4 : Int32)) rfl ?_
 refine g_icY X d3_52 (flt (show ¬ ((4 : Int32) < (4 : Int32)) from (by decide))).2.1 (pc' := 137) (by decide) (by decide) ?_
 refine g_aloadN X d3_137 (pc' := 138) rfl rfl rfl ?_
 refine g_iloadN X d3_138 (pc' := 139) rfl rfl ?_
 refine g_putfield X (host := "") (Or.inl (tb hw 44 rfl)) Via.refl qi qb (Or.inr ⟨(tb hw 45 rfl), rfl, hnm⟩) (tb hw 9 rfl) (ty := .int) (by decide) rfl rfl d3_139 (pc' := 142) rfl ?_
 intro T h X W
 replace qb := qb.wr W
 replace qh := qh.other W (Or.inr (slot_ne (Or.inr (tb hw 27 rfl)) (Or.inr (tb hw 45 rfl)) (by decide) (t := (.array .int)) (t' := .int) (by decide) (by decide)))
 replace qc := qc.other W (Or.inr (slot_ne (Or.inr (tb hw 29 rfl)) (Or.inr (tb hw 45 rfl)) (by decide) (t := (.array .int)) (t' := .int) (by decide) (by decide)))
 replace qd := qd.other W (Or.inr (slot_ne (Or.inr (tb hw 31 rfl)) (Or.inr (tb hw 45 rfl)) (by decide) (t := (.array .int)) (t' := .int) (by decide) (by decide)))
 replace qe := qe.other W (Or.inr (slot_ne (Or.inr (tb hw 34 rfl)) (Or.inr (tb hw 45 rfl)) (by decide) (t := (.array .long)) (t' := .int) (by decide) (by decide)))
 replace qi := qi.same W
 replace qf := qf.wr W
 replace qk := qk.other W (Ne.symm jk)
 replace qm := qm.wr W
 replace qg := qg.other W (Ne.symm qq)
 replace qo := qo.wr W
 replace ql := ql.other W (Ne.symm qr)
 replace qp := qp.wr W
 replace qn := qn.other W (Ne.symm qs)
 replace Z0 := Nat.le_trans Z0 (Nat.le_of_eq W.size.symm)
 replace N := Fr.snoc X.1 N jj
 replace Kp := Kp.wr W (Or.inl (List.mem_of_getElem? (i := 0) rfl))
 refine g_return X d3_142 hret hlk (by decide) (by decide) ?_
 subst ju jv j1 wk j3 j4 j9 wl wb wc we wm wg wh wn wo
 exact ⟨jc, qu, qv, qw, rfl, N, Kp, wj, wi, jn, jm, jq, jp, jt, js, jl, jo, jr, qy, qz, q4, qb, qh, qc, qd, qe, qi, qf, qk, qm, qg, qo, ql, qp, qn⟩
theorem d3_85 : decode prog_58_method_1_code 85 = .ok (.iinc 3 1, 3) := by decide +kernel
theorem d3_88 : decode prog_58_method_1_code 88 = .ok (.bipush 64, 2) := by decide +kernel
theorem d3_90 : decode prog_58_method_1_code 90 = .ok (.istore 4, 2) := by decide +kernel
theorem ef_rInit1 (m : MethodId) (x0 : Addr) (x1 : Addr) (x2 : Addr) : entryFrame m #[(.ref x0), (.ref x1), (.ref x2)] 9 = mkF m 0 #[.val (.ref x0), .val (.ref x1), .val (.ref x2), .unset, .unset, .unset, .unset, .unset, .unset] [] := by first | (simp [entryFrame, mkF, argsToLocals, Value.category]; done) | rfl
set_option maxRecDepth 65536 in
set_option maxHeartbeats 40000000 in
theorem rInit1 (l : Launch) (Z : State) (aa : Array Value) (hw : ∀ d ∈ tables_1, d.before aa Z = true) (ws : List Jvm.Cond) (a0 : Addr) (a1 : Addr) (a2 : Addr) (l0 : Int32) (l1 : Int32) (l2 : Int32) (l3 : Int32) (y0 : Int32) (y1 : Int32) (y2 : Int32) (y3 : Int32) (h0 : Heap) (n0 : Nat) (Z0 : n0 ≤ h0.size) (qb : Exa Z h0 a0 "com/example/ryazan/ryazan/language/Layout") (qh : Fld Z h0 a0 "com/example/ryazan/ryazan/language/Layout" "low" "[I" .null) (qc : Fld Z h0 a0 "com/example/ryazan/ryazan/language/Layout" "word" "[I" .null) (qd : Fld Z h0 a0 "com/example/ryazan/ryazan/language/Layout" "shift" "[I" .null) (qe : Fld Z h0 a0 "com/example/ryazan/ryazan/language/Layout" "mask" "[J" .null) (qi : Fld Z h0 a0 "com/example/ryazan/ryazan/language/Layout" "width" "I" (.int (0 : Int32))) (qt : Exa Z h0 a1 "[I") (qa : Av Z h0 a1 .int [(.int l0), (.int l1), (.int l2), (.int l3)]) (qj : Av Z h0 a2 .int [(.int y0), (.int y1), (.int y2), (.int y3)]) (jj : n0 ≤ a0) (jw : a1 ≠ a0) (jx : a2 ≠ a0) (q0 : ¬ (64 : Int32) < bt l0 y0) (q1 : ¬ ((64 : Int32) - bt l0 y0) < bt l1 y1) (q2 : ¬ ((64 : Int32) - bt l0 y0 - bt l1 y1) < bt l2 y2) (q3 : ((64 : Int32) - bt l0 y0 - bt l1 y1 - bt l2 y2) < bt l3 y3) :
    Rm l Z (⟨"com/example/ryazan/ryazan/language/Layout", "<init>", "([I[I)V"⟩ : MethodName) prog_58_method_1_code 9 none ws ({ frames := 2, cells := 4, slots := 16, locals := 29 } : Room) #[(.ref a0), (.ref a1), (.ref a2)] h0 (fun v h L => ∃ q0 q1 q2 q3 : Addr, v = none ∧ Fr n0 L ∧ Keep h0 h [a0] ∧ h0.size ≤ q0 ∧ n0 ≤ q0 ∧ h0.size ≤ q1 ∧ n0 ≤ q1 ∧ h0.size ≤ q2 ∧ n0 ≤ q2 ∧ h0.size ≤ q3 ∧ n0 ≤ q3 ∧ q0 ≠ q1 ∧ q0 ≠ q2 ∧ q0 ≠ q3 ∧ q1 ≠ q2 ∧ q1 ≠ q3 ∧ q2 ≠ q3 ∧ Exa Z h a0 "com/example/ryazan/ryazan/language/Layout" ∧ Fld Z h a0 "com/example/ryazan/ryazan/language/Layout" "low" "[I" (.ref q0) ∧ Fld Z h a0 "com/example/ryazan/ryazan/language/Layout" "word" "[I" (.ref q1) ∧ Fld Z h a0 "com/example/ryazan/ryazan/language/Layout" "shift" "[I" (.ref q2) ∧ Fld Z h a0 "com/example/ryazan/ryazan/language/Layout" "mask" "[J" (.ref q3) ∧ Fld Z h a0 "com/example/ryazan/ryazan/language/Layout" "width" "I" (.int (2 : Int32)) ∧ Exa Z h q0 "[I" ∧ Av Z h q0 .int [(.int l0), (.int l1), (.int l2), (.int l3)] ∧ Exa Z h q1 "[I" ∧ Av Z h q1 .int [(.int (0 : Int32)), (.int (0 : Int32)), (.int (0 : Int32)), (.int (1 : Int32))] ∧ Exa Z h q2 "[I" ∧ Av Z h q2 .int [(.int ((64 : Int32) - ((64 : Int32) - (fNL ((y0.toInt64) - (l0.toInt64)))))), (.int (((64 : Int32) - ((64 : Int32) - (fNL ((y0.toInt64) - (l0.toInt64))))) - ((64 : Int32) - (fNL ((y1.toInt64) - (l1.toInt64)))))), (.int ((((64 : Int32) - ((64 : Int32) - (fNL ((y0.toInt64) - (l0.toInt64))))) - ((64 : Int32) - (fNL ((y1.toInt64) - (l1.toInt64))))) - ((64 : Int32) - (fNL ((y2.toInt64) - (l2.toInt64)))))), (.int ((64 : Int32) - ((64 : Int32) - (fNL ((y3.toInt64) - (l3.toInt64))))))] ∧ Exa Z h q3 "[J" ∧ Av Z h q3 .long [(.long (((1 : Int64) <<< (((64 : Int32) - (fNL ((y0.toInt64) - (l0.toInt64)))) &&& 0x3f).toInt64) - (1 : Int64))), (.long (((1 : Int64) <<< (((64 : Int32) - (fNL ((y1.toInt64) - (l1.toInt64)))) &&& 0x3f).toInt64) - (1 : Int64))), (.long (((1 : Int64) <<< (((64 : Int32) - (fNL ((y2.toInt64) - (l2.toInt64)))) &&& 0x3f).toInt64) - (1 : Int64))), (.long (((1 : Int64) <<< (((64 : Int32) - (fNL ((y3.toInt64) - (l3.toInt64)))) &&& 0x3f).toInt64) - (1 : Int64)))]) := by
 refine Rm.of (plainFor_of_name pn_3) ?_
 intro p e s m below meth cc T X hnm hret hlk
 refine Go.at_ (ef_rInit1 m a0 a1 a2) ?_
 have N := Fr.nil n0
 have Kp := Keep.refl h0 [a0]
 refine g_aloadN X d3_0 (pc' := 1) rfl rfl rfl ?_
 refine g_initO X (W := 0) (tb hw 14 rfl) (tb hw 15 rfl) (tb hw 16 rfl) d3_1 (pc' := 4) rfl rfl (by decide) (Nat.le_refl _) (by decide) ?_
 intro T X
 refine g_aloadN X d3_4 (pc' := 5) rfl rfl rfl ?_
 refine g_aloadN X d3_5 (pc' := 6) rfl rfl rfl ?_
 refine g_clone X (W := 1) (tb hw 17 rfl) (tb hw 18 rfl) (tb hw 22 rfl) (tb hw 20 rfl) (tb hw 21 rfl) (tb hw 23 rfl) qa qt (fitS rfl (fitS rfl (fitS rfl (fitS rfl fit0)))) d3_6 (pc' := 9) rfl rfl (by decide) (Nat.le_refl _) (by decide) 4 (Nat.le_of_ble_eq_true rfl) (by decide) (by decide) ?_
 intro T h jd j5 X Ex qf qk
 have jk : a0 ≠ jd := Nat.ne_of_lt (by rw [j5]; exact qb.lt)
 have wi : n0 ≤ jd := by rw [j5]; exact Z0
 have wj : h0.size ≤ jd := by rw [j5]; exact Kp.1
 replace qb := qb.ext Ex
 replace qh := qh.ext Ex
 replace qc := qc.ext Ex
 replace qd := qd.ext Ex
 replace qe := qe.ext Ex
 replace qi := qi.ext Ex
 replace qt := qt.ext Ex
 replace qa := qa.ext Ex
 replace qj := qj.ext Ex
 replace Z0 := Nat.le_trans Z0 Ex.1
 replace Kp := Kp.ext Ex
 refine g_checkcast X (tb hw 24 rfl) (Ins.self qf) d3_9 (pc' := 12) rfl ?_
 intro T X
 refine g_putfield X (host := "") (Or.inl (tb hw 26 rfl)) Via.refl qh qb (Or.inr ⟨(tb hw 27 rfl), rfl, hnm⟩) (tb hw 9 rfl) (ty := (.array .int)) (by decide) rfl rfl d3_12 (pc' := 15) rfl ?_
 intro T h X W
 replace qb := qb.wr W
 replace qh := qh.same W
 replace qc := qc.other W (Or.inr (slot_ne (Or.inr (tb hw 29 rfl)) (Or.inr (tb hw 27 rfl)) (by decide) (t := (.array .int)) (t' := (.array .int)) (by decide) (by decide)))
 replace qd := qd.other W (Or.inr (slot_ne (Or.inr (tb hw 31 rfl)) (Or.inr (tb hw 27 rfl)) (by decide) (t := (.array .int)) (t' := (.array .int)) (by decide) (by decide)))
 replace qe := qe.other W (Or.inr (slot_ne (Or.inr (tb hw 34 rfl)) (Or.inr (tb hw 27 rfl)) (by decide) (t := (.array .long)) (t' := (.array .int)) (by decide) (by decide)))
 replace qi := qi.other W (Or.inr (slot_ne (Or.inr (tb hw 45 rfl)) (Or.inr (tb hw 27 rfl)) (by decide) (t := .int) (t' := (.array .int)) (by decide) (by decide)))
 replace qt := qt.wr W
 replace qa := qa.other W jw
 replace qj := qj.other W jx
 replace qf := qf.wr W
 replace qk := qk.other W (Ne.symm jk)
 replace Z0 := Nat.le_trans Z0 (Nat.le_of_eq W.size.symm)
 replace N := Fr.snoc X.1 N jj
 replace Kp := Kp.wr W (Or.inl (List.mem_of_getElem? (i := 0) rfl))
 refine g_aloadN X d3_15 (pc' := 16) rfl rfl rfl ?_
 refine g_aloadN X d3_16 (pc' := 17) rfl rfl rfl ?_
 refine g_arraylength X qa d3_17 (pc' := 18) rfl (z := (4 : Int32)) rfl ?_
 refine g_newarray X 4 (tb hw 0 rfl) d3_18 (pc' := 20) rfl (by decide) (by decide) 4 (by decide) (by decide) (by decide) (by decide) (vs := [(.int (0 : Int32)), (.int (0 : Int32)), (.int (0 : Int32)), (.int (0 : Int32))]) rfl (ad := "[I") (by decide) ?_
 intro T h qu ji X Ex qm qg
 have qq : a0 ≠ qu := Nat.ne_of_lt (by rw [ji]; exact qb.lt)
 have jy : a1 ≠ qu := Nat.ne_of_lt (by rw [ji]; exact qt.lt)
 have j6 : a2 ≠ qu := Nat.ne_of_lt (by rw [ji]; exact qj.lt)
 have jl : jd ≠ qu := Nat.ne_of_lt (by rw [ji]; exact qf.lt)
 have jm : n0 ≤ qu := by rw [ji]; exact Z0
 have jn : h0.size ≤ qu := by rw [ji]; exact Kp.1
 replace qb := qb.ext Ex
 replace qh := qh.ext Ex
 replace qc := qc.ext Ex
 replace qd := qd.ext Ex
 replace qe := qe.ext Ex
 replace qi := qi.ext Ex
 replace qt := qt.ext Ex
 replace qa := qa.ext Ex
 replace qj := qj.ext Ex
 replace qf := qf.ext Ex
 replace qk := qk.ext Ex
 replace Z0 := Nat.le_trans Z0 Ex.1
 replace Kp := Kp.ext Ex
 refine g_putfield X (host := "") (Or.inl (tb hw 28 rfl)) Via.refl qc qb (Or.inr ⟨(tb hw 29 rfl), rfl, hnm⟩) (tb hw 9 rfl) (ty := (.array .int)) (by decide) rfl rfl d3_20 (pc' := 23) rfl ?_
 intro T h X W
 replace qb := qb.wr W
 replace qh := qh.other W (Or.inr (slot_ne (Or.inr (tb hw 27 rfl)) (Or.inr (tb hw 29 rfl)) (by decide) (t := (.array .int)) (t' := (.array .int)) (by decide) (by decide)))
 replace qc := qc.same W
 replace qd := qd.other W (Or.inr (slot_ne (Or.inr (tb hw 31 rfl)) (Or.inr (tb hw 29 rfl)) (by decide) (t := (.array .int)) (t' := (.array .int)) (by decide) (by decide)))
 replace qe := qe.other W (Or.inr (slot_ne (Or.inr (tb hw 34 rfl)) (Or.inr (tb hw 29 rfl)) (by decide) (t := (.array .long)) (t' := (.array .int)) (by decide) (by decide)))
 replace qi := qi.other W (Or.inr (slot_ne (Or.inr (tb hw 45 rfl)) (Or.inr (tb hw 29 rfl)) (by decide) (t := .int) (t' := (.array .int)) (by decide) (by decide)))
 replace qt := qt.wr W
 replace qa := qa.other W jw
 replace qj := qj.other W jx
 replace qf := qf.wr W
 replace qk := qk.other W (Ne.symm jk)
 replace qm := qm.wr W
 replace qg := qg.other W (Ne.symm qq)
 replace Z0 := Nat.le_trans Z0 (Nat.le_of_eq W.size.symm)
 replace N := Fr.snoc X.1 N jj
 replace Kp := Kp.wr W (Or.inl (List.mem_of_getElem? (i := 0) rfl))
 refine g_aloadN X d3_23 (pc' := 24) rfl rfl rfl ?_
 refine g_aloadN X d3_24 (pc' := 25) rfl rfl rfl ?_
 refine g_arraylength X qa d3_25 (pc' := 26) rfl (z := (4 : Int32)) rfl ?_
 refine g_newarray X 4 (tb hw 0 rfl) d3_26 (pc' := 28) rfl (by decide) (by decide) 4 (by decide) (by decide) (by decide) (by decide) (vs := [(.int (0 : Int32)), (.int (0 : Int32)), (.int (0 : Int32)), (.int (0 : Int32))]) rfl (ad := "[I") (by decide) ?_
 intro T h qv je X Ex qo ql
 have qr : a0 ≠ qv := Nat.ne_of_lt (by rw [je]; exact qb.lt)
 have jz : a1 ≠ qv := Nat.ne_of_lt (by rw [je]; exact qt.lt)
 have j7 : a2 ≠ qv := Nat.ne_of_lt (by rw [je]; exact qj.lt)
 have jo : jd ≠ qv := Nat.ne_of_lt (by rw [je]; exact qf.lt)
 have qz : qu ≠ qv := Nat.ne_of_lt (by rw [je]; exact qm.lt)
 have jp : n0 ≤ qv := by rw [je]; exact Z0
 have jq : h0.size ≤ qv := by rw [je]; exact Kp.1
 replace qb := qb.ext Ex
 replace qh := qh.ext Ex
 replace qc := qc.ext Ex
 replace qd := qd.ext Ex
 replace qe := qe.ext Ex
 replace qi := qi.ext Ex
 replace qt := qt.ext Ex
 replace qa := qa.ext Ex
 replace qj := qj.ext Ex
 replace qf := qf.ext Ex
 replace qk := qk.ext Ex
 replace qm := qm.ext Ex
 replace qg := qg.ext Ex
 replace Z0 := Nat.le_trans Z0 Ex.1
 replace Kp := Kp.ext Ex
 refine g_putfield X (host := "") (Or.inl (tb hw 30 rfl)) Via.refl qd qb (Or.inr ⟨(tb hw 31 rfl), rfl, hnm⟩) (tb hw 9 rfl) (ty := (.array .int)) (by decide) rfl rfl d3_28 (pc' := 31) rfl ?_
 intro T h X W
 replace qb := qb.wr W
 replace qh := qh.other W (Or.inr (slot_ne (Or.inr (tb hw 27 rfl)) (Or.inr (tb hw 31 rfl)) (by decide) (t := (.array .int)) (t' := (.array .int)) (by decide) (by decide)))
 replace qc := qc.other W (Or.inr (slot_ne (Or.inr (tb hw 29 rfl)) (Or.inr (tb hw 31 rfl)) (by decide) (t := (.array .int)) (t' := (.array .int)) (by decide) (by decide)))
 replace qd := qd.same W
 replace qe := qe.other W (Or.inr (slot_ne (Or.inr (tb hw 34 rfl)) (Or.inr (tb hw 31 rfl)) (by decide) (t := (.array .long)) (t' := (.array .int)) (by decide) (by decide)))
 replace qi := qi.other W (Or.inr (slot_ne (Or.inr (tb hw 45 rfl)) (Or.inr (tb hw 31 rfl)) (by decide) (t := .int) (t' := (.array .int)) (by decide) (by decide)))
 replace qt := qt.wr W
 replace qa := qa.other W jw
 replace qj := qj.other W jx
 replace qf := qf.wr W
 replace qk := qk.other W (Ne.symm jk)
 replace qm := qm.wr W
 replace qg := qg.other W (Ne.symm qq)
 replace qo := qo.wr W
 replace ql := ql.other W (Ne.symm qr)
 replace Z0 := Nat.le_trans Z0 (Nat.le_of_eq W.size.symm)
 replace N := Fr.snoc X.1 N jj
 replace Kp := Kp.wr W (Or.inl (List.mem_of_getElem? (i := 0) rfl))
 refine g_aloadN X d3_31 (pc' := 32) rfl rfl rfl ?_
 refine g_aloadN X d3_32 (pc' := 33) rfl rfl rfl ?_
 refine g_arraylength X qa d3_33 (pc' := 34) rfl (z := (4 : Int32)) rfl ?_
 refine g_newarray X 4 (tb hw 32 rfl) d3_34 (pc' := 36) rfl (by decide) (by decide) 4 (by decide) (by decide) (by decide) (by decide) (vs := [(.long (0 : Int64)), (.long (0 : Int64)), (.long (0 : Int64)), (.long (0 : Int64))]) rfl (ad := "[J") (by decide) ?_
 intro T h qw q7 X Ex qp qn
 have qs : a0 ≠ qw := Nat.ne_of_lt (by rw [q7]; exact qb.lt)
 have j0 : a1 ≠ qw := Nat.ne_of_lt (by rw [q7]; exact qt.lt)
 have j8 : a2 ≠ qw := Nat.ne_of_lt (by rw [q7]; exact qj.lt)
 have jr : jd ≠ qw := Nat.ne_of_lt (by rw [q7]; exact qf.lt)
 have q4 : qu ≠ qw := Nat.ne_of_lt (by rw [q7]; exact qm.lt)
 have q5 : qv ≠ qw := Nat.ne_of_lt (by rw [q7]; exact qo.lt)
 have js : n0 ≤ qw := by rw [q7]; exact Z0
 have jt : h0.size ≤ qw := by rw [q7]; exact Kp.1
 replace qb := qb.ext Ex
 replace qh := qh.ext Ex
 replace qc := qc.ext Ex
 replace qd := qd.ext Ex
 replace qe := qe.ext Ex
 replace qi := qi.ext Ex
 replace qa := qa.ext Ex
 replace qj := qj.ext Ex
 replace qf := qf.ext Ex
 replace qk := qk.ext Ex
 replace qm := qm.ext Ex
 replace qg := qg.ext Ex
 replace qo := qo.ext Ex
 replace ql := ql.ext Ex
 replace Z0 := Nat.le_trans Z0 Ex.1
 replace Kp := Kp.ext Ex
 refine g_putfield X (host := "") (Or.inl (tb hw 33 rfl)) Via.refl qe qb (Or.inr ⟨(tb hw 34 rfl), rfl, hnm⟩) (tb hw 9 rfl) (ty := (.array .long)) (by decide) rfl rfl d3_36 (pc' := 39) rfl ?_
 intro T h X W
 replace qb := qb.wr W
 replace qh := qh.other W (Or.inr (slot_ne (Or.inr (tb hw 27 rfl)) (Or.inr (tb hw 34 rfl)) (by decide) (t := (.array .int)) (t' := (.array .long)) (by decide) (by decide)))
 replace qc := qc.other W (Or.inr (slot_ne (Or.inr (tb hw 29 rfl)) (Or.inr (tb hw 34 rfl)) (by decide) (t := (.array .int)) (t' := (.array .long)) (by decide) (by decide)))
 replace qd := qd.other W (Or.inr (slot_ne (Or.inr (tb hw 31 rfl)) (Or.inr (tb hw 34 rfl)) (by decide) (t := (.array .int)) (t' := (.array .long)) (by decide) (by decide)))
 replace qe := qe.same W
 replace qi := qi.other W (Or.inr (slot_ne (Or.inr (tb hw 45 rfl)) (Or.inr (tb hw 34 rfl)) (by decide) (t := .int) (t' := (.array .long)) (by decide) (by decide)))
 replace qa := qa.other W jw
 replace qj := qj.other W jx
 replace qf := qf.wr W
 replace qk := qk.other W (Ne.symm jk)
 replace qm := qm.wr W
 replace qg := qg.other W (Ne.symm qq)
 replace qo := qo.wr W
 replace ql := ql.other W (Ne.symm qr)
 replace qp := qp.wr W
 replace qn := qn.other W (Ne.symm qs)
 replace Z0 := Nat.le_trans Z0 (Nat.le_of_eq W.size.symm)
 replace N := Fr.snoc X.1 N jj
 replace Kp := Kp.wr W (Or.inl (List.mem_of_getElem? (i := 0) rfl))
 refine g_iconst X (1 : Int32) d3_39 (pc' := 40) rfl rfl ?_
 refine g_istoreN X d3_40 (pc' := 41) (Ls' := #[.val (.ref a0), .val (.ref a1), .val (.ref a2), .val (.int (1 : Int32)), .unset, .unset, .unset, .unset, .unset]) rfl rfl ?_
 refine g_bipush X (64 : Int32) d3_41 (pc' := 43) rfl rfl ?_
 refine g_istore X d3_43 (pc' := 45) (Ls' := #[.val (.ref a0), .val (.ref a1), .val (.ref a2), .val (.int (1 : Int32)), .val (.int (64 : Int32)), .unset, .unset, .unset, .unset]) rfl rfl ?_
 refine g_iconst X (0 : Int32) d3_45 (pc' := 46) rfl rfl ?_
 refine g_istore X d3_46 (pc' := 48) (Ls' := #[.val (.ref a0), .val (.ref a1), .val (.ref a2), .val (.int (1 : Int32)), .val (.int (64 : Int32)), .val (.int (0 : Int32)), .unset, .unset, .unset]) rfl rfl ?_
 refine g_iload X d3_48 (pc' := 50) rfl rfl ?_
 refine g_aloadN X d3_50 (pc' := 51) rfl rfl rfl ?_
 refine g_arraylength X qa d3_51 (pc' := 52) rfl (z := (4 : Int32)) rfl ?_
 refine g_icN X d3_52 (tlt (show (0 : Int32) < (4 : Int32) from (by decide))).2.1 (pc' := 55) rfl ?_
 refine g_aloadN X d3_55 (pc' := 56) rfl rfl rfl ?_
 refine g_iload X d3_56 (pc' := 58) rfl rfl ?_
 refine g_iaload X qj 0 d3_58 (pc' := 59) rfl (by decide) (by decide) rfl ?_
 refine g_i2l X d3_59 (pc' := 60) rfl ?_
 refine g_aloadN X d3_60 (pc' := 61) rfl rfl rfl ?_
 refine g_iload X d3_61 (pc' := 63) rfl rfl ?_
 refine g_iaload X qa 0 d3_63 (pc' := 64) rfl (by decide) (by decide) rfl ?_
 refine g_i2l X d3_64 (pc' := 65) rfl ?_
 refine g_lsub X d3_65 (pc' := 66) rfl ?_
 generalize ju : ((y0.toInt64) - (l0.toInt64)) = q8
 refine g_lstore X d3_66 (pc' := 68) (Ls' := #[.val (.ref a0), .val (.ref a1), .val (.ref a2), .val (.int (1 : Int32)), .val (.int (64 : Int32)), .val (.int (0 : Int32)), .val (.long q8), .second, .unset]) rfl rfl ?_
 refine g_bipush X (64 : Int32) d3_68 (pc' := 70) rfl rfl ?_
 refine g_lload X d3_70 (pc' := 72) rfl rfl ?_
 refine g_static X (W := 1) [(.long q8)] [(.int (64 : Int32))] (tb hw 35 rfl) (tb hw 36 rfl) (tb hw 37 rfl) (tb hw 38 rfl) (rNL l Z aa hw [] q8 _) d3_72 (pc' := 75) rfl (by decide) (by decide) (by decide) rfl rfl rfl (lenOf pd_3 rfl) (Nat.le_refl _) (by decide) (by decide) ?_
 intro v T L X q
 obtain ⟨rfl, X⟩ := pureX X q
 show Go p e below _ (T.setTop (mkF m 75 _ [(.int (fNL q8)), (.int (64 : Int32))]))
 refine g_isub X d3_75 (pc' := 76) rfl ?_
 generalize jv : ((64 : Int32) - (fNL q8)) = jf
 refine g_istore X d3_76 (pc' := 78) (Ls' := #[.val (.ref a0), .val (.ref a1), .val (.ref a2), .val (.int (1 : Int32)), .val (.int (64 : Int32)), .val (.int (0 : Int32)), .val (.long q8), .second, .val (.int jf)]) rfl rfl ?_
 refine g_iload X d3_78 (pc' := 80) rfl rfl ?_
 refine g_iload X d3_80 (pc' := 82) rfl rfl ?_
 refine g_icY X d3_82 (flt (show ¬ ((64 : Int32) < jf) from (by rw [← jv, ← ju]; exact q0))).2.2.2 (pc' := 92) (by decide) (by decide) ?_
 refine g_iload X d3_92 (pc' := 94) rfl rfl ?_
 refine g_iload X d3_94 (pc' := 96) rfl rfl ?_
 refine g_isub X d3_96 (pc' := 97) rfl ?_
 generalize j1 : ((64 : Int32) - jf) = qx
 refine g_istore X d3_97 (pc' := 99) (Ls' := #[.val (.ref a0), .val (.ref a1), .val (.ref a2), .val (.int (1 : Int32)), .val (.int qx), .val (.int (0 : Int32)), .val (.long q8), .second, .val (.int jf)]) rfl rfl ?_
 refine g_aloadN X d3_99 (pc' := 100) rfl rfl rfl ?_
 refine g_getfield X (host := "") (Or.inl (tb hw 28 rfl)) Via.refl qc d3_100 (pc' := 103) rfl ?_
 intro T X
 refine g_iload X d3_103 (pc' := 105) rfl rfl ?_
 refine g_iloadN X d3_105 (pc' := 106) rfl rfl ?_
 refine g_iconst X (1 : Int32) d3_106 (pc' := 107) rfl rfl ?_
 refine g_isub X d3_107 (pc' := 108) rfl ?_
 refine Go.lit32 (z := (0 : Int32)) (by decide) ?_
 refine g_iastore X qg 0 d3_108 (pc' := 109) rfl (by decide) (by decide) (Nat.le_of_ble_eq_true rfl) ?_
 intro T h X W qg
 replace qg : Av Z h qu .int [(.int (0 : Int32)), (.int (0 : Int32)), (.int (0 : Int32)), (.int (0 : Int32))] := qg
 replace qb := qb.wr W
 replace qh := qh.other W (Or.inl qq)
 replace qc := qc.other W (Or.inl qq)
 replace qd := qd.other W (Or.inl qq)
 replace qe := qe.other W (Or.inl qq)
 replace qi := qi.other W (Or.inl qq)
 replace qa := qa.other W jy
 replace qj := qj.other W j6
 replace qf := qf.wr W
 replace qk := qk.other W jl
 replace qm := qm.wr W
 replace qo := qo.wr W
 replace ql := ql.other W (Ne.symm qz)
 replace qp := qp.wr W
 replace qn := qn.other W (Ne.symm q4)
 replace Z0 := Nat.le_trans Z0 (Nat.le_of_eq W.size.symm)
 replace N := Fr.snoc X.1 N jm
 replace Kp := Kp.wr W (Or.inr jn)
 refine g_aloadN X d3_109 (pc' := 110) rfl rfl rfl ?_
 refine g_getfield X (host := "") (Or.inl (tb hw 30 rfl)) Via.refl qd d3_110 (pc' := 113) rfl ?_
 intro T X
 refine g_iload X d3_113 (pc' := 115) rfl rfl ?_
 refine g_iload X d3_115 (pc' := 117) rfl rfl ?_
 refine g_iastore X ql 0 d3_117 (pc' := 118) rfl (by decide) (by decide) (Nat.le_of_ble_eq_true rfl) ?_
 intro T h X W ql
 replace ql : Av Z h qv .int [(.int qx), (.int (0 : Int32)), (.int (0 : Int32)), (.int (0 : Int32))] := ql
 replace qb := qb.wr W
 replace qh := qh.other W (Or.inl qr)
 replace qc := qc.other W (Or.inl qr)
 replace qd := qd.other W (Or.inl qr)
 replace qe := qe.other W (Or.inl qr)
 replace qi := qi.other W (Or.inl qr)
 replace qa := qa.other W jz
 replace qj := qj.other W j7
 replace qf := qf.wr W
 replace qk := qk.other W jo
 replace qm := qm.wr W
 replace qg := qg.other W qz
 replace qo := qo.wr W
 replace qp := qp.wr W
 replace qn := qn.other W (Ne.symm q5)
 replace Z0 := Nat.le_trans Z0 (Nat.le_of_eq W.size.symm)
 replace N := Fr.snoc X.1 N jp
 replace Kp := Kp.wr W (Or.inr jq)
 refine g_aloadN X d3_118 (pc' := 119) rfl rfl rfl ?_
 refine g_getfield X (host := "") (Or.inl (tb hw 33 rfl)) Via.refl qe d3_119 (pc' := 122) rfl ?_
 intro T X
 refine g_iload X d3_122 (pc' := 124) rfl rfl ?_
 refine g_lconst X (1 : Int64) d3_124 (pc' := 125) rfl rfl ?_
 refine g_iload X d3_125 (pc' := 127) rfl rfl ?_
 refine g_lshl X d3_127 (pc' := 128) rfl ?_
 refine g_lconst X (1 : Int64) d3_128 (pc' := 129) rfl rfl ?_
 refine g_lsub X d3_129 (pc' := 130) rfl ?_
 generalize wk : (((1 : Int64) <<< (jf &&& 0x3f).toInt64) - (1 : Int64)) = j2
 refine g_lastore X qn 0 d3_130 (pc' := 131) rfl (by decide) (by decide) (Nat.le_of_ble_eq_true rfl) ?_
 intro T h X W qn
 replace qn : Av Z h qw .long [(.long j2), (.long (0 : Int64)), (.long (0 : Int64)), (.long (0 : Int64))] := qn
 replace qb := qb.wr W
 replace qh := qh.other W (Or.inl qs)
 replace qc := qc.other W (Or.inl qs)
 replace qd := qd.other W (Or.inl qs)
 replace qe := qe.other W (Or.inl qs)
 replace qi := qi.other W (Or.inl qs)
 replace qa := qa.other W j0
 replace qj := qj.other W j8
 replace qf := qf.wr W
 replace qk := qk.other W jr
 replace qm := qm.wr W
 replace qg := qg.other W q4
 replace qo := qo.wr W
 replace ql := ql.other W q5
 replace qp := qp.wr W
 replace Z0 := Nat.le_trans Z0 (Nat.le_of_eq W.size.symm)
 replace N := Fr.snoc X.1 N js
 replace Kp := Kp.wr W (Or.inr jt)
 refine g_iinc X d3_131 (pc' := 134) (q := (1 : Int32)) (Ls' := #[.val (.ref a0), .val (.ref a1), .val (.ref a2), .val (.int (1 : Int32)), .val (.int qx), .val (.int (1 : Int32)), .val (.long q8), .second, .val (.int jf)]) rfl rfl rfl rfl ?_
 refine g_goto X d3_134 (pc' := 48) (by decide) (by decide) ?_
 refine g_iload X d3_48 (pc' := 50) rfl rfl ?_
 refine g_aloadN X d3_50 (pc' := 51) rfl rfl rfl ?_
 refine g_arraylength X qa d3_51 (pc' := 52) rfl (z := (4 : Int32)) rfl ?_
 refine g_icN X d3_52 (tlt (show (1 : Int32) < (4 : Int32) from (by decide))).2.1 (pc' := 55) rfl ?_
 refine g_aloadN X d3_55 (pc' := 56) rfl rfl rfl ?_
 refine g_iload X d3_56 (pc' := 58) rfl rfl ?_
 refine g_iaload X qj 1 d3_58 (pc' := 59) rfl (by decide) (by decide) rfl ?_
 refine g_i2l X d3_59 (pc' := 60) rfl ?_
 refine g_aloadN X d3_60 (pc' := 61) rfl rfl rfl ?_
 refine g_iload X d3_61 (pc' := 63) rfl rfl ?_
 refine g_iaload X qa 1 d3_63 (pc' := 64) rfl (by decide) (by decide) rfl ?_
 refine g_i2l X d3_64 (pc' := 65) rfl ?_
 refine g_lsub X d3_65 (pc' := 66) rfl ?_
 generalize j3 : ((y1.toInt64) - (l1.toInt64)) = q9
 refine g_lstore X d3_66 (pc' := 68) (Ls' := #[.val (.ref a0), .val (.ref a1), .val (.ref a2), .val (.int (1 : Int32)), .val (.int qx), .val (.int (1 : Int32)), .val (.long q9), .second, .val (.int jf)]) rfl rfl ?_
 refine g_bipush X (64 : Int32) d3_68 (pc' := 70) rfl rfl ?_
 refine g_lload X d3_70 (pc' := 72) rfl rfl ?_
 refine g_static X (W := 1) [(.long q9)] [(.int (64 : Int32))] (tb hw 35 rfl) (tb hw 36 rfl) (tb hw 37 rfl) (tb hw 38 rfl) (rNL l Z aa hw [] q9 _) d3_72 (pc' := 75) rfl (by decide) (by decide) (by decide) rfl rfl rfl (lenOf pd_3 rfl) (Nat.le_refl _) (by decide) (by decide) ?_
 intro v T L X q
 obtain ⟨rfl, X⟩ := pureX X q
 show Go p e below _ (T.setTop (mkF m 75 _ [(.int (fNL q9)), (.int (64 : Int32))]))
 refine g_isub X d3_75 (pc' := 76) rfl ?_
 generalize j4 : ((64 : Int32) - (fNL q9)) = jg
 refine g_istore X d3_76 (pc' := 78) (Ls' := #[.val (.ref a0), .val (.ref a1), .val (.ref a2), .val (.int (1 : Int32)), .val (.int qx), .val (.int (1 : Int32)), .val (.long q9), .second, .val (.int jg)]) rfl rfl ?_
 refine g_iload X d3_78 (pc' := 80) rfl rfl ?_
 refine g_iload X d3_80 (pc' := 82) rfl rfl ?_
 refine g_icY X d3_82 (flt (show ¬ (qx < jg) from (by rw [← j4, ← j3, ← j1, ← jv, ← ju]; exact q1))).2.2.2 (pc' := 92) (by decide) (by decide) ?_
 refine g_iload X d3_92 (pc' := 94) rfl rfl ?_
 refine g_iload X d3_94 (pc' := 96) rfl rfl ?_
 refine g_isub X d3_96 (pc' := 97) rfl ?_
 generalize j9 : (qx - jg) = q6
 refine g_istore X d3_97 (pc' := 99) (Ls' := #[.val (.ref a0), .val (.ref a1), .val (.ref a2), .val (.int (1 : Int32)), .val (.int q6), .val (.int (1 : Int32)), .val (.long q9), .second, .val (.int jg)]) rfl rfl ?_
 refine g_aloadN X d3_99 (pc' := 100) rfl rfl rfl ?_
 refine g_getfield X (host := "") (Or.inl (tb hw 28 rfl)) Via.refl qc d3_100 (pc' := 103) rfl ?_
 intro T X
 refine g_iload X d3_103 (pc' := 105) rfl rfl ?_
 refine g_iloadN X d3_105 (pc' := 106) rfl rfl ?_
 refine g_iconst X (1 : Int32) d3_106 (pc' := 107) rfl rfl ?_
 refine g_isub X d3_107 (pc' := 108) rfl ?_
 refine Go.lit32 (z := (0 : Int32)) (by decide) ?_
 refine g_iastore X qg 1 d3_108 (pc' := 109) rfl (by decide) (by decide) (Nat.le_of_ble_eq_true rfl) ?_
 intro T h X W qg
 replace qg : Av Z h qu .int [(.int (0 : Int32)), (.int (0 : Int32)), (.int (0 : Int32)), (.int (0 : Int32))] := qg
 replace qb := qb.wr W
 replace qh := qh.other W (Or.inl qq)
 replace qc := qc.other W (Or.inl qq)
 replace qd := qd.other W (Or.inl qq)
 replace qe := qe.other W (Or.inl qq)
 replace qi := qi.other W (Or.inl qq)
 replace qa := qa.other W jy
 replace qj := qj.other W j6
 replace qf := qf.wr W
 replace qk := qk.other W jl
 replace qm := qm.wr W
 replace qo := qo.wr W
 replace ql := ql.other W (Ne.symm qz)
 replace qp := qp.wr W
 replace qn := qn.other W (Ne.symm q4)
 replace Z0 := Nat.le_trans Z0 (Nat.le_of_eq W.size.symm)
 replace N := Fr.snoc X.1 N jm
 replace Kp := Kp.wr W (Or.inr jn)
 refine g_aloadN X d3_109 (pc' := 110) rfl rfl rfl ?_
 refine g_getfield X (host := "") (Or.inl (tb hw 30 rfl)) Via.refl qd d3_110 (pc' := 113) rfl ?_
 intro T X
 refine g_iload X d3_113 (pc' := 115) rfl rfl ?_
 refine g_iload X d3_115 (pc' := 117) rfl rfl ?_
 refine g_iastore X ql 1 d3_117 (pc' := 118) rfl (by decide) (by decide) (Nat.le_of_ble_eq_true rfl) ?_
 intro T h X W ql
 replace ql : Av Z h qv .int [(.int qx), (.int q6), (.int (0 : Int32)), (.int (0 : Int32))] := ql
 replace qb := qb.wr W
 replace qh := qh.other W (Or.inl qr)
 replace qc := qc.other W (Or.inl qr)
 replace qd := qd.other W (Or.inl qr)
 replace qe := qe.other W (Or.inl qr)
 replace qi := qi.other W (Or.inl qr)
 replace qa := qa.other W jz
 replace qj := qj.other W j7
 replace qf := qf.wr W
 replace qk := qk.other W jo
 replace qm := qm.wr W
 replace qg := qg.other W qz
 replace qo := qo.wr W
 replace qp := qp.wr W
 replace qn := qn.other W (Ne.symm q5)
 replace Z0 := Nat.le_trans Z0 (Nat.le_of_eq W.size.symm)
 replace N := Fr.snoc X.1 N jp
 replace Kp := Kp.wr W (Or.inr jq)
 refine g_aloadN X d3_118 (pc' := 119) rfl rfl rfl ?_
 refine g_getfield X (host := "") (Or.inl (tb hw 33 rfl)) Via.refl qe d3_119 (pc' := 122) rfl ?_
 intro T X
 refine g_iload X d3_122 (pc' := 124) rfl rfl ?_
 refine g_lconst X (1 : Int64) d3_124 (pc' := 125) rfl rfl ?_
 refine g_iload X d3_125 (pc' := 127) rfl rfl ?_
 refine g_lshl X d3_127 (pc' := 128) rfl ?_
 refine g_lconst X (1 : Int64) d3_128 (pc' := 129) rfl rfl ?_
 refine g_lsub X d3_129 (pc' := 130) rfl ?_
 generalize wl : (((1 : Int64) <<< (jg &&& 0x3f).toInt64) - (1 : Int64)) = wa
 refine g_lastore X qn 1 d3_130 (pc' := 131) rfl (by decide) (by decide) (Nat.le_of_ble_eq_true rfl) ?_
 intro T h X W qn
 replace qn : Av Z h qw .long [(.long j2), (.long wa), (.long (0 : Int64)), (.long (0 : Int64))] := qn
 replace qb := qb.wr W
 replace qh := qh.other W (Or.inl qs)
 replace qc := qc.other W (Or.inl qs)
 replace qd := qd.other W (Or.inl qs)
 replace qe := qe.other W (Or.inl qs)
 replace qi := qi.other W (Or.inl qs)
 replace qa := qa.other W j0
 replace qj := qj.other W j8
 replace qf := qf.wr W
 replace qk := qk.other W jr
 replace qm := qm.wr W
 replace qg := qg.other W q4
 replace qo := qo.wr W
 replace ql := ql.other W q5
 replace qp := qp.wr W
 replace Z0 := Nat.le_trans Z0 (Nat.le_of_eq W.size.symm)
 replace N := Fr.snoc X.1 N js
 replace Kp := Kp.wr W (Or.inr jt)
 refine g_iinc X d3_131 (pc' := 134) (q := (1 : Int32)) (Ls' := #[.val (.ref a0), .val (.ref a1), .val (.ref a2), .val (.int (1 : Int32)), .val (.int q6), .val (.int (2 : Int32)), .val (.long q9), .second, .val (.int jg)]) rfl rfl rfl rfl ?_
 refine g_goto X d3_134 (pc' := 48) (by decide) (by decide) ?_
 refine g_iload X d3_48 (pc' := 50) rfl rfl ?_
 refine g_aloadN X d3_50 (pc' := 51) rfl rfl rfl ?_
 refine g_arraylength X qa d3_51 (pc' := 52) rfl (z := (4 : Int32)) rfl ?_
 refine g_icN X d3_52 (tlt (show (2 : Int32) < (4 : Int32) from (by decide))).2.1 (pc' := 55) rfl ?_
 refine g_aloadN X d3_55 (pc' := 56) rfl rfl rfl ?_
 refine g_iload X d3_56 (pc' := 58) rfl rfl ?_
 refine g_iaload X qj 2 d3_58 (pc' := 59) rfl (by decide) (by decide) rfl ?_
 refine g_i2l X d3_59 (pc' := 60) rfl ?_
 refine g_aloadN X d3_60 (pc' := 61) rfl rfl rfl ?_
 refine g_iload X d3_61 (pc' := 63) rfl rfl ?_
 refine g_iaload X qa 2 d3_63 (pc' := 64) rfl (by decide) (by decide) rfl ?_
 refine g_i2l X d3_64 (pc' := 65) rfl ?_
 refine g_lsub X d3_65 (pc' := 66) rfl ?_
 generalize wb : ((y2.toInt64) - (l2.toInt64)) = ja
 refine g_lstore X d3_66 (pc' := 68) (Ls' := #[.val (.ref a0), .val (.ref a1), .val (.ref a2), .val (.int (1 : Int32)), .val (.int q6), .val (.int (2 : Int32)), .val (.long ja), .second, .val (.int jg)]) rfl rfl ?_
 refine g_bipush X (64 : Int32) d3_68 (pc' := 70) rfl rfl ?_
 refine g_lload X d3_70 (pc' := 72) rfl rfl ?_
 refine g_static X (W := 1) [(.long ja)] [(.int (64 : Int32))] (tb hw 35 rfl) (tb hw 36 rfl) (tb hw 37 rfl) (tb hw 38 rfl) (rNL l Z aa hw [] ja _) d3_72 (pc' := 75) rfl (by decide) (by decide) (by decide) rfl rfl rfl (lenOf pd_3 rfl) (Nat.le_refl _) (by decide) (by decide) ?_
 intro v T L X q
 obtain ⟨rfl, X⟩ := pureX X q
 show Go p e below _ (T.setTop (mkF m 75 _ [(.int (fNL ja)), (.int (64 : Int32))]))
 refine g_isub X d3_75 (pc' := 76) rfl ?_
 generalize wc : ((64 : Int32) - (fNL ja)) = jh
 refine g_istore X d3_76 (pc' := 78) (Ls' := #[.val (.ref a0), .val (.ref a1), .val (.ref a2), .val (.int (1 : Int32)), .val (.int q6), .val (.int (2 : Int32)), .val (.long ja), .second, .val (.int jh)]) rfl rfl ?_
 refine g_iload X d3_78 (pc' := 80) rfl rfl ?_
 refine g_iload X d3_80 (pc' := 82) rfl rfl ?_
 refine g_icY X d3_82 (flt (show ¬ (q6 < jh) from (by rw [← wc, ← wb, ← j9, ← j4, ← j3, ← j1, ← jv, ← ju]; exact q2))).2.2.2 (pc' := 92) (by decide) (by decide) ?_
 refine g_iload X d3_92 (pc' := 94) rfl rfl ?_
 refine g_iload X d3_94 (pc' := 96) rfl rfl ?_
 refine g_isub X d3_96 (pc' := 97) rfl ?_
 generalize we : (q6 - jh) = jb
 refine g_istore X d3_97 (pc' := 99) (Ls' := #[.val (.ref a0), .val (.ref a1), .val (.ref a2), .val (.int (1 : Int32)), .val (.int jb), .val (.int (2 : Int32)), .val (.long ja), .second, .val (.int jh)]) rfl rfl ?_
 refine g_aloadN X d3_99 (pc' := 100) rfl rfl rfl ?_
 refine g_getfield X (host := "") (Or.inl (tb hw 28 rfl)) Via.refl qc d3_100 (pc' := 103) rfl ?_
 intro T X
 refine g_iload X d3_103 (pc' := 105) rfl rfl ?_
 refine g_iloadN X d3_105 (pc' := 106) rfl rfl ?_
 refine g_iconst X (1 : Int32) d3_106 (pc' := 107) rfl rfl ?_
 refine g_isub X d3_107 (pc' := 108) rfl ?_
 refine Go.lit32 (z := (0 : Int32)) (by decide) ?_
 refine g_iastore X qg 2 d3_108 (pc' := 109) rfl (by decide) (by decide) (Nat.le_of_ble_eq_true rfl) ?_
 intro T h X W qg
 replace qg : Av Z h qu .int [(.int (0 : Int32)), (.int (0 : Int32)), (.int (0 : Int32)), (.int (0 : Int32))] := qg
 replace qb := qb.wr W
 replace qh := qh.other W (Or.inl qq)
 replace qc := qc.other W (Or.inl qq)
 replace qd := qd.other W (Or.inl qq)
 replace qe := qe.other W (Or.inl qq)
 replace qi := qi.other W (Or.inl qq)
 replace qa := qa.other W jy
 replace qj := qj.other W j6
 replace qf := qf.wr W
 replace qk := qk.other W jl
 replace qm := qm.wr W
 replace qo := qo.wr W
 replace ql := ql.other W (Ne.symm qz)
 replace qp := qp.wr W
 replace qn := qn.other W (Ne.symm q4)
 replace Z0 := Nat.le_trans Z0 (Nat.le_of_eq W.size.symm)
 replace N := Fr.snoc X.1 N jm
 replace Kp := Kp.wr W (Or.inr jn)
 refine g_aloadN X d3_109 (pc' := 110) rfl rfl rfl ?_
 refine g_getfield X (host := "") (Or.inl (tb hw 30 rfl)) Via.refl qd d3_110 (pc' := 113) rfl ?_
 intro T X
 refine g_iload X d3_113 (pc' := 115) rfl rfl ?_
 refine g_iload X d3_115 (pc' := 117) rfl rfl ?_
 refine g_iastore X ql 2 d3_117 (pc' := 118) rfl (by decide) (by decide) (Nat.le_of_ble_eq_true rfl) ?_
 intro T h X W ql
 replace ql : Av Z h qv .int [(.int qx), (.int q6), (.int jb), (.int (0 : Int32))] := ql
 replace qb := qb.wr W
 replace qh := qh.other W (Or.inl qr)
 replace qc := qc.other W (Or.inl qr)
 replace qd := qd.other W (Or.inl qr)
 replace qe := qe.other W (Or.inl qr)
 replace qi := qi.other W (Or.inl qr)
 replace qa := qa.other W jz
 replace qj := qj.other W j7
 replace qf := qf.wr W
 replace qk := qk.other W jo
 replace qm := qm.wr W
 replace qg := qg.other W qz
 replace qo := qo.wr W
 replace qp := qp.wr W
 replace qn := qn.other W (Ne.symm q5)
 replace Z0 := Nat.le_trans Z0 (Nat.le_of_eq W.size.symm)
 replace N := Fr.snoc X.1 N jp
 replace Kp := Kp.wr W (Or.inr jq)
 refine g_aloadN X d3_118 (pc' := 119) rfl rfl rfl ?_
 refine g_getfield X (host := "") (Or.inl (tb hw 33 rfl)) Via.refl qe d3_119 (pc' := 122) rfl ?_
 intro T X
 refine g_iload X d3_122 (pc' := 124) rfl rfl ?_
 refine g_lconst X (1 : Int64) d3_124 (pc' := 125) rfl rfl ?_
 refine g_iload X d3_125 (pc' := 127) rfl rfl ?_
 refine g_lshl X d3_127 (pc' := 128) rfl ?_
 refine g_lconst X (1 : Int64) d3_128 (pc' := 129) rfl rfl ?_
 refine g_lsub X d3_129 (pc' := 130) rfl ?_
 generalize wm : (((1 : Int64) <<< (jh &&& 0x3f).toInt64) - (1 : Int64)) = wf
 refine g_lastore X qn 2 d3_130 (pc' := 131) rfl (by decide) (by decide) (Nat.le_of_ble_eq_true rfl) ?_
 intro T h X W qn
 replace qn : Av Z h qw .long [(.long j2), (.long wa), (.long wf), (.long (0 : Int64))] := qn
 replace qb := qb.wr W
 replace qh := qh.other W (Or.inl qs)
 replace qc := qc.other W (Or.inl qs)
 replace qd := qd.other W (Or.inl qs)
 replace qe := qe.other W (Or.inl qs)
 replace qi := qi.other W (Or.inl qs)
 replace qa := qa.other W j0
 replace qj := qj.other W j8
 replace qf := qf.wr W
 replace qk := qk.other W jr
 replace qm := qm.wr W
 replace qg := qg.other W q4
 replace qo := qo.wr W
 replace ql := ql.other W q5
 replace qp := qp.wr W
 replace Z0 := Nat.le_trans Z0 (Nat.le_of_eq W.size.symm)
 replace N := Fr.snoc X.1 N js
 replace Kp := Kp.wr W (Or.inr jt)
 refine g_iinc X d3_131 (pc' := 134) (q := (1 : Int32)) (Ls' := #[.val (.ref a0), .val (.ref a1), .val (.ref a2), .val (.int (1 : Int32)), .val (.int jb), .val (.int (3 : Int32)), .val (.long ja), .second, .val (.int jh)]) rfl rfl rfl rfl ?_
 refine g_goto X d3_134 (pc' := 48) (by decide) (by decide) ?_
 refine g_iload X d3_48 (pc' := 50) rfl rfl ?_
 refine g_aloadN X d3_50 (pc' := 51) rfl rfl rfl ?_
 refine g_arraylength X qa d3_51 (pc' := 52) rfl (z := (4 : Int32)) rfl ?_
 refine g_icN X d3_52 (tlt (show (3 : Int32) < (4 : Int32) from (by decide))).2.1 (pc' := 55) rfl ?_
 refine g_aloadN X d3_55 (pc' := 56) rfl rfl rfl ?_
 refine g_iload X d3_56 (pc' := 58) rfl rfl ?_
 refine g_iaload X qj 3 d3_58 (pc' := 59) rfl (by decide) (by decide) rfl ?_
 refine g_i2l X d3_59 (pc' := 60) rfl ?_
 refine g_aloadN X d3_60 (pc' := 61) rfl rfl rfl ?_
 refine g_iload X d3_61 (pc' := 63) rfl rfl ?_
 refine g_iaload X qa 3 d3_63 (pc' := 64) rfl (by decide) (by decide) rfl ?_
 refine g_i2l X d3_64 (pc' := 65) rfl ?_
 refine g_lsub X d3_65 (pc' := 66) rfl ?_
 generalize wg : ((y3.toInt64) - (l3.toInt64)) = qy
 refine g_lstore X d3_66 (pc' := 68) (Ls' := #[.val (.ref a0), .val (.ref a1), .val (.ref a2), .val (.int (1 : Int32)), .val (.int jb), .val (.int (3 : Int32)), .val (.long qy), .second, .val (.int jh)]) rfl rfl ?_
 refine g_bipush X (64 : Int32) d3_68 (pc' := 70) rfl rfl ?_
 refine g_lload X d3_70 (pc' := 72) rfl rfl ?_
 refine g_static X (W := 1) [(.long qy)] [(.int (64 : Int32))] (tb hw 35 rfl) (tb hw 36 rfl) (tb hw 37 rfl) (tb hw 38 rfl) (rNL l Z aa hw [] qy _) d3_72 (pc' := 75) rfl (by decide) (by decide) (by decide) rfl rfl rfl (lenOf pd_3 rfl) (Nat.le_refl _) (by decide) (by decide) ?_
 intro v T L X q
 obtain ⟨rfl, X⟩ := pureX X q
 show Go p e below _ (T.setTop (mkF m 75 _ [(.int (fNL qy)), (.int (64 : Int32))]))
 refine g_isub X d3_75 (pc' := 76) rfl ?_
 generalize wh : ((64 : Int32) - (fNL qy)) = jc
 refine g_istore X d3_76 (pc' := 78) (Ls' := #[.val (.ref a0), .val (.ref a1), .val (.ref a2), .val (.int (1 : Int32)), .val (.int jb), .val (.int (3 : Int32)), .val (.long qy), .second, .val (.int jc)]) rfl rfl ?_
 refine g_iload X d3_78 (pc' := 80) rfl rfl ?_
 refine g_iload X d3_80 (pc' := 82) rfl rfl ?_
 refine g_icN X d3_82 (tlt (show jb < jc from (by rw [← wh, ← wg, ← we, ← wc, ← wb, ← j9, ← j4, ← j3, ← j1, ← jv, ← ju]; exact q3))).2.2.2 (pc' := 85) rfl ?_
 refine g_iinc X d3_85 (pc' := 88) (q := (1 : Int32)) (Ls' := #[.val (.ref a0), .val (.ref a1), .val (.ref a2), .val (.int (2 : Int32)), .val (.int jb), .val (.int (3 : Int32)), .val (.long qy), .second, .val (.int jc)]) rfl rfl rfl rfl ?_
 refine g_bipush X (64 : Int32) d3_88 (pc' := 90) rfl rfl ?_
 refine g_istore X d3_90 (pc' := 92) (Ls' := #[.val (.ref a0), .val (.ref a1), .val (.ref a2), .val (.int (2 : Int32)), .val (.int (64 : Int32)), .val (.int (3 : Int32)), .val (.long qy), .second, .val (.int jc)]) rfl rfl ?_
 refine g_iload X d3_92 (pc' := 94) rfl rfl ?_
 refine g_iload X d3_94 (pc' := 96) rfl rfl ?_
 refine g_isub X d3_96 (pc' := 97) rfl ?_
 generalize wn : ((64 : Int32) - jc) = wd
 refine g_istore X d3_97 (pc' := 99) (Ls' := #[.val (.ref a0), .val (.ref a1), .val (.ref a2), .val (.int (2 : Int32)), .val (.int wd), .val (.int (3 : Int32)), .val (.long qy), .second, .val (.int jc)]) rfl rfl ?_
 refine g_aloadN X d3_99 (pc' := 100) rfl rfl rfl ?_
 refine g_getfield X (host := "") (Or.inl (tb hw 28 rfl)) Via.refl qc d3_100 (pc' := 103) rfl ?_
 intro T X
 refine g_iload X d3_103 (pc' := 105) rfl rfl ?_
 refine g_iloadN X d3_105 (pc' := 106) rfl rfl ?_
 refine g_iconst X (1 : Int32) d3_106 (pc' := 107) rfl rfl ?_
 refine g_isub X d3_107 (pc' := 108) rfl ?_
 refine Go.lit32 (z := (1 : Int32)) (by decide) ?_
 refine g_iastore X qg 3 d3_108 (pc' := 109) rfl (by decide) (by decide) (Nat.le_of_ble_eq_true rfl) ?_
 intro T h X W qg
 replace qg : Av Z h qu .int [(.int (0 : Int32)), (.int (0 : Int32)), (.int (0 : Int32)), (.int (1 : Int32))] := qg
 replace qb := qb.wr W
 replace qh := qh.other W (Or.inl qq)
 replace qc := qc.other W (Or.inl qq)
 replace qd := qd.other W (Or.inl qq)
 replace qe := qe.other W (Or.inl qq)
 replace qi := qi.other W (Or.inl qq)
 replace qa := qa.other W jy
 replace qf := qf.wr W
 replace qk := qk.other W jl
 replace qm := qm.wr W
 replace qo := qo.wr W
 replace ql := ql.other W (Ne.symm qz)
 replace qp := qp.wr W
 replace qn := qn.other W (Ne.symm q4)
 replace Z0 := Nat.le_trans Z0 (Nat.le_of_eq W.size.symm)
 replace N := Fr.snoc X.1 N jm
 replace Kp := Kp.wr W (Or.inr jn)
 refine g_aloadN X d3_109 (pc' := 110) rfl rfl rfl ?_
 refine g_getfield X (host := "") (Or.inl (tb hw 30 rfl)) Via.refl qd d3_110 (pc' := 113) rfl ?_
 intro T X
 refine g_iload X d3_113 (pc' := 115) rfl rfl ?_
 refine g_iload X d3_115 (pc' := 117) rfl rfl ?_
 refine g_iastore X ql 3 d3_117 (pc' := 118) rfl (by decide) (by decide) (Nat.le_of_ble_eq_true rfl) ?_
 intro T h X W ql
 replace ql : Av Z h qv .int [(.int qx), (.int q6), (.int jb), (.int wd)] := ql
 replace qb := qb.wr W
 replace qh := qh.other W (Or.inl qr)
 replace qc := qc.other W (Or.inl qr)
 replace qd := qd.other W (Or.inl qr)
 replace qe := qe.other W (Or.inl qr)
 replace qi := qi.other W (Or.inl qr)
 replace qa := qa.other W jz
 replace qf := qf.wr W
 replace qk := qk.other W jo
 replace qm := qm.wr W
 replace qg := qg.other W qz
 replace qo := qo.wr W
 replace qp := qp.wr W
 replace qn := qn.other W (Ne.symm q5)
 replace Z0 := Nat.le_trans Z0 (Nat.le_of_eq W.size.symm)
 replace N := Fr.snoc X.1 N jp
 replace Kp := Kp.wr W (Or.inr jq)
 refine g_aloadN X d3_118 (pc' := 119) rfl rfl rfl ?_
 refine g_getfield X (host := "") (Or.inl (tb hw 33 rfl)) Via.refl qe d3_119 (pc' := 122) rfl ?_
 intro T X
 refine g_iload X d3_122 (pc' := 124) rfl rfl ?_
 refine g_lconst X (1 : Int64) d3_124 (pc' := 125) rfl rfl ?_
 refine g_iload X d3_125 (pc' := 127) rfl rfl ?_
 refine g_lshl X d3_127 (pc' := 128) rfl ?_
 refine g_lconst X (1 : Int64) d3_128 (pc' := 129) rfl rfl ?_
 refine g_lsub X d3_129 (pc' := 130) rfl ?_
 generalize wo : (((1 : Int64) <<< (jc &&& 0x3f).toInt64) - (1 : Int64)) = wp
 refine g_lastore X qn 3 d3_130 (pc' := 131) rfl (by decide) (by decide) (Nat.le_of_ble_eq_true rfl) ?_
 intro T h X W qn
 replace qn : Av Z h qw .long [(.long j2), (.long wa), (.long wf), (.long wp)] := qn
 replace qb := qb.wr W
 replace qh := qh.other W (Or.inl qs)
 replace qc := qc.other W (Or.inl qs)
 replace qd := qd.other W (Or.inl qs)
 replace qe := qe.other W (Or.inl qs)
 replace qi := qi.other W (Or.inl qs)
 replace qa := qa.other W j0
 replace qf := qf.wr W
 replace qk := qk.other W jr
 replace qm := qm.wr W
 replace qg := qg.other W q4
 replace qo := qo.wr W
 replace ql := ql.other W q5
 replace qp := qp.wr W
 replace Z0 := Nat.le_trans Z0 (Nat.le_of_eq W.size.symm)
 replace N := Fr.snoc X.1 N js
 replace Kp := Kp.wr W (Or.inr jt)
 refine g_iinc X d3_131 (pc' := 134) (q := (1 : Int32)) (Ls' := #[.val (.ref a0), .val (.ref a1), .val (.ref a2), .val (.int (2 : Int32)), .val (.int wd), .val (.int (4 : Int32)), .val (.long qy), .second, .val (.int jc)]) rfl rfl rfl rfl ?_
 refine g_goto X d3_134 (pc' := 48) (by decide) (by decide) ?_
 refine g_iload X d3_48 (pc' := 50) rfl rfl ?_
 refine g_aloadN X d3_50 (pc' := 51) rfl rfl rfl ?_
 refine g_arraylength X qa d3_51 (pc' := 52) rfl (z := (4 : Int32)) rfl ?_
 refine g_icY X d3_52 (flt (show ¬ ((4 : Int32) < (4 : Int32)) from (by decide))).2.1 (pc' := 137) (by decide) (by decide) ?_
 refine g_aloadN X d3_137 (pc' := 138) rfl rfl rfl ?_
 refine g_iloadN X d3_138 (pc' := 139) rfl rfl ?_
 refine g_putfield X (host := "") (Or.inl (tb hw 44 rfl)) Via.refl qi qb (Or.inr ⟨(tb hw 45 rfl), rfl, hnm⟩) (tb hw 9 rfl) (ty := .int) (by decide) rfl rfl d3_139 (pc' := 142) rfl ?_
 intro T h X W
 replace qb := qb.wr W
 replace qh := qh.other W (Or.inr (slot_ne (Or.inr (tb hw 27 rfl)) (Or.inr (tb hw 45 rfl)) (by decide) (t := (.array .int)) (t' := .int) (by decide) (by decide)))
 replace qc := qc.other W (Or.inr (slot_ne (Or.inr (tb hw 29 rfl)) (Or.inr (tb hw 45 rfl)) (by decide) (t := (.array .int)) (t' := .int) (by decide) (by decide)))
 replace qd := qd.other W (Or.inr (slot_ne (Or.inr (tb hw 31 rfl)) (Or.inr (tb hw 45 rfl)) (by decide) (t := (.array .int)) (t' := .int) (by decide) (by decide)))
 replace qe := qe.other W (Or.inr (slot_ne (Or.inr (tb hw 34 rfl)) (Or.inr (tb hw 45 rfl)) (by decide) (t := (.array .long)) (t' := .int) (by decide) (by decide)))
 replace qi := qi.same W
 replace qf := qf.wr W
 replace qk := qk.other W (Ne.symm jk)
 replace qm := qm.wr W
 replace qg := qg.other W (Ne.symm qq)
 replace qo := qo.wr W
 replace ql := ql.other W (Ne.symm qr)
 replace qp := qp.wr W
 replace qn := qn.other W (Ne.symm qs)
 replace Z0 := Nat.le_trans Z0 (Nat.le_of_eq W.size.symm)
 replace N := Fr.snoc X.1 N jj
 replace Kp := Kp.wr W (Or.inl (List.mem_of_getElem? (i := 0) rfl))
 refine g_return X d3_142 hret hlk (by decide) (by decide) ?_
 subst ju jv j1 wk j3 j4 j9 wl wb wc we wm wg wh wn wo
 exact ⟨jd, qu, qv, qw, rfl, N, Kp, wj, wi, jn, jm, jq, jp, jt, js, jl, jo, jr, qz, q4, q5, qb, qh, qc, qd, qe, qi, qf, qk, qm, qg, qo, ql, qp, qn⟩
theorem ef_rInit2 (m : MethodId) (x0 : Addr) (x1 : Addr) (x2 : Addr) : entryFrame m #[(.ref x0), (.ref x1), (.ref x2)] 9 = mkF m 0 #[.val (.ref x0), .val (.ref x1), .val (.ref x2), .unset, .unset, .unset, .unset, .unset, .unset] [] := by first | (simp [entryFrame, mkF, argsToLocals, Value.category]; done) | rfl
set_option maxRecDepth 65536 in
set_option maxHeartbeats 40000000 in
theorem rInit2 (l : Launch) (Z : State) (aa : Array Value) (hw : ∀ d ∈ tables_1, d.before aa Z = true) (ws : List Jvm.Cond) (a0 : Addr) (a1 : Addr) (a2 : Addr) (l0 : Int32) (l1 : Int32) (l2 : Int32) (l3 : Int32) (y0 : Int32) (y1 : Int32) (y2 : Int32) (y3 : Int32) (h0 : Heap) (n0 : Nat) (Z0 : n0 ≤ h0.size) (qb : Exa Z h0 a0 "com/example/ryazan/ryazan/language/Layout") (qh : Fld Z h0 a0 "com/example/ryazan/ryazan/language/Layout" "low" "[I" .null) (qc : Fld Z h0 a0 "com/example/ryazan/ryazan/language/Layout" "word" "[I" .null) (qd : Fld Z h0 a0 "com/example/ryazan/ryazan/language/Layout" "shift" "[I" .null) (qe : Fld Z h0 a0 "com/example/ryazan/ryazan/language/Layout" "mask" "[J" .null) (qi : Fld Z h0 a0 "com/example/ryazan/ryazan/language/Layout" "width" "I" (.int (0 : Int32))) (qt : Exa Z h0 a1 "[I") (qa : Av Z h0 a1 .int [(.int l0), (.int l1), (.int l2), (.int l3)]) (qj : Av Z h0 a2 .int [(.int y0), (.int y1), (.int y2), (.int y3)]) (jj : n0 ≤ a0) (ju : a1 ≠ a0) (jv : a2 ≠ a0) (q0 : ¬ (64 : Int32) < bt l0 y0) (q1 : ¬ ((64 : Int32) - bt l0 y0) < bt l1 y1) (q2 : ((64 : Int32) - bt l0 y0 - bt l1 y1) < bt l2 y2) (q3 : ¬ ((64 : Int32) - bt l2 y2) < bt l3 y3) :
    Rm l Z (⟨"com/example/ryazan/ryazan/language/Layout", "<init>", "([I[I)V"⟩ : MethodName) prog_58_method_1_code 9 none ws ({ frames := 2, cells := 4, slots := 16, locals := 29 } : Room) #[(.ref a0), (.ref a1), (.ref a2)] h0 (fun v h L => ∃ q0 q1 q2 q3 : Addr, v = none ∧ Fr n0 L ∧ Keep h0 h [a0] ∧ h0.size ≤ q0 ∧ n0 ≤ q0 ∧ h0.size ≤ q1 ∧ n0 ≤ q1 ∧ h0.size ≤ q2 ∧ n0 ≤ q2 ∧ h0.size ≤ q3 ∧ n0 ≤ q3 ∧ q0 ≠ q1 ∧ q0 ≠ q2 ∧ q0 ≠ q3 ∧ q1 ≠ q2 ∧ q1 ≠ q3 ∧ q2 ≠ q3 ∧ Exa Z h a0 "com/example/ryazan/ryazan/language/Layout" ∧ Fld Z h a0 "com/example/ryazan/ryazan/language/Layout" "low" "[I" (.ref q0) ∧ Fld Z h a0 "com/example/ryazan/ryazan/language/Layout" "word" "[I" (.ref q1) ∧ Fld Z h a0 "com/example/ryazan/ryazan/language/Layout" "shift" "[I" (.ref q2) ∧ Fld Z h a0 "com/example/ryazan/ryazan/language/Layout" "mask" "[J" (.ref q3) ∧ Fld Z h a0 "com/example/ryazan/ryazan/language/Layout" "width" "I" (.int (2 : Int32)) ∧ Exa Z h q0 "[I" ∧ Av Z h q0 .int [(.int l0), (.int l1), (.int l2), (.int l3)] ∧ Exa Z h q1 "[I" ∧ Av Z h q1 .int [(.int (0 : Int32)), (.int (0 : Int32)), (.int (1 : Int32)), (.int (1 : Int32))] ∧ Exa Z h q2 "[I" ∧ Av Z h q2 .int [(.int ((64 : Int32) - ((64 : Int32) - (fNL ((y0.toInt64) - (l0.toInt64)))))), (.int (((64 : Int32) - ((64 : Int32) - (fNL ((y0.toInt64) - (l0.toInt64))))) - ((64 : Int32) - (fNL ((y1.toInt64) - (l1.toInt64)))))), (.int ((64 : Int32) - ((64 : Int32) - (fNL ((y2.toInt64) - (l2.toInt64)))))), (.int (((64 : Int32) - ((64 : Int32) - (fNL ((y2.toInt64) - (l2.toInt64))))) - ((64 : Int32) - (fNL ((y3.toInt64) - (l3.toInt64))))))] ∧ Exa Z h q3 "[J" ∧ Av Z h q3 .long [(.long (((1 : Int64) <<< (((64 : Int32) - (fNL ((y0.toInt64) - (l0.toInt64)))) &&& 0x3f).toInt64) - (1 : Int64))), (.long (((1 : Int64) <<< (((64 : Int32) - (fNL ((y1.toInt64) - (l1.toInt64)))) &&& 0x3f).toInt64) - (1 : Int64))), (.long (((1 : Int64) <<< (((64 : Int32) - (fNL ((y2.toInt64) - (l2.toInt64)))) &&& 0x3f).toInt64) - (1 : Int64))), (.long (((1 : Int64) <<< (((64 : Int32) - (fNL ((y3.toInt64) - (l3.toInt64)))) &&& 0x3f).toInt64) - (1 : Int64)))]) := by
 refine Rm.of (plainFor_of_name pn_3) ?_
 intro p e s m below meth cc T X hnm hret hlk
 refine Go.at_ (ef_rInit2 m a0 a1 a2) ?_
 have N := Fr.nil n0
 have Kp := Keep.refl h0 [a0]
 refine g_aloadN X d3_0 (pc' := 1) rfl rfl rfl ?_
 refine g_initO X (W := 0) (tb hw 14 rfl) (tb hw 15 rfl) (tb hw 16 rfl) d3_1 (pc' := 4) rfl rfl (by decide) (Nat.le_refl _) (by decide) ?_
 intro T X
 refine g_aloadN X d3_4 (pc' := 5) rfl rfl rfl ?_
 refine g_aloadN X d3_5 (pc' := 6) rfl rfl rfl ?_
 refine g_clone X (W := 1) (tb hw 17 rfl) (tb hw 18 rfl) (tb hw 22 rfl) (tb hw 20 rfl) (tb hw 21 rfl) (tb hw 23 rfl) qa qt (fitS rfl (fitS rfl (fitS rfl (fitS rfl fit0)))) d3_6 (pc' := 9) rfl rfl (by decide) (Nat.le_refl _) (by decide) 4 (Nat.le_of_ble_eq_true rfl) (by decide) (by decide) ?_
 intro T h jd j2 X Ex qf qk
 have jk : a0 ≠ jd := Nat.ne_of_lt (by rw [j2]; exact qb.lt)
 have wi : n0 ≤ jd := by rw [j2]; exact Z0
 have wj : h0.size ≤ jd := by rw [j2]; exact Kp.1
 replace qb := qb.ext Ex
 replace qh := qh.ext Ex
 replace qc := qc.ext Ex
 replace qd := qd.ext Ex
 replace qe := qe.ext Ex
 replace qi := qi.ext Ex
 replace qt := qt.ext Ex
 replace qa := qa.ext Ex
 replace qj := qj.ext Ex
 replace Z0 := Nat.le_trans Z0 Ex.1
 replace Kp := Kp.ext Ex
 refine g_checkcast X (tb hw 24 rfl) (Ins.self qf) d3_9 (pc' := 12) rfl ?_
 intro T X
 refine g_putfield X (host := "") (Or.inl (tb hw 26 rfl)) Via.refl qh qb (Or.inr ⟨(tb hw 27 rfl), rfl, hnm⟩) (tb hw 9 rfl) (ty := (.array .int)) (by decide) rfl rfl d3_12 (pc' := 15) rfl ?_
 intro T h X W
 replace qb := qb.wr W
 replace qh := qh.same W
 replace qc := qc.other W (Or.inr (slot_ne (Or.inr (tb hw 29 rfl)) (Or.inr (tb hw 27 rfl)) (by decide) (t := (.array .int)) (t' := (.array .int)) (by decide) (by decide)))
 replace qd := qd.other W (Or.inr (slot_ne (Or.inr (tb hw 31 rfl)) (Or.inr (tb hw 27 rfl)) (by decide) (t := (.array .int)) (t' := (.array .int)) (by decide) (by decide)))
 replace qe := qe.other W (Or.inr (slot_ne (Or.inr (tb hw 34 rfl)) (Or.inr (tb hw 27 rfl)) (by decide) (t := (.array .long)) (t' := (.array .int)) (by decide) (by decide)))
 replace qi := qi.other W (Or.inr (slot_ne (Or.inr (tb hw 45 rfl)) (Or.inr (tb hw 27 rfl)) (by decide) (t := .int) (t' := (.array .int)) (by decide) (by decide)))
 replace qt := qt.wr W
 replace qa := qa.other W ju
 replace qj := qj.other W jv
 replace qf := qf.wr W
 replace qk := qk.other W (Ne.symm jk)
 replace Z0 := Nat.le_trans Z0 (Nat.le_of_eq W.size.symm)
 replace N := Fr.snoc X.1 N jj
 replace Kp := Kp.wr W (Or.inl (List.mem_of_getElem? (i := 0) rfl))
 refine g_aloadN X d3_15 (pc' := 16) rfl rfl rfl ?_
 refine g_aloadN X d3_16 (pc' := 17) rfl rfl rfl ?_
 refine g_arraylength X qa d3_17 (pc' := 18) rfl (z := (4 : Int32)) rfl ?_
 refine g_newarray X 4 (tb hw 0 rfl) d3_18 (pc' := 20) rfl (by decide) (by decide) 4 (by decide) (by decide) (by decide) (by decide) (vs := [(.int (0 : Int32)), (.int (0 : Int32)), (.int (0 : Int32)), (.int (0 : Int32))]) rfl (ad := "[I") (by decide) ?_
 intro T h qu jh X Ex qm qg
 have qq : a0 ≠ qu := Nat.ne_of_lt (by rw [jh]; exact qb.lt)
 have jw : a1 ≠ qu := Nat.ne_of_lt (by rw [jh]; exact qt.lt)
 have j3 : a2 ≠ qu := Nat.ne_of_lt (by rw [jh]; exact qj.lt)
 have jl : jd ≠ qu := Nat.ne_of_lt (by rw [jh]; exact qf.lt)
 have jm : n0 ≤ qu := by rw [jh]; exact Z0
 have jn : h0.size ≤ qu := by rw [jh]; exact Kp.1
 replace qb := qb.ext Ex
 replace qh := qh.ext Ex
 replace qc := qc.ext Ex
 replace qd := qd.ext Ex
 replace qe := qe.ext Ex
 replace qi := qi.ext Ex
 replace qt := qt.ext Ex
 replace qa := qa.ext Ex
 replace qj := qj.ext Ex
 replace qf := qf.ext Ex
 replace qk := qk.ext Ex
 replace Z0 := Nat.le_trans Z0 Ex.1
 replace Kp := Kp.ext Ex
 refine g_putfield X (host := "") (Or.inl (tb hw 28 rfl)) Via.refl qc qb (Or.inr ⟨(tb hw 29 rfl), rfl, hnm⟩) (tb hw 9 rfl) (ty := (.array .int)) (by decide) rfl rfl d3_20 (pc' := 23) rfl ?_
 intro T h X W
 replace qb := qb.wr W
 replace qh := qh.other W (Or.inr (slot_ne (Or.inr (tb hw 27 rfl)) (Or.inr (tb hw 29 rfl)) (by decide) (t := (.array .int)) (t' := (.array .int)) (by decide) (by decide)))
 replace qc := qc.same W
 replace qd := qd.other W (Or.inr (slot_ne (Or.inr (tb hw 31 rfl)) (Or.inr (tb hw 29 rfl)) (by decide) (t := (.array .int)) (t' := (.array .int)) (by decide) (by decide)))
 replace qe := qe.other W (Or.inr (slot_ne (Or.inr (tb hw 34 rfl)) (Or.inr (tb hw 29 rfl)) (by decide) (t := (.array .long)) (t' := (.array .int)) (by decide) (by decide)))
 replace qi := qi.other W (Or.inr (slot_ne (Or.inr (tb hw 45 rfl)) (Or.inr (tb hw 29 rfl)) (by decide) (t := .int) (t' := (.array .int)) (by decide) (by decide)))
 replace qt := qt.wr W
 replace qa := qa.other W ju
 replace qj := qj.other W jv
 replace qf := qf.wr W
 replace qk := qk.other W (Ne.symm jk)
 replace qm := qm.wr W
 replace qg := qg.other W (Ne.symm qq)
 replace Z0 := Nat.le_trans Z0 (Nat.le_of_eq W.size.symm)
 replace N := Fr.snoc X.1 N jj
 replace Kp := Kp.wr W (Or.inl (List.mem_of_getElem? (i := 0) rfl))
 refine g_aloadN X d3_23 (pc' := 24) rfl rfl rfl ?_
 refine g_aloadN X d3_24 (pc' := 25) rfl rfl rfl ?_
 refine g_arraylength X qa d3_25 (pc' := 26) rfl (z := (4 : Int32)) rfl ?_
 refine g_newarray X 4 (tb hw 0 rfl) d3_26 (pc' := 28) rfl (by decide) (by decide) 4 (by decide) (by decide) (by decide) (by decide) (vs := [(.int (0 : Int32)), (.int (0 : Int32)), (.int (0 : Int32)), (.int (0 : Int32))]) rfl (ad := "[I") (by decide) ?_
 intro T h qv je X Ex qo ql
 have qr : a0 ≠ qv := Nat.ne_of_lt (by rw [je]; exact qb.lt)
 have jx : a1 ≠ qv := Nat.ne_of_lt (by rw [je]; exact qt.lt)
 have j4 : a2 ≠ qv := Nat.ne_of_lt (by rw [je]; exact qj.lt)
 have jo : jd ≠ qv := Nat.ne_of_lt (by rw [je]; exact qf.lt)
 have qz : qu ≠ qv := Nat.ne_of_lt (by rw [je]; exact qm.lt)
 have jp : n0 ≤ qv := by rw [je]; exact Z0
 have jq : h0.size ≤ qv := by rw [je]; exact Kp.1
 replace qb := qb.ext Ex
 replace qh := qh.ext Ex
 replace qc := qc.ext Ex
 replace qd := qd.ext Ex
 replace qe := qe.ext Ex
 replace qi := qi.ext Ex
 replace qt := qt.ext Ex
 replace qa := qa.ext Ex
 replace qj := qj.ext Ex
 replace qf := qf.ext Ex
 replace qk := qk.ext Ex
 replace qm := qm.ext Ex
 replace qg := qg.ext Ex
 replace Z0 := Nat.le_trans Z0 Ex.1
 replace Kp := Kp.ext Ex
 refine g_putfield X (host := "") (Or.inl (tb hw 30 rfl)) Via.refl qd qb (Or.inr ⟨(tb hw 31 rfl), rfl, hnm⟩) (tb hw 9 rfl) (ty := (.array .int)) (by decide) rfl rfl d3_28 (pc' := 31) rfl ?_
 intro T h X W
 replace qb := qb.wr W
 replace qh := qh.other W (Or.inr (slot_ne (Or.inr (tb hw 27 rfl)) (Or.inr (tb hw 31 rfl)) (by decide) (t := (.array .int)) (t' := (.array .int)) (by decide) (by decide)))
 replace qc := qc.other W (Or.inr (slot_ne (Or.inr (tb hw 29 rfl)) (Or.inr (tb hw 31 rfl)) (by decide) (t := (.array .int)) (t' := (.array .int)) (by decide) (by decide)))
 replace qd := qd.same W
 replace qe := qe.other W (Or.inr (slot_ne (Or.inr (tb hw 34 rfl)) (Or.inr (tb hw 31 rfl)) (by decide) (t := (.array .long)) (t' := (.array .int)) (by decide) (by decide)))
 replace qi := qi.other W (Or.inr (slot_ne (Or.inr (tb hw 45 rfl)) (Or.inr (tb hw 31 rfl)) (by decide) (t := .int) (t' := (.array .int)) (by decide) (by decide)))
 replace qt := qt.wr W
 replace qa := qa.other W ju
 replace qj := qj.other W jv
 replace qf := qf.wr W
 replace qk := qk.other W (Ne.symm jk)
 replace qm := qm.wr W
 replace qg := qg.other W (Ne.symm qq)
 replace qo := qo.wr W
 replace ql := ql.other W (Ne.symm qr)
 replace Z0 := Nat.le_trans Z0 (Nat.le_of_eq W.size.symm)
 replace N := Fr.snoc X.1 N jj
 replace Kp := Kp.wr W (Or.inl (List.mem_of_getElem? (i := 0) rfl))
 refine g_aloadN X d3_31 (pc' := 32) rfl rfl rfl ?_
 refine g_aloadN X d3_32 (pc' := 33) rfl rfl rfl ?_
 refine g_arraylength X qa d3_33 (pc' := 34) rfl (z := (4 : Int32)) rfl ?_
 refine g_newarray X 4 (tb hw 32 rfl) d3_34 (pc' := 36) rfl (by decide) (by decide) 4 (by decide) (by decide) (by decide) (by decide) (vs := [(.long (0 : Int64)), (.long (0 : Int64)), (.long (0 : Int64)), (.long (0 : Int64))]) rfl (ad := "[J") (by decide) ?_
 intro T h qw q8 X Ex qp qn
 have qs : a0 ≠ qw := Nat.ne_of_lt (by rw [q8]; exact qb.lt)
 have jy : a1 ≠ qw := Nat.ne_of_lt (by rw [q8]; exact qt.lt)
 have j5 : a2 ≠ qw := Nat.ne_of_lt (by rw [q8]; exact qj.lt)
 have jr : jd ≠ qw := Nat.ne_of_lt (by rw [q8]; exact qf.lt)
 have q4 : qu ≠ qw := Nat.ne_of_lt (by rw [q8]; exact qm.lt)
 have q5 : qv ≠ qw := Nat.ne_of_lt (by rw [q8]; exact qo.lt)
 have js : n0 ≤ qw := by rw [q8]; exact Z0
 have jt : h0.size ≤ qw := by rw [q8]; exact Kp.1
 replace qb := qb.ext Ex
 replace qh := qh.ext Ex
 replace qc := qc.ext Ex
 replace qd := qd.ext Ex
 replace qe := qe.ext Ex
 replace qi := qi.ext Ex
 replace qa := qa.ext Ex
 replace qj := qj.ext Ex
 replace qf := qf.ext Ex
 replace qk := qk.ext Ex
 replace qm := qm.ext Ex
 replace qg := qg.ext Ex
 replace qo := qo.ext Ex
 replace ql := ql.ext Ex
 replace Z0 := Nat.le_trans Z0 Ex.1
 replace Kp := Kp.ext Ex
 refine g_putfield X (host := "") (Or.inl (tb hw 33 rfl)) Via.refl qe qb (Or.inr ⟨(tb hw 34 rfl), rfl, hnm⟩) (tb hw 9 rfl) (ty := (.array .long)) (by decide) rfl rfl d3_36 (pc' := 39) rfl ?_
 intro T h X W
 replace qb := qb.wr W
 replace qh := qh.other W (Or.inr (slot_ne (Or.inr (tb hw 27 rfl)) (Or.inr (tb hw 34 rfl)) (by decide) (t := (.array .int)) (t' := (.array .long)) (by decide) (by decide)))
 replace qc := qc.other W (Or.inr (slot_ne (Or.inr (tb hw 29 rfl)) (Or.inr (tb hw 34 rfl)) (by decide) (t := (.array .int)) (t' := (.array .long)) (by decide) (by decide)))
 replace qd := qd.other W (Or.inr (slot_ne (Or.inr (tb hw 31 rfl)) (Or.inr (tb hw 34 rfl)) (by decide) (t := (.array .int)) (t' := (.array .long)) (by decide) (by decide)))
 replace qe := qe.same W
 replace qi := qi.other W (Or.inr (slot_ne (Or.inr (tb hw 45 rfl)) (Or.inr (tb hw 34 rfl)) (by decide) (t := .int) (t' := (.array .long)) (by decide) (by decide)))
 replace qa := qa.other W ju
 replace qj := qj.other W jv
 replace qf := qf.wr W
 replace qk := qk.other W (Ne.symm jk)
 replace qm := qm.wr W
 replace qg := qg.other W (Ne.symm qq)
 replace qo := qo.wr W
 replace ql := ql.other W (Ne.symm qr)
 replace qp := qp.wr W
 replace qn := qn.other W (Ne.symm qs)
 replace Z0 := Nat.le_trans Z0 (Nat.le_of_eq W.size.symm)
 replace N := Fr.snoc X.1 N jj
 replace Kp := Kp.wr W (Or.inl (List.mem_of_getElem? (i := 0) rfl))
 refine g_iconst X (1 : Int32) d3_39 (pc' := 40) rfl rfl ?_
 refine g_istoreN X d3_40 (pc' := 41) (Ls' := #[.val (.ref a0), .val (.ref a1), .val (.ref a2), .val (.int (1 : Int32)), .unset, .unset, .unset, .unset, .unset]) rfl rfl ?_
 refine g_bipush X (64 : Int32) d3_41 (pc' := 43) rfl rfl ?_
 refine g_istore X d3_43 (pc' := 45) (Ls' := #[.val (.ref a0), .val (.ref a1), .val (.ref a2), .val (.int (1 : Int32)), .val (.int (64 : Int32)), .unset, .unset, .unset, .unset]) rfl rfl ?_
 refine g_iconst X (0 : Int32) d3_45 (pc' := 46) rfl rfl ?_
 refine g_istore X d3_46 (pc' := 48) (Ls' := #[.val (.ref a0), .val (.ref a1), .val (.ref a2), .val (.int (1 : Int32)), .val (.int (64 : Int32)), .val (.int (0 : Int32)), .unset, .unset, .unset]) rfl rfl ?_
 refine g_iload X d3_48 (pc' := 50) rfl rfl ?_
 refine g_aloadN X d3_50 (pc' := 51) rfl rfl rfl ?_
 refine g_arraylength X qa d3_51 (pc' := 52) rfl (z := (4 : Int32)) rfl ?_
 refine g_icN X d3_52 (tlt (show (0 : Int32) < (4 : Int32) from (by decide))).2.1 (pc' := 55) rfl ?_
 refine g_aloadN X d3_55 (pc' := 56) rfl rfl rfl ?_
 refine g_iload X d3_56 (pc' := 58) rfl rfl ?_
 refine g_iaload X qj 0 d3_58 (pc' := 59) rfl (by decide) (by decide) rfl ?_
 refine g_i2l X d3_59 (pc' := 60) rfl ?_
 refine g_aloadN X d3_60 (pc' := 61) rfl rfl rfl ?_
 refine g_iload X d3_61 (pc' := 63) rfl rfl ?_
 refine g_iaload X qa 0 d3_63 (pc' := 64) rfl (by decide) (by decide) rfl ?_
 refine g_i2l X d3_64 (pc' := 65) rfl ?_
 refine g_lsub X d3_65 (pc' := 66) rfl ?_
 generalize jz : ((y0.toInt64) - (l0.toInt64)) = q9
 refine g_lstore X d3_66 (pc' := 68) (Ls' := #[.val (.ref a0), .val (.ref a1), .val (.ref a2), .val (.int (1 : Int32)), .val (.int (64 : Int32)), .val (.int (0 : Int32)), .val (.long q9), .second, .unset]) rfl rfl ?_
 refine g_bipush X (64 : Int32) d3_68 (pc' := 70) rfl rfl ?_
 refine g_lload X d3_70 (pc' := 72) rfl rfl ?_
 refine g_static X (W := 1) [(.long q9)] [(.int (64 : Int32))] (tb hw 35 rfl) (tb hw 36 rfl) (tb hw 37 rfl) (tb hw 38 rfl) (rNL l Z aa hw [] q9 _) d3_72 (pc' := 75) rfl (by decide) (by decide) (by decide) rfl rfl rfl (lenOf pd_3 rfl) (Nat.le_refl _) (by decide) (by decide) ?_
 intro v T L X q
 obtain ⟨rfl, X⟩ := pureX X q
 show Go p e below _ (T.setTop (mkF m 75 _ [(.int (fNL q9)), (.int (64 : Int32))]))
 refine g_isub X d3_75 (pc' := 76) rfl ?_
 generalize j0 : ((64 : Int32) - (fNL q9)) = jf
 refine g_istore X d3_76 (pc' := 78) (Ls' := #[.val (.ref a0), .val (.ref a1), .val (.ref a2), .val (.int (1 : Int32)), .val (.int (64 : Int32)), .val (.int (0 : Int32)), .val (.long q9), .second, .val (.int jf)]) rfl rfl ?_
 refine g_iload X d3_78 (pc' := 80) rfl rfl ?_
 refine g_iload X d3_80 (pc' := 82) rfl rfl ?_
 refine g_icY X d3_82 (flt (show ¬ ((64 : Int32) < jf) from (by rw [← j0, ← jz]; exact q0))).2.2.2 (pc' := 92) (by decide) (by decide) ?_
 refine g_iload X d3_92 (pc' := 94) rfl rfl ?_
 refine g_iload X d3_94 (pc' := 96) rfl rfl ?_
 refine g_isub X d3_96 (pc' := 97) rfl ?_
 generalize j6 : ((64 : Int32) - jf) = qx
 refine g_istore X d3_97 (pc' := 99) (Ls' := #[.val (.ref a0), .val (.ref a1), .val (.ref a2), .val (.int (1 : Int32)), .val (.int qx), .val (.int (0 : Int32)), .val (.long q9), .second, .val (.int jf)]) rfl rfl ?_
 refine g_aloadN X d3_99 (pc' := 100) rfl rfl rfl ?_
 refine g_getfield X (host := "") (Or.inl (tb hw 28 rfl)) Via.refl qc d3_100 (pc' := 103) rfl ?_
 intro T X
 refine g_iload X d3_103 (pc' := 105) rfl rfl ?_
 refine g_iloadN X d3_105 (pc' := 106) rfl rfl ?_
 refine g_iconst X (1 : Int32) d3_106 (pc' := 107) rfl rfl ?_
 refine g_isub X d3_107 (pc' := 108) rfl ?_
 refine Go.lit32 (z := (0 : Int32)) (by decide) ?_
 refine g_iastore X qg 0 d3_108 (pc' := 109) rfl (by decide) (by decide) (Nat.le_of_ble_eq_true rfl) ?_
 intro T h X W qg
 replace qg : Av Z h qu .int [(.int (0 : Int32)), (.int (0 : Int32)), (.int (0 : Int32)), (.int (0 : Int32))] := qg
 replace qb := qb.wr W
 replace qh := qh.other W (Or.inl qq)
 replace qc := qc.other W (Or.inl qq)
 replace qd := qd.other W (Or.inl qq)
 replace qe := qe.other W (Or.inl qq)
 replace qi := qi.other W (Or.inl qq)
 replace qa := qa.other W jw
 replace qj := qj.other W j3
 replace qf := qf.wr W
 replace qk := qk.other W jl
 replace qm := qm.wr W
 replace qo := qo.wr W
 replace ql := ql.other W (Ne.symm qz)
 replace qp := qp.wr W
 replace qn := qn.other W (Ne.symm q4)
 replace Z0 := Nat.le_trans Z0 (Nat.le_of_eq W.size.symm)
 replace N := Fr.snoc X.1 N jm
 replace Kp := Kp.wr W (Or.inr jn)
 refine g_aloadN X d3_109 (pc' := 110) rfl rfl rfl ?_
 refine g_getfield X (host := "") (Or.inl (tb hw 30 rfl)) Via.refl qd d3_110 (pc' := 113) rfl ?_
 intro T X
 refine g_iload X d3_113 (pc' := 115) rfl rfl ?_
 refine g_iload X d3_115 (pc' := 117) rfl rfl ?_
 refine g_iastore X ql 0 d3_117 (pc' := 118) rfl (by decide) (by decide) (Nat.le_of_ble_eq_true rfl) ?_
 intro T h X W ql
 replace ql : Av Z h qv .int [(.int qx), (.int (0 : Int32)), (.int (0 : Int32)), (.int (0 : Int32))] := ql
 replace qb := qb.wr W
 replace qh := qh.other W (Or.inl qr)
 replace qc := qc.other W (Or.inl qr)
 replace qd := qd.other W (Or.inl qr)
 replace qe := qe.other W (Or.inl qr)
 replace qi := qi.other W (Or.inl qr)
 replace qa := qa.other W jx
 replace qj := qj.other W j4
 replace qf := qf.wr W
 replace qk := qk.other W jo
 replace qm := qm.wr W
 replace qg := qg.other W qz
 replace qo := qo.wr W
 replace qp := qp.wr W
 replace qn := qn.other W (Ne.symm q5)
 replace Z0 := Nat.le_trans Z0 (Nat.le_of_eq W.size.symm)
 replace N := Fr.snoc X.1 N jp
 replace Kp := Kp.wr W (Or.inr jq)
 refine g_aloadN X d3_118 (pc' := 119) rfl rfl rfl ?_
 refine g_getfield X (host := "") (Or.inl (tb hw 33 rfl)) Via.refl qe d3_119 (pc' := 122) rfl ?_
 intro T X
 refine g_iload X d3_122 (pc' := 124) rfl rfl ?_
 refine g_lconst X (1 : Int64) d3_124 (pc' := 125) rfl rfl ?_
 refine g_iload X d3_125 (pc' := 127) rfl rfl ?_
 refine g_lshl X d3_127 (pc' := 128) rfl ?_
 refine g_lconst X (1 : Int64) d3_128 (pc' := 129) rfl rfl ?_
 refine g_lsub X d3_129 (pc' := 130) rfl ?_
 generalize wk : (((1 : Int64) <<< (jf &&& 0x3f).toInt64) - (1 : Int64)) = j1
 refine g_lastore X qn 0 d3_130 (pc' := 131) rfl (by decide) (by decide) (Nat.le_of_ble_eq_true rfl) ?_
 intro T h X W qn
 replace qn : Av Z h qw .long [(.long j1), (.long (0 : Int64)), (.long (0 : Int64)), (.long (0 : Int64))] := qn
 replace qb := qb.wr W
 replace qh := qh.other W (Or.inl qs)
 replace qc := qc.other W (Or.inl qs)
 replace qd := qd.other W (Or.inl qs)
 replace qe := qe.other W (Or.inl qs)
 replace qi := qi.other W (Or.inl qs)
 replace qa := qa.other W jy
 replace qj := qj.other W j5
 replace qf := qf.wr W
 replace qk := qk.other W jr
 replace qm := qm.wr W
 replace qg := qg.other W q4
 replace qo := qo.wr W
 replace ql := ql.other W q5
 replace qp := qp.wr W
 replace Z0 := Nat.le_trans Z0 (Nat.le_of_eq W.size.symm)
 replace N := Fr.snoc X.1 N js
 replace Kp := Kp.wr W (Or.inr jt)
 refine g_iinc X d3_131 (pc' := 134) (q := (1 : Int32)) (Ls' := #[.val (.ref a0), .val (.ref a1), .val (.ref a2), .val (.int (1 : Int32)), .val (.int qx), .val (.int (1 : Int32)), .val (.long q9), .second, .val (.int jf)]) rfl rfl rfl rfl ?_
 refine g_goto X d3_134 (pc' := 48) (by decide) (by decide) ?_
 refine g_iload X d3_48 (pc' := 50) rfl rfl ?_
 refine g_aloadN X d3_50 (pc' := 51) rfl rfl rfl ?_
 refine g_arraylength X qa d3_51 (pc' := 52) rfl (z := (4 : Int32)) rfl ?_
 refine g_icN X d3_52 (tlt (show (1 : Int32) < (4 : Int32) from (by decide))).2.1 (pc' := 55) rfl ?_
 refine g_aloadN X d3_55 (pc' := 56) rfl rfl rfl ?_
 refine g_iload X d3_56 (pc' := 58) rfl rfl ?_
 refine g_iaload X qj 1 d3_58 (pc' := 59) rfl (by decide) (by decide) rfl ?_
 refine g_i2l X d3_59 (pc' := 60) rfl ?_
 refine g_aloadN X d3_60 (pc' := 61) rfl rfl rfl ?_
 refine g_iload X d3_61 (pc' := 63) rfl rfl ?_
 refine g_iaload X qa 1 d3_63 (pc' := 64) rfl (by decide) (by decide) rfl ?_
 refine g_i2l X d3_64 (pc' := 65) rfl ?_
 refine g_lsub X d3_65 (pc' := 66) rfl ?_
 generalize j7 : ((y1.toInt64) - (l1.toInt64)) = ja
 refine g_lstore X d3_66 (pc' := 68) (Ls' := #[.val (.ref a0), .val (.ref a1), .val (.ref a2), .val (.int (1 : Int32)), .val (.int qx), .val (.int (1 : Int32)), .val (.long ja), .second, .val (.int jf)]) rfl rfl ?_
 refine g_bipush X (64 : Int32) d3_68 (pc' := 70) rfl rfl ?_
 refine g_lload X d3_70 (pc' := 72) rfl rfl ?_
 refine g_static X (W := 1) [(.long ja)] [(.int (64 : Int32))] (tb hw 35 rfl) (tb hw 36 rfl) (tb hw 37 rfl) (tb hw 38 rfl) (rNL l Z aa hw [] ja _) d3_72 (pc' := 75) rfl (by decide) (by decide) (by decide) rfl rfl rfl (lenOf pd_3 rfl) (Nat.le_refl _) (by decide) (by decide) ?_
 intro v T L X q
 obtain ⟨rfl, X⟩ := pureX X q
 show Go p e below _ (T.setTop (mkF m 75 _ [(.int (fNL ja)), (.int (64 : Int32))]))
 refine g_isub X d3_75 (pc' := 76) rfl ?_
 generalize j8 : ((64 : Int32) - (fNL ja)) = jg
 refine g_istore X d3_76 (pc' := 78) (Ls' := #[.val (.ref a0), .val (.ref a1), .val (.ref a2), .val (.int (1 : Int32)), .val (.int qx), .val (.int (1 : Int32)), .val (.long ja), .second, .val (.int jg)]) rfl rfl ?_
 refine g_iload X d3_78 (pc' := 80) rfl rfl ?_
 refine g_iload X d3_80 (pc' := 82) rfl rfl ?_
 refine g_icY X d3_82 (flt (show ¬ (qx < jg) from (by rw [← j8, ← j7, ← j6, ← j0, ← jz]; exact q1))).2.2.2 (pc' := 92) (by decide) (by decide) ?_
 refine g_iload X d3_92 (pc' := 94) rfl rfl ?_
 refine g_iload X d3_94 (pc' := 96) rfl rfl ?_
 refine g_isub X d3_96 (pc' := 97) rfl ?_
 generalize wd : (qx - jg) = q6
 refine g_istore X d3_97 (pc' := 99) (Ls' := #[.val (.ref a0), .val (.ref a1), .val (.ref a2), .val (.int (1 : Int32)), .val (.int q6), .val (.int (1 : Int32)), .val (.long ja), .second, .val (.int jg)]) rfl rfl ?_
 refine g_aloadN X d3_99 (pc' := 100) rfl rfl rfl ?_
 refine g_getfield X (host := "") (Or.inl (tb hw 28 rfl)) Via.refl qc d3_100 (pc' := 103) rfl ?_
 intro T X
 refine g_iload X d3_103 (pc' := 105) rfl rfl ?_
 refine g_iloadN X d3_105 (pc' := 106) rfl rfl ?_
 refine g_iconst X (1 : Int32) d3_106 (pc' := 107) rfl rfl ?_
 refine g_isub X d3_107 (pc' := 108) rfl ?_
 refine Go.lit32 (z := (0 : Int32)) (by decide) ?_
 refine g_iastore X qg 1 d3_108 (pc' := 109) rfl (by decide) (by decide) (Nat.le_of_ble_eq_true rfl) ?_
 intro T h X W qg
 replace qg : Av Z h qu .int [(.int (0 : Int32)), (.int (0 : Int32)), (.int (0 : Int32)), (.int (0 : Int32))] := qg
 replace qb := qb.wr W
 replace qh := qh.other W (Or.inl qq)
 replace qc := qc.other W (Or.inl qq)
 replace qd := qd.other W (Or.inl qq)
 replace qe := qe.other W (Or.inl qq)
 replace qi := qi.other W (Or.inl qq)
 replace qa := qa.other W jw
 replace qj := qj.other W j3
 replace qf := qf.wr W
 replace qk := qk.other W jl
 replace qm := qm.wr W
 replace qo := qo.wr W
 replace ql := ql.other W (Ne.symm qz)
 replace qp := qp.wr W
 replace qn := qn.other W (Ne.symm q4)
 replace Z0 := Nat.le_trans Z0 (Nat.le_of_eq W.size.symm)
 replace N := Fr.snoc X.1 N jm
 replace Kp := Kp.wr W (Or.inr jn)
 refine g_aloadN X d3_109 (pc' := 110) rfl rfl rfl ?_
 refine g_getfield X (host := "") (Or.inl (tb hw 30 rfl)) Via.refl qd d3_110 (pc' := 113) rfl ?_
 intro T X
 refine g_iload X d3_113 (pc' := 115) rfl rfl ?_
 refine g_iload X d3_115 (pc' := 117) rfl rfl ?_
 refine g_iastore X ql 1 d3_117 (pc' := 118) rfl (by decide) (by decide) (Nat.le_of_ble_eq_true rfl) ?_
 intro T h X W ql
 replace ql : Av Z h qv .int [(.int qx), (.int q6), (.int (0 : Int32)), (.int (0 : Int32))] := ql
 replace qb := qb.wr W
 replace qh := qh.other W (Or.inl qr)
 replace qc := qc.other W (Or.inl qr)
 replace qd := qd.other W (Or.inl qr)
 replace qe := qe.other W (Or.inl qr)
 replace qi := qi.other W (Or.inl qr)
 replace qa := qa.other W jx
 replace qj := qj.other W j4
 replace qf := qf.wr W
 replace qk := qk.other W jo
 replace qm := qm.wr W
 replace qg := qg.other W qz
 replace qo := qo.wr W
 replace qp := qp.wr W
 replace qn := qn.other W (Ne.symm q5)
 replace Z0 := Nat.le_trans Z0 (Nat.le_of_eq W.size.symm)
 replace N := Fr.snoc X.1 N jp
 replace Kp := Kp.wr W (Or.inr jq)
 refine g_aloadN X d3_118 (pc' := 119) rfl rfl rfl ?_
 refine g_getfield X (host := "") (Or.inl (tb hw 33 rfl)) Via.refl qe d3_119 (pc' := 122) rfl ?_
 intro T X
 refine g_iload X d3_122 (pc' := 124) rfl rfl ?_
 refine g_lconst X (1 : Int64) d3_124 (pc' := 125) rfl rfl ?_
 refine g_iload X d3_125 (pc' := 127) rfl rfl ?_
 refine g_lshl X d3_127 (pc' := 128) rfl ?_
 refine g_lconst X (1 : Int64) d3_128 (pc' := 129) rfl rfl ?_
 refine g_lsub X d3_129 (pc' := 130) rfl ?_
 generalize wl : (((1 : Int64) <<< (jg &&& 0x3f).toInt64) - (1 : Int64)) = j9
 refine g_lastore X qn 1 d3_130 (pc' := 131) rfl (by decide) (by decide) (Nat.le_of_ble_eq_true rfl) ?_
 intro T h X W qn
 replace qn : Av Z h qw .long [(.long j1), (.long j9), (.long (0 : Int64)), (.long (0 : Int64))] := qn
 replace qb := qb.wr W
 replace qh := qh.other W (Or.inl qs)
 replace qc := qc.other W (Or.inl qs)
 replace qd := qd.other W (Or.inl qs)
 replace qe := qe.other W (Or.inl qs)
 replace qi := qi.other W (Or.inl qs)
 replace qa := qa.other W jy
 replace qj := qj.other W j5
 replace qf := qf.wr W
 replace qk := qk.other W jr
 replace qm := qm.wr W
 replace qg := qg.other W q4
 replace qo := qo.wr W
 replace ql := ql.other W q5
 replace qp := qp.wr W
 replace Z0 := Nat.le_trans Z0 (Nat.le_of_eq W.size.symm)
 replace N := Fr.snoc X.1 N js
 replace Kp := Kp.wr W (Or.inr jt)
 refine g_iinc X d3_131 (pc' := 134) (q := (1 : Int32)) (Ls' := #[.val (.ref a0), .val (.ref a1), .val (.ref a2), .val (.int (1 : Int32)), .val (.int q6), .val (.int (2 : Int32)), .val (.long ja), .second, .val (.int jg)]) rfl rfl rfl rfl ?_
 refine g_goto X d3_134 (pc' := 48) (by decide) (by decide) ?_
 refine g_iload X d3_48 (pc' := 50) rfl rfl ?_
 refine g_aloadN X d3_50 (pc' := 51) rfl rfl rfl ?_
 refine g_arraylength X qa d3_51 (pc' := 52) rfl (z := (4 : Int32)) rfl ?_
 refine g_icN X d3_52 (tlt (show (2 : Int32) < (4 : Int32) from (by decide))).2.1 (pc' := 55) rfl ?_
 refine g_aloadN X d3_55 (pc' := 56) rfl rfl rfl ?_
 refine g_iload X d3_56 (pc' := 58) rfl rfl ?_
 refine g_iaload X qj 2 d3_58 (pc' := 59) rfl (by decide) (by decide) rfl ?_
 refine g_i2l X d3_59 (pc' := 60) rfl ?_
 refine g_aloadN X d3_60 (pc' := 61) rfl rfl rfl ?_
 refine g_iload X d3_61 (pc' := 63) rfl rfl ?_
 refine g_iaload X qa 2 d3_63 (pc' := 64) rfl (by decide) (by decide) rfl ?_
 refine g_i2l X d3_64 (pc' := 65) rfl ?_
 refine g_lsub X d3_65 (pc' := 66) rfl ?_
 generalize wa : ((y2.toInt64) - (l2.toInt64)) = qy
 refine g_lstore X d3_66 (pc' := 68) (Ls' := #[.val (.ref a0), .val (.ref a1), .val (.ref a2), .val (.int (1 : Int32)), .val (.int q6), .val (.int (2 : Int32)), .val (.long qy), .second, .val (.int jg)]) rfl rfl ?_
 refine g_bipush X (64 : Int32) d3_68 (pc' := 70) rfl rfl ?_
 refine g_lload X d3_70 (pc' := 72) rfl rfl ?_
 refine g_static X (W := 1) [(.long qy)] [(.int (64 : Int32))] (tb hw 35 rfl) (tb hw 36 rfl) (tb hw 37 rfl) (tb hw 38 rfl) (rNL l Z aa hw [] qy _) d3_72 (pc' := 75) rfl (by decide) (by decide) (by decide) rfl rfl rfl (lenOf pd_3 rfl) (Nat.le_refl _) (by decide) (by decide) ?_
 intro v T L X q
 obtain ⟨rfl, X⟩ := pureX X q
 show Go p e below _ (T.setTop (mkF m 75 _ [(.int (fNL qy)), (.int (64 : Int32))]))
 refine g_isub X d3_75 (pc' := 76) rfl ?_
 generalize wb : ((64 : Int32) - (fNL qy)) = q7
 refine g_istore X d3_76 (pc' := 78) (Ls' := #[.val (.ref a0), .val (.ref a1), .val (.ref a2), .val (.int (1 : Int32)), .val (.int q6), .val (.int (2 : Int32)), .val (.long qy), .second, .val (.int q7)]) rfl rfl ?_
 refine g_iload X d3_78 (pc' := 80) rfl rfl ?_
 refine g_iload X d3_80 (pc' := 82) rfl rfl ?_
 refine g_icN X d3_82 (tlt (show q6 < q7 from (by rw [← wb, ← wa, ← wd, ← j8, ← j7, ← j6, ← j0, ← jz]; exact q2))).2.2.2 (pc' := 85) rfl ?_
 refine g_iinc X d3_85 (pc' := 88) (q := (1 : Int32)) (Ls' := #[.val (.ref a0), .val (.ref a1), .val (.ref a2), .val (.int (2 : Int32)), .val (.int q6), .val (.int (2 : Int32)), .val (.long qy), .second, .val (.int q7)]) rfl rfl rfl rfl ?_
 refine g_bipush X (64 : Int32) d3_88 (pc' := 90) rfl rfl ?_
 refine g_istore X d3_90 (pc' := 92) (Ls' := #[.val (.ref a0), .val (.ref a1), .val (.ref a2), .val (.int (2 : Int32)), .val (.int (64 : Int32)), .val (.int (2 : Int32)), .val (.long qy), .second, .val (.int q7)]) rfl rfl ?_
 refine g_iload X d3_92 (pc' := 94) rfl rfl ?_
 refine g_iload X d3_94 (pc' := 96) rfl rfl ?_
 refine g_isub X d3_96 (pc' := 97) rfl ?_
 generalize we : ((64 : Int32) - q7) = jb
 refine g_istore X d3_97 (pc' := 99) (Ls' := #[.val (.ref a0), .val (.ref a1), .val (.ref a2), .val (.int (2 : Int32)), .val (.int jb), .val (.int (2 : Int32)), .val (.long qy), .second, .val (.int q7)]) rfl rfl ?_
 refine g_aloadN X d3_99 (pc' := 100) rfl rfl rfl ?_
 refine g_getfield X (host := "") (Or.inl (tb hw 28 rfl)) Via.refl qc d3_100 (pc' := 103) rfl ?_
 intro T X
 refine g_iload X d3_103 (pc' := 105) rfl rfl ?_
 refine g_iloadN X d3_105 (pc' := 106) rfl rfl ?_
 refine g_iconst X (1 : Int32) d3_106 (pc' := 107) rfl rfl ?_
 refine g_isub X d3_107 (pc' := 108) rfl ?_
 refine Go.lit32 (z := (1 : Int32)) (by decide) ?_
 refine g_iastore X qg 2 d3_108 (pc' := 109) rfl (by decide) (by decide) (Nat.le_of_ble_eq_true rfl) ?_
 intro T h X W qg
 replace qg : Av Z h qu .int [(.int (0 : Int32)), (.int (0 : Int32)), (.int (1 : Int32)), (.int (0 : Int32))] := qg
 replace qb := qb.wr W
 replace qh := qh.other W (Or.inl qq)
 replace qc := qc.other W (Or.inl qq)
 replace qd := qd.other W (Or.inl qq)
 replace qe := qe.other W (Or.inl qq)
 replace qi := qi.other W (Or.inl qq)
 replace qa := qa.other W jw
 replace qj := qj.other W j3
 replace qf := qf.wr W
 replace qk := qk.other W jl
 replace qm := qm.wr W
 replace qo := qo.wr W
 replace ql := ql.other W (Ne.symm qz)
 replace qp := qp.wr W
 replace qn := qn.other W (Ne.symm q4)
 replace Z0 := Nat.le_trans Z0 (Nat.le_of_eq W.size.symm)
 replace N := Fr.snoc X.1 N jm
 replace Kp := Kp.wr W (Or.inr jn)
 refine g_aloadN X d3_109 (pc' := 110) rfl rfl rfl ?_
 refine g_getfield X (host := "") (Or.inl (tb hw 30 rfl)) Via.refl qd d3_110 (pc' := 113) rfl ?_
 intro T X
 refine g_iload X d3_113 (pc' := 115) rfl rfl ?_
 refine g_iload X d3_115 (pc' := 117) rfl rfl ?_
 refine g_iastore X ql 2 d3_117 (pc' := 118) rfl (by decide) (by decide) (Nat.le_of_ble_eq_true rfl) ?_
 intro T h X W ql
 replace ql : Av Z h qv .int [(.int qx), (.int q6), (.int jb), (.int (0 : Int32))] := ql
 replace qb := qb.wr W
 replace qh := qh.other W (Or.inl qr)
 replace qc := qc.other W (Or.inl qr)
 replace qd := qd.other W (Or.inl qr)
 replace qe := qe.other W (Or.inl qr)
 replace qi := qi.other W (Or.inl qr)
 replace qa := qa.other W jx
 replace qj := qj.other W j4
 replace qf := qf.wr W
 replace qk := qk.other W jo
 replace qm := qm.wr W
 replace qg := qg.other W qz
 replace qo := qo.wr W
 replace qp := qp.wr W
 replace qn := qn.other W (Ne.symm q5)
 replace Z0 := Nat.le_trans Z0 (Nat.le_of_eq W.size.symm)
 replace N := Fr.snoc X.1 N jp
 replace Kp := Kp.wr W (Or.inr jq)
 refine g_aloadN X d3_118 (pc' := 119) rfl rfl rfl ?_
 refine g_getfield X (host := "") (Or.inl (tb hw 33 rfl)) Via.refl qe d3_119 (pc' := 122) rfl ?_
 intro T X
 refine g_iload X d3_122 (pc' := 124) rfl rfl ?_
 refine g_lconst X (1 : Int64) d3_124 (pc' := 125) rfl rfl ?_
 refine g_iload X d3_125 (pc' := 127) rfl rfl ?_
 refine g_lshl X d3_127 (pc' := 128) rfl ?_
 refine g_lconst X (1 : Int64) d3_128 (pc' := 129) rfl rfl ?_
 refine g_lsub X d3_129 (pc' := 130) rfl ?_
 generalize wm : (((1 : Int64) <<< (q7 &&& 0x3f).toInt64) - (1 : Int64)) = wf
 refine g_lastore X qn 2 d3_130 (pc' := 131) rfl (by decide) (by decide) (Nat.le_of_ble_eq_true rfl) ?_
 intro T h X W qn
 replace qn : Av Z h qw .long [(.long j1), (.long j9), (.long wf), (.long (0 : Int64))] := qn
 replace qb := qb.wr W
 replace qh := qh.other W (Or.inl qs)
 replace qc := qc.other W (Or.inl qs)
 replace qd := qd.other W (Or.inl qs)
 replace qe := qe.other W (Or.inl qs)
 replace qi := qi.other W (Or.inl qs)
 replace qa := qa.other W jy
 replace qj := qj.other W j5
 replace qf := qf.wr W
 replace qk := qk.other W jr
 replace qm := qm.wr W
 replace qg := qg.other W q4
 replace qo := qo.wr W
 replace ql := ql.other W q5
 replace qp := qp.wr W
 replace Z0 := Nat.le_trans Z0 (Nat.le_of_eq W.size.symm)
 replace N := Fr.snoc X.1 N js
 replace Kp := Kp.wr W (Or.inr jt)
 refine g_iinc X d3_131 (pc' := 134) (q := (1 : Int32)) (Ls' := #[.val (.ref a0), .val (.ref a1), .val (.ref a2), .val (.int (2 : Int32)), .val (.int jb), .val (.int (3 : Int32)), .val (.long qy), .second, .val (.int q7)]) rfl rfl rfl rfl ?_
 refine g_goto X d3_134 (pc' := 48) (by decide) (by decide) ?_
 refine g_iload X d3_48 (pc' := 50) rfl rfl ?_
 refine g_aloadN X d3_50 (pc' := 51) rfl rfl rfl ?_
 refine g_arraylength X qa d3_51 (pc' := 52) rfl (z := (4 : Int32)) rfl ?_
 refine g_icN X d3_52 (tlt (show (3 : Int32) < (4 : Int32) from (by decide))).2.1 (pc' := 55) rfl ?_
 refine g_aloadN X d3_55 (pc' := 56) rfl rfl rfl ?_
 refine g_iload X d3_56 (pc' := 58) rfl rfl ?_
 refine g_iaload X qj 3 d3_58 (pc' := 59) rfl (by decide) (by decide) rfl ?_
 refine g_i2l X d3_59 (pc' := 60) rfl ?_
 refine g_aloadN X d3_60 (pc' := 61) rfl rfl rfl ?_
 refine g_iload X d3_61 (pc' := 63) rfl rfl ?_
 refine g_iaload X qa 3 d3_63 (pc' := 64) rfl (by decide) (by decide) rfl ?_
 refine g_i2l X d3_64 (pc' := 65) rfl ?_
 refine g_lsub X d3_65 (pc' := 66) rfl ?_
 generalize wg : ((y3.toInt64) - (l3.toInt64)) = jc
 refine g_lstore X d3_66 (pc' := 68) (Ls' := #[.val (.ref a0), .val (.ref a1), .val (.ref a2), .val (.int (2 : Int32)), .val (.int jb), .val (.int (3 : Int32)), .val (.long jc), .second, .val (.int q7)]) rfl rfl ?_
 refine g_bipush X (64 : Int32) d3_68 (pc' := 70) rfl rfl ?_
 refine g_lload X d3_70 (pc' := 72) rfl rfl ?_
 refine g_static X (W := 1) [(.long jc)] [(.int (64 : Int32))] (tb hw 35 rfl) (tb hw 36 rfl) (tb hw 37 rfl) (tb hw 38 rfl) (rNL l Z aa hw [] jc _) d3_72 (pc' := 75) rfl (by decide) (by decide) (by decide) rfl rfl rfl (lenOf pd_3 rfl) (Nat.le_refl _) (by decide) (by decide) ?_
 intro v T L X q
 obtain ⟨rfl, X⟩ := pureX X q
 show Go p e below _ (T.setTop (mkF m 75 _ [(.int (fNL jc)), (.int (64 : Int32))]))
 refine g_isub X d3_75 (pc' := 76) rfl ?_
 generalize wh : ((64 : Int32) - (fNL jc)) = ji
 refine g_istore X d3_76 (pc' := 78) (Ls' := #[.val (.ref a0), .val (.ref a1), .val (.ref a2), .val (.int (2 : Int32)), .val (.int jb), .val (.int (3 : Int32)), .val (.long jc), .second, .val (.int ji)]) rfl rfl ?_
 refine g_iload X d3_78 (pc' := 80) rfl rfl ?_
 refine g_iload X d3_80 (pc' := 82) rfl rfl ?_
 refine g_icY X d3_82 (flt (show ¬ (jb < ji) from (by rw [← wh, ← wg, ← we, ← wb, ← wa]; exact q3))).2.2.2 (pc' := 92) (by decide) (by decide) ?_
 refine g_iload X d3_92 (pc' := 94) rfl rfl ?_
 refine g_iload X d3_94 (pc' := 96) rfl rfl ?_
 refine g_isub X d3_96 (pc' := 97) rfl ?_
 generalize wn : (jb - ji) = wc
 refine g_istore X d3_97 (pc' := 99) (Ls' := #[.val (.ref a0), .val (.ref a1), .val (.ref a2), .val (.int (2 : Int32)), .val (.int wc), .val (.int (3 : Int32)), .val (.long jc), .second, .val (.int ji)]) rfl rfl ?_
 refine g_aloadN X d3_99 (pc' := 100) rfl rfl rfl ?_
 refine g_getfield X (host := "") (Or.inl (tb hw 28 rfl)) Via.refl qc d3_100 (pc' := 103) rfl ?_
 intro T X
 refine g_iload X d3_103 (pc' := 105) rfl rfl ?_
 refine g_iloadN X d3_105 (pc' := 106) rfl rfl ?_
 refine g_iconst X (1 : Int32) d3_106 (pc' := 107) rfl rfl ?_
 refine g_isub X d3_107 (pc' := 108) rfl ?_
 refine Go.lit32 (z := (1 : Int32)) (by decide) ?_
 refine g_iastore X qg 3 d3_108 (pc' := 109) rfl (by decide) (by decide) (Nat.le_of_ble_eq_true rfl) ?_
 intro T h X W qg
 replace qg : Av Z h qu .int [(.int (0 : Int32)), (.int (0 : Int32)), (.int (1 : Int32)), (.int (1 : Int32))] := qg
 replace qb := qb.wr W
 replace qh := qh.other W (Or.inl qq)
 replace qc := qc.other W (Or.inl qq)
 replace qd := qd.other W (Or.inl qq)
 replace qe := qe.other W (Or.inl qq)
 replace qi := qi.other W (Or.inl qq)
 replace qa := qa.other W jw
 replace qf := qf.wr W
 replace qk := qk.other W jl
 replace qm := qm.wr W
 replace qo := qo.wr W
 replace ql := ql.other W (Ne.symm qz)
 replace qp := qp.wr W
 replace qn := qn.other W (Ne.symm q4)
 replace Z0 := Nat.le_trans Z0 (Nat.le_of_eq W.size.symm)
 replace N := Fr.snoc X.1 N jm
 replace Kp := Kp.wr W (Or.inr jn)
 refine g_aloadN X d3_109 (pc' := 110) rfl rfl rfl ?_
 refine g_getfield X (host := "") (Or.inl (tb hw 30 rfl)) Via.refl qd d3_110 (pc' := 113) rfl ?_
 intro T X
 refine g_iload X d3_113 (pc' := 115) rfl rfl ?_
 refine g_iload X d3_115 (pc' := 117) rfl rfl ?_
 refine g_iastore X ql 3 d3_117 (pc' := 118) rfl (by decide) (by decide) (Nat.le_of_ble_eq_true rfl) ?_
 intro T h X W ql
 replace ql : Av Z h qv .int [(.int qx), (.int q6), (.int jb), (.int wc)] := ql
 replace qb := qb.wr W
 replace qh := qh.other W (Or.inl qr)
 replace qc := qc.other W (Or.inl qr)
 replace qd := qd.other W (Or.inl qr)
 replace qe := qe.other W (Or.inl qr)
 replace qi := qi.other W (Or.inl qr)
 replace qa := qa.other W jx
 replace qf := qf.wr W
 replace qk := qk.other W jo
 replace qm := qm.wr W
 replace qg := qg.other W qz
 replace qo := qo.wr W
 replace qp := qp.wr W
 replace qn := qn.other W (Ne.symm q5)
 replace Z0 := Nat.le_trans Z0 (Nat.le_of_eq W.size.symm)
 replace N := Fr.snoc X.1 N jp
 replace Kp := Kp.wr W (Or.inr jq)
 refine g_aloadN X d3_118 (pc' := 119) rfl rfl rfl ?_
 refine g_getfield X (host := "") (Or.inl (tb hw 33 rfl)) Via.refl qe d3_119 (pc' := 122) rfl ?_
 intro T X
 refine g_iload X d3_122 (pc' := 124) rfl rfl ?_
 refine g_lconst X (1 : Int64) d3_124 (pc' := 125) rfl rfl ?_
 refine g_iload X d3_125 (pc' := 127) rfl rfl ?_
 refine g_lshl X d3_127 (pc' := 128) rfl ?_
 refine g_lconst X (1 : Int64) d3_128 (pc' := 129) rfl rfl ?_
 refine g_lsub X d3_129 (pc' := 130) rfl ?_
 generalize wo : (((1 : Int64) <<< (ji &&& 0x3f).toInt64) - (1 : Int64)) = wp
 refine g_lastore X qn 3 d3_130 (pc' := 131) rfl (by decide) (by decide) (Nat.le_of_ble_eq_true rfl) ?_
 intro T h X W qn
 replace qn : Av Z h qw .long [(.long j1), (.long j9), (.long wf), (.long wp)] := qn
 replace qb := qb.wr W
 replace qh := qh.other W (Or.inl qs)
 replace qc := qc.other W (Or.inl qs)
 replace qd := qd.other W (Or.inl qs)
 replace qe := qe.other W (Or.inl qs)
 replace qi := qi.other W (Or.inl qs)
 replace qa := qa.other W jy
 replace qf := qf.wr W
 replace qk := qk.other W jr
 replace qm := qm.wr W
 replace qg := qg.other W q4
 replace qo := qo.wr W
 replace ql := ql.other W q5
 replace qp := qp.wr W
 replace Z0 := Nat.le_trans Z0 (Nat.le_of_eq W.size.symm)
 replace N := Fr.snoc X.1 N js
 replace Kp := Kp.wr W (Or.inr jt)
 refine g_iinc X d3_131 (pc' := 134) (q := (1 : Int32)) (Ls' := #[.val (.ref a0), .val (.ref a1), .val (.ref a2), .val (.int (2 : Int32)), .val (.int wc), .val (.int (4 : Int32)), .val (.long jc), .second, .val (.int ji)]) rfl rfl rfl rfl ?_
 refine g_goto X d3_134 (pc' := 48) (by decide) (by decide) ?_
 refine g_iload X d3_48 (pc' := 50) rfl rfl ?_
 refine g_aloadN X d3_50 (pc' := 51) rfl rfl rfl ?_
 refine g_arraylength X qa d3_51 (pc' := 52) rfl (z := (4 : Int32)) rfl ?_
 refine g_icY X d3_52 (flt (show ¬ ((4 : Int32) < (4 : Int32)) from (by decide))).2.1 (pc' := 137) (by decide) (by decide) ?_
 refine g_aloadN X d3_137 (pc' := 138) rfl rfl rfl ?_
 refine g_iloadN X d3_138 (pc' := 139) rfl rfl ?_
 refine g_putfield X (host := "") (Or.inl (tb hw 44 rfl)) Via.refl qi qb (Or.inr ⟨(tb hw 45 rfl), rfl, hnm⟩) (tb hw 9 rfl) (ty := .int) (by decide) rfl rfl d3_139 (pc' := 142) rfl ?_
 intro T h X W
 replace qb := qb.wr W
 replace qh := qh.other W (Or.inr (slot_ne (Or.inr (tb hw 27 rfl)) (Or.inr (tb hw 45 rfl)) (by decide) (t := (.array .int)) (t' := .int) (by decide) (by decide)))
 replace qc := qc.other W (Or.inr (slot_ne (Or.inr (tb hw 29 rfl)) (Or.inr (tb hw 45 rfl)) (by decide) (t := (.array .int)) (t' := .int) (by decide) (by decide)))
 replace qd := qd.other W (Or.inr (slot_ne (Or.inr (tb hw 31 rfl)) (Or.inr (tb hw 45 rfl)) (by decide) (t := (.array .int)) (t' := .int) (by decide) (by decide)))
 replace qe := qe.other W (Or.inr (slot_ne (Or.inr (tb hw 34 rfl)) (Or.inr (tb hw 45 rfl)) (by decide) (t := (.array .long)) (t' := .int) (by decide) (by decide)))
 replace qi := qi.same W
 replace qf := qf.wr W
 replace qk := qk.other W (Ne.symm jk)
 replace qm := qm.wr W
 replace qg := qg.other W (Ne.symm qq)
 replace qo := qo.wr W
 replace ql := ql.other W (Ne.symm qr)
 replace qp := qp.wr W
 replace qn := qn.other W (Ne.symm qs)
 replace Z0 := Nat.le_trans Z0 (Nat.le_of_eq W.size.symm)
 replace N := Fr.snoc X.1 N jj
 replace Kp := Kp.wr W (Or.inl (List.mem_of_getElem? (i := 0) rfl))
 refine g_return X d3_142 hret hlk (by decide) (by decide) ?_
 subst jz j0 j6 wk j7 j8 wd wl wa wb we wm wg wh wn wo
 exact ⟨jd, qu, qv, qw, rfl, N, Kp, wj, wi, jn, jm, jq, jp, jt, js, jl, jo, jr, qz, q4, q5, qb, qh, qc, qd, qe, qi, qf, qk, qm, qg, qo, ql, qp, qn⟩
theorem d7_0 : decode prog_58_method_2_code 0 = .ok (.aload_n 0, 1) := by decide +kernel
theorem d7_1 : decode prog_58_method_2_code 1 = .ok (.getfield 34, 3) := by decide +kernel
theorem d7_4 : decode prog_58_method_2_code 4 = .ok (.ireturn, 1) := by decide +kernel
theorem ef_rWidth1 (m : MethodId) (x0 : Addr) : entryFrame m #[(.ref x0)] 1 = mkF m 0 #[.val (.ref x0)] [] := by first | (simp [entryFrame, mkF, argsToLocals, Value.category]; done) | rfl
set_option maxRecDepth 65536 in
set_option maxHeartbeats 40000000 in
theorem rWidth1 (l : Launch) (Z : State) (aa : Array Value) (hw : ∀ d ∈ tables_1, d.before aa Z = true) (ws : List Jvm.Cond) (a0 : Addr) (h0 : Heap) (qb : Exa Z h0 a0 "com/example/ryazan/ryazan/language/Layout") (qa : Fld Z h0 a0 "com/example/ryazan/ryazan/language/Layout" "width" "I" (.int (1 : Int32))) :
    Rm l Z (⟨"com/example/ryazan/ryazan/language/Layout", "width", "()I"⟩ : MethodName) prog_58_method_2_code 1 (some .int) ws ({ frames := 0, cells := 0, slots := 0, locals := 0 } : Room) #[(.ref a0)] h0 (Pu (.int (1 : Int32)) h0) := by
 refine Rm.of (plainFor_of_name pn_3) ?_
 intro p e s m below meth cc T X hnm hret hlk
 refine Go.at_ (ef_rWidth1 m a0) ?_
 refine g_aloadN X d7_0 (pc' := 1) rfl rfl rfl ?_
 refine g_getfield X (host := "") (Or.inl (tb hw 44 rfl)) Via.refl qa d7_1 (pc' := 4) rfl ?_
 intro T X
 refine g_ireturn X d7_4 hret hlk (by decide) (by decide) ?_
 exact ⟨rfl, rfl, rfl⟩
theorem ef_rWidth2 (m : MethodId) (x0 : Addr) : entryFrame m #[(.ref x0)] 1 = mkF m 0 #[.val (.ref x0)] [] := by first | (simp [entryFrame, mkF, argsToLocals, Value.category]; done) | rfl
set_option maxRecDepth 65536 in
set_option maxHeartbeats 40000000 in
theorem rWidth2 (l : Launch) (Z : State) (aa : Array Value) (hw : ∀ d ∈ tables_1, d.before aa Z = true) (ws : List Jvm.Cond) (a0 : Addr) (h0 : Heap) (qb : Exa Z h0 a0 "com/example/ryazan/ryazan/language/Layout") (qa : Fld Z h0 a0 "com/example/ryazan/ryazan/language/Layout" "width" "I" (.int (2 : Int32))) :
    Rm l Z (⟨"com/example/ryazan/ryazan/language/Layout", "width", "()I"⟩ : MethodName) prog_58_method_2_code 1 (some .int) ws ({ frames := 0, cells := 0, slots := 0, locals := 0 } : Room) #[(.ref a0)] h0 (Pu (.int (2 : Int32)) h0) := by
 refine Rm.of (plainFor_of_name pn_3) ?_
 intro p e s m below meth cc T X hnm hret hlk
 refine Go.at_ (ef_rWidth2 m a0) ?_
 refine g_aloadN X d7_0 (pc' := 1) rfl rfl rfl ?_
 refine g_getfield X (host := "") (Or.inl (tb hw 44 rfl)) Via.refl qa d7_1 (pc' := 4) rfl ?_
 intro T X
 refine g_ireturn X d7_4 hret hlk (by decide) (by decide) ?_
 exact ⟨rfl, rfl, rfl⟩
theorem d9_0 : decode prog_58_method_3_code 0 = .ok (.iconst 0, 1) := by decide +kernel
theorem d9_1 : decode prog_58_method_3_code 1 = .ok (.istore 4, 2) := by decide +kernel
theorem d9_3 : decode prog_58_method_3_code 3 = .ok (.iload 4, 2) := by decide +kernel
theorem d9_5 : decode prog_58_method_3_code 5 = .ok (.aload_n 0, 1) := by decide +kernel
theorem d9_6 : decode prog_58_method_3_code 6 = .ok (.getfield 34, 3) := by decide +kernel
theorem d9_9 : decode prog_58_method_3_code 9 = .ok (.if_icmp .ge 16, 3) := by decide +kernel
theorem d9_12 : decode prog_58_method_3_code 12 = .ok (.aload_n 2, 1) := by decide +kernel
theorem d9_13 : decode prog_58_method_3_code 13 = .ok (.iload_n 3, 1) := by decide +kernel
theorem d9_14 : decode prog_58_method_3_code 14 = .ok (.iload 4, 2) := by decide +kernel
theorem d9_16 : decode prog_58_method_3_code 16 = .ok (.iadd, 1) := by decide +kernel
theorem d9_17 : decode prog_58_method_3_code 17 = .ok (.lconst 0, 1) := by decide +kernel
theorem d9_18 : decode prog_58_method_3_code 18 = .ok (.lastore, 1) := by decide +kernel
theorem d9_19 : decode prog_58_method_3_code 19 = .ok (.iinc 4 1, 3) := by decide +kernel
theorem d9_22 : decode prog_58_method_3_code 22 = .ok (.goto (-19), 3) := by decide +kernel
theorem d9_25 : decode prog_58_method_3_code 25 = .ok (.iconst 0, 1) := by decide +kernel
theorem d9_26 : decode prog_58_method_3_code 26 = .ok (.istore 4, 2) := by decide +kernel
theorem d9_28 : decode prog_58_method_3_code 28 = .ok (.iload 4, 2) := by decide +kernel
theorem d9_30 : decode prog_58_method_3_code 30 = .ok (.aload_n 1, 1) := by decide +kernel
theorem d9_31 : decode prog_58_method_3_code 31 = .ok (.arraylength, 1) := by decide +kernel
theorem d9_32 : decode prog_58_method_3_code 32 = .ok (.if_icmp .ge 45, 3) := by decide +kernel
theorem d9_35 : decode prog_58_method_3_code 35 = .ok (.aload_n 2, 1) := by decide +kernel
theorem d9_36 : decode prog_58_method_3_code 36 = .ok (.iload_n 3, 1) := by decide +kernel
theorem d9_37 : decode prog_58_method_3_code 37 = .ok (.aload_n 0, 1) := by decide +kernel
theorem d9_38 : decode prog_58_method_3_code 38 = .ok (.getfield 18, 3) := by decide +kernel
theorem d9_41 : decode prog_58_method_3_code 41 = .ok (.iload 4, 2) := by decide +kernel
theorem d9_43 : decode prog_58_method_3_code 43 = .ok (.iaload, 1) := by decide +kernel
theorem d9_44 : decode prog_58_method_3_code 44 = .ok (.iadd, 1) := by decide +kernel
theorem d9_45 : decode prog_58_method_3_code 45 = .ok (.dup2, 1) := by decide +kernel
theorem d9_46 : decode prog_58_method_3_code 46 = .ok (.laload, 1) := by decide +kernel
theorem d9_47 : decode prog_58_method_3_code 47 = .ok (.aload_n 1, 1) := by decide +kernel
theorem d9_48 : decode prog_58_method_3_code 48 = .ok (.iload 4, 2) := by decide +kernel
theorem d9_50 : decode prog_58_method_3_code 50 = .ok (.iaload, 1) := by decide +kernel
theorem d9_51 : decode prog_58_method_3_code 51 = .ok (.i2l, 1) := by decide +kernel
theorem d9_52 : decode prog_58_method_3_code 52 = .ok (.aload_n 0, 1) := by decide +kernel
theorem d9_53 : decode prog_58_method_3_code 53 = .ok (.getfield 13, 3) := by decide +kernel
theorem d9_56 : decode prog_58_method_3_code 56 = .ok (.iload 4, 2) := by decide +kernel
theorem d9_58 : decode prog_58_method_3_code 58 = .ok (.iaload, 1) := by decide +kernel
theorem d9_59 : decode prog_58_method_3_code 59 = .ok (.i2l, 1) := by decide +kernel
theorem d9_60 : decode prog_58_method_3_code 60 = .ok (.lsub, 1) := by decide +kernel
theorem d9_61 : decode prog_58_method_3_code 61 = .ok (.aload_n 0, 1) := by decide +kernel
theorem d9_62 : decode prog_58_method_3_code 62 = .ok (.getfield 21, 3) := by decide +kernel
theorem d9_65 : decode prog_58_method_3_code 65 = .ok (.iload 4, 2) := by decide +kernel
theorem d9_67 : decode prog_58_method_3_code 67 = .ok (.iaload, 1) := by decide +kernel
theorem d9_68 : decode prog_58_method_3_code 68 = .ok (.lshl, 1) := by decide +kernel
theorem d9_69 : decode prog_58_method_3_code 69 = .ok (.lor, 1) := by decide +kernel
theorem d9_70 : decode prog_58_method_3_code 70 = .ok (.lastore, 1) := by decide +kernel
theorem d9_71 : decode prog_58_method_3_code 71 = .ok (.iinc 4 1, 3) := by decide +kernel
theorem d9_74 : decode prog_58_method_3_code 74 = .ok (.goto (-46), 3) := by decide +kernel
theorem d9_77 : decode prog_58_method_3_code 77 = .ok (.return_, 1) := by decide +kernel
theorem ef_rPk00 (m : MethodId) (x0 : Addr) (x1 : Addr) (x2 : Addr) (x3 : Int32) : entryFrame m #[(.ref x0), (.ref x1), (.ref x2), (.int x3)] 5 = mkF m 0 #[.val (.ref x0), .val (.ref x1), .val (.ref x2), .val (.int x3), .unset] [] := by first | (simp [entryFrame, mkF, argsToLocals, Value.category]; done) | rfl
set_option maxRecDepth 65536 in
set_option maxHeartbeats 40000000 in
theorem rPk00 (l : Launch) (Z : State) (aa : Array Value) (hw : ∀ d ∈ tables_1, d.before aa Z = true) (ws : List Jvm.Cond) (a0 : Addr) (wv : Addr) (wk : Addr) (wl : Addr) (ww : Addr) (wt : Addr) (l0 : Int32) (l1 : Int32) (l2 : Int32) (l3 : Int32) (s0 : Int32) (s1 : Int32) (s2 : Int32) (s3 : Int32) (x0 : Int32) (x1 : Int32) (x2 : Int32) (x3 : Int32) (k0 : Int64) (k1 : Int64) (k2 : Int64) (k3 : Int64) (h0 : Heap) (n0 : Nat) (Z0 : n0 ≤ h0.size) (qx : Exa Z h0 a0 "com/example/ryazan/ryazan/language/Layout") (qd : Fld Z h0 a0 "com/example/ryazan/ryazan/language/Layout" "low" "[I" (.ref wl)) (qe : Fld Z h0 a0 "com/example/ryazan/ryazan/language/Layout" "word" "[I" (.ref ww)) (qf : Fld Z h0 a0 "com/example/ryazan/ryazan/language/Layout" "shift" "[I" (.ref wt)) (ql : Fld Z h0 a0 "com/example/ryazan/ryazan/language/Layout" "width" "I" (.int (1 : Int32))) (qg : Av Z h0 wl .int [(.int l0), (.int l1), (.int l2), (.int l3)]) (qh : Av Z h0 ww .int [(.int (0 : Int32)), (.int (0 : Int32)), (.int (0 : Int32)), (.int (0 : Int32))]) (qi : Av Z h0 wt .int [(.int s0), (.int s1), (.int s2), (.int s3)]) (qb : Av Z h0 wv .int [(.int x0), (.int x1), (.int x2), (.int x3)]) (qa : Av Z h0 wk .long [(.long k0), (.long k1), (.long k2), (.long k3)]) (qj : n0 ≤ wk) (qc : a0 ≠ wk) (qm : wl ≠ wk) (qn : ww ≠ wk) (qo : wt ≠ wk) (qk : wv ≠ wk) :
    Rm l Z (⟨"com/example/ryazan/ryazan/language/Layout", "pack", "([I[JI)V"⟩ : MethodName) prog_58_method_3_code 5 none ws ({ frames := 0, cells := 0, slots := 0, locals := 0 } : Room) #[(.ref a0), (.ref wv), (.ref wk), (.int (0 : Int32))] h0 (fun v h L => v = none ∧ Fr n0 L ∧ Keep h0 h [wk] ∧ Av Z h wk .long [(.long (((((0 : Int64) ||| (((x0.toInt64) - (l0.toInt64)) <<< (s0 &&& 0x3f).toInt64)) ||| (((x1.toInt64) - (l1.toInt64)) <<< (s1 &&& 0x3f).toInt64)) ||| (((x2.toInt64) - (l2.toInt64)) <<< (s2 &&& 0x3f).toInt64)) ||| (((x3.toInt64) - (l3.toInt64)) <<< (s3 &&& 0x3f).toInt64))), (.long k1), (.long k2), (.long k3)]) := by
 refine Rm.of (plainFor_of_name pn_3) ?_
 intro p e s m below meth cc T X hnm hret hlk
 refine Go.at_ (ef_rPk00 m a0 wv wk (0 : Int32)) ?_
 have N := Fr.nil n0
 have Kp := Keep.refl h0 [wk]
 refine g_iconst X (0 : Int32) d9_0 (pc' := 1) rfl rfl ?_
 refine g_istore X d9_1 (pc' := 3) (Ls' := #[.val (.ref a0), .val (.ref wv), .val (.ref wk), .val (.int (0 : Int32)), .val (.int (0 : Int32))]) rfl rfl ?_
 refine g_iload X d9_3 (pc' := 5) rfl rfl ?_
 refine g_aloadN X d9_5 (pc' := 6) rfl rfl rfl ?_
 refine g_getfield X (host := "") (Or.inl (tb hw 44 rfl)) Via.refl ql d9_6 (pc' := 9) rfl ?_
 intro T X
 refine g_icN X d9_9 (tlt (show (0 : Int32) < (1 : Int32) from (by decide))).2.1 (pc' := 12) rfl ?_
 refine g_aloadN X d9_12 (pc' := 13) rfl rfl rfl ?_
 refine g_iloadN X d9_13 (pc' := 14) rfl rfl ?_
 refine g_iload X d9_14 (pc' := 16) rfl rfl ?_
 refine g_iadd X d9_16 (pc' := 17) rfl ?_
 refine Go.lit32 (z := (0 : Int32)) (by decide) ?_
 refine g_lconst X (0 : Int64) d9_17 (pc' := 18) rfl rfl ?_
 refine g_lastore X qa 0 d9_18 (pc' := 19) rfl (by decide) (by decide) (Nat.le_of_ble_eq_true rfl) ?_
 intro T h X W qa
 replace qa : Av Z h wk .long [(.long (0 : Int64)), (.long k1), (.long k2), (.long k3)] := qa
 replace qd := qd.other W (Or.inl qc)
 replace qe := qe.other W (Or.inl qc)
 replace qf := qf.other W (Or.inl qc)
 replace ql := ql.other W (Or.inl qc)
 replace qg := qg.other W qm
 replace qh := qh.other W qn
 replace qi := qi.other W qo
 replace qb := qb.other W qk
 replace Z0 := Nat.le_trans Z0 (Nat.le_of_eq W.size.symm)
 replace N := Fr.snoc X.1 N qj
 replace Kp := Kp.wr W (Or.inl (List.mem_of_getElem? (i := 0) rfl))
 refine g_iinc X d9_19 (pc' := 22) (q := (1 : Int32)) (Ls' := #[.val (.ref a0), .val (.ref wv), .val (.ref wk), .val (.int (0 : Int32)), .val (.int (1 : Int32))]) rfl rfl rfl rfl ?_
 refine g_goto X d9_22 (pc' := 3) (by decide) (by decide) ?_
 refine g_iload X d9_3 (pc' := 5) rfl rfl ?_
 refine g_aloadN X d9_5 (pc' := 6) rfl rfl rfl ?_
 refine g_getfield X (host := "") (Or.inl (tb hw 44 rfl)) Via.refl ql d9_6 (pc' := 9) rfl ?_
 intro T X
 refine g_icY X d9_9 (flt (show ¬ ((1 : Int32) < (1 : Int32)) from (by decide))).2.1 (pc' := 25) (by decide) (by decide) ?_
 refine g_iconst X (0 : Int32) d9_25 (pc' := 26) rfl rfl ?_
 refine g_istore X d9_26 (pc' := 28) (Ls' := #[.val (.ref a0), .val (.ref wv), .val (.ref wk), .val (.int (0 : Int32)), .val (.int (0 : Int32))]) rfl rfl ?_
 refine g_iload X d9_28 (pc' := 30) rfl rfl ?_
 refine g_aloadN X d9_30 (pc' := 31) rfl rfl rfl ?_
 refine g_arraylength X qb d9_31 (pc' := 32) rfl (z := (4 : Int32)) rfl ?_
 refine g_icN X d9_32 (tlt (show (0 : Int32) < (4 : Int32) from (by decide))).2.1 (pc' := 35) rfl ?_
 refine g_aloadN X d9_35 (pc' := 36) rfl rfl rfl ?_
 refine g_iloadN X d9_36 (pc' := 37) rfl rfl ?_
 refine g_aloadN X d9_37 (pc' := 38) rfl rfl rfl ?_
 refine g_getfield X (host := "") (Or.inl (tb hw 28 rfl)) Via.refl qe d9_38 (pc' := 41) rfl ?_
 intro T X
 refine g_iload X d9_41 (pc' := 43) rfl rfl ?_
 refine g_iaload X qh 0 d9_43 (pc' := 44) rfl (by decide) (by decide) rfl ?_
 refine g_iadd X d9_44 (pc' := 45) rfl ?_
 refine Go.lit32 (z := (0 : Int32)) (by decide) ?_
 refine g_dup2 X d9_45 (pc' := 46) rfl rfl rfl ?_
 refine g_laload X qa 0 d9_46 (pc' := 47) rfl (by decide) (by decide) rfl ?_
 refine g_aloadN X d9_47 (pc' := 48) rfl rfl rfl ?_
 refine g_iload X d9_48 (pc' := 50) rfl rfl ?_
 refine g_iaload X qb 0 d9_50 (pc' := 51) rfl (by decide) (by decide) rfl ?_
 refine g_i2l X d9_51 (pc' := 52) rfl ?_
 refine g_aloadN X d9_52 (pc' := 53) rfl rfl rfl ?_
 refine g_getfield X (host := "") (Or.inl (tb hw 26 rfl)) Via.refl qd d9_53 (pc' := 56) rfl ?_
 intro T X
 refine g_iload X d9_56 (pc' := 58) rfl rfl ?_
 refine g_iaload X qg 0 d9_58 (pc' := 59) rfl (by decide) (by decide) rfl ?_
 refine g_i2l X d9_59 (pc' := 60) rfl ?_
 refine g_lsub X d9_60 (pc' := 61) rfl ?_
 refine g_aloadN X d9_61 (pc' := 62) rfl rfl rfl ?_
 refine g_getfield X (host := "") (Or.inl (tb hw 30 rfl)) Via.refl qf d9_62 (pc' := 65) rfl ?_
 intro T X
 refine g_iload X d9_65 (pc' := 67) rfl rfl ?_
 refine g_iaload X qi 0 d9_67 (pc' := 68) rfl (by decide) (by decide) rfl ?_
 refine g_lshl X d9_68 (pc' := 69) rfl ?_
 refine g_lor X d9_69 (pc' := 70) rfl ?_
 generalize qs : ((0 : Int64) ||| (((x0.toInt64) - (l0.toInt64)) <<< (s0 &&& 0x3f).toInt64)) = qp
 refine g_lastore X qa 0 d9_70 (pc' := 71) rfl (by decide) (by decide) (Nat.le_of_ble_eq_true rfl) ?_
 intro T h X W qa
 replace qa : Av Z h wk .long [(.long qp), (.long k1), (.long k2), (.long k3)] := qa
 replace qd := qd.other W (Or.inl qc)
 replace qe := qe.other W (Or.inl qc)
 replace qf := qf.other W (Or.inl qc)
 replace qg := qg.other W qm
 replace qh := qh.other W qn
 replace qi := qi.other W qo
 replace qb := qb.other W qk
 replace Z0 := Nat.le_trans Z0 (Nat.le_of_eq W.size.symm)
 replace N := Fr.snoc X.1 N qj
 replace Kp := Kp.wr W (Or.inl (List.mem_of_getElem? (i := 0) rfl))
 refine g_iinc X d9_71 (pc' := 74) (q := (1 : Int32)) (Ls' := #[.val (.ref a0), .val (.ref wv), .val (.ref wk), .val (.int (0 : Int32)), .val (.int (1 : Int32))]) rfl rfl rfl rfl ?_
 refine g_goto X d9_74 (pc' := 28) (by decide) (by decide) ?_
 refine g_iload X d9_28 (pc' := 30) rfl rfl ?_
 refine g_aloadN X d9_30 (pc' := 31) rfl rfl rfl ?_
 refine g_arraylength X qb d9_31 (pc' := 32) rfl (z := (4 : Int32)) rfl ?_
 refine g_icN X d9_32 (tlt (show (1 : Int32) < (4 : Int32) from (by decide))).2.1 (pc' := 35) rfl ?_
 refine g_aloadN X d9_35 (pc' := 36) rfl rfl rfl ?_
 refine g_iloadN X d9_36 (pc' := 37) rfl rfl ?_
 refine g_aloadN X d9_37 (pc' := 38) rfl rfl rfl ?_
 refine g_getfield X (host := "") (Or.inl (tb hw 28 rfl)) Via.refl qe d9_38 (pc' := 41) rfl ?_
 intro T X
 refine g_iload X d9_41 (pc' := 43) rfl rfl ?_
 refine g_iaload X qh 1 d9_43 (pc' := 44) rfl (by decide) (by decide) rfl ?_
 refine g_iadd X d9_44 (pc' := 45) rfl ?_
 refine Go.lit32 (z := (0 : Int32)) (by decide) ?_
 refine g_dup2 X d9_45 (pc' := 46) rfl rfl rfl ?_
 refine g_laload X qa 0 d9_46 (pc' := 47) rfl (by decide) (by decide) rfl ?_
 refine g_aloadN X d9_47 (pc' := 48) rfl rfl rfl ?_
 refine g_iload X d9_48 (pc' := 50) rfl rfl ?_
 refine g_iaload X qb 1 d9_50 (pc' := 51) rfl (by decide) (by decide) rfl ?_
 refine g_i2l X d9_51 (pc' := 52) rfl ?_
 refine g_aloadN X d9_52 (pc' := 53) rfl rfl rfl ?_
 refine g_getfield X (host := "") (Or.inl (tb hw 26 rfl)) Via.refl qd d9_53 (pc' := 56) rfl ?_
 intro T X
 refine g_iload X d9_56 (pc' := 58) rfl rfl ?_
 refine g_iaload X qg 1 d9_58 (pc' := 59) rfl (by decide) (by decide) rfl ?_
 refine g_i2l X d9_59 (pc' := 60) rfl ?_
 refine g_lsub X d9_60 (pc' := 61) rfl ?_
 refine g_aloadN X d9_61 (pc' := 62) rfl rfl rfl ?_
 refine g_getfield X (host := "") (Or.inl (tb hw 30 rfl)) Via.refl qf d9_62 (pc' := 65) rfl ?_
 intro T X
 refine g_iload X d9_65 (pc' := 67) rfl rfl ?_
 refine g_iaload X qi 1 d9_67 (pc' := 68) rfl (by decide) (by decide) rfl ?_
 refine g_lshl X d9_68 (pc' := 69) rfl ?_
 refine g_lor X d9_69 (pc' := 70) rfl ?_
 generalize qt : (qp ||| (((x1.toInt64) - (l1.toInt64)) <<< (s1 &&& 0x3f).toInt64)) = qq
 refine g_lastore X qa 0 d9_70 (pc' := 71) rfl (by decide) (by decide) (Nat.le_of_ble_eq_true rfl) ?_
 intro T h X W qa
 replace qa : Av Z h wk .long [(.long qq), (.long k1), (.long k2), (.long k3)] := qa
 replace qd := qd.other W (Or.inl qc)
 replace qe := qe.other W (Or.inl qc)
 replace qf := qf.other W (Or.inl qc)
 replace qg := qg.other W qm
 replace qh := qh.other W qn
 replace qi := qi.other W qo
 replace qb := qb.other W qk
 replace Z0 := Nat.le_trans Z0 (Nat.le_of_eq W.size.symm)
 replace N := Fr.snoc X.1 N qj
 replace Kp := Kp.wr W (Or.inl (List.mem_of_getElem? (i := 0) rfl))
 refine g_iinc X d9_71 (pc' := 74) (q := (1 : Int32)) (Ls' := #[.val (.ref a0), .val (.ref wv), .val (.ref wk), .val (.int (0 : Int32)), .val (.int (2 : Int32))]) rfl rfl rfl rfl ?_
 refine g_goto X d9_74 (pc' := 28) (by decide) (by decide) ?_
 refine g_iload X d9_28 (pc' := 30) rfl rfl ?_
 refine g_aloadN X d9_30 (pc' := 31) rfl rfl rfl ?_
 refine g_arraylength X qb d9_31 (pc' := 32) rfl (z := (4 : Int32)) rfl ?_
 refine g_icN X d9_32 (tlt (show (2 : Int32) < (4 : Int32) from (by decide))).2.1 (pc' := 35) rfl ?_
 refine g_aloadN X d9_35 (pc' := 36) rfl rfl rfl ?_
 refine g_iloadN X d9_36 (pc' := 37) rfl rfl ?_
 refine g_aloadN X d9_37 (pc' := 38) rfl rfl rfl ?_
 refine g_getfield X (host := "") (Or.inl (tb hw 28 rfl)) Via.refl qe d9_38 (pc' := 41) rfl ?_
 intro T X
 refine g_iload X d9_41 (pc' := 43) rfl rfl ?_
 refine g_iaload X qh 2 d9_43 (pc' := 44) rfl (by decide) (by decide) rfl ?_
 refine g_iadd X d9_44 (pc' := 45) rfl ?_
 refine Go.lit32 (z := (0 : Int32)) (by decide) ?_
 refine g_dup2 X d9_45 (pc' := 46) rfl rfl rfl ?_
 refine g_laload X qa 0 d9_46 (pc' := 47) rfl (by decide) (by decide) rfl ?_
 refine g_aloadN X d9_47 (pc' := 48) rfl rfl rfl ?_
 refine g_iload X d9_48 (pc' := 50) rfl rfl ?_
 refine g_iaload X qb 2 d9_50 (pc' := 51) rfl (by decide) (by decide) rfl ?_
 refine g_i2l X d9_51 (pc' := 52) rfl ?_
 refine g_aloadN X d9_52 (pc' := 53) rfl rfl rfl ?_
 refine g_getfield X (host := "") (Or.inl (tb hw 26 rfl)) Via.refl qd d9_53 (pc' := 56) rfl ?_
 intro T X
 refine g_iload X d9_56 (pc' := 58) rfl rfl ?_
 refine g_iaload X qg 2 d9_58 (pc' := 59) rfl (by decide) (by decide) rfl ?_
 refine g_i2l X d9_59 (pc' := 60) rfl ?_
 refine g_lsub X d9_60 (pc' := 61) rfl ?_
 refine g_aloadN X d9_61 (pc' := 62) rfl rfl rfl ?_
 refine g_getfield X (host := "") (Or.inl (tb hw 30 rfl)) Via.refl qf d9_62 (pc' := 65) rfl ?_
 intro T X
 refine g_iload X d9_65 (pc' := 67) rfl rfl ?_
 refine g_iaload X qi 2 d9_67 (pc' := 68) rfl (by decide) (by decide) rfl ?_
 refine g_lshl X d9_68 (pc' := 69) rfl ?_
 refine g_lor X d9_69 (pc' := 70) rfl ?_
 generalize qu : (qq ||| (((x2.toInt64) - (l2.toInt64)) <<< (s2 &&& 0x3f).toInt64)) = qr
 refine g_lastore X qa 0 d9_70 (pc' := 71) rfl (by decide) (by decide) (Nat.le_of_ble_eq_true rfl) ?_
 intro T h X W qa
 replace qa : Av Z h wk .long [(.long qr), (.long k1), (.long k2), (.long k3)] := qa
 replace qd := qd.other W (Or.inl qc)
 replace qe := qe.other W (Or.inl qc)
 replace qf := qf.other W (Or.inl qc)
 replace qg := qg.other W qm
 replace qh := qh.other W qn
 replace qi := qi.other W qo
 replace qb := qb.other W qk
 replace Z0 := Nat.le_trans Z0 (Nat.le_of_eq W.size.symm)
 replace N := Fr.snoc X.1 N qj
 replace Kp := Kp.wr W (Or.inl (List.mem_of_getElem? (i := 0) rfl))
 refine g_iinc X d9_71 (pc' := 74) (q := (1 : Int32)) (Ls' := #[.val (.ref a0), .val (.ref wv), .val (.ref wk), .val (.int (0 : Int32)), .val (.int (3 : Int32))]) rfl rfl rfl rfl ?_
 refine g_goto X d9_74 (pc' := 28) (by decide) (by decide) ?_
 refine g_iload X d9_28 (pc' := 30) rfl rfl ?_
 refine g_aloadN X d9_30 (pc' := 31) rfl rfl rfl ?_
 refine g_arraylength X qb d9_31 (pc' := 32) rfl (z := (4 : Int32)) rfl ?_
 refine g_icN X d9_32 (tlt (show (3 : Int32) < (4 : Int32) from (by decide))).2.1 (pc' := 35) rfl ?_
 refine g_aloadN X d9_35 (pc' := 36) rfl rfl rfl ?_
 refine g_iloadN X d9_36 (pc' := 37) rfl rfl ?_
 refine g_aloadN X d9_37 (pc' := 38) rfl rfl rfl ?_
 refine g_getfield X (host := "") (Or.inl (tb hw 28 rfl)) Via.refl qe d9_38 (pc' := 41) rfl ?_
 intro T X
 refine g_iload X d9_41 (pc' := 43) rfl rfl ?_
 refine g_iaload X qh 3 d9_43 (pc' := 44) rfl (by decide) (by decide) rfl ?_
 refine g_iadd X d9_44 (pc' := 45) rfl ?_
 refine Go.lit32 (z := (0 : Int32)) (by decide) ?_
 refine g_dup2 X d9_45 (pc' := 46) rfl rfl rfl ?_
 refine g_laload X qa 0 d9_46 (pc' := 47) rfl (by decide) (by decide) rfl ?_
 refine g_aloadN X d9_47 (pc' := 48) rfl rfl rfl ?_
 refine g_iload X d9_48 (pc' := 50) rfl rfl ?_
 refine g_iaload X qb 3 d9_50 (pc' := 51) rfl (by decide) (by decide) rfl ?_
 refine g_i2l X d9_51 (pc' := 52) rfl ?_
 refine g_aloadN X d9_52 (pc' := 53) rfl rfl rfl ?_
 refine g_getfield X (host := "") (Or.inl (tb hw 26 rfl)) Via.refl qd d9_53 (pc' := 56) rfl ?_
 intro T X
 refine g_iload X d9_56 (pc' := 58) rfl rfl ?_
 refine g_iaload X qg 3 d9_58 (pc' := 59) rfl (by decide) (by decide) rfl ?_
 refine g_i2l X d9_59 (pc' := 60) rfl ?_
 refine g_lsub X d9_60 (pc' := 61) rfl ?_
 refine g_aloadN X d9_61 (pc' := 62) rfl rfl rfl ?_
 refine g_getfield X (host := "") (Or.inl (tb hw 30 rfl)) Via.refl qf d9_62 (pc' := 65) rfl ?_
 intro T X
 refine g_iload X d9_65 (pc' := 67) rfl rfl ?_
 refine g_iaload X qi 3 d9_67 (pc' := 68) rfl (by decide) (by decide) rfl ?_
 refine g_lshl X d9_68 (pc' := 69) rfl ?_
 refine g_lor X d9_69 (pc' := 70) rfl ?_
 generalize qv : (qr ||| (((x3.toInt64) - (l3.toInt64)) <<< (s3 &&& 0x3f).toInt64)) = qw
 refine g_lastore X qa 0 d9_70 (pc' := 71) rfl (by decide) (by decide) (Nat.le_of_ble_eq_true rfl) ?_
 intro T h X W qa
 replace qa : Av Z h wk .long [(.long qw), (.long k1), (.long k2), (.long k3)] := qa
 replace qb := qb.other W qk
 replace Z0 := Nat.le_trans Z0 (Nat.le_of_eq W.size.symm)
 replace N := Fr.snoc X.1 N qj
 replace Kp := Kp.wr W (Or.inl (List.mem_of_getElem? (i := 0) rfl))
 refine g_iinc X d9_71 (pc' := 74) (q := (1 : Int32)) (Ls' := #[.val (.ref a0), .val (.ref wv), .val (.ref wk), .val (.int (0 : Int32)), .val (.int (4 : Int32))]) rfl rfl rfl rfl ?_
 refine g_goto X d9_74 (pc' := 28) (by decide) (by decide) ?_
 refine g_iload X d9_28 (pc' := 30) rfl rfl ?_
 refine g_aloadN X d9_30 (pc' := 31) rfl rfl rfl ?_
 refine g_arraylength X qb d9_31 (pc' := 32) rfl (z := (4 : Int32)) rfl ?_
 refine g_icY X d9_32 (flt (show ¬ ((4 : Int32) < (4 : Int32)) from (by decide))).2.1 (pc' := 77) (by decide) (by decide) ?_
 refine g_return X d9_77 hret hlk (by decide) (by decide) ?_
 subst qs qt qu qv
 exact ⟨rfl, N, Kp, qa⟩
theorem d10_0 : decode prog_58_method_4_code 0 = .ok (.iconst 0, 1) := by decide +kernel
theorem d10_1 : decode prog_58_method_4_code 1 = .ok (.istore 4, 2) := by decide +kernel
theorem d10_3 : decode prog_58_method_4_code 3 = .ok (.iload 4, 2) := by decide +kernel
theorem d10_5 : decode prog_58_method_4_code 5 = .ok (.aload_n 3, 1) := by decide +kernel
theorem d10_6 : decode prog_58_method_4_code 6 = .ok (.arraylength, 1) := by decide +kernel
theorem d10_7 : decode prog_58_method_4_code 7 = .ok (.if_icmp .ge 49, 3) := by decide +kernel
theorem d10_10 : decode prog_58_method_4_code 10 = .ok (.aload_n 3, 1) := by decide +kernel
theorem d10_11 : decode prog_58_method_4_code 11 = .ok (.iload 4, 2) := by decide +kernel
theorem d10_13 : decode prog_58_method_4_code 13 = .ok (.aload_n 1, 1) := by decide +kernel
theorem d10_14 : decode prog_58_method_4_code 14 = .ok (.iload_n 2, 1) := by decide +kernel
theorem d10_15 : decode prog_58_method_4_code 15 = .ok (.aload_n 0, 1) := by decide +kernel
theorem d10_16 : decode prog_58_method_4_code 16 = .ok (.getfield 18, 3) := by decide +kernel
theorem d10_19 : decode prog_58_method_4_code 19 = .ok (.iload 4, 2) := by decide +kernel
theorem d10_21 : decode prog_58_method_4_code 21 = .ok (.iaload, 1) := by decide +kernel
theorem d10_22 : decode prog_58_method_4_code 22 = .ok (.iadd, 1) := by decide +kernel
theorem d10_23 : decode prog_58_method_4_code 23 = .ok (.laload, 1) := by decide +kernel
theorem d10_24 : decode prog_58_method_4_code 24 = .ok (.aload_n 0, 1) := by decide +kernel
theorem d10_25 : decode prog_58_method_4_code 25 = .ok (.getfield 21, 3) := by decide +kernel
theorem d10_28 : decode prog_58_method_4_code 28 = .ok (.iload 4, 2) := by decide +kernel
theorem d10_30 : decode prog_58_method_4_code 30 = .ok (.iaload, 1) := by decide +kernel
theorem d10_31 : decode prog_58_method_4_code 31 = .ok (.lushr, 1) := by decide +kernel
theorem d10_32 : decode prog_58_method_4_code 32 = .ok (.aload_n 0, 1) := by decide +kernel
theorem d10_33 : decode prog_58_method_4_code 33 = .ok (.getfield 24, 3) := by decide +kernel
theorem d10_36 : decode prog_58_method_4_code 36 = .ok (.iload 4, 2) := by decide +kernel
theorem d10_38 : decode prog_58_method_4_code 38 = .ok (.laload, 1) := by decide +kernel
theorem d10_39 : decode prog_58_method_4_code 39 = .ok (.land, 1) := by decide +kernel
theorem d10_40 : decode prog_58_method_4_code 40 = .ok (.l2i, 1) := by decide +kernel
theorem d10_41 : decode prog_58_method_4_code 41 = .ok (.aload_n 0, 1) := by decide +kernel
theorem d10_42 : decode prog_58_method_4_code 42 = .ok (.getfield 13, 3) := by decide +kernel
theorem d10_45 : decode prog_58_method_4_code 45 = .ok (.iload 4, 2) := by decide +kernel
theorem d10_47 : decode prog_58_method_4_code 47 = .ok (.iaload, 1) := by decide +kernel
theorem d10_48 : decode prog_58_method_4_code 48 = .ok (.iadd, 1) := by decide +kernel
theorem d10_49 : decode prog_58_method_4_code 49 = .ok (.iastore, 1) := by decide +kernel
theorem d10_50 : decode prog_58_method_4_code 50 = .ok (.iinc 4 1, 3) := by decide +kernel
theorem d10_53 : decode prog_58_method_4_code 53 = .ok (.goto (-50), 3) := by decide +kernel
theorem d10_56 : decode prog_58_method_4_code 56 = .ok (.return_, 1) := by decide +kernel
theorem ef_rUp00 (m : MethodId) (x0 : Addr) (x1 : Addr) (x2 : Int32) (x3 : Addr) : entryFrame m #[(.ref x0), (.ref x1), (.int x2), (.ref x3)] 5 = mkF m 0 #[.val (.ref x0), .val (.ref x1), .val (.int x2), .val (.ref x3), .unset] [] := by first | (simp [entryFrame, mkF, argsToLocals, Value.category]; done) | rfl
set_option maxRecDepth 65536 in
set_option maxHeartbeats 40000000 in
theorem rUp00 (l : Launch) (Z : State) (aa : Array Value) (hw : ∀ d ∈ tables_1, d.before aa Z = true) (ws : List Jvm.Cond) (a0 : Addr) (wk : Addr) (wv : Addr) (wl : Addr) (ww : Addr) (wt : Addr) (wm : Addr) (l0 : Int32) (l1 : Int32) (l2 : Int32) (l3 : Int32) (s0 : Int32) (s1 : Int32) (s2 : Int32) (s3 : Int32) (m0 : Int64) (m1 : Int64) (m2 : Int64) (m3 : Int64) (k0 : Int64) (k1 : Int64) (k2 : Int64) (k3 : Int64) (x0 : Int32) (x1 : Int32) (x2 : Int32) (x3 : Int32) (h0 : Heap) (n0 : Nat) (Z0 : n0 ≤ h0.size) (qz : Exa Z h0 a0 "com/example/ryazan/ryazan/language/Layout") (qc : Fld Z h0 a0 "com/example/ryazan/ryazan/language/Layout" "low" "[I" (.ref wl)) (qd : Fld Z h0 a0 "com/example/ryazan/ryazan/language/Layout" "word" "[I" (.ref ww)) (qe : Fld Z h0 a0 "com/example/ryazan/ryazan/language/Layout" "shift" "[I" (.ref wt)) (qf : Fld Z h0 a0 "com/example/ryazan/ryazan/language/Layout" "mask" "[J" (.ref wm)) (qg : Av Z h0 wl .int [(.int l0), (.int l1), (.int l2), (.int l3)]) (qh : Av Z h0 ww .int [(.int (0 : Int32)), (.int (0 : Int32)), (.int (0 : Int32)), (.int (0 : Int32))]) (qi : Av Z h0 wt .int [(.int s0), (.int s1), (.int s2), (.int s3)]) (qj : Av Z h0 wm .long [(.long m0), (.long m1), (.long m2), (.long m3)]) (qk : Av Z h0 wk .long [(.long k0), (.long k1), (.long k2), (.long k3)]) (qa : Av Z h0 wv .int [(.int x0), (.int x1), (.int x2), (.int x3)]) (ql : n0 ≤ wv) (qb : a0 ≠ wv) (qn : wl ≠ wv) (qo : ww ≠ wv) (qp : wt ≠ wv) (qq : wm ≠ wv) (qr : wk ≠ wv) :
    Rm l Z (⟨"com/example/ryazan/ryazan/language/Layout", "unpack", "([JI[I)V"⟩ : MethodName) prog_58_method_4_code 5 none ws ({ frames := 0, cells := 0, slots := 0, locals := 0 } : Room) #[(.ref a0), (.ref wk), (.int (0 : Int32)), (.ref wv)] h0 (fun v h L => v = none ∧ Fr n0 L ∧ Keep h0 h [wv] ∧ Av Z h wv .int [(.int (((((k0.toUInt64 >>> (s0 &&& 0x3f).toInt64.toUInt64).toInt64) &&& m0).toInt32) + l0)), (.int (((((k0.toUInt64 >>> (s1 &&& 0x3f).toInt64.toUInt64).toInt64) &&& m1).toInt32) + l1)), (.int (((((k0.toUInt64 >>> (s2 &&& 0x3f).toInt64.toUInt64).toInt64) &&& m2).toInt32) + l2)), (.int (((((k0.toUInt64 >>> (s3 &&& 0x3f).toInt64.toUInt64).toInt64) &&& m3).toInt32) + l3))]) := by
 refine Rm.of (plainFor_of_name pn_3) ?_
 intro p e s m below meth cc T X hnm hret hlk
 refine Go.at_ (ef_rUp00 m a0 wk (0 : Int32) wv) ?_
 have N := Fr.nil n0
 have Kp := Keep.refl h0 [wv]
 refine g_iconst X (0 : Int32) d10_0 (pc' := 1) rfl rfl ?_
 refine g_istore X d10_1 (pc' := 3) (Ls' := #[.val (.ref a0), .val (.ref wk), .val (.int (0 : Int32)), .val (.ref wv), .val (.int (0 : Int32))]) rfl rfl ?_
 refine g_iload X d10_3 (pc' := 5) rfl rfl ?_
 refine g_aloadN X d10_5 (pc' := 6) rfl rfl rfl ?_
 refine g_arraylength X qa d10_6 (pc' := 7) rfl (z := (4 : Int32)) rfl ?_
 refine g_icN X d10_7 (tlt (show (0 : Int32) < (4 : Int32) from (by decide))).2.1 (pc' := 10) rfl ?_
 refine g_aloadN X d10_10 (pc' := 11) rfl rfl rfl ?_
 refine g_iload X d10_11 (pc' := 13) rfl rfl ?_
 refine g_aloadN X d10_13 (pc' := 14) rfl rfl rfl ?_
 refine g_iloadN X d10_14 (pc' := 15) rfl rfl ?_
 refine g_aloadN X d10_15 (pc' := 16) rfl rfl rfl ?_
 refine g_getfield X (host := "") (Or.inl (tb hw 28 rfl)) Via.refl qd d10_16 (pc' := 19) rfl ?_
 intro T X
 refine g_iload X d10_19 (pc' := 21) rfl rfl ?_
 refine g_iaload X qh 0 d10_21 (pc' := 22) rfl (by decide) (by decide) rfl ?_
 refine g_iadd X d10_22 (pc' := 23) rfl ?_
 refine Go.lit32 (z := (0 : Int32)) (by decide) ?_
 refine g_laload X qk 0 d10_23 (pc' := 24) rfl (by decide) (by decide) rfl ?_
 refine g_aloadN X d10_24 (pc' := 25) rfl rfl rfl ?_
 refine g_getfield X (host := "") (Or.inl (tb hw 30 rfl)) Via.refl qe d10_25 (pc' := 28) rfl ?_
 intro T X
 refine g_iload X d10_28 (pc' := 30) rfl rfl ?_
 refine g_iaload X qi 0 d10_30 (pc' := 31) rfl (by decide) (by decide) rfl ?_
 refine g_lushr X d10_31 (pc' := 32) rfl ?_
 refine g_aloadN X d10_32 (pc' := 33) rfl rfl rfl ?_
 refine g_getfield X (host := "") (Or.inl (tb hw 33 rfl)) Via.refl qf d10_33 (pc' := 36) rfl ?_
 intro T X
 refine g_iload X d10_36 (pc' := 38) rfl rfl ?_
 refine g_laload X qj 0 d10_38 (pc' := 39) rfl (by decide) (by decide) rfl ?_
 refine g_land X d10_39 (pc' := 40) rfl ?_
 refine g_l2i X d10_40 (pc' := 41) rfl ?_
 refine g_aloadN X d10_41 (pc' := 42) rfl rfl rfl ?_
 refine g_getfield X (host := "") (Or.inl (tb hw 26 rfl)) Via.refl qc d10_42 (pc' := 45) rfl ?_
 intro T X
 refine g_iload X d10_45 (pc' := 47) rfl rfl ?_
 refine g_iaload X qg 0 d10_47 (pc' := 48) rfl (by decide) (by decide) rfl ?_
 refine g_iadd X d10_48 (pc' := 49) rfl ?_
 generalize qu : (((((k0.toUInt64 >>> (s0 &&& 0x3f).toInt64.toUInt64).toInt64) &&& m0).toInt32) + l0) = qm
 refine g_iastore X qa 0 d10_49 (pc' := 50) rfl (by decide) (by decide) (Nat.le_of_ble_eq_true rfl) ?_
 intro T h X W qa
 replace qa : Av Z h wv .int [(.int qm), (.int x1), (.int x2), (.int x3)] := qa
 replace qc := qc.other W (Or.inl qb)
 replace qd := qd.other W (Or.inl qb)
 replace qe := qe.other W (Or.inl qb)
 replace qf := qf.other W (Or.inl qb)
 replace qg := qg.other W qn
 replace qh := qh.other W qo
 replace qi := qi.other W qp
 replace qj := qj.other W qq
 replace qk := qk.other W qr
 replace Z0 := Nat.le_trans Z0 (Nat.le_of_eq W.size.symm)
 replace N := Fr.snoc X.1 N ql
 replace Kp := Kp.wr W (Or.inl (List.mem_of_getElem? (i := 0) rfl))
 refine g_iinc X d10_50 (pc' := 53) (q := (1 : Int32)) (Ls' := #[.val (.ref a0), .val (.ref wk), .val (.int (0 : Int32)), .val (.ref wv), .val (.int (1 : Int32))]) rfl rfl rfl rfl ?_
 refine g_goto X d10_53 (pc' := 3) (by decide) (by decide) ?_
 refine g_iload X d10_3 (pc' := 5) rfl rfl ?_
 refine g_aloadN X d10_5 (pc' := 6) rfl rfl rfl ?_
 refine g_arraylength X qa d10_6 (pc' := 7) rfl (z := (4 : Int32)) rfl ?_
 refine g_icN X d10_7 (tlt (show (1 : Int32) < (4 : Int32) from (by decide))).2.1 (pc' := 10) rfl ?_
 refine g_aloadN X d10_10 (pc' := 11) rfl rfl rfl ?_
 refine g_iload X d10_11 (pc' := 13) rfl rfl ?_
 refine g_aloadN X d10_13 (pc' := 14) rfl rfl rfl ?_
 refine g_iloadN X d10_14 (pc' := 15) rfl rfl ?_
 refine g_aloadN X d10_15 (pc' := 16) rfl rfl rfl ?_
 refine g_getfield X (host := "") (Or.inl (tb hw 28 rfl)) Via.refl qd d10_16 (pc' := 19) rfl ?_
 intro T X
 refine g_iload X d10_19 (pc' := 21) rfl rfl ?_
 refine g_iaload X qh 1 d10_21 (pc' := 22) rfl (by decide) (by decide) rfl ?_
 refine g_iadd X d10_22 (pc' := 23) rfl ?_
 refine Go.lit32 (z := (0 : Int32)) (by decide) ?_
 refine g_laload X qk 0 d10_23 (pc' := 24) rfl (by decide) (by decide) rfl ?_
 refine g_aloadN X d10_24 (pc' := 25) rfl rfl rfl ?_
 refine g_getfield X (host := "") (Or.inl (tb hw 30 rfl)) Via.refl qe d10_25 (pc' := 28) rfl ?_
 intro T X
 refine g_iload X d10_28 (pc' := 30) rfl rfl ?_
 refine g_iaload X qi 1 d10_30 (pc' := 31) rfl (by decide) (by decide) rfl ?_
 refine g_lushr X d10_31 (pc' := 32) rfl ?_
 refine g_aloadN X d10_32 (pc' := 33) rfl rfl rfl ?_
 refine g_getfield X (host := "") (Or.inl (tb hw 33 rfl)) Via.refl qf d10_33 (pc' := 36) rfl ?_
 intro T X
 refine g_iload X d10_36 (pc' := 38) rfl rfl ?_
 refine g_laload X qj 1 d10_38 (pc' := 39) rfl (by decide) (by decide) rfl ?_
 refine g_land X d10_39 (pc' := 40) rfl ?_
 refine g_l2i X d10_40 (pc' := 41) rfl ?_
 refine g_aloadN X d10_41 (pc' := 42) rfl rfl rfl ?_
 refine g_getfield X (host := "") (Or.inl (tb hw 26 rfl)) Via.refl qc d10_42 (pc' := 45) rfl ?_
 intro T X
 refine g_iload X d10_45 (pc' := 47) rfl rfl ?_
 refine g_iaload X qg 1 d10_47 (pc' := 48) rfl (by decide) (by decide) rfl ?_
 refine g_iadd X d10_48 (pc' := 49) rfl ?_
 generalize qv : (((((k0.toUInt64 >>> (s1 &&& 0x3f).toInt64.toUInt64).toInt64) &&& m1).toInt32) + l1) = qs
 refine g_iastore X qa 1 d10_49 (pc' := 50) rfl (by decide) (by decide) (Nat.le_of_ble_eq_true rfl) ?_
 intro T h X W qa
 replace qa : Av Z h wv .int [(.int qm), (.int qs), (.int x2), (.int x3)] := qa
 replace qc := qc.other W (Or.inl qb)
 replace qd := qd.other W (Or.inl qb)
 replace qe := qe.other W (Or.inl qb)
 replace qf := qf.other W (Or.inl qb)
 replace qg := qg.other W qn
 replace qh := qh.other W qo
 replace qi := qi.other W qp
 replace qj := qj.other W qq
 replace qk := qk.other W qr
 replace Z0 := Nat.le_trans Z0 (Nat.le_of_eq W.size.symm)
 replace N := Fr.snoc X.1 N ql
 replace Kp := Kp.wr W (Or.inl (List.mem_of_getElem? (i := 0) rfl))
 refine g_iinc X d10_50 (pc' := 53) (q := (1 : Int32)) (Ls' := #[.val (.ref a0), .val (.ref wk), .val (.int (0 : Int32)), .val (.ref wv), .val (.int (2 : Int32))]) rfl rfl rfl rfl ?_
 refine g_goto X d10_53 (pc' := 3) (by decide) (by decide) ?_
 refine g_iload X d10_3 (pc' := 5) rfl rfl ?_
 refine g_aloadN X d10_5 (pc' := 6) rfl rfl rfl ?_
 refine g_arraylength X qa d10_6 (pc' := 7) rfl (z := (4 : Int32)) rfl ?_
 refine g_icN X d10_7 (tlt (show (2 : Int32) < (4 : Int32) from (by decide))).2.1 (pc' := 10) rfl ?_
 refine g_aloadN X d10_10 (pc' := 11) rfl rfl rfl ?_
 refine g_iload X d10_11 (pc' := 13) rfl rfl ?_
 refine g_aloadN X d10_13 (pc' := 14) rfl rfl rfl ?_
 refine g_iloadN X d10_14 (pc' := 15) rfl rfl ?_
 refine g_aloadN X d10_15 (pc' := 16) rfl rfl rfl ?_
 refine g_getfield X (host := "") (Or.inl (tb hw 28 rfl)) Via.refl qd d10_16 (pc' := 19) rfl ?_
 intro T X
 refine g_iload X d10_19 (pc' := 21) rfl rfl ?_
 refine g_iaload X qh 2 d10_21 (pc' := 22) rfl (by decide) (by decide) rfl ?_
 refine g_iadd X d10_22 (pc' := 23) rfl ?_
 refine Go.lit32 (z := (0 : Int32)) (by decide) ?_
 refine g_laload X qk 0 d10_23 (pc' := 24) rfl (by decide) (by decide) rfl ?_
 refine g_aloadN X d10_24 (pc' := 25) rfl rfl rfl ?_
 refine g_getfield X (host := "") (Or.inl (tb hw 30 rfl)) Via.refl qe d10_25 (pc' := 28) rfl ?_
 intro T X
 refine g_iload X d10_28 (pc' := 30) rfl rfl ?_
 refine g_iaload X qi 2 d10_30 (pc' := 31) rfl (by decide) (by decide) rfl ?_
 refine g_lushr X d10_31 (pc' := 32) rfl ?_
 refine g_aloadN X d10_32 (pc' := 33) rfl rfl rfl ?_
 refine g_getfield X (host := "") (Or.inl (tb hw 33 rfl)) Via.refl qf d10_33 (pc' := 36) rfl ?_
 intro T X
 refine g_iload X d10_36 (pc' := 38) rfl rfl ?_
 refine g_laload X qj 2 d10_38 (pc' := 39) rfl (by decide) (by decide) rfl ?_
 refine g_land X d10_39 (pc' := 40) rfl ?_
 refine g_l2i X d10_40 (pc' := 41) rfl ?_
 refine g_aloadN X d10_41 (pc' := 42) rfl rfl rfl ?_
 refine g_getfield X (host := "") (Or.inl (tb hw 26 rfl)) Via.refl qc d10_42 (pc' := 45) rfl ?_
 intro T X
 refine g_iload X d10_45 (pc' := 47) rfl rfl ?_
 refine g_iaload X qg 2 d10_47 (pc' := 48) rfl (by decide) (by decide) rfl ?_
 refine g_iadd X d10_48 (pc' := 49) rfl ?_
 generalize qw : (((((k0.toUInt64 >>> (s2 &&& 0x3f).toInt64.toUInt64).toInt64) &&& m2).toInt32) + l2) = qt
 refine g_iastore X qa 2 d10_49 (pc' := 50) rfl (by decide) (by decide) (Nat.le_of_ble_eq_true rfl) ?_
 intro T h X W qa
 replace qa : Av Z h wv .int [(.int qm), (.int qs), (.int qt), (.int x3)] := qa
 replace qc := qc.other W (Or.inl qb)
 replace qd := qd.other W (Or.inl qb)
 replace qe := qe.other W (Or.inl qb)
 replace qf := qf.other W (Or.inl qb)
 replace qg := qg.other W qn
 replace qh := qh.other W qo
 replace qi := qi.other W qp
 replace qj := qj.other W qq
 replace qk := qk.other W qr
 replace Z0 := Nat.le_trans Z0 (Nat.le_of_eq W.size.symm)
 replace N := Fr.snoc X.1 N ql
 replace Kp := Kp.wr W (Or.inl (List.mem_of_getElem? (i := 0) rfl))
 refine g_iinc X d10_50 (pc' := 53) (q := (1 : Int32)) (Ls' := #[.val (.ref a0), .val (.ref wk), .val (.int (0 : Int32)), .val (.ref wv), .val (.int (3 : Int32))]) rfl rfl rfl rfl ?_
 refine g_goto X d10_53 (pc' := 3) (by decide) (by decide) ?_
 refine g_iload X d10_3 (pc' := 5) rfl rfl ?_
 refine g_aloadN X d10_5 (pc' := 6) rfl rfl rfl ?_
 refine g_arraylength X qa d10_6 (pc' := 7) rfl (z := (4 : Int32)) rfl ?_
 refine g_icN X d10_7 (tlt (show (3 : Int32) < (4 : Int32) from (by decide))).2.1 (pc' := 10) rfl ?_
 refine g_aloadN X d10_10 (pc' := 11) rfl rfl rfl ?_
 refine g_iload X d10_11 (pc' := 13) rfl rfl ?_
 refine g_aloadN X d10_13 (pc' := 14) rfl rfl rfl ?_
 refine g_iloadN X d10_14 (pc' := 15) rfl rfl ?_
 refine g_aloadN X d10_15 (pc' := 16) rfl rfl rfl ?_
 refine g_getfield X (host := "") (Or.inl (tb hw 28 rfl)) Via.refl qd d10_16 (pc' := 19) rfl ?_
 intro T X
 refine g_iload X d10_19 (pc' := 21) rfl rfl ?_
 refine g_iaload X qh 3 d10_21 (pc' := 22) rfl (by decide) (by decide) rfl ?_
 refine g_iadd X d10_22 (pc' := 23) rfl ?_
 refine Go.lit32 (z := (0 : Int32)) (by decide) ?_
 refine g_laload X qk 0 d10_23 (pc' := 24) rfl (by decide) (by decide) rfl ?_
 refine g_aloadN X d10_24 (pc' := 25) rfl rfl rfl ?_
 refine g_getfield X (host := "") (Or.inl (tb hw 30 rfl)) Via.refl qe d10_25 (pc' := 28) rfl ?_
 intro T X
 refine g_iload X d10_28 (pc' := 30) rfl rfl ?_
 refine g_iaload X qi 3 d10_30 (pc' := 31) rfl (by decide) (by decide) rfl ?_
 refine g_lushr X d10_31 (pc' := 32) rfl ?_
 refine g_aloadN X d10_32 (pc' := 33) rfl rfl rfl ?_
 refine g_getfield X (host := "") (Or.inl (tb hw 33 rfl)) Via.refl qf d10_33 (pc' := 36) rfl ?_
 intro T X
 refine g_iload X d10_36 (pc' := 38) rfl rfl ?_
 refine g_laload X qj 3 d10_38 (pc' := 39) rfl (by decide) (by decide) rfl ?_
 refine g_land X d10_39 (pc' := 40) rfl ?_
 refine g_l2i X d10_40 (pc' := 41) rfl ?_
 refine g_aloadN X d10_41 (pc' := 42) rfl rfl rfl ?_
 refine g_getfield X (host := "") (Or.inl (tb hw 26 rfl)) Via.refl qc d10_42 (pc' := 45) rfl ?_
 intro T X
 refine g_iload X d10_45 (pc' := 47) rfl rfl ?_
 refine g_iaload X qg 3 d10_47 (pc' := 48) rfl (by decide) (by decide) rfl ?_
 refine g_iadd X d10_48 (pc' := 49) rfl ?_
 generalize qx : (((((k0.toUInt64 >>> (s3 &&& 0x3f).toInt64.toUInt64).toInt64) &&& m3).toInt32) + l3) = qy
 refine g_iastore X qa 3 d10_49 (pc' := 50) rfl (by decide) (by decide) (Nat.le_of_ble_eq_true rfl) ?_
 intro T h X W qa
 replace qa : Av Z h wv .int [(.int qm), (.int qs), (.int qt), (.int qy)] := qa
 replace Z0 := Nat.le_trans Z0 (Nat.le_of_eq W.size.symm)
 replace N := Fr.snoc X.1 N ql
 replace Kp := Kp.wr W (Or.inl (List.mem_of_getElem? (i := 0) rfl))
 refine g_iinc X d10_50 (pc' := 53) (q := (1 : Int32)) (Ls' := #[.val (.ref a0), .val (.ref wk), .val (.int (0 : Int32)), .val (.ref wv), .val (.int (4 : Int32))]) rfl rfl rfl rfl ?_
 refine g_goto X d10_53 (pc' := 3) (by decide) (by decide) ?_
 refine g_iload X d10_3 (pc' := 5) rfl rfl ?_
 refine g_aloadN X d10_5 (pc' := 6) rfl rfl rfl ?_
 refine g_arraylength X qa d10_6 (pc' := 7) rfl (z := (4 : Int32)) rfl ?_
 refine g_icY X d10_7 (flt (show ¬ ((4 : Int32) < (4 : Int32)) from (by decide))).2.1 (pc' := 56) (by decide) (by decide) ?_
 refine g_return X d10_56 hret hlk (by decide) (by decide) ?_
 subst qu qv qw qx
 exact ⟨rfl, N, Kp, qa⟩
theorem ef_rPk01 (m : MethodId) (x0 : Addr) (x1 : Addr) (x2 : Addr) (x3 : Int32) : entryFrame m #[(.ref x0), (.ref x1), (.ref x2), (.int x3)] 5 = mkF m 0 #[.val (.ref x0), .val (.ref x1), .val (.ref x2), .val (.int x3), .unset] [] := by first | (simp [entryFrame, mkF, argsToLocals, Value.category]; done) | rfl
set_option maxRecDepth 65536 in
set_option maxHeartbeats 40000000 in
theorem rPk01 (l : Launch) (Z : State) (aa : Array Value) (hw : ∀ d ∈ tables_1, d.before aa Z = true) (ws : List Jvm.Cond) (a0 : Addr) (wv : Addr) (wk : Addr) (wl : Addr) (ww : Addr) (wt : Addr) (l0 : Int32) (l1 : Int32) (l2 : Int32) (l3 : Int32) (s0 : Int32) (s1 : Int32) (s2 : Int32) (s3 : Int32) (x0 : Int32) (x1 : Int32) (x2 : Int32) (x3 : Int32) (k0 : Int64) (k1 : Int64) (k2 : Int64) (k3 : Int64) (h0 : Heap) (n0 : Nat) (Z0 : n0 ≤ h0.size) (qx : Exa Z h0 a0 "com/example/ryazan/ryazan/language/Layout") (qd : Fld Z h0 a0 "com/example/ryazan/ryazan/language/Layout" "low" "[I" (.ref wl)) (qe : Fld Z h0 a0 "com/example/ryazan/ryazan/language/Layout" "word" "[I" (.ref ww)) (qf : Fld Z h0 a0 "com/example/ryazan/ryazan/language/Layout" "shift" "[I" (.ref wt)) (ql : Fld Z h0 a0 "com/example/ryazan/ryazan/language/Layout" "width" "I" (.int (1 : Int32))) (qg : Av Z h0 wl .int [(.int l0), (.int l1), (.int l2), (.int l3)]) (qh : Av Z h0 ww .int [(.int (0 : Int32)), (.int (0 : Int32)), (.int (0 : Int32)), (.int (0 : Int32))]) (qi : Av Z h0 wt .int [(.int s0), (.int s1), (.int s2), (.int s3)]) (qb : Av Z h0 wv .int [(.int x0), (.int x1), (.int x2), (.int x3)]) (qa : Av Z h0 wk .long [(.long k0), (.long k1), (.long k2), (.long k3)]) (qj : n0 ≤ wk) (qc : a0 ≠ wk) (qm : wl ≠ wk) (qn : ww ≠ wk) (qo : wt ≠ wk) (qk : wv ≠ wk) :
    Rm l Z (⟨"com/example/ryazan/ryazan/language/Layout", "pack", "([I[JI)V"⟩ : MethodName) prog_58_method_3_code 5 none ws ({ frames := 0, cells := 0, slots := 0, locals := 0 } : Room) #[(.ref a0), (.ref wv), (.ref wk), (.int (1 : Int32))] h0 (fun v h L => v = none ∧ Fr n0 L ∧ Keep h0 h [wk] ∧ Av Z h wk .long [(.long k0), (.long (((((0 : Int64) ||| (((x0.toInt64) - (l0.toInt64)) <<< (s0 &&& 0x3f).toInt64)) ||| (((x1.toInt64) - (l1.toInt64)) <<< (s1 &&& 0x3f).toInt64)) ||| (((x2.toInt64) - (l2.toInt64)) <<< (s2 &&& 0x3f).toInt64)) ||| (((x3.toInt64) - (l3.toInt64)) <<< (s3 &&& 0x3f).toInt64))), (.long k2), (.long k3)]) := by
 refine Rm.of (plainFor_of_name pn_3) ?_
 intro p e s m below meth cc T X hnm hret hlk
 refine Go.at_ (ef_rPk01 m a0 wv wk (1 : Int32)) ?_
 have N := Fr.nil n0
 have Kp := Keep.refl h0 [wk]
 refine g_iconst X (0 : Int32) d9_0 (pc' := 1) rfl rfl ?_
 refine g_istore X d9_1 (pc' := 3) (Ls' := #[.val (.ref a0), .val (.ref wv), .val (.ref wk), .val (.int (1 : Int32)), .val (.int (0 : Int32))]) rfl rfl ?_
 refine g_iload X d9_3 (pc' := 5) rfl rfl ?_
 refine g_aloadN X d9_5 (pc' := 6) rfl rfl rfl ?_
 refine g_getfield X (host := "") (Or.inl (tb hw 44 rfl)) Via.refl ql d9_6 (pc' := 9) rfl ?_
 intro T X
 refine g_icN X d9_9 (tlt (show (0 : Int32) < (1 : Int32) from (by decide))).2.1 (pc' := 12) rfl ?_
 refine g_aloadN X d9_12 (pc' := 13) rfl rfl rfl ?_
 refine g_iloadN X d9_13 (pc' := 14) rfl rfl ?_
 refine g_iload X d9_14 (pc' := 16) rfl rfl ?_
 refine g_iadd X d9_16 (pc' := 17) rfl ?_
 refine Go.lit32 (z := (1 : Int32)) (by decide) ?_
 refine g_lconst X (0 : Int64) d9_17 (pc' := 18) rfl rfl ?_
 refine g_lastore X qa 1 d9_18 (pc' := 19) rfl (by decide) (by decide) (Nat.le_of_ble_eq_true rfl) ?_
 intro T h X W qa
 replace qa : Av Z h wk .long [(.long k0), (.long (0 : Int64)), (.long k2), (.long k3)] := qa
 replace qd := qd.other W (Or.inl qc)
 replace qe := qe.other W (Or.inl qc)
 replace qf := qf.other W (Or.inl qc)
 replace ql := ql.other W (Or.inl qc)
 replace qg := qg.other W qm
 replace qh := qh.other W qn
 replace qi := qi.other W qo
 replace qb := qb.other W qk
 replace Z0 := Nat.le_trans Z0 (Nat.le_of_eq W.size.symm)
 replace N := Fr.snoc X.1 N qj
 replace Kp := Kp.wr W (Or.inl (List.mem_of_getElem? (i := 0) rfl))
 refine g_iinc X d9_19 (pc' := 22) (q := (1 : Int32)) (Ls' := #[.val (.ref a0), .val (.ref wv), .val (.ref wk), .val (.int (1 : Int32)), .val (.int (1 : Int32))]) rfl rfl rfl rfl ?_
 refine g_goto X d9_22 (pc' := 3) (by decide) (by decide) ?_
 refine g_iload X d9_3 (pc' := 5) rfl rfl ?_
 refine g_aloadN X d9_5 (pc' := 6) rfl rfl rfl ?_
 refine g_getfield X (host := "") (Or.inl (tb hw 44 rfl)) Via.refl ql d9_6 (pc' := 9) rfl ?_
 intro T X
 refine g_icY X d9_9 (flt (show ¬ ((1 : Int32) < (1 : Int32)) from (by decide))).2.1 (pc' := 25) (by decide) (by decide) ?_
 refine g_iconst X (0 : Int32) d9_25 (pc' := 26) rfl rfl ?_
 refine g_istore X d9_26 (pc' := 28) (Ls' := #[.val (.ref a0), .val (.ref wv), .val (.ref wk), .val (.int (1 : Int32)), .val (.int (0 : Int32))]) rfl rfl ?_
 refine g_iload X d9_28 (pc' := 30) rfl rfl ?_
 refine g_aloadN X d9_30 (pc' := 31) rfl rfl rfl ?_
 refine g_arraylength X qb d9_31 (pc' := 32) rfl (z := (4 : Int32)) rfl ?_
 refine g_icN X d9_32 (tlt (show (0 : Int32) < (4 : Int32) from (by decide))).2.1 (pc' := 35) rfl ?_
 refine g_aloadN X d9_35 (pc' := 36) rfl rfl rfl ?_
 refine g_iloadN X d9_36 (pc' := 37) rfl rfl ?_
 refine g_aloadN X d9_37 (pc' := 38) rfl rfl rfl ?_
 refine g_getfield X (host := "") (Or.inl (tb hw 28 rfl)) Via.refl qe d9_38 (pc' := 41) rfl ?_
 intro T X
 refine g_iload X d9_41 (pc' := 43) rfl rfl ?_
 refine g_iaload X qh 0 d9_43 (pc' := 44) rfl (by decide) (by decide) rfl ?_
 refine g_iadd X d9_44 (pc' := 45) rfl ?_
 refine Go.lit32 (z := (1 : Int32)) (by decide) ?_
 refine g_dup2 X d9_45 (pc' := 46) rfl rfl rfl ?_
 refine g_laload X qa 1 d9_46 (pc' := 47) rfl (by decide) (by decide) rfl ?_
 refine g_aloadN X d9_47 (pc' := 48) rfl rfl rfl ?_
 refine g_iload X d9_48 (pc' := 50) rfl rfl ?_
 refine g_iaload X qb 0 d9_50 (pc' := 51) rfl (by decide) (by decide) rfl ?_
 refine g_i2l X d9_51 (pc' := 52) rfl ?_
 refine g_aloadN X d9_52 (pc' := 53) rfl rfl rfl ?_
 refine g_getfield X (host := "") (Or.inl (tb hw 26 rfl)) Via.refl qd d9_53 (pc' := 56) rfl ?_
 intro T X
 refine g_iload X d9_56 (pc' := 58) rfl rfl ?_
 refine g_iaload X qg 0 d9_58 (pc' := 59) rfl (by decide) (by decide) rfl ?_
 refine g_i2l X d9_59 (pc' := 60) rfl ?_
 refine g_lsub X d9_60 (pc' := 61) rfl ?_
 refine g_aloadN X d9_61 (pc' := 62) rfl rfl rfl ?_
 refine g_getfield X (host := "") (Or.inl (tb hw 30 rfl)) Via.refl qf d9_62 (pc' := 65) rfl ?_
 intro T X
 refine g_iload X d9_65 (pc' := 67) rfl rfl ?_
 refine g_iaload X qi 0 d9_67 (pc' := 68) rfl (by decide) (by decide) rfl ?_
 refine g_lshl X d9_68 (pc' := 69) rfl ?_
 refine g_lor X d9_69 (pc' := 70) rfl ?_
 generalize qs : ((0 : Int64) ||| (((x0.toInt64) - (l0.toInt64)) <<< (s0 &&& 0x3f).toInt64)) = qp
 refine g_lastore X qa 1 d9_70 (pc' := 71) rfl (by decide) (by decide) (Nat.le_of_ble_eq_true rfl) ?_
 intro T h X W qa
 replace qa : Av Z h wk .long [(.long k0), (.long qp), (.long k2), (.long k3)] := qa
 replace qd := qd.other W (Or.inl qc)
 replace qe := qe.other W (Or.inl qc)
 replace qf := qf.other W (Or.inl qc)
 replace qg := qg.other W qm
 replace qh := qh.other W qn
 replace qi := qi.other W qo
 replace qb := qb.other W qk
 replace Z0 := Nat.le_trans Z0 (Nat.le_of_eq W.size.symm)
 replace N := Fr.snoc X.1 N qj
 replace Kp := Kp.wr W (Or.inl (List.mem_of_getElem? (i := 0) rfl))
 refine g_iinc X d9_71 (pc' := 74) (q := (1 : Int32)) (Ls' := #[.val (.ref a0), .val (.ref wv), .val (.ref wk), .val (.int (1 : Int32)), .val (.int (1 : Int32))]) rfl rfl rfl rfl ?_
 refine g_goto X d9_74 (pc' := 28) (by decide) (by decide) ?_
 refine g_iload X d9_28 (pc' := 30) rfl rfl ?_
 refine g_aloadN X d9_30 (pc' := 31) rfl rfl rfl ?_
 refine g_arraylength X qb d9_31 (pc' := 32) rfl (z := (4 : Int32)) rfl ?_
 refine g_icN X d9_32 (tlt (show (1 : Int32) < (4 : Int32) from (by decide))).2.1 (pc' := 35) rfl ?_
 refine g_aloadN X d9_35 (pc' := 36) rfl rfl rfl ?_
 refine g_iloadN X d9_36 (pc' := 37) rfl rfl ?_
 refine g_aloadN X d9_37 (pc' := 38) rfl rfl rfl ?_
 refine g_getfield X (host := "") (Or.inl (tb hw 28 rfl)) Via.refl qe d9_38 (pc' := 41) rfl ?_
 intro T X
 refine g_iload X d9_41 (pc' := 43) rfl rfl ?_
 refine g_iaload X qh 1 d9_43 (pc' := 44) rfl (by decide) (by decide) rfl ?_
 refine g_iadd X d9_44 (pc' := 45) rfl ?_
 refine Go.lit32 (z := (1 : Int32)) (by decide) ?_
 refine g_dup2 X d9_45 (pc' := 46) rfl rfl rfl ?_
 refine g_laload X qa 1 d9_46 (pc' := 47) rfl (by decide) (by decide) rfl ?_
 refine g_aloadN X d9_47 (pc' := 48) rfl rfl rfl ?_
 refine g_iload X d9_48 (pc' := 50) rfl rfl ?_
 refine g_iaload X qb 1 d9_50 (pc' := 51) rfl (by decide) (by decide) rfl ?_
 refine g_i2l X d9_51 (pc' := 52) rfl ?_
 refine g_aloadN X d9_52 (pc' := 53) rfl rfl rfl ?_
 refine g_getfield X (host := "") (Or.inl (tb hw 26 rfl)) Via.refl qd d9_53 (pc' := 56) rfl ?_
 intro T X
 refine g_iload X d9_56 (pc' := 58) rfl rfl ?_
 refine g_iaload X qg 1 d9_58 (pc' := 59) rfl (by decide) (by decide) rfl ?_
 refine g_i2l X d9_59 (pc' := 60) rfl ?_
 refine g_lsub X d9_60 (pc' := 61) rfl ?_
 refine g_aloadN X d9_61 (pc' := 62) rfl rfl rfl ?_
 refine g_getfield X (host := "") (Or.inl (tb hw 30 rfl)) Via.refl qf d9_62 (pc' := 65) rfl ?_
 intro T X
 refine g_iload X d9_65 (pc' := 67) rfl rfl ?_
 refine g_iaload X qi 1 d9_67 (pc' := 68) rfl (by decide) (by decide) rfl ?_
 refine g_lshl X d9_68 (pc' := 69) rfl ?_
 refine g_lor X d9_69 (pc' := 70) rfl ?_
 generalize qt : (qp ||| (((x1.toInt64) - (l1.toInt64)) <<< (s1 &&& 0x3f).toInt64)) = qq
 refine g_lastore X qa 1 d9_70 (pc' := 71) rfl (by decide) (by decide) (Nat.le_of_ble_eq_true rfl) ?_
 intro T h X W qa
 replace qa : Av Z h wk .long [(.long k0), (.long qq), (.long k2), (.long k3)] := qa
 replace qd := qd.other W (Or.inl qc)
 replace qe := qe.other W (Or.inl qc)
 replace qf := qf.other W (Or.inl qc)
 replace qg := qg.other W qm
 replace qh := qh.other W qn
 replace qi := qi.other W qo
 replace qb := qb.other W qk
 replace Z0 := Nat.le_trans Z0 (Nat.le_of_eq W.size.symm)
 replace N := Fr.snoc X.1 N qj
 replace Kp := Kp.wr W (Or.inl (List.mem_of_getElem? (i := 0) rfl))
 refine g_iinc X d9_71 (pc' := 74) (q := (1 : Int32)) (Ls' := #[.val (.ref a0), .val (.ref wv), .val (.ref wk), .val (.int (1 : Int32)), .val (.int (2 : Int32))]) rfl rfl rfl rfl ?_
 refine g_goto X d9_74 (pc' := 28) (by decide) (by decide) ?_
 refine g_iload X d9_28 (pc' := 30) rfl rfl ?_
 refine g_aloadN X d9_30 (pc' := 31) rfl rfl rfl ?_
 refine g_arraylength X qb d9_31 (pc' := 32) rfl (z := (4 : Int32)) rfl ?_
 refine g_icN X d9_32 (tlt (show (2 : Int32) < (4 : Int32) from (by decide))).2.1 (pc' := 35) rfl ?_
 refine g_aloadN X d9_35 (pc' := 36) rfl rfl rfl ?_
 refine g_iloadN X d9_36 (pc' := 37) rfl rfl ?_
 refine g_aloadN X d9_37 (pc' := 38) rfl rfl rfl ?_
 refine g_getfield X (host := "") (Or.inl (tb hw 28 rfl)) Via.refl qe d9_38 (pc' := 41) rfl ?_
 intro T X
 refine g_iload X d9_41 (pc' := 43) rfl rfl ?_
 refine g_iaload X qh 2 d9_43 (pc' := 44) rfl (by decide) (by decide) rfl ?_
 refine g_iadd X d9_44 (pc' := 45) rfl ?_
 refine Go.lit32 (z := (1 : Int32)) (by decide) ?_
 refine g_dup2 X d9_45 (pc' := 46) rfl rfl rfl ?_
 refine g_laload X qa 1 d9_46 (pc' := 47) rfl (by decide) (by decide) rfl ?_
 refine g_aloadN X d9_47 (pc' := 48) rfl rfl rfl ?_
 refine g_iload X d9_48 (pc' := 50) rfl rfl ?_
 refine g_iaload X qb 2 d9_50 (pc' := 51) rfl (by decide) (by decide) rfl ?_
 refine g_i2l X d9_51 (pc' := 52) rfl ?_
 refine g_aloadN X d9_52 (pc' := 53) rfl rfl rfl ?_
 refine g_getfield X (host := "") (Or.inl (tb hw 26 rfl)) Via.refl qd d9_53 (pc' := 56) rfl ?_
 intro T X
 refine g_iload X d9_56 (pc' := 58) rfl rfl ?_
 refine g_iaload X qg 2 d9_58 (pc' := 59) rfl (by decide) (by decide) rfl ?_
 refine g_i2l X d9_59 (pc' := 60) rfl ?_
 refine g_lsub X d9_60 (pc' := 61) rfl ?_
 refine g_aloadN X d9_61 (pc' := 62) rfl rfl rfl ?_
 refine g_getfield X (host := "") (Or.inl (tb hw 30 rfl)) Via.refl qf d9_62 (pc' := 65) rfl ?_
 intro T X
 refine g_iload X d9_65 (pc' := 67) rfl rfl ?_
 refine g_iaload X qi 2 d9_67 (pc' := 68) rfl (by decide) (by decide) rfl ?_
 refine g_lshl X d9_68 (pc' := 69) rfl ?_
 refine g_lor X d9_69 (pc' := 70) rfl ?_
 generalize qu : (qq ||| (((x2.toInt64) - (l2.toInt64)) <<< (s2 &&& 0x3f).toInt64)) = qr
 refine g_lastore X qa 1 d9_70 (pc' := 71) rfl (by decide) (by decide) (Nat.le_of_ble_eq_true rfl) ?_
 intro T h X W qa
 replace qa : Av Z h wk .long [(.long k0), (.long qr), (.long k2), (.long k3)] := qa
 replace qd := qd.other W (Or.inl qc)
 replace qe := qe.other W (Or.inl qc)
 replace qf := qf.other W (Or.inl qc)
 replace qg := qg.other W qm
 replace qh := qh.other W qn
 replace qi := qi.other W qo
 replace qb := qb.other W qk
 replace Z0 := Nat.le_trans Z0 (Nat.le_of_eq W.size.symm)
 replace N := Fr.snoc X.1 N qj
 replace Kp := Kp.wr W (Or.inl (List.mem_of_getElem? (i := 0) rfl))
 refine g_iinc X d9_71 (pc' := 74) (q := (1 : Int32)) (Ls' := #[.val (.ref a0), .val (.ref wv), .val (.ref wk), .val (.int (1 : Int32)), .val (.int (3 : Int32))]) rfl rfl rfl rfl ?_
 refine g_goto X d9_74 (pc' := 28) (by decide) (by decide) ?_
 refine g_iload X d9_28 (pc' := 30) rfl rfl ?_
 refine g_aloadN X d9_30 (pc' := 31) rfl rfl rfl ?_
 refine g_arraylength X qb d9_31 (pc' := 32) rfl (z := (4 : Int32)) rfl ?_
 refine g_icN X d9_32 (tlt (show (3 : Int32) < (4 : Int32) from (by decide))).2.1 (pc' := 35) rfl ?_
 refine g_aloadN X d9_35 (pc' := 36) rfl rfl rfl ?_
 refine g_iloadN X d9_36 (pc' := 37) rfl rfl ?_
 refine g_aloadN X d9_37 (pc' := 38) rfl rfl rfl ?_
 refine g_getfield X (host := "") (Or.inl (tb hw 28 rfl)) Via.refl qe d9_38 (pc' := 41) rfl ?_
 intro T X
 refine g_iload X d9_41 (pc' := 43) rfl rfl ?_
 refine g_iaload X qh 3 d9_43 (pc' := 44) rfl (by decide) (by decide) rfl ?_
 refine g_iadd X d9_44 (pc' := 45) rfl ?_
 refine Go.lit32 (z := (1 : Int32)) (by decide) ?_
 refine g_dup2 X d9_45 (pc' := 46) rfl rfl rfl ?_
 refine g_laload X qa 1 d9_46 (pc' := 47) rfl (by decide) (by decide) rfl ?_
 refine g_aloadN X d9_47 (pc' := 48) rfl rfl rfl ?_
 refine g_iload X d9_48 (pc' := 50) rfl rfl ?_
 refine g_iaload X qb 3 d9_50 (pc' := 51) rfl (by decide) (by decide) rfl ?_
 refine g_i2l X d9_51 (pc' := 52) rfl ?_
 refine g_aloadN X d9_52 (pc' := 53) rfl rfl rfl ?_
 refine g_getfield X (host := "") (Or.inl (tb hw 26 rfl)) Via.refl qd d9_53 (pc' := 56) rfl ?_
 intro T X
 refine g_iload X d9_56 (pc' := 58) rfl rfl ?_
 refine g_iaload X qg 3 d9_58 (pc' := 59) rfl (by decide) (by decide) rfl ?_
 refine g_i2l X d9_59 (pc' := 60) rfl ?_
 refine g_lsub X d9_60 (pc' := 61) rfl ?_
 refine g_aloadN X d9_61 (pc' := 62) rfl rfl rfl ?_
 refine g_getfield X (host := "") (Or.inl (tb hw 30 rfl)) Via.refl qf d9_62 (pc' := 65) rfl ?_
 intro T X
 refine g_iload X d9_65 (pc' := 67) rfl rfl ?_
 refine g_iaload X qi 3 d9_67 (pc' := 68) rfl (by decide) (by decide) rfl ?_
 refine g_lshl X d9_68 (pc' := 69) rfl ?_
 refine g_lor X d9_69 (pc' := 70) rfl ?_
 generalize qv : (qr ||| (((x3.toInt64) - (l3.toInt64)) <<< (s3 &&& 0x3f).toInt64)) = qw
 refine g_lastore X qa 1 d9_70 (pc' := 71) rfl (by decide) (by decide) (Nat.le_of_ble_eq_true rfl) ?_
 intro T h X W qa
 replace qa : Av Z h wk .long [(.long k0), (.long qw), (.long k2), (.long k3)] := qa
 replace qb := qb.other W qk
 replace Z0 := Nat.le_trans Z0 (Nat.le_of_eq W.size.symm)
 replace N := Fr.snoc X.1 N qj
 replace Kp := Kp.wr W (Or.inl (List.mem_of_getElem? (i := 0) rfl))
 refine g_iinc X d9_71 (pc' := 74) (q := (1 : Int32)) (Ls' := #[.val (.ref a0), .val (.ref wv), .val (.ref wk), .val (.int (1 : Int32)), .val (.int (4 : Int32))]) rfl rfl rfl rfl ?_
 refine g_goto X d9_74 (pc' := 28) (by decide) (by decide) ?_
 refine g_iload X d9_28 (pc' := 30) rfl rfl ?_
 refine g_aloadN X d9_30 (pc' := 31) rfl rfl rfl ?_
 refine g_arraylength X qb d9_31 (pc' := 32) rfl (z := (4 : Int32)) rfl ?_
 refine g_icY X d9_32 (flt (show ¬ ((4 : Int32) < (4 : Int32)) from (by decide))).2.1 (pc' := 77) (by decide) (by decide) ?_
 refine g_return X d9_77 hret hlk (by decide) (by decide) ?_
 subst qs qt qu qv
 exact ⟨rfl, N, Kp, qa⟩
theorem ef_rUp01 (m : MethodId) (x0 : Addr) (x1 : Addr) (x2 : Int32) (x3 : Addr) : entryFrame m #[(.ref x0), (.ref x1), (.int x2), (.ref x3)] 5 = mkF m 0 #[.val (.ref x0), .val (.ref x1), .val (.int x2), .val (.ref x3), .unset] [] := by first | (simp [entryFrame, mkF, argsToLocals, Value.category]; done) | rfl
set_option maxRecDepth 65536 in
set_option maxHeartbeats 40000000 in
theorem rUp01 (l : Launch) (Z : State) (aa : Array Value) (hw : ∀ d ∈ tables_1, d.before aa Z = true) (ws : List Jvm.Cond) (a0 : Addr) (wk : Addr) (wv : Addr) (wl : Addr) (ww : Addr) (wt : Addr) (wm : Addr) (l0 : Int32) (l1 : Int32) (l2 : Int32) (l3 : Int32) (s0 : Int32) (s1 : Int32) (s2 : Int32) (s3 : Int32) (m0 : Int64) (m1 : Int64) (m2 : Int64) (m3 : Int64) (k0 : Int64) (k1 : Int64) (k2 : Int64) (k3 : Int64) (x0 : Int32) (x1 : Int32) (x2 : Int32) (x3 : Int32) (h0 : Heap) (n0 : Nat) (Z0 : n0 ≤ h0.size) (qz : Exa Z h0 a0 "com/example/ryazan/ryazan/language/Layout") (qc : Fld Z h0 a0 "com/example/ryazan/ryazan/language/Layout" "low" "[I" (.ref wl)) (qd : Fld Z h0 a0 "com/example/ryazan/ryazan/language/Layout" "word" "[I" (.ref ww)) (qe : Fld Z h0 a0 "com/example/ryazan/ryazan/language/Layout" "shift" "[I" (.ref wt)) (qf : Fld Z h0 a0 "com/example/ryazan/ryazan/language/Layout" "mask" "[J" (.ref wm)) (qg : Av Z h0 wl .int [(.int l0), (.int l1), (.int l2), (.int l3)]) (qh : Av Z h0 ww .int [(.int (0 : Int32)), (.int (0 : Int32)), (.int (0 : Int32)), (.int (0 : Int32))]) (qi : Av Z h0 wt .int [(.int s0), (.int s1), (.int s2), (.int s3)]) (qj : Av Z h0 wm .long [(.long m0), (.long m1), (.long m2), (.long m3)]) (qk : Av Z h0 wk .long [(.long k0), (.long k1), (.long k2), (.long k3)]) (qa : Av Z h0 wv .int [(.int x0), (.int x1), (.int x2), (.int x3)]) (ql : n0 ≤ wv) (qb : a0 ≠ wv) (qn : wl ≠ wv) (qo : ww ≠ wv) (qp : wt ≠ wv) (qq : wm ≠ wv) (qr : wk ≠ wv) :
    Rm l Z (⟨"com/example/ryazan/ryazan/language/Layout", "unpack", "([JI[I)V"⟩ : MethodName) prog_58_method_4_code 5 none ws ({ frames := 0, cells := 0, slots := 0, locals := 0 } : Room) #[(.ref a0), (.ref wk), (.int (1 : Int32)), (.ref wv)] h0 (fun v h L => v = none ∧ Fr n0 L ∧ Keep h0 h [wv] ∧ Av Z h wv .int [(.int (((((k1.toUInt64 >>> (s0 &&& 0x3f).toInt64.toUInt64).toInt64) &&& m0).toInt32) + l0)), (.int (((((k1.toUInt64 >>> (s1 &&& 0x3f).toInt64.toUInt64).toInt64) &&& m1).toInt32) + l1)), (.int (((((k1.toUInt64 >>> (s2 &&& 0x3f).toInt64.toUInt64).toInt64) &&& m2).toInt32) + l2)), (.int (((((k1.toUInt64 >>> (s3 &&& 0x3f).toInt64.toUInt64).toInt64) &&& m3).toInt32) + l3))]) := by
 refine Rm.of (plainFor_of_name pn_3) ?_
 intro p e s m below meth cc T X hnm hret hlk
 refine Go.at_ (ef_rUp01 m a0 wk (1 : Int32) wv) ?_
 have N := Fr.nil n0
 have Kp := Keep.refl h0 [wv]
 refine g_iconst X (0 : Int32) d10_0 (pc' := 1) rfl rfl ?_
 refine g_istore X d10_1 (pc' := 3) (Ls' := #[.val (.ref a0), .val (.ref wk), .val (.int (1 : Int32)), .val (.ref wv), .val (.int (0 : Int32))]) rfl rfl ?_
 refine g_iload X d10_3 (pc' := 5) rfl rfl ?_
 refine g_aloadN X d10_5 (pc' := 6) rfl rfl rfl ?_
 refine g_arraylength X qa d10_6 (pc' := 7) rfl (z := (4 : Int32)) rfl ?_
 refine g_icN X d10_7 (tlt (show (0 : Int32) < (4 : Int32) from (by decide))).2.1 (pc' := 10) rfl ?_
 refine g_aloadN X d10_10 (pc' := 11) rfl rfl rfl ?_
 refine g_iload X d10_11 (pc' := 13) rfl rfl ?_
 refine g_aloadN X d10_13 (pc' := 14) rfl rfl rfl ?_
 refine g_iloadN X d10_14 (pc' := 15) rfl rfl ?_
 refine g_aloadN X d10_15 (pc' := 16) rfl rfl rfl ?_
 refine g_getfield X (host := "") (Or.inl (tb hw 28 rfl)) Via.refl qd d10_16 (pc' := 19) rfl ?_
 intro T X
 refine g_iload X d10_19 (pc' := 21) rfl rfl ?_
 refine g_iaload X qh 0 d10_21 (pc' := 22) rfl (by decide) (by decide) rfl ?_
 refine g_iadd X d10_22 (pc' := 23) rfl ?_
 refine Go.lit32 (z := (1 : Int32)) (by decide) ?_
 refine g_laload X qk 1 d10_23 (pc' := 24) rfl (by decide) (by decide) rfl ?_
 refine g_aloadN X d10_24 (pc' := 25) rfl rfl rfl ?_
 refine g_getfield X (host := "") (Or.inl (tb hw 30 rfl)) Via.refl qe d10_25 (pc' := 28) rfl ?_
 intro T X
 refine g_iload X d10_28 (pc' := 30) rfl rfl ?_
 refine g_iaload X qi 0 d10_30 (pc' := 31) rfl (by decide) (by decide) rfl ?_
 refine g_lushr X d10_31 (pc' := 32) rfl ?_
 refine g_aloadN X d10_32 (pc' := 33) rfl rfl rfl ?_
 refine g_getfield X (host := "") (Or.inl (tb hw 33 rfl)) Via.refl qf d10_33 (pc' := 36) rfl ?_
 intro T X
 refine g_iload X d10_36 (pc' := 38) rfl rfl ?_
 refine g_laload X qj 0 d10_38 (pc' := 39) rfl (by decide) (by decide) rfl ?_
 refine g_land X d10_39 (pc' := 40) rfl ?_
 refine g_l2i X d10_40 (pc' := 41) rfl ?_
 refine g_aloadN X d10_41 (pc' := 42) rfl rfl rfl ?_
 refine g_getfield X (host := "") (Or.inl (tb hw 26 rfl)) Via.refl qc d10_42 (pc' := 45) rfl ?_
 intro T X
 refine g_iload X d10_45 (pc' := 47) rfl rfl ?_
 refine g_iaload X qg 0 d10_47 (pc' := 48) rfl (by decide) (by decide) rfl ?_
 refine g_iadd X d10_48 (pc' := 49) rfl ?_
 generalize qu : (((((k1.toUInt64 >>> (s0 &&& 0x3f).toInt64.toUInt64).toInt64) &&& m0).toInt32) + l0) = qm
 refine g_iastore X qa 0 d10_49 (pc' := 50) rfl (by decide) (by decide) (Nat.le_of_ble_eq_true rfl) ?_
 intro T h X W qa
 replace qa : Av Z h wv .int [(.int qm), (.int x1), (.int x2), (.int x3)] := qa
 replace qc := qc.other W (Or.inl qb)
 replace qd := qd.other W (Or.inl qb)
 replace qe := qe.other W (Or.inl qb)
 replace qf := qf.other W (Or.inl qb)
 replace qg := qg.other W qn
 replace qh := qh.other W qo
 replace qi := qi.other W qp
 replace qj := qj.other W qq
 replace qk := qk.other W qr
 replace Z0 := Nat.le_trans Z0 (Nat.le_of_eq W.size.symm)
 replace N := Fr.snoc X.1 N ql
 replace Kp := Kp.wr W (Or.inl (List.mem_of_getElem? (i := 0) rfl))
 refine g_iinc X d10_50 (pc' := 53) (q := (1 : Int32)) (Ls' := #[.val (.ref a0), .val (.ref wk), .val (.int (1 : Int32)), .val (.ref wv), .val (.int (1 : Int32))]) rfl rfl rfl rfl ?_
 refine g_goto X d10_53 (pc' := 3) (by decide) (by decide) ?_
 refine g_iload X d10_3 (pc' := 5) rfl rfl ?_
 refine g_aloadN X d10_5 (pc' := 6) rfl rfl rfl ?_
 refine g_arraylength X qa d10_6 (pc' := 7) rfl (z := (4 : Int32)) rfl ?_
 refine g_icN X d10_7 (tlt (show (1 : Int32) < (4 : Int32) from (by decide))).2.1 (pc' := 10) rfl ?_
 refine g_aloadN X d10_10 (pc' := 11) rfl rfl rfl ?_
 refine g_iload X d10_11 (pc' := 13) rfl rfl ?_
 refine g_aloadN X d10_13 (pc' := 14) rfl rfl rfl ?_
 refine g_iloadN X d10_14 (pc' := 15) rfl rfl ?_
 refine g_aloadN X d10_15 (pc' := 16) rfl rfl rfl ?_
 refine g_getfield X (host := "") (Or.inl (tb hw 28 rfl)) Via.refl qd d10_16 (pc' := 19) rfl ?_
 intro T X
 refine g_iload X d10_19 (pc' := 21) rfl rfl ?_
 refine g_iaload X qh 1 d10_21 (pc' := 22) rfl (by decide) (by decide) rfl ?_
 refine g_iadd X d10_22 (pc' := 23) rfl ?_
 refine Go.lit32 (z := (1 : Int32)) (by decide) ?_
 refine g_laload X qk 1 d10_23 (pc' := 24) rfl (by decide) (by decide) rfl ?_
 refine g_aloadN X d10_24 (pc' := 25) rfl rfl rfl ?_
 refine g_getfield X (host := "") (Or.inl (tb hw 30 rfl)) Via.refl qe d10_25 (pc' := 28) rfl ?_
 intro T X
 refine g_iload X d10_28 (pc' := 30) rfl rfl ?_
 refine g_iaload X qi 1 d10_30 (pc' := 31) rfl (by decide) (by decide) rfl ?_
 refine g_lushr X d10_31 (pc' := 32) rfl ?_
 refine g_aloadN X d10_32 (pc' := 33) rfl rfl rfl ?_
 refine g_getfield X (host := "") (Or.inl (tb hw 33 rfl)) Via.refl qf d10_33 (pc' := 36) rfl ?_
 intro T X
 refine g_iload X d10_36 (pc' := 38) rfl rfl ?_
 refine g_laload X qj 1 d10_38 (pc' := 39) rfl (by decide) (by decide) rfl ?_
 refine g_land X d10_39 (pc' := 40) rfl ?_
 refine g_l2i X d10_40 (pc' := 41) rfl ?_
 refine g_aloadN X d10_41 (pc' := 42) rfl rfl rfl ?_
 refine g_getfield X (host := "") (Or.inl (tb hw 26 rfl)) Via.refl qc d10_42 (pc' := 45) rfl ?_
 intro T X
 refine g_iload X d10_45 (pc' := 47) rfl rfl ?_
 refine g_iaload X qg 1 d10_47 (pc' := 48) rfl (by decide) (by decide) rfl ?_
 refine g_iadd X d10_48 (pc' := 49) rfl ?_
 generalize qv : (((((k1.toUInt64 >>> (s1 &&& 0x3f).toInt64.toUInt64).toInt64) &&& m1).toInt32) + l1) = qs
 refine g_iastore X qa 1 d10_49 (pc' := 50) rfl (by decide) (by decide) (Nat.le_of_ble_eq_true rfl) ?_
 intro T h X W qa
 replace qa : Av Z h wv .int [(.int qm), (.int qs), (.int x2), (.int x3)] := qa
 replace qc := qc.other W (Or.inl qb)
 replace qd := qd.other W (Or.inl qb)
 replace qe := qe.other W (Or.inl qb)
 replace qf := qf.other W (Or.inl qb)
 replace qg := qg.other W qn
 replace qh := qh.other W qo
 replace qi := qi.other W qp
 replace qj := qj.other W qq
 replace qk := qk.other W qr
 replace Z0 := Nat.le_trans Z0 (Nat.le_of_eq W.size.symm)
 replace N := Fr.snoc X.1 N ql
 replace Kp := Kp.wr W (Or.inl (List.mem_of_getElem? (i := 0) rfl))
 refine g_iinc X d10_50 (pc' := 53) (q := (1 : Int32)) (Ls' := #[.val (.ref a0), .val (.ref wk), .val (.int (1 : Int32)), .val (.ref wv), .val (.int (2 : Int32))]) rfl rfl rfl rfl ?_
 refine g_goto X d10_53 (pc' := 3) (by decide) (by decide) ?_
 refine g_iload X d10_3 (pc' := 5) rfl rfl ?_
 refine g_aloadN X d10_5 (pc' := 6) rfl rfl rfl ?_
 refine g_arraylength X qa d10_6 (pc' := 7) rfl (z := (4 : Int32)) rfl ?_
 refine g_icN X d10_7 (tlt (show (2 : Int32) < (4 : Int32) from (by decide))).2.1 (pc' := 10) rfl ?_
 refine g_aloadN X d10_10 (pc' := 11) rfl rfl rfl ?_
 refine g_iload X d10_11 (pc' := 13) rfl rfl ?_
 refine g_aloadN X d10_13 (pc' := 14) rfl rfl rfl ?_
 refine g_iloadN X d10_14 (pc' := 15) rfl rfl ?_
 refine g_aloadN X d10_15 (pc' := 16) rfl rfl rfl ?_
 refine g_getfield X (host := "") (Or.inl (tb hw 28 rfl)) Via.refl qd d10_16 (pc' := 19) rfl ?_
 intro T X
 refine g_iload X d10_19 (pc' := 21) rfl rfl ?_
 refine g_iaload X qh 2 d10_21 (pc' := 22) rfl (by decide) (by decide) rfl ?_
 refine g_iadd X d10_22 (pc' := 23) rfl ?_
 refine Go.lit32 (z := (1 : Int32)) (by decide) ?_
 refine g_laload X qk 1 d10_23 (pc' := 24) rfl (by decide) (by decide) rfl ?_
 refine g_aloadN X d10_24 (pc' := 25) rfl rfl rfl ?_
 refine g_getfield X (host := "") (Or.inl (tb hw 30 rfl)) Via.refl qe d10_25 (pc' := 28) rfl ?_
 intro T X
 refine g_iload X d10_28 (pc' := 30) rfl rfl ?_
 refine g_iaload X qi 2 d10_30 (pc' := 31) rfl (by decide) (by decide) rfl ?_
 refine g_lushr X d10_31 (pc' := 32) rfl ?_
 refine g_aloadN X d10_32 (pc' := 33) rfl rfl rfl ?_
 refine g_getfield X (host := "") (Or.inl (tb hw 33 rfl)) Via.refl qf d10_33 (pc' := 36) rfl ?_
 intro T X
 refine g_iload X d10_36 (pc' := 38) rfl rfl ?_
 refine g_laload X qj 2 d10_38 (pc' := 39) rfl (by decide) (by decide) rfl ?_
 refine g_land X d10_39 (pc' := 40) rfl ?_
 refine g_l2i X d10_40 (pc' := 41) rfl ?_
 refine g_aloadN X d10_41 (pc' := 42) rfl rfl rfl ?_
 refine g_getfield X (host := "") (Or.inl (tb hw 26 rfl)) Via.refl qc d10_42 (pc' := 45) rfl ?_
 intro T X
 refine g_iload X d10_45 (pc' := 47) rfl rfl ?_
 refine g_iaload X qg 2 d10_47 (pc' := 48) rfl (by decide) (by decide) rfl ?_
 refine g_iadd X d10_48 (pc' := 49) rfl ?_
 generalize qw : (((((k1.toUInt64 >>> (s2 &&& 0x3f).toInt64.toUInt64).toInt64) &&& m2).toInt32) + l2) = qt
 refine g_iastore X qa 2 d10_49 (pc' := 50) rfl (by decide) (by decide) (Nat.le_of_ble_eq_true rfl) ?_
 intro T h X W qa
 replace qa : Av Z h wv .int [(.int qm), (.int qs), (.int qt), (.int x3)] := qa
 replace qc := qc.other W (Or.inl qb)
 replace qd := qd.other W (Or.inl qb)
 replace qe := qe.other W (Or.inl qb)
 replace qf := qf.other W (Or.inl qb)
 replace qg := qg.other W qn
 replace qh := qh.other W qo
 replace qi := qi.other W qp
 replace qj := qj.other W qq
 replace qk := qk.other W qr
 replace Z0 := Nat.le_trans Z0 (Nat.le_of_eq W.size.symm)
 replace N := Fr.snoc X.1 N ql
 replace Kp := Kp.wr W (Or.inl (List.mem_of_getElem? (i := 0) rfl))
 refine g_iinc X d10_50 (pc' := 53) (q := (1 : Int32)) (Ls' := #[.val (.ref a0), .val (.ref wk), .val (.int (1 : Int32)), .val (.ref wv), .val (.int (3 : Int32))]) rfl rfl rfl rfl ?_
 refine g_goto X d10_53 (pc' := 3) (by decide) (by decide) ?_
 refine g_iload X d10_3 (pc' := 5) rfl rfl ?_
 refine g_aloadN X d10_5 (pc' := 6) rfl rfl rfl ?_
 refine g_arraylength X qa d10_6 (pc' := 7) rfl (z := (4 : Int32)) rfl ?_
 refine g_icN X d10_7 (tlt (show (3 : Int32) < (4 : Int32) from (by decide))).2.1 (pc' := 10) rfl ?_
 refine g_aloadN X d10_10 (pc' := 11) rfl rfl rfl ?_
 refine g_iload X d10_11 (pc' := 13) rfl rfl ?_
 refine g_aloadN X d10_13 (pc' := 14) rfl rfl rfl ?_
 refine g_iloadN X d10_14 (pc' := 15) rfl rfl ?_
 refine g_aloadN X d10_15 (pc' := 16) rfl rfl rfl ?_
 refine g_getfield X (host := "") (Or.inl (tb hw 28 rfl)) Via.refl qd d10_16 (pc' := 19) rfl ?_
 intro T X
 refine g_iload X d10_19 (pc' := 21) rfl rfl ?_
 refine g_iaload X qh 3 d10_21 (pc' := 22) rfl (by decide) (by decide) rfl ?_
 refine g_iadd X d10_22 (pc' := 23) rfl ?_
 refine Go.lit32 (z := (1 : Int32)) (by decide) ?_
 refine g_laload X qk 1 d10_23 (pc' := 24) rfl (by decide) (by decide) rfl ?_
 refine g_aloadN X d10_24 (pc' := 25) rfl rfl rfl ?_
 refine g_getfield X (host := "") (Or.inl (tb hw 30 rfl)) Via.refl qe d10_25 (pc' := 28) rfl ?_
 intro T X
 refine g_iload X d10_28 (pc' := 30) rfl rfl ?_
 refine g_iaload X qi 3 d10_30 (pc' := 31) rfl (by decide) (by decide) rfl ?_
 refine g_lushr X d10_31 (pc' := 32) rfl ?_
 refine g_aloadN X d10_32 (pc' := 33) rfl rfl rfl ?_
 refine g_getfield X (host := "") (Or.inl (tb hw 33 rfl)) Via.refl qf d10_33 (pc' := 36) rfl ?_
 intro T X
 refine g_iload X d10_36 (pc' := 38) rfl rfl ?_
 refine g_laload X qj 3 d10_38 (pc' := 39) rfl (by decide) (by decide) rfl ?_
 refine g_land X d10_39 (pc' := 40) rfl ?_
 refine g_l2i X d10_40 (pc' := 41) rfl ?_
 refine g_aloadN X d10_41 (pc' := 42) rfl rfl rfl ?_
 refine g_getfield X (host := "") (Or.inl (tb hw 26 rfl)) Via.refl qc d10_42 (pc' := 45) rfl ?_
 intro T X
 refine g_iload X d10_45 (pc' := 47) rfl rfl ?_
 refine g_iaload X qg 3 d10_47 (pc' := 48) rfl (by decide) (by decide) rfl ?_
 refine g_iadd X d10_48 (pc' := 49) rfl ?_
 generalize qx : (((((k1.toUInt64 >>> (s3 &&& 0x3f).toInt64.toUInt64).toInt64) &&& m3).toInt32) + l3) = qy
 refine g_iastore X qa 3 d10_49 (pc' := 50) rfl (by decide) (by decide) (Nat.le_of_ble_eq_true rfl) ?_
 intro T h X W qa
 replace qa : Av Z h wv .int [(.int qm), (.int qs), (.int qt), (.int qy)] := qa
 replace Z0 := Nat.le_trans Z0 (Nat.le_of_eq W.size.symm)
 replace N := Fr.snoc X.1 N ql
 replace Kp := Kp.wr W (Or.inl (List.mem_of_getElem? (i := 0) rfl))
 refine g_iinc X d10_50 (pc' := 53) (q := (1 : Int32)) (Ls' := #[.val (.ref a0), .val (.ref wk), .val (.int (1 : Int32)), .val (.ref wv), .val (.int (4 : Int32))]) rfl rfl rfl rfl ?_
 refine g_goto X d10_53 (pc' := 3) (by decide) (by decide) ?_
 refine g_iload X d10_3 (pc' := 5) rfl rfl ?_
 refine g_aloadN X d10_5 (pc' := 6) rfl rfl rfl ?_
 refine g_arraylength X qa d10_6 (pc' := 7) rfl (z := (4 : Int32)) rfl ?_
 refine g_icY X d10_7 (flt (show ¬ ((4 : Int32) < (4 : Int32)) from (by decide))).2.1 (pc' := 56) (by decide) (by decide) ?_
 refine g_return X d10_56 hret hlk (by decide) (by decide) ?_
 subst qu qv qw qx
 exact ⟨rfl, N, Kp, qa⟩
theorem ef_rPk10 (m : MethodId) (x0 : Addr) (x1 : Addr) (x2 : Addr) (x3 : Int32) : entryFrame m #[(.ref x0), (.ref x1), (.ref x2), (.int x3)] 5 = mkF m 0 #[.val (.ref x0), .val (.ref x1), .val (.ref x2), .val (.int x3), .unset] [] := by first | (simp [entryFrame, mkF, argsToLocals, Value.category]; done) | rfl
set_option maxRecDepth 65536 in
set_option maxHeartbeats 40000000 in
theorem rPk10 (l : Launch) (Z : State) (aa : Array Value) (hw : ∀ d ∈ tables_1, d.before aa Z = true) (ws : List Jvm.Cond) (a0 : Addr) (wv : Addr) (wk : Addr) (wl : Addr) (ww : Addr) (wt : Addr) (l0 : Int32) (l1 : Int32) (l2 : Int32) (l3 : Int32) (s0 : Int32) (s1 : Int32) (s2 : Int32) (s3 : Int32) (x0 : Int32) (x1 : Int32) (x2 : Int32) (x3 : Int32) (k0 : Int64) (k1 : Int64) (k2 : Int64) (k3 : Int64) (h0 : Heap) (n0 : Nat) (Z0 : n0 ≤ h0.size) (qx : Exa Z h0 a0 "com/example/ryazan/ryazan/language/Layout") (qd : Fld Z h0 a0 "com/example/ryazan/ryazan/language/Layout" "low" "[I" (.ref wl)) (qe : Fld Z h0 a0 "com/example/ryazan/ryazan/language/Layout" "word" "[I" (.ref ww)) (qf : Fld Z h0 a0 "com/example/ryazan/ryazan/language/Layout" "shift" "[I" (.ref wt)) (qj : Fld Z h0 a0 "com/example/ryazan/ryazan/language/Layout" "width" "I" (.int (2 : Int32))) (qg : Av Z h0 wl .int [(.int l0), (.int l1), (.int l2), (.int l3)]) (qh : Av Z h0 ww .int [(.int (0 : Int32)), (.int (0 : Int32)), (.int (0 : Int32)), (.int (1 : Int32))]) (qi : Av Z h0 wt .int [(.int s0), (.int s1), (.int s2), (.int s3)]) (qb : Av Z h0 wv .int [(.int x0), (.int x1), (.int x2), (.int x3)]) (qa : Av Z h0 wk .long [(.long k0), (.long k1), (.long k2), (.long k3)]) (qk : n0 ≤ wk) (qc : a0 ≠ wk) (qm : wl ≠ wk) (qn : ww ≠ wk) (qo : wt ≠ wk) (ql : wv ≠ wk) :
    Rm l Z (⟨"com/example/ryazan/ryazan/language/Layout", "pack", "([I[JI)V"⟩ : MethodName) prog_58_method_3_code 5 none ws ({ frames := 0, cells := 0, slots := 0, locals := 0 } : Room) #[(.ref a0), (.ref wv), (.ref wk), (.int (0 : Int32))] h0 (fun v h L => v = none ∧ Fr n0 L ∧ Keep h0 h [wk] ∧ Av Z h wk .long [(.long ((((0 : Int64) ||| (((x0.toInt64) - (l0.toInt64)) <<< (s0 &&& 0x3f).toInt64)) ||| (((x1.toInt64) - (l1.toInt64)) <<< (s1 &&& 0x3f).toInt64)) ||| (((x2.toInt64) - (l2.toInt64)) <<< (s2 &&& 0x3f).toInt64))), (.long ((0 : Int64) ||| (((x3.toInt64) - (l3.toInt64)) <<< (s3 &&& 0x3f).toInt64))), (.long k2), (.long k3)]) := by
 refine Rm.of (plainFor_of_name pn_3) ?_
 intro p e s m below meth cc T X hnm hret hlk
 refine Go.at_ (ef_rPk10 m a0 wv wk (0 : Int32)) ?_
 have N := Fr.nil n0
 have Kp := Keep.refl h0 [wk]
 refine g_iconst X (0 : Int32) d9_0 (pc' := 1) rfl rfl ?_
 refine g_istore X d9_1 (pc' := 3) (Ls' := #[.val (.ref a0), .val (.ref wv), .val (.ref wk), .val (.int (0 : Int32)), .val (.int (0 : Int32))]) rfl rfl ?_
 refine g_iload X d9_3 (pc' := 5) rfl rfl ?_
 refine g_aloadN X d9_5 (pc' := 6) rfl rfl rfl ?_
 refine g_getfield X (host := "") (Or.inl (tb hw 44 rfl)) Via.refl qj d9_6 (pc' := 9) rfl ?_
 intro T X
 refine g_icN X d9_9 (tlt (show (0 : Int32) < (2 : Int32) from (by decide))).2.1 (pc' := 12) rfl ?_
 refine g_aloadN X d9_12 (pc' := 13) rfl rfl rfl ?_
 refine g_iloadN X d9_13 (pc' := 14) rfl rfl ?_
 refine g_iload X d9_14 (pc' := 16) rfl rfl ?_
 refine g_iadd X d9_16 (pc' := 17) rfl ?_
 refine Go.lit32 (z := (0 : Int32)) (by decide) ?_
 refine g_lconst X (0 : Int64) d9_17 (pc' := 18) rfl rfl ?_
 refine g_lastore X qa 0 d9_18 (pc' := 19) rfl (by decide) (by decide) (Nat.le_of_ble_eq_true rfl) ?_
 intro T h X W qa
 replace qa : Av Z h wk .long [(.long (0 : Int64)), (.long k1), (.long k2), (.long k3)] := qa
 replace qd := qd.other W (Or.inl qc)
 replace qe := qe.other W (Or.inl qc)
 replace qf := qf.other W (Or.inl qc)
 replace qj := qj.other W (Or.inl qc)
 replace qg := qg.other W qm
 replace qh := qh.other W qn
 replace qi := qi.other W qo
 replace qb := qb.other W ql
 replace Z0 := Nat.le_trans Z0 (Nat.le_of_eq W.size.symm)
 replace N := Fr.snoc X.1 N qk
 replace Kp := Kp.wr W (Or.inl (List.mem_of_getElem? (i := 0) rfl))
 refine g_iinc X d9_19 (pc' := 22) (q := (1 : Int32)) (Ls' := #[.val (.ref a0), .val (.ref wv), .val (.ref wk), .val (.int (0 : Int32)), .val (.int (1 : Int32))]) rfl rfl rfl rfl ?_
 refine g_goto X d9_22 (pc' := 3) (by decide) (by decide) ?_
 refine g_iload X d9_3 (pc' := 5) rfl rfl ?_
 refine g_aloadN X d9_5 (pc' := 6) rfl rfl rfl ?_
 refine g_getfield X (host := "") (Or.inl (tb hw 44 rfl)) Via.refl qj d9_6 (pc' := 9) rfl ?_
 intro T X
 refine g_icN X d9_9 (tlt (show (1 : Int32) < (2 : Int32) from (by decide))).2.1 (pc' := 12) rfl ?_
 refine g_aloadN X d9_12 (pc' := 13) rfl rfl rfl ?_
 refine g_iloadN X d9_13 (pc' := 14) rfl rfl ?_
 refine g_iload X d9_14 (pc' := 16) rfl rfl ?_
 refine g_iadd X d9_16 (pc' := 17) rfl ?_
 refine Go.lit32 (z := (1 : Int32)) (by decide) ?_
 refine g_lconst X (0 : Int64) d9_17 (pc' := 18) rfl rfl ?_
 refine g_lastore X qa 1 d9_18 (pc' := 19) rfl (by decide) (by decide) (Nat.le_of_ble_eq_true rfl) ?_
 intro T h X W qa
 replace qa : Av Z h wk .long [(.long (0 : Int64)), (.long (0 : Int64)), (.long k2), (.long k3)] := qa
 replace qd := qd.other W (Or.inl qc)
 replace qe := qe.other W (Or.inl qc)
 replace qf := qf.other W (Or.inl qc)
 replace qj := qj.other W (Or.inl qc)
 replace qg := qg.other W qm
 replace qh := qh.other W qn
 replace qi := qi.other W qo
 replace qb := qb.other W ql
 replace Z0 := Nat.le_trans Z0 (Nat.le_of_eq W.size.symm)
 replace N := Fr.snoc X.1 N qk
 replace Kp := Kp.wr W (Or.inl (List.mem_of_getElem? (i := 0) rfl))
 refine g_iinc X d9_19 (pc' := 22) (q := (1 : Int32)) (Ls' := #[.val (.ref a0), .val (.ref wv), .val (.ref wk), .val (.int (0 : Int32)), .val (.int (2 : Int32))]) rfl rfl rfl rfl ?_
 refine g_goto X d9_22 (pc' := 3) (by decide) (by decide) ?_
 refine g_iload X d9_3 (pc' := 5) rfl rfl ?_
 refine g_aloadN X d9_5 (pc' := 6) rfl rfl rfl ?_
 refine g_getfield X (host := "") (Or.inl (tb hw 44 rfl)) Via.refl qj d9_6 (pc' := 9) rfl ?_
 intro T X
 refine g_icY X d9_9 (flt (show ¬ ((2 : Int32) < (2 : Int32)) from (by decide))).2.1 (pc' := 25) (by decide) (by decide) ?_
 refine g_iconst X (0 : Int32) d9_25 (pc' := 26) rfl rfl ?_
 refine g_istore X d9_26 (pc' := 28) (Ls' := #[.val (.ref a0), .val (.ref wv), .val (.ref wk), .val (.int (0 : Int32)), .val (.int (0 : Int32))]) rfl rfl ?_
 refine g_iload X d9_28 (pc' := 30) rfl rfl ?_
 refine g_aloadN X d9_30 (pc' := 31) rfl rfl rfl ?_
 refine g_arraylength X qb d9_31 (pc' := 32) rfl (z := (4 : Int32)) rfl ?_
 refine g_icN X d9_32 (tlt (show (0 : Int32) < (4 : Int32) from (by decide))).2.1 (pc' := 35) rfl ?_
 refine g_aloadN X d9_35 (pc' := 36) rfl rfl rfl ?_
 refine g_iloadN X d9_36 (pc' := 37) rfl rfl ?_
 refine g_aloadN X d9_37 (pc' := 38) rfl rfl rfl ?_
 refine g_getfield X (host := "") (Or.inl (tb hw 28 rfl)) Via.refl qe d9_38 (pc' := 41) rfl ?_
 intro T X
 refine g_iload X d9_41 (pc' := 43) rfl rfl ?_
 refine g_iaload X qh 0 d9_43 (pc' := 44) rfl (by decide) (by decide) rfl ?_
 refine g_iadd X d9_44 (pc' := 45) rfl ?_
 refine Go.lit32 (z := (0 : Int32)) (by decide) ?_
 refine g_dup2 X d9_45 (pc' := 46) rfl rfl rfl ?_
 refine g_laload X qa 0 d9_46 (pc' := 47) rfl (by decide) (by decide) rfl ?_
 refine g_aloadN X d9_47 (pc' := 48) rfl rfl rfl ?_
 refine g_iload X d9_48 (pc' := 50) rfl rfl ?_
 refine g_iaload X qb 0 d9_50 (pc' := 51) rfl (by decide) (by decide) rfl ?_
 refine g_i2l X d9_51 (pc' := 52) rfl ?_
 refine g_aloadN X d9_52 (pc' := 53) rfl rfl rfl ?_
 refine g_getfield X (host := "") (Or.inl (tb hw 26 rfl)) Via.refl qd d9_53 (pc' := 56) rfl ?_
 intro T X
 refine g_iload X d9_56 (pc' := 58) rfl rfl ?_
 refine g_iaload X qg 0 d9_58 (pc' := 59) rfl (by decide) (by decide) rfl ?_
 refine g_i2l X d9_59 (pc' := 60) rfl ?_
 refine g_lsub X d9_60 (pc' := 61) rfl ?_
 refine g_aloadN X d9_61 (pc' := 62) rfl rfl rfl ?_
 refine g_getfield X (host := "") (Or.inl (tb hw 30 rfl)) Via.refl qf d9_62 (pc' := 65) rfl ?_
 intro T X
 refine g_iload X d9_65 (pc' := 67) rfl rfl ?_
 refine g_iaload X qi 0 d9_67 (pc' := 68) rfl (by decide) (by decide) rfl ?_
 refine g_lshl X d9_68 (pc' := 69) rfl ?_
 refine g_lor X d9_69 (pc' := 70) rfl ?_
 generalize qs : ((0 : Int64) ||| (((x0.toInt64) - (l0.toInt64)) <<< (s0 &&& 0x3f).toInt64)) = qp
 refine g_lastore X qa 0 d9_70 (pc' := 71) rfl (by decide) (by decide) (Nat.le_of_ble_eq_true rfl) ?_
 intro T h X W qa
 replace qa : Av Z h wk .long [(.long qp), (.long (0 : Int64)), (.long k2), (.long k3)] := qa
 replace qd := qd.other W (Or.inl qc)
 replace qe := qe.other W (Or.inl qc)
 replace qf := qf.other W (Or.inl qc)
 replace qg := qg.other W qm
 replace qh := qh.other W qn
 replace qi := qi.other W qo
 replace qb := qb.other W ql
 replace Z0 := Nat.le_trans Z0 (Nat.le_of_eq W.size.symm)
 replace N := Fr.snoc X.1 N qk
 replace Kp := Kp.wr W (Or.inl (List.mem_of_getElem? (i := 0) rfl))
 refine g_iinc X d9_71 (pc' := 74) (q := (1 : Int32)) (Ls' := #[.val (.ref a0), .val (.ref wv), .val (.ref wk), .val (.int (0 : Int32)), .val (.int (1 : Int32))]) rfl rfl rfl rfl ?_
 refine g_goto X d9_74 (pc' := 28) (by decide) (by decide) ?_
 refine g_iload X d9_28 (pc' := 30) rfl rfl ?_
 refine g_aloadN X d9_30 (pc' := 31) rfl rfl rfl ?_
 refine g_arraylength X qb d9_31 (pc' := 32) rfl (z := (4 : Int32)) rfl ?_
 refine g_icN X d9_32 (tlt (show (1 : Int32) < (4 : Int32) from (by decide))).2.1 (pc' := 35) rfl ?_
 refine g_aloadN X d9_35 (pc' := 36) rfl rfl rfl ?_
 refine g_iloadN X d9_36 (pc' := 37) rfl rfl ?_
 refine g_aloadN X d9_37 (pc' := 38) rfl rfl rfl ?_
 refine g_getfield X (host := "") (Or.inl (tb hw 28 rfl)) Via.refl qe d9_38 (pc' := 41) rfl ?_
 intro T X
 refine g_iload X d9_41 (pc' := 43) rfl rfl ?_
 refine g_iaload X qh 1 d9_43 (pc' := 44) rfl (by decide) (by decide) rfl ?_
 refine g_iadd X d9_44 (pc' := 45) rfl ?_
 refine Go.lit32 (z := (0 : Int32)) (by decide) ?_
 refine g_dup2 X d9_45 (pc' := 46) rfl rfl rfl ?_
 refine g_laload X qa 0 d9_46 (pc' := 47) rfl (by decide) (by decide) rfl ?_
 refine g_aloadN X d9_47 (pc' := 48) rfl rfl rfl ?_
 refine g_iload X d9_48 (pc' := 50) rfl rfl ?_
 refine g_iaload X qb 1 d9_50 (pc' := 51) rfl (by decide) (by decide) rfl ?_
 refine g_i2l X d9_51 (pc' := 52) rfl ?_
 refine g_aloadN X d9_52 (pc' := 53) rfl rfl rfl ?_
 refine g_getfield X (host := "") (Or.inl (tb hw 26 rfl)) Via.refl qd d9_53 (pc' := 56) rfl ?_
 intro T X
 refine g_iload X d9_56 (pc' := 58) rfl rfl ?_
 refine g_iaload X qg 1 d9_58 (pc' := 59) rfl (by decide) (by decide) rfl ?_
 refine g_i2l X d9_59 (pc' := 60) rfl ?_
 refine g_lsub X d9_60 (pc' := 61) rfl ?_
 refine g_aloadN X d9_61 (pc' := 62) rfl rfl rfl ?_
 refine g_getfield X (host := "") (Or.inl (tb hw 30 rfl)) Via.refl qf d9_62 (pc' := 65) rfl ?_
 intro T X
 refine g_iload X d9_65 (pc' := 67) rfl rfl ?_
 refine g_iaload X qi 1 d9_67 (pc' := 68) rfl (by decide) (by decide) rfl ?_
 refine g_lshl X d9_68 (pc' := 69) rfl ?_
 refine g_lor X d9_69 (pc' := 70) rfl ?_
 generalize qt : (qp ||| (((x1.toInt64) - (l1.toInt64)) <<< (s1 &&& 0x3f).toInt64)) = qq
 refine g_lastore X qa 0 d9_70 (pc' := 71) rfl (by decide) (by decide) (Nat.le_of_ble_eq_true rfl) ?_
 intro T h X W qa
 replace qa : Av Z h wk .long [(.long qq), (.long (0 : Int64)), (.long k2), (.long k3)] := qa
 replace qd := qd.other W (Or.inl qc)
 replace qe := qe.other W (Or.inl qc)
 replace qf := qf.other W (Or.inl qc)
 replace qg := qg.other W qm
 replace qh := qh.other W qn
 replace qi := qi.other W qo
 replace qb := qb.other W ql
 replace Z0 := Nat.le_trans Z0 (Nat.le_of_eq W.size.symm)
 replace N := Fr.snoc X.1 N qk
 replace Kp := Kp.wr W (Or.inl (List.mem_of_getElem? (i := 0) rfl))
 refine g_iinc X d9_71 (pc' := 74) (q := (1 : Int32)) (Ls' := #[.val (.ref a0), .val (.ref wv), .val (.ref wk), .val (.int (0 : Int32)), .val (.int (2 : Int32))]) rfl rfl rfl rfl ?_
 refine g_goto X d9_74 (pc' := 28) (by decide) (by decide) ?_
 refine g_iload X d9_28 (pc' := 30) rfl rfl ?_
 refine g_aloadN X d9_30 (pc' := 31) rfl rfl rfl ?_
 refine g_arraylength X qb d9_31 (pc' := 32) rfl (z := (4 : Int32)) rfl ?_
 refine g_icN X d9_32 (tlt (show (2 : Int32) < (4 : Int32) from (by decide))).2.1 (pc' := 35) rfl ?_
 refine g_aloadN X d9_35 (pc' := 36) rfl rfl rfl ?_
 refine g_iloadN X d9_36 (pc' := 37) rfl rfl ?_
 refine g_aloadN X d9_37 (pc' := 38) rfl rfl rfl ?_
 refine g_getfield X (host := "") (Or.inl (tb hw 28 rfl)) Via.refl qe d9_38 (pc' := 41) rfl ?_
 intro T X
 refine g_iload X d9_41 (pc' := 43) rfl rfl ?_
 refine g_iaload X qh 2 d9_43 (pc' := 44) rfl (by decide) (by decide) rfl ?_
 refine g_iadd X d9_44 (pc' := 45) rfl ?_
 refine Go.lit32 (z := (0 : Int32)) (by decide) ?_
 refine g_dup2 X d9_45 (pc' := 46) rfl rfl rfl ?_
 refine g_laload X qa 0 d9_46 (pc' := 47) rfl (by decide) (by decide) rfl ?_
 refine g_aloadN X d9_47 (pc' := 48) rfl rfl rfl ?_
 refine g_iload X d9_48 (pc' := 50) rfl rfl ?_
 refine g_iaload X qb 2 d9_50 (pc' := 51) rfl (by decide) (by decide) rfl ?_
 refine g_i2l X d9_51 (pc' := 52) rfl ?_
 refine g_aloadN X d9_52 (pc' := 53) rfl rfl rfl ?_
 refine g_getfield X (host := "") (Or.inl (tb hw 26 rfl)) Via.refl qd d9_53 (pc' := 56) rfl ?_
 intro T X
 refine g_iload X d9_56 (pc' := 58) rfl rfl ?_
 refine g_iaload X qg 2 d9_58 (pc' := 59) rfl (by decide) (by decide) rfl ?_
 refine g_i2l X d9_59 (pc' := 60) rfl ?_
 refine g_lsub X d9_60 (pc' := 61) rfl ?_
 refine g_aloadN X d9_61 (pc' := 62) rfl rfl rfl ?_
 refine g_getfield X (host := "") (Or.inl (tb hw 30 rfl)) Via.refl qf d9_62 (pc' := 65) rfl ?_
 intro T X
 refine g_iload X d9_65 (pc' := 67) rfl rfl ?_
 refine g_iaload X qi 2 d9_67 (pc' := 68) rfl (by decide) (by decide) rfl ?_
 refine g_lshl X d9_68 (pc' := 69) rfl ?_
 refine g_lor X d9_69 (pc' := 70) rfl ?_
 generalize qu : (qq ||| (((x2.toInt64) - (l2.toInt64)) <<< (s2 &&& 0x3f).toInt64)) = qr
 refine g_lastore X qa 0 d9_70 (pc' := 71) rfl (by decide) (by decide) (Nat.le_of_ble_eq_true rfl) ?_
 intro T h X W qa
 replace qa : Av Z h wk .long [(.long qr), (.long (0 : Int64)), (.long k2), (.long k3)] := qa
 replace qd := qd.other W (Or.inl qc)
 replace qe := qe.other W (Or.inl qc)
 replace qf := qf.other W (Or.inl qc)
 replace qg := qg.other W qm
 replace qh := qh.other W qn
 replace qi := qi.other W qo
 replace qb := qb.other W ql
 replace Z0 := Nat.le_trans Z0 (Nat.le_of_eq W.size.symm)
 replace N := Fr.snoc X.1 N qk
 replace Kp := Kp.wr W (Or.inl (List.mem_of_getElem? (i := 0) rfl))
 refine g_iinc X d9_71 (pc' := 74) (q := (1 : Int32)) (Ls' := #[.val (.ref a0), .val (.ref wv), .val (.ref wk), .val (.int (0 : Int32)), .val (.int (3 : Int32))]) rfl rfl rfl rfl ?_
 refine g_goto X d9_74 (pc' := 28) (by decide) (by decide) ?_
 refine g_iload X d9_28 (pc' := 30) rfl rfl ?_
 refine g_aloadN X d9_30 (pc' := 31) rfl rfl rfl ?_
 refine g_arraylength X qb d9_31 (pc' := 32) rfl (z := (4 : Int32)) rfl ?_
 refine g_icN X d9_32 (tlt (show (3 : Int32) < (4 : Int32) from (by decide))).2.1 (pc' := 35) rfl ?_
 refine g_aloadN X d9_35 (pc' := 36) rfl rfl rfl ?_
 refine g_iloadN X d9_36 (pc' := 37) rfl rfl ?_
 refine g_aloadN X d9_37 (pc' := 38) rfl rfl rfl ?_
 refine g_getfield X (host := "") (Or.inl (tb hw 28 rfl)) Via.refl qe d9_38 (pc' := 41) rfl ?_
 intro T X
 refine g_iload X d9_41 (pc' := 43) rfl rfl ?_
 refine g_iaload X qh 3 d9_43 (pc' := 44) rfl (by decide) (by decide) rfl ?_
 refine g_iadd X d9_44 (pc' := 45) rfl ?_
 refine Go.lit32 (z := (1 : Int32)) (by decide) ?_
 refine g_dup2 X d9_45 (pc' := 46) rfl rfl rfl ?_
 refine g_laload X qa 1 d9_46 (pc' := 47) rfl (by decide) (by decide) rfl ?_
 refine g_aloadN X d9_47 (pc' := 48) rfl rfl rfl ?_
 refine g_iload X d9_48 (pc' := 50) rfl rfl ?_
 refine g_iaload X qb 3 d9_50 (pc' := 51) rfl (by decide) (by decide) rfl ?_
 refine g_i2l X d9_51 (pc' := 52) rfl ?_
 refine g_aloadN X d9_52 (pc' := 53) rfl rfl rfl ?_
 refine g_getfield X (host := "") (Or.inl (tb hw 26 rfl)) Via.refl qd d9_53 (pc' := 56) rfl ?_
 intro T X
 refine g_iload X d9_56 (pc' := 58) rfl rfl ?_
 refine g_iaload X qg 3 d9_58 (pc' := 59) rfl (by decide) (by decide) rfl ?_
 refine g_i2l X d9_59 (pc' := 60) rfl ?_
 refine g_lsub X d9_60 (pc' := 61) rfl ?_
 refine g_aloadN X d9_61 (pc' := 62) rfl rfl rfl ?_
 refine g_getfield X (host := "") (Or.inl (tb hw 30 rfl)) Via.refl qf d9_62 (pc' := 65) rfl ?_
 intro T X
 refine g_iload X d9_65 (pc' := 67) rfl rfl ?_
 refine g_iaload X qi 3 d9_67 (pc' := 68) rfl (by decide) (by decide) rfl ?_
 refine g_lshl X d9_68 (pc' := 69) rfl ?_
 refine g_lor X d9_69 (pc' := 70) rfl ?_
 generalize qv : ((0 : Int64) ||| (((x3.toInt64) - (l3.toInt64)) <<< (s3 &&& 0x3f).toInt64)) = qw
 refine g_lastore X qa 1 d9_70 (pc' := 71) rfl (by decide) (by decide) (Nat.le_of_ble_eq_true rfl) ?_
 intro T h X W qa
 replace qa : Av Z h wk .long [(.long qr), (.long qw), (.long k2), (.long k3)] := qa
 replace qb := qb.other W ql
 replace Z0 := Nat.le_trans Z0 (Nat.le_of_eq W.size.symm)
 replace N := Fr.snoc X.1 N qk
 replace Kp := Kp.wr W (Or.inl (List.mem_of_getElem? (i := 0) rfl))
 refine g_iinc X d9_71 (pc' := 74) (q := (1 : Int32)) (Ls' := #[.val (.ref a0), .val (.ref wv), .val (.ref wk), .val (.int (0 : Int32)), .val (.int (4 : Int32))]) rfl rfl rfl rfl ?_
 refine g_goto X d9_74 (pc' := 28) (by decide) (by decide) ?_
 refine g_iload X d9_28 (pc' := 30) rfl rfl ?_
 refine g_aloadN X d9_30 (pc' := 31) rfl rfl rfl ?_
 refine g_arraylength X qb d9_31 (pc' := 32) rfl (z := (4 : Int32)) rfl ?_
 refine g_icY X d9_32 (flt (show ¬ ((4 : Int32) < (4 : Int32)) from (by decide))).2.1 (pc' := 77) (by decide) (by decide) ?_
 refine g_return X d9_77 hret hlk (by decide) (by decide) ?_
 subst qs qt qu qv
 exact ⟨rfl, N, Kp, qa⟩
theorem ef_rUp10 (m : MethodId) (x0 : Addr) (x1 : Addr) (x2 : Int32) (x3 : Addr) : entryFrame m #[(.ref x0), (.ref x1), (.int x2), (.ref x3)] 5 = mkF m 0 #[.val (.ref x0), .val (.ref x1), .val (.int x2), .val (.ref x3), .unset] [] := by first | (simp [entryFrame, mkF, argsToLocals, Value.category]; done) | rfl
set_option maxRecDepth 65536 in
set_option maxHeartbeats 40000000 in
theorem rUp10 (l : Launch) (Z : State) (aa : Array Value) (hw : ∀ d ∈ tables_1, d.before aa Z = true) (ws : List Jvm.Cond) (a0 : Addr) (wk : Addr) (wv : Addr) (wl : Addr) (ww : Addr) (wt : Addr) (wm : Addr) (l0 : Int32) (l1 : Int32) (l2 : Int32) (l3 : Int32) (s0 : Int32) (s1 : Int32) (s2 : Int32) (s3 : Int32) (m0 : Int64) (m1 : Int64) (m2 : Int64) (m3 : Int64) (k0 : Int64) (k1 : Int64) (k2 : Int64) (k3 : Int64) (x0 : Int32) (x1 : Int32) (x2 : Int32) (x3 : Int32) (h0 : Heap) (n0 : Nat) (Z0 : n0 ≤ h0.size) (qz : Exa Z h0 a0 "com/example/ryazan/ryazan/language/Layout") (qc : Fld Z h0 a0 "com/example/ryazan/ryazan/language/Layout" "low" "[I" (.ref wl)) (qd : Fld Z h0 a0 "com/example/ryazan/ryazan/language/Layout" "word" "[I" (.ref ww)) (qe : Fld Z h0 a0 "com/example/ryazan/ryazan/language/Layout" "shift" "[I" (.ref wt)) (qf : Fld Z h0 a0 "com/example/ryazan/ryazan/language/Layout" "mask" "[J" (.ref wm)) (qg : Av Z h0 wl .int [(.int l0), (.int l1), (.int l2), (.int l3)]) (qh : Av Z h0 ww .int [(.int (0 : Int32)), (.int (0 : Int32)), (.int (0 : Int32)), (.int (1 : Int32))]) (qi : Av Z h0 wt .int [(.int s0), (.int s1), (.int s2), (.int s3)]) (qj : Av Z h0 wm .long [(.long m0), (.long m1), (.long m2), (.long m3)]) (qk : Av Z h0 wk .long [(.long k0), (.long k1), (.long k2), (.long k3)]) (qa : Av Z h0 wv .int [(.int x0), (.int x1), (.int x2), (.int x3)]) (ql : n0 ≤ wv) (qb : a0 ≠ wv) (qn : wl ≠ wv) (qo : ww ≠ wv) (qp : wt ≠ wv) (qq : wm ≠ wv) (qr : wk ≠ wv) :
    Rm l Z (⟨"com/example/ryazan/ryazan/language/Layout", "unpack", "([JI[I)V"⟩ : MethodName) prog_58_method_4_code 5 none ws ({ frames := 0, cells := 0, slots := 0, locals := 0 } : Room) #[(.ref a0), (.ref wk), (.int (0 : Int32)), (.ref wv)] h0 (fun v h L => v = none ∧ Fr n0 L ∧ Keep h0 h [wv] ∧ Av Z h wv .int [(.int (((((k0.toUInt64 >>> (s0 &&& 0x3f).toInt64.toUInt64).toInt64) &&& m0).toInt32) + l0)), (.int (((((k0.toUInt64 >>> (s1 &&& 0x3f).toInt64.toUInt64).toInt64) &&& m1).toInt32) + l1)), (.int (((((k0.toUInt64 >>> (s2 &&& 0x3f).toInt64.toUInt64).toInt64) &&& m2).toInt32) + l2)), (.int (((((k1.toUInt64 >>> (s3 &&& 0x3f).toInt64.toUInt64).toInt64) &&& m3).toInt32) + l3))]) := by
 refine Rm.of (plainFor_of_name pn_3) ?_
 intro p e s m below meth cc T X hnm hret hlk
 refine Go.at_ (ef_rUp10 m a0 wk (0 : Int32) wv) ?_
 have N := Fr.nil n0
 have Kp := Keep.refl h0 [wv]
 refine g_iconst X (0 : Int32) d10_0 (pc' := 1) rfl rfl ?_
 refine g_istore X d10_1 (pc' := 3) (Ls' := #[.val (.ref a0), .val (.ref wk), .val (.int (0 : Int32)), .val (.ref wv), .val (.int (0 : Int32))]) rfl rfl ?_
 refine g_iload X d10_3 (pc' := 5) rfl rfl ?_
 refine g_aloadN X d10_5 (pc' := 6) rfl rfl rfl ?_
 refine g_arraylength X qa d10_6 (pc' := 7) rfl (z := (4 : Int32)) rfl ?_
 refine g_icN X d10_7 (tlt (show (0 : Int32) < (4 : Int32) from (by decide))).2.1 (pc' := 10) rfl ?_
 refine g_aloadN X d10_10 (pc' := 11) rfl rfl rfl ?_
 refine g_iload X d10_11 (pc' := 13) rfl rfl ?_
 refine g_aloadN X d10_13 (pc' := 14) rfl rfl rfl ?_
 refine g_iloadN X d10_14 (pc' := 15) rfl rfl ?_
 refine g_aloadN X d10_15 (pc' := 16) rfl rfl rfl ?_
 refine g_getfield X (host := "") (Or.inl (tb hw 28 rfl)) Via.refl qd d10_16 (pc' := 19) rfl ?_
 intro T X
 refine g_iload X d10_19 (pc' := 21) rfl rfl ?_
 refine g_iaload X qh 0 d10_21 (pc' := 22) rfl (by decide) (by decide) rfl ?_
 refine g_iadd X d10_22 (pc' := 23) rfl ?_
 refine Go.lit32 (z := (0 : Int32)) (by decide) ?_
 refine g_laload X qk 0 d10_23 (pc' := 24) rfl (by decide) (by decide) rfl ?_
 refine g_aloadN X d10_24 (pc' := 25) rfl rfl rfl ?_
 refine g_getfield X (host := "") (Or.inl (tb hw 30 rfl)) Via.refl qe d10_25 (pc' := 28) rfl ?_
 intro T X
 refine g_iload X d10_28 (pc' := 30) rfl rfl ?_
 refine g_iaload X qi 0 d10_30 (pc' := 31) rfl (by decide) (by decide) rfl ?_
 refine g_lushr X d10_31 (pc' := 32) rfl ?_
 refine g_aloadN X d10_32 (pc' := 33) rfl rfl rfl ?_
 refine g_getfield X (host := "") (Or.inl (tb hw 33 rfl)) Via.refl qf d10_33 (pc' := 36) rfl ?_
 intro T X
 refine g_iload X d10_36 (pc' := 38) rfl rfl ?_
 refine g_laload X qj 0 d10_38 (pc' := 39) rfl (by decide) (by decide) rfl ?_
 refine g_land X d10_39 (pc' := 40) rfl ?_
 refine g_l2i X d10_40 (pc' := 41) rfl ?_
 refine g_aloadN X d10_41 (pc' := 42) rfl rfl rfl ?_
 refine g_getfield X (host := "") (Or.inl (tb hw 26 rfl)) Via.refl qc d10_42 (pc' := 45) rfl ?_
 intro T X
 refine g_iload X d10_45 (pc' := 47) rfl rfl ?_
 refine g_iaload X qg 0 d10_47 (pc' := 48) rfl (by decide) (by decide) rfl ?_
 refine g_iadd X d10_48 (pc' := 49) rfl ?_
 generalize qu : (((((k0.toUInt64 >>> (s0 &&& 0x3f).toInt64.toUInt64).toInt64) &&& m0).toInt32) + l0) = qm
 refine g_iastore X qa 0 d10_49 (pc' := 50) rfl (by decide) (by decide) (Nat.le_of_ble_eq_true rfl) ?_
 intro T h X W qa
 replace qa : Av Z h wv .int [(.int qm), (.int x1), (.int x2), (.int x3)] := qa
 replace qc := qc.other W (Or.inl qb)
 replace qd := qd.other W (Or.inl qb)
 replace qe := qe.other W (Or.inl qb)
 replace qf := qf.other W (Or.inl qb)
 replace qg := qg.other W qn
 replace qh := qh.other W qo
 replace qi := qi.other W qp
 replace qj := qj.other W qq
 replace qk := qk.other W qr
 replace Z0 := Nat.le_trans Z0 (Nat.le_of_eq W.size.symm)
 replace N := Fr.snoc X.1 N ql
 replace Kp := Kp.wr W (Or.inl (List.mem_of_getElem? (i := 0) rfl))
 refine g_iinc X d10_50 (pc' := 53) (q := (1 : Int32)) (Ls' := #[.val (.ref a0), .val (.ref wk), .val (.int (0 : Int32)), .val (.ref wv), .val (.int (1 : Int32))]) rfl rfl rfl rfl ?_
 refine g_goto X d10_53 (pc' := 3) (by decide) (by decide) ?_
 refine g_iload X d10_3 (pc' := 5) rfl rfl ?_
 refine g_aloadN X d10_5 (pc' := 6) rfl rfl rfl ?_
 refine g_arraylength X qa d10_6 (pc' := 7) rfl (z := (4 : Int32)) rfl ?_
 refine g_icN X d10_7 (tlt (show (1 : Int32) < (4 : Int32) from (by decide))).2.1 (pc' := 10) rfl ?_
 refine g_aloadN X d10_10 (pc' := 11) rfl rfl rfl ?_
 refine g_iload X d10_11 (pc' := 13) rfl rfl ?_
 refine g_aloadN X d10_13 (pc' := 14) rfl rfl rfl ?_
 refine g_iloadN X d10_14 (pc' := 15) rfl rfl ?_
 refine g_aloadN X d10_15 (pc' := 16) rfl rfl rfl ?_
 refine g_getfield X (host := "") (Or.inl (tb hw 28 rfl)) Via.refl qd d10_16 (pc' := 19) rfl ?_
 intro T X
 refine g_iload X d10_19 (pc' := 21) rfl rfl ?_
 refine g_iaload X qh 1 d10_21 (pc' := 22) rfl (by decide) (by decide) rfl ?_
 refine g_iadd X d10_22 (pc' := 23) rfl ?_
 refine Go.lit32 (z := (0 : Int32)) (by decide) ?_
 refine g_laload X qk 0 d10_23 (pc' := 24) rfl (by decide) (by decide) rfl ?_
 refine g_aloadN X d10_24 (pc' := 25) rfl rfl rfl ?_
 refine g_getfield X (host := "") (Or.inl (tb hw 30 rfl)) Via.refl qe d10_25 (pc' := 28) rfl ?_
 intro T X
 refine g_iload X d10_28 (pc' := 30) rfl rfl ?_
 refine g_iaload X qi 1 d10_30 (pc' := 31) rfl (by decide) (by decide) rfl ?_
 refine g_lushr X d10_31 (pc' := 32) rfl ?_
 refine g_aloadN X d10_32 (pc' := 33) rfl rfl rfl ?_
 refine g_getfield X (host := "") (Or.inl (tb hw 33 rfl)) Via.refl qf d10_33 (pc' := 36) rfl ?_
 intro T X
 refine g_iload X d10_36 (pc' := 38) rfl rfl ?_
 refine g_laload X qj 1 d10_38 (pc' := 39) rfl (by decide) (by decide) rfl ?_
 refine g_land X d10_39 (pc' := 40) rfl ?_
 refine g_l2i X d10_40 (pc' := 41) rfl ?_
 refine g_aloadN X d10_41 (pc' := 42) rfl rfl rfl ?_
 refine g_getfield X (host := "") (Or.inl (tb hw 26 rfl)) Via.refl qc d10_42 (pc' := 45) rfl ?_
 intro T X
 refine g_iload X d10_45 (pc' := 47) rfl rfl ?_
 refine g_iaload X qg 1 d10_47 (pc' := 48) rfl (by decide) (by decide) rfl ?_
 refine g_iadd X d10_48 (pc' := 49) rfl ?_
 generalize qv : (((((k0.toUInt64 >>> (s1 &&& 0x3f).toInt64.toUInt64).toInt64) &&& m1).toInt32) + l1) = qs
 refine g_iastore X qa 1 d10_49 (pc' := 50) rfl (by decide) (by decide) (Nat.le_of_ble_eq_true rfl) ?_
 intro T h X W qa
 replace qa : Av Z h wv .int [(.int qm), (.int qs), (.int x2), (.int x3)] := qa
 replace qc := qc.other W (Or.inl qb)
 replace qd := qd.other W (Or.inl qb)
 replace qe := qe.other W (Or.inl qb)
 replace qf := qf.other W (Or.inl qb)
 replace qg := qg.other W qn
 replace qh := qh.other W qo
 replace qi := qi.other W qp
 replace qj := qj.other W qq
 replace qk := qk.other W qr
 replace Z0 := Nat.le_trans Z0 (Nat.le_of_eq W.size.symm)
 replace N := Fr.snoc X.1 N ql
 replace Kp := Kp.wr W (Or.inl (List.mem_of_getElem? (i := 0) rfl))
 refine g_iinc X d10_50 (pc' := 53) (q := (1 : Int32)) (Ls' := #[.val (.ref a0), .val (.ref wk), .val (.int (0 : Int32)), .val (.ref wv), .val (.int (2 : Int32))]) rfl rfl rfl rfl ?_
 refine g_goto X d10_53 (pc' := 3) (by decide) (by decide) ?_
 refine g_iload X d10_3 (pc' := 5) rfl rfl ?_
 refine g_aloadN X d10_5 (pc' := 6) rfl rfl rfl ?_
 refine g_arraylength X qa d10_6 (pc' := 7) rfl (z := (4 : Int32)) rfl ?_
 refine g_icN X d10_7 (tlt (show (2 : Int32) < (4 : Int32) from (by decide))).2.1 (pc' := 10) rfl ?_
 refine g_aloadN X d10_10 (pc' := 11) rfl rfl rfl ?_
 refine g_iload X d10_11 (pc' := 13) rfl rfl ?_
 refine g_aloadN X d10_13 (pc' := 14) rfl rfl rfl ?_
 refine g_iloadN X d10_14 (pc' := 15) rfl rfl ?_
 refine g_aloadN X d10_15 (pc' := 16) rfl rfl rfl ?_
 refine g_getfield X (host := "") (Or.inl (tb hw 28 rfl)) Via.refl qd d10_16 (pc' := 19) rfl ?_
 intro T X
 refine g_iload X d10_19 (pc' := 21) rfl rfl ?_
 refine g_iaload X qh 2 d10_21 (pc' := 22) rfl (by decide) (by decide) rfl ?_
 refine g_iadd X d10_22 (pc' := 23) rfl ?_
 refine Go.lit32 (z := (0 : Int32)) (by decide) ?_
 refine g_laload X qk 0 d10_23 (pc' := 24) rfl (by decide) (by decide) rfl ?_
 refine g_aloadN X d10_24 (pc' := 25) rfl rfl rfl ?_
 refine g_getfield X (host := "") (Or.inl (tb hw 30 rfl)) Via.refl qe d10_25 (pc' := 28) rfl ?_
 intro T X
 refine g_iload X d10_28 (pc' := 30) rfl rfl ?_
 refine g_iaload X qi 2 d10_30 (pc' := 31) rfl (by decide) (by decide) rfl ?_
 refine g_lushr X d10_31 (pc' := 32) rfl ?_
 refine g_aloadN X d10_32 (pc' := 33) rfl rfl rfl ?_
 refine g_getfield X (host := "") (Or.inl (tb hw 33 rfl)) Via.refl qf d10_33 (pc' := 36) rfl ?_
 intro T X
 refine g_iload X d10_36 (pc' := 38) rfl rfl ?_
 refine g_laload X qj 2 d10_38 (pc' := 39) rfl (by decide) (by decide) rfl ?_
 refine g_land X d10_39 (pc' := 40) rfl ?_
 refine g_l2i X d10_40 (pc' := 41) rfl ?_
 refine g_aloadN X d10_41 (pc' := 42) rfl rfl rfl ?_
 refine g_getfield X (host := "") (Or.inl (tb hw 26 rfl)) Via.refl qc d10_42 (pc' := 45) rfl ?_
 intro T X
 refine g_iload X d10_45 (pc' := 47) rfl rfl ?_
 refine g_iaload X qg 2 d10_47 (pc' := 48) rfl (by decide) (by decide) rfl ?_
 refine g_iadd X d10_48 (pc' := 49) rfl ?_
 generalize qw : (((((k0.toUInt64 >>> (s2 &&& 0x3f).toInt64.toUInt64).toInt64) &&& m2).toInt32) + l2) = qt
 refine g_iastore X qa 2 d10_49 (pc' := 50) rfl (by decide) (by decide) (Nat.le_of_ble_eq_true rfl) ?_
 intro T h X W qa
 replace qa : Av Z h wv .int [(.int qm), (.int qs), (.int qt), (.int x3)] := qa
 replace qc := qc.other W (Or.inl qb)
 replace qd := qd.other W (Or.inl qb)
 replace qe := qe.other W (Or.inl qb)
 replace qf := qf.other W (Or.inl qb)
 replace qg := qg.other W qn
 replace qh := qh.other W qo
 replace qi := qi.other W qp
 replace qj := qj.other W qq
 replace qk := qk.other W qr
 replace Z0 := Nat.le_trans Z0 (Nat.le_of_eq W.size.symm)
 replace N := Fr.snoc X.1 N ql
 replace Kp := Kp.wr W (Or.inl (List.mem_of_getElem? (i := 0) rfl))
 refine g_iinc X d10_50 (pc' := 53) (q := (1 : Int32)) (Ls' := #[.val (.ref a0), .val (.ref wk), .val (.int (0 : Int32)), .val (.ref wv), .val (.int (3 : Int32))]) rfl rfl rfl rfl ?_
 refine g_goto X d10_53 (pc' := 3) (by decide) (by decide) ?_
 refine g_iload X d10_3 (pc' := 5) rfl rfl ?_
 refine g_aloadN X d10_5 (pc' := 6) rfl rfl rfl ?_
 refine g_arraylength X qa d10_6 (pc' := 7) rfl (z := (4 : Int32)) rfl ?_
 refine g_icN X d10_7 (tlt (show (3 : Int32) < (4 : Int32) from (by decide))).2.1 (pc' := 10) rfl ?_
 refine g_aloadN X d10_10 (pc' := 11) rfl rfl rfl ?_
 refine g_iload X d10_11 (pc' := 13) rfl rfl ?_
 refine g_aloadN X d10_13 (pc' := 14) rfl rfl rfl ?_
 refine g_iloadN X d10_14 (pc' := 15) rfl rfl ?_
 refine g_aloadN X d10_15 (pc' := 16) rfl rfl rfl ?_
 refine g_getfield X (host := "") (Or.inl (tb hw 28 rfl)) Via.refl qd d10_16 (pc' := 19) rfl ?_
 intro T X
 refine g_iload X d10_19 (pc' := 21) rfl rfl ?_
 refine g_iaload X qh 3 d10_21 (pc' := 22) rfl (by decide) (by decide) rfl ?_
 refine g_iadd X d10_22 (pc' := 23) rfl ?_
 refine Go.lit32 (z := (1 : Int32)) (by decide) ?_
 refine g_laload X qk 1 d10_23 (pc' := 24) rfl (by decide) (by decide) rfl ?_
 refine g_aloadN X d10_24 (pc' := 25) rfl rfl rfl ?_
 refine g_getfield X (host := "") (Or.inl (tb hw 30 rfl)) Via.refl qe d10_25 (pc' := 28) rfl ?_
 intro T X
 refine g_iload X d10_28 (pc' := 30) rfl rfl ?_
 refine g_iaload X qi 3 d10_30 (pc' := 31) rfl (by decide) (by decide) rfl ?_
 refine g_lushr X d10_31 (pc' := 32) rfl ?_
 refine g_aloadN X d10_32 (pc' := 33) rfl rfl rfl ?_
 refine g_getfield X (host := "") (Or.inl (tb hw 33 rfl)) Via.refl qf d10_33 (pc' := 36) rfl ?_
 intro T X
 refine g_iload X d10_36 (pc' := 38) rfl rfl ?_
 refine g_laload X qj 3 d10_38 (pc' := 39) rfl (by decide) (by decide) rfl ?_
 refine g_land X d10_39 (pc' := 40) rfl ?_
 refine g_l2i X d10_40 (pc' := 41) rfl ?_
 refine g_aloadN X d10_41 (pc' := 42) rfl rfl rfl ?_
 refine g_getfield X (host := "") (Or.inl (tb hw 26 rfl)) Via.refl qc d10_42 (pc' := 45) rfl ?_
 intro T X
 refine g_iload X d10_45 (pc' := 47) rfl rfl ?_
 refine g_iaload X qg 3 d10_47 (pc' := 48) rfl (by decide) (by decide) rfl ?_
 refine g_iadd X d10_48 (pc' := 49) rfl ?_
 generalize qx : (((((k1.toUInt64 >>> (s3 &&& 0x3f).toInt64.toUInt64).toInt64) &&& m3).toInt32) + l3) = qy
 refine g_iastore X qa 3 d10_49 (pc' := 50) rfl (by decide) (by decide) (Nat.le_of_ble_eq_true rfl) ?_
 intro T h X W qa
 replace qa : Av Z h wv .int [(.int qm), (.int qs), (.int qt), (.int qy)] := qa
 replace Z0 := Nat.le_trans Z0 (Nat.le_of_eq W.size.symm)
 replace N := Fr.snoc X.1 N ql
 replace Kp := Kp.wr W (Or.inl (List.mem_of_getElem? (i := 0) rfl))
 refine g_iinc X d10_50 (pc' := 53) (q := (1 : Int32)) (Ls' := #[.val (.ref a0), .val (.ref wk), .val (.int (0 : Int32)), .val (.ref wv), .val (.int (4 : Int32))]) rfl rfl rfl rfl ?_
 refine g_goto X d10_53 (pc' := 3) (by decide) (by decide) ?_
 refine g_iload X d10_3 (pc' := 5) rfl rfl ?_
 refine g_aloadN X d10_5 (pc' := 6) rfl rfl rfl ?_
 refine g_arraylength X qa d10_6 (pc' := 7) rfl (z := (4 : Int32)) rfl ?_
 refine g_icY X d10_7 (flt (show ¬ ((4 : Int32) < (4 : Int32)) from (by decide))).2.1 (pc' := 56) (by decide) (by decide) ?_
 refine g_return X d10_56 hret hlk (by decide) (by decide) ?_
 subst qu qv qw qx
 exact ⟨rfl, N, Kp, qa⟩
theorem ef_rPk11 (m : MethodId) (x0 : Addr) (x1 : Addr) (x2 : Addr) (x3 : Int32) : entryFrame m #[(.ref x0), (.ref x1), (.ref x2), (.int x3)] 5 = mkF m 0 #[.val (.ref x0), .val (.ref x1), .val (.ref x2), .val (.int x3), .unset] [] := by first | (simp [entryFrame, mkF, argsToLocals, Value.category]; done) | rfl
set_option maxRecDepth 65536 in
set_option maxHeartbeats 40000000 in
theorem rPk11 (l : Launch) (Z : State) (aa : Array Value) (hw : ∀ d ∈ tables_1, d.before aa Z = true) (ws : List Jvm.Cond) (a0 : Addr) (wv : Addr) (wk : Addr) (wl : Addr) (ww : Addr) (wt : Addr) (l0 : Int32) (l1 : Int32) (l2 : Int32) (l3 : Int32) (s0 : Int32) (s1 : Int32) (s2 : Int32) (s3 : Int32) (x0 : Int32) (x1 : Int32) (x2 : Int32) (x3 : Int32) (k0 : Int64) (k1 : Int64) (k2 : Int64) (k3 : Int64) (h0 : Heap) (n0 : Nat) (Z0 : n0 ≤ h0.size) (qx : Exa Z h0 a0 "com/example/ryazan/ryazan/language/Layout") (qd : Fld Z h0 a0 "com/example/ryazan/ryazan/language/Layout" "low" "[I" (.ref wl)) (qe : Fld Z h0 a0 "com/example/ryazan/ryazan/language/Layout" "word" "[I" (.ref ww)) (qf : Fld Z h0 a0 "com/example/ryazan/ryazan/language/Layout" "shift" "[I" (.ref wt)) (qj : Fld Z h0 a0 "com/example/ryazan/ryazan/language/Layout" "width" "I" (.int (2 : Int32))) (qg : Av Z h0 wl .int [(.int l0), (.int l1), (.int l2), (.int l3)]) (qh : Av Z h0 ww .int [(.int (0 : Int32)), (.int (0 : Int32)), (.int (0 : Int32)), (.int (1 : Int32))]) (qi : Av Z h0 wt .int [(.int s0), (.int s1), (.int s2), (.int s3)]) (qb : Av Z h0 wv .int [(.int x0), (.int x1), (.int x2), (.int x3)]) (qa : Av Z h0 wk .long [(.long k0), (.long k1), (.long k2), (.long k3)]) (qk : n0 ≤ wk) (qc : a0 ≠ wk) (qm : wl ≠ wk) (qn : ww ≠ wk) (qo : wt ≠ wk) (ql : wv ≠ wk) :
    Rm l Z (⟨"com/example/ryazan/ryazan/language/Layout", "pack", "([I[JI)V"⟩ : MethodName) prog_58_method_3_code 5 none ws ({ frames := 0, cells := 0, slots := 0, locals := 0 } : Room) #[(.ref a0), (.ref wv), (.ref wk), (.int (1 : Int32))] h0 (fun v h L => v = none ∧ Fr n0 L ∧ Keep h0 h [wk] ∧ Av Z h wk .long [(.long k0), (.long ((((0 : Int64) ||| (((x0.toInt64) - (l0.toInt64)) <<< (s0 &&& 0x3f).toInt64)) ||| (((x1.toInt64) - (l1.toInt64)) <<< (s1 &&& 0x3f).toInt64)) ||| (((x2.toInt64) - (l2.toInt64)) <<< (s2 &&& 0x3f).toInt64))), (.long ((0 : Int64) ||| (((x3.toInt64) - (l3.toInt64)) <<< (s3 &&& 0x3f).toInt64))), (.long k3)]) := by
 refine Rm.of (plainFor_of_name pn_3) ?_
 intro p e s m below meth cc T X hnm hret hlk
 refine Go.at_ (ef_rPk11 m a0 wv wk (1 : Int32)) ?_
 have N := Fr.nil n0
 have Kp := Keep.refl h0 [wk]
 refine g_iconst X (0 : Int32) d9_0 (pc' := 1) rfl rfl ?_
 refine g_istore X d9_1 (pc' := 3) (Ls' := #[.val (.ref a0), .val (.ref wv), .val (.ref wk), .val (.int (1 : Int32)), .val (.int (0 : Int32))]) rfl rfl ?_
 refine g_iload X d9_3 (pc' := 5) rfl rfl ?_
 refine g_aloadN X d9_5 (pc' := 6) rfl rfl rfl ?_
 refine g_getfield X (host := "") (Or.inl (tb hw 44 rfl)) Via.refl qj d9_6 (pc' := 9) rfl ?_
 intro T X
 refine g_icN X d9_9 (tlt (show (0 : Int32) < (2 : Int32) from (by decide))).2.1 (pc' := 12) rfl ?_
 refine g_aloadN X d9_12 (pc' := 13) rfl rfl rfl ?_
 refine g_iloadN X d9_13 (pc' := 14) rfl rfl ?_
 refine g_iload X d9_14 (pc' := 16) rfl rfl ?_
 refine g_iadd X d9_16 (pc' := 17) rfl ?_
 refine Go.lit32 (z := (1 : Int32)) (by decide) ?_
 refine g_lconst X (0 : Int64) d9_17 (pc' := 18) rfl rfl ?_
 refine g_lastore X qa 1 d9_18 (pc' := 19) rfl (by decide) (by decide) (Nat.le_of_ble_eq_true rfl) ?_
 intro T h X W qa
 replace qa : Av Z h wk .long [(.long k0), (.long (0 : Int64)), (.long k2), (.long k3)] := qa
 replace qd := qd.other W (Or.inl qc)
 replace qe := qe.other W (Or.inl qc)
 replace qf := qf.other W (Or.inl qc)
 replace qj := qj.other W (Or.inl qc)
 replace qg := qg.other W qm
 replace qh := qh.other W qn
 replace qi := qi.other W qo
 replace qb := qb.other W ql
 replace Z0 := Nat.le_trans Z0 (Nat.le_of_eq W.size.symm)
 replace N := Fr.snoc X.1 N qk
 replace Kp := Kp.wr W (Or.inl (List.mem_of_getElem? (i := 0) rfl))
 refine g_iinc X d9_19 (pc' := 22) (q := (1 : Int32)) (Ls' := #[.val (.ref a0), .val (.ref wv), .val (.ref wk), .val (.int (1 : Int32)), .val (.int (1 : Int32))]) rfl rfl rfl rfl ?_
 refine g_goto X d9_22 (pc' := 3) (by decide) (by decide) ?_
 refine g_iload X d9_3 (pc' := 5) rfl rfl ?_
 refine g_aloadN X d9_5 (pc' := 6) rfl rfl rfl ?_
 refine g_getfield X (host := "") (Or.inl (tb hw 44 rfl)) Via.refl qj d9_6 (pc' := 9) rfl ?_
 intro T X
 refine g_icN X d9_9 (tlt (show (1 : Int32) < (2 : Int32) from (by decide))).2.1 (pc' := 12) rfl ?_
 refine g_aloadN X d9_12 (pc' := 13) rfl rfl rfl ?_
 refine g_iloadN X d9_13 (pc' := 14) rfl rfl ?_
 refine g_iload X d9_14 (pc' := 16) rfl rfl ?_
 refine g_iadd X d9_16 (pc' := 17) rfl ?_
 refine Go.lit32 (z := (2 : Int32)) (by decide) ?_
 refine g_lconst X (0 : Int64) d9_17 (pc' := 18) rfl rfl ?_
 refine g_lastore X qa 2 d9_18 (pc' := 19) rfl (by decide) (by decide) (Nat.le_of_ble_eq_true rfl) ?_
 intro T h X W qa
 replace qa : Av Z h wk .long [(.long k0), (.long (0 : Int64)), (.long (0 : Int64)), (.long k3)] := qa
 replace qd := qd.other W (Or.inl qc)
 replace qe := qe.other W (Or.inl qc)
 replace qf := qf.other W (Or.inl qc)
 replace qj := qj.other W (Or.inl qc)
 replace qg := qg.other W qm
 replace qh := qh.other W qn
 replace qi := qi.other W qo
 replace qb := qb.other W ql
 replace Z0 := Nat.le_trans Z0 (Nat.le_of_eq W.size.symm)
 replace N := Fr.snoc X.1 N qk
 replace Kp := Kp.wr W (Or.inl (List.mem_of_getElem? (i := 0) rfl))
 refine g_iinc X d9_19 (pc' := 22) (q := (1 : Int32)) (Ls' := #[.val (.ref a0), .val (.ref wv), .val (.ref wk), .val (.int (1 : Int32)), .val (.int (2 : Int32))]) rfl rfl rfl rfl ?_
 refine g_goto X d9_22 (pc' := 3) (by decide) (by decide) ?_
 refine g_iload X d9_3 (pc' := 5) rfl rfl ?_
 refine g_aloadN X d9_5 (pc' := 6) rfl rfl rfl ?_
 refine g_getfield X (host := "") (Or.inl (tb hw 44 rfl)) Via.refl qj d9_6 (pc' := 9) rfl ?_
 intro T X
 refine g_icY X d9_9 (flt (show ¬ ((2 : Int32) < (2 : Int32)) from (by decide))).2.1 (pc' := 25) (by decide) (by decide) ?_
 refine g_iconst X (0 : Int32) d9_25 (pc' := 26) rfl rfl ?_
 refine g_istore X d9_26 (pc' := 28) (Ls' := #[.val (.ref a0), .val (.ref wv), .val (.ref wk), .val (.int (1 : Int32)), .val (.int (0 : Int32))]) rfl rfl ?_
 refine g_iload X d9_28 (pc' := 30) rfl rfl ?_
 refine g_aloadN X d9_30 (pc' := 31) rfl rfl rfl ?_
 refine g_arraylength X qb d9_31 (pc' := 32) rfl (z := (4 : Int32)) rfl ?_
 refine g_icN X d9_32 (tlt (show (0 : Int32) < (4 : Int32) from (by decide))).2.1 (pc' := 35) rfl ?_
 refine g_aloadN X d9_35 (pc' := 36) rfl rfl rfl ?_
 refine g_iloadN X d9_36 (pc' := 37) rfl rfl ?_
 refine g_aloadN X d9_37 (pc' := 38) rfl rfl rfl ?_
 refine g_getfield X (host := "") (Or.inl (tb hw 28 rfl)) Via.refl qe d9_38 (pc' := 41) rfl ?_
 intro T X
 refine g_iload X d9_41 (pc' := 43) rfl rfl ?_
 refine g_iaload X qh 0 d9_43 (pc' := 44) rfl (by decide) (by decide) rfl ?_
 refine g_iadd X d9_44 (pc' := 45) rfl ?_
 refine Go.lit32 (z := (1 : Int32)) (by decide) ?_
 refine g_dup2 X d9_45 (pc' := 46) rfl rfl rfl ?_
 refine g_laload X qa 1 d9_46 (pc' := 47) rfl (by decide) (by decide) rfl ?_
 refine g_aloadN X d9_47 (pc' := 48) rfl rfl rfl ?_
 refine g_iload X d9_48 (pc' := 50) rfl rfl ?_
 refine g_iaload X qb 0 d9_50 (pc' := 51) rfl (by decide) (by decide) rfl ?_
 refine g_i2l X d9_51 (pc' := 52) rfl ?_
 refine g_aloadN X d9_52 (pc' := 53) rfl rfl rfl ?_
 refine g_getfield X (host := "") (Or.inl (tb hw 26 rfl)) Via.refl qd d9_53 (pc' := 56) rfl ?_
 intro T X
 refine g_iload X d9_56 (pc' := 58) rfl rfl ?_
 refine g_iaload X qg 0 d9_58 (pc' := 59) rfl (by decide) (by decide) rfl ?_
 refine g_i2l X d9_59 (pc' := 60) rfl ?_
 refine g_lsub X d9_60 (pc' := 61) rfl ?_
 refine g_aloadN X d9_61 (pc' := 62) rfl rfl rfl ?_
 refine g_getfield X (host := "") (Or.inl (tb hw 30 rfl)) Via.refl qf d9_62 (pc' := 65) rfl ?_
 intro T X
 refine g_iload X d9_65 (pc' := 67) rfl rfl ?_
 refine g_iaload X qi 0 d9_67 (pc' := 68) rfl (by decide) (by decide) rfl ?_
 refine g_lshl X d9_68 (pc' := 69) rfl ?_
 refine g_lor X d9_69 (pc' := 70) rfl ?_
 generalize qs : ((0 : Int64) ||| (((x0.toInt64) - (l0.toInt64)) <<< (s0 &&& 0x3f).toInt64)) = qp
 refine g_lastore X qa 1 d9_70 (pc' := 71) rfl (by decide) (by decide) (Nat.le_of_ble_eq_true rfl) ?_
 intro T h X W qa
 replace qa : Av Z h wk .long [(.long k0), (.long qp), (.long (0 : Int64)), (.long k3)] := qa
 replace qd := qd.other W (Or.inl qc)
 replace qe := qe.other W (Or.inl qc)
 replace qf := qf.other W (Or.inl qc)
 replace qg := qg.other W qm
 replace qh := qh.other W qn
 replace qi := qi.other W qo
 replace qb := qb.other W ql
 replace Z0 := Nat.le_trans Z0 (Nat.le_of_eq W.size.symm)
 replace N := Fr.snoc X.1 N qk
 replace Kp := Kp.wr W (Or.inl (List.mem_of_getElem? (i := 0) rfl))
 refine g_iinc X d9_71 (pc' := 74) (q := (1 : Int32)) (Ls' := #[.val (.ref a0), .val (.ref wv), .val (.ref wk), .val (.int (1 : Int32)), .val (.int (1 : Int32))]) rfl rfl rfl rfl ?_
 refine g_goto X d9_74 (pc' := 28) (by decide) (by decide) ?_
 refine g_iload X d9_28 (pc' := 30) rfl rfl ?_
 refine g_aloadN X d9_30 (pc' := 31) rfl rfl rfl ?_
 refine g_arraylength X qb d9_31 (pc' := 32) rfl (z := (4 : Int32)) rfl ?_
 refine g_icN X d9_32 (tlt (show (1 : Int32) < (4 : Int32) from (by decide))).2.1 (pc' := 35) rfl ?_
 refine g_aloadN X d9_35 (pc' := 36) rfl rfl rfl ?_
 refine g_iloadN X d9_36 (pc' := 37) rfl rfl ?_
 refine g_aloadN X d9_37 (pc' := 38) rfl rfl rfl ?_
 refine g_getfield X (host := "") (Or.inl (tb hw 28 rfl)) Via.refl qe d9_38 (pc' := 41) rfl ?_
 intro T X
 refine g_iload X d9_41 (pc' := 43) rfl rfl ?_
 refine g_iaload X qh 1 d9_43 (pc' := 44) rfl (by decide) (by decide) rfl ?_
 refine g_iadd X d9_44 (pc' := 45) rfl ?_
 refine Go.lit32 (z := (1 : Int32)) (by decide) ?_
 refine g_dup2 X d9_45 (pc' := 46) rfl rfl rfl ?_
 refine g_laload X qa 1 d9_46 (pc' := 47) rfl (by decide) (by decide) rfl ?_
 refine g_aloadN X d9_47 (pc' := 48) rfl rfl rfl ?_
 refine g_iload X d9_48 (pc' := 50) rfl rfl ?_
 refine g_iaload X qb 1 d9_50 (pc' := 51) rfl (by decide) (by decide) rfl ?_
 refine g_i2l X d9_51 (pc' := 52) rfl ?_
 refine g_aloadN X d9_52 (pc' := 53) rfl rfl rfl ?_
 refine g_getfield X (host := "") (Or.inl (tb hw 26 rfl)) Via.refl qd d9_53 (pc' := 56) rfl ?_
 intro T X
 refine g_iload X d9_56 (pc' := 58) rfl rfl ?_
 refine g_iaload X qg 1 d9_58 (pc' := 59) rfl (by decide) (by decide) rfl ?_
 refine g_i2l X d9_59 (pc' := 60) rfl ?_
 refine g_lsub X d9_60 (pc' := 61) rfl ?_
 refine g_aloadN X d9_61 (pc' := 62) rfl rfl rfl ?_
 refine g_getfield X (host := "") (Or.inl (tb hw 30 rfl)) Via.refl qf d9_62 (pc' := 65) rfl ?_
 intro T X
 refine g_iload X d9_65 (pc' := 67) rfl rfl ?_
 refine g_iaload X qi 1 d9_67 (pc' := 68) rfl (by decide) (by decide) rfl ?_
 refine g_lshl X d9_68 (pc' := 69) rfl ?_
 refine g_lor X d9_69 (pc' := 70) rfl ?_
 generalize qt : (qp ||| (((x1.toInt64) - (l1.toInt64)) <<< (s1 &&& 0x3f).toInt64)) = qq
 refine g_lastore X qa 1 d9_70 (pc' := 71) rfl (by decide) (by decide) (Nat.le_of_ble_eq_true rfl) ?_
 intro T h X W qa
 replace qa : Av Z h wk .long [(.long k0), (.long qq), (.long (0 : Int64)), (.long k3)] := qa
 replace qd := qd.other W (Or.inl qc)
 replace qe := qe.other W (Or.inl qc)
 replace qf := qf.other W (Or.inl qc)
 replace qg := qg.other W qm
 replace qh := qh.other W qn
 replace qi := qi.other W qo
 replace qb := qb.other W ql
 replace Z0 := Nat.le_trans Z0 (Nat.le_of_eq W.size.symm)
 replace N := Fr.snoc X.1 N qk
 replace Kp := Kp.wr W (Or.inl (List.mem_of_getElem? (i := 0) rfl))
 refine g_iinc X d9_71 (pc' := 74) (q := (1 : Int32)) (Ls' := #[.val (.ref a0), .val (.ref wv), .val (.ref wk), .val (.int (1 : Int32)), .val (.int (2 : Int32))]) rfl rfl rfl rfl ?_
 refine g_goto X d9_74 (pc' := 28) (by decide) (by decide) ?_
 refine g_iload X d9_28 (pc' := 30) rfl rfl ?_
 refine g_aloadN X d9_30 (pc' := 31) rfl rfl rfl ?_
 refine g_arraylength X qb d9_31 (pc' := 32) rfl (z := (4 : Int32)) rfl ?_
 refine g_icN X d9_32 (tlt (show (2 : Int32) < (4 : Int32) from (by decide))).2.1 (pc' := 35) rfl ?_
 refine g_aloadN X d9_35 (pc' := 36) rfl rfl rfl ?_
 refine g_iloadN X d9_36 (pc' := 37) rfl rfl ?_
 refine g_aloadN X d9_37 (pc' := 38) rfl rfl rfl ?_
 refine g_getfield X (host := "") (Or.inl (tb hw 28 rfl)) Via.refl qe d9_38 (pc' := 41) rfl ?_
 intro T X
 refine g_iload X d9_41 (pc' := 43) rfl rfl ?_
 refine g_iaload X qh 2 d9_43 (pc' := 44) rfl (by decide) (by decide) rfl ?_
 refine g_iadd X d9_44 (pc' := 45) rfl ?_
 refine Go.lit32 (z := (1 : Int32)) (by decide) ?_
 refine g_dup2 X d9_45 (pc' := 46) rfl rfl rfl ?_
 refine g_laload X qa 1 d9_46 (pc' := 47) rfl (by decide) (by decide) rfl ?_
 refine g_aloadN X d9_47 (pc' := 48) rfl rfl rfl ?_
 refine g_iload X d9_48 (pc' := 50) rfl rfl ?_
 refine g_iaload X qb 2 d9_50 (pc' := 51) rfl (by decide) (by decide) rfl ?_
 refine g_i2l X d9_51 (pc' := 52) rfl ?_
 refine g_aloadN X d9_52 (pc' := 53) rfl rfl rfl ?_
 refine g_getfield X (host := "") (Or.inl (tb hw 26 rfl)) Via.refl qd d9_53 (pc' := 56) rfl ?_
 intro T X
 refine g_iload X d9_56 (pc' := 58) rfl rfl ?_
 refine g_iaload X qg 2 d9_58 (pc' := 59) rfl (by decide) (by decide) rfl ?_
 refine g_i2l X d9_59 (pc' := 60) rfl ?_
 refine g_lsub X d9_60 (pc' := 61) rfl ?_
 refine g_aloadN X d9_61 (pc' := 62) rfl rfl rfl ?_
 refine g_getfield X (host := "") (Or.inl (tb hw 30 rfl)) Via.refl qf d9_62 (pc' := 65) rfl ?_
 intro T X
 refine g_iload X d9_65 (pc' := 67) rfl rfl ?_
 refine g_iaload X qi 2 d9_67 (pc' := 68) rfl (by decide) (by decide) rfl ?_
 refine g_lshl X d9_68 (pc' := 69) rfl ?_
 refine g_lor X d9_69 (pc' := 70) rfl ?_
 generalize qu : (qq ||| (((x2.toInt64) - (l2.toInt64)) <<< (s2 &&& 0x3f).toInt64)) = qr
 refine g_lastore X qa 1 d9_70 (pc' := 71) rfl (by decide) (by decide) (Nat.le_of_ble_eq_true rfl) ?_
 intro T h X W qa
 replace qa : Av Z h wk .long [(.long k0), (.long qr), (.long (0 : Int64)), (.long k3)] := qa
 replace qd := qd.other W (Or.inl qc)
 replace qe := qe.other W (Or.inl qc)
 replace qf := qf.other W (Or.inl qc)
 replace qg := qg.other W qm
 replace qh := qh.other W qn
 replace qi := qi.other W qo
 replace qb := qb.other W ql
 replace Z0 := Nat.le_trans Z0 (Nat.le_of_eq W.size.symm)
 replace N := Fr.snoc X.1 N qk
 replace Kp := Kp.wr W (Or.inl (List.mem_of_getElem? (i := 0) rfl))
 refine g_iinc X d9_71 (pc' := 74) (q := (1 : Int32)) (Ls' := #[.val (.ref a0), .val (.ref wv), .val (.ref wk), .val (.int (1 : Int32)), .val (.int (3 : Int32))]) rfl rfl rfl rfl ?_
 refine g_goto X d9_74 (pc' := 28) (by decide) (by decide) ?_
 refine g_iload X d9_28 (pc' := 30) rfl rfl ?_
 refine g_aloadN X d9_30 (pc' := 31) rfl rfl rfl ?_
 refine g_arraylength X qb d9_31 (pc' := 32) rfl (z := (4 : Int32)) rfl ?_
 refine g_icN X d9_32 (tlt (show (3 : Int32) < (4 : Int32) from (by decide))).2.1 (pc' := 35) rfl ?_
 refine g_aloadN X d9_35 (pc' := 36) rfl rfl rfl ?_
 refine g_iloadN X d9_36 (pc' := 37) rfl rfl ?_
 refine g_aloadN X d9_37 (pc' := 38) rfl rfl rfl ?_
 refine g_getfield X (host := "") (Or.inl (tb hw 28 rfl)) Via.refl qe d9_38 (pc' := 41) rfl ?_
 intro T X
 refine g_iload X d9_41 (pc' := 43) rfl rfl ?_
 refine g_iaload X qh 3 d9_43 (pc' := 44) rfl (by decide) (by decide) rfl ?_
 refine g_iadd X d9_44 (pc' := 45) rfl ?_
 refine Go.lit32 (z := (2 : Int32)) (by decide) ?_
 refine g_dup2 X d9_45 (pc' := 46) rfl rfl rfl ?_
 refine g_laload X qa 2 d9_46 (pc' := 47) rfl (by decide) (by decide) rfl ?_
 refine g_aloadN X d9_47 (pc' := 48) rfl rfl rfl ?_
 refine g_iload X d9_48 (pc' := 50) rfl rfl ?_
 refine g_iaload X qb 3 d9_50 (pc' := 51) rfl (by decide) (by decide) rfl ?_
 refine g_i2l X d9_51 (pc' := 52) rfl ?_
 refine g_aloadN X d9_52 (pc' := 53) rfl rfl rfl ?_
 refine g_getfield X (host := "") (Or.inl (tb hw 26 rfl)) Via.refl qd d9_53 (pc' := 56) rfl ?_
 intro T X
 refine g_iload X d9_56 (pc' := 58) rfl rfl ?_
 refine g_iaload X qg 3 d9_58 (pc' := 59) rfl (by decide) (by decide) rfl ?_
 refine g_i2l X d9_59 (pc' := 60) rfl ?_
 refine g_lsub X d9_60 (pc' := 61) rfl ?_
 refine g_aloadN X d9_61 (pc' := 62) rfl rfl rfl ?_
 refine g_getfield X (host := "") (Or.inl (tb hw 30 rfl)) Via.refl qf d9_62 (pc' := 65) rfl ?_
 intro T X
 refine g_iload X d9_65 (pc' := 67) rfl rfl ?_
 refine g_iaload X qi 3 d9_67 (pc' := 68) rfl (by decide) (by decide) rfl ?_
 refine g_lshl X d9_68 (pc' := 69) rfl ?_
 refine g_lor X d9_69 (pc' := 70) rfl ?_
 generalize qv : ((0 : Int64) ||| (((x3.toInt64) - (l3.toInt64)) <<< (s3 &&& 0x3f).toInt64)) = qw
 refine g_lastore X qa 2 d9_70 (pc' := 71) rfl (by decide) (by decide) (Nat.le_of_ble_eq_true rfl) ?_
 intro T h X W qa
 replace qa : Av Z h wk .long [(.long k0), (.long qr), (.long qw), (.long k3)] := qa
 replace qb := qb.other W ql
 replace Z0 := Nat.le_trans Z0 (Nat.le_of_eq W.size.symm)
 replace N := Fr.snoc X.1 N qk
 replace Kp := Kp.wr W (Or.inl (List.mem_of_getElem? (i := 0) rfl))
 refine g_iinc X d9_71 (pc' := 74) (q := (1 : Int32)) (Ls' := #[.val (.ref a0), .val (.ref wv), .val (.ref wk), .val (.int (1 : Int32)), .val (.int (4 : Int32))]) rfl rfl rfl rfl ?_
 refine g_goto X d9_74 (pc' := 28) (by decide) (by decide) ?_
 refine g_iload X d9_28 (pc' := 30) rfl rfl ?_
 refine g_aloadN X d9_30 (pc' := 31) rfl rfl rfl ?_
 refine g_arraylength X qb d9_31 (pc' := 32) rfl (z := (4 : Int32)) rfl ?_
 refine g_icY X d9_32 (flt (show ¬ ((4 : Int32) < (4 : Int32)) from (by decide))).2.1 (pc' := 77) (by decide) (by decide) ?_
 refine g_return X d9_77 hret hlk (by decide) (by decide) ?_
 subst qs qt qu qv
 exact ⟨rfl, N, Kp, qa⟩
theorem ef_rUp11 (m : MethodId) (x0 : Addr) (x1 : Addr) (x2 : Int32) (x3 : Addr) : entryFrame m #[(.ref x0), (.ref x1), (.int x2), (.ref x3)] 5 = mkF m 0 #[.val (.ref x0), .val (.ref x1), .val (.int x2), .val (.ref x3), .unset] [] := by first | (simp [entryFrame, mkF, argsToLocals, Value.category]; done) | rfl
set_option maxRecDepth 65536 in
set_option maxHeartbeats 40000000 in
theorem rUp11 (l : Launch) (Z : State) (aa : Array Value) (hw : ∀ d ∈ tables_1, d.before aa Z = true) (ws : List Jvm.Cond) (a0 : Addr) (wk : Addr) (wv : Addr) (wl : Addr) (ww : Addr) (wt : Addr) (wm : Addr) (l0 : Int32) (l1 : Int32) (l2 : Int32) (l3 : Int32) (s0 : Int32) (s1 : Int32) (s2 : Int32) (s3 : Int32) (m0 : Int64) (m1 : Int64) (m2 : Int64) (m3 : Int64) (k0 : Int64) (k1 : Int64) (k2 : Int64) (k3 : Int64) (x0 : Int32) (x1 : Int32) (x2 : Int32) (x3 : Int32) (h0 : Heap) (n0 : Nat) (Z0 : n0 ≤ h0.size) (qz : Exa Z h0 a0 "com/example/ryazan/ryazan/language/Layout") (qc : Fld Z h0 a0 "com/example/ryazan/ryazan/language/Layout" "low" "[I" (.ref wl)) (qd : Fld Z h0 a0 "com/example/ryazan/ryazan/language/Layout" "word" "[I" (.ref ww)) (qe : Fld Z h0 a0 "com/example/ryazan/ryazan/language/Layout" "shift" "[I" (.ref wt)) (qf : Fld Z h0 a0 "com/example/ryazan/ryazan/language/Layout" "mask" "[J" (.ref wm)) (qg : Av Z h0 wl .int [(.int l0), (.int l1), (.int l2), (.int l3)]) (qh : Av Z h0 ww .int [(.int (0 : Int32)), (.int (0 : Int32)), (.int (0 : Int32)), (.int (1 : Int32))]) (qi : Av Z h0 wt .int [(.int s0), (.int s1), (.int s2), (.int s3)]) (qj : Av Z h0 wm .long [(.long m0), (.long m1), (.long m2), (.long m3)]) (qk : Av Z h0 wk .long [(.long k0), (.long k1), (.long k2), (.long k3)]) (qa : Av Z h0 wv .int [(.int x0), (.int x1), (.int x2), (.int x3)]) (ql : n0 ≤ wv) (qb : a0 ≠ wv) (qn : wl ≠ wv) (qo : ww ≠ wv) (qp : wt ≠ wv) (qq : wm ≠ wv) (qr : wk ≠ wv) :
    Rm l Z (⟨"com/example/ryazan/ryazan/language/Layout", "unpack", "([JI[I)V"⟩ : MethodName) prog_58_method_4_code 5 none ws ({ frames := 0, cells := 0, slots := 0, locals := 0 } : Room) #[(.ref a0), (.ref wk), (.int (1 : Int32)), (.ref wv)] h0 (fun v h L => v = none ∧ Fr n0 L ∧ Keep h0 h [wv] ∧ Av Z h wv .int [(.int (((((k1.toUInt64 >>> (s0 &&& 0x3f).toInt64.toUInt64).toInt64) &&& m0).toInt32) + l0)), (.int (((((k1.toUInt64 >>> (s1 &&& 0x3f).toInt64.toUInt64).toInt64) &&& m1).toInt32) + l1)), (.int (((((k1.toUInt64 >>> (s2 &&& 0x3f).toInt64.toUInt64).toInt64) &&& m2).toInt32) + l2)), (.int (((((k2.toUInt64 >>> (s3 &&& 0x3f).toInt64.toUInt64).toInt64) &&& m3).toInt32) + l3))]) := by
 refine Rm.of (plainFor_of_name pn_3) ?_
 intro p e s m below meth cc T X hnm hret hlk
 refine Go.at_ (ef_rUp11 m a0 wk (1 : Int32) wv) ?_
 have N := Fr.nil n0
 have Kp := Keep.refl h0 [wv]
 refine g_iconst X (0 : Int32) d10_0 (pc' := 1) rfl rfl ?_
 refine g_istore X d10_1 (pc' := 3) (Ls' := #[.val (.ref a0), .val (.ref wk), .val (.int (1 : Int32)), .val (.ref wv), .val (.int (0 : Int32))]) rfl rfl ?_
 refine g_iload X d10_3 (pc' := 5) rfl rfl ?_
 refine g_aloadN X d10_5 (pc' := 6) rfl rfl rfl ?_
 refine g_arraylength X qa d10_6 (pc' := 7) rfl (z := (4 : Int32)) rfl ?_
 refine g_icN X d10_7 (tlt (show (0 : Int32) < (4 : Int32) from (by decide))).2.1 (pc' := 10) rfl ?_
 refine g_aloadN X d10_10 (pc' := 11) rfl rfl rfl ?_
 refine g_iload X d10_11 (pc' := 13) rfl rfl ?_
 refine g_aloadN X d10_13 (pc' := 14) rfl rfl rfl ?_
 refine g_iloadN X d10_14 (pc' := 15) rfl rfl ?_
 refine g_aloadN X d10_15 (pc' := 16) rfl rfl rfl ?_
 refine g_getfield X (host := "") (Or.inl (tb hw 28 rfl)) Via.refl qd d10_16 (pc' := 19) rfl ?_
 intro T X
 refine g_iload X d10_19 (pc' := 21) rfl rfl ?_
 refine g_iaload X qh 0 d10_21 (pc' := 22) rfl (by decide) (by decide) rfl ?_
 refine g_iadd X d10_22 (pc' := 23) rfl ?_
 refine Go.lit32 (z := (1 : Int32)) (by decide) ?_
 refine g_laload X qk 1 d10_23 (pc' := 24) rfl (by decide) (by decide) rfl ?_
 refine g_aloadN X d10_24 (pc' := 25) rfl rfl rfl ?_
 refine g_getfield X (host := "") (Or.inl (tb hw 30 rfl)) Via.refl qe d10_25 (pc' := 28) rfl ?_
 intro T X
 refine g_iload X d10_28 (pc' := 30) rfl rfl ?_
 refine g_iaload X qi 0 d10_30 (pc' := 31) rfl (by decide) (by decide) rfl ?_
 refine g_lushr X d10_31 (pc' := 32) rfl ?_
 refine g_aloadN X d10_32 (pc' := 33) rfl rfl rfl ?_
 refine g_getfield X (host := "") (Or.inl (tb hw 33 rfl)) Via.refl qf d10_33 (pc' := 36) rfl ?_
 intro T X
 refine g_iload X d10_36 (pc' := 38) rfl rfl ?_
 refine g_laload X qj 0 d10_38 (pc' := 39) rfl (by decide) (by decide) rfl ?_
 refine g_land X d10_39 (pc' := 40) rfl ?_
 refine g_l2i X d10_40 (pc' := 41) rfl ?_
 refine g_aloadN X d10_41 (pc' := 42) rfl rfl rfl ?_
 refine g_getfield X (host := "") (Or.inl (tb hw 26 rfl)) Via.refl qc d10_42 (pc' := 45) rfl ?_
 intro T X
 refine g_iload X d10_45 (pc' := 47) rfl rfl ?_
 refine g_iaload X qg 0 d10_47 (pc' := 48) rfl (by decide) (by decide) rfl ?_
 refine g_iadd X d10_48 (pc' := 49) rfl ?_
 generalize qu : (((((k1.toUInt64 >>> (s0 &&& 0x3f).toInt64.toUInt64).toInt64) &&& m0).toInt32) + l0) = qm
 refine g_iastore X qa 0 d10_49 (pc' := 50) rfl (by decide) (by decide) (Nat.le_of_ble_eq_true rfl) ?_
 intro T h X W qa
 replace qa : Av Z h wv .int [(.int qm), (.int x1), (.int x2), (.int x3)] := qa
 replace qc := qc.other W (Or.inl qb)
 replace qd := qd.other W (Or.inl qb)
 replace qe := qe.other W (Or.inl qb)
 replace qf := qf.other W (Or.inl qb)
 replace qg := qg.other W qn
 replace qh := qh.other W qo
 replace qi := qi.other W qp
 replace qj := qj.other W qq
 replace qk := qk.other W qr
 replace Z0 := Nat.le_trans Z0 (Nat.le_of_eq W.size.symm)
 replace N := Fr.snoc X.1 N ql
 replace Kp := Kp.wr W (Or.inl (List.mem_of_getElem? (i := 0) rfl))
 refine g_iinc X d10_50 (pc' := 53) (q := (1 : Int32)) (Ls' := #[.val (.ref a0), .val (.ref wk), .val (.int (1 : Int32)), .val (.ref wv), .val (.int (1 : Int32))]) rfl rfl rfl rfl ?_
 refine g_goto X d10_53 (pc' := 3) (by decide) (by decide) ?_
 refine g_iload X d10_3 (pc' := 5) rfl rfl ?_
 refine g_aloadN X d10_5 (pc' := 6) rfl rfl rfl ?_
 refine g_arraylength X qa d10_6 (pc' := 7) rfl (z := (4 : Int32)) rfl ?_
 refine g_icN X d10_7 (tlt (show (1 : Int32) < (4 : Int32) from (by decide))).2.1 (pc' := 10) rfl ?_
 refine g_aloadN X d10_10 (pc' := 11) rfl rfl rfl ?_
 refine g_iload X d10_11 (pc' := 13) rfl rfl ?_
 refine g_aloadN X d10_13 (pc' := 14) rfl rfl rfl ?_
 refine g_iloadN X d10_14 (pc' := 15) rfl rfl ?_
 refine g_aloadN X d10_15 (pc' := 16) rfl rfl rfl ?_
 refine g_getfield X (host := "") (Or.inl (tb hw 28 rfl)) Via.refl qd d10_16 (pc' := 19) rfl ?_
 intro T X
 refine g_iload X d10_19 (pc' := 21) rfl rfl ?_
 refine g_iaload X qh 1 d10_21 (pc' := 22) rfl (by decide) (by decide) rfl ?_
 refine g_iadd X d10_22 (pc' := 23) rfl ?_
 refine Go.lit32 (z := (1 : Int32)) (by decide) ?_
 refine g_laload X qk 1 d10_23 (pc' := 24) rfl (by decide) (by decide) rfl ?_
 refine g_aloadN X d10_24 (pc' := 25) rfl rfl rfl ?_
 refine g_getfield X (host := "") (Or.inl (tb hw 30 rfl)) Via.refl qe d10_25 (pc' := 28) rfl ?_
 intro T X
 refine g_iload X d10_28 (pc' := 30) rfl rfl ?_
 refine g_iaload X qi 1 d10_30 (pc' := 31) rfl (by decide) (by decide) rfl ?_
 refine g_lushr X d10_31 (pc' := 32) rfl ?_
 refine g_aloadN X d10_32 (pc' := 33) rfl rfl rfl ?_
 refine g_getfield X (host := "") (Or.inl (tb hw 33 rfl)) Via.refl qf d10_33 (pc' := 36) rfl ?_
 intro T X
 refine g_iload X d10_36 (pc' := 38) rfl rfl ?_
 refine g_laload X qj 1 d10_38 (pc' := 39) rfl (by decide) (by decide) rfl ?_
 refine g_land X d10_39 (pc' := 40) rfl ?_
 refine g_l2i X d10_40 (pc' := 41) rfl ?_
 refine g_aloadN X d10_41 (pc' := 42) rfl rfl rfl ?_
 refine g_getfield X (host := "") (Or.inl (tb hw 26 rfl)) Via.refl qc d10_42 (pc' := 45) rfl ?_
 intro T X
 refine g_iload X d10_45 (pc' := 47) rfl rfl ?_
 refine g_iaload X qg 1 d10_47 (pc' := 48) rfl (by decide) (by decide) rfl ?_
 refine g_iadd X d10_48 (pc' := 49) rfl ?_
 generalize qv : (((((k1.toUInt64 >>> (s1 &&& 0x3f).toInt64.toUInt64).toInt64) &&& m1).toInt32) + l1) = qs
 refine g_iastore X qa 1 d10_49 (pc' := 50) rfl (by decide) (by decide) (Nat.le_of_ble_eq_true rfl) ?_
 intro T h X W qa
 replace qa : Av Z h wv .int [(.int qm), (.int qs), (.int x2), (.int x3)] := qa
 replace qc := qc.other W (Or.inl qb)
 replace qd := qd.other W (Or.inl qb)
 replace qe := qe.other W (Or.inl qb)
 replace qf := qf.other W (Or.inl qb)
 replace qg := qg.other W qn
 replace qh := qh.other W qo
 replace qi := qi.other W qp
 replace qj := qj.other W qq
 replace qk := qk.other W qr
 replace Z0 := Nat.le_trans Z0 (Nat.le_of_eq W.size.symm)
 replace N := Fr.snoc X.1 N ql
 replace Kp := Kp.wr W (Or.inl (List.mem_of_getElem? (i := 0) rfl))
 refine g_iinc X d10_50 (pc' := 53) (q := (1 : Int32)) (Ls' := #[.val (.ref a0), .val (.ref wk), .val (.int (1 : Int32)), .val (.ref wv), .val (.int (2 : Int32))]) rfl rfl rfl rfl ?_
 refine g_goto X d10_53 (pc' := 3) (by decide) (by decide) ?_
 refine g_iload X d10_3 (pc' := 5) rfl rfl ?_
 refine g_aloadN X d10_5 (pc' := 6) rfl rfl rfl ?_
 refine g_arraylength X qa d10_6 (pc' := 7) rfl (z := (4 : Int32)) rfl ?_
 refine g_icN X d10_7 (tlt (show (2 : Int32) < (4 : Int32) from (by decide))).2.1 (pc' := 10) rfl ?_
 refine g_aloadN X d10_10 (pc' := 11) rfl rfl rfl ?_
 refine g_iload X d10_11 (pc' := 13) rfl rfl ?_
 refine g_aloadN X d10_13 (pc' := 14) rfl rfl rfl ?_
 refine g_iloadN X d10_14 (pc' := 15) rfl rfl ?_
 refine g_aloadN X d10_15 (pc' := 16) rfl rfl rfl ?_
 refine g_getfield X (host := "") (Or.inl (tb hw 28 rfl)) Via.refl qd d10_16 (pc' := 19) rfl ?_
 intro T X
 refine g_iload X d10_19 (pc' := 21) rfl rfl ?_
 refine g_iaload X qh 2 d10_21 (pc' := 22) rfl (by decide) (by decide) rfl ?_
 refine g_iadd X d10_22 (pc' := 23) rfl ?_
 refine Go.lit32 (z := (1 : Int32)) (by decide) ?_
 refine g_laload X qk 1 d10_23 (pc' := 24) rfl (by decide) (by decide) rfl ?_
 refine g_aloadN X d10_24 (pc' := 25) rfl rfl rfl ?_
 refine g_getfield X (host := "") (Or.inl (tb hw 30 rfl)) Via.refl qe d10_25 (pc' := 28) rfl ?_
 intro T X
 refine g_iload X d10_28 (pc' := 30) rfl rfl ?_
 refine g_iaload X qi 2 d10_30 (pc' := 31) rfl (by decide) (by decide) rfl ?_
 refine g_lushr X d10_31 (pc' := 32) rfl ?_
 refine g_aloadN X d10_32 (pc' := 33) rfl rfl rfl ?_
 refine g_getfield X (host := "") (Or.inl (tb hw 33 rfl)) Via.refl qf d10_33 (pc' := 36) rfl ?_
 intro T X
 refine g_iload X d10_36 (pc' := 38) rfl rfl ?_
 refine g_laload X qj 2 d10_38 (pc' := 39) rfl (by decide) (by decide) rfl ?_
 refine g_land X d10_39 (pc' := 40) rfl ?_
 refine g_l2i X d10_40 (pc' := 41) rfl ?_
 refine g_aloadN X d10_41 (pc' := 42) rfl rfl rfl ?_
 refine g_getfield X (host := "") (Or.inl (tb hw 26 rfl)) Via.refl qc d10_42 (pc' := 45) rfl ?_
 intro T X
 refine g_iload X d10_45 (pc' := 47) rfl rfl ?_
 refine g_iaload X qg 2 d10_47 (pc' := 48) rfl (by decide) (by decide) rfl ?_
 refine g_iadd X d10_48 (pc' := 49) rfl ?_
 generalize qw : (((((k1.toUInt64 >>> (s2 &&& 0x3f).toInt64.toUInt64).toInt64) &&& m2).toInt32) + l2) = qt
 refine g_iastore X qa 2 d10_49 (pc' := 50) rfl (by decide) (by decide) (Nat.le_of_ble_eq_true rfl) ?_
 intro T h X W qa
 replace qa : Av Z h wv .int [(.int qm), (.int qs), (.int qt), (.int x3)] := qa
 replace qc := qc.other W (Or.inl qb)
 replace qd := qd.other W (Or.inl qb)
 replace qe := qe.other W (Or.inl qb)
 replace qf := qf.other W (Or.inl qb)
 replace qg := qg.other W qn
 replace qh := qh.other W qo
 replace qi := qi.other W qp
 replace qj := qj.other W qq
 replace qk := qk.other W qr
 replace Z0 := Nat.le_trans Z0 (Nat.le_of_eq W.size.symm)
 replace N := Fr.snoc X.1 N ql
 replace Kp := Kp.wr W (Or.inl (List.mem_of_getElem? (i := 0) rfl))
 refine g_iinc X d10_50 (pc' := 53) (q := (1 : Int32)) (Ls' := #[.val (.ref a0), .val (.ref wk), .val (.int (1 : Int32)), .val (.ref wv), .val (.int (3 : Int32))]) rfl rfl rfl rfl ?_
 refine g_goto X d10_53 (pc' := 3) (by decide) (by decide) ?_
 refine g_iload X d10_3 (pc' := 5) rfl rfl ?_
 refine g_aloadN X d10_5 (pc' := 6) rfl rfl rfl ?_
 refine g_arraylength X qa d10_6 (pc' := 7) rfl (z := (4 : Int32)) rfl ?_
 refine g_icN X d10_7 (tlt (show (3 : Int32) < (4 : Int32) from (by decide))).2.1 (pc' := 10) rfl ?_
 refine g_aloadN X d10_10 (pc' := 11) rfl rfl rfl ?_
 refine g_iload X d10_11 (pc' := 13) rfl rfl ?_
 refine g_aloadN X d10_13 (pc' := 14) rfl rfl rfl ?_
 refine g_iloadN X d10_14 (pc' := 15) rfl rfl ?_
 refine g_aloadN X d10_15 (pc' := 16) rfl rfl rfl ?_
 refine g_getfield X (host := "") (Or.inl (tb hw 28 rfl)) Via.refl qd d10_16 (pc' := 19) rfl ?_
 intro T X
 refine g_iload X d10_19 (pc' := 21) rfl rfl ?_
 refine g_iaload X qh 3 d10_21 (pc' := 22) rfl (by decide) (by decide) rfl ?_
 refine g_iadd X d10_22 (pc' := 23) rfl ?_
 refine Go.lit32 (z := (2 : Int32)) (by decide) ?_
 refine g_laload X qk 2 d10_23 (pc' := 24) rfl (by decide) (by decide) rfl ?_
 refine g_aloadN X d10_24 (pc' := 25) rfl rfl rfl ?_
 refine g_getfield X (host := "") (Or.inl (tb hw 30 rfl)) Via.refl qe d10_25 (pc' := 28) rfl ?_
 intro T X
 refine g_iload X d10_28 (pc' := 30) rfl rfl ?_
 refine g_iaload X qi 3 d10_30 (pc' := 31) rfl (by decide) (by decide) rfl ?_
 refine g_lushr X d10_31 (pc' := 32) rfl ?_
 refine g_aloadN X d10_32 (pc' := 33) rfl rfl rfl ?_
 refine g_getfield X (host := "") (Or.inl (tb hw 33 rfl)) Via.refl qf d10_33 (pc' := 36) rfl ?_
 intro T X
 refine g_iload X d10_36 (pc' := 38) rfl rfl ?_
 refine g_laload X qj 3 d10_38 (pc' := 39) rfl (by decide) (by decide) rfl ?_
 refine g_land X d10_39 (pc' := 40) rfl ?_
 refine g_l2i X d10_40 (pc' := 41) rfl ?_
 refine g_aloadN X d10_41 (pc' := 42) rfl rfl rfl ?_
 refine g_getfield X (host := "") (Or.inl (tb hw 26 rfl)) Via.refl qc d10_42 (pc' := 45) rfl ?_
 intro T X
 refine g_iload X d10_45 (pc' := 47) rfl rfl ?_
 refine g_iaload X qg 3 d10_47 (pc' := 48) rfl (by decide) (by decide) rfl ?_
 refine g_iadd X d10_48 (pc' := 49) rfl ?_
 generalize qx : (((((k2.toUInt64 >>> (s3 &&& 0x3f).toInt64.toUInt64).toInt64) &&& m3).toInt32) + l3) = qy
 refine g_iastore X qa 3 d10_49 (pc' := 50) rfl (by decide) (by decide) (Nat.le_of_ble_eq_true rfl) ?_
 intro T h X W qa
 replace qa : Av Z h wv .int [(.int qm), (.int qs), (.int qt), (.int qy)] := qa
 replace Z0 := Nat.le_trans Z0 (Nat.le_of_eq W.size.symm)
 replace N := Fr.snoc X.1 N ql
 replace Kp := Kp.wr W (Or.inl (List.mem_of_getElem? (i := 0) rfl))
 refine g_iinc X d10_50 (pc' := 53) (q := (1 : Int32)) (Ls' := #[.val (.ref a0), .val (.ref wk), .val (.int (1 : Int32)), .val (.ref wv), .val (.int (4 : Int32))]) rfl rfl rfl rfl ?_
 refine g_goto X d10_53 (pc' := 3) (by decide) (by decide) ?_
 refine g_iload X d10_3 (pc' := 5) rfl rfl ?_
 refine g_aloadN X d10_5 (pc' := 6) rfl rfl rfl ?_
 refine g_arraylength X qa d10_6 (pc' := 7) rfl (z := (4 : Int32)) rfl ?_
 refine g_icY X d10_7 (flt (show ¬ ((4 : Int32) < (4 : Int32)) from (by decide))).2.1 (pc' := 56) (by decide) (by decide) ?_
 refine g_return X d10_56 hret hlk (by decide) (by decide) ?_
 subst qu qv qw qx
 exact ⟨rfl, N, Kp, qa⟩
theorem ef_rPk20 (m : MethodId) (x0 : Addr) (x1 : Addr) (x2 : Addr) (x3 : Int32) : entryFrame m #[(.ref x0), (.ref x1), (.ref x2), (.int x3)] 5 = mkF m 0 #[.val (.ref x0), .val (.ref x1), .val (.ref x2), .val (.int x3), .unset] [] := by first | (simp [entryFrame, mkF, argsToLocals, Value.category]; done) | rfl
set_option maxRecDepth 65536 in
set_option maxHeartbeats 40000000 in
theorem rPk20 (l : Launch) (Z : State) (aa : Array Value) (hw : ∀ d ∈ tables_1, d.before aa Z = true) (ws : List Jvm.Cond) (a0 : Addr) (wv : Addr) (wk : Addr) (wl : Addr) (ww : Addr) (wt : Addr) (l0 : Int32) (l1 : Int32) (l2 : Int32) (l3 : Int32) (s0 : Int32) (s1 : Int32) (s2 : Int32) (s3 : Int32) (x0 : Int32) (x1 : Int32) (x2 : Int32) (x3 : Int32) (k0 : Int64) (k1 : Int64) (k2 : Int64) (k3 : Int64) (h0 : Heap) (n0 : Nat) (Z0 : n0 ≤ h0.size) (qx : Exa Z h0 a0 "com/example/ryazan/ryazan/language/Layout") (qd : Fld Z h0 a0 "com/example/ryazan/ryazan/language/Layout" "low" "[I" (.ref wl)) (qe : Fld Z h0 a0 "com/example/ryazan/ryazan/language/Layout" "word" "[I" (.ref ww)) (qf : Fld Z h0 a0 "com/example/ryazan/ryazan/language/Layout" "shift" "[I" (.ref wt)) (qj : Fld Z h0 a0 "com/example/ryazan/ryazan/language/Layout" "width" "I" (.int (2 : Int32))) (qg : Av Z h0 wl .int [(.int l0), (.int l1), (.int l2), (.int l3)]) (qh : Av Z h0 ww .int [(.int (0 : Int32)), (.int (0 : Int32)), (.int (1 : Int32)), (.int (1 : Int32))]) (qi : Av Z h0 wt .int [(.int s0), (.int s1), (.int s2), (.int s3)]) (qb : Av Z h0 wv .int [(.int x0), (.int x1), (.int x2), (.int x3)]) (qa : Av Z h0 wk .long [(.long k0), (.long k1), (.long k2), (.long k3)]) (qk : n0 ≤ wk) (qc : a0 ≠ wk) (qm : wl ≠ wk) (qn : ww ≠ wk) (qo : wt ≠ wk) (ql : wv ≠ wk) :
    Rm l Z (⟨"com/example/ryazan/ryazan/language/Layout", "pack", "([I[JI)V"⟩ : MethodName) prog_58_method_3_code 5 none ws ({ frames := 0, cells := 0, slots := 0, locals := 0 } : Room) #[(.ref a0), (.ref wv), (.ref wk), (.int (0 : Int32))] h0 (fun v h L => v = none ∧ Fr n0 L ∧ Keep h0 h [wk] ∧ Av Z h wk .long [(.long (((0 : Int64) ||| (((x0.toInt64) - (l0.toInt64)) <<< (s0 &&& 0x3f).toInt64)) ||| (((x1.toInt64) - (l1.toInt64)) <<< (s1 &&& 0x3f).toInt64))), (.long (((0 : Int64) ||| (((x2.toInt64) - (l2.toInt64)) <<< (s2 &&& 0x3f).toInt64)) ||| (((x3.toInt64) - (l3.toInt64)) <<< (s3 &&& 0x3f).toInt64))), (.long k2), (.long k3)]) := by
 refine Rm.of (plainFor_of_name pn_3) ?_
 intro p e s m below meth cc T X hnm hret hlk
 refine Go.at_ (ef_rPk20 m a0 wv wk (0 : Int32)) ?_
 have N := Fr.nil n0
 have Kp := Keep.refl h0 [wk]
 refine g_iconst X (0 : Int32) d9_0 (pc' := 1) rfl rfl ?_
 refine g_istore X d9_1 (pc' := 3) (Ls' := #[.val (.ref a0), .val (.ref wv), .val (.ref wk), .val (.int (0 : Int32)), .val (.int (0 : Int32))]) rfl rfl ?_
 refine g_iload X d9_3 (pc' := 5) rfl rfl ?_
 refine g_aloadN X d9_5 (pc' := 6) rfl rfl rfl ?_
 refine g_getfield X (host := "") (Or.inl (tb hw 44 rfl)) Via.refl qj d9_6 (pc' := 9) rfl ?_
 intro T X
 refine g_icN X d9_9 (tlt (show (0 : Int32) < (2 : Int32) from (by decide))).2.1 (pc' := 12) rfl ?_
 refine g_aloadN X d9_12 (pc' := 13) rfl rfl rfl ?_
 refine g_iloadN X d9_13 (pc' := 14) rfl rfl ?_
 refine g_iload X d9_14 (pc' := 16) rfl rfl ?_
 refine g_iadd X d9_16 (pc' := 17) rfl ?_
 refine Go.lit32 (z := (0 : Int32)) (by decide) ?_
 refine g_lconst X (0 : Int64) d9_17 (pc' := 18) rfl rfl ?_
 refine g_lastore X qa 0 d9_18 (pc' := 19) rfl (by decide) (by decide) (Nat.le_of_ble_eq_true rfl) ?_
 intro T h X W qa
 replace qa : Av Z h wk .long [(.long (0 : Int64)), (.long k1), (.long k2), (.long k3)] := qa
 replace qd := qd.other W (Or.inl qc)
 replace qe := qe.other W (Or.inl qc)
 replace qf := qf.other W (Or.inl qc)
 replace qj := qj.other W (Or.inl qc)
 replace qg := qg.other W qm
 replace qh := qh.other W qn
 replace qi := qi.other W qo
 replace qb := qb.other W ql
 replace Z0 := Nat.le_trans Z0 (Nat.le_of_eq W.size.symm)
 replace N := Fr.snoc X.1 N qk
 replace Kp := Kp.wr W (Or.inl (List.mem_of_getElem? (i := 0) rfl))
 refine g_iinc X d9_19 (pc' := 22) (q := (1 : Int32)) (Ls' := #[.val (.ref a0), .val (.ref wv), .val (.ref wk), .val (.int (0 : Int32)), .val (.int (1 : Int32))]) rfl rfl rfl rfl ?_
 refine g_goto X d9_22 (pc' := 3) (by decide) (by decide) ?_
 refine g_iload X d9_3 (pc' := 5) rfl rfl ?_
 refine g_aloadN X d9_5 (pc' := 6) rfl rfl rfl ?_
 refine g_getfield X (host := "") (Or.inl (tb hw 44 rfl)) Via.refl qj d9_6 (pc' := 9) rfl ?_
 intro T X
 refine g_icN X d9_9 (tlt (show (1 : Int32) < (2 : Int32) from (by decide))).2.1 (pc' := 12) rfl ?_
 refine g_aloadN X d9_12 (pc' := 13) rfl rfl rfl ?_
 refine g_iloadN X d9_13 (pc' := 14) rfl rfl ?_
 refine g_iload X d9_14 (pc' := 16) rfl rfl ?_
 refine g_iadd X d9_16 (pc' := 17) rfl ?_
 refine Go.lit32 (z := (1 : Int32)) (by decide) ?_
 refine g_lconst X (0 : Int64) d9_17 (pc' := 18) rfl rfl ?_
 refine g_lastore X qa 1 d9_18 (pc' := 19) rfl (by decide) (by decide) (Nat.le_of_ble_eq_true rfl) ?_
 intro T h X W qa
 replace qa : Av Z h wk .long [(.long (0 : Int64)), (.long (0 : Int64)), (.long k2), (.long k3)] := qa
 replace qd := qd.other W (Or.inl qc)
 replace qe := qe.other W (Or.inl qc)
 replace qf := qf.other W (Or.inl qc)
 replace qj := qj.other W (Or.inl qc)
 replace qg := qg.other W qm
 replace qh := qh.other W qn
 replace qi := qi.other W qo
 replace qb := qb.other W ql
 replace Z0 := Nat.le_trans Z0 (Nat.le_of_eq W.size.symm)
 replace N := Fr.snoc X.1 N qk
 replace Kp := Kp.wr W (Or.inl (List.mem_of_getElem? (i := 0) rfl))
 refine g_iinc X d9_19 (pc' := 22) (q := (1 : Int32)) (Ls' := #[.val (.ref a0), .val (.ref wv), .val (.ref wk), .val (.int (0 : Int32)), .val (.int (2 : Int32))]) rfl rfl rfl rfl ?_
 refine g_goto X d9_22 (pc' := 3) (by decide) (by decide) ?_
 refine g_iload X d9_3 (pc' := 5) rfl rfl ?_
 refine g_aloadN X d9_5 (pc' := 6) rfl rfl rfl ?_
 refine g_getfield X (host := "") (Or.inl (tb hw 44 rfl)) Via.refl qj d9_6 (pc' := 9) rfl ?_
 intro T X
 refine g_icY X d9_9 (flt (show ¬ ((2 : Int32) < (2 : Int32)) from (by decide))).2.1 (pc' := 25) (by decide) (by decide) ?_
 refine g_iconst X (0 : Int32) d9_25 (pc' := 26) rfl rfl ?_
 refine g_istore X d9_26 (pc' := 28) (Ls' := #[.val (.ref a0), .val (.ref wv), .val (.ref wk), .val (.int (0 : Int32)), .val (.int (0 : Int32))]) rfl rfl ?_
 refine g_iload X d9_28 (pc' := 30) rfl rfl ?_
 refine g_aloadN X d9_30 (pc' := 31) rfl rfl rfl ?_
 refine g_arraylength X qb d9_31 (pc' := 32) rfl (z := (4 : Int32)) rfl ?_
 refine g_icN X d9_32 (tlt (show (0 : Int32) < (4 : Int32) from (by decide))).2.1 (pc' := 35) rfl ?_
 refine g_aloadN X d9_35 (pc' := 36) rfl rfl rfl ?_
 refine g_iloadN X d9_36 (pc' := 37) rfl rfl ?_
 refine g_aloadN X d9_37 (pc' := 38) rfl rfl rfl ?_
 refine g_getfield X (host := "") (Or.inl (tb hw 28 rfl)) Via.refl qe d9_38 (pc' := 41) rfl ?_
 intro T X
 refine g_iload X d9_41 (pc' := 43) rfl rfl ?_
 refine g_iaload X qh 0 d9_43 (pc' := 44) rfl (by decide) (by decide) rfl ?_
 refine g_iadd X d9_44 (pc' := 45) rfl ?_
 refine Go.lit32 (z := (0 : Int32)) (by decide) ?_
 refine g_dup2 X d9_45 (pc' := 46) rfl rfl rfl ?_
 refine g_laload X qa 0 d9_46 (pc' := 47) rfl (by decide) (by decide) rfl ?_
 refine g_aloadN X d9_47 (pc' := 48) rfl rfl rfl ?_
 refine g_iload X d9_48 (pc' := 50) rfl rfl ?_
 refine g_iaload X qb 0 d9_50 (pc' := 51) rfl (by decide) (by decide) rfl ?_
 refine g_i2l X d9_51 (pc' := 52) rfl ?_
 refine g_aloadN X d9_52 (pc' := 53) rfl rfl rfl ?_
 refine g_getfield X (host := "") (Or.inl (tb hw 26 rfl)) Via.refl qd d9_53 (pc' := 56) rfl ?_
 intro T X
 refine g_iload X d9_56 (pc' := 58) rfl rfl ?_
 refine g_iaload X qg 0 d9_58 (pc' := 59) rfl (by decide) (by decide) rfl ?_
 refine g_i2l X d9_59 (pc' := 60) rfl ?_
 refine g_lsub X d9_60 (pc' := 61) rfl ?_
 refine g_aloadN X d9_61 (pc' := 62) rfl rfl rfl ?_
 refine g_getfield X (host := "") (Or.inl (tb hw 30 rfl)) Via.refl qf d9_62 (pc' := 65) rfl ?_
 intro T X
 refine g_iload X d9_65 (pc' := 67) rfl rfl ?_
 refine g_iaload X qi 0 d9_67 (pc' := 68) rfl (by decide) (by decide) rfl ?_
 refine g_lshl X d9_68 (pc' := 69) rfl ?_
 refine g_lor X d9_69 (pc' := 70) rfl ?_
 generalize qs : ((0 : Int64) ||| (((x0.toInt64) - (l0.toInt64)) <<< (s0 &&& 0x3f).toInt64)) = qq
 refine g_lastore X qa 0 d9_70 (pc' := 71) rfl (by decide) (by decide) (Nat.le_of_ble_eq_true rfl) ?_
 intro T h X W qa
 replace qa : Av Z h wk .long [(.long qq), (.long (0 : Int64)), (.long k2), (.long k3)] := qa
 replace qd := qd.other W (Or.inl qc)
 replace qe := qe.other W (Or.inl qc)
 replace qf := qf.other W (Or.inl qc)
 replace qg := qg.other W qm
 replace qh := qh.other W qn
 replace qi := qi.other W qo
 replace qb := qb.other W ql
 replace Z0 := Nat.le_trans Z0 (Nat.le_of_eq W.size.symm)
 replace N := Fr.snoc X.1 N qk
 replace Kp := Kp.wr W (Or.inl (List.mem_of_getElem? (i := 0) rfl))
 refine g_iinc X d9_71 (pc' := 74) (q := (1 : Int32)) (Ls' := #[.val (.ref a0), .val (.ref wv), .val (.ref wk), .val (.int (0 : Int32)), .val (.int (1 : Int32))]) rfl rfl rfl rfl ?_
 refine g_goto X d9_74 (pc' := 28) (by decide) (by decide) ?_
 refine g_iload X d9_28 (pc' := 30) rfl rfl ?_
 refine g_aloadN X d9_30 (pc' := 31) rfl rfl rfl ?_
 refine g_arraylength X qb d9_31 (pc' := 32) rfl (z := (4 : Int32)) rfl ?_
 refine g_icN X d9_32 (tlt (show (1 : Int32) < (4 : Int32) from (by decide))).2.1 (pc' := 35) rfl ?_
 refine g_aloadN X d9_35 (pc' := 36) rfl rfl rfl ?_
 refine g_iloadN X d9_36 (pc' := 37) rfl rfl ?_
 refine g_aloadN X d9_37 (pc' := 38) rfl rfl rfl ?_
 refine g_getfield X (host := "") (Or.inl (tb hw 28 rfl)) Via.refl qe d9_38 (pc' := 41) rfl ?_
 intro T X
 refine g_iload X d9_41 (pc' := 43) rfl rfl ?_
 refine g_iaload X qh 1 d9_43 (pc' := 44) rfl (by decide) (by decide) rfl ?_
 refine g_iadd X d9_44 (pc' := 45) rfl ?_
 refine Go.lit32 (z := (0 : Int32)) (by decide) ?_
 refine g_dup2 X d9_45 (pc' := 46) rfl rfl rfl ?_
 refine g_laload X qa 0 d9_46 (pc' := 47) rfl (by decide) (by decide) rfl ?_
 refine g_aloadN X d9_47 (pc' := 48) rfl rfl rfl ?_
 refine g_iload X d9_48 (pc' := 50) rfl rfl ?_
 refine g_iaload X qb 1 d9_50 (pc' := 51) rfl (by decide) (by decide) rfl ?_
 refine g_i2l X d9_51 (pc' := 52) rfl ?_
 refine g_aloadN X d9_52 (pc' := 53) rfl rfl rfl ?_
 refine g_getfield X (host := "") (Or.inl (tb hw 26 rfl)) Via.refl qd d9_53 (pc' := 56) rfl ?_
 intro T X
 refine g_iload X d9_56 (pc' := 58) rfl rfl ?_
 refine g_iaload X qg 1 d9_58 (pc' := 59) rfl (by decide) (by decide) rfl ?_
 refine g_i2l X d9_59 (pc' := 60) rfl ?_
 refine g_lsub X d9_60 (pc' := 61) rfl ?_
 refine g_aloadN X d9_61 (pc' := 62) rfl rfl rfl ?_
 refine g_getfield X (host := "") (Or.inl (tb hw 30 rfl)) Via.refl qf d9_62 (pc' := 65) rfl ?_
 intro T X
 refine g_iload X d9_65 (pc' := 67) rfl rfl ?_
 refine g_iaload X qi 1 d9_67 (pc' := 68) rfl (by decide) (by decide) rfl ?_
 refine g_lshl X d9_68 (pc' := 69) rfl ?_
 refine g_lor X d9_69 (pc' := 70) rfl ?_
 generalize qt : (qq ||| (((x1.toInt64) - (l1.toInt64)) <<< (s1 &&& 0x3f).toInt64)) = qp
 refine g_lastore X qa 0 d9_70 (pc' := 71) rfl (by decide) (by decide) (Nat.le_of_ble_eq_true rfl) ?_
 intro T h X W qa
 replace qa : Av Z h wk .long [(.long qp), (.long (0 : Int64)), (.long k2), (.long k3)] := qa
 replace qd := qd.other W (Or.inl qc)
 replace qe := qe.other W (Or.inl qc)
 replace qf := qf.other W (Or.inl qc)
 replace qg := qg.other W qm
 replace qh := qh.other W qn
 replace qi := qi.other W qo
 replace qb := qb.other W ql
 replace Z0 := Nat.le_trans Z0 (Nat.le_of_eq W.size.symm)
 replace N := Fr.snoc X.1 N qk
 replace Kp := Kp.wr W (Or.inl (List.mem_of_getElem? (i := 0) rfl))
 refine g_iinc X d9_71 (pc' := 74) (q := (1 : Int32)) (Ls' := #[.val (.ref a0), .val (.ref wv), .val (.ref wk), .val (.int (0 : Int32)), .val (.int (2 : Int32))]) rfl rfl rfl rfl ?_
 refine g_goto X d9_74 (pc' := 28) (by decide) (by decide) ?_
 refine g_iload X d9_28 (pc' := 30) rfl rfl ?_
 refine g_aloadN X d9_30 (pc' := 31) rfl rfl rfl ?_
 refine g_arraylength X qb d9_31 (pc' := 32) rfl (z := (4 : Int32)) rfl ?_
 refine g_icN X d9_32 (tlt (show (2 : Int32) < (4 : Int32) from (by decide))).2.1 (pc' := 35) rfl ?_
 refine g_aloadN X d9_35 (pc' := 36) rfl rfl rfl ?_
 refine g_iloadN X d9_36 (pc' := 37) rfl rfl ?_
 refine g_aloadN X d9_37 (pc' := 38) rfl rfl rfl ?_
 refine g_getfield X (host := "") (Or.inl (tb hw 28 rfl)) Via.refl qe d9_38 (pc' := 41) rfl ?_
 intro T X
 refine g_iload X d9_41 (pc' := 43) rfl rfl ?_
 refine g_iaload X qh 2 d9_43 (pc' := 44) rfl (by decide) (by decide) rfl ?_
 refine g_iadd X d9_44 (pc' := 45) rfl ?_
 refine Go.lit32 (z := (1 : Int32)) (by decide) ?_
 refine g_dup2 X d9_45 (pc' := 46) rfl rfl rfl ?_
 refine g_laload X qa 1 d9_46 (pc' := 47) rfl (by decide) (by decide) rfl ?_
 refine g_aloadN X d9_47 (pc' := 48) rfl rfl rfl ?_
 refine g_iload X d9_48 (pc' := 50) rfl rfl ?_
 refine g_iaload X qb 2 d9_50 (pc' := 51) rfl (by decide) (by decide) rfl ?_
 refine g_i2l X d9_51 (pc' := 52) rfl ?_
 refine g_aloadN X d9_52 (pc' := 53) rfl rfl rfl ?_
 refine g_getfield X (host := "") (Or.inl (tb hw 26 rfl)) Via.refl qd d9_53 (pc' := 56) rfl ?_
 intro T X
 refine g_iload X d9_56 (pc' := 58) rfl rfl ?_
 refine g_iaload X qg 2 d9_58 (pc' := 59) rfl (by decide) (by decide) rfl ?_
 refine g_i2l X d9_59 (pc' := 60) rfl ?_
 refine g_lsub X d9_60 (pc' := 61) rfl ?_
 refine g_aloadN X d9_61 (pc' := 62) rfl rfl rfl ?_
 refine g_getfield X (host := "") (Or.inl (tb hw 30 rfl)) Via.refl qf d9_62 (pc' := 65) rfl ?_
 intro T X
 refine g_iload X d9_65 (pc' := 67) rfl rfl ?_
 refine g_iaload X qi 2 d9_67 (pc' := 68) rfl (by decide) (by decide) rfl ?_
 refine g_lshl X d9_68 (pc' := 69) rfl ?_
 refine g_lor X d9_69 (pc' := 70) rfl ?_
 generalize qu : ((0 : Int64) ||| (((x2.toInt64) - (l2.toInt64)) <<< (s2 &&& 0x3f).toInt64)) = qr
 refine g_lastore X qa 1 d9_70 (pc' := 71) rfl (by decide) (by decide) (Nat.le_of_ble_eq_true rfl) ?_
 intro T h X W qa
 replace qa : Av Z h wk .long [(.long qp), (.long qr), (.long k2), (.long k3)] := qa
 replace qd := qd.other W (Or.inl qc)
 replace qe := qe.other W (Or.inl qc)
 replace qf := qf.other W (Or.inl qc)
 replace qg := qg.other W qm
 replace qh := qh.other W qn
 replace qi := qi.other W qo
 replace qb := qb.other W ql
 replace Z0 := Nat.le_trans Z0 (Nat.le_of_eq W.size.symm)
 replace N := Fr.snoc X.1 N qk
 replace Kp := Kp.wr W (Or.inl (List.mem_of_getElem? (i := 0) rfl))
 refine g_iinc X d9_71 (pc' := 74) (q := (1 : Int32)) (Ls' := #[.val (.ref a0), .val (.ref wv), .val (.ref wk), .val (.int (0 : Int32)), .val (.int (3 : Int32))]) rfl rfl rfl rfl ?_
 refine g_goto X d9_74 (pc' := 28) (by decide) (by decide) ?_
 refine g_iload X d9_28 (pc' := 30) rfl rfl ?_
 refine g_aloadN X d9_30 (pc' := 31) rfl rfl rfl ?_
 refine g_arraylength X qb d9_31 (pc' := 32) rfl (z := (4 : Int32)) rfl ?_
 refine g_icN X d9_32 (tlt (show (3 : Int32) < (4 : Int32) from (by decide))).2.1 (pc' := 35) rfl ?_
 refine g_aloadN X d9_35 (pc' := 36) rfl rfl rfl ?_
 refine g_iloadN X d9_36 (pc' := 37) rfl rfl ?_
 refine g_aloadN X d9_37 (pc' := 38) rfl rfl rfl ?_
 refine g_getfield X (host := "") (Or.inl (tb hw 28 rfl)) Via.refl qe d9_38 (pc' := 41) rfl ?_
 intro T X
 refine g_iload X d9_41 (pc' := 43) rfl rfl ?_
 refine g_iaload X qh 3 d9_43 (pc' := 44) rfl (by decide) (by decide) rfl ?_
 refine g_iadd X d9_44 (pc' := 45) rfl ?_
 refine Go.lit32 (z := (1 : Int32)) (by decide) ?_
 refine g_dup2 X d9_45 (pc' := 46) rfl rfl rfl ?_
 refine g_laload X qa 1 d9_46 (pc' := 47) rfl (by decide) (by decide) rfl ?_
 refine g_aloadN X d9_47 (pc' := 48) rfl rfl rfl ?_
 refine g_iload X d9_48 (pc' := 50) rfl rfl ?_
 refine g_iaload X qb 3 d9_50 (pc' := 51) rfl (by decide) (by decide) rfl ?_
 refine g_i2l X d9_51 (pc' := 52) rfl ?_
 refine g_aloadN X d9_52 (pc' := 53) rfl rfl rfl ?_
 refine g_getfield X (host := "") (Or.inl (tb hw 26 rfl)) Via.refl qd d9_53 (pc' := 56) rfl ?_
 intro T X
 refine g_iload X d9_56 (pc' := 58) rfl rfl ?_
 refine g_iaload X qg 3 d9_58 (pc' := 59) rfl (by decide) (by decide) rfl ?_
 refine g_i2l X d9_59 (pc' := 60) rfl ?_
 refine g_lsub X d9_60 (pc' := 61) rfl ?_
 refine g_aloadN X d9_61 (pc' := 62) rfl rfl rfl ?_
 refine g_getfield X (host := "") (Or.inl (tb hw 30 rfl)) Via.refl qf d9_62 (pc' := 65) rfl ?_
 intro T X
 refine g_iload X d9_65 (pc' := 67) rfl rfl ?_
 refine g_iaload X qi 3 d9_67 (pc' := 68) rfl (by decide) (by decide) rfl ?_
 refine g_lshl X d9_68 (pc' := 69) rfl ?_
 refine g_lor X d9_69 (pc' := 70) rfl ?_
 generalize qv : (qr ||| (((x3.toInt64) - (l3.toInt64)) <<< (s3 &&& 0x3f).toInt64)) = qw
 refine g_lastore X qa 1 d9_70 (pc' := 71) rfl (by decide) (by decide) (Nat.le_of_ble_eq_true rfl) ?_
 intro T h X W qa
 replace qa : Av Z h wk .long [(.long qp), (.long qw), (.long k2), (.long k3)] := qa
 replace qb := qb.other W ql
 replace Z0 := Nat.le_trans Z0 (Nat.le_of_eq W.size.symm)
 replace N := Fr.snoc X.1 N qk
 replace Kp := Kp.wr W (Or.inl (List.mem_of_getElem? (i := 0) rfl))
 refine g_iinc X d9_71 (pc' := 74) (q := (1 : Int32)) (Ls' := #[.val (.ref a0), .val (.ref wv), .val (.ref wk), .val (.int (0 : Int32)), .val (.int (4 : Int32))]) rfl rfl rfl rfl ?_
 refine g_goto X d9_74 (pc' := 28) (by decide) (by decide) ?_
 refine g_iload X d9_28 (pc' := 30) rfl rfl ?_
 refine g_aloadN X d9_30 (pc' := 31) rfl rfl rfl ?_
 refine g_arraylength X qb d9_31 (pc' := 32) rfl (z := (4 : Int32)) rfl ?_
 refine g_icY X d9_32 (flt (show ¬ ((4 : Int32) < (4 : Int32)) from (by decide))).2.1 (pc' := 77) (by decide) (by decide) ?_
 refine g_return X d9_77 hret hlk (by decide) (by decide) ?_
 subst qs qt qu qv
 exact ⟨rfl, N, Kp, qa⟩
theorem ef_rUp20 (m : MethodId) (x0 : Addr) (x1 : Addr) (x2 : Int32) (x3 : Addr) : entryFrame m #[(.ref x0), (.ref x1), (.int x2), (.ref x3)] 5 = mkF m 0 #[.val (.ref x0), .val (.ref x1), .val (.int x2), .val (.ref x3), .unset] [] := by first | (simp [entryFrame, mkF, argsToLocals, Value.category]; done) | rfl
set_option maxRecDepth 65536 in
set_option maxHeartbeats 40000000 in
theorem rUp20 (l : Launch) (Z : State) (aa : Array Value) (hw : ∀ d ∈ tables_1, d.before aa Z = true) (ws : List Jvm.Cond) (a0 : Addr) (wk : Addr) (wv : Addr) (wl : Addr) (ww : Addr) (wt : Addr) (wm : Addr) (l0 : Int32) (l1 : Int32) (l2 : Int32) (l3 : Int32) (s0 : Int32) (s1 : Int32) (s2 : Int32) (s3 : Int32) (m0 : Int64) (m1 : Int64) (m2 : Int64) (m3 : Int64) (k0 : Int64) (k1 : Int64) (k2 : Int64) (k3 : Int64) (x0 : Int32) (x1 : Int32) (x2 : Int32) (x3 : Int32) (h0 : Heap) (n0 : Nat) (Z0 : n0 ≤ h0.size) (qz : Exa Z h0 a0 "com/example/ryazan/ryazan/language/Layout") (qc : Fld Z h0 a0 "com/example/ryazan/ryazan/language/Layout" "low" "[I" (.ref wl)) (qd : Fld Z h0 a0 "com/example/ryazan/ryazan/language/Layout" "word" "[I" (.ref ww)) (qe : Fld Z h0 a0 "com/example/ryazan/ryazan/language/Layout" "shift" "[I" (.ref wt)) (qf : Fld Z h0 a0 "com/example/ryazan/ryazan/language/Layout" "mask" "[J" (.ref wm)) (qg : Av Z h0 wl .int [(.int l0), (.int l1), (.int l2), (.int l3)]) (qh : Av Z h0 ww .int [(.int (0 : Int32)), (.int (0 : Int32)), (.int (1 : Int32)), (.int (1 : Int32))]) (qi : Av Z h0 wt .int [(.int s0), (.int s1), (.int s2), (.int s3)]) (qj : Av Z h0 wm .long [(.long m0), (.long m1), (.long m2), (.long m3)]) (qk : Av Z h0 wk .long [(.long k0), (.long k1), (.long k2), (.long k3)]) (qa : Av Z h0 wv .int [(.int x0), (.int x1), (.int x2), (.int x3)]) (ql : n0 ≤ wv) (qb : a0 ≠ wv) (qn : wl ≠ wv) (qo : ww ≠ wv) (qp : wt ≠ wv) (qq : wm ≠ wv) (qr : wk ≠ wv) :
    Rm l Z (⟨"com/example/ryazan/ryazan/language/Layout", "unpack", "([JI[I)V"⟩ : MethodName) prog_58_method_4_code 5 none ws ({ frames := 0, cells := 0, slots := 0, locals := 0 } : Room) #[(.ref a0), (.ref wk), (.int (0 : Int32)), (.ref wv)] h0 (fun v h L => v = none ∧ Fr n0 L ∧ Keep h0 h [wv] ∧ Av Z h wv .int [(.int (((((k0.toUInt64 >>> (s0 &&& 0x3f).toInt64.toUInt64).toInt64) &&& m0).toInt32) + l0)), (.int (((((k0.toUInt64 >>> (s1 &&& 0x3f).toInt64.toUInt64).toInt64) &&& m1).toInt32) + l1)), (.int (((((k1.toUInt64 >>> (s2 &&& 0x3f).toInt64.toUInt64).toInt64) &&& m2).toInt32) + l2)), (.int (((((k1.toUInt64 >>> (s3 &&& 0x3f).toInt64.toUInt64).toInt64) &&& m3).toInt32) + l3))]) := by
 refine Rm.of (plainFor_of_name pn_3) ?_
 intro p e s m below meth cc T X hnm hret hlk
 refine Go.at_ (ef_rUp20 m a0 wk (0 : Int32) wv) ?_
 have N := Fr.nil n0
 have Kp := Keep.refl h0 [wv]
 refine g_iconst X (0 : Int32) d10_0 (pc' := 1) rfl rfl ?_
 refine g_istore X d10_1 (pc' := 3) (Ls' := #[.val (.ref a0), .val (.ref wk), .val (.int (0 : Int32)), .val (.ref wv), .val (.int (0 : Int32))]) rfl rfl ?_
 refine g_iload X d10_3 (pc' := 5) rfl rfl ?_
 refine g_aloadN X d10_5 (pc' := 6) rfl rfl rfl ?_
 refine g_arraylength X qa d10_6 (pc' := 7) rfl (z := (4 : Int32)) rfl ?_
 refine g_icN X d10_7 (tlt (show (0 : Int32) < (4 : Int32) from (by decide))).2.1 (pc' := 10) rfl ?_
 refine g_aloadN X d10_10 (pc' := 11) rfl rfl rfl ?_
 refine g_iload X d10_11 (pc' := 13) rfl rfl ?_
 refine g_aloadN X d10_13 (pc' := 14) rfl rfl rfl ?_
 refine g_iloadN X d10_14 (pc' := 15) rfl rfl ?_
 refine g_aloadN X d10_15 (pc' := 16) rfl rfl rfl ?_
 refine g_getfield X (host := "") (Or.inl (tb hw 28 rfl)) Via.refl qd d10_16 (pc' := 19) rfl ?_
 intro T X
 refine g_iload X d10_19 (pc' := 21) rfl rfl ?_
 refine g_iaload X qh 0 d10_21 (pc' := 22) rfl (by decide) (by decide) rfl ?_
 refine g_iadd X d10_22 (pc' := 23) rfl ?_
 refine Go.lit32 (z := (0 : Int32)) (by decide) ?_
 refine g_laload X qk 0 d10_23 (pc' := 24) rfl (by decide) (by decide) rfl ?_
 refine g_aloadN X d10_24 (pc' := 25) rfl rfl rfl ?_
 refine g_getfield X (host := "") (Or.inl (tb hw 30 rfl)) Via.refl qe d10_25 (pc' := 28) rfl ?_
 intro T X
 refine g_iload X d10_28 (pc' := 30) rfl rfl ?_
 refine g_iaload X qi 0 d10_30 (pc' := 31) rfl (by decide) (by decide) rfl ?_
 refine g_lushr X d10_31 (pc' := 32) rfl ?_
 refine g_aloadN X d10_32 (pc' := 33) rfl rfl rfl ?_
 refine g_getfield X (host := "") (Or.inl (tb hw 33 rfl)) Via.refl qf d10_33 (pc' := 36) rfl ?_
 intro T X
 refine g_iload X d10_36 (pc' := 38) rfl rfl ?_
 refine g_laload X qj 0 d10_38 (pc' := 39) rfl (by decide) (by decide) rfl ?_
 refine g_land X d10_39 (pc' := 40) rfl ?_
 refine g_l2i X d10_40 (pc' := 41) rfl ?_
 refine g_aloadN X d10_41 (pc' := 42) rfl rfl rfl ?_
 refine g_getfield X (host := "") (Or.inl (tb hw 26 rfl)) Via.refl qc d10_42 (pc' := 45) rfl ?_
 intro T X
 refine g_iload X d10_45 (pc' := 47) rfl rfl ?_
 refine g_iaload X qg 0 d10_47 (pc' := 48) rfl (by decide) (by decide) rfl ?_
 refine g_iadd X d10_48 (pc' := 49) rfl ?_
 generalize qu : (((((k0.toUInt64 >>> (s0 &&& 0x3f).toInt64.toUInt64).toInt64) &&& m0).toInt32) + l0) = qm
 refine g_iastore X qa 0 d10_49 (pc' := 50) rfl (by decide) (by decide) (Nat.le_of_ble_eq_true rfl) ?_
 intro T h X W qa
 replace qa : Av Z h wv .int [(.int qm), (.int x1), (.int x2), (.int x3)] := qa
 replace qc := qc.other W (Or.inl qb)
 replace qd := qd.other W (Or.inl qb)
 replace qe := qe.other W (Or.inl qb)
 replace qf := qf.other W (Or.inl qb)
 replace qg := qg.other W qn
 replace qh := qh.other W qo
 replace qi := qi.other W qp
 replace qj := qj.other W qq
 replace qk := qk.other W qr
 replace Z0 := Nat.le_trans Z0 (Nat.le_of_eq W.size.symm)
 replace N := Fr.snoc X.1 N ql
 replace Kp := Kp.wr W (Or.inl (List.mem_of_getElem? (i := 0) rfl))
 refine g_iinc X d10_50 (pc' := 53) (q := (1 : Int32)) (Ls' := #[.val (.ref a0), .val (.ref wk), .val (.int (0 : Int32)), .val (.ref wv), .val (.int (1 : Int32))]) rfl rfl rfl rfl ?_
 refine g_goto X d10_53 (pc' := 3) (by decide) (by decide) ?_
 refine g_iload X d10_3 (pc' := 5) rfl rfl ?_
 refine g_aloadN X d10_5 (pc' := 6) rfl rfl rfl ?_
 refine g_arraylength X qa d10_6 (pc' := 7) rfl (z := (4 : Int32)) rfl ?_
 refine g_icN X d10_7 (tlt (show (1 : Int32) < (4 : Int32) from (by decide))).2.1 (pc' := 10) rfl ?_
 refine g_aloadN X d10_10 (pc' := 11) rfl rfl rfl ?_
 refine g_iload X d10_11 (pc' := 13) rfl rfl ?_
 refine g_aloadN X d10_13 (pc' := 14) rfl rfl rfl ?_
 refine g_iloadN X d10_14 (pc' := 15) rfl rfl ?_
 refine g_aloadN X d10_15 (pc' := 16) rfl rfl rfl ?_
 refine g_getfield X (host := "") (Or.inl (tb hw 28 rfl)) Via.refl qd d10_16 (pc' := 19) rfl ?_
 intro T X
 refine g_iload X d10_19 (pc' := 21) rfl rfl ?_
 refine g_iaload X qh 1 d10_21 (pc' := 22) rfl (by decide) (by decide) rfl ?_
 refine g_iadd X d10_22 (pc' := 23) rfl ?_
 refine Go.lit32 (z := (0 : Int32)) (by decide) ?_
 refine g_laload X qk 0 d10_23 (pc' := 24) rfl (by decide) (by decide) rfl ?_
 refine g_aloadN X d10_24 (pc' := 25) rfl rfl rfl ?_
 refine g_getfield X (host := "") (Or.inl (tb hw 30 rfl)) Via.refl qe d10_25 (pc' := 28) rfl ?_
 intro T X
 refine g_iload X d10_28 (pc' := 30) rfl rfl ?_
 refine g_iaload X qi 1 d10_30 (pc' := 31) rfl (by decide) (by decide) rfl ?_
 refine g_lushr X d10_31 (pc' := 32) rfl ?_
 refine g_aloadN X d10_32 (pc' := 33) rfl rfl rfl ?_
 refine g_getfield X (host := "") (Or.inl (tb hw 33 rfl)) Via.refl qf d10_33 (pc' := 36) rfl ?_
 intro T X
 refine g_iload X d10_36 (pc' := 38) rfl rfl ?_
 refine g_laload X qj 1 d10_38 (pc' := 39) rfl (by decide) (by decide) rfl ?_
 refine g_land X d10_39 (pc' := 40) rfl ?_
 refine g_l2i X d10_40 (pc' := 41) rfl ?_
 refine g_aloadN X d10_41 (pc' := 42) rfl rfl rfl ?_
 refine g_getfield X (host := "") (Or.inl (tb hw 26 rfl)) Via.refl qc d10_42 (pc' := 45) rfl ?_
 intro T X
 refine g_iload X d10_45 (pc' := 47) rfl rfl ?_
 refine g_iaload X qg 1 d10_47 (pc' := 48) rfl (by decide) (by decide) rfl ?_
 refine g_iadd X d10_48 (pc' := 49) rfl ?_
 generalize qv : (((((k0.toUInt64 >>> (s1 &&& 0x3f).toInt64.toUInt64).toInt64) &&& m1).toInt32) + l1) = qs
 refine g_iastore X qa 1 d10_49 (pc' := 50) rfl (by decide) (by decide) (Nat.le_of_ble_eq_true rfl) ?_
 intro T h X W qa
 replace qa : Av Z h wv .int [(.int qm), (.int qs), (.int x2), (.int x3)] := qa
 replace qc := qc.other W (Or.inl qb)
 replace qd := qd.other W (Or.inl qb)
 replace qe := qe.other W (Or.inl qb)
 replace qf := qf.other W (Or.inl qb)
 replace qg := qg.other W qn
 replace qh := qh.other W qo
 replace qi := qi.other W qp
 replace qj := qj.other W qq
 replace qk := qk.other W qr
 replace Z0 := Nat.le_trans Z0 (Nat.le_of_eq W.size.symm)
 replace N := Fr.snoc X.1 N ql
 replace Kp := Kp.wr W (Or.inl (List.mem_of_getElem? (i := 0) rfl))
 refine g_iinc X d10_50 (pc' := 53) (q := (1 : Int32)) (Ls' := #[.val (.ref a0), .val (.ref wk), .val (.int (0 : Int32)), .val (.ref wv), .val (.int (2 : Int32))]) rfl rfl rfl rfl ?_
 refine g_goto X d10_53 (pc' := 3) (by decide) (by decide) ?_
 refine g_iload X d10_3 (pc' := 5) rfl rfl ?_
 refine g_aloadN X d10_5 (pc' := 6) rfl rfl rfl ?_
 refine g_arraylength X qa d10_6 (pc' := 7) rfl (z := (4 : Int32)) rfl ?_
 refine g_icN X d10_7 (tlt (show (2 : Int32) < (4 : Int32) from (by decide))).2.1 (pc' := 10) rfl ?_
 refine g_aloadN X d10_10 (pc' := 11) rfl rfl rfl ?_
 refine g_iload X d10_11 (pc' := 13) rfl rfl ?_
 refine g_aloadN X d10_13 (pc' := 14) rfl rfl rfl ?_
 refine g_iloadN X d10_14 (pc' := 15) rfl rfl ?_
 refine g_aloadN X d10_15 (pc' := 16) rfl rfl rfl ?_
 refine g_getfield X (host := "") (Or.inl (tb hw 28 rfl)) Via.refl qd d10_16 (pc' := 19) rfl ?_
 intro T X
 refine g_iload X d10_19 (pc' := 21) rfl rfl ?_
 refine g_iaload X qh 2 d10_21 (pc' := 22) rfl (by decide) (by decide) rfl ?_
 refine g_iadd X d10_22 (pc' := 23) rfl ?_
 refine Go.lit32 (z := (1 : Int32)) (by decide) ?_
 refine g_laload X qk 1 d10_23 (pc' := 24) rfl (by decide) (by decide) rfl ?_
 refine g_aloadN X d10_24 (pc' := 25) rfl rfl rfl ?_
 refine g_getfield X (host := "") (Or.inl (tb hw 30 rfl)) Via.refl qe d10_25 (pc' := 28) rfl ?_
 intro T X
 refine g_iload X d10_28 (pc' := 30) rfl rfl ?_
 refine g_iaload X qi 2 d10_30 (pc' := 31) rfl (by decide) (by decide) rfl ?_
 refine g_lushr X d10_31 (pc' := 32) rfl ?_
 refine g_aloadN X d10_32 (pc' := 33) rfl rfl rfl ?_
 refine g_getfield X (host := "") (Or.inl (tb hw 33 rfl)) Via.refl qf d10_33 (pc' := 36) rfl ?_
 intro T X
 refine g_iload X d10_36 (pc' := 38) rfl rfl ?_
 refine g_laload X qj 2 d10_38 (pc' := 39) rfl (by decide) (by decide) rfl ?_
 refine g_land X d10_39 (pc' := 40) rfl ?_
 refine g_l2i X d10_40 (pc' := 41) rfl ?_
 refine g_aloadN X d10_41 (pc' := 42) rfl rfl rfl ?_
 refine g_getfield X (host := "") (Or.inl (tb hw 26 rfl)) Via.refl qc d10_42 (pc' := 45) rfl ?_
 intro T X
 refine g_iload X d10_45 (pc' := 47) rfl rfl ?_
 refine g_iaload X qg 2 d10_47 (pc' := 48) rfl (by decide) (by decide) rfl ?_
 refine g_iadd X d10_48 (pc' := 49) rfl ?_
 generalize qw : (((((k1.toUInt64 >>> (s2 &&& 0x3f).toInt64.toUInt64).toInt64) &&& m2).toInt32) + l2) = qt
 refine g_iastore X qa 2 d10_49 (pc' := 50) rfl (by decide) (by decide) (Nat.le_of_ble_eq_true rfl) ?_
 intro T h X W qa
 replace qa : Av Z h wv .int [(.int qm), (.int qs), (.int qt), (.int x3)] := qa
 replace qc := qc.other W (Or.inl qb)
 replace qd := qd.other W (Or.inl qb)
 replace qe := qe.other W (Or.inl qb)
 replace qf := qf.other W (Or.inl qb)
 replace qg := qg.other W qn
 replace qh := qh.other W qo
 replace qi := qi.other W qp
 replace qj := qj.other W qq
 replace qk := qk.other W qr
 replace Z0 := Nat.le_trans Z0 (Nat.le_of_eq W.size.symm)
 replace N := Fr.snoc X.1 N ql
 replace Kp := Kp.wr W (Or.inl (List.mem_of_getElem? (i := 0) rfl))
 refine g_iinc X d10_50 (pc' := 53) (q := (1 : Int32)) (Ls' := #[.val (.ref a0), .val (.ref wk), .val (.int (0 : Int32)), .val (.ref wv), .val (.int (3 : Int32))]) rfl rfl rfl rfl ?_
 refine g_goto X d10_53 (pc' := 3) (by decide) (by decide) ?_
 refine g_iload X d10_3 (pc' := 5) rfl rfl ?_
 refine g_aloadN X d10_5 (pc' := 6) rfl rfl rfl ?_
 refine g_arraylength X qa d10_6 (pc' := 7) rfl (z := (4 : Int32)) rfl ?_
 refine g_icN X d10_7 (tlt (show (3 : Int32) < (4 : Int32) from (by decide))).2.1 (pc' := 10) rfl ?_
 refine g_aloadN X d10_10 (pc' := 11) rfl rfl rfl ?_
 refine g_iload X d10_11 (pc' := 13) rfl rfl ?_
 refine g_aloadN X d10_13 (pc' := 14) rfl rfl rfl ?_
 refine g_iloadN X d10_14 (pc' := 15) rfl rfl ?_
 refine g_aloadN X d10_15 (pc' := 16) rfl rfl rfl ?_
 refine g_getfield X (host := "") (Or.inl (tb hw 28 rfl)) Via.refl qd d10_16 (pc' := 19) rfl ?_
 intro T X
 refine g_iload X d10_19 (pc' := 21) rfl rfl ?_
 refine g_iaload X qh 3 d10_21 (pc' := 22) rfl (by decide) (by decide) rfl ?_
 refine g_iadd X d10_22 (pc' := 23) rfl ?_
 refine Go.lit32 (z := (1 : Int32)) (by decide) ?_
 refine g_laload X qk 1 d10_23 (pc' := 24) rfl (by decide) (by decide) rfl ?_
 refine g_aloadN X d10_24 (pc' := 25) rfl rfl rfl ?_
 refine g_getfield X (host := "") (Or.inl (tb hw 30 rfl)) Via.refl qe d10_25 (pc' := 28) rfl ?_
 intro T X
 refine g_iload X d10_28 (pc' := 30) rfl rfl ?_
 refine g_iaload X qi 3 d10_30 (pc' := 31) rfl (by decide) (by decide) rfl ?_
 refine g_lushr X d10_31 (pc' := 32) rfl ?_
 refine g_aloadN X d10_32 (pc' := 33) rfl rfl rfl ?_
 refine g_getfield X (host := "") (Or.inl (tb hw 33 rfl)) Via.refl qf d10_33 (pc' := 36) rfl ?_
 intro T X
 refine g_iload X d10_36 (pc' := 38) rfl rfl ?_
 refine g_laload X qj 3 d10_38 (pc' := 39) rfl (by decide) (by decide) rfl ?_
 refine g_land X d10_39 (pc' := 40) rfl ?_
 refine g_l2i X d10_40 (pc' := 41) rfl ?_
 refine g_aloadN X d10_41 (pc' := 42) rfl rfl rfl ?_
 refine g_getfield X (host := "") (Or.inl (tb hw 26 rfl)) Via.refl qc d10_42 (pc' := 45) rfl ?_
 intro T X
 refine g_iload X d10_45 (pc' := 47) rfl rfl ?_
 refine g_iaload X qg 3 d10_47 (pc' := 48) rfl (by decide) (by decide) rfl ?_
 refine g_iadd X d10_48 (pc' := 49) rfl ?_
 generalize qx : (((((k1.toUInt64 >>> (s3 &&& 0x3f).toInt64.toUInt64).toInt64) &&& m3).toInt32) + l3) = qy
 refine g_iastore X qa 3 d10_49 (pc' := 50) rfl (by decide) (by decide) (Nat.le_of_ble_eq_true rfl) ?_
 intro T h X W qa
 replace qa : Av Z h wv .int [(.int qm), (.int qs), (.int qt), (.int qy)] := qa
 replace Z0 := Nat.le_trans Z0 (Nat.le_of_eq W.size.symm)
 replace N := Fr.snoc X.1 N ql
 replace Kp := Kp.wr W (Or.inl (List.mem_of_getElem? (i := 0) rfl))
 refine g_iinc X d10_50 (pc' := 53) (q := (1 : Int32)) (Ls' := #[.val (.ref a0), .val (.ref wk), .val (.int (0 : Int32)), .val (.ref wv), .val (.int (4 : Int32))]) rfl rfl rfl rfl ?_
 refine g_goto X d10_53 (pc' := 3) (by decide) (by decide) ?_
 refine g_iload X d10_3 (pc' := 5) rfl rfl ?_
 refine g_aloadN X d10_5 (pc' := 6) rfl rfl rfl ?_
 refine g_arraylength X qa d10_6 (pc' := 7) rfl (z := (4 : Int32)) rfl ?_
 refine g_icY X d10_7 (flt (show ¬ ((4 : Int32) < (4 : Int32)) from (by decide))).2.1 (pc' := 56) (by decide) (by decide) ?_
 refine g_return X d10_56 hret hlk (by decide) (by decide) ?_
 subst qu qv qw qx
 exact ⟨rfl, N, Kp, qa⟩
theorem ef_rPk21 (m : MethodId) (x0 : Addr) (x1 : Addr) (x2 : Addr) (x3 : Int32) : entryFrame m #[(.ref x0), (.ref x1), (.ref x2), (.int x3)] 5 = mkF m 0 #[.val (.ref x0), .val (.ref x1), .val (.ref x2), .val (.int x3), .unset] [] := by first | (simp [entryFrame, mkF, argsToLocals, Value.category]; done) | rfl
set_option maxRecDepth 65536 in
set_option maxHeartbeats 40000000 in
theorem rPk21 (l : Launch) (Z : State) (aa : Array Value) (hw : ∀ d ∈ tables_1, d.before aa Z = true) (ws : List Jvm.Cond) (a0 : Addr) (wv : Addr) (wk : Addr) (wl : Addr) (ww : Addr) (wt : Addr) (l0 : Int32) (l1 : Int32) (l2 : Int32) (l3 : Int32) (s0 : Int32) (s1 : Int32) (s2 : Int32) (s3 : Int32) (x0 : Int32) (x1 : Int32) (x2 : Int32) (x3 : Int32) (k0 : Int64) (k1 : Int64) (k2 : Int64) (k3 : Int64) (h0 : Heap) (n0 : Nat) (Z0 : n0 ≤ h0.size) (qx : Exa Z h0 a0 "com/example/ryazan/ryazan/language/Layout") (qd : Fld Z h0 a0 "com/example/ryazan/ryazan/language/Layout" "low" "[I" (.ref wl)) (qe : Fld Z h0 a0 "com/example/ryazan/ryazan/language/Layout" "word" "[I" (.ref ww)) (qf : Fld Z h0 a0 "com/example/ryazan/ryazan/language/Layout" "shift" "[I" (.ref wt)) (qj : Fld Z h0 a0 "com/example/ryazan/ryazan/language/Layout" "width" "I" (.int (2 : Int32))) (qg : Av Z h0 wl .int [(.int l0), (.int l1), (.int l2), (.int l3)]) (qh : Av Z h0 ww .int [(.int (0 : Int32)), (.int (0 : Int32)), (.int (1 : Int32)), (.int (1 : Int32))]) (qi : Av Z h0 wt .int [(.int s0), (.int s1), (.int s2), (.int s3)]) (qb : Av Z h0 wv .int [(.int x0), (.int x1), (.int x2), (.int x3)]) (qa : Av Z h0 wk .long [(.long k0), (.long k1), (.long k2), (.long k3)]) (qk : n0 ≤ wk) (qc : a0 ≠ wk) (qm : wl ≠ wk) (qn : ww ≠ wk) (qo : wt ≠ wk) (ql : wv ≠ wk) :
    Rm l Z (⟨"com/example/ryazan/ryazan/language/Layout", "pack", "([I[JI)V"⟩ : MethodName) prog_58_method_3_code 5 none ws ({ frames := 0, cells := 0, slots := 0, locals := 0 } : Room) #[(.ref a0), (.ref wv), (.ref wk), (.int (1 : Int32))] h0 (fun v h L => v = none ∧ Fr n0 L ∧ Keep h0 h [wk] ∧ Av Z h wk .long [(.long k0), (.long (((0 : Int64) ||| (((x0.toInt64) - (l0.toInt64)) <<< (s0 &&& 0x3f).toInt64)) ||| (((x1.toInt64) - (l1.toInt64)) <<< (s1 &&& 0x3f).toInt64))), (.long (((0 : Int64) ||| (((x2.toInt64) - (l2.toInt64)) <<< (s2 &&& 0x3f).toInt64)) ||| (((x3.toInt64) - (l3.toInt64)) <<< (s3 &&& 0x3f).toInt64))), (.long k3)]) := by
 refine Rm.of (plainFor_of_name pn_3) ?_
 intro p e s m below meth cc T X hnm hret hlk
 refine Go.at_ (ef_rPk21 m a0 wv wk (1 : Int32)) ?_
 have N := Fr.nil n0
 have Kp := Keep.refl h0 [wk]
 refine g_iconst X (0 : Int32) d9_0 (pc' := 1) rfl rfl ?_
 refine g_istore X d9_1 (pc' := 3) (Ls' := #[.val (.ref a0), .val (.ref wv), .val (.ref wk), .val (.int (1 : Int32)), .val (.int (0 : Int32))]) rfl rfl ?_
 refine g_iload X d9_3 (pc' := 5) rfl rfl ?_
 refine g_aloadN X d9_5 (pc' := 6) rfl rfl rfl ?_
 refine g_getfield X (host := "") (Or.inl (tb hw 44 rfl)) Via.refl qj d9_6 (pc' := 9) rfl ?_
 intro T X
 refine g_icN X d9_9 (tlt (show (0 : Int32) < (2 : Int32) from (by decide))).2.1 (pc' := 12) rfl ?_
 refine g_aloadN X d9_12 (pc' := 13) rfl rfl rfl ?_
 refine g_iloadN X d9_13 (pc' := 14) rfl rfl ?_
 refine g_iload X d9_14 (pc' := 16) rfl rfl ?_
 refine g_iadd X d9_16 (pc' := 17) rfl ?_
 refine Go.lit32 (z := (1 : Int32)) (by decide) ?_
 refine g_lconst X (0 : Int64) d9_17 (pc' := 18) rfl rfl ?_
 refine g_lastore X qa 1 d9_18 (pc' := 19) rfl (by decide) (by decide) (Nat.le_of_ble_eq_true rfl) ?_
 intro T h X W qa
 replace qa : Av Z h wk .long [(.long k0), (.long (0 : Int64)), (.long k2), (.long k3)] := qa
 replace qd := qd.other W (Or.inl qc)
 replace qe := qe.other W (Or.inl qc)
 replace qf := qf.other W (Or.inl qc)
 replace qj := qj.other W (Or.inl qc)
 replace qg := qg.other W qm
 replace qh := qh.other W qn
 replace qi := qi.other W qo
 replace qb := qb.other W ql
 replace Z0 := Nat.le_trans Z0 (Nat.le_of_eq W.size.symm)
 replace N := Fr.snoc X.1 N qk
 replace Kp := Kp.wr W (Or.inl (List.mem_of_getElem? (i := 0) rfl))
 refine g_iinc X d9_19 (pc' := 22) (q := (1 : Int32)) (Ls' := #[.val (.ref a0), .val (.ref wv), .val (.ref wk), .val (.int (1 : Int32)), .val (.int (1 : Int32))]) rfl rfl rfl rfl ?_
 refine g_goto X d9_22 (pc' := 3) (by decide) (by decide) ?_
 refine g_iload X d9_3 (pc' := 5) rfl rfl ?_
 refine g_aloadN X d9_5 (pc' := 6) rfl rfl rfl ?_
 refine g_getfield X (host := "") (Or.inl (tb hw 44 rfl)) Via.refl qj d9_6 (pc' := 9) rfl ?_
 intro T X
 refine g_icN X d9_9 (tlt (show (1 : Int32) < (2 : Int32) from (by decide))).2.1 (pc' := 12) rfl ?_
 refine g_aloadN X d9_12 (pc' := 13) rfl rfl rfl ?_
 refine g_iloadN X d9_13 (pc' := 14) rfl rfl ?_
 refine g_iload X d9_14 (pc' := 16) rfl rfl ?_
 refine g_iadd X d9_16 (pc' := 17) rfl ?_
 refine Go.lit32 (z := (2 : Int32)) (by decide) ?_
 refine g_lconst X (0 : Int64) d9_17 (pc' := 18) rfl rfl ?_
 refine g_lastore X qa 2 d9_18 (pc' := 19) rfl (by decide) (by decide) (Nat.le_of_ble_eq_true rfl) ?_
 intro T h X W qa
 replace qa : Av Z h wk .long [(.long k0), (.long (0 : Int64)), (.long (0 : Int64)), (.long k3)] := qa
 replace qd := qd.other W (Or.inl qc)
 replace qe := qe.other W (Or.inl qc)
 replace qf := qf.other W (Or.inl qc)
 replace qj := qj.other W (Or.inl qc)
 replace qg := qg.other W qm
 replace qh := qh.other W qn
 replace qi := qi.other W qo
 replace qb := qb.other W ql
 replace Z0 := Nat.le_trans Z0 (Nat.le_of_eq W.size.symm)
 replace N := Fr.snoc X.1 N qk
 replace Kp := Kp.wr W (Or.inl (List.mem_of_getElem? (i := 0) rfl))
 refine g_iinc X d9_19 (pc' := 22) (q := (1 : Int32)) (Ls' := #[.val (.ref a0), .val (.ref wv), .val (.ref wk), .val (.int (1 : Int32)), .val (.int (2 : Int32))]) rfl rfl rfl rfl ?_
 refine g_goto X d9_22 (pc' := 3) (by decide) (by decide) ?_
 refine g_iload X d9_3 (pc' := 5) rfl rfl ?_
 refine g_aloadN X d9_5 (pc' := 6) rfl rfl rfl ?_
 refine g_getfield X (host := "") (Or.inl (tb hw 44 rfl)) Via.refl qj d9_6 (pc' := 9) rfl ?_
 intro T X
 refine g_icY X d9_9 (flt (show ¬ ((2 : Int32) < (2 : Int32)) from (by decide))).2.1 (pc' := 25) (by decide) (by decide) ?_
 refine g_iconst X (0 : Int32) d9_25 (pc' := 26) rfl rfl ?_
 refine g_istore X d9_26 (pc' := 28) (Ls' := #[.val (.ref a0), .val (.ref wv), .val (.ref wk), .val (.int (1 : Int32)), .val (.int (0 : Int32))]) rfl rfl ?_
 refine g_iload X d9_28 (pc' := 30) rfl rfl ?_
 refine g_aloadN X d9_30 (pc' := 31) rfl rfl rfl ?_
 refine g_arraylength X qb d9_31 (pc' := 32) rfl (z := (4 : Int32)) rfl ?_
 refine g_icN X d9_32 (tlt (show (0 : Int32) < (4 : Int32) from (by decide))).2.1 (pc' := 35) rfl ?_
 refine g_aloadN X d9_35 (pc' := 36) rfl rfl rfl ?_
 refine g_iloadN X d9_36 (pc' := 37) rfl rfl ?_
 refine g_aloadN X d9_37 (pc' := 38) rfl rfl rfl ?_
 refine g_getfield X (host := "") (Or.inl (tb hw 28 rfl)) Via.refl qe d9_38 (pc' := 41) rfl ?_
 intro T X
 refine g_iload X d9_41 (pc' := 43) rfl rfl ?_
 refine g_iaload X qh 0 d9_43 (pc' := 44) rfl (by decide) (by decide) rfl ?_
 refine g_iadd X d9_44 (pc' := 45) rfl ?_
 refine Go.lit32 (z := (1 : Int32)) (by decide) ?_
 refine g_dup2 X d9_45 (pc' := 46) rfl rfl rfl ?_
 refine g_laload X qa 1 d9_46 (pc' := 47) rfl (by decide) (by decide) rfl ?_
 refine g_aloadN X d9_47 (pc' := 48) rfl rfl rfl ?_
 refine g_iload X d9_48 (pc' := 50) rfl rfl ?_
 refine g_iaload X qb 0 d9_50 (pc' := 51) rfl (by decide) (by decide) rfl ?_
 refine g_i2l X d9_51 (pc' := 52) rfl ?_
 refine g_aloadN X d9_52 (pc' := 53) rfl rfl rfl ?_
 refine g_getfield X (host := "") (Or.inl (tb hw 26 rfl)) Via.refl qd d9_53 (pc' := 56) rfl ?_
 intro T X
 refine g_iload X d9_56 (pc' := 58) rfl rfl ?_
 refine g_iaload X qg 0 d9_58 (pc' := 59) rfl (by decide) (by decide) rfl ?_
 refine g_i2l X d9_59 (pc' := 60) rfl ?_
 refine g_lsub X d9_60 (pc' := 61) rfl ?_
 refine g_aloadN X d9_61 (pc' := 62) rfl rfl rfl ?_
 refine g_getfield X (host := "") (Or.inl (tb hw 30 rfl)) Via.refl qf d9_62 (pc' := 65) rfl ?_
 intro T X
 refine g_iload X d9_65 (pc' := 67) rfl rfl ?_
 refine g_iaload X qi 0 d9_67 (pc' := 68) rfl (by decide) (by decide) rfl ?_
 refine g_lshl X d9_68 (pc' := 69) rfl ?_
 refine g_lor X d9_69 (pc' := 70) rfl ?_
 generalize qs : ((0 : Int64) ||| (((x0.toInt64) - (l0.toInt64)) <<< (s0 &&& 0x3f).toInt64)) = qq
 refine g_lastore X qa 1 d9_70 (pc' := 71) rfl (by decide) (by decide) (Nat.le_of_ble_eq_true rfl) ?_
 intro T h X W qa
 replace qa : Av Z h wk .long [(.long k0), (.long qq), (.long (0 : Int64)), (.long k3)] := qa
 replace qd := qd.other W (Or.inl qc)
 replace qe := qe.other W (Or.inl qc)
 replace qf := qf.other W (Or.inl qc)
 replace qg := qg.other W qm
 replace qh := qh.other W qn
 replace qi := qi.other W qo
 replace qb := qb.other W ql
 replace Z0 := Nat.le_trans Z0 (Nat.le_of_eq W.size.symm)
 replace N := Fr.snoc X.1 N qk
 replace Kp := Kp.wr W (Or.inl (List.mem_of_getElem? (i := 0) rfl))
 refine g_iinc X d9_71 (pc' := 74) (q := (1 : Int32)) (Ls' := #[.val (.ref a0), .val (.ref wv), .val (.ref wk), .val (.int (1 : Int32)), .val (.int (1 : Int32))]) rfl rfl rfl rfl ?_
 refine g_goto X d9_74 (pc' := 28) (by decide) (by decide) ?_
 refine g_iload X d9_28 (pc' := 30) rfl rfl ?_
 refine g_aloadN X d9_30 (pc' := 31) rfl rfl rfl ?_
 refine g_arraylength X qb d9_31 (pc' := 32) rfl (z := (4 : Int32)) rfl ?_
 refine g_icN X d9_32 (tlt (show (1 : Int32) < (4 : Int32) from (by decide))).2.1 (pc' := 35) rfl ?_
 refine g_aloadN X d9_35 (pc' := 36) rfl rfl rfl ?_
 refine g_iloadN X d9_36 (pc' := 37) rfl rfl ?_
 refine g_aloadN X d9_37 (pc' := 38) rfl rfl rfl ?_
 refine g_getfield X (host := "") (Or.inl (tb hw 28 rfl)) Via.refl qe d9_38 (pc' := 41) rfl ?_
 intro T X
 refine g_iload X d9_41 (pc' := 43) rfl rfl ?_
 refine g_iaload X qh 1 d9_43 (pc' := 44) rfl (by decide) (by decide) rfl ?_
 refine g_iadd X d9_44 (pc' := 45) rfl ?_
 refine Go.lit32 (z := (1 : Int32)) (by decide) ?_
 refine g_dup2 X d9_45 (pc' := 46) rfl rfl rfl ?_
 refine g_laload X qa 1 d9_46 (pc' := 47) rfl (by decide) (by decide) rfl ?_
 refine g_aloadN X d9_47 (pc' := 48) rfl rfl rfl ?_
 refine g_iload X d9_48 (pc' := 50) rfl rfl ?_
 refine g_iaload X qb 1 d9_50 (pc' := 51) rfl (by decide) (by decide) rfl ?_
 refine g_i2l X d9_51 (pc' := 52) rfl ?_
 refine g_aloadN X d9_52 (pc' := 53) rfl rfl rfl ?_
 refine g_getfield X (host := "") (Or.inl (tb hw 26 rfl)) Via.refl qd d9_53 (pc' := 56) rfl ?_
 intro T X
 refine g_iload X d9_56 (pc' := 58) rfl rfl ?_
 refine g_iaload X qg 1 d9_58 (pc' := 59) rfl (by decide) (by decide) rfl ?_
 refine g_i2l X d9_59 (pc' := 60) rfl ?_
 refine g_lsub X d9_60 (pc' := 61) rfl ?_
 refine g_aloadN X d9_61 (pc' := 62) rfl rfl rfl ?_
 refine g_getfield X (host := "") (Or.inl (tb hw 30 rfl)) Via.refl qf d9_62 (pc' := 65) rfl ?_
 intro T X
 refine g_iload X d9_65 (pc' := 67) rfl rfl ?_
 refine g_iaload X qi 1 d9_67 (pc' := 68) rfl (by decide) (by decide) rfl ?_
 refine g_lshl X d9_68 (pc' := 69) rfl ?_
 refine g_lor X d9_69 (pc' := 70) rfl ?_
 generalize qt : (qq ||| (((x1.toInt64) - (l1.toInt64)) <<< (s1 &&& 0x3f).toInt64)) = qp
 refine g_lastore X qa 1 d9_70 (pc' := 71) rfl (by decide) (by decide) (Nat.le_of_ble_eq_true rfl) ?_
 intro T h X W qa
 replace qa : Av Z h wk .long [(.long k0), (.long qp), (.long (0 : Int64)), (.long k3)] := qa
 replace qd := qd.other W (Or.inl qc)
 replace qe := qe.other W (Or.inl qc)
 replace qf := qf.other W (Or.inl qc)
 replace qg := qg.other W qm
 replace qh := qh.other W qn
 replace qi := qi.other W qo
 replace qb := qb.other W ql
 replace Z0 := Nat.le_trans Z0 (Nat.le_of_eq W.size.symm)
 replace N := Fr.snoc X.1 N qk
 replace Kp := Kp.wr W (Or.inl (List.mem_of_getElem? (i := 0) rfl))
 refine g_iinc X d9_71 (pc' := 74) (q := (1 : Int32)) (Ls' := #[.val (.ref a0), .val (.ref wv), .val (.ref wk), .val (.int (1 : Int32)), .val (.int (2 : Int32))]) rfl rfl rfl rfl ?_
 refine g_goto X d9_74 (pc' := 28) (by decide) (by decide) ?_
 refine g_iload X d9_28 (pc' := 30) rfl rfl ?_
 refine g_aloadN X d9_30 (pc' := 31) rfl rfl rfl ?_
 refine g_arraylength X qb d9_31 (pc' := 32) rfl (z := (4 : Int32)) rfl ?_
 refine g_icN X d9_32 (tlt (show (2 : Int32) < (4 : Int32) from (by decide))).2.1 (pc' := 35) rfl ?_
 refine g_aloadN X d9_35 (pc' := 36) rfl rfl rfl ?_
 refine g_iloadN X d9_36 (pc' := 37) rfl rfl ?_
 refine g_aloadN X d9_37 (pc' := 38) rfl rfl rfl ?_
 refine g_getfield X (host := "") (Or.inl (tb hw 28 rfl)) Via.refl qe d9_38 (pc' := 41) rfl ?_
 intro T X
 refine g_iload X d9_41 (pc' := 43) rfl rfl ?_
 refine g_iaload X qh 2 d9_43 (pc' := 44) rfl (by decide) (by decide) rfl ?_
 refine g_iadd X d9_44 (pc' := 45) rfl ?_
 refine Go.lit32 (z := (2 : Int32)) (by decide) ?_
 refine g_dup2 X d9_45 (pc' := 46) rfl rfl rfl ?_
 refine g_laload X qa 2 d9_46 (pc' := 47) rfl (by decide) (by decide) rfl ?_
 refine g_aloadN X d9_47 (pc' := 48) rfl rfl rfl ?_
 refine g_iload X d9_48 (pc' := 50) rfl rfl ?_
 refine g_iaload X qb 2 d9_50 (pc' := 51) rfl (by decide) (by decide) rfl ?_
 refine g_i2l X d9_51 (pc' := 52) rfl ?_
 refine g_aloadN X d9_52 (pc' := 53) rfl rfl rfl ?_
 refine g_getfield X (host := "") (Or.inl (tb hw 26 rfl)) Via.refl qd d9_53 (pc' := 56) rfl ?_
 intro T X
 refine g_iload X d9_56 (pc' := 58) rfl rfl ?_
 refine g_iaload X qg 2 d9_58 (pc' := 59) rfl (by decide) (by decide) rfl ?_
 refine g_i2l X d9_59 (pc' := 60) rfl ?_
 refine g_lsub X d9_60 (pc' := 61) rfl ?_
 refine g_aloadN X d9_61 (pc' := 62) rfl rfl rfl ?_
 refine g_getfield X (host := "") (Or.inl (tb hw 30 rfl)) Via.refl qf d9_62 (pc' := 65) rfl ?_
 intro T X
 refine g_iload X d9_65 (pc' := 67) rfl rfl ?_
 refine g_iaload X qi 2 d9_67 (pc' := 68) rfl (by decide) (by decide) rfl ?_
 refine g_lshl X d9_68 (pc' := 69) rfl ?_
 refine g_lor X d9_69 (pc' := 70) rfl ?_
 generalize qu : ((0 : Int64) ||| (((x2.toInt64) - (l2.toInt64)) <<< (s2 &&& 0x3f).toInt64)) = qr
 refine g_lastore X qa 2 d9_70 (pc' := 71) rfl (by decide) (by decide) (Nat.le_of_ble_eq_true rfl) ?_
 intro T h X W qa
 replace qa : Av Z h wk .long [(.long k0), (.long qp), (.long qr), (.long k3)] := qa
 replace qd := qd.other W (Or.inl qc)
 replace qe := qe.other W (Or.inl qc)
 replace qf := qf.other W (Or.inl qc)
 replace qg := qg.other W qm
 replace qh := qh.other W qn
 replace qi := qi.other W qo
 replace qb := qb.other W ql
 replace Z0 := Nat.le_trans Z0 (Nat.le_of_eq W.size.symm)
 replace N := Fr.snoc X.1 N qk
 replace Kp := Kp.wr W (Or.inl (List.mem_of_getElem? (i := 0) rfl))
 refine g_iinc X d9_71 (pc' := 74) (q := (1 : Int32)) (Ls' := #[.val (.ref a0), .val (.ref wv), .val (.ref wk), .val (.int (1 : Int32)), .val (.int (3 : Int32))]) rfl rfl rfl rfl ?_
 refine g_goto X d9_74 (pc' := 28) (by decide) (by decide) ?_
 refine g_iload X d9_28 (pc' := 30) rfl rfl ?_
 refine g_aloadN X d9_30 (pc' := 31) rfl rfl rfl ?_
 refine g_arraylength X qb d9_31 (pc' := 32) rfl (z := (4 : Int32)) rfl ?_
 refine g_icN X d9_32 (tlt (show (3 : Int32) < (4 : Int32) from (by decide))).2.1 (pc' := 35) rfl ?_
 refine g_aloadN X d9_35 (pc' := 36) rfl rfl rfl ?_
 refine g_iloadN X d9_36 (pc' := 37) rfl rfl ?_
 refine g_aloadN X d9_37 (pc' := 38) rfl rfl rfl ?_
 refine g_getfield X (host := "") (Or.inl (tb hw 28 rfl)) Via.refl qe d9_38 (pc' := 41) rfl ?_
 intro T X
 refine g_iload X d9_41 (pc' := 43) rfl rfl ?_
 refine g_iaload X qh 3 d9_43 (pc' := 44) rfl (by decide) (by decide) rfl ?_
 refine g_iadd X d9_44 (pc' := 45) rfl ?_
 refine Go.lit32 (z := (2 : Int32)) (by decide) ?_
 refine g_dup2 X d9_45 (pc' := 46) rfl rfl rfl ?_
 refine g_laload X qa 2 d9_46 (pc' := 47) rfl (by decide) (by decide) rfl ?_
 refine g_aloadN X d9_47 (pc' := 48) rfl rfl rfl ?_
 refine g_iload X d9_48 (pc' := 50) rfl rfl ?_
 refine g_iaload X qb 3 d9_50 (pc' := 51) rfl (by decide) (by decide) rfl ?_
 refine g_i2l X d9_51 (pc' := 52) rfl ?_
 refine g_aloadN X d9_52 (pc' := 53) rfl rfl rfl ?_
 refine g_getfield X (host := "") (Or.inl (tb hw 26 rfl)) Via.refl qd d9_53 (pc' := 56) rfl ?_
 intro T X
 refine g_iload X d9_56 (pc' := 58) rfl rfl ?_
 refine g_iaload X qg 3 d9_58 (pc' := 59) rfl (by decide) (by decide) rfl ?_
 refine g_i2l X d9_59 (pc' := 60) rfl ?_
 refine g_lsub X d9_60 (pc' := 61) rfl ?_
 refine g_aloadN X d9_61 (pc' := 62) rfl rfl rfl ?_
 refine g_getfield X (host := "") (Or.inl (tb hw 30 rfl)) Via.refl qf d9_62 (pc' := 65) rfl ?_
 intro T X
 refine g_iload X d9_65 (pc' := 67) rfl rfl ?_
 refine g_iaload X qi 3 d9_67 (pc' := 68) rfl (by decide) (by decide) rfl ?_
 refine g_lshl X d9_68 (pc' := 69) rfl ?_
 refine g_lor X d9_69 (pc' := 70) rfl ?_
 generalize qv : (qr ||| (((x3.toInt64) - (l3.toInt64)) <<< (s3 &&& 0x3f).toInt64)) = qw
 refine g_lastore X qa 2 d9_70 (pc' := 71) rfl (by decide) (by decide) (Nat.le_of_ble_eq_true rfl) ?_
 intro T h X W qa
 replace qa : Av Z h wk .long [(.long k0), (.long qp), (.long qw), (.long k3)] := qa
 replace qb := qb.other W ql
 replace Z0 := Nat.le_trans Z0 (Nat.le_of_eq W.size.symm)
 replace N := Fr.snoc X.1 N qk
 replace Kp := Kp.wr W (Or.inl (List.mem_of_getElem? (i := 0) rfl))
 refine g_iinc X d9_71 (pc' := 74) (q := (1 : Int32)) (Ls' := #[.val (.ref a0), .val (.ref wv), .val (.ref wk), .val (.int (1 : Int32)), .val (.int (4 : Int32))]) rfl rfl rfl rfl ?_
 refine g_goto X d9_74 (pc' := 28) (by decide) (by decide) ?_
 refine g_iload X d9_28 (pc' := 30) rfl rfl ?_
 refine g_aloadN X d9_30 (pc' := 31) rfl rfl rfl ?_
 refine g_arraylength X qb d9_31 (pc' := 32) rfl (z := (4 : Int32)) rfl ?_
 refine g_icY X d9_32 (flt (show ¬ ((4 : Int32) < (4 : Int32)) from (by decide))).2.1 (pc' := 77) (by decide) (by decide) ?_
 refine g_return X d9_77 hret hlk (by decide) (by decide) ?_
 subst qs qt qu qv
 exact ⟨rfl, N, Kp, qa⟩
theorem ef_rUp21 (m : MethodId) (x0 : Addr) (x1 : Addr) (x2 : Int32) (x3 : Addr) : entryFrame m #[(.ref x0), (.ref x1), (.int x2), (.ref x3)] 5 = mkF m 0 #[.val (.ref x0), .val (.ref x1), .val (.int x2), .val (.ref x3), .unset] [] := by first | (simp [entryFrame, mkF, argsToLocals, Value.category]; done) | rfl
set_option maxRecDepth 65536 in
set_option maxHeartbeats 40000000 in
theorem rUp21 (l : Launch) (Z : State) (aa : Array Value) (hw : ∀ d ∈ tables_1, d.before aa Z = true) (ws : List Jvm.Cond) (a0 : Addr) (wk : Addr) (wv : Addr) (wl : Addr) (ww : Addr) (wt : Addr) (wm : Addr) (l0 : Int32) (l1 : Int32) (l2 : Int32) (l3 : Int32) (s0 : Int32) (s1 : Int32) (s2 : Int32) (s3 : Int32) (m0 : Int64) (m1 : Int64) (m2 : Int64) (m3 : Int64) (k0 : Int64) (k1 : Int64) (k2 : Int64) (k3 : Int64) (x0 : Int32) (x1 : Int32) (x2 : Int32) (x3 : Int32) (h0 : Heap) (n0 : Nat) (Z0 : n0 ≤ h0.size) (qz : Exa Z h0 a0 "com/example/ryazan/ryazan/language/Layout") (qc : Fld Z h0 a0 "com/example/ryazan/ryazan/language/Layout" "low" "[I" (.ref wl)) (qd : Fld Z h0 a0 "com/example/ryazan/ryazan/language/Layout" "word" "[I" (.ref ww)) (qe : Fld Z h0 a0 "com/example/ryazan/ryazan/language/Layout" "shift" "[I" (.ref wt)) (qf : Fld Z h0 a0 "com/example/ryazan/ryazan/language/Layout" "mask" "[J" (.ref wm)) (qg : Av Z h0 wl .int [(.int l0), (.int l1), (.int l2), (.int l3)]) (qh : Av Z h0 ww .int [(.int (0 : Int32)), (.int (0 : Int32)), (.int (1 : Int32)), (.int (1 : Int32))]) (qi : Av Z h0 wt .int [(.int s0), (.int s1), (.int s2), (.int s3)]) (qj : Av Z h0 wm .long [(.long m0), (.long m1), (.long m2), (.long m3)]) (qk : Av Z h0 wk .long [(.long k0), (.long k1), (.long k2), (.long k3)]) (qa : Av Z h0 wv .int [(.int x0), (.int x1), (.int x2), (.int x3)]) (ql : n0 ≤ wv) (qb : a0 ≠ wv) (qn : wl ≠ wv) (qo : ww ≠ wv) (qp : wt ≠ wv) (qq : wm ≠ wv) (qr : wk ≠ wv) :
    Rm l Z (⟨"com/example/ryazan/ryazan/language/Layout", "unpack", "([JI[I)V"⟩ : MethodName) prog_58_method_4_code 5 none ws ({ frames := 0, cells := 0, slots := 0, locals := 0 } : Room) #[(.ref a0), (.ref wk), (.int (1 : Int32)), (.ref wv)] h0 (fun v h L => v = none ∧ Fr n0 L ∧ Keep h0 h [wv] ∧ Av Z h wv .int [(.int (((((k1.toUInt64 >>> (s0 &&& 0x3f).toInt64.toUInt64).toInt64) &&& m0).toInt32) + l0)), (.int (((((k1.toUInt64 >>> (s1 &&& 0x3f).toInt64.toUInt64).toInt64) &&& m1).toInt32) + l1)), (.int (((((k2.toUInt64 >>> (s2 &&& 0x3f).toInt64.toUInt64).toInt64) &&& m2).toInt32) + l2)), (.int (((((k2.toUInt64 >>> (s3 &&& 0x3f).toInt64.toUInt64).toInt64) &&& m3).toInt32) + l3))]) := by
 refine Rm.of (plainFor_of_name pn_3) ?_
 intro p e s m below meth cc T X hnm hret hlk
 refine Go.at_ (ef_rUp21 m a0 wk (1 : Int32) wv) ?_
 have N := Fr.nil n0
 have Kp := Keep.refl h0 [wv]
 refine g_iconst X (0 : Int32) d10_0 (pc' := 1) rfl rfl ?_
 refine g_istore X d10_1 (pc' := 3) (Ls' := #[.val (.ref a0), .val (.ref wk), .val (.int (1 : Int32)), .val (.ref wv), .val (.int (0 : Int32))]) rfl rfl ?_
 refine g_iload X d10_3 (pc' := 5) rfl rfl ?_
 refine g_aloadN X d10_5 (pc' := 6) rfl rfl rfl ?_
 refine g_arraylength X qa d10_6 (pc' := 7) rfl (z := (4 : Int32)) rfl ?_
 refine g_icN X d10_7 (tlt (show (0 : Int32) < (4 : Int32) from (by decide))).2.1 (pc' := 10) rfl ?_
 refine g_aloadN X d10_10 (pc' := 11) rfl rfl rfl ?_
 refine g_iload X d10_11 (pc' := 13) rfl rfl ?_
 refine g_aloadN X d10_13 (pc' := 14) rfl rfl rfl ?_
 refine g_iloadN X d10_14 (pc' := 15) rfl rfl ?_
 refine g_aloadN X d10_15 (pc' := 16) rfl rfl rfl ?_
 refine g_getfield X (host := "") (Or.inl (tb hw 28 rfl)) Via.refl qd d10_16 (pc' := 19) rfl ?_
 intro T X
 refine g_iload X d10_19 (pc' := 21) rfl rfl ?_
 refine g_iaload X qh 0 d10_21 (pc' := 22) rfl (by decide) (by decide) rfl ?_
 refine g_iadd X d10_22 (pc' := 23) rfl ?_
 refine Go.lit32 (z := (1 : Int32)) (by decide) ?_
 refine g_laload X qk 1 d10_23 (pc' := 24) rfl (by decide) (by decide) rfl ?_
 refine g_aloadN X d10_24 (pc' := 25) rfl rfl rfl ?_
 refine g_getfield X (host := "") (Or.inl (tb hw 30 rfl)) Via.refl qe d10_25 (pc' := 28) rfl ?_
 intro T X
 refine g_iload X d10_28 (pc' := 30) rfl rfl ?_
 refine g_iaload X qi 0 d10_30 (pc' := 31) rfl (by decide) (by decide) rfl ?_
 refine g_lushr X d10_31 (pc' := 32) rfl ?_
 refine g_aloadN X d10_32 (pc' := 33) rfl rfl rfl ?_
 refine g_getfield X (host := "") (Or.inl (tb hw 33 rfl)) Via.refl qf d10_33 (pc' := 36) rfl ?_
 intro T X
 refine g_iload X d10_36 (pc' := 38) rfl rfl ?_
 refine g_laload X qj 0 d10_38 (pc' := 39) rfl (by decide) (by decide) rfl ?_
 refine g_land X d10_39 (pc' := 40) rfl ?_
 refine g_l2i X d10_40 (pc' := 41) rfl ?_
 refine g_aloadN X d10_41 (pc' := 42) rfl rfl rfl ?_
 refine g_getfield X (host := "") (Or.inl (tb hw 26 rfl)) Via.refl qc d10_42 (pc' := 45) rfl ?_
 intro T X
 refine g_iload X d10_45 (pc' := 47) rfl rfl ?_
 refine g_iaload X qg 0 d10_47 (pc' := 48) rfl (by decide) (by decide) rfl ?_
 refine g_iadd X d10_48 (pc' := 49) rfl ?_
 generalize qu : (((((k1.toUInt64 >>> (s0 &&& 0x3f).toInt64.toUInt64).toInt64) &&& m0).toInt32) + l0) = qm
 refine g_iastore X qa 0 d10_49 (pc' := 50) rfl (by decide) (by decide) (Nat.le_of_ble_eq_true rfl) ?_
 intro T h X W qa
 replace qa : Av Z h wv .int [(.int qm), (.int x1), (.int x2), (.int x3)] := qa
 replace qc := qc.other W (Or.inl qb)
 replace qd := qd.other W (Or.inl qb)
 replace qe := qe.other W (Or.inl qb)
 replace qf := qf.other W (Or.inl qb)
 replace qg := qg.other W qn
 replace qh := qh.other W qo
 replace qi := qi.other W qp
 replace qj := qj.other W qq
 replace qk := qk.other W qr
 replace Z0 := Nat.le_trans Z0 (Nat.le_of_eq W.size.symm)
 replace N := Fr.snoc X.1 N ql
 replace Kp := Kp.wr W (Or.inl (List.mem_of_getElem? (i := 0) rfl))
 refine g_iinc X d10_50 (pc' := 53) (q := (1 : Int32)) (Ls' := #[.val (.ref a0), .val (.ref wk), .val (.int (1 : Int32)), .val (.ref wv), .val (.int (1 : Int32))]) rfl rfl rfl rfl ?_
 refine g_goto X d10_53 (pc' := 3) (by decide) (by decide) ?_
 refine g_iload X d10_3 (pc' := 5) rfl rfl ?_
 refine g_aloadN X d10_5 (pc' := 6) rfl rfl rfl ?_
 refine g_arraylength X qa d10_6 (pc' := 7) rfl (z := (4 : Int32)) rfl ?_
 refine g_icN X d10_7 (tlt (show (1 : Int32) < (4 : Int32) from (by decide))).2.1 (pc' := 10) rfl ?_
 refine g_aloadN X d10_10 (pc' := 11) rfl rfl rfl ?_
 refine g_iload X d10_11 (pc' := 13) rfl rfl ?_
 refine g_aloadN X d10_13 (pc' := 14) rfl rfl rfl ?_
 refine g_iloadN X d10_14 (pc' := 15) rfl rfl ?_
 refine g_aloadN X d10_15 (pc' := 16) rfl rfl rfl ?_
 refine g_getfield X (host := "") (Or.inl (tb hw 28 rfl)) Via.refl qd d10_16 (pc' := 19) rfl ?_
 intro T X
 refine g_iload X d10_19 (pc' := 21) rfl rfl ?_
 refine g_iaload X qh 1 d10_21 (pc' := 22) rfl (by decide) (by decide) rfl ?_
 refine g_iadd X d10_22 (pc' := 23) rfl ?_
 refine Go.lit32 (z := (1 : Int32)) (by decide) ?_
 refine g_laload X qk 1 d10_23 (pc' := 24) rfl (by decide) (by decide) rfl ?_
 refine g_aloadN X d10_24 (pc' := 25) rfl rfl rfl ?_
 refine g_getfield X (host := "") (Or.inl (tb hw 30 rfl)) Via.refl qe d10_25 (pc' := 28) rfl ?_
 intro T X
 refine g_iload X d10_28 (pc' := 30) rfl rfl ?_
 refine g_iaload X qi 1 d10_30 (pc' := 31) rfl (by decide) (by decide) rfl ?_
 refine g_lushr X d10_31 (pc' := 32) rfl ?_
 refine g_aloadN X d10_32 (pc' := 33) rfl rfl rfl ?_
 refine g_getfield X (host := "") (Or.inl (tb hw 33 rfl)) Via.refl qf d10_33 (pc' := 36) rfl ?_
 intro T X
 refine g_iload X d10_36 (pc' := 38) rfl rfl ?_
 refine g_laload X qj 1 d10_38 (pc' := 39) rfl (by decide) (by decide) rfl ?_
 refine g_land X d10_39 (pc' := 40) rfl ?_
 refine g_l2i X d10_40 (pc' := 41) rfl ?_
 refine g_aloadN X d10_41 (pc' := 42) rfl rfl rfl ?_
 refine g_getfield X (host := "") (Or.inl (tb hw 26 rfl)) Via.refl qc d10_42 (pc' := 45) rfl ?_
 intro T X
 refine g_iload X d10_45 (pc' := 47) rfl rfl ?_
 refine g_iaload X qg 1 d10_47 (pc' := 48) rfl (by decide) (by decide) rfl ?_
 refine g_iadd X d10_48 (pc' := 49) rfl ?_
 generalize qv : (((((k1.toUInt64 >>> (s1 &&& 0x3f).toInt64.toUInt64).toInt64) &&& m1).toInt32) + l1) = qs
 refine g_iastore X qa 1 d10_49 (pc' := 50) rfl (by decide) (by decide) (Nat.le_of_ble_eq_true rfl) ?_
 intro T h X W qa
 replace qa : Av Z h wv .int [(.int qm), (.int qs), (.int x2), (.int x3)] := qa
 replace qc := qc.other W (Or.inl qb)
 replace qd := qd.other W (Or.inl qb)
 replace qe := qe.other W (Or.inl qb)
 replace qf := qf.other W (Or.inl qb)
 replace qg := qg.other W qn
 replace qh := qh.other W qo
 replace qi := qi.other W qp
 replace qj := qj.other W qq
 replace qk := qk.other W qr
 replace Z0 := Nat.le_trans Z0 (Nat.le_of_eq W.size.symm)
 replace N := Fr.snoc X.1 N ql
 replace Kp := Kp.wr W (Or.inl (List.mem_of_getElem? (i := 0) rfl))
 refine g_iinc X d10_50 (pc' := 53) (q := (1 : Int32)) (Ls' := #[.val (.ref a0), .val (.ref wk), .val (.int (1 : Int32)), .val (.ref wv), .val (.int (2 : Int32))]) rfl rfl rfl rfl ?_
 refine g_goto X d10_53 (pc' := 3) (by decide) (by decide) ?_
 refine g_iload X d10_3 (pc' := 5) rfl rfl ?_
 refine g_aloadN X d10_5 (pc' := 6) rfl rfl rfl ?_
 refine g_arraylength X qa d10_6 (pc' := 7) rfl (z := (4 : Int32)) rfl ?_
 refine g_icN X d10_7 (tlt (show (2 : Int32) < (4 : Int32) from (by decide))).2.1 (pc' := 10) rfl ?_
 refine g_aloadN X d10_10 (pc' := 11) rfl rfl rfl ?_
 refine g_iload X d10_11 (pc' := 13) rfl rfl ?_
 refine g_aloadN X d10_13 (pc' := 14) rfl rfl rfl ?_
 refine g_iloadN X d10_14 (pc' := 15) rfl rfl ?_
 refine g_aloadN X d10_15 (pc' := 16) rfl rfl rfl ?_
 refine g_getfield X (host := "") (Or.inl (tb hw 28 rfl)) Via.refl qd d10_16 (pc' := 19) rfl ?_
 intro T X
 refine g_iload X d10_19 (pc' := 21) rfl rfl ?_
 refine g_iaload X qh 2 d10_21 (pc' := 22) rfl (by decide) (by decide) rfl ?_
 refine g_iadd X d10_22 (pc' := 23) rfl ?_
 refine Go.lit32 (z := (2 : Int32)) (by decide) ?_
 refine g_laload X qk 2 d10_23 (pc' := 24) rfl (by decide) (by decide) rfl ?_
 refine g_aloadN X d10_24 (pc' := 25) rfl rfl rfl ?_
 refine g_getfield X (host := "") (Or.inl (tb hw 30 rfl)) Via.refl qe d10_25 (pc' := 28) rfl ?_
 intro T X
 refine g_iload X d10_28 (pc' := 30) rfl rfl ?_
 refine g_iaload X qi 2 d10_30 (pc' := 31) rfl (by decide) (by decide) rfl ?_
 refine g_lushr X d10_31 (pc' := 32) rfl ?_
 refine g_aloadN X d10_32 (pc' := 33) rfl rfl rfl ?_
 refine g_getfield X (host := "") (Or.inl (tb hw 33 rfl)) Via.refl qf d10_33 (pc' := 36) rfl ?_
 intro T X
 refine g_iload X d10_36 (pc' := 38) rfl rfl ?_
 refine g_laload X qj 2 d10_38 (pc' := 39) rfl (by decide) (by decide) rfl ?_
 refine g_land X d10_39 (pc' := 40) rfl ?_
 refine g_l2i X d10_40 (pc' := 41) rfl ?_
 refine g_aloadN X d10_41 (pc' := 42) rfl rfl rfl ?_
 refine g_getfield X (host := "") (Or.inl (tb hw 26 rfl)) Via.refl qc d10_42 (pc' := 45) rfl ?_
 intro T X
 refine g_iload X d10_45 (pc' := 47) rfl rfl ?_
 refine g_iaload X qg 2 d10_47 (pc' := 48) rfl (by decide) (by decide) rfl ?_
 refine g_iadd X d10_48 (pc' := 49) rfl ?_
 generalize qw : (((((k2.toUInt64 >>> (s2 &&& 0x3f).toInt64.toUInt64).toInt64) &&& m2).toInt32) + l2) = qt
 refine g_iastore X qa 2 d10_49 (pc' := 50) rfl (by decide) (by decide) (Nat.le_of_ble_eq_true rfl) ?_
 intro T h X W qa
 replace qa : Av Z h wv .int [(.int qm), (.int qs), (.int qt), (.int x3)] := qa
 replace qc := qc.other W (Or.inl qb)
 replace qd := qd.other W (Or.inl qb)
 replace qe := qe.other W (Or.inl qb)
 replace qf := qf.other W (Or.inl qb)
 replace qg := qg.other W qn
 replace qh := qh.other W qo
 replace qi := qi.other W qp
 replace qj := qj.other W qq
 replace qk := qk.other W qr
 replace Z0 := Nat.le_trans Z0 (Nat.le_of_eq W.size.symm)
 replace N := Fr.snoc X.1 N ql
 replace Kp := Kp.wr W (Or.inl (List.mem_of_getElem? (i := 0) rfl))
 refine g_iinc X d10_50 (pc' := 53) (q := (1 : Int32)) (Ls' := #[.val (.ref a0), .val (.ref wk), .val (.int (1 : Int32)), .val (.ref wv), .val (.int (3 : Int32))]) rfl rfl rfl rfl ?_
 refine g_goto X d10_53 (pc' := 3) (by decide) (by decide) ?_
 refine g_iload X d10_3 (pc' := 5) rfl rfl ?_
 refine g_aloadN X d10_5 (pc' := 6) rfl rfl rfl ?_
 refine g_arraylength X qa d10_6 (pc' := 7) rfl (z := (4 : Int32)) rfl ?_
 refine g_icN X d10_7 (tlt (show (3 : Int32) < (4 : Int32) from (by decide))).2.1 (pc' := 10) rfl ?_
 refine g_aloadN X d10_10 (pc' := 11) rfl rfl rfl ?_
 refine g_iload X d10_11 (pc' := 13) rfl rfl ?_
 refine g_aloadN X d10_13 (pc' := 14) rfl rfl rfl ?_
 refine g_iloadN X d10_14 (pc' := 15) rfl rfl ?_
 refine g_aloadN X d10_15 (pc' := 16) rfl rfl rfl ?_
 refine g_getfield X (host := "") (Or.inl (tb hw 28 rfl)) Via.refl qd d10_16 (pc' := 19) rfl ?_
 intro T X
 refine g_iload X d10_19 (pc' := 21) rfl rfl ?_
 refine g_iaload X qh 3 d10_21 (pc' := 22) rfl (by decide) (by decide) rfl ?_
 refine g_iadd X d10_22 (pc' := 23) rfl ?_
 refine Go.lit32 (z := (2 : Int32)) (by decide) ?_
 refine g_laload X qk 2 d10_23 (pc' := 24) rfl (by decide) (by decide) rfl ?_
 refine g_aloadN X d10_24 (pc' := 25) rfl rfl rfl ?_
 refine g_getfield X (host := "") (Or.inl (tb hw 30 rfl)) Via.refl qe d10_25 (pc' := 28) rfl ?_
 intro T X
 refine g_iload X d10_28 (pc' := 30) rfl rfl ?_
 refine g_iaload X qi 3 d10_30 (pc' := 31) rfl (by decide) (by decide) rfl ?_
 refine g_lushr X d10_31 (pc' := 32) rfl ?_
 refine g_aloadN X d10_32 (pc' := 33) rfl rfl rfl ?_
 refine g_getfield X (host := "") (Or.inl (tb hw 33 rfl)) Via.refl qf d10_33 (pc' := 36) rfl ?_
 intro T X
 refine g_iload X d10_36 (pc' := 38) rfl rfl ?_
 refine g_laload X qj 3 d10_38 (pc' := 39) rfl (by decide) (by decide) rfl ?_
 refine g_land X d10_39 (pc' := 40) rfl ?_
 refine g_l2i X d10_40 (pc' := 41) rfl ?_
 refine g_aloadN X d10_41 (pc' := 42) rfl rfl rfl ?_
 refine g_getfield X (host := "") (Or.inl (tb hw 26 rfl)) Via.refl qc d10_42 (pc' := 45) rfl ?_
 intro T X
 refine g_iload X d10_45 (pc' := 47) rfl rfl ?_
 refine g_iaload X qg 3 d10_47 (pc' := 48) rfl (by decide) (by decide) rfl ?_
 refine g_iadd X d10_48 (pc' := 49) rfl ?_
 generalize qx : (((((k2.toUInt64 >>> (s3 &&& 0x3f).toInt64.toUInt64).toInt64) &&& m3).toInt32) + l3) = qy
 refine g_iastore X qa 3 d10_49 (pc' := 50) rfl (by decide) (by decide) (Nat.le_of_ble_eq_true rfl) ?_
 intro T h X W qa
 replace qa : Av Z h wv .int [(.int qm), (.int qs), (.int qt), (.int qy)] := qa
 replace Z0 := Nat.le_trans Z0 (Nat.le_of_eq W.size.symm)
 replace N := Fr.snoc X.1 N ql
 replace Kp := Kp.wr W (Or.inl (List.mem_of_getElem? (i := 0) rfl))
 refine g_iinc X d10_50 (pc' := 53) (q := (1 : Int32)) (Ls' := #[.val (.ref a0), .val (.ref wk), .val (.int (1 : Int32)), .val (.ref wv), .val (.int (4 : Int32))]) rfl rfl rfl rfl ?_
 refine g_goto X d10_53 (pc' := 3) (by decide) (by decide) ?_
 refine g_iload X d10_3 (pc' := 5) rfl rfl ?_
 refine g_aloadN X d10_5 (pc' := 6) rfl rfl rfl ?_
 refine g_arraylength X qa d10_6 (pc' := 7) rfl (z := (4 : Int32)) rfl ?_
 refine g_icY X d10_7 (flt (show ¬ ((4 : Int32) < (4 : Int32)) from (by decide))).2.1 (pc' := 56) (by decide) (by decide) ?_
 refine g_return X d10_56 hret hlk (by decide) (by decide) ?_
 subst qu qv qw qx
 exact ⟨rfl, N, Kp, qa⟩
theorem d11_0 : decode method_6_code 0 = .ok (.iconst 1, 1) := by decide +kernel
theorem d11_1 : decode method_6_code 1 = .ok (.istore 5, 2) := by decide +kernel
theorem d11_3 : decode method_6_code 3 = .ok (.iconst 0, 1) := by decide +kernel
theorem d11_4 : decode method_6_code 4 = .ok (.iload_n 1, 1) := by decide +kernel
theorem d11_5 : decode method_6_code 5 = .ok (.if_icmp .lt 10, 3) := by decide +kernel
theorem d11_8 : decode method_6_code 8 = .ok (.iconst 0, 1) := by decide +kernel
theorem d11_9 : decode method_6_code 9 = .ok (.iload_n 1, 1) := by decide +kernel
theorem d11_10 : decode method_6_code 10 = .ok (.iload_n 2, 1) := by decide +kernel
theorem d11_11 : decode method_6_code 11 = .ok (.iadd, 1) := by decide +kernel
theorem d11_12 : decode method_6_code 12 = .ok (.if_icmp .lt 14, 3) := by decide +kernel
theorem d11_26 : decode method_6_code 26 = .ok (.iconst 1, 1) := by decide +kernel
theorem d11_27 : decode method_6_code 27 = .ok (.iload_n 1, 1) := by decide +kernel
theorem d11_28 : decode method_6_code 28 = .ok (.if_icmp .lt 10, 3) := by decide +kernel
theorem d11_31 : decode method_6_code 31 = .ok (.iconst 1, 1) := by decide +kernel
theorem d11_32 : decode method_6_code 32 = .ok (.iload_n 1, 1) := by decide +kernel
theorem d11_33 : decode method_6_code 33 = .ok (.iload_n 2, 1) := by decide +kernel
theorem d11_34 : decode method_6_code 34 = .ok (.iadd, 1) := by decide +kernel
theorem d11_35 : decode method_6_code 35 = .ok (.if_icmp .lt 14, 3) := by decide +kernel
theorem d11_38 : decode method_6_code 38 = .ok (.aload_n 0, 1) := by decide +kernel
theorem d11_39 : decode method_6_code 39 = .ok (.iconst 1, 1) := by decide +kernel
theorem d11_40 : decode method_6_code 40 = .ok (.laload, 1) := by decide +kernel
theorem d11_41 : decode method_6_code 41 = .ok (.lload_n 3, 1) := by decide +kernel
theorem d11_42 : decode method_6_code 42 = .ok (.lcmp, 1) := by decide +kernel
theorem d11_43 : decode method_6_code 43 = .ok (.ifCond .eq 6, 3) := by decide +kernel
theorem d11_49 : decode method_6_code 49 = .ok (.iconst 2, 1) := by decide +kernel
theorem d11_50 : decode method_6_code 50 = .ok (.iload_n 1, 1) := by decide +kernel
theorem d11_51 : decode method_6_code 51 = .ok (.if_icmp .lt 10, 3) := by decide +kernel
theorem d11_54 : decode method_6_code 54 = .ok (.iconst 2, 1) := by decide +kernel
theorem d11_55 : decode method_6_code 55 = .ok (.iload_n 1, 1) := by decide +kernel
theorem d11_56 : decode method_6_code 56 = .ok (.iload_n 2, 1) := by decide +kernel
theorem d11_57 : decode method_6_code 57 = .ok (.iadd, 1) := by decide +kernel
theorem d11_58 : decode method_6_code 58 = .ok (.if_icmp .lt 14, 3) := by decide +kernel
theorem d11_61 : decode method_6_code 61 = .ok (.aload_n 0, 1) := by decide +kernel
theorem d11_62 : decode method_6_code 62 = .ok (.iconst 2, 1) := by decide +kernel
theorem d11_63 : decode method_6_code 63 = .ok (.laload, 1) := by decide +kernel
theorem d11_64 : decode method_6_code 64 = .ok (.lload_n 3, 1) := by decide +kernel
theorem d11_65 : decode method_6_code 65 = .ok (.lcmp, 1) := by decide +kernel
theorem d11_66 : decode method_6_code 66 = .ok (.ifCond .eq 6, 3) := by decide +kernel
theorem d11_72 : decode method_6_code 72 = .ok (.iconst 3, 1) := by decide +kernel
theorem d11_73 : decode method_6_code 73 = .ok (.iload_n 1, 1) := by decide +kernel
theorem d11_74 : decode method_6_code 74 = .ok (.if_icmp .lt 10, 3) := by decide +kernel
theorem d11_77 : decode method_6_code 77 = .ok (.iconst 3, 1) := by decide +kernel
theorem d11_78 : decode method_6_code 78 = .ok (.iload_n 1, 1) := by decide +kernel
theorem d11_79 : decode method_6_code 79 = .ok (.iload_n 2, 1) := by decide +kernel
theorem d11_80 : decode method_6_code 80 = .ok (.iadd, 1) := by decide +kernel
theorem d11_81 : decode method_6_code 81 = .ok (.if_icmp .lt 14, 3) := by decide +kernel
theorem d11_84 : decode method_6_code 84 = .ok (.aload_n 0, 1) := by decide +kernel
theorem d11_85 : decode method_6_code 85 = .ok (.iconst 3, 1) := by decide +kernel
theorem d11_86 : decode method_6_code 86 = .ok (.laload, 1) := by decide +kernel
theorem d11_87 : decode method_6_code 87 = .ok (.lload_n 3, 1) := by decide +kernel
theorem d11_88 : decode method_6_code 88 = .ok (.lcmp, 1) := by decide +kernel
theorem d11_89 : decode method_6_code 89 = .ok (.ifCond .eq 6, 3) := by decide +kernel
theorem d11_95 : decode method_6_code 95 = .ok (.iload 5, 2) := by decide +kernel
theorem d11_97 : decode method_6_code 97 = .ok (.ireturn, 1) := by decide +kernel
theorem d11_92 : decode method_6_code 92 = .ok (.iconst 0, 1) := by decide +kernel
theorem d11_93 : decode method_6_code 93 = .ok (.istore 5, 2) := by decide +kernel
theorem d11_69 : decode method_6_code 69 = .ok (.iconst 0, 1) := by decide +kernel
theorem d11_70 : decode method_6_code 70 = .ok (.istore 5, 2) := by decide +kernel
theorem d11_46 : decode method_6_code 46 = .ok (.iconst 0, 1) := by decide +kernel
theorem d11_47 : decode method_6_code 47 = .ok (.istore 5, 2) := by decide +kernel
def fUt10 (j3 : Int64) (k0 : Int64) (k1 : Int64) (k2 : Int64) (k3 : Int64) : Bool := if k1 = j3 then (if k2 = j3 then (if k3 = j3 then (true) else (false)) else (if k3 = j3 then (false) else (false))) else (if k2 = j3 then (if k3 = j3 then (false) else (false)) else (if k3 = j3 then (false) else (false)))
theorem ef_rUt10 (m : MethodId) (x0 : Addr) (x1 : Int32) (x2 : Int32) (x3 : Int64) : entryFrame m #[(.ref x0), (.int x1), (.int x2), (.long x3)] 6 = mkF m 0 #[.val (.ref x0), .val (.int x1), .val (.int x2), .val (.long x3), .second, .unset] [] := by first | (simp [entryFrame, mkF, argsToLocals, Value.category]; done) | rfl
set_option maxRecDepth 65536 in
set_option maxHeartbeats 40000000 in
theorem rUt10 (l : Launch) (Z : State) (aa : Array Value) (hw : ∀ d ∈ tables_1, d.before aa Z = true) (ws : List Jvm.Cond) (wk : Addr) (j3 : Int64) (k0 : Int64) (k1 : Int64) (k2 : Int64) (k3 : Int64) (h0 : Heap) (qb : Av Z h0 wk .long [(.long k0), (.long k1), (.long k2), (.long k3)]) :
    Rm l Z (⟨"com/example/ryazan/ryazan/language/LayoutPackPinLaw", "untouched", "([JIIJ)Z"⟩ : MethodName) method_6_code 6 (some .boolean) ws ({ frames := 0, cells := 0, slots := 0, locals := 0 } : Room) #[(.ref wk), (.int (0 : Int32)), (.int (1 : Int32)), (.long j3)] h0 (Pu (.int (b2i (fUt10 j3 k0 k1 k2 k3))) h0) := by
 refine Rm.of (plainFor_of_name pn_0) ?_
 intro p e s m below meth cc T X hnm hret hlk
 refine Go.at_ (ef_rUt10 m wk (0 : Int32) (1 : Int32) j3) ?_
 refine g_iconst X (1 : Int32) d11_0 (pc' := 1) rfl rfl ?_
 refine g_istore X d11_1 (pc' := 3) (Ls' := #[.val (.ref wk), .val (.int (0 : Int32)), .val (.int (1 : Int32)), .val (.long j3), .second, .val (.int (1 : Int32))]) rfl rfl ?_
 refine g_iconst X (0 : Int32) d11_3 (pc' := 4) rfl rfl ?_
 refine g_iloadN X d11_4 (pc' := 5) rfl rfl ?_
 refine g_icN X d11_5 (flt (show ¬ ((0 : Int32) < (0 : Int32)) from (by decide))).1 (pc' := 8) rfl ?_
 refine g_iconst X (0 : Int32) d11_8 (pc' := 9) rfl rfl ?_
 refine g_iloadN X d11_9 (pc' := 10) rfl rfl ?_
 refine g_iloadN X d11_10 (pc' := 11) rfl rfl ?_
 refine g_iadd X d11_11 (pc' := 12) rfl ?_
 refine Go.lit32 (z := (1 : Int32)) (by decide) ?_
 refine g_icY X d11_12 (tlt (show (0 : Int32) < (1 : Int32) from (by decide))).1 (pc' := 26) (by decide) (by decide) ?_
 refine g_iconst X (1 : Int32) d11_26 (pc' := 27) rfl rfl ?_
 refine g_iloadN X d11_27 (pc' := 28) rfl rfl ?_
 refine g_icN X d11_28 (flt (show ¬ ((1 : Int32) < (0 : Int32)) from (by decide))).1 (pc' := 31) rfl ?_
 refine g_iconst X (1 : Int32) d11_31 (pc' := 32) rfl rfl ?_
 refine g_iloadN X d11_32 (pc' := 33) rfl rfl ?_
 refine g_iloadN X d11_33 (pc' := 34) rfl rfl ?_
 refine g_iadd X d11_34 (pc' := 35) rfl ?_
 refine Go.lit32 (z := (1 : Int32)) (by decide) ?_
 refine g_icN X d11_35 (flt (show ¬ ((1 : Int32) < (1 : Int32)) from (by decide))).1 (pc' := 38) rfl ?_
 refine g_aloadN X d11_38 (pc' := 39) rfl rfl rfl ?_
 refine g_iconst X (1 : Int32) d11_39 (pc' := 40) rfl rfl ?_
 refine g_laload X qb 1 d11_40 (pc' := 41) rfl (by decide) (by decide) rfl ?_
 refine g_lloadN X d11_41 (pc' := 42) rfl rfl ?_
 refine g_lcmp X d11_42 (pc' := 43) rfl ?_
 by_cases qa : k1 = j3
 refine g_ifY X d11_43 ((if0 _ _).trans (teq ((lw_eq k1 j3).mpr qa)).1) (pc' := 49) (by decide) (by decide) ?_
 refine g_iconst X (2 : Int32) d11_49 (pc' := 50) rfl rfl ?_
 refine g_iloadN X d11_50 (pc' := 51) rfl rfl ?_
 refine g_icN X d11_51 (flt (show ¬ ((2 : Int32) < (0 : Int32)) from (by decide))).1 (pc' := 54) rfl ?_
 refine g_iconst X (2 : Int32) d11_54 (pc' := 55) rfl rfl ?_
 refine g_iloadN X d11_55 (pc' := 56) rfl rfl ?_
 refine g_iloadN X d11_56 (pc' := 57) rfl rfl ?_
 refine g_iadd X d11_57 (pc' := 58) rfl ?_
 refine Go.lit32 (z := (1 : Int32)) (by decide) ?_
 refine g_icN X d11_58 (flt (show ¬ ((2 : Int32) < (1 : Int32)) from (by decide))).1 (pc' := 61) rfl ?_
 refine g_aloadN X d11_61 (pc' := 62) rfl rfl rfl ?_
 refine g_iconst X (2 : Int32) d11_62 (pc' := 63) rfl rfl ?_
 refine g_laload X qb 2 d11_63 (pc' := 64) rfl (by decide) (by decide) rfl ?_
 refine g_lloadN X d11_64 (pc' := 65) rfl rfl ?_
 refine g_lcmp X d11_65 (pc' := 66) rfl ?_
 by_cases qc : k2 = j3
 refine g_ifY X d11_66 ((if0 _ _).trans (teq ((lw_eq k2 j3).mpr qc)).1) (pc' := 72) (by decide) (by decide) ?_
 refine g_iconst X (3 : Int32) d11_72 (pc' := 73) rfl rfl ?_
 refine g_iloadN X d11_73 (pc' := 74) rfl rfl ?_
 refine g_icN X d11_74 (flt (show ¬ ((3 : Int32) < (0 : Int32)) from (by decide))).1 (pc' := 77) rfl ?_
 refine g_iconst X (3 : Int32) d11_77 (pc' := 78) rfl rfl ?_
 refine g_iloadN X d11_78 (pc' := 79) rfl rfl ?_
 refine g_iloadN X d11_79 (pc' := 80) rfl rfl ?_
 refine g_iadd X d11_80 (pc' := 81) rfl ?_
 refine Go.lit32 (z := (1 : Int32)) (by decide) ?_
 refine g_icN X d11_81 (flt (show ¬ ((3 : Int32) < (1 : Int32)) from (by decide))).1 (pc' := 84) rfl ?_
 refine g_aloadN X d11_84 (pc' := 85) rfl rfl rfl ?_
 refine g_iconst X (3 : Int32) d11_85 (pc' := 86) rfl rfl ?_
 refine g_laload X qb 3 d11_86 (pc' := 87) rfl (by decide) (by decide) rfl ?_
 refine g_lloadN X d11_87 (pc' := 88) rfl rfl ?_
 refine g_lcmp X d11_88 (pc' := 89) rfl ?_
 by_cases qe : k3 = j3
 refine g_ifY X d11_89 ((if0 _ _).trans (teq ((lw_eq k3 j3).mpr qe)).1) (pc' := 95) (by decide) (by decide) ?_
 refine g_iload X d11_95 (pc' := 97) rfl rfl ?_
 refine g_ireturnN X (t := .boolean) (by simp) d11_97 hret hlk (by decide) (by decide) ?_
 exact ⟨congrArg (fun z => some (Value.int z)) (Eq.trans narT (congrArg b2i (Eq.symm (show fUt10 j3 k0 k1 k2 k3 = _ from (Eq.trans (if_pos qa) (Eq.trans (if_pos qc) (Eq.trans (if_pos qe) rfl))))))), rfl, rfl⟩
 refine g_ifN X d11_89 ((if0 _ _).trans (feq (fun q => qe ((lw_eq k3 j3).mp q))).1) (pc' := 92) rfl ?_
 refine g_iconst X (0 : Int32) d11_92 (pc' := 93) rfl rfl ?_
 refine g_istore X d11_93 (pc' := 95) (Ls' := #[.val (.ref wk), .val (.int (0 : Int32)), .val (.int (1 : Int32)), .val (.long j3), .second, .val (.int (0 : Int32))]) rfl rfl ?_
 refine g_iload X d11_95 (pc' := 97) rfl rfl ?_
 refine g_ireturnN X (t := .boolean) (by simp) d11_97 hret hlk (by decide) (by decide) ?_
 exact ⟨congrArg (fun z => some (Value.int z)) (Eq.trans narF (congrArg b2i (Eq.symm (show fUt10 j3 k0 k1 k2 k3 = _ from (Eq.trans (if_pos qa) (Eq.trans (if_pos qc) (Eq.trans (if_neg qe) rfl))))))), rfl, rfl⟩
 refine g_ifN X d11_66 ((if0 _ _).trans (feq (fun q => qc ((lw_eq k2 j3).mp q))).1) (pc' := 69) rfl ?_
 refine g_iconst X (0 : Int32) d11_69 (pc' := 70) rfl rfl ?_
 refine g_istore X d11_70 (pc' := 72) (Ls' := #[.val (.ref wk), .val (.int (0 : Int32)), .val (.int (1 : Int32)), .val (.long j3), .second, .val (.int (0 : Int32))]) rfl rfl ?_
 refine g_iconst X (3 : Int32) d11_72 (pc' := 73) rfl rfl ?_
 refine g_iloadN X d11_73 (pc' := 74) rfl rfl ?_
 refine g_icN X d11_74 (flt (show ¬ ((3 : Int32) < (0 : Int32)) from (by decide))).1 (pc' := 77) rfl ?_
 refine g_iconst X (3 : Int32) d11_77 (pc' := 78) rfl rfl ?_
 refine g_iloadN X d11_78 (pc' := 79) rfl rfl ?_
 refine g_iloadN X d11_79 (pc' := 80) rfl rfl ?_
 refine g_iadd X d11_80 (pc' := 81) rfl ?_
 refine Go.lit32 (z := (1 : Int32)) (by decide) ?_
 refine g_icN X d11_81 (flt (show ¬ ((3 : Int32) < (1 : Int32)) from (by decide))).1 (pc' := 84) rfl ?_
 refine g_aloadN X d11_84 (pc' := 85) rfl rfl rfl ?_
 refine g_iconst X (3 : Int32) d11_85 (pc' := 86) rfl rfl ?_
 refine g_laload X qb 3 d11_86 (pc' := 87) rfl (by decide) (by decide) rfl ?_
 refine g_lloadN X d11_87 (pc' := 88) rfl rfl ?_
 refine g_lcmp X d11_88 (pc' := 89) rfl ?_
 by_cases qf : k3 = j3
 refine g_ifY X d11_89 ((if0 _ _).trans (teq ((lw_eq k3 j3).mpr qf)).1) (pc' := 95) (by decide) (by decide) ?_
 refine g_iload X d11_95 (pc' := 97) rfl rfl ?_
 refine g_ireturnN X (t := .boolean) (by simp) d11_97 hret hlk (by decide) (by decide) ?_
 exact ⟨congrArg (fun z => some (Value.int z)) (Eq.trans narF (congrArg b2i (Eq.symm (show fUt10 j3 k0 k1 k2 k3 = _ from (Eq.trans (if_pos qa) (Eq.trans (if_neg qc) (Eq.trans (if_pos qf) rfl))))))), rfl, rfl⟩
 refine g_ifN X d11_89 ((if0 _ _).trans (feq (fun q => qf ((lw_eq k3 j3).mp q))).1) (pc' := 92) rfl ?_
 refine g_iconst X (0 : Int32) d11_92 (pc' := 93) rfl rfl ?_
 refine g_istore X d11_93 (pc' := 95) (Ls' := #[.val (.ref wk), .val (.int (0 : Int32)), .val (.int (1 : Int32)), .val (.long j3), .second, .val (.int (0 : Int32))]) rfl rfl ?_
 refine g_iload X d11_95 (pc' := 97) rfl rfl ?_
 refine g_ireturnN X (t := .boolean) (by simp) d11_97 hret hlk (by decide) (by decide) ?_
 exact ⟨congrArg (fun z => some (Value.int z)) (Eq.trans narF (congrArg b2i (Eq.symm (show fUt10 j3 k0 k1 k2 k3 = _ from (Eq.trans (if_pos qa) (Eq.trans (if_neg qc) (Eq.trans (if_neg qf) rfl))))))), rfl, rfl⟩
 refine g_ifN X d11_43 ((if0 _ _).trans (feq (fun q => qa ((lw_eq k1 j3).mp q))).1) (pc' := 46) rfl ?_
 refine g_iconst X (0 : Int32) d11_46 (pc' := 47) rfl rfl ?_
 refine g_istore X d11_47 (pc' := 49) (Ls' := #[.val (.ref wk), .val (.int (0 : Int32)), .val (.int (1 : Int32)), .val (.long j3), .second, .val (.int (0 : Int32))]) rfl rfl ?_
 refine g_iconst X (2 : Int32) d11_49 (pc' := 50) rfl rfl ?_
 refine g_iloadN X d11_50 (pc' := 51) rfl rfl ?_
 refine g_icN X d11_51 (flt (show ¬ ((2 : Int32) < (0 : Int32)) from (by decide))).1 (pc' := 54) rfl ?_
 refine g_iconst X (2 : Int32) d11_54 (pc' := 55) rfl rfl ?_
 refine g_iloadN X d11_55 (pc' := 56) rfl rfl ?_
 refine g_iloadN X d11_56 (pc' := 57) rfl rfl ?_
 refine g_iadd X d11_57 (pc' := 58) rfl ?_
 refine Go.lit32 (z := (1 : Int32)) (by decide) ?_
 refine g_icN X d11_58 (flt (show ¬ ((2 : Int32) < (1 : Int32)) from (by decide))).1 (pc' := 61) rfl ?_
 refine g_aloadN X d11_61 (pc' := 62) rfl rfl rfl ?_
 refine g_iconst X (2 : Int32) d11_62 (pc' := 63) rfl rfl ?_
 refine g_laload X qb 2 d11_63 (pc' := 64) rfl (by decide) (by decide) rfl ?_
 refine g_lloadN X d11_64 (pc' := 65) rfl rfl ?_
 refine g_lcmp X d11_65 (pc' := 66) rfl ?_
 by_cases qd : k2 = j3
 refine g_ifY X d11_66 ((if0 _ _).trans (teq ((lw_eq k2 j3).mpr qd)).1) (pc' := 72) (by decide) (by decide) ?_
 refine g_iconst X (3 : Int32) d11_72 (pc' := 73) rfl rfl ?_
 refine g_iloadN X d11_73 (pc' := 74) rfl rfl ?_
 refine g_icN X d11_74 (flt (show ¬ ((3 : Int32) < (0 : Int32)) from (by decide))).1 (pc' := 77) rfl ?_
 refine g_iconst X (3 : Int32) d11_77 (pc' := 78) rfl rfl ?_
 refine g_iloadN X d11_78 (pc' := 79) rfl rfl ?_
 refine g_iloadN X d11_79 (pc' := 80) rfl rfl ?_
 refine g_iadd X d11_80 (pc' := 81) rfl ?_
 refine Go.lit32 (z := (1 : Int32)) (by decide) ?_
 refine g_icN X d11_81 (flt (show ¬ ((3 : Int32) < (1 : Int32)) from (by decide))).1 (pc' := 84) rfl ?_
 refine g_aloadN X d11_84 (pc' := 85) rfl rfl rfl ?_
 refine g_iconst X (3 : Int32) d11_85 (pc' := 86) rfl rfl ?_
 refine g_laload X qb 3 d11_86 (pc' := 87) rfl (by decide) (by decide) rfl ?_
 refine g_lloadN X d11_87 (pc' := 88) rfl rfl ?_
 refine g_lcmp X d11_88 (pc' := 89) rfl ?_
 by_cases qg : k3 = j3
 refine g_ifY X d11_89 ((if0 _ _).trans (teq ((lw_eq k3 j3).mpr qg)).1) (pc' := 95) (by decide) (by decide) ?_
 refine g_iload X d11_95 (pc' := 97) rfl rfl ?_
 refine g_ireturnN X (t := .boolean) (by simp) d11_97 hret hlk (by decide) (by decide) ?_
 exact ⟨congrArg (fun z => some (Value.int z)) (Eq.trans narF (congrArg b2i (Eq.symm (show fUt10 j3 k0 k1 k2 k3 = _ from (Eq.trans (if_neg qa) (Eq.trans (if_pos qd) (Eq.trans (if_pos qg) rfl))))))), rfl, rfl⟩
 refine g_ifN X d11_89 ((if0 _ _).trans (feq (fun q => qg ((lw_eq k3 j3).mp q))).1) (pc' := 92) rfl ?_
 refine g_iconst X (0 : Int32) d11_92 (pc' := 93) rfl rfl ?_
 refine g_istore X d11_93 (pc' := 95) (Ls' := #[.val (.ref wk), .val (.int (0 : Int32)), .val (.int (1 : Int32)), .val (.long j3), .second, .val (.int (0 : Int32))]) rfl rfl ?_
 refine g_iload X d11_95 (pc' := 97) rfl rfl ?_
 refine g_ireturnN X (t := .boolean) (by simp) d11_97 hret hlk (by decide) (by decide) ?_
 exact ⟨congrArg (fun z => some (Value.int z)) (Eq.trans narF (congrArg b2i (Eq.symm (show fUt10 j3 k0 k1 k2 k3 = _ from (Eq.trans (if_neg qa) (Eq.trans (if_pos qd) (Eq.trans (if_neg qg) rfl))))))), rfl, rfl⟩
 refine g_ifN X d11_66 ((if0 _ _).trans (feq (fun q => qd ((lw_eq k2 j3).mp q))).1) (pc' := 69) rfl ?_
 refine g_iconst X (0 : Int32) d11_69 (pc' := 70) rfl rfl ?_
 refine g_istore X d11_70 (pc' := 72) (Ls' := #[.val (.ref wk), .val (.int (0 : Int32)), .val (.int (1 : Int32)), .val (.long j3), .second, .val (.int (0 : Int32))]) rfl rfl ?_
 refine g_iconst X (3 : Int32) d11_72 (pc' := 73) rfl rfl ?_
 refine g_iloadN X d11_73 (pc' := 74) rfl rfl ?_
 refine g_icN X d11_74 (flt (show ¬ ((3 : Int32) < (0 : Int32)) from (by decide))).1 (pc' := 77) rfl ?_
 refine g_iconst X (3 : Int32) d11_77 (pc' := 78) rfl rfl ?_
 refine g_iloadN X d11_78 (pc' := 79) rfl rfl ?_
 refine g_iloadN X d11_79 (pc' := 80) rfl rfl ?_
 refine g_iadd X d11_80 (pc' := 81) rfl ?_
 refine Go.lit32 (z := (1 : Int32)) (by decide) ?_
 refine g_icN X d11_81 (flt (show ¬ ((3 : Int32) < (1 : Int32)) from (by decide))).1 (pc' := 84) rfl ?_
 refine g_aloadN X d11_84 (pc' := 85) rfl rfl rfl ?_
 refine g_iconst X (3 : Int32) d11_85 (pc' := 86) rfl rfl ?_
 refine g_laload X qb 3 d11_86 (pc' := 87) rfl (by decide) (by decide) rfl ?_
 refine g_lloadN X d11_87 (pc' := 88) rfl rfl ?_
 refine g_lcmp X d11_88 (pc' := 89) rfl ?_
 by_cases qh : k3 = j3
 refine g_ifY X d11_89 ((if0 _ _).trans (teq ((lw_eq k3 j3).mpr qh)).1) (pc' := 95) (by decide) (by decide) ?_
 refine g_iload X d11_95 (pc' := 97) rfl rfl ?_
 refine g_ireturnN X (t := .boolean) (by simp) d11_97 hret hlk (by decide) (by decide) ?_
 exact ⟨congrArg (fun z => some (Value.int z)) (Eq.trans narF (congrArg b2i (Eq.symm (show fUt10 j3 k0 k1 k2 k3 = _ from (Eq.trans (if_neg qa) (Eq.trans (if_neg qd) (Eq.trans (if_pos qh) rfl))))))), rfl, rfl⟩
 refine g_ifN X d11_89 ((if0 _ _).trans (feq (fun q => qh ((lw_eq k3 j3).mp q))).1) (pc' := 92) rfl ?_
 refine g_iconst X (0 : Int32) d11_92 (pc' := 93) rfl rfl ?_
 refine g_istore X d11_93 (pc' := 95) (Ls' := #[.val (.ref wk), .val (.int (0 : Int32)), .val (.int (1 : Int32)), .val (.long j3), .second, .val (.int (0 : Int32))]) rfl rfl ?_
 refine g_iload X d11_95 (pc' := 97) rfl rfl ?_
 refine g_ireturnN X (t := .boolean) (by simp) d11_97 hret hlk (by decide) (by decide) ?_
 exact ⟨congrArg (fun z => some (Value.int z)) (Eq.trans narF (congrArg b2i (Eq.symm (show fUt10 j3 k0 k1 k2 k3 = _ from (Eq.trans (if_neg qa) (Eq.trans (if_neg qd) (Eq.trans (if_neg qh) rfl))))))), rfl, rfl⟩
theorem d12_0 : decode prog_58_method_5_code 0 = .ok (.iconst 0, 1) := by decide +kernel
theorem d12_1 : decode prog_58_method_5_code 1 = .ok (.istore 5, 2) := by decide +kernel
theorem d12_3 : decode prog_58_method_5_code 3 = .ok (.iload 5, 2) := by decide +kernel
theorem d12_5 : decode prog_58_method_5_code 5 = .ok (.iload 4, 2) := by decide +kernel
theorem d12_7 : decode prog_58_method_5_code 7 = .ok (.if_icmp .ge 34, 3) := by decide +kernel
theorem d12_10 : decode prog_58_method_5_code 10 = .ok (.aload_n 0, 1) := by decide +kernel
theorem d12_11 : decode prog_58_method_5_code 11 = .ok (.iload_n 1, 1) := by decide +kernel
theorem d12_12 : decode prog_58_method_5_code 12 = .ok (.iload 5, 2) := by decide +kernel
theorem d12_14 : decode prog_58_method_5_code 14 = .ok (.iadd, 1) := by decide +kernel
theorem d12_15 : decode prog_58_method_5_code 15 = .ok (.laload, 1) := by decide +kernel
theorem d12_16 : decode prog_58_method_5_code 16 = .ok (.aload_n 2, 1) := by decide +kernel
theorem d12_17 : decode prog_58_method_5_code 17 = .ok (.iload_n 3, 1) := by decide +kernel
theorem d12_18 : decode prog_58_method_5_code 18 = .ok (.iload 5, 2) := by decide +kernel
theorem d12_20 : decode prog_58_method_5_code 20 = .ok (.iadd, 1) := by decide +kernel
theorem d12_21 : decode prog_58_method_5_code 21 = .ok (.laload, 1) := by decide +kernel
theorem d12_22 : decode prog_58_method_5_code 22 = .ok (.invokestatic 38, 3) := by decide +kernel
theorem d12_25 : decode prog_58_method_5_code 25 = .ok (.istore 6, 2) := by decide +kernel
theorem d12_27 : decode prog_58_method_5_code 27 = .ok (.iload 6, 2) := by decide +kernel
theorem d12_29 : decode prog_58_method_5_code 29 = .ok (.ifCond .eq 6, 3) := by decide +kernel
theorem d12_35 : decode prog_58_method_5_code 35 = .ok (.iinc 5 1, 3) := by decide +kernel
theorem d12_38 : decode prog_58_method_5_code 38 = .ok (.goto (-35), 3) := by decide +kernel
theorem d12_41 : decode prog_58_method_5_code 41 = .ok (.iconst 0, 1) := by decide +kernel
theorem d12_42 : decode prog_58_method_5_code 42 = .ok (.ireturn, 1) := by decide +kernel
theorem d12_32 : decode prog_58_method_5_code 32 = .ok (.iload 6, 2) := by decide +kernel
theorem d12_34 : decode prog_58_method_5_code 34 = .ok (.ireturn, 1) := by decide +kernel
def fCp100 (k0 : Int64) (k1 : Int64) (k2 : Int64) (k3 : Int64) (o0 : Int64) (o1 : Int64) (o2 : Int64) (o3 : Int64) : Int32 := let v25_1 : Int32 := (fCU k0 o0); if v25_1 = (0 : Int32) then ((0 : Int32)) else (v25_1)
theorem ef_rCp100 (m : MethodId) (x0 : Addr) (x1 : Int32) (x2 : Addr) (x3 : Int32) (x4 : Int32) : entryFrame m #[(.ref x0), (.int x1), (.ref x2), (.int x3), (.int x4)] 7 = mkF m 0 #[.val (.ref x0), .val (.int x1), .val (.ref x2), .val (.int x3), .val (.int x4), .unset, .unset] [] := by first | (simp [entryFrame, mkF, argsToLocals, Value.category]; done) | rfl
set_option maxRecDepth 65536 in
set_option maxHeartbeats 40000000 in
theorem rCp100 (l : Launch) (Z : State) (aa : Array Value) (hw : ∀ d ∈ tables_1, d.before aa Z = true) (ws : List Jvm.Cond) (wk : Addr) (wo : Addr) (k0 : Int64) (k1 : Int64) (k2 : Int64) (k3 : Int64) (o0 : Int64) (o1 : Int64) (o2 : Int64) (o3 : Int64) (h0 : Heap) (qd : Av Z h0 wk .long [(.long k0), (.long k1), (.long k2), (.long k3)]) (qe : Av Z h0 wo .long [(.long o0), (.long o1), (.long o2), (.long o3)]) :
    Rm l Z (⟨"com/example/ryazan/ryazan/language/Layout", "compare", "([JI[JII)I"⟩ : MethodName) prog_58_method_5_code 7 (some .int) ws ({ frames := 2, cells := 0, slots := 0, locals := 30 } : Room) #[(.ref wk), (.int (0 : Int32)), (.ref wo), (.int (0 : Int32)), (.int (1 : Int32))] h0 (Pu (.int (fCp100 k0 k1 k2 k3 o0 o1 o2 o3)) h0) := by
 refine Rm.of (plainFor_of_name pn_3) ?_
 intro p e s m below meth cc T X hnm hret hlk
 refine Go.at_ (ef_rCp100 m wk (0 : Int32) wo (0 : Int32) (1 : Int32)) ?_
 refine g_iconst X (0 : Int32) d12_0 (pc' := 1) rfl rfl ?_
 refine g_istore X d12_1 (pc' := 3) (Ls' := #[.val (.ref wk), .val (.int (0 : Int32)), .val (.ref wo), .val (.int (0 : Int32)), .val (.int (1 : Int32)), .val (.int (0 : Int32)), .unset]) rfl rfl ?_
 refine g_iload X d12_3 (pc' := 5) rfl rfl ?_
 refine g_iload X d12_5 (pc' := 7) rfl rfl ?_
 refine g_icN X d12_7 (tlt (show (0 : Int32) < (1 : Int32) from (by decide))).2.1 (pc' := 10) rfl ?_
 refine g_aloadN X d12_10 (pc' := 11) rfl rfl rfl ?_
 refine g_iloadN X d12_11 (pc' := 12) rfl rfl ?_
 refine g_iload X d12_12 (pc' := 14) rfl rfl ?_
 refine g_iadd X d12_14 (pc' := 15) rfl ?_
 refine Go.lit32 (z := (0 : Int32)) (by decide) ?_
 refine g_laload X qd 0 d12_15 (pc' := 16) rfl (by decide) (by decide) rfl ?_
 refine g_aloadN X d12_16 (pc' := 17) rfl rfl rfl ?_
 refine g_iloadN X d12_17 (pc' := 18) rfl rfl ?_
 refine g_iload X d12_18 (pc' := 20) rfl rfl ?_
 refine g_iadd X d12_20 (pc' := 21) rfl ?_
 refine Go.lit32 (z := (0 : Int32)) (by decide) ?_
 refine g_laload X qe 0 d12_21 (pc' := 22) rfl (by decide) (by decide) rfl ?_
 refine g_static X (W := 0) [(.long k0), (.long o0)] [] (tb hw 79 rfl) (tb hw 80 rfl) (tb hw 37 rfl) (tb hw 81 rfl) (rCU l Z aa hw [] k0 o0 _) d12_22 (pc' := 25) rfl (by decide) (by decide) (by decide) rfl rfl rfl (lenOf pd_1 rfl) (Nat.le_refl _) (by decide) (by decide) ?_
 intro v T L X q
 obtain ⟨rfl, X⟩ := pureX X q
 show Go p e below _ (T.setTop (mkF m 25 _ [(.int (fCU k0 o0))]))
 generalize qc : (fCU k0 o0) = qb
 refine g_istore X d12_25 (pc' := 27) (Ls' := #[.val (.ref wk), .val (.int (0 : Int32)), .val (.ref wo), .val (.int (0 : Int32)), .val (.int (1 : Int32)), .val (.int (0 : Int32)), .val (.int qb)]) rfl rfl ?_
 refine g_iload X d12_27 (pc' := 29) rfl rfl ?_
 by_cases qa : qb = (0 : Int32)
 refine g_ifY X d12_29 ((if0 _ _).trans (teq qa).1) (pc' := 35) (by decide) (by decide) ?_
 refine g_iinc X d12_35 (pc' := 38) (q := (1 : Int32)) (Ls' := #[.val (.ref wk), .val (.int (0 : Int32)), .val (.ref wo), .val (.int (0 : Int32)), .val (.int (1 : Int32)), .val (.int (1 : Int32)), .val (.int qb)]) rfl rfl rfl rfl ?_
 refine g_goto X d12_38 (pc' := 3) (by decide) (by decide) ?_
 refine g_iload X d12_3 (pc' := 5) rfl rfl ?_
 refine g_iload X d12_5 (pc' := 7) rfl rfl ?_
 refine g_icY X d12_7 (flt (show ¬ ((1 : Int32) < (1 : Int32)) from (by decide))).2.1 (pc' := 41) (by decide) (by decide) ?_
 refine g_iconst X (0 : Int32) d12_41 (pc' := 42) rfl rfl ?_
 refine g_ireturn X d12_42 hret hlk (by decide) (by decide) ?_
 subst qc
 exact ⟨congrArg (fun z => some (Value.int z)) (Eq.symm (show fCp100 k0 k1 k2 k3 o0 o1 o2 o3 = (0 : Int32) from (by unfold fCp100; dsimp only; rw [if_pos qa]))), rfl, rfl⟩
 refine g_ifN X d12_29 ((if0 _ _).trans (feq qa).1) (pc' := 32) rfl ?_
 refine g_iload X d12_32 (pc' := 34) rfl rfl ?_
 refine g_ireturn X d12_34 hret hlk (by decide) (by decide) ?_
 subst qc
 exact ⟨congrArg (fun z => some (Value.int z)) (Eq.symm (show fCp100 k0 k1 k2 k3 o0 o1 o2 o3 = (fCU k0 o0) from (by unfold fCp100; dsimp only; rw [if_neg qa]))), rfl, rfl⟩
def fCp101 (k0 : Int64) (k1 : Int64) (k2 : Int64) (k3 : Int64) (o0 : Int64) (o1 : Int64) (o2 : Int64) (o3 : Int64) : Int32 := let v25_1 : Int32 := (fCU k0 o1); if v25_1 = (0 : Int32) then ((0 : Int32)) else (v25_1)
theorem ef_rCp101 (m : MethodId) (x0 : Addr) (x1 : Int32) (x2 : Addr) (x3 : Int32) (x4 : Int32) : entryFrame m #[(.ref x0), (.int x1), (.ref x2), (.int x3), (.int x4)] 7 = mkF m 0 #[.val (.ref x0), .val (.int x1), .val (.ref x2), .val (.int x3), .val (.int x4), .unset, .unset] [] := by first | (simp [entryFrame, mkF, argsToLocals, Value.category]; done) | rfl
set_option maxRecDepth 65536 in
set_option maxHeartbeats 40000000 in
theorem rCp101 (l : Launch) (Z : State) (aa : Array Value) (hw : ∀ d ∈ tables_1, d.before aa Z = true) (ws : List Jvm.Cond) (wk : Addr) (wo : Addr) (k0 : Int64) (k1 : Int64) (k2 : Int64) (k3 : Int64) (o0 : Int64) (o1 : Int64) (o2 : Int64) (o3 : Int64) (h0 : Heap) (qd : Av Z h0 wk .long [(.long k0), (.long k1), (.long k2), (.long k3)]) (qe : Av Z h0 wo .long [(.long o0), (.long o1), (.long o2), (.long o3)]) :
    Rm l Z (⟨"com/example/ryazan/ryazan/language/Layout", "compare", "([JI[JII)I"⟩ : MethodName) prog_58_method_5_code 7 (some .int) ws ({ frames := 2, cells := 0, slots := 0, locals := 30 } : Room) #[(.ref wk), (.int (0 : Int32)), (.ref wo), (.int (1 : Int32)), (.int (1 : Int32))] h0 (Pu (.int (fCp101 k0 k1 k2 k3 o0 o1 o2 o3)) h0) := by
 refine Rm.of (plainFor_of_name pn_3) ?_
 intro p e s m below meth cc T X hnm hret hlk
 refine Go.at_ (ef_rCp101 m wk (0 : Int32) wo (1 : Int32) (1 : Int32)) ?_
 refine g_iconst X (0 : Int32) d12_0 (pc' := 1) rfl rfl ?_
 refine g_istore X d12_1 (pc' := 3) (Ls' := #[.val (.ref wk), .val (.int (0 : Int32)), .val (.ref wo), .val (.int (1 : Int32)), .val (.int (1 : Int32)), .val (.int (0 : Int32)), .unset]) rfl rfl ?_
 refine g_iload X d12_3 (pc' := 5) rfl rfl ?_
 refine g_iload X d12_5 (pc' := 7) rfl rfl ?_
 refine g_icN X d12_7 (tlt (show (0 : Int32) < (1 : Int32) from (by decide))).2.1 (pc' := 10) rfl ?_
 refine g_aloadN X d12_10 (pc' := 11) rfl rfl rfl ?_
 refine g_iloadN X d12_11 (pc' := 12) rfl rfl ?_
 refine g_iload X d12_12 (pc' := 14) rfl rfl ?_
 refine g_iadd X d12_14 (pc' := 15) rfl ?_
 refine Go.lit32 (z := (0 : Int32)) (by decide) ?_
 refine g_laload X qd 0 d12_15 (pc' := 16) rfl (by decide) (by decide) rfl ?_
 refine g_aloadN X d12_16 (pc' := 17) rfl rfl rfl ?_
 refine g_iloadN X d12_17 (pc' := 18) rfl rfl ?_
 refine g_iload X d12_18 (pc' := 20) rfl rfl ?_
 refine g_iadd X d12_20 (pc' := 21) rfl ?_
 refine Go.lit32 (z := (1 : Int32)) (by decide) ?_
 refine g_laload X qe 1 d12_21 (pc' := 22) rfl (by decide) (by decide) rfl ?_
 refine g_static X (W := 0) [(.long k0), (.long o1)] [] (tb hw 79 rfl) (tb hw 80 rfl) (tb hw 37 rfl) (tb hw 81 rfl) (rCU l Z aa hw [] k0 o1 _) d12_22 (pc' := 25) rfl (by decide) (by decide) (by decide) rfl rfl rfl (lenOf pd_1 rfl) (Nat.le_refl _) (by decide) (by decide) ?_
 intro v T L X q
 obtain ⟨rfl, X⟩ := pureX X q
 show Go p e below _ (T.setTop (mkF m 25 _ [(.int (fCU k0 o1))]))
 generalize qc : (fCU k0 o1) = qb
 refine g_istore X d12_25 (pc' := 27) (Ls' := #[.val (.ref wk), .val (.int (0 : Int32)), .val (.ref wo), .val (.int (1 : Int32)), .val (.int (1 : Int32)), .val (.int (0 : Int32)), .val (.int qb)]) rfl rfl ?_
 refine g_iload X d12_27 (pc' := 29) rfl rfl ?_
 by_cases qa : qb = (0 : Int32)
 refine g_ifY X d12_29 ((if0 _ _).trans (teq qa).1) (pc' := 35) (by decide) (by decide) ?_
 refine g_iinc X d12_35 (pc' := 38) (q := (1 : Int32)) (Ls' := #[.val (.ref wk), .val (.int (0 : Int32)), .val (.ref wo), .val (.int (1 : Int32)), .val (.int (1 : Int32)), .val (.int (1 : Int32)), .val (.int qb)]) rfl rfl rfl rfl ?_
 refine g_goto X d12_38 (pc' := 3) (by decide) (by decide) ?_
 refine g_iload X d12_3 (pc' := 5) rfl rfl ?_
 refine g_iload X d12_5 (pc' := 7) rfl rfl ?_
 refine g_icY X d12_7 (flt (show ¬ ((1 : Int32) < (1 : Int32)) from (by decide))).2.1 (pc' := 41) (by decide) (by decide) ?_
 refine g_iconst X (0 : Int32) d12_41 (pc' := 42) rfl rfl ?_
 refine g_ireturn X d12_42 hret hlk (by decide) (by decide) ?_
 subst qc
 exact ⟨congrArg (fun z => some (Value.int z)) (Eq.symm (show fCp101 k0 k1 k2 k3 o0 o1 o2 o3 = (0 : Int32) from (by unfold fCp101; dsimp only; rw [if_pos qa]))), rfl, rfl⟩
 refine g_ifN X d12_29 ((if0 _ _).trans (feq qa).1) (pc' := 32) rfl ?_
 refine g_iload X d12_32 (pc' := 34) rfl rfl ?_
 refine g_ireturn X d12_34 hret hlk (by decide) (by decide) ?_
 subst qc
 exact ⟨congrArg (fun z => some (Value.int z)) (Eq.symm (show fCp101 k0 k1 k2 k3 o0 o1 o2 o3 = (fCU k0 o1) from (by unfold fCp101; dsimp only; rw [if_neg qa]))), rfl, rfl⟩
theorem d11_15 : decode method_6_code 15 = .ok (.aload_n 0, 1) := by decide +kernel
theorem d11_16 : decode method_6_code 16 = .ok (.iconst 0, 1) := by decide +kernel
theorem d11_17 : decode method_6_code 17 = .ok (.laload, 1) := by decide +kernel
theorem d11_18 : decode method_6_code 18 = .ok (.lload_n 3, 1) := by decide +kernel
theorem d11_19 : decode method_6_code 19 = .ok (.lcmp, 1) := by decide +kernel
theorem d11_20 : decode method_6_code 20 = .ok (.ifCond .eq 6, 3) := by decide +kernel
theorem d11_23 : decode method_6_code 23 = .ok (.iconst 0, 1) := by decide +kernel
theorem d11_24 : decode method_6_code 24 = .ok (.istore 5, 2) := by decide +kernel
def fUt11 (j3 : Int64) (k0 : Int64) (k1 : Int64) (k2 : Int64) (k3 : Int64) : Bool := if k0 = j3 then (if k2 = j3 then (if k3 = j3 then (true) else (false)) else (if k3 = j3 then (false) else (false))) else (if k2 = j3 then (if k3 = j3 then (false) else (false)) else (if k3 = j3 then (false) else (false)))
theorem ef_rUt11 (m : MethodId) (x0 : Addr) (x1 : Int32) (x2 : Int32) (x3 : Int64) : entryFrame m #[(.ref x0), (.int x1), (.int x2), (.long x3)] 6 = mkF m 0 #[.val (.ref x0), .val (.int x1), .val (.int x2), .val (.long x3), .second, .unset] [] := by first | (simp [entryFrame, mkF, argsToLocals, Value.category]; done) | rfl
set_option maxRecDepth 65536 in
set_option maxHeartbeats 40000000 in
theorem rUt11 (l : Launch) (Z : State) (aa : Array Value) (hw : ∀ d ∈ tables_1, d.before aa Z = true) (ws : List Jvm.Cond) (wk : Addr) (j3 : Int64) (k0 : Int64) (k1 : Int64) (k2 : Int64) (k3 : Int64) (h0 : Heap) (qb : Av Z h0 wk .long [(.long k0), (.long k1), (.long k2), (.long k3)]) :
    Rm l Z (⟨"com/example/ryazan/ryazan/language/LayoutPackPinLaw", "untouched", "([JIIJ)Z"⟩ : MethodName) method_6_code 6 (some .boolean) ws ({ frames := 0, cells := 0, slots := 0, locals := 0 } : Room) #[(.ref wk), (.int (1 : Int32)), (.int (1 : Int32)), (.long j3)] h0 (Pu (.int (b2i (fUt11 j3 k0 k1 k2 k3))) h0) := by
 refine Rm.of (plainFor_of_name pn_0) ?_
 intro p e s m below meth cc T X hnm hret hlk
 refine Go.at_ (ef_rUt11 m wk (1 : Int32) (1 : Int32) j3) ?_
 refine g_iconst X (1 : Int32) d11_0 (pc' := 1) rfl rfl ?_
 refine g_istore X d11_1 (pc' := 3) (Ls' := #[.val (.ref wk), .val (.int (1 : Int32)), .val (.int (1 : Int32)), .val (.long j3), .second, .val (.int (1 : Int32))]) rfl rfl ?_
 refine g_iconst X (0 : Int32) d11_3 (pc' := 4) rfl rfl ?_
 refine g_iloadN X d11_4 (pc' := 5) rfl rfl ?_
 refine g_icY X d11_5 (tlt (show (0 : Int32) < (1 : Int32) from (by decide))).1 (pc' := 15) (by decide) (by decide) ?_
 refine g_aloadN X d11_15 (pc' := 16) rfl rfl rfl ?_
 refine g_iconst X (0 : Int32) d11_16 (pc' := 17) rfl rfl ?_
 refine g_laload X qb 0 d11_17 (pc' := 18) rfl (by decide) (by decide) rfl ?_
 refine g_lloadN X d11_18 (pc' := 19) rfl rfl ?_
 refine g_lcmp X d11_19 (pc' := 20) rfl ?_
 by_cases qa : k0 = j3
 refine g_ifY X d11_20 ((if0 _ _).trans (teq ((lw_eq k0 j3).mpr qa)).1) (pc' := 26) (by decide) (by decide) ?_
 refine g_iconst X (1 : Int32) d11_26 (pc' := 27) rfl rfl ?_
 refine g_iloadN X d11_27 (pc' := 28) rfl rfl ?_
 refine g_icN X d11_28 (flt (show ¬ ((1 : Int32) < (1 : Int32)) from (by decide))).1 (pc' := 31) rfl ?_
 refine g_iconst X (1 : Int32) d11_31 (pc' := 32) rfl rfl ?_
 refine g_iloadN X d11_32 (pc' := 33) rfl rfl ?_
 refine g_iloadN X d11_33 (pc' := 34) rfl rfl ?_
 refine g_iadd X d11_34 (pc' := 35) rfl ?_
 refine Go.lit32 (z := (2 : Int32)) (by decide) ?_
 refine g_icY X d11_35 (tlt (show (1 : Int32) < (2 : Int32) from (by decide))).1 (pc' := 49) (by decide) (by decide) ?_
 refine g_iconst X (2 : Int32) d11_49 (pc' := 50) rfl rfl ?_
 refine g_iloadN X d11_50 (pc' := 51) rfl rfl ?_
 refine g_icN X d11_51 (flt (show ¬ ((2 : Int32) < (1 : Int32)) from (by decide))).1 (pc' := 54) rfl ?_
 refine g_iconst X (2 : Int32) d11_54 (pc' := 55) rfl rfl ?_
 refine g_iloadN X d11_55 (pc' := 56) rfl rfl ?_
 refine g_iloadN X d11_56 (pc' := 57) rfl rfl ?_
 refine g_iadd X d11_57 (pc' := 58) rfl ?_
 refine Go.lit32 (z := (2 : Int32)) (by decide) ?_
 refine g_icN X d11_58 (flt (show ¬ ((2 : Int32) < (2 : Int32)) from (by decide))).1 (pc' := 61) rfl ?_
 refine g_aloadN X d11_61 (pc' := 62) rfl rfl rfl ?_
 refine g_iconst X (2 : Int32) d11_62 (pc' := 63) rfl rfl ?_
 refine g_laload X qb 2 d11_63 (pc' := 64) rfl (by decide) (by decide) rfl ?_
 refine g_lloadN X d11_64 (pc' := 65) rfl rfl ?_
 refine g_lcmp X d11_65 (pc' := 66) rfl ?_
 by_cases qc : k2 = j3
 refine g_ifY X d11_66 ((if0 _ _).trans (teq ((lw_eq k2 j3).mpr qc)).1) (pc' := 72) (by decide) (by decide) ?_
 refine g_iconst X (3 : Int32) d11_72 (pc' := 73) rfl rfl ?_
 refine g_iloadN X d11_73 (pc' := 74) rfl rfl ?_
 refine g_icN X d11_74 (flt (show ¬ ((3 : Int32) < (1 : Int32)) from (by decide))).1 (pc' := 77) rfl ?_
 refine g_iconst X (3 : Int32) d11_77 (pc' := 78) rfl rfl ?_
 refine g_iloadN X d11_78 (pc' := 79) rfl rfl ?_
 refine g_iloadN X d11_79 (pc' := 80) rfl rfl ?_
 refine g_iadd X d11_80 (pc' := 81) rfl ?_
 refine Go.lit32 (z := (2 : Int32)) (by decide) ?_
 refine g_icN X d11_81 (flt (show ¬ ((3 : Int32) < (2 : Int32)) from (by decide))).1 (pc' := 84) rfl ?_
 refine g_aloadN X d11_84 (pc' := 85) rfl rfl rfl ?_
 refine g_iconst X (3 : Int32) d11_85 (pc' := 86) rfl rfl ?_
 refine g_laload X qb 3 d11_86 (pc' := 87) rfl (by decide) (by decide) rfl ?_
 refine g_lloadN X d11_87 (pc' := 88) rfl rfl ?_
 refine g_lcmp X d11_88 (pc' := 89) rfl ?_
 by_cases qe : k3 = j3
 refine g_ifY X d11_89 ((if0 _ _).trans (teq ((lw_eq k3 j3).mpr qe)).1) (pc' := 95) (by decide) (by decide) ?_
 refine g_iload X d11_95 (pc' := 97) rfl rfl ?_
 refine g_ireturnN X (t := .boolean) (by simp) d11_97 hret hlk (by decide) (by decide) ?_
 exact ⟨congrArg (fun z => some (Value.int z)) (Eq.trans narT (congrArg b2i (Eq.symm (show fUt11 j3 k0 k1 k2 k3 = _ from (Eq.trans (if_pos qa) (Eq.trans (if_pos qc) (Eq.trans (if_pos qe) rfl))))))), rfl, rfl⟩
 refine g_ifN X d11_89 ((if0 _ _).trans (feq (fun q => qe ((lw_eq k3 j3).mp q))).1) (pc' := 92) rfl ?_
 refine g_iconst X (0 : Int32) d11_92 (pc' := 93) rfl rfl ?_
 refine g_istore X d11_93 (pc' := 95) (Ls' := #[.val (.ref wk), .val (.int (1 : Int32)), .val (.int (1 : Int32)), .val (.long j3), .second, .val (.int (0 : Int32))]) rfl rfl ?_
 refine g_iload X d11_95 (pc' := 97) rfl rfl ?_
 refine g_ireturnN X (t := .boolean) (by simp) d11_97 hret hlk (by decide) (by decide) ?_
 exact ⟨congrArg (fun z => some (Value.int z)) (Eq.trans narF (congrArg b2i (Eq.symm (show fUt11 j3 k0 k1 k2 k3 = _ from (Eq.trans (if_pos qa) (Eq.trans (if_pos qc) (Eq.trans (if_neg qe) rfl))))))), rfl, rfl⟩
 refine g_ifN X d11_66 ((if0 _ _).trans (feq (fun q => qc ((lw_eq k2 j3).mp q))).1) (pc' := 69) rfl ?_
 refine g_iconst X (0 : Int32) d11_69 (pc' := 70) rfl rfl ?_
 refine g_istore X d11_70 (pc' := 72) (Ls' := #[.val (.ref wk), .val (.int (1 : Int32)), .val (.int (1 : Int32)), .val (.long j3), .second, .val (.int (0 : Int32))]) rfl rfl ?_
 refine g_iconst X (3 : Int32) d11_72 (pc' := 73) rfl rfl ?_
 refine g_iloadN X d11_73 (pc' := 74) rfl rfl ?_
 refine g_icN X d11_74 (flt (show ¬ ((3 : Int32) < (1 : Int32)) from (by decide))).1 (pc' := 77) rfl ?_
 refine g_iconst X (3 : Int32) d11_77 (pc' := 78) rfl rfl ?_
 refine g_iloadN X d11_78 (pc' := 79) rfl rfl ?_
 refine g_iloadN X d11_79 (pc' := 80) rfl rfl ?_
 refine g_iadd X d11_80 (pc' := 81) rfl ?_
 refine Go.lit32 (z := (2 : Int32)) (by decide) ?_
 refine g_icN X d11_81 (flt (show ¬ ((3 : Int32) < (2 : Int32)) from (by decide))).1 (pc' := 84) rfl ?_
 refine g_aloadN X d11_84 (pc' := 85) rfl rfl rfl ?_
 refine g_iconst X (3 : Int32) d11_85 (pc' := 86) rfl rfl ?_
 refine g_laload X qb 3 d11_86 (pc' := 87) rfl (by decide) (by decide) rfl ?_
 refine g_lloadN X d11_87 (pc' := 88) rfl rfl ?_
 refine g_lcmp X d11_88 (pc' := 89) rfl ?_
 by_cases qf : k3 = j3
 refine g_ifY X d11_89 ((if0 _ _).trans (teq ((lw_eq k3 j3).mpr qf)).1) (pc' := 95) (by decide) (by decide) ?_
 refine g_iload X d11_95 (pc' := 97) rfl rfl ?_
 refine g_ireturnN X (t := .boolean) (by simp) d11_97 hret hlk (by decide) (by decide) ?_
 exact ⟨congrArg (fun z => some (Value.int z)) (Eq.trans narF (congrArg b2i (Eq.symm (show fUt11 j3 k0 k1 k2 k3 = _ from (Eq.trans (if_pos qa) (Eq.trans (if_neg qc) (Eq.trans (if_pos qf) rfl))))))), rfl, rfl⟩
 refine g_ifN X d11_89 ((if0 _ _).trans (feq (fun q => qf ((lw_eq k3 j3).mp q))).1) (pc' := 92) rfl ?_
 refine g_iconst X (0 : Int32) d11_92 (pc' := 93) rfl rfl ?_
 refine g_istore X d11_93 (pc' := 95) (Ls' := #[.val (.ref wk), .val (.int (1 : Int32)), .val (.int (1 : Int32)), .val (.long j3), .second, .val (.int (0 : Int32))]) rfl rfl ?_
 refine g_iload X d11_95 (pc' := 97) rfl rfl ?_
 refine g_ireturnN X (t := .boolean) (by simp) d11_97 hret hlk (by decide) (by decide) ?_
 exact ⟨congrArg (fun z => some (Value.int z)) (Eq.trans narF (congrArg b2i (Eq.symm (show fUt11 j3 k0 k1 k2 k3 = _ from (Eq.trans (if_pos qa) (Eq.trans (if_neg qc) (Eq.trans (if_neg qf) rfl))))))), rfl, rfl⟩
 refine g_ifN X d11_20 ((if0 _ _).trans (feq (fun q => qa ((lw_eq k0 j3).mp q))).1) (pc' := 23) rfl ?_
 refine g_iconst X (0 : Int32) d11_23 (pc' := 24) rfl rfl ?_
 refine g_istore X d11_24 (pc' := 26) (Ls' := #[.val (.ref wk), .val (.int (1 : Int32)), .val (.int (1 : Int32)), .val (.long j3), .second, .val (.int (0 : Int32))]) rfl rfl ?_
 refine g_iconst X (1 : Int32) d11_26 (pc' := 27) rfl rfl ?_
 refine g_iloadN X d11_27 (pc' := 28) rfl rfl ?_
 refine g_icN X d11_28 (flt (show ¬ ((1 : Int32) < (1 : Int32)) from (by decide))).1 (pc' := 31) rfl ?_
 refine g_iconst X (1 : Int32) d11_31 (pc' := 32) rfl rfl ?_
 refine g_iloadN X d11_32 (pc' := 33) rfl rfl ?_
 refine g_iloadN X d11_33 (pc' := 34) rfl rfl ?_
 refine g_iadd X d11_34 (pc' := 35) rfl ?_
 refine Go.lit32 (z := (2 : Int32)) (by decide) ?_
 refine g_icY X d11_35 (tlt (show (1 : Int32) < (2 : Int32) from (by decide))).1 (pc' := 49) (by decide) (by decide) ?_
 refine g_iconst X (2 : Int32) d11_49 (pc' := 50) rfl rfl ?_
 refine g_iloadN X d11_50 (pc' := 51) rfl rfl ?_
 refine g_icN X d11_51 (flt (show ¬ ((2 : Int32) < (1 : Int32)) from (by decide))).1 (pc' := 54) rfl ?_
 refine g_iconst X (2 : Int32) d11_54 (pc' := 55) rfl rfl ?_
 refine g_iloadN X d11_55 (pc' := 56) rfl rfl ?_
 refine g_iloadN X d11_56 (pc' := 57) rfl rfl ?_
 refine g_iadd X d11_57 (pc' := 58) rfl ?_
 refine Go.lit32 (z := (2 : Int32)) (by decide) ?_
 refine g_icN X d11_58 (flt (show ¬ ((2 : Int32) < (2 : Int32)) from (by decide))).1 (pc' := 61) rfl ?_
 refine g_aloadN X d11_61 (pc' := 62) rfl rfl rfl ?_
 refine g_iconst X (2 : Int32) d11_62 (pc' := 63) rfl rfl ?_
 refine g_laload X qb 2 d11_63 (pc' := 64) rfl (by decide) (by decide) rfl ?_
 refine g_lloadN X d11_64 (pc' := 65) rfl rfl ?_
 refine g_lcmp X d11_65 (pc' := 66) rfl ?_
 by_cases qd : k2 = j3
 refine g_ifY X d11_66 ((if0 _ _).trans (teq ((lw_eq k2 j3).mpr qd)).1) (pc' := 72) (by decide) (by decide) ?_
 refine g_iconst X (3 : Int32) d11_72 (pc' := 73) rfl rfl ?_
 refine g_iloadN X d11_73 (pc' := 74) rfl rfl ?_
 refine g_icN X d11_74 (flt (show ¬ ((3 : Int32) < (1 : Int32)) from (by decide))).1 (pc' := 77) rfl ?_
 refine g_iconst X (3 : Int32) d11_77 (pc' := 78) rfl rfl ?_
 refine g_iloadN X d11_78 (pc' := 79) rfl rfl ?_
 refine g_iloadN X d11_79 (pc' := 80) rfl rfl ?_
 refine g_iadd X d11_80 (pc' := 81) rfl ?_
 refine Go.lit32 (z := (2 : Int32)) (by decide) ?_
 refine g_icN X d11_81 (flt (show ¬ ((3 : Int32) < (2 : Int32)) from (by decide))).1 (pc' := 84) rfl ?_
 refine g_aloadN X d11_84 (pc' := 85) rfl rfl rfl ?_
 refine g_iconst X (3 : Int32) d11_85 (pc' := 86) rfl rfl ?_
 refine g_laload X qb 3 d11_86 (pc' := 87) rfl (by decide) (by decide) rfl ?_
 refine g_lloadN X d11_87 (pc' := 88) rfl rfl ?_
 refine g_lcmp X d11_88 (pc' := 89) rfl ?_
 by_cases qg : k3 = j3
 refine g_ifY X d11_89 ((if0 _ _).trans (teq ((lw_eq k3 j3).mpr qg)).1) (pc' := 95) (by decide) (by decide) ?_
 refine g_iload X d11_95 (pc' := 97) rfl rfl ?_
 refine g_ireturnN X (t := .boolean) (by simp) d11_97 hret hlk (by decide) (by decide) ?_
 exact ⟨congrArg (fun z => some (Value.int z)) (Eq.trans narF (congrArg b2i (Eq.symm (show fUt11 j3 k0 k1 k2 k3 = _ from (Eq.trans (if_neg qa) (Eq.trans (if_pos qd) (Eq.trans (if_pos qg) rfl))))))), rfl, rfl⟩
 refine g_ifN X d11_89 ((if0 _ _).trans (feq (fun q => qg ((lw_eq k3 j3).mp q))).1) (pc' := 92) rfl ?_
 refine g_iconst X (0 : Int32) d11_92 (pc' := 93) rfl rfl ?_
 refine g_istore X d11_93 (pc' := 95) (Ls' := #[.val (.ref wk), .val (.int (1 : Int32)), .val (.int (1 : Int32)), .val (.long j3), .second, .val (.int (0 : Int32))]) rfl rfl ?_
 refine g_iload X d11_95 (pc' := 97) rfl rfl ?_
 refine g_ireturnN X (t := .boolean) (by simp) d11_97 hret hlk (by decide) (by decide) ?_
 exact ⟨congrArg (fun z => some (Value.int z)) (Eq.trans narF (congrArg b2i (Eq.symm (show fUt11 j3 k0 k1 k2 k3 = _ from (Eq.trans (if_neg qa) (Eq.trans (if_pos qd) (Eq.trans (if_neg qg) rfl))))))), rfl, rfl⟩
 refine g_ifN X d11_66 ((if0 _ _).trans (feq (fun q => qd ((lw_eq k2 j3).mp q))).1) (pc' := 69) rfl ?_
 refine g_iconst X (0 : Int32) d11_69 (pc' := 70) rfl rfl ?_
 refine g_istore X d11_70 (pc' := 72) (Ls' := #[.val (.ref wk), .val (.int (1 : Int32)), .val (.int (1 : Int32)), .val (.long j3), .second, .val (.int (0 : Int32))]) rfl rfl ?_
 refine g_iconst X (3 : Int32) d11_72 (pc' := 73) rfl rfl ?_
 refine g_iloadN X d11_73 (pc' := 74) rfl rfl ?_
 refine g_icN X d11_74 (flt (show ¬ ((3 : Int32) < (1 : Int32)) from (by decide))).1 (pc' := 77) rfl ?_
 refine g_iconst X (3 : Int32) d11_77 (pc' := 78) rfl rfl ?_
 refine g_iloadN X d11_78 (pc' := 79) rfl rfl ?_
 refine g_iloadN X d11_79 (pc' := 80) rfl rfl ?_
 refine g_iadd X d11_80 (pc' := 81) rfl ?_
 refine Go.lit32 (z := (2 : Int32)) (by decide) ?_
 refine g_icN X d11_81 (flt (show ¬ ((3 : Int32) < (2 : Int32)) from (by decide))).1 (pc' := 84) rfl ?_
 refine g_aloadN X d11_84 (pc' := 85) rfl rfl rfl ?_
 refine g_iconst X (3 : Int32) d11_85 (pc' := 86) rfl rfl ?_
 refine g_laload X qb 3 d11_86 (pc' := 87) rfl (by decide) (by decide) rfl ?_
 refine g_lloadN X d11_87 (pc' := 88) rfl rfl ?_
 refine g_lcmp X d11_88 (pc' := 89) rfl ?_
 by_cases qh : k3 = j3
 refine g_ifY X d11_89 ((if0 _ _).trans (teq ((lw_eq k3 j3).mpr qh)).1) (pc' := 95) (by decide) (by decide) ?_
 refine g_iload X d11_95 (pc' := 97) rfl rfl ?_
 refine g_ireturnN X (t := .boolean) (by simp) d11_97 hret hlk (by decide) (by decide) ?_
 exact ⟨congrArg (fun z => some (Value.int z)) (Eq.trans narF (congrArg b2i (Eq.symm (show fUt11 j3 k0 k1 k2 k3 = _ from (Eq.trans (if_neg qa) (Eq.trans (if_neg qd) (Eq.trans (if_pos qh) rfl))))))), rfl, rfl⟩
 refine g_ifN X d11_89 ((if0 _ _).trans (feq (fun q => qh ((lw_eq k3 j3).mp q))).1) (pc' := 92) rfl ?_
 refine g_iconst X (0 : Int32) d11_92 (pc' := 93) rfl rfl ?_
 refine g_istore X d11_93 (pc' := 95) (Ls' := #[.val (.ref wk), .val (.int (1 : Int32)), .val (.int (1 : Int32)), .val (.long j3), .second, .val (.int (0 : Int32))]) rfl rfl ?_
 refine g_iload X d11_95 (pc' := 97) rfl rfl ?_
 refine g_ireturnN X (t := .boolean) (by simp) d11_97 hret hlk (by decide) (by decide) ?_
 exact ⟨congrArg (fun z => some (Value.int z)) (Eq.trans narF (congrArg b2i (Eq.symm (show fUt11 j3 k0 k1 k2 k3 = _ from (Eq.trans (if_neg qa) (Eq.trans (if_neg qd) (Eq.trans (if_neg qh) rfl))))))), rfl, rfl⟩
def fCp110 (k0 : Int64) (k1 : Int64) (k2 : Int64) (k3 : Int64) (o0 : Int64) (o1 : Int64) (o2 : Int64) (o3 : Int64) : Int32 := let v25_1 : Int32 := (fCU k1 o0); if v25_1 = (0 : Int32) then ((0 : Int32)) else (v25_1)
theorem ef_rCp110 (m : MethodId) (x0 : Addr) (x1 : Int32) (x2 : Addr) (x3 : Int32) (x4 : Int32) : entryFrame m #[(.ref x0), (.int x1), (.ref x2), (.int x3), (.int x4)] 7 = mkF m 0 #[.val (.ref x0), .val (.int x1), .val (.ref x2), .val (.int x3), .val (.int x4), .unset, .unset] [] := by first | (simp [entryFrame, mkF, argsToLocals, Value.category]; done) | rfl
set_option maxRecDepth 65536 in
set_option maxHeartbeats 40000000 in
theorem rCp110 (l : Launch) (Z : State) (aa : Array Value) (hw : ∀ d ∈ tables_1, d.before aa Z = true) (ws : List Jvm.Cond) (wk : Addr) (wo : Addr) (k0 : Int64) (k1 : Int64) (k2 : Int64) (k3 : Int64) (o0 : Int64) (o1 : Int64) (o2 : Int64) (o3 : Int64) (h0 : Heap) (qd : Av Z h0 wk .long [(.long k0), (.long k1), (.long k2), (.long k3)]) (qe : Av Z h0 wo .long [(.long o0), (.long o1), (.long o2), (.long o3)]) :
    Rm l Z (⟨"com/example/ryazan/ryazan/language/Layout", "compare", "([JI[JII)I"⟩ : MethodName) prog_58_method_5_code 7 (some .int) ws ({ frames := 2, cells := 0, slots := 0, locals := 30 } : Room) #[(.ref wk), (.int (1 : Int32)), (.ref wo), (.int (0 : Int32)), (.int (1 : Int32))] h0 (Pu (.int (fCp110 k0 k1 k2 k3 o0 o1 o2 o3)) h0) := by
 refine Rm.of (plainFor_of_name pn_3) ?_
 intro p e s m below meth cc T X hnm hret hlk
 refine Go.at_ (ef_rCp110 m wk (1 : Int32) wo (0 : Int32) (1 : Int32)) ?_
 refine g_iconst X (0 : Int32) d12_0 (pc' := 1) rfl rfl ?_
 refine g_istore X d12_1 (pc' := 3) (Ls' := #[.val (.ref wk), .val (.int (1 : Int32)), .val (.ref wo), .val (.int (0 : Int32)), .val (.int (1 : Int32)), .val (.int (0 : Int32)), .unset]) rfl rfl ?_
 refine g_iload X d12_3 (pc' := 5) rfl rfl ?_
 refine g_iload X d12_5 (pc' := 7) rfl rfl ?_
 refine g_icN X d12_7 (tlt (show (0 : Int32) < (1 : Int32) from (by decide))).2.1 (pc' := 10) rfl ?_
 refine g_aloadN X d12_10 (pc' := 11) rfl rfl rfl ?_
 refine g_iloadN X d12_11 (pc' := 12) rfl rfl ?_
 refine g_iload X d12_12 (pc' := 14) rfl rfl ?_
 refine g_iadd X d12_14 (pc' := 15) rfl ?_
 refine Go.lit32 (z := (1 : Int32)) (by decide) ?_
 refine g_laload X qd 1 d12_15 (pc' := 16) rfl (by decide) (by decide) rfl ?_
 refine g_aloadN X d12_16 (pc' := 17) rfl rfl rfl ?_
 refine g_iloadN X d12_17 (pc' := 18) rfl rfl ?_
 refine g_iload X d12_18 (pc' := 20) rfl rfl ?_
 refine g_iadd X d12_20 (pc' := 21) rfl ?_
 refine Go.lit32 (z := (0 : Int32)) (by decide) ?_
 refine g_laload X qe 0 d12_21 (pc' := 22) rfl (by decide) (by decide) rfl ?_
 refine g_static X (W := 0) [(.long k1), (.long o0)] [] (tb hw 79 rfl) (tb hw 80 rfl) (tb hw 37 rfl) (tb hw 81 rfl) (rCU l Z aa hw [] k1 o0 _) d12_22 (pc' := 25) rfl (by decide) (by decide) (by decide) rfl rfl rfl (lenOf pd_1 rfl) (Nat.le_refl _) (by decide) (by decide) ?_
 intro v T L X q
 obtain ⟨rfl, X⟩ := pureX X q
 show Go p e below _ (T.setTop (mkF m 25 _ [(.int (fCU k1 o0))]))
 generalize qc : (fCU k1 o0) = qb
 refine g_istore X d12_25 (pc' := 27) (Ls' := #[.val (.ref wk), .val (.int (1 : Int32)), .val (.ref wo), .val (.int (0 : Int32)), .val (.int (1 : Int32)), .val (.int (0 : Int32)), .val (.int qb)]) rfl rfl ?_
 refine g_iload X d12_27 (pc' := 29) rfl rfl ?_
 by_cases qa : qb = (0 : Int32)
 refine g_ifY X d12_29 ((if0 _ _).trans (teq qa).1) (pc' := 35) (by decide) (by decide) ?_
 refine g_iinc X d12_35 (pc' := 38) (q := (1 : Int32)) (Ls' := #[.val (.ref wk), .val (.int (1 : Int32)), .val (.ref wo), .val (.int (0 : Int32)), .val (.int (1 : Int32)), .val (.int (1 : Int32)), .val (.int qb)]) rfl rfl rfl rfl ?_
 refine g_goto X d12_38 (pc' := 3) (by decide) (by decide) ?_
 refine g_iload X d12_3 (pc' := 5) rfl rfl ?_
 refine g_iload X d12_5 (pc' := 7) rfl rfl ?_
 refine g_icY X d12_7 (flt (show ¬ ((1 : Int32) < (1 : Int32)) from (by decide))).2.1 (pc' := 41) (by decide) (by decide) ?_
 refine g_iconst X (0 : Int32) d12_41 (pc' := 42) rfl rfl ?_
 refine g_ireturn X d12_42 hret hlk (by decide) (by decide) ?_
 subst qc
 exact ⟨congrArg (fun z => some (Value.int z)) (Eq.symm (show fCp110 k0 k1 k2 k3 o0 o1 o2 o3 = (0 : Int32) from (by unfold fCp110; dsimp only; rw [if_pos qa]))), rfl, rfl⟩
 refine g_ifN X d12_29 ((if0 _ _).trans (feq qa).1) (pc' := 32) rfl ?_
 refine g_iload X d12_32 (pc' := 34) rfl rfl ?_
 refine g_ireturn X d12_34 hret hlk (by decide) (by decide) ?_
 subst qc
 exact ⟨congrArg (fun z => some (Value.int z)) (Eq.symm (show fCp110 k0 k1 k2 k3 o0 o1 o2 o3 = (fCU k1 o0) from (by unfold fCp110; dsimp only; rw [if_neg qa]))), rfl, rfl⟩
def fCp111 (k0 : Int64) (k1 : Int64) (k2 : Int64) (k3 : Int64) (o0 : Int64) (o1 : Int64) (o2 : Int64) (o3 : Int64) : Int32 := let v25_1 : Int32 := (fCU k1 o1); if v25_1 = (0 : Int32) then ((0 : Int32)) else (v25_1)
theorem ef_rCp111 (m : MethodId) (x0 : Addr) (x1 : Int32) (x2 : Addr) (x3 : Int32) (x4 : Int32) : entryFrame m #[(.ref x0), (.int x1), (.ref x2), (.int x3), (.int x4)] 7 = mkF m 0 #[.val (.ref x0), .val (.int x1), .val (.ref x2), .val (.int x3), .val (.int x4), .unset, .unset] [] := by first | (simp [entryFrame, mkF, argsToLocals, Value.category]; done) | rfl
set_option maxRecDepth 65536 in
set_option maxHeartbeats 40000000 in
theorem rCp111 (l : Launch) (Z : State) (aa : Array Value) (hw : ∀ d ∈ tables_1, d.before aa Z = true) (ws : List Jvm.Cond) (wk : Addr) (wo : Addr) (k0 : Int64) (k1 : Int64) (k2 : Int64) (k3 : Int64) (o0 : Int64) (o1 : Int64) (o2 : Int64) (o3 : Int64) (h0 : Heap) (qd : Av Z h0 wk .long [(.long k0), (.long k1), (.long k2), (.long k3)]) (qe : Av Z h0 wo .long [(.long o0), (.long o1), (.long o2), (.long o3)]) :
    Rm l Z (⟨"com/example/ryazan/ryazan/language/Layout", "compare", "([JI[JII)I"⟩ : MethodName) prog_58_method_5_code 7 (some .int) ws ({ frames := 2, cells := 0, slots := 0, locals := 30 } : Room) #[(.ref wk), (.int (1 : Int32)), (.ref wo), (.int (1 : Int32)), (.int (1 : Int32))] h0 (Pu (.int (fCp111 k0 k1 k2 k3 o0 o1 o2 o3)) h0) := by
 refine Rm.of (plainFor_of_name pn_3) ?_
 intro p e s m below meth cc T X hnm hret hlk
 refine Go.at_ (ef_rCp111 m wk (1 : Int32) wo (1 : Int32) (1 : Int32)) ?_
 refine g_iconst X (0 : Int32) d12_0 (pc' := 1) rfl rfl ?_
 refine g_istore X d12_1 (pc' := 3) (Ls' := #[.val (.ref wk), .val (.int (1 : Int32)), .val (.ref wo), .val (.int (1 : Int32)), .val (.int (1 : Int32)), .val (.int (0 : Int32)), .unset]) rfl rfl ?_
 refine g_iload X d12_3 (pc' := 5) rfl rfl ?_
 refine g_iload X d12_5 (pc' := 7) rfl rfl ?_
 refine g_icN X d12_7 (tlt (show (0 : Int32) < (1 : Int32) from (by decide))).2.1 (pc' := 10) rfl ?_
 refine g_aloadN X d12_10 (pc' := 11) rfl rfl rfl ?_
 refine g_iloadN X d12_11 (pc' := 12) rfl rfl ?_
 refine g_iload X d12_12 (pc' := 14) rfl rfl ?_
 refine g_iadd X d12_14 (pc' := 15) rfl ?_
 refine Go.lit32 (z := (1 : Int32)) (by decide) ?_
 refine g_laload X qd 1 d12_15 (pc' := 16) rfl (by decide) (by decide) rfl ?_
 refine g_aloadN X d12_16 (pc' := 17) rfl rfl rfl ?_
 refine g_iloadN X d12_17 (pc' := 18) rfl rfl ?_
 refine g_iload X d12_18 (pc' := 20) rfl rfl ?_
 refine g_iadd X d12_20 (pc' := 21) rfl ?_
 refine Go.lit32 (z := (1 : Int32)) (by decide) ?_
 refine g_laload X qe 1 d12_21 (pc' := 22) rfl (by decide) (by decide) rfl ?_
 refine g_static X (W := 0) [(.long k1), (.long o1)] [] (tb hw 79 rfl) (tb hw 80 rfl) (tb hw 37 rfl) (tb hw 81 rfl) (rCU l Z aa hw [] k1 o1 _) d12_22 (pc' := 25) rfl (by decide) (by decide) (by decide) rfl rfl rfl (lenOf pd_1 rfl) (Nat.le_refl _) (by decide) (by decide) ?_
 intro v T L X q
 obtain ⟨rfl, X⟩ := pureX X q
 show Go p e below _ (T.setTop (mkF m 25 _ [(.int (fCU k1 o1))]))
 generalize qc : (fCU k1 o1) = qb
 refine g_istore X d12_25 (pc' := 27) (Ls' := #[.val (.ref wk), .val (.int (1 : Int32)), .val (.ref wo), .val (.int (1 : Int32)), .val (.int (1 : Int32)), .val (.int (0 : Int32)), .val (.int qb)]) rfl rfl ?_
 refine g_iload X d12_27 (pc' := 29) rfl rfl ?_
 by_cases qa : qb = (0 : Int32)
 refine g_ifY X d12_29 ((if0 _ _).trans (teq qa).1) (pc' := 35) (by decide) (by decide) ?_
 refine g_iinc X d12_35 (pc' := 38) (q := (1 : Int32)) (Ls' := #[.val (.ref wk), .val (.int (1 : Int32)), .val (.ref wo), .val (.int (1 : Int32)), .val (.int (1 : Int32)), .val (.int (1 : Int32)), .val (.int qb)]) rfl rfl rfl rfl ?_
 refine g_goto X d12_38 (pc' := 3) (by decide) (by decide) ?_
 refine g_iload X d12_3 (pc' := 5) rfl rfl ?_
 refine g_iload X d12_5 (pc' := 7) rfl rfl ?_
 refine g_icY X d12_7 (flt (show ¬ ((1 : Int32) < (1 : Int32)) from (by decide))).2.1 (pc' := 41) (by decide) (by decide) ?_
 refine g_iconst X (0 : Int32) d12_41 (pc' := 42) rfl rfl ?_
 refine g_ireturn X d12_42 hret hlk (by decide) (by decide) ?_
 subst qc
 exact ⟨congrArg (fun z => some (Value.int z)) (Eq.symm (show fCp111 k0 k1 k2 k3 o0 o1 o2 o3 = (0 : Int32) from (by unfold fCp111; dsimp only; rw [if_pos qa]))), rfl, rfl⟩
 refine g_ifN X d12_29 ((if0 _ _).trans (feq qa).1) (pc' := 32) rfl ?_
 refine g_iload X d12_32 (pc' := 34) rfl rfl ?_
 refine g_ireturn X d12_34 hret hlk (by decide) (by decide) ?_
 subst qc
 exact ⟨congrArg (fun z => some (Value.int z)) (Eq.symm (show fCp111 k0 k1 k2 k3 o0 o1 o2 o3 = (fCU k1 o1) from (by unfold fCp111; dsimp only; rw [if_neg qa]))), rfl, rfl⟩
def fUt20 (j3 : Int64) (k0 : Int64) (k1 : Int64) (k2 : Int64) (k3 : Int64) : Bool := if k2 = j3 then (if k3 = j3 then (true) else (false)) else (if k3 = j3 then (false) else (false))
theorem ef_rUt20 (m : MethodId) (x0 : Addr) (x1 : Int32) (x2 : Int32) (x3 : Int64) : entryFrame m #[(.ref x0), (.int x1), (.int x2), (.long x3)] 6 = mkF m 0 #[.val (.ref x0), .val (.int x1), .val (.int x2), .val (.long x3), .second, .unset] [] := by first | (simp [entryFrame, mkF, argsToLocals, Value.category]; done) | rfl
set_option maxRecDepth 65536 in
set_option maxHeartbeats 40000000 in
theorem rUt20 (l : Launch) (Z : State) (aa : Array Value) (hw : ∀ d ∈ tables_1, d.before aa Z = true) (ws : List Jvm.Cond) (wk : Addr) (j3 : Int64) (k0 : Int64) (k1 : Int64) (k2 : Int64) (k3 : Int64) (h0 : Heap) (qd : Av Z h0 wk .long [(.long k0), (.long k1), (.long k2), (.long k3)]) :
    Rm l Z (⟨"com/example/ryazan/ryazan/language/LayoutPackPinLaw", "untouched", "([JIIJ)Z"⟩ : MethodName) method_6_code 6 (some .boolean) ws ({ frames := 0, cells := 0, slots := 0, locals := 0 } : Room) #[(.ref wk), (.int (0 : Int32)), (.int (2 : Int32)), (.long j3)] h0 (Pu (.int (b2i (fUt20 j3 k0 k1 k2 k3))) h0) := by
 refine Rm.of (plainFor_of_name pn_0) ?_
 intro p e s m below meth cc T X hnm hret hlk
 refine Go.at_ (ef_rUt20 m wk (0 : Int32) (2 : Int32) j3) ?_
 refine g_iconst X (1 : Int32) d11_0 (pc' := 1) rfl rfl ?_
 refine g_istore X d11_1 (pc' := 3) (Ls' := #[.val (.ref wk), .val (.int (0 : Int32)), .val (.int (2 : Int32)), .val (.long j3), .second, .val (.int (1 : Int32))]) rfl rfl ?_
 refine g_iconst X (0 : Int32) d11_3 (pc' := 4) rfl rfl ?_
 refine g_iloadN X d11_4 (pc' := 5) rfl rfl ?_
 refine g_icN X d11_5 (flt (show ¬ ((0 : Int32) < (0 : Int32)) from (by decide))).1 (pc' := 8) rfl ?_
 refine g_iconst X (0 : Int32) d11_8 (pc' := 9) rfl rfl ?_
 refine g_iloadN X d11_9 (pc' := 10) rfl rfl ?_
 refine g_iloadN X d11_10 (pc' := 11) rfl rfl ?_
 refine g_iadd X d11_11 (pc' := 12) rfl ?_
 refine Go.lit32 (z := (2 : Int32)) (by decide) ?_
 refine g_icY X d11_12 (tlt (show (0 : Int32) < (2 : Int32) from (by decide))).1 (pc' := 26) (by decide) (by decide) ?_
 refine g_iconst X (1 : Int32) d11_26 (pc' := 27) rfl rfl ?_
 refine g_iloadN X d11_27 (pc' := 28) rfl rfl ?_
 refine g_icN X d11_28 (flt (show ¬ ((1 : Int32) < (0 : Int32)) from (by decide))).1 (pc' := 31) rfl ?_
 refine g_iconst X (1 : Int32) d11_31 (pc' := 32) rfl rfl ?_
 refine g_iloadN X d11_32 (pc' := 33) rfl rfl ?_
 refine g_iloadN X d11_33 (pc' := 34) rfl rfl ?_
 refine g_iadd X d11_34 (pc' := 35) rfl ?_
 refine Go.lit32 (z := (2 : Int32)) (by decide) ?_
 refine g_icY X d11_35 (tlt (show (1 : Int32) < (2 : Int32) from (by decide))).1 (pc' := 49) (by decide) (by decide) ?_
 refine g_iconst X (2 : Int32) d11_49 (pc' := 50) rfl rfl ?_
 refine g_iloadN X d11_50 (pc' := 51) rfl rfl ?_
 refine g_icN X d11_51 (flt (show ¬ ((2 : Int32) < (0 : Int32)) from (by decide))).1 (pc' := 54) rfl ?_
 refine g_iconst X (2 : Int32) d11_54 (pc' := 55) rfl rfl ?_
 refine g_iloadN X d11_55 (pc' := 56) rfl rfl ?_
 refine g_iloadN X d11_56 (pc' := 57) rfl rfl ?_
 refine g_iadd X d11_57 (pc' := 58) rfl ?_
 refine Go.lit32 (z := (2 : Int32)) (by decide) ?_
 refine g_icN X d11_58 (flt (show ¬ ((2 : Int32) < (2 : Int32)) from (by decide))).1 (pc' := 61) rfl ?_
 refine g_aloadN X d11_61 (pc' := 62) rfl rfl rfl ?_
 refine g_iconst X (2 : Int32) d11_62 (pc' := 63) rfl rfl ?_
 refine g_laload X qd 2 d11_63 (pc' := 64) rfl (by decide) (by decide) rfl ?_
 refine g_lloadN X d11_64 (pc' := 65) rfl rfl ?_
 refine g_lcmp X d11_65 (pc' := 66) rfl ?_
 by_cases qa : k2 = j3
 refine g_ifY X d11_66 ((if0 _ _).trans (teq ((lw_eq k2 j3).mpr qa)).1) (pc' := 72) (by decide) (by decide) ?_
 refine g_iconst X (3 : Int32) d11_72 (pc' := 73) rfl rfl ?_
 refine g_iloadN X d11_73 (pc' := 74) rfl rfl ?_
 refine g_icN X d11_74 (flt (show ¬ ((3 : Int32) < (0 : Int32)) from (by decide))).1 (pc' := 77) rfl ?_
 refine g_iconst X (3 : Int32) d11_77 (pc' := 78) rfl rfl ?_
 refine g_iloadN X d11_78 (pc' := 79) rfl rfl ?_
 refine g_iloadN X d11_79 (pc' := 80) rfl rfl ?_
 refine g_iadd X d11_80 (pc' := 81) rfl ?_
 refine Go.lit32 (z := (2 : Int32)) (by decide) ?_
 refine g_icN X d11_81 (flt (show ¬ ((3 : Int32) < (2 : Int32)) from (by decide))).1 (pc' := 84) rfl ?_
 refine g_aloadN X d11_84 (pc' := 85) rfl rfl rfl ?_
 refine g_iconst X (3 : Int32) d11_85 (pc' := 86) rfl rfl ?_
 refine g_laload X qd 3 d11_86 (pc' := 87) rfl (by decide) (by decide) rfl ?_
 refine g_lloadN X d11_87 (pc' := 88) rfl rfl ?_
 refine g_lcmp X d11_88 (pc' := 89) rfl ?_
 by_cases qb : k3 = j3
 refine g_ifY X d11_89 ((if0 _ _).trans (teq ((lw_eq k3 j3).mpr qb)).1) (pc' := 95) (by decide) (by decide) ?_
 refine g_iload X d11_95 (pc' := 97) rfl rfl ?_
 refine g_ireturnN X (t := .boolean) (by simp) d11_97 hret hlk (by decide) (by decide) ?_
 exact ⟨congrArg (fun z => some (Value.int z)) (Eq.trans narT (congrArg b2i (Eq.symm (show fUt20 j3 k0 k1 k2 k3 = _ from (Eq.trans (if_pos qa) (Eq.trans (if_pos qb) rfl)))))), rfl, rfl⟩
 refine g_ifN X d11_89 ((if0 _ _).trans (feq (fun q => qb ((lw_eq k3 j3).mp q))).1) (pc' := 92) rfl ?_
 refine g_iconst X (0 : Int32) d11_92 (pc' := 93) rfl rfl ?_
 refine g_istore X d11_93 (pc' := 95) (Ls' := #[.val (.ref wk), .val (.int (0 : Int32)), .val (.int (2 : Int32)), .val (.long j3), .second, .val (.int (0 : Int32))]) rfl rfl ?_
 refine g_iload X d11_95 (pc' := 97) rfl rfl ?_
 refine g_ireturnN X (t := .boolean) (by simp) d11_97 hret hlk (by decide) (by decide) ?_
 exact ⟨congrArg (fun z => some (Value.int z)) (Eq.trans narF (congrArg b2i (Eq.symm (show fUt20 j3 k0 k1 k2 k3 = _ from (Eq.trans (if_pos qa) (Eq.trans (if_neg qb) rfl)))))), rfl, rfl⟩
 refine g_ifN X d11_66 ((if0 _ _).trans (feq (fun q => qa ((lw_eq k2 j3).mp q))).1) (pc' := 69) rfl ?_
 refine g_iconst X (0 : Int32) d11_69 (pc' := 70) rfl rfl ?_
 refine g_istore X d11_70 (pc' := 72) (Ls' := #[.val (.ref wk), .val (.int (0 : Int32)), .val (.int (2 : Int32)), .val (.long j3), .second, .val (.int (0 : Int32))]) rfl rfl ?_
 refine g_iconst X (3 : Int32) d11_72 (pc' := 73) rfl rfl ?_
 refine g_iloadN X d11_73 (pc' := 74) rfl rfl ?_
 refine g_icN X d11_74 (flt (show ¬ ((3 : Int32) < (0 : Int32)) from (by decide))).1 (pc' := 77) rfl ?_
 refine g_iconst X (3 : Int32) d11_77 (pc' := 78) rfl rfl ?_
 refine g_iloadN X d11_78 (pc' := 79) rfl rfl ?_
 refine g_iloadN X d11_79 (pc' := 80) rfl rfl ?_
 refine g_iadd X d11_80 (pc' := 81) rfl ?_
 refine Go.lit32 (z := (2 : Int32)) (by decide) ?_
 refine g_icN X d11_81 (flt (show ¬ ((3 : Int32) < (2 : Int32)) from (by decide))).1 (pc' := 84) rfl ?_
 refine g_aloadN X d11_84 (pc' := 85) rfl rfl rfl ?_
 refine g_iconst X (3 : Int32) d11_85 (pc' := 86) rfl rfl ?_
 refine g_laload X qd 3 d11_86 (pc' := 87) rfl (by decide) (by decide) rfl ?_
 refine g_lloadN X d11_87 (pc' := 88) rfl rfl ?_
 refine g_lcmp X d11_88 (pc' := 89) rfl ?_
 by_cases qc : k3 = j3
 refine g_ifY X d11_89 ((if0 _ _).trans (teq ((lw_eq k3 j3).mpr qc)).1) (pc' := 95) (by decide) (by decide) ?_
 refine g_iload X d11_95 (pc' := 97) rfl rfl ?_
 refine g_ireturnN X (t := .boolean) (by simp) d11_97 hret hlk (by decide) (by decide) ?_
 exact ⟨congrArg (fun z => some (Value.int z)) (Eq.trans narF (congrArg b2i (Eq.symm (show fUt20 j3 k0 k1 k2 k3 = _ from (Eq.trans (if_neg qa) (Eq.trans (if_pos qc) rfl)))))), rfl, rfl⟩
 refine g_ifN X d11_89 ((if0 _ _).trans (feq (fun q => qc ((lw_eq k3 j3).mp q))).1) (pc' := 92) rfl ?_
 refine g_iconst X (0 : Int32) d11_92 (pc' := 93) rfl rfl ?_
 refine g_istore X d11_93 (pc' := 95) (Ls' := #[.val (.ref wk), .val (.int (0 : Int32)), .val (.int (2 : Int32)), .val (.long j3), .second, .val (.int (0 : Int32))]) rfl rfl ?_
 refine g_iload X d11_95 (pc' := 97) rfl rfl ?_
 refine g_ireturnN X (t := .boolean) (by simp) d11_97 hret hlk (by decide) (by decide) ?_
 exact ⟨congrArg (fun z => some (Value.int z)) (Eq.trans narF (congrArg b2i (Eq.symm (show fUt20 j3 k0 k1 k2 k3 = _ from (Eq.trans (if_neg qa) (Eq.trans (if_neg qc) rfl)))))), rfl, rfl⟩
def fCp200 (k0 : Int64) (k1 : Int64) (k2 : Int64) (k3 : Int64) (o0 : Int64) (o1 : Int64) (o2 : Int64) (o3 : Int64) : Int32 := let v25_1 : Int32 := (fCU k0 o0); if v25_1 = (0 : Int32) then (let v25_3 : Int32 := (fCU k1 o1); if v25_3 = (0 : Int32) then ((0 : Int32)) else (v25_3)) else (v25_1)
theorem ef_rCp200 (m : MethodId) (x0 : Addr) (x1 : Int32) (x2 : Addr) (x3 : Int32) (x4 : Int32) : entryFrame m #[(.ref x0), (.int x1), (.ref x2), (.int x3), (.int x4)] 7 = mkF m 0 #[.val (.ref x0), .val (.int x1), .val (.ref x2), .val (.int x3), .val (.int x4), .unset, .unset] [] := by first | (simp [entryFrame, mkF, argsToLocals, Value.category]; done) | rfl
set_option maxRecDepth 65536 in
set_option maxHeartbeats 40000000 in
theorem rCp200 (l : Launch) (Z : State) (aa : Array Value) (hw : ∀ d ∈ tables_1, d.before aa Z = true) (ws : List Jvm.Cond) (wk : Addr) (wo : Addr) (k0 : Int64) (k1 : Int64) (k2 : Int64) (k3 : Int64) (o0 : Int64) (o1 : Int64) (o2 : Int64) (o3 : Int64) (h0 : Heap) (qf : Av Z h0 wk .long [(.long k0), (.long k1), (.long k2), (.long k3)]) (qg : Av Z h0 wo .long [(.long o0), (.long o1), (.long o2), (.long o3)]) :
    Rm l Z (⟨"com/example/ryazan/ryazan/language/Layout", "compare", "([JI[JII)I"⟩ : MethodName) prog_58_method_5_code 7 (some .int) ws ({ frames := 2, cells := 0, slots := 0, locals := 30 } : Room) #[(.ref wk), (.int (0 : Int32)), (.ref wo), (.int (0 : Int32)), (.int (2 : Int32))] h0 (Pu (.int (fCp200 k0 k1 k2 k3 o0 o1 o2 o3)) h0) := by
 refine Rm.of (plainFor_of_name pn_3) ?_
 intro p e s m below meth cc T X hnm hret hlk
 refine Go.at_ (ef_rCp200 m wk (0 : Int32) wo (0 : Int32) (2 : Int32)) ?_
 refine g_iconst X (0 : Int32) d12_0 (pc' := 1) rfl rfl ?_
 refine g_istore X d12_1 (pc' := 3) (Ls' := #[.val (.ref wk), .val (.int (0 : Int32)), .val (.ref wo), .val (.int (0 : Int32)), .val (.int (2 : Int32)), .val (.int (0 : Int32)), .unset]) rfl rfl ?_
 refine g_iload X d12_3 (pc' := 5) rfl rfl ?_
 refine g_iload X d12_5 (pc' := 7) rfl rfl ?_
 refine g_icN X d12_7 (tlt (show (0 : Int32) < (2 : Int32) from (by decide))).2.1 (pc' := 10) rfl ?_
 refine g_aloadN X d12_10 (pc' := 11) rfl rfl rfl ?_
 refine g_iloadN X d12_11 (pc' := 12) rfl rfl ?_
 refine g_iload X d12_12 (pc' := 14) rfl rfl ?_
 refine g_iadd X d12_14 (pc' := 15) rfl ?_
 refine Go.lit32 (z := (0 : Int32)) (by decide) ?_
 refine g_laload X qf 0 d12_15 (pc' := 16) rfl (by decide) (by decide) rfl ?_
 refine g_aloadN X d12_16 (pc' := 17) rfl rfl rfl ?_
 refine g_iloadN X d12_17 (pc' := 18) rfl rfl ?_
 refine g_iload X d12_18 (pc' := 20) rfl rfl ?_
 refine g_iadd X d12_20 (pc' := 21) rfl ?_
 refine Go.lit32 (z := (0 : Int32)) (by decide) ?_
 refine g_laload X qg 0 d12_21 (pc' := 22) rfl (by decide) (by decide) rfl ?_
 refine g_static X (W := 0) [(.long k0), (.long o0)] [] (tb hw 79 rfl) (tb hw 80 rfl) (tb hw 37 rfl) (tb hw 81 rfl) (rCU l Z aa hw [] k0 o0 _) d12_22 (pc' := 25) rfl (by decide) (by decide) (by decide) rfl rfl rfl (lenOf pd_1 rfl) (Nat.le_refl _) (by decide) (by decide) ?_
 intro v T L X q
 obtain ⟨rfl, X⟩ := pureX X q
 show Go p e below _ (T.setTop (mkF m 25 _ [(.int (fCU k0 o0))]))
 generalize qc : (fCU k0 o0) = qd
 refine g_istore X d12_25 (pc' := 27) (Ls' := #[.val (.ref wk), .val (.int (0 : Int32)), .val (.ref wo), .val (.int (0 : Int32)), .val (.int (2 : Int32)), .val (.int (0 : Int32)), .val (.int qd)]) rfl rfl ?_
 refine g_iload X d12_27 (pc' := 29) rfl rfl ?_
 by_cases qa : qd = (0 : Int32)
 refine g_ifY X d12_29 ((if0 _ _).trans (teq qa).1) (pc' := 35) (by decide) (by decide) ?_
 refine g_iinc X d12_35 (pc' := 38) (q := (1 : Int32)) (Ls' := #[.val (.ref wk), .val (.int (0 : Int32)), .val (.ref wo), .val (.int (0 : Int32)), .val (.int (2 : Int32)), .val (.int (1 : Int32)), .val (.int qd)]) rfl rfl rfl rfl ?_
 refine g_goto X d12_38 (pc' := 3) (by decide) (by decide) ?_
 refine g_iload X d12_3 (pc' := 5) rfl rfl ?_
 refine g_iload X d12_5 (pc' := 7) rfl rfl ?_
 refine g_icN X d12_7 (tlt (show (1 : Int32) < (2 : Int32) from (by decide))).2.1 (pc' := 10) rfl ?_
 refine g_aloadN X d12_10 (pc' := 11) rfl rfl rfl ?_
 refine g_iloadN X d12_11 (pc' := 12) rfl rfl ?_
 refine g_iload X d12_12 (pc' := 14) rfl rfl ?_
 refine g_iadd X d12_14 (pc' := 15) rfl ?_
 refine Go.lit32 (z := (1 : Int32)) (by decide) ?_
 refine g_laload X qf 1 d12_15 (pc' := 16) rfl (by decide) (by decide) rfl ?_
 refine g_aloadN X d12_16 (pc' := 17) rfl rfl rfl ?_
 refine g_iloadN X d12_17 (pc' := 18) rfl rfl ?_
 refine g_iload X d12_18 (pc' := 20) rfl rfl ?_
 refine g_iadd X d12_20 (pc' := 21) rfl ?_
 refine Go.lit32 (z := (1 : Int32)) (by decide) ?_
 refine g_laload X qg 1 d12_21 (pc' := 22) rfl (by decide) (by decide) rfl ?_
 refine g_static X (W := 0) [(.long k1), (.long o1)] [] (tb hw 79 rfl) (tb hw 80 rfl) (tb hw 37 rfl) (tb hw 81 rfl) (rCU l Z aa hw [] k1 o1 _) d12_22 (pc' := 25) rfl (by decide) (by decide) (by decide) rfl rfl rfl (lenOf pd_1 rfl) (Nat.le_refl _) (by decide) (by decide) ?_
 intro v T L X q
 obtain ⟨rfl, X⟩ := pureX X q
 show Go p e below _ (T.setTop (mkF m 25 _ [(.int (fCU k1 o1))]))
 generalize qh : (fCU k1 o1) = qe
 refine g_istore X d12_25 (pc' := 27) (Ls' := #[.val (.ref wk), .val (.int (0 : Int32)), .val (.ref wo), .val (.int (0 : Int32)), .val (.int (2 : Int32)), .val (.int (1 : Int32)), .val (.int qe)]) rfl rfl ?_
 refine g_iload X d12_27 (pc' := 29) rfl rfl ?_
 by_cases qb : qe = (0 : Int32)
 refine g_ifY X d12_29 ((if0 _ _).trans (teq qb).1) (pc' := 35) (by decide) (by decide) ?_
 refine g_iinc X d12_35 (pc' := 38) (q := (1 : Int32)) (Ls' := #[.val (.ref wk), .val (.int (0 : Int32)), .val (.ref wo), .val (.int (0 : Int32)), .val (.int (2 : Int32)), .val (.int (2 : Int32)), .val (.int qe)]) rfl rfl rfl rfl ?_
 refine g_goto X d12_38 (pc' := 3) (by decide) (by decide) ?_
 refine g_iload X d12_3 (pc' := 5) rfl rfl ?_
 refine g_iload X d12_5 (pc' := 7) rfl rfl ?_
 refine g_icY X d12_7 (flt (show ¬ ((2 : Int32) < (2 : Int32)) from (by decide))).2.1 (pc' := 41) (by decide) (by decide) ?_
 refine g_iconst X (0 : Int32) d12_41 (pc' := 42) rfl rfl ?_
 refine g_ireturn X d12_42 hret hlk (by decide) (by decide) ?_
 subst qc qh
 exact ⟨congrArg (fun z => some (Value.int z)) (Eq.symm (show fCp200 k0 k1 k2 k3 o0 o1 o2 o3 = (0 : Int32) from (by unfold fCp200; dsimp only; rw [if_pos qa, if_pos qb]))), rfl, rfl⟩
 refine g_ifN X d12_29 ((if0 _ _).trans (feq qb).1) (pc' := 32) rfl ?_
 refine g_iload X d12_32 (pc' := 34) rfl rfl ?_
 refine g_ireturn X d12_34 hret hlk (by decide) (by decide) ?_
 subst qc qh
 exact ⟨congrArg (fun z => some (Value.int z)) (Eq.symm (show fCp200 k0 k1 k2 k3 o0 o1 o2 o3 = (fCU k1 o1) from (by unfold fCp200; dsimp only; rw [if_pos qa, if_neg qb]))), rfl, rfl⟩
 refine g_ifN X d12_29 ((if0 _ _).trans (feq qa).1) (pc' := 32) rfl ?_
 refine g_iload X d12_32 (pc' := 34) rfl rfl ?_
 refine g_ireturn X d12_34 hret hlk (by decide) (by decide) ?_
 subst qc
 exact ⟨congrArg (fun z => some (Value.int z)) (Eq.symm (show fCp200 k0 k1 k2 k3 o0 o1 o2 o3 = (fCU k0 o0) from (by unfold fCp200; dsimp only; rw [if_neg qa]))), rfl, rfl⟩
def fCp201 (k0 : Int64) (k1 : Int64) (k2 : Int64) (k3 : Int64) (o0 : Int64) (o1 : Int64) (o2 : Int64) (o3 : Int64) : Int32 := let v25_1 : Int32 := (fCU k0 o1); if v25_1 = (0 : Int32) then (let v25_3 : Int32 := (fCU k1 o2); if v25_3 = (0 : Int32) then ((0 : Int32)) else (v25_3)) else (v25_1)
theorem ef_rCp201 (m : MethodId) (x0 : Addr) (x1 : Int32) (x2 : Addr) (x3 : Int32) (x4 : Int32) : entryFrame m #[(.ref x0), (.int x1), (.ref x2), (.int x3), (.int x4)] 7 = mkF m 0 #[.val (.ref x0), .val (.int x1), .val (.ref x2), .val (.int x3), .val (.int x4), .unset, .unset] [] := by first | (simp [entryFrame, mkF, argsToLocals, Value.category]; done) | rfl
set_option maxRecDepth 65536 in
set_option maxHeartbeats 40000000 in
theorem rCp201 (l : Launch) (Z : State) (aa : Array Value) (hw : ∀ d ∈ tables_1, d.before aa Z = true) (ws : List Jvm.Cond) (wk : Addr) (wo : Addr) (k0 : Int64) (k1 : Int64) (k2 : Int64) (k3 : Int64) (o0 : Int64) (o1 : Int64) (o2 : Int64) (o3 : Int64) (h0 : Heap) (qf : Av Z h0 wk .long [(.long k0), (.long k1), (.long k2), (.long k3)]) (qg : Av Z h0 wo .long [(.long o0), (.long o1), (.long o2), (.long o3)]) :
    Rm l Z (⟨"com/example/ryazan/ryazan/language/Layout", "compare", "([JI[JII)I"⟩ : MethodName) prog_58_method_5_code 7 (some .int) ws ({ frames := 2, cells := 0, slots := 0, locals := 30 } : Room) #[(.ref wk), (.int (0 : Int32)), (.ref wo), (.int (1 : Int32)), (.int (2 : Int32))] h0 (Pu (.int (fCp201 k0 k1 k2 k3 o0 o1 o2 o3)) h0) := by
 refine Rm.of (plainFor_of_name pn_3) ?_
 intro p e s m below meth cc T X hnm hret hlk
 refine Go.at_ (ef_rCp201 m wk (0 : Int32) wo (1 : Int32) (2 : Int32)) ?_
 refine g_iconst X (0 : Int32) d12_0 (pc' := 1) rfl rfl ?_
 refine g_istore X d12_1 (pc' := 3) (Ls' := #[.val (.ref wk), .val (.int (0 : Int32)), .val (.ref wo), .val (.int (1 : Int32)), .val (.int (2 : Int32)), .val (.int (0 : Int32)), .unset]) rfl rfl ?_
 refine g_iload X d12_3 (pc' := 5) rfl rfl ?_
 refine g_iload X d12_5 (pc' := 7) rfl rfl ?_
 refine g_icN X d12_7 (tlt (show (0 : Int32) < (2 : Int32) from (by decide))).2.1 (pc' := 10) rfl ?_
 refine g_aloadN X d12_10 (pc' := 11) rfl rfl rfl ?_
 refine g_iloadN X d12_11 (pc' := 12) rfl rfl ?_
 refine g_iload X d12_12 (pc' := 14) rfl rfl ?_
 refine g_iadd X d12_14 (pc' := 15) rfl ?_
 refine Go.lit32 (z := (0 : Int32)) (by decide) ?_
 refine g_laload X qf 0 d12_15 (pc' := 16) rfl (by decide) (by decide) rfl ?_
 refine g_aloadN X d12_16 (pc' := 17) rfl rfl rfl ?_
 refine g_iloadN X d12_17 (pc' := 18) rfl rfl ?_
 refine g_iload X d12_18 (pc' := 20) rfl rfl ?_
 refine g_iadd X d12_20 (pc' := 21) rfl ?_
 refine Go.lit32 (z := (1 : Int32)) (by decide) ?_
 refine g_laload X qg 1 d12_21 (pc' := 22) rfl (by decide) (by decide) rfl ?_
 refine g_static X (W := 0) [(.long k0), (.long o1)] [] (tb hw 79 rfl) (tb hw 80 rfl) (tb hw 37 rfl) (tb hw 81 rfl) (rCU l Z aa hw [] k0 o1 _) d12_22 (pc' := 25) rfl (by decide) (by decide) (by decide) rfl rfl rfl (lenOf pd_1 rfl) (Nat.le_refl _) (by decide) (by decide) ?_
 intro v T L X q
 obtain ⟨rfl, X⟩ := pureX X q
 show Go p e below _ (T.setTop (mkF m 25 _ [(.int (fCU k0 o1))]))
 generalize qc : (fCU k0 o1) = qd
 refine g_istore X d12_25 (pc' := 27) (Ls' := #[.val (.ref wk), .val (.int (0 : Int32)), .val (.ref wo), .val (.int (1 : Int32)), .val (.int (2 : Int32)), .val (.int (0 : Int32)), .val (.int qd)]) rfl rfl ?_
 refine g_iload X d12_27 (pc' := 29) rfl rfl ?_
 by_cases qa : qd = (0 : Int32)
 refine g_ifY X d12_29 ((if0 _ _).trans (teq qa).1) (pc' := 35) (by decide) (by decide) ?_
 refine g_iinc X d12_35 (pc' := 38) (q := (1 : Int32)) (Ls' := #[.val (.ref wk), .val (.int (0 : Int32)), .val (.ref wo), .val (.int (1 : Int32)), .val (.int (2 : Int32)), .val (.int (1 : Int32)), .val (.int qd)]) rfl rfl rfl rfl ?_
 refine g_goto X d12_38 (pc' := 3) (by decide) (by decide) ?_
 refine g_iload X d12_3 (pc' := 5) rfl rfl ?_
 refine g_iload X d12_5 (pc' := 7) rfl rfl ?_
 refine g_icN X d12_7 (tlt (show (1 : Int32) < (2 : Int32) from (by decide))).2.1 (pc' := 10) rfl ?_
 refine g_aloadN X d12_10 (pc' := 11) rfl rfl rfl ?_
 refine g_iloadN X d12_11 (pc' := 12) rfl rfl ?_
 refine g_iload X d12_12 (pc' := 14) rfl rfl ?_
 refine g_iadd X d12_14 (pc' := 15) rfl ?_
 refine Go.lit32 (z := (1 : Int32)) (by decide) ?_
 refine g_laload X qf 1 d12_15 (pc' := 16) rfl (by decide) (by decide) rfl ?_
 refine g_aloadN X d12_16 (pc' := 17) rfl rfl rfl ?_
 refine g_iloadN X d12_17 (pc' := 18) rfl rfl ?_
 refine g_iload X d12_18 (pc' := 20) rfl rfl ?_
 refine g_iadd X d12_20 (pc' := 21) rfl ?_
 refine Go.lit32 (z := (2 : Int32)) (by decide) ?_
 refine g_laload X qg 2 d12_21 (pc' := 22) rfl (by decide) (by decide) rfl ?_
 refine g_static X (W := 0) [(.long k1), (.long o2)] [] (tb hw 79 rfl) (tb hw 80 rfl) (tb hw 37 rfl) (tb hw 81 rfl) (rCU l Z aa hw [] k1 o2 _) d12_22 (pc' := 25) rfl (by decide) (by decide) (by decide) rfl rfl rfl (lenOf pd_1 rfl) (Nat.le_refl _) (by decide) (by decide) ?_
 intro v T L X q
 obtain ⟨rfl, X⟩ := pureX X q
 show Go p e below _ (T.setTop (mkF m 25 _ [(.int (fCU k1 o2))]))
 generalize qh : (fCU k1 o2) = qe
 refine g_istore X d12_25 (pc' := 27) (Ls' := #[.val (.ref wk), .val (.int (0 : Int32)), .val (.ref wo), .val (.int (1 : Int32)), .val (.int (2 : Int32)), .val (.int (1 : Int32)), .val (.int qe)]) rfl rfl ?_
 refine g_iload X d12_27 (pc' := 29) rfl rfl ?_
 by_cases qb : qe = (0 : Int32)
 refine g_ifY X d12_29 ((if0 _ _).trans (teq qb).1) (pc' := 35) (by decide) (by decide) ?_
 refine g_iinc X d12_35 (pc' := 38) (q := (1 : Int32)) (Ls' := #[.val (.ref wk), .val (.int (0 : Int32)), .val (.ref wo), .val (.int (1 : Int32)), .val (.int (2 : Int32)), .val (.int (2 : Int32)), .val (.int qe)]) rfl rfl rfl rfl ?_
 refine g_goto X d12_38 (pc' := 3) (by decide) (by decide) ?_
 refine g_iload X d12_3 (pc' := 5) rfl rfl ?_
 refine g_iload X d12_5 (pc' := 7) rfl rfl ?_
 refine g_icY X d12_7 (flt (show ¬ ((2 : Int32) < (2 : Int32)) from (by decide))).2.1 (pc' := 41) (by decide) (by decide) ?_
 refine g_iconst X (0 : Int32) d12_41 (pc' := 42) rfl rfl ?_
 refine g_ireturn X d12_42 hret hlk (by decide) (by decide) ?_
 subst qc qh
 exact ⟨congrArg (fun z => some (Value.int z)) (Eq.symm (show fCp201 k0 k1 k2 k3 o0 o1 o2 o3 = (0 : Int32) from (by unfold fCp201; dsimp only; rw [if_pos qa, if_pos qb]))), rfl, rfl⟩
 refine g_ifN X d12_29 ((if0 _ _).trans (feq qb).1) (pc' := 32) rfl ?_
 refine g_iload X d12_32 (pc' := 34) rfl rfl ?_
 refine g_ireturn X d12_34 hret hlk (by decide) (by decide) ?_
 subst qc qh
 exact ⟨congrArg (fun z => some (Value.int z)) (Eq.symm (show fCp201 k0 k1 k2 k3 o0 o1 o2 o3 = (fCU k1 o2) from (by unfold fCp201; dsimp only; rw [if_pos qa, if_neg qb]))), rfl, rfl⟩
 refine g_ifN X d12_29 ((if0 _ _).trans (feq qa).1) (pc' := 32) rfl ?_
 refine g_iload X d12_32 (pc' := 34) rfl rfl ?_
 refine g_ireturn X d12_34 hret hlk (by decide) (by decide) ?_
 subst qc
 exact ⟨congrArg (fun z => some (Value.int z)) (Eq.symm (show fCp201 k0 k1 k2 k3 o0 o1 o2 o3 = (fCU k0 o1) from (by unfold fCp201; dsimp only; rw [if_neg qa]))), rfl, rfl⟩
def fUt21 (j3 : Int64) (k0 : Int64) (k1 : Int64) (k2 : Int64) (k3 : Int64) : Bool := if k0 = j3 then (if k3 = j3 then (true) else (false)) else (if k3 = j3 then (false) else (false))
theorem ef_rUt21 (m : MethodId) (x0 : Addr) (x1 : Int32) (x2 : Int32) (x3 : Int64) : entryFrame m #[(.ref x0), (.int x1), (.int x2), (.long x3)] 6 = mkF m 0 #[.val (.ref x0), .val (.int x1), .val (.int x2), .val (.long x3), .second, .unset] [] := by first | (simp [entryFrame, mkF, argsToLocals, Value.category]; done) | rfl
set_option maxRecDepth 65536 in
set_option maxHeartbeats 40000000 in
theorem rUt21 (l : Launch) (Z : State) (aa : Array Value) (hw : ∀ d ∈ tables_1, d.before aa Z = true) (ws : List Jvm.Cond) (wk : Addr) (j3 : Int64) (k0 : Int64) (k1 : Int64) (k2 : Int64) (k3 : Int64) (h0 : Heap) (qd : Av Z h0 wk .long [(.long k0), (.long k1), (.long k2), (.long k3)]) :
    Rm l Z (⟨"com/example/ryazan/ryazan/language/LayoutPackPinLaw", "untouched", "([JIIJ)Z"⟩ : MethodName) method_6_code 6 (some .boolean) ws ({ frames := 0, cells := 0, slots := 0, locals := 0 } : Room) #[(.ref wk), (.int (1 : Int32)), (.int (2 : Int32)), (.long j3)] h0 (Pu (.int (b2i (fUt21 j3 k0 k1 k2 k3))) h0) := by
 refine Rm.of (plainFor_of_name pn_0) ?_
 intro p e s m below meth cc T X hnm hret hlk
 refine Go.at_ (ef_rUt21 m wk (1 : Int32) (2 : Int32) j3) ?_
 refine g_iconst X (1 : Int32) d11_0 (pc' := 1) rfl rfl ?_
 refine g_istore X d11_1 (pc' := 3) (Ls' := #[.val (.ref wk), .val (.int (1 : Int32)), .val (.int (2 : Int32)), .val (.long j3), .second, .val (.int (1 : Int32))]) rfl rfl ?_
 refine g_iconst X (0 : Int32) d11_3 (pc' := 4) rfl rfl ?_
 refine g_iloadN X d11_4 (pc' := 5) rfl rfl ?_
 refine g_icY X d11_5 (tlt (show (0 : Int32) < (1 : Int32) from (by decide))).1 (pc' := 15) (by decide) (by decide) ?_
 refine g_aloadN X d11_15 (pc' := 16) rfl rfl rfl ?_
 refine g_iconst X (0 : Int32) d11_16 (pc' := 17) rfl rfl ?_
 refine g_laload X qd 0 d11_17 (pc' := 18) rfl (by decide) (by decide) rfl ?_
 refine g_lloadN X d11_18 (pc' := 19) rfl rfl ?_
 refine g_lcmp X d11_19 (pc' := 20) rfl ?_
 by_cases qa : k0 = j3
 refine g_ifY X d11_20 ((if0 _ _).trans (teq ((lw_eq k0 j3).mpr qa)).1) (pc' := 26) (by decide) (by decide) ?_
 refine g_iconst X (1 : Int32) d11_26 (pc' := 27) rfl rfl ?_
 refine g_iloadN X d11_27 (pc' := 28) rfl rfl ?_
 refine g_icN X d11_28 (flt (show ¬ ((1 : Int32) < (1 : Int32)) from (by decide))).1 (pc' := 31) rfl ?_
 refine g_iconst X (1 : Int32) d11_31 (pc' := 32) rfl rfl ?_
 refine g_iloadN X d11_32 (pc' := 33) rfl rfl ?_
 refine g_iloadN X d11_33 (pc' := 34) rfl rfl ?_
 refine g_iadd X d11_34 (pc' := 35) rfl ?_
 refine Go.lit32 (z := (3 : Int32)) (by decide) ?_
 refine g_icY X d11_35 (tlt (show (1 : Int32) < (3 : Int32) from (by decide))).1 (pc' := 49) (by decide) (by decide) ?_
 refine g_iconst X (2 : Int32) d11_49 (pc' := 50) rfl rfl ?_
 refine g_iloadN X d11_50 (pc' := 51) rfl rfl ?_
 refine g_icN X d11_51 (flt (show ¬ ((2 : Int32) < (1 : Int32)) from (by decide))).1 (pc' := 54) rfl ?_
 refine g_iconst X (2 : Int32) d11_54 (pc' := 55) rfl rfl ?_
 refine g_iloadN X d11_55 (pc' := 56) rfl rfl ?_
 refine g_iloadN X d11_56 (pc' := 57) rfl rfl ?_
 refine g_iadd X d11_57 (pc' := 58) rfl ?_
 refine Go.lit32 (z := (3 : Int32)) (by decide) ?_
 refine g_icY X d11_58 (tlt (show (2 : Int32) < (3 : Int32) from (by decide))).1 (pc' := 72) (by decide) (by decide) ?_
 refine g_iconst X (3 : Int32) d11_72 (pc' := 73) rfl rfl ?_
 refine g_iloadN X d11_73 (pc' := 74) rfl rfl ?_
 refine g_icN X d11_74 (flt (show ¬ ((3 : Int32) < (1 : Int32)) from (by decide))).1 (pc' := 77) rfl ?_
 refine g_iconst X (3 : Int32) d11_77 (pc' := 78) rfl rfl ?_
 refine g_iloadN X d11_78 (pc' := 79) rfl rfl ?_
 refine g_iloadN X d11_79 (pc' := 80) rfl rfl ?_
 refine g_iadd X d11_80 (pc' := 81) rfl ?_
 refine Go.lit32 (z := (3 : Int32)) (by decide) ?_
 refine g_icN X d11_81 (flt (show ¬ ((3 : Int32) < (3 : Int32)) from (by decide))).1 (pc' := 84) rfl ?_
 refine g_aloadN X d11_84 (pc' := 85) rfl rfl rfl ?_
 refine g_iconst X (3 : Int32) d11_85 (pc' := 86) rfl rfl ?_
 refine g_laload X qd 3 d11_86 (pc' := 87) rfl (by decide) (by decide) rfl ?_
 refine g_lloadN X d11_87 (pc' := 88) rfl rfl ?_
 refine g_lcmp X d11_88 (pc' := 89) rfl ?_
 by_cases qb : k3 = j3
 refine g_ifY X d11_89 ((if0 _ _).trans (teq ((lw_eq k3 j3).mpr qb)).1) (pc' := 95) (by decide) (by decide) ?_
 refine g_iload X d11_95 (pc' := 97) rfl rfl ?_
 refine g_ireturnN X (t := .boolean) (by simp) d11_97 hret hlk (by decide) (by decide) ?_
 exact ⟨congrArg (fun z => some (Value.int z)) (Eq.trans narT (congrArg b2i (Eq.symm (show fUt21 j3 k0 k1 k2 k3 = _ from (Eq.trans (if_pos qa) (Eq.trans (if_pos qb) rfl)))))), rfl, rfl⟩
 refine g_ifN X d11_89 ((if0 _ _).trans (feq (fun q => qb ((lw_eq k3 j3).mp q))).1) (pc' := 92) rfl ?_
 refine g_iconst X (0 : Int32) d11_92 (pc' := 93) rfl rfl ?_
 refine g_istore X d11_93 (pc' := 95) (Ls' := #[.val (.ref wk), .val (.int (1 : Int32)), .val (.int (2 : Int32)), .val (.long j3), .second, .val (.int (0 : Int32))]) rfl rfl ?_
 refine g_iload X d11_95 (pc' := 97) rfl rfl ?_
 refine g_ireturnN X (t := .boolean) (by simp) d11_97 hret hlk (by decide) (by decide) ?_
 exact ⟨congrArg (fun z => some (Value.int z)) (Eq.trans narF (congrArg b2i (Eq.symm (show fUt21 j3 k0 k1 k2 k3 = _ from (Eq.trans (if_pos qa) (Eq.trans (if_neg qb) rfl)))))), rfl, rfl⟩
 refine g_ifN X d11_20 ((if0 _ _).trans (feq (fun q => qa ((lw_eq k0 j3).mp q))).1) (pc' := 23) rfl ?_
 refine g_iconst X (0 : Int32) d11_23 (pc' := 24) rfl rfl ?_
 refine g_istore X d11_24 (pc' := 26) (Ls' := #[.val (.ref wk), .val (.int (1 : Int32)), .val (.int (2 : Int32)), .val (.long j3), .second, .val (.int (0 : Int32))]) rfl rfl ?_
 refine g_iconst X (1 : Int32) d11_26 (pc' := 27) rfl rfl ?_
 refine g_iloadN X d11_27 (pc' := 28) rfl rfl ?_
 refine g_icN X d11_28 (flt (show ¬ ((1 : Int32) < (1 : Int32)) from (by decide))).1 (pc' := 31) rfl ?_
 refine g_iconst X (1 : Int32) d11_31 (pc' := 32) rfl rfl ?_
 refine g_iloadN X d11_32 (pc' := 33) rfl rfl ?_
 refine g_iloadN X d11_33 (pc' := 34) rfl rfl ?_
 refine g_iadd X d11_34 (pc' := 35) rfl ?_
 refine Go.lit32 (z := (3 : Int32)) (by decide) ?_
 refine g_icY X d11_35 (tlt (show (1 : Int32) < (3 : Int32) from (by decide))).1 (pc' := 49) (by decide) (by decide) ?_
 refine g_iconst X (2 : Int32) d11_49 (pc' := 50) rfl rfl ?_
 refine g_iloadN X d11_50 (pc' := 51) rfl rfl ?_
 refine g_icN X d11_51 (flt (show ¬ ((2 : Int32) < (1 : Int32)) from (by decide))).1 (pc' := 54) rfl ?_
 refine g_iconst X (2 : Int32) d11_54 (pc' := 55) rfl rfl ?_
 refine g_iloadN X d11_55 (pc' := 56) rfl rfl ?_
 refine g_iloadN X d11_56 (pc' := 57) rfl rfl ?_
 refine g_iadd X d11_57 (pc' := 58) rfl ?_
 refine Go.lit32 (z := (3 : Int32)) (by decide) ?_
 refine g_icY X d11_58 (tlt (show (2 : Int32) < (3 : Int32) from (by decide))).1 (pc' := 72) (by decide) (by decide) ?_
 refine g_iconst X (3 : Int32) d11_72 (pc' := 73) rfl rfl ?_
 refine g_iloadN X d11_73 (pc' := 74) rfl rfl ?_
 refine g_icN X d11_74 (flt (show ¬ ((3 : Int32) < (1 : Int32)) from (by decide))).1 (pc' := 77) rfl ?_
 refine g_iconst X (3 : Int32) d11_77 (pc' := 78) rfl rfl ?_
 refine g_iloadN X d11_78 (pc' := 79) rfl rfl ?_
 refine g_iloadN X d11_79 (pc' := 80) rfl rfl ?_
 refine g_iadd X d11_80 (pc' := 81) rfl ?_
 refine Go.lit32 (z := (3 : Int32)) (by decide) ?_
 refine g_icN X d11_81 (flt (show ¬ ((3 : Int32) < (3 : Int32)) from (by decide))).1 (pc' := 84) rfl ?_
 refine g_aloadN X d11_84 (pc' := 85) rfl rfl rfl ?_
 refine g_iconst X (3 : Int32) d11_85 (pc' := 86) rfl rfl ?_
 refine g_laload X qd 3 d11_86 (pc' := 87) rfl (by decide) (by decide) rfl ?_
 refine g_lloadN X d11_87 (pc' := 88) rfl rfl ?_
 refine g_lcmp X d11_88 (pc' := 89) rfl ?_
 by_cases qc : k3 = j3
 refine g_ifY X d11_89 ((if0 _ _).trans (teq ((lw_eq k3 j3).mpr qc)).1) (pc' := 95) (by decide) (by decide) ?_
 refine g_iload X d11_95 (pc' := 97) rfl rfl ?_
 refine g_ireturnN X (t := .boolean) (by simp) d11_97 hret hlk (by decide) (by decide) ?_
 exact ⟨congrArg (fun z => some (Value.int z)) (Eq.trans narF (congrArg b2i (Eq.symm (show fUt21 j3 k0 k1 k2 k3 = _ from (Eq.trans (if_neg qa) (Eq.trans (if_pos qc) rfl)))))), rfl, rfl⟩
 refine g_ifN X d11_89 ((if0 _ _).trans (feq (fun q => qc ((lw_eq k3 j3).mp q))).1) (pc' := 92) rfl ?_
 refine g_iconst X (0 : Int32) d11_92 (pc' := 93) rfl rfl ?_
 refine g_istore X d11_93 (pc' := 95) (Ls' := #[.val (.ref wk), .val (.int (1 : Int32)), .val (.int (2 : Int32)), .val (.long j3), .second, .val (.int (0 : Int32))]) rfl rfl ?_
 refine g_iload X d11_95 (pc' := 97) rfl rfl ?_
 refine g_ireturnN X (t := .boolean) (by simp) d11_97 hret hlk (by decide) (by decide) ?_
 exact ⟨congrArg (fun z => some (Value.int z)) (Eq.trans narF (congrArg b2i (Eq.symm (show fUt21 j3 k0 k1 k2 k3 = _ from (Eq.trans (if_neg qa) (Eq.trans (if_neg qc) rfl)))))), rfl, rfl⟩
def fCp210 (k0 : Int64) (k1 : Int64) (k2 : Int64) (k3 : Int64) (o0 : Int64) (o1 : Int64) (o2 : Int64) (o3 : Int64) : Int32 := let v25_1 : Int32 := (fCU k1 o0); if v25_1 = (0 : Int32) then (let v25_3 : Int32 := (fCU k2 o1); if v25_3 = (0 : Int32) then ((0 : Int32)) else (v25_3)) else (v25_1)
theorem ef_rCp210 (m : MethodId) (x0 : Addr) (x1 : Int32) (x2 : Addr) (x3 : Int32) (x4 : Int32) : entryFrame m #[(.ref x0), (.int x1), (.ref x2), (.int x3), (.int x4)] 7 = mkF m 0 #[.val (.ref x0), .val (.int x1), .val (.ref x2), .val (.int x3), .val (.int x4), .unset, .unset] [] := by first | (simp [entryFrame, mkF, argsToLocals, Value.category]; done) | rfl
set_option maxRecDepth 65536 in
set_option maxHeartbeats 40000000 in
theorem rCp210 (l : Launch) (Z : State) (aa : Array Value) (hw : ∀ d ∈ tables_1, d.before aa Z = true) (ws : List Jvm.Cond) (wk : Addr) (wo : Addr) (k0 : Int64) (k1 : Int64) (k2 : Int64) (k3 : Int64) (o0 : Int64) (o1 : Int64) (o2 : Int64) (o3 : Int64) (h0 : Heap) (qf : Av Z h0 wk .long [(.long k0), (.long k1), (.long k2), (.long k3)]) (qg : Av Z h0 wo .long [(.long o0), (.long o1), (.long o2), (.long o3)]) :
    Rm l Z (⟨"com/example/ryazan/ryazan/language/Layout", "compare", "([JI[JII)I"⟩ : MethodName) prog_58_method_5_code 7 (some .int) ws ({ frames := 2, cells := 0, slots := 0, locals := 30 } : Room) #[(.ref wk), (.int (1 : Int32)), (.ref wo), (.int (0 : Int32)), (.int (2 : Int32))] h0 (Pu (.int (fCp210 k0 k1 k2 k3 o0 o1 o2 o3)) h0) := by
 refine Rm.of (plainFor_of_name pn_3) ?_
 intro p e s m below meth cc T X hnm hret hlk
 refine Go.at_ (ef_rCp210 m wk (1 : Int32) wo (0 : Int32) (2 : Int32)) ?_
 refine g_iconst X (0 : Int32) d12_0 (pc' := 1) rfl rfl ?_
 refine g_istore X d12_1 (pc' := 3) (Ls' := #[.val (.ref wk), .val (.int (1 : Int32)), .val (.ref wo), .val (.int (0 : Int32)), .val (.int (2 : Int32)), .val (.int (0 : Int32)), .unset]) rfl rfl ?_
 refine g_iload X d12_3 (pc' := 5) rfl rfl ?_
 refine g_iload X d12_5 (pc' := 7) rfl rfl ?_
 refine g_icN X d12_7 (tlt (show (0 : Int32) < (2 : Int32) from (by decide))).2.1 (pc' := 10) rfl ?_
 refine g_aloadN X d12_10 (pc' := 11) rfl rfl rfl ?_
 refine g_iloadN X d12_11 (pc' := 12) rfl rfl ?_
 refine g_iload X d12_12 (pc' := 14) rfl rfl ?_
 refine g_iadd X d12_14 (pc' := 15) rfl ?_
 refine Go.lit32 (z := (1 : Int32)) (by decide) ?_
 refine g_laload X qf 1 d12_15 (pc' := 16) rfl (by decide) (by decide) rfl ?_
 refine g_aloadN X d12_16 (pc' := 17) rfl rfl rfl ?_
 refine g_iloadN X d12_17 (pc' := 18) rfl rfl ?_
 refine g_iload X d12_18 (pc' := 20) rfl rfl ?_
 refine g_iadd X d12_20 (pc' := 21) rfl ?_
 refine Go.lit32 (z := (0 : Int32)) (by decide) ?_
 refine g_laload X qg 0 d12_21 (pc' := 22) rfl (by decide) (by decide) rfl ?_
 refine g_static X (W := 0) [(.long k1), (.long o0)] [] (tb hw 79 rfl) (tb hw 80 rfl) (tb hw 37 rfl) (tb hw 81 rfl) (rCU l Z aa hw [] k1 o0 _) d12_22 (pc' := 25) rfl (by decide) (by decide) (by decide) rfl rfl rfl (lenOf pd_1 rfl) (Nat.le_refl _) (by decide) (by decide) ?_
 intro v T L X q
 obtain ⟨rfl, X⟩ := pureX X q
 show Go p e below _ (T.setTop (mkF m 25 _ [(.int (fCU k1 o0))]))
 generalize qc : (fCU k1 o0) = qd
 refine g_istore X d12_25 (pc' := 27) (Ls' := #[.val (.ref wk), .val (.int (1 : Int32)), .val (.ref wo), .val (.int (0 : Int32)), .val (.int (2 : Int32)), .val (.int (0 : Int32)), .val (.int qd)]) rfl rfl ?_
 refine g_iload X d12_27 (pc' := 29) rfl rfl ?_
 by_cases qa : qd = (0 : Int32)
 refine g_ifY X d12_29 ((if0 _ _).trans (teq qa).1) (pc' := 35) (by decide) (by decide) ?_
 refine g_iinc X d12_35 (pc' := 38) (q := (1 : Int32)) (Ls' := #[.val (.ref wk), .val (.int (1 : Int32)), .val (.ref wo), .val (.int (0 : Int32)), .val (.int (2 : Int32)), .val (.int (1 : Int32)), .val (.int qd)]) rfl rfl rfl rfl ?_
 refine g_goto X d12_38 (pc' := 3) (by decide) (by decide) ?_
 refine g_iload X d12_3 (pc' := 5) rfl rfl ?_
 refine g_iload X d12_5 (pc' := 7) rfl rfl ?_
 refine g_icN X d12_7 (tlt (show (1 : Int32) < (2 : Int32) from (by decide))).2.1 (pc' := 10) rfl ?_
 refine g_aloadN X d12_10 (pc' := 11) rfl rfl rfl ?_
 refine g_iloadN X d12_11 (pc' := 12) rfl rfl ?_
 refine g_iload X d12_12 (pc' := 14) rfl rfl ?_
 refine g_iadd X d12_14 (pc' := 15) rfl ?_
 refine Go.lit32 (z := (2 : Int32)) (by decide) ?_
 refine g_laload X qf 2 d12_15 (pc' := 16) rfl (by decide) (by decide) rfl ?_
 refine g_aloadN X d12_16 (pc' := 17) rfl rfl rfl ?_
 refine g_iloadN X d12_17 (pc' := 18) rfl rfl ?_
 refine g_iload X d12_18 (pc' := 20) rfl rfl ?_
 refine g_iadd X d12_20 (pc' := 21) rfl ?_
 refine Go.lit32 (z := (1 : Int32)) (by decide) ?_
 refine g_laload X qg 1 d12_21 (pc' := 22) rfl (by decide) (by decide) rfl ?_
 refine g_static X (W := 0) [(.long k2), (.long o1)] [] (tb hw 79 rfl) (tb hw 80 rfl) (tb hw 37 rfl) (tb hw 81 rfl) (rCU l Z aa hw [] k2 o1 _) d12_22 (pc' := 25) rfl (by decide) (by decide) (by decide) rfl rfl rfl (lenOf pd_1 rfl) (Nat.le_refl _) (by decide) (by decide) ?_
 intro v T L X q
 obtain ⟨rfl, X⟩ := pureX X q
 show Go p e below _ (T.setTop (mkF m 25 _ [(.int (fCU k2 o1))]))
 generalize qh : (fCU k2 o1) = qe
 refine g_istore X d12_25 (pc' := 27) (Ls' := #[.val (.ref wk), .val (.int (1 : Int32)), .val (.ref wo), .val (.int (0 : Int32)), .val (.int (2 : Int32)), .val (.int (1 : Int32)), .val (.int qe)]) rfl rfl ?_
 refine g_iload X d12_27 (pc' := 29) rfl rfl ?_
 by_cases qb : qe = (0 : Int32)
 refine g_ifY X d12_29 ((if0 _ _).trans (teq qb).1) (pc' := 35) (by decide) (by decide) ?_
 refine g_iinc X d12_35 (pc' := 38) (q := (1 : Int32)) (Ls' := #[.val (.ref wk), .val (.int (1 : Int32)), .val (.ref wo), .val (.int (0 : Int32)), .val (.int (2 : Int32)), .val (.int (2 : Int32)), .val (.int qe)]) rfl rfl rfl rfl ?_
 refine g_goto X d12_38 (pc' := 3) (by decide) (by decide) ?_
 refine g_iload X d12_3 (pc' := 5) rfl rfl ?_
 refine g_iload X d12_5 (pc' := 7) rfl rfl ?_
 refine g_icY X d12_7 (flt (show ¬ ((2 : Int32) < (2 : Int32)) from (by decide))).2.1 (pc' := 41) (by decide) (by decide) ?_
 refine g_iconst X (0 : Int32) d12_41 (pc' := 42) rfl rfl ?_
 refine g_ireturn X d12_42 hret hlk (by decide) (by decide) ?_
 subst qc qh
 exact ⟨congrArg (fun z => some (Value.int z)) (Eq.symm (show fCp210 k0 k1 k2 k3 o0 o1 o2 o3 = (0 : Int32) from (by unfold fCp210; dsimp only; rw [if_pos qa, if_pos qb]))), rfl, rfl⟩
 refine g_ifN X d12_29 ((if0 _ _).trans (feq qb).1) (pc' := 32) rfl ?_
 refine g_iload X d12_32 (pc' := 34) rfl rfl ?_
 refine g_ireturn X d12_34 hret hlk (by decide) (by decide) ?_
 subst qc qh
 exact ⟨congrArg (fun z => some (Value.int z)) (Eq.symm (show fCp210 k0 k1 k2 k3 o0 o1 o2 o3 = (fCU k2 o1) from (by unfold fCp210; dsimp only; rw [if_pos qa, if_neg qb]))), rfl, rfl⟩
 refine g_ifN X d12_29 ((if0 _ _).trans (feq qa).1) (pc' := 32) rfl ?_
 refine g_iload X d12_32 (pc' := 34) rfl rfl ?_
 refine g_ireturn X d12_34 hret hlk (by decide) (by decide) ?_
 subst qc
 exact ⟨congrArg (fun z => some (Value.int z)) (Eq.symm (show fCp210 k0 k1 k2 k3 o0 o1 o2 o3 = (fCU k1 o0) from (by unfold fCp210; dsimp only; rw [if_neg qa]))), rfl, rfl⟩
def fCp211 (k0 : Int64) (k1 : Int64) (k2 : Int64) (k3 : Int64) (o0 : Int64) (o1 : Int64) (o2 : Int64) (o3 : Int64) : Int32 := let v25_1 : Int32 := (fCU k1 o1); if v25_1 = (0 : Int32) then (let v25_3 : Int32 := (fCU k2 o2); if v25_3 = (0 : Int32) then ((0 : Int32)) else (v25_3)) else (v25_1)
theorem ef_rCp211 (m : MethodId) (x0 : Addr) (x1 : Int32) (x2 : Addr) (x3 : Int32) (x4 : Int32) : entryFrame m #[(.ref x0), (.int x1), (.ref x2), (.int x3), (.int x4)] 7 = mkF m 0 #[.val (.ref x0), .val (.int x1), .val (.ref x2), .val (.int x3), .val (.int x4), .unset, .unset] [] := by first | (simp [entryFrame, mkF, argsToLocals, Value.category]; done) | rfl
set_option maxRecDepth 65536 in
set_option maxHeartbeats 40000000 in
theorem rCp211 (l : Launch) (Z : State) (aa : Array Value) (hw : ∀ d ∈ tables_1, d.before aa Z = true) (ws : List Jvm.Cond) (wk : Addr) (wo : Addr) (k0 : Int64) (k1 : Int64) (k2 : Int64) (k3 : Int64) (o0 : Int64) (o1 : Int64) (o2 : Int64) (o3 : Int64) (h0 : Heap) (qf : Av Z h0 wk .long [(.long k0), (.long k1), (.long k2), (.long k3)]) (qg : Av Z h0 wo .long [(.long o0), (.long o1), (.long o2), (.long o3)]) :
    Rm l Z (⟨"com/example/ryazan/ryazan/language/Layout", "compare", "([JI[JII)I"⟩ : MethodName) prog_58_method_5_code 7 (some .int) ws ({ frames := 2, cells := 0, slots := 0, locals := 30 } : Room) #[(.ref wk), (.int (1 : Int32)), (.ref wo), (.int (1 : Int32)), (.int (2 : Int32))] h0 (Pu (.int (fCp211 k0 k1 k2 k3 o0 o1 o2 o3)) h0) := by
 refine Rm.of (plainFor_of_name pn_3) ?_
 intro p e s m below meth cc T X hnm hret hlk
 refine Go.at_ (ef_rCp211 m wk (1 : Int32) wo (1 : Int32) (2 : Int32)) ?_
 refine g_iconst X (0 : Int32) d12_0 (pc' := 1) rfl rfl ?_
 refine g_istore X d12_1 (pc' := 3) (Ls' := #[.val (.ref wk), .val (.int (1 : Int32)), .val (.ref wo), .val (.int (1 : Int32)), .val (.int (2 : Int32)), .val (.int (0 : Int32)), .unset]) rfl rfl ?_
 refine g_iload X d12_3 (pc' := 5) rfl rfl ?_
 refine g_iload X d12_5 (pc' := 7) rfl rfl ?_
 refine g_icN X d12_7 (tlt (show (0 : Int32) < (2 : Int32) from (by decide))).2.1 (pc' := 10) rfl ?_
 refine g_aloadN X d12_10 (pc' := 11) rfl rfl rfl ?_
 refine g_iloadN X d12_11 (pc' := 12) rfl rfl ?_
 refine g_iload X d12_12 (pc' := 14) rfl rfl ?_
 refine g_iadd X d12_14 (pc' := 15) rfl ?_
 refine Go.lit32 (z := (1 : Int32)) (by decide) ?_
 refine g_laload X qf 1 d12_15 (pc' := 16) rfl (by decide) (by decide) rfl ?_
 refine g_aloadN X d12_16 (pc' := 17) rfl rfl rfl ?_
 refine g_iloadN X d12_17 (pc' := 18) rfl rfl ?_
 refine g_iload X d12_18 (pc' := 20) rfl rfl ?_
 refine g_iadd X d12_20 (pc' := 21) rfl ?_
 refine Go.lit32 (z := (1 : Int32)) (by decide) ?_
 refine g_laload X qg 1 d12_21 (pc' := 22) rfl (by decide) (by decide) rfl ?_
 refine g_static X (W := 0) [(.long k1), (.long o1)] [] (tb hw 79 rfl) (tb hw 80 rfl) (tb hw 37 rfl) (tb hw 81 rfl) (rCU l Z aa hw [] k1 o1 _) d12_22 (pc' := 25) rfl (by decide) (by decide) (by decide) rfl rfl rfl (lenOf pd_1 rfl) (Nat.le_refl _) (by decide) (by decide) ?_
 intro v T L X q
 obtain ⟨rfl, X⟩ := pureX X q
 show Go p e below _ (T.setTop (mkF m 25 _ [(.int (fCU k1 o1))]))
 generalize qc : (fCU k1 o1) = qd
 refine g_istore X d12_25 (pc' := 27) (Ls' := #[.val (.ref wk), .val (.int (1 : Int32)), .val (.ref wo), .val (.int (1 : Int32)), .val (.int (2 : Int32)), .val (.int (0 : Int32)), .val (.int qd)]) rfl rfl ?_
 refine g_iload X d12_27 (pc' := 29) rfl rfl ?_
 by_cases qa : qd = (0 : Int32)
 refine g_ifY X d12_29 ((if0 _ _).trans (teq qa).1) (pc' := 35) (by decide) (by decide) ?_
 refine g_iinc X d12_35 (pc' := 38) (q := (1 : Int32)) (Ls' := #[.val (.ref wk), .val (.int (1 : Int32)), .val (.ref wo), .val (.int (1 : Int32)), .val (.int (2 : Int32)), .val (.int (1 : Int32)), .val (.int qd)]) rfl rfl rfl rfl ?_
 refine g_goto X d12_38 (pc' := 3) (by decide) (by decide) ?_
 refine g_iload X d12_3 (pc' := 5) rfl rfl ?_
 refine g_iload X d12_5 (pc' := 7) rfl rfl ?_
 refine g_icN X d12_7 (tlt (show (1 : Int32) < (2 : Int32) from (by decide))).2.1 (pc' := 10) rfl ?_
 refine g_aloadN X d12_10 (pc' := 11) rfl rfl rfl ?_
 refine g_iloadN X d12_11 (pc' := 12) rfl rfl ?_
 refine g_iload X d12_12 (pc' := 14) rfl rfl ?_
 refine g_iadd X d12_14 (pc' := 15) rfl ?_
 refine Go.lit32 (z := (2 : Int32)) (by decide) ?_
 refine g_laload X qf 2 d12_15 (pc' := 16) rfl (by decide) (by decide) rfl ?_
 refine g_aloadN X d12_16 (pc' := 17) rfl rfl rfl ?_
 refine g_iloadN X d12_17 (pc' := 18) rfl rfl ?_
 refine g_iload X d12_18 (pc' := 20) rfl rfl ?_
 refine g_iadd X d12_20 (pc' := 21) rfl ?_
 refine Go.lit32 (z := (2 : Int32)) (by decide) ?_
 refine g_laload X qg 2 d12_21 (pc' := 22) rfl (by decide) (by decide) rfl ?_
 refine g_static X (W := 0) [(.long k2), (.long o2)] [] (tb hw 79 rfl) (tb hw 80 rfl) (tb hw 37 rfl) (tb hw 81 rfl) (rCU l Z aa hw [] k2 o2 _) d12_22 (pc' := 25) rfl (by decide) (by decide) (by decide) rfl rfl rfl (lenOf pd_1 rfl) (Nat.le_refl _) (by decide) (by decide) ?_
 intro v T L X q
 obtain ⟨rfl, X⟩ := pureX X q
 show Go p e below _ (T.setTop (mkF m 25 _ [(.int (fCU k2 o2))]))
 generalize qh : (fCU k2 o2) = qe
 refine g_istore X d12_25 (pc' := 27) (Ls' := #[.val (.ref wk), .val (.int (1 : Int32)), .val (.ref wo), .val (.int (1 : Int32)), .val (.int (2 : Int32)), .val (.int (1 : Int32)), .val (.int qe)]) rfl rfl ?_
 refine g_iload X d12_27 (pc' := 29) rfl rfl ?_
 by_cases qb : qe = (0 : Int32)
 refine g_ifY X d12_29 ((if0 _ _).trans (teq qb).1) (pc' := 35) (by decide) (by decide) ?_
 refine g_iinc X d12_35 (pc' := 38) (q := (1 : Int32)) (Ls' := #[.val (.ref wk), .val (.int (1 : Int32)), .val (.ref wo), .val (.int (1 : Int32)), .val (.int (2 : Int32)), .val (.int (2 : Int32)), .val (.int qe)]) rfl rfl rfl rfl ?_
 refine g_goto X d12_38 (pc' := 3) (by decide) (by decide) ?_
 refine g_iload X d12_3 (pc' := 5) rfl rfl ?_
 refine g_iload X d12_5 (pc' := 7) rfl rfl ?_
 refine g_icY X d12_7 (flt (show ¬ ((2 : Int32) < (2 : Int32)) from (by decide))).2.1 (pc' := 41) (by decide) (by decide) ?_
 refine g_iconst X (0 : Int32) d12_41 (pc' := 42) rfl rfl ?_
 refine g_ireturn X d12_42 hret hlk (by decide) (by decide) ?_
 subst qc qh
 exact ⟨congrArg (fun z => some (Value.int z)) (Eq.symm (show fCp211 k0 k1 k2 k3 o0 o1 o2 o3 = (0 : Int32) from (by unfold fCp211; dsimp only; rw [if_pos qa, if_pos qb]))), rfl, rfl⟩
 refine g_ifN X d12_29 ((if0 _ _).trans (feq qb).1) (pc' := 32) rfl ?_
 refine g_iload X d12_32 (pc' := 34) rfl rfl ?_
 refine g_ireturn X d12_34 hret hlk (by decide) (by decide) ?_
 subst qc qh
 exact ⟨congrArg (fun z => some (Value.int z)) (Eq.symm (show fCp211 k0 k1 k2 k3 o0 o1 o2 o3 = (fCU k2 o2) from (by unfold fCp211; dsimp only; rw [if_pos qa, if_neg qb]))), rfl, rfl⟩
 refine g_ifN X d12_29 ((if0 _ _).trans (feq qa).1) (pc' := 32) rfl ?_
 refine g_iload X d12_32 (pc' := 34) rfl rfl ?_
 refine g_ireturn X d12_34 hret hlk (by decide) (by decide) ?_
 subst qc
 exact ⟨congrArg (fun z => some (Value.int z)) (Eq.symm (show fCp211 k0 k1 k2 k3 o0 o1 o2 o3 = (fCU k1 o1) from (by unfold fCp211; dsimp only; rw [if_neg qa]))), rfl, rfl⟩
def sel (o : Int32) (a b : Int64) : Int64 := if o = 0 then a else b
theorem sel0 (a b : Int64) : sel 0 a b = a := if_pos rfl
theorem sel1 (a b : Int64) : sel 1 a b = b := if_neg (by decide)
def seli (o : Int32) (a b : Int32) : Int32 := if o = 0 then a else b
theorem seli0 (a b : Int32) : seli 0 a b = a := if_pos rfl
theorem seli1 (a b : Int32) : seli 1 a b = b := if_neg (by decide)
set_option maxRecDepth 65536 in
theorem rPkS0 (l : Launch) (Z : State) (aa : Array Value) (hw : ∀ d ∈ tables_1, d.before aa Z = true) (ws : List Jvm.Cond) (oo : Int32) (a0 : Addr) (wv : Addr) (wk : Addr) (wl : Addr) (ww : Addr) (wt : Addr) (l0 : Int32) (l1 : Int32) (l2 : Int32) (l3 : Int32) (s0 : Int32) (s1 : Int32) (s2 : Int32) (s3 : Int32) (x0 : Int32) (x1 : Int32) (x2 : Int32) (x3 : Int32) (k0 : Int64) (k1 : Int64) (k2 : Int64) (k3 : Int64) (h0 : Heap) (n0 : Nat) (Z0 : n0 ≤ h0.size) (qa : Exa Z h0 a0 "com/example/ryazan/ryazan/language/Layout") (qb : Fld Z h0 a0 "com/example/ryazan/ryazan/language/Layout" "low" "[I" (.ref wl)) (qc : Fld Z h0 a0 "com/example/ryazan/ryazan/language/Layout" "word" "[I" (.ref ww)) (qd : Fld Z h0 a0 "com/example/ryazan/ryazan/language/Layout" "shift" "[I" (.ref wt)) (qe : Fld Z h0 a0 "com/example/ryazan/ryazan/language/Layout" "width" "I" (.int (1 : Int32))) (qf : Av Z h0 wl .int [(.int l0), (.int l1), (.int l2), (.int l3)]) (qg : Av Z h0 ww .int [(.int (0 : Int32)), (.int (0 : Int32)), (.int (0 : Int32)), (.int (0 : Int32))]) (qh : Av Z h0 wt .int [(.int s0), (.int s1), (.int s2), (.int s3)]) (qi : Av Z h0 wv .int [(.int x0), (.int x1), (.int x2), (.int x3)]) (qj : Av Z h0 wk .long [(.long k0), (.long k1), (.long k2), (.long k3)]) (qk : n0 ≤ wk) (ql : a0 ≠ wk) (qm : wl ≠ wk) (qn : ww ≠ wk) (qo : wt ≠ wk) (qp : wv ≠ wk) (ho_oo : oo = 0 ∨ oo = 1) :
    Rm l Z (⟨"com/example/ryazan/ryazan/language/Layout", "pack", "([I[JI)V"⟩ : MethodName) prog_58_method_3_code 5 none ws ({ frames := 0, cells := 0, slots := 0, locals := 0 } : Room) #[(.ref a0), (.ref wv), (.ref wk), (.int oo)] h0 (fun v h L => v = none ∧ Fr n0 L ∧ Keep h0 h [wk] ∧ Av Z h wk .long [(.long (sel oo (((((0 : Int64) ||| (((x0.toInt64) - (l0.toInt64)) <<< (s0 &&& 0x3f).toInt64)) ||| (((x1.toInt64) - (l1.toInt64)) <<< (s1 &&& 0x3f).toInt64)) ||| (((x2.toInt64) - (l2.toInt64)) <<< (s2 &&& 0x3f).toInt64)) ||| (((x3.toInt64) - (l3.toInt64)) <<< (s3 &&& 0x3f).toInt64)) k0)), (.long (sel oo k1 (((((0 : Int64) ||| (((x0.toInt64) - (l0.toInt64)) <<< (s0 &&& 0x3f).toInt64)) ||| (((x1.toInt64) - (l1.toInt64)) <<< (s1 &&& 0x3f).toInt64)) ||| (((x2.toInt64) - (l2.toInt64)) <<< (s2 &&& 0x3f).toInt64)) ||| (((x3.toInt64) - (l3.toInt64)) <<< (s3 &&& 0x3f).toInt64)))), (.long k2), (.long k3)]) := by
  rcases ho_oo with ho | ho
  · subst ho
    refine Rm.weaken (rPk00 l Z aa hw ws a0 wv wk wl ww wt l0 l1 l2 l3 s0 s1 s2 s3 x0 x1 x2 x3 k0 k1 k2 k3 h0 n0 Z0 qa qb qc qd qe qf qg qh qi qj qk ql qm qn qo qp) fun v h L q => ?_
    simp only [sel0, seli0]; exact q
  · subst ho
    refine Rm.weaken (rPk01 l Z aa hw ws a0 wv wk wl ww wt l0 l1 l2 l3 s0 s1 s2 s3 x0 x1 x2 x3 k0 k1 k2 k3 h0 n0 Z0 qa qb qc qd qe qf qg qh qi qj qk ql qm qn qo qp) fun v h L q => ?_
    simp only [sel1, seli1]; exact q
set_option maxRecDepth 65536 in
theorem rPkS1 (l : Launch) (Z : State) (aa : Array Value) (hw : ∀ d ∈ tables_1, d.before aa Z = true) (ws : List Jvm.Cond) (oo : Int32) (a0 : Addr) (wv : Addr) (wk : Addr) (wl : Addr) (ww : Addr) (wt : Addr) (l0 : Int32) (l1 : Int32) (l2 : Int32) (l3 : Int32) (s0 : Int32) (s1 : Int32) (s2 : Int32) (s3 : Int32) (x0 : Int32) (x1 : Int32) (x2 : Int32) (x3 : Int32) (k0 : Int64) (k1 : Int64) (k2 : Int64) (k3 : Int64) (h0 : Heap) (n0 : Nat) (Z0 : n0 ≤ h0.size) (qa : Exa Z h0 a0 "com/example/ryazan/ryazan/language/Layout") (qb : Fld Z h0 a0 "com/example/ryazan/ryazan/language/Layout" "low" "[I" (.ref wl)) (qc : Fld Z h0 a0 "com/example/ryazan/ryazan/language/Layout" "word" "[I" (.ref ww)) (qd : Fld Z h0 a0 "com/example/ryazan/ryazan/language/Layout" "shift" "[I" (.ref wt)) (qe : Fld Z h0 a0 "com/example/ryazan/ryazan/language/Layout" "width" "I" (.int (2 : Int32))) (qf : Av Z h0 wl .int [(.int l0), (.int l1), (.int l2), (.int l3)]) (qg : Av Z h0 ww .int [(.int (0 : Int32)), (.int (0 : Int32)), (.int (0 : Int32)), (.int (1 : Int32))]) (qh : Av Z h0 wt .int [(.int s0), (.int s1), (.int s2), (.int s3)]) (qi : Av Z h0 wv .int [(.int x0), (.int x1), (.int x2), (.int x3)]) (qj : Av Z h0 wk .long [(.long k0), (.long k1), (.long k2), (.long k3)]) (qk : n0 ≤ wk) (ql : a0 ≠ wk) (qm : wl ≠ wk) (qn : ww ≠ wk) (qo : wt ≠ wk) (qp : wv ≠ wk) (ho_oo : oo = 0 ∨ oo = 1) :
    Rm l Z (⟨"com/example/ryazan/ryazan/language/Layout", "pack", "([I[JI)V"⟩ : MethodName) prog_58_method_3_code 5 none ws ({ frames := 0, cells := 0, slots := 0, locals := 0 } : Room) #[(.ref a0), (.ref wv), (.ref wk), (.int oo)] h0 (fun v h L => v = none ∧ Fr n0 L ∧ Keep h0 h [wk] ∧ Av Z h wk .long [(.long (sel oo ((((0 : Int64) ||| (((x0.toInt64) - (l0.toInt64)) <<< (s0 &&& 0x3f).toInt64)) ||| (((x1.toInt64) - (l1.toInt64)) <<< (s1 &&& 0x3f).toInt64)) ||| (((x2.toInt64) - (l2.toInt64)) <<< (s2 &&& 0x3f).toInt64)) k0)), (.long (sel oo ((0 : Int64) ||| (((x3.toInt64) - (l3.toInt64)) <<< (s3 &&& 0x3f).toInt64)) ((((0 : Int64) ||| (((x0.toInt64) - (l0.toInt64)) <<< (s0 &&& 0x3f).toInt64)) ||| (((x1.toInt64) - (l1.toInt64)) <<< (s1 &&& 0x3f).toInt64)) ||| (((x2.toInt64) - (l2.toInt64)) <<< (s2 &&& 0x3f).toInt64)))), (.long (sel oo k2 ((0 : Int64) ||| (((x3.toInt64) - (l3.toInt64)) <<< (s3 &&& 0x3f).toInt64)))), (.long k3)]) := by
  rcases ho_oo with ho | ho
  · subst ho
    refine Rm.weaken (rPk10 l Z aa hw ws a0 wv wk wl ww wt l0 l1 l2 l3 s0 s1 s2 s3 x0 x1 x2 x3 k0 k1 k2 k3 h0 n0 Z0 qa qb qc qd qe qf qg qh qi qj qk ql qm qn qo qp) fun v h L q => ?_
    simp only [sel0, seli0]; exact q
  · subst ho
    refine Rm.weaken (rPk11 l Z aa hw ws a0 wv wk wl ww wt l0 l1 l2 l3 s0 s1 s2 s3 x0 x1 x2 x3 k0 k1 k2 k3 h0 n0 Z0 qa qb qc qd qe qf qg qh qi qj qk ql qm qn qo qp) fun v h L q => ?_
    simp only [sel1, seli1]; exact q
set_option maxRecDepth 65536 in
theorem rPkS2 (l : Launch) (Z : State) (aa : Array Value) (hw : ∀ d ∈ tables_1, d.before aa Z = true) (ws : List Jvm.Cond) (oo : Int32) (a0 : Addr) (wv : Addr) (wk : Addr) (wl : Addr) (ww : Addr) (wt : Addr) (l0 : Int32) (l1 : Int32) (l2 : Int32) (l3 : Int32) (s0 : Int32) (s1 : Int32) (s2 : Int32) (s3 : Int32) (x0 : Int32) (x1 : Int32) (x2 : Int32) (x3 : Int32) (k0 : Int64) (k1 : Int64) (k2 : Int64) (k3 : Int64) (h0 : Heap) (n0 : Nat) (Z0 : n0 ≤ h0.size) (qa : Exa Z h0 a0 "com/example/ryazan/ryazan/language/Layout") (qb : Fld Z h0 a0 "com/example/ryazan/ryazan/language/Layout" "low" "[I" (.ref wl)) (qc : Fld Z h0 a0 "com/example/ryazan/ryazan/language/Layout" "word" "[I" (.ref ww)) (qd : Fld Z h0 a0 "com/example/ryazan/ryazan/language/Layout" "shift" "[I" (.ref wt)) (qe : Fld Z h0 a0 "com/example/ryazan/ryazan/language/Layout" "width" "I" (.int (2 : Int32))) (qf : Av Z h0 wl .int [(.int l0), (.int l1), (.int l2), (.int l3)]) (qg : Av Z h0 ww .int [(.int (0 : Int32)), (.int (0 : Int32)), (.int (1 : Int32)), (.int (1 : Int32))]) (qh : Av Z h0 wt .int [(.int s0), (.int s1), (.int s2), (.int s3)]) (qi : Av Z h0 wv .int [(.int x0), (.int x1), (.int x2), (.int x3)]) (qj : Av Z h0 wk .long [(.long k0), (.long k1), (.long k2), (.long k3)]) (qk : n0 ≤ wk) (ql : a0 ≠ wk) (qm : wl ≠ wk) (qn : ww ≠ wk) (qo : wt ≠ wk) (qp : wv ≠ wk) (ho_oo : oo = 0 ∨ oo = 1) :
    Rm l Z (⟨"com/example/ryazan/ryazan/language/Layout", "pack", "([I[JI)V"⟩ : MethodName) prog_58_method_3_code 5 none ws ({ frames := 0, cells := 0, slots := 0, locals := 0 } : Room) #[(.ref a0), (.ref wv), (.ref wk), (.int oo)] h0 (fun v h L => v = none ∧ Fr n0 L ∧ Keep h0 h [wk] ∧ Av Z h wk .long [(.long (sel oo (((0 : Int64) ||| (((x0.toInt64) - (l0.toInt64)) <<< (s0 &&& 0x3f).toInt64)) ||| (((x1.toInt64) - (l1.toInt64)) <<< (s1 &&& 0x3f).toInt64)) k0)), (.long (sel oo (((0 : Int64) ||| (((x2.toInt64) - (l2.toInt64)) <<< (s2 &&& 0x3f).toInt64)) ||| (((x3.toInt64) - (l3.toInt64)) <<< (s3 &&& 0x3f).toInt64)) (((0 : Int64) ||| (((x0.toInt64) - (l0.toInt64)) <<< (s0 &&& 0x3f).toInt64)) ||| (((x1.toInt64) - (l1.toInt64)) <<< (s1 &&& 0x3f).toInt64)))), (.long (sel oo k2 (((0 : Int64) ||| (((x2.toInt64) - (l2.toInt64)) <<< (s2 &&& 0x3f).toInt64)) ||| (((x3.toInt64) - (l3.toInt64)) <<< (s3 &&& 0x3f).toInt64)))), (.long k3)]) := by
  rcases ho_oo with ho | ho
  · subst ho
    refine Rm.weaken (rPk20 l Z aa hw ws a0 wv wk wl ww wt l0 l1 l2 l3 s0 s1 s2 s3 x0 x1 x2 x3 k0 k1 k2 k3 h0 n0 Z0 qa qb qc qd qe qf qg qh qi qj qk ql qm qn qo qp) fun v h L q => ?_
    simp only [sel0, seli0]; exact q
  · subst ho
    refine Rm.weaken (rPk21 l Z aa hw ws a0 wv wk wl ww wt l0 l1 l2 l3 s0 s1 s2 s3 x0 x1 x2 x3 k0 k1 k2 k3 h0 n0 Z0 qa qb qc qd qe qf qg qh qi qj qk ql qm qn qo qp) fun v h L q => ?_
    simp only [sel1, seli1]; exact q
set_option maxRecDepth 65536 in
theorem rUpS0 (l : Launch) (Z : State) (aa : Array Value) (hw : ∀ d ∈ tables_1, d.before aa Z = true) (ws : List Jvm.Cond) (oo : Int32) (a0 : Addr) (wk : Addr) (wv : Addr) (wl : Addr) (ww : Addr) (wt : Addr) (wm : Addr) (l0 : Int32) (l1 : Int32) (l2 : Int32) (l3 : Int32) (s0 : Int32) (s1 : Int32) (s2 : Int32) (s3 : Int32) (m0 : Int64) (m1 : Int64) (m2 : Int64) (m3 : Int64) (k0 : Int64) (k1 : Int64) (k2 : Int64) (k3 : Int64) (x0 : Int32) (x1 : Int32) (x2 : Int32) (x3 : Int32) (h0 : Heap) (n0 : Nat) (Z0 : n0 ≤ h0.size) (qa : Exa Z h0 a0 "com/example/ryazan/ryazan/language/Layout") (qb : Fld Z h0 a0 "com/example/ryazan/ryazan/language/Layout" "low" "[I" (.ref wl)) (qc : Fld Z h0 a0 "com/example/ryazan/ryazan/language/Layout" "word" "[I" (.ref ww)) (qd : Fld Z h0 a0 "com/example/ryazan/ryazan/language/Layout" "shift" "[I" (.ref wt)) (qe : Fld Z h0 a0 "com/example/ryazan/ryazan/language/Layout" "mask" "[J" (.ref wm)) (qf : Av Z h0 wl .int [(.int l0), (.int l1), (.int l2), (.int l3)]) (qg : Av Z h0 ww .int [(.int (0 : Int32)), (.int (0 : Int32)), (.int (0 : Int32)), (.int (0 : Int32))]) (qh : Av Z h0 wt .int [(.int s0), (.int s1), (.int s2), (.int s3)]) (qi : Av Z h0 wm .long [(.long m0), (.long m1), (.long m2), (.long m3)]) (qj : Av Z h0 wk .long [(.long k0), (.long k1), (.long k2), (.long k3)]) (qk : Av Z h0 wv .int [(.int x0), (.int x1), (.int x2), (.int x3)]) (ql : n0 ≤ wv) (qm : a0 ≠ wv) (qn : wl ≠ wv) (qo : ww ≠ wv) (qp : wt ≠ wv) (qq : wm ≠ wv) (qr : wk ≠ wv) (ho_oo : oo = 0 ∨ oo = 1) :
    Rm l Z (⟨"com/example/ryazan/ryazan/language/Layout", "unpack", "([JI[I)V"⟩ : MethodName) prog_58_method_4_code 5 none ws ({ frames := 0, cells := 0, slots := 0, locals := 0 } : Room) #[(.ref a0), (.ref wk), (.int oo), (.ref wv)] h0 (fun v h L => v = none ∧ Fr n0 L ∧ Keep h0 h [wv] ∧ Av Z h wv .int [(.int (seli oo (((((k0.toUInt64 >>> (s0 &&& 0x3f).toInt64.toUInt64).toInt64) &&& m0).toInt32) + l0) (((((k1.toUInt64 >>> (s0 &&& 0x3f).toInt64.toUInt64).toInt64) &&& m0).toInt32) + l0))), (.int (seli oo (((((k0.toUInt64 >>> (s1 &&& 0x3f).toInt64.toUInt64).toInt64) &&& m1).toInt32) + l1) (((((k1.toUInt64 >>> (s1 &&& 0x3f).toInt64.toUInt64).toInt64) &&& m1).toInt32) + l1))), (.int (seli oo (((((k0.toUInt64 >>> (s2 &&& 0x3f).toInt64.toUInt64).toInt64) &&& m2).toInt32) + l2) (((((k1.toUInt64 >>> (s2 &&& 0x3f).toInt64.toUInt64).toInt64) &&& m2).toInt32) + l2))), (.int (seli oo (((((k0.toUInt64 >>> (s3 &&& 0x3f).toInt64.toUInt64).toInt64) &&& m3).toInt32) + l3) (((((k1.toUInt64 >>> (s3 &&& 0x3f).toInt64.toUInt64).toInt64) &&& m3).toInt32) + l3)))]) := by
  rcases ho_oo with ho | ho
  · subst ho
    refine Rm.weaken (rUp00 l Z aa hw ws a0 wk wv wl ww wt wm l0 l1 l2 l3 s0 s1 s2 s3 m0 m1 m2 m3 k0 k1 k2 k3 x0 x1 x2 x3 h0 n0 Z0 qa qb qc qd qe qf qg qh qi qj qk ql qm qn qo qp qq qr) fun v h L q => ?_
    simp only [sel0, seli0]; exact q
  · subst ho
    refine Rm.weaken (rUp01 l Z aa hw ws a0 wk wv wl ww wt wm l0 l1 l2 l3 s0 s1 s2 s3 m0 m1 m2 m3 k0 k1 k2 k3 x0 x1 x2 x3 h0 n0 Z0 qa qb qc qd qe qf qg qh qi qj qk ql qm qn qo qp qq qr) fun v h L q => ?_
    simp only [sel1, seli1]; exact q
set_option maxRecDepth 65536 in
theorem rUpS1 (l : Launch) (Z : State) (aa : Array Value) (hw : ∀ d ∈ tables_1, d.before aa Z = true) (ws : List Jvm.Cond) (oo : Int32) (a0 : Addr) (wk : Addr) (wv : Addr) (wl : Addr) (ww : Addr) (wt : Addr) (wm : Addr) (l0 : Int32) (l1 : Int32) (l2 : Int32) (l3 : Int32) (s0 : Int32) (s1 : Int32) (s2 : Int32) (s3 : Int32) (m0 : Int64) (m1 : Int64) (m2 : Int64) (m3 : Int64) (k0 : Int64) (k1 : Int64) (k2 : Int64) (k3 : Int64) (x0 : Int32) (x1 : Int32) (x2 : Int32) (x3 : Int32) (h0 : Heap) (n0 : Nat) (Z0 : n0 ≤ h0.size) (qa : Exa Z h0 a0 "com/example/ryazan/ryazan/language/Layout") (qb : Fld Z h0 a0 "com/example/ryazan/ryazan/language/Layout" "low" "[I" (.ref wl)) (qc : Fld Z h0 a0 "com/example/ryazan/ryazan/language/Layout" "word" "[I" (.ref ww)) (qd : Fld Z h0 a0 "com/example/ryazan/ryazan/language/Layout" "shift" "[I" (.ref wt)) (qe : Fld Z h0 a0 "com/example/ryazan/ryazan/language/Layout" "mask" "[J" (.ref wm)) (qf : Av Z h0 wl .int [(.int l0), (.int l1), (.int l2), (.int l3)]) (qg : Av Z h0 ww .int [(.int (0 : Int32)), (.int (0 : Int32)), (.int (0 : Int32)), (.int (1 : Int32))]) (qh : Av Z h0 wt .int [(.int s0), (.int s1), (.int s2), (.int s3)]) (qi : Av Z h0 wm .long [(.long m0), (.long m1), (.long m2), (.long m3)]) (qj : Av Z h0 wk .long [(.long k0), (.long k1), (.long k2), (.long k3)]) (qk : Av Z h0 wv .int [(.int x0), (.int x1), (.int x2), (.int x3)]) (ql : n0 ≤ wv) (qm : a0 ≠ wv) (qn : wl ≠ wv) (qo : ww ≠ wv) (qp : wt ≠ wv) (qq : wm ≠ wv) (qr : wk ≠ wv) (ho_oo : oo = 0 ∨ oo = 1) :
    Rm l Z (⟨"com/example/ryazan/ryazan/language/Layout", "unpack", "([JI[I)V"⟩ : MethodName) prog_58_method_4_code 5 none ws ({ frames := 0, cells := 0, slots := 0, locals := 0 } : Room) #[(.ref a0), (.ref wk), (.int oo), (.ref wv)] h0 (fun v h L => v = none ∧ Fr n0 L ∧ Keep h0 h [wv] ∧ Av Z h wv .int [(.int (seli oo (((((k0.toUInt64 >>> (s0 &&& 0x3f).toInt64.toUInt64).toInt64) &&& m0).toInt32) + l0) (((((k1.toUInt64 >>> (s0 &&& 0x3f).toInt64.toUInt64).toInt64) &&& m0).toInt32) + l0))), (.int (seli oo (((((k0.toUInt64 >>> (s1 &&& 0x3f).toInt64.toUInt64).toInt64) &&& m1).toInt32) + l1) (((((k1.toUInt64 >>> (s1 &&& 0x3f).toInt64.toUInt64).toInt64) &&& m1).toInt32) + l1))), (.int (seli oo (((((k0.toUInt64 >>> (s2 &&& 0x3f).toInt64.toUInt64).toInt64) &&& m2).toInt32) + l2) (((((k1.toUInt64 >>> (s2 &&& 0x3f).toInt64.toUInt64).toInt64) &&& m2).toInt32) + l2))), (.int (seli oo (((((k1.toUInt64 >>> (s3 &&& 0x3f).toInt64.toUInt64).toInt64) &&& m3).toInt32) + l3) (((((k2.toUInt64 >>> (s3 &&& 0x3f).toInt64.toUInt64).toInt64) &&& m3).toInt32) + l3)))]) := by
  rcases ho_oo with ho | ho
  · subst ho
    refine Rm.weaken (rUp10 l Z aa hw ws a0 wk wv wl ww wt wm l0 l1 l2 l3 s0 s1 s2 s3 m0 m1 m2 m3 k0 k1 k2 k3 x0 x1 x2 x3 h0 n0 Z0 qa qb qc qd qe qf qg qh qi qj qk ql qm qn qo qp qq qr) fun v h L q => ?_
    simp only [sel0, seli0]; exact q
  · subst ho
    refine Rm.weaken (rUp11 l Z aa hw ws a0 wk wv wl ww wt wm l0 l1 l2 l3 s0 s1 s2 s3 m0 m1 m2 m3 k0 k1 k2 k3 x0 x1 x2 x3 h0 n0 Z0 qa qb qc qd qe qf qg qh qi qj qk ql qm qn qo qp qq qr) fun v h L q => ?_
    simp only [sel1, seli1]; exact q
set_option maxRecDepth 65536 in
theorem rUpS2 (l : Launch) (Z : State) (aa : Array Value) (hw : ∀ d ∈ tables_1, d.before aa Z = true) (ws : List Jvm.Cond) (oo : Int32) (a0 : Addr) (wk : Addr) (wv : Addr) (wl : Addr) (ww : Addr) (wt : Addr) (wm : Addr) (l0 : Int32) (l1 : Int32) (l2 : Int32) (l3 : Int32) (s0 : Int32) (s1 : Int32) (s2 : Int32) (s3 : Int32) (m0 : Int64) (m1 : Int64) (m2 : Int64) (m3 : Int64) (k0 : Int64) (k1 : Int64) (k2 : Int64) (k3 : Int64) (x0 : Int32) (x1 : Int32) (x2 : Int32) (x3 : Int32) (h0 : Heap) (n0 : Nat) (Z0 : n0 ≤ h0.size) (qa : Exa Z h0 a0 "com/example/ryazan/ryazan/language/Layout") (qb : Fld Z h0 a0 "com/example/ryazan/ryazan/language/Layout" "low" "[I" (.ref wl)) (qc : Fld Z h0 a0 "com/example/ryazan/ryazan/language/Layout" "word" "[I" (.ref ww)) (qd : Fld Z h0 a0 "com/example/ryazan/ryazan/language/Layout" "shift" "[I" (.ref wt)) (qe : Fld Z h0 a0 "com/example/ryazan/ryazan/language/Layout" "mask" "[J" (.ref wm)) (qf : Av Z h0 wl .int [(.int l0), (.int l1), (.int l2), (.int l3)]) (qg : Av Z h0 ww .int [(.int (0 : Int32)), (.int (0 : Int32)), (.int (1 : Int32)), (.int (1 : Int32))]) (qh : Av Z h0 wt .int [(.int s0), (.int s1), (.int s2), (.int s3)]) (qi : Av Z h0 wm .long [(.long m0), (.long m1), (.long m2), (.long m3)]) (qj : Av Z h0 wk .long [(.long k0), (.long k1), (.long k2), (.long k3)]) (qk : Av Z h0 wv .int [(.int x0), (.int x1), (.int x2), (.int x3)]) (ql : n0 ≤ wv) (qm : a0 ≠ wv) (qn : wl ≠ wv) (qo : ww ≠ wv) (qp : wt ≠ wv) (qq : wm ≠ wv) (qr : wk ≠ wv) (ho_oo : oo = 0 ∨ oo = 1) :
    Rm l Z (⟨"com/example/ryazan/ryazan/language/Layout", "unpack", "([JI[I)V"⟩ : MethodName) prog_58_method_4_code 5 none ws ({ frames := 0, cells := 0, slots := 0, locals := 0 } : Room) #[(.ref a0), (.ref wk), (.int oo), (.ref wv)] h0 (fun v h L => v = none ∧ Fr n0 L ∧ Keep h0 h [wv] ∧ Av Z h wv .int [(.int (seli oo (((((k0.toUInt64 >>> (s0 &&& 0x3f).toInt64.toUInt64).toInt64) &&& m0).toInt32) + l0) (((((k1.toUInt64 >>> (s0 &&& 0x3f).toInt64.toUInt64).toInt64) &&& m0).toInt32) + l0))), (.int (seli oo (((((k0.toUInt64 >>> (s1 &&& 0x3f).toInt64.toUInt64).toInt64) &&& m1).toInt32) + l1) (((((k1.toUInt64 >>> (s1 &&& 0x3f).toInt64.toUInt64).toInt64) &&& m1).toInt32) + l1))), (.int (seli oo (((((k1.toUInt64 >>> (s2 &&& 0x3f).toInt64.toUInt64).toInt64) &&& m2).toInt32) + l2) (((((k2.toUInt64 >>> (s2 &&& 0x3f).toInt64.toUInt64).toInt64) &&& m2).toInt32) + l2))), (.int (seli oo (((((k1.toUInt64 >>> (s3 &&& 0x3f).toInt64.toUInt64).toInt64) &&& m3).toInt32) + l3) (((((k2.toUInt64 >>> (s3 &&& 0x3f).toInt64.toUInt64).toInt64) &&& m3).toInt32) + l3)))]) := by
  rcases ho_oo with ho | ho
  · subst ho
    refine Rm.weaken (rUp20 l Z aa hw ws a0 wk wv wl ww wt wm l0 l1 l2 l3 s0 s1 s2 s3 m0 m1 m2 m3 k0 k1 k2 k3 x0 x1 x2 x3 h0 n0 Z0 qa qb qc qd qe qf qg qh qi qj qk ql qm qn qo qp qq qr) fun v h L q => ?_
    simp only [sel0, seli0]; exact q
  · subst ho
    refine Rm.weaken (rUp21 l Z aa hw ws a0 wk wv wl ww wt wm l0 l1 l2 l3 s0 s1 s2 s3 m0 m1 m2 m3 k0 k1 k2 k3 x0 x1 x2 x3 h0 n0 Z0 qa qb qc qd qe qf qg qh qi qj qk ql qm qn qo qp qq qr) fun v h L q => ?_
    simp only [sel1, seli1]; exact q
def fUtS1 (oo : Int32) (j3 : Int64) (k0 : Int64) (k1 : Int64) (k2 : Int64) (k3 : Int64) : Bool := if oo = 0 then fUt10 j3 k0 k1 k2 k3 else fUt11 j3 k0 k1 k2 k3
set_option maxRecDepth 65536 in
theorem rUtS1 (l : Launch) (Z : State) (aa : Array Value) (hw : ∀ d ∈ tables_1, d.before aa Z = true) (ws : List Jvm.Cond) (oo : Int32) (wk : Addr) (j3 : Int64) (k0 : Int64) (k1 : Int64) (k2 : Int64) (k3 : Int64) (h0 : Heap) (qa : Av Z h0 wk .long [(.long k0), (.long k1), (.long k2), (.long k3)]) (ho_oo : oo = 0 ∨ oo = 1) :
    Rm l Z (⟨"com/example/ryazan/ryazan/language/LayoutPackPinLaw", "untouched", "([JIIJ)Z"⟩ : MethodName) method_6_code 6 (some .boolean) ws ({ frames := 0, cells := 0, slots := 0, locals := 0 } : Room) #[(.ref wk), (.int oo), (.int (1 : Int32)), (.long j3)] h0 (Pu (.int (b2i (fUtS1 oo j3 k0 k1 k2 k3))) h0) := by
  rcases ho_oo with ho | ho
  · subst ho
    refine Rm.weaken (rUt10 l Z aa hw ws wk j3 k0 k1 k2 k3 h0 qa) fun v h L q => ?_
    rw [show fUtS1 0 j3 k0 k1 k2 k3 = fUt10 j3 k0 k1 k2 k3 from if_pos rfl]; exact q
  · subst ho
    refine Rm.weaken (rUt11 l Z aa hw ws wk j3 k0 k1 k2 k3 h0 qa) fun v h L q => ?_
    rw [show fUtS1 1 j3 k0 k1 k2 k3 = fUt11 j3 k0 k1 k2 k3 from if_neg (by decide)]; exact q
def fUtS2 (oo : Int32) (j3 : Int64) (k0 : Int64) (k1 : Int64) (k2 : Int64) (k3 : Int64) : Bool := if oo = 0 then fUt20 j3 k0 k1 k2 k3 else fUt21 j3 k0 k1 k2 k3
set_option maxRecDepth 65536 in
theorem rUtS2 (l : Launch) (Z : State) (aa : Array Value) (hw : ∀ d ∈ tables_1, d.before aa Z = true) (ws : List Jvm.Cond) (oo : Int32) (wk : Addr) (j3 : Int64) (k0 : Int64) (k1 : Int64) (k2 : Int64) (k3 : Int64) (h0 : Heap) (qa : Av Z h0 wk .long [(.long k0), (.long k1), (.long k2), (.long k3)]) (ho_oo : oo = 0 ∨ oo = 1) :
    Rm l Z (⟨"com/example/ryazan/ryazan/language/LayoutPackPinLaw", "untouched", "([JIIJ)Z"⟩ : MethodName) method_6_code 6 (some .boolean) ws ({ frames := 0, cells := 0, slots := 0, locals := 0 } : Room) #[(.ref wk), (.int oo), (.int (2 : Int32)), (.long j3)] h0 (Pu (.int (b2i (fUtS2 oo j3 k0 k1 k2 k3))) h0) := by
  rcases ho_oo with ho | ho
  · subst ho
    refine Rm.weaken (rUt20 l Z aa hw ws wk j3 k0 k1 k2 k3 h0 qa) fun v h L q => ?_
    rw [show fUtS2 0 j3 k0 k1 k2 k3 = fUt20 j3 k0 k1 k2 k3 from if_pos rfl]; exact q
  · subst ho
    refine Rm.weaken (rUt21 l Z aa hw ws wk j3 k0 k1 k2 k3 h0 qa) fun v h L q => ?_
    rw [show fUtS2 1 j3 k0 k1 k2 k3 = fUt21 j3 k0 k1 k2 k3 from if_neg (by decide)]; exact q
def fCpT10 (ob : Int32) (k0 : Int64) (k1 : Int64) (k2 : Int64) (k3 : Int64) (o0 : Int64) (o1 : Int64) (o2 : Int64) (o3 : Int64) : Int32 := if ob = 0 then fCp100 k0 k1 k2 k3 o0 o1 o2 o3 else fCp101 k0 k1 k2 k3 o0 o1 o2 o3
set_option maxRecDepth 65536 in
theorem rCpT10 (l : Launch) (Z : State) (aa : Array Value) (hw : ∀ d ∈ tables_1, d.before aa Z = true) (ws : List Jvm.Cond) (ob : Int32) (wk : Addr) (wo : Addr) (k0 : Int64) (k1 : Int64) (k2 : Int64) (k3 : Int64) (o0 : Int64) (o1 : Int64) (o2 : Int64) (o3 : Int64) (h0 : Heap) (qa : Av Z h0 wk .long [(.long k0), (.long k1), (.long k2), (.long k3)]) (qb : Av Z h0 wo .long [(.long o0), (.long o1), (.long o2), (.long o3)]) (ho_ob : ob = 0 ∨ ob = 1) :
    Rm l Z (⟨"com/example/ryazan/ryazan/language/Layout", "compare", "([JI[JII)I"⟩ : MethodName) prog_58_method_5_code 7 (some .int) ws ({ frames := 2, cells := 0, slots := 0, locals := 30 } : Room) #[(.ref wk), (.int (0 : Int32)), (.ref wo), (.int ob), (.int (1 : Int32))] h0 (Pu (.int (fCpT10 ob k0 k1 k2 k3 o0 o1 o2 o3)) h0) := by
  rcases ho_ob with ho | ho
  · subst ho
    refine Rm.weaken (rCp100 l Z aa hw ws wk wo k0 k1 k2 k3 o0 o1 o2 o3 h0 qa qb) fun v h L q => ?_
    rw [show fCpT10 0 k0 k1 k2 k3 o0 o1 o2 o3 = fCp100 k0 k1 k2 k3 o0 o1 o2 o3 from if_pos rfl]; exact q
  · subst ho
    refine Rm.weaken (rCp101 l Z aa hw ws wk wo k0 k1 k2 k3 o0 o1 o2 o3 h0 qa qb) fun v h L q => ?_
    rw [show fCpT10 1 k0 k1 k2 k3 o0 o1 o2 o3 = fCp101 k0 k1 k2 k3 o0 o1 o2 o3 from if_neg (by decide)]; exact q
def fCpT11 (ob : Int32) (k0 : Int64) (k1 : Int64) (k2 : Int64) (k3 : Int64) (o0 : Int64) (o1 : Int64) (o2 : Int64) (o3 : Int64) : Int32 := if ob = 0 then fCp110 k0 k1 k2 k3 o0 o1 o2 o3 else fCp111 k0 k1 k2 k3 o0 o1 o2 o3
set_option maxRecDepth 65536 in
theorem rCpT11 (l : Launch) (Z : State) (aa : Array Value) (hw : ∀ d ∈ tables_1, d.before aa Z = true) (ws : List Jvm.Cond) (ob : Int32) (wk : Addr) (wo : Addr) (k0 : Int64) (k1 : Int64) (k2 : Int64) (k3 : Int64) (o0 : Int64) (o1 : Int64) (o2 : Int64) (o3 : Int64) (h0 : Heap) (qa : Av Z h0 wk .long [(.long k0), (.long k1), (.long k2), (.long k3)]) (qb : Av Z h0 wo .long [(.long o0), (.long o1), (.long o2), (.long o3)]) (ho_ob : ob = 0 ∨ ob = 1) :
    Rm l Z (⟨"com/example/ryazan/ryazan/language/Layout", "compare", "([JI[JII)I"⟩ : MethodName) prog_58_method_5_code 7 (some .int) ws ({ frames := 2, cells := 0, slots := 0, locals := 30 } : Room) #[(.ref wk), (.int (1 : Int32)), (.ref wo), (.int ob), (.int (1 : Int32))] h0 (Pu (.int (fCpT11 ob k0 k1 k2 k3 o0 o1 o2 o3)) h0) := by
  rcases ho_ob with ho | ho
  · subst ho
    refine Rm.weaken (rCp110 l Z aa hw ws wk wo k0 k1 k2 k3 o0 o1 o2 o3 h0 qa qb) fun v h L q => ?_
    rw [show fCpT11 0 k0 k1 k2 k3 o0 o1 o2 o3 = fCp110 k0 k1 k2 k3 o0 o1 o2 o3 from if_pos rfl]; exact q
  · subst ho
    refine Rm.weaken (rCp111 l Z aa hw ws wk wo k0 k1 k2 k3 o0 o1 o2 o3 h0 qa qb) fun v h L q => ?_
    rw [show fCpT11 1 k0 k1 k2 k3 o0 o1 o2 o3 = fCp111 k0 k1 k2 k3 o0 o1 o2 o3 from if_neg (by decide)]; exact q
def fCpT20 (ob : Int32) (k0 : Int64) (k1 : Int64) (k2 : Int64) (k3 : Int64) (o0 : Int64) (o1 : Int64) (o2 : Int64) (o3 : Int64) : Int32 := if ob = 0 then fCp200 k0 k1 k2 k3 o0 o1 o2 o3 else fCp201 k0 k1 k2 k3 o0 o1 o2 o3
set_option maxRecDepth 65536 in
theorem rCpT20 (l : Launch) (Z : State) (aa : Array Value) (hw : ∀ d ∈ tables_1, d.before aa Z = true) (ws : List Jvm.Cond) (ob : Int32) (wk : Addr) (wo : Addr) (k0 : Int64) (k1 : Int64) (k2 : Int64) (k3 : Int64) (o0 : Int64) (o1 : Int64) (o2 : Int64) (o3 : Int64) (h0 : Heap) (qa : Av Z h0 wk .long [(.long k0), (.long k1), (.long k2), (.long k3)]) (qb : Av Z h0 wo .long [(.long o0), (.long o1), (.long o2), (.long o3)]) (ho_ob : ob = 0 ∨ ob = 1) :
    Rm l Z (⟨"com/example/ryazan/ryazan/language/Layout", "compare", "([JI[JII)I"⟩ : MethodName) prog_58_method_5_code 7 (some .int) ws ({ frames := 2, cells := 0, slots := 0, locals := 30 } : Room) #[(.ref wk), (.int (0 : Int32)), (.ref wo), (.int ob), (.int (2 : Int32))] h0 (Pu (.int (fCpT20 ob k0 k1 k2 k3 o0 o1 o2 o3)) h0) := by
  rcases ho_ob with ho | ho
  · subst ho
    refine Rm.weaken (rCp200 l Z aa hw ws wk wo k0 k1 k2 k3 o0 o1 o2 o3 h0 qa qb) fun v h L q => ?_
    rw [show fCpT20 0 k0 k1 k2 k3 o0 o1 o2 o3 = fCp200 k0 k1 k2 k3 o0 o1 o2 o3 from if_pos rfl]; exact q
  · subst ho
    refine Rm.weaken (rCp201 l Z aa hw ws wk wo k0 k1 k2 k3 o0 o1 o2 o3 h0 qa qb) fun v h L q => ?_
    rw [show fCpT20 1 k0 k1 k2 k3 o0 o1 o2 o3 = fCp201 k0 k1 k2 k3 o0 o1 o2 o3 from if_neg (by decide)]; exact q
def fCpT21 (ob : Int32) (k0 : Int64) (k1 : Int64) (k2 : Int64) (k3 : Int64) (o0 : Int64) (o1 : Int64) (o2 : Int64) (o3 : Int64) : Int32 := if ob = 0 then fCp210 k0 k1 k2 k3 o0 o1 o2 o3 else fCp211 k0 k1 k2 k3 o0 o1 o2 o3
set_option maxRecDepth 65536 in
theorem rCpT21 (l : Launch) (Z : State) (aa : Array Value) (hw : ∀ d ∈ tables_1, d.before aa Z = true) (ws : List Jvm.Cond) (ob : Int32) (wk : Addr) (wo : Addr) (k0 : Int64) (k1 : Int64) (k2 : Int64) (k3 : Int64) (o0 : Int64) (o1 : Int64) (o2 : Int64) (o3 : Int64) (h0 : Heap) (qa : Av Z h0 wk .long [(.long k0), (.long k1), (.long k2), (.long k3)]) (qb : Av Z h0 wo .long [(.long o0), (.long o1), (.long o2), (.long o3)]) (ho_ob : ob = 0 ∨ ob = 1) :
    Rm l Z (⟨"com/example/ryazan/ryazan/language/Layout", "compare", "([JI[JII)I"⟩ : MethodName) prog_58_method_5_code 7 (some .int) ws ({ frames := 2, cells := 0, slots := 0, locals := 30 } : Room) #[(.ref wk), (.int (1 : Int32)), (.ref wo), (.int ob), (.int (2 : Int32))] h0 (Pu (.int (fCpT21 ob k0 k1 k2 k3 o0 o1 o2 o3)) h0) := by
  rcases ho_ob with ho | ho
  · subst ho
    refine Rm.weaken (rCp210 l Z aa hw ws wk wo k0 k1 k2 k3 o0 o1 o2 o3 h0 qa qb) fun v h L q => ?_
    rw [show fCpT21 0 k0 k1 k2 k3 o0 o1 o2 o3 = fCp210 k0 k1 k2 k3 o0 o1 o2 o3 from if_pos rfl]; exact q
  · subst ho
    refine Rm.weaken (rCp211 l Z aa hw ws wk wo k0 k1 k2 k3 o0 o1 o2 o3 h0 qa qb) fun v h L q => ?_
    rw [show fCpT21 1 k0 k1 k2 k3 o0 o1 o2 o3 = fCp211 k0 k1 k2 k3 o0 o1 o2 o3 from if_neg (by decide)]; exact q
def fCpS1 (oa : Int32) (ob : Int32) (k0 : Int64) (k1 : Int64) (k2 : Int64) (k3 : Int64) (o0 : Int64) (o1 : Int64) (o2 : Int64) (o3 : Int64) : Int32 := if oa = 0 then fCpT10 ob k0 k1 k2 k3 o0 o1 o2 o3 else fCpT11 ob k0 k1 k2 k3 o0 o1 o2 o3
set_option maxRecDepth 65536 in
theorem rCpS1 (l : Launch) (Z : State) (aa : Array Value) (hw : ∀ d ∈ tables_1, d.before aa Z = true) (ws : List Jvm.Cond) (oa : Int32) (ob : Int32) (wk : Addr) (wo : Addr) (k0 : Int64) (k1 : Int64) (k2 : Int64) (k3 : Int64) (o0 : Int64) (o1 : Int64) (o2 : Int64) (o3 : Int64) (h0 : Heap) (qa : Av Z h0 wk .long [(.long k0), (.long k1), (.long k2), (.long k3)]) (qb : Av Z h0 wo .long [(.long o0), (.long o1), (.long o2), (.long o3)]) (ho_ob : ob = 0 ∨ ob = 1) (ho_oa : oa = 0 ∨ oa = 1) :
    Rm l Z (⟨"com/example/ryazan/ryazan/language/Layout", "compare", "([JI[JII)I"⟩ : MethodName) prog_58_method_5_code 7 (some .int) ws ({ frames := 2, cells := 0, slots := 0, locals := 30 } : Room) #[(.ref wk), (.int oa), (.ref wo), (.int ob), (.int (1 : Int32))] h0 (Pu (.int (fCpS1 oa ob k0 k1 k2 k3 o0 o1 o2 o3)) h0) := by
  rcases ho_oa with ho | ho
  · subst ho
    refine Rm.weaken (rCpT10 l Z aa hw ws ob wk wo k0 k1 k2 k3 o0 o1 o2 o3 h0 qa qb ho_ob) fun v h L q => ?_
    rw [show fCpS1 0 ob k0 k1 k2 k3 o0 o1 o2 o3 = fCpT10 ob k0 k1 k2 k3 o0 o1 o2 o3 from if_pos rfl]; exact q
  · subst ho
    refine Rm.weaken (rCpT11 l Z aa hw ws ob wk wo k0 k1 k2 k3 o0 o1 o2 o3 h0 qa qb ho_ob) fun v h L q => ?_
    rw [show fCpS1 1 ob k0 k1 k2 k3 o0 o1 o2 o3 = fCpT11 ob k0 k1 k2 k3 o0 o1 o2 o3 from if_neg (by decide)]; exact q
def fCpS2 (oa : Int32) (ob : Int32) (k0 : Int64) (k1 : Int64) (k2 : Int64) (k3 : Int64) (o0 : Int64) (o1 : Int64) (o2 : Int64) (o3 : Int64) : Int32 := if oa = 0 then fCpT20 ob k0 k1 k2 k3 o0 o1 o2 o3 else fCpT21 ob k0 k1 k2 k3 o0 o1 o2 o3
set_option maxRecDepth 65536 in
theorem rCpS2 (l : Launch) (Z : State) (aa : Array Value) (hw : ∀ d ∈ tables_1, d.before aa Z = true) (ws : List Jvm.Cond) (oa : Int32) (ob : Int32) (wk : Addr) (wo : Addr) (k0 : Int64) (k1 : Int64) (k2 : Int64) (k3 : Int64) (o0 : Int64) (o1 : Int64) (o2 : Int64) (o3 : Int64) (h0 : Heap) (qa : Av Z h0 wk .long [(.long k0), (.long k1), (.long k2), (.long k3)]) (qb : Av Z h0 wo .long [(.long o0), (.long o1), (.long o2), (.long o3)]) (ho_ob : ob = 0 ∨ ob = 1) (ho_oa : oa = 0 ∨ oa = 1) :
    Rm l Z (⟨"com/example/ryazan/ryazan/language/Layout", "compare", "([JI[JII)I"⟩ : MethodName) prog_58_method_5_code 7 (some .int) ws ({ frames := 2, cells := 0, slots := 0, locals := 30 } : Room) #[(.ref wk), (.int oa), (.ref wo), (.int ob), (.int (2 : Int32))] h0 (Pu (.int (fCpS2 oa ob k0 k1 k2 k3 o0 o1 o2 o3)) h0) := by
  rcases ho_oa with ho | ho
  · subst ho
    refine Rm.weaken (rCpT20 l Z aa hw ws ob wk wo k0 k1 k2 k3 o0 o1 o2 o3 h0 qa qb ho_ob) fun v h L q => ?_
    rw [show fCpS2 0 ob k0 k1 k2 k3 o0 o1 o2 o3 = fCpT20 ob k0 k1 k2 k3 o0 o1 o2 o3 from if_pos rfl]; exact q
  · subst ho
    refine Rm.weaken (rCpT21 l Z aa hw ws ob wk wo k0 k1 k2 k3 o0 o1 o2 o3 h0 qa qb ho_ob) fun v h L q => ?_
    rw [show fCpS2 1 ob k0 k1 k2 k3 o0 o1 o2 o3 = fCpT21 ob k0 k1 k2 k3 o0 o1 o2 o3 from if_neg (by decide)]; exact q
theorem minmax (a b : Int32) : (fMin a b).toInt ≤ (fMax a b).toInt := by
  simp only [fMin, fMax, Int32.lt_iff_toInt_lt]
  repeat' split
  all_goals omega
theorem one_more {l h : Int32} (hle : l.toInt ≤ h.toInt) : ((h.toInt64 - l.toInt64) + (1 : Int64)).toInt = h.toInt - l.toInt + 1 ∧ ¬ ((h.toInt64 - l.toInt64) + (1 : Int64)) = (0 : Int64) := by
  have r := rng32 l; have r2 := rng32 h
  have e := span_int l h
  have e2 : ((h.toInt64 - l.toInt64) + (1 : Int64)).toInt = h.toInt - l.toInt + 1 := by
    rw [Int64.toInt_add, e]; simp only [Int64.reduceToInt]; exact Int.bmod_eq_of_le (by omega) (by omega)
  refine ⟨e2, fun q => ?_⟩
  rw [q] at e2; simp only [Int64.reduceToInt] at e2; omega
theorem pick_in {l h : Int32} {r : Int64} (hle : l.toInt ≤ h.toInt) : l.toInt ≤ (fPick r l h).toInt ∧ (fPick r l h).toInt ≤ h.toInt := by
  have a := rng32 l; have b := rng32 h
  obtain ⟨e, hz⟩ := one_more hle
  have hr : (r &&& (9223372036854775807 : Int64)).toInt = r.toInt % 9223372036854775808 := c_maskL r 9223372036854775807 63 (by decide) (by decide)
  have hr0 : 0 ≤ (r &&& (9223372036854775807 : Int64)).toInt := by rw [hr]; exact Int.emod_nonneg _ (by decide)
  have e3 : ((r &&& (9223372036854775807 : Int64)) % ((h.toInt64 - l.toInt64) + (1 : Int64))).toInt = (r &&& (9223372036854775807 : Int64)).toInt % (h.toInt - l.toInt + 1) := by
    rw [Int64.toInt_mod, e, Int.tmod_eq_emod_of_nonneg hr0]
  have f1 : 0 ≤ (r &&& (9223372036854775807 : Int64)).toInt % (h.toInt - l.toInt + 1) := Int.emod_nonneg _ (by omega)
  have f2 : (r &&& (9223372036854775807 : Int64)).toInt % (h.toInt - l.toInt + 1) < h.toInt - l.toInt + 1 := Int.emod_lt_of_pos _ (by omega)
  have e4 : (l.toInt64 + (r &&& (9223372036854775807 : Int64)) % ((h.toInt64 - l.toInt64) + (1 : Int64))).toInt = l.toInt + (r &&& (9223372036854775807 : Int64)).toInt % (h.toInt - l.toInt + 1) := by
    rw [Int64.toInt_add, e3, Int32.toInt_toInt64]; exact Int.bmod_eq_of_le (by omega) (by omega)
  have e5 : (fPick r l h).toInt = l.toInt + (r &&& (9223372036854775807 : Int64)).toInt % (h.toInt - l.toInt + 1) := by
    unfold fPick; dsimp only
    rw [Int64.toInt_toInt32, e4]; exact Int.bmod_eq_of_le (by omega) (by omega)
  omega
theorem off2 {q : Int64} {o : Int32} (e : (q &&& (1 : Int64)).toInt32 = o) : o = 0 ∨ o = 1 := by
  have a : (q &&& (1 : Int64)).toInt = q.toInt % 2 := c_maskL q 1 1 (by decide) (by decide)
  have b := c_l2i (q &&& (1 : Int64))
  rw [e] at b
  have r := rng32 o
  simp only [← Int32.toInt_inj, Int32.reduceToInt]; omega
theorem sub32 {a b : Int32} {m n : Nat} (ha : a.toInt = m) (hb : b.toInt = n) (h : n ≤ m) (hm : m ≤ 64) : (a - b).toInt = (m - n : Nat) := by
  rw [Int32.toInt_sub, ha, hb, Int.bmod_eq_of_le (by omega) (by omega)]; omega
theorem le_of_not {a b : Int32} {m n : Nat} (ha : a.toInt = m) (hb : b.toInt = n) (h : ¬ a < b) : n ≤ m := by
  rw [Int32.lt_iff_toInt_lt, ha, hb] at h; omega
theorem not_of_le {a b : Int32} {m n : Nat} (ha : a.toInt = m) (hb : b.toInt = n) (h : n ≤ m) : ¬ a < b := by
  rw [Int32.lt_iff_toInt_lt, ha, hb]; omega
def U (x : Int64) : Nat := x.toBitVec.toNat
def cN (a b : Nat) : Int32 := if a < b then -1 else if a = b then 0 else 1
def th (a b : Int32) : Int32 := if a = 0 then b else a
/-- one more field in a word -/
theorem orAdd {A d : Int64} {s : Int32} {n b q : Nat} (hs : s.toInt = n) (hn : n + b ≤ 64) (hd : d.toBitVec.toNat < 2 ^ b) (hA : U A = q * 2 ^ (n + b)) : U (A ||| SL d s) = (q * 2 ^ b + U d) * 2 ^ n := by
  have e : (SL d s).toBitVec.toNat = d.toBitVec.toNat * 2 ^ n := by
    rw [sl_bv d hs]
    by_cases h : n < 64
    · rw [Nat.mod_eq_of_lt h, BitVec.toNat_shiftLeft, Nat.shiftLeft_eq]
      refine Nat.mod_eq_of_lt ?_
      have a1 : d.toBitVec.toNat * 2 ^ n < 2 ^ b * 2 ^ n := Nat.mul_lt_mul_of_pos_right hd (Nat.pow_pos (by decide))
      rw [← Nat.pow_add, Nat.add_comm] at a1
      exact Nat.lt_of_lt_of_le a1 (Nat.pow_le_pow_right (by decide) hn)
    · have e2 : b = 0 := by omega
      subst e2
      rw [zero_of hd]
      simp
  have lt : d.toBitVec.toNat * 2 ^ n < 2 ^ (n + b) := by
    rw [Nat.add_comm, Nat.pow_add]; exact Nat.mul_lt_mul_of_pos_right hd (Nat.pow_pos (by decide))
  unfold U at hA ⊢
  rw [Int64.toBitVec_or, BitVec.toNat_or, hA, e, ← Nat.shiftLeft_eq q, ← Nat.shiftLeft_add_eq_or_of_lt lt, Nat.shiftLeft_eq, Nat.add_mul, Nat.mul_assoc, ← Nat.pow_add, Nat.add_comm b n]
theorem w1 {d0 : Int64} {s0 : Int32} {n0 b0 : Nat} (h0 : s0.toInt = n0) (e0 : n0 + b0 = 64) (k0 : d0.toBitVec.toNat < 2 ^ b0) : U ((0 : Int64) ||| SL d0 s0) = U d0 * 2 ^ n0 := by
  have a := orAdd (A := 0) (q := 0) h0 (by omega) k0 (by rw [Nat.zero_mul]; rfl)
  rw [a, Nat.zero_mul, Nat.zero_add]
theorem w2 {A d0 : Int64} {s0 : Int32} {n n0 b0 q : Nat} (hA : U A = q * 2 ^ n) (h0 : s0.toInt = n0) (e0 : n0 + b0 = n) (hn : n ≤ 64) (k0 : d0.toBitVec.toNat < 2 ^ b0) : U (A ||| SL d0 s0) = (q * 2 ^ b0 + U d0) * 2 ^ n0 :=
  orAdd h0 (by omega) k0 (by rw [hA, e0])
theorem ifc {P Q : Prop} [Decidable P] [Decidable Q] {a b c d : Int32} (h : P ↔ Q) (e : a = b) (e2 : c = d) : (if P then a else c) = if Q then b else d := by
  subst e e2
  by_cases q : Q
  · rw [if_pos q, if_pos (h.mpr q)]
  · rw [if_neg q, if_neg (fun z => q (h.mp z))]
theorem cN_mul (x y n : Nat) : cN (x * 2 ^ n) (y * 2 ^ n) = cN x y := by
  have p : 0 < 2 ^ n := Nat.pow_pos (by decide)
  unfold cN
  exact ifc (Nat.mul_lt_mul_right p) rfl (ifc (Nat.mul_left_inj (Nat.ne_of_gt p)) rfl rfl)
theorem cN_hor {q r d d' B : Nat} (h : d < B) (h' : d' < B) : cN (q * B + d) (r * B + d') = th (cN q r) (cN d d') := by
  unfold cN th
  rcases Nat.lt_trichotomy q r with a | a | a
  · have m := Nat.mul_le_mul_right B (Nat.succ_le_of_lt a)
    rw [Nat.succ_mul] at m
    rw [if_pos (show q * B + d < r * B + d' by omega), if_pos a]
    rfl
  · subst a
    have e1 : (q * B + d < q * B + d') ↔ d < d' := by omega
    have e2 : (q * B + d = q * B + d') ↔ d = d' := by omega
    refine (ifc e1 rfl (ifc e2 rfl rfl)).trans ?_
    rw [if_neg (Nat.lt_irrefl q), if_pos rfl, if_pos rfl]
  · have m := Nat.mul_le_mul_right B (Nat.succ_le_of_lt a)
    rw [Nat.succ_mul] at m
    rw [if_neg (show ¬ q * B + d < r * B + d' by omega), if_neg (show ¬ q * B + d = r * B + d' by omega), if_neg (show ¬ q < r by omega), if_neg (show ¬ q = r by omega)]
    rfl
theorem cN_val {l h v w : Int32} (h1 : l.toInt ≤ v.toInt ∧ v.toInt ≤ h.toInt) (h2 : l.toInt ≤ w.toInt ∧ w.toInt ≤ h.toInt) : cN (U (v.toInt64 - l.toInt64)) (U (w.toInt64 - l.toInt64)) = fCm v w := by
  have e1 := span_int l v; have e2 := span_int l w
  have a : U (v.toInt64 - l.toInt64) = (v.toInt - l.toInt).toNat := nat_of64 (by omega)
  have b : U (w.toInt64 - l.toInt64) = (w.toInt - l.toInt).toNat := nat_of64 (by omega)
  rw [a, b]
  unfold cN fCm
  simp only [Int32.lt_iff_toInt_lt]
  repeat' split
  all_goals first | rfl | (exfalso; omega)
theorem cu (x y : Int64) : fCU x y = cN (U x) (U y) := by
  have f : ∀ z : Int64, (z + (-9223372036854775808 : Int64)).toInt = (U z : Int) - 9223372036854775808 := by
    intro z
    have l := z.toBitVec.isLt
    have q : z.toInt = if 2 * z.toBitVec.toNat < 2 ^ 64 then (z.toBitVec.toNat : Int) else (z.toBitVec.toNat : Int) - (2 ^ 64 : Nat) := BitVec.toInt_eq_toNat_cond _
    rw [Int64.toInt_add, show (-9223372036854775808 : Int64).toInt = -9223372036854775808 from rfl]
    unfold U
    rw [Int.bmod_def]
    split at q <;> split <;> omega
  have e1 := f x; have e2 := f y
  unfold fCU fCL cN
  exact ifc (by rw [Int64.lt_iff_toInt_lt, e1, e2]; omega) rfl (ifc (by rw [← Int64.toInt_inj, e1, e2]; omega) rfl rfl)
def tri (x : Int32) : Prop := x = -1 ∨ x = 0 ∨ x = 1
theorem cm_tri (a b : Int32) : tri (fCm a b) := by
  unfold fCm tri
  repeat' split
  all_goals simp
theorem th_tri {a b : Int32} (h : tri a) (k : tri b) : tri (th a b) := by
  unfold th; split
  · exact k
  · exact h
theorem sgn_tri {a : Int32} (h : tri a) : fSign a = a := by
  rcases h with rfl | rfl | rfl <;> rfl
theorem th_assoc (a b c : Int32) : th (th a b) c = th a (th b c) := by
  unfold th
  repeat' split
  all_goals first | rfl | contradiction
theorem th_zero (a : Int32) : th a 0 = a := by
  unfold th; split
  · rename_i h; exact h.symm
  · rfl
theorem lexTh (x0 x1 x2 x3 y0 y1 y2 y3 : Int32) : fLex x0 x1 x2 x3 y0 y1 y2 y3 = th (fCm x0 y0) (th (fCm x1 y1) (th (fCm x2 y2) (fCm x3 y3))) := rfl
/-- words of one, two, three, four fields compared -/
theorem cw {A A' : Int64} {q q' n : Nat} (e : U A = q * 2 ^ n) (e' : U A' = q' * 2 ^ n) : fCU A A' = cN q q' := by rw [cu, e, e', cN_mul]
/-- three fields in one word -/
theorem three {d0 d1 d2 : Int64} {s0 s1 s2 : Int32} {n0 n1 n2 b0 b1 b2 : Nat} (h0 : s0.toInt = n0) (h1 : s1.toInt = n1) (h2 : s2.toInt = n2) (e0 : n0 + b0 = 64) (e1 : n1 + b1 = n0) (e2 : n2 + b2 = n1)
    (k0 : d0.toBitVec.toNat < 2 ^ b0) (k1 : d1.toBitVec.toNat < 2 ^ b1) (k2 : d2.toBitVec.toNat < 2 ^ b2) :
    (∀ i, i < b0 → ((((0 : Int64) ||| SL d0 s0) ||| SL d1 s1) ||| SL d2 s2).toBitVec.getLsbD (n0 + i) = d0.toBitVec.getLsbD i) ∧ (∀ i, i < b1 → ((((0 : Int64) ||| SL d0 s0) ||| SL d1 s1) ||| SL d2 s2).toBitVec.getLsbD (n1 + i) = d1.toBitVec.getLsbD i) ∧ (∀ i, i < b2 → ((((0 : Int64) ||| SL d0 s0) ||| SL d1 s1) ||| SL d2 s2).toBitVec.getLsbD (n2 + i) = d2.toBitVec.getLsbD i) := by
  have z : ∀ j, (0 : Int64).toBitVec.getLsbD j = false := fun j => BitVec.getLsbD_zero
  refine ⟨fun i hi => ?_, fun i hi => ?_, fun i hi => ?_⟩
  · simp only [Int64.toBitVec_or, BitVec.getLsbD_or, z, slbit h0 (by omega) k0 (n0 + i) (by omega), slbit h1 (by omega) k1 (n0 + i) (by omega), slbit h2 (by omega) k2 (n0 + i) (by omega)]
    rw [hi_false k1 (show b1 ≤ n0 + i - n1 by omega), hi_false k2 (show b2 ≤ n0 + i - n2 by omega), Nat.add_sub_cancel_left]
    simp
  · simp only [Int64.toBitVec_or, BitVec.getLsbD_or, z, slbit h0 (by omega) k0 (n1 + i) (by omega), slbit h1 (by omega) k1 (n1 + i) (by omega), slbit h2 (by omega) k2 (n1 + i) (by omega)]
    rw [decide_eq_false (show ¬ n0 ≤ n1 + i by omega), hi_false k2 (show b2 ≤ n1 + i - n2 by omega), Nat.add_sub_cancel_left]
    simp
  · simp only [Int64.toBitVec_or, BitVec.getLsbD_or, z, slbit h0 (by omega) k0 (n2 + i) (by omega), slbit h1 (by omega) k1 (n2 + i) (by omega), slbit h2 (by omega) k2 (n2 + i) (by omega)]
    rw [decide_eq_false (show ¬ n0 ≤ n2 + i by omega), decide_eq_false (show ¬ n1 ≤ n2 + i by omega), Nat.add_sub_cancel_left]
    simp
theorem two {d0 d1 : Int64} {s0 s1 : Int32} {n0 n1 b0 b1 : Nat} (h0 : s0.toInt = n0) (h1 : s1.toInt = n1) (e0 : n0 + b0 = 64) (e1 : n1 + b1 = n0)
    (k0 : d0.toBitVec.toNat < 2 ^ b0) (k1 : d1.toBitVec.toNat < 2 ^ b1) :
    (∀ i, i < b0 → (((0 : Int64) ||| SL d0 s0) ||| SL d1 s1).toBitVec.getLsbD (n0 + i) = d0.toBitVec.getLsbD i) ∧ (∀ i, i < b1 → (((0 : Int64) ||| SL d0 s0) ||| SL d1 s1).toBitVec.getLsbD (n1 + i) = d1.toBitVec.getLsbD i) := by
  have z : ∀ j, (0 : Int64).toBitVec.getLsbD j = false := fun j => BitVec.getLsbD_zero
  refine ⟨fun i hi => ?_, fun i hi => ?_⟩
  · simp only [Int64.toBitVec_or, BitVec.getLsbD_or, z, slbit h0 (by omega) k0 (n0 + i) (by omega), slbit h1 (by omega) k1 (n0 + i) (by omega)]
    rw [hi_false k1 (show b1 ≤ n0 + i - n1 by omega), Nat.add_sub_cancel_left]
    simp
  · simp only [Int64.toBitVec_or, BitVec.getLsbD_or, z, slbit h0 (by omega) k0 (n1 + i) (by omega), slbit h1 (by omega) k1 (n1 + i) (by omega)]
    rw [decide_eq_false (show ¬ n0 ≤ n1 + i by omega), Nat.add_sub_cancel_left]
    simp
theorem one {d0 : Int64} {s0 : Int32} {n0 b0 : Nat} (h0 : s0.toInt = n0) (e0 : n0 + b0 = 64) (k0 : d0.toBitVec.toNat < 2 ^ b0) :
    ∀ i, i < b0 → ((0 : Int64) ||| SL d0 s0).toBitVec.getLsbD (n0 + i) = d0.toBitVec.getLsbD i := by
  have z : ∀ j, (0 : Int64).toBitVec.getLsbD j = false := fun j => BitVec.getLsbD_zero
  intro i hi
  simp only [Int64.toBitVec_or, BitVec.getLsbD_or, z, slbit h0 (by omega) k0 (n0 + i) (by omega)]
  rw [Nat.add_sub_cancel_left]
  simp
/-- what the law needs of one variable -/
theorem got {K : Int64} {s b l v : Int32} {n bb : Nat} (hs : s.toInt = n) (hb : b.toInt = bb) (hnb : n + bb ≤ 64) (h32 : bb ≤ 32) (hd : (v.toInt64 - l.toInt64).toBitVec.toNat < 2 ^ bb) (bits : ∀ i, i < bb → K.toBitVec.getLsbD (n + i) = (v.toInt64 - l.toInt64).toBitVec.getLsbD i) :
    (SR K s &&& (SL (1 : Int64) b - (1 : Int64))).toInt32 + l = v := by rw [unpk hs hb hnb h32 hd bits]; exact back_int v l
/-- four fields in one word -/
theorem four {d0 d1 d2 d3 : Int64} {s0 s1 s2 s3 : Int32} {n0 n1 n2 n3 b0 b1 b2 b3 : Nat} (h0 : s0.toInt = n0) (h1 : s1.toInt = n1) (h2 : s2.toInt = n2) (h3 : s3.toInt = n3) (e0 : n0 + b0 = 64) (e1 : n1 + b1 = n0) (e2 : n2 + b2 = n1) (e3 : n3 + b3 = n2)
    (k0 : d0.toBitVec.toNat < 2 ^ b0) (k1 : d1.toBitVec.toNat < 2 ^ b1) (k2 : d2.toBitVec.toNat < 2 ^ b2) (k3 : d3.toBitVec.toNat < 2 ^ b3) :
    (∀ i, i < b0 → (((((0 : Int64) ||| SL d0 s0) ||| SL d1 s1) ||| SL d2 s2) ||| SL d3 s3).toBitVec.getLsbD (n0 + i) = d0.toBitVec.getLsbD i) ∧ (∀ i, i < b1 → (((((0 : Int64) ||| SL d0 s0) ||| SL d1 s1) ||| SL d2 s2) ||| SL d3 s3).toBitVec.getLsbD (n1 + i) = d1.toBitVec.getLsbD i) ∧ (∀ i, i < b2 → (((((0 : Int64) ||| SL d0 s0) ||| SL d1 s1) ||| SL d2 s2) ||| SL d3 s3).toBitVec.getLsbD (n2 + i) = d2.toBitVec.getLsbD i) ∧ (∀ i, i < b3 → (((((0 : Int64) ||| SL d0 s0) ||| SL d1 s1) ||| SL d2 s2) ||| SL d3 s3).toBitVec.getLsbD (n3 + i) = d3.toBitVec.getLsbD i) := by
  have z : ∀ j, (0 : Int64).toBitVec.getLsbD j = false := fun j => BitVec.getLsbD_zero
  refine ⟨fun i hi => ?_, fun i hi => ?_, fun i hi => ?_, fun i hi => ?_⟩
  · simp only [Int64.toBitVec_or, BitVec.getLsbD_or, z, slbit h0 (by omega) k0 (n0 + i) (by omega), slbit h1 (by omega) k1 (n0 + i) (by omega), slbit h2 (by omega) k2 (n0 + i) (by omega), slbit h3 (by omega) k3 (n0 + i) (by omega)]
    rw [hi_false k1 (show b1 ≤ n0 + i - n1 by omega), hi_false k2 (show b2 ≤ n0 + i - n2 by omega), hi_false k3 (show b3 ≤ n0 + i - n3 by omega), Nat.add_sub_cancel_left]
    simp
  · simp only [Int64.toBitVec_or, BitVec.getLsbD_or, z, slbit h0 (by omega) k0 (n1 + i) (by omega), slbit h1 (by omega) k1 (n1 + i) (by omega), slbit h2 (by omega) k2 (n1 + i) (by omega), slbit h3 (by omega) k3 (n1 + i) (by omega)]
    rw [decide_eq_false (show ¬ n0 ≤ n1 + i by omega), hi_false k2 (show b2 ≤ n1 + i - n2 by omega), hi_false k3 (show b3 ≤ n1 + i - n3 by omega), Nat.add_sub_cancel_left]
    simp
  · simp only [Int64.toBitVec_or, BitVec.getLsbD_or, z, slbit h0 (by omega) k0 (n2 + i) (by omega), slbit h1 (by omega) k1 (n2 + i) (by omega), slbit h2 (by omega) k2 (n2 + i) (by omega), slbit h3 (by omega) k3 (n2 + i) (by omega)]
    rw [decide_eq_false (show ¬ n0 ≤ n2 + i by omega), decide_eq_false (show ¬ n1 ≤ n2 + i by omega), hi_false k3 (show b3 ≤ n2 + i - n3 by omega), Nat.add_sub_cancel_left]
    simp
  · simp only [Int64.toBitVec_or, BitVec.getLsbD_or, z, slbit h0 (by omega) k0 (n3 + i) (by omega), slbit h1 (by omega) k1 (n3 + i) (by omega), slbit h2 (by omega) k2 (n3 + i) (by omega), slbit h3 (by omega) k3 (n3 + i) (by omega)]
    rw [decide_eq_false (show ¬ n0 ≤ n3 + i by omega), decide_eq_false (show ¬ n1 ≤ n3 + i by omega), decide_eq_false (show ¬ n2 ≤ n3 + i by omega), Nat.add_sub_cancel_left]
    simp
theorem fin0 {l0 y0 a0 b0 : Int32} {B0 N0 : Nat} (ia0 : l0.toInt ≤ a0.toInt ∧ a0.toInt ≤ y0.toInt) (ib0 : l0.toInt ≤ b0.toInt ∧ b0.toInt ≤ y0.toInt) (da0 : (a0.toInt64 - l0.toInt64).toBitVec.toNat < 2 ^ B0) (db0 : (b0.toInt64 - l0.toInt64).toBitVec.toNat < 2 ^ B0) {l1 y1 a1 b1 : Int32} {B1 N1 : Nat} (ia1 : l1.toInt ≤ a1.toInt ∧ a1.toInt ≤ y1.toInt) (ib1 : l1.toInt ≤ b1.toInt ∧ b1.toInt ≤ y1.toInt) (da1 : (a1.toInt64 - l1.toInt64).toBitVec.toNat < 2 ^ B1) (db1 : (b1.toInt64 - l1.toInt64).toBitVec.toNat < 2 ^ B1) {l2 y2 a2 b2 : Int32} {B2 N2 : Nat} (ia2 : l2.toInt ≤ a2.toInt ∧ a2.toInt ≤ y2.toInt) (ib2 : l2.toInt ≤ b2.toInt ∧ b2.toInt ≤ y2.toInt) (da2 : (a2.toInt64 - l2.toInt64).toBitVec.toNat < 2 ^ B2) (db2 : (b2.toInt64 - l2.toInt64).toBitVec.toNat < 2 ^ B2) {l3 y3 a3 b3 : Int32} {B3 N3 : Nat} (ia3 : l3.toInt ≤ a3.toInt ∧ a3.toInt ≤ y3.toInt) (ib3 : l3.toInt ≤ b3.toInt ∧ b3.toInt ≤ y3.toInt) (da3 : (a3.toInt64 - l3.toInt64).toBitVec.toNat < 2 ^ B3) (db3 : (b3.toInt64 - l3.toInt64).toBitVec.toNat < 2 ^ B3) {K0 M0 : Int64} (E0 : U K0 = (((U (a0.toInt64 - l0.toInt64) * 2 ^ B1 + U (a1.toInt64 - l1.toInt64)) * 2 ^ B2 + U (a2.toInt64 - l2.toInt64)) * 2 ^ B3 + U (a3.toInt64 - l3.toInt64)) * 2 ^ N3) (F0 : U M0 = (((U (b0.toInt64 - l0.toInt64) * 2 ^ B1 + U (b1.toInt64 - l1.toInt64)) * 2 ^ B2 + U (b2.toInt64 - l2.toInt64)) * 2 ^ B3 + U (b3.toInt64 - l3.toInt64)) * 2 ^ N3) : fSign (th (fCU K0 M0) 0) = fLex a0 a1 a2 a3 b0 b1 b2 b3 := by
  have q : th (fCU K0 M0) 0 = fLex a0 a1 a2 a3 b0 b1 b2 b3 := by
    rw [th_zero, cw E0 F0, cN_hor (show U (a3.toInt64 - l3.toInt64) < _ from da3) (show U (b3.toInt64 - l3.toInt64) < _ from db3), cN_hor (show U (a2.toInt64 - l2.toInt64) < _ from da2) (show U (b2.toInt64 - l2.toInt64) < _ from db2), cN_hor (show U (a1.toInt64 - l1.toInt64) < _ from da1) (show U (b1.toInt64 - l1.toInt64) < _ from db1), cN_val ia0 ib0, cN_val ia1 ib1, cN_val ia2 ib2, cN_val ia3 ib3, lexTh, th_assoc, th_assoc]
  rw [q, lexTh]
  exact sgn_tri (th_tri (cm_tri _ _) (th_tri (cm_tri _ _) (th_tri (cm_tri _ _) (cm_tri _ _))))
theorem fin1 {l0 y0 a0 b0 : Int32} {B0 N0 : Nat} (ia0 : l0.toInt ≤ a0.toInt ∧ a0.toInt ≤ y0.toInt) (ib0 : l0.toInt ≤ b0.toInt ∧ b0.toInt ≤ y0.toInt) (da0 : (a0.toInt64 - l0.toInt64).toBitVec.toNat < 2 ^ B0) (db0 : (b0.toInt64 - l0.toInt64).toBitVec.toNat < 2 ^ B0) {l1 y1 a1 b1 : Int32} {B1 N1 : Nat} (ia1 : l1.toInt ≤ a1.toInt ∧ a1.toInt ≤ y1.toInt) (ib1 : l1.toInt ≤ b1.toInt ∧ b1.toInt ≤ y1.toInt) (da1 : (a1.toInt64 - l1.toInt64).toBitVec.toNat < 2 ^ B1) (db1 : (b1.toInt64 - l1.toInt64).toBitVec.toNat < 2 ^ B1) {l2 y2 a2 b2 : Int32} {B2 N2 : Nat} (ia2 : l2.toInt ≤ a2.toInt ∧ a2.toInt ≤ y2.toInt) (ib2 : l2.toInt ≤ b2.toInt ∧ b2.toInt ≤ y2.toInt) (da2 : (a2.toInt64 - l2.toInt64).toBitVec.toNat < 2 ^ B2) (db2 : (b2.toInt64 - l2.toInt64).toBitVec.toNat < 2 ^ B2) {l3 y3 a3 b3 : Int32} {B3 N3 : Nat} (ia3 : l3.toInt ≤ a3.toInt ∧ a3.toInt ≤ y3.toInt) (ib3 : l3.toInt ≤ b3.toInt ∧ b3.toInt ≤ y3.toInt) (da3 : (a3.toInt64 - l3.toInt64).toBitVec.toNat < 2 ^ B3) (db3 : (b3.toInt64 - l3.toInt64).toBitVec.toNat < 2 ^ B3) {K0 M0 : Int64} (E0 : U K0 = ((U (a0.toInt64 - l0.toInt64) * 2 ^ B1 + U (a1.toInt64 - l1.toInt64)) * 2 ^ B2 + U (a2.toInt64 - l2.toInt64)) * 2 ^ N2) (F0 : U M0 = ((U (b0.toInt64 - l0.toInt64) * 2 ^ B1 + U (b1.toInt64 - l1.toInt64)) * 2 ^ B2 + U (b2.toInt64 - l2.toInt64)) * 2 ^ N2) {K1 M1 : Int64} (E1 : U K1 = U (a3.toInt64 - l3.toInt64) * 2 ^ N3) (F1 : U M1 = U (b3.toInt64 - l3.toInt64) * 2 ^ N3) : fSign (th (fCU K0 M0) (th (fCU K1 M1) 0)) = fLex a0 a1 a2 a3 b0 b1 b2 b3 := by
  have q : th (fCU K0 M0) (th (fCU K1 M1) 0) = fLex a0 a1 a2 a3 b0 b1 b2 b3 := by
    rw [th_zero, cw E0 F0, cN_hor (show U (a2.toInt64 - l2.toInt64) < _ from da2) (show U (b2.toInt64 - l2.toInt64) < _ from db2), cN_hor (show U (a1.toInt64 - l1.toInt64) < _ from da1) (show U (b1.toInt64 - l1.toInt64) < _ from db1), cw E1 F1, cN_val ia0 ib0, cN_val ia1 ib1, cN_val ia2 ib2, cN_val ia3 ib3, lexTh, th_assoc, th_assoc]
  rw [q, lexTh]
  exact sgn_tri (th_tri (cm_tri _ _) (th_tri (cm_tri _ _) (th_tri (cm_tri _ _) (cm_tri _ _))))
theorem fin2 {l0 y0 a0 b0 : Int32} {B0 N0 : Nat} (ia0 : l0.toInt ≤ a0.toInt ∧ a0.toInt ≤ y0.toInt) (ib0 : l0.toInt ≤ b0.toInt ∧ b0.toInt ≤ y0.toInt) (da0 : (a0.toInt64 - l0.toInt64).toBitVec.toNat < 2 ^ B0) (db0 : (b0.toInt64 - l0.toInt64).toBitVec.toNat < 2 ^ B0) {l1 y1 a1 b1 : Int32} {B1 N1 : Nat} (ia1 : l1.toInt ≤ a1.toInt ∧ a1.toInt ≤ y1.toInt) (ib1 : l1.toInt ≤ b1.toInt ∧ b1.toInt ≤ y1.toInt) (da1 : (a1.toInt64 - l1.toInt64).toBitVec.toNat < 2 ^ B1) (db1 : (b1.toInt64 - l1.toInt64).toBitVec.toNat < 2 ^ B1) {l2 y2 a2 b2 : Int32} {B2 N2 : Nat} (ia2 : l2.toInt ≤ a2.toInt ∧ a2.toInt ≤ y2.toInt) (ib2 : l2.toInt ≤ b2.toInt ∧ b2.toInt ≤ y2.toInt) (da2 : (a2.toInt64 - l2.toInt64).toBitVec.toNat < 2 ^ B2) (db2 : (b2.toInt64 - l2.toInt64).toBitVec.toNat < 2 ^ B2) {l3 y3 a3 b3 : Int32} {B3 N3 : Nat} (ia3 : l3.toInt ≤ a3.toInt ∧ a3.toInt ≤ y3.toInt) (ib3 : l3.toInt ≤ b3.toInt ∧ b3.toInt ≤ y3.toInt) (da3 : (a3.toInt64 - l3.toInt64).toBitVec.toNat < 2 ^ B3) (db3 : (b3.toInt64 - l3.toInt64).toBitVec.toNat < 2 ^ B3) {K0 M0 : Int64} (E0 : U K0 = (U (a0.toInt64 - l0.toInt64) * 2 ^ B1 + U (a1.toInt64 - l1.toInt64)) * 2 ^ N1) (F0 : U M0 = (U (b0.toInt64 - l0.toInt64) * 2 ^ B1 + U (b1.toInt64 - l1.toInt64)) * 2 ^ N1) {K1 M1 : Int64} (E1 : U K1 = (U (a2.toInt64 - l2.toInt64) * 2 ^ B3 + U (a3.toInt64 - l3.toInt64)) * 2 ^ N3) (F1 : U M1 = (U (b2.toInt64 - l2.toInt64) * 2 ^ B3 + U (b3.toInt64 - l3.toInt64)) * 2 ^ N3) : fSign (th (fCU K0 M0) (th (fCU K1 M1) 0)) = fLex a0 a1 a2 a3 b0 b1 b2 b3 := by
  have q : th (fCU K0 M0) (th (fCU K1 M1) 0) = fLex a0 a1 a2 a3 b0 b1 b2 b3 := by
    rw [th_zero, cw E0 F0, cN_hor (show U (a1.toInt64 - l1.toInt64) < _ from da1) (show U (b1.toInt64 - l1.toInt64) < _ from db1), cw E1 F1, cN_hor (show U (a3.toInt64 - l3.toInt64) < _ from da3) (show U (b3.toInt64 - l3.toInt64) < _ from db3), cN_val ia0 ib0, cN_val ia1 ib1, cN_val ia2 ib2, cN_val ia3 ib3, lexTh, th_assoc]
  rw [q, lexTh]
  exact sgn_tri (th_tri (cm_tri _ _) (th_tri (cm_tri _ _) (th_tri (cm_tri _ _) (cm_tri _ _))))
theorem cp100 (k0 k1 k2 k3 o0 o1 o2 o3 : Int64) : fCp100 k0 k1 k2 k3 o0 o1 o2 o3 = th (fCU k0 o0) 0 := by
  unfold fCp100 th
  dsimp only
theorem cp101 (k0 k1 k2 k3 o0 o1 o2 o3 : Int64) : fCp101 k0 k1 k2 k3 o0 o1 o2 o3 = th (fCU k0 o1) 0 := by
  unfold fCp101 th
  dsimp only
theorem cp110 (k0 k1 k2 k3 o0 o1 o2 o3 : Int64) : fCp110 k0 k1 k2 k3 o0 o1 o2 o3 = th (fCU k1 o0) 0 := by
  unfold fCp110 th
  dsimp only
theorem cp111 (k0 k1 k2 k3 o0 o1 o2 o3 : Int64) : fCp111 k0 k1 k2 k3 o0 o1 o2 o3 = th (fCU k1 o1) 0 := by
  unfold fCp111 th
  dsimp only
theorem cp200 (k0 k1 k2 k3 o0 o1 o2 o3 : Int64) : fCp200 k0 k1 k2 k3 o0 o1 o2 o3 = th (fCU k0 o0) (th (fCU k1 o1) 0) := by
  unfold fCp200 th
  dsimp only
theorem cp201 (k0 k1 k2 k3 o0 o1 o2 o3 : Int64) : fCp201 k0 k1 k2 k3 o0 o1 o2 o3 = th (fCU k0 o1) (th (fCU k1 o2) 0) := by
  unfold fCp201 th
  dsimp only
theorem cp210 (k0 k1 k2 k3 o0 o1 o2 o3 : Int64) : fCp210 k0 k1 k2 k3 o0 o1 o2 o3 = th (fCU k1 o0) (th (fCU k2 o1) 0) := by
  unfold fCp210 th
  dsimp only
theorem cp211 (k0 k1 k2 k3 o0 o1 o2 o3 : Int64) : fCp211 k0 k1 k2 k3 o0 o1 o2 o3 = th (fCU k1 o1) (th (fCU k2 o2) 0) := by
  unfold fCp211 th
  dsimp only
theorem cps100 (k0 k1 k2 k3 o0 o1 o2 o3 : Int64) : fCpS1 0 0 k0 k1 k2 k3 o0 o1 o2 o3 = fCp100 k0 k1 k2 k3 o0 o1 o2 o3 := (show _ = fCpT10 0 k0 k1 k2 k3 o0 o1 o2 o3 from if_pos rfl).trans (if_pos rfl)
theorem cps101 (k0 k1 k2 k3 o0 o1 o2 o3 : Int64) : fCpS1 0 1 k0 k1 k2 k3 o0 o1 o2 o3 = fCp101 k0 k1 k2 k3 o0 o1 o2 o3 := (show _ = fCpT10 1 k0 k1 k2 k3 o0 o1 o2 o3 from if_pos rfl).trans (if_neg (by decide))
theorem cps110 (k0 k1 k2 k3 o0 o1 o2 o3 : Int64) : fCpS1 1 0 k0 k1 k2 k3 o0 o1 o2 o3 = fCp110 k0 k1 k2 k3 o0 o1 o2 o3 := (show _ = fCpT11 0 k0 k1 k2 k3 o0 o1 o2 o3 from if_neg (by decide)).trans (if_pos rfl)
theorem cps111 (k0 k1 k2 k3 o0 o1 o2 o3 : Int64) : fCpS1 1 1 k0 k1 k2 k3 o0 o1 o2 o3 = fCp111 k0 k1 k2 k3 o0 o1 o2 o3 := (show _ = fCpT11 1 k0 k1 k2 k3 o0 o1 o2 o3 from if_neg (by decide)).trans (if_neg (by decide))
theorem cps200 (k0 k1 k2 k3 o0 o1 o2 o3 : Int64) : fCpS2 0 0 k0 k1 k2 k3 o0 o1 o2 o3 = fCp200 k0 k1 k2 k3 o0 o1 o2 o3 := (show _ = fCpT20 0 k0 k1 k2 k3 o0 o1 o2 o3 from if_pos rfl).trans (if_pos rfl)
theorem cps201 (k0 k1 k2 k3 o0 o1 o2 o3 : Int64) : fCpS2 0 1 k0 k1 k2 k3 o0 o1 o2 o3 = fCp201 k0 k1 k2 k3 o0 o1 o2 o3 := (show _ = fCpT20 1 k0 k1 k2 k3 o0 o1 o2 o3 from if_pos rfl).trans (if_neg (by decide))
theorem cps210 (k0 k1 k2 k3 o0 o1 o2 o3 : Int64) : fCpS2 1 0 k0 k1 k2 k3 o0 o1 o2 o3 = fCp210 k0 k1 k2 k3 o0 o1 o2 o3 := (show _ = fCpT21 0 k0 k1 k2 k3 o0 o1 o2 o3 from if_neg (by decide)).trans (if_pos rfl)
theorem cps211 (k0 k1 k2 k3 o0 o1 o2 o3 : Int64) : fCpS2 1 1 k0 k1 k2 k3 o0 o1 o2 o3 = fCp211 k0 k1 k2 k3 o0 o1 o2 o3 := (show _ = fCpT21 1 k0 k1 k2 k3 o0 o1 o2 o3 from if_neg (by decide)).trans (if_neg (by decide))

theorem pd_4 : parseMethodDescriptor "([I[I)V" = some ⟨[(.array .int), (.array .int)], none⟩ := by decide +kernel
theorem pd_5 : parseMethodDescriptor "()I" = some ⟨[], some .int⟩ := by decide +kernel
theorem pd_6 : parseMethodDescriptor "(JII)I" = some ⟨[.long, .int, .int], some .int⟩ := by decide +kernel
theorem pd_7 : parseMethodDescriptor "([I[JI)V" = some ⟨[(.array .int), (.array .long), .int], none⟩ := by decide +kernel
theorem pd_8 : parseMethodDescriptor "([JI[I)V" = some ⟨[(.array .long), .int, (.array .int)], none⟩ := by decide +kernel
theorem pd_9 : parseMethodDescriptor "([JIIJ)Z" = some ⟨[(.array .long), .int, .int, .long], some .boolean⟩ := by decide +kernel
theorem pd_10 : parseMethodDescriptor "([JI[JII)I" = some ⟨[(.array .long), .int, (.array .long), .int, .int], some .int⟩ := by decide +kernel
theorem pd_11 : parseMethodDescriptor "([I[I)I" = some ⟨[(.array .int), (.array .int)], some .int⟩ := by decide +kernel
theorem ef_rLaw (m : MethodId) (x0 : Int32) (x1 : Int32) (x2 : Int32) (x3 : Int32) (x4 : Int64) (x5 : Int64) : entryFrame m #[(.int x0), (.int x1), (.int x2), (.int x3), (.long x4), (.long x5)] maxLocals = mkF m 0 #[.val (.int x0), .val (.int x1), .val (.int x2), .val (.int x3), .val (.long x4), .second, .val (.long x5), .second, .unset, .unset, .unset, .unset, .unset, .unset, .unset, .unset, .unset, .unset, .unset, .unset, .unset, .unset, .unset, .unset, .unset, .unset] [] := by first | (simp [entryFrame, mkF, argsToLocals, Value.category, maxLocals]; done) | rfl
set_option maxRecDepth 65536 in
set_option maxHeartbeats 40000000 in
theorem rLaw (l : Launch) (Z : State) (aa : Array Value) (hw : ∀ d ∈ tables_1, d.before aa Z = true) (ws : List Jvm.Cond) (i0 : Int32) (i1 : Int32) (i2 : Int32) (i3 : Int32) (j4 : Int64) (j5 : Int64) (h0 : Heap) (n0 : Nat) (Z0 : n0 ≤ h0.size) :
    Rm l Z x code maxLocals ret ws room_1 #[(.int i0), (.int i1), (.int i2), (.int i3), (.long j4), (.long j5)] h0 (fun v h L => v = some (.int 1) ∧ Fr n0 L) := by
 refine Rm.of (plainFor_of_name pn_0) ?_
 intro p e s m below meth cc T X hnm hret hlk
 refine Go.at_ (ef_rLaw m i0 i1 i2 i3 j4 j5) ?_
 have N := Fr.nil n0
 refine g_iconst X (4 : Int32) at_0 (pc' := 1) rfl rfl ?_
 refine g_newarray X 4 (tb hw 0 rfl) at_1 (pc' := 3) rfl (by decide) (by decide) 4 (by decide) (by decide) (by decide) (by decide) (vs := [(.int (0 : Int32)), (.int (0 : Int32)), (.int (0 : Int32)), (.int (0 : Int32))]) rfl (ad := "[I") (by decide) ?_
 intro T h qj qcp X Ex qs qh
 have qad : n0 ≤ qj := by rw [qcp]; exact Z0
 replace Z0 := Nat.le_trans Z0 Ex.1
 refine g_dup X at_3 (pc' := 4) rfl rfl ?_
 refine g_iconst X (0 : Int32) at_4 (pc' := 5) rfl rfl ?_
 refine g_iloadN X at_5 (pc' := 6) rfl rfl ?_
 refine g_iloadN X at_6 (pc' := 7) rfl rfl ?_
 refine g_static X (W := 3) [(.int i0), (.int i1)] [(.int (0 : Int32)), (.ref qj), (.ref qj)] (tb hw 1 rfl) (tb hw 2 rfl) (tb hw 3 rfl) (tb hw 4 rfl) (rMin l Z aa hw [] i0 i1 _) at_7 (pc' := 10) rfl (by decide) (by decide) (by decide) rfl rfl rfl (lenOf pd_2 rfl) (Nat.le_refl _) (by decide) (by decide) ?_
 intro v T L X q
 obtain ⟨rfl, X⟩ := pureX X q
 show Go p e below _ (T.setTop (mkF m 10 _ [(.int (fMin i0 i1)), (.int (0 : Int32)), (.ref qj), (.ref qj)]))
 generalize qcq : (fMin i0 i1) = ql
 refine g_iastore X qh 0 at_10 (pc' := 11) rfl (by decide) (by decide) (Nat.le_of_ble_eq_true rfl) ?_
 intro T h X W qh
 replace qh : Av Z h qj .int [(.int ql), (.int (0 : Int32)), (.int (0 : Int32)), (.int (0 : Int32))] := qh
 replace qs := qs.wr W
 replace Z0 := Nat.le_trans Z0 (Nat.le_of_eq W.size.symm)
 replace N := Fr.snoc X.1 N qad
 refine g_dup X at_11 (pc' := 12) rfl rfl ?_
 refine g_iconst X (1 : Int32) at_12 (pc' := 13) rfl rfl ?_
 refine g_iloadN X at_13 (pc' := 14) rfl rfl ?_
 refine g_iloadN X at_14 (pc' := 15) rfl rfl ?_
 refine g_static X (W := 3) [(.int i2), (.int i3)] [(.int (1 : Int32)), (.ref qj), (.ref qj)] (tb hw 1 rfl) (tb hw 2 rfl) (tb hw 3 rfl) (tb hw 4 rfl) (rMin l Z aa hw [] i2 i3 _) at_15 (pc' := 18) rfl (by decide) (by decide) (by decide) rfl rfl rfl (lenOf pd_2 rfl) (Nat.le_refl _) (by decide) (by decide) ?_
 intro v T L X q
 obtain ⟨rfl, X⟩ := pureX X q
 show Go p e below _ (T.setTop (mkF m 18 _ [(.int (fMin i2 i3)), (.int (1 : Int32)), (.ref qj), (.ref qj)]))
 generalize qcr : (fMin i2 i3) = qm
 refine g_iastore X qh 1 at_18 (pc' := 19) rfl (by decide) (by decide) (Nat.le_of_ble_eq_true rfl) ?_
 intro T h X W qh
 replace qh : Av Z h qj .int [(.int ql), (.int qm), (.int (0 : Int32)), (.int (0 : Int32))] := qh
 replace qs := qs.wr W
 replace Z0 := Nat.le_trans Z0 (Nat.le_of_eq W.size.symm)
 replace N := Fr.snoc X.1 N qad
 refine g_dup X at_19 (pc' := 20) rfl rfl ?_
 refine g_iconst X (2 : Int32) at_20 (pc' := 21) rfl rfl ?_
 refine g_iloadN X at_21 (pc' := 22) rfl rfl ?_
 refine g_iloadN X at_22 (pc' := 23) rfl rfl ?_
 refine g_static X (W := 3) [(.int i0), (.int i3)] [(.int (2 : Int32)), (.ref qj), (.ref qj)] (tb hw 1 rfl) (tb hw 2 rfl) (tb hw 3 rfl) (tb hw 4 rfl) (rMin l Z aa hw [] i0 i3 _) at_23 (pc' := 26) rfl (by decide) (by decide) (by decide) rfl rfl rfl (lenOf pd_2 rfl) (Nat.le_refl _) (by decide) (by decide) ?_
 intro v T L X q
 obtain ⟨rfl, X⟩ := pureX X q
 show Go p e below _ (T.setTop (mkF m 26 _ [(.int (fMin i0 i3)), (.int (2 : Int32)), (.ref qj), (.ref qj)]))
 generalize qcs : (fMin i0 i3) = qn
 refine g_iastore X qh 2 at_26 (pc' := 27) rfl (by decide) (by decide) (Nat.le_of_ble_eq_true rfl) ?_
 intro T h X W qh
 replace qh : Av Z h qj .int [(.int ql), (.int qm), (.int qn), (.int (0 : Int32))] := qh
 replace qs := qs.wr W
 replace Z0 := Nat.le_trans Z0 (Nat.le_of_eq W.size.symm)
 replace N := Fr.snoc X.1 N qad
 refine g_dup X at_27 (pc' := 28) rfl rfl ?_
 refine g_iconst X (3 : Int32) at_28 (pc' := 29) rfl rfl ?_
 refine g_iloadN X at_29 (pc' := 30) rfl rfl ?_
 refine g_iloadN X at_30 (pc' := 31) rfl rfl ?_
 refine g_static X (W := 3) [(.int i1), (.int i2)] [(.int (3 : Int32)), (.ref qj), (.ref qj)] (tb hw 1 rfl) (tb hw 2 rfl) (tb hw 3 rfl) (tb hw 4 rfl) (rMin l Z aa hw [] i1 i2 _) at_31 (pc' := 34) rfl (by decide) (by decide) (by decide) rfl rfl rfl (lenOf pd_2 rfl) (Nat.le_refl _) (by decide) (by decide) ?_
 intro v T L X q
 obtain ⟨rfl, X⟩ := pureX X q
 show Go p e below _ (T.setTop (mkF m 34 _ [(.int (fMin i1 i2)), (.int (3 : Int32)), (.ref qj), (.ref qj)]))
 generalize qct : (fMin i1 i2) = qo
 refine g_iastore X qh 3 at_34 (pc' := 35) rfl (by decide) (by decide) (Nat.le_of_ble_eq_true rfl) ?_
 intro T h X W qh
 replace qh : Av Z h qj .int [(.int ql), (.int qm), (.int qn), (.int qo)] := qh
 replace qs := qs.wr W
 replace Z0 := Nat.le_trans Z0 (Nat.le_of_eq W.size.symm)
 replace N := Fr.snoc X.1 N qad
 refine g_astore X at_35 (pc' := 37) (Ls' := #[.val (.int i0), .val (.int i1), .val (.int i2), .val (.int i3), .val (.long j4), .second, .val (.long j5), .second, .val (.ref qj), .unset, .unset, .unset, .unset, .unset, .unset, .unset, .unset, .unset, .unset, .unset, .unset, .unset, .unset, .unset, .unset, .unset]) rfl rfl rfl ?_
 refine g_iconst X (4 : Int32) at_37 (pc' := 38) rfl rfl ?_
 refine g_newarray X 4 (tb hw 0 rfl) at_38 (pc' := 40) rfl (by decide) (by decide) 4 (by decide) (by decide) (by decide) (by decide) (vs := [(.int (0 : Int32)), (.int (0 : Int32)), (.int (0 : Int32)), (.int (0 : Int32))]) rfl (ad := "[I") (by decide) ?_
 intro T h qk qbr X Ex jb qi
 have qae : qj ≠ qk := Nat.ne_of_lt (by rw [qbr]; exact qs.lt)
 have qaf : n0 ≤ qk := by rw [qbr]; exact Z0
 replace qs := qs.ext Ex
 replace qh := qh.ext Ex
 replace Z0 := Nat.le_trans Z0 Ex.1
 refine g_dup X at_40 (pc' := 41) rfl rfl ?_
 refine g_iconst X (0 : Int32) at_41 (pc' := 42) rfl rfl ?_
 refine g_iloadN X at_42 (pc' := 43) rfl rfl ?_
 refine g_iloadN X at_43 (pc' := 44) rfl rfl ?_
 refine g_static X (W := 3) [(.int i0), (.int i1)] [(.int (0 : Int32)), (.ref qk), (.ref qk)] (tb hw 5 rfl) (tb hw 6 rfl) (tb hw 3 rfl) (tb hw 7 rfl) (rMax l Z aa hw [] i0 i1 _) at_44 (pc' := 47) rfl (by decide) (by decide) (by decide) rfl rfl rfl (lenOf pd_2 rfl) (Nat.le_refl _) (by decide) (by decide) ?_
 intro v T L X q
 obtain ⟨rfl, X⟩ := pureX X q
 show Go p e below _ (T.setTop (mkF m 47 _ [(.int (fMax i0 i1)), (.int (0 : Int32)), (.ref qk), (.ref qk)]))
 generalize qcu : (fMax i0 i1) = jc
 refine g_iastore X qi 0 at_47 (pc' := 48) rfl (by decide) (by decide) (Nat.le_of_ble_eq_true rfl) ?_
 intro T h X W qi
 replace qi : Av Z h qk .int [(.int jc), (.int (0 : Int32)), (.int (0 : Int32)), (.int (0 : Int32))] := qi
 replace qs := qs.wr W
 replace qh := qh.other W qae
 replace jb := jb.wr W
 replace Z0 := Nat.le_trans Z0 (Nat.le_of_eq W.size.symm)
 replace N := Fr.snoc X.1 N qaf
 refine g_dup X at_48 (pc' := 49) rfl rfl ?_
 refine g_iconst X (1 : Int32) at_49 (pc' := 50) rfl rfl ?_
 refine g_iloadN X at_50 (pc' := 51) rfl rfl ?_
 refine g_iloadN X at_51 (pc' := 52) rfl rfl ?_
 refine g_static X (W := 3) [(.int i2), (.int i3)] [(.int (1 : Int32)), (.ref qk), (.ref qk)] (tb hw 5 rfl) (tb hw 6 rfl) (tb hw 3 rfl) (tb hw 7 rfl) (rMax l Z aa hw [] i2 i3 _) at_52 (pc' := 55) rfl (by decide) (by decide) (by decide) rfl rfl rfl (lenOf pd_2 rfl) (Nat.le_refl _) (by decide) (by decide) ?_
 intro v T L X q
 obtain ⟨rfl, X⟩ := pureX X q
 show Go p e below _ (T.setTop (mkF m 55 _ [(.int (fMax i2 i3)), (.int (1 : Int32)), (.ref qk), (.ref qk)]))
 generalize qcv : (fMax i2 i3) = jp
 refine g_iastore X qi 1 at_55 (pc' := 56) rfl (by decide) (by decide) (Nat.le_of_ble_eq_true rfl) ?_
 intro T h X W qi
 replace qi : Av Z h qk .int [(.int jc), (.int jp), (.int (0 : Int32)), (.int (0 : Int32))] := qi
 replace qs := qs.wr W
 replace qh := qh.other W qae
 replace jb := jb.wr W
 replace Z0 := Nat.le_trans Z0 (Nat.le_of_eq W.size.symm)
 replace N := Fr.snoc X.1 N qaf
 refine g_dup X at_56 (pc' := 57) rfl rfl ?_
 refine g_iconst X (2 : Int32) at_57 (pc' := 58) rfl rfl ?_
 refine g_iloadN X at_58 (pc' := 59) rfl rfl ?_
 refine g_iloadN X at_59 (pc' := 60) rfl rfl ?_
 refine g_static X (W := 3) [(.int i0), (.int i3)] [(.int (2 : Int32)), (.ref qk), (.ref qk)] (tb hw 5 rfl) (tb hw 6 rfl) (tb hw 3 rfl) (tb hw 7 rfl) (rMax l Z aa hw [] i0 i3 _) at_60 (pc' := 63) rfl (by decide) (by decide) (by decide) rfl rfl rfl (lenOf pd_2 rfl) (Nat.le_refl _) (by decide) (by decide) ?_
 intro v T L X q
 obtain ⟨rfl, X⟩ := pureX X q
 show Go p e below _ (T.setTop (mkF m 63 _ [(.int (fMax i0 i3)), (.int (2 : Int32)), (.ref qk), (.ref qk)]))
 generalize qcw : (fMax i0 i3) = jw
 refine g_iastore X qi 2 at_63 (pc' := 64) rfl (by decide) (by decide) (Nat.le_of_ble_eq_true rfl) ?_
 intro T h X W qi
 replace qi : Av Z h qk .int [(.int jc), (.int jp), (.int jw), (.int (0 : Int32))] := qi
 replace qs := qs.wr W
 replace qh := qh.other W qae
 replace jb := jb.wr W
 replace Z0 := Nat.le_trans Z0 (Nat.le_of_eq W.size.symm)
 replace N := Fr.snoc X.1 N qaf
 refine g_dup X at_64 (pc' := 65) rfl rfl ?_
 refine g_iconst X (3 : Int32) at_65 (pc' := 66) rfl rfl ?_
 refine g_iloadN X at_66 (pc' := 67) rfl rfl ?_
 refine g_iloadN X at_67 (pc' := 68) rfl rfl ?_
 refine g_static X (W := 3) [(.int i1), (.int i2)] [(.int (3 : Int32)), (.ref qk), (.ref qk)] (tb hw 5 rfl) (tb hw 6 rfl) (tb hw 3 rfl) (tb hw 7 rfl) (rMax l Z aa hw [] i1 i2 _) at_68 (pc' := 71) rfl (by decide) (by decide) (by decide) rfl rfl rfl (lenOf pd_2 rfl) (Nat.le_refl _) (by decide) (by decide) ?_
 intro v T L X q
 obtain ⟨rfl, X⟩ := pureX X q
 show Go p e below _ (T.setTop (mkF m 71 _ [(.int (fMax i1 i2)), (.int (3 : Int32)), (.ref qk), (.ref qk)]))
 generalize qcx : (fMax i1 i2) = jz
 refine g_iastore X qi 3 at_71 (pc' := 72) rfl (by decide) (by decide) (Nat.le_of_ble_eq_true rfl) ?_
 intro T h X W qi
 replace qi : Av Z h qk .int [(.int jc), (.int jp), (.int jw), (.int jz)] := qi
 replace qs := qs.wr W
 replace qh := qh.other W qae
 replace jb := jb.wr W
 replace Z0 := Nat.le_trans Z0 (Nat.le_of_eq W.size.symm)
 replace N := Fr.snoc X.1 N qaf
 refine g_astore X at_72 (pc' := 74) (Ls' := #[.val (.int i0), .val (.int i1), .val (.int i2), .val (.int i3), .val (.long j4), .second, .val (.long j5), .second, .val (.ref qj), .val (.ref qk), .unset, .unset, .unset, .unset, .unset, .unset, .unset, .unset, .unset, .unset, .unset, .unset, .unset, .unset, .unset, .unset]) rfl rfl rfl ?_
 refine g_new X (tb hw 8 rfl) (tb hw 9 rfl) (tb hw 10 rfl) at_74 (pc' := 77) rfl (by decide) (by decide) ?_
 intro T h qg qbj X Ex qa ul
 have zs : qj ≠ qg := Nat.ne_of_lt (by rw [qbj]; exact qs.lt)
 have zt : qk ≠ qg := Nat.ne_of_lt (by rw [qbj]; exact jb.lt)
 have qbk : n0 ≤ qg := by rw [qbj]; exact Z0
 replace qs := qs.ext Ex
 replace qh := qh.ext Ex
 replace jb := jb.ext Ex
 replace qi := qi.ext Ex
 replace Z0 := Nat.le_trans Z0 Ex.1
 have qb : Fld Z h qg "com/example/ryazan/ryazan/language/Layout" "low" "[I" .null := ul (Or.inr (tb hw 27 rfl)) (ty := (.array .int)) (by decide)
 have qc : Fld Z h qg "com/example/ryazan/ryazan/language/Layout" "word" "[I" .null := ul (Or.inr (tb hw 29 rfl)) (ty := (.array .int)) (by decide)
 have qd : Fld Z h qg "com/example/ryazan/ryazan/language/Layout" "shift" "[I" .null := ul (Or.inr (tb hw 31 rfl)) (ty := (.array .int)) (by decide)
 have qe : Fld Z h qg "com/example/ryazan/ryazan/language/Layout" "mask" "[J" .null := ul (Or.inr (tb hw 34 rfl)) (ty := (.array .long)) (by decide)
 have qf : Fld Z h qg "com/example/ryazan/ryazan/language/Layout" "width" "I" (.int (0 : Int32)) := ul (Or.inr (tb hw 45 rfl)) (ty := .int) (by decide)
 refine g_dup X at_77 (pc' := 78) rfl rfl ?_
 refine g_aload X at_78 (pc' := 80) rfl rfl rfl ?_
 refine g_aload X at_80 (pc' := 82) rfl rfl rfl ?_
 have le0 : ql.toInt ≤ jc.toInt := by rw [← qcq]; rw [← qcu]; exact minmax _ _
 obtain ⟨B0, b0, c0, s0⟩ := bt_bound ql jc le0
 have le1 : qm.toInt ≤ jp.toInt := by rw [← qcr]; rw [← qcv]; exact minmax _ _
 obtain ⟨B1, b1, c1, s1⟩ := bt_bound qm jp le1
 have le2 : qn.toInt ≤ jw.toInt := by rw [← qcs]; rw [← qcw]; exact minmax _ _
 obtain ⟨B2, b2, c2, s2⟩ := bt_bound qn jw le2
 have le3 : qo.toInt ≤ jz.toInt := by rw [← qct]; rw [← qcx]; exact minmax _ _
 obtain ⟨B3, b3, c3, s3⟩ := bt_bound qo jz le3
 have n64 : (64 : Int32).toInt = (64 : Nat) := rfl
 have t0 := sub32 n64 b0 (by omega) (by omega)
 have t1 := sub32 t0 b1 (by omega) (by omega)
 by_cases h2 : ((64 : Int32) - bt ql jc - bt qm jp) < bt qn jw
 have t2 := sub32 n64 b2 (by omega) (by omega)
 have t3 := sub32 t2 b3 (by omega) (by omega)
 have h3 := not_of_le t2 b3 (by omega)
 have zz0 : 64 - B0 + B0 = 64 := by omega
 have zl0 : 64 ≤ 64 := by omega
 have zb0 : 64 - B0 + B0 ≤ 64 := by omega
 have zz1 : 64 - B0 - B1 + B1 = 64 - B0 := by omega
 have zl1 : 64 - B0 ≤ 64 := by omega
 have zb1 : 64 - B0 - B1 + B1 ≤ 64 := by omega
 have zz2 : 64 - B2 + B2 = 64 := by omega
 have zl2 : 64 ≤ 64 := by omega
 have zb2 : 64 - B2 + B2 ≤ 64 := by omega
 have zz3 : 64 - B2 - B3 + B3 = 64 - B2 := by omega
 have zl3 : 64 - B2 ≤ 64 := by omega
 have zb3 : 64 - B2 - B3 + B3 ≤ 64 := by omega
 refine g_special X (W := 1) (a := qg) [(.ref qj), (.ref qk)] [(.ref qg)] rfl (tb hw 11 rfl) (tb hw 12 rfl) (tb hw 10 rfl) (tb hw 13 rfl) (rInit2 l Z aa hw [] qg qj qk ql qm qn qo jc jp jw jz _ n0 Z0 qa qb qc qd qe qf qs qh qi qbk zs zt (not_of_le n64 b0 (by omega)) (not_of_le t0 b1 (by omega)) h2 h3) at_82 (pc' := 85) rfl (by decide) (by decide) (by decide) rfl rfl rfl (lenOf pd_4 rfl) (Nat.le_refl _) (by decide) (by decide) ?_
 intro v T L X q
 obtain ⟨y1, y2, y3, zj, rfl, Nq, Kq, qey, qez, qe0, qe1, qe2, qe3, qe4, qe5, qe6, qe7, qe8, qe9, qfa, qfb, um, un, uo, up, uq, ur, jd, qz, je, q0, jf, qt, jg, qw⟩ := q
 replace N := N.app Nq
 replace qs := qs.keep Kq
 replace qh := qh.keep Kq (ninS zs nin0)
 replace jb := jb.keep Kq
 replace qi := qi.keep Kq (ninS zt nin0)
 replace Z0 := Nat.le_trans Z0 Kq.1
 replace qa := um
 replace qb := un
 replace qc := uo
 replace qd := up
 replace qe := uq
 replace qf := ur
 generalize ex16 : (((64 : Int32) - ((64 : Int32) - (fNL ((jw.toInt64) - (qn.toInt64))))) - ((64 : Int32) - (fNL ((jz.toInt64) - (qo.toInt64))))) = x16 at qt
 generalize ex17 : ((64 : Int32) - ((64 : Int32) - (fNL ((jw.toInt64) - (qn.toInt64))))) = x17 at qt
 generalize ex18 : (((64 : Int32) - ((64 : Int32) - (fNL ((jc.toInt64) - (ql.toInt64))))) - ((64 : Int32) - (fNL ((jp.toInt64) - (qm.toInt64))))) = x18 at qt
 generalize ex19 : ((64 : Int32) - ((64 : Int32) - (fNL ((jc.toInt64) - (ql.toInt64))))) = x19 at qt
 generalize ex20 : (((1 : Int64) <<< (((64 : Int32) - (fNL ((jz.toInt64) - (qo.toInt64)))) &&& 0x3f).toInt64) - (1 : Int64)) = x20 at qw
 generalize ex21 : (((1 : Int64) <<< (((64 : Int32) - (fNL ((jw.toInt64) - (qn.toInt64)))) &&& 0x3f).toInt64) - (1 : Int64)) = x21 at qw
 generalize ex22 : (((1 : Int64) <<< (((64 : Int32) - (fNL ((jp.toInt64) - (qm.toInt64)))) &&& 0x3f).toInt64) - (1 : Int64)) = x22 at qw
 generalize ex23 : (((1 : Int64) <<< (((64 : Int32) - (fNL ((jc.toInt64) - (ql.toInt64)))) &&& 0x3f).toInt64) - (1 : Int64)) = x23 at qw
 show Go p e below _ (T.setTop (mkF m 85 _ [(.ref qg)]))
 refine g_astore X at_85 (pc' := 87) (Ls' := #[.val (.int i0), .val (.int i1), .val (.int i2), .val (.int i3), .val (.long j4), .second, .val (.long j5), .second, .val (.ref qj), .val (.ref qk), .val (.ref qg), .unset, .unset, .unset, .unset, .unset, .unset, .unset, .unset, .unset, .unset, .unset, .unset, .unset, .unset, .unset]) rfl rfl rfl ?_
 refine g_aload X at_87 (pc' := 89) rfl rfl rfl ?_
 refine g_virtual X (W := 0) (a := qg) (C := "com/example/ryazan/ryazan/language/Layout") [] [] qa (tb hw 46 rfl) (tb hw 47 rfl) (tb hw 49 rfl) (tb hw 48 rfl) (tb hw 10 rfl) (tb hw 50 rfl) (rWidth2 l Z aa hw [] qg _ qa qf) at_89 (pc' := 92) rfl (by decide) (by decide) (by decide) rfl rfl rfl (lenOf pd_5 rfl) (Nat.le_refl _) (by decide) (by decide) ?_
 intro v T L X q
 obtain ⟨rfl, X⟩ := pureX X q
 show Go p e below _ (T.setTop (mkF m 92 _ [(.int (2 : Int32))]))
 refine g_istore X at_92 (pc' := 94) (Ls' := #[.val (.int i0), .val (.int i1), .val (.int i2), .val (.int i3), .val (.long j4), .second, .val (.long j5), .second, .val (.ref qj), .val (.ref qk), .val (.ref qg), .val (.int (2 : Int32)), .unset, .unset, .unset, .unset, .unset, .unset, .unset, .unset, .unset, .unset, .unset, .unset, .unset, .unset]) rfl rfl ?_
 refine g_iload X at_94 (pc' := 96) rfl rfl ?_
 refine g_iconst X (1 : Int32) at_96 (pc' := 97) rfl rfl ?_
 refine g_icN X at_97 (flt (show ¬ ((2 : Int32) < (1 : Int32)) from (by decide))).1 (pc' := 100) rfl ?_
 refine g_iload X at_100 (pc' := 102) rfl rfl ?_
 refine g_iconst X (2 : Int32) at_102 (pc' := 103) rfl rfl ?_
 refine g_icY X at_103 (flt (show ¬ ((2 : Int32) < (2 : Int32)) from (by decide))).2.2.2 (pc' := 108) (by decide) (by decide) ?_
 refine g_iconst X (4 : Int32) at_108 (pc' := 109) rfl rfl ?_
 refine g_newarray X 4 (tb hw 0 rfl) at_109 (pc' := 111) rfl (by decide) (by decide) 4 (by decide) (by decide) (by decide) (by decide) (vs := [(.int (0 : Int32)), (.int (0 : Int32)), (.int (0 : Int32)), (.int (0 : Int32))]) rfl (ad := "[I") (by decide) ?_
 intro T h jt zk X Ex jq qp
 have qag : qj ≠ jt := Nat.ne_of_lt (by rw [zk]; exact qs.lt)
 have qah : qk ≠ jt := Nat.ne_of_lt (by rw [zk]; exact jb.lt)
 have wz : qg ≠ jt := Nat.ne_of_lt (by rw [zk]; exact qa.lt)
 have qai : y1 ≠ jt := Nat.ne_of_lt (by rw [zk]; exact jd.lt)
 have qaj : y2 ≠ jt := Nat.ne_of_lt (by rw [zk]; exact je.lt)
 have qak : y3 ≠ jt := Nat.ne_of_lt (by rw [zk]; exact jf.lt)
 have qal : zj ≠ jt := Nat.ne_of_lt (by rw [zk]; exact jg.lt)
 have qam : n0 ≤ jt := by rw [zk]; exact Z0
 replace qs := qs.ext Ex
 replace qh := qh.ext Ex
 replace jb := jb.ext Ex
 replace qi := qi.ext Ex
 replace qa := qa.ext Ex
 replace qb := qb.ext Ex
 replace qc := qc.ext Ex
 replace qd := qd.ext Ex
 replace qe := qe.ext Ex
 replace qf := qf.ext Ex
 replace jd := jd.ext Ex
 replace qz := qz.ext Ex
 replace je := je.ext Ex
 replace q0 := q0.ext Ex
 replace jf := jf.ext Ex
 replace qt := qt.ext Ex
 replace jg := jg.ext Ex
 replace qw := qw.ext Ex
 replace Z0 := Nat.le_trans Z0 Ex.1
 refine g_astore X at_111 (pc' := 113) (Ls' := #[.val (.int i0), .val (.int i1), .val (.int i2), .val (.int i3), .val (.long j4), .second, .val (.long j5), .second, .val (.ref qj), .val (.ref qk), .val (.ref qg), .val (.int (2 : Int32)), .val (.ref jt), .unset, .unset, .unset, .unset, .unset, .unset, .unset, .unset, .unset, .unset, .unset, .unset, .unset]) rfl rfl rfl ?_
 refine g_aload X at_113 (pc' := 115) rfl rfl rfl ?_
 refine g_iconst X (0 : Int32) at_115 (pc' := 116) rfl rfl ?_
 refine g_lload X at_116 (pc' := 118) rfl rfl ?_
 refine g_aload X at_118 (pc' := 120) rfl rfl rfl ?_
 refine g_iconst X (0 : Int32) at_120 (pc' := 121) rfl rfl ?_
 refine g_iaload X qh 0 at_121 (pc' := 122) rfl (by decide) (by decide) rfl ?_
 refine g_aload X at_122 (pc' := 124) rfl rfl rfl ?_
 refine g_iconst X (0 : Int32) at_124 (pc' := 125) rfl rfl ?_
 refine g_iaload X qi 0 at_125 (pc' := 126) rfl (by decide) (by decide) rfl ?_
 refine g_static X (W := 2) [(.long j4), (.int ql), (.int jc)] [(.int (0 : Int32)), (.ref jt)] (tb hw 51 rfl) (tb hw 52 rfl) (tb hw 53 rfl) (tb hw 54 rfl) (rPick l Z aa hw [] j4 ql jc _ (one_more le0).2) at_126 (pc' := 129) rfl (by decide) (by decide) (by decide) rfl rfl rfl (lenOf pd_6 rfl) (Nat.le_refl _) (by decide) (by decide) ?_
 intro v T L X q
 obtain ⟨rfl, X⟩ := pureX X q
 show Go p e below _ (T.setTop (mkF m 129 _ [(.int (fPick j4 ql jc)), (.int (0 : Int32)), (.ref jt)]))
 generalize qcy : (fPick j4 ql jc) = yd
 refine g_iastore X qp 0 at_129 (pc' := 130) rfl (by decide) (by decide) (Nat.le_of_ble_eq_true rfl) ?_
 intro T h X W qp
 replace qp : Av Z h jt .int [(.int yd), (.int (0 : Int32)), (.int (0 : Int32)), (.int (0 : Int32))] := qp
 replace qs := qs.wr W
 replace qh := qh.other W qag
 replace jb := jb.wr W
 replace qi := qi.other W qah
 replace qa := qa.wr W
 replace qb := qb.other W (Or.inl wz)
 replace qc := qc.other W (Or.inl wz)
 replace qd := qd.other W (Or.inl wz)
 replace qe := qe.other W (Or.inl wz)
 replace qf := qf.other W (Or.inl wz)
 replace jd := jd.wr W
 replace qz := qz.other W qai
 replace je := je.wr W
 replace q0 := q0.other W qaj
 replace jf := jf.wr W
 replace qt := qt.other W qak
 replace jg := jg.wr W
 replace qw := qw.other W qal
 replace jq := jq.wr W
 replace Z0 := Nat.le_trans Z0 (Nat.le_of_eq W.size.symm)
 replace N := Fr.snoc X.1 N qam
 refine g_aload X at_130 (pc' := 132) rfl rfl rfl ?_
 refine g_iconst X (1 : Int32) at_132 (pc' := 133) rfl rfl ?_
 refine g_lload X at_133 (pc' := 135) rfl rfl ?_
 refine g_ldc2 X (tb hw 56 rfl) at_135 (pc' := 138) rfl ?_
 refine g_lmul X at_138 (pc' := 139) rfl ?_
 refine g_aload X at_139 (pc' := 141) rfl rfl rfl ?_
 refine g_iconst X (1 : Int32) at_141 (pc' := 142) rfl rfl ?_
 refine g_iaload X qh 1 at_142 (pc' := 143) rfl (by decide) (by decide) rfl ?_
 refine g_aload X at_143 (pc' := 145) rfl rfl rfl ?_
 refine g_iconst X (1 : Int32) at_145 (pc' := 146) rfl rfl ?_
 refine g_iaload X qi 1 at_146 (pc' := 147) rfl (by decide) (by decide) rfl ?_
 refine g_static X (W := 2) [(.long (j4 * (-7046029254386353131 : Int64))), (.int qm), (.int jp)] [(.int (1 : Int32)), (.ref jt)] (tb hw 51 rfl) (tb hw 52 rfl) (tb hw 53 rfl) (tb hw 54 rfl) (rPick l Z aa hw [] (j4 * (-7046029254386353131 : Int64)) qm jp _ (one_more le1).2) at_147 (pc' := 150) rfl (by decide) (by decide) (by decide) rfl rfl rfl (lenOf pd_6 rfl) (Nat.le_refl _) (by decide) (by decide) ?_
 intro v T L X q
 obtain ⟨rfl, X⟩ := pureX X q
 show Go p e below _ (T.setTop (mkF m 150 _ [(.int (fPick (j4 * (-7046029254386353131 : Int64)) qm jp)), (.int (1 : Int32)), (.ref jt)]))
 generalize qcz : (fPick (j4 * (-7046029254386353131 : Int64)) qm jp) = yj
 refine g_iastore X qp 1 at_150 (pc' := 151) rfl (by decide) (by decide) (Nat.le_of_ble_eq_true rfl) ?_
 intro T h X W qp
 replace qp : Av Z h jt .int [(.int yd), (.int yj), (.int (0 : Int32)), (.int (0 : Int32))] := qp
 replace qs := qs.wr W
 replace qh := qh.other W qag
 replace jb := jb.wr W
 replace qi := qi.other W qah
 replace qa := qa.wr W
 replace qb := qb.other W (Or.inl wz)
 replace qc := qc.other W (Or.inl wz)
 replace qd := qd.other W (Or.inl wz)
 replace qe := qe.other W (Or.inl wz)
 replace qf := qf.other W (Or.inl wz)
 replace jd := jd.wr W
 replace qz := qz.other W qai
 replace je := je.wr W
 replace q0 := q0.other W qaj
 replace jf := jf.wr W
 replace qt := qt.other W qak
 replace jg := jg.wr W
 replace qw := qw.other W qal
 replace jq := jq.wr W
 replace Z0 := Nat.le_trans Z0 (Nat.le_of_eq W.size.symm)
 replace N := Fr.snoc X.1 N qam
 refine g_aload X at_151 (pc' := 153) rfl rfl rfl ?_
 refine g_iconst X (2 : Int32) at_153 (pc' := 154) rfl rfl ?_
 refine g_lload X at_154 (pc' := 156) rfl rfl ?_
 refine g_ldc2 X (tb hw 57 rfl) at_156 (pc' := 159) rfl ?_
 refine g_lmul X at_159 (pc' := 160) rfl ?_
 refine g_aload X at_160 (pc' := 162) rfl rfl rfl ?_
 refine g_iconst X (2 : Int32) at_162 (pc' := 163) rfl rfl ?_
 refine g_iaload X qh 2 at_163 (pc' := 164) rfl (by decide) (by decide) rfl ?_
 refine g_aload X at_164 (pc' := 166) rfl rfl rfl ?_
 refine g_iconst X (2 : Int32) at_166 (pc' := 167) rfl rfl ?_
 refine g_iaload X qi 2 at_167 (pc' := 168) rfl (by decide) (by decide) rfl ?_
 refine g_static X (W := 2) [(.long (j4 * (-4417276706812531889 : Int64))), (.int qn), (.int jw)] [(.int (2 : Int32)), (.ref jt)] (tb hw 51 rfl) (tb hw 52 rfl) (tb hw 53 rfl) (tb hw 54 rfl) (rPick l Z aa hw [] (j4 * (-4417276706812531889 : Int64)) qn jw _ (one_more le2).2) at_168 (pc' := 171) rfl (by decide) (by decide) (by decide) rfl rfl rfl (lenOf pd_6 rfl) (Nat.le_refl _) (by decide) (by decide) ?_
 intro v T L X q
 obtain ⟨rfl, X⟩ := pureX X q
 show Go p e below _ (T.setTop (mkF m 171 _ [(.int (fPick (j4 * (-4417276706812531889 : Int64)) qn jw)), (.int (2 : Int32)), (.ref jt)]))
 generalize qc0 : (fPick (j4 * (-4417276706812531889 : Int64)) qn jw) = ym
 refine g_iastore X qp 2 at_171 (pc' := 172) rfl (by decide) (by decide) (Nat.le_of_ble_eq_true rfl) ?_
 intro T h X W qp
 replace qp : Av Z h jt .int [(.int yd), (.int yj), (.int ym), (.int (0 : Int32))] := qp
 replace qs := qs.wr W
 replace qh := qh.other W qag
 replace jb := jb.wr W
 replace qi := qi.other W qah
 replace qa := qa.wr W
 replace qb := qb.other W (Or.inl wz)
 replace qc := qc.other W (Or.inl wz)
 replace qd := qd.other W (Or.inl wz)
 replace qe := qe.other W (Or.inl wz)
 replace qf := qf.other W (Or.inl wz)
 replace jd := jd.wr W
 replace qz := qz.other W qai
 replace je := je.wr W
 replace q0 := q0.other W qaj
 replace jf := jf.wr W
 replace qt := qt.other W qak
 replace jg := jg.wr W
 replace qw := qw.other W qal
 replace jq := jq.wr W
 replace Z0 := Nat.le_trans Z0 (Nat.le_of_eq W.size.symm)
 replace N := Fr.snoc X.1 N qam
 refine g_aload X at_172 (pc' := 174) rfl rfl rfl ?_
 refine g_iconst X (3 : Int32) at_174 (pc' := 175) rfl rfl ?_
 refine g_lload X at_175 (pc' := 177) rfl rfl ?_
 refine g_ldc2 X (tb hw 58 rfl) at_177 (pc' := 180) rfl ?_
 refine g_lmul X at_180 (pc' := 181) rfl ?_
 refine g_aload X at_181 (pc' := 183) rfl rfl rfl ?_
 refine g_iconst X (3 : Int32) at_183 (pc' := 184) rfl rfl ?_
 refine g_iaload X qh 3 at_184 (pc' := 185) rfl (by decide) (by decide) rfl ?_
 refine g_aload X at_185 (pc' := 187) rfl rfl rfl ?_
 refine g_iconst X (3 : Int32) at_187 (pc' := 188) rfl rfl ?_
 refine g_iaload X qi 3 at_188 (pc' := 189) rfl (by decide) (by decide) rfl ?_
 refine g_static X (W := 2) [(.long (j4 * (1609587929392839161 : Int64))), (.int qo), (.int jz)] [(.int (3 : Int32)), (.ref jt)] (tb hw 51 rfl) (tb hw 52 rfl) (tb hw 53 rfl) (tb hw 54 rfl) (rPick l Z aa hw [] (j4 * (1609587929392839161 : Int64)) qo jz _ (one_more le3).2) at_189 (pc' := 192) rfl (by decide) (by decide) (by decide) rfl rfl rfl (lenOf pd_6 rfl) (Nat.le_refl _) (by decide) (by decide) ?_
 intro v T L X q
 obtain ⟨rfl, X⟩ := pureX X q
 show Go p e below _ (T.setTop (mkF m 192 _ [(.int (fPick (j4 * (1609587929392839161 : Int64)) qo jz)), (.int (3 : Int32)), (.ref jt)]))
 generalize qc1 : (fPick (j4 * (1609587929392839161 : Int64)) qo jz) = ys
 refine g_iastore X qp 3 at_192 (pc' := 193) rfl (by decide) (by decide) (Nat.le_of_ble_eq_true rfl) ?_
 intro T h X W qp
 replace qp : Av Z h jt .int [(.int yd), (.int yj), (.int ym), (.int ys)] := qp
 replace qs := qs.wr W
 replace qh := qh.other W qag
 replace jb := jb.wr W
 replace qi := qi.other W qah
 replace qa := qa.wr W
 replace qb := qb.other W (Or.inl wz)
 replace qc := qc.other W (Or.inl wz)
 replace qd := qd.other W (Or.inl wz)
 replace qe := qe.other W (Or.inl wz)
 replace qf := qf.other W (Or.inl wz)
 replace jd := jd.wr W
 replace qz := qz.other W qai
 replace je := je.wr W
 replace q0 := q0.other W qaj
 replace jf := jf.wr W
 replace qt := qt.other W qak
 replace jg := jg.wr W
 replace qw := qw.other W qal
 replace jq := jq.wr W
 replace Z0 := Nat.le_trans Z0 (Nat.le_of_eq W.size.symm)
 replace N := Fr.snoc X.1 N qam
 have ia0 : ql.toInt ≤ yd.toInt ∧ yd.toInt ≤ jc.toInt := by rw [← qcy]; exact pick_in le0
 have da0 := d_nat ia0.1 ia0.2 s0
 have ia1 : qm.toInt ≤ yj.toInt ∧ yj.toInt ≤ jp.toInt := by rw [← qcz]; exact pick_in le1
 have da1 := d_nat ia1.1 ia1.2 s1
 have ia2 : qn.toInt ≤ ym.toInt ∧ ym.toInt ≤ jw.toInt := by rw [← qc0]; exact pick_in le2
 have da2 := d_nat ia2.1 ia2.2 s2
 have ia3 : qo.toInt ≤ ys.toInt ∧ ys.toInt ≤ jz.toInt := by rw [← qc1]; exact pick_in le3
 have da3 := d_nat ia3.1 ia3.2 s3
 refine g_lload X at_193 (pc' := 195) rfl rfl ?_
 refine g_ldc2 X (tb hw 59 rfl) at_195 (pc' := 198) rfl ?_
 refine g_land X at_198 (pc' := 199) rfl ?_
 refine g_ldc2 X (tb hw 60 rfl) at_199 (pc' := 202) rfl ?_
 refine g_lrem X at_202 (pc' := 203) rfl (by decide) ?_
 refine g_l2i X at_203 (pc' := 204) rfl ?_
 generalize qfc : (((j5 &&& (255 : Int64)) % (5 : Int64)).toInt32) = ww
 refine g_istore X at_204 (pc' := 206) (Ls' := #[.val (.int i0), .val (.int i1), .val (.int i2), .val (.int i3), .val (.long j4), .second, .val (.long j5), .second, .val (.ref qj), .val (.ref qk), .val (.ref qg), .val (.int (2 : Int32)), .val (.ref jt), .val (.int ww), .unset, .unset, .unset, .unset, .unset, .unset, .unset, .unset, .unset, .unset, .unset, .unset]) rfl rfl ?_
 refine g_iconst X (4 : Int32) at_206 (pc' := 207) rfl rfl ?_
 refine g_newarray X 4 (tb hw 0 rfl) at_207 (pc' := 209) rfl (by decide) (by decide) 4 (by decide) (by decide) (by decide) (by decide) (vs := [(.int (0 : Int32)), (.int (0 : Int32)), (.int (0 : Int32)), (.int (0 : Int32))]) rfl (ad := "[I") (by decide) ?_
 intro T h q1 zd X Ex j1 q2
 have qbl : qj ≠ q1 := Nat.ne_of_lt (by rw [zd]; exact qs.lt)
 have qbm : qk ≠ q1 := Nat.ne_of_lt (by rw [zd]; exact jb.lt)
 have w0 : qg ≠ q1 := Nat.ne_of_lt (by rw [zd]; exact qa.lt)
 have qan : y1 ≠ q1 := Nat.ne_of_lt (by rw [zd]; exact jd.lt)
 have qao : y2 ≠ q1 := Nat.ne_of_lt (by rw [zd]; exact je.lt)
 have qap : y3 ≠ q1 := Nat.ne_of_lt (by rw [zd]; exact jf.lt)
 have qaq : zj ≠ q1 := Nat.ne_of_lt (by rw [zd]; exact jg.lt)
 have qar : jt ≠ q1 := Nat.ne_of_lt (by rw [zd]; exact jq.lt)
 have qas : n0 ≤ q1 := by rw [zd]; exact Z0
 replace qh := qh.ext Ex
 replace qi := qi.ext Ex
 replace qa := qa.ext Ex
 replace qb := qb.ext Ex
 replace qc := qc.ext Ex
 replace qd := qd.ext Ex
 replace qe := qe.ext Ex
 replace qf := qf.ext Ex
 replace jd := jd.ext Ex
 replace qz := qz.ext Ex
 replace je := je.ext Ex
 replace q0 := q0.ext Ex
 replace jf := jf.ext Ex
 replace qt := qt.ext Ex
 replace jg := jg.ext Ex
 replace qw := qw.ext Ex
 replace jq := jq.ext Ex
 replace qp := qp.ext Ex
 replace Z0 := Nat.le_trans Z0 Ex.1
 refine g_astore X at_209 (pc' := 211) (Ls' := #[.val (.int i0), .val (.int i1), .val (.int i2), .val (.int i3), .val (.long j4), .second, .val (.long j5), .second, .val (.ref qj), .val (.ref qk), .val (.ref qg), .val (.int (2 : Int32)), .val (.ref jt), .val (.int ww), .val (.ref q1), .unset, .unset, .unset, .unset, .unset, .unset, .unset, .unset, .unset, .unset, .unset]) rfl rfl rfl ?_
 refine g_aload X at_211 (pc' := 213) rfl rfl rfl ?_
 refine g_iconst X (0 : Int32) at_213 (pc' := 214) rfl rfl ?_
 refine joinA X (α := Int32) (fun x0_31 => (mkF m 244 #[.val (.int i0), .val (.int i1), .val (.int i2), .val (.int i3), .val (.long j4), .second, .val (.long j5), .second, .val (.ref qj), .val (.ref qk), .val (.ref qg), .val (.int (2 : Int32)), .val (.ref jt), .val (.int ww), .val (.ref q1), .unset, .unset, .unset, .unset, .unset, .unset, .unset, .unset, .unset, .unset, .unset] [(.int x0_31), (.int (0 : Int32)), (.ref q1)])) (fun x0_31 => ql.toInt ≤ x0_31.toInt ∧ x0_31.toInt ≤ jc.toInt) ?_ ?_
 clear X
 intro T X x0_31 ib0
 have db0 := d_nat ib0.1 ib0.2 s0
 show Go p e below _ (T.setTop (mkF m 244 _ [(.int x0_31), (.int (0 : Int32)), (.ref q1)]))
 refine g_iastore X q2 0 at_244 (pc' := 245) rfl (by decide) (by decide) (Nat.le_of_ble_eq_true rfl) ?_
 intro T h X W q2
 replace q2 : Av Z h q1 .int [(.int x0_31), (.int (0 : Int32)), (.int (0 : Int32)), (.int (0 : Int32))] := q2
 replace qh := qh.other W qbl
 replace qi := qi.other W qbm
 replace qa := qa.wr W
 replace qb := qb.other W (Or.inl w0)
 replace qc := qc.other W (Or.inl w0)
 replace qd := qd.other W (Or.inl w0)
 replace qe := qe.other W (Or.inl w0)
 replace qf := qf.other W (Or.inl w0)
 replace jd := jd.wr W
 replace qz := qz.other W qan
 replace je := je.wr W
 replace q0 := q0.other W qao
 replace jf := jf.wr W
 replace qt := qt.other W qap
 replace jg := jg.wr W
 replace qw := qw.other W qaq
 replace jq := jq.wr W
 replace qp := qp.other W qar
 replace j1 := j1.wr W
 replace Z0 := Nat.le_trans Z0 (Nat.le_of_eq W.size.symm)
 replace N := Fr.snoc X.1 N qas
 refine g_aload X at_245 (pc' := 247) rfl rfl rfl ?_
 refine g_iconst X (1 : Int32) at_247 (pc' := 248) rfl rfl ?_
 refine joinA X (α := Int32) (fun x1_32 => (mkF m 278 #[.val (.int i0), .val (.int i1), .val (.int i2), .val (.int i3), .val (.long j4), .second, .val (.long j5), .second, .val (.ref qj), .val (.ref qk), .val (.ref qg), .val (.int (2 : Int32)), .val (.ref jt), .val (.int ww), .val (.ref q1), .unset, .unset, .unset, .unset, .unset, .unset, .unset, .unset, .unset, .unset, .unset] [(.int x1_32), (.int (1 : Int32)), (.ref q1)])) (fun x1_32 => qm.toInt ≤ x1_32.toInt ∧ x1_32.toInt ≤ jp.toInt) ?_ ?_
 clear X
 intro T X x1_32 ib1
 have db1 := d_nat ib1.1 ib1.2 s1
 show Go p e below _ (T.setTop (mkF m 278 _ [(.int x1_32), (.int (1 : Int32)), (.ref q1)]))
 refine g_iastore X q2 1 at_278 (pc' := 279) rfl (by decide) (by decide) (Nat.le_of_ble_eq_true rfl) ?_
 intro T h X W q2
 replace q2 : Av Z h q1 .int [(.int x0_31), (.int x1_32), (.int (0 : Int32)), (.int (0 : Int32))] := q2
 replace qh := qh.other W qbl
 replace qi := qi.other W qbm
 replace qa := qa.wr W
 replace qb := qb.other W (Or.inl w0)
 replace qc := qc.other W (Or.inl w0)
 replace qd := qd.other W (Or.inl w0)
 replace qe := qe.other W (Or.inl w0)
 replace qf := qf.other W (Or.inl w0)
 replace jd := jd.wr W
 replace qz := qz.other W qan
 replace je := je.wr W
 replace q0 := q0.other W qao
 replace jf := jf.wr W
 replace qt := qt.other W qap
 replace jg := jg.wr W
 replace qw := qw.other W qaq
 replace jq := jq.wr W
 replace qp := qp.other W qar
 replace j1 := j1.wr W
 replace Z0 := Nat.le_trans Z0 (Nat.le_of_eq W.size.symm)
 replace N := Fr.snoc X.1 N qas
 refine g_aload X at_279 (pc' := 281) rfl rfl rfl ?_
 refine g_iconst X (2 : Int32) at_281 (pc' := 282) rfl rfl ?_
 refine joinA X (α := Int32) (fun x2_33 => (mkF m 312 #[.val (.int i0), .val (.int i1), .val (.int i2), .val (.int i3), .val (.long j4), .second, .val (.long j5), .second, .val (.ref qj), .val (.ref qk), .val (.ref qg), .val (.int (2 : Int32)), .val (.ref jt), .val (.int ww), .val (.ref q1), .unset, .unset, .unset, .unset, .unset, .unset, .unset, .unset, .unset, .unset, .unset] [(.int x2_33), (.int (2 : Int32)), (.ref q1)])) (fun x2_33 => qn.toInt ≤ x2_33.toInt ∧ x2_33.toInt ≤ jw.toInt) ?_ ?_
 clear X
 intro T X x2_33 ib2
 have db2 := d_nat ib2.1 ib2.2 s2
 show Go p e below _ (T.setTop (mkF m 312 _ [(.int x2_33), (.int (2 : Int32)), (.ref q1)]))
 refine g_iastore X q2 2 at_312 (pc' := 313) rfl (by decide) (by decide) (Nat.le_of_ble_eq_true rfl) ?_
 intro T h X W q2
 replace q2 : Av Z h q1 .int [(.int x0_31), (.int x1_32), (.int x2_33), (.int (0 : Int32))] := q2
 replace qh := qh.other W qbl
 replace qi := qi.other W qbm
 replace qa := qa.wr W
 replace qb := qb.other W (Or.inl w0)
 replace qc := qc.other W (Or.inl w0)
 replace qd := qd.other W (Or.inl w0)
 replace qe := qe.other W (Or.inl w0)
 replace qf := qf.other W (Or.inl w0)
 replace jd := jd.wr W
 replace qz := qz.other W qan
 replace je := je.wr W
 replace q0 := q0.other W qao
 replace jf := jf.wr W
 replace qt := qt.other W qap
 replace jg := jg.wr W
 replace qw := qw.other W qaq
 replace jq := jq.wr W
 replace qp := qp.other W qar
 replace j1 := j1.wr W
 replace Z0 := Nat.le_trans Z0 (Nat.le_of_eq W.size.symm)
 replace N := Fr.snoc X.1 N qas
 refine g_aload X at_313 (pc' := 315) rfl rfl rfl ?_
 refine g_iconst X (3 : Int32) at_315 (pc' := 316) rfl rfl ?_
 refine joinA X (α := Int32) (fun x3_34 => (mkF m 346 #[.val (.int i0), .val (.int i1), .val (.int i2), .val (.int i3), .val (.long j4), .second, .val (.long j5), .second, .val (.ref qj), .val (.ref qk), .val (.ref qg), .val (.int (2 : Int32)), .val (.ref jt), .val (.int ww), .val (.ref q1), .unset, .unset, .unset, .unset, .unset, .unset, .unset, .unset, .unset, .unset, .unset] [(.int x3_34), (.int (3 : Int32)), (.ref q1)])) (fun x3_34 => qo.toInt ≤ x3_34.toInt ∧ x3_34.toInt ≤ jz.toInt) ?_ ?_
 clear X
 intro T X x3_34 ib3
 have db3 := d_nat ib3.1 ib3.2 s3
 show Go p e below _ (T.setTop (mkF m 346 _ [(.int x3_34), (.int (3 : Int32)), (.ref q1)]))
 refine g_iastore X q2 3 at_346 (pc' := 347) rfl (by decide) (by decide) (Nat.le_of_ble_eq_true rfl) ?_
 intro T h X W q2
 replace q2 : Av Z h q1 .int [(.int x0_31), (.int x1_32), (.int x2_33), (.int x3_34)] := q2
 replace qa := qa.wr W
 replace qb := qb.other W (Or.inl w0)
 replace qc := qc.other W (Or.inl w0)
 replace qd := qd.other W (Or.inl w0)
 replace qe := qe.other W (Or.inl w0)
 replace qf := qf.other W (Or.inl w0)
 replace jd := jd.wr W
 replace qz := qz.other W qan
 replace je := je.wr W
 replace q0 := q0.other W qao
 replace jf := jf.wr W
 replace qt := qt.other W qap
 replace jg := jg.wr W
 replace qw := qw.other W qaq
 replace jq := jq.wr W
 replace qp := qp.other W qar
 replace j1 := j1.wr W
 replace Z0 := Nat.le_trans Z0 (Nat.le_of_eq W.size.symm)
 replace N := Fr.snoc X.1 N qas
 refine g_lload X at_347 (pc' := 349) rfl rfl ?_
 refine g_bipush X (63 : Int32) at_349 (pc' := 351) rfl rfl ?_
 refine g_lushr X at_351 (pc' := 352) rfl ?_
 refine g_lconst X (1 : Int64) at_352 (pc' := 353) rfl rfl ?_
 refine g_land X at_353 (pc' := 354) rfl ?_
 refine g_l2i X at_354 (pc' := 355) rfl ?_
 generalize qc2 : ((((j4.toUInt64 >>> ((63 : Int32) &&& 0x3f).toInt64.toUInt64).toInt64) &&& (1 : Int64)).toInt32) = j2
 refine g_istore X at_355 (pc' := 357) (Ls' := #[.val (.int i0), .val (.int i1), .val (.int i2), .val (.int i3), .val (.long j4), .second, .val (.long j5), .second, .val (.ref qj), .val (.ref qk), .val (.ref qg), .val (.int (2 : Int32)), .val (.ref jt), .val (.int ww), .val (.ref q1), .val (.int j2), .unset, .unset, .unset, .unset, .unset, .unset, .unset, .unset, .unset, .unset]) rfl rfl ?_
 refine g_lload X at_357 (pc' := 359) rfl rfl ?_
 refine g_bipush X (63 : Int32) at_359 (pc' := 361) rfl rfl ?_
 refine g_lushr X at_361 (pc' := 362) rfl ?_
 refine g_lconst X (1 : Int64) at_362 (pc' := 363) rfl rfl ?_
 refine g_land X at_363 (pc' := 364) rfl ?_
 refine g_l2i X at_364 (pc' := 365) rfl ?_
 generalize qc3 : ((((j5.toUInt64 >>> ((63 : Int32) &&& 0x3f).toInt64.toUInt64).toInt64) &&& (1 : Int64)).toInt32) = j8
 refine g_istore X at_365 (pc' := 367) (Ls' := #[.val (.int i0), .val (.int i1), .val (.int i2), .val (.int i3), .val (.long j4), .second, .val (.long j5), .second, .val (.ref qj), .val (.ref qk), .val (.ref qg), .val (.int (2 : Int32)), .val (.ref jt), .val (.int ww), .val (.ref q1), .val (.int j2), .val (.int j8), .unset, .unset, .unset, .unset, .unset, .unset, .unset, .unset, .unset]) rfl rfl ?_
 refine g_ldc2 X (tb hw 61 rfl) at_367 (pc' := 370) rfl ?_
 refine g_lstore X at_370 (pc' := 372) (Ls' := #[.val (.int i0), .val (.int i1), .val (.int i2), .val (.int i3), .val (.long j4), .second, .val (.long j5), .second, .val (.ref qj), .val (.ref qk), .val (.ref qg), .val (.int (2 : Int32)), .val (.ref jt), .val (.int ww), .val (.ref q1), .val (.int j2), .val (.int j8), .val (.long (-1 : Int64)), .second, .unset, .unset, .unset, .unset, .unset, .unset, .unset]) rfl rfl ?_
 refine g_ldc2 X (tb hw 62 rfl) at_372 (pc' := 375) rfl ?_
 refine g_lstore X at_375 (pc' := 377) (Ls' := #[.val (.int i0), .val (.int i1), .val (.int i2), .val (.int i3), .val (.long j4), .second, .val (.long j5), .second, .val (.ref qj), .val (.ref qk), .val (.ref qg), .val (.int (2 : Int32)), .val (.ref jt), .val (.int ww), .val (.ref q1), .val (.int j2), .val (.int j8), .val (.long (-1 : Int64)), .second, .val (.long (81985529216486895 : Int64)), .second, .unset, .unset, .unset, .unset, .unset]) rfl rfl ?_
 refine g_iconst X (4 : Int32) at_377 (pc' := 378) rfl rfl ?_
 refine g_newarray X 4 (tb hw 32 rfl) at_378 (pc' := 380) rfl (by decide) (by decide) 4 (by decide) (by decide) (by decide) (by decide) (vs := [(.long (0 : Int64)), (.long (0 : Int64)), (.long (0 : Int64)), (.long (0 : Int64))]) rfl (ad := "[J") (by decide) ?_
 intro T h wf zl X Ex wl jx
 have wo : qg ≠ wf := Nat.ne_of_lt (by rw [zl]; exact qa.lt)
 have zu : y1 ≠ wf := Nat.ne_of_lt (by rw [zl]; exact jd.lt)
 have zv : y2 ≠ wf := Nat.ne_of_lt (by rw [zl]; exact je.lt)
 have zw : y3 ≠ wf := Nat.ne_of_lt (by rw [zl]; exact jf.lt)
 have us : zj ≠ wf := Nat.ne_of_lt (by rw [zl]; exact jg.lt)
 have zx : jt ≠ wf := Nat.ne_of_lt (by rw [zl]; exact jq.lt)
 have ut : q1 ≠ wf := Nat.ne_of_lt (by rw [zl]; exact j1.lt)
 have uu : n0 ≤ wf := by rw [zl]; exact Z0
 replace qa := qa.ext Ex
 replace qb := qb.ext Ex
 replace qc := qc.ext Ex
 replace qd := qd.ext Ex
 replace qe := qe.ext Ex
 replace qf := qf.ext Ex
 replace jd := jd.ext Ex
 replace qz := qz.ext Ex
 replace je := je.ext Ex
 replace q0 := q0.ext Ex
 replace jf := jf.ext Ex
 replace qt := qt.ext Ex
 replace jg := jg.ext Ex
 replace qw := qw.ext Ex
 replace jq := jq.ext Ex
 replace qp := qp.ext Ex
 replace j1 := j1.ext Ex
 replace q2 := q2.ext Ex
 replace Z0 := Nat.le_trans Z0 Ex.1
 refine g_dup X at_380 (pc' := 381) rfl rfl ?_
 refine g_iconst X (0 : Int32) at_381 (pc' := 382) rfl rfl ?_
 refine g_lload X at_382 (pc' := 384) rfl rfl ?_
 refine g_lastore X jx 0 at_384 (pc' := 385) rfl (by decide) (by decide) (Nat.le_of_ble_eq_true rfl) ?_
 intro T h X W jx
 replace jx : Av Z h wf .long [(.long (-1 : Int64)), (.long (0 : Int64)), (.long (0 : Int64)), (.long (0 : Int64))] := jx
 replace qa := qa.wr W
 replace qb := qb.other W (Or.inl wo)
 replace qc := qc.other W (Or.inl wo)
 replace qd := qd.other W (Or.inl wo)
 replace qe := qe.other W (Or.inl wo)
 replace qf := qf.other W (Or.inl wo)
 replace jd := jd.wr W
 replace qz := qz.other W zu
 replace je := je.wr W
 replace q0 := q0.other W zv
 replace jf := jf.wr W
 replace qt := qt.other W zw
 replace jg := jg.wr W
 replace qw := qw.other W us
 replace jq := jq.wr W
 replace qp := qp.other W zx
 replace j1 := j1.wr W
 replace q2 := q2.other W ut
 replace wl := wl.wr W
 replace Z0 := Nat.le_trans Z0 (Nat.le_of_eq W.size.symm)
 replace N := Fr.snoc X.1 N uu
 refine g_dup X at_385 (pc' := 386) rfl rfl ?_
 refine g_iconst X (1 : Int32) at_386 (pc' := 387) rfl rfl ?_
 refine g_lload X at_387 (pc' := 389) rfl rfl ?_
 refine g_lastore X jx 1 at_389 (pc' := 390) rfl (by decide) (by decide) (Nat.le_of_ble_eq_true rfl) ?_
 intro T h X W jx
 replace jx : Av Z h wf .long [(.long (-1 : Int64)), (.long (-1 : Int64)), (.long (0 : Int64)), (.long (0 : Int64))] := jx
 replace qa := qa.wr W
 replace qb := qb.other W (Or.inl wo)
 replace qc := qc.other W (Or.inl wo)
 replace qd := qd.other W (Or.inl wo)
 replace qe := qe.other W (Or.inl wo)
 replace qf := qf.other W (Or.inl wo)
 replace jd := jd.wr W
 replace qz := qz.other W zu
 replace je := je.wr W
 replace q0 := q0.other W zv
 replace jf := jf.wr W
 replace qt := qt.other W zw
 replace jg := jg.wr W
 replace qw := qw.other W us
 replace jq := jq.wr W
 replace qp := qp.other W zx
 replace j1 := j1.wr W
 replace q2 := q2.other W ut
 replace wl := wl.wr W
 replace Z0 := Nat.le_trans Z0 (Nat.le_of_eq W.size.symm)
 replace N := Fr.snoc X.1 N uu
 refine g_dup X at_390 (pc' := 391) rfl rfl ?_
 refine g_iconst X (2 : Int32) at_391 (pc' := 392) rfl rfl ?_
 refine g_lload X at_392 (pc' := 394) rfl rfl ?_
 refine g_lastore X jx 2 at_394 (pc' := 395) rfl (by decide) (by decide) (Nat.le_of_ble_eq_true rfl) ?_
 intro T h X W jx
 replace jx : Av Z h wf .long [(.long (-1 : Int64)), (.long (-1 : Int64)), (.long (-1 : Int64)), (.long (0 : Int64))] := jx
 replace qa := qa.wr W
 replace qb := qb.other W (Or.inl wo)
 replace qc := qc.other W (Or.inl wo)
 replace qd := qd.other W (Or.inl wo)
 replace qe := qe.other W (Or.inl wo)
 replace qf := qf.other W (Or.inl wo)
 replace jd := jd.wr W
 replace qz := qz.other W zu
 replace je := je.wr W
 replace q0 := q0.other W zv
 replace jf := jf.wr W
 replace qt := qt.other W zw
 replace jg := jg.wr W
 replace qw := qw.other W us
 replace jq := jq.wr W
 replace qp := qp.other W zx
 replace j1 := j1.wr W
 replace q2 := q2.other W ut
 replace wl := wl.wr W
 replace Z0 := Nat.le_trans Z0 (Nat.le_of_eq W.size.symm)
 replace N := Fr.snoc X.1 N uu
 refine g_dup X at_395 (pc' := 396) rfl rfl ?_
 refine g_iconst X (3 : Int32) at_396 (pc' := 397) rfl rfl ?_
 refine g_lload X at_397 (pc' := 399) rfl rfl ?_
 refine g_lastore X jx 3 at_399 (pc' := 400) rfl (by decide) (by decide) (Nat.le_of_ble_eq_true rfl) ?_
 intro T h X W jx
 replace jx : Av Z h wf .long [(.long (-1 : Int64)), (.long (-1 : Int64)), (.long (-1 : Int64)), (.long (-1 : Int64))] := jx
 replace qa := qa.wr W
 replace qb := qb.other W (Or.inl wo)
 replace qc := qc.other W (Or.inl wo)
 replace qd := qd.other W (Or.inl wo)
 replace qe := qe.other W (Or.inl wo)
 replace qf := qf.other W (Or.inl wo)
 replace jd := jd.wr W
 replace qz := qz.other W zu
 replace je := je.wr W
 replace q0 := q0.other W zv
 replace jf := jf.wr W
 replace qt := qt.other W zw
 replace jg := jg.wr W
 replace qw := qw.other W us
 replace jq := jq.wr W
 replace qp := qp.other W zx
 replace j1 := j1.wr W
 replace q2 := q2.other W ut
 replace wl := wl.wr W
 replace Z0 := Nat.le_trans Z0 (Nat.le_of_eq W.size.symm)
 replace N := Fr.snoc X.1 N uu
 refine g_astore X at_400 (pc' := 402) (Ls' := #[.val (.int i0), .val (.int i1), .val (.int i2), .val (.int i3), .val (.long j4), .second, .val (.long j5), .second, .val (.ref qj), .val (.ref qk), .val (.ref qg), .val (.int (2 : Int32)), .val (.ref jt), .val (.int ww), .val (.ref q1), .val (.int j2), .val (.int j8), .val (.long (-1 : Int64)), .second, .val (.long (81985529216486895 : Int64)), .second, .val (.ref wf), .unset, .unset, .unset, .unset]) rfl rfl rfl ?_
 refine g_iconst X (4 : Int32) at_402 (pc' := 403) rfl rfl ?_
 refine g_newarray X 4 (tb hw 32 rfl) at_403 (pc' := 405) rfl (by decide) (by decide) 4 (by decide) (by decide) (by decide) (by decide) (vs := [(.long (0 : Int64)), (.long (0 : Int64)), (.long (0 : Int64)), (.long (0 : Int64))]) rfl (ad := "[J") (by decide) ?_
 intro T h wi ze X Ex ye wc
 have wt : qg ≠ wi := Nat.ne_of_lt (by rw [ze]; exact qa.lt)
 have zy : y1 ≠ wi := Nat.ne_of_lt (by rw [ze]; exact jd.lt)
 have zz : y2 ≠ wi := Nat.ne_of_lt (by rw [ze]; exact je.lt)
 have z0 : y3 ≠ wi := Nat.ne_of_lt (by rw [ze]; exact jf.lt)
 have uv : zj ≠ wi := Nat.ne_of_lt (by rw [ze]; exact jg.lt)
 have uw : jt ≠ wi := Nat.ne_of_lt (by rw [ze]; exact jq.lt)
 have z1 : q1 ≠ wi := Nat.ne_of_lt (by rw [ze]; exact j1.lt)
 have z2 : wf ≠ wi := Nat.ne_of_lt (by rw [ze]; exact wl.lt)
 have ux : n0 ≤ wi := by rw [ze]; exact Z0
 replace qa := qa.ext Ex
 replace qb := qb.ext Ex
 replace qc := qc.ext Ex
 replace qd := qd.ext Ex
 replace qe := qe.ext Ex
 replace qf := qf.ext Ex
 replace jd := jd.ext Ex
 replace qz := qz.ext Ex
 replace je := je.ext Ex
 replace q0 := q0.ext Ex
 replace jf := jf.ext Ex
 replace qt := qt.ext Ex
 replace jg := jg.ext Ex
 replace qw := qw.ext Ex
 replace jq := jq.ext Ex
 replace qp := qp.ext Ex
 replace j1 := j1.ext Ex
 replace q2 := q2.ext Ex
 replace wl := wl.ext Ex
 replace jx := jx.ext Ex
 replace Z0 := Nat.le_trans Z0 Ex.1
 refine g_dup X at_405 (pc' := 406) rfl rfl ?_
 refine g_iconst X (0 : Int32) at_406 (pc' := 407) rfl rfl ?_
 refine g_lload X at_407 (pc' := 409) rfl rfl ?_
 refine g_lastore X wc 0 at_409 (pc' := 410) rfl (by decide) (by decide) (Nat.le_of_ble_eq_true rfl) ?_
 intro T h X W wc
 replace wc : Av Z h wi .long [(.long (81985529216486895 : Int64)), (.long (0 : Int64)), (.long (0 : Int64)), (.long (0 : Int64))] := wc
 replace qa := qa.wr W
 replace qb := qb.other W (Or.inl wt)
 replace qc := qc.other W (Or.inl wt)
 replace qd := qd.other W (Or.inl wt)
 replace qe := qe.other W (Or.inl wt)
 replace qf := qf.other W (Or.inl wt)
 replace jd := jd.wr W
 replace qz := qz.other W zy
 replace je := je.wr W
 replace q0 := q0.other W zz
 replace jf := jf.wr W
 replace qt := qt.other W z0
 replace jg := jg.wr W
 replace qw := qw.other W uv
 replace jq := jq.wr W
 replace qp := qp.other W uw
 replace j1 := j1.wr W
 replace q2 := q2.other W z1
 replace wl := wl.wr W
 replace jx := jx.other W z2
 replace ye := ye.wr W
 replace Z0 := Nat.le_trans Z0 (Nat.le_of_eq W.size.symm)
 replace N := Fr.snoc X.1 N ux
 refine g_dup X at_410 (pc' := 411) rfl rfl ?_
 refine g_iconst X (1 : Int32) at_411 (pc' := 412) rfl rfl ?_
 refine g_lload X at_412 (pc' := 414) rfl rfl ?_
 refine g_lastore X wc 1 at_414 (pc' := 415) rfl (by decide) (by decide) (Nat.le_of_ble_eq_true rfl) ?_
 intro T h X W wc
 replace wc : Av Z h wi .long [(.long (81985529216486895 : Int64)), (.long (81985529216486895 : Int64)), (.long (0 : Int64)), (.long (0 : Int64))] := wc
 replace qa := qa.wr W
 replace qb := qb.other W (Or.inl wt)
 replace qc := qc.other W (Or.inl wt)
 replace qd := qd.other W (Or.inl wt)
 replace qe := qe.other W (Or.inl wt)
 replace qf := qf.other W (Or.inl wt)
 replace jd := jd.wr W
 replace qz := qz.other W zy
 replace je := je.wr W
 replace q0 := q0.other W zz
 replace jf := jf.wr W
 replace qt := qt.other W z0
 replace jg := jg.wr W
 replace qw := qw.other W uv
 replace jq := jq.wr W
 replace qp := qp.other W uw
 replace j1 := j1.wr W
 replace q2 := q2.other W z1
 replace wl := wl.wr W
 replace jx := jx.other W z2
 replace ye := ye.wr W
 replace Z0 := Nat.le_trans Z0 (Nat.le_of_eq W.size.symm)
 replace N := Fr.snoc X.1 N ux
 refine g_dup X at_415 (pc' := 416) rfl rfl ?_
 refine g_iconst X (2 : Int32) at_416 (pc' := 417) rfl rfl ?_
 refine g_lload X at_417 (pc' := 419) rfl rfl ?_
 refine g_lastore X wc 2 at_419 (pc' := 420) rfl (by decide) (by decide) (Nat.le_of_ble_eq_true rfl) ?_
 intro T h X W wc
 replace wc : Av Z h wi .long [(.long (81985529216486895 : Int64)), (.long (81985529216486895 : Int64)), (.long (81985529216486895 : Int64)), (.long (0 : Int64))] := wc
 replace qa := qa.wr W
 replace qb := qb.other W (Or.inl wt)
 replace qc := qc.other W (Or.inl wt)
 replace qd := qd.other W (Or.inl wt)
 replace qe := qe.other W (Or.inl wt)
 replace qf := qf.other W (Or.inl wt)
 replace jd := jd.wr W
 replace qz := qz.other W zy
 replace je := je.wr W
 replace q0 := q0.other W zz
 replace jf := jf.wr W
 replace qt := qt.other W z0
 replace jg := jg.wr W
 replace qw := qw.other W uv
 replace jq := jq.wr W
 replace qp := qp.other W uw
 replace j1 := j1.wr W
 replace q2 := q2.other W z1
 replace wl := wl.wr W
 replace jx := jx.other W z2
 replace ye := ye.wr W
 replace Z0 := Nat.le_trans Z0 (Nat.le_of_eq W.size.symm)
 replace N := Fr.snoc X.1 N ux
 refine g_dup X at_420 (pc' := 421) rfl rfl ?_
 refine g_iconst X (3 : Int32) at_421 (pc' := 422) rfl rfl ?_
 refine g_lload X at_422 (pc' := 424) rfl rfl ?_
 refine g_lastore X wc 3 at_424 (pc' := 425) rfl (by decide) (by decide) (Nat.le_of_ble_eq_true rfl) ?_
 intro T h X W wc
 replace wc : Av Z h wi .long [(.long (81985529216486895 : Int64)), (.long (81985529216486895 : Int64)), (.long (81985529216486895 : Int64)), (.long (81985529216486895 : Int64))] := wc
 replace qa := qa.wr W
 replace qb := qb.other W (Or.inl wt)
 replace qc := qc.other W (Or.inl wt)
 replace qd := qd.other W (Or.inl wt)
 replace qe := qe.other W (Or.inl wt)
 replace qf := qf.other W (Or.inl wt)
 replace jd := jd.wr W
 replace qz := qz.other W zy
 replace je := je.wr W
 replace q0 := q0.other W zz
 replace jf := jf.wr W
 replace qt := qt.other W z0
 replace jg := jg.wr W
 replace qw := qw.other W uv
 replace jq := jq.wr W
 replace qp := qp.other W uw
 replace j1 := j1.wr W
 replace q2 := q2.other W z1
 replace wl := wl.wr W
 replace jx := jx.other W z2
 replace ye := ye.wr W
 replace Z0 := Nat.le_trans Z0 (Nat.le_of_eq W.size.symm)
 replace N := Fr.snoc X.1 N ux
 refine g_astore X at_425 (pc' := 427) (Ls' := #[.val (.int i0), .val (.int i1), .val (.int i2), .val (.int i3), .val (.long j4), .second, .val (.long j5), .second, .val (.ref qj), .val (.ref qk), .val (.ref qg), .val (.int (2 : Int32)), .val (.ref jt), .val (.int ww), .val (.ref q1), .val (.int j2), .val (.int j8), .val (.long (-1 : Int64)), .second, .val (.long (81985529216486895 : Int64)), .second, .val (.ref wf), .val (.ref wi), .unset, .unset, .unset]) rfl rfl rfl ?_
 have ho_v355_35 := off2 qc2
 have ho_v365_36 := off2 qc3
 refine g_aload X at_427 (pc' := 429) rfl rfl rfl ?_
 refine g_aload X at_429 (pc' := 431) rfl rfl rfl ?_
 refine g_aload X at_431 (pc' := 433) rfl rfl rfl ?_
 refine g_iload X at_433 (pc' := 435) rfl rfl ?_
 refine g_virtual X (W := 0) (a := qg) (C := "com/example/ryazan/ryazan/language/Layout") [(.ref jt), (.ref wf), (.int j2)] [] qa (tb hw 63 rfl) (tb hw 64 rfl) (tb hw 66 rfl) (tb hw 65 rfl) (tb hw 10 rfl) (tb hw 67 rfl) (rPkS2 l Z aa hw [] j2 qg jt wf y1 y2 y3 ql qm qn qo x19 x18 x17 x16 yd yj ym ys (-1 : Int64) (-1 : Int64) (-1 : Int64) (-1 : Int64) _ n0 Z0 qa qb qc qd qf qz q0 qt qp jx uu wo zu zv zw zx ho_v355_35) at_435 (pc' := 438) rfl (by decide) (by decide) (by decide) rfl rfl rfl (lenOf pd_7 rfl) (Nat.le_refl _) (by decide) (by decide) ?_
 intro v T L X q
 obtain ⟨rfl, Nq, Kq, qc4⟩ := q
 replace N := N.app Nq
 replace qa := qa.keep Kq
 replace qb := qb.keep Kq (ninS wo nin0)
 replace qc := qc.keep Kq (ninS wo nin0)
 replace qd := qd.keep Kq (ninS wo nin0)
 replace qe := qe.keep Kq (ninS wo nin0)
 replace qf := qf.keep Kq (ninS wo nin0)
 replace jd := jd.keep Kq
 replace qz := qz.keep Kq (ninS zu nin0)
 replace je := je.keep Kq
 replace q0 := q0.keep Kq (ninS zv nin0)
 replace jf := jf.keep Kq
 replace qt := qt.keep Kq (ninS zw nin0)
 replace jg := jg.keep Kq
 replace qw := qw.keep Kq (ninS us nin0)
 replace jq := jq.keep Kq
 replace qp := qp.keep Kq (ninS zx nin0)
 replace j1 := j1.keep Kq
 replace q2 := q2.keep Kq (ninS ut nin0)
 replace ye := ye.keep Kq
 replace wc := wc.keep Kq (ninS (Ne.symm z2) nin0)
 replace Z0 := Nat.le_trans Z0 Kq.1
 replace jx := qc4
 replace wl := wl.keep Kq
 generalize ex39 : (sel j2 (-1 : Int64) (((0 : Int64) ||| (((ym.toInt64) - (qn.toInt64)) <<< (x17 &&& 0x3f).toInt64)) ||| (((ys.toInt64) - (qo.toInt64)) <<< (x16 &&& 0x3f).toInt64))) = x39 at jx
 generalize ex40 : (sel j2 (((0 : Int64) ||| (((ym.toInt64) - (qn.toInt64)) <<< (x17 &&& 0x3f).toInt64)) ||| (((ys.toInt64) - (qo.toInt64)) <<< (x16 &&& 0x3f).toInt64)) (((0 : Int64) ||| (((yd.toInt64) - (ql.toInt64)) <<< (x19 &&& 0x3f).toInt64)) ||| (((yj.toInt64) - (qm.toInt64)) <<< (x18 &&& 0x3f).toInt64))) = x40 at jx
 generalize ex41 : (sel j2 (((0 : Int64) ||| (((yd.toInt64) - (ql.toInt64)) <<< (x19 &&& 0x3f).toInt64)) ||| (((yj.toInt64) - (qm.toInt64)) <<< (x18 &&& 0x3f).toInt64)) (-1 : Int64)) = x41 at jx
 show Go p e below _ (T.setTop (mkF m 438 _ []))
 refine g_aload X at_438 (pc' := 440) rfl rfl rfl ?_
 refine g_aload X at_440 (pc' := 442) rfl rfl rfl ?_
 refine g_aload X at_442 (pc' := 444) rfl rfl rfl ?_
 refine g_iload X at_444 (pc' := 446) rfl rfl ?_
 refine g_virtual X (W := 0) (a := qg) (C := "com/example/ryazan/ryazan/language/Layout") [(.ref q1), (.ref wi), (.int j8)] [] qa (tb hw 63 rfl) (tb hw 64 rfl) (tb hw 66 rfl) (tb hw 65 rfl) (tb hw 10 rfl) (tb hw 67 rfl) (rPkS2 l Z aa hw [] j8 qg q1 wi y1 y2 y3 ql qm qn qo x19 x18 x17 x16 x0_31 x1_32 x2_33 x3_34 (81985529216486895 : Int64) (81985529216486895 : Int64) (81985529216486895 : Int64) (81985529216486895 : Int64) _ n0 Z0 qa qb qc qd qf qz q0 qt q2 wc ux wt zy zz z0 z1 ho_v365_36) at_446 (pc' := 449) rfl (by decide) (by decide) (by decide) rfl rfl rfl (lenOf pd_7 rfl) (Nat.le_refl _) (by decide) (by decide) ?_
 intro v T L X q
 obtain ⟨rfl, Nq, Kq, qc5⟩ := q
 replace N := N.app Nq
 replace qa := qa.keep Kq
 replace qb := qb.keep Kq (ninS wt nin0)
 replace qc := qc.keep Kq (ninS wt nin0)
 replace qd := qd.keep Kq (ninS wt nin0)
 replace qe := qe.keep Kq (ninS wt nin0)
 replace jd := jd.keep Kq
 replace qz := qz.keep Kq (ninS zy nin0)
 replace je := je.keep Kq
 replace q0 := q0.keep Kq (ninS zz nin0)
 replace jf := jf.keep Kq
 replace qt := qt.keep Kq (ninS z0 nin0)
 replace jg := jg.keep Kq
 replace qw := qw.keep Kq (ninS uv nin0)
 replace jq := jq.keep Kq
 replace qp := qp.keep Kq (ninS uw nin0)
 replace j1 := j1.keep Kq
 replace q2 := q2.keep Kq (ninS z1 nin0)
 replace wl := wl.keep Kq
 replace jx := jx.keep Kq (ninS z2 nin0)
 replace Z0 := Nat.le_trans Z0 Kq.1
 replace wc := qc5
 replace ye := ye.keep Kq
 generalize ex42 : (sel j8 (81985529216486895 : Int64) (((0 : Int64) ||| (((x2_33.toInt64) - (qn.toInt64)) <<< (x17 &&& 0x3f).toInt64)) ||| (((x3_34.toInt64) - (qo.toInt64)) <<< (x16 &&& 0x3f).toInt64))) = x42 at wc
 generalize ex43 : (sel j8 (((0 : Int64) ||| (((x2_33.toInt64) - (qn.toInt64)) <<< (x17 &&& 0x3f).toInt64)) ||| (((x3_34.toInt64) - (qo.toInt64)) <<< (x16 &&& 0x3f).toInt64)) (((0 : Int64) ||| (((x0_31.toInt64) - (ql.toInt64)) <<< (x19 &&& 0x3f).toInt64)) ||| (((x1_32.toInt64) - (qm.toInt64)) <<< (x18 &&& 0x3f).toInt64))) = x43 at wc
 generalize ex44 : (sel j8 (((0 : Int64) ||| (((x0_31.toInt64) - (ql.toInt64)) <<< (x19 &&& 0x3f).toInt64)) ||| (((x1_32.toInt64) - (qm.toInt64)) <<< (x18 &&& 0x3f).toInt64)) (81985529216486895 : Int64)) = x44 at wc
 show Go p e below _ (T.setTop (mkF m 449 _ []))
 refine g_iconst X (4 : Int32) at_449 (pc' := 450) rfl rfl ?_
 refine g_newarray X 4 (tb hw 0 rfl) at_450 (pc' := 452) rfl (by decide) (by decide) 4 (by decide) (by decide) (by decide) (by decide) (vs := [(.int (0 : Int32)), (.int (0 : Int32)), (.int (0 : Int32)), (.int (0 : Int32))]) rfl (ad := "[I") (by decide) ?_
 intro T h w7 y4 X Ex qc6 yn
 have uy : qg ≠ w7 := Nat.ne_of_lt (by rw [y4]; exact qa.lt)
 have qbs : y1 ≠ w7 := Nat.ne_of_lt (by rw [y4]; exact jd.lt)
 have qbt : y2 ≠ w7 := Nat.ne_of_lt (by rw [y4]; exact je.lt)
 have qbu : y3 ≠ w7 := Nat.ne_of_lt (by rw [y4]; exact jf.lt)
 have qbv : zj ≠ w7 := Nat.ne_of_lt (by rw [y4]; exact jg.lt)
 have qc7 : jt ≠ w7 := Nat.ne_of_lt (by rw [y4]; exact jq.lt)
 have qc8 : q1 ≠ w7 := Nat.ne_of_lt (by rw [y4]; exact j1.lt)
 have qbw : wf ≠ w7 := Nat.ne_of_lt (by rw [y4]; exact wl.lt)
 have qc9 : wi ≠ w7 := Nat.ne_of_lt (by rw [y4]; exact ye.lt)
 have qda : n0 ≤ w7 := by rw [y4]; exact Z0
 replace qa := qa.ext Ex
 replace qb := qb.ext Ex
 replace qc := qc.ext Ex
 replace qd := qd.ext Ex
 replace qe := qe.ext Ex
 replace jd := jd.ext Ex
 replace qz := qz.ext Ex
 replace je := je.ext Ex
 replace q0 := q0.ext Ex
 replace jf := jf.ext Ex
 replace qt := qt.ext Ex
 replace jg := jg.ext Ex
 replace qw := qw.ext Ex
 replace jq := jq.ext Ex
 replace qp := qp.ext Ex
 replace j1 := j1.ext Ex
 replace q2 := q2.ext Ex
 replace wl := wl.ext Ex
 replace jx := jx.ext Ex
 replace ye := ye.ext Ex
 replace wc := wc.ext Ex
 replace Z0 := Nat.le_trans Z0 Ex.1
 refine g_astore X at_452 (pc' := 454) (Ls' := #[.val (.int i0), .val (.int i1), .val (.int i2), .val (.int i3), .val (.long j4), .second, .val (.long j5), .second, .val (.ref qj), .val (.ref qk), .val (.ref qg), .val (.int (2 : Int32)), .val (.ref jt), .val (.int ww), .val (.ref q1), .val (.int j2), .val (.int j8), .val (.long (-1 : Int64)), .second, .val (.long (81985529216486895 : Int64)), .second, .val (.ref wf), .val (.ref wi), .val (.ref w7), .unset, .unset]) rfl rfl rfl ?_
 refine g_iconst X (4 : Int32) at_454 (pc' := 455) rfl rfl ?_
 refine g_newarray X 4 (tb hw 0 rfl) at_455 (pc' := 457) rfl (by decide) (by decide) 4 (by decide) (by decide) (by decide) (by decide) (vs := [(.int (0 : Int32)), (.int (0 : Int32)), (.int (0 : Int32)), (.int (0 : Int32))]) rfl (ad := "[I") (by decide) ?_
 intro T h ya yy X Ex qfd yv
 have qdb : qg ≠ ya := Nat.ne_of_lt (by rw [yy]; exact qa.lt)
 have qdc : y1 ≠ ya := Nat.ne_of_lt (by rw [yy]; exact jd.lt)
 have qdd : y2 ≠ ya := Nat.ne_of_lt (by rw [yy]; exact je.lt)
 have qde : y3 ≠ ya := Nat.ne_of_lt (by rw [yy]; exact jf.lt)
 have qdf : zj ≠ ya := Nat.ne_of_lt (by rw [yy]; exact jg.lt)
 have qdg : jt ≠ ya := Nat.ne_of_lt (by rw [yy]; exact jq.lt)
 have qdh : q1 ≠ ya := Nat.ne_of_lt (by rw [yy]; exact j1.lt)
 have qdi : wf ≠ ya := Nat.ne_of_lt (by rw [yy]; exact wl.lt)
 have qbx : wi ≠ ya := Nat.ne_of_lt (by rw [yy]; exact ye.lt)
 have qby : w7 ≠ ya := Nat.ne_of_lt (by rw [yy]; exact qc6.lt)
 have qdj : n0 ≤ ya := by rw [yy]; exact Z0
 replace qa := qa.ext Ex
 replace qb := qb.ext Ex
 replace qc := qc.ext Ex
 replace qd := qd.ext Ex
 replace qe := qe.ext Ex
 replace qz := qz.ext Ex
 replace q0 := q0.ext Ex
 replace qt := qt.ext Ex
 replace qw := qw.ext Ex
 replace qp := qp.ext Ex
 replace q2 := q2.ext Ex
 replace jx := jx.ext Ex
 replace wc := wc.ext Ex
 replace yn := yn.ext Ex
 replace Z0 := Nat.le_trans Z0 Ex.1
 refine g_astore X at_457 (pc' := 459) (Ls' := #[.val (.int i0), .val (.int i1), .val (.int i2), .val (.int i3), .val (.long j4), .second, .val (.long j5), .second, .val (.ref qj), .val (.ref qk), .val (.ref qg), .val (.int (2 : Int32)), .val (.ref jt), .val (.int ww), .val (.ref q1), .val (.int j2), .val (.int j8), .val (.long (-1 : Int64)), .second, .val (.long (81985529216486895 : Int64)), .second, .val (.ref wf), .val (.ref wi), .val (.ref w7), .val (.ref ya), .unset]) rfl rfl rfl ?_
 refine g_aload X at_459 (pc' := 461) rfl rfl rfl ?_
 refine g_aload X at_461 (pc' := 463) rfl rfl rfl ?_
 refine g_iload X at_463 (pc' := 465) rfl rfl ?_
 refine g_aload X at_465 (pc' := 467) rfl rfl rfl ?_
 refine g_virtual X (W := 0) (a := qg) (C := "com/example/ryazan/ryazan/language/Layout") [(.ref wf), (.int j2), (.ref w7)] [] qa (tb hw 68 rfl) (tb hw 69 rfl) (tb hw 71 rfl) (tb hw 70 rfl) (tb hw 10 rfl) (tb hw 72 rfl) (rUpS2 l Z aa hw [] j2 qg wf w7 y1 y2 y3 zj ql qm qn qo x19 x18 x17 x16 x23 x22 x21 x20 x41 x40 x39 (-1 : Int64) (0 : Int32) (0 : Int32) (0 : Int32) (0 : Int32) _ n0 Z0 qa qb qc qd qe qz q0 qt qw jx yn qda uy qbs qbt qbu qbv qbw ho_v355_35) at_467 (pc' := 470) rfl (by decide) (by decide) (by decide) rfl rfl rfl (lenOf pd_8 rfl) (Nat.le_refl _) (by decide) (by decide) ?_
 intro v T L X q
 obtain ⟨rfl, Nq, Kq, qdk⟩ := q
 replace N := N.app Nq
 replace qa := qa.keep Kq
 replace qb := qb.keep Kq (ninS uy nin0)
 replace qc := qc.keep Kq (ninS uy nin0)
 replace qd := qd.keep Kq (ninS uy nin0)
 replace qe := qe.keep Kq (ninS uy nin0)
 replace qz := qz.keep Kq (ninS qbs nin0)
 replace q0 := q0.keep Kq (ninS qbt nin0)
 replace qt := qt.keep Kq (ninS qbu nin0)
 replace qw := qw.keep Kq (ninS qbv nin0)
 replace qp := qp.keep Kq (ninS qc7 nin0)
 replace q2 := q2.keep Kq (ninS qc8 nin0)
 replace jx := jx.keep Kq (ninS qbw nin0)
 replace wc := wc.keep Kq (ninS qc9 nin0)
 replace yv := yv.keep Kq (ninS (Ne.symm qby) nin0)
 replace Z0 := Nat.le_trans Z0 Kq.1
 replace yn := qdk
 generalize ex47 : (seli j2 (((((x40.toUInt64 >>> (x16 &&& 0x3f).toInt64.toUInt64).toInt64) &&& x20).toInt32) + qo) (((((x39.toUInt64 >>> (x16 &&& 0x3f).toInt64.toUInt64).toInt64) &&& x20).toInt32) + qo)) = x47 at yn
 generalize ex48 : (seli j2 (((((x40.toUInt64 >>> (x17 &&& 0x3f).toInt64.toUInt64).toInt64) &&& x21).toInt32) + qn) (((((x39.toUInt64 >>> (x17 &&& 0x3f).toInt64.toUInt64).toInt64) &&& x21).toInt32) + qn)) = x48 at yn
 generalize ex49 : (seli j2 (((((x41.toUInt64 >>> (x18 &&& 0x3f).toInt64.toUInt64).toInt64) &&& x22).toInt32) + qm) (((((x40.toUInt64 >>> (x18 &&& 0x3f).toInt64.toUInt64).toInt64) &&& x22).toInt32) + qm)) = x49 at yn
 generalize ex50 : (seli j2 (((((x41.toUInt64 >>> (x19 &&& 0x3f).toInt64.toUInt64).toInt64) &&& x23).toInt32) + ql) (((((x40.toUInt64 >>> (x19 &&& 0x3f).toInt64.toUInt64).toInt64) &&& x23).toInt32) + ql)) = x50 at yn
 show Go p e below _ (T.setTop (mkF m 470 _ []))
 refine g_aload X at_470 (pc' := 472) rfl rfl rfl ?_
 refine g_aload X at_472 (pc' := 474) rfl rfl rfl ?_
 refine g_iload X at_474 (pc' := 476) rfl rfl ?_
 refine g_aload X at_476 (pc' := 478) rfl rfl rfl ?_
 refine g_virtual X (W := 0) (a := qg) (C := "com/example/ryazan/ryazan/language/Layout") [(.ref wi), (.int j8), (.ref ya)] [] qa (tb hw 68 rfl) (tb hw 69 rfl) (tb hw 71 rfl) (tb hw 70 rfl) (tb hw 10 rfl) (tb hw 72 rfl) (rUpS2 l Z aa hw [] j8 qg wi ya y1 y2 y3 zj ql qm qn qo x19 x18 x17 x16 x23 x22 x21 x20 x44 x43 x42 (81985529216486895 : Int64) (0 : Int32) (0 : Int32) (0 : Int32) (0 : Int32) _ n0 Z0 qa qb qc qd qe qz q0 qt qw wc yv qdj qdb qdc qdd qde qdf qbx ho_v365_36) at_478 (pc' := 481) rfl (by decide) (by decide) (by decide) rfl rfl rfl (lenOf pd_8 rfl) (Nat.le_refl _) (by decide) (by decide) ?_
 intro v T L X q
 obtain ⟨rfl, Nq, Kq, qdl⟩ := q
 replace N := N.app Nq
 replace qp := qp.keep Kq (ninS qdg nin0)
 replace q2 := q2.keep Kq (ninS qdh nin0)
 replace jx := jx.keep Kq (ninS qdi nin0)
 replace wc := wc.keep Kq (ninS qbx nin0)
 replace yn := yn.keep Kq (ninS qby nin0)
 replace Z0 := Nat.le_trans Z0 Kq.1
 replace yv := qdl
 generalize ex51 : (seli j8 (((((x43.toUInt64 >>> (x16 &&& 0x3f).toInt64.toUInt64).toInt64) &&& x20).toInt32) + qo) (((((x42.toUInt64 >>> (x16 &&& 0x3f).toInt64.toUInt64).toInt64) &&& x20).toInt32) + qo)) = x51 at yv
 generalize ex52 : (seli j8 (((((x43.toUInt64 >>> (x17 &&& 0x3f).toInt64.toUInt64).toInt64) &&& x21).toInt32) + qn) (((((x42.toUInt64 >>> (x17 &&& 0x3f).toInt64.toUInt64).toInt64) &&& x21).toInt32) + qn)) = x52 at yv
 generalize ex53 : (seli j8 (((((x44.toUInt64 >>> (x18 &&& 0x3f).toInt64.toUInt64).toInt64) &&& x22).toInt32) + qm) (((((x43.toUInt64 >>> (x18 &&& 0x3f).toInt64.toUInt64).toInt64) &&& x22).toInt32) + qm)) = x53 at yv
 generalize ex54 : (seli j8 (((((x44.toUInt64 >>> (x19 &&& 0x3f).toInt64.toUInt64).toInt64) &&& x23).toInt32) + ql) (((((x43.toUInt64 >>> (x19 &&& 0x3f).toInt64.toUInt64).toInt64) &&& x23).toInt32) + ql)) = x54 at yv
 show Go p e below _ (T.setTop (mkF m 481 _ []))
 refine g_aload X at_481 (pc' := 483) rfl rfl rfl ?_
 refine g_iconst X (0 : Int32) at_483 (pc' := 484) rfl rfl ?_
 refine g_iaload X yn 0 at_484 (pc' := 485) rfl (by decide) (by decide) rfl ?_
 refine g_aload X at_485 (pc' := 487) rfl rfl rfl ?_
 refine g_iconst X (0 : Int32) at_487 (pc' := 488) rfl rfl ?_
 refine g_iaload X qp 0 at_488 (pc' := 489) rfl (by decide) (by decide) rfl ?_
 have pf55 : x50 = yd := by
   rw [← ex50, ← ex41, ← ex40, ← ex23, ← ex19, ← ex18, ← ex17, ← ex16]; rcases ho_v355_35 with ho | ho
   · rw [ho]; simp only [sel0, seli0]; exact got t0 b0 zb0 c0 da0 (two t0 t1 zz0 zz1 da0 da1).1
   · rw [ho]; simp only [sel1, seli1]; exact got t0 b0 zb0 c0 da0 (two t0 t1 zz0 zz1 da0 da1).1
 refine g_icN X at_489 (teq (show x50 = yd from pf55)).2 (pc' := 492) rfl ?_
 refine g_aload X at_492 (pc' := 494) rfl rfl rfl ?_
 refine g_iconst X (1 : Int32) at_494 (pc' := 495) rfl rfl ?_
 refine g_iaload X yn 1 at_495 (pc' := 496) rfl (by decide) (by decide) rfl ?_
 refine g_aload X at_496 (pc' := 498) rfl rfl rfl ?_
 refine g_iconst X (1 : Int32) at_498 (pc' := 499) rfl rfl ?_
 refine g_iaload X qp 1 at_499 (pc' := 500) rfl (by decide) (by decide) rfl ?_
 have pf56 : x49 = yj := by
   rw [← ex49, ← ex41, ← ex40, ← ex22, ← ex19, ← ex18, ← ex17, ← ex16]; rcases ho_v355_35 with ho | ho
   · rw [ho]; simp only [sel0, seli0]; exact got t1 b1 zb1 c1 da1 (two t0 t1 zz0 zz1 da0 da1).2
   · rw [ho]; simp only [sel1, seli1]; exact got t1 b1 zb1 c1 da1 (two t0 t1 zz0 zz1 da0 da1).2
 refine g_icN X at_500 (teq (show x49 = yj from pf56)).2 (pc' := 503) rfl ?_
 refine g_aload X at_503 (pc' := 505) rfl rfl rfl ?_
 refine g_iconst X (2 : Int32) at_505 (pc' := 506) rfl rfl ?_
 refine g_iaload X yn 2 at_506 (pc' := 507) rfl (by decide) (by decide) rfl ?_
 refine g_aload X at_507 (pc' := 509) rfl rfl rfl ?_
 refine g_iconst X (2 : Int32) at_509 (pc' := 510) rfl rfl ?_
 refine g_iaload X qp 2 at_510 (pc' := 511) rfl (by decide) (by decide) rfl ?_
 have pf57 : x48 = ym := by
   rw [← ex48, ← ex40, ← ex39, ← ex21, ← ex19, ← ex18, ← ex17, ← ex16]; rcases ho_v355_35 with ho | ho
   · rw [ho]; simp only [sel0, seli0]; exact got t2 b2 zb2 c2 da2 (two t2 t3 zz2 zz3 da2 da3).1
   · rw [ho]; simp only [sel1, seli1]; exact got t2 b2 zb2 c2 da2 (two t2 t3 zz2 zz3 da2 da3).1
 refine g_icN X at_511 (teq (show x48 = ym from pf57)).2 (pc' := 514) rfl ?_
 refine g_aload X at_514 (pc' := 516) rfl rfl rfl ?_
 refine g_iconst X (3 : Int32) at_516 (pc' := 517) rfl rfl ?_
 refine g_iaload X yn 3 at_517 (pc' := 518) rfl (by decide) (by decide) rfl ?_
 refine g_aload X at_518 (pc' := 520) rfl rfl rfl ?_
 refine g_iconst X (3 : Int32) at_520 (pc' := 521) rfl rfl ?_
 refine g_iaload X qp 3 at_521 (pc' := 522) rfl (by decide) (by decide) rfl ?_
 have pf58 : x47 = ys := by
   rw [← ex47, ← ex40, ← ex39, ← ex20, ← ex19, ← ex18, ← ex17, ← ex16]; rcases ho_v355_35 with ho | ho
   · rw [ho]; simp only [sel0, seli0]; exact got t3 b3 zb3 c3 da3 (two t2 t3 zz2 zz3 da2 da3).2
   · rw [ho]; simp only [sel1, seli1]; exact got t3 b3 zb3 c3 da3 (two t2 t3 zz2 zz3 da2 da3).2
 refine g_icN X at_522 (teq (show x47 = ys from pf58)).2 (pc' := 525) rfl ?_
 refine g_iconst X (1 : Int32) at_525 (pc' := 526) rfl rfl ?_
 refine g_goto X at_526 (pc' := 530) (by decide) (by decide) ?_
 refine g_istore X at_530 (pc' := 532) (Ls' := #[.val (.int i0), .val (.int i1), .val (.int i2), .val (.int i3), .val (.long j4), .second, .val (.long j5), .second, .val (.ref qj), .val (.ref qk), .val (.ref qg), .val (.int (2 : Int32)), .val (.ref jt), .val (.int ww), .val (.ref q1), .val (.int j2), .val (.int j8), .val (.long (-1 : Int64)), .second, .val (.long (81985529216486895 : Int64)), .second, .val (.ref wf), .val (.ref wi), .val (.ref w7), .val (.ref ya), .val (.int (1 : Int32))]) rfl rfl ?_
 refine g_iload X at_532 (pc' := 534) rfl rfl ?_
 refine g_ifN X at_534 ((if0 _ _).trans (feq (show ¬ ((1 : Int32) = (0 : Int32)) from (by decide))).1) (pc' := 537) rfl ?_
 refine g_aload X at_537 (pc' := 539) rfl rfl rfl ?_
 refine g_iconst X (0 : Int32) at_539 (pc' := 540) rfl rfl ?_
 refine g_iaload X yv 0 at_540 (pc' := 541) rfl (by decide) (by decide) rfl ?_
 refine g_aload X at_541 (pc' := 543) rfl rfl rfl ?_
 refine g_iconst X (0 : Int32) at_543 (pc' := 544) rfl rfl ?_
 refine g_iaload X q2 0 at_544 (pc' := 545) rfl (by decide) (by decide) rfl ?_
 have pf59 : x54 = x0_31 := by
   rw [← ex54, ← ex44, ← ex43, ← ex23, ← ex19, ← ex18, ← ex17, ← ex16]; rcases ho_v365_36 with ho | ho
   · rw [ho]; simp only [sel0, seli0]; exact got t0 b0 zb0 c0 db0 (two t0 t1 zz0 zz1 db0 db1).1
   · rw [ho]; simp only [sel1, seli1]; exact got t0 b0 zb0 c0 db0 (two t0 t1 zz0 zz1 db0 db1).1
 refine g_icN X at_545 (teq (show x54 = x0_31 from pf59)).2 (pc' := 548) rfl ?_
 refine g_aload X at_548 (pc' := 550) rfl rfl rfl ?_
 refine g_iconst X (1 : Int32) at_550 (pc' := 551) rfl rfl ?_
 refine g_iaload X yv 1 at_551 (pc' := 552) rfl (by decide) (by decide) rfl ?_
 refine g_aload X at_552 (pc' := 554) rfl rfl rfl ?_
 refine g_iconst X (1 : Int32) at_554 (pc' := 555) rfl rfl ?_
 refine g_iaload X q2 1 at_555 (pc' := 556) rfl (by decide) (by decide) rfl ?_
 have pf60 : x53 = x1_32 := by
   rw [← ex53, ← ex44, ← ex43, ← ex22, ← ex19, ← ex18, ← ex17, ← ex16]; rcases ho_v365_36 with ho | ho
   · rw [ho]; simp only [sel0, seli0]; exact got t1 b1 zb1 c1 db1 (two t0 t1 zz0 zz1 db0 db1).2
   · rw [ho]; simp only [sel1, seli1]; exact got t1 b1 zb1 c1 db1 (two t0 t1 zz0 zz1 db0 db1).2
 refine g_icN X at_556 (teq (show x53 = x1_32 from pf60)).2 (pc' := 559) rfl ?_
 refine g_aload X at_559 (pc' := 561) rfl rfl rfl ?_
 refine g_iconst X (2 : Int32) at_561 (pc' := 562) rfl rfl ?_
 refine g_iaload X yv 2 at_562 (pc' := 563) rfl (by decide) (by decide) rfl ?_
 refine g_aload X at_563 (pc' := 565) rfl rfl rfl ?_
 refine g_iconst X (2 : Int32) at_565 (pc' := 566) rfl rfl ?_
 refine g_iaload X q2 2 at_566 (pc' := 567) rfl (by decide) (by decide) rfl ?_
 have pf61 : x52 = x2_33 := by
   rw [← ex52, ← ex43, ← ex42, ← ex21, ← ex19, ← ex18, ← ex17, ← ex16]; rcases ho_v365_36 with ho | ho
   · rw [ho]; simp only [sel0, seli0]; exact got t2 b2 zb2 c2 db2 (two t2 t3 zz2 zz3 db2 db3).1
   · rw [ho]; simp only [sel1, seli1]; exact got t2 b2 zb2 c2 db2 (two t2 t3 zz2 zz3 db2 db3).1
 refine g_icN X at_567 (teq (show x52 = x2_33 from pf61)).2 (pc' := 570) rfl ?_
 refine g_aload X at_570 (pc' := 572) rfl rfl rfl ?_
 refine g_iconst X (3 : Int32) at_572 (pc' := 573) rfl rfl ?_
 refine g_iaload X yv 3 at_573 (pc' := 574) rfl (by decide) (by decide) rfl ?_
 refine g_aload X at_574 (pc' := 576) rfl rfl rfl ?_
 refine g_iconst X (3 : Int32) at_576 (pc' := 577) rfl rfl ?_
 refine g_iaload X q2 3 at_577 (pc' := 578) rfl (by decide) (by decide) rfl ?_
 have pf62 : x51 = x3_34 := by
   rw [← ex51, ← ex43, ← ex42, ← ex20, ← ex19, ← ex18, ← ex17, ← ex16]; rcases ho_v365_36 with ho | ho
   · rw [ho]; simp only [sel0, seli0]; exact got t3 b3 zb3 c3 db3 (two t2 t3 zz2 zz3 db2 db3).2
   · rw [ho]; simp only [sel1, seli1]; exact got t3 b3 zb3 c3 db3 (two t2 t3 zz2 zz3 db2 db3).2
 refine g_icN X at_578 (teq (show x51 = x3_34 from pf62)).2 (pc' := 581) rfl ?_
 refine g_iconst X (1 : Int32) at_581 (pc' := 582) rfl rfl ?_
 refine g_goto X at_582 (pc' := 586) (by decide) (by decide) ?_
 refine g_istore X at_586 (pc' := 588) (Ls' := #[.val (.int i0), .val (.int i1), .val (.int i2), .val (.int i3), .val (.long j4), .second, .val (.long j5), .second, .val (.ref qj), .val (.ref qk), .val (.ref qg), .val (.int (2 : Int32)), .val (.ref jt), .val (.int ww), .val (.ref q1), .val (.int j2), .val (.int j8), .val (.long (-1 : Int64)), .second, .val (.long (81985529216486895 : Int64)), .second, .val (.ref wf), .val (.ref wi), .val (.ref w7), .val (.ref ya), .val (.int (1 : Int32))]) rfl rfl ?_
 refine g_iload X at_588 (pc' := 590) rfl rfl ?_
 refine g_ifN X at_590 ((if0 _ _).trans (feq (show ¬ ((1 : Int32) = (0 : Int32)) from (by decide))).1) (pc' := 593) rfl ?_
 refine g_aload X at_593 (pc' := 595) rfl rfl rfl ?_
 refine g_iload X at_595 (pc' := 597) rfl rfl ?_
 refine g_iload X at_597 (pc' := 599) rfl rfl ?_
 refine g_lload X at_599 (pc' := 601) rfl rfl ?_
 refine g_static X (W := 0) [(.ref wf), (.int j2), (.int (2 : Int32)), (.long (-1 : Int64))] [] (tb hw 73 rfl) (tb hw 74 rfl) (tb hw 53 rfl) (tb hw 75 rfl) (rUtS2 l Z aa hw [] j2 wf (-1 : Int64) x41 x40 x39 (-1 : Int64) _ jx ho_v355_35) at_601 (pc' := 604) rfl (by decide) (by decide) (by decide) rfl rfl rfl (lenOf pd_9 rfl) (Nat.le_refl _) (by decide) (by decide) ?_
 intro v T L X q
 obtain ⟨rfl, X⟩ := pureX X q
 show Go p e below _ (T.setTop (mkF m 604 _ [(.int (b2i (fUtS2 j2 (-1 : Int64) x41 x40 x39 (-1 : Int64))))]))
 have pf63 : (fUtS2 j2 (-1 : Int64) x41 x40 x39 (-1 : Int64)) = true := by
   rw [← ex41, ← ex40, ← ex39, ← ex19, ← ex18, ← ex17, ← ex16]; rcases ho_v355_35 with ho | ho
   · rw [ho]; simp [sel0, fUtS2, fUt20]
   · rw [ho]; simp [sel1, fUtS2, fUt21]
 refine g_ifN X at_604 ((if0 _ _).trans (feq (bne (show (fUtS2 j2 (-1 : Int64) x41 x40 x39 (-1 : Int64)) = true from pf63))).1) (pc' := 607) rfl ?_
 refine g_aload X at_607 (pc' := 609) rfl rfl rfl ?_
 refine g_iload X at_609 (pc' := 611) rfl rfl ?_
 refine g_iload X at_611 (pc' := 613) rfl rfl ?_
 refine g_lload X at_613 (pc' := 615) rfl rfl ?_
 refine g_static X (W := 0) [(.ref wi), (.int j8), (.int (2 : Int32)), (.long (81985529216486895 : Int64))] [] (tb hw 73 rfl) (tb hw 74 rfl) (tb hw 53 rfl) (tb hw 75 rfl) (rUtS2 l Z aa hw [] j8 wi (81985529216486895 : Int64) x44 x43 x42 (81985529216486895 : Int64) _ wc ho_v365_36) at_615 (pc' := 618) rfl (by decide) (by decide) (by decide) rfl rfl rfl (lenOf pd_9 rfl) (Nat.le_refl _) (by decide) (by decide) ?_
 intro v T L X q
 obtain ⟨rfl, X⟩ := pureX X q
 show Go p e below _ (T.setTop (mkF m 618 _ [(.int (b2i (fUtS2 j8 (81985529216486895 : Int64) x44 x43 x42 (81985529216486895 : Int64))))]))
 have pf64 : (fUtS2 j8 (81985529216486895 : Int64) x44 x43 x42 (81985529216486895 : Int64)) = true := by
   rw [← ex44, ← ex43, ← ex42, ← ex19, ← ex18, ← ex17, ← ex16]; rcases ho_v365_36 with ho | ho
   · rw [ho]; simp [sel0, fUtS2, fUt20]
   · rw [ho]; simp [sel1, fUtS2, fUt21]
 refine g_ifN X at_618 ((if0 _ _).trans (feq (bne (show (fUtS2 j8 (81985529216486895 : Int64) x44 x43 x42 (81985529216486895 : Int64)) = true from pf64))).1) (pc' := 621) rfl ?_
 refine g_iconst X (1 : Int32) at_621 (pc' := 622) rfl rfl ?_
 refine g_goto X at_622 (pc' := 626) (by decide) (by decide) ?_
 refine g_istore X at_626 (pc' := 628) (Ls' := #[.val (.int i0), .val (.int i1), .val (.int i2), .val (.int i3), .val (.long j4), .second, .val (.long j5), .second, .val (.ref qj), .val (.ref qk), .val (.ref qg), .val (.int (2 : Int32)), .val (.ref jt), .val (.int ww), .val (.ref q1), .val (.int j2), .val (.int j8), .val (.long (-1 : Int64)), .second, .val (.long (81985529216486895 : Int64)), .second, .val (.ref wf), .val (.ref wi), .val (.ref w7), .val (.ref ya), .val (.int (1 : Int32))]) rfl rfl ?_
 refine g_iload X at_628 (pc' := 630) rfl rfl ?_
 refine g_ifN X at_630 ((if0 _ _).trans (feq (show ¬ ((1 : Int32) = (0 : Int32)) from (by decide))).1) (pc' := 633) rfl ?_
 refine g_aload X at_633 (pc' := 635) rfl rfl rfl ?_
 refine g_iload X at_635 (pc' := 637) rfl rfl ?_
 refine g_aload X at_637 (pc' := 639) rfl rfl rfl ?_
 refine g_iload X at_639 (pc' := 641) rfl rfl ?_
 refine g_iload X at_641 (pc' := 643) rfl rfl ?_
 refine g_static X (W := 0) [(.ref wf), (.int j2), (.ref wi), (.int j8), (.int (2 : Int32))] [] (tb hw 76 rfl) (tb hw 77 rfl) (tb hw 10 rfl) (tb hw 78 rfl) (rCpS2 l Z aa hw [] j2 j8 wf wi x41 x40 x39 (-1 : Int64) x44 x43 x42 (81985529216486895 : Int64) _ jx wc ho_v365_36 ho_v355_35) at_643 (pc' := 646) rfl (by decide) (by decide) (by decide) rfl rfl rfl (lenOf pd_10 rfl) (Nat.le_refl _) (by decide) (by decide) ?_
 intro v T L X q
 obtain ⟨rfl, X⟩ := pureX X q
 show Go p e below _ (T.setTop (mkF m 646 _ [(.int (fCpS2 j2 j8 x41 x40 x39 (-1 : Int64) x44 x43 x42 (81985529216486895 : Int64)))]))
 refine g_static X (W := 0) [(.int (fCpS2 j2 j8 x41 x40 x39 (-1 : Int64) x44 x43 x42 (81985529216486895 : Int64)))] [] (tb hw 86 rfl) (tb hw 87 rfl) (tb hw 53 rfl) (tb hw 88 rfl) (rSign l Z aa hw [] (fCpS2 j2 j8 x41 x40 x39 (-1 : Int64) x44 x43 x42 (81985529216486895 : Int64)) _) at_646 (pc' := 649) rfl (by decide) (by decide) (by decide) rfl rfl rfl (lenOf pd_0 rfl) (Nat.le_refl _) (by decide) (by decide) ?_
 intro v T L X q
 obtain ⟨rfl, X⟩ := pureX X q
 show Go p e below _ (T.setTop (mkF m 649 _ [(.int (fSign (fCpS2 j2 j8 x41 x40 x39 (-1 : Int64) x44 x43 x42 (81985529216486895 : Int64))))]))
 refine g_aload X at_649 (pc' := 651) rfl rfl rfl ?_
 refine g_aload X at_651 (pc' := 653) rfl rfl rfl ?_
 refine g_static X (W := 1) [(.ref jt), (.ref q1)] [(.int (fSign (fCpS2 j2 j8 x41 x40 x39 (-1 : Int64) x44 x43 x42 (81985529216486895 : Int64))))] (tb hw 89 rfl) (tb hw 90 rfl) (tb hw 53 rfl) (tb hw 91 rfl) (rLex l Z aa hw [] jt q1 yd yj ym ys x0_31 x1_32 x2_33 x3_34 _ qp q2) at_653 (pc' := 656) rfl (by decide) (by decide) (by decide) rfl rfl rfl (lenOf pd_11 rfl) (Nat.le_refl _) (by decide) (by decide) ?_
 intro v T L X q
 obtain ⟨rfl, X⟩ := pureX X q
 show Go p e below _ (T.setTop (mkF m 656 _ [(.int (fLex yd yj ym ys x0_31 x1_32 x2_33 x3_34)), (.int (fSign (fCpS2 j2 j8 x41 x40 x39 (-1 : Int64) x44 x43 x42 (81985529216486895 : Int64))))]))
 have pf65 : (fSign (fCpS2 j2 j8 x41 x40 x39 (-1 : Int64) x44 x43 x42 (81985529216486895 : Int64))) = (fLex yd yj ym ys x0_31 x1_32 x2_33 x3_34) := by
   rw [← ex44, ← ex43, ← ex42, ← ex41, ← ex40, ← ex39, ← ex19, ← ex18, ← ex17, ← ex16]; rcases ho_v355_35 with ha | ha <;> rcases ho_v365_36 with hb | hb
   · rw [ha, hb]; simp only [sel0, sel1]; rw [cps200, cp200]; exact fin2 (N0 := 0) (N2 := 0) ia0 ib0 da0 db0 ia1 ib1 da1 db1 ia2 ib2 da2 db2 ia3 ib3 da3 db3 (w2 (w1 t0 zz0 da0) t1 zz1 zl1 da1) (w2 (w1 t0 zz0 db0) t1 zz1 zl1 db1) (w2 (w1 t2 zz2 da2) t3 zz3 zl3 da3) (w2 (w1 t2 zz2 db2) t3 zz3 zl3 db3)
   · rw [ha, hb]; simp only [sel0, sel1]; rw [cps201, cp201]; exact fin2 (N0 := 0) (N2 := 0) ia0 ib0 da0 db0 ia1 ib1 da1 db1 ia2 ib2 da2 db2 ia3 ib3 da3 db3 (w2 (w1 t0 zz0 da0) t1 zz1 zl1 da1) (w2 (w1 t0 zz0 db0) t1 zz1 zl1 db1) (w2 (w1 t2 zz2 da2) t3 zz3 zl3 da3) (w2 (w1 t2 zz2 db2) t3 zz3 zl3 db3)
   · rw [ha, hb]; simp only [sel0, sel1]; rw [cps210, cp210]; exact fin2 (N0 := 0) (N2 := 0) ia0 ib0 da0 db0 ia1 ib1 da1 db1 ia2 ib2 da2 db2 ia3 ib3 da3 db3 (w2 (w1 t0 zz0 da0) t1 zz1 zl1 da1) (w2 (w1 t0 zz0 db0) t1 zz1 zl1 db1) (w2 (w1 t2 zz2 da2) t3 zz3 zl3 da3) (w2 (w1 t2 zz2 db2) t3 zz3 zl3 db3)
   · rw [ha, hb]; simp only [sel0, sel1]; rw [cps211, cp211]; exact fin2 (N0 := 0) (N2 := 0) ia0 ib0 da0 db0 ia1 ib1 da1 db1 ia2 ib2 da2 db2 ia3 ib3 da3 db3 (w2 (w1 t0 zz0 da0) t1 zz1 zl1 da1) (w2 (w1 t0 zz0 db0) t1 zz1 zl1 db1) (w2 (w1 t2 zz2 da2) t3 zz3 zl3 da3) (w2 (w1 t2 zz2 db2) t3 zz3 zl3 db3)
 refine g_icN X at_656 (teq (show (fSign (fCpS2 j2 j8 x41 x40 x39 (-1 : Int64) x44 x43 x42 (81985529216486895 : Int64))) = (fLex yd yj ym ys x0_31 x1_32 x2_33 x3_34) from pf65)).2 (pc' := 659) rfl ?_
 refine g_iconst X (1 : Int32) at_659 (pc' := 660) rfl rfl ?_
 refine g_goto X at_660 (pc' := 664) (by decide) (by decide) ?_
 refine g_istore X at_664 (pc' := 666) (Ls' := #[.val (.int i0), .val (.int i1), .val (.int i2), .val (.int i3), .val (.long j4), .second, .val (.long j5), .second, .val (.ref qj), .val (.ref qk), .val (.ref qg), .val (.int (2 : Int32)), .val (.ref jt), .val (.int ww), .val (.ref q1), .val (.int j2), .val (.int j8), .val (.long (-1 : Int64)), .second, .val (.long (81985529216486895 : Int64)), .second, .val (.ref wf), .val (.ref wi), .val (.ref w7), .val (.ref ya), .val (.int (1 : Int32))]) rfl rfl ?_
 refine g_iload X at_666 (pc' := 668) rfl rfl ?_
 refine g_ireturnN X (t := .boolean) (by simp) at_668 hret hlk (by decide) (by decide) ?_
 exact ⟨rfl, N⟩
 intro kj
 refine g_iconst X (3 : Int32) at_316 (pc' := 317) rfl rfl ?_
 refine g_iload X at_317 (pc' := 319) rfl rfl ?_
 by_cases qbz : (3 : Int32) < ww
 refine g_icN X at_319 (tlt qbz).2.1 (pc' := 322) rfl ?_
 refine g_aload X at_322 (pc' := 324) rfl rfl rfl ?_
 refine g_iconst X (3 : Int32) at_324 (pc' := 325) rfl rfl ?_
 refine g_iaload X qp 3 at_325 (pc' := 326) rfl (by decide) (by decide) rfl ?_
 refine g_goto X at_326 (pc' := 346) (by decide) (by decide) ?_
 exact kj T X ys ia3
 refine g_icY X at_319 (flt qbz).2.1 (pc' := 329) (by decide) (by decide) ?_
 refine g_lload X at_329 (pc' := 331) rfl rfl ?_
 refine g_ldc2 X (tb hw 58 rfl) at_331 (pc' := 334) rfl ?_
 refine g_lmul X at_334 (pc' := 335) rfl ?_
 refine g_aload X at_335 (pc' := 337) rfl rfl rfl ?_
 refine g_iconst X (3 : Int32) at_337 (pc' := 338) rfl rfl ?_
 refine g_iaload X qh 3 at_338 (pc' := 339) rfl (by decide) (by decide) rfl ?_
 refine g_aload X at_339 (pc' := 341) rfl rfl rfl ?_
 refine g_iconst X (3 : Int32) at_341 (pc' := 342) rfl rfl ?_
 refine g_iaload X qi 3 at_342 (pc' := 343) rfl (by decide) (by decide) rfl ?_
 refine g_static X (W := 2) [(.long (j5 * (1609587929392839161 : Int64))), (.int qo), (.int jz)] [(.int (3 : Int32)), (.ref q1)] (tb hw 51 rfl) (tb hw 52 rfl) (tb hw 53 rfl) (tb hw 54 rfl) (rPick l Z aa hw [] (j5 * (1609587929392839161 : Int64)) qo jz _ (one_more le3).2) at_343 (pc' := 346) rfl (by decide) (by decide) (by decide) rfl rfl rfl (lenOf pd_6 rfl) (Nat.le_refl _) (by decide) (by decide) ?_
 intro v T L X q
 obtain ⟨rfl, X⟩ := pureX X q
 show Go p e below _ (T.setTop (mkF m 346 _ [(.int (fPick (j5 * (1609587929392839161 : Int64)) qo jz)), (.int (3 : Int32)), (.ref q1)]))
 exact kj T X (fPick (j5 * (1609587929392839161 : Int64)) qo jz) (pick_in le3)
 intro kj
 refine g_iconst X (2 : Int32) at_282 (pc' := 283) rfl rfl ?_
 refine g_iload X at_283 (pc' := 285) rfl rfl ?_
 by_cases qb0 : (2 : Int32) < ww
 refine g_icN X at_285 (tlt qb0).2.1 (pc' := 288) rfl ?_
 refine g_aload X at_288 (pc' := 290) rfl rfl rfl ?_
 refine g_iconst X (2 : Int32) at_290 (pc' := 291) rfl rfl ?_
 refine g_iaload X qp 2 at_291 (pc' := 292) rfl (by decide) (by decide) rfl ?_
 refine g_goto X at_292 (pc' := 312) (by decide) (by decide) ?_
 exact kj T X ym ia2
 refine g_icY X at_285 (flt qb0).2.1 (pc' := 295) (by decide) (by decide) ?_
 refine g_lload X at_295 (pc' := 297) rfl rfl ?_
 refine g_ldc2 X (tb hw 57 rfl) at_297 (pc' := 300) rfl ?_
 refine g_lmul X at_300 (pc' := 301) rfl ?_
 refine g_aload X at_301 (pc' := 303) rfl rfl rfl ?_
 refine g_iconst X (2 : Int32) at_303 (pc' := 304) rfl rfl ?_
 refine g_iaload X qh 2 at_304 (pc' := 305) rfl (by decide) (by decide) rfl ?_
 refine g_aload X at_305 (pc' := 307) rfl rfl rfl ?_
 refine g_iconst X (2 : Int32) at_307 (pc' := 308) rfl rfl ?_
 refine g_iaload X qi 2 at_308 (pc' := 309) rfl (by decide) (by decide) rfl ?_
 refine g_static X (W := 2) [(.long (j5 * (-4417276706812531889 : Int64))), (.int qn), (.int jw)] [(.int (2 : Int32)), (.ref q1)] (tb hw 51 rfl) (tb hw 52 rfl) (tb hw 53 rfl) (tb hw 54 rfl) (rPick l Z aa hw [] (j5 * (-4417276706812531889 : Int64)) qn jw _ (one_more le2).2) at_309 (pc' := 312) rfl (by decide) (by decide) (by decide) rfl rfl rfl (lenOf pd_6 rfl) (Nat.le_refl _) (by decide) (by decide) ?_
 intro v T L X q
 obtain ⟨rfl, X⟩ := pureX X q
 show Go p e below _ (T.setTop (mkF m 312 _ [(.int (fPick (j5 * (-4417276706812531889 : Int64)) qn jw)), (.int (2 : Int32)), (.ref q1)]))
 exact kj T X (fPick (j5 * (-4417276706812531889 : Int64)) qn jw) (pick_in le2)
 intro kj
 refine g_iconst X (1 : Int32) at_248 (pc' := 249) rfl rfl ?_
 refine g_iload X at_249 (pc' := 251) rfl rfl ?_
 by_cases qb1 : (1 : Int32) < ww
 refine g_icN X at_251 (tlt qb1).2.1 (pc' := 254) rfl ?_
 refine g_aload X at_254 (pc' := 256) rfl rfl rfl ?_
 refine g_iconst X (1 : Int32) at_256 (pc' := 257) rfl rfl ?_
 refine g_iaload X qp 1 at_257 (pc' := 258) rfl (by decide) (by decide) rfl ?_
 refine g_goto X at_258 (pc' := 278) (by decide) (by decide) ?_
 exact kj T X yj ia1
 refine g_icY X at_251 (flt qb1).2.1 (pc' := 261) (by decide) (by decide) ?_
 refine g_lload X at_261 (pc' := 263) rfl rfl ?_
 refine g_ldc2 X (tb hw 56 rfl) at_263 (pc' := 266) rfl ?_
 refine g_lmul X at_266 (pc' := 267) rfl ?_
 refine g_aload X at_267 (pc' := 269) rfl rfl rfl ?_
 refine g_iconst X (1 : Int32) at_269 (pc' := 270) rfl rfl ?_
 refine g_iaload X qh 1 at_270 (pc' := 271) rfl (by decide) (by decide) rfl ?_
 refine g_aload X at_271 (pc' := 273) rfl rfl rfl ?_
 refine g_iconst X (1 : Int32) at_273 (pc' := 274) rfl rfl ?_
 refine g_iaload X qi 1 at_274 (pc' := 275) rfl (by decide) (by decide) rfl ?_
 refine g_static X (W := 2) [(.long (j5 * (-7046029254386353131 : Int64))), (.int qm), (.int jp)] [(.int (1 : Int32)), (.ref q1)] (tb hw 51 rfl) (tb hw 52 rfl) (tb hw 53 rfl) (tb hw 54 rfl) (rPick l Z aa hw [] (j5 * (-7046029254386353131 : Int64)) qm jp _ (one_more le1).2) at_275 (pc' := 278) rfl (by decide) (by decide) (by decide) rfl rfl rfl (lenOf pd_6 rfl) (Nat.le_refl _) (by decide) (by decide) ?_
 intro v T L X q
 obtain ⟨rfl, X⟩ := pureX X q
 show Go p e below _ (T.setTop (mkF m 278 _ [(.int (fPick (j5 * (-7046029254386353131 : Int64)) qm jp)), (.int (1 : Int32)), (.ref q1)]))
 exact kj T X (fPick (j5 * (-7046029254386353131 : Int64)) qm jp) (pick_in le1)
 intro kj
 refine g_iconst X (0 : Int32) at_214 (pc' := 215) rfl rfl ?_
 refine g_iload X at_215 (pc' := 217) rfl rfl ?_
 by_cases qb2 : (0 : Int32) < ww
 refine g_icN X at_217 (tlt qb2).2.1 (pc' := 220) rfl ?_
 refine g_aload X at_220 (pc' := 222) rfl rfl rfl ?_
 refine g_iconst X (0 : Int32) at_222 (pc' := 223) rfl rfl ?_
 refine g_iaload X qp 0 at_223 (pc' := 224) rfl (by decide) (by decide) rfl ?_
 refine g_goto X at_224 (pc' := 244) (by decide) (by decide) ?_
 exact kj T X yd ia0
 refine g_icY X at_217 (flt qb2).2.1 (pc' := 227) (by decide) (by decide) ?_
 refine g_lload X at_227 (pc' := 229) rfl rfl ?_
 refine g_ldc2 X (tb hw 95 rfl) at_229 (pc' := 232) rfl ?_
 refine g_lmul X at_232 (pc' := 233) rfl ?_
 refine g_aload X at_233 (pc' := 235) rfl rfl rfl ?_
 refine g_iconst X (0 : Int32) at_235 (pc' := 236) rfl rfl ?_
 refine g_iaload X qh 0 at_236 (pc' := 237) rfl (by decide) (by decide) rfl ?_
 refine g_aload X at_237 (pc' := 239) rfl rfl rfl ?_
 refine g_iconst X (0 : Int32) at_239 (pc' := 240) rfl rfl ?_
 refine g_iaload X qi 0 at_240 (pc' := 241) rfl (by decide) (by decide) rfl ?_
 refine g_static X (W := 2) [(.long (j5 * (-2960836687051489901 : Int64))), (.int ql), (.int jc)] [(.int (0 : Int32)), (.ref q1)] (tb hw 51 rfl) (tb hw 52 rfl) (tb hw 53 rfl) (tb hw 54 rfl) (rPick l Z aa hw [] (j5 * (-2960836687051489901 : Int64)) ql jc _ (one_more le0).2) at_241 (pc' := 244) rfl (by decide) (by decide) (by decide) rfl rfl rfl (lenOf pd_6 rfl) (Nat.le_refl _) (by decide) (by decide) ?_
 intro v T L X q
 obtain ⟨rfl, X⟩ := pureX X q
 show Go p e below _ (T.setTop (mkF m 244 _ [(.int (fPick (j5 * (-2960836687051489901 : Int64)) ql jc)), (.int (0 : Int32)), (.ref q1)]))
 exact kj T X (fPick (j5 * (-2960836687051489901 : Int64)) ql jc) (pick_in le0)
 have m2 := le_of_not t1 b2 h2
 have t2 := sub32 t1 b2 m2 (by omega)
 by_cases h3 : ((64 : Int32) - bt ql jc - bt qm jp - bt qn jw) < bt qo jz
 have t3 := sub32 n64 b3 (by omega) (by omega)
 have zz0 : 64 - B0 + B0 = 64 := by omega
 have zl0 : 64 ≤ 64 := by omega
 have zb0 : 64 - B0 + B0 ≤ 64 := by omega
 have zz1 : 64 - B0 - B1 + B1 = 64 - B0 := by omega
 have zl1 : 64 - B0 ≤ 64 := by omega
 have zb1 : 64 - B0 - B1 + B1 ≤ 64 := by omega
 have zz2 : 64 - B0 - B1 - B2 + B2 = 64 - B0 - B1 := by omega
 have zl2 : 64 - B0 - B1 ≤ 64 := by omega
 have zb2 : 64 - B0 - B1 - B2 + B2 ≤ 64 := by omega
 have zz3 : 64 - B3 + B3 = 64 := by omega
 have zl3 : 64 ≤ 64 := by omega
 have zb3 : 64 - B3 + B3 ≤ 64 := by omega
 refine g_special X (W := 1) (a := qg) [(.ref qj), (.ref qk)] [(.ref qg)] rfl (tb hw 11 rfl) (tb hw 12 rfl) (tb hw 10 rfl) (tb hw 13 rfl) (rInit1 l Z aa hw [] qg qj qk ql qm qn qo jc jp jw jz _ n0 Z0 qa qb qc qd qe qf qs qh qi qbk zs zt (not_of_le n64 b0 (by omega)) (not_of_le t0 b1 (by omega)) h2 h3) at_82 (pc' := 85) rfl (by decide) (by decide) (by decide) rfl rfl rfl (lenOf pd_4 rfl) (Nat.le_refl _) (by decide) (by decide) ?_
 intro v T L X q
 obtain ⟨y5, y6, y7, zm, rfl, Nq, Kq, qfe, qff, qfg, qfh, qfi, qfj, qfk, qfl, qfm, qfn, qfo, qfp, qfq, qfr, um, un, uo, up, uq, ur, jh, q3, ji, q4, jj, qu, jk, qx⟩ := q
 replace N := N.app Nq
 replace qs := qs.keep Kq
 replace qh := qh.keep Kq (ninS zs nin0)
 replace jb := jb.keep Kq
 replace qi := qi.keep Kq (ninS zt nin0)
 replace Z0 := Nat.le_trans Z0 Kq.1
 replace qa := um
 replace qb := un
 replace qc := uo
 replace qd := up
 replace qe := uq
 replace qf := ur
 generalize ex74 : ((64 : Int32) - ((64 : Int32) - (fNL ((jz.toInt64) - (qo.toInt64))))) = x74 at qu
 generalize ex75 : ((((64 : Int32) - ((64 : Int32) - (fNL ((jc.toInt64) - (ql.toInt64))))) - ((64 : Int32) - (fNL ((jp.toInt64) - (qm.toInt64))))) - ((64 : Int32) - (fNL ((jw.toInt64) - (qn.toInt64))))) = x75 at qu
 generalize ex76 : (((64 : Int32) - ((64 : Int32) - (fNL ((jc.toInt64) - (ql.toInt64))))) - ((64 : Int32) - (fNL ((jp.toInt64) - (qm.toInt64))))) = x76 at qu
 generalize ex77 : ((64 : Int32) - ((64 : Int32) - (fNL ((jc.toInt64) - (ql.toInt64))))) = x77 at qu
 generalize ex78 : (((1 : Int64) <<< (((64 : Int32) - (fNL ((jz.toInt64) - (qo.toInt64)))) &&& 0x3f).toInt64) - (1 : Int64)) = x78 at qx
 generalize ex79 : (((1 : Int64) <<< (((64 : Int32) - (fNL ((jw.toInt64) - (qn.toInt64)))) &&& 0x3f).toInt64) - (1 : Int64)) = x79 at qx
 generalize ex80 : (((1 : Int64) <<< (((64 : Int32) - (fNL ((jp.toInt64) - (qm.toInt64)))) &&& 0x3f).toInt64) - (1 : Int64)) = x80 at qx
 generalize ex81 : (((1 : Int64) <<< (((64 : Int32) - (fNL ((jc.toInt64) - (ql.toInt64)))) &&& 0x3f).toInt64) - (1 : Int64)) = x81 at qx
 show Go p e below _ (T.setTop (mkF m 85 _ [(.ref qg)]))
 refine g_astore X at_85 (pc' := 87) (Ls' := #[.val (.int i0), .val (.int i1), .val (.int i2), .val (.int i3), .val (.long j4), .second, .val (.long j5), .second, .val (.ref qj), .val (.ref qk), .val (.ref qg), .unset, .unset, .unset, .unset, .unset, .unset, .unset, .unset, .unset, .unset, .unset, .unset, .unset, .unset, .unset]) rfl rfl rfl ?_
 refine g_aload X at_87 (pc' := 89) rfl rfl rfl ?_
 refine g_virtual X (W := 0) (a := qg) (C := "com/example/ryazan/ryazan/language/Layout") [] [] qa (tb hw 46 rfl) (tb hw 47 rfl) (tb hw 49 rfl) (tb hw 48 rfl) (tb hw 10 rfl) (tb hw 50 rfl) (rWidth2 l Z aa hw [] qg _ qa qf) at_89 (pc' := 92) rfl (by decide) (by decide) (by decide) rfl rfl rfl (lenOf pd_5 rfl) (Nat.le_refl _) (by decide) (by decide) ?_
 intro v T L X q
 obtain ⟨rfl, X⟩ := pureX X q
 show Go p e below _ (T.setTop (mkF m 92 _ [(.int (2 : Int32))]))
 refine g_istore X at_92 (pc' := 94) (Ls' := #[.val (.int i0), .val (.int i1), .val (.int i2), .val (.int i3), .val (.long j4), .second, .val (.long j5), .second, .val (.ref qj), .val (.ref qk), .val (.ref qg), .val (.int (2 : Int32)), .unset, .unset, .unset, .unset, .unset, .unset, .unset, .unset, .unset, .unset, .unset, .unset, .unset, .unset]) rfl rfl ?_
 refine g_iload X at_94 (pc' := 96) rfl rfl ?_
 refine g_iconst X (1 : Int32) at_96 (pc' := 97) rfl rfl ?_
 refine g_icN X at_97 (flt (show ¬ ((2 : Int32) < (1 : Int32)) from (by decide))).1 (pc' := 100) rfl ?_
 refine g_iload X at_100 (pc' := 102) rfl rfl ?_
 refine g_iconst X (2 : Int32) at_102 (pc' := 103) rfl rfl ?_
 refine g_icY X at_103 (flt (show ¬ ((2 : Int32) < (2 : Int32)) from (by decide))).2.2.2 (pc' := 108) (by decide) (by decide) ?_
 refine g_iconst X (4 : Int32) at_108 (pc' := 109) rfl rfl ?_
 refine g_newarray X 4 (tb hw 0 rfl) at_109 (pc' := 111) rfl (by decide) (by decide) 4 (by decide) (by decide) (by decide) (by decide) (vs := [(.int (0 : Int32)), (.int (0 : Int32)), (.int (0 : Int32)), (.int (0 : Int32))]) rfl (ad := "[I") (by decide) ?_
 intro T h ju zn X Ex jr qq
 have qat : qj ≠ ju := Nat.ne_of_lt (by rw [zn]; exact qs.lt)
 have qau : qk ≠ ju := Nat.ne_of_lt (by rw [zn]; exact jb.lt)
 have w3 : qg ≠ ju := Nat.ne_of_lt (by rw [zn]; exact qa.lt)
 have qav : y5 ≠ ju := Nat.ne_of_lt (by rw [zn]; exact jh.lt)
 have qaw : y6 ≠ ju := Nat.ne_of_lt (by rw [zn]; exact ji.lt)
 have qax : y7 ≠ ju := Nat.ne_of_lt (by rw [zn]; exact jj.lt)
 have qay : zm ≠ ju := Nat.ne_of_lt (by rw [zn]; exact jk.lt)
 have qaz : n0 ≤ ju := by rw [zn]; exact Z0
 replace qs := qs.ext Ex
 replace qh := qh.ext Ex
 replace jb := jb.ext Ex
 replace qi := qi.ext Ex
 replace qa := qa.ext Ex
 replace qb := qb.ext Ex
 replace qc := qc.ext Ex
 replace qd := qd.ext Ex
 replace qe := qe.ext Ex
 replace qf := qf.ext Ex
 replace jh := jh.ext Ex
 replace q3 := q3.ext Ex
 replace ji := ji.ext Ex
 replace q4 := q4.ext Ex
 replace jj := jj.ext Ex
 replace qu := qu.ext Ex
 replace jk := jk.ext Ex
 replace qx := qx.ext Ex
 replace Z0 := Nat.le_trans Z0 Ex.1
 refine g_astore X at_111 (pc' := 113) (Ls' := #[.val (.int i0), .val (.int i1), .val (.int i2), .val (.int i3), .val (.long j4), .second, .val (.long j5), .second, .val (.ref qj), .val (.ref qk), .val (.ref qg), .val (.int (2 : Int32)), .val (.ref ju), .unset, .unset, .unset, .unset, .unset, .unset, .unset, .unset, .unset, .unset, .unset, .unset, .unset]) rfl rfl rfl ?_
 refine g_aload X at_113 (pc' := 115) rfl rfl rfl ?_
 refine g_iconst X (0 : Int32) at_115 (pc' := 116) rfl rfl ?_
 refine g_lload X at_116 (pc' := 118) rfl rfl ?_
 refine g_aload X at_118 (pc' := 120) rfl rfl rfl ?_
 refine g_iconst X (0 : Int32) at_120 (pc' := 121) rfl rfl ?_
 refine g_iaload X qh 0 at_121 (pc' := 122) rfl (by decide) (by decide) rfl ?_
 refine g_aload X at_122 (pc' := 124) rfl rfl rfl ?_
 refine g_iconst X (0 : Int32) at_124 (pc' := 125) rfl rfl ?_
 refine g_iaload X qi 0 at_125 (pc' := 126) rfl (by decide) (by decide) rfl ?_
 refine g_static X (W := 2) [(.long j4), (.int ql), (.int jc)] [(.int (0 : Int32)), (.ref ju)] (tb hw 51 rfl) (tb hw 52 rfl) (tb hw 53 rfl) (tb hw 54 rfl) (rPick l Z aa hw [] j4 ql jc _ (one_more le0).2) at_126 (pc' := 129) rfl (by decide) (by decide) (by decide) rfl rfl rfl (lenOf pd_6 rfl) (Nat.le_refl _) (by decide) (by decide) ?_
 intro v T L X q
 obtain ⟨rfl, X⟩ := pureX X q
 show Go p e below _ (T.setTop (mkF m 129 _ [(.int (fPick j4 ql jc)), (.int (0 : Int32)), (.ref ju)]))
 generalize qdm : (fPick j4 ql jc) = yf
 refine g_iastore X qq 0 at_129 (pc' := 130) rfl (by decide) (by decide) (Nat.le_of_ble_eq_true rfl) ?_
 intro T h X W qq
 replace qq : Av Z h ju .int [(.int yf), (.int (0 : Int32)), (.int (0 : Int32)), (.int (0 : Int32))] := qq
 replace qs := qs.wr W
 replace qh := qh.other W qat
 replace jb := jb.wr W
 replace qi := qi.other W qau
 replace qa := qa.wr W
 replace qb := qb.other W (Or.inl w3)
 replace qc := qc.other W (Or.inl w3)
 replace qd := qd.other W (Or.inl w3)
 replace qe := qe.other W (Or.inl w3)
 replace qf := qf.other W (Or.inl w3)
 replace jh := jh.wr W
 replace q3 := q3.other W qav
 replace ji := ji.wr W
 replace q4 := q4.other W qaw
 replace jj := jj.wr W
 replace qu := qu.other W qax
 replace jk := jk.wr W
 replace qx := qx.other W qay
 replace jr := jr.wr W
 replace Z0 := Nat.le_trans Z0 (Nat.le_of_eq W.size.symm)
 replace N := Fr.snoc X.1 N qaz
 refine g_aload X at_130 (pc' := 132) rfl rfl rfl ?_
 refine g_iconst X (1 : Int32) at_132 (pc' := 133) rfl rfl ?_
 refine g_lload X at_133 (pc' := 135) rfl rfl ?_
 refine g_ldc2 X (tb hw 56 rfl) at_135 (pc' := 138) rfl ?_
 refine g_lmul X at_138 (pc' := 139) rfl ?_
 refine g_aload X at_139 (pc' := 141) rfl rfl rfl ?_
 refine g_iconst X (1 : Int32) at_141 (pc' := 142) rfl rfl ?_
 refine g_iaload X qh 1 at_142 (pc' := 143) rfl (by decide) (by decide) rfl ?_
 refine g_aload X at_143 (pc' := 145) rfl rfl rfl ?_
 refine g_iconst X (1 : Int32) at_145 (pc' := 146) rfl rfl ?_
 refine g_iaload X qi 1 at_146 (pc' := 147) rfl (by decide) (by decide) rfl ?_
 refine g_static X (W := 2) [(.long (j4 * (-7046029254386353131 : Int64))), (.int qm), (.int jp)] [(.int (1 : Int32)), (.ref ju)] (tb hw 51 rfl) (tb hw 52 rfl) (tb hw 53 rfl) (tb hw 54 rfl) (rPick l Z aa hw [] (j4 * (-7046029254386353131 : Int64)) qm jp _ (one_more le1).2) at_147 (pc' := 150) rfl (by decide) (by decide) (by decide) rfl rfl rfl (lenOf pd_6 rfl) (Nat.le_refl _) (by decide) (by decide) ?_
 intro v T L X q
 obtain ⟨rfl, X⟩ := pureX X q
 show Go p e below _ (T.setTop (mkF m 150 _ [(.int (fPick (j4 * (-7046029254386353131 : Int64)) qm jp)), (.int (1 : Int32)), (.ref ju)]))
 generalize qdn : (fPick (j4 * (-7046029254386353131 : Int64)) qm jp) = yk
 refine g_iastore X qq 1 at_150 (pc' := 151) rfl (by decide) (by decide) (Nat.le_of_ble_eq_true rfl) ?_
 intro T h X W qq
 replace qq : Av Z h ju .int [(.int yf), (.int yk), (.int (0 : Int32)), (.int (0 : Int32))] := qq
 replace qs := qs.wr W
 replace qh := qh.other W qat
 replace jb := jb.wr W
 replace qi := qi.other W qau
 replace qa := qa.wr W
 replace qb := qb.other W (Or.inl w3)
 replace qc := qc.other W (Or.inl w3)
 replace qd := qd.other W (Or.inl w3)
 replace qe := qe.other W (Or.inl w3)
 replace qf := qf.other W (Or.inl w3)
 replace jh := jh.wr W
 replace q3 := q3.other W qav
 replace ji := ji.wr W
 replace q4 := q4.other W qaw
 replace jj := jj.wr W
 replace qu := qu.other W qax
 replace jk := jk.wr W
 replace qx := qx.other W qay
 replace jr := jr.wr W
 replace Z0 := Nat.le_trans Z0 (Nat.le_of_eq W.size.symm)
 replace N := Fr.snoc X.1 N qaz
 refine g_aload X at_151 (pc' := 153) rfl rfl rfl ?_
 refine g_iconst X (2 : Int32) at_153 (pc' := 154) rfl rfl ?_
 refine g_lload X at_154 (pc' := 156) rfl rfl ?_
 refine g_ldc2 X (tb hw 57 rfl) at_156 (pc' := 159) rfl ?_
 refine g_lmul X at_159 (pc' := 160) rfl ?_
 refine g_aload X at_160 (pc' := 162) rfl rfl rfl ?_
 refine g_iconst X (2 : Int32) at_162 (pc' := 163) rfl rfl ?_
 refine g_iaload X qh 2 at_163 (pc' := 164) rfl (by decide) (by decide) rfl ?_
 refine g_aload X at_164 (pc' := 166) rfl rfl rfl ?_
 refine g_iconst X (2 : Int32) at_166 (pc' := 167) rfl rfl ?_
 refine g_iaload X qi 2 at_167 (pc' := 168) rfl (by decide) (by decide) rfl ?_
 refine g_static X (W := 2) [(.long (j4 * (-4417276706812531889 : Int64))), (.int qn), (.int jw)] [(.int (2 : Int32)), (.ref ju)] (tb hw 51 rfl) (tb hw 52 rfl) (tb hw 53 rfl) (tb hw 54 rfl) (rPick l Z aa hw [] (j4 * (-4417276706812531889 : Int64)) qn jw _ (one_more le2).2) at_168 (pc' := 171) rfl (by decide) (by decide) (by decide) rfl rfl rfl (lenOf pd_6 rfl) (Nat.le_refl _) (by decide) (by decide) ?_
 intro v T L X q
 obtain ⟨rfl, X⟩ := pureX X q
 show Go p e below _ (T.setTop (mkF m 171 _ [(.int (fPick (j4 * (-4417276706812531889 : Int64)) qn jw)), (.int (2 : Int32)), (.ref ju)]))
 generalize qdo : (fPick (j4 * (-4417276706812531889 : Int64)) qn jw) = yo
 refine g_iastore X qq 2 at_171 (pc' := 172) rfl (by decide) (by decide) (Nat.le_of_ble_eq_true rfl) ?_
 intro T h X W qq
 replace qq : Av Z h ju .int [(.int yf), (.int yk), (.int yo), (.int (0 : Int32))] := qq
 replace qs := qs.wr W
 replace qh := qh.other W qat
 replace jb := jb.wr W
 replace qi := qi.other W qau
 replace qa := qa.wr W
 replace qb := qb.other W (Or.inl w3)
 replace qc := qc.other W (Or.inl w3)
 replace qd := qd.other W (Or.inl w3)
 replace qe := qe.other W (Or.inl w3)
 replace qf := qf.other W (Or.inl w3)
 replace jh := jh.wr W
 replace q3 := q3.other W qav
 replace ji := ji.wr W
 replace q4 := q4.other W qaw
 replace jj := jj.wr W
 replace qu := qu.other W qax
 replace jk := jk.wr W
 replace qx := qx.other W qay
 replace jr := jr.wr W
 replace Z0 := Nat.le_trans Z0 (Nat.le_of_eq W.size.symm)
 replace N := Fr.snoc X.1 N qaz
 refine g_aload X at_172 (pc' := 174) rfl rfl rfl ?_
 refine g_iconst X (3 : Int32) at_174 (pc' := 175) rfl rfl ?_
 refine g_lload X at_175 (pc' := 177) rfl rfl ?_
 refine g_ldc2 X (tb hw 58 rfl) at_177 (pc' := 180) rfl ?_
 refine g_lmul X at_180 (pc' := 181) rfl ?_
 refine g_aload X at_181 (pc' := 183) rfl rfl rfl ?_
 refine g_iconst X (3 : Int32) at_183 (pc' := 184) rfl rfl ?_
 refine g_iaload X qh 3 at_184 (pc' := 185) rfl (by decide) (by decide) rfl ?_
 refine g_aload X at_185 (pc' := 187) rfl rfl rfl ?_
 refine g_iconst X (3 : Int32) at_187 (pc' := 188) rfl rfl ?_
 refine g_iaload X qi 3 at_188 (pc' := 189) rfl (by decide) (by decide) rfl ?_
 refine g_static X (W := 2) [(.long (j4 * (1609587929392839161 : Int64))), (.int qo), (.int jz)] [(.int (3 : Int32)), (.ref ju)] (tb hw 51 rfl) (tb hw 52 rfl) (tb hw 53 rfl) (tb hw 54 rfl) (rPick l Z aa hw [] (j4 * (1609587929392839161 : Int64)) qo jz _ (one_more le3).2) at_189 (pc' := 192) rfl (by decide) (by decide) (by decide) rfl rfl rfl (lenOf pd_6 rfl) (Nat.le_refl _) (by decide) (by decide) ?_
 intro v T L X q
 obtain ⟨rfl, X⟩ := pureX X q
 show Go p e below _ (T.setTop (mkF m 192 _ [(.int (fPick (j4 * (1609587929392839161 : Int64)) qo jz)), (.int (3 : Int32)), (.ref ju)]))
 generalize qdp : (fPick (j4 * (1609587929392839161 : Int64)) qo jz) = yt
 refine g_iastore X qq 3 at_192 (pc' := 193) rfl (by decide) (by decide) (Nat.le_of_ble_eq_true rfl) ?_
 intro T h X W qq
 replace qq : Av Z h ju .int [(.int yf), (.int yk), (.int yo), (.int yt)] := qq
 replace qs := qs.wr W
 replace qh := qh.other W qat
 replace jb := jb.wr W
 replace qi := qi.other W qau
 replace qa := qa.wr W
 replace qb := qb.other W (Or.inl w3)
 replace qc := qc.other W (Or.inl w3)
 replace qd := qd.other W (Or.inl w3)
 replace qe := qe.other W (Or.inl w3)
 replace qf := qf.other W (Or.inl w3)
 replace jh := jh.wr W
 replace q3 := q3.other W qav
 replace ji := ji.wr W
 replace q4 := q4.other W qaw
 replace jj := jj.wr W
 replace qu := qu.other W qax
 replace jk := jk.wr W
 replace qx := qx.other W qay
 replace jr := jr.wr W
 replace Z0 := Nat.le_trans Z0 (Nat.le_of_eq W.size.symm)
 replace N := Fr.snoc X.1 N qaz
 have ia0 : ql.toInt ≤ yf.toInt ∧ yf.toInt ≤ jc.toInt := by rw [← qdm]; exact pick_in le0
 have da0 := d_nat ia0.1 ia0.2 s0
 have ia1 : qm.toInt ≤ yk.toInt ∧ yk.toInt ≤ jp.toInt := by rw [← qdn]; exact pick_in le1
 have da1 := d_nat ia1.1 ia1.2 s1
 have ia2 : qn.toInt ≤ yo.toInt ∧ yo.toInt ≤ jw.toInt := by rw [← qdo]; exact pick_in le2
 have da2 := d_nat ia2.1 ia2.2 s2
 have ia3 : qo.toInt ≤ yt.toInt ∧ yt.toInt ≤ jz.toInt := by rw [← qdp]; exact pick_in le3
 have da3 := d_nat ia3.1 ia3.2 s3
 refine g_lload X at_193 (pc' := 195) rfl rfl ?_
 refine g_ldc2 X (tb hw 59 rfl) at_195 (pc' := 198) rfl ?_
 refine g_land X at_198 (pc' := 199) rfl ?_
 refine g_ldc2 X (tb hw 60 rfl) at_199 (pc' := 202) rfl ?_
 refine g_lrem X at_202 (pc' := 203) rfl (by decide) ?_
 refine g_l2i X at_203 (pc' := 204) rfl ?_
 generalize qfs : (((j5 &&& (255 : Int64)) % (5 : Int64)).toInt32) = wx
 refine g_istore X at_204 (pc' := 206) (Ls' := #[.val (.int i0), .val (.int i1), .val (.int i2), .val (.int i3), .val (.long j4), .second, .val (.long j5), .second, .val (.ref qj), .val (.ref qk), .val (.ref qg), .val (.int (2 : Int32)), .val (.ref ju), .val (.int wx), .unset, .unset, .unset, .unset, .unset, .unset, .unset, .unset, .unset, .unset, .unset, .unset]) rfl rfl ?_
 refine g_iconst X (4 : Int32) at_206 (pc' := 207) rfl rfl ?_
 refine g_newarray X 4 (tb hw 0 rfl) at_207 (pc' := 209) rfl (by decide) (by decide) 4 (by decide) (by decide) (by decide) (by decide) (vs := [(.int (0 : Int32)), (.int (0 : Int32)), (.int (0 : Int32)), (.int (0 : Int32))]) rfl (ad := "[I") (by decide) ?_
 intro T h q5 zf X Ex j3 q6
 have qbn : qj ≠ q5 := Nat.ne_of_lt (by rw [zf]; exact qs.lt)
 have qbo : qk ≠ q5 := Nat.ne_of_lt (by rw [zf]; exact jb.lt)
 have w4 : qg ≠ q5 := Nat.ne_of_lt (by rw [zf]; exact qa.lt)
 have qa0 : y5 ≠ q5 := Nat.ne_of_lt (by rw [zf]; exact jh.lt)
 have qa1 : y6 ≠ q5 := Nat.ne_of_lt (by rw [zf]; exact ji.lt)
 have qa2 : y7 ≠ q5 := Nat.ne_of_lt (by rw [zf]; exact jj.lt)
 have qa3 : zm ≠ q5 := Nat.ne_of_lt (by rw [zf]; exact jk.lt)
 have qa4 : ju ≠ q5 := Nat.ne_of_lt (by rw [zf]; exact jr.lt)
 have qa5 : n0 ≤ q5 := by rw [zf]; exact Z0
 replace qh := qh.ext Ex
 replace qi := qi.ext Ex
 replace qa := qa.ext Ex
 replace qb := qb.ext Ex
 replace qc := qc.ext Ex
 replace qd := qd.ext Ex
 replace qe := qe.ext Ex
 replace qf := qf.ext Ex
 replace jh := jh.ext Ex
 replace q3 := q3.ext Ex
 replace ji := ji.ext Ex
 replace q4 := q4.ext Ex
 replace jj := jj.ext Ex
 replace qu := qu.ext Ex
 replace jk := jk.ext Ex
 replace qx := qx.ext Ex
 replace jr := jr.ext Ex
 replace qq := qq.ext Ex
 replace Z0 := Nat.le_trans Z0 Ex.1
 refine g_astore X at_209 (pc' := 211) (Ls' := #[.val (.int i0), .val (.int i1), .val (.int i2), .val (.int i3), .val (.long j4), .second, .val (.long j5), .second, .val (.ref qj), .val (.ref qk), .val (.ref qg), .val (.int (2 : Int32)), .val (.ref ju), .val (.int wx), .val (.ref q5), .unset, .unset, .unset, .unset, .unset, .unset, .unset, .unset, .unset, .unset, .unset]) rfl rfl rfl ?_
 refine g_aload X at_211 (pc' := 213) rfl rfl rfl ?_
 refine g_iconst X (0 : Int32) at_213 (pc' := 214) rfl rfl ?_
 refine joinA X (α := Int32) (fun x0_89 => (mkF m 244 #[.val (.int i0), .val (.int i1), .val (.int i2), .val (.int i3), .val (.long j4), .second, .val (.long j5), .second, .val (.ref qj), .val (.ref qk), .val (.ref qg), .val (.int (2 : Int32)), .val (.ref ju), .val (.int wx), .val (.ref q5), .unset, .unset, .unset, .unset, .unset, .unset, .unset, .unset, .unset, .unset, .unset] [(.int x0_89), (.int (0 : Int32)), (.ref q5)])) (fun x0_89 => ql.toInt ≤ x0_89.toInt ∧ x0_89.toInt ≤ jc.toInt) ?_ ?_
 clear X
 intro T X x0_89 ib0
 have db0 := d_nat ib0.1 ib0.2 s0
 show Go p e below _ (T.setTop (mkF m 244 _ [(.int x0_89), (.int (0 : Int32)), (.ref q5)]))
 refine g_iastore X q6 0 at_244 (pc' := 245) rfl (by decide) (by decide) (Nat.le_of_ble_eq_true rfl) ?_
 intro T h X W q6
 replace q6 : Av Z h q5 .int [(.int x0_89), (.int (0 : Int32)), (.int (0 : Int32)), (.int (0 : Int32))] := q6
 replace qh := qh.other W qbn
 replace qi := qi.other W qbo
 replace qa := qa.wr W
 replace qb := qb.other W (Or.inl w4)
 replace qc := qc.other W (Or.inl w4)
 replace qd := qd.other W (Or.inl w4)
 replace qe := qe.other W (Or.inl w4)
 replace qf := qf.other W (Or.inl w4)
 replace jh := jh.wr W
 replace q3 := q3.other W qa0
 replace ji := ji.wr W
 replace q4 := q4.other W qa1
 replace jj := jj.wr W
 replace qu := qu.other W qa2
 replace jk := jk.wr W
 replace qx := qx.other W qa3
 replace jr := jr.wr W
 replace qq := qq.other W qa4
 replace j3 := j3.wr W
 replace Z0 := Nat.le_trans Z0 (Nat.le_of_eq W.size.symm)
 replace N := Fr.snoc X.1 N qa5
 refine g_aload X at_245 (pc' := 247) rfl rfl rfl ?_
 refine g_iconst X (1 : Int32) at_247 (pc' := 248) rfl rfl ?_
 refine joinA X (α := Int32) (fun x1_90 => (mkF m 278 #[.val (.int i0), .val (.int i1), .val (.int i2), .val (.int i3), .val (.long j4), .second, .val (.long j5), .second, .val (.ref qj), .val (.ref qk), .val (.ref qg), .val (.int (2 : Int32)), .val (.ref ju), .val (.int wx), .val (.ref q5), .unset, .unset, .unset, .unset, .unset, .unset, .unset, .unset, .unset, .unset, .unset] [(.int x1_90), (.int (1 : Int32)), (.ref q5)])) (fun x1_90 => qm.toInt ≤ x1_90.toInt ∧ x1_90.toInt ≤ jp.toInt) ?_ ?_
 clear X
 intro T X x1_90 ib1
 have db1 := d_nat ib1.1 ib1.2 s1
 show Go p e below _ (T.setTop (mkF m 278 _ [(.int x1_90), (.int (1 : Int32)), (.ref q5)]))
 refine g_iastore X q6 1 at_278 (pc' := 279) rfl (by decide) (by decide) (Nat.le_of_ble_eq_true rfl) ?_
 intro T h X W q6
 replace q6 : Av Z h q5 .int [(.int x0_89), (.int x1_90), (.int (0 : Int32)), (.int (0 : Int32))] := q6
 replace qh := qh.other W qbn
 replace qi := qi.other W qbo
 replace qa := qa.wr W
 replace qb := qb.other W (Or.inl w4)
 replace qc := qc.other W (Or.inl w4)
 replace qd := qd.other W (Or.inl w4)
 replace qe := qe.other W (Or.inl w4)
 replace qf := qf.other W (Or.inl w4)
 replace jh := jh.wr W
 replace q3 := q3.other W qa0
 replace ji := ji.wr W
 replace q4 := q4.other W qa1
 replace jj := jj.wr W
 replace qu := qu.other W qa2
 replace jk := jk.wr W
 replace qx := qx.other W qa3
 replace jr := jr.wr W
 replace qq := qq.other W qa4
 replace j3 := j3.wr W
 replace Z0 := Nat.le_trans Z0 (Nat.le_of_eq W.size.symm)
 replace N := Fr.snoc X.1 N qa5
 refine g_aload X at_279 (pc' := 281) rfl rfl rfl ?_
 refine g_iconst X (2 : Int32) at_281 (pc' := 282) rfl rfl ?_
 refine joinA X (α := Int32) (fun x2_91 => (mkF m 312 #[.val (.int i0), .val (.int i1), .val (.int i2), .val (.int i3), .val (.long j4), .second, .val (.long j5), .second, .val (.ref qj), .val (.ref qk), .val (.ref qg), .val (.int (2 : Int32)), .val (.ref ju), .val (.int wx), .val (.ref q5), .unset, .unset, .unset, .unset, .unset, .unset, .unset, .unset, .unset, .unset, .unset] [(.int x2_91), (.int (2 : Int32)), (.ref q5)])) (fun x2_91 => qn.toInt ≤ x2_91.toInt ∧ x2_91.toInt ≤ jw.toInt) ?_ ?_
 clear X
 intro T X x2_91 ib2
 have db2 := d_nat ib2.1 ib2.2 s2
 show Go p e below _ (T.setTop (mkF m 312 _ [(.int x2_91), (.int (2 : Int32)), (.ref q5)]))
 refine g_iastore X q6 2 at_312 (pc' := 313) rfl (by decide) (by decide) (Nat.le_of_ble_eq_true rfl) ?_
 intro T h X W q6
 replace q6 : Av Z h q5 .int [(.int x0_89), (.int x1_90), (.int x2_91), (.int (0 : Int32))] := q6
 replace qh := qh.other W qbn
 replace qi := qi.other W qbo
 replace qa := qa.wr W
 replace qb := qb.other W (Or.inl w4)
 replace qc := qc.other W (Or.inl w4)
 replace qd := qd.other W (Or.inl w4)
 replace qe := qe.other W (Or.inl w4)
 replace qf := qf.other W (Or.inl w4)
 replace jh := jh.wr W
 replace q3 := q3.other W qa0
 replace ji := ji.wr W
 replace q4 := q4.other W qa1
 replace jj := jj.wr W
 replace qu := qu.other W qa2
 replace jk := jk.wr W
 replace qx := qx.other W qa3
 replace jr := jr.wr W
 replace qq := qq.other W qa4
 replace j3 := j3.wr W
 replace Z0 := Nat.le_trans Z0 (Nat.le_of_eq W.size.symm)
 replace N := Fr.snoc X.1 N qa5
 refine g_aload X at_313 (pc' := 315) rfl rfl rfl ?_
 refine g_iconst X (3 : Int32) at_315 (pc' := 316) rfl rfl ?_
 refine joinA X (α := Int32) (fun x3_92 => (mkF m 346 #[.val (.int i0), .val (.int i1), .val (.int i2), .val (.int i3), .val (.long j4), .second, .val (.long j5), .second, .val (.ref qj), .val (.ref qk), .val (.ref qg), .val (.int (2 : Int32)), .val (.ref ju), .val (.int wx), .val (.ref q5), .unset, .unset, .unset, .unset, .unset, .unset, .unset, .unset, .unset, .unset, .unset] [(.int x3_92), (.int (3 : Int32)), (.ref q5)])) (fun x3_92 => qo.toInt ≤ x3_92.toInt ∧ x3_92.toInt ≤ jz.toInt) ?_ ?_
 clear X
 intro T X x3_92 ib3
 have db3 := d_nat ib3.1 ib3.2 s3
 show Go p e below _ (T.setTop (mkF m 346 _ [(.int x3_92), (.int (3 : Int32)), (.ref q5)]))
 refine g_iastore X q6 3 at_346 (pc' := 347) rfl (by decide) (by decide) (Nat.le_of_ble_eq_true rfl) ?_
 intro T h X W q6
 replace q6 : Av Z h q5 .int [(.int x0_89), (.int x1_90), (.int x2_91), (.int x3_92)] := q6
 replace qa := qa.wr W
 replace qb := qb.other W (Or.inl w4)
 replace qc := qc.other W (Or.inl w4)
 replace qd := qd.other W (Or.inl w4)
 replace qe := qe.other W (Or.inl w4)
 replace qf := qf.other W (Or.inl w4)
 replace jh := jh.wr W
 replace q3 := q3.other W qa0
 replace ji := ji.wr W
 replace q4 := q4.other W qa1
 replace jj := jj.wr W
 replace qu := qu.other W qa2
 replace jk := jk.wr W
 replace qx := qx.other W qa3
 replace jr := jr.wr W
 replace qq := qq.other W qa4
 replace j3 := j3.wr W
 replace Z0 := Nat.le_trans Z0 (Nat.le_of_eq W.size.symm)
 replace N := Fr.snoc X.1 N qa5
 refine g_lload X at_347 (pc' := 349) rfl rfl ?_
 refine g_bipush X (63 : Int32) at_349 (pc' := 351) rfl rfl ?_
 refine g_lushr X at_351 (pc' := 352) rfl ?_
 refine g_lconst X (1 : Int64) at_352 (pc' := 353) rfl rfl ?_
 refine g_land X at_353 (pc' := 354) rfl ?_
 refine g_l2i X at_354 (pc' := 355) rfl ?_
 generalize qdq : ((((j4.toUInt64 >>> ((63 : Int32) &&& 0x3f).toInt64.toUInt64).toInt64) &&& (1 : Int64)).toInt32) = j6
 refine g_istore X at_355 (pc' := 357) (Ls' := #[.val (.int i0), .val (.int i1), .val (.int i2), .val (.int i3), .val (.long j4), .second, .val (.long j5), .second, .val (.ref qj), .val (.ref qk), .val (.ref qg), .val (.int (2 : Int32)), .val (.ref ju), .val (.int wx), .val (.ref q5), .val (.int j6), .unset, .unset, .unset, .unset, .unset, .unset, .unset, .unset, .unset, .unset]) rfl rfl ?_
 refine g_lload X at_357 (pc' := 359) rfl rfl ?_
 refine g_bipush X (63 : Int32) at_359 (pc' := 361) rfl rfl ?_
 refine g_lushr X at_361 (pc' := 362) rfl ?_
 refine g_lconst X (1 : Int64) at_362 (pc' := 363) rfl rfl ?_
 refine g_land X at_363 (pc' := 364) rfl ?_
 refine g_l2i X at_364 (pc' := 365) rfl ?_
 generalize qdr : ((((j5.toUInt64 >>> ((63 : Int32) &&& 0x3f).toInt64.toUInt64).toInt64) &&& (1 : Int64)).toInt32) = j9
 refine g_istore X at_365 (pc' := 367) (Ls' := #[.val (.int i0), .val (.int i1), .val (.int i2), .val (.int i3), .val (.long j4), .second, .val (.long j5), .second, .val (.ref qj), .val (.ref qk), .val (.ref qg), .val (.int (2 : Int32)), .val (.ref ju), .val (.int wx), .val (.ref q5), .val (.int j6), .val (.int j9), .unset, .unset, .unset, .unset, .unset, .unset, .unset, .unset, .unset]) rfl rfl ?_
 refine g_ldc2 X (tb hw 61 rfl) at_367 (pc' := 370) rfl ?_
 refine g_lstore X at_370 (pc' := 372) (Ls' := #[.val (.int i0), .val (.int i1), .val (.int i2), .val (.int i3), .val (.long j4), .second, .val (.long j5), .second, .val (.ref qj), .val (.ref qk), .val (.ref qg), .val (.int (2 : Int32)), .val (.ref ju), .val (.int wx), .val (.ref q5), .val (.int j6), .val (.int j9), .val (.long (-1 : Int64)), .second, .unset, .unset, .unset, .unset, .unset, .unset, .unset]) rfl rfl ?_
 refine g_ldc2 X (tb hw 62 rfl) at_372 (pc' := 375) rfl ?_
 refine g_lstore X at_375 (pc' := 377) (Ls' := #[.val (.int i0), .val (.int i1), .val (.int i2), .val (.int i3), .val (.long j4), .second, .val (.long j5), .second, .val (.ref qj), .val (.ref qk), .val (.ref qg), .val (.int (2 : Int32)), .val (.ref ju), .val (.int wx), .val (.ref q5), .val (.int j6), .val (.int j9), .val (.long (-1 : Int64)), .second, .val (.long (81985529216486895 : Int64)), .second, .unset, .unset, .unset, .unset, .unset]) rfl rfl ?_
 refine g_iconst X (4 : Int32) at_377 (pc' := 378) rfl rfl ?_
 refine g_newarray X 4 (tb hw 32 rfl) at_378 (pc' := 380) rfl (by decide) (by decide) 4 (by decide) (by decide) (by decide) (by decide) (vs := [(.long (0 : Int64)), (.long (0 : Int64)), (.long (0 : Int64)), (.long (0 : Int64))]) rfl (ad := "[J") (by decide) ?_
 intro T h wg zo X Ex wm jy
 have wp : qg ≠ wg := Nat.ne_of_lt (by rw [zo]; exact qa.lt)
 have z3 : y5 ≠ wg := Nat.ne_of_lt (by rw [zo]; exact jh.lt)
 have z4 : y6 ≠ wg := Nat.ne_of_lt (by rw [zo]; exact ji.lt)
 have z5 : y7 ≠ wg := Nat.ne_of_lt (by rw [zo]; exact jj.lt)
 have uz : zm ≠ wg := Nat.ne_of_lt (by rw [zo]; exact jk.lt)
 have z6 : ju ≠ wg := Nat.ne_of_lt (by rw [zo]; exact jr.lt)
 have u0 : q5 ≠ wg := Nat.ne_of_lt (by rw [zo]; exact j3.lt)
 have u1 : n0 ≤ wg := by rw [zo]; exact Z0
 replace qa := qa.ext Ex
 replace qb := qb.ext Ex
 replace qc := qc.ext Ex
 replace qd := qd.ext Ex
 replace qe := qe.ext Ex
 replace qf := qf.ext Ex
 replace jh := jh.ext Ex
 replace q3 := q3.ext Ex
 replace ji := ji.ext Ex
 replace q4 := q4.ext Ex
 replace jj := jj.ext Ex
 replace qu := qu.ext Ex
 replace jk := jk.ext Ex
 replace qx := qx.ext Ex
 replace jr := jr.ext Ex
 replace qq := qq.ext Ex
 replace j3 := j3.ext Ex
 replace q6 := q6.ext Ex
 replace Z0 := Nat.le_trans Z0 Ex.1
 refine g_dup X at_380 (pc' := 381) rfl rfl ?_
 refine g_iconst X (0 : Int32) at_381 (pc' := 382) rfl rfl ?_
 refine g_lload X at_382 (pc' := 384) rfl rfl ?_
 refine g_lastore X jy 0 at_384 (pc' := 385) rfl (by decide) (by decide) (Nat.le_of_ble_eq_true rfl) ?_
 intro T h X W jy
 replace jy : Av Z h wg .long [(.long (-1 : Int64)), (.long (0 : Int64)), (.long (0 : Int64)), (.long (0 : Int64))] := jy
 replace qa := qa.wr W
 replace qb := qb.other W (Or.inl wp)
 replace qc := qc.other W (Or.inl wp)
 replace qd := qd.other W (Or.inl wp)
 replace qe := qe.other W (Or.inl wp)
 replace qf := qf.other W (Or.inl wp)
 replace jh := jh.wr W
 replace q3 := q3.other W z3
 replace ji := ji.wr W
 replace q4 := q4.other W z4
 replace jj := jj.wr W
 replace qu := qu.other W z5
 replace jk := jk.wr W
 replace qx := qx.other W uz
 replace jr := jr.wr W
 replace qq := qq.other W z6
 replace j3 := j3.wr W
 replace q6 := q6.other W u0
 replace wm := wm.wr W
 replace Z0 := Nat.le_trans Z0 (Nat.le_of_eq W.size.symm)
 replace N := Fr.snoc X.1 N u1
 refine g_dup X at_385 (pc' := 386) rfl rfl ?_
 refine g_iconst X (1 : Int32) at_386 (pc' := 387) rfl rfl ?_
 refine g_lload X at_387 (pc' := 389) rfl rfl ?_
 refine g_lastore X jy 1 at_389 (pc' := 390) rfl (by decide) (by decide) (Nat.le_of_ble_eq_true rfl) ?_
 intro T h X W jy
 replace jy : Av Z h wg .long [(.long (-1 : Int64)), (.long (-1 : Int64)), (.long (0 : Int64)), (.long (0 : Int64))] := jy
 replace qa := qa.wr W
 replace qb := qb.other W (Or.inl wp)
 replace qc := qc.other W (Or.inl wp)
 replace qd := qd.other W (Or.inl wp)
 replace qe := qe.other W (Or.inl wp)
 replace qf := qf.other W (Or.inl wp)
 replace jh := jh.wr W
 replace q3 := q3.other W z3
 replace ji := ji.wr W
 replace q4 := q4.other W z4
 replace jj := jj.wr W
 replace qu := qu.other W z5
 replace jk := jk.wr W
 replace qx := qx.other W uz
 replace jr := jr.wr W
 replace qq := qq.other W z6
 replace j3 := j3.wr W
 replace q6 := q6.other W u0
 replace wm := wm.wr W
 replace Z0 := Nat.le_trans Z0 (Nat.le_of_eq W.size.symm)
 replace N := Fr.snoc X.1 N u1
 refine g_dup X at_390 (pc' := 391) rfl rfl ?_
 refine g_iconst X (2 : Int32) at_391 (pc' := 392) rfl rfl ?_
 refine g_lload X at_392 (pc' := 394) rfl rfl ?_
 refine g_lastore X jy 2 at_394 (pc' := 395) rfl (by decide) (by decide) (Nat.le_of_ble_eq_true rfl) ?_
 intro T h X W jy
 replace jy : Av Z h wg .long [(.long (-1 : Int64)), (.long (-1 : Int64)), (.long (-1 : Int64)), (.long (0 : Int64))] := jy
 replace qa := qa.wr W
 replace qb := qb.other W (Or.inl wp)
 replace qc := qc.other W (Or.inl wp)
 replace qd := qd.other W (Or.inl wp)
 replace qe := qe.other W (Or.inl wp)
 replace qf := qf.other W (Or.inl wp)
 replace jh := jh.wr W
 replace q3 := q3.other W z3
 replace ji := ji.wr W
 replace q4 := q4.other W z4
 replace jj := jj.wr W
 replace qu := qu.other W z5
 replace jk := jk.wr W
 replace qx := qx.other W uz
 replace jr := jr.wr W
 replace qq := qq.other W z6
 replace j3 := j3.wr W
 replace q6 := q6.other W u0
 replace wm := wm.wr W
 replace Z0 := Nat.le_trans Z0 (Nat.le_of_eq W.size.symm)
 replace N := Fr.snoc X.1 N u1
 refine g_dup X at_395 (pc' := 396) rfl rfl ?_
 refine g_iconst X (3 : Int32) at_396 (pc' := 397) rfl rfl ?_
 refine g_lload X at_397 (pc' := 399) rfl rfl ?_
 refine g_lastore X jy 3 at_399 (pc' := 400) rfl (by decide) (by decide) (Nat.le_of_ble_eq_true rfl) ?_
 intro T h X W jy
 replace jy : Av Z h wg .long [(.long (-1 : Int64)), (.long (-1 : Int64)), (.long (-1 : Int64)), (.long (-1 : Int64))] := jy
 replace qa := qa.wr W
 replace qb := qb.other W (Or.inl wp)
 replace qc := qc.other W (Or.inl wp)
 replace qd := qd.other W (Or.inl wp)
 replace qe := qe.other W (Or.inl wp)
 replace qf := qf.other W (Or.inl wp)
 replace jh := jh.wr W
 replace q3 := q3.other W z3
 replace ji := ji.wr W
 replace q4 := q4.other W z4
 replace jj := jj.wr W
 replace qu := qu.other W z5
 replace jk := jk.wr W
 replace qx := qx.other W uz
 replace jr := jr.wr W
 replace qq := qq.other W z6
 replace j3 := j3.wr W
 replace q6 := q6.other W u0
 replace wm := wm.wr W
 replace Z0 := Nat.le_trans Z0 (Nat.le_of_eq W.size.symm)
 replace N := Fr.snoc X.1 N u1
 refine g_astore X at_400 (pc' := 402) (Ls' := #[.val (.int i0), .val (.int i1), .val (.int i2), .val (.int i3), .val (.long j4), .second, .val (.long j5), .second, .val (.ref qj), .val (.ref qk), .val (.ref qg), .val (.int (2 : Int32)), .val (.ref ju), .val (.int wx), .val (.ref q5), .val (.int j6), .val (.int j9), .val (.long (-1 : Int64)), .second, .val (.long (81985529216486895 : Int64)), .second, .val (.ref wg), .unset, .unset, .unset, .unset]) rfl rfl rfl ?_
 refine g_iconst X (4 : Int32) at_402 (pc' := 403) rfl rfl ?_
 refine g_newarray X 4 (tb hw 32 rfl) at_403 (pc' := 405) rfl (by decide) (by decide) 4 (by decide) (by decide) (by decide) (by decide) (vs := [(.long (0 : Int64)), (.long (0 : Int64)), (.long (0 : Int64)), (.long (0 : Int64))]) rfl (ad := "[J") (by decide) ?_
 intro T h wj zg X Ex yg wd
 have wu : qg ≠ wj := Nat.ne_of_lt (by rw [zg]; exact qa.lt)
 have z7 : y5 ≠ wj := Nat.ne_of_lt (by rw [zg]; exact jh.lt)
 have z8 : y6 ≠ wj := Nat.ne_of_lt (by rw [zg]; exact ji.lt)
 have z9 : y7 ≠ wj := Nat.ne_of_lt (by rw [zg]; exact jj.lt)
 have u2 : zm ≠ wj := Nat.ne_of_lt (by rw [zg]; exact jk.lt)
 have u3 : ju ≠ wj := Nat.ne_of_lt (by rw [zg]; exact jr.lt)
 have ua : q5 ≠ wj := Nat.ne_of_lt (by rw [zg]; exact j3.lt)
 have ub : wg ≠ wj := Nat.ne_of_lt (by rw [zg]; exact wm.lt)
 have u4 : n0 ≤ wj := by rw [zg]; exact Z0
 replace qa := qa.ext Ex
 replace qb := qb.ext Ex
 replace qc := qc.ext Ex
 replace qd := qd.ext Ex
 replace qe := qe.ext Ex
 replace qf := qf.ext Ex
 replace jh := jh.ext Ex
 replace q3 := q3.ext Ex
 replace ji := ji.ext Ex
 replace q4 := q4.ext Ex
 replace jj := jj.ext Ex
 replace qu := qu.ext Ex
 replace jk := jk.ext Ex
 replace qx := qx.ext Ex
 replace jr := jr.ext Ex
 replace qq := qq.ext Ex
 replace j3 := j3.ext Ex
 replace q6 := q6.ext Ex
 replace wm := wm.ext Ex
 replace jy := jy.ext Ex
 replace Z0 := Nat.le_trans Z0 Ex.1
 refine g_dup X at_405 (pc' := 406) rfl rfl ?_
 refine g_iconst X (0 : Int32) at_406 (pc' := 407) rfl rfl ?_
 refine g_lload X at_407 (pc' := 409) rfl rfl ?_
 refine g_lastore X wd 0 at_409 (pc' := 410) rfl (by decide) (by decide) (Nat.le_of_ble_eq_true rfl) ?_
 intro T h X W wd
 replace wd : Av Z h wj .long [(.long (81985529216486895 : Int64)), (.long (0 : Int64)), (.long (0 : Int64)), (.long (0 : Int64))] := wd
 replace qa := qa.wr W
 replace qb := qb.other W (Or.inl wu)
 replace qc := qc.other W (Or.inl wu)
 replace qd := qd.other W (Or.inl wu)
 replace qe := qe.other W (Or.inl wu)
 replace qf := qf.other W (Or.inl wu)
 replace jh := jh.wr W
 replace q3 := q3.other W z7
 replace ji := ji.wr W
 replace q4 := q4.other W z8
 replace jj := jj.wr W
 replace qu := qu.other W z9
 replace jk := jk.wr W
 replace qx := qx.other W u2
 replace jr := jr.wr W
 replace qq := qq.other W u3
 replace j3 := j3.wr W
 replace q6 := q6.other W ua
 replace wm := wm.wr W
 replace jy := jy.other W ub
 replace yg := yg.wr W
 replace Z0 := Nat.le_trans Z0 (Nat.le_of_eq W.size.symm)
 replace N := Fr.snoc X.1 N u4
 refine g_dup X at_410 (pc' := 411) rfl rfl ?_
 refine g_iconst X (1 : Int32) at_411 (pc' := 412) rfl rfl ?_
 refine g_lload X at_412 (pc' := 414) rfl rfl ?_
 refine g_lastore X wd 1 at_414 (pc' := 415) rfl (by decide) (by decide) (Nat.le_of_ble_eq_true rfl) ?_
 intro T h X W wd
 replace wd : Av Z h wj .long [(.long (81985529216486895 : Int64)), (.long (81985529216486895 : Int64)), (.long (0 : Int64)), (.long (0 : Int64))] := wd
 replace qa := qa.wr W
 replace qb := qb.other W (Or.inl wu)
 replace qc := qc.other W (Or.inl wu)
 replace qd := qd.other W (Or.inl wu)
 replace qe := qe.other W (Or.inl wu)
 replace qf := qf.other W (Or.inl wu)
 replace jh := jh.wr W
 replace q3 := q3.other W z7
 replace ji := ji.wr W
 replace q4 := q4.other W z8
 replace jj := jj.wr W
 replace qu := qu.other W z9
 replace jk := jk.wr W
 replace qx := qx.other W u2
 replace jr := jr.wr W
 replace qq := qq.other W u3
 replace j3 := j3.wr W
 replace q6 := q6.other W ua
 replace wm := wm.wr W
 replace jy := jy.other W ub
 replace yg := yg.wr W
 replace Z0 := Nat.le_trans Z0 (Nat.le_of_eq W.size.symm)
 replace N := Fr.snoc X.1 N u4
 refine g_dup X at_415 (pc' := 416) rfl rfl ?_
 refine g_iconst X (2 : Int32) at_416 (pc' := 417) rfl rfl ?_
 refine g_lload X at_417 (pc' := 419) rfl rfl ?_
 refine g_lastore X wd 2 at_419 (pc' := 420) rfl (by decide) (by decide) (Nat.le_of_ble_eq_true rfl) ?_
 intro T h X W wd
 replace wd : Av Z h wj .long [(.long (81985529216486895 : Int64)), (.long (81985529216486895 : Int64)), (.long (81985529216486895 : Int64)), (.long (0 : Int64))] := wd
 replace qa := qa.wr W
 replace qb := qb.other W (Or.inl wu)
 replace qc := qc.other W (Or.inl wu)
 replace qd := qd.other W (Or.inl wu)
 replace qe := qe.other W (Or.inl wu)
 replace qf := qf.other W (Or.inl wu)
 replace jh := jh.wr W
 replace q3 := q3.other W z7
 replace ji := ji.wr W
 replace q4 := q4.other W z8
 replace jj := jj.wr W
 replace qu := qu.other W z9
 replace jk := jk.wr W
 replace qx := qx.other W u2
 replace jr := jr.wr W
 replace qq := qq.other W u3
 replace j3 := j3.wr W
 replace q6 := q6.other W ua
 replace wm := wm.wr W
 replace jy := jy.other W ub
 replace yg := yg.wr W
 replace Z0 := Nat.le_trans Z0 (Nat.le_of_eq W.size.symm)
 replace N := Fr.snoc X.1 N u4
 refine g_dup X at_420 (pc' := 421) rfl rfl ?_
 refine g_iconst X (3 : Int32) at_421 (pc' := 422) rfl rfl ?_
 refine g_lload X at_422 (pc' := 424) rfl rfl ?_
 refine g_lastore X wd 3 at_424 (pc' := 425) rfl (by decide) (by decide) (Nat.le_of_ble_eq_true rfl) ?_
 intro T h X W wd
 replace wd : Av Z h wj .long [(.long (81985529216486895 : Int64)), (.long (81985529216486895 : Int64)), (.long (81985529216486895 : Int64)), (.long (81985529216486895 : Int64))] := wd
 replace qa := qa.wr W
 replace qb := qb.other W (Or.inl wu)
 replace qc := qc.other W (Or.inl wu)
 replace qd := qd.other W (Or.inl wu)
 replace qe := qe.other W (Or.inl wu)
 replace qf := qf.other W (Or.inl wu)
 replace jh := jh.wr W
 replace q3 := q3.other W z7
 replace ji := ji.wr W
 replace q4 := q4.other W z8
 replace jj := jj.wr W
 replace qu := qu.other W z9
 replace jk := jk.wr W
 replace qx := qx.other W u2
 replace jr := jr.wr W
 replace qq := qq.other W u3
 replace j3 := j3.wr W
 replace q6 := q6.other W ua
 replace wm := wm.wr W
 replace jy := jy.other W ub
 replace yg := yg.wr W
 replace Z0 := Nat.le_trans Z0 (Nat.le_of_eq W.size.symm)
 replace N := Fr.snoc X.1 N u4
 refine g_astore X at_425 (pc' := 427) (Ls' := #[.val (.int i0), .val (.int i1), .val (.int i2), .val (.int i3), .val (.long j4), .second, .val (.long j5), .second, .val (.ref qj), .val (.ref qk), .val (.ref qg), .val (.int (2 : Int32)), .val (.ref ju), .val (.int wx), .val (.ref q5), .val (.int j6), .val (.int j9), .val (.long (-1 : Int64)), .second, .val (.long (81985529216486895 : Int64)), .second, .val (.ref wg), .val (.ref wj), .unset, .unset, .unset]) rfl rfl rfl ?_
 have ho_v355_93 := off2 qdq
 have ho_v365_94 := off2 qdr
 refine g_aload X at_427 (pc' := 429) rfl rfl rfl ?_
 refine g_aload X at_429 (pc' := 431) rfl rfl rfl ?_
 refine g_aload X at_431 (pc' := 433) rfl rfl rfl ?_
 refine g_iload X at_433 (pc' := 435) rfl rfl ?_
 refine g_virtual X (W := 0) (a := qg) (C := "com/example/ryazan/ryazan/language/Layout") [(.ref ju), (.ref wg), (.int j6)] [] qa (tb hw 63 rfl) (tb hw 64 rfl) (tb hw 66 rfl) (tb hw 65 rfl) (tb hw 10 rfl) (tb hw 67 rfl) (rPkS1 l Z aa hw [] j6 qg ju wg y5 y6 y7 ql qm qn qo x77 x76 x75 x74 yf yk yo yt (-1 : Int64) (-1 : Int64) (-1 : Int64) (-1 : Int64) _ n0 Z0 qa qb qc qd qf q3 q4 qu qq jy u1 wp z3 z4 z5 z6 ho_v355_93) at_435 (pc' := 438) rfl (by decide) (by decide) (by decide) rfl rfl rfl (lenOf pd_7 rfl) (Nat.le_refl _) (by decide) (by decide) ?_
 intro v T L X q
 obtain ⟨rfl, Nq, Kq, qds⟩ := q
 replace N := N.app Nq
 replace qa := qa.keep Kq
 replace qb := qb.keep Kq (ninS wp nin0)
 replace qc := qc.keep Kq (ninS wp nin0)
 replace qd := qd.keep Kq (ninS wp nin0)
 replace qe := qe.keep Kq (ninS wp nin0)
 replace qf := qf.keep Kq (ninS wp nin0)
 replace jh := jh.keep Kq
 replace q3 := q3.keep Kq (ninS z3 nin0)
 replace ji := ji.keep Kq
 replace q4 := q4.keep Kq (ninS z4 nin0)
 replace jj := jj.keep Kq
 replace qu := qu.keep Kq (ninS z5 nin0)
 replace jk := jk.keep Kq
 replace qx := qx.keep Kq (ninS uz nin0)
 replace jr := jr.keep Kq
 replace qq := qq.keep Kq (ninS z6 nin0)
 replace j3 := j3.keep Kq
 replace q6 := q6.keep Kq (ninS u0 nin0)
 replace yg := yg.keep Kq
 replace wd := wd.keep Kq (ninS (Ne.symm ub) nin0)
 replace Z0 := Nat.le_trans Z0 Kq.1
 replace jy := qds
 replace wm := wm.keep Kq
 generalize ex97 : (sel j6 (-1 : Int64) ((0 : Int64) ||| (((yt.toInt64) - (qo.toInt64)) <<< (x74 &&& 0x3f).toInt64))) = x97 at jy
 generalize ex98 : (sel j6 ((0 : Int64) ||| (((yt.toInt64) - (qo.toInt64)) <<< (x74 &&& 0x3f).toInt64)) ((((0 : Int64) ||| (((yf.toInt64) - (ql.toInt64)) <<< (x77 &&& 0x3f).toInt64)) ||| (((yk.toInt64) - (qm.toInt64)) <<< (x76 &&& 0x3f).toInt64)) ||| (((yo.toInt64) - (qn.toInt64)) <<< (x75 &&& 0x3f).toInt64))) = x98 at jy
 generalize ex99 : (sel j6 ((((0 : Int64) ||| (((yf.toInt64) - (ql.toInt64)) <<< (x77 &&& 0x3f).toInt64)) ||| (((yk.toInt64) - (qm.toInt64)) <<< (x76 &&& 0x3f).toInt64)) ||| (((yo.toInt64) - (qn.toInt64)) <<< (x75 &&& 0x3f).toInt64)) (-1 : Int64)) = x99 at jy
 show Go p e below _ (T.setTop (mkF m 438 _ []))
 refine g_aload X at_438 (pc' := 440) rfl rfl rfl ?_
 refine g_aload X at_440 (pc' := 442) rfl rfl rfl ?_
 refine g_aload X at_442 (pc' := 444) rfl rfl rfl ?_
 refine g_iload X at_444 (pc' := 446) rfl rfl ?_
 refine g_virtual X (W := 0) (a := qg) (C := "com/example/ryazan/ryazan/language/Layout") [(.ref q5), (.ref wj), (.int j9)] [] qa (tb hw 63 rfl) (tb hw 64 rfl) (tb hw 66 rfl) (tb hw 65 rfl) (tb hw 10 rfl) (tb hw 67 rfl) (rPkS1 l Z aa hw [] j9 qg q5 wj y5 y6 y7 ql qm qn qo x77 x76 x75 x74 x0_89 x1_90 x2_91 x3_92 (81985529216486895 : Int64) (81985529216486895 : Int64) (81985529216486895 : Int64) (81985529216486895 : Int64) _ n0 Z0 qa qb qc qd qf q3 q4 qu q6 wd u4 wu z7 z8 z9 ua ho_v365_94) at_446 (pc' := 449) rfl (by decide) (by decide) (by decide) rfl rfl rfl (lenOf pd_7 rfl) (Nat.le_refl _) (by decide) (by decide) ?_
 intro v T L X q
 obtain ⟨rfl, Nq, Kq, qdt⟩ := q
 replace N := N.app Nq
 replace qa := qa.keep Kq
 replace qb := qb.keep Kq (ninS wu nin0)
 replace qc := qc.keep Kq (ninS wu nin0)
 replace qd := qd.keep Kq (ninS wu nin0)
 replace qe := qe.keep Kq (ninS wu nin0)
 replace jh := jh.keep Kq
 replace q3 := q3.keep Kq (ninS z7 nin0)
 replace ji := ji.keep Kq
 replace q4 := q4.keep Kq (ninS z8 nin0)
 replace jj := jj.keep Kq
 replace qu := qu.keep Kq (ninS z9 nin0)
 replace jk := jk.keep Kq
 replace qx := qx.keep Kq (ninS u2 nin0)
 replace jr := jr.keep Kq
 replace qq := qq.keep Kq (ninS u3 nin0)
 replace j3 := j3.keep Kq
 replace q6 := q6.keep Kq (ninS ua nin0)
 replace wm := wm.keep Kq
 replace jy := jy.keep Kq (ninS ub nin0)
 replace Z0 := Nat.le_trans Z0 Kq.1
 replace wd := qdt
 replace yg := yg.keep Kq
 generalize ex100 : (sel j9 (81985529216486895 : Int64) ((0 : Int64) ||| (((x3_92.toInt64) - (qo.toInt64)) <<< (x74 &&& 0x3f).toInt64))) = x100 at wd
 generalize ex101 : (sel j9 ((0 : Int64) ||| (((x3_92.toInt64) - (qo.toInt64)) <<< (x74 &&& 0x3f).toInt64)) ((((0 : Int64) ||| (((x0_89.toInt64) - (ql.toInt64)) <<< (x77 &&& 0x3f).toInt64)) ||| (((x1_90.toInt64) - (qm.toInt64)) <<< (x76 &&& 0x3f).toInt64)) ||| (((x2_91.toInt64) - (qn.toInt64)) <<< (x75 &&& 0x3f).toInt64))) = x101 at wd
 generalize ex102 : (sel j9 ((((0 : Int64) ||| (((x0_89.toInt64) - (ql.toInt64)) <<< (x77 &&& 0x3f).toInt64)) ||| (((x1_90.toInt64) - (qm.toInt64)) <<< (x76 &&& 0x3f).toInt64)) ||| (((x2_91.toInt64) - (qn.toInt64)) <<< (x75 &&& 0x3f).toInt64)) (81985529216486895 : Int64)) = x102 at wd
 show Go p e below _ (T.setTop (mkF m 449 _ []))
 refine g_iconst X (4 : Int32) at_449 (pc' := 450) rfl rfl ?_
 refine g_newarray X 4 (tb hw 0 rfl) at_450 (pc' := 452) rfl (by decide) (by decide) 4 (by decide) (by decide) (by decide) (by decide) (vs := [(.int (0 : Int32)), (.int (0 : Int32)), (.int (0 : Int32)), (.int (0 : Int32))]) rfl (ad := "[I") (by decide) ?_
 intro T h w8 y8 X Ex qdu yp
 have u5 : qg ≠ w8 := Nat.ne_of_lt (by rw [y8]; exact qa.lt)
 have qb3 : y5 ≠ w8 := Nat.ne_of_lt (by rw [y8]; exact jh.lt)
 have qb4 : y6 ≠ w8 := Nat.ne_of_lt (by rw [y8]; exact ji.lt)
 have qb5 : y7 ≠ w8 := Nat.ne_of_lt (by rw [y8]; exact jj.lt)
 have qb6 : zm ≠ w8 := Nat.ne_of_lt (by rw [y8]; exact jk.lt)
 have qdv : ju ≠ w8 := Nat.ne_of_lt (by rw [y8]; exact jr.lt)
 have qdw : q5 ≠ w8 := Nat.ne_of_lt (by rw [y8]; exact j3.lt)
 have qb7 : wg ≠ w8 := Nat.ne_of_lt (by rw [y8]; exact wm.lt)
 have qdx : wj ≠ w8 := Nat.ne_of_lt (by rw [y8]; exact yg.lt)
 have qdy : n0 ≤ w8 := by rw [y8]; exact Z0
 replace qa := qa.ext Ex
 replace qb := qb.ext Ex
 replace qc := qc.ext Ex
 replace qd := qd.ext Ex
 replace qe := qe.ext Ex
 replace jh := jh.ext Ex
 replace q3 := q3.ext Ex
 replace ji := ji.ext Ex
 replace q4 := q4.ext Ex
 replace jj := jj.ext Ex
 replace qu := qu.ext Ex
 replace jk := jk.ext Ex
 replace qx := qx.ext Ex
 replace jr := jr.ext Ex
 replace qq := qq.ext Ex
 replace j3 := j3.ext Ex
 replace q6 := q6.ext Ex
 replace wm := wm.ext Ex
 replace jy := jy.ext Ex
 replace yg := yg.ext Ex
 replace wd := wd.ext Ex
 replace Z0 := Nat.le_trans Z0 Ex.1
 refine g_astore X at_452 (pc' := 454) (Ls' := #[.val (.int i0), .val (.int i1), .val (.int i2), .val (.int i3), .val (.long j4), .second, .val (.long j5), .second, .val (.ref qj), .val (.ref qk), .val (.ref qg), .val (.int (2 : Int32)), .val (.ref ju), .val (.int wx), .val (.ref q5), .val (.int j6), .val (.int j9), .val (.long (-1 : Int64)), .second, .val (.long (81985529216486895 : Int64)), .second, .val (.ref wg), .val (.ref wj), .val (.ref w8), .unset, .unset]) rfl rfl rfl ?_
 refine g_iconst X (4 : Int32) at_454 (pc' := 455) rfl rfl ?_
 refine g_newarray X 4 (tb hw 0 rfl) at_455 (pc' := 457) rfl (by decide) (by decide) 4 (by decide) (by decide) (by decide) (by decide) (vs := [(.int (0 : Int32)), (.int (0 : Int32)), (.int (0 : Int32)), (.int (0 : Int32))]) rfl (ad := "[I") (by decide) ?_
 intro T h yb yz X Ex qft yw
 have qdz : qg ≠ yb := Nat.ne_of_lt (by rw [yz]; exact qa.lt)
 have qd0 : y5 ≠ yb := Nat.ne_of_lt (by rw [yz]; exact jh.lt)
 have qd1 : y6 ≠ yb := Nat.ne_of_lt (by rw [yz]; exact ji.lt)
 have qd2 : y7 ≠ yb := Nat.ne_of_lt (by rw [yz]; exact jj.lt)
 have qd3 : zm ≠ yb := Nat.ne_of_lt (by rw [yz]; exact jk.lt)
 have qd4 : ju ≠ yb := Nat.ne_of_lt (by rw [yz]; exact jr.lt)
 have qd5 : q5 ≠ yb := Nat.ne_of_lt (by rw [yz]; exact j3.lt)
 have qd6 : wg ≠ yb := Nat.ne_of_lt (by rw [yz]; exact wm.lt)
 have qb8 : wj ≠ yb := Nat.ne_of_lt (by rw [yz]; exact yg.lt)
 have qb9 : w8 ≠ yb := Nat.ne_of_lt (by rw [yz]; exact qdu.lt)
 have qd7 : n0 ≤ yb := by rw [yz]; exact Z0
 replace qa := qa.ext Ex
 replace qb := qb.ext Ex
 replace qc := qc.ext Ex
 replace qd := qd.ext Ex
 replace qe := qe.ext Ex
 replace q3 := q3.ext Ex
 replace q4 := q4.ext Ex
 replace qu := qu.ext Ex
 replace qx := qx.ext Ex
 replace qq := qq.ext Ex
 replace q6 := q6.ext Ex
 replace jy := jy.ext Ex
 replace wd := wd.ext Ex
 replace yp := yp.ext Ex
 replace Z0 := Nat.le_trans Z0 Ex.1
 refine g_astore X at_457 (pc' := 459) (Ls' := #[.val (.int i0), .val (.int i1), .val (.int i2), .val (.int i3), .val (.long j4), .second, .val (.long j5), .second, .val (.ref qj), .val (.ref qk), .val (.ref qg), .val (.int (2 : Int32)), .val (.ref ju), .val (.int wx), .val (.ref q5), .val (.int j6), .val (.int j9), .val (.long (-1 : Int64)), .second, .val (.long (81985529216486895 : Int64)), .second, .val (.ref wg), .val (.ref wj), .val (.ref w8), .val (.ref yb), .unset]) rfl rfl rfl ?_
 refine g_aload X at_459 (pc' := 461) rfl rfl rfl ?_
 refine g_aload X at_461 (pc' := 463) rfl rfl rfl ?_
 refine g_iload X at_463 (pc' := 465) rfl rfl ?_
 refine g_aload X at_465 (pc' := 467) rfl rfl rfl ?_
 refine g_virtual X (W := 0) (a := qg) (C := "com/example/ryazan/ryazan/language/Layout") [(.ref wg), (.int j6), (.ref w8)] [] qa (tb hw 68 rfl) (tb hw 69 rfl) (tb hw 71 rfl) (tb hw 70 rfl) (tb hw 10 rfl) (tb hw 72 rfl) (rUpS1 l Z aa hw [] j6 qg wg w8 y5 y6 y7 zm ql qm qn qo x77 x76 x75 x74 x81 x80 x79 x78 x99 x98 x97 (-1 : Int64) (0 : Int32) (0 : Int32) (0 : Int32) (0 : Int32) _ n0 Z0 qa qb qc qd qe q3 q4 qu qx jy yp qdy u5 qb3 qb4 qb5 qb6 qb7 ho_v355_93) at_467 (pc' := 470) rfl (by decide) (by decide) (by decide) rfl rfl rfl (lenOf pd_8 rfl) (Nat.le_refl _) (by decide) (by decide) ?_
 intro v T L X q
 obtain ⟨rfl, Nq, Kq, qd8⟩ := q
 replace N := N.app Nq
 replace qa := qa.keep Kq
 replace qb := qb.keep Kq (ninS u5 nin0)
 replace qc := qc.keep Kq (ninS u5 nin0)
 replace qd := qd.keep Kq (ninS u5 nin0)
 replace qe := qe.keep Kq (ninS u5 nin0)
 replace q3 := q3.keep Kq (ninS qb3 nin0)
 replace q4 := q4.keep Kq (ninS qb4 nin0)
 replace qu := qu.keep Kq (ninS qb5 nin0)
 replace qx := qx.keep Kq (ninS qb6 nin0)
 replace qq := qq.keep Kq (ninS qdv nin0)
 replace q6 := q6.keep Kq (ninS qdw nin0)
 replace jy := jy.keep Kq (ninS qb7 nin0)
 replace wd := wd.keep Kq (ninS qdx nin0)
 replace yw := yw.keep Kq (ninS (Ne.symm qb9) nin0)
 replace Z0 := Nat.le_trans Z0 Kq.1
 replace yp := qd8
 generalize ex105 : (seli j6 (((((x98.toUInt64 >>> (x74 &&& 0x3f).toInt64.toUInt64).toInt64) &&& x78).toInt32) + qo) (((((x97.toUInt64 >>> (x74 &&& 0x3f).toInt64.toUInt64).toInt64) &&& x78).toInt32) + qo)) = x105 at yp
 generalize ex106 : (seli j6 (((((x99.toUInt64 >>> (x75 &&& 0x3f).toInt64.toUInt64).toInt64) &&& x79).toInt32) + qn) (((((x98.toUInt64 >>> (x75 &&& 0x3f).toInt64.toUInt64).toInt64) &&& x79).toInt32) + qn)) = x106 at yp
 generalize ex107 : (seli j6 (((((x99.toUInt64 >>> (x76 &&& 0x3f).toInt64.toUInt64).toInt64) &&& x80).toInt32) + qm) (((((x98.toUInt64 >>> (x76 &&& 0x3f).toInt64.toUInt64).toInt64) &&& x80).toInt32) + qm)) = x107 at yp
 generalize ex108 : (seli j6 (((((x99.toUInt64 >>> (x77 &&& 0x3f).toInt64.toUInt64).toInt64) &&& x81).toInt32) + ql) (((((x98.toUInt64 >>> (x77 &&& 0x3f).toInt64.toUInt64).toInt64) &&& x81).toInt32) + ql)) = x108 at yp
 show Go p e below _ (T.setTop (mkF m 470 _ []))
 refine g_aload X at_470 (pc' := 472) rfl rfl rfl ?_
 refine g_aload X at_472 (pc' := 474) rfl rfl rfl ?_
 refine g_iload X at_474 (pc' := 476) rfl rfl ?_
 refine g_aload X at_476 (pc' := 478) rfl rfl rfl ?_
 refine g_virtual X (W := 0) (a := qg) (C := "com/example/ryazan/ryazan/language/Layout") [(.ref wj), (.int j9), (.ref yb)] [] qa (tb hw 68 rfl) (tb hw 69 rfl) (tb hw 71 rfl) (tb hw 70 rfl) (tb hw 10 rfl) (tb hw 72 rfl) (rUpS1 l Z aa hw [] j9 qg wj yb y5 y6 y7 zm ql qm qn qo x77 x76 x75 x74 x81 x80 x79 x78 x102 x101 x100 (81985529216486895 : Int64) (0 : Int32) (0 : Int32) (0 : Int32) (0 : Int32) _ n0 Z0 qa qb qc qd qe q3 q4 qu qx wd yw qd7 qdz qd0 qd1 qd2 qd3 qb8 ho_v365_94) at_478 (pc' := 481) rfl (by decide) (by decide) (by decide) rfl rfl rfl (lenOf pd_8 rfl) (Nat.le_refl _) (by decide) (by decide) ?_
 intro v T L X q
 obtain ⟨rfl, Nq, Kq, qd9⟩ := q
 replace N := N.app Nq
 replace qq := qq.keep Kq (ninS qd4 nin0)
 replace q6 := q6.keep Kq (ninS qd5 nin0)
 replace jy := jy.keep Kq (ninS qd6 nin0)
 replace wd := wd.keep Kq (ninS qb8 nin0)
 replace yp := yp.keep Kq (ninS qb9 nin0)
 replace Z0 := Nat.le_trans Z0 Kq.1
 replace yw := qd9
 generalize ex109 : (seli j9 (((((x101.toUInt64 >>> (x74 &&& 0x3f).toInt64.toUInt64).toInt64) &&& x78).toInt32) + qo) (((((x100.toUInt64 >>> (x74 &&& 0x3f).toInt64.toUInt64).toInt64) &&& x78).toInt32) + qo)) = x109 at yw
 generalize ex110 : (seli j9 (((((x102.toUInt64 >>> (x75 &&& 0x3f).toInt64.toUInt64).toInt64) &&& x79).toInt32) + qn) (((((x101.toUInt64 >>> (x75 &&& 0x3f).toInt64.toUInt64).toInt64) &&& x79).toInt32) + qn)) = x110 at yw
 generalize ex111 : (seli j9 (((((x102.toUInt64 >>> (x76 &&& 0x3f).toInt64.toUInt64).toInt64) &&& x80).toInt32) + qm) (((((x101.toUInt64 >>> (x76 &&& 0x3f).toInt64.toUInt64).toInt64) &&& x80).toInt32) + qm)) = x111 at yw
 generalize ex112 : (seli j9 (((((x102.toUInt64 >>> (x77 &&& 0x3f).toInt64.toUInt64).toInt64) &&& x81).toInt32) + ql) (((((x101.toUInt64 >>> (x77 &&& 0x3f).toInt64.toUInt64).toInt64) &&& x81).toInt32) + ql)) = x112 at yw
 show Go p e below _ (T.setTop (mkF m 481 _ []))
 refine g_aload X at_481 (pc' := 483) rfl rfl rfl ?_
 refine g_iconst X (0 : Int32) at_483 (pc' := 484) rfl rfl ?_
 refine g_iaload X yp 0 at_484 (pc' := 485) rfl (by decide) (by decide) rfl ?_
 refine g_aload X at_485 (pc' := 487) rfl rfl rfl ?_
 refine g_iconst X (0 : Int32) at_487 (pc' := 488) rfl rfl ?_
 refine g_iaload X qq 0 at_488 (pc' := 489) rfl (by decide) (by decide) rfl ?_
 have pf113 : x108 = yf := by
   rw [← ex108, ← ex99, ← ex98, ← ex81, ← ex77, ← ex76, ← ex75, ← ex74]; rcases ho_v355_93 with ho | ho
   · rw [ho]; simp only [sel0, seli0]; exact got t0 b0 zb0 c0 da0 (three t0 t1 t2 zz0 zz1 zz2 da0 da1 da2).1
   · rw [ho]; simp only [sel1, seli1]; exact got t0 b0 zb0 c0 da0 (three t0 t1 t2 zz0 zz1 zz2 da0 da1 da2).1
 refine g_icN X at_489 (teq (show x108 = yf from pf113)).2 (pc' := 492) rfl ?_
 refine g_aload X at_492 (pc' := 494) rfl rfl rfl ?_
 refine g_iconst X (1 : Int32) at_494 (pc' := 495) rfl rfl ?_
 refine g_iaload X yp 1 at_495 (pc' := 496) rfl (by decide) (by decide) rfl ?_
 refine g_aload X at_496 (pc' := 498) rfl rfl rfl ?_
 refine g_iconst X (1 : Int32) at_498 (pc' := 499) rfl rfl ?_
 refine g_iaload X qq 1 at_499 (pc' := 500) rfl (by decide) (by decide) rfl ?_
 have pf114 : x107 = yk := by
   rw [← ex107, ← ex99, ← ex98, ← ex80, ← ex77, ← ex76, ← ex75, ← ex74]; rcases ho_v355_93 with ho | ho
   · rw [ho]; simp only [sel0, seli0]; exact got t1 b1 zb1 c1 da1 (three t0 t1 t2 zz0 zz1 zz2 da0 da1 da2).2.1
   · rw [ho]; simp only [sel1, seli1]; exact got t1 b1 zb1 c1 da1 (three t0 t1 t2 zz0 zz1 zz2 da0 da1 da2).2.1
 refine g_icN X at_500 (teq (show x107 = yk from pf114)).2 (pc' := 503) rfl ?_
 refine g_aload X at_503 (pc' := 505) rfl rfl rfl ?_
 refine g_iconst X (2 : Int32) at_505 (pc' := 506) rfl rfl ?_
 refine g_iaload X yp 2 at_506 (pc' := 507) rfl (by decide) (by decide) rfl ?_
 refine g_aload X at_507 (pc' := 509) rfl rfl rfl ?_
 refine g_iconst X (2 : Int32) at_509 (pc' := 510) rfl rfl ?_
 refine g_iaload X qq 2 at_510 (pc' := 511) rfl (by decide) (by decide) rfl ?_
 have pf115 : x106 = yo := by
   rw [← ex106, ← ex99, ← ex98, ← ex79, ← ex77, ← ex76, ← ex75, ← ex74]; rcases ho_v355_93 with ho | ho
   · rw [ho]; simp only [sel0, seli0]; exact got t2 b2 zb2 c2 da2 (three t0 t1 t2 zz0 zz1 zz2 da0 da1 da2).2.2
   · rw [ho]; simp only [sel1, seli1]; exact got t2 b2 zb2 c2 da2 (three t0 t1 t2 zz0 zz1 zz2 da0 da1 da2).2.2
 refine g_icN X at_511 (teq (show x106 = yo from pf115)).2 (pc' := 514) rfl ?_
 refine g_aload X at_514 (pc' := 516) rfl rfl rfl ?_
 refine g_iconst X (3 : Int32) at_516 (pc' := 517) rfl rfl ?_
 refine g_iaload X yp 3 at_517 (pc' := 518) rfl (by decide) (by decide) rfl ?_
 refine g_aload X at_518 (pc' := 520) rfl rfl rfl ?_
 refine g_iconst X (3 : Int32) at_520 (pc' := 521) rfl rfl ?_
 refine g_iaload X qq 3 at_521 (pc' := 522) rfl (by decide) (by decide) rfl ?_
 have pf116 : x105 = yt := by
   rw [← ex105, ← ex98, ← ex97, ← ex78, ← ex77, ← ex76, ← ex75, ← ex74]; rcases ho_v355_93 with ho | ho
   · rw [ho]; simp only [sel0, seli0]; exact got t3 b3 zb3 c3 da3 (one t3 zz3 da3)
   · rw [ho]; simp only [sel1, seli1]; exact got t3 b3 zb3 c3 da3 (one t3 zz3 da3)
 refine g_icN X at_522 (teq (show x105 = yt from pf116)).2 (pc' := 525) rfl ?_
 refine g_iconst X (1 : Int32) at_525 (pc' := 526) rfl rfl ?_
 refine g_goto X at_526 (pc' := 530) (by decide) (by decide) ?_
 refine g_istore X at_530 (pc' := 532) (Ls' := #[.val (.int i0), .val (.int i1), .val (.int i2), .val (.int i3), .val (.long j4), .second, .val (.long j5), .second, .val (.ref qj), .val (.ref qk), .val (.ref qg), .val (.int (2 : Int32)), .val (.ref ju), .val (.int wx), .val (.ref q5), .val (.int j6), .val (.int j9), .val (.long (-1 : Int64)), .second, .val (.long (81985529216486895 : Int64)), .second, .val (.ref wg), .val (.ref wj), .val (.ref w8), .val (.ref yb), .val (.int (1 : Int32))]) rfl rfl ?_
 refine g_iload X at_532 (pc' := 534) rfl rfl ?_
 refine g_ifN X at_534 ((if0 _ _).trans (feq (show ¬ ((1 : Int32) = (0 : Int32)) from (by decide))).1) (pc' := 537) rfl ?_
 refine g_aload X at_537 (pc' := 539) rfl rfl rfl ?_
 refine g_iconst X (0 : Int32) at_539 (pc' := 540) rfl rfl ?_
 refine g_iaload X yw 0 at_540 (pc' := 541) rfl (by decide) (by decide) rfl ?_
 refine g_aload X at_541 (pc' := 543) rfl rfl rfl ?_
 refine g_iconst X (0 : Int32) at_543 (pc' := 544) rfl rfl ?_
 refine g_iaload X q6 0 at_544 (pc' := 545) rfl (by decide) (by decide) rfl ?_
 have pf117 : x112 = x0_89 := by
   rw [← ex112, ← ex102, ← ex101, ← ex81, ← ex77, ← ex76, ← ex75, ← ex74]; rcases ho_v365_94 with ho | ho
   · rw [ho]; simp only [sel0, seli0]; exact got t0 b0 zb0 c0 db0 (three t0 t1 t2 zz0 zz1 zz2 db0 db1 db2).1
   · rw [ho]; simp only [sel1, seli1]; exact got t0 b0 zb0 c0 db0 (three t0 t1 t2 zz0 zz1 zz2 db0 db1 db2).1
 refine g_icN X at_545 (teq (show x112 = x0_89 from pf117)).2 (pc' := 548) rfl ?_
 refine g_aload X at_548 (pc' := 550) rfl rfl rfl ?_
 refine g_iconst X (1 : Int32) at_550 (pc' := 551) rfl rfl ?_
 refine g_iaload X yw 1 at_551 (pc' := 552) rfl (by decide) (by decide) rfl ?_
 refine g_aload X at_552 (pc' := 554) rfl rfl rfl ?_
 refine g_iconst X (1 : Int32) at_554 (pc' := 555) rfl rfl ?_
 refine g_iaload X q6 1 at_555 (pc' := 556) rfl (by decide) (by decide) rfl ?_
 have pf118 : x111 = x1_90 := by
   rw [← ex111, ← ex102, ← ex101, ← ex80, ← ex77, ← ex76, ← ex75, ← ex74]; rcases ho_v365_94 with ho | ho
   · rw [ho]; simp only [sel0, seli0]; exact got t1 b1 zb1 c1 db1 (three t0 t1 t2 zz0 zz1 zz2 db0 db1 db2).2.1
   · rw [ho]; simp only [sel1, seli1]; exact got t1 b1 zb1 c1 db1 (three t0 t1 t2 zz0 zz1 zz2 db0 db1 db2).2.1
 refine g_icN X at_556 (teq (show x111 = x1_90 from pf118)).2 (pc' := 559) rfl ?_
 refine g_aload X at_559 (pc' := 561) rfl rfl rfl ?_
 refine g_iconst X (2 : Int32) at_561 (pc' := 562) rfl rfl ?_
 refine g_iaload X yw 2 at_562 (pc' := 563) rfl (by decide) (by decide) rfl ?_
 refine g_aload X at_563 (pc' := 565) rfl rfl rfl ?_
 refine g_iconst X (2 : Int32) at_565 (pc' := 566) rfl rfl ?_
 refine g_iaload X q6 2 at_566 (pc' := 567) rfl (by decide) (by decide) rfl ?_
 have pf119 : x110 = x2_91 := by
   rw [← ex110, ← ex102, ← ex101, ← ex79, ← ex77, ← ex76, ← ex75, ← ex74]; rcases ho_v365_94 with ho | ho
   · rw [ho]; simp only [sel0, seli0]; exact got t2 b2 zb2 c2 db2 (three t0 t1 t2 zz0 zz1 zz2 db0 db1 db2).2.2
   · rw [ho]; simp only [sel1, seli1]; exact got t2 b2 zb2 c2 db2 (three t0 t1 t2 zz0 zz1 zz2 db0 db1 db2).2.2
 refine g_icN X at_567 (teq (show x110 = x2_91 from pf119)).2 (pc' := 570) rfl ?_
 refine g_aload X at_570 (pc' := 572) rfl rfl rfl ?_
 refine g_iconst X (3 : Int32) at_572 (pc' := 573) rfl rfl ?_
 refine g_iaload X yw 3 at_573 (pc' := 574) rfl (by decide) (by decide) rfl ?_
 refine g_aload X at_574 (pc' := 576) rfl rfl rfl ?_
 refine g_iconst X (3 : Int32) at_576 (pc' := 577) rfl rfl ?_
 refine g_iaload X q6 3 at_577 (pc' := 578) rfl (by decide) (by decide) rfl ?_
 have pf120 : x109 = x3_92 := by
   rw [← ex109, ← ex101, ← ex100, ← ex78, ← ex77, ← ex76, ← ex75, ← ex74]; rcases ho_v365_94 with ho | ho
   · rw [ho]; simp only [sel0, seli0]; exact got t3 b3 zb3 c3 db3 (one t3 zz3 db3)
   · rw [ho]; simp only [sel1, seli1]; exact got t3 b3 zb3 c3 db3 (one t3 zz3 db3)
 refine g_icN X at_578 (teq (show x109 = x3_92 from pf120)).2 (pc' := 581) rfl ?_
 refine g_iconst X (1 : Int32) at_581 (pc' := 582) rfl rfl ?_
 refine g_goto X at_582 (pc' := 586) (by decide) (by decide) ?_
 refine g_istore X at_586 (pc' := 588) (Ls' := #[.val (.int i0), .val (.int i1), .val (.int i2), .val (.int i3), .val (.long j4), .second, .val (.long j5), .second, .val (.ref qj), .val (.ref qk), .val (.ref qg), .val (.int (2 : Int32)), .val (.ref ju), .val (.int wx), .val (.ref q5), .val (.int j6), .val (.int j9), .val (.long (-1 : Int64)), .second, .val (.long (81985529216486895 : Int64)), .second, .val (.ref wg), .val (.ref wj), .val (.ref w8), .val (.ref yb), .val (.int (1 : Int32))]) rfl rfl ?_
 refine g_iload X at_588 (pc' := 590) rfl rfl ?_
 refine g_ifN X at_590 ((if0 _ _).trans (feq (show ¬ ((1 : Int32) = (0 : Int32)) from (by decide))).1) (pc' := 593) rfl ?_
 refine g_aload X at_593 (pc' := 595) rfl rfl rfl ?_
 refine g_iload X at_595 (pc' := 597) rfl rfl ?_
 refine g_iload X at_597 (pc' := 599) rfl rfl ?_
 refine g_lload X at_599 (pc' := 601) rfl rfl ?_
 refine g_static X (W := 0) [(.ref wg), (.int j6), (.int (2 : Int32)), (.long (-1 : Int64))] [] (tb hw 73 rfl) (tb hw 74 rfl) (tb hw 53 rfl) (tb hw 75 rfl) (rUtS2 l Z aa hw [] j6 wg (-1 : Int64) x99 x98 x97 (-1 : Int64) _ jy ho_v355_93) at_601 (pc' := 604) rfl (by decide) (by decide) (by decide) rfl rfl rfl (lenOf pd_9 rfl) (Nat.le_refl _) (by decide) (by decide) ?_
 intro v T L X q
 obtain ⟨rfl, X⟩ := pureX X q
 show Go p e below _ (T.setTop (mkF m 604 _ [(.int (b2i (fUtS2 j6 (-1 : Int64) x99 x98 x97 (-1 : Int64))))]))
 have pf121 : (fUtS2 j6 (-1 : Int64) x99 x98 x97 (-1 : Int64)) = true := by
   rw [← ex99, ← ex98, ← ex97, ← ex77, ← ex76, ← ex75, ← ex74]; rcases ho_v355_93 with ho | ho
   · rw [ho]; simp [sel0, fUtS2, fUt20]
   · rw [ho]; simp [sel1, fUtS2, fUt21]
 refine g_ifN X at_604 ((if0 _ _).trans (feq (bne (show (fUtS2 j6 (-1 : Int64) x99 x98 x97 (-1 : Int64)) = true from pf121))).1) (pc' := 607) rfl ?_
 refine g_aload X at_607 (pc' := 609) rfl rfl rfl ?_
 refine g_iload X at_609 (pc' := 611) rfl rfl ?_
 refine g_iload X at_611 (pc' := 613) rfl rfl ?_
 refine g_lload X at_613 (pc' := 615) rfl rfl ?_
 refine g_static X (W := 0) [(.ref wj), (.int j9), (.int (2 : Int32)), (.long (81985529216486895 : Int64))] [] (tb hw 73 rfl) (tb hw 74 rfl) (tb hw 53 rfl) (tb hw 75 rfl) (rUtS2 l Z aa hw [] j9 wj (81985529216486895 : Int64) x102 x101 x100 (81985529216486895 : Int64) _ wd ho_v365_94) at_615 (pc' := 618) rfl (by decide) (by decide) (by decide) rfl rfl rfl (lenOf pd_9 rfl) (Nat.le_refl _) (by decide) (by decide) ?_
 intro v T L X q
 obtain ⟨rfl, X⟩ := pureX X q
 show Go p e below _ (T.setTop (mkF m 618 _ [(.int (b2i (fUtS2 j9 (81985529216486895 : Int64) x102 x101 x100 (81985529216486895 : Int64))))]))
 have pf122 : (fUtS2 j9 (81985529216486895 : Int64) x102 x101 x100 (81985529216486895 : Int64)) = true := by
   rw [← ex102, ← ex101, ← ex100, ← ex77, ← ex76, ← ex75, ← ex74]; rcases ho_v365_94 with ho | ho
   · rw [ho]; simp [sel0, fUtS2, fUt20]
   · rw [ho]; simp [sel1, fUtS2, fUt21]
 refine g_ifN X at_618 ((if0 _ _).trans (feq (bne (show (fUtS2 j9 (81985529216486895 : Int64) x102 x101 x100 (81985529216486895 : Int64)) = true from pf122))).1) (pc' := 621) rfl ?_
 refine g_iconst X (1 : Int32) at_621 (pc' := 622) rfl rfl ?_
 refine g_goto X at_622 (pc' := 626) (by decide) (by decide) ?_
 refine g_istore X at_626 (pc' := 628) (Ls' := #[.val (.int i0), .val (.int i1), .val (.int i2), .val (.int i3), .val (.long j4), .second, .val (.long j5), .second, .val (.ref qj), .val (.ref qk), .val (.ref qg), .val (.int (2 : Int32)), .val (.ref ju), .val (.int wx), .val (.ref q5), .val (.int j6), .val (.int j9), .val (.long (-1 : Int64)), .second, .val (.long (81985529216486895 : Int64)), .second, .val (.ref wg), .val (.ref wj), .val (.ref w8), .val (.ref yb), .val (.int (1 : Int32))]) rfl rfl ?_
 refine g_iload X at_628 (pc' := 630) rfl rfl ?_
 refine g_ifN X at_630 ((if0 _ _).trans (feq (show ¬ ((1 : Int32) = (0 : Int32)) from (by decide))).1) (pc' := 633) rfl ?_
 refine g_aload X at_633 (pc' := 635) rfl rfl rfl ?_
 refine g_iload X at_635 (pc' := 637) rfl rfl ?_
 refine g_aload X at_637 (pc' := 639) rfl rfl rfl ?_
 refine g_iload X at_639 (pc' := 641) rfl rfl ?_
 refine g_iload X at_641 (pc' := 643) rfl rfl ?_
 refine g_static X (W := 0) [(.ref wg), (.int j6), (.ref wj), (.int j9), (.int (2 : Int32))] [] (tb hw 76 rfl) (tb hw 77 rfl) (tb hw 10 rfl) (tb hw 78 rfl) (rCpS2 l Z aa hw [] j6 j9 wg wj x99 x98 x97 (-1 : Int64) x102 x101 x100 (81985529216486895 : Int64) _ jy wd ho_v365_94 ho_v355_93) at_643 (pc' := 646) rfl (by decide) (by decide) (by decide) rfl rfl rfl (lenOf pd_10 rfl) (Nat.le_refl _) (by decide) (by decide) ?_
 intro v T L X q
 obtain ⟨rfl, X⟩ := pureX X q
 show Go p e below _ (T.setTop (mkF m 646 _ [(.int (fCpS2 j6 j9 x99 x98 x97 (-1 : Int64) x102 x101 x100 (81985529216486895 : Int64)))]))
 refine g_static X (W := 0) [(.int (fCpS2 j6 j9 x99 x98 x97 (-1 : Int64) x102 x101 x100 (81985529216486895 : Int64)))] [] (tb hw 86 rfl) (tb hw 87 rfl) (tb hw 53 rfl) (tb hw 88 rfl) (rSign l Z aa hw [] (fCpS2 j6 j9 x99 x98 x97 (-1 : Int64) x102 x101 x100 (81985529216486895 : Int64)) _) at_646 (pc' := 649) rfl (by decide) (by decide) (by decide) rfl rfl rfl (lenOf pd_0 rfl) (Nat.le_refl _) (by decide) (by decide) ?_
 intro v T L X q
 obtain ⟨rfl, X⟩ := pureX X q
 show Go p e below _ (T.setTop (mkF m 649 _ [(.int (fSign (fCpS2 j6 j9 x99 x98 x97 (-1 : Int64) x102 x101 x100 (81985529216486895 : Int64))))]))
 refine g_aload X at_649 (pc' := 651) rfl rfl rfl ?_
 refine g_aload X at_651 (pc' := 653) rfl rfl rfl ?_
 refine g_static X (W := 1) [(.ref ju), (.ref q5)] [(.int (fSign (fCpS2 j6 j9 x99 x98 x97 (-1 : Int64) x102 x101 x100 (81985529216486895 : Int64))))] (tb hw 89 rfl) (tb hw 90 rfl) (tb hw 53 rfl) (tb hw 91 rfl) (rLex l Z aa hw [] ju q5 yf yk yo yt x0_89 x1_90 x2_91 x3_92 _ qq q6) at_653 (pc' := 656) rfl (by decide) (by decide) (by decide) rfl rfl rfl (lenOf pd_11 rfl) (Nat.le_refl _) (by decide) (by decide) ?_
 intro v T L X q
 obtain ⟨rfl, X⟩ := pureX X q
 show Go p e below _ (T.setTop (mkF m 656 _ [(.int (fLex yf yk yo yt x0_89 x1_90 x2_91 x3_92)), (.int (fSign (fCpS2 j6 j9 x99 x98 x97 (-1 : Int64) x102 x101 x100 (81985529216486895 : Int64))))]))
 have pf123 : (fSign (fCpS2 j6 j9 x99 x98 x97 (-1 : Int64) x102 x101 x100 (81985529216486895 : Int64))) = (fLex yf yk yo yt x0_89 x1_90 x2_91 x3_92) := by
   rw [← ex102, ← ex101, ← ex100, ← ex99, ← ex98, ← ex97, ← ex77, ← ex76, ← ex75, ← ex74]; rcases ho_v355_93 with ha | ha <;> rcases ho_v365_94 with hb | hb
   · rw [ha, hb]; simp only [sel0, sel1]; rw [cps200, cp200]; exact fin1 (N0 := 0) (N1 := 0) ia0 ib0 da0 db0 ia1 ib1 da1 db1 ia2 ib2 da2 db2 ia3 ib3 da3 db3 (w2 (w2 (w1 t0 zz0 da0) t1 zz1 zl1 da1) t2 zz2 zl2 da2) (w2 (w2 (w1 t0 zz0 db0) t1 zz1 zl1 db1) t2 zz2 zl2 db2) (w1 t3 zz3 da3) (w1 t3 zz3 db3)
   · rw [ha, hb]; simp only [sel0, sel1]; rw [cps201, cp201]; exact fin1 (N0 := 0) (N1 := 0) ia0 ib0 da0 db0 ia1 ib1 da1 db1 ia2 ib2 da2 db2 ia3 ib3 da3 db3 (w2 (w2 (w1 t0 zz0 da0) t1 zz1 zl1 da1) t2 zz2 zl2 da2) (w2 (w2 (w1 t0 zz0 db0) t1 zz1 zl1 db1) t2 zz2 zl2 db2) (w1 t3 zz3 da3) (w1 t3 zz3 db3)
   · rw [ha, hb]; simp only [sel0, sel1]; rw [cps210, cp210]; exact fin1 (N0 := 0) (N1 := 0) ia0 ib0 da0 db0 ia1 ib1 da1 db1 ia2 ib2 da2 db2 ia3 ib3 da3 db3 (w2 (w2 (w1 t0 zz0 da0) t1 zz1 zl1 da1) t2 zz2 zl2 da2) (w2 (w2 (w1 t0 zz0 db0) t1 zz1 zl1 db1) t2 zz2 zl2 db2) (w1 t3 zz3 da3) (w1 t3 zz3 db3)
   · rw [ha, hb]; simp only [sel0, sel1]; rw [cps211, cp211]; exact fin1 (N0 := 0) (N1 := 0) ia0 ib0 da0 db0 ia1 ib1 da1 db1 ia2 ib2 da2 db2 ia3 ib3 da3 db3 (w2 (w2 (w1 t0 zz0 da0) t1 zz1 zl1 da1) t2 zz2 zl2 da2) (w2 (w2 (w1 t0 zz0 db0) t1 zz1 zl1 db1) t2 zz2 zl2 db2) (w1 t3 zz3 da3) (w1 t3 zz3 db3)
 refine g_icN X at_656 (teq (show (fSign (fCpS2 j6 j9 x99 x98 x97 (-1 : Int64) x102 x101 x100 (81985529216486895 : Int64))) = (fLex yf yk yo yt x0_89 x1_90 x2_91 x3_92) from pf123)).2 (pc' := 659) rfl ?_
 refine g_iconst X (1 : Int32) at_659 (pc' := 660) rfl rfl ?_
 refine g_goto X at_660 (pc' := 664) (by decide) (by decide) ?_
 refine g_istore X at_664 (pc' := 666) (Ls' := #[.val (.int i0), .val (.int i1), .val (.int i2), .val (.int i3), .val (.long j4), .second, .val (.long j5), .second, .val (.ref qj), .val (.ref qk), .val (.ref qg), .val (.int (2 : Int32)), .val (.ref ju), .val (.int wx), .val (.ref q5), .val (.int j6), .val (.int j9), .val (.long (-1 : Int64)), .second, .val (.long (81985529216486895 : Int64)), .second, .val (.ref wg), .val (.ref wj), .val (.ref w8), .val (.ref yb), .val (.int (1 : Int32))]) rfl rfl ?_
 refine g_iload X at_666 (pc' := 668) rfl rfl ?_
 refine g_ireturnN X (t := .boolean) (by simp) at_668 hret hlk (by decide) (by decide) ?_
 exact ⟨rfl, N⟩
 intro kj
 refine g_iconst X (3 : Int32) at_316 (pc' := 317) rfl rfl ?_
 refine g_iload X at_317 (pc' := 319) rfl rfl ?_
 by_cases qca : (3 : Int32) < wx
 refine g_icN X at_319 (tlt qca).2.1 (pc' := 322) rfl ?_
 refine g_aload X at_322 (pc' := 324) rfl rfl rfl ?_
 refine g_iconst X (3 : Int32) at_324 (pc' := 325) rfl rfl ?_
 refine g_iaload X qq 3 at_325 (pc' := 326) rfl (by decide) (by decide) rfl ?_
 refine g_goto X at_326 (pc' := 346) (by decide) (by decide) ?_
 exact kj T X yt ia3
 refine g_icY X at_319 (flt qca).2.1 (pc' := 329) (by decide) (by decide) ?_
 refine g_lload X at_329 (pc' := 331) rfl rfl ?_
 refine g_ldc2 X (tb hw 58 rfl) at_331 (pc' := 334) rfl ?_
 refine g_lmul X at_334 (pc' := 335) rfl ?_
 refine g_aload X at_335 (pc' := 337) rfl rfl rfl ?_
 refine g_iconst X (3 : Int32) at_337 (pc' := 338) rfl rfl ?_
 refine g_iaload X qh 3 at_338 (pc' := 339) rfl (by decide) (by decide) rfl ?_
 refine g_aload X at_339 (pc' := 341) rfl rfl rfl ?_
 refine g_iconst X (3 : Int32) at_341 (pc' := 342) rfl rfl ?_
 refine g_iaload X qi 3 at_342 (pc' := 343) rfl (by decide) (by decide) rfl ?_
 refine g_static X (W := 2) [(.long (j5 * (1609587929392839161 : Int64))), (.int qo), (.int jz)] [(.int (3 : Int32)), (.ref q5)] (tb hw 51 rfl) (tb hw 52 rfl) (tb hw 53 rfl) (tb hw 54 rfl) (rPick l Z aa hw [] (j5 * (1609587929392839161 : Int64)) qo jz _ (one_more le3).2) at_343 (pc' := 346) rfl (by decide) (by decide) (by decide) rfl rfl rfl (lenOf pd_6 rfl) (Nat.le_refl _) (by decide) (by decide) ?_
 intro v T L X q
 obtain ⟨rfl, X⟩ := pureX X q
 show Go p e below _ (T.setTop (mkF m 346 _ [(.int (fPick (j5 * (1609587929392839161 : Int64)) qo jz)), (.int (3 : Int32)), (.ref q5)]))
 exact kj T X (fPick (j5 * (1609587929392839161 : Int64)) qo jz) (pick_in le3)
 intro kj
 refine g_iconst X (2 : Int32) at_282 (pc' := 283) rfl rfl ?_
 refine g_iload X at_283 (pc' := 285) rfl rfl ?_
 by_cases qcb : (2 : Int32) < wx
 refine g_icN X at_285 (tlt qcb).2.1 (pc' := 288) rfl ?_
 refine g_aload X at_288 (pc' := 290) rfl rfl rfl ?_
 refine g_iconst X (2 : Int32) at_290 (pc' := 291) rfl rfl ?_
 refine g_iaload X qq 2 at_291 (pc' := 292) rfl (by decide) (by decide) rfl ?_
 refine g_goto X at_292 (pc' := 312) (by decide) (by decide) ?_
 exact kj T X yo ia2
 refine g_icY X at_285 (flt qcb).2.1 (pc' := 295) (by decide) (by decide) ?_
 refine g_lload X at_295 (pc' := 297) rfl rfl ?_
 refine g_ldc2 X (tb hw 57 rfl) at_297 (pc' := 300) rfl ?_
 refine g_lmul X at_300 (pc' := 301) rfl ?_
 refine g_aload X at_301 (pc' := 303) rfl rfl rfl ?_
 refine g_iconst X (2 : Int32) at_303 (pc' := 304) rfl rfl ?_
 refine g_iaload X qh 2 at_304 (pc' := 305) rfl (by decide) (by decide) rfl ?_
 refine g_aload X at_305 (pc' := 307) rfl rfl rfl ?_
 refine g_iconst X (2 : Int32) at_307 (pc' := 308) rfl rfl ?_
 refine g_iaload X qi 2 at_308 (pc' := 309) rfl (by decide) (by decide) rfl ?_
 refine g_static X (W := 2) [(.long (j5 * (-4417276706812531889 : Int64))), (.int qn), (.int jw)] [(.int (2 : Int32)), (.ref q5)] (tb hw 51 rfl) (tb hw 52 rfl) (tb hw 53 rfl) (tb hw 54 rfl) (rPick l Z aa hw [] (j5 * (-4417276706812531889 : Int64)) qn jw _ (one_more le2).2) at_309 (pc' := 312) rfl (by decide) (by decide) (by decide) rfl rfl rfl (lenOf pd_6 rfl) (Nat.le_refl _) (by decide) (by decide) ?_
 intro v T L X q
 obtain ⟨rfl, X⟩ := pureX X q
 show Go p e below _ (T.setTop (mkF m 312 _ [(.int (fPick (j5 * (-4417276706812531889 : Int64)) qn jw)), (.int (2 : Int32)), (.ref q5)]))
 exact kj T X (fPick (j5 * (-4417276706812531889 : Int64)) qn jw) (pick_in le2)
 intro kj
 refine g_iconst X (1 : Int32) at_248 (pc' := 249) rfl rfl ?_
 refine g_iload X at_249 (pc' := 251) rfl rfl ?_
 by_cases qcc : (1 : Int32) < wx
 refine g_icN X at_251 (tlt qcc).2.1 (pc' := 254) rfl ?_
 refine g_aload X at_254 (pc' := 256) rfl rfl rfl ?_
 refine g_iconst X (1 : Int32) at_256 (pc' := 257) rfl rfl ?_
 refine g_iaload X qq 1 at_257 (pc' := 258) rfl (by decide) (by decide) rfl ?_
 refine g_goto X at_258 (pc' := 278) (by decide) (by decide) ?_
 exact kj T X yk ia1
 refine g_icY X at_251 (flt qcc).2.1 (pc' := 261) (by decide) (by decide) ?_
 refine g_lload X at_261 (pc' := 263) rfl rfl ?_
 refine g_ldc2 X (tb hw 56 rfl) at_263 (pc' := 266) rfl ?_
 refine g_lmul X at_266 (pc' := 267) rfl ?_
 refine g_aload X at_267 (pc' := 269) rfl rfl rfl ?_
 refine g_iconst X (1 : Int32) at_269 (pc' := 270) rfl rfl ?_
 refine g_iaload X qh 1 at_270 (pc' := 271) rfl (by decide) (by decide) rfl ?_
 refine g_aload X at_271 (pc' := 273) rfl rfl rfl ?_
 refine g_iconst X (1 : Int32) at_273 (pc' := 274) rfl rfl ?_
 refine g_iaload X qi 1 at_274 (pc' := 275) rfl (by decide) (by decide) rfl ?_
 refine g_static X (W := 2) [(.long (j5 * (-7046029254386353131 : Int64))), (.int qm), (.int jp)] [(.int (1 : Int32)), (.ref q5)] (tb hw 51 rfl) (tb hw 52 rfl) (tb hw 53 rfl) (tb hw 54 rfl) (rPick l Z aa hw [] (j5 * (-7046029254386353131 : Int64)) qm jp _ (one_more le1).2) at_275 (pc' := 278) rfl (by decide) (by decide) (by decide) rfl rfl rfl (lenOf pd_6 rfl) (Nat.le_refl _) (by decide) (by decide) ?_
 intro v T L X q
 obtain ⟨rfl, X⟩ := pureX X q
 show Go p e below _ (T.setTop (mkF m 278 _ [(.int (fPick (j5 * (-7046029254386353131 : Int64)) qm jp)), (.int (1 : Int32)), (.ref q5)]))
 exact kj T X (fPick (j5 * (-7046029254386353131 : Int64)) qm jp) (pick_in le1)
 intro kj
 refine g_iconst X (0 : Int32) at_214 (pc' := 215) rfl rfl ?_
 refine g_iload X at_215 (pc' := 217) rfl rfl ?_
 by_cases qcd : (0 : Int32) < wx
 refine g_icN X at_217 (tlt qcd).2.1 (pc' := 220) rfl ?_
 refine g_aload X at_220 (pc' := 222) rfl rfl rfl ?_
 refine g_iconst X (0 : Int32) at_222 (pc' := 223) rfl rfl ?_
 refine g_iaload X qq 0 at_223 (pc' := 224) rfl (by decide) (by decide) rfl ?_
 refine g_goto X at_224 (pc' := 244) (by decide) (by decide) ?_
 exact kj T X yf ia0
 refine g_icY X at_217 (flt qcd).2.1 (pc' := 227) (by decide) (by decide) ?_
 refine g_lload X at_227 (pc' := 229) rfl rfl ?_
 refine g_ldc2 X (tb hw 95 rfl) at_229 (pc' := 232) rfl ?_
 refine g_lmul X at_232 (pc' := 233) rfl ?_
 refine g_aload X at_233 (pc' := 235) rfl rfl rfl ?_
 refine g_iconst X (0 : Int32) at_235 (pc' := 236) rfl rfl ?_
 refine g_iaload X qh 0 at_236 (pc' := 237) rfl (by decide) (by decide) rfl ?_
 refine g_aload X at_237 (pc' := 239) rfl rfl rfl ?_
 refine g_iconst X (0 : Int32) at_239 (pc' := 240) rfl rfl ?_
 refine g_iaload X qi 0 at_240 (pc' := 241) rfl (by decide) (by decide) rfl ?_
 refine g_static X (W := 2) [(.long (j5 * (-2960836687051489901 : Int64))), (.int ql), (.int jc)] [(.int (0 : Int32)), (.ref q5)] (tb hw 51 rfl) (tb hw 52 rfl) (tb hw 53 rfl) (tb hw 54 rfl) (rPick l Z aa hw [] (j5 * (-2960836687051489901 : Int64)) ql jc _ (one_more le0).2) at_241 (pc' := 244) rfl (by decide) (by decide) (by decide) rfl rfl rfl (lenOf pd_6 rfl) (Nat.le_refl _) (by decide) (by decide) ?_
 intro v T L X q
 obtain ⟨rfl, X⟩ := pureX X q
 show Go p e below _ (T.setTop (mkF m 244 _ [(.int (fPick (j5 * (-2960836687051489901 : Int64)) ql jc)), (.int (0 : Int32)), (.ref q5)]))
 exact kj T X (fPick (j5 * (-2960836687051489901 : Int64)) ql jc) (pick_in le0)
 have m3 := le_of_not t2 b3 h3
 have t3 := sub32 t2 b3 m3 (by omega)
 have zz0 : 64 - B0 + B0 = 64 := by omega
 have zl0 : 64 ≤ 64 := by omega
 have zb0 : 64 - B0 + B0 ≤ 64 := by omega
 have zz1 : 64 - B0 - B1 + B1 = 64 - B0 := by omega
 have zl1 : 64 - B0 ≤ 64 := by omega
 have zb1 : 64 - B0 - B1 + B1 ≤ 64 := by omega
 have zz2 : 64 - B0 - B1 - B2 + B2 = 64 - B0 - B1 := by omega
 have zl2 : 64 - B0 - B1 ≤ 64 := by omega
 have zb2 : 64 - B0 - B1 - B2 + B2 ≤ 64 := by omega
 have zz3 : 64 - B0 - B1 - B2 - B3 + B3 = 64 - B0 - B1 - B2 := by omega
 have zl3 : 64 - B0 - B1 - B2 ≤ 64 := by omega
 have zb3 : 64 - B0 - B1 - B2 - B3 + B3 ≤ 64 := by omega
 refine g_special X (W := 1) (a := qg) [(.ref qj), (.ref qk)] [(.ref qg)] rfl (tb hw 11 rfl) (tb hw 12 rfl) (tb hw 10 rfl) (tb hw 13 rfl) (rInit0 l Z aa hw [] qg qj qk ql qm qn qo jc jp jw jz _ n0 Z0 qa qb qc qd qe qf qs qh qi qbk zs zt (not_of_le n64 b0 (by omega)) (not_of_le t0 b1 (by omega)) h2 h3) at_82 (pc' := 85) rfl (by decide) (by decide) (by decide) rfl rfl rfl (lenOf pd_4 rfl) (Nat.le_refl _) (by decide) (by decide) ?_
 intro v T L X q
 obtain ⟨y9, za, zb, zp, rfl, Nq, Kq, qfu, qfv, qfw, qfx, qfy, qfz, qf0, qf1, qf2, qf3, qf4, qf5, qf6, qf7, um, un, uo, up, uq, ur, jl, q7, jm, q8, jn, qv, jo, qy⟩ := q
 replace N := N.app Nq
 replace qs := qs.keep Kq
 replace qh := qh.keep Kq (ninS zs nin0)
 replace jb := jb.keep Kq
 replace qi := qi.keep Kq (ninS zt nin0)
 replace Z0 := Nat.le_trans Z0 Kq.1
 replace qa := um
 replace qb := un
 replace qc := uo
 replace qd := up
 replace qe := uq
 replace qf := ur
 generalize ex132 : (((((64 : Int32) - ((64 : Int32) - (fNL ((jc.toInt64) - (ql.toInt64))))) - ((64 : Int32) - (fNL ((jp.toInt64) - (qm.toInt64))))) - ((64 : Int32) - (fNL ((jw.toInt64) - (qn.toInt64))))) - ((64 : Int32) - (fNL ((jz.toInt64) - (qo.toInt64))))) = x132 at qv
 generalize ex133 : ((((64 : Int32) - ((64 : Int32) - (fNL ((jc.toInt64) - (ql.toInt64))))) - ((64 : Int32) - (fNL ((jp.toInt64) - (qm.toInt64))))) - ((64 : Int32) - (fNL ((jw.toInt64) - (qn.toInt64))))) = x133 at qv
 generalize ex134 : (((64 : Int32) - ((64 : Int32) - (fNL ((jc.toInt64) - (ql.toInt64))))) - ((64 : Int32) - (fNL ((jp.toInt64) - (qm.toInt64))))) = x134 at qv
 generalize ex135 : ((64 : Int32) - ((64 : Int32) - (fNL ((jc.toInt64) - (ql.toInt64))))) = x135 at qv
 generalize ex136 : (((1 : Int64) <<< (((64 : Int32) - (fNL ((jz.toInt64) - (qo.toInt64)))) &&& 0x3f).toInt64) - (1 : Int64)) = x136 at qy
 generalize ex137 : (((1 : Int64) <<< (((64 : Int32) - (fNL ((jw.toInt64) - (qn.toInt64)))) &&& 0x3f).toInt64) - (1 : Int64)) = x137 at qy
 generalize ex138 : (((1 : Int64) <<< (((64 : Int32) - (fNL ((jp.toInt64) - (qm.toInt64)))) &&& 0x3f).toInt64) - (1 : Int64)) = x138 at qy
 generalize ex139 : (((1 : Int64) <<< (((64 : Int32) - (fNL ((jc.toInt64) - (ql.toInt64)))) &&& 0x3f).toInt64) - (1 : Int64)) = x139 at qy
 show Go p e below _ (T.setTop (mkF m 85 _ [(.ref qg)]))
 refine g_astore X at_85 (pc' := 87) (Ls' := #[.val (.int i0), .val (.int i1), .val (.int i2), .val (.int i3), .val (.long j4), .second, .val (.long j5), .second, .val (.ref qj), .val (.ref qk), .val (.ref qg), .unset, .unset, .unset, .unset, .unset, .unset, .unset, .unset, .unset, .unset, .unset, .unset, .unset, .unset, .unset]) rfl rfl rfl ?_
 refine g_aload X at_87 (pc' := 89) rfl rfl rfl ?_
 refine g_virtual X (W := 0) (a := qg) (C := "com/example/ryazan/ryazan/language/Layout") [] [] qa (tb hw 46 rfl) (tb hw 47 rfl) (tb hw 49 rfl) (tb hw 48 rfl) (tb hw 10 rfl) (tb hw 50 rfl) (rWidth1 l Z aa hw [] qg _ qa qf) at_89 (pc' := 92) rfl (by decide) (by decide) (by decide) rfl rfl rfl (lenOf pd_5 rfl) (Nat.le_refl _) (by decide) (by decide) ?_
 intro v T L X q
 obtain ⟨rfl, X⟩ := pureX X q
 show Go p e below _ (T.setTop (mkF m 92 _ [(.int (1 : Int32))]))
 refine g_istore X at_92 (pc' := 94) (Ls' := #[.val (.int i0), .val (.int i1), .val (.int i2), .val (.int i3), .val (.long j4), .second, .val (.long j5), .second, .val (.ref qj), .val (.ref qk), .val (.ref qg), .val (.int (1 : Int32)), .unset, .unset, .unset, .unset, .unset, .unset, .unset, .unset, .unset, .unset, .unset, .unset, .unset, .unset]) rfl rfl ?_
 refine g_iload X at_94 (pc' := 96) rfl rfl ?_
 refine g_iconst X (1 : Int32) at_96 (pc' := 97) rfl rfl ?_
 refine g_icN X at_97 (flt (show ¬ ((1 : Int32) < (1 : Int32)) from (by decide))).1 (pc' := 100) rfl ?_
 refine g_iload X at_100 (pc' := 102) rfl rfl ?_
 refine g_iconst X (2 : Int32) at_102 (pc' := 103) rfl rfl ?_
 refine g_icY X at_103 (flt (show ¬ ((2 : Int32) < (1 : Int32)) from (by decide))).2.2.2 (pc' := 108) (by decide) (by decide) ?_
 refine g_iconst X (4 : Int32) at_108 (pc' := 109) rfl rfl ?_
 refine g_newarray X 4 (tb hw 0 rfl) at_109 (pc' := 111) rfl (by decide) (by decide) 4 (by decide) (by decide) (by decide) (by decide) (vs := [(.int (0 : Int32)), (.int (0 : Int32)), (.int (0 : Int32)), (.int (0 : Int32))]) rfl (ad := "[I") (by decide) ?_
 intro T h jv zq X Ex js qr
 have qa6 : qj ≠ jv := Nat.ne_of_lt (by rw [zq]; exact qs.lt)
 have qa7 : qk ≠ jv := Nat.ne_of_lt (by rw [zq]; exact jb.lt)
 have w5 : qg ≠ jv := Nat.ne_of_lt (by rw [zq]; exact qa.lt)
 have qa8 : y9 ≠ jv := Nat.ne_of_lt (by rw [zq]; exact jl.lt)
 have qa9 : za ≠ jv := Nat.ne_of_lt (by rw [zq]; exact jm.lt)
 have qba : zb ≠ jv := Nat.ne_of_lt (by rw [zq]; exact jn.lt)
 have qbb : zp ≠ jv := Nat.ne_of_lt (by rw [zq]; exact jo.lt)
 have qbc : n0 ≤ jv := by rw [zq]; exact Z0
 replace qs := qs.ext Ex
 replace qh := qh.ext Ex
 replace jb := jb.ext Ex
 replace qi := qi.ext Ex
 replace qa := qa.ext Ex
 replace qb := qb.ext Ex
 replace qc := qc.ext Ex
 replace qd := qd.ext Ex
 replace qe := qe.ext Ex
 replace qf := qf.ext Ex
 replace jl := jl.ext Ex
 replace q7 := q7.ext Ex
 replace jm := jm.ext Ex
 replace q8 := q8.ext Ex
 replace jn := jn.ext Ex
 replace qv := qv.ext Ex
 replace jo := jo.ext Ex
 replace qy := qy.ext Ex
 replace Z0 := Nat.le_trans Z0 Ex.1
 refine g_astore X at_111 (pc' := 113) (Ls' := #[.val (.int i0), .val (.int i1), .val (.int i2), .val (.int i3), .val (.long j4), .second, .val (.long j5), .second, .val (.ref qj), .val (.ref qk), .val (.ref qg), .val (.int (1 : Int32)), .val (.ref jv), .unset, .unset, .unset, .unset, .unset, .unset, .unset, .unset, .unset, .unset, .unset, .unset, .unset]) rfl rfl rfl ?_
 refine g_aload X at_113 (pc' := 115) rfl rfl rfl ?_
 refine g_iconst X (0 : Int32) at_115 (pc' := 116) rfl rfl ?_
 refine g_lload X at_116 (pc' := 118) rfl rfl ?_
 refine g_aload X at_118 (pc' := 120) rfl rfl rfl ?_
 refine g_iconst X (0 : Int32) at_120 (pc' := 121) rfl rfl ?_
 refine g_iaload X qh 0 at_121 (pc' := 122) rfl (by decide) (by decide) rfl ?_
 refine g_aload X at_122 (pc' := 124) rfl rfl rfl ?_
 refine g_iconst X (0 : Int32) at_124 (pc' := 125) rfl rfl ?_
 refine g_iaload X qi 0 at_125 (pc' := 126) rfl (by decide) (by decide) rfl ?_
 refine g_static X (W := 2) [(.long j4), (.int ql), (.int jc)] [(.int (0 : Int32)), (.ref jv)] (tb hw 51 rfl) (tb hw 52 rfl) (tb hw 53 rfl) (tb hw 54 rfl) (rPick l Z aa hw [] j4 ql jc _ (one_more le0).2) at_126 (pc' := 129) rfl (by decide) (by decide) (by decide) rfl rfl rfl (lenOf pd_6 rfl) (Nat.le_refl _) (by decide) (by decide) ?_
 intro v T L X q
 obtain ⟨rfl, X⟩ := pureX X q
 show Go p e below _ (T.setTop (mkF m 129 _ [(.int (fPick j4 ql jc)), (.int (0 : Int32)), (.ref jv)]))
 generalize qea : (fPick j4 ql jc) = yh
 refine g_iastore X qr 0 at_129 (pc' := 130) rfl (by decide) (by decide) (Nat.le_of_ble_eq_true rfl) ?_
 intro T h X W qr
 replace qr : Av Z h jv .int [(.int yh), (.int (0 : Int32)), (.int (0 : Int32)), (.int (0 : Int32))] := qr
 replace qs := qs.wr W
 replace qh := qh.other W qa6
 replace jb := jb.wr W
 replace qi := qi.other W qa7
 replace qa := qa.wr W
 replace qb := qb.other W (Or.inl w5)
 replace qc := qc.other W (Or.inl w5)
 replace qd := qd.other W (Or.inl w5)
 replace qe := qe.other W (Or.inl w5)
 replace qf := qf.other W (Or.inl w5)
 replace jl := jl.wr W
 replace q7 := q7.other W qa8
 replace jm := jm.wr W
 replace q8 := q8.other W qa9
 replace jn := jn.wr W
 replace qv := qv.other W qba
 replace jo := jo.wr W
 replace qy := qy.other W qbb
 replace js := js.wr W
 replace Z0 := Nat.le_trans Z0 (Nat.le_of_eq W.size.symm)
 replace N := Fr.snoc X.1 N qbc
 refine g_aload X at_130 (pc' := 132) rfl rfl rfl ?_
 refine g_iconst X (1 : Int32) at_132 (pc' := 133) rfl rfl ?_
 refine g_lload X at_133 (pc' := 135) rfl rfl ?_
 refine g_ldc2 X (tb hw 56 rfl) at_135 (pc' := 138) rfl ?_
 refine g_lmul X at_138 (pc' := 139) rfl ?_
 refine g_aload X at_139 (pc' := 141) rfl rfl rfl ?_
 refine g_iconst X (1 : Int32) at_141 (pc' := 142) rfl rfl ?_
 refine g_iaload X qh 1 at_142 (pc' := 143) rfl (by decide) (by decide) rfl ?_
 refine g_aload X at_143 (pc' := 145) rfl rfl rfl ?_
 refine g_iconst X (1 : Int32) at_145 (pc' := 146) rfl rfl ?_
 refine g_iaload X qi 1 at_146 (pc' := 147) rfl (by decide) (by decide) rfl ?_
 refine g_static X (W := 2) [(.long (j4 * (-7046029254386353131 : Int64))), (.int qm), (.int jp)] [(.int (1 : Int32)), (.ref jv)] (tb hw 51 rfl) (tb hw 52 rfl) (tb hw 53 rfl) (tb hw 54 rfl) (rPick l Z aa hw [] (j4 * (-7046029254386353131 : Int64)) qm jp _ (one_more le1).2) at_147 (pc' := 150) rfl (by decide) (by decide) (by decide) rfl rfl rfl (lenOf pd_6 rfl) (Nat.le_refl _) (by decide) (by decide) ?_
 intro v T L X q
 obtain ⟨rfl, X⟩ := pureX X q
 show Go p e below _ (T.setTop (mkF m 150 _ [(.int (fPick (j4 * (-7046029254386353131 : Int64)) qm jp)), (.int (1 : Int32)), (.ref jv)]))
 generalize qeb : (fPick (j4 * (-7046029254386353131 : Int64)) qm jp) = yl
 refine g_iastore X qr 1 at_150 (pc' := 151) rfl (by decide) (by decide) (Nat.le_of_ble_eq_true rfl) ?_
 intro T h X W qr
 replace qr : Av Z h jv .int [(.int yh), (.int yl), (.int (0 : Int32)), (.int (0 : Int32))] := qr
 replace qs := qs.wr W
 replace qh := qh.other W qa6
 replace jb := jb.wr W
 replace qi := qi.other W qa7
 replace qa := qa.wr W
 replace qb := qb.other W (Or.inl w5)
 replace qc := qc.other W (Or.inl w5)
 replace qd := qd.other W (Or.inl w5)
 replace qe := qe.other W (Or.inl w5)
 replace qf := qf.other W (Or.inl w5)
 replace jl := jl.wr W
 replace q7 := q7.other W qa8
 replace jm := jm.wr W
 replace q8 := q8.other W qa9
 replace jn := jn.wr W
 replace qv := qv.other W qba
 replace jo := jo.wr W
 replace qy := qy.other W qbb
 replace js := js.wr W
 replace Z0 := Nat.le_trans Z0 (Nat.le_of_eq W.size.symm)
 replace N := Fr.snoc X.1 N qbc
 refine g_aload X at_151 (pc' := 153) rfl rfl rfl ?_
 refine g_iconst X (2 : Int32) at_153 (pc' := 154) rfl rfl ?_
 refine g_lload X at_154 (pc' := 156) rfl rfl ?_
 refine g_ldc2 X (tb hw 57 rfl) at_156 (pc' := 159) rfl ?_
 refine g_lmul X at_159 (pc' := 160) rfl ?_
 refine g_aload X at_160 (pc' := 162) rfl rfl rfl ?_
 refine g_iconst X (2 : Int32) at_162 (pc' := 163) rfl rfl ?_
 refine g_iaload X qh 2 at_163 (pc' := 164) rfl (by decide) (by decide) rfl ?_
 refine g_aload X at_164 (pc' := 166) rfl rfl rfl ?_
 refine g_iconst X (2 : Int32) at_166 (pc' := 167) rfl rfl ?_
 refine g_iaload X qi 2 at_167 (pc' := 168) rfl (by decide) (by decide) rfl ?_
 refine g_static X (W := 2) [(.long (j4 * (-4417276706812531889 : Int64))), (.int qn), (.int jw)] [(.int (2 : Int32)), (.ref jv)] (tb hw 51 rfl) (tb hw 52 rfl) (tb hw 53 rfl) (tb hw 54 rfl) (rPick l Z aa hw [] (j4 * (-4417276706812531889 : Int64)) qn jw _ (one_more le2).2) at_168 (pc' := 171) rfl (by decide) (by decide) (by decide) rfl rfl rfl (lenOf pd_6 rfl) (Nat.le_refl _) (by decide) (by decide) ?_
 intro v T L X q
 obtain ⟨rfl, X⟩ := pureX X q
 show Go p e below _ (T.setTop (mkF m 171 _ [(.int (fPick (j4 * (-4417276706812531889 : Int64)) qn jw)), (.int (2 : Int32)), (.ref jv)]))
 generalize qec : (fPick (j4 * (-4417276706812531889 : Int64)) qn jw) = yq
 refine g_iastore X qr 2 at_171 (pc' := 172) rfl (by decide) (by decide) (Nat.le_of_ble_eq_true rfl) ?_
 intro T h X W qr
 replace qr : Av Z h jv .int [(.int yh), (.int yl), (.int yq), (.int (0 : Int32))] := qr
 replace qs := qs.wr W
 replace qh := qh.other W qa6
 replace jb := jb.wr W
 replace qi := qi.other W qa7
 replace qa := qa.wr W
 replace qb := qb.other W (Or.inl w5)
 replace qc := qc.other W (Or.inl w5)
 replace qd := qd.other W (Or.inl w5)
 replace qe := qe.other W (Or.inl w5)
 replace qf := qf.other W (Or.inl w5)
 replace jl := jl.wr W
 replace q7 := q7.other W qa8
 replace jm := jm.wr W
 replace q8 := q8.other W qa9
 replace jn := jn.wr W
 replace qv := qv.other W qba
 replace jo := jo.wr W
 replace qy := qy.other W qbb
 replace js := js.wr W
 replace Z0 := Nat.le_trans Z0 (Nat.le_of_eq W.size.symm)
 replace N := Fr.snoc X.1 N qbc
 refine g_aload X at_172 (pc' := 174) rfl rfl rfl ?_
 refine g_iconst X (3 : Int32) at_174 (pc' := 175) rfl rfl ?_
 refine g_lload X at_175 (pc' := 177) rfl rfl ?_
 refine g_ldc2 X (tb hw 58 rfl) at_177 (pc' := 180) rfl ?_
 refine g_lmul X at_180 (pc' := 181) rfl ?_
 refine g_aload X at_181 (pc' := 183) rfl rfl rfl ?_
 refine g_iconst X (3 : Int32) at_183 (pc' := 184) rfl rfl ?_
 refine g_iaload X qh 3 at_184 (pc' := 185) rfl (by decide) (by decide) rfl ?_
 refine g_aload X at_185 (pc' := 187) rfl rfl rfl ?_
 refine g_iconst X (3 : Int32) at_187 (pc' := 188) rfl rfl ?_
 refine g_iaload X qi 3 at_188 (pc' := 189) rfl (by decide) (by decide) rfl ?_
 refine g_static X (W := 2) [(.long (j4 * (1609587929392839161 : Int64))), (.int qo), (.int jz)] [(.int (3 : Int32)), (.ref jv)] (tb hw 51 rfl) (tb hw 52 rfl) (tb hw 53 rfl) (tb hw 54 rfl) (rPick l Z aa hw [] (j4 * (1609587929392839161 : Int64)) qo jz _ (one_more le3).2) at_189 (pc' := 192) rfl (by decide) (by decide) (by decide) rfl rfl rfl (lenOf pd_6 rfl) (Nat.le_refl _) (by decide) (by decide) ?_
 intro v T L X q
 obtain ⟨rfl, X⟩ := pureX X q
 show Go p e below _ (T.setTop (mkF m 192 _ [(.int (fPick (j4 * (1609587929392839161 : Int64)) qo jz)), (.int (3 : Int32)), (.ref jv)]))
 generalize qed : (fPick (j4 * (1609587929392839161 : Int64)) qo jz) = yu
 refine g_iastore X qr 3 at_192 (pc' := 193) rfl (by decide) (by decide) (Nat.le_of_ble_eq_true rfl) ?_
 intro T h X W qr
 replace qr : Av Z h jv .int [(.int yh), (.int yl), (.int yq), (.int yu)] := qr
 replace qs := qs.wr W
 replace qh := qh.other W qa6
 replace jb := jb.wr W
 replace qi := qi.other W qa7
 replace qa := qa.wr W
 replace qb := qb.other W (Or.inl w5)
 replace qc := qc.other W (Or.inl w5)
 replace qd := qd.other W (Or.inl w5)
 replace qe := qe.other W (Or.inl w5)
 replace qf := qf.other W (Or.inl w5)
 replace jl := jl.wr W
 replace q7 := q7.other W qa8
 replace jm := jm.wr W
 replace q8 := q8.other W qa9
 replace jn := jn.wr W
 replace qv := qv.other W qba
 replace jo := jo.wr W
 replace qy := qy.other W qbb
 replace js := js.wr W
 replace Z0 := Nat.le_trans Z0 (Nat.le_of_eq W.size.symm)
 replace N := Fr.snoc X.1 N qbc
 have ia0 : ql.toInt ≤ yh.toInt ∧ yh.toInt ≤ jc.toInt := by rw [← qea]; exact pick_in le0
 have da0 := d_nat ia0.1 ia0.2 s0
 have ia1 : qm.toInt ≤ yl.toInt ∧ yl.toInt ≤ jp.toInt := by rw [← qeb]; exact pick_in le1
 have da1 := d_nat ia1.1 ia1.2 s1
 have ia2 : qn.toInt ≤ yq.toInt ∧ yq.toInt ≤ jw.toInt := by rw [← qec]; exact pick_in le2
 have da2 := d_nat ia2.1 ia2.2 s2
 have ia3 : qo.toInt ≤ yu.toInt ∧ yu.toInt ≤ jz.toInt := by rw [← qed]; exact pick_in le3
 have da3 := d_nat ia3.1 ia3.2 s3
 refine g_lload X at_193 (pc' := 195) rfl rfl ?_
 refine g_ldc2 X (tb hw 59 rfl) at_195 (pc' := 198) rfl ?_
 refine g_land X at_198 (pc' := 199) rfl ?_
 refine g_ldc2 X (tb hw 60 rfl) at_199 (pc' := 202) rfl ?_
 refine g_lrem X at_202 (pc' := 203) rfl (by decide) ?_
 refine g_l2i X at_203 (pc' := 204) rfl ?_
 generalize qf8 : (((j5 &&& (255 : Int64)) % (5 : Int64)).toInt32) = wy
 refine g_istore X at_204 (pc' := 206) (Ls' := #[.val (.int i0), .val (.int i1), .val (.int i2), .val (.int i3), .val (.long j4), .second, .val (.long j5), .second, .val (.ref qj), .val (.ref qk), .val (.ref qg), .val (.int (1 : Int32)), .val (.ref jv), .val (.int wy), .unset, .unset, .unset, .unset, .unset, .unset, .unset, .unset, .unset, .unset, .unset, .unset]) rfl rfl ?_
 refine g_iconst X (4 : Int32) at_206 (pc' := 207) rfl rfl ?_
 refine g_newarray X 4 (tb hw 0 rfl) at_207 (pc' := 209) rfl (by decide) (by decide) 4 (by decide) (by decide) (by decide) (by decide) (vs := [(.int (0 : Int32)), (.int (0 : Int32)), (.int (0 : Int32)), (.int (0 : Int32))]) rfl (ad := "[I") (by decide) ?_
 intro T h q9 zh X Ex j7 ja
 have qbp : qj ≠ q9 := Nat.ne_of_lt (by rw [zh]; exact qs.lt)
 have qbq : qk ≠ q9 := Nat.ne_of_lt (by rw [zh]; exact jb.lt)
 have w6 : qg ≠ q9 := Nat.ne_of_lt (by rw [zh]; exact qa.lt)
 have qbd : y9 ≠ q9 := Nat.ne_of_lt (by rw [zh]; exact jl.lt)
 have qbe : za ≠ q9 := Nat.ne_of_lt (by rw [zh]; exact jm.lt)
 have qbf : zb ≠ q9 := Nat.ne_of_lt (by rw [zh]; exact jn.lt)
 have qbg : zp ≠ q9 := Nat.ne_of_lt (by rw [zh]; exact jo.lt)
 have qbh : jv ≠ q9 := Nat.ne_of_lt (by rw [zh]; exact js.lt)
 have qbi : n0 ≤ q9 := by rw [zh]; exact Z0
 replace qh := qh.ext Ex
 replace qi := qi.ext Ex
 replace qa := qa.ext Ex
 replace qb := qb.ext Ex
 replace qc := qc.ext Ex
 replace qd := qd.ext Ex
 replace qe := qe.ext Ex
 replace qf := qf.ext Ex
 replace jl := jl.ext Ex
 replace q7 := q7.ext Ex
 replace jm := jm.ext Ex
 replace q8 := q8.ext Ex
 replace jn := jn.ext Ex
 replace qv := qv.ext Ex
 replace jo := jo.ext Ex
 replace qy := qy.ext Ex
 replace js := js.ext Ex
 replace qr := qr.ext Ex
 replace Z0 := Nat.le_trans Z0 Ex.1
 refine g_astore X at_209 (pc' := 211) (Ls' := #[.val (.int i0), .val (.int i1), .val (.int i2), .val (.int i3), .val (.long j4), .second, .val (.long j5), .second, .val (.ref qj), .val (.ref qk), .val (.ref qg), .val (.int (1 : Int32)), .val (.ref jv), .val (.int wy), .val (.ref q9), .unset, .unset, .unset, .unset, .unset, .unset, .unset, .unset, .unset, .unset, .unset]) rfl rfl rfl ?_
 refine g_aload X at_211 (pc' := 213) rfl rfl rfl ?_
 refine g_iconst X (0 : Int32) at_213 (pc' := 214) rfl rfl ?_
 refine joinA X (α := Int32) (fun x0_147 => (mkF m 244 #[.val (.int i0), .val (.int i1), .val (.int i2), .val (.int i3), .val (.long j4), .second, .val (.long j5), .second, .val (.ref qj), .val (.ref qk), .val (.ref qg), .val (.int (1 : Int32)), .val (.ref jv), .val (.int wy), .val (.ref q9), .unset, .unset, .unset, .unset, .unset, .unset, .unset, .unset, .unset, .unset, .unset] [(.int x0_147), (.int (0 : Int32)), (.ref q9)])) (fun x0_147 => ql.toInt ≤ x0_147.toInt ∧ x0_147.toInt ≤ jc.toInt) ?_ ?_
 clear X
 intro T X x0_147 ib0
 have db0 := d_nat ib0.1 ib0.2 s0
 show Go p e below _ (T.setTop (mkF m 244 _ [(.int x0_147), (.int (0 : Int32)), (.ref q9)]))
 refine g_iastore X ja 0 at_244 (pc' := 245) rfl (by decide) (by decide) (Nat.le_of_ble_eq_true rfl) ?_
 intro T h X W ja
 replace ja : Av Z h q9 .int [(.int x0_147), (.int (0 : Int32)), (.int (0 : Int32)), (.int (0 : Int32))] := ja
 replace qh := qh.other W qbp
 replace qi := qi.other W qbq
 replace qa := qa.wr W
 replace qb := qb.other W (Or.inl w6)
 replace qc := qc.other W (Or.inl w6)
 replace qd := qd.other W (Or.inl w6)
 replace qe := qe.other W (Or.inl w6)
 replace qf := qf.other W (Or.inl w6)
 replace jl := jl.wr W
 replace q7 := q7.other W qbd
 replace jm := jm.wr W
 replace q8 := q8.other W qbe
 replace jn := jn.wr W
 replace qv := qv.other W qbf
 replace jo := jo.wr W
 replace qy := qy.other W qbg
 replace js := js.wr W
 replace qr := qr.other W qbh
 replace j7 := j7.wr W
 replace Z0 := Nat.le_trans Z0 (Nat.le_of_eq W.size.symm)
 replace N := Fr.snoc X.1 N qbi
 refine g_aload X at_245 (pc' := 247) rfl rfl rfl ?_
 refine g_iconst X (1 : Int32) at_247 (pc' := 248) rfl rfl ?_
 refine joinA X (α := Int32) (fun x1_148 => (mkF m 278 #[.val (.int i0), .val (.int i1), .val (.int i2), .val (.int i3), .val (.long j4), .second, .val (.long j5), .second, .val (.ref qj), .val (.ref qk), .val (.ref qg), .val (.int (1 : Int32)), .val (.ref jv), .val (.int wy), .val (.ref q9), .unset, .unset, .unset, .unset, .unset, .unset, .unset, .unset, .unset, .unset, .unset] [(.int x1_148), (.int (1 : Int32)), (.ref q9)])) (fun x1_148 => qm.toInt ≤ x1_148.toInt ∧ x1_148.toInt ≤ jp.toInt) ?_ ?_
 clear X
 intro T X x1_148 ib1
 have db1 := d_nat ib1.1 ib1.2 s1
 show Go p e below _ (T.setTop (mkF m 278 _ [(.int x1_148), (.int (1 : Int32)), (.ref q9)]))
 refine g_iastore X ja 1 at_278 (pc' := 279) rfl (by decide) (by decide) (Nat.le_of_ble_eq_true rfl) ?_
 intro T h X W ja
 replace ja : Av Z h q9 .int [(.int x0_147), (.int x1_148), (.int (0 : Int32)), (.int (0 : Int32))] := ja
 replace qh := qh.other W qbp
 replace qi := qi.other W qbq
 replace qa := qa.wr W
 replace qb := qb.other W (Or.inl w6)
 replace qc := qc.other W (Or.inl w6)
 replace qd := qd.other W (Or.inl w6)
 replace qe := qe.other W (Or.inl w6)
 replace qf := qf.other W (Or.inl w6)
 replace jl := jl.wr W
 replace q7 := q7.other W qbd
 replace jm := jm.wr W
 replace q8 := q8.other W qbe
 replace jn := jn.wr W
 replace qv := qv.other W qbf
 replace jo := jo.wr W
 replace qy := qy.other W qbg
 replace js := js.wr W
 replace qr := qr.other W qbh
 replace j7 := j7.wr W
 replace Z0 := Nat.le_trans Z0 (Nat.le_of_eq W.size.symm)
 replace N := Fr.snoc X.1 N qbi
 refine g_aload X at_279 (pc' := 281) rfl rfl rfl ?_
 refine g_iconst X (2 : Int32) at_281 (pc' := 282) rfl rfl ?_
 refine joinA X (α := Int32) (fun x2_149 => (mkF m 312 #[.val (.int i0), .val (.int i1), .val (.int i2), .val (.int i3), .val (.long j4), .second, .val (.long j5), .second, .val (.ref qj), .val (.ref qk), .val (.ref qg), .val (.int (1 : Int32)), .val (.ref jv), .val (.int wy), .val (.ref q9), .unset, .unset, .unset, .unset, .unset, .unset, .unset, .unset, .unset, .unset, .unset] [(.int x2_149), (.int (2 : Int32)), (.ref q9)])) (fun x2_149 => qn.toInt ≤ x2_149.toInt ∧ x2_149.toInt ≤ jw.toInt) ?_ ?_
 clear X
 intro T X x2_149 ib2
 have db2 := d_nat ib2.1 ib2.2 s2
 show Go p e below _ (T.setTop (mkF m 312 _ [(.int x2_149), (.int (2 : Int32)), (.ref q9)]))
 refine g_iastore X ja 2 at_312 (pc' := 313) rfl (by decide) (by decide) (Nat.le_of_ble_eq_true rfl) ?_
 intro T h X W ja
 replace ja : Av Z h q9 .int [(.int x0_147), (.int x1_148), (.int x2_149), (.int (0 : Int32))] := ja
 replace qh := qh.other W qbp
 replace qi := qi.other W qbq
 replace qa := qa.wr W
 replace qb := qb.other W (Or.inl w6)
 replace qc := qc.other W (Or.inl w6)
 replace qd := qd.other W (Or.inl w6)
 replace qe := qe.other W (Or.inl w6)
 replace qf := qf.other W (Or.inl w6)
 replace jl := jl.wr W
 replace q7 := q7.other W qbd
 replace jm := jm.wr W
 replace q8 := q8.other W qbe
 replace jn := jn.wr W
 replace qv := qv.other W qbf
 replace jo := jo.wr W
 replace qy := qy.other W qbg
 replace js := js.wr W
 replace qr := qr.other W qbh
 replace j7 := j7.wr W
 replace Z0 := Nat.le_trans Z0 (Nat.le_of_eq W.size.symm)
 replace N := Fr.snoc X.1 N qbi
 refine g_aload X at_313 (pc' := 315) rfl rfl rfl ?_
 refine g_iconst X (3 : Int32) at_315 (pc' := 316) rfl rfl ?_
 refine joinA X (α := Int32) (fun x3_150 => (mkF m 346 #[.val (.int i0), .val (.int i1), .val (.int i2), .val (.int i3), .val (.long j4), .second, .val (.long j5), .second, .val (.ref qj), .val (.ref qk), .val (.ref qg), .val (.int (1 : Int32)), .val (.ref jv), .val (.int wy), .val (.ref q9), .unset, .unset, .unset, .unset, .unset, .unset, .unset, .unset, .unset, .unset, .unset] [(.int x3_150), (.int (3 : Int32)), (.ref q9)])) (fun x3_150 => qo.toInt ≤ x3_150.toInt ∧ x3_150.toInt ≤ jz.toInt) ?_ ?_
 clear X
 intro T X x3_150 ib3
 have db3 := d_nat ib3.1 ib3.2 s3
 show Go p e below _ (T.setTop (mkF m 346 _ [(.int x3_150), (.int (3 : Int32)), (.ref q9)]))
 refine g_iastore X ja 3 at_346 (pc' := 347) rfl (by decide) (by decide) (Nat.le_of_ble_eq_true rfl) ?_
 intro T h X W ja
 replace ja : Av Z h q9 .int [(.int x0_147), (.int x1_148), (.int x2_149), (.int x3_150)] := ja
 replace qa := qa.wr W
 replace qb := qb.other W (Or.inl w6)
 replace qc := qc.other W (Or.inl w6)
 replace qd := qd.other W (Or.inl w6)
 replace qe := qe.other W (Or.inl w6)
 replace qf := qf.other W (Or.inl w6)
 replace jl := jl.wr W
 replace q7 := q7.other W qbd
 replace jm := jm.wr W
 replace q8 := q8.other W qbe
 replace jn := jn.wr W
 replace qv := qv.other W qbf
 replace jo := jo.wr W
 replace qy := qy.other W qbg
 replace js := js.wr W
 replace qr := qr.other W qbh
 replace j7 := j7.wr W
 replace Z0 := Nat.le_trans Z0 (Nat.le_of_eq W.size.symm)
 replace N := Fr.snoc X.1 N qbi
 refine g_lload X at_347 (pc' := 349) rfl rfl ?_
 refine g_bipush X (63 : Int32) at_349 (pc' := 351) rfl rfl ?_
 refine g_lushr X at_351 (pc' := 352) rfl ?_
 refine g_lconst X (1 : Int64) at_352 (pc' := 353) rfl rfl ?_
 refine g_land X at_353 (pc' := 354) rfl ?_
 refine g_l2i X at_354 (pc' := 355) rfl ?_
 generalize qee : ((((j4.toUInt64 >>> ((63 : Int32) &&& 0x3f).toInt64.toUInt64).toInt64) &&& (1 : Int64)).toInt32) = wa
 refine g_istore X at_355 (pc' := 357) (Ls' := #[.val (.int i0), .val (.int i1), .val (.int i2), .val (.int i3), .val (.long j4), .second, .val (.long j5), .second, .val (.ref qj), .val (.ref qk), .val (.ref qg), .val (.int (1 : Int32)), .val (.ref jv), .val (.int wy), .val (.ref q9), .val (.int wa), .unset, .unset, .unset, .unset, .unset, .unset, .unset, .unset, .unset, .unset]) rfl rfl ?_
 refine g_lload X at_357 (pc' := 359) rfl rfl ?_
 refine g_bipush X (63 : Int32) at_359 (pc' := 361) rfl rfl ?_
 refine g_lushr X at_361 (pc' := 362) rfl ?_
 refine g_lconst X (1 : Int64) at_362 (pc' := 363) rfl rfl ?_
 refine g_land X at_363 (pc' := 364) rfl ?_
 refine g_l2i X at_364 (pc' := 365) rfl ?_
 generalize qef : ((((j5.toUInt64 >>> ((63 : Int32) &&& 0x3f).toInt64.toUInt64).toInt64) &&& (1 : Int64)).toInt32) = wb
 refine g_istore X at_365 (pc' := 367) (Ls' := #[.val (.int i0), .val (.int i1), .val (.int i2), .val (.int i3), .val (.long j4), .second, .val (.long j5), .second, .val (.ref qj), .val (.ref qk), .val (.ref qg), .val (.int (1 : Int32)), .val (.ref jv), .val (.int wy), .val (.ref q9), .val (.int wa), .val (.int wb), .unset, .unset, .unset, .unset, .unset, .unset, .unset, .unset, .unset]) rfl rfl ?_
 refine g_ldc2 X (tb hw 61 rfl) at_367 (pc' := 370) rfl ?_
 refine g_lstore X at_370 (pc' := 372) (Ls' := #[.val (.int i0), .val (.int i1), .val (.int i2), .val (.int i3), .val (.long j4), .second, .val (.long j5), .second, .val (.ref qj), .val (.ref qk), .val (.ref qg), .val (.int (1 : Int32)), .val (.ref jv), .val (.int wy), .val (.ref q9), .val (.int wa), .val (.int wb), .val (.long (-1 : Int64)), .second, .unset, .unset, .unset, .unset, .unset, .unset, .unset]) rfl rfl ?_
 refine g_ldc2 X (tb hw 62 rfl) at_372 (pc' := 375) rfl ?_
 refine g_lstore X at_375 (pc' := 377) (Ls' := #[.val (.int i0), .val (.int i1), .val (.int i2), .val (.int i3), .val (.long j4), .second, .val (.long j5), .second, .val (.ref qj), .val (.ref qk), .val (.ref qg), .val (.int (1 : Int32)), .val (.ref jv), .val (.int wy), .val (.ref q9), .val (.int wa), .val (.int wb), .val (.long (-1 : Int64)), .second, .val (.long (81985529216486895 : Int64)), .second, .unset, .unset, .unset, .unset, .unset]) rfl rfl ?_
 refine g_iconst X (4 : Int32) at_377 (pc' := 378) rfl rfl ?_
 refine g_newarray X 4 (tb hw 32 rfl) at_378 (pc' := 380) rfl (by decide) (by decide) 4 (by decide) (by decide) (by decide) (by decide) (vs := [(.long (0 : Int64)), (.long (0 : Int64)), (.long (0 : Int64)), (.long (0 : Int64))]) rfl (ad := "[J") (by decide) ?_
 intro T h wh zr X Ex wn j0
 have wq : qg ≠ wh := Nat.ne_of_lt (by rw [zr]; exact qa.lt)
 have uc : y9 ≠ wh := Nat.ne_of_lt (by rw [zr]; exact jl.lt)
 have ud : za ≠ wh := Nat.ne_of_lt (by rw [zr]; exact jm.lt)
 have ue : zb ≠ wh := Nat.ne_of_lt (by rw [zr]; exact jn.lt)
 have u6 : zp ≠ wh := Nat.ne_of_lt (by rw [zr]; exact jo.lt)
 have uf : jv ≠ wh := Nat.ne_of_lt (by rw [zr]; exact js.lt)
 have u7 : q9 ≠ wh := Nat.ne_of_lt (by rw [zr]; exact j7.lt)
 have u8 : n0 ≤ wh := by rw [zr]; exact Z0
 replace qa := qa.ext Ex
 replace qb := qb.ext Ex
 replace qc := qc.ext Ex
 replace qd := qd.ext Ex
 replace qe := qe.ext Ex
 replace qf := qf.ext Ex
 replace jl := jl.ext Ex
 replace q7 := q7.ext Ex
 replace jm := jm.ext Ex
 replace q8 := q8.ext Ex
 replace jn := jn.ext Ex
 replace qv := qv.ext Ex
 replace jo := jo.ext Ex
 replace qy := qy.ext Ex
 replace js := js.ext Ex
 replace qr := qr.ext Ex
 replace j7 := j7.ext Ex
 replace ja := ja.ext Ex
 replace Z0 := Nat.le_trans Z0 Ex.1
 refine g_dup X at_380 (pc' := 381) rfl rfl ?_
 refine g_iconst X (0 : Int32) at_381 (pc' := 382) rfl rfl ?_
 refine g_lload X at_382 (pc' := 384) rfl rfl ?_
 refine g_lastore X j0 0 at_384 (pc' := 385) rfl (by decide) (by decide) (Nat.le_of_ble_eq_true rfl) ?_
 intro T h X W j0
 replace j0 : Av Z h wh .long [(.long (-1 : Int64)), (.long (0 : Int64)), (.long (0 : Int64)), (.long (0 : Int64))] := j0
 replace qa := qa.wr W
 replace qb := qb.other W (Or.inl wq)
 replace qc := qc.other W (Or.inl wq)
 replace qd := qd.other W (Or.inl wq)
 replace qe := qe.other W (Or.inl wq)
 replace qf := qf.other W (Or.inl wq)
 replace jl := jl.wr W
 replace q7 := q7.other W uc
 replace jm := jm.wr W
 replace q8 := q8.other W ud
 replace jn := jn.wr W
 replace qv := qv.other W ue
 replace jo := jo.wr W
 replace qy := qy.other W u6
 replace js := js.wr W
 replace qr := qr.other W uf
 replace j7 := j7.wr W
 replace ja := ja.other W u7
 replace wn := wn.wr W
 replace Z0 := Nat.le_trans Z0 (Nat.le_of_eq W.size.symm)
 replace N := Fr.snoc X.1 N u8
 refine g_dup X at_385 (pc' := 386) rfl rfl ?_
 refine g_iconst X (1 : Int32) at_386 (pc' := 387) rfl rfl ?_
 refine g_lload X at_387 (pc' := 389) rfl rfl ?_
 refine g_lastore X j0 1 at_389 (pc' := 390) rfl (by decide) (by decide) (Nat.le_of_ble_eq_true rfl) ?_
 intro T h X W j0
 replace j0 : Av Z h wh .long [(.long (-1 : Int64)), (.long (-1 : Int64)), (.long (0 : Int64)), (.long (0 : Int64))] := j0
 replace qa := qa.wr W
 replace qb := qb.other W (Or.inl wq)
 replace qc := qc.other W (Or.inl wq)
 replace qd := qd.other W (Or.inl wq)
 replace qe := qe.other W (Or.inl wq)
 replace qf := qf.other W (Or.inl wq)
 replace jl := jl.wr W
 replace q7 := q7.other W uc
 replace jm := jm.wr W
 replace q8 := q8.other W ud
 replace jn := jn.wr W
 replace qv := qv.other W ue
 replace jo := jo.wr W
 replace qy := qy.other W u6
 replace js := js.wr W
 replace qr := qr.other W uf
 replace j7 := j7.wr W
 replace ja := ja.other W u7
 replace wn := wn.wr W
 replace Z0 := Nat.le_trans Z0 (Nat.le_of_eq W.size.symm)
 replace N := Fr.snoc X.1 N u8
 refine g_dup X at_390 (pc' := 391) rfl rfl ?_
 refine g_iconst X (2 : Int32) at_391 (pc' := 392) rfl rfl ?_
 refine g_lload X at_392 (pc' := 394) rfl rfl ?_
 refine g_lastore X j0 2 at_394 (pc' := 395) rfl (by decide) (by decide) (Nat.le_of_ble_eq_true rfl) ?_
 intro T h X W j0
 replace j0 : Av Z h wh .long [(.long (-1 : Int64)), (.long (-1 : Int64)), (.long (-1 : Int64)), (.long (0 : Int64))] := j0
 replace qa := qa.wr W
 replace qb := qb.other W (Or.inl wq)
 replace qc := qc.other W (Or.inl wq)
 replace qd := qd.other W (Or.inl wq)
 replace qe := qe.other W (Or.inl wq)
 replace qf := qf.other W (Or.inl wq)
 replace jl := jl.wr W
 replace q7 := q7.other W uc
 replace jm := jm.wr W
 replace q8 := q8.other W ud
 replace jn := jn.wr W
 replace qv := qv.other W ue
 replace jo := jo.wr W
 replace qy := qy.other W u6
 replace js := js.wr W
 replace qr := qr.other W uf
 replace j7 := j7.wr W
 replace ja := ja.other W u7
 replace wn := wn.wr W
 replace Z0 := Nat.le_trans Z0 (Nat.le_of_eq W.size.symm)
 replace N := Fr.snoc X.1 N u8
 refine g_dup X at_395 (pc' := 396) rfl rfl ?_
 refine g_iconst X (3 : Int32) at_396 (pc' := 397) rfl rfl ?_
 refine g_lload X at_397 (pc' := 399) rfl rfl ?_
 refine g_lastore X j0 3 at_399 (pc' := 400) rfl (by decide) (by decide) (Nat.le_of_ble_eq_true rfl) ?_
 intro T h X W j0
 replace j0 : Av Z h wh .long [(.long (-1 : Int64)), (.long (-1 : Int64)), (.long (-1 : Int64)), (.long (-1 : Int64))] := j0
 replace qa := qa.wr W
 replace qb := qb.other W (Or.inl wq)
 replace qc := qc.other W (Or.inl wq)
 replace qd := qd.other W (Or.inl wq)
 replace qe := qe.other W (Or.inl wq)
 replace qf := qf.other W (Or.inl wq)
 replace jl := jl.wr W
 replace q7 := q7.other W uc
 replace jm := jm.wr W
 replace q8 := q8.other W ud
 replace jn := jn.wr W
 replace qv := qv.other W ue
 replace jo := jo.wr W
 replace qy := qy.other W u6
 replace js := js.wr W
 replace qr := qr.other W uf
 replace j7 := j7.wr W
 replace ja := ja.other W u7
 replace wn := wn.wr W
 replace Z0 := Nat.le_trans Z0 (Nat.le_of_eq W.size.symm)
 replace N := Fr.snoc X.1 N u8
 refine g_astore X at_400 (pc' := 402) (Ls' := #[.val (.int i0), .val (.int i1), .val (.int i2), .val (.int i3), .val (.long j4), .second, .val (.long j5), .second, .val (.ref qj), .val (.ref qk), .val (.ref qg), .val (.int (1 : Int32)), .val (.ref jv), .val (.int wy), .val (.ref q9), .val (.int wa), .val (.int wb), .val (.long (-1 : Int64)), .second, .val (.long (81985529216486895 : Int64)), .second, .val (.ref wh), .unset, .unset, .unset, .unset]) rfl rfl rfl ?_
 refine g_iconst X (4 : Int32) at_402 (pc' := 403) rfl rfl ?_
 refine g_newarray X 4 (tb hw 32 rfl) at_403 (pc' := 405) rfl (by decide) (by decide) 4 (by decide) (by decide) (by decide) (by decide) (vs := [(.long (0 : Int64)), (.long (0 : Int64)), (.long (0 : Int64)), (.long (0 : Int64))]) rfl (ad := "[J") (by decide) ?_
 intro T h wk zi X Ex yi we
 have wv : qg ≠ wk := Nat.ne_of_lt (by rw [zi]; exact qa.lt)
 have ug : y9 ≠ wk := Nat.ne_of_lt (by rw [zi]; exact jl.lt)
 have uh : za ≠ wk := Nat.ne_of_lt (by rw [zi]; exact jm.lt)
 have ui : zb ≠ wk := Nat.ne_of_lt (by rw [zi]; exact jn.lt)
 have u9 : zp ≠ wk := Nat.ne_of_lt (by rw [zi]; exact jo.lt)
 have qaa : jv ≠ wk := Nat.ne_of_lt (by rw [zi]; exact js.lt)
 have uj : q9 ≠ wk := Nat.ne_of_lt (by rw [zi]; exact j7.lt)
 have uk : wh ≠ wk := Nat.ne_of_lt (by rw [zi]; exact wn.lt)
 have qab : n0 ≤ wk := by rw [zi]; exact Z0
 replace qa := qa.ext Ex
 replace qb := qb.ext Ex
 replace qc := qc.ext Ex
 replace qd := qd.ext Ex
 replace qe := qe.ext Ex
 replace qf := qf.ext Ex
 replace jl := jl.ext Ex
 replace q7 := q7.ext Ex
 replace jm := jm.ext Ex
 replace q8 := q8.ext Ex
 replace jn := jn.ext Ex
 replace qv := qv.ext Ex
 replace jo := jo.ext Ex
 replace qy := qy.ext Ex
 replace js := js.ext Ex
 replace qr := qr.ext Ex
 replace j7 := j7.ext Ex
 replace ja := ja.ext Ex
 replace wn := wn.ext Ex
 replace j0 := j0.ext Ex
 replace Z0 := Nat.le_trans Z0 Ex.1
 refine g_dup X at_405 (pc' := 406) rfl rfl ?_
 refine g_iconst X (0 : Int32) at_406 (pc' := 407) rfl rfl ?_
 refine g_lload X at_407 (pc' := 409) rfl rfl ?_
 refine g_lastore X we 0 at_409 (pc' := 410) rfl (by decide) (by decide) (Nat.le_of_ble_eq_true rfl) ?_
 intro T h X W we
 replace we : Av Z h wk .long [(.long (81985529216486895 : Int64)), (.long (0 : Int64)), (.long (0 : Int64)), (.long (0 : Int64))] := we
 replace qa := qa.wr W
 replace qb := qb.other W (Or.inl wv)
 replace qc := qc.other W (Or.inl wv)
 replace qd := qd.other W (Or.inl wv)
 replace qe := qe.other W (Or.inl wv)
 replace qf := qf.other W (Or.inl wv)
 replace jl := jl.wr W
 replace q7 := q7.other W ug
 replace jm := jm.wr W
 replace q8 := q8.other W uh
 replace jn := jn.wr W
 replace qv := qv.other W ui
 replace jo := jo.wr W
 replace qy := qy.other W u9
 replace js := js.wr W
 replace qr := qr.other W qaa
 replace j7 := j7.wr W
 replace ja := ja.other W uj
 replace wn := wn.wr W
 replace j0 := j0.other W uk
 replace yi := yi.wr W
 replace Z0 := Nat.le_trans Z0 (Nat.le_of_eq W.size.symm)
 replace N := Fr.snoc X.1 N qab
 refine g_dup X at_410 (pc' := 411) rfl rfl ?_
 refine g_iconst X (1 : Int32) at_411 (pc' := 412) rfl rfl ?_
 refine g_lload X at_412 (pc' := 414) rfl rfl ?_
 refine g_lastore X we 1 at_414 (pc' := 415) rfl (by decide) (by decide) (Nat.le_of_ble_eq_true rfl) ?_
 intro T h X W we
 replace we : Av Z h wk .long [(.long (81985529216486895 : Int64)), (.long (81985529216486895 : Int64)), (.long (0 : Int64)), (.long (0 : Int64))] := we
 replace qa := qa.wr W
 replace qb := qb.other W (Or.inl wv)
 replace qc := qc.other W (Or.inl wv)
 replace qd := qd.other W (Or.inl wv)
 replace qe := qe.other W (Or.inl wv)
 replace qf := qf.other W (Or.inl wv)
 replace jl := jl.wr W
 replace q7 := q7.other W ug
 replace jm := jm.wr W
 replace q8 := q8.other W uh
 replace jn := jn.wr W
 replace qv := qv.other W ui
 replace jo := jo.wr W
 replace qy := qy.other W u9
 replace js := js.wr W
 replace qr := qr.other W qaa
 replace j7 := j7.wr W
 replace ja := ja.other W uj
 replace wn := wn.wr W
 replace j0 := j0.other W uk
 replace yi := yi.wr W
 replace Z0 := Nat.le_trans Z0 (Nat.le_of_eq W.size.symm)
 replace N := Fr.snoc X.1 N qab
 refine g_dup X at_415 (pc' := 416) rfl rfl ?_
 refine g_iconst X (2 : Int32) at_416 (pc' := 417) rfl rfl ?_
 refine g_lload X at_417 (pc' := 419) rfl rfl ?_
 refine g_lastore X we 2 at_419 (pc' := 420) rfl (by decide) (by decide) (Nat.le_of_ble_eq_true rfl) ?_
 intro T h X W we
 replace we : Av Z h wk .long [(.long (81985529216486895 : Int64)), (.long (81985529216486895 : Int64)), (.long (81985529216486895 : Int64)), (.long (0 : Int64))] := we
 replace qa := qa.wr W
 replace qb := qb.other W (Or.inl wv)
 replace qc := qc.other W (Or.inl wv)
 replace qd := qd.other W (Or.inl wv)
 replace qe := qe.other W (Or.inl wv)
 replace qf := qf.other W (Or.inl wv)
 replace jl := jl.wr W
 replace q7 := q7.other W ug
 replace jm := jm.wr W
 replace q8 := q8.other W uh
 replace jn := jn.wr W
 replace qv := qv.other W ui
 replace jo := jo.wr W
 replace qy := qy.other W u9
 replace js := js.wr W
 replace qr := qr.other W qaa
 replace j7 := j7.wr W
 replace ja := ja.other W uj
 replace wn := wn.wr W
 replace j0 := j0.other W uk
 replace yi := yi.wr W
 replace Z0 := Nat.le_trans Z0 (Nat.le_of_eq W.size.symm)
 replace N := Fr.snoc X.1 N qab
 refine g_dup X at_420 (pc' := 421) rfl rfl ?_
 refine g_iconst X (3 : Int32) at_421 (pc' := 422) rfl rfl ?_
 refine g_lload X at_422 (pc' := 424) rfl rfl ?_
 refine g_lastore X we 3 at_424 (pc' := 425) rfl (by decide) (by decide) (Nat.le_of_ble_eq_true rfl) ?_
 intro T h X W we
 replace we : Av Z h wk .long [(.long (81985529216486895 : Int64)), (.long (81985529216486895 : Int64)), (.long (81985529216486895 : Int64)), (.long (81985529216486895 : Int64))] := we
 replace qa := qa.wr W
 replace qb := qb.other W (Or.inl wv)
 replace qc := qc.other W (Or.inl wv)
 replace qd := qd.other W (Or.inl wv)
 replace qe := qe.other W (Or.inl wv)
 replace qf := qf.other W (Or.inl wv)
 replace jl := jl.wr W
 replace q7 := q7.other W ug
 replace jm := jm.wr W
 replace q8 := q8.other W uh
 replace jn := jn.wr W
 replace qv := qv.other W ui
 replace jo := jo.wr W
 replace qy := qy.other W u9
 replace js := js.wr W
 replace qr := qr.other W qaa
 replace j7 := j7.wr W
 replace ja := ja.other W uj
 replace wn := wn.wr W
 replace j0 := j0.other W uk
 replace yi := yi.wr W
 replace Z0 := Nat.le_trans Z0 (Nat.le_of_eq W.size.symm)
 replace N := Fr.snoc X.1 N qab
 refine g_astore X at_425 (pc' := 427) (Ls' := #[.val (.int i0), .val (.int i1), .val (.int i2), .val (.int i3), .val (.long j4), .second, .val (.long j5), .second, .val (.ref qj), .val (.ref qk), .val (.ref qg), .val (.int (1 : Int32)), .val (.ref jv), .val (.int wy), .val (.ref q9), .val (.int wa), .val (.int wb), .val (.long (-1 : Int64)), .second, .val (.long (81985529216486895 : Int64)), .second, .val (.ref wh), .val (.ref wk), .unset, .unset, .unset]) rfl rfl rfl ?_
 have ho_v355_151 := off2 qee
 have ho_v365_152 := off2 qef
 refine g_aload X at_427 (pc' := 429) rfl rfl rfl ?_
 refine g_aload X at_429 (pc' := 431) rfl rfl rfl ?_
 refine g_aload X at_431 (pc' := 433) rfl rfl rfl ?_
 refine g_iload X at_433 (pc' := 435) rfl rfl ?_
 refine g_virtual X (W := 0) (a := qg) (C := "com/example/ryazan/ryazan/language/Layout") [(.ref jv), (.ref wh), (.int wa)] [] qa (tb hw 63 rfl) (tb hw 64 rfl) (tb hw 66 rfl) (tb hw 65 rfl) (tb hw 10 rfl) (tb hw 67 rfl) (rPkS0 l Z aa hw [] wa qg jv wh y9 za zb ql qm qn qo x135 x134 x133 x132 yh yl yq yu (-1 : Int64) (-1 : Int64) (-1 : Int64) (-1 : Int64) _ n0 Z0 qa qb qc qd qf q7 q8 qv qr j0 u8 wq uc ud ue uf ho_v355_151) at_435 (pc' := 438) rfl (by decide) (by decide) (by decide) rfl rfl rfl (lenOf pd_7 rfl) (Nat.le_refl _) (by decide) (by decide) ?_
 intro v T L X q
 obtain ⟨rfl, Nq, Kq, qeg⟩ := q
 replace N := N.app Nq
 replace qa := qa.keep Kq
 replace qb := qb.keep Kq (ninS wq nin0)
 replace qc := qc.keep Kq (ninS wq nin0)
 replace qd := qd.keep Kq (ninS wq nin0)
 replace qe := qe.keep Kq (ninS wq nin0)
 replace qf := qf.keep Kq (ninS wq nin0)
 replace jl := jl.keep Kq
 replace q7 := q7.keep Kq (ninS uc nin0)
 replace jm := jm.keep Kq
 replace q8 := q8.keep Kq (ninS ud nin0)
 replace jn := jn.keep Kq
 replace qv := qv.keep Kq (ninS ue nin0)
 replace jo := jo.keep Kq
 replace qy := qy.keep Kq (ninS u6 nin0)
 replace js := js.keep Kq
 replace qr := qr.keep Kq (ninS uf nin0)
 replace j7 := j7.keep Kq
 replace ja := ja.keep Kq (ninS u7 nin0)
 replace yi := yi.keep Kq
 replace we := we.keep Kq (ninS (Ne.symm uk) nin0)
 replace Z0 := Nat.le_trans Z0 Kq.1
 replace j0 := qeg
 replace wn := wn.keep Kq
 generalize ex155 : (sel wa (-1 : Int64) (((((0 : Int64) ||| (((yh.toInt64) - (ql.toInt64)) <<< (x135 &&& 0x3f).toInt64)) ||| (((yl.toInt64) - (qm.toInt64)) <<< (x134 &&& 0x3f).toInt64)) ||| (((yq.toInt64) - (qn.toInt64)) <<< (x133 &&& 0x3f).toInt64)) ||| (((yu.toInt64) - (qo.toInt64)) <<< (x132 &&& 0x3f).toInt64))) = x155 at j0
 generalize ex156 : (sel wa (((((0 : Int64) ||| (((yh.toInt64) - (ql.toInt64)) <<< (x135 &&& 0x3f).toInt64)) ||| (((yl.toInt64) - (qm.toInt64)) <<< (x134 &&& 0x3f).toInt64)) ||| (((yq.toInt64) - (qn.toInt64)) <<< (x133 &&& 0x3f).toInt64)) ||| (((yu.toInt64) - (qo.toInt64)) <<< (x132 &&& 0x3f).toInt64)) (-1 : Int64)) = x156 at j0
 show Go p e below _ (T.setTop (mkF m 438 _ []))
 refine g_aload X at_438 (pc' := 440) rfl rfl rfl ?_
 refine g_aload X at_440 (pc' := 442) rfl rfl rfl ?_
 refine g_aload X at_442 (pc' := 444) rfl rfl rfl ?_
 refine g_iload X at_444 (pc' := 446) rfl rfl ?_
 refine g_virtual X (W := 0) (a := qg) (C := "com/example/ryazan/ryazan/language/Layout") [(.ref q9), (.ref wk), (.int wb)] [] qa (tb hw 63 rfl) (tb hw 64 rfl) (tb hw 66 rfl) (tb hw 65 rfl) (tb hw 10 rfl) (tb hw 67 rfl) (rPkS0 l Z aa hw [] wb qg q9 wk y9 za zb ql qm qn qo x135 x134 x133 x132 x0_147 x1_148 x2_149 x3_150 (81985529216486895 : Int64) (81985529216486895 : Int64) (81985529216486895 : Int64) (81985529216486895 : Int64) _ n0 Z0 qa qb qc qd qf q7 q8 qv ja we qab wv ug uh ui uj ho_v365_152) at_446 (pc' := 449) rfl (by decide) (by decide) (by decide) rfl rfl rfl (lenOf pd_7 rfl) (Nat.le_refl _) (by decide) (by decide) ?_
 intro v T L X q
 obtain ⟨rfl, Nq, Kq, qeh⟩ := q
 replace N := N.app Nq
 replace qa := qa.keep Kq
 replace qb := qb.keep Kq (ninS wv nin0)
 replace qc := qc.keep Kq (ninS wv nin0)
 replace qd := qd.keep Kq (ninS wv nin0)
 replace qe := qe.keep Kq (ninS wv nin0)
 replace jl := jl.keep Kq
 replace q7 := q7.keep Kq (ninS ug nin0)
 replace jm := jm.keep Kq
 replace q8 := q8.keep Kq (ninS uh nin0)
 replace jn := jn.keep Kq
 replace qv := qv.keep Kq (ninS ui nin0)
 replace jo := jo.keep Kq
 replace qy := qy.keep Kq (ninS u9 nin0)
 replace js := js.keep Kq
 replace qr := qr.keep Kq (ninS qaa nin0)
 replace j7 := j7.keep Kq
 replace ja := ja.keep Kq (ninS uj nin0)
 replace wn := wn.keep Kq
 replace j0 := j0.keep Kq (ninS uk nin0)
 replace Z0 := Nat.le_trans Z0 Kq.1
 replace we := qeh
 replace yi := yi.keep Kq
 generalize ex157 : (sel wb (81985529216486895 : Int64) (((((0 : Int64) ||| (((x0_147.toInt64) - (ql.toInt64)) <<< (x135 &&& 0x3f).toInt64)) ||| (((x1_148.toInt64) - (qm.toInt64)) <<< (x134 &&& 0x3f).toInt64)) ||| (((x2_149.toInt64) - (qn.toInt64)) <<< (x133 &&& 0x3f).toInt64)) ||| (((x3_150.toInt64) - (qo.toInt64)) <<< (x132 &&& 0x3f).toInt64))) = x157 at we
 generalize ex158 : (sel wb (((((0 : Int64) ||| (((x0_147.toInt64) - (ql.toInt64)) <<< (x135 &&& 0x3f).toInt64)) ||| (((x1_148.toInt64) - (qm.toInt64)) <<< (x134 &&& 0x3f).toInt64)) ||| (((x2_149.toInt64) - (qn.toInt64)) <<< (x133 &&& 0x3f).toInt64)) ||| (((x3_150.toInt64) - (qo.toInt64)) <<< (x132 &&& 0x3f).toInt64)) (81985529216486895 : Int64)) = x158 at we
 show Go p e below _ (T.setTop (mkF m 449 _ []))
 refine g_iconst X (4 : Int32) at_449 (pc' := 450) rfl rfl ?_
 refine g_newarray X 4 (tb hw 0 rfl) at_450 (pc' := 452) rfl (by decide) (by decide) 4 (by decide) (by decide) (by decide) (by decide) (vs := [(.int (0 : Int32)), (.int (0 : Int32)), (.int (0 : Int32)), (.int (0 : Int32))]) rfl (ad := "[I") (by decide) ?_
 intro T h w9 zc X Ex qei yr
 have qac : qg ≠ w9 := Nat.ne_of_lt (by rw [zc]; exact qa.lt)
 have qce : y9 ≠ w9 := Nat.ne_of_lt (by rw [zc]; exact jl.lt)
 have qcf : za ≠ w9 := Nat.ne_of_lt (by rw [zc]; exact jm.lt)
 have qcg : zb ≠ w9 := Nat.ne_of_lt (by rw [zc]; exact jn.lt)
 have qch : zp ≠ w9 := Nat.ne_of_lt (by rw [zc]; exact jo.lt)
 have qej : jv ≠ w9 := Nat.ne_of_lt (by rw [zc]; exact js.lt)
 have qek : q9 ≠ w9 := Nat.ne_of_lt (by rw [zc]; exact j7.lt)
 have qci : wh ≠ w9 := Nat.ne_of_lt (by rw [zc]; exact wn.lt)
 have qel : wk ≠ w9 := Nat.ne_of_lt (by rw [zc]; exact yi.lt)
 have qem : n0 ≤ w9 := by rw [zc]; exact Z0
 replace qa := qa.ext Ex
 replace qb := qb.ext Ex
 replace qc := qc.ext Ex
 replace qd := qd.ext Ex
 replace qe := qe.ext Ex
 replace jl := jl.ext Ex
 replace q7 := q7.ext Ex
 replace jm := jm.ext Ex
 replace q8 := q8.ext Ex
 replace jn := jn.ext Ex
 replace qv := qv.ext Ex
 replace jo := jo.ext Ex
 replace qy := qy.ext Ex
 replace js := js.ext Ex
 replace qr := qr.ext Ex
 replace j7 := j7.ext Ex
 replace ja := ja.ext Ex
 replace wn := wn.ext Ex
 replace j0 := j0.ext Ex
 replace yi := yi.ext Ex
 replace we := we.ext Ex
 replace Z0 := Nat.le_trans Z0 Ex.1
 refine g_astore X at_452 (pc' := 454) (Ls' := #[.val (.int i0), .val (.int i1), .val (.int i2), .val (.int i3), .val (.long j4), .second, .val (.long j5), .second, .val (.ref qj), .val (.ref qk), .val (.ref qg), .val (.int (1 : Int32)), .val (.ref jv), .val (.int wy), .val (.ref q9), .val (.int wa), .val (.int wb), .val (.long (-1 : Int64)), .second, .val (.long (81985529216486895 : Int64)), .second, .val (.ref wh), .val (.ref wk), .val (.ref w9), .unset, .unset]) rfl rfl rfl ?_
 refine g_iconst X (4 : Int32) at_454 (pc' := 455) rfl rfl ?_
 refine g_newarray X 4 (tb hw 0 rfl) at_455 (pc' := 457) rfl (by decide) (by decide) 4 (by decide) (by decide) (by decide) (by decide) (vs := [(.int (0 : Int32)), (.int (0 : Int32)), (.int (0 : Int32)), (.int (0 : Int32))]) rfl (ad := "[I") (by decide) ?_
 intro T h yc y0 X Ex qf9 yx
 have qen : qg ≠ yc := Nat.ne_of_lt (by rw [y0]; exact qa.lt)
 have qeo : y9 ≠ yc := Nat.ne_of_lt (by rw [y0]; exact jl.lt)
 have qep : za ≠ yc := Nat.ne_of_lt (by rw [y0]; exact jm.lt)
 have qeq : zb ≠ yc := Nat.ne_of_lt (by rw [y0]; exact jn.lt)
 have qer : zp ≠ yc := Nat.ne_of_lt (by rw [y0]; exact jo.lt)
 have qes : jv ≠ yc := Nat.ne_of_lt (by rw [y0]; exact js.lt)
 have qet : q9 ≠ yc := Nat.ne_of_lt (by rw [y0]; exact j7.lt)
 have qeu : wh ≠ yc := Nat.ne_of_lt (by rw [y0]; exact wn.lt)
 have qcj : wk ≠ yc := Nat.ne_of_lt (by rw [y0]; exact yi.lt)
 have qck : w9 ≠ yc := Nat.ne_of_lt (by rw [y0]; exact qei.lt)
 have qev : n0 ≤ yc := by rw [y0]; exact Z0
 replace qa := qa.ext Ex
 replace qb := qb.ext Ex
 replace qc := qc.ext Ex
 replace qd := qd.ext Ex
 replace qe := qe.ext Ex
 replace q7 := q7.ext Ex
 replace q8 := q8.ext Ex
 replace qv := qv.ext Ex
 replace qy := qy.ext Ex
 replace qr := qr.ext Ex
 replace ja := ja.ext Ex
 replace j0 := j0.ext Ex
 replace we := we.ext Ex
 replace yr := yr.ext Ex
 replace Z0 := Nat.le_trans Z0 Ex.1
 refine g_astore X at_457 (pc' := 459) (Ls' := #[.val (.int i0), .val (.int i1), .val (.int i2), .val (.int i3), .val (.long j4), .second, .val (.long j5), .second, .val (.ref qj), .val (.ref qk), .val (.ref qg), .val (.int (1 : Int32)), .val (.ref jv), .val (.int wy), .val (.ref q9), .val (.int wa), .val (.int wb), .val (.long (-1 : Int64)), .second, .val (.long (81985529216486895 : Int64)), .second, .val (.ref wh), .val (.ref wk), .val (.ref w9), .val (.ref yc), .unset]) rfl rfl rfl ?_
 refine g_aload X at_459 (pc' := 461) rfl rfl rfl ?_
 refine g_aload X at_461 (pc' := 463) rfl rfl rfl ?_
 refine g_iload X at_463 (pc' := 465) rfl rfl ?_
 refine g_aload X at_465 (pc' := 467) rfl rfl rfl ?_
 refine g_virtual X (W := 0) (a := qg) (C := "com/example/ryazan/ryazan/language/Layout") [(.ref wh), (.int wa), (.ref w9)] [] qa (tb hw 68 rfl) (tb hw 69 rfl) (tb hw 71 rfl) (tb hw 70 rfl) (tb hw 10 rfl) (tb hw 72 rfl) (rUpS0 l Z aa hw [] wa qg wh w9 y9 za zb zp ql qm qn qo x135 x134 x133 x132 x139 x138 x137 x136 x156 x155 (-1 : Int64) (-1 : Int64) (0 : Int32) (0 : Int32) (0 : Int32) (0 : Int32) _ n0 Z0 qa qb qc qd qe q7 q8 qv qy j0 yr qem qac qce qcf qcg qch qci ho_v355_151) at_467 (pc' := 470) rfl (by decide) (by decide) (by decide) rfl rfl rfl (lenOf pd_8 rfl) (Nat.le_refl _) (by decide) (by decide) ?_
 intro v T L X q
 obtain ⟨rfl, Nq, Kq, qew⟩ := q
 replace N := N.app Nq
 replace qa := qa.keep Kq
 replace qb := qb.keep Kq (ninS qac nin0)
 replace qc := qc.keep Kq (ninS qac nin0)
 replace qd := qd.keep Kq (ninS qac nin0)
 replace qe := qe.keep Kq (ninS qac nin0)
 replace q7 := q7.keep Kq (ninS qce nin0)
 replace q8 := q8.keep Kq (ninS qcf nin0)
 replace qv := qv.keep Kq (ninS qcg nin0)
 replace qy := qy.keep Kq (ninS qch nin0)
 replace qr := qr.keep Kq (ninS qej nin0)
 replace ja := ja.keep Kq (ninS qek nin0)
 replace j0 := j0.keep Kq (ninS qci nin0)
 replace we := we.keep Kq (ninS qel nin0)
 replace yx := yx.keep Kq (ninS (Ne.symm qck) nin0)
 replace Z0 := Nat.le_trans Z0 Kq.1
 replace yr := qew
 generalize ex161 : (seli wa (((((x156.toUInt64 >>> (x132 &&& 0x3f).toInt64.toUInt64).toInt64) &&& x136).toInt32) + qo) (((((x155.toUInt64 >>> (x132 &&& 0x3f).toInt64.toUInt64).toInt64) &&& x136).toInt32) + qo)) = x161 at yr
 generalize ex162 : (seli wa (((((x156.toUInt64 >>> (x133 &&& 0x3f).toInt64.toUInt64).toInt64) &&& x137).toInt32) + qn) (((((x155.toUInt64 >>> (x133 &&& 0x3f).toInt64.toUInt64).toInt64) &&& x137).toInt32) + qn)) = x162 at yr
 generalize ex163 : (seli wa (((((x156.toUInt64 >>> (x134 &&& 0x3f).toInt64.toUInt64).toInt64) &&& x138).toInt32) + qm) (((((x155.toUInt64 >>> (x134 &&& 0x3f).toInt64.toUInt64).toInt64) &&& x138).toInt32) + qm)) = x163 at yr
 generalize ex164 : (seli wa (((((x156.toUInt64 >>> (x135 &&& 0x3f).toInt64.toUInt64).toInt64) &&& x139).toInt32) + ql) (((((x155.toUInt64 >>> (x135 &&& 0x3f).toInt64.toUInt64).toInt64) &&& x139).toInt32) + ql)) = x164 at yr
 show Go p e below _ (T.setTop (mkF m 470 _ []))
 refine g_aload X at_470 (pc' := 472) rfl rfl rfl ?_
 refine g_aload X at_472 (pc' := 474) rfl rfl rfl ?_
 refine g_iload X at_474 (pc' := 476) rfl rfl ?_
 refine g_aload X at_476 (pc' := 478) rfl rfl rfl ?_
 refine g_virtual X (W := 0) (a := qg) (C := "com/example/ryazan/ryazan/language/Layout") [(.ref wk), (.int wb), (.ref yc)] [] qa (tb hw 68 rfl) (tb hw 69 rfl) (tb hw 71 rfl) (tb hw 70 rfl) (tb hw 10 rfl) (tb hw 72 rfl) (rUpS0 l Z aa hw [] wb qg wk yc y9 za zb zp ql qm qn qo x135 x134 x133 x132 x139 x138 x137 x136 x158 x157 (81985529216486895 : Int64) (81985529216486895 : Int64) (0 : Int32) (0 : Int32) (0 : Int32) (0 : Int32) _ n0 Z0 qa qb qc qd qe q7 q8 qv qy we yx qev qen qeo qep qeq qer qcj ho_v365_152) at_478 (pc' := 481) rfl (by decide) (by decide) (by decide) rfl rfl rfl (lenOf pd_8 rfl) (Nat.le_refl _) (by decide) (by decide) ?_
 intro v T L X q
 obtain ⟨rfl, Nq, Kq, qex⟩ := q
 replace N := N.app Nq
 replace qr := qr.keep Kq (ninS qes nin0)
 replace ja := ja.keep Kq (ninS qet nin0)
 replace j0 := j0.keep Kq (ninS qeu nin0)
 replace we := we.keep Kq (ninS qcj nin0)
 replace yr := yr.keep Kq (ninS qck nin0)
 replace Z0 := Nat.le_trans Z0 Kq.1
 replace yx := qex
 generalize ex165 : (seli wb (((((x158.toUInt64 >>> (x132 &&& 0x3f).toInt64.toUInt64).toInt64) &&& x136).toInt32) + qo) (((((x157.toUInt64 >>> (x132 &&& 0x3f).toInt64.toUInt64).toInt64) &&& x136).toInt32) + qo)) = x165 at yx
 generalize ex166 : (seli wb (((((x158.toUInt64 >>> (x133 &&& 0x3f).toInt64.toUInt64).toInt64) &&& x137).toInt32) + qn) (((((x157.toUInt64 >>> (x133 &&& 0x3f).toInt64.toUInt64).toInt64) &&& x137).toInt32) + qn)) = x166 at yx
 generalize ex167 : (seli wb (((((x158.toUInt64 >>> (x134 &&& 0x3f).toInt64.toUInt64).toInt64) &&& x138).toInt32) + qm) (((((x157.toUInt64 >>> (x134 &&& 0x3f).toInt64.toUInt64).toInt64) &&& x138).toInt32) + qm)) = x167 at yx
 generalize ex168 : (seli wb (((((x158.toUInt64 >>> (x135 &&& 0x3f).toInt64.toUInt64).toInt64) &&& x139).toInt32) + ql) (((((x157.toUInt64 >>> (x135 &&& 0x3f).toInt64.toUInt64).toInt64) &&& x139).toInt32) + ql)) = x168 at yx
 show Go p e below _ (T.setTop (mkF m 481 _ []))
 refine g_aload X at_481 (pc' := 483) rfl rfl rfl ?_
 refine g_iconst X (0 : Int32) at_483 (pc' := 484) rfl rfl ?_
 refine g_iaload X yr 0 at_484 (pc' := 485) rfl (by decide) (by decide) rfl ?_
 refine g_aload X at_485 (pc' := 487) rfl rfl rfl ?_
 refine g_iconst X (0 : Int32) at_487 (pc' := 488) rfl rfl ?_
 refine g_iaload X qr 0 at_488 (pc' := 489) rfl (by decide) (by decide) rfl ?_
 have pf169 : x164 = yh := by
   rw [← ex164, ← ex156, ← ex155, ← ex139, ← ex135, ← ex134, ← ex133, ← ex132]; rcases ho_v355_151 with ho | ho
   · rw [ho]; simp only [sel0, seli0]; exact got t0 b0 zb0 c0 da0 (four t0 t1 t2 t3 zz0 zz1 zz2 zz3 da0 da1 da2 da3).1
   · rw [ho]; simp only [sel1, seli1]; exact got t0 b0 zb0 c0 da0 (four t0 t1 t2 t3 zz0 zz1 zz2 zz3 da0 da1 da2 da3).1
 refine g_icN X at_489 (teq (show x164 = yh from pf169)).2 (pc' := 492) rfl ?_
 refine g_aload X at_492 (pc' := 494) rfl rfl rfl ?_
 refine g_iconst X (1 : Int32) at_494 (pc' := 495) rfl rfl ?_
 refine g_iaload X yr 1 at_495 (pc' := 496) rfl (by decide) (by decide) rfl ?_
 refine g_aload X at_496 (pc' := 498) rfl rfl rfl ?_
 refine g_iconst X (1 : Int32) at_498 (pc' := 499) rfl rfl ?_
 refine g_iaload X qr 1 at_499 (pc' := 500) rfl (by decide) (by decide) rfl ?_
 have pf170 : x163 = yl := by
   rw [← ex163, ← ex156, ← ex155, ← ex138, ← ex135, ← ex134, ← ex133, ← ex132]; rcases ho_v355_151 with ho | ho
   · rw [ho]; simp only [sel0, seli0]; exact got t1 b1 zb1 c1 da1 (four t0 t1 t2 t3 zz0 zz1 zz2 zz3 da0 da1 da2 da3).2.1
   · rw [ho]; simp only [sel1, seli1]; exact got t1 b1 zb1 c1 da1 (four t0 t1 t2 t3 zz0 zz1 zz2 zz3 da0 da1 da2 da3).2.1
 refine g_icN X at_500 (teq (show x163 = yl from pf170)).2 (pc' := 503) rfl ?_
 refine g_aload X at_503 (pc' := 505) rfl rfl rfl ?_
 refine g_iconst X (2 : Int32) at_505 (pc' := 506) rfl rfl ?_
 refine g_iaload X yr 2 at_506 (pc' := 507) rfl (by decide) (by decide) rfl ?_
 refine g_aload X at_507 (pc' := 509) rfl rfl rfl ?_
 refine g_iconst X (2 : Int32) at_509 (pc' := 510) rfl rfl ?_
 refine g_iaload X qr 2 at_510 (pc' := 511) rfl (by decide) (by decide) rfl ?_
 have pf171 : x162 = yq := by
   rw [← ex162, ← ex156, ← ex155, ← ex137, ← ex135, ← ex134, ← ex133, ← ex132]; rcases ho_v355_151 with ho | ho
   · rw [ho]; simp only [sel0, seli0]; exact got t2 b2 zb2 c2 da2 (four t0 t1 t2 t3 zz0 zz1 zz2 zz3 da0 da1 da2 da3).2.2.1
   · rw [ho]; simp only [sel1, seli1]; exact got t2 b2 zb2 c2 da2 (four t0 t1 t2 t3 zz0 zz1 zz2 zz3 da0 da1 da2 da3).2.2.1
 refine g_icN X at_511 (teq (show x162 = yq from pf171)).2 (pc' := 514) rfl ?_
 refine g_aload X at_514 (pc' := 516) rfl rfl rfl ?_
 refine g_iconst X (3 : Int32) at_516 (pc' := 517) rfl rfl ?_
 refine g_iaload X yr 3 at_517 (pc' := 518) rfl (by decide) (by decide) rfl ?_
 refine g_aload X at_518 (pc' := 520) rfl rfl rfl ?_
 refine g_iconst X (3 : Int32) at_520 (pc' := 521) rfl rfl ?_
 refine g_iaload X qr 3 at_521 (pc' := 522) rfl (by decide) (by decide) rfl ?_
 have pf172 : x161 = yu := by
   rw [← ex161, ← ex156, ← ex155, ← ex136, ← ex135, ← ex134, ← ex133, ← ex132]; rcases ho_v355_151 with ho | ho
   · rw [ho]; simp only [sel0, seli0]; exact got t3 b3 zb3 c3 da3 (four t0 t1 t2 t3 zz0 zz1 zz2 zz3 da0 da1 da2 da3).2.2.2
   · rw [ho]; simp only [sel1, seli1]; exact got t3 b3 zb3 c3 da3 (four t0 t1 t2 t3 zz0 zz1 zz2 zz3 da0 da1 da2 da3).2.2.2
 refine g_icN X at_522 (teq (show x161 = yu from pf172)).2 (pc' := 525) rfl ?_
 refine g_iconst X (1 : Int32) at_525 (pc' := 526) rfl rfl ?_
 refine g_goto X at_526 (pc' := 530) (by decide) (by decide) ?_
 refine g_istore X at_530 (pc' := 532) (Ls' := #[.val (.int i0), .val (.int i1), .val (.int i2), .val (.int i3), .val (.long j4), .second, .val (.long j5), .second, .val (.ref qj), .val (.ref qk), .val (.ref qg), .val (.int (1 : Int32)), .val (.ref jv), .val (.int wy), .val (.ref q9), .val (.int wa), .val (.int wb), .val (.long (-1 : Int64)), .second, .val (.long (81985529216486895 : Int64)), .second, .val (.ref wh), .val (.ref wk), .val (.ref w9), .val (.ref yc), .val (.int (1 : Int32))]) rfl rfl ?_
 refine g_iload X at_532 (pc' := 534) rfl rfl ?_
 refine g_ifN X at_534 ((if0 _ _).trans (feq (show ¬ ((1 : Int32) = (0 : Int32)) from (by decide))).1) (pc' := 537) rfl ?_
 refine g_aload X at_537 (pc' := 539) rfl rfl rfl ?_
 refine g_iconst X (0 : Int32) at_539 (pc' := 540) rfl rfl ?_
 refine g_iaload X yx 0 at_540 (pc' := 541) rfl (by decide) (by decide) rfl ?_
 refine g_aload X at_541 (pc' := 543) rfl rfl rfl ?_
 refine g_iconst X (0 : Int32) at_543 (pc' := 544) rfl rfl ?_
 refine g_iaload X ja 0 at_544 (pc' := 545) rfl (by decide) (by decide) rfl ?_
 have pf173 : x168 = x0_147 := by
   rw [← ex168, ← ex158, ← ex157, ← ex139, ← ex135, ← ex134, ← ex133, ← ex132]; rcases ho_v365_152 with ho | ho
   · rw [ho]; simp only [sel0, seli0]; exact got t0 b0 zb0 c0 db0 (four t0 t1 t2 t3 zz0 zz1 zz2 zz3 db0 db1 db2 db3).1
   · rw [ho]; simp only [sel1, seli1]; exact got t0 b0 zb0 c0 db0 (four t0 t1 t2 t3 zz0 zz1 zz2 zz3 db0 db1 db2 db3).1
 refine g_icN X at_545 (teq (show x168 = x0_147 from pf173)).2 (pc' := 548) rfl ?_
 refine g_aload X at_548 (pc' := 550) rfl rfl rfl ?_
 refine g_iconst X (1 : Int32) at_550 (pc' := 551) rfl rfl ?_
 refine g_iaload X yx 1 at_551 (pc' := 552) rfl (by decide) (by decide) rfl ?_
 refine g_aload X at_552 (pc' := 554) rfl rfl rfl ?_
 refine g_iconst X (1 : Int32) at_554 (pc' := 555) rfl rfl ?_
 refine g_iaload X ja 1 at_555 (pc' := 556) rfl (by decide) (by decide) rfl ?_
 have pf174 : x167 = x1_148 := by
   rw [← ex167, ← ex158, ← ex157, ← ex138, ← ex135, ← ex134, ← ex133, ← ex132]; rcases ho_v365_152 with ho | ho
   · rw [ho]; simp only [sel0, seli0]; exact got t1 b1 zb1 c1 db1 (four t0 t1 t2 t3 zz0 zz1 zz2 zz3 db0 db1 db2 db3).2.1
   · rw [ho]; simp only [sel1, seli1]; exact got t1 b1 zb1 c1 db1 (four t0 t1 t2 t3 zz0 zz1 zz2 zz3 db0 db1 db2 db3).2.1
 refine g_icN X at_556 (teq (show x167 = x1_148 from pf174)).2 (pc' := 559) rfl ?_
 refine g_aload X at_559 (pc' := 561) rfl rfl rfl ?_
 refine g_iconst X (2 : Int32) at_561 (pc' := 562) rfl rfl ?_
 refine g_iaload X yx 2 at_562 (pc' := 563) rfl (by decide) (by decide) rfl ?_
 refine g_aload X at_563 (pc' := 565) rfl rfl rfl ?_
 refine g_iconst X (2 : Int32) at_565 (pc' := 566) rfl rfl ?_
 refine g_iaload X ja 2 at_566 (pc' := 567) rfl (by decide) (by decide) rfl ?_
 have pf175 : x166 = x2_149 := by
   rw [← ex166, ← ex158, ← ex157, ← ex137, ← ex135, ← ex134, ← ex133, ← ex132]; rcases ho_v365_152 with ho | ho
   · rw [ho]; simp only [sel0, seli0]; exact got t2 b2 zb2 c2 db2 (four t0 t1 t2 t3 zz0 zz1 zz2 zz3 db0 db1 db2 db3).2.2.1
   · rw [ho]; simp only [sel1, seli1]; exact got t2 b2 zb2 c2 db2 (four t0 t1 t2 t3 zz0 zz1 zz2 zz3 db0 db1 db2 db3).2.2.1
 refine g_icN X at_567 (teq (show x166 = x2_149 from pf175)).2 (pc' := 570) rfl ?_
 refine g_aload X at_570 (pc' := 572) rfl rfl rfl ?_
 refine g_iconst X (3 : Int32) at_572 (pc' := 573) rfl rfl ?_
 refine g_iaload X yx 3 at_573 (pc' := 574) rfl (by decide) (by decide) rfl ?_
 refine g_aload X at_574 (pc' := 576) rfl rfl rfl ?_
 refine g_iconst X (3 : Int32) at_576 (pc' := 577) rfl rfl ?_
 refine g_iaload X ja 3 at_577 (pc' := 578) rfl (by decide) (by decide) rfl ?_
 have pf176 : x165 = x3_150 := by
   rw [← ex165, ← ex158, ← ex157, ← ex136, ← ex135, ← ex134, ← ex133, ← ex132]; rcases ho_v365_152 with ho | ho
   · rw [ho]; simp only [sel0, seli0]; exact got t3 b3 zb3 c3 db3 (four t0 t1 t2 t3 zz0 zz1 zz2 zz3 db0 db1 db2 db3).2.2.2
   · rw [ho]; simp only [sel1, seli1]; exact got t3 b3 zb3 c3 db3 (four t0 t1 t2 t3 zz0 zz1 zz2 zz3 db0 db1 db2 db3).2.2.2
 refine g_icN X at_578 (teq (show x165 = x3_150 from pf176)).2 (pc' := 581) rfl ?_
 refine g_iconst X (1 : Int32) at_581 (pc' := 582) rfl rfl ?_
 refine g_goto X at_582 (pc' := 586) (by decide) (by decide) ?_
 refine g_istore X at_586 (pc' := 588) (Ls' := #[.val (.int i0), .val (.int i1), .val (.int i2), .val (.int i3), .val (.long j4), .second, .val (.long j5), .second, .val (.ref qj), .val (.ref qk), .val (.ref qg), .val (.int (1 : Int32)), .val (.ref jv), .val (.int wy), .val (.ref q9), .val (.int wa), .val (.int wb), .val (.long (-1 : Int64)), .second, .val (.long (81985529216486895 : Int64)), .second, .val (.ref wh), .val (.ref wk), .val (.ref w9), .val (.ref yc), .val (.int (1 : Int32))]) rfl rfl ?_
 refine g_iload X at_588 (pc' := 590) rfl rfl ?_
 refine g_ifN X at_590 ((if0 _ _).trans (feq (show ¬ ((1 : Int32) = (0 : Int32)) from (by decide))).1) (pc' := 593) rfl ?_
 refine g_aload X at_593 (pc' := 595) rfl rfl rfl ?_
 refine g_iload X at_595 (pc' := 597) rfl rfl ?_
 refine g_iload X at_597 (pc' := 599) rfl rfl ?_
 refine g_lload X at_599 (pc' := 601) rfl rfl ?_
 refine g_static X (W := 0) [(.ref wh), (.int wa), (.int (1 : Int32)), (.long (-1 : Int64))] [] (tb hw 73 rfl) (tb hw 74 rfl) (tb hw 53 rfl) (tb hw 75 rfl) (rUtS1 l Z aa hw [] wa wh (-1 : Int64) x156 x155 (-1 : Int64) (-1 : Int64) _ j0 ho_v355_151) at_601 (pc' := 604) rfl (by decide) (by decide) (by decide) rfl rfl rfl (lenOf pd_9 rfl) (Nat.le_refl _) (by decide) (by decide) ?_
 intro v T L X q
 obtain ⟨rfl, X⟩ := pureX X q
 show Go p e below _ (T.setTop (mkF m 604 _ [(.int (b2i (fUtS1 wa (-1 : Int64) x156 x155 (-1 : Int64) (-1 : Int64))))]))
 have pf177 : (fUtS1 wa (-1 : Int64) x156 x155 (-1 : Int64) (-1 : Int64)) = true := by
   rw [← ex156, ← ex155, ← ex135, ← ex134, ← ex133, ← ex132]; rcases ho_v355_151 with ho | ho
   · rw [ho]; simp [sel0, fUtS1, fUt10]
   · rw [ho]; simp [sel1, fUtS1, fUt11]
 refine g_ifN X at_604 ((if0 _ _).trans (feq (bne (show (fUtS1 wa (-1 : Int64) x156 x155 (-1 : Int64) (-1 : Int64)) = true from pf177))).1) (pc' := 607) rfl ?_
 refine g_aload X at_607 (pc' := 609) rfl rfl rfl ?_
 refine g_iload X at_609 (pc' := 611) rfl rfl ?_
 refine g_iload X at_611 (pc' := 613) rfl rfl ?_
 refine g_lload X at_613 (pc' := 615) rfl rfl ?_
 refine g_static X (W := 0) [(.ref wk), (.int wb), (.int (1 : Int32)), (.long (81985529216486895 : Int64))] [] (tb hw 73 rfl) (tb hw 74 rfl) (tb hw 53 rfl) (tb hw 75 rfl) (rUtS1 l Z aa hw [] wb wk (81985529216486895 : Int64) x158 x157 (81985529216486895 : Int64) (81985529216486895 : Int64) _ we ho_v365_152) at_615 (pc' := 618) rfl (by decide) (by decide) (by decide) rfl rfl rfl (lenOf pd_9 rfl) (Nat.le_refl _) (by decide) (by decide) ?_
 intro v T L X q
 obtain ⟨rfl, X⟩ := pureX X q
 show Go p e below _ (T.setTop (mkF m 618 _ [(.int (b2i (fUtS1 wb (81985529216486895 : Int64) x158 x157 (81985529216486895 : Int64) (81985529216486895 : Int64))))]))
 have pf178 : (fUtS1 wb (81985529216486895 : Int64) x158 x157 (81985529216486895 : Int64) (81985529216486895 : Int64)) = true := by
   rw [← ex158, ← ex157, ← ex135, ← ex134, ← ex133, ← ex132]; rcases ho_v365_152 with ho | ho
   · rw [ho]; simp [sel0, fUtS1, fUt10]
   · rw [ho]; simp [sel1, fUtS1, fUt11]
 refine g_ifN X at_618 ((if0 _ _).trans (feq (bne (show (fUtS1 wb (81985529216486895 : Int64) x158 x157 (81985529216486895 : Int64) (81985529216486895 : Int64)) = true from pf178))).1) (pc' := 621) rfl ?_
 refine g_iconst X (1 : Int32) at_621 (pc' := 622) rfl rfl ?_
 refine g_goto X at_622 (pc' := 626) (by decide) (by decide) ?_
 refine g_istore X at_626 (pc' := 628) (Ls' := #[.val (.int i0), .val (.int i1), .val (.int i2), .val (.int i3), .val (.long j4), .second, .val (.long j5), .second, .val (.ref qj), .val (.ref qk), .val (.ref qg), .val (.int (1 : Int32)), .val (.ref jv), .val (.int wy), .val (.ref q9), .val (.int wa), .val (.int wb), .val (.long (-1 : Int64)), .second, .val (.long (81985529216486895 : Int64)), .second, .val (.ref wh), .val (.ref wk), .val (.ref w9), .val (.ref yc), .val (.int (1 : Int32))]) rfl rfl ?_
 refine g_iload X at_628 (pc' := 630) rfl rfl ?_
 refine g_ifN X at_630 ((if0 _ _).trans (feq (show ¬ ((1 : Int32) = (0 : Int32)) from (by decide))).1) (pc' := 633) rfl ?_
 refine g_aload X at_633 (pc' := 635) rfl rfl rfl ?_
 refine g_iload X at_635 (pc' := 637) rfl rfl ?_
 refine g_aload X at_637 (pc' := 639) rfl rfl rfl ?_
 refine g_iload X at_639 (pc' := 641) rfl rfl ?_
 refine g_iload X at_641 (pc' := 643) rfl rfl ?_
 refine g_static X (W := 0) [(.ref wh), (.int wa), (.ref wk), (.int wb), (.int (1 : Int32))] [] (tb hw 76 rfl) (tb hw 77 rfl) (tb hw 10 rfl) (tb hw 78 rfl) (rCpS1 l Z aa hw [] wa wb wh wk x156 x155 (-1 : Int64) (-1 : Int64) x158 x157 (81985529216486895 : Int64) (81985529216486895 : Int64) _ j0 we ho_v365_152 ho_v355_151) at_643 (pc' := 646) rfl (by decide) (by decide) (by decide) rfl rfl rfl (lenOf pd_10 rfl) (Nat.le_refl _) (by decide) (by decide) ?_
 intro v T L X q
 obtain ⟨rfl, X⟩ := pureX X q
 show Go p e below _ (T.setTop (mkF m 646 _ [(.int (fCpS1 wa wb x156 x155 (-1 : Int64) (-1 : Int64) x158 x157 (81985529216486895 : Int64) (81985529216486895 : Int64)))]))
 refine g_static X (W := 0) [(.int (fCpS1 wa wb x156 x155 (-1 : Int64) (-1 : Int64) x158 x157 (81985529216486895 : Int64) (81985529216486895 : Int64)))] [] (tb hw 86 rfl) (tb hw 87 rfl) (tb hw 53 rfl) (tb hw 88 rfl) (rSign l Z aa hw [] (fCpS1 wa wb x156 x155 (-1 : Int64) (-1 : Int64) x158 x157 (81985529216486895 : Int64) (81985529216486895 : Int64)) _) at_646 (pc' := 649) rfl (by decide) (by decide) (by decide) rfl rfl rfl (lenOf pd_0 rfl) (Nat.le_refl _) (by decide) (by decide) ?_
 intro v T L X q
 obtain ⟨rfl, X⟩ := pureX X q
 show Go p e below _ (T.setTop (mkF m 649 _ [(.int (fSign (fCpS1 wa wb x156 x155 (-1 : Int64) (-1 : Int64) x158 x157 (81985529216486895 : Int64) (81985529216486895 : Int64))))]))
 refine g_aload X at_649 (pc' := 651) rfl rfl rfl ?_
 refine g_aload X at_651 (pc' := 653) rfl rfl rfl ?_
 refine g_static X (W := 1) [(.ref jv), (.ref q9)] [(.int (fSign (fCpS1 wa wb x156 x155 (-1 : Int64) (-1 : Int64) x158 x157 (81985529216486895 : Int64) (81985529216486895 : Int64))))] (tb hw 89 rfl) (tb hw 90 rfl) (tb hw 53 rfl) (tb hw 91 rfl) (rLex l Z aa hw [] jv q9 yh yl yq yu x0_147 x1_148 x2_149 x3_150 _ qr ja) at_653 (pc' := 656) rfl (by decide) (by decide) (by decide) rfl rfl rfl (lenOf pd_11 rfl) (Nat.le_refl _) (by decide) (by decide) ?_
 intro v T L X q
 obtain ⟨rfl, X⟩ := pureX X q
 show Go p e below _ (T.setTop (mkF m 656 _ [(.int (fLex yh yl yq yu x0_147 x1_148 x2_149 x3_150)), (.int (fSign (fCpS1 wa wb x156 x155 (-1 : Int64) (-1 : Int64) x158 x157 (81985529216486895 : Int64) (81985529216486895 : Int64))))]))
 have pf179 : (fSign (fCpS1 wa wb x156 x155 (-1 : Int64) (-1 : Int64) x158 x157 (81985529216486895 : Int64) (81985529216486895 : Int64))) = (fLex yh yl yq yu x0_147 x1_148 x2_149 x3_150) := by
   rw [← ex158, ← ex157, ← ex156, ← ex155, ← ex135, ← ex134, ← ex133, ← ex132]; rcases ho_v355_151 with ha | ha <;> rcases ho_v365_152 with hb | hb
   · rw [ha, hb]; simp only [sel0, sel1]; rw [cps100, cp100]; exact fin0 (N0 := 0) (N1 := 0) (N2 := 0) ia0 ib0 da0 db0 ia1 ib1 da1 db1 ia2 ib2 da2 db2 ia3 ib3 da3 db3 (w2 (w2 (w2 (w1 t0 zz0 da0) t1 zz1 zl1 da1) t2 zz2 zl2 da2) t3 zz3 zl3 da3) (w2 (w2 (w2 (w1 t0 zz0 db0) t1 zz1 zl1 db1) t2 zz2 zl2 db2) t3 zz3 zl3 db3)
   · rw [ha, hb]; simp only [sel0, sel1]; rw [cps101, cp101]; exact fin0 (N0 := 0) (N1 := 0) (N2 := 0) ia0 ib0 da0 db0 ia1 ib1 da1 db1 ia2 ib2 da2 db2 ia3 ib3 da3 db3 (w2 (w2 (w2 (w1 t0 zz0 da0) t1 zz1 zl1 da1) t2 zz2 zl2 da2) t3 zz3 zl3 da3) (w2 (w2 (w2 (w1 t0 zz0 db0) t1 zz1 zl1 db1) t2 zz2 zl2 db2) t3 zz3 zl3 db3)
   · rw [ha, hb]; simp only [sel0, sel1]; rw [cps110, cp110]; exact fin0 (N0 := 0) (N1 := 0) (N2 := 0) ia0 ib0 da0 db0 ia1 ib1 da1 db1 ia2 ib2 da2 db2 ia3 ib3 da3 db3 (w2 (w2 (w2 (w1 t0 zz0 da0) t1 zz1 zl1 da1) t2 zz2 zl2 da2) t3 zz3 zl3 da3) (w2 (w2 (w2 (w1 t0 zz0 db0) t1 zz1 zl1 db1) t2 zz2 zl2 db2) t3 zz3 zl3 db3)
   · rw [ha, hb]; simp only [sel0, sel1]; rw [cps111, cp111]; exact fin0 (N0 := 0) (N1 := 0) (N2 := 0) ia0 ib0 da0 db0 ia1 ib1 da1 db1 ia2 ib2 da2 db2 ia3 ib3 da3 db3 (w2 (w2 (w2 (w1 t0 zz0 da0) t1 zz1 zl1 da1) t2 zz2 zl2 da2) t3 zz3 zl3 da3) (w2 (w2 (w2 (w1 t0 zz0 db0) t1 zz1 zl1 db1) t2 zz2 zl2 db2) t3 zz3 zl3 db3)
 refine g_icN X at_656 (teq (show (fSign (fCpS1 wa wb x156 x155 (-1 : Int64) (-1 : Int64) x158 x157 (81985529216486895 : Int64) (81985529216486895 : Int64))) = (fLex yh yl yq yu x0_147 x1_148 x2_149 x3_150) from pf179)).2 (pc' := 659) rfl ?_
 refine g_iconst X (1 : Int32) at_659 (pc' := 660) rfl rfl ?_
 refine g_goto X at_660 (pc' := 664) (by decide) (by decide) ?_
 refine g_istore X at_664 (pc' := 666) (Ls' := #[.val (.int i0), .val (.int i1), .val (.int i2), .val (.int i3), .val (.long j4), .second, .val (.long j5), .second, .val (.ref qj), .val (.ref qk), .val (.ref qg), .val (.int (1 : Int32)), .val (.ref jv), .val (.int wy), .val (.ref q9), .val (.int wa), .val (.int wb), .val (.long (-1 : Int64)), .second, .val (.long (81985529216486895 : Int64)), .second, .val (.ref wh), .val (.ref wk), .val (.ref w9), .val (.ref yc), .val (.int (1 : Int32))]) rfl rfl ?_
 refine g_iload X at_666 (pc' := 668) rfl rfl ?_
 refine g_ireturnN X (t := .boolean) (by simp) at_668 hret hlk (by decide) (by decide) ?_
 exact ⟨rfl, N⟩
 intro kj
 refine g_iconst X (3 : Int32) at_316 (pc' := 317) rfl rfl ?_
 refine g_iload X at_317 (pc' := 319) rfl rfl ?_
 by_cases qcl : (3 : Int32) < wy
 refine g_icN X at_319 (tlt qcl).2.1 (pc' := 322) rfl ?_
 refine g_aload X at_322 (pc' := 324) rfl rfl rfl ?_
 refine g_iconst X (3 : Int32) at_324 (pc' := 325) rfl rfl ?_
 refine g_iaload X qr 3 at_325 (pc' := 326) rfl (by decide) (by decide) rfl ?_
 refine g_goto X at_326 (pc' := 346) (by decide) (by decide) ?_
 exact kj T X yu ia3
 refine g_icY X at_319 (flt qcl).2.1 (pc' := 329) (by decide) (by decide) ?_
 refine g_lload X at_329 (pc' := 331) rfl rfl ?_
 refine g_ldc2 X (tb hw 58 rfl) at_331 (pc' := 334) rfl ?_
 refine g_lmul X at_334 (pc' := 335) rfl ?_
 refine g_aload X at_335 (pc' := 337) rfl rfl rfl ?_
 refine g_iconst X (3 : Int32) at_337 (pc' := 338) rfl rfl ?_
 refine g_iaload X qh 3 at_338 (pc' := 339) rfl (by decide) (by decide) rfl ?_
 refine g_aload X at_339 (pc' := 341) rfl rfl rfl ?_
 refine g_iconst X (3 : Int32) at_341 (pc' := 342) rfl rfl ?_
 refine g_iaload X qi 3 at_342 (pc' := 343) rfl (by decide) (by decide) rfl ?_
 refine g_static X (W := 2) [(.long (j5 * (1609587929392839161 : Int64))), (.int qo), (.int jz)] [(.int (3 : Int32)), (.ref q9)] (tb hw 51 rfl) (tb hw 52 rfl) (tb hw 53 rfl) (tb hw 54 rfl) (rPick l Z aa hw [] (j5 * (1609587929392839161 : Int64)) qo jz _ (one_more le3).2) at_343 (pc' := 346) rfl (by decide) (by decide) (by decide) rfl rfl rfl (lenOf pd_6 rfl) (Nat.le_refl _) (by decide) (by decide) ?_
 intro v T L X q
 obtain ⟨rfl, X⟩ := pureX X q
 show Go p e below _ (T.setTop (mkF m 346 _ [(.int (fPick (j5 * (1609587929392839161 : Int64)) qo jz)), (.int (3 : Int32)), (.ref q9)]))
 exact kj T X (fPick (j5 * (1609587929392839161 : Int64)) qo jz) (pick_in le3)
 intro kj
 refine g_iconst X (2 : Int32) at_282 (pc' := 283) rfl rfl ?_
 refine g_iload X at_283 (pc' := 285) rfl rfl ?_
 by_cases qcm : (2 : Int32) < wy
 refine g_icN X at_285 (tlt qcm).2.1 (pc' := 288) rfl ?_
 refine g_aload X at_288 (pc' := 290) rfl rfl rfl ?_
 refine g_iconst X (2 : Int32) at_290 (pc' := 291) rfl rfl ?_
 refine g_iaload X qr 2 at_291 (pc' := 292) rfl (by decide) (by decide) rfl ?_
 refine g_goto X at_292 (pc' := 312) (by decide) (by decide) ?_
 exact kj T X yq ia2
 refine g_icY X at_285 (flt qcm).2.1 (pc' := 295) (by decide) (by decide) ?_
 refine g_lload X at_295 (pc' := 297) rfl rfl ?_
 refine g_ldc2 X (tb hw 57 rfl) at_297 (pc' := 300) rfl ?_
 refine g_lmul X at_300 (pc' := 301) rfl ?_
 refine g_aload X at_301 (pc' := 303) rfl rfl rfl ?_
 refine g_iconst X (2 : Int32) at_303 (pc' := 304) rfl rfl ?_
 refine g_iaload X qh 2 at_304 (pc' := 305) rfl (by decide) (by decide) rfl ?_
 refine g_aload X at_305 (pc' := 307) rfl rfl rfl ?_
 refine g_iconst X (2 : Int32) at_307 (pc' := 308) rfl rfl ?_
 refine g_iaload X qi 2 at_308 (pc' := 309) rfl (by decide) (by decide) rfl ?_
 refine g_static X (W := 2) [(.long (j5 * (-4417276706812531889 : Int64))), (.int qn), (.int jw)] [(.int (2 : Int32)), (.ref q9)] (tb hw 51 rfl) (tb hw 52 rfl) (tb hw 53 rfl) (tb hw 54 rfl) (rPick l Z aa hw [] (j5 * (-4417276706812531889 : Int64)) qn jw _ (one_more le2).2) at_309 (pc' := 312) rfl (by decide) (by decide) (by decide) rfl rfl rfl (lenOf pd_6 rfl) (Nat.le_refl _) (by decide) (by decide) ?_
 intro v T L X q
 obtain ⟨rfl, X⟩ := pureX X q
 show Go p e below _ (T.setTop (mkF m 312 _ [(.int (fPick (j5 * (-4417276706812531889 : Int64)) qn jw)), (.int (2 : Int32)), (.ref q9)]))
 exact kj T X (fPick (j5 * (-4417276706812531889 : Int64)) qn jw) (pick_in le2)
 intro kj
 refine g_iconst X (1 : Int32) at_248 (pc' := 249) rfl rfl ?_
 refine g_iload X at_249 (pc' := 251) rfl rfl ?_
 by_cases qcn : (1 : Int32) < wy
 refine g_icN X at_251 (tlt qcn).2.1 (pc' := 254) rfl ?_
 refine g_aload X at_254 (pc' := 256) rfl rfl rfl ?_
 refine g_iconst X (1 : Int32) at_256 (pc' := 257) rfl rfl ?_
 refine g_iaload X qr 1 at_257 (pc' := 258) rfl (by decide) (by decide) rfl ?_
 refine g_goto X at_258 (pc' := 278) (by decide) (by decide) ?_
 exact kj T X yl ia1
 refine g_icY X at_251 (flt qcn).2.1 (pc' := 261) (by decide) (by decide) ?_
 refine g_lload X at_261 (pc' := 263) rfl rfl ?_
 refine g_ldc2 X (tb hw 56 rfl) at_263 (pc' := 266) rfl ?_
 refine g_lmul X at_266 (pc' := 267) rfl ?_
 refine g_aload X at_267 (pc' := 269) rfl rfl rfl ?_
 refine g_iconst X (1 : Int32) at_269 (pc' := 270) rfl rfl ?_
 refine g_iaload X qh 1 at_270 (pc' := 271) rfl (by decide) (by decide) rfl ?_
 refine g_aload X at_271 (pc' := 273) rfl rfl rfl ?_
 refine g_iconst X (1 : Int32) at_273 (pc' := 274) rfl rfl ?_
 refine g_iaload X qi 1 at_274 (pc' := 275) rfl (by decide) (by decide) rfl ?_
 refine g_static X (W := 2) [(.long (j5 * (-7046029254386353131 : Int64))), (.int qm), (.int jp)] [(.int (1 : Int32)), (.ref q9)] (tb hw 51 rfl) (tb hw 52 rfl) (tb hw 53 rfl) (tb hw 54 rfl) (rPick l Z aa hw [] (j5 * (-7046029254386353131 : Int64)) qm jp _ (one_more le1).2) at_275 (pc' := 278) rfl (by decide) (by decide) (by decide) rfl rfl rfl (lenOf pd_6 rfl) (Nat.le_refl _) (by decide) (by decide) ?_
 intro v T L X q
 obtain ⟨rfl, X⟩ := pureX X q
 show Go p e below _ (T.setTop (mkF m 278 _ [(.int (fPick (j5 * (-7046029254386353131 : Int64)) qm jp)), (.int (1 : Int32)), (.ref q9)]))
 exact kj T X (fPick (j5 * (-7046029254386353131 : Int64)) qm jp) (pick_in le1)
 intro kj
 refine g_iconst X (0 : Int32) at_214 (pc' := 215) rfl rfl ?_
 refine g_iload X at_215 (pc' := 217) rfl rfl ?_
 by_cases qco : (0 : Int32) < wy
 refine g_icN X at_217 (tlt qco).2.1 (pc' := 220) rfl ?_
 refine g_aload X at_220 (pc' := 222) rfl rfl rfl ?_
 refine g_iconst X (0 : Int32) at_222 (pc' := 223) rfl rfl ?_
 refine g_iaload X qr 0 at_223 (pc' := 224) rfl (by decide) (by decide) rfl ?_
 refine g_goto X at_224 (pc' := 244) (by decide) (by decide) ?_
 exact kj T X yh ia0
 refine g_icY X at_217 (flt qco).2.1 (pc' := 227) (by decide) (by decide) ?_
 refine g_lload X at_227 (pc' := 229) rfl rfl ?_
 refine g_ldc2 X (tb hw 95 rfl) at_229 (pc' := 232) rfl ?_
 refine g_lmul X at_232 (pc' := 233) rfl ?_
 refine g_aload X at_233 (pc' := 235) rfl rfl rfl ?_
 refine g_iconst X (0 : Int32) at_235 (pc' := 236) rfl rfl ?_
 refine g_iaload X qh 0 at_236 (pc' := 237) rfl (by decide) (by decide) rfl ?_
 refine g_aload X at_237 (pc' := 239) rfl rfl rfl ?_
 refine g_iconst X (0 : Int32) at_239 (pc' := 240) rfl rfl ?_
 refine g_iaload X qi 0 at_240 (pc' := 241) rfl (by decide) (by decide) rfl ?_
 refine g_static X (W := 2) [(.long (j5 * (-2960836687051489901 : Int64))), (.int ql), (.int jc)] [(.int (0 : Int32)), (.ref q9)] (tb hw 51 rfl) (tb hw 52 rfl) (tb hw 53 rfl) (tb hw 54 rfl) (rPick l Z aa hw [] (j5 * (-2960836687051489901 : Int64)) ql jc _ (one_more le0).2) at_241 (pc' := 244) rfl (by decide) (by decide) (by decide) rfl rfl rfl (lenOf pd_6 rfl) (Nat.le_refl _) (by decide) (by decide) ?_
 intro v T L X q
 obtain ⟨rfl, X⟩ := pureX X q
 show Go p e below _ (T.setTop (mkF m 244 _ [(.int (fPick (j5 * (-2960836687051489901 : Int64)) ql jc)), (.int (0 : Int32)), (.ref q9)]))
 exact kj T X (fPick (j5 * (-2960836687051489901 : Int64)) ql jc) (pick_in le0)
set_option maxRecDepth 65536 in
set_option maxHeartbeats 40000000 in
theorem comes_1 {Post : Tables → Env → Array Value → State → Outcome → State → Prop} (hpost : ∀ tb e args s v u, (limb_1_1.after args s (.returned v) u = true ∧ limb_1_2.after args s (.returned v) u = true ∧ True) → FrameEnd s (.returned v) u (Jvm.fieldLocs frame_1_writes args s ++ Jvm.arrayLocs frame_1_arrays args s ++ Jvm.staticLocs frame_1_statics s) 40 192 → Post tb e args s (.returned v) u) :
    ArmFor flags0 classFile x code maxLocals ret World_1 tables_1 room_1 Calls_1 rest_1 Pre_1 Post := by
  intro l hfl _ _ p e ha hc hk s m args below hf hA hF happ hP
  obtain ⟨hcalls, hrest, hpre⟩ := hP
  obtain ⟨-, -, -, hnamed, -, -, -, hat⟩ := (Spec.applies_iff hf).mp happ
  obtain ⟨hg, hn⟩ := and_e (Cond.before_iff.mp (show (Jvm.Cond.and given_1 narrow_1).before args s = true from hpre))
  obtain ⟨g1, g2⟩ := and_e hg
  obtain ⟨g3, g4⟩ := and_e g2
  obtain ⟨g5, g6⟩ := and_e g4
  obtain ⟨g7, g8⟩ := and_e g6
  obtain ⟨g9, g10⟩ := and_e g8
  obtain ⟨g11, g12⟩ := and_e g10
  obtain ⟨w0, w1, w2, w3, w4, w5, rfl⟩ : ∃ w0 w1 w2 w3 w4 w5 : Value, args = #[w0, w1, w2, w3, w4, w5] := by
    have hs : args.size = 6 := by simpa [Cond.value, given_1] using g1
    obtain ⟨L⟩ := args
    match L, hs with
    | [w0, w1, w2, w3, w4, w5], _ => exact ⟨w0, w1, w2, w3, w4, w5, rfl⟩
  have hw := fun d (hd : d ∈ tables_1) => atoms_spec (ws := Jvm.Cond.code x code maxLocals ret :: tables_1) hat d (List.mem_cons_of_mem _ hd)
  have hfit : Fit s := fun {y c} hc i hi => by
    obtain ⟨ha, rfl⟩ := Array.getElem?_eq_some_iff.mp hc
    have q := List.all_eq_true.mp ((Array.all_eq_true_iff_forall_mem.mp hF) _ (Array.getElem_mem ha)) i (List.mem_range.mpr hi)
    simpa [Array.getElem?_eq_getElem hi] using q
  obtain ⟨i0, ei0⟩ := is_v g3
  obtain rfl : w0 = (.int i0) := Option.some.inj ei0
  obtain ⟨i1, ei1⟩ := is_v g5
  obtain rfl : w1 = (.int i1) := Option.some.inj ei1
  obtain ⟨i2, ei2⟩ := is_v g7
  obtain rfl : w2 = (.int i2) := Option.some.inj ei2
  obtain ⟨i3, ei3⟩ := is_v g9
  obtain rfl : w3 = (.int i3) := Option.some.inj ei3
  obtain ⟨i4, ei4⟩ := isL_v g11
  obtain rfl : w4 = (.long i4) := Option.some.inj ei4
  obtain ⟨i5, ei5⟩ := isL_v g12
  obtain rfl : w5 = (.long i5) := Option.some.inj ei5
  obtain ⟨n, o, h1, h2, h3, _, L, rfl, ⟨rfl, N⟩, hq⟩ := rLaw l s _ hw tables_1 i0 i1 i2 i3 i4 i5 s.heap s.heap.size (Nat.le_refl _) p e ha hc hk s m _ below hf ((Spec.applies_iff_loose hf).mp happ).1 ⟨rfl, State.Warmed39.refl s, rfl⟩ trivial
  refine ⟨n, _, h1, h2, h3, hpost _ _ _ _ _ _ ⟨Cond.after_iff.mpr rfl, Cond.after_iff.mpr (eq_i res_at (Term.int_eval (1)) rfl), trivial⟩ ⟨hq.1, hq.2.1, (hq.2.2.sift fun y hy => Or.inr (N y hy)).mono (by decide) (by decide)⟩⟩
theorem main_1_1 : Claimed_1_1 := comes_1 fun _ _ _ _ _ _ h hF => ⟨h.1, hF⟩
theorem main_1_2 : Claimed_1_2 := comes_1 fun _ _ _ _ _ _ h hF => ⟨h.2.1, hF⟩

end Jvm.Pilot.@@N@@
namespace Jvm.Pilot.@@N@@
open Jvm Jvm.ClassFile Sem Op Lib Jvm.Free Jvm.Stand Jvm.Pilot.@@N@@.Jvm.D
/-! MADE BY PROGRAM (witnessworld.py) out of the Statement's table words and the real class files: 18 classes; the members and pool entries that the words name. The judged class is class 1, her method 6. -/
namespace start1
open Jvm.ClassFile
def u (s : String) : CpInfo := .utf8 (stringToUtf16 s)
/-- a pool by its gaps: so many unusable entries, then the entry; so many at the end -/
def gap : Nat → List CpInfo → List CpInfo
  | 0, r => r
  | n + 1, r => .unusable :: gap n r
def poolList (es : List (Nat × CpInfo)) (last : Nat) : List CpInfo := es.foldr (fun e r => gap e.1 (e.2 :: r)) (gap last [])
def pool (es : List (Nat × CpInfo)) (last : Nat) : Array CpInfo := ⟨poolList es last⟩
def fileOf (pool : Array CpInfo) (this : Nat) (attrs : Array Attribute := #[]) (ms : Array MethodInfo := #[]) (fl : Nat := 33) (sup : Nat := 0) (ifs : Array Nat := #[]) (fds : Array FieldInfo := #[]) : ClassFile where
  minorVersion := 0
  majorVersion := 65
  constantPool := pool
  accessFlags := fl
  thisClass := this
  superClass := sup
  interfaces := ifs
  fields := fds
  methods := ms
  attributes := attrs
def plain (name : String) (sup : Option ClassId) : Class where
  name := name
  kind := .ordinary
  loader := none
  accessFlags := 33
  super := sup
  interfaces := #[]
  cf := none
  fields := #[]
  methods := #[]
  instanceTypes := #[]
  staticTypes := #[]
  resolved := #[]
  callSites := []
  init := .initialized
  statics := none
  mirror := none

def pool0 : Array CpInfo := pool [(5, u "<init>"), (0, u "()V"), (1, .class_ 10), (1, u "java/lang/Object"), (85, u "clone"), (0, u "()Ljava/lang/Object;")] 26

def k0c0 : Code := { maxStack := 0, maxLocals := 1, code := object_method_1_code, exceptionTable := #[], attributes := #[] }
def k0m0 : Method := { name := "<init>", desc := "()V", sig := { parameters := [], returnType := none }, accessFlags := 1, code := some k0c0 }
def k0m1 : Method := { name := "clone", desc := "()Ljava/lang/Object;", sig := { parameters := [], returnType := some (.object "java/lang/Object") }, accessFlags := 260, code := none }
/-- java/lang/Object -/
def k0 : Class := { plain "java/lang/Object" none with
  accessFlags := 33
  interfaces := #[]
  cf := some (fileOf pool0 8 #[] #[{ accessFlags := 1, nameIndex := 5, descriptorIndex := 6, attributes := #[] }, { accessFlags := 260, nameIndex := 96, descriptorIndex := 97, attributes := #[] }] 33 0 #[] #[])
  fields := #[]
  methods := #[k0m0, k0m1]
  instanceTypes := #[]
  staticTypes := #[]
  resolved := Array.replicate 124 none
  statics := none }

def pool1 : Array CpInfo := pool [(2, .class_ 4), (1, u "java/lang/Object"), (0, u "<init>"), (0, u "()V"), (2, .long 9223372036854775807), (1, .methodref 12 13), (0, .class_ 14), (0, .nameAndType 15 16), (0, u "com/example/ryazan/ryazan/language/LayoutPackPinLaw"), (0, u "cmp"), (0, u "(II)I"), (0, .methodref 18 19), (0, .class_ 20), (0, .nameAndType 21 16), (0, u "java/lang/Math"), (0, u "min"), (0, .methodref 18 23), (0, .nameAndType 24 16), (0, u "max"), (0, .class_ 26), (0, u "com/example/ryazan/ryazan/language/Layout"), (0, .methodref 25 28), (0, .nameAndType 5 29), (0, u "([I[I)V"), (0, .methodref 25 31), (0, .nameAndType 32 33), (0, u "width"), (0, u "()I"), (0, .methodref 12 35), (0, .nameAndType 36 37), (0, u "pick"), (0, u "(JII)I"), (0, .long 11400714819323198485), (1, .long 14029467366897019727), (1, .long 1609587929392839161), (1, .long 255), (1, .long 5), (1, .long 15485907386658061715), (1, .long 18446744073709551615), (1, .long 81985529216486895), (1, .methodref 25 55), (0, .nameAndType 56 57), (0, u "pack"), (0, u "([I[JI)V"), (0, .methodref 25 59), (0, .nameAndType 60 61), (0, u "unpack"), (0, u "([JI[I)V"), (0, .methodref 12 63), (0, .nameAndType 64 65), (0, u "untouched"), (0, u "([JIIJ)Z"), (0, .methodref 25 67), (0, .nameAndType 68 69), (0, u "compare"), (0, u "([JI[JII)I"), (0, .methodref 12 71), (0, .nameAndType 72 73), (0, u "sign"), (0, u "(I)I"), (0, .methodref 12 75), (0, .nameAndType 76 77), (0, u "lex"), (0, u "([I[I)I"), (3, u "law"), (0, u "(IIIIJJ)Z")] 6

def k1m0 : Method := { name := "<init>", desc := "()V", sig := { parameters := [], returnType := none }, accessFlags := 1, code := none }
def k1c1 : Code := { maxStack := 6, maxLocals := 8, code := method_2_code, exceptionTable := #[], attributes := #[] }
def k1m1 : Method := { name := "pick", desc := "(JII)I", sig := { parameters := [.long, .int, .int], returnType := some .int }, accessFlags := 10, code := some k1c1 }
def k1c2 : Code := { maxStack := 2, maxLocals := 2, code := method_3_code, exceptionTable := #[], attributes := #[] }
def k1m2 : Method := { name := "cmp", desc := "(II)I", sig := { parameters := [.int, .int], returnType := some .int }, accessFlags := 10, code := some k1c2 }
def k1c3 : Code := { maxStack := 1, maxLocals := 1, code := method_4_code, exceptionTable := #[], attributes := #[] }
def k1m3 : Method := { name := "sign", desc := "(I)I", sig := { parameters := [.int], returnType := some .int }, accessFlags := 10, code := some k1c3 }
def k1c4 : Code := { maxStack := 3, maxLocals := 3, code := method_5_code, exceptionTable := #[], attributes := #[] }
def k1m4 : Method := { name := "lex", desc := "([I[I)I", sig := { parameters := [(.array .int), (.array .int)], returnType := some .int }, accessFlags := 10, code := some k1c4 }
def k1c5 : Code := { maxStack := 4, maxLocals := 6, code := method_6_code, exceptionTable := #[], attributes := #[] }
def k1m5 : Method := { name := "untouched", desc := "([JIIJ)Z", sig := { parameters := [(.array .long), .int, .int, .long], returnType := some .boolean }, accessFlags := 10, code := some k1c5 }
def k1c6 : Code := { maxStack := 7, maxLocals := 26, code := code, exceptionTable := #[], attributes := #[] }
def k1m6 : Method := { name := "law", desc := "(IIIIJJ)Z", sig := { parameters := [.int, .int, .int, .int, .long, .long], returnType := some .boolean }, accessFlags := 9, code := some k1c6 }
/-- com/example/ryazan/ryazan/language/LayoutPackPinLaw -/
def k1 : Class := { plain "com/example/ryazan/ryazan/language/LayoutPackPinLaw" (some 0) with
  accessFlags := 49
  interfaces := #[]
  cf := some (fileOf pool1 12 #[] #[{ accessFlags := 1, nameIndex := 5, descriptorIndex := 6, attributes := #[] }, { accessFlags := 10, nameIndex := 36, descriptorIndex := 37, attributes := #[] }, { accessFlags := 10, nameIndex := 15, descriptorIndex := 16, attributes := #[] }, { accessFlags := 10, nameIndex := 72, descriptorIndex := 73, attributes := #[] }, { accessFlags := 10, nameIndex := 76, descriptorIndex := 77, attributes := #[] }, { accessFlags := 10, nameIndex := 64, descriptorIndex := 65, attributes := #[] }, { accessFlags := 9, nameIndex := 81, descriptorIndex := 82, attributes := #[] }] 49 2 #[] #[])
  fields := #[]
  methods := #[k1m0, k1m1, k1m2, k1m3, k1m4, k1m5, k1m6]
  instanceTypes := #[]
  staticTypes := #[]
  resolved := Array.replicate 89 none
  statics := none }

def pool2 : Array CpInfo := pool [(1, .class_ 2), (0, u "java/lang/Math"), (1, .class_ 6), (1, u "java/lang/Object"), (0, u "<init>"), (0, u "()V"), (89, .class_ 100), (1, u "java/lang/Math$RandomNumberGeneratorHolder"), (71, u "negativeZeroFloatBits"), (0, u "J"), (2, u "negativeZeroDoubleBits"), (21, u "max"), (2, u "min"), (43, u "$assertionsDisabled"), (0, u "Z"), (88, u "(II)I"), (2, u "twoToTheDoubleScaleDown"), (0, u "D"), (4, u "twoToTheDoubleScaleUp"), (9, u "E"), (3, u "PI"), (2, u "TAU"), (2, u "DEGREES_TO_RADIANS"), (0, u "RADIANS_TO_DEGREES")] 94

def k2m0 : Method := { name := "<init>", desc := "()V", sig := { parameters := [], returnType := none }, accessFlags := 2, code := none }
def k2c1 : Code := { maxStack := 2, maxLocals := 2, code := jdk_29_method_65_code, exceptionTable := #[], attributes := #[] }
def k2m1 : Method := { name := "max", desc := "(II)I", sig := { parameters := [.int, .int], returnType := some .int }, accessFlags := 9, code := some k2c1 }
def k2c2 : Code := { maxStack := 2, maxLocals := 2, code := jdk_29_method_69_code, exceptionTable := #[], attributes := #[] }
def k2m2 : Method := { name := "min", desc := "(II)I", sig := { parameters := [.int, .int], returnType := some .int }, accessFlags := 9, code := some k2c2 }
/-- java/lang/Math -/
def k2 : Class := { plain "java/lang/Math" (some 0) with
  accessFlags := 49
  interfaces := #[]
  cf := some (fileOf pool2 1 #[.nestMembers #[98]] #[{ accessFlags := 2, nameIndex := 7, descriptorIndex := 8, attributes := #[] }, { accessFlags := 9, nameIndex := 198, descriptorIndex := 335, attributes := #[] }, { accessFlags := 9, nameIndex := 201, descriptorIndex := 335, attributes := #[] }] 49 4 #[] #[{ accessFlags := 25, nameIndex := 354, descriptorIndex := 339, attributes := #[] }, { accessFlags := 25, nameIndex := 358, descriptorIndex := 339, attributes := #[] }, { accessFlags := 25, nameIndex := 361, descriptorIndex := 339, attributes := #[] }, { accessFlags := 26, nameIndex := 364, descriptorIndex := 339, attributes := #[] }, { accessFlags := 26, nameIndex := 365, descriptorIndex := 339, attributes := #[] }, { accessFlags := 26, nameIndex := 172, descriptorIndex := 173, attributes := #[] }, { accessFlags := 26, nameIndex := 176, descriptorIndex := 173, attributes := #[] }, { accessFlags := 8, nameIndex := 344, descriptorIndex := 339, attributes := #[] }, { accessFlags := 8, nameIndex := 338, descriptorIndex := 339, attributes := #[] }, { accessFlags := 4120, nameIndex := 245, descriptorIndex := 246, attributes := #[] }])
  fields := #[{ name := "E", type := .double, accessFlags := 25, slot := 0, constantValue := 0 }, { name := "PI", type := .double, accessFlags := 25, slot := 1, constantValue := 0 }, { name := "TAU", type := .double, accessFlags := 25, slot := 2, constantValue := 0 }, { name := "DEGREES_TO_RADIANS", type := .double, accessFlags := 26, slot := 3, constantValue := 0 }, { name := "RADIANS_TO_DEGREES", type := .double, accessFlags := 26, slot := 4, constantValue := 0 }, { name := "negativeZeroFloatBits", type := .long, accessFlags := 26, slot := 5, constantValue := 0 }, { name := "negativeZeroDoubleBits", type := .long, accessFlags := 26, slot := 6, constantValue := 0 }, { name := "twoToTheDoubleScaleUp", type := .double, accessFlags := 8, slot := 7, constantValue := 0 }, { name := "twoToTheDoubleScaleDown", type := .double, accessFlags := 8, slot := 8, constantValue := 0 }, { name := "$assertionsDisabled", type := .boolean, accessFlags := 4120, slot := 9, constantValue := 0 }]
  methods := #[k2m0, k2m1, k2m2]
  instanceTypes := #[]
  staticTypes := #[.double, .double, .double, .double, .double, .long, .long, .double, .double, .boolean]
  resolved := Array.replicate 460 none
  statics := none }

def pool3 : Array CpInfo := pool [(1, .methodref 2 3), (0, .class_ 4), (0, .nameAndType 5 6), (0, u "java/lang/Object"), (0, u "<init>"), (0, u "()V"), (0, .methodref 8 9), (0, .class_ 10), (0, .nameAndType 11 12), (0, u "[I"), (0, u "clone"), (0, u "()Ljava/lang/Object;"), (0, .fieldref 14 15), (0, .class_ 16), (0, .nameAndType 17 10), (0, u "com/example/ryazan/ryazan/language/Layout"), (0, u "low"), (0, .fieldref 14 19), (0, .nameAndType 20 10), (0, u "word"), (0, .fieldref 14 22), (0, .nameAndType 23 10), (0, u "shift"), (0, .fieldref 14 25), (0, .nameAndType 26 27), (0, u "mask"), (0, u "[J"), (0, .class_ 29), (0, u "java/lang/Long"), (0, .methodref 28 31), (0, .nameAndType 32 33), (0, u "numberOfLeadingZeros"), (0, u "(J)I"), (0, .fieldref 14 35), (0, .nameAndType 36 37), (0, u "width"), (0, u "I"), (0, .methodref 28 39), (0, .nameAndType 40 41), (0, u "compareUnsigned"), (0, u "(JJ)I"), (0, u "([I[I)V"), (3, u "()I"), (0, u "pack"), (0, u "([I[JI)V"), (0, u "unpack"), (0, u "([JI[I)V"), (0, u "compare"), (0, u "([JI[JII)I")] 2

def k3c0 : Code := { maxStack := 6, maxLocals := 9, code := prog_58_method_1_code, exceptionTable := #[], attributes := #[] }
def k3m0 : Method := { name := "<init>", desc := "([I[I)V", sig := { parameters := [(.array .int), (.array .int)], returnType := none }, accessFlags := 0, code := some k3c0 }
def k3c1 : Code := { maxStack := 1, maxLocals := 1, code := prog_58_method_2_code, exceptionTable := #[], attributes := #[] }
def k3m1 : Method := { name := "width", desc := "()I", sig := { parameters := [], returnType := some .int }, accessFlags := 0, code := some k3c1 }
def k3c2 : Code := { maxStack := 8, maxLocals := 5, code := prog_58_method_3_code, exceptionTable := #[], attributes := #[] }
def k3m2 : Method := { name := "pack", desc := "([I[JI)V", sig := { parameters := [(.array .int), (.array .long), .int], returnType := none }, accessFlags := 0, code := some k3c2 }
def k3c3 : Code := { maxStack := 6, maxLocals := 5, code := prog_58_method_4_code, exceptionTable := #[], attributes := #[] }
def k3m3 : Method := { name := "unpack", desc := "([JI[I)V", sig := { parameters := [(.array .long), .int, (.array .int)], returnType := none }, accessFlags := 0, code := some k3c3 }
def k3c4 : Code := { maxStack := 5, maxLocals := 7, code := prog_58_method_5_code, exceptionTable := #[], attributes := #[] }
def k3m4 : Method := { name := "compare", desc := "([JI[JII)I", sig := { parameters := [(.array .long), .int, (.array .long), .int, .int], returnType := some .int }, accessFlags := 8, code := some k3c4 }
/-- com/example/ryazan/ryazan/language/Layout -/
def k3 : Class := { plain "com/example/ryazan/ryazan/language/Layout" (some 0) with
  accessFlags := 32
  interfaces := #[]
  cf := some (fileOf pool3 14 #[] #[{ accessFlags := 0, nameIndex := 5, descriptorIndex := 42, attributes := #[] }, { accessFlags := 0, nameIndex := 36, descriptorIndex := 46, attributes := #[] }, { accessFlags := 0, nameIndex := 47, descriptorIndex := 48, attributes := #[] }, { accessFlags := 0, nameIndex := 49, descriptorIndex := 50, attributes := #[] }, { accessFlags := 8, nameIndex := 51, descriptorIndex := 52, attributes := #[] }] 32 2 #[] #[{ accessFlags := 18, nameIndex := 17, descriptorIndex := 10, attributes := #[] }, { accessFlags := 18, nameIndex := 20, descriptorIndex := 10, attributes := #[] }, { accessFlags := 18, nameIndex := 23, descriptorIndex := 10, attributes := #[] }, { accessFlags := 18, nameIndex := 26, descriptorIndex := 27, attributes := #[] }, { accessFlags := 18, nameIndex := 36, descriptorIndex := 37, attributes := #[] }])
  fields := #[{ name := "low", type := (.array .int), accessFlags := 18, slot := 0, constantValue := 0 }, { name := "word", type := (.array .int), accessFlags := 18, slot := 1, constantValue := 0 }, { name := "shift", type := (.array .int), accessFlags := 18, slot := 2, constantValue := 0 }, { name := "mask", type := (.array .long), accessFlags := 18, slot := 3, constantValue := 0 }, { name := "width", type := .int, accessFlags := 18, slot := 4, constantValue := 0 }]
  methods := #[k3m0, k3m1, k3m2, k3m3, k3m4]
  instanceTypes := #[(.array .int), (.array .int), (.array .int), (.array .long), .int]
  staticTypes := #[]
  resolved := Array.replicate 55 none
  statics := none }

def pool4 : Array CpInfo := pool [(1, .class_ 2), (0, u "java/lang/Cloneable"), (0, .class_ 4), (0, u "java/lang/Object")] 2

/-- java/lang/Cloneable -/
def k4 : Class := { plain "java/lang/Cloneable" (some 0) with
  accessFlags := 1537
  interfaces := #[]
  cf := some (fileOf pool4 1 #[] #[] 1537 3 #[] #[])
  fields := #[]
  methods := #[]
  instanceTypes := #[]
  staticTypes := #[]
  resolved := Array.replicate 7 none
  statics := none }

def pool5 : Array CpInfo := pool [(1, .class_ 2), (0, u "java/io/Serializable"), (0, .class_ 4), (0, u "java/lang/Object")] 2

/-- java/io/Serializable -/
def k5 : Class := { plain "java/io/Serializable" (some 0) with
  accessFlags := 1537
  interfaces := #[]
  cf := some (fileOf pool5 1 #[] #[] 1537 3 #[] #[])
  fields := #[]
  methods := #[]
  instanceTypes := #[]
  staticTypes := #[]
  resolved := Array.replicate 7 none
  statics := none }

def pool6 : Array CpInfo := pool [(2, .class_ 4), (1, u "java/lang/Object"), (0, u "<init>"), (0, u "()V"), (1, .class_ 10), (1, u "java/lang/Number"), (2, .class_ 14), (0, u "java/io/Serializable"), (0, u "serialVersionUID"), (0, u "J")] 20

def k6m0 : Method := { name := "<init>", desc := "()V", sig := { parameters := [], returnType := none }, accessFlags := 1, code := none }
/-- java/lang/Number -/
def k6 : Class := { plain "java/lang/Number" (some 0) with
  accessFlags := 1057
  interfaces := #[5]
  cf := some (fileOf pool6 8 #[] #[{ accessFlags := 1, nameIndex := 5, descriptorIndex := 6, attributes := #[] }] 1057 2 #[13] #[{ accessFlags := 26, nameIndex := 15, descriptorIndex := 16, attributes := #[] }])
  fields := #[{ name := "serialVersionUID", type := .long, accessFlags := 26, slot := 0, constantValue := 0 }]
  methods := #[k6m0]
  instanceTypes := #[]
  staticTypes := #[.long]
  resolved := Array.replicate 37 none
  statics := none }

def pool7 : Array CpInfo := pool [(1, .class_ 2), (0, u "java/lang/Comparable"), (0, .class_ 4), (0, u "java/lang/Object")] 7

/-- java/lang/Comparable -/
def k7 : Class := { plain "java/lang/Comparable" (some 0) with
  accessFlags := 1537
  interfaces := #[]
  cf := some (fileOf pool7 1 #[] #[] 1537 3 #[] #[])
  fields := #[]
  methods := #[]
  instanceTypes := #[]
  staticTypes := #[]
  resolved := Array.replicate 12 none
  statics := none }

def pool8 : Array CpInfo := pool [(1, .class_ 2), (0, u "java/lang/constant/Constable"), (0, .class_ 4), (0, u "java/lang/Object")] 6

/-- java/lang/constant/Constable -/
def k8 : Class := { plain "java/lang/constant/Constable" (some 0) with
  accessFlags := 1537
  interfaces := #[]
  cf := some (fileOf pool8 1 #[] #[] 1537 3 #[] #[])
  fields := #[]
  methods := #[]
  instanceTypes := #[]
  staticTypes := #[]
  resolved := Array.replicate 11 none
  statics := none }

def pool9 : Array CpInfo := pool [(1, .class_ 2), (0, u "java/lang/constant/ConstantDesc"), (0, .class_ 4), (0, u "java/lang/Object")] 32

/-- java/lang/constant/ConstantDesc -/
def k9 : Class := { plain "java/lang/constant/ConstantDesc" (some 0) with
  accessFlags := 1537
  interfaces := #[]
  cf := some (fileOf pool9 1 #[] #[] 1537 3 #[] #[])
  fields := #[]
  methods := #[]
  instanceTypes := #[]
  staticTypes := #[]
  resolved := Array.replicate 37 none
  statics := none }

def pool10 : Array CpInfo := pool [(1, .class_ 2), (0, u "java/lang/Long"), (15, .class_ 20), (1, u "java/lang/Integer"), (79, u "numberOfLeadingZeros"), (0, u "(J)I"), (66, .long 9223372036854775808), (66, .class_ 237), (1, u "java/lang/Long$LongCache"), (33, .class_ 272), (0, u "java/lang/Number"), (2, u "value"), (0, u "J"), (25, .methodref 1 303), (0, .nameAndType 304 305), (0, u "compare"), (0, u "(JJ)I"), (2, .methodref 18 309), (0, .nameAndType 100 310), (0, u "(I)I"), (50, u "TYPE"), (0, u "Ljava/lang/Class;"), (0, .class_ 364), (0, u "java/lang/Comparable"), (0, .class_ 366), (0, u "java/lang/constant/Constable"), (0, .class_ 368), (0, u "java/lang/constant/ConstantDesc"), (0, u "MIN_VALUE"), (1, u "MAX_VALUE"), (4, u "SIZE"), (0, u "I"), (1, u "BYTES"), (1, u "serialVersionUID"), (87, u "compareUnsigned")] 54

def k10c0 : Code := { maxStack := 4, maxLocals := 4, code := jdk_35_method_42_code, exceptionTable := #[], attributes := #[] }
def k10m0 : Method := { name := "compare", desc := "(JJ)I", sig := { parameters := [.long, .long], returnType := some .int }, accessFlags := 9, code := some k10c0 }
def k10c1 : Code := { maxStack := 6, maxLocals := 4, code := jdk_35_method_43_code, exceptionTable := #[], attributes := #[] }
def k10m1 : Method := { name := "compareUnsigned", desc := "(JJ)I", sig := { parameters := [.long, .long], returnType := some .int }, accessFlags := 9, code := some k10c1 }
def k10c2 : Code := { maxStack := 3, maxLocals := 3, code := jdk_35_method_48_code, exceptionTable := #[], attributes := #[] }
def k10m2 : Method := { name := "numberOfLeadingZeros", desc := "(J)I", sig := { parameters := [.long], returnType := some .int }, accessFlags := 9, code := some k10c2 }
/-- java/lang/Long -/
def k10 : Class := { plain "java/lang/Long" (some 6) with
  accessFlags := 49
  interfaces := #[7, 8, 9]
  cf := some (fileOf pool10 1 #[.nestMembers #[235]] #[{ accessFlags := 9, nameIndex := 304, descriptorIndex := 305, attributes := #[] }, { accessFlags := 9, nameIndex := 469, descriptorIndex := 305, attributes := #[] }, { accessFlags := 9, nameIndex := 100, descriptorIndex := 101, attributes := #[] }] 49 271 #[363, 365, 367] #[{ accessFlags := 25, nameIndex := 369, descriptorIndex := 276, attributes := #[] }, { accessFlags := 25, nameIndex := 371, descriptorIndex := 276, attributes := #[] }, { accessFlags := 25, nameIndex := 361, descriptorIndex := 362, attributes := #[] }, { accessFlags := 18, nameIndex := 275, descriptorIndex := 276, attributes := #[] }, { accessFlags := 25, nameIndex := 376, descriptorIndex := 377, attributes := #[] }, { accessFlags := 25, nameIndex := 379, descriptorIndex := 377, attributes := #[] }, { accessFlags := 26, nameIndex := 381, descriptorIndex := 276, attributes := #[] }])
  fields := #[{ name := "MIN_VALUE", type := .long, accessFlags := 25, slot := 0, constantValue := 0 }, { name := "MAX_VALUE", type := .long, accessFlags := 25, slot := 1, constantValue := 0 }, { name := "TYPE", type := (.object "java/lang/Class"), accessFlags := 25, slot := 2, constantValue := 0 }, { name := "value", type := .long, accessFlags := 18, slot := 0, constantValue := 0 }, { name := "SIZE", type := .int, accessFlags := 25, slot := 3, constantValue := 0 }, { name := "BYTES", type := .int, accessFlags := 25, slot := 4, constantValue := 0 }, { name := "serialVersionUID", type := .long, accessFlags := 26, slot := 5, constantValue := 0 }]
  methods := #[k10m0, k10m1, k10m2]
  instanceTypes := #[.long]
  staticTypes := #[.long, .long, (.object "java/lang/Class"), .int, .int, .long]
  resolved := Array.replicate 524 none
  statics := none }

def pool11 : Array CpInfo := pool [(1, .class_ 2), (0, u "java/lang/Integer"), (16, u "digits"), (0, u "[C"), (32, u "numberOfLeadingZeros"), (0, u "(I)I"), (30, u "DigitOnes"), (0, u "[B"), (2, u "DigitTens"), (99, .class_ 190), (0, u "java/lang/Integer$IntegerCache"), (3, u "I"), (8, .class_ 204), (0, u "java/lang/Number"), (2, u "value"), (56, .integer 65536), (37, u "TYPE"), (0, u "Ljava/lang/Class;"), (0, .class_ 305), (0, u "java/lang/Comparable"), (0, .class_ 307), (0, u "java/lang/constant/Constable"), (0, .class_ 309), (0, u "java/lang/constant/ConstantDesc"), (0, u "MIN_VALUE"), (1, u "MAX_VALUE"), (3, u "SIZE"), (1, u "BYTES"), (1, u "serialVersionUID"), (0, u "J")] 131

def k11c0 : Code := { maxStack := 3, maxLocals := 2, code := jdk_33_method_47_code, exceptionTable := #[], attributes := #[] }
def k11m0 : Method := { name := "numberOfLeadingZeros", desc := "(I)I", sig := { parameters := [.int], returnType := some .int }, accessFlags := 9, code := some k11c0 }
/-- java/lang/Integer -/
def k11 : Class := { plain "java/lang/Integer" (some 6) with
  accessFlags := 49
  interfaces := #[7, 8, 9]
  cf := some (fileOf pool11 1 #[.nestMembers #[189]] #[{ accessFlags := 9, nameIndex := 53, descriptorIndex := 54, attributes := #[] }] 49 203 #[304, 306, 308] #[{ accessFlags := 25, nameIndex := 310, descriptorIndex := 194, attributes := #[] }, { accessFlags := 25, nameIndex := 312, descriptorIndex := 194, attributes := #[] }, { accessFlags := 25, nameIndex := 302, descriptorIndex := 303, attributes := #[] }, { accessFlags := 24, nameIndex := 19, descriptorIndex := 20, attributes := #[] }, { accessFlags := 24, nameIndex := 89, descriptorIndex := 86, attributes := #[] }, { accessFlags := 24, nameIndex := 85, descriptorIndex := 86, attributes := #[] }, { accessFlags := 18, nameIndex := 207, descriptorIndex := 194, attributes := #[] }, { accessFlags := 25, nameIndex := 316, descriptorIndex := 194, attributes := #[] }, { accessFlags := 25, nameIndex := 318, descriptorIndex := 194, attributes := #[] }, { accessFlags := 26, nameIndex := 320, descriptorIndex := 321, attributes := #[] }])
  fields := #[{ name := "MIN_VALUE", type := .int, accessFlags := 25, slot := 0, constantValue := 0 }, { name := "MAX_VALUE", type := .int, accessFlags := 25, slot := 1, constantValue := 0 }, { name := "TYPE", type := (.object "java/lang/Class"), accessFlags := 25, slot := 2, constantValue := 0 }, { name := "digits", type := (.array .char), accessFlags := 24, slot := 3, constantValue := 0 }, { name := "DigitTens", type := (.array .byte), accessFlags := 24, slot := 4, constantValue := 0 }, { name := "DigitOnes", type := (.array .byte), accessFlags := 24, slot := 5, constantValue := 0 }, { name := "value", type := .int, accessFlags := 18, slot := 0, constantValue := 0 }, { name := "SIZE", type := .int, accessFlags := 25, slot := 6, constantValue := 0 }, { name := "BYTES", type := .int, accessFlags := 25, slot := 7, constantValue := 0 }, { name := "serialVersionUID", type := .long, accessFlags := 26, slot := 8, constantValue := 0 }]
  methods := #[k11m0]
  instanceTypes := #[.int]
  staticTypes := #[.int, .int, (.object "java/lang/Class"), (.array .char), (.array .byte), (.array .byte), .int, .int, .long]
  resolved := Array.replicate 453 none
  statics := none }

/-- the primitive byte -/
def k12 : Class := { plain "byte" none with kind := .primitive 'B', accessFlags := 0x411 }
/-- [B -/
def k13 : Class := { plain "[B" (some 0) with kind := .array 12 .byte, interfaces := #[4, 5], accessFlags := 1041 }

/-- the primitive int -/
def k14 : Class := { plain "int" none with kind := .primitive 'I', accessFlags := 0x411 }
/-- [I -/
def k15 : Class := { plain "[I" (some 0) with kind := .array 14 .int, interfaces := #[4, 5], accessFlags := 1041 }

/-- the primitive long -/
def k16 : Class := { plain "long" none with kind := .primitive 'J', accessFlags := 0x411 }
/-- [J -/
def k17 : Class := { plain "[J" (some 0) with kind := .array 16 .long, interfaces := #[4, 5], accessFlags := 1041 }

def heap : Heap := #[]
def classes : Array Class := #[k0, k1, k2, k3, k4, k5, k6, k7, k8, k9, k10, k11, k12, k13, k14, k15, k16, k17]
def interned : List (Array UInt16 × Addr) := []
def slotsUsed : Nat := 0
def theMethod : MethodId := ⟨1, 6⟩
def args0 : Array Value := #[.int 5, .int 7, .int 3, .int 9, .long 4, .long 8]
def aboutOver (below : List Frame) : State where
  vm := { classes := classes, interned := interned.toArray }
  heap := heap
  slotsUsed := slotsUsed
  threads := #[{ frames := .invoking theMethod args0 :: below }]
def below0 : List Frame := [.native { method := ⟨0, 0⟩, args := #[] }]
def about1 : State := aboutOver below0
def p0 : Program := .bare "" "" ""
def e0 : Env := launch0.env 0 0 0
theorem w_frames : about1.frames = Frame.invoking theMethod args0 :: below0 := rfl
set_option maxRecDepth 65536 in
theorem w_args : argsFit about1.vm theMethod args0 = true := by decide +kernel
set_option maxRecDepth 65536 in
theorem w_heap : heapFits about1 = true := by decide +kernel
set_option maxRecDepth 65536 in
theorem w_runnable : about1.curStatus? = some .runnable := by decide +kernel
set_option maxRecDepth 65536 in
theorem w_alone : about1.alone = true := by decide +kernel
set_option maxRecDepth 65536 in
theorem w_named : about1.methodNamed? x = some theMethod := by decide +kernel
set_option maxRecDepth 65536 in
theorem w_hears : about1.hears theMethod below0 = true := by decide +kernel
set_option maxRecDepth 65536 in
theorem w_ripe : about1.ripe theMethod args0 below0 = true := by decide +kernel
theorem w_running : about1.status = .running := rfl
set_option maxRecDepth 65536 in
theorem w_room : about1.hasRoom e0.platform room_1 = true :=
  launch0.hasRoom_least _ room_1 (by decide +kernel) (by decide +kernel) (by decide +kernel) (by decide +kernel) (by decide +kernel) (by decide +kernel)
theorem allAtoms_all (ts : List Jvm.Cond) (a : Array Jvm.Value) (st : Jvm.State) : (allAtoms ts).before a st = ts.all (fun c => c.before a st) := by
  induction ts with
  | nil => rfl
  | cons c t ih =>
    show (Jvm.Cond.and c (allAtoms t)).before a st = _
    rw [Jvm.Cond.before_and, ih, List.all_cons]
def words1 : List Jvm.Cond := Jvm.Cond.code x code maxLocals ret :: tables_1
/-- a 'code' word, met by the world's own term for the bytes: nothing is compared byte by byte -/
theorem code_word {y : MethodName} {bytes : ByteArray} {mx : Nat} {rt : Option FieldType} {a : Array Value} {s : State} {m : MethodId} {meth : Method} {c : Code} (h1 : s.methodNamed? y = some m) (h2 : s.vm.method? m = some meth) (h3 : meth.code = some c) (h4 : c.code = bytes)
    (h5 : (c.maxLocals == mx && c.exceptionTable.isEmpty && decide (c.maxStack ≤ mostOperands) && decide (meth.sig.returnType = rt) && !meth.locks && decide (parseMethodDescriptor y.desc = some meth.sig)) = true) : (Jvm.Cond.code y bytes mx rt).before a s = true := by
  simp only [Bool.and_eq_true, beq_iff_eq, Bool.not_eq_true', decide_eq_true_eq] at h5
  obtain ⟨⟨⟨⟨⟨g1, g2⟩, g3⟩, g4⟩, g5⟩, g6⟩ := h5
  simp [Cond.before, Cond.holds, Cond.value, h1, h2, h3, h4, g1, g2, g3, g4, g5, g6]
def isCode : Jvm.Cond → Bool
  | .code _ _ _ _ => true
  | _ => false
theorem all_split {L : List Jvm.Cond} {P : Jvm.Cond → Bool} (h1 : L.all (fun c => isCode c || P c) = true) (h2 : ∀ c ∈ L.filter isCode, P c = true) : L.all P = true := by
  refine List.all_eq_true.mpr fun c hc => ?_
  have h := List.all_eq_true.mp h1 c hc
  rcases Bool.eq_false_or_eq_true (isCode c) with hi | hi
  · exact h2 c (List.mem_filter.mpr ⟨hc, hi⟩)
  · simpa [hi] using h
set_option maxRecDepth 65536 in
theorem w_c0 : (Jvm.Cond.code x code maxLocals ret).before args0 about1 = true := code_word (m := ⟨1, 6⟩) (meth := k1m6) (c := k1c6) (by decide +kernel) rfl rfl rfl (by decide +kernel)
set_option maxRecDepth 65536 in
theorem w_c1 : (Jvm.Cond.code ({ cls := "java/lang/Math", name := "min", desc := "(II)I" } : Jvm.MethodName) jdk_29_method_69_code (2 : Nat) (Option.some Jvm.ClassFile.FieldType.int)).before args0 about1 = true := code_word (m := ⟨2, 2⟩) (meth := k2m2) (c := k2c2) (by decide +kernel) rfl rfl rfl (by decide +kernel)
set_option maxRecDepth 65536 in
theorem w_c2 : (Jvm.Cond.code ({ cls := "java/lang/Math", name := "max", desc := "(II)I" } : Jvm.MethodName) jdk_29_method_65_code (2 : Nat) (Option.some Jvm.ClassFile.FieldType.int)).before args0 about1 = true := code_word (m := ⟨2, 1⟩) (meth := k2m1) (c := k2c1) (by decide +kernel) rfl rfl rfl (by decide +kernel)
set_option maxRecDepth 65536 in
theorem w_c3 : (Jvm.Cond.code ({ cls := "com/example/ryazan/ryazan/language/Layout", name := "<init>", desc := "([I[I)V" } : Jvm.MethodName) prog_58_method_1_code (9 : Nat) (Option.none : Option Jvm.ClassFile.FieldType)).before args0 about1 = true := code_word (m := ⟨3, 0⟩) (meth := k3m0) (c := k3c0) (by decide +kernel) rfl rfl rfl (by decide +kernel)
set_option maxRecDepth 65536 in
theorem w_c4 : (Jvm.Cond.code ({ cls := "java/lang/Object", name := "<init>", desc := "()V" } : Jvm.MethodName) object_method_1_code (1 : Nat) (Option.none : Option Jvm.ClassFile.FieldType)).before args0 about1 = true := code_word (m := ⟨0, 0⟩) (meth := k0m0) (c := k0c0) (by decide +kernel) rfl rfl rfl (by decide +kernel)
set_option maxRecDepth 65536 in
theorem w_c5 : (Jvm.Cond.code ({ cls := "java/lang/Long", name := "numberOfLeadingZeros", desc := "(J)I" } : Jvm.MethodName) jdk_35_method_48_code (3 : Nat) (Option.some Jvm.ClassFile.FieldType.int)).before args0 about1 = true := code_word (m := ⟨10, 2⟩) (meth := k10m2) (c := k10c2) (by decide +kernel) rfl rfl rfl (by decide +kernel)
set_option maxRecDepth 65536 in
theorem w_c6 : (Jvm.Cond.code ({ cls := "java/lang/Integer", name := "numberOfLeadingZeros", desc := "(I)I" } : Jvm.MethodName) jdk_33_method_47_code (2 : Nat) (Option.some Jvm.ClassFile.FieldType.int)).before args0 about1 = true := code_word (m := ⟨11, 0⟩) (meth := k11m0) (c := k11c0) (by decide +kernel) rfl rfl rfl (by decide +kernel)
set_option maxRecDepth 65536 in
theorem w_c7 : (Jvm.Cond.code ({ cls := "com/example/ryazan/ryazan/language/Layout", name := "width", desc := "()I" } : Jvm.MethodName) prog_58_method_2_code (1 : Nat) (Option.some Jvm.ClassFile.FieldType.int)).before args0 about1 = true := code_word (m := ⟨3, 1⟩) (meth := k3m1) (c := k3c1) (by decide +kernel) rfl rfl rfl (by decide +kernel)
set_option maxRecDepth 65536 in
theorem w_c8 : (Jvm.Cond.code ({ cls := "com/example/ryazan/ryazan/language/LayoutPackPinLaw", name := "pick", desc := "(JII)I" } : Jvm.MethodName) method_2_code (8 : Nat) (Option.some Jvm.ClassFile.FieldType.int)).before args0 about1 = true := code_word (m := ⟨1, 1⟩) (meth := k1m1) (c := k1c1) (by decide +kernel) rfl rfl rfl (by decide +kernel)
set_option maxRecDepth 65536 in
theorem w_c9 : (Jvm.Cond.code ({ cls := "com/example/ryazan/ryazan/language/Layout", name := "pack", desc := "([I[JI)V" } : Jvm.MethodName) prog_58_method_3_code (5 : Nat) (Option.none : Option Jvm.ClassFile.FieldType)).before args0 about1 = true := code_word (m := ⟨3, 2⟩) (meth := k3m2) (c := k3c2) (by decide +kernel) rfl rfl rfl (by decide +kernel)
set_option maxRecDepth 65536 in
theorem w_c10 : (Jvm.Cond.code ({ cls := "com/example/ryazan/ryazan/language/Layout", name := "unpack", desc := "([JI[I)V" } : Jvm.MethodName) prog_58_method_4_code (5 : Nat) (Option.none : Option Jvm.ClassFile.FieldType)).before args0 about1 = true := code_word (m := ⟨3, 3⟩) (meth := k3m3) (c := k3c3) (by decide +kernel) rfl rfl rfl (by decide +kernel)
set_option maxRecDepth 65536 in
theorem w_c11 : (Jvm.Cond.code ({ cls := "com/example/ryazan/ryazan/language/LayoutPackPinLaw", name := "untouched", desc := "([JIIJ)Z" } : Jvm.MethodName) method_6_code (6 : Nat) (Option.some Jvm.ClassFile.FieldType.boolean)).before args0 about1 = true := code_word (m := ⟨1, 5⟩) (meth := k1m5) (c := k1c5) (by decide +kernel) rfl rfl rfl (by decide +kernel)
set_option maxRecDepth 65536 in
theorem w_c12 : (Jvm.Cond.code ({ cls := "com/example/ryazan/ryazan/language/Layout", name := "compare", desc := "([JI[JII)I" } : Jvm.MethodName) prog_58_method_5_code (7 : Nat) (Option.some Jvm.ClassFile.FieldType.int)).before args0 about1 = true := code_word (m := ⟨3, 4⟩) (meth := k3m4) (c := k3c4) (by decide +kernel) rfl rfl rfl (by decide +kernel)
set_option maxRecDepth 65536 in
theorem w_c13 : (Jvm.Cond.code ({ cls := "java/lang/Long", name := "compareUnsigned", desc := "(JJ)I" } : Jvm.MethodName) jdk_35_method_43_code (4 : Nat) (Option.some Jvm.ClassFile.FieldType.int)).before args0 about1 = true := code_word (m := ⟨10, 1⟩) (meth := k10m1) (c := k10c1) (by decide +kernel) rfl rfl rfl (by decide +kernel)
set_option maxRecDepth 65536 in
theorem w_c14 : (Jvm.Cond.code ({ cls := "java/lang/Long", name := "compare", desc := "(JJ)I" } : Jvm.MethodName) jdk_35_method_42_code (4 : Nat) (Option.some Jvm.ClassFile.FieldType.int)).before args0 about1 = true := code_word (m := ⟨10, 0⟩) (meth := k10m0) (c := k10c0) (by decide +kernel) rfl rfl rfl (by decide +kernel)
set_option maxRecDepth 65536 in
theorem w_c15 : (Jvm.Cond.code ({ cls := "com/example/ryazan/ryazan/language/LayoutPackPinLaw", name := "sign", desc := "(I)I" } : Jvm.MethodName) method_4_code (1 : Nat) (Option.some Jvm.ClassFile.FieldType.int)).before args0 about1 = true := code_word (m := ⟨1, 3⟩) (meth := k1m3) (c := k1c3) (by decide +kernel) rfl rfl rfl (by decide +kernel)
set_option maxRecDepth 65536 in
theorem w_c16 : (Jvm.Cond.code ({ cls := "com/example/ryazan/ryazan/language/LayoutPackPinLaw", name := "lex", desc := "([I[I)I" } : Jvm.MethodName) method_5_code (3 : Nat) (Option.some Jvm.ClassFile.FieldType.int)).before args0 about1 = true := code_word (m := ⟨1, 4⟩) (meth := k1m4) (c := k1c4) (by decide +kernel) rfl rfl rfl (by decide +kernel)
set_option maxRecDepth 65536 in
theorem w_c17 : (Jvm.Cond.code ({ cls := "com/example/ryazan/ryazan/language/LayoutPackPinLaw", name := "cmp", desc := "(II)I" } : Jvm.MethodName) method_3_code (2 : Nat) (Option.some Jvm.ClassFile.FieldType.int)).before args0 about1 = true := code_word (m := ⟨1, 2⟩) (meth := k1m2) (c := k1c2) (by decide +kernel) rfl rfl rfl (by decide +kernel)
def codes1 : List Jvm.Cond := [Jvm.Cond.code x code maxLocals ret, Jvm.Cond.code ({ cls := "java/lang/Math", name := "min", desc := "(II)I" } : Jvm.MethodName) jdk_29_method_69_code (2 : Nat) (Option.some Jvm.ClassFile.FieldType.int), Jvm.Cond.code ({ cls := "java/lang/Math", name := "max", desc := "(II)I" } : Jvm.MethodName) jdk_29_method_65_code (2 : Nat) (Option.some Jvm.ClassFile.FieldType.int), Jvm.Cond.code ({ cls := "com/example/ryazan/ryazan/language/Layout", name := "<init>", desc := "([I[I)V" } : Jvm.MethodName) prog_58_method_1_code (9 : Nat) (Option.none : Option Jvm.ClassFile.FieldType), Jvm.Cond.code ({ cls := "java/lang/Object", name := "<init>", desc := "()V" } : Jvm.MethodName) object_method_1_code (1 : Nat) (Option.none : Option Jvm.ClassFile.FieldType), Jvm.Cond.code ({ cls := "java/lang/Long", name := "numberOfLeadingZeros", desc := "(J)I" } : Jvm.MethodName) jdk_35_method_48_code (3 : Nat) (Option.some Jvm.ClassFile.FieldType.int), Jvm.Cond.code ({ cls := "java/lang/Integer", name := "numberOfLeadingZeros", desc := "(I)I" } : Jvm.MethodName) jdk_33_method_47_code (2 : Nat) (Option.some Jvm.ClassFile.FieldType.int), Jvm.Cond.code ({ cls := "com/example/ryazan/ryazan/language/Layout", name := "width", desc := "()I" } : Jvm.MethodName) prog_58_method_2_code (1 : Nat) (Option.some Jvm.ClassFile.FieldType.int), Jvm.Cond.code ({ cls := "com/example/ryazan/ryazan/language/LayoutPackPinLaw", name := "pick", desc := "(JII)I" } : Jvm.MethodName) method_2_code (8 : Nat) (Option.some Jvm.ClassFile.FieldType.int), Jvm.Cond.code ({ cls := "com/example/ryazan/ryazan/language/Layout", name := "pack", desc := "([I[JI)V" } : Jvm.MethodName) prog_58_method_3_code (5 : Nat) (Option.none : Option Jvm.ClassFile.FieldType), Jvm.Cond.code ({ cls := "com/example/ryazan/ryazan/language/Layout", name := "unpack", desc := "([JI[I)V" } : Jvm.MethodName) prog_58_method_4_code (5 : Nat) (Option.none : Option Jvm.ClassFile.FieldType), Jvm.Cond.code ({ cls := "com/example/ryazan/ryazan/language/LayoutPackPinLaw", name := "untouched", desc := "([JIIJ)Z" } : Jvm.MethodName) method_6_code (6 : Nat) (Option.some Jvm.ClassFile.FieldType.boolean), Jvm.Cond.code ({ cls := "com/example/ryazan/ryazan/language/Layout", name := "compare", desc := "([JI[JII)I" } : Jvm.MethodName) prog_58_method_5_code (7 : Nat) (Option.some Jvm.ClassFile.FieldType.int), Jvm.Cond.code ({ cls := "java/lang/Long", name := "compareUnsigned", desc := "(JJ)I" } : Jvm.MethodName) jdk_35_method_43_code (4 : Nat) (Option.some Jvm.ClassFile.FieldType.int), Jvm.Cond.code ({ cls := "java/lang/Long", name := "compare", desc := "(JJ)I" } : Jvm.MethodName) jdk_35_method_42_code (4 : Nat) (Option.some Jvm.ClassFile.FieldType.int), Jvm.Cond.code ({ cls := "com/example/ryazan/ryazan/language/LayoutPackPinLaw", name := "sign", desc := "(I)I" } : Jvm.MethodName) method_4_code (1 : Nat) (Option.some Jvm.ClassFile.FieldType.int), Jvm.Cond.code ({ cls := "com/example/ryazan/ryazan/language/LayoutPackPinLaw", name := "lex", desc := "([I[I)I" } : Jvm.MethodName) method_5_code (3 : Nat) (Option.some Jvm.ClassFile.FieldType.int), Jvm.Cond.code ({ cls := "com/example/ryazan/ryazan/language/LayoutPackPinLaw", name := "cmp", desc := "(II)I" } : Jvm.MethodName) method_3_code (2 : Nat) (Option.some Jvm.ClassFile.FieldType.int)]
set_option maxRecDepth 65536 in
theorem codes_eq : words1.filter isCode = codes1 := rfl
theorem w_codes : ∀ c ∈ words1.filter isCode, c.before args0 about1 = true := by
  rw [codes_eq]
  intro c hc
  simp only [codes1, List.mem_cons, List.not_mem_nil, or_false] at hc
  rcases hc with rfl | rfl | rfl | rfl | rfl | rfl | rfl | rfl | rfl | rfl | rfl | rfl | rfl | rfl | rfl | rfl | rfl | rfl
  · exact w_c0
  · exact w_c1
  · exact w_c2
  · exact w_c3
  · exact w_c4
  · exact w_c5
  · exact w_c6
  · exact w_c7
  · exact w_c8
  · exact w_c9
  · exact w_c10
  · exact w_c11
  · exact w_c12
  · exact w_c13
  · exact w_c14
  · exact w_c15
  · exact w_c16
  · exact w_c17
set_option maxRecDepth 65536 in
theorem w_t1 : (words1.take 24).all (fun c => isCode c || c.before args0 about1) = true := by decide +kernel
set_option maxRecDepth 65536 in
theorem w_t2 : ((words1.drop 24).take 24).all (fun c => isCode c || c.before args0 about1) = true := by decide +kernel
set_option maxRecDepth 65536 in
theorem w_t3 : (((words1.drop 24).drop 24).take 24).all (fun c => isCode c || c.before args0 about1) = true := by decide +kernel
set_option maxRecDepth 65536 in
theorem w_t4 : ((((words1.drop 24).drop 24).drop 24).take 24).all (fun c => isCode c || c.before args0 about1) = true := by decide +kernel
set_option maxRecDepth 65536 in
theorem w_t5 : ((((words1.drop 24).drop 24).drop 24).drop 24).all (fun c => isCode c || c.before args0 about1) = true := by decide +kernel
theorem w_tables : (allAtoms (Jvm.Cond.code x code maxLocals ret :: tables_1)).before args0 about1 = true := by
  rw [allAtoms_all]
  show words1.all (fun c => c.before args0 about1) = true
  refine all_split ?_ w_codes
  rw [← List.take_append_drop 24 words1, List.all_append, w_t1, ← List.take_append_drop 24 (words1.drop 24), List.all_append, w_t2, ← List.take_append_drop 24 ((words1.drop 24).drop 24), List.all_append, w_t3, ← List.take_append_drop 24 (((words1.drop 24).drop 24).drop 24), List.all_append, w_t4, w_t5]
  rfl
set_option maxRecDepth 65536 in
theorem w_case : (Jvm.Cond.and given_1 narrow_1).before args0 about1 = true := by decide +kernel
theorem w_applies : (headSpec (Jvm.Cond.code x code maxLocals ret :: tables_1) room_1).applies x e0.platform about1 = true :=
  (Spec.applies_iff w_frames).mpr ⟨w_running, w_runnable, w_alone, w_named, w_hears, w_ripe, w_room, w_tables⟩
theorem atStart : AtStart classFile x code maxLocals ret World_1 tables_1 room_1 Calls_1 rest_1 Pre_1 launch0 p0 e0 about1 theMethod args0 below0 :=
  ⟨lists_1, trivial, launch0.admits_env _ _ _, launch0.least_env, fairChoices_fair.cas, fairChoices_fair.clock, w_frames, w_args, w_heap, w_applies, trivial, trivial, w_case⟩
end start1
theorem witness_1 : WitnessClaimed_1 := ⟨start1.p0, start1.e0, start1.about1, start1.theMethod, start1.args0, start1.below0, start1.atStart⟩
end Jvm.Pilot.@@N@@
