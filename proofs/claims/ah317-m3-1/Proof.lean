import JvmDerived
import JvmDerived.Pilot.@@N@@Statement
import JvmDerived.Pilot.@@N@@Code
set_option linter.unusedVariables false
set_option linter.unusedSimpArgs false
namespace Jvm.RoadKit
open Sem ClassFile Op Lib Jvm.Stand Jvm.Free Jvm.LawKit
section New
variable {p : Program} {l : Launch} {e : Env} {R : Room} {s : State} {m : MethodId} {args : Array Value} {below : List Frame} {meth : Method} {c : Code} {T : State} {locs : List Loc} {cells slots : Nat}
theorem retI (X : Stand p l e R s m args below meth c T locs cells slots) (hx : p.tables.exec = Jvm.exec) {pc : Nat} {Ls : Array Slot} {z : Int32} {rest : List Value} (hret : meth.sig.returnType = some .int) (hd : decode c.code pc = .ok (.ireturn, 1)) {fs : List Frame}
    (hl : ∀ (f : JFrame) (acts : List Action), f.method = m → f.locked = none → f.entered = [] → (doReturn e (T.setTop f) acts (some (.int z))).1 = T.setFrames fs) : Steps p.tables e below (T.setTop (mkF m pc Ls (.int z :: rest))) (T.setFrames fs) := by
  have hm' : T.vm.method? m = some meth := X.method'
  have hn : narrow .int (.int z) = .int z := rfl
  show Steps p.tables e below (T.setTop { method := m, pc := pc, locals := Ls, stack := _ :: rest, locked := none }) _
  jvm_step X.here [X.here.top, hx, hd, hm', hret, hn]
  first | (intro acts; rw [hl _ acts rfl rfl rfl]) | rw [hl _ _ rfl rfl rfl]
  exact Steps.refl _
end New
end Jvm.RoadKit
namespace Jvm.Pilot.@@N@@
open Jvm Jvm.ClassFile Sem Op Lib Jvm.Free Jvm.Stand Jvm.LawKit Jvm.RoadKit Bundle Jvm.Pilot.@@N@@.Jvm.D
/-! THE WALK's GOAL, AND ONE LAW A STEP (each in the form: where the run goes on, it ends well; so it does from here) -/
def Go (p : Program) (e : Env) (below : List Frame) (K : Outcome → State → Prop) (u : State) : Prop := ∃ s₂ o, Steps p.tables e below u s₂ ∧ s₂.status = .running ∧ Ended s₂ below o ∧ K o s₂
theorem Go.step {p : Program} {e : Env} {below : List Frame} {K : Outcome → State → Prop} {u u' : State} (h : ∀ t, Steps p.tables e below u' t → Steps p.tables e below u t) (g : Go p e below K u') : Go p e below K u := by
  obtain ⟨a, o, h1, h2⟩ := g; exact ⟨a, o, h _ h1, h2⟩
def Ends (s : State) (Q : Option Value → Heap → List Loc → Prop) (kc ks : Nat) (o : Outcome) (U : State) : Prop := ∃ v L, o = .returned v ∧ Q v U.heap L ∧ FrameEnd s o U L kc ks
/-- where the run stands, with all that a step asks -/
def Sx (Z : State) (own : String) (bytes : ByteArray) (ml : Nat) (p : Program) (l : Launch) (e : Env) (R : Room) (s : State) (m : MethodId) (args : Array Value) (below : List Frame) (meth : Method) (c : Code) (T : State) (locs : List Loc) (cells slots : Nat) (h : Heap) : Prop :=
  Stand p l e R s m args below meth c T locs cells slots ∧ p.tables.exec = Jvm.exec ∧ c.code = bytes ∧ c.maxLocals = ml ∧ s.vm.findClass own = some m.cls ∧ Z.Warmed39 s.vm ∧ T.heap = h
/-- what a method owes: called at the heap h0 with these arguments it returns, and Q holds -/
abbrev Rm (l : Launch) (Z : State) (y : MethodName) (bytes : ByteArray) (ml : Nat) (ret : Option FieldType) (ws : List Jvm.Cond) (rm : Room) (as' : Array Value) (h0 : Heap) (Q : Option Value → Heap → List Loc → Prop) : Prop :=
  MetFree l y (head1 (Jvm.Cond.code y bytes ml ret :: ws) rm) (fun a U => a = as' ∧ Z.Warmed39 U.vm ∧ U.heap = h0) (fun _ _ _ _ _ => True) (fun _ U o U' => ∃ v L, o = .returned v ∧ Q v U'.heap L ∧ FrameEnd U o U' L rm.cells rm.slots)
theorem Rm.of {l : Launch} {Z : State} {y : MethodName} {bytes : ByteArray} {ml : Nat} {ret : Option FieldType} {ws : List Jvm.Cond} {rm : Room} {as' : Array Value} {h0 : Heap} {Q : Option Value → Heap → List Loc → Prop} (hpl : plainFor y = true)
    (body : ∀ (p : Program) (e : Env) (s : State) (m : MethodId) (below : List Frame) (meth : Method) (c : Code) (T : State), Sx Z y.cls bytes ml p l e rm s m as' below meth c T [] 0 0 h0 → meth.name = y.name → meth.sig.returnType = ret → meth.locks = false → Go p e below (Ends s Q rm.cells rm.slots) (T.setTop (entryFrame m as' ml))) : Rm l Z y bytes ml ret ws rm as' h0 Q := by
  refine MetFree.of_bodySF hpl hisR ?_
  intro p e s m args below meth c s₁ Bd hml0 hP hK
  obtain ⟨rfl, hZ, hh⟩ := hP
  have X0 : Stand p l e rm s m args below meth c s₁ [] 0 0 := Stand.of_body Bd
  exact body p e s m below meth c s₁ ⟨X0, Bd.exec, Bd.bytes, hml0, findClass_of_methodNamed Bd.named, hZ, by rw [← hh, Bd.state]; rfl⟩ (name_of_methodNamed Bd.named Bd.method).1 Bd.returns (BodyLoose.notSynchronized Bd)
theorem Fr.one {k : Nat} {a : Addr} {sl : Nat} (g : k ≤ a) : Fr k [⟨a, sl⟩] := fun y hy => by cases List.mem_singleton.mp hy; exact g
/-- an array and all that it holds -/
def Av (Z : State) (h : Heap) (a : Addr) (ty : FieldType) (vs : List Value) : Prop := ∃ c : Cell, Arr Z h a c ty ∧ c.slots.toList = vs ∧ vs.length < 2147483648
section Facts
variable {Z : State} {h h' : Heap} {a b : Addr} {ty : FieldType} {vs : List Value} {sl : Nat} {v : Value} {ws : List Addr}
theorem Av.lt (F : Av Z h a ty vs) : a < h.size := by obtain ⟨c, A, -⟩ := F; exact A.lt
theorem Av.ext (F : Av Z h a ty vs) (E : Ext h h') : Av Z h' a ty vs := by obtain ⟨c, A, r⟩ := F; exact ⟨c, A.ext E, r⟩
theorem Av.other (F : Av Z h b ty vs) (W : Wr h h' a sl v) (q : b ≠ a) : Av Z h' b ty vs := by obtain ⟨c, A, r⟩ := F; exact ⟨c, A.other W q, r⟩
theorem Av.keep (F : Av Z h a ty vs) (K : Keep h h' ws) (q : a ∉ ws) : Av Z h' a ty vs := by obtain ⟨c, A, r⟩ := F; exact ⟨c, ⟨K.2.1 a c A.1 q, A.2⟩, r⟩
theorem Av.set (F : Av Z h a ty vs) (W : Wr h h' a sl v) : Av Z h' a ty (vs.set sl v) := by
  obtain ⟨c, A, e, r⟩ := F
  refine ⟨_, A.same W, ?_, by simpa using r⟩
  subst e
  simp [Cell.setSlot]
/-- an array of which the length is known alone -/
def AvN (Z : State) (h : Heap) (a : Addr) (ty : FieldType) (z : Int32) : Prop := ∃ vs, Av Z h a ty vs ∧ vs.length.toInt32 = z
theorem AvN.lt {z : Int32} (F : AvN Z h a ty z) : a < h.size := by obtain ⟨vs, A, -⟩ := F; exact A.lt
theorem AvN.ext {z : Int32} (F : AvN Z h a ty z) (E : Ext h h') : AvN Z h' a ty z := by obtain ⟨vs, A, r⟩ := F; exact ⟨vs, A.ext E, r⟩
theorem AvN.other {z : Int32} (F : AvN Z h b ty z) (W : Wr h h' a sl v) (q : b ≠ a) : AvN Z h' b ty z := by obtain ⟨vs, A, r⟩ := F; exact ⟨vs, A.other W q, r⟩
theorem AvN.keep {z : Int32} (F : AvN Z h a ty z) (K : Keep h h' ws) (q : a ∉ ws) : AvN Z h' a ty z := by obtain ⟨vs, A, r⟩ := F; exact ⟨vs, A.keep K q, r⟩
/-- an array over objects of the class C -/
def OvA (Z : State) (h : Heap) (a : Addr) (C : String) : Prop := ∃ cl : Cell, Arr Z h a cl (.object C) ∧ Ovr Z cl.cls C
theorem OvA.lt {C : String} (F : OvA Z h a C) : a < h.size := by obtain ⟨_, A, _⟩ := F; exact A.lt
theorem OvA.ext {C : String} (F : OvA Z h a C) (E : Ext h h') : OvA Z h' a C := by obtain ⟨cl, A, r⟩ := F; exact ⟨cl, A.ext E, r⟩
theorem OvA.keep {C : String} (F : OvA Z h a C) (K : Keep h h' ws) (q : a ∉ ws) : OvA Z h' a C := by obtain ⟨c, A, r⟩ := F; exact ⟨c, ⟨K.2.1 a c A.1 q, A.2⟩, r⟩
theorem OvA.wr {C : String} (F : OvA Z h a C) (W : Wr h h' b sl v) : OvA Z h' a C := by
  obtain ⟨cl, A, r⟩ := F
  by_cases q : a = b
  · subst q; exact ⟨_, A.same W, r⟩
  · exact ⟨cl, A.other W q, r⟩
theorem fit0 : ∀ v ∈ ([] : List Value), fits ty v = true := fun _ q => nomatch q
theorem fitS (q : fits ty v = true) (r : ∀ w ∈ vs, fits ty w = true) : ∀ w ∈ v :: vs, fits ty w = true := fun w hw => (List.mem_cons.mp hw).elim (fun e => e ▸ q) (r w)
theorem Sta.keep {C n d : String} (F : Sta Z h C n d v) (K : Keep h h' ws) (q : ∀ x ∈ ws, ∀ c : Cell, h[x]? = some c → c.vm.isStatics = false) : Sta Z h' C n d v := by
  obtain ⟨cf, i, k, f, st, cell, h1, h2, h3, h4, h5, h6, h7⟩ := F
  exact ⟨cf, i, k, f, st, cell, h1, h2, h3, h4, K.2.1 _ _ h5 (fun hm => by rw [q _ hm _ h5] at h6; cases h6), h6, h7⟩
end Facts
section Walk
variable {Z : State} {a0 : Array Value} {own : String} {bytes : ByteArray} {ml : Nat} {p : Program} {l : Launch} {e : Env} {R : Room} {s : State} {m : MethodId} {args : Array Value} {below : List Frame} {meth : Method} {c : Code} {T : State} {locs : List Loc} {cells slots : Nat} {h : Heap} {K : Outcome → State → Prop} {pc pc' : Nat} {Ls Ls' : Array Slot} {st : List Value}
theorem Go.lit32 {x z : Int32} (q : x = z) (k : Go p e below K (T.setTop (mkF m pc Ls (.int z :: st)))) : Go p e below K (T.setTop (mkF m pc Ls (.int x :: st))) := q ▸ k
theorem Go.at_ {f f' : JFrame} (q : f = f') (k : Go p e below K (T.setTop f')) : Go p e below K (T.setTop f) := q ▸ k
theorem g_iload (X : Sx Z own bytes ml p l e R s m args below meth c T locs cells slots h) {i : Nat} {v : Int32} (hd : decode bytes pc = .ok (.iload i, 2)) (hp : pc + 2 = pc') (hl : Ls[i]? = some (.val (.int v))) (k : Go p e below K (T.setTop (mkF m pc' Ls (.int v :: st)))) : Go p e below K (T.setTop (mkF m pc Ls (st))) := by
  subst hp; exact Go.step (fun t q => XS.iload X.1.here X.2.1 rfl (hb X.2.2.1 hd) hl q) k
theorem g_iloadN (X : Sx Z own bytes ml p l e R s m args below meth c T locs cells slots h) {i : Fin 4} {v : Int32} (hd : decode bytes pc = .ok (.iload_n i, 1)) (hp : pc + 1 = pc') (hl : Ls[i.val]? = some (.val (.int v))) (k : Go p e below K (T.setTop (mkF m pc' Ls (.int v :: st)))) : Go p e below K (T.setTop (mkF m pc Ls (st))) := by
  subst hp; exact Go.step (fun t q => XS.iloadN X.1.here X.2.1 rfl (hb X.2.2.1 hd) hl q) k
theorem g_lload (X : Sx Z own bytes ml p l e R s m args below meth c T locs cells slots h) {i : Nat} {v : Int64} (hd : decode bytes pc = .ok (.lload i, 2)) (hp : pc + 2 = pc') (hl : Ls[i]? = some (.val (.long v))) (k : Go p e below K (T.setTop (mkF m pc' Ls (.long v :: st)))) : Go p e below K (T.setTop (mkF m pc Ls (st))) := by
  subst hp; exact Go.step (fun t q => XS.lload X.1.here X.2.1 rfl (hb X.2.2.1 hd) hl q) k
theorem g_lloadN (X : Sx Z own bytes ml p l e R s m args below meth c T locs cells slots h) {i : Fin 4} {v : Int64} (hd : decode bytes pc = .ok (.lload_n i, 1)) (hp : pc + 1 = pc') (hl : Ls[i.val]? = some (.val (.long v))) (k : Go p e below K (T.setTop (mkF m pc' Ls (.long v :: st)))) : Go p e below K (T.setTop (mkF m pc Ls (st))) := by
  subst hp; exact Go.step (fun t q => XS.lloadN X.1.here X.2.1 rfl (hb X.2.2.1 hd) hl q) k
theorem g_aload (X : Sx Z own bytes ml p l e R s m args below meth c T locs cells slots h) {i : Nat} {v : Value} (hd : decode bytes pc = .ok (.aload i, 2)) (hp : pc + 2 = pc') (hl : Ls[i]? = some (.val v)) (hv : v.isRef = true) (k : Go p e below K (T.setTop (mkF m pc' Ls (v :: st)))) : Go p e below K (T.setTop (mkF m pc Ls (st))) := by
  subst hp; exact Go.step (fun t q => XS.aload X.1.here X.2.1 rfl (hb X.2.2.1 hd) hl hv q) k
theorem g_aloadN (X : Sx Z own bytes ml p l e R s m args below meth c T locs cells slots h) {i : Fin 4} {v : Value} (hd : decode bytes pc = .ok (.aload_n i, 1)) (hp : pc + 1 = pc') (hl : Ls[i.val]? = some (.val v)) (hv : v.isRef = true) (k : Go p e below K (T.setTop (mkF m pc' Ls (v :: st)))) : Go p e below K (T.setTop (mkF m pc Ls (st))) := by
  subst hp; exact Go.step (fun t q => XS.aloadN X.1.here X.2.1 rfl (hb X.2.2.1 hd) hl hv q) k
theorem g_istore (X : Sx Z own bytes ml p l e R s m args below meth c T locs cells slots h) {i : Nat} {v : Int32} (hd : decode bytes pc = .ok (.istore i, 2)) (hp : pc + 2 = pc') (hl : storeLocals Ls i (.int v) = some Ls') (k : Go p e below K (T.setTop (mkF m pc' Ls' (st)))) : Go p e below K (T.setTop (mkF m pc Ls (.int v :: st))) := by
  subst hp; exact Go.step (fun t q => XS.istore X.1.here X.2.1 rfl (hb X.2.2.1 hd) rfl hl q) k
theorem g_istoreN (X : Sx Z own bytes ml p l e R s m args below meth c T locs cells slots h) {i : Fin 4} {v : Int32} (hd : decode bytes pc = .ok (.istore_n i, 1)) (hp : pc + 1 = pc') (hl : storeLocals Ls i.val (.int v) = some Ls') (k : Go p e below K (T.setTop (mkF m pc' Ls' (st)))) : Go p e below K (T.setTop (mkF m pc Ls (.int v :: st))) := by
  subst hp; exact Go.step (fun t q => XS.istoreN X.1.here X.2.1 rfl (hb X.2.2.1 hd) rfl hl q) k
theorem g_lstore (X : Sx Z own bytes ml p l e R s m args below meth c T locs cells slots h) {i : Nat} {v : Int64} (hd : decode bytes pc = .ok (.lstore i, 2)) (hp : pc + 2 = pc') (hl : storeLocals Ls i (.long v) = some Ls') (k : Go p e below K (T.setTop (mkF m pc' Ls' (st)))) : Go p e below K (T.setTop (mkF m pc Ls (.long v :: st))) := by
  subst hp; exact Go.step (fun t q => XS.lstore X.1.here X.2.1 rfl (hb X.2.2.1 hd) rfl hl q) k
theorem g_astore (X : Sx Z own bytes ml p l e R s m args below meth c T locs cells slots h) {i : Nat} {v : Value} (hd : decode bytes pc = .ok (.astore i, 2)) (hp : pc + 2 = pc') (hv : v.isRef = true) (hl : storeLocals Ls i v = some Ls') (k : Go p e below K (T.setTop (mkF m pc' Ls' (st)))) : Go p e below K (T.setTop (mkF m pc Ls (v :: st))) := by
  subst hp; exact Go.step (fun t q => XS.astore X.1.here X.2.1 rfl (hb X.2.2.1 hd) rfl hv hl q) k
theorem g_iconst (X : Sx Z own bytes ml p l e R s m args below meth c T locs cells slots h) {i : Int} (v : Int32) (hd : decode bytes pc = .ok (.iconst i, 1)) (hp : pc + 1 = pc') (hv : Int32.ofInt i = v) (k : Go p e below K (T.setTop (mkF m pc' Ls (.int v :: st)))) : Go p e below K (T.setTop (mkF m pc Ls (st))) := by
  subst hv; subst hp; exact Go.step (fun t q => XS.iconst X.1.here X.2.1 rfl (hb X.2.2.1 hd)  q) k
theorem g_bipush (X : Sx Z own bytes ml p l e R s m args below meth c T locs cells slots h) {i : Int} (v : Int32) (hd : decode bytes pc = .ok (.bipush i, 2)) (hp : pc + 2 = pc') (hv : (Int8.ofInt i).toInt32 = v) (k : Go p e below K (T.setTop (mkF m pc' Ls (.int v :: st)))) : Go p e below K (T.setTop (mkF m pc Ls (st))) := by
  subst hv; subst hp; exact Go.step (fun t q => XS.bipush X.1.here X.2.1 rfl (hb X.2.2.1 hd)  q) k
theorem g_sipush (X : Sx Z own bytes ml p l e R s m args below meth c T locs cells slots h) {i : Int} (v : Int32) (hd : decode bytes pc = .ok (.sipush i, 3)) (hp : pc + 3 = pc') (hv : (Int16.ofInt i).toInt32 = v) (k : Go p e below K (T.setTop (mkF m pc' Ls (.int v :: st)))) : Go p e below K (T.setTop (mkF m pc Ls (st))) := by
  subst hv; subst hp; exact Go.step (fun t q => XS.sipush X.1.here X.2.1 rfl (hb X.2.2.1 hd)  q) k
theorem g_lconst (X : Sx Z own bytes ml p l e R s m args below meth c T locs cells slots h) {i : Fin 2} (v : Int64) (hd : decode bytes pc = .ok (.lconst i, 1)) (hp : pc + 1 = pc') (hv : Int64.ofNat i = v) (k : Go p e below K (T.setTop (mkF m pc' Ls (.long v :: st)))) : Go p e below K (T.setTop (mkF m pc Ls (st))) := by
  subst hv; subst hp; exact Go.step (fun t q => XS.lconst X.1.here X.2.1 rfl (hb X.2.2.1 hd)  q) k
theorem g_ldcw (X : Sx Z own bytes ml p l e R s m args below meth c T locs cells slots h) {i : Nat} {v : Int32} (w : (Cond.constant own i v).before a0 Z = true) (hd : decode bytes pc = .ok (.ldc_w i, 3)) (hp : pc + 3 = pc') (k : Go p e below K (T.setTop (mkF m pc' Ls (.int v :: st)))) : Go p e below K (T.setTop (mkF m pc Ls (st))) := by
  subst hp; exact Go.step (fun t q => X.1.ldcwInt X.2.1 X.2.2.2.2.1 (mvT X.2.2.2.2.2.1 w) (g := mkF m pc Ls st) rfl (hb X.2.2.1 hd) _ q) k
theorem g_ldc2 (X : Sx Z own bytes ml p l e R s m args below meth c T locs cells slots h) {i : Nat} {v : Int64} (w : (Cond.constantLong own i v).before a0 Z = true) (hd : decode bytes pc = .ok (.ldc2_w i, 3)) (hp : pc + 3 = pc') (k : Go p e below K (T.setTop (mkF m pc' Ls (.long v :: st)))) : Go p e below K (T.setTop (mkF m pc Ls (st))) := by
  subst hp; exact Go.step (fun t q => X.1.ldc2Long X.2.1 X.2.2.2.2.1 (mvT X.2.2.2.2.2.1 w) (g := mkF m pc Ls st) rfl (hb X.2.2.1 hd) _ q) k
theorem g_iadd (X : Sx Z own bytes ml p l e R s m args below meth c T locs cells slots h) {x y : Int32} (hd : decode bytes pc = .ok (.iadd, 1)) (hp : pc + 1 = pc') (k : Go p e below K (T.setTop (mkF m pc' Ls (.int (x + y) :: st)))) : Go p e below K (T.setTop (mkF m pc Ls (.int y :: .int x :: st))) := by
  subst hp; exact Go.step (fun t q => XS.iadd X.1.here X.2.1 rfl (hb X.2.2.1 hd) rfl q) k
theorem g_isub (X : Sx Z own bytes ml p l e R s m args below meth c T locs cells slots h) {x y : Int32} (hd : decode bytes pc = .ok (.isub, 1)) (hp : pc + 1 = pc') (k : Go p e below K (T.setTop (mkF m pc' Ls (.int (x - y) :: st)))) : Go p e below K (T.setTop (mkF m pc Ls (.int y :: .int x :: st))) := by
  subst hp; exact Go.step (fun t q => XS.isub X.1.here X.2.1 rfl (hb X.2.2.1 hd) rfl q) k
theorem g_ixor (X : Sx Z own bytes ml p l e R s m args below meth c T locs cells slots h) {x y : Int32} (hd : decode bytes pc = .ok (.ixor, 1)) (hp : pc + 1 = pc') (k : Go p e below K (T.setTop (mkF m pc' Ls (.int (x ^^^ y) :: st)))) : Go p e below K (T.setTop (mkF m pc Ls (.int y :: .int x :: st))) := by
  subst hp; exact Go.step (fun t q => XS.ixor X.1.here X.2.1 rfl (hb X.2.2.1 hd) rfl q) k
theorem g_iushr (X : Sx Z own bytes ml p l e R s m args below meth c T locs cells slots h) {x y : Int32} (hd : decode bytes pc = .ok (.iushr, 1)) (hp : pc + 1 = pc') (k : Go p e below K (T.setTop (mkF m pc' Ls (.int ((x.toUInt32 >>> (y &&& 31).toUInt32).toInt32) :: st)))) : Go p e below K (T.setTop (mkF m pc Ls (.int y :: .int x :: st))) := by
  subst hp; exact Go.step (fun t q => XS.iushr X.1.here X.2.1 rfl (hb X.2.2.1 hd) rfl q) k
theorem g_ladd (X : Sx Z own bytes ml p l e R s m args below meth c T locs cells slots h) {x y : Int64} (hd : decode bytes pc = .ok (.ladd, 1)) (hp : pc + 1 = pc') (k : Go p e below K (T.setTop (mkF m pc' Ls (.long (x + y) :: st)))) : Go p e below K (T.setTop (mkF m pc Ls (.long y :: .long x :: st))) := by
  subst hp; exact Go.step (fun t q => XS.ladd X.1.here X.2.1 rfl (hb X.2.2.1 hd) rfl q) k
theorem g_lsub (X : Sx Z own bytes ml p l e R s m args below meth c T locs cells slots h) {x y : Int64} (hd : decode bytes pc = .ok (.lsub, 1)) (hp : pc + 1 = pc') (k : Go p e below K (T.setTop (mkF m pc' Ls (.long (x - y) :: st)))) : Go p e below K (T.setTop (mkF m pc Ls (.long y :: .long x :: st))) := by
  subst hp; exact Go.step (fun t q => XS.lsub X.1.here X.2.1 rfl (hb X.2.2.1 hd) rfl q) k
theorem g_land (X : Sx Z own bytes ml p l e R s m args below meth c T locs cells slots h) {x y : Int64} (hd : decode bytes pc = .ok (.land, 1)) (hp : pc + 1 = pc') (k : Go p e below K (T.setTop (mkF m pc' Ls (.long (x &&& y) :: st)))) : Go p e below K (T.setTop (mkF m pc Ls (.long y :: .long x :: st))) := by
  subst hp; exact Go.step (fun t q => XS.land X.1.here X.2.1 rfl (hb X.2.2.1 hd) rfl q) k
theorem g_lor (X : Sx Z own bytes ml p l e R s m args below meth c T locs cells slots h) {x y : Int64} (hd : decode bytes pc = .ok (.lor, 1)) (hp : pc + 1 = pc') (k : Go p e below K (T.setTop (mkF m pc' Ls (.long (x ||| y) :: st)))) : Go p e below K (T.setTop (mkF m pc Ls (.long y :: .long x :: st))) := by
  subst hp; exact Go.step (fun t q => XS.lor X.1.here X.2.1 rfl (hb X.2.2.1 hd) rfl q) k
theorem g_lshl (X : Sx Z own bytes ml p l e R s m args below meth c T locs cells slots h) {x : Int64} {y : Int32} (hd : decode bytes pc = .ok (.lshl, 1)) (hp : pc + 1 = pc') (k : Go p e below K (T.setTop (mkF m pc' Ls (.long (x <<< (y &&& 0x3f).toInt64) :: st)))) : Go p e below K (T.setTop (mkF m pc Ls (.int y :: .long x :: st))) := by
  subst hp; exact Go.step (fun t q => XS.lshl X.1.here X.2.1 rfl (hb X.2.2.1 hd) rfl q) k
theorem g_lushr (X : Sx Z own bytes ml p l e R s m args below meth c T locs cells slots h) {x : Int64} {y : Int32} (hd : decode bytes pc = .ok (.lushr, 1)) (hp : pc + 1 = pc') (k : Go p e below K (T.setTop (mkF m pc' Ls (.long ((x.toUInt64 >>> (y &&& 0x3f).toInt64.toUInt64).toInt64) :: st)))) : Go p e below K (T.setTop (mkF m pc Ls (.int y :: .long x :: st))) := by
  subst hp; exact Go.step (fun t q => XS.lushr X.1.here X.2.1 rfl (hb X.2.2.1 hd) rfl q) k
theorem g_lrem (X : Sx Z own bytes ml p l e R s m args below meth c T locs cells slots h) {x y : Int64} (hd : decode bytes pc = .ok (.lrem, 1)) (hp : pc + 1 = pc') (hy : y ≠ 0) (k : Go p e below K (T.setTop (mkF m pc' Ls (.long (x % y) :: st)))) : Go p e below K (T.setTop (mkF m pc Ls (.long y :: .long x :: st))) := by
  rw [← lrem_mod] at k; subst hp; exact Go.step (fun t q => XS.lrem X.1.here X.2.1 rfl (hb X.2.2.1 hd) rfl hy q) k
theorem g_i2l (X : Sx Z own bytes ml p l e R s m args below meth c T locs cells slots h) {x : Int32} (hd : decode bytes pc = .ok (.i2l, 1)) (hp : pc + 1 = pc') (k : Go p e below K (T.setTop (mkF m pc' Ls (.long (x.toInt64) :: st)))) : Go p e below K (T.setTop (mkF m pc Ls (.int x :: st))) := by
  subst hp; exact Go.step (fun t q => XS.i2l X.1.here X.2.1 rfl (hb X.2.2.1 hd) rfl q) k
theorem g_l2i (X : Sx Z own bytes ml p l e R s m args below meth c T locs cells slots h) {x : Int64} (hd : decode bytes pc = .ok (.l2i, 1)) (hp : pc + 1 = pc') (k : Go p e below K (T.setTop (mkF m pc' Ls (.int (x.toInt32) :: st)))) : Go p e below K (T.setTop (mkF m pc Ls (.long x :: st))) := by
  subst hp; exact Go.step (fun t q => XS.l2i X.1.here X.2.1 rfl (hb X.2.2.1 hd) rfl q) k
theorem g_iinc (X : Sx Z own bytes ml p l e R s m args below meth c T locs cells slots h) {i : Nat} {q x : Int32} {n : Int} (hd : decode bytes pc = .ok (.iinc i n, 3)) (hp : pc + 3 = pc') (hq : Int32.ofInt n = q) (hl : Ls[i]? = some (.val (.int x))) (hl' : storeLocals Ls i (.int (x + q)) = some Ls') (k : Go p e below K (T.setTop (mkF m pc' Ls' (st)))) : Go p e below K (T.setTop (mkF m pc Ls (st))) := by
  subst hq; subst hp; exact Go.step (fun t q => XS.iinc X.1.here X.2.1 rfl (hb X.2.2.1 hd) hl hl' q) k
theorem g_dup (X : Sx Z own bytes ml p l e R s m args below meth c T locs cells slots h) {v : Value} (hd : decode bytes pc = .ok (.dup, 1)) (hp : pc + 1 = pc') (hc : v.category = 1) (k : Go p e below K (T.setTop (mkF m pc' Ls (v :: v :: st)))) : Go p e below K (T.setTop (mkF m pc Ls (v :: st))) := by
  subst hp; exact Go.step (fun t q => XS.dup X.1.here X.2.1 rfl (hb X.2.2.1 hd) rfl hc q) k
theorem g_dup2 (X : Sx Z own bytes ml p l e R s m args below meth c T locs cells slots h) {v w : Value} (hd : decode bytes pc = .ok (.dup2, 1)) (hp : pc + 1 = pc') (hc : v.category = 1) (hc' : w.category = 1) (k : Go p e below K (T.setTop (mkF m pc' Ls (v :: w :: v :: w :: st)))) : Go p e below K (T.setTop (mkF m pc Ls (v :: w :: st))) := by
  subst hp; exact Go.step (fun t q => Jvm.Free.XT.dup2 X.1.here X.2.1 rfl (hb X.2.2.1 hd) rfl hc hc' q) k
theorem g_goto (X : Sx Z own bytes ml p l e R s m args below meth c T locs cells slots h) {o : Int} (hd : decode bytes pc = .ok (.goto o, 3)) (ho : 0 ≤ (pc : Int) + o) (hp : ((pc : Int) + o).toNat = pc') (k : Go p e below K (T.setTop (mkF m pc' Ls (st)))) : Go p e below K (T.setTop (mkF m pc Ls (st))) := by
  exact Go.step (fun t q => XS.goto X.1.here X.2.1 rfl rfl (hb X.2.2.1 hd) ho hp q) k
theorem g_ifY (X : Sx Z own bytes ml p l e R s m args below meth c T locs cells slots h) {cd : ClassFile.Cond} {x : Int32} {o : Int} (hd : decode bytes pc = .ok (.ifCond cd o, 3)) (hc : ifCond.holds cd x = true) (ho : 0 ≤ (pc : Int) + o) (hp : ((pc : Int) + o).toNat = pc') (k : Go p e below K (T.setTop (mkF m pc' Ls (st)))) : Go p e below K (T.setTop (mkF m pc Ls (.int x :: st))) := by
  exact Go.step (fun t q => XS.ifYes X.1.here X.2.1 rfl rfl (hb X.2.2.1 hd) rfl hc ho hp q) k
theorem g_ifN (X : Sx Z own bytes ml p l e R s m args below meth c T locs cells slots h) {cd : ClassFile.Cond} {x : Int32} {o : Int} (hd : decode bytes pc = .ok (.ifCond cd o, 3)) (hc : ifCond.holds cd x = false) (hp : pc + 3 = pc') (k : Go p e below K (T.setTop (mkF m pc' Ls (st)))) : Go p e below K (T.setTop (mkF m pc Ls (.int x :: st))) := by
  subst hp; exact Go.step (fun t q => XS.ifNo X.1.here X.2.1 rfl (hb X.2.2.1 hd) rfl hc q) k
theorem g_icY (X : Sx Z own bytes ml p l e R s m args below meth c T locs cells slots h) {cd : ClassFile.Cond} {x y : Int32} {o : Int} (hd : decode bytes pc = .ok (.if_icmp cd o, 3)) (hc : if_icmp.holds cd x y = true) (ho : 0 ≤ (pc : Int) + o) (hp : ((pc : Int) + o).toNat = pc') (k : Go p e below K (T.setTop (mkF m pc' Ls (st)))) : Go p e below K (T.setTop (mkF m pc Ls (.int y :: .int x :: st))) := by
  exact Go.step (fun t q => XS.icmpYes X.1.here X.2.1 rfl rfl (hb X.2.2.1 hd) rfl hc ho hp q) k
theorem g_icN (X : Sx Z own bytes ml p l e R s m args below meth c T locs cells slots h) {cd : ClassFile.Cond} {x y : Int32} {o : Int} (hd : decode bytes pc = .ok (.if_icmp cd o, 3)) (hc : if_icmp.holds cd x y = false) (hp : pc + 3 = pc') (k : Go p e below K (T.setTop (mkF m pc' Ls (st)))) : Go p e below K (T.setTop (mkF m pc Ls (.int y :: .int x :: st))) := by
  subst hp; exact Go.step (fun t q => XS.icmpNo X.1.here X.2.1 rfl (hb X.2.2.1 hd) rfl hc q) k
theorem g_iaload (X : Sx Z own bytes ml p l e R s m args below meth c T locs cells slots h) {a : Addr} {vs : List Value} {j : Int32} {x : Int32} (A : Av Z h a .int vs) (n : Nat) (hd : decode bytes pc = .ok (.iaload, 1)) (hp : pc + 1 = pc') (hj : ¬ j < 0) (hn : j.toNatClampNeg = n) (hv : vs[n]? = some (.int x)) (k : Go p e below K (T.setTop (mkF m pc' Ls (.int x :: st)))) : Go p e below K (T.setTop (mkF m pc Ls (.int j :: .ref a :: st))) := by
  obtain ⟨cl, A, rfl, r⟩ := A; subst hn; subst hp
  have hv' : cl.slots[j.toNatClampNeg]? = some (.int x) := by rw [← Array.getElem?_toList]; exact hv
  exact Go.step (fun t q => X.1.iaload X.2.1 (j := j) (by rw [X.2.2.2.2.2.2]; exact A.1) (State.isArrayOf_alike X.2.2.2.2.2.1.alike A.2.1) A.2.2 (fun hh => hh.elim hj (fun hh => absurd (Array.getElem?_eq_some_iff.mp hv').1 (Nat.not_lt.mpr hh))) hv' (g := mkF m pc Ls (.int j :: .ref a :: st)) rfl rfl (hb X.2.2.1 hd) _ q) k
theorem g_laload (X : Sx Z own bytes ml p l e R s m args below meth c T locs cells slots h) {a : Addr} {vs : List Value} {j : Int32} {x : Int64} (A : Av Z h a .long vs) (n : Nat) (hd : decode bytes pc = .ok (.laload, 1)) (hp : pc + 1 = pc') (hj : ¬ j < 0) (hn : j.toNatClampNeg = n) (hv : vs[n]? = some (.long x)) (k : Go p e below K (T.setTop (mkF m pc' Ls (.long x :: st)))) : Go p e below K (T.setTop (mkF m pc Ls (.int j :: .ref a :: st))) := by
  obtain ⟨cl, A, rfl, r⟩ := A; subst hn; subst hp
  have hv' : cl.slots[j.toNatClampNeg]? = some (.long x) := by rw [← Array.getElem?_toList]; exact hv
  exact Go.step (fun t q => X.1.laload X.2.1 (j := j) (by rw [X.2.2.2.2.2.2]; exact A.1) (State.isArrayOf_alike X.2.2.2.2.2.1.alike A.2.1) A.2.2 (fun hh => hh.elim hj (fun hh => absurd (Array.getElem?_eq_some_iff.mp hv').1 (Nat.not_lt.mpr hh))) hv' (g := mkF m pc Ls (.int j :: .ref a :: st)) rfl rfl (hb X.2.2.1 hd) _ q) k
theorem g_arraylength (X : Sx Z own bytes ml p l e R s m args below meth c T locs cells slots h) {a : Addr} {vs : List Value} {ty : FieldType} (A : Av Z h a ty vs) (hd : decode bytes pc = .ok (.arraylength, 1)) (hp : pc + 1 = pc') {z : Int32} (hz : vs.length.toInt32 = z) (k : Go p e below K (T.setTop (mkF m pc' Ls (.int z :: st)))) : Go p e below K (T.setTop (mkF m pc Ls (.ref a :: st))) := by
  obtain ⟨cl, A, rfl, r⟩ := A; subst hp
  rw [Array.length_toList] at hz; subst hz
  exact Go.step (fun t q => X.1.arraylength X.2.1 (by rw [X.2.2.2.2.2.2]; exact A.1) (State.isArrayOf_alike X.2.2.2.2.2.1.alike A.2.1) (g := mkF m pc Ls (.ref a :: st)) rfl rfl (hb X.2.2.1 hd) _ q) k
theorem g_iastore (X : Sx Z own bytes ml p l e R s m args below meth c T locs cells slots h) {a : Addr} {vs : List Value} {j : Int32} {x : Int32} (A : Av Z h a .int vs) (n : Nat) (hd : decode bytes pc = .ok (.iastore, 1)) (hp : pc + 1 = pc') (hj : ¬ j < 0) (hn : j.toNatClampNeg = n) (hlt : n < vs.length) (k : ∀ T' h', Sx Z own bytes ml p l e R s m args below meth c T' (locs ++ [⟨a, n⟩]) cells slots h' → Wr h h' a n (.int x) → Av Z h' a .int (vs.set n (.int x)) → Go p e below K (T'.setTop (mkF m pc' Ls (st)))) : Go p e below K (T.setTop (mkF m pc Ls (.int x :: .int j :: .ref a :: st))) := by
  obtain ⟨cl, A, rfl, r⟩ := A; subst hn; subst hp
  obtain ⟨T', h', X', e', W, stp⟩ := stI X.1 X.2.1 X.2.2.2.2.2.1 X.2.2.2.2.2.2 A (j := j) (fun hh => hh.elim hj (fun hh => absurd hlt (by simpa using hh))) (g := mkF m pc Ls (.int x :: .int j :: .ref a :: st)) rfl rfl (hb X.2.2.1 hd)
  exact Go.step (fun t q => stp _ q) (k T' h' ⟨X', X.2.1, X.2.2.1, X.2.2.2.1, X.2.2.2.2.1, X.2.2.2.2.2.1, e'⟩ W (Av.set ⟨cl, A, rfl, r⟩ W))
theorem g_lastore (X : Sx Z own bytes ml p l e R s m args below meth c T locs cells slots h) {a : Addr} {vs : List Value} {j : Int32} {x : Int64} (A : Av Z h a .long vs) (n : Nat) (hd : decode bytes pc = .ok (.lastore, 1)) (hp : pc + 1 = pc') (hj : ¬ j < 0) (hn : j.toNatClampNeg = n) (hlt : n < vs.length) (k : ∀ T' h', Sx Z own bytes ml p l e R s m args below meth c T' (locs ++ [⟨a, n⟩]) cells slots h' → Wr h h' a n (.long x) → Av Z h' a .long (vs.set n (.long x)) → Go p e below K (T'.setTop (mkF m pc' Ls (st)))) : Go p e below K (T.setTop (mkF m pc Ls (.long x :: .int j :: .ref a :: st))) := by
  obtain ⟨cl, A, rfl, r⟩ := A; subst hn; subst hp
  obtain ⟨T', h', X', e', W, stp⟩ := stJ X.1 X.2.1 X.2.2.2.2.2.1 X.2.2.2.2.2.2 A (j := j) (fun hh => hh.elim hj (fun hh => absurd hlt (by simpa using hh))) (g := mkF m pc Ls (.long x :: .int j :: .ref a :: st)) rfl rfl (hb X.2.2.1 hd)
  exact Go.step (fun t q => stp _ q) (k T' h' ⟨X', X.2.1, X.2.2.1, X.2.2.2.1, X.2.2.2.2.1, X.2.2.2.2.2.1, e'⟩ W (Av.set ⟨cl, A, rfl, r⟩ W))
theorem g_newarray (X : Sx Z own bytes ml p l e R s m args below meth c T locs cells slots h) {aty : ArrayType} {z : Int32} {vs : List Value} {ad : String} (n : Nat) (w : (Cond.arrayClass (newarray.typeOf aty)).before a0 Z = true) (hd : decode bytes pc = .ok (.newarray aty, 2)) (hp : pc + 2 = pc') (hz : ¬ z < 0) (hn : z.toNatClampNeg = n) (cap : Nat) (hcap : n ≤ cap) (hbig : cap * 8 ≤ 536870912) (hc : cells + 1 ≤ R.cells) (hl : slots + cap ≤ R.slots) (hvs : List.replicate n (defaultValue (newarray.typeOf aty)) = vs) (had : "[" ++ (newarray.typeOf aty).toString = ad) (k : ∀ T' h' (a : Addr), a = h.size → Sx Z own bytes ml p l e R s m args below meth c T' locs (cells + 1) (slots + cap) h' → Ext h h' → Exa Z h' a ad → Av Z h' a (newarray.typeOf aty) vs → Go p e below K (T'.setTop (mkF m pc' Ls (.ref a :: st)))) : Go p e below K (T.setTop (mkF m pc Ls (.int z :: st))) := by
  subst hn; subst hp; subst hvs
  obtain ⟨T', h', cA, X', e', E, A, B, stp⟩ := newPE X.1 X.2.1 X.2.2.2.2.2.1 w X.2.2.2.2.2.2 (g := mkF m pc Ls (.int z :: st)) rfl (hb X.2.2.1 hd) rfl hz hcap hbig hc hl had
  refine Go.step (fun t q => stp _ q) (k T' h' _ rfl ⟨X', X.2.1, X.2.2.1, X.2.2.2.1, X.2.2.2.2.1, X.2.2.2.2.2.1, e'⟩ E B ⟨_, A, by simp [newA], ?_⟩)
  simp only [List.length_replicate]
  exact (back32 hz).2
theorem g_new (X : Sx Z own bytes ml p l e R s m args below meth c T locs cells slots h) {i n : Nat} {C : String} (w1 : (Cond.classLink own i C).before a0 Z = true) (w2 : (Cond.instantiable C n).before a0 Z = true) (w3 : (Cond.initialized C).before a0 Z = true) (hd : decode bytes pc = .ok (.new i, 3)) (hp : pc + 3 = pc') (hc : cells + 1 ≤ R.cells) (hl : slots + n ≤ R.slots) (k : ∀ T' h' (a : Addr), a = h.size → Sx Z own bytes ml p l e R s m args below meth c T' locs (cells + 1) (slots + n) h' → Ext h h' → Exa Z h' a C → (∀ {O nm d : String} {ty : FieldType}, Laid Z a0 C O nm d → parseFieldDescriptor d = some ty → Fld Z h' a O nm d (defaultValue ty)) → Go p e below K (T'.setTop (mkF m pc' Ls (.ref a :: st)))) : Go p e below K (T.setTop (mkF m pc Ls (st))) := by
  subst hp
  obtain ⟨T', h', X', e', E, A, D, -, stp⟩ := newO X.1 X.2.1 X.2.2.2.2.2.1 X.2.2.2.2.1 w1 w2 w3 X.2.2.2.2.2.2 (g := mkF m pc Ls st) rfl (hb X.2.2.1 hd) hc hl
  exact Go.step (fun t q => stp _ q) (k T' h' _ rfl ⟨X', X.2.1, X.2.2.1, X.2.2.2.1, X.2.2.2.2.1, X.2.2.2.2.2.1, e'⟩ E A D)
theorem g_getfield (X : Sx Z own bytes ml p l e R s m args below meth c T locs cells slots h) {i : Nat} {R0 O nm d host : String} {a : Addr} {v : Value} (w : (Cond.fieldLink own i R0 nm d).before a0 Z = true ∨ (Cond.fieldLinkNest own i R0 nm d host).before a0 Z = true) (via : Via Z R0 O nm d) (F : Fld Z h a O nm d v) (hd : decode bytes pc = .ok (.getfield i, 3)) (hp : pc + 3 = pc') (k : ∀ T', Sx Z own bytes ml p l e R s m args below meth c T' locs cells slots h → Go p e below K (T'.setTop (mkF m pc' Ls (v :: st)))) : Go p e below K (T.setTop (mkF m pc Ls (.ref a :: st))) := by
  subst hp
  obtain ⟨T', X', e', stp⟩ := getF X.1 X.2.1 X.2.2.2.2.2.1 X.2.2.2.2.1 w via X.2.2.2.2.2.2 F (g := mkF m pc Ls (.ref a :: st)) rfl rfl (hb X.2.2.1 hd)
  exact Go.step (fun t q => stp _ q) (k T' ⟨X', X.2.1, X.2.2.1, X.2.2.2.1, X.2.2.2.2.1, X.2.2.2.2.2.1, e'⟩)
theorem g_putfield (X : Sx Z own bytes ml p l e R s m args below meth c T locs cells slots h) {i kk : Nat} {R0 O nm d host C : String} {a : Addr} {v old : Value} {ty : FieldType} (w : (Cond.fieldLink own i R0 nm d).before a0 Z = true ∨ (Cond.fieldLinkNest own i R0 nm d host).before a0 Z = true) (via : Via Z R0 O nm d) (F : Fld Z h a O nm d old) (E : Exa Z h a C) (L : (Cond.lays C O nm d).before a0 Z = true ∨ ((Cond.laysFinal C O nm d).before a0 Z = true ∧ own = O ∧ meth.name = "<init>")) (wi : (Cond.instantiable C kk).before a0 Z = true) (hty : parseFieldDescriptor d = some ty) (hn : narrow ty v = v) (hf : fits ty v = true) (hd : decode bytes pc = .ok (.putfield i, 3)) (hp : pc + 3 = pc') (k : ∀ T' h', Sx Z own bytes ml p l e R s m args below meth c T' (locs ++ [⟨a, RoadKit.slotOf Z O nm d⟩]) cells slots h' → Wr h h' a (RoadKit.slotOf Z O nm d) v → Go p e below K (T'.setTop (mkF m pc' Ls (st)))) : Go p e below K (T.setTop (mkF m pc Ls (v :: .ref a :: st))) := by
  subst hp
  obtain ⟨T', h', X', e', W, stp⟩ := putF X.1 X.2.1 X.2.2.2.2.2.1 X.2.2.2.2.1 w via X.2.2.2.2.2.2 F E L wi hty hn hf (g := mkF m pc Ls (v :: .ref a :: st)) rfl rfl (hb X.2.2.1 hd)
  exact Go.step (fun t q => stp _ q) (k T' h' ⟨X', X.2.1, X.2.2.1, X.2.2.2.1, X.2.2.2.2.1, X.2.2.2.2.2.1, e'⟩ W)
theorem g_initO (X : Sx Z own bytes ml p l e R s m args below meth c T locs cells slots h) {i W : Nat} {a : Addr} (w1 : (Cond.methodLink own i Lib.objectInit).before a0 Z = true) (w2 : (Cond.instanceMethod Lib.objectInit).before a0 Z = true) (w3 : (Cond.code Lib.objectInit ⟨#[0xb1]⟩ 1 none).before a0 Z = true) (hd : decode bytes pc = .ok (.invokespecial i, 3)) (hp : pc + 3 = pc') (hsz : Ls.size = ml) (hf : 1 ≤ R.frames) (hW : (st.map fun v => v.category).sum ≤ W) (hl : W + 12 ≤ R.locals) (k : ∀ T', Sx Z own bytes ml p l e R s m args below meth c T' locs cells slots h → Go p e below K (T'.setTop (mkF m pc' Ls (st)))) : Go p e below K (T.setTop (mkF m pc Ls (.ref a :: st))) := by
  subst hp
  obtain ⟨T', X', e', stp⟩ := initO X.1 X.2.1 X.2.2.2.2.2.1 X.2.2.2.2.1 w1 w2 w3 X.2.2.2.2.2.2 (g := mkF m pc Ls (.ref a :: st)) rfl (by rw [X.2.2.2.1]; exact hsz) rfl (hb X.2.2.1 hd) hf (W := W) (by simpa using hW) hl
  exact Go.step (fun t q => stp _ q) (k T' ⟨X', X.2.1, X.2.2.1, X.2.2.2.1, X.2.2.2.2.1, X.2.2.2.2.2.1, e'⟩)
theorem g_checkcast (X : Sx Z own bytes ml p l e R s m args below meth c T locs cells slots h) {i : Nat} {K0 : String} {a : Addr} (w : (Cond.classLink own i K0).before a0 Z = true) (F : Ins Z h a K0 true) (hd : decode bytes pc = .ok (.checkcast i, 3)) (hp : pc + 3 = pc') (k : ∀ T', Sx Z own bytes ml p l e R s m args below meth c T' locs cells slots h → Go p e below K (T'.setTop (mkF m pc' Ls (.ref a :: st)))) : Go p e below K (T.setTop (mkF m pc Ls (.ref a :: st))) := by
  subst hp
  obtain ⟨T', X', e', stp⟩ := castY X.1 X.2.1 X.2.2.2.2.2.1 X.2.2.2.2.1 w X.2.2.2.2.2.2 F (g := mkF m pc Ls (.ref a :: st)) rfl rfl (hb X.2.2.1 hd)
  exact Go.step (fun t q => stp _ q) (k T' ⟨X', X.2.1, X.2.2.1, X.2.2.2.1, X.2.2.2.2.1, X.2.2.2.2.2.1, e'⟩)
theorem g_clone (X : Sx Z own bytes ml p l e R s m args below meth c T locs cells slots h) {i W : Nat} {ad : String} {a : Addr} {ty : FieldType} {vs : List Value} (w1 : (Cond.methodLink own i ⟨ad, "clone", "()Ljava/lang/Object;"⟩).before a0 Z = true) (w2 : (Cond.sameMethod ad "java/lang/Object" "clone" "()Ljava/lang/Object;").before a0 Z = true) (w3 : (Cond.native ⟨"java/lang/Object", "clone", "()Ljava/lang/Object;"⟩).before a0 Z = true) (w4 : (Cond.instanceMethod ⟨"java/lang/Object", "clone", "()Ljava/lang/Object;"⟩).before a0 Z = true) (w5 : (Cond.selects ad ⟨ad, "clone", "()Ljava/lang/Object;"⟩ ⟨"java/lang/Object", "clone", "()Ljava/lang/Object;"⟩).before a0 Z = true) (w6 : (Cond.castable ad "java/lang/Cloneable").before a0 Z = true) (A : Av Z h a ty vs) (E : Exa Z h a ad) (hfit : ∀ v ∈ vs, fits ty v = true) (hd : decode bytes pc = .ok (.invokevirtual i, 3)) (hp : pc + 3 = pc') (hsz : Ls.size = ml) (hf : 1 ≤ R.frames) (hW : (st.map fun v => v.category).sum ≤ W) (hl : W + 14 ≤ R.locals) (cap : Nat) (hcap : vs.length ≤ cap) (hc : cells + 1 ≤ R.cells) (hs : slots + cap ≤ R.slots) (k : ∀ T' h' (b : Addr), b = h.size → Sx Z own bytes ml p l e R s m args below meth c T' locs (cells + 1) (slots + cap) h' → Ext h h' → Exa Z h' b ad → Av Z h' b ty vs → Go p e below K (T'.setTop (mkF m pc' Ls (.ref b :: st)))) : Go p e below K (T.setTop (mkF m pc Ls (.ref a :: st))) := by
  subst hp
  obtain ⟨cl, A, rfl, r⟩ := A
  have FC : FitC Z cl := fitC_of A fun j hj v hv => hfit v (by rw [← Array.getElem?_toList] at hv; exact List.mem_of_getElem? hv)
  obtain ⟨T', h', X', e', Ex, A', E', stp⟩ := cloneA X.1 X.2.1 X.2.2.2.2.2.1 X.2.2.2.2.1 w1 w2 w3 w4 w5 w6 X.2.2.2.2.2.2 A E FC (g := mkF m pc Ls (.ref a :: st)) rfl (by rw [X.2.2.2.1]; exact hsz) rfl (hb X.2.2.1 hd) hf (W := W) (cap := cap) (by simpa using hW) hl (by simpa using hcap) hc hs
  exact Go.step (fun t q => stp _ q) (k T' h' _ rfl ⟨X', X.2.1, X.2.2.1, X.2.2.2.1, X.2.2.2.2.1, X.2.2.2.2.2.1, e'⟩ Ex E' ⟨_, A', rfl, r⟩)
theorem g_static (X : Sx Z own bytes ml p l e R s m args below meth c T locs cells slots h) {y : MethodName} {yb : ByteArray} {yl : Nat} {yr : Option FieldType} {rm : Room} {as' : Array Value} {Q : Option Value → Heap → List Loc → Prop} {i W : Nat} (argsL rest : List Value) (w1 : (Cond.methodLink own i y).before a0 Z = true) (w2 : (Cond.static y).before a0 Z = true) (w3 : (Cond.initialized y.cls).before a0 Z = true) (w4 : (Cond.code y yb yl yr).before a0 Z = true) (M : Rm l Z y yb yl yr [] rm as' h Q) (hd : decode bytes pc = .ok (.invokestatic i, 3)) (hp : pc + 3 = pc') (hy : y.cls ≠ "java/lang/invoke/MethodHandle" ∧ y.cls ≠ "java/lang/invoke/VarHandle") (hf : rm.frames + 1 ≤ R.frames) (hl : W + (yl + 11) + rm.locals ≤ R.locals) (hsz : Ls.size = ml) (ha : argsL.toArray = as') (hst : st = argsL.reverse ++ rest) (hlen : ∀ sig, parseMethodDescriptor y.desc = some sig → argsL.length = sig.parameters.length) (hW : (rest.map fun v => v.category).sum ≤ W) (hc : cells + rm.cells ≤ R.cells) (hs : slots + rm.slots ≤ R.slots) (k : ∀ v T' L, Sx Z own bytes ml p l e R s m args below meth c T' (locs ++ L) (cells + rm.cells) (slots + rm.slots) T'.heap → Q v T'.heap L → Go p e below K (T'.setTop (mkF m pc' Ls (v.toList ++ rest)))) : Go p e below K (T.setTop (mkF m pc Ls (st))) := by
  subst hp; subst hst
  have hZ := X.2.2.2.2.2.1
  obtain ⟨v, vm1, ⟨T', L', k', n'⟩, -, X', ⟨L, hQ, l1, l2, l3⟩, stp⟩ := Jvm.LawKit.callS X.1 X.2.1 X.2.2.2.2.1 (mvT hZ w1) (mvT hZ w2) (mvT hZ w3) (mvT hZ w4) hy (backOf (W := W) M hZ w4 w3 hf hl) (g := mkF m pc Ls (argsL.reverse ++ rest)) rfl (by rw [X.2.2.2.1]; exact hsz) (argsL := argsL) (rest := rest) hlen rfl (by simpa using hW) (hb X.2.2.1 hd) (fun _ _ => ⟨ha, X.2.2.2.2.2.2, hc, hs⟩)
  dsimp only [Pt.U, Pt.locs, Pt.cells, Pt.slots] at X' l1 l2 l3 stp hQ
  subst l1 l2 l3
  exact Go.step (fun t q => stp _ q) (k v T' L ⟨X', X.2.1, X.2.2.1, X.2.2.2.1, X.2.2.2.2.1, X.2.2.2.2.2.1, rfl⟩ hQ)
theorem g_special (X : Sx Z own bytes ml p l e R s m args below meth c T locs cells slots h) {y : MethodName} {yb : ByteArray} {yl : Nat} {rm : Room} {as' : Array Value} {Q : Option Value → Heap → List Loc → Prop} {i W : Nat} {a : Addr} (argsL rest : List Value) (hi : y.name = "<init>") (w1 : (Cond.methodLink own i y).before a0 Z = true) (w2 : (Cond.instanceMethod y).before a0 Z = true) (w3 : (Cond.initialized y.cls).before a0 Z = true) (w4 : (Cond.code y yb yl none).before a0 Z = true) (M : Rm l Z y yb yl none [] rm as' h Q) (hd : decode bytes pc = .ok (.invokespecial i, 3)) (hp : pc + 3 = pc') (hy : y.cls ≠ "java/lang/invoke/MethodHandle" ∧ y.cls ≠ "java/lang/invoke/VarHandle") (hf : rm.frames + 1 ≤ R.frames) (hl : W + (yl + 11) + rm.locals ≤ R.locals) (hsz : Ls.size = ml) (ha : (.ref a :: argsL).toArray = as') (hst : st = argsL.reverse ++ .ref a :: rest) (hlen : ∀ sig, parseMethodDescriptor y.desc = some sig → argsL.length = sig.parameters.length) (hW : (rest.map fun v => v.category).sum ≤ W) (hc : cells + rm.cells ≤ R.cells) (hs : slots + rm.slots ≤ R.slots) (k : ∀ v T' L, Sx Z own bytes ml p l e R s m args below meth c T' (locs ++ L) (cells + rm.cells) (slots + rm.slots) T'.heap → Q v T'.heap L → Go p e below K (T'.setTop (mkF m pc' Ls (v.toList ++ rest)))) : Go p e below K (T.setTop (mkF m pc Ls (st))) := by
  subst hp; subst hst
  have hZ := X.2.2.2.2.2.1
  obtain ⟨v, vm1, ⟨T', L', k', n'⟩, -, X', ⟨L, hQ, l1, l2, l3⟩, stp⟩ := X.1.specialBack X.2.1 (y := y) hi X.2.2.2.2.1 (mvT hZ w1) (mvT hZ w2) (mvT hZ w4) hy (backOf (W := W) M hZ w4 w3 hf hl) (g := mkF m pc Ls (argsL.reverse ++ .ref a :: rest)) rfl (by rw [X.2.2.2.1]; exact hsz) (Steps.refl _) (a := a) (argsL := argsL) (rest := rest) hlen rfl (by simpa using hW) (hb X.2.2.1 hd) (fun _ _ => ⟨ha, X.2.2.2.2.2.2, hc, hs⟩)
  dsimp only [Pt.U, Pt.locs, Pt.cells, Pt.slots] at X' l1 l2 l3 stp hQ
  subst l1 l2 l3
  exact Go.step (fun t q => stp.trans q) (k v T' L ⟨X', X.2.1, X.2.2.1, X.2.2.2.1, X.2.2.2.2.1, X.2.2.2.2.2.1, rfl⟩ hQ)
theorem g_virtual (X : Sx Z own bytes ml p l e R s m args below meth c T locs cells slots h) {y : MethodName} {yb : ByteArray} {yl : Nat} {yr : Option FieldType} {rm : Room} {as' : Array Value} {Q : Option Value → Heap → List Loc → Prop} {i W : Nat} {a : Addr} {C : String} (argsL rest : List Value) (E : Exa Z h a C) (w1 : (Cond.methodLink own i y).before a0 Z = true) (w2 : (Cond.declares y).before a0 Z = true) (w5 : (Cond.selects C y y).before a0 Z = true) (w6 : (Cond.instanceMethod y).before a0 Z = true) (w3 : (Cond.initialized y.cls).before a0 Z = true) (w4 : (Cond.code y yb yl yr).before a0 Z = true) (M : Rm l Z y yb yl yr [] rm as' h Q) (hd : decode bytes pc = .ok (.invokevirtual i, 3)) (hp : pc + 3 = pc') (hy : y.cls ≠ "java/lang/invoke/MethodHandle" ∧ y.cls ≠ "java/lang/invoke/VarHandle") (hf : rm.frames + 1 ≤ R.frames) (hl : W + (yl + 11) + rm.locals ≤ R.locals) (hsz : Ls.size = ml) (ha : (.ref a :: argsL).toArray = as') (hst : st = argsL.reverse ++ .ref a :: rest) (hlen : ∀ sig, parseMethodDescriptor y.desc = some sig → argsL.length = sig.parameters.length) (hW : (rest.map fun v => v.category).sum ≤ W) (hc : cells + rm.cells ≤ R.cells) (hs : slots + rm.slots ≤ R.slots) (k : ∀ v T' L, Sx Z own bytes ml p l e R s m args below meth c T' (locs ++ L) (cells + rm.cells) (slots + rm.slots) T'.heap → Q v T'.heap L → Go p e below K (T'.setTop (mkF m pc' Ls (v.toList ++ rest)))) : Go p e below K (T.setTop (mkF m pc Ls (st))) := by
  subst hp; subst hst
  have hZ := X.2.2.2.2.2.1
  obtain ⟨cq, kq, qa, qb, qc⟩ := isOf hZ X.2.2.2.2.2.2 E
  obtain ⟨v, vm1, ⟨T', L', k', n'⟩, -, X', ⟨L, hQ, l1, l2, l3⟩, stp⟩ := X.1.virtualBack X.2.1 (y := y) (z := y) X.2.2.2.2.1 (mvT hZ w1) (mvT hZ w2) (notFace_of_selects (args := #[]) (mvT hZ w5)) (mvT hZ w5) (mvT hZ w6) hy (backOf (W := W) M hZ w4 w3 hf hl) qa qc (g := mkF m pc Ls (argsL.reverse ++ .ref a :: rest)) rfl (by rw [X.2.2.2.1]; exact hsz) (Steps.refl _) (argsL := argsL) (rest := rest) hlen rfl (by simpa using hW) (hb X.2.2.1 hd) (fun _ _ => ⟨ha, X.2.2.2.2.2.2, hc, hs⟩)
  dsimp only [Pt.U, Pt.locs, Pt.cells, Pt.slots] at X' l1 l2 l3 stp hQ
  subst l1 l2 l3
  exact Go.step (fun t q => stp.trans q) (k v T' L ⟨X', X.2.1, X.2.2.1, X.2.2.2.1, X.2.2.2.2.1, X.2.2.2.2.2.1, rfl⟩ hQ)
theorem g_ireturn (X : Sx Z own bytes ml p l e R s m args below meth c T locs cells slots h) {Q : Option Value → Heap → List Loc → Prop} {kc ks : Nat} {z : Int32} (hd : decode bytes pc = .ok (.ireturn, 1)) (hret : meth.sig.returnType = some .int) (hlk : meth.locks = false) (hc : cells ≤ kc) (hs : slots ≤ ks) (q : Q (some (.int z)) h locs) : Go p e below (Ends s Q kc ks) (T.setTop (mkF m pc Ls (.int z :: st))) := by
  obtain ⟨fs, hr, hrun, hended, hW, hsame⟩ := X.1.leave (v := (some (.int z))) (fun h => by rw [hret] at h; cases h) hlk
  refine ⟨_, _, retI X.1 X.2.1 hret (hb X.2.2.1 hd) hr, hrun, hended, _, _, rfl, ?_, ⟨_, rfl⟩, hW, hsame.mono hc hs⟩
  show Q _ T.heap _
  rw [X.2.2.2.2.2.2]; exact q
theorem g_ireturnN (X : Sx Z own bytes ml p l e R s m args below meth c T locs cells slots h) {Q : Option Value → Heap → List Loc → Prop} {kc ks : Nat} {z : Int32} {t : FieldType} (ht : t = .boolean ∨ t = .byte ∨ t = .char ∨ t = .short) (hd : decode bytes pc = .ok (.ireturn, 1)) (hret : meth.sig.returnType = some t) (hlk : meth.locks = false) (hc : cells ≤ kc) (hs : slots ≤ ks) (q : Q (some (.int (nar t z))) h locs) : Go p e below (Ends s Q kc ks) (T.setTop (mkF m pc Ls (.int z :: st))) := by
  obtain ⟨fs, hr, hrun, hended, hW, hsame⟩ := X.1.leave (v := (some (.int (nar t z)))) (fun h => by rw [hret] at h; cases h) hlk
  refine ⟨_, _, retN X.1 X.2.1 hret ht (hb X.2.2.1 hd) hr, hrun, hended, _, _, rfl, ?_, ⟨_, rfl⟩, hW, hsame.mono hc hs⟩
  show Q _ T.heap _
  rw [X.2.2.2.2.2.2]; exact q
theorem g_return (X : Sx Z own bytes ml p l e R s m args below meth c T locs cells slots h) {Q : Option Value → Heap → List Loc → Prop} {kc ks : Nat} (hd : decode bytes pc = .ok (.return_, 1)) (hret : meth.sig.returnType = none) (hlk : meth.locks = false) (hc : cells ≤ kc) (hs : slots ≤ ks) (q : Q none h locs) : Go p e below (Ends s Q kc ks) (T.setTop (mkF m pc Ls ([]))) := by
  obtain ⟨fs, hr, hrun, hended, hW, hsame⟩ := X.1.leave (v := none) (fun _ => rfl) hlk
  refine ⟨_, _, X.1.returnOut X.2.1 hret (hb X.2.2.1 hd) hr, hrun, hended, _, _, rfl, ?_, ⟨_, rfl⟩, hW, hsame.mono hc hs⟩
  show Q _ T.heap _
  rw [X.2.2.2.2.2.2]; exact q
end Walk
/-- the sheet's k-th word -/
theorem tb {a0 : Array Value} {Z : State} (hw : ∀ d ∈ tables_1, d.before a0 Z = true) (k : Nat) {d : Jvm.Cond} (hd : tables_1[k]? = some d) : d.before a0 Z = true := hw d (List.mem_of_getElem? hd)
/-- what a method says that writes and makes nothing: it returns this -/
def Pu (val : Value) (h0 : Heap) (v : Option Value) (h : Heap) (L : List Loc) : Prop := v = some val ∧ L = [] ∧ h = h0
theorem pureX {Z : State} {own : String} {bytes : ByteArray} {ml : Nat} {p : Program} {l : Launch} {e : Env} {R : Room} {s : State} {m : MethodId} {args : Array Value} {below : List Frame} {meth : Method} {c : Code} {T : State} {locs L : List Loc} {cells slots : Nat} {h : Heap} {val : Value} {v : Option Value}
    (X : Sx Z own bytes ml p l e R s m args below meth c T (locs ++ L) (cells + 0) (slots + 0) T.heap) (q : Pu val h v T.heap L) : v = some val ∧ Sx Z own bytes ml p l e R s m args below meth c T locs cells slots h := by
  obtain ⟨q1, rfl, q3⟩ := q
  rw [List.append_nil] at X
  exact ⟨q1, X.1, X.2.1, X.2.2.1, X.2.2.2.1, X.2.2.2.2.1, X.2.2.2.2.2.1, q3⟩
theorem d2_0 : decode jdk_29_method_69_code 0 = .ok (.iload_n 0, 1) := by decide +kernel
theorem d2_1 : decode jdk_29_method_69_code 1 = .ok (.iload_n 1, 1) := by decide +kernel
theorem d2_2 : decode jdk_29_method_69_code 2 = .ok (.if_icmp .gt 7, 3) := by decide +kernel
theorem d2_9 : decode jdk_29_method_69_code 9 = .ok (.iload_n 1, 1) := by decide +kernel
theorem d2_10 : decode jdk_29_method_69_code 10 = .ok (.ireturn, 1) := by decide +kernel
theorem d2_5 : decode jdk_29_method_69_code 5 = .ok (.iload_n 0, 1) := by decide +kernel
theorem d2_6 : decode jdk_29_method_69_code 6 = .ok (.goto 4, 3) := by decide +kernel
def fMin (i0 : Int32) (i1 : Int32) : Int32 := if i1 < i0 then (i1) else (i0)
theorem ef_rMin (m : MethodId) (x0 : Int32) (x1 : Int32) : entryFrame m #[(.int x0), (.int x1)] 2 = mkF m 0 #[.val (.int x0), .val (.int x1)] [] := by first | (simp [entryFrame, mkF, argsToLocals, Value.category]; done) | rfl
set_option maxRecDepth 65536 in
set_option maxHeartbeats 40000000 in
theorem rMin (l : Launch) (Z : State) (aa : Array Value) (hw : ∀ d ∈ tables_1, d.before aa Z = true) (ws : List Jvm.Cond) (i0 : Int32) (i1 : Int32) (h0 : Heap) :
    Rm l Z (⟨"java/lang/Math", "min", "(II)I"⟩ : MethodName) jdk_29_method_69_code 2 (some .int) ws ({ frames := 0, cells := 0, slots := 0, locals := 0 } : Room) #[(.int i0), (.int i1)] h0 (Pu (.int (fMin i0 i1)) h0) := by
 refine Rm.of (Jvm.Free.JP.mathPlain rfl (by decide +kernel)) ?_
 intro p e s m below meth cc T X hnm hret hlk
 refine Go.at_ (ef_rMin m i0 i1) ?_
 refine g_iloadN X d2_0 (pc' := 1) rfl rfl ?_
 refine g_iloadN X d2_1 (pc' := 2) rfl rfl ?_
 by_cases qa : i1 < i0
 refine g_icY X d2_2 (tlt qa).2.2.1 (pc' := 9) (by decide) (by decide) ?_
 refine g_iloadN X d2_9 (pc' := 10) rfl rfl ?_
 refine g_ireturn X d2_10 hret hlk (by decide) (by decide) ?_
 exact ⟨congrArg (fun z => some (Value.int z)) (Eq.symm (show fMin i0 i1 = _ from (Eq.trans (if_pos qa) rfl))), rfl, rfl⟩
 refine g_icN X d2_2 (flt qa).2.2.1 (pc' := 5) rfl ?_
 refine g_iloadN X d2_5 (pc' := 6) rfl rfl ?_
 refine g_goto X d2_6 (pc' := 10) (by decide) (by decide) ?_
 refine g_ireturn X d2_10 hret hlk (by decide) (by decide) ?_
 exact ⟨congrArg (fun z => some (Value.int z)) (Eq.symm (show fMin i0 i1 = _ from (Eq.trans (if_neg qa) rfl))), rfl, rfl⟩
theorem d4_0 : decode jdk_29_method_65_code 0 = .ok (.iload_n 0, 1) := by decide +kernel
theorem d4_1 : decode jdk_29_method_65_code 1 = .ok (.iload_n 1, 1) := by decide +kernel
theorem d4_2 : decode jdk_29_method_65_code 2 = .ok (.if_icmp .lt 7, 3) := by decide +kernel
theorem d4_9 : decode jdk_29_method_65_code 9 = .ok (.iload_n 1, 1) := by decide +kernel
theorem d4_10 : decode jdk_29_method_65_code 10 = .ok (.ireturn, 1) := by decide +kernel
theorem d4_5 : decode jdk_29_method_65_code 5 = .ok (.iload_n 0, 1) := by decide +kernel
theorem d4_6 : decode jdk_29_method_65_code 6 = .ok (.goto 4, 3) := by decide +kernel
def fMax (i0 : Int32) (i1 : Int32) : Int32 := if i0 < i1 then (i1) else (i0)
theorem ef_rMax (m : MethodId) (x0 : Int32) (x1 : Int32) : entryFrame m #[(.int x0), (.int x1)] 2 = mkF m 0 #[.val (.int x0), .val (.int x1)] [] := by first | (simp [entryFrame, mkF, argsToLocals, Value.category]; done) | rfl
set_option maxRecDepth 65536 in
set_option maxHeartbeats 40000000 in
theorem rMax (l : Launch) (Z : State) (aa : Array Value) (hw : ∀ d ∈ tables_1, d.before aa Z = true) (ws : List Jvm.Cond) (i0 : Int32) (i1 : Int32) (h0 : Heap) :
    Rm l Z (⟨"java/lang/Math", "max", "(II)I"⟩ : MethodName) jdk_29_method_65_code 2 (some .int) ws ({ frames := 0, cells := 0, slots := 0, locals := 0 } : Room) #[(.int i0), (.int i1)] h0 (Pu (.int (fMax i0 i1)) h0) := by
 refine Rm.of (Jvm.Free.JP.mathPlain rfl (by decide +kernel)) ?_
 intro p e s m below meth cc T X hnm hret hlk
 refine Go.at_ (ef_rMax m i0 i1) ?_
 refine g_iloadN X d4_0 (pc' := 1) rfl rfl ?_
 refine g_iloadN X d4_1 (pc' := 2) rfl rfl ?_
 by_cases qa : i0 < i1
 refine g_icY X d4_2 (tlt qa).1 (pc' := 9) (by decide) (by decide) ?_
 refine g_iloadN X d4_9 (pc' := 10) rfl rfl ?_
 refine g_ireturn X d4_10 hret hlk (by decide) (by decide) ?_
 exact ⟨congrArg (fun z => some (Value.int z)) (Eq.symm (show fMax i0 i1 = _ from (Eq.trans (if_pos qa) rfl))), rfl, rfl⟩
 refine g_icN X d4_2 (flt qa).1 (pc' := 5) rfl ?_
 refine g_iloadN X d4_5 (pc' := 6) rfl rfl ?_
 refine g_goto X d4_6 (pc' := 10) (by decide) (by decide) ?_
 refine g_ireturn X d4_10 hret hlk (by decide) (by decide) ?_
 exact ⟨congrArg (fun z => some (Value.int z)) (Eq.symm (show fMax i0 i1 = _ from (Eq.trans (if_neg qa) rfl))), rfl, rfl⟩
theorem pn_0 : plainName "com/example/ryazan/ryazan/language/LayoutUnpackPinLaw" = true := by first | (simp [plainName, overriddenIn]; done) | decide +kernel
theorem d1_0 : decode method_2_code 0 = .ok (.lload_n 0, 1) := by decide +kernel
theorem d1_1 : decode method_2_code 1 = .ok (.bipush 32, 2) := by decide +kernel
theorem d1_3 : decode method_2_code 3 = .ok (.lushr, 1) := by decide +kernel
theorem d1_4 : decode method_2_code 4 = .ok (.l2i, 1) := by decide +kernel
theorem d1_5 : decode method_2_code 5 = .ok (.lload_n 0, 1) := by decide +kernel
theorem d1_6 : decode method_2_code 6 = .ok (.l2i, 1) := by decide +kernel
theorem d1_7 : decode method_2_code 7 = .ok (.invokestatic 7, 3) := by decide +kernel
theorem pd_0 : parseMethodDescriptor "(II)I" = some ⟨[.int, .int], some .int⟩ := by decide +kernel
theorem d1_10 : decode method_2_code 10 = .ok (.ireturn, 1) := by decide +kernel
def fLo (j0 : Int64) : Int32 := (fMin (((j0.toUInt64 >>> ((32 : Int32) &&& 0x3f).toInt64.toUInt64).toInt64).toInt32) (j0.toInt32))
theorem ef_rLo (m : MethodId) (x0 : Int64) : entryFrame m #[(.long x0)] 2 = mkF m 0 #[.val (.long x0), .second] [] := by first | (simp [entryFrame, mkF, argsToLocals, Value.category]; done) | rfl
set_option maxRecDepth 65536 in
set_option maxHeartbeats 40000000 in
theorem rLo (l : Launch) (Z : State) (aa : Array Value) (hw : ∀ d ∈ tables_1, d.before aa Z = true) (ws : List Jvm.Cond) (j0 : Int64) (h0 : Heap) :
    Rm l Z (⟨"com/example/ryazan/ryazan/language/LayoutUnpackPinLaw", "lo", "(J)I"⟩ : MethodName) method_2_code 2 (some .int) ws ({ frames := 1, cells := 0, slots := 0, locals := 13 } : Room) #[(.long j0)] h0 (Pu (.int (fLo j0)) h0) := by
 refine Rm.of (plainFor_of_name pn_0) ?_
 intro p e s m below meth cc T X hnm hret hlk
 refine Go.at_ (ef_rLo m j0) ?_
 refine g_lloadN X d1_0 (pc' := 1) rfl rfl ?_
 refine g_bipush X (32 : Int32) d1_1 (pc' := 3) rfl rfl ?_
 refine g_lushr X d1_3 (pc' := 4) rfl ?_
 refine g_l2i X d1_4 (pc' := 5) rfl ?_
 refine g_lloadN X d1_5 (pc' := 6) rfl rfl ?_
 refine g_l2i X d1_6 (pc' := 7) rfl ?_
 refine g_static X (W := 0) [(.int (((j0.toUInt64 >>> ((32 : Int32) &&& 0x3f).toInt64.toUInt64).toInt64).toInt32)), (.int (j0.toInt32))] [] (tb hw 5 rfl) (tb hw 6 rfl) (tb hw 7 rfl) (tb hw 8 rfl) (rMin l Z aa hw [] (((j0.toUInt64 >>> ((32 : Int32) &&& 0x3f).toInt64.toUInt64).toInt64).toInt32) (j0.toInt32) _) d1_7 (pc' := 10) rfl (by decide) (by decide) (by decide) rfl rfl rfl (lenOf pd_0 rfl) (Nat.le_refl _) (by decide) (by decide) ?_
 intro v T L X q
 obtain ⟨rfl, X⟩ := pureX X q
 show Go p e below _ (T.setTop (mkF m 10 _ [(.int (fMin (((j0.toUInt64 >>> ((32 : Int32) &&& 0x3f).toInt64.toUInt64).toInt64).toInt32) (j0.toInt32)))]))
 refine g_ireturn X d1_10 hret hlk (by decide) (by decide) ?_
 exact ⟨congrArg (fun z => some (Value.int z)) (Eq.symm (show fLo j0 = _ from rfl)), rfl, rfl⟩
theorem d3_0 : decode method_3_code 0 = .ok (.lload_n 0, 1) := by decide +kernel
theorem d3_1 : decode method_3_code 1 = .ok (.bipush 32, 2) := by decide +kernel
theorem d3_3 : decode method_3_code 3 = .ok (.lushr, 1) := by decide +kernel
theorem d3_4 : decode method_3_code 4 = .ok (.l2i, 1) := by decide +kernel
theorem d3_5 : decode method_3_code 5 = .ok (.lload_n 0, 1) := by decide +kernel
theorem d3_6 : decode method_3_code 6 = .ok (.l2i, 1) := by decide +kernel
theorem d3_7 : decode method_3_code 7 = .ok (.invokestatic 13, 3) := by decide +kernel
theorem d3_10 : decode method_3_code 10 = .ok (.ireturn, 1) := by decide +kernel
def fHi (j0 : Int64) : Int32 := (fMax (((j0.toUInt64 >>> ((32 : Int32) &&& 0x3f).toInt64.toUInt64).toInt64).toInt32) (j0.toInt32))
theorem ef_rHi (m : MethodId) (x0 : Int64) : entryFrame m #[(.long x0)] 2 = mkF m 0 #[.val (.long x0), .second] [] := by first | (simp [entryFrame, mkF, argsToLocals, Value.category]; done) | rfl
set_option maxRecDepth 65536 in
set_option maxHeartbeats 40000000 in
theorem rHi (l : Launch) (Z : State) (aa : Array Value) (hw : ∀ d ∈ tables_1, d.before aa Z = true) (ws : List Jvm.Cond) (j0 : Int64) (h0 : Heap) :
    Rm l Z (⟨"com/example/ryazan/ryazan/language/LayoutUnpackPinLaw", "hi", "(J)I"⟩ : MethodName) method_3_code 2 (some .int) ws ({ frames := 1, cells := 0, slots := 0, locals := 13 } : Room) #[(.long j0)] h0 (Pu (.int (fHi j0)) h0) := by
 refine Rm.of (plainFor_of_name pn_0) ?_
 intro p e s m below meth cc T X hnm hret hlk
 refine Go.at_ (ef_rHi m j0) ?_
 refine g_lloadN X d3_0 (pc' := 1) rfl rfl ?_
 refine g_bipush X (32 : Int32) d3_1 (pc' := 3) rfl rfl ?_
 refine g_lushr X d3_3 (pc' := 4) rfl ?_
 refine g_l2i X d3_4 (pc' := 5) rfl ?_
 refine g_lloadN X d3_5 (pc' := 6) rfl rfl ?_
 refine g_l2i X d3_6 (pc' := 7) rfl ?_
 refine g_static X (W := 0) [(.int (((j0.toUInt64 >>> ((32 : Int32) &&& 0x3f).toInt64.toUInt64).toInt64).toInt32)), (.int (j0.toInt32))] [] (tb hw 12 rfl) (tb hw 13 rfl) (tb hw 7 rfl) (tb hw 14 rfl) (rMax l Z aa hw [] (((j0.toUInt64 >>> ((32 : Int32) &&& 0x3f).toInt64.toUInt64).toInt64).toInt32) (j0.toInt32) _) d3_7 (pc' := 10) rfl (by decide) (by decide) (by decide) rfl rfl rfl (lenOf pd_0 rfl) (Nat.le_refl _) (by decide) (by decide) ?_
 intro v T L X q
 obtain ⟨rfl, X⟩ := pureX X q
 show Go p e below _ (T.setTop (mkF m 10 _ [(.int (fMax (((j0.toUInt64 >>> ((32 : Int32) &&& 0x3f).toInt64.toUInt64).toInt64).toInt32) (j0.toInt32)))]))
 refine g_ireturn X d3_10 hret hlk (by decide) (by decide) ?_
 exact ⟨congrArg (fun z => some (Value.int z)) (Eq.symm (show fHi j0 = _ from rfl)), rfl, rfl⟩
theorem d5_0 : decode method_4_code 0 = .ok (.iload_n 1, 1) := by decide +kernel
theorem d5_1 : decode method_4_code 1 = .ok (.i2l, 1) := by decide +kernel
theorem d5_2 : decode method_4_code 2 = .ok (.iload_n 0, 1) := by decide +kernel
theorem d5_3 : decode method_4_code 3 = .ok (.i2l, 1) := by decide +kernel
theorem d5_4 : decode method_4_code 4 = .ok (.lsub, 1) := by decide +kernel
theorem d5_5 : decode method_4_code 5 = .ok (.lstore 4, 2) := by decide +kernel
theorem d5_7 : decode method_4_code 7 = .ok (.iload_n 0, 1) := by decide +kernel
theorem d5_8 : decode method_4_code 8 = .ok (.i2l, 1) := by decide +kernel
theorem d5_9 : decode method_4_code 9 = .ok (.lload_n 2, 1) := by decide +kernel
theorem d5_10 : decode method_4_code 10 = .ok (.lload 4, 2) := by decide +kernel
theorem d5_12 : decode method_4_code 12 = .ok (.lconst 1, 1) := by decide +kernel
theorem d5_13 : decode method_4_code 13 = .ok (.ladd, 1) := by decide +kernel
theorem d5_14 : decode method_4_code 14 = .ok (.lrem, 1) := by decide +kernel
theorem d5_15 : decode method_4_code 15 = .ok (.ladd, 1) := by decide +kernel
theorem d5_16 : decode method_4_code 16 = .ok (.l2i, 1) := by decide +kernel
theorem d5_17 : decode method_4_code 17 = .ok (.ireturn, 1) := by decide +kernel
def fPick (i0 : Int32) (i1 : Int32) (j2 : Int64) : Int32 := let v5_1 : Int64 := ((i1.toInt64) - (i0.toInt64)); (((i0.toInt64) + (j2 % (v5_1 + (1 : Int64)))).toInt32)
theorem ef_rPick (m : MethodId) (x0 : Int32) (x1 : Int32) (x2 : Int64) : entryFrame m #[(.int x0), (.int x1), (.long x2)] 6 = mkF m 0 #[.val (.int x0), .val (.int x1), .val (.long x2), .second, .unset, .unset] [] := by first | (simp [entryFrame, mkF, argsToLocals, Value.category]; done) | rfl
set_option maxRecDepth 65536 in
set_option maxHeartbeats 40000000 in
theorem rPick (l : Launch) (Z : State) (aa : Array Value) (hw : ∀ d ∈ tables_1, d.before aa Z = true) (ws : List Jvm.Cond) (i0 : Int32) (i1 : Int32) (j2 : Int64) (h0 : Heap) (p0 : ¬ ((i1.toInt64 - i0.toInt64) + (1 : Int64)) = (0 : Int64)) :
    Rm l Z (⟨"com/example/ryazan/ryazan/language/LayoutUnpackPinLaw", "pick", "(IIJ)I"⟩ : MethodName) method_4_code 6 (some .int) ws ({ frames := 0, cells := 0, slots := 0, locals := 0 } : Room) #[(.int i0), (.int i1), (.long j2)] h0 (Pu (.int (fPick i0 i1 j2)) h0) := by
 refine Rm.of (plainFor_of_name pn_0) ?_
 intro p e s m below meth cc T X hnm hret hlk
 refine Go.at_ (ef_rPick m i0 i1 j2) ?_
 refine g_iloadN X d5_0 (pc' := 1) rfl rfl ?_
 refine g_i2l X d5_1 (pc' := 2) rfl ?_
 refine g_iloadN X d5_2 (pc' := 3) rfl rfl ?_
 refine g_i2l X d5_3 (pc' := 4) rfl ?_
 refine g_lsub X d5_4 (pc' := 5) rfl ?_
 generalize qa : ((i1.toInt64) - (i0.toInt64)) = qb
 refine g_lstore X d5_5 (pc' := 7) (Ls' := #[.val (.int i0), .val (.int i1), .val (.long j2), .second, .val (.long qb), .second]) rfl rfl ?_
 refine g_iloadN X d5_7 (pc' := 8) rfl rfl ?_
 refine g_i2l X d5_8 (pc' := 9) rfl ?_
 refine g_lloadN X d5_9 (pc' := 10) rfl rfl ?_
 refine g_lload X d5_10 (pc' := 12) rfl rfl ?_
 refine g_lconst X (1 : Int64) d5_12 (pc' := 13) rfl rfl ?_
 refine g_ladd X d5_13 (pc' := 14) rfl ?_
 refine g_lrem X d5_14 (pc' := 15) rfl (by subst_vars; exact p0) ?_
 refine g_ladd X d5_15 (pc' := 16) rfl ?_
 refine g_l2i X d5_16 (pc' := 17) rfl ?_
 refine g_ireturn X d5_17 hret hlk (by decide) (by decide) ?_
 subst qa
 exact ⟨congrArg (fun z => some (Value.int z)) (Eq.symm (show fPick i0 i1 j2 = _ from rfl)), rfl, rfl⟩
theorem pn_1 : plainName "java/lang/Integer" = true := by first | (simp [plainName, overriddenIn]; done) | decide +kernel
theorem d9_0 : decode jdk_33_method_47_code 0 = .ok (.iload_n 0, 1) := by decide +kernel
theorem d9_1 : decode jdk_33_method_47_code 1 = .ok (.ifCond .gt 14, 3) := by decide +kernel
theorem d9_15 : decode jdk_33_method_47_code 15 = .ok (.bipush 31, 2) := by decide +kernel
theorem d9_17 : decode jdk_33_method_47_code 17 = .ok (.istore_n 1, 1) := by decide +kernel
theorem d9_18 : decode jdk_33_method_47_code 18 = .ok (.iload_n 0, 1) := by decide +kernel
theorem d9_19 : decode jdk_33_method_47_code 19 = .ok (.ldc_w 264, 3) := by decide +kernel
theorem d9_22 : decode jdk_33_method_47_code 22 = .ok (.if_icmp .lt 11, 3) := by decide +kernel
theorem d9_33 : decode jdk_33_method_47_code 33 = .ok (.iload_n 0, 1) := by decide +kernel
theorem d9_34 : decode jdk_33_method_47_code 34 = .ok (.sipush 256, 3) := by decide +kernel
theorem d9_37 : decode jdk_33_method_47_code 37 = .ok (.if_icmp .lt 11, 3) := by decide +kernel
theorem d9_48 : decode jdk_33_method_47_code 48 = .ok (.iload_n 0, 1) := by decide +kernel
theorem d9_49 : decode jdk_33_method_47_code 49 = .ok (.bipush 16, 2) := by decide +kernel
theorem d9_51 : decode jdk_33_method_47_code 51 = .ok (.if_icmp .lt 10, 3) := by decide +kernel
theorem d9_61 : decode jdk_33_method_47_code 61 = .ok (.iload_n 0, 1) := by decide +kernel
theorem d9_62 : decode jdk_33_method_47_code 62 = .ok (.iconst 4, 1) := by decide +kernel
theorem d9_63 : decode jdk_33_method_47_code 63 = .ok (.if_icmp .lt 10, 3) := by decide +kernel
theorem d9_73 : decode jdk_33_method_47_code 73 = .ok (.iload_n 1, 1) := by decide +kernel
theorem d9_74 : decode jdk_33_method_47_code 74 = .ok (.iload_n 0, 1) := by decide +kernel
theorem d9_75 : decode jdk_33_method_47_code 75 = .ok (.iconst 1, 1) := by decide +kernel
theorem d9_76 : decode jdk_33_method_47_code 76 = .ok (.iushr, 1) := by decide +kernel
theorem d9_77 : decode jdk_33_method_47_code 77 = .ok (.isub, 1) := by decide +kernel
theorem d9_78 : decode jdk_33_method_47_code 78 = .ok (.ireturn, 1) := by decide +kernel
theorem d9_66 : decode jdk_33_method_47_code 66 = .ok (.iinc 1 (-2), 3) := by decide +kernel
theorem d9_69 : decode jdk_33_method_47_code 69 = .ok (.iload_n 0, 1) := by decide +kernel
theorem d9_70 : decode jdk_33_method_47_code 70 = .ok (.iconst 2, 1) := by decide +kernel
theorem d9_71 : decode jdk_33_method_47_code 71 = .ok (.iushr, 1) := by decide +kernel
theorem d9_72 : decode jdk_33_method_47_code 72 = .ok (.istore_n 0, 1) := by decide +kernel
theorem d9_54 : decode jdk_33_method_47_code 54 = .ok (.iinc 1 (-4), 3) := by decide +kernel
theorem d9_57 : decode jdk_33_method_47_code 57 = .ok (.iload_n 0, 1) := by decide +kernel
theorem d9_58 : decode jdk_33_method_47_code 58 = .ok (.iconst 4, 1) := by decide +kernel
theorem d9_59 : decode jdk_33_method_47_code 59 = .ok (.iushr, 1) := by decide +kernel
theorem d9_60 : decode jdk_33_method_47_code 60 = .ok (.istore_n 0, 1) := by decide +kernel
theorem d9_40 : decode jdk_33_method_47_code 40 = .ok (.iinc 1 (-8), 3) := by decide +kernel
theorem d9_43 : decode jdk_33_method_47_code 43 = .ok (.iload_n 0, 1) := by decide +kernel
theorem d9_44 : decode jdk_33_method_47_code 44 = .ok (.bipush 8, 2) := by decide +kernel
theorem d9_46 : decode jdk_33_method_47_code 46 = .ok (.iushr, 1) := by decide +kernel
theorem d9_47 : decode jdk_33_method_47_code 47 = .ok (.istore_n 0, 1) := by decide +kernel
theorem d9_25 : decode jdk_33_method_47_code 25 = .ok (.iinc 1 (-16), 3) := by decide +kernel
theorem d9_28 : decode jdk_33_method_47_code 28 = .ok (.iload_n 0, 1) := by decide +kernel
theorem d9_29 : decode jdk_33_method_47_code 29 = .ok (.bipush 16, 2) := by decide +kernel
theorem d9_31 : decode jdk_33_method_47_code 31 = .ok (.iushr, 1) := by decide +kernel
theorem d9_32 : decode jdk_33_method_47_code 32 = .ok (.istore_n 0, 1) := by decide +kernel
theorem d9_4 : decode jdk_33_method_47_code 4 = .ok (.iload_n 0, 1) := by decide +kernel
theorem d9_5 : decode jdk_33_method_47_code 5 = .ok (.ifCond .ne 8, 3) := by decide +kernel
theorem d9_8 : decode jdk_33_method_47_code 8 = .ok (.bipush 32, 2) := by decide +kernel
theorem d9_10 : decode jdk_33_method_47_code 10 = .ok (.goto 4, 3) := by decide +kernel
theorem d9_14 : decode jdk_33_method_47_code 14 = .ok (.ireturn, 1) := by decide +kernel
theorem d9_13 : decode jdk_33_method_47_code 13 = .ok (.iconst 0, 1) := by decide +kernel
def fNI (i0 : Int32) : Int32 := if (0 : Int32) < i0 then (if i0 < (65536 : Int32) then (if i0 < (256 : Int32) then (if i0 < (16 : Int32) then (if i0 < (4 : Int32) then (((31 : Int32) - ((i0.toUInt32 >>> ((1 : Int32) &&& 31).toUInt32).toInt32))) else (let v72_6 : Int32 := ((i0.toUInt32 >>> ((2 : Int32) &&& 31).toUInt32).toInt32); ((29 : Int32) - ((v72_6.toUInt32 >>> ((1 : Int32) &&& 31).toUInt32).toInt32)))) else (let v60_7 : Int32 := ((i0.toUInt32 >>> ((4 : Int32) &&& 31).toUInt32).toInt32); if v60_7 < (4 : Int32) then (((27 : Int32) - ((v60_7.toUInt32 >>> ((1 : Int32) &&& 31).toUInt32).toInt32))) else (let v72_9 : Int32 := ((v60_7.toUInt32 >>> ((2 : Int32) &&& 31).toUInt32).toInt32); ((25 : Int32) - ((v72_9.toUInt32 >>> ((1 : Int32) &&& 31).toUInt32).toInt32))))) else (let v47_10 : Int32 := ((i0.toUInt32 >>> ((8 : Int32) &&& 31).toUInt32).toInt32); if v47_10 < (16 : Int32) then (if v47_10 < (4 : Int32) then (((23 : Int32) - ((v47_10.toUInt32 >>> ((1 : Int32) &&& 31).toUInt32).toInt32))) else (let v72_13 : Int32 := ((v47_10.toUInt32 >>> ((2 : Int32) &&& 31).toUInt32).toInt32); ((21 : Int32) - ((v72_13.toUInt32 >>> ((1 : Int32) &&& 31).toUInt32).toInt32)))) else (let v60_14 : Int32 := ((v47_10.toUInt32 >>> ((4 : Int32) &&& 31).toUInt32).toInt32); if v60_14 < (4 : Int32) then (((19 : Int32) - ((v60_14.toUInt32 >>> ((1 : Int32) &&& 31).toUInt32).toInt32))) else (let v72_16 : Int32 := ((v60_14.toUInt32 >>> ((2 : Int32) &&& 31).toUInt32).toInt32); ((17 : Int32) - ((v72_16.toUInt32 >>> ((1 : Int32) &&& 31).toUInt32).toInt32)))))) else (let v32_17 : Int32 := ((i0.toUInt32 >>> ((16 : Int32) &&& 31).toUInt32).toInt32); if v32_17 < (256 : Int32) then (if v32_17 < (16 : Int32) then (if v32_17 < (4 : Int32) then (((15 : Int32) - ((v32_17.toUInt32 >>> ((1 : Int32) &&& 31).toUInt32).toInt32))) else (let v72_21 : Int32 := ((v32_17.toUInt32 >>> ((2 : Int32) &&& 31).toUInt32).toInt32); ((13 : Int32) - ((v72_21.toUInt32 >>> ((1 : Int32) &&& 31).toUInt32).toInt32)))) else (let v60_22 : Int32 := ((v32_17.toUInt32 >>> ((4 : Int32) &&& 31).toUInt32).toInt32); if v60_22 < (4 : Int32) then (((11 : Int32) - ((v60_22.toUInt32 >>> ((1 : Int32) &&& 31).toUInt32).toInt32))) else (let v72_24 : Int32 := ((v60_22.toUInt32 >>> ((2 : Int32) &&& 31).toUInt32).toInt32); ((9 : Int32) - ((v72_24.toUInt32 >>> ((1 : Int32) &&& 31).toUInt32).toInt32))))) else (let v47_25 : Int32 := ((v32_17.toUInt32 >>> ((8 : Int32) &&& 31).toUInt32).toInt32); if v47_25 < (16 : Int32) then (if v47_25 < (4 : Int32) then (((7 : Int32) - ((v47_25.toUInt32 >>> ((1 : Int32) &&& 31).toUInt32).toInt32))) else (let v72_28 : Int32 := ((v47_25.toUInt32 >>> ((2 : Int32) &&& 31).toUInt32).toInt32); ((5 : Int32) - ((v72_28.toUInt32 >>> ((1 : Int32) &&& 31).toUInt32).toInt32)))) else (let v60_29 : Int32 := ((v47_25.toUInt32 >>> ((4 : Int32) &&& 31).toUInt32).toInt32); if v60_29 < (4 : Int32) then (((3 : Int32) - ((v60_29.toUInt32 >>> ((1 : Int32) &&& 31).toUInt32).toInt32))) else (let v72_31 : Int32 := ((v60_29.toUInt32 >>> ((2 : Int32) &&& 31).toUInt32).toInt32); ((1 : Int32) - ((v72_31.toUInt32 >>> ((1 : Int32) &&& 31).toUInt32).toInt32))))))) else (if i0 = (0 : Int32) then ((32 : Int32)) else ((0 : Int32)))
theorem ef_rNI (m : MethodId) (x0 : Int32) : entryFrame m #[(.int x0)] 2 = mkF m 0 #[.val (.int x0), .unset] [] := by first | (simp [entryFrame, mkF, argsToLocals, Value.category]; done) | rfl
set_option maxRecDepth 65536 in
set_option maxHeartbeats 40000000 in
theorem rNI (l : Launch) (Z : State) (aa : Array Value) (hw : ∀ d ∈ tables_1, d.before aa Z = true) (ws : List Jvm.Cond) (i0 : Int32) (h0 : Heap) :
    Rm l Z (⟨"java/lang/Integer", "numberOfLeadingZeros", "(I)I"⟩ : MethodName) jdk_33_method_47_code 2 (some .int) ws ({ frames := 0, cells := 0, slots := 0, locals := 0 } : Room) #[(.int i0)] h0 (Pu (.int (fNI i0)) h0) := by
 refine Rm.of (plainFor_of_name pn_1) ?_
 intro p e s m below meth cc T X hnm hret hlk
 refine Go.at_ (ef_rNI m i0) ?_
 refine g_iloadN X d9_0 (pc' := 1) rfl rfl ?_
 by_cases qa : (0 : Int32) < i0
 refine g_ifY X d9_1 ((if0 _ _).trans (tlt qa).2.2.1) (pc' := 15) (by decide) (by decide) ?_
 refine g_bipush X (31 : Int32) d9_15 (pc' := 17) rfl rfl ?_
 refine g_istoreN X d9_17 (pc' := 18) (Ls' := #[.val (.int i0), .val (.int (31 : Int32))]) rfl rfl ?_
 refine g_iloadN X d9_18 (pc' := 19) rfl rfl ?_
 refine g_ldcw X (tb hw 55 rfl) d9_19 (pc' := 22) rfl ?_
 by_cases qb : i0 < (65536 : Int32)
 refine g_icY X d9_22 (tlt qb).1 (pc' := 33) (by decide) (by decide) ?_
 refine g_iloadN X d9_33 (pc' := 34) rfl rfl ?_
 refine g_sipush X (256 : Int32) d9_34 (pc' := 37) rfl rfl ?_
 by_cases qc : i0 < (256 : Int32)
 refine g_icY X d9_37 (tlt qc).1 (pc' := 48) (by decide) (by decide) ?_
 refine g_iloadN X d9_48 (pc' := 49) rfl rfl ?_
 refine g_bipush X (16 : Int32) d9_49 (pc' := 51) rfl rfl ?_
 by_cases qi : i0 < (16 : Int32)
 refine g_icY X d9_51 (tlt qi).1 (pc' := 61) (by decide) (by decide) ?_
 refine g_iloadN X d9_61 (pc' := 62) rfl rfl ?_
 refine g_iconst X (4 : Int32) d9_62 (pc' := 63) rfl rfl ?_
 by_cases qm : i0 < (4 : Int32)
 refine g_icY X d9_63 (tlt qm).1 (pc' := 73) (by decide) (by decide) ?_
 refine g_iloadN X d9_73 (pc' := 74) rfl rfl ?_
 refine g_iloadN X d9_74 (pc' := 75) rfl rfl ?_
 refine g_iconst X (1 : Int32) d9_75 (pc' := 76) rfl rfl ?_
 refine g_iushr X d9_76 (pc' := 77) rfl ?_
 refine g_isub X d9_77 (pc' := 78) rfl ?_
 refine g_ireturn X d9_78 hret hlk (by decide) (by decide) ?_
 exact ⟨congrArg (fun z => some (Value.int z)) (Eq.symm (show fNI i0 = _ from (Eq.trans (if_pos qa) (Eq.trans (if_pos qb) (Eq.trans (if_pos qc) (Eq.trans (if_pos qi) (Eq.trans (if_pos qm) rfl))))))), rfl, rfl⟩
 refine g_icN X d9_63 (flt qm).1 (pc' := 66) rfl ?_
 refine g_iinc X d9_66 (pc' := 69) (q := (-2 : Int32)) (Ls' := #[.val (.int i0), .val (.int (29 : Int32))]) rfl rfl rfl rfl ?_
 refine g_iloadN X d9_69 (pc' := 70) rfl rfl ?_
 refine g_iconst X (2 : Int32) d9_70 (pc' := 71) rfl rfl ?_
 refine g_iushr X d9_71 (pc' := 72) rfl ?_
 generalize q5 : ((i0.toUInt32 >>> ((2 : Int32) &&& 31).toUInt32).toInt32) = q6
 refine g_istoreN X d9_72 (pc' := 73) (Ls' := #[.val (.int q6), .val (.int (29 : Int32))]) rfl rfl ?_
 refine g_iloadN X d9_73 (pc' := 74) rfl rfl ?_
 refine g_iloadN X d9_74 (pc' := 75) rfl rfl ?_
 refine g_iconst X (1 : Int32) d9_75 (pc' := 76) rfl rfl ?_
 refine g_iushr X d9_76 (pc' := 77) rfl ?_
 refine g_isub X d9_77 (pc' := 78) rfl ?_
 refine g_ireturn X d9_78 hret hlk (by decide) (by decide) ?_
 subst q5
 exact ⟨congrArg (fun z => some (Value.int z)) (Eq.symm (show fNI i0 = _ from (Eq.trans (if_pos qa) (Eq.trans (if_pos qb) (Eq.trans (if_pos qc) (Eq.trans (if_pos qi) (Eq.trans (if_neg qm) rfl))))))), rfl, rfl⟩
 refine g_icN X d9_51 (flt qi).1 (pc' := 54) rfl ?_
 refine g_iinc X d9_54 (pc' := 57) (q := (-4 : Int32)) (Ls' := #[.val (.int i0), .val (.int (27 : Int32))]) rfl rfl rfl rfl ?_
 refine g_iloadN X d9_57 (pc' := 58) rfl rfl ?_
 refine g_iconst X (4 : Int32) d9_58 (pc' := 59) rfl rfl ?_
 refine g_iushr X d9_59 (pc' := 60) rfl ?_
 generalize q1 : ((i0.toUInt32 >>> ((4 : Int32) &&& 31).toUInt32).toInt32) = qn
 refine g_istoreN X d9_60 (pc' := 61) (Ls' := #[.val (.int qn), .val (.int (27 : Int32))]) rfl rfl ?_
 refine g_iloadN X d9_61 (pc' := 62) rfl rfl ?_
 refine g_iconst X (4 : Int32) d9_62 (pc' := 63) rfl rfl ?_
 by_cases qo : qn < (4 : Int32)
 refine g_icY X d9_63 (tlt qo).1 (pc' := 73) (by decide) (by decide) ?_
 refine g_iloadN X d9_73 (pc' := 74) rfl rfl ?_
 refine g_iloadN X d9_74 (pc' := 75) rfl rfl ?_
 refine g_iconst X (1 : Int32) d9_75 (pc' := 76) rfl rfl ?_
 refine g_iushr X d9_76 (pc' := 77) rfl ?_
 refine g_isub X d9_77 (pc' := 78) rfl ?_
 refine g_ireturn X d9_78 hret hlk (by decide) (by decide) ?_
 subst q1
 exact ⟨congrArg (fun z => some (Value.int z)) (Eq.symm (show fNI i0 = _ from (Eq.trans (if_pos qa) (Eq.trans (if_pos qb) (Eq.trans (if_pos qc) (Eq.trans (if_neg qi) (Eq.trans (if_pos qo) rfl))))))), rfl, rfl⟩
 refine g_icN X d9_63 (flt qo).1 (pc' := 66) rfl ?_
 refine g_iinc X d9_66 (pc' := 69) (q := (-2 : Int32)) (Ls' := #[.val (.int qn), .val (.int (25 : Int32))]) rfl rfl rfl rfl ?_
 refine g_iloadN X d9_69 (pc' := 70) rfl rfl ?_
 refine g_iconst X (2 : Int32) d9_70 (pc' := 71) rfl rfl ?_
 refine g_iushr X d9_71 (pc' := 72) rfl ?_
 generalize q7 : ((qn.toUInt32 >>> ((2 : Int32) &&& 31).toUInt32).toInt32) = q8
 refine g_istoreN X d9_72 (pc' := 73) (Ls' := #[.val (.int q8), .val (.int (25 : Int32))]) rfl rfl ?_
 refine g_iloadN X d9_73 (pc' := 74) rfl rfl ?_
 refine g_iloadN X d9_74 (pc' := 75) rfl rfl ?_
 refine g_iconst X (1 : Int32) d9_75 (pc' := 76) rfl rfl ?_
 refine g_iushr X d9_76 (pc' := 77) rfl ?_
 refine g_isub X d9_77 (pc' := 78) rfl ?_
 refine g_ireturn X d9_78 hret hlk (by decide) (by decide) ?_
 subst q1 q7
 exact ⟨congrArg (fun z => some (Value.int z)) (Eq.symm (show fNI i0 = _ from (Eq.trans (if_pos qa) (Eq.trans (if_pos qb) (Eq.trans (if_pos qc) (Eq.trans (if_neg qi) (Eq.trans (if_neg qo) rfl))))))), rfl, rfl⟩
 refine g_icN X d9_37 (flt qc).1 (pc' := 40) rfl ?_
 refine g_iinc X d9_40 (pc' := 43) (q := (-8 : Int32)) (Ls' := #[.val (.int i0), .val (.int (23 : Int32))]) rfl rfl rfl rfl ?_
 refine g_iloadN X d9_43 (pc' := 44) rfl rfl ?_
 refine g_bipush X (8 : Int32) d9_44 (pc' := 46) rfl rfl ?_
 refine g_iushr X d9_46 (pc' := 47) rfl ?_
 generalize qp : ((i0.toUInt32 >>> ((8 : Int32) &&& 31).toUInt32).toInt32) = qg
 refine g_istoreN X d9_47 (pc' := 48) (Ls' := #[.val (.int qg), .val (.int (23 : Int32))]) rfl rfl ?_
 refine g_iloadN X d9_48 (pc' := 49) rfl rfl ?_
 refine g_bipush X (16 : Int32) d9_49 (pc' := 51) rfl rfl ?_
 by_cases qj : qg < (16 : Int32)
 refine g_icY X d9_51 (tlt qj).1 (pc' := 61) (by decide) (by decide) ?_
 refine g_iloadN X d9_61 (pc' := 62) rfl rfl ?_
 refine g_iconst X (4 : Int32) d9_62 (pc' := 63) rfl rfl ?_
 by_cases qq : qg < (4 : Int32)
 refine g_icY X d9_63 (tlt qq).1 (pc' := 73) (by decide) (by decide) ?_
 refine g_iloadN X d9_73 (pc' := 74) rfl rfl ?_
 refine g_iloadN X d9_74 (pc' := 75) rfl rfl ?_
 refine g_iconst X (1 : Int32) d9_75 (pc' := 76) rfl rfl ?_
 refine g_iushr X d9_76 (pc' := 77) rfl ?_
 refine g_isub X d9_77 (pc' := 78) rfl ?_
 refine g_ireturn X d9_78 hret hlk (by decide) (by decide) ?_
 subst qp
 exact ⟨congrArg (fun z => some (Value.int z)) (Eq.symm (show fNI i0 = _ from (Eq.trans (if_pos qa) (Eq.trans (if_pos qb) (Eq.trans (if_neg qc) (Eq.trans (if_pos qj) (Eq.trans (if_pos qq) rfl))))))), rfl, rfl⟩
 refine g_icN X d9_63 (flt qq).1 (pc' := 66) rfl ?_
 refine g_iinc X d9_66 (pc' := 69) (q := (-2 : Int32)) (Ls' := #[.val (.int qg), .val (.int (21 : Int32))]) rfl rfl rfl rfl ?_
 refine g_iloadN X d9_69 (pc' := 70) rfl rfl ?_
 refine g_iconst X (2 : Int32) d9_70 (pc' := 71) rfl rfl ?_
 refine g_iushr X d9_71 (pc' := 72) rfl ?_
 generalize q9 : ((qg.toUInt32 >>> ((2 : Int32) &&& 31).toUInt32).toInt32) = ja
 refine g_istoreN X d9_72 (pc' := 73) (Ls' := #[.val (.int ja), .val (.int (21 : Int32))]) rfl rfl ?_
 refine g_iloadN X d9_73 (pc' := 74) rfl rfl ?_
 refine g_iloadN X d9_74 (pc' := 75) rfl rfl ?_
 refine g_iconst X (1 : Int32) d9_75 (pc' := 76) rfl rfl ?_
 refine g_iushr X d9_76 (pc' := 77) rfl ?_
 refine g_isub X d9_77 (pc' := 78) rfl ?_
 refine g_ireturn X d9_78 hret hlk (by decide) (by decide) ?_
 subst qp q9
 exact ⟨congrArg (fun z => some (Value.int z)) (Eq.symm (show fNI i0 = _ from (Eq.trans (if_pos qa) (Eq.trans (if_pos qb) (Eq.trans (if_neg qc) (Eq.trans (if_pos qj) (Eq.trans (if_neg qq) rfl))))))), rfl, rfl⟩
 refine g_icN X d9_51 (flt qj).1 (pc' := 54) rfl ?_
 refine g_iinc X d9_54 (pc' := 57) (q := (-4 : Int32)) (Ls' := #[.val (.int qg), .val (.int (19 : Int32))]) rfl rfl rfl rfl ?_
 refine g_iloadN X d9_57 (pc' := 58) rfl rfl ?_
 refine g_iconst X (4 : Int32) d9_58 (pc' := 59) rfl rfl ?_
 refine g_iushr X d9_59 (pc' := 60) rfl ?_
 generalize q2 : ((qg.toUInt32 >>> ((4 : Int32) &&& 31).toUInt32).toInt32) = qr
 refine g_istoreN X d9_60 (pc' := 61) (Ls' := #[.val (.int qr), .val (.int (19 : Int32))]) rfl rfl ?_
 refine g_iloadN X d9_61 (pc' := 62) rfl rfl ?_
 refine g_iconst X (4 : Int32) d9_62 (pc' := 63) rfl rfl ?_
 by_cases qs : qr < (4 : Int32)
 refine g_icY X d9_63 (tlt qs).1 (pc' := 73) (by decide) (by decide) ?_
 refine g_iloadN X d9_73 (pc' := 74) rfl rfl ?_
 refine g_iloadN X d9_74 (pc' := 75) rfl rfl ?_
 refine g_iconst X (1 : Int32) d9_75 (pc' := 76) rfl rfl ?_
 refine g_iushr X d9_76 (pc' := 77) rfl ?_
 refine g_isub X d9_77 (pc' := 78) rfl ?_
 refine g_ireturn X d9_78 hret hlk (by decide) (by decide) ?_
 subst qp q2
 exact ⟨congrArg (fun z => some (Value.int z)) (Eq.symm (show fNI i0 = _ from (Eq.trans (if_pos qa) (Eq.trans (if_pos qb) (Eq.trans (if_neg qc) (Eq.trans (if_neg qj) (Eq.trans (if_pos qs) rfl))))))), rfl, rfl⟩
 refine g_icN X d9_63 (flt qs).1 (pc' := 66) rfl ?_
 refine g_iinc X d9_66 (pc' := 69) (q := (-2 : Int32)) (Ls' := #[.val (.int qr), .val (.int (17 : Int32))]) rfl rfl rfl rfl ?_
 refine g_iloadN X d9_69 (pc' := 70) rfl rfl ?_
 refine g_iconst X (2 : Int32) d9_70 (pc' := 71) rfl rfl ?_
 refine g_iushr X d9_71 (pc' := 72) rfl ?_
 generalize jb : ((qr.toUInt32 >>> ((2 : Int32) &&& 31).toUInt32).toInt32) = jc
 refine g_istoreN X d9_72 (pc' := 73) (Ls' := #[.val (.int jc), .val (.int (17 : Int32))]) rfl rfl ?_
 refine g_iloadN X d9_73 (pc' := 74) rfl rfl ?_
 refine g_iloadN X d9_74 (pc' := 75) rfl rfl ?_
 refine g_iconst X (1 : Int32) d9_75 (pc' := 76) rfl rfl ?_
 refine g_iushr X d9_76 (pc' := 77) rfl ?_
 refine g_isub X d9_77 (pc' := 78) rfl ?_
 refine g_ireturn X d9_78 hret hlk (by decide) (by decide) ?_
 subst qp q2 jb
 exact ⟨congrArg (fun z => some (Value.int z)) (Eq.symm (show fNI i0 = _ from (Eq.trans (if_pos qa) (Eq.trans (if_pos qb) (Eq.trans (if_neg qc) (Eq.trans (if_neg qj) (Eq.trans (if_neg qs) rfl))))))), rfl, rfl⟩
 refine g_icN X d9_22 (flt qb).1 (pc' := 25) rfl ?_
 refine g_iinc X d9_25 (pc' := 28) (q := (-16 : Int32)) (Ls' := #[.val (.int i0), .val (.int (15 : Int32))]) rfl rfl rfl rfl ?_
 refine g_iloadN X d9_28 (pc' := 29) rfl rfl ?_
 refine g_bipush X (16 : Int32) d9_29 (pc' := 31) rfl rfl ?_
 refine g_iushr X d9_31 (pc' := 32) rfl ?_
 generalize qf : ((i0.toUInt32 >>> ((16 : Int32) &&& 31).toUInt32).toInt32) = qd
 refine g_istoreN X d9_32 (pc' := 33) (Ls' := #[.val (.int qd), .val (.int (15 : Int32))]) rfl rfl ?_
 refine g_iloadN X d9_33 (pc' := 34) rfl rfl ?_
 refine g_sipush X (256 : Int32) d9_34 (pc' := 37) rfl rfl ?_
 by_cases qe : qd < (256 : Int32)
 refine g_icY X d9_37 (tlt qe).1 (pc' := 48) (by decide) (by decide) ?_
 refine g_iloadN X d9_48 (pc' := 49) rfl rfl ?_
 refine g_bipush X (16 : Int32) d9_49 (pc' := 51) rfl rfl ?_
 by_cases qk : qd < (16 : Int32)
 refine g_icY X d9_51 (tlt qk).1 (pc' := 61) (by decide) (by decide) ?_
 refine g_iloadN X d9_61 (pc' := 62) rfl rfl ?_
 refine g_iconst X (4 : Int32) d9_62 (pc' := 63) rfl rfl ?_
 by_cases qt : qd < (4 : Int32)
 refine g_icY X d9_63 (tlt qt).1 (pc' := 73) (by decide) (by decide) ?_
 refine g_iloadN X d9_73 (pc' := 74) rfl rfl ?_
 refine g_iloadN X d9_74 (pc' := 75) rfl rfl ?_
 refine g_iconst X (1 : Int32) d9_75 (pc' := 76) rfl rfl ?_
 refine g_iushr X d9_76 (pc' := 77) rfl ?_
 refine g_isub X d9_77 (pc' := 78) rfl ?_
 refine g_ireturn X d9_78 hret hlk (by decide) (by decide) ?_
 subst qf
 exact ⟨congrArg (fun z => some (Value.int z)) (Eq.symm (show fNI i0 = _ from (Eq.trans (if_pos qa) (Eq.trans (if_neg qb) (Eq.trans (if_pos qe) (Eq.trans (if_pos qk) (Eq.trans (if_pos qt) rfl))))))), rfl, rfl⟩
 refine g_icN X d9_63 (flt qt).1 (pc' := 66) rfl ?_
 refine g_iinc X d9_66 (pc' := 69) (q := (-2 : Int32)) (Ls' := #[.val (.int qd), .val (.int (13 : Int32))]) rfl rfl rfl rfl ?_
 refine g_iloadN X d9_69 (pc' := 70) rfl rfl ?_
 refine g_iconst X (2 : Int32) d9_70 (pc' := 71) rfl rfl ?_
 refine g_iushr X d9_71 (pc' := 72) rfl ?_
 generalize jd : ((qd.toUInt32 >>> ((2 : Int32) &&& 31).toUInt32).toInt32) = je
 refine g_istoreN X d9_72 (pc' := 73) (Ls' := #[.val (.int je), .val (.int (13 : Int32))]) rfl rfl ?_
 refine g_iloadN X d9_73 (pc' := 74) rfl rfl ?_
 refine g_iloadN X d9_74 (pc' := 75) rfl rfl ?_
 refine g_iconst X (1 : Int32) d9_75 (pc' := 76) rfl rfl ?_
 refine g_iushr X d9_76 (pc' := 77) rfl ?_
 refine g_isub X d9_77 (pc' := 78) rfl ?_
 refine g_ireturn X d9_78 hret hlk (by decide) (by decide) ?_
 subst qf jd
 exact ⟨congrArg (fun z => some (Value.int z)) (Eq.symm (show fNI i0 = _ from (Eq.trans (if_pos qa) (Eq.trans (if_neg qb) (Eq.trans (if_pos qe) (Eq.trans (if_pos qk) (Eq.trans (if_neg qt) rfl))))))), rfl, rfl⟩
 refine g_icN X d9_51 (flt qk).1 (pc' := 54) rfl ?_
 refine g_iinc X d9_54 (pc' := 57) (q := (-4 : Int32)) (Ls' := #[.val (.int qd), .val (.int (11 : Int32))]) rfl rfl rfl rfl ?_
 refine g_iloadN X d9_57 (pc' := 58) rfl rfl ?_
 refine g_iconst X (4 : Int32) d9_58 (pc' := 59) rfl rfl ?_
 refine g_iushr X d9_59 (pc' := 60) rfl ?_
 generalize q3 : ((qd.toUInt32 >>> ((4 : Int32) &&& 31).toUInt32).toInt32) = qu
 refine g_istoreN X d9_60 (pc' := 61) (Ls' := #[.val (.int qu), .val (.int (11 : Int32))]) rfl rfl ?_
 refine g_iloadN X d9_61 (pc' := 62) rfl rfl ?_
 refine g_iconst X (4 : Int32) d9_62 (pc' := 63) rfl rfl ?_
 by_cases qv : qu < (4 : Int32)
 refine g_icY X d9_63 (tlt qv).1 (pc' := 73) (by decide) (by decide) ?_
 refine g_iloadN X d9_73 (pc' := 74) rfl rfl ?_
 refine g_iloadN X d9_74 (pc' := 75) rfl rfl ?_
 refine g_iconst X (1 : Int32) d9_75 (pc' := 76) rfl rfl ?_
 refine g_iushr X d9_76 (pc' := 77) rfl ?_
 refine g_isub X d9_77 (pc' := 78) rfl ?_
 refine g_ireturn X d9_78 hret hlk (by decide) (by decide) ?_
 subst qf q3
 exact ⟨congrArg (fun z => some (Value.int z)) (Eq.symm (show fNI i0 = _ from (Eq.trans (if_pos qa) (Eq.trans (if_neg qb) (Eq.trans (if_pos qe) (Eq.trans (if_neg qk) (Eq.trans (if_pos qv) rfl))))))), rfl, rfl⟩
 refine g_icN X d9_63 (flt qv).1 (pc' := 66) rfl ?_
 refine g_iinc X d9_66 (pc' := 69) (q := (-2 : Int32)) (Ls' := #[.val (.int qu), .val (.int (9 : Int32))]) rfl rfl rfl rfl ?_
 refine g_iloadN X d9_69 (pc' := 70) rfl rfl ?_
 refine g_iconst X (2 : Int32) d9_70 (pc' := 71) rfl rfl ?_
 refine g_iushr X d9_71 (pc' := 72) rfl ?_
 generalize jf : ((qu.toUInt32 >>> ((2 : Int32) &&& 31).toUInt32).toInt32) = jg
 refine g_istoreN X d9_72 (pc' := 73) (Ls' := #[.val (.int jg), .val (.int (9 : Int32))]) rfl rfl ?_
 refine g_iloadN X d9_73 (pc' := 74) rfl rfl ?_
 refine g_iloadN X d9_74 (pc' := 75) rfl rfl ?_
 refine g_iconst X (1 : Int32) d9_75 (pc' := 76) rfl rfl ?_
 refine g_iushr X d9_76 (pc' := 77) rfl ?_
 refine g_isub X d9_77 (pc' := 78) rfl ?_
 refine g_ireturn X d9_78 hret hlk (by decide) (by decide) ?_
 subst qf q3 jf
 exact ⟨congrArg (fun z => some (Value.int z)) (Eq.symm (show fNI i0 = _ from (Eq.trans (if_pos qa) (Eq.trans (if_neg qb) (Eq.trans (if_pos qe) (Eq.trans (if_neg qk) (Eq.trans (if_neg qv) rfl))))))), rfl, rfl⟩
 refine g_icN X d9_37 (flt qe).1 (pc' := 40) rfl ?_
 refine g_iinc X d9_40 (pc' := 43) (q := (-8 : Int32)) (Ls' := #[.val (.int qd), .val (.int (7 : Int32))]) rfl rfl rfl rfl ?_
 refine g_iloadN X d9_43 (pc' := 44) rfl rfl ?_
 refine g_bipush X (8 : Int32) d9_44 (pc' := 46) rfl rfl ?_
 refine g_iushr X d9_46 (pc' := 47) rfl ?_
 generalize qw : ((qd.toUInt32 >>> ((8 : Int32) &&& 31).toUInt32).toInt32) = qh
 refine g_istoreN X d9_47 (pc' := 48) (Ls' := #[.val (.int qh), .val (.int (7 : Int32))]) rfl rfl ?_
 refine g_iloadN X d9_48 (pc' := 49) rfl rfl ?_
 refine g_bipush X (16 : Int32) d9_49 (pc' := 51) rfl rfl ?_
 by_cases ql : qh < (16 : Int32)
 refine g_icY X d9_51 (tlt ql).1 (pc' := 61) (by decide) (by decide) ?_
 refine g_iloadN X d9_61 (pc' := 62) rfl rfl ?_
 refine g_iconst X (4 : Int32) d9_62 (pc' := 63) rfl rfl ?_
 by_cases qx : qh < (4 : Int32)
 refine g_icY X d9_63 (tlt qx).1 (pc' := 73) (by decide) (by decide) ?_
 refine g_iloadN X d9_73 (pc' := 74) rfl rfl ?_
 refine g_iloadN X d9_74 (pc' := 75) rfl rfl ?_
 refine g_iconst X (1 : Int32) d9_75 (pc' := 76) rfl rfl ?_
 refine g_iushr X d9_76 (pc' := 77) rfl ?_
 refine g_isub X d9_77 (pc' := 78) rfl ?_
 refine g_ireturn X d9_78 hret hlk (by decide) (by decide) ?_
 subst qf qw
 exact ⟨congrArg (fun z => some (Value.int z)) (Eq.symm (show fNI i0 = _ from (Eq.trans (if_pos qa) (Eq.trans (if_neg qb) (Eq.trans (if_neg qe) (Eq.trans (if_pos ql) (Eq.trans (if_pos qx) rfl))))))), rfl, rfl⟩
 refine g_icN X d9_63 (flt qx).1 (pc' := 66) rfl ?_
 refine g_iinc X d9_66 (pc' := 69) (q := (-2 : Int32)) (Ls' := #[.val (.int qh), .val (.int (5 : Int32))]) rfl rfl rfl rfl ?_
 refine g_iloadN X d9_69 (pc' := 70) rfl rfl ?_
 refine g_iconst X (2 : Int32) d9_70 (pc' := 71) rfl rfl ?_
 refine g_iushr X d9_71 (pc' := 72) rfl ?_
 generalize jh : ((qh.toUInt32 >>> ((2 : Int32) &&& 31).toUInt32).toInt32) = ji
 refine g_istoreN X d9_72 (pc' := 73) (Ls' := #[.val (.int ji), .val (.int (5 : Int32))]) rfl rfl ?_
 refine g_iloadN X d9_73 (pc' := 74) rfl rfl ?_
 refine g_iloadN X d9_74 (pc' := 75) rfl rfl ?_
 refine g_iconst X (1 : Int32) d9_75 (pc' := 76) rfl rfl ?_
 refine g_iushr X d9_76 (pc' := 77) rfl ?_
 refine g_isub X d9_77 (pc' := 78) rfl ?_
 refine g_ireturn X d9_78 hret hlk (by decide) (by decide) ?_
 subst qf qw jh
 exact ⟨congrArg (fun z => some (Value.int z)) (Eq.symm (show fNI i0 = _ from (Eq.trans (if_pos qa) (Eq.trans (if_neg qb) (Eq.trans (if_neg qe) (Eq.trans (if_pos ql) (Eq.trans (if_neg qx) rfl))))))), rfl, rfl⟩
 refine g_icN X d9_51 (flt ql).1 (pc' := 54) rfl ?_
 refine g_iinc X d9_54 (pc' := 57) (q := (-4 : Int32)) (Ls' := #[.val (.int qh), .val (.int (3 : Int32))]) rfl rfl rfl rfl ?_
 refine g_iloadN X d9_57 (pc' := 58) rfl rfl ?_
 refine g_iconst X (4 : Int32) d9_58 (pc' := 59) rfl rfl ?_
 refine g_iushr X d9_59 (pc' := 60) rfl ?_
 generalize q4 : ((qh.toUInt32 >>> ((4 : Int32) &&& 31).toUInt32).toInt32) = qy
 refine g_istoreN X d9_60 (pc' := 61) (Ls' := #[.val (.int qy), .val (.int (3 : Int32))]) rfl rfl ?_
 refine g_iloadN X d9_61 (pc' := 62) rfl rfl ?_
 refine g_iconst X (4 : Int32) d9_62 (pc' := 63) rfl rfl ?_
 by_cases qz : qy < (4 : Int32)
 refine g_icY X d9_63 (tlt qz).1 (pc' := 73) (by decide) (by decide) ?_
 refine g_iloadN X d9_73 (pc' := 74) rfl rfl ?_
 refine g_iloadN X d9_74 (pc' := 75) rfl rfl ?_
 refine g_iconst X (1 : Int32) d9_75 (pc' := 76) rfl rfl ?_
 refine g_iushr X d9_76 (pc' := 77) rfl ?_
 refine g_isub X d9_77 (pc' := 78) rfl ?_
 refine g_ireturn X d9_78 hret hlk (by decide) (by decide) ?_
 subst qf qw q4
 exact ⟨congrArg (fun z => some (Value.int z)) (Eq.symm (show fNI i0 = _ from (Eq.trans (if_pos qa) (Eq.trans (if_neg qb) (Eq.trans (if_neg qe) (Eq.trans (if_neg ql) (Eq.trans (if_pos qz) rfl))))))), rfl, rfl⟩
 refine g_icN X d9_63 (flt qz).1 (pc' := 66) rfl ?_
 refine g_iinc X d9_66 (pc' := 69) (q := (-2 : Int32)) (Ls' := #[.val (.int qy), .val (.int (1 : Int32))]) rfl rfl rfl rfl ?_
 refine g_iloadN X d9_69 (pc' := 70) rfl rfl ?_
 refine g_iconst X (2 : Int32) d9_70 (pc' := 71) rfl rfl ?_
 refine g_iushr X d9_71 (pc' := 72) rfl ?_
 generalize jj : ((qy.toUInt32 >>> ((2 : Int32) &&& 31).toUInt32).toInt32) = jk
 refine g_istoreN X d9_72 (pc' := 73) (Ls' := #[.val (.int jk), .val (.int (1 : Int32))]) rfl rfl ?_
 refine g_iloadN X d9_73 (pc' := 74) rfl rfl ?_
 refine g_iloadN X d9_74 (pc' := 75) rfl rfl ?_
 refine g_iconst X (1 : Int32) d9_75 (pc' := 76) rfl rfl ?_
 refine g_iushr X d9_76 (pc' := 77) rfl ?_
 refine g_isub X d9_77 (pc' := 78) rfl ?_
 refine g_ireturn X d9_78 hret hlk (by decide) (by decide) ?_
 subst qf qw q4 jj
 exact ⟨congrArg (fun z => some (Value.int z)) (Eq.symm (show fNI i0 = _ from (Eq.trans (if_pos qa) (Eq.trans (if_neg qb) (Eq.trans (if_neg qe) (Eq.trans (if_neg ql) (Eq.trans (if_neg qz) rfl))))))), rfl, rfl⟩
 refine g_ifN X d9_1 ((if0 _ _).trans (flt qa).2.2.1) (pc' := 4) rfl ?_
 refine g_iloadN X d9_4 (pc' := 5) rfl rfl ?_
 by_cases q0 : i0 = (0 : Int32)
 refine g_ifN X d9_5 ((if0 _ _).trans (teq q0).2) (pc' := 8) rfl ?_
 refine g_bipush X (32 : Int32) d9_8 (pc' := 10) rfl rfl ?_
 refine g_goto X d9_10 (pc' := 14) (by decide) (by decide) ?_
 refine g_ireturn X d9_14 hret hlk (by decide) (by decide) ?_
 exact ⟨congrArg (fun z => some (Value.int z)) (Eq.symm (show fNI i0 = _ from (Eq.trans (if_neg qa) (Eq.trans (if_pos q0) rfl)))), rfl, rfl⟩
 refine g_ifY X d9_5 ((if0 _ _).trans (feq q0).2) (pc' := 13) (by decide) (by decide) ?_
 refine g_iconst X (0 : Int32) d9_13 (pc' := 14) rfl rfl ?_
 refine g_ireturn X d9_14 hret hlk (by decide) (by decide) ?_
 exact ⟨congrArg (fun z => some (Value.int z)) (Eq.symm (show fNI i0 = _ from (Eq.trans (if_neg qa) (Eq.trans (if_neg q0) rfl)))), rfl, rfl⟩
theorem pn_2 : plainName "java/lang/Long" = true := by first | (simp [plainName, overriddenIn]; done) | decide +kernel
theorem d8_0 : decode jdk_35_method_48_code 0 = .ok (.lload_n 0, 1) := by decide +kernel
theorem d8_1 : decode jdk_35_method_48_code 1 = .ok (.bipush 32, 2) := by decide +kernel
theorem d8_3 : decode jdk_35_method_48_code 3 = .ok (.lushr, 1) := by decide +kernel
theorem d8_4 : decode jdk_35_method_48_code 4 = .ok (.l2i, 1) := by decide +kernel
theorem d8_5 : decode jdk_35_method_48_code 5 = .ok (.istore_n 2, 1) := by decide +kernel
theorem d8_6 : decode jdk_35_method_48_code 6 = .ok (.iload_n 2, 1) := by decide +kernel
theorem d8_7 : decode jdk_35_method_48_code 7 = .ok (.ifCond .ne 14, 3) := by decide +kernel
theorem d8_10 : decode jdk_35_method_48_code 10 = .ok (.bipush 32, 2) := by decide +kernel
theorem d8_12 : decode jdk_35_method_48_code 12 = .ok (.lload_n 0, 1) := by decide +kernel
theorem d8_13 : decode jdk_35_method_48_code 13 = .ok (.l2i, 1) := by decide +kernel
theorem d8_14 : decode jdk_35_method_48_code 14 = .ok (.invokestatic 308, 3) := by decide +kernel
theorem pd_1 : parseMethodDescriptor "(I)I" = some ⟨[.int], some .int⟩ := by decide +kernel
theorem d8_17 : decode jdk_35_method_48_code 17 = .ok (.iadd, 1) := by decide +kernel
theorem d8_18 : decode jdk_35_method_48_code 18 = .ok (.goto 7, 3) := by decide +kernel
theorem d8_25 : decode jdk_35_method_48_code 25 = .ok (.ireturn, 1) := by decide +kernel
theorem d8_21 : decode jdk_35_method_48_code 21 = .ok (.iload_n 2, 1) := by decide +kernel
theorem d8_22 : decode jdk_35_method_48_code 22 = .ok (.invokestatic 308, 3) := by decide +kernel
def fNL (j0 : Int64) : Int32 := let v5_1 : Int32 := (((j0.toUInt64 >>> ((32 : Int32) &&& 0x3f).toInt64.toUInt64).toInt64).toInt32); if v5_1 = (0 : Int32) then (((32 : Int32) + (fNI (j0.toInt32)))) else ((fNI v5_1))
theorem ef_rNL (m : MethodId) (x0 : Int64) : entryFrame m #[(.long x0)] 3 = mkF m 0 #[.val (.long x0), .second, .unset] [] := by first | (simp [entryFrame, mkF, argsToLocals, Value.category]; done) | rfl
set_option maxRecDepth 65536 in
set_option maxHeartbeats 40000000 in
theorem rNL (l : Launch) (Z : State) (aa : Array Value) (hw : ∀ d ∈ tables_1, d.before aa Z = true) (ws : List Jvm.Cond) (j0 : Int64) (h0 : Heap) :
    Rm l Z (⟨"java/lang/Long", "numberOfLeadingZeros", "(J)I"⟩ : MethodName) jdk_35_method_48_code 3 (some .int) ws ({ frames := 1, cells := 0, slots := 0, locals := 14 } : Room) #[(.long j0)] h0 (Pu (.int (fNL j0)) h0) := by
 refine Rm.of (plainFor_of_name pn_2) ?_
 intro p e s m below meth cc T X hnm hret hlk
 refine Go.at_ (ef_rNL m j0) ?_
 refine g_lloadN X d8_0 (pc' := 1) rfl rfl ?_
 refine g_bipush X (32 : Int32) d8_1 (pc' := 3) rfl rfl ?_
 refine g_lushr X d8_3 (pc' := 4) rfl ?_
 refine g_l2i X d8_4 (pc' := 5) rfl ?_
 generalize qc : (((j0.toUInt64 >>> ((32 : Int32) &&& 0x3f).toInt64.toUInt64).toInt64).toInt32) = qa
 refine g_istoreN X d8_5 (pc' := 6) (Ls' := #[.val (.long j0), .second, .val (.int qa)]) rfl rfl ?_
 refine g_iloadN X d8_6 (pc' := 7) rfl rfl ?_
 by_cases qb : qa = (0 : Int32)
 refine g_ifN X d8_7 ((if0 _ _).trans (teq qb).2) (pc' := 10) rfl ?_
 refine g_bipush X (32 : Int32) d8_10 (pc' := 12) rfl rfl ?_
 refine g_lloadN X d8_12 (pc' := 13) rfl rfl ?_
 refine g_l2i X d8_13 (pc' := 14) rfl ?_
 refine g_static X (W := 1) [(.int (j0.toInt32))] [(.int (32 : Int32))] (tb hw 51 rfl) (tb hw 52 rfl) (tb hw 53 rfl) (tb hw 54 rfl) (rNI l Z aa hw [] (j0.toInt32) _) d8_14 (pc' := 17) rfl (by decide) (by decide) (by decide) rfl rfl rfl (lenOf pd_1 rfl) (Nat.le_refl _) (by decide) (by decide) ?_
 intro v T L X q
 obtain ⟨rfl, X⟩ := pureX X q
 show Go p e below _ (T.setTop (mkF m 17 _ [(.int (fNI (j0.toInt32))), (.int (32 : Int32))]))
 refine g_iadd X d8_17 (pc' := 18) rfl ?_
 refine g_goto X d8_18 (pc' := 25) (by decide) (by decide) ?_
 refine g_ireturn X d8_25 hret hlk (by decide) (by decide) ?_
 subst qc
 exact ⟨congrArg (fun z => some (Value.int z)) (Eq.symm (show fNL j0 = _ from (Eq.trans (if_pos qb) rfl))), rfl, rfl⟩
 refine g_ifY X d8_7 ((if0 _ _).trans (feq qb).2) (pc' := 21) (by decide) (by decide) ?_
 refine g_iloadN X d8_21 (pc' := 22) rfl rfl ?_
 refine g_static X (W := 0) [(.int qa)] [] (tb hw 51 rfl) (tb hw 52 rfl) (tb hw 53 rfl) (tb hw 54 rfl) (rNI l Z aa hw [] qa _) d8_22 (pc' := 25) rfl (by decide) (by decide) (by decide) rfl rfl rfl (lenOf pd_1 rfl) (Nat.le_refl _) (by decide) (by decide) ?_
 intro v T L X q
 obtain ⟨rfl, X⟩ := pureX X q
 show Go p e below _ (T.setTop (mkF m 25 _ [(.int (fNI qa))]))
 refine g_ireturn X d8_25 hret hlk (by decide) (by decide) ?_
 subst qc
 exact ⟨congrArg (fun z => some (Value.int z)) (Eq.symm (show fNL j0 = _ from (Eq.trans (if_neg qb) rfl))), rfl, rfl⟩
def bt (l h : Int32) : Int32 := (64 : Int32) - (fNL (h.toInt64 - l.toInt64))
def SL (x : Int64) (s : Int32) : Int64 := x <<< (s &&& 0x3f).toInt64
def SR (x : Int64) (s : Int32) : Int64 := (x.toUInt64 >>> (s &&& 0x3f).toInt64.toUInt64).toInt64
theorem ush (w q : Int32) (k : Nat) (h1 : q.toBitVec.toNat % 32 = k) (h2 : 0 < k) (h3 : 0 ≤ w.toInt) : ((w.toUInt32 >>> (q &&& 31).toUInt32).toInt32).toInt = w.toInt / (2 ^ k : Nat) := by
  rw [c_iushr w q k h1 h2, Int.emod_eq_of_lt h3 (by have := (rng32 w).2; omega)]
theorem leafN {x c w : Int32} (n : Nat) (hc : c.toInt = n) (hn1 : 1 ≤ n) (hn : n ≤ 31) (hw1 : 1 ≤ w.toInt) (hw3 : w.toInt ≤ 3) (he : x.toInt / (2 ^ (31 - n) : Nat) = w.toInt) :
    ∃ r : Nat, (c - ((w.toUInt32 >>> ((1 : Int32) &&& 31).toUInt32).toInt32)).toInt = r ∧ r ≤ 32 ∧ x.toInt < (2 ^ (32 - r) : Nat) := by
  have e1 := ush w 1 1 (by decide) (by decide) (by omega)
  simp only [Nat.pow_one] at e1
  have e2 : (c - ((w.toUInt32 >>> ((1 : Int32) &&& 31).toUInt32).toInt32)).toInt = n - w.toInt / 2 := by
    rw [Int32.toInt_sub, e1, hc]; exact Int.bmod_eq_of_le (by omega) (by omega)
  have pp : 0 < ((2 ^ (31 - n) : Nat) : Int) := by exact_mod_cast Nat.pow_pos (by decide)
  have hx := Int.lt_ediv_add_one_mul_self x.toInt pp
  rw [he] at hx
  rw [e2]
  by_cases h : w.toInt = 1
  · refine ⟨n, by omega, by omega, ?_⟩
    rw [show 32 - n = (31 - n) + 1 by omega, Nat.pow_succ]
    rw [h] at hx
    simp only [Int.natCast_mul, Int.cast_ofNat_Int]
    omega
  · refine ⟨n - 1, by omega, by omega, ?_⟩
    rw [show 32 - (n - 1) = (31 - n) + 1 + 1 by omega, Nat.pow_succ, Nat.pow_succ]
    simp only [Int.natCast_mul, Int.cast_ofNat_Int]
    have hw : (w.toInt + 1) * ((2 ^ (31 - n) : Nat) : Int) ≤ 4 * ((2 ^ (31 - n) : Nat) : Int) := Int.mul_le_mul_of_nonneg_right (by omega) (by omega)
    omega
theorem nI_bound (x : Int32) (hx : 0 < x.toInt) : ∃ r : Nat, (fNI x).toInt = r ∧ r ≤ 32 ∧ x.toInt < (2 ^ (32 - r) : Nat) := by
  have r := rng32 x
  have u16 := fun w h => ush w 16 16 (by decide) (by decide) h
  have u8 := fun w h => ush w 8 8 (by decide) (by decide) h
  have u4 := fun w h => ush w 4 4 (by decide) (by decide) h
  have u2 := fun w h => ush w 2 2 (by decide) (by decide) h
  simp only [Nat.reducePow, Int.cast_ofNat_Int] at u16 u8 u4 u2
  unfold fNI
  dsimp only
  rw [if_pos (by rw [Int32.lt_iff_toInt_lt]; exact hx)]
  by_cases c1 : x < (65536 : Int32)
  · rw [if_pos c1]
    rw [Int32.lt_iff_toInt_lt] at c1; simp only [Int32.reduceToInt] at c1
    by_cases c2 : x < (256 : Int32)
    · rw [if_pos c2]
      rw [Int32.lt_iff_toInt_lt] at c2; simp only [Int32.reduceToInt] at c2
      by_cases c3 : x < (16 : Int32)
      · rw [if_pos c3]
        rw [Int32.lt_iff_toInt_lt] at c3; simp only [Int32.reduceToInt] at c3
        by_cases c4 : x < (4 : Int32)
        · rw [if_pos c4]
          rw [Int32.lt_iff_toInt_lt] at c4; simp only [Int32.reduceToInt] at c4
          exact leafN 31 rfl (by decide) (by decide) (by omega) (by omega) (by simp only [Nat.reduceSub, Nat.reducePow, Int.cast_ofNat_Int]; omega)
        · rw [if_neg c4]
          rw [Int32.lt_iff_toInt_lt] at c4; simp only [Int32.reduceToInt] at c4
          have e4 := u2 x (by omega)
          generalize ((x.toUInt32 >>> ((2 : Int32) &&& 31).toUInt32).toInt32) = w4 at *
          exact leafN 29 rfl (by decide) (by decide) (by omega) (by omega) (by simp only [Nat.reduceSub, Nat.reducePow, Int.cast_ofNat_Int]; omega)
      · rw [if_neg c3]
        rw [Int32.lt_iff_toInt_lt] at c3; simp only [Int32.reduceToInt] at c3
        have e3 := u4 x (by omega)
        generalize ((x.toUInt32 >>> ((4 : Int32) &&& 31).toUInt32).toInt32) = w3 at *
        by_cases c5 : w3 < (4 : Int32)
        · rw [if_pos c5]
          rw [Int32.lt_iff_toInt_lt] at c5; simp only [Int32.reduceToInt] at c5
          exact leafN 27 rfl (by decide) (by decide) (by omega) (by omega) (by simp only [Nat.reduceSub, Nat.reducePow, Int.cast_ofNat_Int]; omega)
        · rw [if_neg c5]
          rw [Int32.lt_iff_toInt_lt] at c5; simp only [Int32.reduceToInt] at c5
          have e5 := u2 w3 (by omega)
          generalize ((w3.toUInt32 >>> ((2 : Int32) &&& 31).toUInt32).toInt32) = w5 at *
          exact leafN 25 rfl (by decide) (by decide) (by omega) (by omega) (by simp only [Nat.reduceSub, Nat.reducePow, Int.cast_ofNat_Int]; omega)
    · rw [if_neg c2]
      rw [Int32.lt_iff_toInt_lt] at c2; simp only [Int32.reduceToInt] at c2
      have e2 := u8 x (by omega)
      generalize ((x.toUInt32 >>> ((8 : Int32) &&& 31).toUInt32).toInt32) = w2 at *
      by_cases c6 : w2 < (16 : Int32)
      · rw [if_pos c6]
        rw [Int32.lt_iff_toInt_lt] at c6; simp only [Int32.reduceToInt] at c6
        by_cases c7 : w2 < (4 : Int32)
        · rw [if_pos c7]
          rw [Int32.lt_iff_toInt_lt] at c7; simp only [Int32.reduceToInt] at c7
          exact leafN 23 rfl (by decide) (by decide) (by omega) (by omega) (by simp only [Nat.reduceSub, Nat.reducePow, Int.cast_ofNat_Int]; omega)
        · rw [if_neg c7]
          rw [Int32.lt_iff_toInt_lt] at c7; simp only [Int32.reduceToInt] at c7
          have e7 := u2 w2 (by omega)
          generalize ((w2.toUInt32 >>> ((2 : Int32) &&& 31).toUInt32).toInt32) = w7 at *
          exact leafN 21 rfl (by decide) (by decide) (by omega) (by omega) (by simp only [Nat.reduceSub, Nat.reducePow, Int.cast_ofNat_Int]; omega)
      · rw [if_neg c6]
        rw [Int32.lt_iff_toInt_lt] at c6; simp only [Int32.reduceToInt] at c6
        have e6 := u4 w2 (by omega)
        generalize ((w2.toUInt32 >>> ((4 : Int32) &&& 31).toUInt32).toInt32) = w6 at *
        by_cases c8 : w6 < (4 : Int32)
        · rw [if_pos c8]
          rw [Int32.lt_iff_toInt_lt] at c8; simp only [Int32.reduceToInt] at c8
          exact leafN 19 rfl (by decide) (by decide) (by omega) (by omega) (by simp only [Nat.reduceSub, Nat.reducePow, Int.cast_ofNat_Int]; omega)
        · rw [if_neg c8]
          rw [Int32.lt_iff_toInt_lt] at c8; simp only [Int32.reduceToInt] at c8
          have e8 := u2 w6 (by omega)
          generalize ((w6.toUInt32 >>> ((2 : Int32) &&& 31).toUInt32).toInt32) = w8 at *
          exact leafN 17 rfl (by decide) (by decide) (by omega) (by omega) (by simp only [Nat.reduceSub, Nat.reducePow, Int.cast_ofNat_Int]; omega)
  · rw [if_neg c1]
    rw [Int32.lt_iff_toInt_lt] at c1; simp only [Int32.reduceToInt] at c1
    have e1 := u16 x (by omega)
    generalize ((x.toUInt32 >>> ((16 : Int32) &&& 31).toUInt32).toInt32) = w1 at *
    by_cases c9 : w1 < (256 : Int32)
    · rw [if_pos c9]
      rw [Int32.lt_iff_toInt_lt] at c9; simp only [Int32.reduceToInt] at c9
      by_cases c10 : w1 < (16 : Int32)
      · rw [if_pos c10]
        rw [Int32.lt_iff_toInt_lt] at c10; simp only [Int32.reduceToInt] at c10
        by_cases c11 : w1 < (4 : Int32)
        · rw [if_pos c11]
          rw [Int32.lt_iff_toInt_lt] at c11; simp only [Int32.reduceToInt] at c11
          exact leafN 15 rfl (by decide) (by decide) (by omega) (by omega) (by simp only [Nat.reduceSub, Nat.reducePow, Int.cast_ofNat_Int]; omega)
        · rw [if_neg c11]
          rw [Int32.lt_iff_toInt_lt] at c11; simp only [Int32.reduceToInt] at c11
          have e11 := u2 w1 (by omega)
          generalize ((w1.toUInt32 >>> ((2 : Int32) &&& 31).toUInt32).toInt32) = w11 at *
          exact leafN 13 rfl (by decide) (by decide) (by omega) (by omega) (by simp only [Nat.reduceSub, Nat.reducePow, Int.cast_ofNat_Int]; omega)
      · rw [if_neg c10]
        rw [Int32.lt_iff_toInt_lt] at c10; simp only [Int32.reduceToInt] at c10
        have e10 := u4 w1 (by omega)
        generalize ((w1.toUInt32 >>> ((4 : Int32) &&& 31).toUInt32).toInt32) = w10 at *
        by_cases c12 : w10 < (4 : Int32)
        · rw [if_pos c12]
          rw [Int32.lt_iff_toInt_lt] at c12; simp only [Int32.reduceToInt] at c12
          exact leafN 11 rfl (by decide) (by decide) (by omega) (by omega) (by simp only [Nat.reduceSub, Nat.reducePow, Int.cast_ofNat_Int]; omega)
        · rw [if_neg c12]
          rw [Int32.lt_iff_toInt_lt] at c12; simp only [Int32.reduceToInt] at c12
          have e12 := u2 w10 (by omega)
          generalize ((w10.toUInt32 >>> ((2 : Int32) &&& 31).toUInt32).toInt32) = w12 at *
          exact leafN 9 rfl (by decide) (by decide) (by omega) (by omega) (by simp only [Nat.reduceSub, Nat.reducePow, Int.cast_ofNat_Int]; omega)
    · rw [if_neg c9]
      rw [Int32.lt_iff_toInt_lt] at c9; simp only [Int32.reduceToInt] at c9
      have e9 := u8 w1 (by omega)
      generalize ((w1.toUInt32 >>> ((8 : Int32) &&& 31).toUInt32).toInt32) = w9 at *
      by_cases c13 : w9 < (16 : Int32)
      · rw [if_pos c13]
        rw [Int32.lt_iff_toInt_lt] at c13; simp only [Int32.reduceToInt] at c13
        by_cases c14 : w9 < (4 : Int32)
        · rw [if_pos c14]
          rw [Int32.lt_iff_toInt_lt] at c14; simp only [Int32.reduceToInt] at c14
          exact leafN 7 rfl (by decide) (by decide) (by omega) (by omega) (by simp only [Nat.reduceSub, Nat.reducePow, Int.cast_ofNat_Int]; omega)
        · rw [if_neg c14]
          rw [Int32.lt_iff_toInt_lt] at c14; simp only [Int32.reduceToInt] at c14
          have e14 := u2 w9 (by omega)
          generalize ((w9.toUInt32 >>> ((2 : Int32) &&& 31).toUInt32).toInt32) = w14 at *
          exact leafN 5 rfl (by decide) (by decide) (by omega) (by omega) (by simp only [Nat.reduceSub, Nat.reducePow, Int.cast_ofNat_Int]; omega)
      · rw [if_neg c13]
        rw [Int32.lt_iff_toInt_lt] at c13; simp only [Int32.reduceToInt] at c13
        have e13 := u4 w9 (by omega)
        generalize ((w9.toUInt32 >>> ((4 : Int32) &&& 31).toUInt32).toInt32) = w13 at *
        by_cases c15 : w13 < (4 : Int32)
        · rw [if_pos c15]
          rw [Int32.lt_iff_toInt_lt] at c15; simp only [Int32.reduceToInt] at c15
          exact leafN 3 rfl (by decide) (by decide) (by omega) (by omega) (by simp only [Nat.reduceSub, Nat.reducePow, Int.cast_ofNat_Int]; omega)
        · rw [if_neg c15]
          rw [Int32.lt_iff_toInt_lt] at c15; simp only [Int32.reduceToInt] at c15
          have e15 := u2 w13 (by omega)
          generalize ((w13.toUInt32 >>> ((2 : Int32) &&& 31).toUInt32).toInt32) = w15 at *
          exact leafN 1 rfl (by decide) (by decide) (by omega) (by omega) (by simp only [Nat.reduceSub, Nat.reducePow, Int.cast_ofNat_Int]; omega)
theorem nL_small (j : Int64) (h0 : 0 ≤ j.toInt) (h1 : j.toInt < 4294967296) : ∃ b : Nat, ((64 : Int32) - fNL j).toInt = b ∧ b ≤ 32 ∧ j.toInt < (2 ^ b : Nat) := by
  have e0 : (((j.toUInt64 >>> ((32 : Int32) &&& 0x3f).toInt64.toUInt64).toInt64).toInt32) = (0 : Int32) := by
    have a := c_lushr j 32 32 (by decide) (by decide)
    simp only [Nat.reducePow, Int.cast_ofNat_Int] at a
    have b := c_l2i ((j.toUInt64 >>> ((32 : Int32) &&& 0x3f).toInt64.toUInt64).toInt64)
    have r := rng32 (((j.toUInt64 >>> ((32 : Int32) &&& 0x3f).toInt64.toUInt64).toInt64).toInt32)
    apply Int32.toInt_inj.mp
    simp only [Int32.reduceToInt]
    omega
  have e1 : fNL j = (32 : Int32) + fNI j.toInt32 := by
    unfold fNL
    exact if_pos e0
  have c2 := c_l2i j
  have r := rng32 j.toInt32
  rw [e1]
  by_cases p : 0 < j.toInt32.toInt
  · obtain ⟨q, q1, q2, q3⟩ := nI_bound j.toInt32 p
    refine ⟨32 - q, ?_, by omega, ?_⟩
    · rw [Int32.toInt_sub, Int32.toInt_add, q1]; simp only [Int32.reduceToInt]
      rw [Int.bmod_eq_of_le (n := 32 + (q : Int)) (by omega) (by omega)]
      rw [Int.bmod_eq_of_le (by omega) (by omega)]; omega
    · rw [show j.toInt = j.toInt32.toInt by omega]; exact q3
  · by_cases z : j.toInt32.toInt = 0
    · have e2 : fNI j.toInt32 = 32 := by
        have hz : j.toInt32 = 0 := Int32.toInt_inj.mp z
        rw [hz]; decide
      rw [e2]
      exact ⟨0, by decide, by decide, by simp only [Nat.pow_zero]; omega⟩
    · have e2 : fNI j.toInt32 = 0 := by
        unfold fNI
        rw [if_neg (by rw [Int32.lt_iff_toInt_lt]; exact p), if_neg (by intro q; apply z; rw [q]; rfl)]
      rw [e2]
      exact ⟨32, by decide, by decide, by simp only [Nat.reducePow]; omega⟩
theorem span_int (l h : Int32) : (h.toInt64 - l.toInt64).toInt = h.toInt - l.toInt := by
  have r := rng32 l; have r2 := rng32 h
  rw [Int64.toInt_sub, Int32.toInt_toInt64, Int32.toInt_toInt64]; exact Int.bmod_eq_of_le (by omega) (by omega)
theorem bt_bound (l h : Int32) (hle : l.toInt ≤ h.toInt) : ∃ b : Nat, (bt l h).toInt = b ∧ b ≤ 32 ∧ h.toInt - l.toInt < (2 ^ b : Nat) := by
  have r := rng32 l; have r2 := rng32 h
  have e := span_int l h
  obtain ⟨b, h1, h2, h3⟩ := nL_small (h.toInt64 - l.toInt64) (by omega) (by omega)
  exact ⟨b, h1, h2, by omega⟩
theorem nat_of32 {s : Int32} {n : Nat} (h : s.toInt = n) : s.toBitVec.toNat = n := by
  have l := s.toBitVec.isLt
  change s.toBitVec.toInt = _ at h
  rw [BitVec.toInt_eq_toNat_cond] at h
  split at h <;> omega
theorem nat_of64 {s : Int64} {n : Nat} (h : s.toInt = n) : s.toBitVec.toNat = n := by
  have l := s.toBitVec.isLt
  change s.toBitVec.toInt = _ at h
  rw [BitVec.toInt_eq_toNat_cond] at h
  split at h <;> omega
theorem sl_bv (x : Int64) {s : Int32} {n : Nat} (hs : s.toInt = n) : (SL x s).toBitVec = x.toBitVec <<< (n % 64) := by
  obtain ⟨e, lt⟩ := sm64 s (n % 64) (by rw [nat_of32 hs])
  show x.toBitVec <<< ((s &&& 0x3f).toInt64.toBitVec.smod 64) = _
  rw [e]
  show x.toBitVec <<< ((BitVec.ofNat 64 (n % 64)).smod 64).toNat = _
  rw [smod64 _ lt]
theorem sr_bv (x : Int64) {s : Int32} {n : Nat} (hs : s.toInt = n) : (SR x s).toBitVec = x.toBitVec >>> (n % 64) := by
  obtain ⟨e, lt⟩ := sm64 s (n % 64) (by rw [nat_of32 hs])
  show x.toBitVec >>> ((s &&& 0x3f).toInt64.toBitVec % 64) = _
  rw [e]
  show x.toBitVec >>> ((BitVec.ofNat 64 (n % 64)) % 64).toNat = _
  rw [BitVec.toNat_umod, BitVec.toNat_ofNat, Nat.mod_eq_of_lt (show n % 64 < 2 ^ 64 by omega)]
  show x.toBitVec >>> (n % 64 % 64) = _
  rw [Nat.mod_mod]
theorem mask_nat {b : Int32} {bb : Nat} (hb : b.toInt = bb) (h32 : bb ≤ 32) : (SL (1 : Int64) b - (1 : Int64)).toBitVec.toNat = 2 ^ bb - 1 := by
  have p : 2 ^ bb ≤ 2 ^ 32 := Nat.pow_le_pow_right (by decide) h32
  have p1 : 0 < 2 ^ bb := Nat.pow_pos (by decide)
  rw [Int64.toBitVec_sub, sl_bv 1 hb, Nat.mod_eq_of_lt (show bb < 64 by omega)]
  have e : ((1 : Int64).toBitVec <<< bb).toNat = 2 ^ bb := by
    rw [BitVec.toNat_shiftLeft]
    show 1 <<< bb % 2 ^ 64 = _
    rw [Nat.shiftLeft_eq, Nat.one_mul, Nat.mod_eq_of_lt (by omega)]
  rw [BitVec.toNat_sub, e]
  show (2 ^ 64 - 1 + 2 ^ bb) % 2 ^ 64 = _
  omega
theorem hi_false {d : BitVec 64} {b t : Nat} (h : d.toNat < 2 ^ b) (ht : b ≤ t) : d.getLsbD t = false :=
  Nat.testBit_lt_two_pow (Nat.lt_of_lt_of_le h (Nat.pow_le_pow_right (by decide) ht))
theorem zero_of {d : BitVec 64} (h : d.toNat < 2 ^ 0) : d = 0 := by
  apply BitVec.eq_of_toNat_eq
  show d.toNat = 0
  simp only [Nat.pow_zero] at h
  omega
theorem slbit {x : Int64} {s : Int32} {n b : Nat} (hs : s.toInt = n) (hnb : n + b ≤ 64) (hd : x.toBitVec.toNat < 2 ^ b) (j : Nat) (hj : j < 64) : (SL x s).toBitVec.getLsbD j = (decide (n ≤ j) && x.toBitVec.getLsbD (j - n)) := by
  rw [sl_bv x hs]
  by_cases h : n < 64
  · rw [Nat.mod_eq_of_lt h, BitVec.getLsbD_shiftLeft]
    by_cases q : n ≤ j
    · simp [q, hj, Nat.not_lt.mpr q]
    · simp [q, Nat.lt_of_not_le q]
  · have e : n = 64 := by omega
    have e2 : b = 0 := by omega
    subst e2
    rw [zero_of hd]
    simp
theorem pick_bits {K x : BitVec 64} {n b : Nat} (hx : x.toNat < 2 ^ b) (bits : ∀ i, i < b → K.getLsbD (n + i) = x.getLsbD i) : (K >>> n).toNat % 2 ^ b = x.toNat := by
  apply Nat.eq_of_testBit_eq
  intro i
  rw [Nat.testBit_mod_two_pow]
  by_cases q : i < b
  · simp only [q, decide_true, Bool.true_and]
    rw [BitVec.toNat_ushiftRight, Nat.testBit_shiftRight]
    exact bits i q
  · simp only [q, decide_false, Bool.false_and]
    exact (hi_false hx (Nat.le_of_not_lt q)).symm
theorem unpk {K d : Int64} {s b : Int32} {n bb : Nat} (hs : s.toInt = n) (hb : b.toInt = bb) (hnb : n + bb ≤ 64) (h32 : bb ≤ 32) (hd : d.toBitVec.toNat < 2 ^ bb) (bits : ∀ i, i < bb → K.toBitVec.getLsbD (n + i) = d.toBitVec.getLsbD i) : SR K s &&& (SL (1 : Int64) b - (1 : Int64)) = d := by
  apply Int64.toBitVec_inj.mp
  apply BitVec.eq_of_toNat_eq
  rw [Int64.toBitVec_and, BitVec.toNat_and, mask_nat hb h32, Nat.and_two_pow_sub_one_eq_mod, sr_bv K hs]
  by_cases h : n < 64
  · rw [Nat.mod_eq_of_lt h]; exact pick_bits hd bits
  · have e2 : bb = 0 := by omega
    subst e2
    rw [zero_of hd]
    simp [Nat.mod_one]
theorem back_int (v l : Int32) : (v.toInt64 - l.toInt64).toInt32 + l = v := by
  have e := span_int l v
  have a := c_l2i (v.toInt64 - l.toInt64)
  have b := c_iadd (v.toInt64 - l.toInt64).toInt32 l
  have r := rng32 v; have r2 := rng32 ((v.toInt64 - l.toInt64).toInt32 + l)
  apply Int32.toInt_inj.mp
  omega
theorem d_nat {l h v : Int32} {b : Nat} (h1 : l.toInt ≤ v.toInt) (h2 : v.toInt ≤ h.toInt) (h3 : h.toInt - l.toInt < (2 ^ b : Nat)) : (v.toInt64 - l.toInt64).toBitVec.toNat < 2 ^ b := by
  have e := span_int l v
  have q : (v.toInt64 - l.toInt64).toBitVec.toNat = (v.toInt - l.toInt).toNat := nat_of64 (by omega)
  rw [q]; omega

theorem pn_3 : plainName "com/example/ryazan/ryazan/language/Layout" = true := by first | (simp [plainName, overriddenIn]; done) | decide +kernel
theorem d6_0 : decode prog_58_method_1_code 0 = .ok (.aload_n 0, 1) := by decide +kernel
theorem d6_1 : decode prog_58_method_1_code 1 = .ok (.invokespecial 1, 3) := by decide +kernel
theorem d6_4 : decode prog_58_method_1_code 4 = .ok (.aload_n 0, 1) := by decide +kernel
theorem d6_5 : decode prog_58_method_1_code 5 = .ok (.aload_n 1, 1) := by decide +kernel
theorem d6_6 : decode prog_58_method_1_code 6 = .ok (.invokevirtual 7, 3) := by decide +kernel
theorem d6_9 : decode prog_58_method_1_code 9 = .ok (.checkcast 8, 3) := by decide +kernel
theorem d6_12 : decode prog_58_method_1_code 12 = .ok (.putfield 13, 3) := by decide +kernel
theorem d6_15 : decode prog_58_method_1_code 15 = .ok (.aload_n 0, 1) := by decide +kernel
theorem d6_16 : decode prog_58_method_1_code 16 = .ok (.aload_n 1, 1) := by decide +kernel
theorem d6_17 : decode prog_58_method_1_code 17 = .ok (.arraylength, 1) := by decide +kernel
theorem d6_18 : decode prog_58_method_1_code 18 = .ok (.newarray .int, 2) := by decide +kernel
theorem d6_20 : decode prog_58_method_1_code 20 = .ok (.putfield 18, 3) := by decide +kernel
theorem d6_23 : decode prog_58_method_1_code 23 = .ok (.aload_n 0, 1) := by decide +kernel
theorem d6_24 : decode prog_58_method_1_code 24 = .ok (.aload_n 1, 1) := by decide +kernel
theorem d6_25 : decode prog_58_method_1_code 25 = .ok (.arraylength, 1) := by decide +kernel
theorem d6_26 : decode prog_58_method_1_code 26 = .ok (.newarray .int, 2) := by decide +kernel
theorem d6_28 : decode prog_58_method_1_code 28 = .ok (.putfield 21, 3) := by decide +kernel
theorem d6_31 : decode prog_58_method_1_code 31 = .ok (.aload_n 0, 1) := by decide +kernel
theorem d6_32 : decode prog_58_method_1_code 32 = .ok (.aload_n 1, 1) := by decide +kernel
theorem d6_33 : decode prog_58_method_1_code 33 = .ok (.arraylength, 1) := by decide +kernel
theorem d6_34 : decode prog_58_method_1_code 34 = .ok (.newarray .long, 2) := by decide +kernel
theorem d6_36 : decode prog_58_method_1_code 36 = .ok (.putfield 24, 3) := by decide +kernel
theorem d6_39 : decode prog_58_method_1_code 39 = .ok (.iconst 1, 1) := by decide +kernel
theorem d6_40 : decode prog_58_method_1_code 40 = .ok (.istore_n 3, 1) := by decide +kernel
theorem d6_41 : decode prog_58_method_1_code 41 = .ok (.bipush 64, 2) := by decide +kernel
theorem d6_43 : decode prog_58_method_1_code 43 = .ok (.istore 4, 2) := by decide +kernel
theorem d6_45 : decode prog_58_method_1_code 45 = .ok (.iconst 0, 1) := by decide +kernel
theorem d6_46 : decode prog_58_method_1_code 46 = .ok (.istore 5, 2) := by decide +kernel
theorem d6_48 : decode prog_58_method_1_code 48 = .ok (.iload 5, 2) := by decide +kernel
theorem d6_50 : decode prog_58_method_1_code 50 = .ok (.aload_n 1, 1) := by decide +kernel
theorem d6_51 : decode prog_58_method_1_code 51 = .ok (.arraylength, 1) := by decide +kernel
theorem d6_52 : decode prog_58_method_1_code 52 = .ok (.if_icmp .ge 85, 3) := by decide +kernel
theorem d6_55 : decode prog_58_method_1_code 55 = .ok (.aload_n 2, 1) := by decide +kernel
theorem d6_56 : decode prog_58_method_1_code 56 = .ok (.iload 5, 2) := by decide +kernel
theorem d6_58 : decode prog_58_method_1_code 58 = .ok (.iaload, 1) := by decide +kernel
theorem d6_59 : decode prog_58_method_1_code 59 = .ok (.i2l, 1) := by decide +kernel
theorem d6_60 : decode prog_58_method_1_code 60 = .ok (.aload_n 1, 1) := by decide +kernel
theorem d6_61 : decode prog_58_method_1_code 61 = .ok (.iload 5, 2) := by decide +kernel
theorem d6_63 : decode prog_58_method_1_code 63 = .ok (.iaload, 1) := by decide +kernel
theorem d6_64 : decode prog_58_method_1_code 64 = .ok (.i2l, 1) := by decide +kernel
theorem d6_65 : decode prog_58_method_1_code 65 = .ok (.lsub, 1) := by decide +kernel
theorem d6_66 : decode prog_58_method_1_code 66 = .ok (.lstore 6, 2) := by decide +kernel
theorem d6_68 : decode prog_58_method_1_code 68 = .ok (.bipush 64, 2) := by decide +kernel
theorem d6_70 : decode prog_58_method_1_code 70 = .ok (.lload 6, 2) := by decide +kernel
theorem d6_72 : decode prog_58_method_1_code 72 = .ok (.invokestatic 30, 3) := by decide +kernel
theorem pd_2 : parseMethodDescriptor "(J)I" = some ⟨[.long], some .int⟩ := by decide +kernel
theorem d6_75 : decode prog_58_method_1_code 75 = .ok (.isub, 1) := by decide +kernel
theorem d6_76 : decode prog_58_method_1_code 76 = .ok (.istore 8, 2) := by decide +kernel
theorem d6_78 : decode prog_58_method_1_code 78 = .ok (.iload 8, 2) := by decide +kernel
theorem d6_80 : decode prog_58_method_1_code 80 = .ok (.iload 4, 2) := by decide +kernel
theorem d6_82 : decode prog_58_method_1_code 82 = .ok (.if_icmp .le 10, 3) := by decide +kernel
theorem d6_92 : decode prog_58_method_1_code 92 = .ok (.iload 4, 2) := by decide +kernel
theorem d6_94 : decode prog_58_method_1_code 94 = .ok (.iload 8, 2) := by decide +kernel
theorem d6_96 : decode prog_58_method_1_code 96 = .ok (.isub, 1) := by decide +kernel
theorem d6_97 : decode prog_58_method_1_code 97 = .ok (.istore 4, 2) := by decide +kernel
theorem d6_99 : decode prog_58_method_1_code 99 = .ok (.aload_n 0, 1) := by decide +kernel
theorem d6_100 : decode prog_58_method_1_code 100 = .ok (.getfield 18, 3) := by decide +kernel
theorem d6_103 : decode prog_58_method_1_code 103 = .ok (.iload 5, 2) := by decide +kernel
theorem d6_105 : decode prog_58_method_1_code 105 = .ok (.iload_n 3, 1) := by decide +kernel
theorem d6_106 : decode prog_58_method_1_code 106 = .ok (.iconst 1, 1) := by decide +kernel
theorem d6_107 : decode prog_58_method_1_code 107 = .ok (.isub, 1) := by decide +kernel
theorem d6_108 : decode prog_58_method_1_code 108 = .ok (.iastore, 1) := by decide +kernel
theorem d6_109 : decode prog_58_method_1_code 109 = .ok (.aload_n 0, 1) := by decide +kernel
theorem d6_110 : decode prog_58_method_1_code 110 = .ok (.getfield 21, 3) := by decide +kernel
theorem d6_113 : decode prog_58_method_1_code 113 = .ok (.iload 5, 2) := by decide +kernel
theorem d6_115 : decode prog_58_method_1_code 115 = .ok (.iload 4, 2) := by decide +kernel
theorem d6_117 : decode prog_58_method_1_code 117 = .ok (.iastore, 1) := by decide +kernel
theorem d6_118 : decode prog_58_method_1_code 118 = .ok (.aload_n 0, 1) := by decide +kernel
theorem d6_119 : decode prog_58_method_1_code 119 = .ok (.getfield 24, 3) := by decide +kernel
theorem d6_122 : decode prog_58_method_1_code 122 = .ok (.iload 5, 2) := by decide +kernel
theorem d6_124 : decode prog_58_method_1_code 124 = .ok (.lconst 1, 1) := by decide +kernel
theorem d6_125 : decode prog_58_method_1_code 125 = .ok (.iload 8, 2) := by decide +kernel
theorem d6_127 : decode prog_58_method_1_code 127 = .ok (.lshl, 1) := by decide +kernel
theorem d6_128 : decode prog_58_method_1_code 128 = .ok (.lconst 1, 1) := by decide +kernel
theorem d6_129 : decode prog_58_method_1_code 129 = .ok (.lsub, 1) := by decide +kernel
theorem d6_130 : decode prog_58_method_1_code 130 = .ok (.lastore, 1) := by decide +kernel
theorem d6_131 : decode prog_58_method_1_code 131 = .ok (.iinc 5 1, 3) := by decide +kernel
theorem d6_134 : decode prog_58_method_1_code 134 = .ok (.goto (-86), 3) := by decide +kernel
theorem d6_137 : decode prog_58_method_1_code 137 = .ok (.aload_n 0, 1) := by decide +kernel
theorem d6_138 : decode prog_58_method_1_code 138 = .ok (.iload_n 3, 1) := by decide +kernel
theorem d6_139 : decode prog_58_method_1_code 139 = .ok (.putfield 34, 3) := by decide +kernel
theorem d6_142 : decode prog_58_method_1_code 142 = .ok (.return_, 1) := by decide +kernel
theorem ef_rInit0 (m : MethodId) (x0 : Addr) (x1 : Addr) (x2 : Addr) : entryFrame m #[(.ref x0), (.ref x1), (.ref x2)] 9 = mkF m 0 #[.val (.ref x0), .val (.ref x1), .val (.ref x2), .unset, .unset, .unset, .unset, .unset, .unset] [] := by first | (simp [entryFrame, mkF, argsToLocals, Value.category]; done) | rfl
set_option maxRecDepth 65536 in
set_option maxHeartbeats 40000000 in
theorem rInit0 (l : Launch) (Z : State) (aa : Array Value) (hw : ∀ d ∈ tables_1, d.before aa Z = true) (ws : List Jvm.Cond) (a0 : Addr) (a1 : Addr) (a2 : Addr) (l0 : Int32) (l1 : Int32) (l2 : Int32) (y0 : Int32) (y1 : Int32) (y2 : Int32) (h0 : Heap) (n0 : Nat) (Z0 : n0 ≤ h0.size) (qa : Exa Z h0 a0 "com/example/ryazan/ryazan/language/Layout") (qg : Fld Z h0 a0 "com/example/ryazan/ryazan/language/Layout" "low" "[I" .null) (qc : Fld Z h0 a0 "com/example/ryazan/ryazan/language/Layout" "word" "[I" .null) (qd : Fld Z h0 a0 "com/example/ryazan/ryazan/language/Layout" "shift" "[I" .null) (qe : Fld Z h0 a0 "com/example/ryazan/ryazan/language/Layout" "mask" "[J" .null) (qh : Fld Z h0 a0 "com/example/ryazan/ryazan/language/Layout" "width" "I" (.int (0 : Int32))) (qt : Exa Z h0 a1 "[I") (qb : Av Z h0 a1 .int [(.int l0), (.int l1), (.int l2)]) (qk : Av Z h0 a2 .int [(.int y0), (.int y1), (.int y2)]) (jg : n0 ≤ a0) (ji : a1 ≠ a0) (jj : a2 ≠ a0) (q0 : ¬ (64 : Int32) < bt l0 y0) (q1 : ¬ ((64 : Int32) - bt l0 y0) < bt l1 y1) (q2 : ¬ ((64 : Int32) - bt l0 y0 - bt l1 y1) < bt l2 y2) :
    Rm l Z (⟨"com/example/ryazan/ryazan/language/Layout", "<init>", "([I[I)V"⟩ : MethodName) prog_58_method_1_code 9 none ws ({ frames := 2, cells := 4, slots := 12, locals := 29 } : Room) #[(.ref a0), (.ref a1), (.ref a2)] h0 (fun v h L => ∃ q0 q1 q2 q3 : Addr, v = none ∧ Fr n0 L ∧ Keep h0 h [a0] ∧ h0.size ≤ q0 ∧ n0 ≤ q0 ∧ h0.size ≤ q1 ∧ n0 ≤ q1 ∧ h0.size ≤ q2 ∧ n0 ≤ q2 ∧ h0.size ≤ q3 ∧ n0 ≤ q3 ∧ q0 ≠ q1 ∧ q0 ≠ q2 ∧ q0 ≠ q3 ∧ q1 ≠ q2 ∧ q1 ≠ q3 ∧ q2 ≠ q3 ∧ Exa Z h a0 "com/example/ryazan/ryazan/language/Layout" ∧ Fld Z h a0 "com/example/ryazan/ryazan/language/Layout" "low" "[I" (.ref q0) ∧ Fld Z h a0 "com/example/ryazan/ryazan/language/Layout" "word" "[I" (.ref q1) ∧ Fld Z h a0 "com/example/ryazan/ryazan/language/Layout" "shift" "[I" (.ref q2) ∧ Fld Z h a0 "com/example/ryazan/ryazan/language/Layout" "mask" "[J" (.ref q3) ∧ Fld Z h a0 "com/example/ryazan/ryazan/language/Layout" "width" "I" (.int (1 : Int32)) ∧ Exa Z h q0 "[I" ∧ Av Z h q0 .int [(.int l0), (.int l1), (.int l2)] ∧ Exa Z h q1 "[I" ∧ Av Z h q1 .int [(.int (0 : Int32)), (.int (0 : Int32)), (.int (0 : Int32))] ∧ Exa Z h q2 "[I" ∧ Av Z h q2 .int [(.int ((64 : Int32) - ((64 : Int32) - (fNL ((y0.toInt64) - (l0.toInt64)))))), (.int (((64 : Int32) - ((64 : Int32) - (fNL ((y0.toInt64) - (l0.toInt64))))) - ((64 : Int32) - (fNL ((y1.toInt64) - (l1.toInt64)))))), (.int ((((64 : Int32) - ((64 : Int32) - (fNL ((y0.toInt64) - (l0.toInt64))))) - ((64 : Int32) - (fNL ((y1.toInt64) - (l1.toInt64))))) - ((64 : Int32) - (fNL ((y2.toInt64) - (l2.toInt64))))))] ∧ Exa Z h q3 "[J" ∧ Av Z h q3 .long [(.long (((1 : Int64) <<< (((64 : Int32) - (fNL ((y0.toInt64) - (l0.toInt64)))) &&& 0x3f).toInt64) - (1 : Int64))), (.long (((1 : Int64) <<< (((64 : Int32) - (fNL ((y1.toInt64) - (l1.toInt64)))) &&& 0x3f).toInt64) - (1 : Int64))), (.long (((1 : Int64) <<< (((64 : Int32) - (fNL ((y2.toInt64) - (l2.toInt64)))) &&& 0x3f).toInt64) - (1 : Int64)))]) := by
 refine Rm.of (plainFor_of_name pn_3) ?_
 intro p e s m below meth cc T X hnm hret hlk
 refine Go.at_ (ef_rInit0 m a0 a1 a2) ?_
 have N := Fr.nil n0
 have Kp := Keep.refl h0 [a0]
 refine g_aloadN X d6_0 (pc' := 1) rfl rfl rfl ?_
 refine g_initO X (W := 0) (tb hw 27 rfl) (tb hw 28 rfl) (tb hw 29 rfl) d6_1 (pc' := 4) rfl rfl (by decide) (Nat.le_refl _) (by decide) ?_
 intro T X
 refine g_aloadN X d6_4 (pc' := 5) rfl rfl rfl ?_
 refine g_aloadN X d6_5 (pc' := 6) rfl rfl rfl ?_
 refine g_clone X (W := 1) (tb hw 30 rfl) (tb hw 31 rfl) (tb hw 35 rfl) (tb hw 33 rfl) (tb hw 34 rfl) (tb hw 36 rfl) qb qt (fitS rfl (fitS rfl (fitS rfl fit0))) d6_6 (pc' := 9) rfl rfl (by decide) (Nat.le_refl _) (by decide) 3 (Nat.le_of_ble_eq_true rfl) (by decide) (by decide) ?_
 intro T h q7 jv X Ex qf qj
 have jh : a0 ≠ q7 := Nat.ne_of_lt (by rw [jv]; exact qa.lt)
 have wb : n0 ≤ q7 := by rw [jv]; exact Z0
 have wc : h0.size ≤ q7 := by rw [jv]; exact Kp.1
 replace qa := qa.ext Ex
 replace qg := qg.ext Ex
 replace qc := qc.ext Ex
 replace qd := qd.ext Ex
 replace qe := qe.ext Ex
 replace qh := qh.ext Ex
 replace qt := qt.ext Ex
 replace qb := qb.ext Ex
 replace qk := qk.ext Ex
 replace Z0 := Nat.le_trans Z0 Ex.1
 replace Kp := Kp.ext Ex
 refine g_checkcast X (tb hw 37 rfl) (Ins.self qf) d6_9 (pc' := 12) rfl ?_
 intro T X
 refine g_putfield X (host := "") (Or.inl (tb hw 39 rfl)) Via.refl qg qa (Or.inr ⟨(tb hw 40 rfl), rfl, hnm⟩) (tb hw 22 rfl) (ty := (.array .int)) (by decide) rfl rfl d6_12 (pc' := 15) rfl ?_
 intro T h X W
 replace qa := qa.wr W
 replace qg := qg.same W
 replace qc := qc.other W (Or.inr (slot_ne (Or.inr (tb hw 42 rfl)) (Or.inr (tb hw 40 rfl)) (by decide) (t := (.array .int)) (t' := (.array .int)) (by decide) (by decide)))
 replace qd := qd.other W (Or.inr (slot_ne (Or.inr (tb hw 44 rfl)) (Or.inr (tb hw 40 rfl)) (by decide) (t := (.array .int)) (t' := (.array .int)) (by decide) (by decide)))
 replace qe := qe.other W (Or.inr (slot_ne (Or.inr (tb hw 46 rfl)) (Or.inr (tb hw 40 rfl)) (by decide) (t := (.array .long)) (t' := (.array .int)) (by decide) (by decide)))
 replace qh := qh.other W (Or.inr (slot_ne (Or.inr (tb hw 57 rfl)) (Or.inr (tb hw 40 rfl)) (by decide) (t := .int) (t' := (.array .int)) (by decide) (by decide)))
 replace qt := qt.wr W
 replace qb := qb.other W ji
 replace qk := qk.other W jj
 replace qf := qf.wr W
 replace qj := qj.other W (Ne.symm jh)
 replace Z0 := Nat.le_trans Z0 (Nat.le_of_eq W.size.symm)
 replace N := Fr.snoc X.1 N jg
 replace Kp := Kp.wr W (Or.inl (List.mem_of_getElem? (i := 0) rfl))
 refine g_aloadN X d6_15 (pc' := 16) rfl rfl rfl ?_
 refine g_aloadN X d6_16 (pc' := 17) rfl rfl rfl ?_
 refine g_arraylength X qb d6_17 (pc' := 18) rfl (z := (3 : Int32)) rfl ?_
 refine g_newarray X 3 (tb hw 0 rfl) d6_18 (pc' := 20) rfl (by decide) (by decide) 3 (by decide) (by decide) (by decide) (by decide) (vs := [(.int (0 : Int32)), (.int (0 : Int32)), (.int (0 : Int32))]) rfl (ad := "[I") (by decide) ?_
 intro T h qu je X Ex ql qi
 have qq : a0 ≠ qu := Nat.ne_of_lt (by rw [je]; exact qa.lt)
 have jw : a1 ≠ qu := Nat.ne_of_lt (by rw [je]; exact qt.lt)
 have j4 : a2 ≠ qu := Nat.ne_of_lt (by rw [je]; exact qk.lt)
 have jk : q7 ≠ qu := Nat.ne_of_lt (by rw [je]; exact qf.lt)
 have jl : n0 ≤ qu := by rw [je]; exact Z0
 have jm : h0.size ≤ qu := by rw [je]; exact Kp.1
 replace qa := qa.ext Ex
 replace qg := qg.ext Ex
 replace qc := qc.ext Ex
 replace qd := qd.ext Ex
 replace qe := qe.ext Ex
 replace qh := qh.ext Ex
 replace qt := qt.ext Ex
 replace qb := qb.ext Ex
 replace qk := qk.ext Ex
 replace qf := qf.ext Ex
 replace qj := qj.ext Ex
 replace Z0 := Nat.le_trans Z0 Ex.1
 replace Kp := Kp.ext Ex
 refine g_putfield X (host := "") (Or.inl (tb hw 41 rfl)) Via.refl qc qa (Or.inr ⟨(tb hw 42 rfl), rfl, hnm⟩) (tb hw 22 rfl) (ty := (.array .int)) (by decide) rfl rfl d6_20 (pc' := 23) rfl ?_
 intro T h X W
 replace qa := qa.wr W
 replace qg := qg.other W (Or.inr (slot_ne (Or.inr (tb hw 40 rfl)) (Or.inr (tb hw 42 rfl)) (by decide) (t := (.array .int)) (t' := (.array .int)) (by decide) (by decide)))
 replace qc := qc.same W
 replace qd := qd.other W (Or.inr (slot_ne (Or.inr (tb hw 44 rfl)) (Or.inr (tb hw 42 rfl)) (by decide) (t := (.array .int)) (t' := (.array .int)) (by decide) (by decide)))
 replace qe := qe.other W (Or.inr (slot_ne (Or.inr (tb hw 46 rfl)) (Or.inr (tb hw 42 rfl)) (by decide) (t := (.array .long)) (t' := (.array .int)) (by decide) (by decide)))
 replace qh := qh.other W (Or.inr (slot_ne (Or.inr (tb hw 57 rfl)) (Or.inr (tb hw 42 rfl)) (by decide) (t := .int) (t' := (.array .int)) (by decide) (by decide)))
 replace qt := qt.wr W
 replace qb := qb.other W ji
 replace qk := qk.other W jj
 replace qf := qf.wr W
 replace qj := qj.other W (Ne.symm jh)
 replace ql := ql.wr W
 replace qi := qi.other W (Ne.symm qq)
 replace Z0 := Nat.le_trans Z0 (Nat.le_of_eq W.size.symm)
 replace N := Fr.snoc X.1 N jg
 replace Kp := Kp.wr W (Or.inl (List.mem_of_getElem? (i := 0) rfl))
 refine g_aloadN X d6_23 (pc' := 24) rfl rfl rfl ?_
 refine g_aloadN X d6_24 (pc' := 25) rfl rfl rfl ?_
 refine g_arraylength X qb d6_25 (pc' := 26) rfl (z := (3 : Int32)) rfl ?_
 refine g_newarray X 3 (tb hw 0 rfl) d6_26 (pc' := 28) rfl (by decide) (by decide) 3 (by decide) (by decide) (by decide) (by decide) (vs := [(.int (0 : Int32)), (.int (0 : Int32)), (.int (0 : Int32))]) rfl (ad := "[I") (by decide) ?_
 intro T h qv q8 X Ex qo qm
 have qr : a0 ≠ qv := Nat.ne_of_lt (by rw [q8]; exact qa.lt)
 have jx : a1 ≠ qv := Nat.ne_of_lt (by rw [q8]; exact qt.lt)
 have j5 : a2 ≠ qv := Nat.ne_of_lt (by rw [q8]; exact qk.lt)
 have jn : q7 ≠ qv := Nat.ne_of_lt (by rw [q8]; exact qf.lt)
 have q9 : qu ≠ qv := Nat.ne_of_lt (by rw [q8]; exact ql.lt)
 have jo : n0 ≤ qv := by rw [q8]; exact Z0
 have jp : h0.size ≤ qv := by rw [q8]; exact Kp.1
 replace qa := qa.ext Ex
 replace qg := qg.ext Ex
 replace qc := qc.ext Ex
 replace qd := qd.ext Ex
 replace qe := qe.ext Ex
 replace qh := qh.ext Ex
 replace qt := qt.ext Ex
 replace qb := qb.ext Ex
 replace qk := qk.ext Ex
 replace qf := qf.ext Ex
 replace qj := qj.ext Ex
 replace ql := ql.ext Ex
 replace qi := qi.ext Ex
 replace Z0 := Nat.le_trans Z0 Ex.1
 replace Kp := Kp.ext Ex
 refine g_putfield X (host := "") (Or.inl (tb hw 43 rfl)) Via.refl qd qa (Or.inr ⟨(tb hw 44 rfl), rfl, hnm⟩) (tb hw 22 rfl) (ty := (.array .int)) (by decide) rfl rfl d6_28 (pc' := 31) rfl ?_
 intro T h X W
 replace qa := qa.wr W
 replace qg := qg.other W (Or.inr (slot_ne (Or.inr (tb hw 40 rfl)) (Or.inr (tb hw 44 rfl)) (by decide) (t := (.array .int)) (t' := (.array .int)) (by decide) (by decide)))
 replace qc := qc.other W (Or.inr (slot_ne (Or.inr (tb hw 42 rfl)) (Or.inr (tb hw 44 rfl)) (by decide) (t := (.array .int)) (t' := (.array .int)) (by decide) (by decide)))
 replace qd := qd.same W
 replace qe := qe.other W (Or.inr (slot_ne (Or.inr (tb hw 46 rfl)) (Or.inr (tb hw 44 rfl)) (by decide) (t := (.array .long)) (t' := (.array .int)) (by decide) (by decide)))
 replace qh := qh.other W (Or.inr (slot_ne (Or.inr (tb hw 57 rfl)) (Or.inr (tb hw 44 rfl)) (by decide) (t := .int) (t' := (.array .int)) (by decide) (by decide)))
 replace qt := qt.wr W
 replace qb := qb.other W ji
 replace qk := qk.other W jj
 replace qf := qf.wr W
 replace qj := qj.other W (Ne.symm jh)
 replace ql := ql.wr W
 replace qi := qi.other W (Ne.symm qq)
 replace qo := qo.wr W
 replace qm := qm.other W (Ne.symm qr)
 replace Z0 := Nat.le_trans Z0 (Nat.le_of_eq W.size.symm)
 replace N := Fr.snoc X.1 N jg
 replace Kp := Kp.wr W (Or.inl (List.mem_of_getElem? (i := 0) rfl))
 refine g_aloadN X d6_31 (pc' := 32) rfl rfl rfl ?_
 refine g_aloadN X d6_32 (pc' := 33) rfl rfl rfl ?_
 refine g_arraylength X qb d6_33 (pc' := 34) rfl (z := (3 : Int32)) rfl ?_
 refine g_newarray X 3 (tb hw 20 rfl) d6_34 (pc' := 36) rfl (by decide) (by decide) 3 (by decide) (by decide) (by decide) (by decide) (vs := [(.long (0 : Int64)), (.long (0 : Int64)), (.long (0 : Int64))]) rfl (ad := "[J") (by decide) ?_
 intro T h qw qy X Ex qp qn
 have qs : a0 ≠ qw := Nat.ne_of_lt (by rw [qy]; exact qa.lt)
 have jy : a1 ≠ qw := Nat.ne_of_lt (by rw [qy]; exact qt.lt)
 have j6 : a2 ≠ qw := Nat.ne_of_lt (by rw [qy]; exact qk.lt)
 have jq : q7 ≠ qw := Nat.ne_of_lt (by rw [qy]; exact qf.lt)
 have ja : qu ≠ qw := Nat.ne_of_lt (by rw [qy]; exact ql.lt)
 have jb : qv ≠ qw := Nat.ne_of_lt (by rw [qy]; exact qo.lt)
 have jr : n0 ≤ qw := by rw [qy]; exact Z0
 have js : h0.size ≤ qw := by rw [qy]; exact Kp.1
 replace qa := qa.ext Ex
 replace qg := qg.ext Ex
 replace qc := qc.ext Ex
 replace qd := qd.ext Ex
 replace qe := qe.ext Ex
 replace qh := qh.ext Ex
 replace qb := qb.ext Ex
 replace qk := qk.ext Ex
 replace qf := qf.ext Ex
 replace qj := qj.ext Ex
 replace ql := ql.ext Ex
 replace qi := qi.ext Ex
 replace qo := qo.ext Ex
 replace qm := qm.ext Ex
 replace Z0 := Nat.le_trans Z0 Ex.1
 replace Kp := Kp.ext Ex
 refine g_putfield X (host := "") (Or.inl (tb hw 45 rfl)) Via.refl qe qa (Or.inr ⟨(tb hw 46 rfl), rfl, hnm⟩) (tb hw 22 rfl) (ty := (.array .long)) (by decide) rfl rfl d6_36 (pc' := 39) rfl ?_
 intro T h X W
 replace qa := qa.wr W
 replace qg := qg.other W (Or.inr (slot_ne (Or.inr (tb hw 40 rfl)) (Or.inr (tb hw 46 rfl)) (by decide) (t := (.array .int)) (t' := (.array .long)) (by decide) (by decide)))
 replace qc := qc.other W (Or.inr (slot_ne (Or.inr (tb hw 42 rfl)) (Or.inr (tb hw 46 rfl)) (by decide) (t := (.array .int)) (t' := (.array .long)) (by decide) (by decide)))
 replace qd := qd.other W (Or.inr (slot_ne (Or.inr (tb hw 44 rfl)) (Or.inr (tb hw 46 rfl)) (by decide) (t := (.array .int)) (t' := (.array .long)) (by decide) (by decide)))
 replace qe := qe.same W
 replace qh := qh.other W (Or.inr (slot_ne (Or.inr (tb hw 57 rfl)) (Or.inr (tb hw 46 rfl)) (by decide) (t := .int) (t' := (.array .long)) (by decide) (by decide)))
 replace qb := qb.other W ji
 replace qk := qk.other W jj
 replace qf := qf.wr W
 replace qj := qj.other W (Ne.symm jh)
 replace ql := ql.wr W
 replace qi := qi.other W (Ne.symm qq)
 replace qo := qo.wr W
 replace qm := qm.other W (Ne.symm qr)
 replace qp := qp.wr W
 replace qn := qn.other W (Ne.symm qs)
 replace Z0 := Nat.le_trans Z0 (Nat.le_of_eq W.size.symm)
 replace N := Fr.snoc X.1 N jg
 replace Kp := Kp.wr W (Or.inl (List.mem_of_getElem? (i := 0) rfl))
 refine g_iconst X (1 : Int32) d6_39 (pc' := 40) rfl rfl ?_
 refine g_istoreN X d6_40 (pc' := 41) (Ls' := #[.val (.ref a0), .val (.ref a1), .val (.ref a2), .val (.int (1 : Int32)), .unset, .unset, .unset, .unset, .unset]) rfl rfl ?_
 refine g_bipush X (64 : Int32) d6_41 (pc' := 43) rfl rfl ?_
 refine g_istore X d6_43 (pc' := 45) (Ls' := #[.val (.ref a0), .val (.ref a1), .val (.ref a2), .val (.int (1 : Int32)), .val (.int (64 : Int32)), .unset, .unset, .unset, .unset]) rfl rfl ?_
 refine g_iconst X (0 : Int32) d6_45 (pc' := 46) rfl rfl ?_
 refine g_istore X d6_46 (pc' := 48) (Ls' := #[.val (.ref a0), .val (.ref a1), .val (.ref a2), .val (.int (1 : Int32)), .val (.int (64 : Int32)), .val (.int (0 : Int32)), .unset, .unset, .unset]) rfl rfl ?_
 refine g_iload X d6_48 (pc' := 50) rfl rfl ?_
 refine g_aloadN X d6_50 (pc' := 51) rfl rfl rfl ?_
 refine g_arraylength X qb d6_51 (pc' := 52) rfl (z := (3 : Int32)) rfl ?_
 refine g_icN X d6_52 (tlt (show (0 : Int32) < (3 : Int32) from (by decide))).2.1 (pc' := 55) rfl ?_
 refine g_aloadN X d6_55 (pc' := 56) rfl rfl rfl ?_
 refine g_iload X d6_56 (pc' := 58) rfl rfl ?_
 refine g_iaload X qk 0 d6_58 (pc' := 59) rfl (by decide) (by decide) rfl ?_
 refine g_i2l X d6_59 (pc' := 60) rfl ?_
 refine g_aloadN X d6_60 (pc' := 61) rfl rfl rfl ?_
 refine g_iload X d6_61 (pc' := 63) rfl rfl ?_
 refine g_iaload X qb 0 d6_63 (pc' := 64) rfl (by decide) (by decide) rfl ?_
 refine g_i2l X d6_64 (pc' := 65) rfl ?_
 refine g_lsub X d6_65 (pc' := 66) rfl ?_
 generalize jt : ((y0.toInt64) - (l0.toInt64)) = qz
 refine g_lstore X d6_66 (pc' := 68) (Ls' := #[.val (.ref a0), .val (.ref a1), .val (.ref a2), .val (.int (1 : Int32)), .val (.int (64 : Int32)), .val (.int (0 : Int32)), .val (.long qz), .second, .unset]) rfl rfl ?_
 refine g_bipush X (64 : Int32) d6_68 (pc' := 70) rfl rfl ?_
 refine g_lload X d6_70 (pc' := 72) rfl rfl ?_
 refine g_static X (W := 1) [(.long qz)] [(.int (64 : Int32))] (tb hw 47 rfl) (tb hw 48 rfl) (tb hw 49 rfl) (tb hw 50 rfl) (rNL l Z aa hw [] qz _) d6_72 (pc' := 75) rfl (by decide) (by decide) (by decide) rfl rfl rfl (lenOf pd_2 rfl) (Nat.le_refl _) (by decide) (by decide) ?_
 intro v T L X q
 obtain ⟨rfl, X⟩ := pureX X q
 show Go p e below _ (T.setTop (mkF m 75 _ [(.int (fNL qz)), (.int (64 : Int32))]))
 refine g_isub X d6_75 (pc' := 76) rfl ?_
 generalize ju : ((64 : Int32) - (fNL qz)) = jc
 refine g_istore X d6_76 (pc' := 78) (Ls' := #[.val (.ref a0), .val (.ref a1), .val (.ref a2), .val (.int (1 : Int32)), .val (.int (64 : Int32)), .val (.int (0 : Int32)), .val (.long qz), .second, .val (.int jc)]) rfl rfl ?_
 refine g_iload X d6_78 (pc' := 80) rfl rfl ?_
 refine g_iload X d6_80 (pc' := 82) rfl rfl ?_
 refine g_icY X d6_82 (flt (show ¬ ((64 : Int32) < jc) from (by rw [← ju, ← jt]; exact q0))).2.2.2 (pc' := 92) (by decide) (by decide) ?_
 refine g_iload X d6_92 (pc' := 94) rfl rfl ?_
 refine g_iload X d6_94 (pc' := 96) rfl rfl ?_
 refine g_isub X d6_96 (pc' := 97) rfl ?_
 generalize jz : ((64 : Int32) - jc) = qx
 refine g_istore X d6_97 (pc' := 99) (Ls' := #[.val (.ref a0), .val (.ref a1), .val (.ref a2), .val (.int (1 : Int32)), .val (.int qx), .val (.int (0 : Int32)), .val (.long qz), .second, .val (.int jc)]) rfl rfl ?_
 refine g_aloadN X d6_99 (pc' := 100) rfl rfl rfl ?_
 refine g_getfield X (host := "") (Or.inl (tb hw 41 rfl)) Via.refl qc d6_100 (pc' := 103) rfl ?_
 intro T X
 refine g_iload X d6_103 (pc' := 105) rfl rfl ?_
 refine g_iloadN X d6_105 (pc' := 106) rfl rfl ?_
 refine g_iconst X (1 : Int32) d6_106 (pc' := 107) rfl rfl ?_
 refine g_isub X d6_107 (pc' := 108) rfl ?_
 refine Go.lit32 (z := (0 : Int32)) (by decide) ?_
 refine g_iastore X qi 0 d6_108 (pc' := 109) rfl (by decide) (by decide) (Nat.le_of_ble_eq_true rfl) ?_
 intro T h X W qi
 replace qi : Av Z h qu .int [(.int (0 : Int32)), (.int (0 : Int32)), (.int (0 : Int32))] := qi
 replace qa := qa.wr W
 replace qg := qg.other W (Or.inl qq)
 replace qc := qc.other W (Or.inl qq)
 replace qd := qd.other W (Or.inl qq)
 replace qe := qe.other W (Or.inl qq)
 replace qh := qh.other W (Or.inl qq)
 replace qb := qb.other W jw
 replace qk := qk.other W j4
 replace qf := qf.wr W
 replace qj := qj.other W jk
 replace ql := ql.wr W
 replace qo := qo.wr W
 replace qm := qm.other W (Ne.symm q9)
 replace qp := qp.wr W
 replace qn := qn.other W (Ne.symm ja)
 replace Z0 := Nat.le_trans Z0 (Nat.le_of_eq W.size.symm)
 replace N := Fr.snoc X.1 N jl
 replace Kp := Kp.wr W (Or.inr jm)
 refine g_aloadN X d6_109 (pc' := 110) rfl rfl rfl ?_
 refine g_getfield X (host := "") (Or.inl (tb hw 43 rfl)) Via.refl qd d6_110 (pc' := 113) rfl ?_
 intro T X
 refine g_iload X d6_113 (pc' := 115) rfl rfl ?_
 refine g_iload X d6_115 (pc' := 117) rfl rfl ?_
 refine g_iastore X qm 0 d6_117 (pc' := 118) rfl (by decide) (by decide) (Nat.le_of_ble_eq_true rfl) ?_
 intro T h X W qm
 replace qm : Av Z h qv .int [(.int qx), (.int (0 : Int32)), (.int (0 : Int32))] := qm
 replace qa := qa.wr W
 replace qg := qg.other W (Or.inl qr)
 replace qc := qc.other W (Or.inl qr)
 replace qd := qd.other W (Or.inl qr)
 replace qe := qe.other W (Or.inl qr)
 replace qh := qh.other W (Or.inl qr)
 replace qb := qb.other W jx
 replace qk := qk.other W j5
 replace qf := qf.wr W
 replace qj := qj.other W jn
 replace ql := ql.wr W
 replace qi := qi.other W q9
 replace qo := qo.wr W
 replace qp := qp.wr W
 replace qn := qn.other W (Ne.symm jb)
 replace Z0 := Nat.le_trans Z0 (Nat.le_of_eq W.size.symm)
 replace N := Fr.snoc X.1 N jo
 replace Kp := Kp.wr W (Or.inr jp)
 refine g_aloadN X d6_118 (pc' := 119) rfl rfl rfl ?_
 refine g_getfield X (host := "") (Or.inl (tb hw 45 rfl)) Via.refl qe d6_119 (pc' := 122) rfl ?_
 intro T X
 refine g_iload X d6_122 (pc' := 124) rfl rfl ?_
 refine g_lconst X (1 : Int64) d6_124 (pc' := 125) rfl rfl ?_
 refine g_iload X d6_125 (pc' := 127) rfl rfl ?_
 refine g_lshl X d6_127 (pc' := 128) rfl ?_
 refine g_lconst X (1 : Int64) d6_128 (pc' := 129) rfl rfl ?_
 refine g_lsub X d6_129 (pc' := 130) rfl ?_
 generalize wd : (((1 : Int64) <<< (jc &&& 0x3f).toInt64) - (1 : Int64)) = j0
 refine g_lastore X qn 0 d6_130 (pc' := 131) rfl (by decide) (by decide) (Nat.le_of_ble_eq_true rfl) ?_
 intro T h X W qn
 replace qn : Av Z h qw .long [(.long j0), (.long (0 : Int64)), (.long (0 : Int64))] := qn
 replace qa := qa.wr W
 replace qg := qg.other W (Or.inl qs)
 replace qc := qc.other W (Or.inl qs)
 replace qd := qd.other W (Or.inl qs)
 replace qe := qe.other W (Or.inl qs)
 replace qh := qh.other W (Or.inl qs)
 replace qb := qb.other W jy
 replace qk := qk.other W j6
 replace qf := qf.wr W
 replace qj := qj.other W jq
 replace ql := ql.wr W
 replace qi := qi.other W ja
 replace qo := qo.wr W
 replace qm := qm.other W jb
 replace qp := qp.wr W
 replace Z0 := Nat.le_trans Z0 (Nat.le_of_eq W.size.symm)
 replace N := Fr.snoc X.1 N jr
 replace Kp := Kp.wr W (Or.inr js)
 refine g_iinc X d6_131 (pc' := 134) (q := (1 : Int32)) (Ls' := #[.val (.ref a0), .val (.ref a1), .val (.ref a2), .val (.int (1 : Int32)), .val (.int qx), .val (.int (1 : Int32)), .val (.long qz), .second, .val (.int jc)]) rfl rfl rfl rfl ?_
 refine g_goto X d6_134 (pc' := 48) (by decide) (by decide) ?_
 refine g_iload X d6_48 (pc' := 50) rfl rfl ?_
 refine g_aloadN X d6_50 (pc' := 51) rfl rfl rfl ?_
 refine g_arraylength X qb d6_51 (pc' := 52) rfl (z := (3 : Int32)) rfl ?_
 refine g_icN X d6_52 (tlt (show (1 : Int32) < (3 : Int32) from (by decide))).2.1 (pc' := 55) rfl ?_
 refine g_aloadN X d6_55 (pc' := 56) rfl rfl rfl ?_
 refine g_iload X d6_56 (pc' := 58) rfl rfl ?_
 refine g_iaload X qk 1 d6_58 (pc' := 59) rfl (by decide) (by decide) rfl ?_
 refine g_i2l X d6_59 (pc' := 60) rfl ?_
 refine g_aloadN X d6_60 (pc' := 61) rfl rfl rfl ?_
 refine g_iload X d6_61 (pc' := 63) rfl rfl ?_
 refine g_iaload X qb 1 d6_63 (pc' := 64) rfl (by decide) (by decide) rfl ?_
 refine g_i2l X d6_64 (pc' := 65) rfl ?_
 refine g_lsub X d6_65 (pc' := 66) rfl ?_
 generalize j1 : ((y1.toInt64) - (l1.toInt64)) = q4
 refine g_lstore X d6_66 (pc' := 68) (Ls' := #[.val (.ref a0), .val (.ref a1), .val (.ref a2), .val (.int (1 : Int32)), .val (.int qx), .val (.int (1 : Int32)), .val (.long q4), .second, .val (.int jc)]) rfl rfl ?_
 refine g_bipush X (64 : Int32) d6_68 (pc' := 70) rfl rfl ?_
 refine g_lload X d6_70 (pc' := 72) rfl rfl ?_
 refine g_static X (W := 1) [(.long q4)] [(.int (64 : Int32))] (tb hw 47 rfl) (tb hw 48 rfl) (tb hw 49 rfl) (tb hw 50 rfl) (rNL l Z aa hw [] q4 _) d6_72 (pc' := 75) rfl (by decide) (by decide) (by decide) rfl rfl rfl (lenOf pd_2 rfl) (Nat.le_refl _) (by decide) (by decide) ?_
 intro v T L X q
 obtain ⟨rfl, X⟩ := pureX X q
 show Go p e below _ (T.setTop (mkF m 75 _ [(.int (fNL q4)), (.int (64 : Int32))]))
 refine g_isub X d6_75 (pc' := 76) rfl ?_
 generalize j2 : ((64 : Int32) - (fNL q4)) = jd
 refine g_istore X d6_76 (pc' := 78) (Ls' := #[.val (.ref a0), .val (.ref a1), .val (.ref a2), .val (.int (1 : Int32)), .val (.int qx), .val (.int (1 : Int32)), .val (.long q4), .second, .val (.int jd)]) rfl rfl ?_
 refine g_iload X d6_78 (pc' := 80) rfl rfl ?_
 refine g_iload X d6_80 (pc' := 82) rfl rfl ?_
 refine g_icY X d6_82 (flt (show ¬ (qx < jd) from (by rw [← j2, ← j1, ← jz, ← ju, ← jt]; exact q1))).2.2.2 (pc' := 92) (by decide) (by decide) ?_
 refine g_iload X d6_92 (pc' := 94) rfl rfl ?_
 refine g_iload X d6_94 (pc' := 96) rfl rfl ?_
 refine g_isub X d6_96 (pc' := 97) rfl ?_
 generalize j7 : (qx - jd) = q5
 refine g_istore X d6_97 (pc' := 99) (Ls' := #[.val (.ref a0), .val (.ref a1), .val (.ref a2), .val (.int (1 : Int32)), .val (.int q5), .val (.int (1 : Int32)), .val (.long q4), .second, .val (.int jd)]) rfl rfl ?_
 refine g_aloadN X d6_99 (pc' := 100) rfl rfl rfl ?_
 refine g_getfield X (host := "") (Or.inl (tb hw 41 rfl)) Via.refl qc d6_100 (pc' := 103) rfl ?_
 intro T X
 refine g_iload X d6_103 (pc' := 105) rfl rfl ?_
 refine g_iloadN X d6_105 (pc' := 106) rfl rfl ?_
 refine g_iconst X (1 : Int32) d6_106 (pc' := 107) rfl rfl ?_
 refine g_isub X d6_107 (pc' := 108) rfl ?_
 refine Go.lit32 (z := (0 : Int32)) (by decide) ?_
 refine g_iastore X qi 1 d6_108 (pc' := 109) rfl (by decide) (by decide) (Nat.le_of_ble_eq_true rfl) ?_
 intro T h X W qi
 replace qi : Av Z h qu .int [(.int (0 : Int32)), (.int (0 : Int32)), (.int (0 : Int32))] := qi
 replace qa := qa.wr W
 replace qg := qg.other W (Or.inl qq)
 replace qc := qc.other W (Or.inl qq)
 replace qd := qd.other W (Or.inl qq)
 replace qe := qe.other W (Or.inl qq)
 replace qh := qh.other W (Or.inl qq)
 replace qb := qb.other W jw
 replace qk := qk.other W j4
 replace qf := qf.wr W
 replace qj := qj.other W jk
 replace ql := ql.wr W
 replace qo := qo.wr W
 replace qm := qm.other W (Ne.symm q9)
 replace qp := qp.wr W
 replace qn := qn.other W (Ne.symm ja)
 replace Z0 := Nat.le_trans Z0 (Nat.le_of_eq W.size.symm)
 replace N := Fr.snoc X.1 N jl
 replace Kp := Kp.wr W (Or.inr jm)
 refine g_aloadN X d6_109 (pc' := 110) rfl rfl rfl ?_
 refine g_getfield X (host := "") (Or.inl (tb hw 43 rfl)) Via.refl qd d6_110 (pc' := 113) rfl ?_
 intro T X
 refine g_iload X d6_113 (pc' := 115) rfl rfl ?_
 refine g_iload X d6_115 (pc' := 117) rfl rfl ?_
 refine g_iastore X qm 1 d6_117 (pc' := 118) rfl (by decide) (by decide) (Nat.le_of_ble_eq_true rfl) ?_
 intro T h X W qm
 replace qm : Av Z h qv .int [(.int qx), (.int q5), (.int (0 : Int32))] := qm
 replace qa := qa.wr W
 replace qg := qg.other W (Or.inl qr)
 replace qc := qc.other W (Or.inl qr)
 replace qd := qd.other W (Or.inl qr)
 replace qe := qe.other W (Or.inl qr)
 replace qh := qh.other W (Or.inl qr)
 replace qb := qb.other W jx
 replace qk := qk.other W j5
 replace qf := qf.wr W
 replace qj := qj.other W jn
 replace ql := ql.wr W
 replace qi := qi.other W q9
 replace qo := qo.wr W
 replace qp := qp.wr W
 replace qn := qn.other W (Ne.symm jb)
 replace Z0 := Nat.le_trans Z0 (Nat.le_of_eq W.size.symm)
 replace N := Fr.snoc X.1 N jo
 replace Kp := Kp.wr W (Or.inr jp)
 refine g_aloadN X d6_118 (pc' := 119) rfl rfl rfl ?_
 refine g_getfield X (host := "") (Or.inl (tb hw 45 rfl)) Via.refl qe d6_119 (pc' := 122) rfl ?_
 intro T X
 refine g_iload X d6_122 (pc' := 124) rfl rfl ?_
 refine g_lconst X (1 : Int64) d6_124 (pc' := 125) rfl rfl ?_
 refine g_iload X d6_125 (pc' := 127) rfl rfl ?_
 refine g_lshl X d6_127 (pc' := 128) rfl ?_
 refine g_lconst X (1 : Int64) d6_128 (pc' := 129) rfl rfl ?_
 refine g_lsub X d6_129 (pc' := 130) rfl ?_
 generalize we : (((1 : Int64) <<< (jd &&& 0x3f).toInt64) - (1 : Int64)) = j8
 refine g_lastore X qn 1 d6_130 (pc' := 131) rfl (by decide) (by decide) (Nat.le_of_ble_eq_true rfl) ?_
 intro T h X W qn
 replace qn : Av Z h qw .long [(.long j0), (.long j8), (.long (0 : Int64))] := qn
 replace qa := qa.wr W
 replace qg := qg.other W (Or.inl qs)
 replace qc := qc.other W (Or.inl qs)
 replace qd := qd.other W (Or.inl qs)
 replace qe := qe.other W (Or.inl qs)
 replace qh := qh.other W (Or.inl qs)
 replace qb := qb.other W jy
 replace qk := qk.other W j6
 replace qf := qf.wr W
 replace qj := qj.other W jq
 replace ql := ql.wr W
 replace qi := qi.other W ja
 replace qo := qo.wr W
 replace qm := qm.other W jb
 replace qp := qp.wr W
 replace Z0 := Nat.le_trans Z0 (Nat.le_of_eq W.size.symm)
 replace N := Fr.snoc X.1 N jr
 replace Kp := Kp.wr W (Or.inr js)
 refine g_iinc X d6_131 (pc' := 134) (q := (1 : Int32)) (Ls' := #[.val (.ref a0), .val (.ref a1), .val (.ref a2), .val (.int (1 : Int32)), .val (.int q5), .val (.int (2 : Int32)), .val (.long q4), .second, .val (.int jd)]) rfl rfl rfl rfl ?_
 refine g_goto X d6_134 (pc' := 48) (by decide) (by decide) ?_
 refine g_iload X d6_48 (pc' := 50) rfl rfl ?_
 refine g_aloadN X d6_50 (pc' := 51) rfl rfl rfl ?_
 refine g_arraylength X qb d6_51 (pc' := 52) rfl (z := (3 : Int32)) rfl ?_
 refine g_icN X d6_52 (tlt (show (2 : Int32) < (3 : Int32) from (by decide))).2.1 (pc' := 55) rfl ?_
 refine g_aloadN X d6_55 (pc' := 56) rfl rfl rfl ?_
 refine g_iload X d6_56 (pc' := 58) rfl rfl ?_
 refine g_iaload X qk 2 d6_58 (pc' := 59) rfl (by decide) (by decide) rfl ?_
 refine g_i2l X d6_59 (pc' := 60) rfl ?_
 refine g_aloadN X d6_60 (pc' := 61) rfl rfl rfl ?_
 refine g_iload X d6_61 (pc' := 63) rfl rfl ?_
 refine g_iaload X qb 2 d6_63 (pc' := 64) rfl (by decide) (by decide) rfl ?_
 refine g_i2l X d6_64 (pc' := 65) rfl ?_
 refine g_lsub X d6_65 (pc' := 66) rfl ?_
 generalize j9 : ((y2.toInt64) - (l2.toInt64)) = q6
 refine g_lstore X d6_66 (pc' := 68) (Ls' := #[.val (.ref a0), .val (.ref a1), .val (.ref a2), .val (.int (1 : Int32)), .val (.int q5), .val (.int (2 : Int32)), .val (.long q6), .second, .val (.int jd)]) rfl rfl ?_
 refine g_bipush X (64 : Int32) d6_68 (pc' := 70) rfl rfl ?_
 refine g_lload X d6_70 (pc' := 72) rfl rfl ?_
 refine g_static X (W := 1) [(.long q6)] [(.int (64 : Int32))] (tb hw 47 rfl) (tb hw 48 rfl) (tb hw 49 rfl) (tb hw 50 rfl) (rNL l Z aa hw [] q6 _) d6_72 (pc' := 75) rfl (by decide) (by decide) (by decide) rfl rfl rfl (lenOf pd_2 rfl) (Nat.le_refl _) (by decide) (by decide) ?_
 intro v T L X q
 obtain ⟨rfl, X⟩ := pureX X q
 show Go p e below _ (T.setTop (mkF m 75 _ [(.int (fNL q6)), (.int (64 : Int32))]))
 refine g_isub X d6_75 (pc' := 76) rfl ?_
 generalize wa : ((64 : Int32) - (fNL q6)) = jf
 refine g_istore X d6_76 (pc' := 78) (Ls' := #[.val (.ref a0), .val (.ref a1), .val (.ref a2), .val (.int (1 : Int32)), .val (.int q5), .val (.int (2 : Int32)), .val (.long q6), .second, .val (.int jf)]) rfl rfl ?_
 refine g_iload X d6_78 (pc' := 80) rfl rfl ?_
 refine g_iload X d6_80 (pc' := 82) rfl rfl ?_
 refine g_icY X d6_82 (flt (show ¬ (q5 < jf) from (by rw [← wa, ← j9, ← j7, ← j2, ← j1, ← jz, ← ju, ← jt]; exact q2))).2.2.2 (pc' := 92) (by decide) (by decide) ?_
 refine g_iload X d6_92 (pc' := 94) rfl rfl ?_
 refine g_iload X d6_94 (pc' := 96) rfl rfl ?_
 refine g_isub X d6_96 (pc' := 97) rfl ?_
 generalize wf : (q5 - jf) = j3
 refine g_istore X d6_97 (pc' := 99) (Ls' := #[.val (.ref a0), .val (.ref a1), .val (.ref a2), .val (.int (1 : Int32)), .val (.int j3), .val (.int (2 : Int32)), .val (.long q6), .second, .val (.int jf)]) rfl rfl ?_
 refine g_aloadN X d6_99 (pc' := 100) rfl rfl rfl ?_
 refine g_getfield X (host := "") (Or.inl (tb hw 41 rfl)) Via.refl qc d6_100 (pc' := 103) rfl ?_
 intro T X
 refine g_iload X d6_103 (pc' := 105) rfl rfl ?_
 refine g_iloadN X d6_105 (pc' := 106) rfl rfl ?_
 refine g_iconst X (1 : Int32) d6_106 (pc' := 107) rfl rfl ?_
 refine g_isub X d6_107 (pc' := 108) rfl ?_
 refine Go.lit32 (z := (0 : Int32)) (by decide) ?_
 refine g_iastore X qi 2 d6_108 (pc' := 109) rfl (by decide) (by decide) (Nat.le_of_ble_eq_true rfl) ?_
 intro T h X W qi
 replace qi : Av Z h qu .int [(.int (0 : Int32)), (.int (0 : Int32)), (.int (0 : Int32))] := qi
 replace qa := qa.wr W
 replace qg := qg.other W (Or.inl qq)
 replace qc := qc.other W (Or.inl qq)
 replace qd := qd.other W (Or.inl qq)
 replace qe := qe.other W (Or.inl qq)
 replace qh := qh.other W (Or.inl qq)
 replace qb := qb.other W jw
 replace qf := qf.wr W
 replace qj := qj.other W jk
 replace ql := ql.wr W
 replace qo := qo.wr W
 replace qm := qm.other W (Ne.symm q9)
 replace qp := qp.wr W
 replace qn := qn.other W (Ne.symm ja)
 replace Z0 := Nat.le_trans Z0 (Nat.le_of_eq W.size.symm)
 replace N := Fr.snoc X.1 N jl
 replace Kp := Kp.wr W (Or.inr jm)
 refine g_aloadN X d6_109 (pc' := 110) rfl rfl rfl ?_
 refine g_getfield X (host := "") (Or.inl (tb hw 43 rfl)) Via.refl qd d6_110 (pc' := 113) rfl ?_
 intro T X
 refine g_iload X d6_113 (pc' := 115) rfl rfl ?_
 refine g_iload X d6_115 (pc' := 117) rfl rfl ?_
 refine g_iastore X qm 2 d6_117 (pc' := 118) rfl (by decide) (by decide) (Nat.le_of_ble_eq_true rfl) ?_
 intro T h X W qm
 replace qm : Av Z h qv .int [(.int qx), (.int q5), (.int j3)] := qm
 replace qa := qa.wr W
 replace qg := qg.other W (Or.inl qr)
 replace qc := qc.other W (Or.inl qr)
 replace qd := qd.other W (Or.inl qr)
 replace qe := qe.other W (Or.inl qr)
 replace qh := qh.other W (Or.inl qr)
 replace qb := qb.other W jx
 replace qf := qf.wr W
 replace qj := qj.other W jn
 replace ql := ql.wr W
 replace qi := qi.other W q9
 replace qo := qo.wr W
 replace qp := qp.wr W
 replace qn := qn.other W (Ne.symm jb)
 replace Z0 := Nat.le_trans Z0 (Nat.le_of_eq W.size.symm)
 replace N := Fr.snoc X.1 N jo
 replace Kp := Kp.wr W (Or.inr jp)
 refine g_aloadN X d6_118 (pc' := 119) rfl rfl rfl ?_
 refine g_getfield X (host := "") (Or.inl (tb hw 45 rfl)) Via.refl qe d6_119 (pc' := 122) rfl ?_
 intro T X
 refine g_iload X d6_122 (pc' := 124) rfl rfl ?_
 refine g_lconst X (1 : Int64) d6_124 (pc' := 125) rfl rfl ?_
 refine g_iload X d6_125 (pc' := 127) rfl rfl ?_
 refine g_lshl X d6_127 (pc' := 128) rfl ?_
 refine g_lconst X (1 : Int64) d6_128 (pc' := 129) rfl rfl ?_
 refine g_lsub X d6_129 (pc' := 130) rfl ?_
 generalize wg : (((1 : Int64) <<< (jf &&& 0x3f).toInt64) - (1 : Int64)) = wh
 refine g_lastore X qn 2 d6_130 (pc' := 131) rfl (by decide) (by decide) (Nat.le_of_ble_eq_true rfl) ?_
 intro T h X W qn
 replace qn : Av Z h qw .long [(.long j0), (.long j8), (.long wh)] := qn
 replace qa := qa.wr W
 replace qg := qg.other W (Or.inl qs)
 replace qc := qc.other W (Or.inl qs)
 replace qd := qd.other W (Or.inl qs)
 replace qe := qe.other W (Or.inl qs)
 replace qh := qh.other W (Or.inl qs)
 replace qb := qb.other W jy
 replace qf := qf.wr W
 replace qj := qj.other W jq
 replace ql := ql.wr W
 replace qi := qi.other W ja
 replace qo := qo.wr W
 replace qm := qm.other W jb
 replace qp := qp.wr W
 replace Z0 := Nat.le_trans Z0 (Nat.le_of_eq W.size.symm)
 replace N := Fr.snoc X.1 N jr
 replace Kp := Kp.wr W (Or.inr js)
 refine g_iinc X d6_131 (pc' := 134) (q := (1 : Int32)) (Ls' := #[.val (.ref a0), .val (.ref a1), .val (.ref a2), .val (.int (1 : Int32)), .val (.int j3), .val (.int (3 : Int32)), .val (.long q6), .second, .val (.int jf)]) rfl rfl rfl rfl ?_
 refine g_goto X d6_134 (pc' := 48) (by decide) (by decide) ?_
 refine g_iload X d6_48 (pc' := 50) rfl rfl ?_
 refine g_aloadN X d6_50 (pc' := 51) rfl rfl rfl ?_
 refine g_arraylength X qb d6_51 (pc' := 52) rfl (z := (3 : Int32)) rfl ?_
 refine g_icY X d6_52 (flt (show ¬ ((3 : Int32) < (3 : Int32)) from (by decide))).2.1 (pc' := 137) (by decide) (by decide) ?_
 refine g_aloadN X d6_137 (pc' := 138) rfl rfl rfl ?_
 refine g_iloadN X d6_138 (pc' := 139) rfl rfl ?_
 refine g_putfield X (host := "") (Or.inl (tb hw 56 rfl)) Via.refl qh qa (Or.inr ⟨(tb hw 57 rfl), rfl, hnm⟩) (tb hw 22 rfl) (ty := .int) (by decide) rfl rfl d6_139 (pc' := 142) rfl ?_
 intro T h X W
 replace qa := qa.wr W
 replace qg := qg.other W (Or.inr (slot_ne (Or.inr (tb hw 40 rfl)) (Or.inr (tb hw 57 rfl)) (by decide) (t := (.array .int)) (t' := .int) (by decide) (by decide)))
 replace qc := qc.other W (Or.inr (slot_ne (Or.inr (tb hw 42 rfl)) (Or.inr (tb hw 57 rfl)) (by decide) (t := (.array .int)) (t' := .int) (by decide) (by decide)))
 replace qd := qd.other W (Or.inr (slot_ne (Or.inr (tb hw 44 rfl)) (Or.inr (tb hw 57 rfl)) (by decide) (t := (.array .int)) (t' := .int) (by decide) (by decide)))
 replace qe := qe.other W (Or.inr (slot_ne (Or.inr (tb hw 46 rfl)) (Or.inr (tb hw 57 rfl)) (by decide) (t := (.array .long)) (t' := .int) (by decide) (by decide)))
 replace qh := qh.same W
 replace qf := qf.wr W
 replace qj := qj.other W (Ne.symm jh)
 replace ql := ql.wr W
 replace qi := qi.other W (Ne.symm qq)
 replace qo := qo.wr W
 replace qm := qm.other W (Ne.symm qr)
 replace qp := qp.wr W
 replace qn := qn.other W (Ne.symm qs)
 replace Z0 := Nat.le_trans Z0 (Nat.le_of_eq W.size.symm)
 replace N := Fr.snoc X.1 N jg
 replace Kp := Kp.wr W (Or.inl (List.mem_of_getElem? (i := 0) rfl))
 refine g_return X d6_142 hret hlk (by decide) (by decide) ?_
 subst jt ju jz wd j1 j2 j7 we j9 wa wf wg
 exact ⟨q7, qu, qv, qw, rfl, N, Kp, wc, wb, jm, jl, jp, jo, js, jr, jk, jn, jq, q9, ja, jb, qa, qg, qc, qd, qe, qh, qf, qj, ql, qi, qo, qm, qp, qn⟩
theorem d6_85 : decode prog_58_method_1_code 85 = .ok (.iinc 3 1, 3) := by decide +kernel
theorem d6_88 : decode prog_58_method_1_code 88 = .ok (.bipush 64, 2) := by decide +kernel
theorem d6_90 : decode prog_58_method_1_code 90 = .ok (.istore 4, 2) := by decide +kernel
theorem ef_rInit1 (m : MethodId) (x0 : Addr) (x1 : Addr) (x2 : Addr) : entryFrame m #[(.ref x0), (.ref x1), (.ref x2)] 9 = mkF m 0 #[.val (.ref x0), .val (.ref x1), .val (.ref x2), .unset, .unset, .unset, .unset, .unset, .unset] [] := by first | (simp [entryFrame, mkF, argsToLocals, Value.category]; done) | rfl
set_option maxRecDepth 65536 in
set_option maxHeartbeats 40000000 in
theorem rInit1 (l : Launch) (Z : State) (aa : Array Value) (hw : ∀ d ∈ tables_1, d.before aa Z = true) (ws : List Jvm.Cond) (a0 : Addr) (a1 : Addr) (a2 : Addr) (l0 : Int32) (l1 : Int32) (l2 : Int32) (y0 : Int32) (y1 : Int32) (y2 : Int32) (h0 : Heap) (n0 : Nat) (Z0 : n0 ≤ h0.size) (qa : Exa Z h0 a0 "com/example/ryazan/ryazan/language/Layout") (qg : Fld Z h0 a0 "com/example/ryazan/ryazan/language/Layout" "low" "[I" .null) (qc : Fld Z h0 a0 "com/example/ryazan/ryazan/language/Layout" "word" "[I" .null) (qd : Fld Z h0 a0 "com/example/ryazan/ryazan/language/Layout" "shift" "[I" .null) (qe : Fld Z h0 a0 "com/example/ryazan/ryazan/language/Layout" "mask" "[J" .null) (qh : Fld Z h0 a0 "com/example/ryazan/ryazan/language/Layout" "width" "I" (.int (0 : Int32))) (qt : Exa Z h0 a1 "[I") (qb : Av Z h0 a1 .int [(.int l0), (.int l1), (.int l2)]) (qk : Av Z h0 a2 .int [(.int y0), (.int y1), (.int y2)]) (jg : n0 ≤ a0) (ji : a1 ≠ a0) (jj : a2 ≠ a0) (q0 : ¬ (64 : Int32) < bt l0 y0) (q1 : ¬ ((64 : Int32) - bt l0 y0) < bt l1 y1) (q2 : ((64 : Int32) - bt l0 y0 - bt l1 y1) < bt l2 y2) :
    Rm l Z (⟨"com/example/ryazan/ryazan/language/Layout", "<init>", "([I[I)V"⟩ : MethodName) prog_58_method_1_code 9 none ws ({ frames := 2, cells := 4, slots := 12, locals := 29 } : Room) #[(.ref a0), (.ref a1), (.ref a2)] h0 (fun v h L => ∃ q0 q1 q2 q3 : Addr, v = none ∧ Fr n0 L ∧ Keep h0 h [a0] ∧ h0.size ≤ q0 ∧ n0 ≤ q0 ∧ h0.size ≤ q1 ∧ n0 ≤ q1 ∧ h0.size ≤ q2 ∧ n0 ≤ q2 ∧ h0.size ≤ q3 ∧ n0 ≤ q3 ∧ q0 ≠ q1 ∧ q0 ≠ q2 ∧ q0 ≠ q3 ∧ q1 ≠ q2 ∧ q1 ≠ q3 ∧ q2 ≠ q3 ∧ Exa Z h a0 "com/example/ryazan/ryazan/language/Layout" ∧ Fld Z h a0 "com/example/ryazan/ryazan/language/Layout" "low" "[I" (.ref q0) ∧ Fld Z h a0 "com/example/ryazan/ryazan/language/Layout" "word" "[I" (.ref q1) ∧ Fld Z h a0 "com/example/ryazan/ryazan/language/Layout" "shift" "[I" (.ref q2) ∧ Fld Z h a0 "com/example/ryazan/ryazan/language/Layout" "mask" "[J" (.ref q3) ∧ Fld Z h a0 "com/example/ryazan/ryazan/language/Layout" "width" "I" (.int (2 : Int32)) ∧ Exa Z h q0 "[I" ∧ Av Z h q0 .int [(.int l0), (.int l1), (.int l2)] ∧ Exa Z h q1 "[I" ∧ Av Z h q1 .int [(.int (0 : Int32)), (.int (0 : Int32)), (.int (1 : Int32))] ∧ Exa Z h q2 "[I" ∧ Av Z h q2 .int [(.int ((64 : Int32) - ((64 : Int32) - (fNL ((y0.toInt64) - (l0.toInt64)))))), (.int (((64 : Int32) - ((64 : Int32) - (fNL ((y0.toInt64) - (l0.toInt64))))) - ((64 : Int32) - (fNL ((y1.toInt64) - (l1.toInt64)))))), (.int ((64 : Int32) - ((64 : Int32) - (fNL ((y2.toInt64) - (l2.toInt64))))))] ∧ Exa Z h q3 "[J" ∧ Av Z h q3 .long [(.long (((1 : Int64) <<< (((64 : Int32) - (fNL ((y0.toInt64) - (l0.toInt64)))) &&& 0x3f).toInt64) - (1 : Int64))), (.long (((1 : Int64) <<< (((64 : Int32) - (fNL ((y1.toInt64) - (l1.toInt64)))) &&& 0x3f).toInt64) - (1 : Int64))), (.long (((1 : Int64) <<< (((64 : Int32) - (fNL ((y2.toInt64) - (l2.toInt64)))) &&& 0x3f).toInt64) - (1 : Int64)))]) := by
 refine Rm.of (plainFor_of_name pn_3) ?_
 intro p e s m below meth cc T X hnm hret hlk
 refine Go.at_ (ef_rInit1 m a0 a1 a2) ?_
 have N := Fr.nil n0
 have Kp := Keep.refl h0 [a0]
 refine g_aloadN X d6_0 (pc' := 1) rfl rfl rfl ?_
 refine g_initO X (W := 0) (tb hw 27 rfl) (tb hw 28 rfl) (tb hw 29 rfl) d6_1 (pc' := 4) rfl rfl (by decide) (Nat.le_refl _) (by decide) ?_
 intro T X
 refine g_aloadN X d6_4 (pc' := 5) rfl rfl rfl ?_
 refine g_aloadN X d6_5 (pc' := 6) rfl rfl rfl ?_
 refine g_clone X (W := 1) (tb hw 30 rfl) (tb hw 31 rfl) (tb hw 35 rfl) (tb hw 33 rfl) (tb hw 34 rfl) (tb hw 36 rfl) qb qt (fitS rfl (fitS rfl (fitS rfl fit0))) d6_6 (pc' := 9) rfl rfl (by decide) (Nat.le_refl _) (by decide) 3 (Nat.le_of_ble_eq_true rfl) (by decide) (by decide) ?_
 intro T h q8 jv X Ex qf qj
 have jh : a0 ≠ q8 := Nat.ne_of_lt (by rw [jv]; exact qa.lt)
 have wb : n0 ≤ q8 := by rw [jv]; exact Z0
 have wc : h0.size ≤ q8 := by rw [jv]; exact Kp.1
 replace qa := qa.ext Ex
 replace qg := qg.ext Ex
 replace qc := qc.ext Ex
 replace qd := qd.ext Ex
 replace qe := qe.ext Ex
 replace qh := qh.ext Ex
 replace qt := qt.ext Ex
 replace qb := qb.ext Ex
 replace qk := qk.ext Ex
 replace Z0 := Nat.le_trans Z0 Ex.1
 replace Kp := Kp.ext Ex
 refine g_checkcast X (tb hw 37 rfl) (Ins.self qf) d6_9 (pc' := 12) rfl ?_
 intro T X
 refine g_putfield X (host := "") (Or.inl (tb hw 39 rfl)) Via.refl qg qa (Or.inr ⟨(tb hw 40 rfl), rfl, hnm⟩) (tb hw 22 rfl) (ty := (.array .int)) (by decide) rfl rfl d6_12 (pc' := 15) rfl ?_
 intro T h X W
 replace qa := qa.wr W
 replace qg := qg.same W
 replace qc := qc.other W (Or.inr (slot_ne (Or.inr (tb hw 42 rfl)) (Or.inr (tb hw 40 rfl)) (by decide) (t := (.array .int)) (t' := (.array .int)) (by decide) (by decide)))
 replace qd := qd.other W (Or.inr (slot_ne (Or.inr (tb hw 44 rfl)) (Or.inr (tb hw 40 rfl)) (by decide) (t := (.array .int)) (t' := (.array .int)) (by decide) (by decide)))
 replace qe := qe.other W (Or.inr (slot_ne (Or.inr (tb hw 46 rfl)) (Or.inr (tb hw 40 rfl)) (by decide) (t := (.array .long)) (t' := (.array .int)) (by decide) (by decide)))
 replace qh := qh.other W (Or.inr (slot_ne (Or.inr (tb hw 57 rfl)) (Or.inr (tb hw 40 rfl)) (by decide) (t := .int) (t' := (.array .int)) (by decide) (by decide)))
 replace qt := qt.wr W
 replace qb := qb.other W ji
 replace qk := qk.other W jj
 replace qf := qf.wr W
 replace qj := qj.other W (Ne.symm jh)
 replace Z0 := Nat.le_trans Z0 (Nat.le_of_eq W.size.symm)
 replace N := Fr.snoc X.1 N jg
 replace Kp := Kp.wr W (Or.inl (List.mem_of_getElem? (i := 0) rfl))
 refine g_aloadN X d6_15 (pc' := 16) rfl rfl rfl ?_
 refine g_aloadN X d6_16 (pc' := 17) rfl rfl rfl ?_
 refine g_arraylength X qb d6_17 (pc' := 18) rfl (z := (3 : Int32)) rfl ?_
 refine g_newarray X 3 (tb hw 0 rfl) d6_18 (pc' := 20) rfl (by decide) (by decide) 3 (by decide) (by decide) (by decide) (by decide) (vs := [(.int (0 : Int32)), (.int (0 : Int32)), (.int (0 : Int32))]) rfl (ad := "[I") (by decide) ?_
 intro T h qu jf X Ex ql qi
 have qq : a0 ≠ qu := Nat.ne_of_lt (by rw [jf]; exact qa.lt)
 have jw : a1 ≠ qu := Nat.ne_of_lt (by rw [jf]; exact qt.lt)
 have j4 : a2 ≠ qu := Nat.ne_of_lt (by rw [jf]; exact qk.lt)
 have jk : q8 ≠ qu := Nat.ne_of_lt (by rw [jf]; exact qf.lt)
 have jl : n0 ≤ qu := by rw [jf]; exact Z0
 have jm : h0.size ≤ qu := by rw [jf]; exact Kp.1
 replace qa := qa.ext Ex
 replace qg := qg.ext Ex
 replace qc := qc.ext Ex
 replace qd := qd.ext Ex
 replace qe := qe.ext Ex
 replace qh := qh.ext Ex
 replace qt := qt.ext Ex
 replace qb := qb.ext Ex
 replace qk := qk.ext Ex
 replace qf := qf.ext Ex
 replace qj := qj.ext Ex
 replace Z0 := Nat.le_trans Z0 Ex.1
 replace Kp := Kp.ext Ex
 refine g_putfield X (host := "") (Or.inl (tb hw 41 rfl)) Via.refl qc qa (Or.inr ⟨(tb hw 42 rfl), rfl, hnm⟩) (tb hw 22 rfl) (ty := (.array .int)) (by decide) rfl rfl d6_20 (pc' := 23) rfl ?_
 intro T h X W
 replace qa := qa.wr W
 replace qg := qg.other W (Or.inr (slot_ne (Or.inr (tb hw 40 rfl)) (Or.inr (tb hw 42 rfl)) (by decide) (t := (.array .int)) (t' := (.array .int)) (by decide) (by decide)))
 replace qc := qc.same W
 replace qd := qd.other W (Or.inr (slot_ne (Or.inr (tb hw 44 rfl)) (Or.inr (tb hw 42 rfl)) (by decide) (t := (.array .int)) (t' := (.array .int)) (by decide) (by decide)))
 replace qe := qe.other W (Or.inr (slot_ne (Or.inr (tb hw 46 rfl)) (Or.inr (tb hw 42 rfl)) (by decide) (t := (.array .long)) (t' := (.array .int)) (by decide) (by decide)))
 replace qh := qh.other W (Or.inr (slot_ne (Or.inr (tb hw 57 rfl)) (Or.inr (tb hw 42 rfl)) (by decide) (t := .int) (t' := (.array .int)) (by decide) (by decide)))
 replace qt := qt.wr W
 replace qb := qb.other W ji
 replace qk := qk.other W jj
 replace qf := qf.wr W
 replace qj := qj.other W (Ne.symm jh)
 replace ql := ql.wr W
 replace qi := qi.other W (Ne.symm qq)
 replace Z0 := Nat.le_trans Z0 (Nat.le_of_eq W.size.symm)
 replace N := Fr.snoc X.1 N jg
 replace Kp := Kp.wr W (Or.inl (List.mem_of_getElem? (i := 0) rfl))
 refine g_aloadN X d6_23 (pc' := 24) rfl rfl rfl ?_
 refine g_aloadN X d6_24 (pc' := 25) rfl rfl rfl ?_
 refine g_arraylength X qb d6_25 (pc' := 26) rfl (z := (3 : Int32)) rfl ?_
 refine g_newarray X 3 (tb hw 0 rfl) d6_26 (pc' := 28) rfl (by decide) (by decide) 3 (by decide) (by decide) (by decide) (by decide) (vs := [(.int (0 : Int32)), (.int (0 : Int32)), (.int (0 : Int32))]) rfl (ad := "[I") (by decide) ?_
 intro T h qv q9 X Ex qo qm
 have qr : a0 ≠ qv := Nat.ne_of_lt (by rw [q9]; exact qa.lt)
 have jx : a1 ≠ qv := Nat.ne_of_lt (by rw [q9]; exact qt.lt)
 have j5 : a2 ≠ qv := Nat.ne_of_lt (by rw [q9]; exact qk.lt)
 have jn : q8 ≠ qv := Nat.ne_of_lt (by rw [q9]; exact qf.lt)
 have ja : qu ≠ qv := Nat.ne_of_lt (by rw [q9]; exact ql.lt)
 have jo : n0 ≤ qv := by rw [q9]; exact Z0
 have jp : h0.size ≤ qv := by rw [q9]; exact Kp.1
 replace qa := qa.ext Ex
 replace qg := qg.ext Ex
 replace qc := qc.ext Ex
 replace qd := qd.ext Ex
 replace qe := qe.ext Ex
 replace qh := qh.ext Ex
 replace qt := qt.ext Ex
 replace qb := qb.ext Ex
 replace qk := qk.ext Ex
 replace qf := qf.ext Ex
 replace qj := qj.ext Ex
 replace ql := ql.ext Ex
 replace qi := qi.ext Ex
 replace Z0 := Nat.le_trans Z0 Ex.1
 replace Kp := Kp.ext Ex
 refine g_putfield X (host := "") (Or.inl (tb hw 43 rfl)) Via.refl qd qa (Or.inr ⟨(tb hw 44 rfl), rfl, hnm⟩) (tb hw 22 rfl) (ty := (.array .int)) (by decide) rfl rfl d6_28 (pc' := 31) rfl ?_
 intro T h X W
 replace qa := qa.wr W
 replace qg := qg.other W (Or.inr (slot_ne (Or.inr (tb hw 40 rfl)) (Or.inr (tb hw 44 rfl)) (by decide) (t := (.array .int)) (t' := (.array .int)) (by decide) (by decide)))
 replace qc := qc.other W (Or.inr (slot_ne (Or.inr (tb hw 42 rfl)) (Or.inr (tb hw 44 rfl)) (by decide) (t := (.array .int)) (t' := (.array .int)) (by decide) (by decide)))
 replace qd := qd.same W
 replace qe := qe.other W (Or.inr (slot_ne (Or.inr (tb hw 46 rfl)) (Or.inr (tb hw 44 rfl)) (by decide) (t := (.array .long)) (t' := (.array .int)) (by decide) (by decide)))
 replace qh := qh.other W (Or.inr (slot_ne (Or.inr (tb hw 57 rfl)) (Or.inr (tb hw 44 rfl)) (by decide) (t := .int) (t' := (.array .int)) (by decide) (by decide)))
 replace qt := qt.wr W
 replace qb := qb.other W ji
 replace qk := qk.other W jj
 replace qf := qf.wr W
 replace qj := qj.other W (Ne.symm jh)
 replace ql := ql.wr W
 replace qi := qi.other W (Ne.symm qq)
 replace qo := qo.wr W
 replace qm := qm.other W (Ne.symm qr)
 replace Z0 := Nat.le_trans Z0 (Nat.le_of_eq W.size.symm)
 replace N := Fr.snoc X.1 N jg
 replace Kp := Kp.wr W (Or.inl (List.mem_of_getElem? (i := 0) rfl))
 refine g_aloadN X d6_31 (pc' := 32) rfl rfl rfl ?_
 refine g_aloadN X d6_32 (pc' := 33) rfl rfl rfl ?_
 refine g_arraylength X qb d6_33 (pc' := 34) rfl (z := (3 : Int32)) rfl ?_
 refine g_newarray X 3 (tb hw 20 rfl) d6_34 (pc' := 36) rfl (by decide) (by decide) 3 (by decide) (by decide) (by decide) (by decide) (vs := [(.long (0 : Int64)), (.long (0 : Int64)), (.long (0 : Int64))]) rfl (ad := "[J") (by decide) ?_
 intro T h qw qz X Ex qp qn
 have qs : a0 ≠ qw := Nat.ne_of_lt (by rw [qz]; exact qa.lt)
 have jy : a1 ≠ qw := Nat.ne_of_lt (by rw [qz]; exact qt.lt)
 have j6 : a2 ≠ qw := Nat.ne_of_lt (by rw [qz]; exact qk.lt)
 have jq : q8 ≠ qw := Nat.ne_of_lt (by rw [qz]; exact qf.lt)
 have jb : qu ≠ qw := Nat.ne_of_lt (by rw [qz]; exact ql.lt)
 have jc : qv ≠ qw := Nat.ne_of_lt (by rw [qz]; exact qo.lt)
 have jr : n0 ≤ qw := by rw [qz]; exact Z0
 have js : h0.size ≤ qw := by rw [qz]; exact Kp.1
 replace qa := qa.ext Ex
 replace qg := qg.ext Ex
 replace qc := qc.ext Ex
 replace qd := qd.ext Ex
 replace qe := qe.ext Ex
 replace qh := qh.ext Ex
 replace qb := qb.ext Ex
 replace qk := qk.ext Ex
 replace qf := qf.ext Ex
 replace qj := qj.ext Ex
 replace ql := ql.ext Ex
 replace qi := qi.ext Ex
 replace qo := qo.ext Ex
 replace qm := qm.ext Ex
 replace Z0 := Nat.le_trans Z0 Ex.1
 replace Kp := Kp.ext Ex
 refine g_putfield X (host := "") (Or.inl (tb hw 45 rfl)) Via.refl qe qa (Or.inr ⟨(tb hw 46 rfl), rfl, hnm⟩) (tb hw 22 rfl) (ty := (.array .long)) (by decide) rfl rfl d6_36 (pc' := 39) rfl ?_
 intro T h X W
 replace qa := qa.wr W
 replace qg := qg.other W (Or.inr (slot_ne (Or.inr (tb hw 40 rfl)) (Or.inr (tb hw 46 rfl)) (by decide) (t := (.array .int)) (t' := (.array .long)) (by decide) (by decide)))
 replace qc := qc.other W (Or.inr (slot_ne (Or.inr (tb hw 42 rfl)) (Or.inr (tb hw 46 rfl)) (by decide) (t := (.array .int)) (t' := (.array .long)) (by decide) (by decide)))
 replace qd := qd.other W (Or.inr (slot_ne (Or.inr (tb hw 44 rfl)) (Or.inr (tb hw 46 rfl)) (by decide) (t := (.array .int)) (t' := (.array .long)) (by decide) (by decide)))
 replace qe := qe.same W
 replace qh := qh.other W (Or.inr (slot_ne (Or.inr (tb hw 57 rfl)) (Or.inr (tb hw 46 rfl)) (by decide) (t := .int) (t' := (.array .long)) (by decide) (by decide)))
 replace qb := qb.other W ji
 replace qk := qk.other W jj
 replace qf := qf.wr W
 replace qj := qj.other W (Ne.symm jh)
 replace ql := ql.wr W
 replace qi := qi.other W (Ne.symm qq)
 replace qo := qo.wr W
 replace qm := qm.other W (Ne.symm qr)
 replace qp := qp.wr W
 replace qn := qn.other W (Ne.symm qs)
 replace Z0 := Nat.le_trans Z0 (Nat.le_of_eq W.size.symm)
 replace N := Fr.snoc X.1 N jg
 replace Kp := Kp.wr W (Or.inl (List.mem_of_getElem? (i := 0) rfl))
 refine g_iconst X (1 : Int32) d6_39 (pc' := 40) rfl rfl ?_
 refine g_istoreN X d6_40 (pc' := 41) (Ls' := #[.val (.ref a0), .val (.ref a1), .val (.ref a2), .val (.int (1 : Int32)), .unset, .unset, .unset, .unset, .unset]) rfl rfl ?_
 refine g_bipush X (64 : Int32) d6_41 (pc' := 43) rfl rfl ?_
 refine g_istore X d6_43 (pc' := 45) (Ls' := #[.val (.ref a0), .val (.ref a1), .val (.ref a2), .val (.int (1 : Int32)), .val (.int (64 : Int32)), .unset, .unset, .unset, .unset]) rfl rfl ?_
 refine g_iconst X (0 : Int32) d6_45 (pc' := 46) rfl rfl ?_
 refine g_istore X d6_46 (pc' := 48) (Ls' := #[.val (.ref a0), .val (.ref a1), .val (.ref a2), .val (.int (1 : Int32)), .val (.int (64 : Int32)), .val (.int (0 : Int32)), .unset, .unset, .unset]) rfl rfl ?_
 refine g_iload X d6_48 (pc' := 50) rfl rfl ?_
 refine g_aloadN X d6_50 (pc' := 51) rfl rfl rfl ?_
 refine g_arraylength X qb d6_51 (pc' := 52) rfl (z := (3 : Int32)) rfl ?_
 refine g_icN X d6_52 (tlt (show (0 : Int32) < (3 : Int32) from (by decide))).2.1 (pc' := 55) rfl ?_
 refine g_aloadN X d6_55 (pc' := 56) rfl rfl rfl ?_
 refine g_iload X d6_56 (pc' := 58) rfl rfl ?_
 refine g_iaload X qk 0 d6_58 (pc' := 59) rfl (by decide) (by decide) rfl ?_
 refine g_i2l X d6_59 (pc' := 60) rfl ?_
 refine g_aloadN X d6_60 (pc' := 61) rfl rfl rfl ?_
 refine g_iload X d6_61 (pc' := 63) rfl rfl ?_
 refine g_iaload X qb 0 d6_63 (pc' := 64) rfl (by decide) (by decide) rfl ?_
 refine g_i2l X d6_64 (pc' := 65) rfl ?_
 refine g_lsub X d6_65 (pc' := 66) rfl ?_
 generalize jt : ((y0.toInt64) - (l0.toInt64)) = q4
 refine g_lstore X d6_66 (pc' := 68) (Ls' := #[.val (.ref a0), .val (.ref a1), .val (.ref a2), .val (.int (1 : Int32)), .val (.int (64 : Int32)), .val (.int (0 : Int32)), .val (.long q4), .second, .unset]) rfl rfl ?_
 refine g_bipush X (64 : Int32) d6_68 (pc' := 70) rfl rfl ?_
 refine g_lload X d6_70 (pc' := 72) rfl rfl ?_
 refine g_static X (W := 1) [(.long q4)] [(.int (64 : Int32))] (tb hw 47 rfl) (tb hw 48 rfl) (tb hw 49 rfl) (tb hw 50 rfl) (rNL l Z aa hw [] q4 _) d6_72 (pc' := 75) rfl (by decide) (by decide) (by decide) rfl rfl rfl (lenOf pd_2 rfl) (Nat.le_refl _) (by decide) (by decide) ?_
 intro v T L X q
 obtain ⟨rfl, X⟩ := pureX X q
 show Go p e below _ (T.setTop (mkF m 75 _ [(.int (fNL q4)), (.int (64 : Int32))]))
 refine g_isub X d6_75 (pc' := 76) rfl ?_
 generalize ju : ((64 : Int32) - (fNL q4)) = jd
 refine g_istore X d6_76 (pc' := 78) (Ls' := #[.val (.ref a0), .val (.ref a1), .val (.ref a2), .val (.int (1 : Int32)), .val (.int (64 : Int32)), .val (.int (0 : Int32)), .val (.long q4), .second, .val (.int jd)]) rfl rfl ?_
 refine g_iload X d6_78 (pc' := 80) rfl rfl ?_
 refine g_iload X d6_80 (pc' := 82) rfl rfl ?_
 refine g_icY X d6_82 (flt (show ¬ ((64 : Int32) < jd) from (by rw [← ju, ← jt]; exact q0))).2.2.2 (pc' := 92) (by decide) (by decide) ?_
 refine g_iload X d6_92 (pc' := 94) rfl rfl ?_
 refine g_iload X d6_94 (pc' := 96) rfl rfl ?_
 refine g_isub X d6_96 (pc' := 97) rfl ?_
 generalize jz : ((64 : Int32) - jd) = qy
 refine g_istore X d6_97 (pc' := 99) (Ls' := #[.val (.ref a0), .val (.ref a1), .val (.ref a2), .val (.int (1 : Int32)), .val (.int qy), .val (.int (0 : Int32)), .val (.long q4), .second, .val (.int jd)]) rfl rfl ?_
 refine g_aloadN X d6_99 (pc' := 100) rfl rfl rfl ?_
 refine g_getfield X (host := "") (Or.inl (tb hw 41 rfl)) Via.refl qc d6_100 (pc' := 103) rfl ?_
 intro T X
 refine g_iload X d6_103 (pc' := 105) rfl rfl ?_
 refine g_iloadN X d6_105 (pc' := 106) rfl rfl ?_
 refine g_iconst X (1 : Int32) d6_106 (pc' := 107) rfl rfl ?_
 refine g_isub X d6_107 (pc' := 108) rfl ?_
 refine Go.lit32 (z := (0 : Int32)) (by decide) ?_
 refine g_iastore X qi 0 d6_108 (pc' := 109) rfl (by decide) (by decide) (Nat.le_of_ble_eq_true rfl) ?_
 intro T h X W qi
 replace qi : Av Z h qu .int [(.int (0 : Int32)), (.int (0 : Int32)), (.int (0 : Int32))] := qi
 replace qa := qa.wr W
 replace qg := qg.other W (Or.inl qq)
 replace qc := qc.other W (Or.inl qq)
 replace qd := qd.other W (Or.inl qq)
 replace qe := qe.other W (Or.inl qq)
 replace qh := qh.other W (Or.inl qq)
 replace qb := qb.other W jw
 replace qk := qk.other W j4
 replace qf := qf.wr W
 replace qj := qj.other W jk
 replace ql := ql.wr W
 replace qo := qo.wr W
 replace qm := qm.other W (Ne.symm ja)
 replace qp := qp.wr W
 replace qn := qn.other W (Ne.symm jb)
 replace Z0 := Nat.le_trans Z0 (Nat.le_of_eq W.size.symm)
 replace N := Fr.snoc X.1 N jl
 replace Kp := Kp.wr W (Or.inr jm)
 refine g_aloadN X d6_109 (pc' := 110) rfl rfl rfl ?_
 refine g_getfield X (host := "") (Or.inl (tb hw 43 rfl)) Via.refl qd d6_110 (pc' := 113) rfl ?_
 intro T X
 refine g_iload X d6_113 (pc' := 115) rfl rfl ?_
 refine g_iload X d6_115 (pc' := 117) rfl rfl ?_
 refine g_iastore X qm 0 d6_117 (pc' := 118) rfl (by decide) (by decide) (Nat.le_of_ble_eq_true rfl) ?_
 intro T h X W qm
 replace qm : Av Z h qv .int [(.int qy), (.int (0 : Int32)), (.int (0 : Int32))] := qm
 replace qa := qa.wr W
 replace qg := qg.other W (Or.inl qr)
 replace qc := qc.other W (Or.inl qr)
 replace qd := qd.other W (Or.inl qr)
 replace qe := qe.other W (Or.inl qr)
 replace qh := qh.other W (Or.inl qr)
 replace qb := qb.other W jx
 replace qk := qk.other W j5
 replace qf := qf.wr W
 replace qj := qj.other W jn
 replace ql := ql.wr W
 replace qi := qi.other W ja
 replace qo := qo.wr W
 replace qp := qp.wr W
 replace qn := qn.other W (Ne.symm jc)
 replace Z0 := Nat.le_trans Z0 (Nat.le_of_eq W.size.symm)
 replace N := Fr.snoc X.1 N jo
 replace Kp := Kp.wr W (Or.inr jp)
 refine g_aloadN X d6_118 (pc' := 119) rfl rfl rfl ?_
 refine g_getfield X (host := "") (Or.inl (tb hw 45 rfl)) Via.refl qe d6_119 (pc' := 122) rfl ?_
 intro T X
 refine g_iload X d6_122 (pc' := 124) rfl rfl ?_
 refine g_lconst X (1 : Int64) d6_124 (pc' := 125) rfl rfl ?_
 refine g_iload X d6_125 (pc' := 127) rfl rfl ?_
 refine g_lshl X d6_127 (pc' := 128) rfl ?_
 refine g_lconst X (1 : Int64) d6_128 (pc' := 129) rfl rfl ?_
 refine g_lsub X d6_129 (pc' := 130) rfl ?_
 generalize wd : (((1 : Int64) <<< (jd &&& 0x3f).toInt64) - (1 : Int64)) = j0
 refine g_lastore X qn 0 d6_130 (pc' := 131) rfl (by decide) (by decide) (Nat.le_of_ble_eq_true rfl) ?_
 intro T h X W qn
 replace qn : Av Z h qw .long [(.long j0), (.long (0 : Int64)), (.long (0 : Int64))] := qn
 replace qa := qa.wr W
 replace qg := qg.other W (Or.inl qs)
 replace qc := qc.other W (Or.inl qs)
 replace qd := qd.other W (Or.inl qs)
 replace qe := qe.other W (Or.inl qs)
 replace qh := qh.other W (Or.inl qs)
 replace qb := qb.other W jy
 replace qk := qk.other W j6
 replace qf := qf.wr W
 replace qj := qj.other W jq
 replace ql := ql.wr W
 replace qi := qi.other W jb
 replace qo := qo.wr W
 replace qm := qm.other W jc
 replace qp := qp.wr W
 replace Z0 := Nat.le_trans Z0 (Nat.le_of_eq W.size.symm)
 replace N := Fr.snoc X.1 N jr
 replace Kp := Kp.wr W (Or.inr js)
 refine g_iinc X d6_131 (pc' := 134) (q := (1 : Int32)) (Ls' := #[.val (.ref a0), .val (.ref a1), .val (.ref a2), .val (.int (1 : Int32)), .val (.int qy), .val (.int (1 : Int32)), .val (.long q4), .second, .val (.int jd)]) rfl rfl rfl rfl ?_
 refine g_goto X d6_134 (pc' := 48) (by decide) (by decide) ?_
 refine g_iload X d6_48 (pc' := 50) rfl rfl ?_
 refine g_aloadN X d6_50 (pc' := 51) rfl rfl rfl ?_
 refine g_arraylength X qb d6_51 (pc' := 52) rfl (z := (3 : Int32)) rfl ?_
 refine g_icN X d6_52 (tlt (show (1 : Int32) < (3 : Int32) from (by decide))).2.1 (pc' := 55) rfl ?_
 refine g_aloadN X d6_55 (pc' := 56) rfl rfl rfl ?_
 refine g_iload X d6_56 (pc' := 58) rfl rfl ?_
 refine g_iaload X qk 1 d6_58 (pc' := 59) rfl (by decide) (by decide) rfl ?_
 refine g_i2l X d6_59 (pc' := 60) rfl ?_
 refine g_aloadN X d6_60 (pc' := 61) rfl rfl rfl ?_
 refine g_iload X d6_61 (pc' := 63) rfl rfl ?_
 refine g_iaload X qb 1 d6_63 (pc' := 64) rfl (by decide) (by decide) rfl ?_
 refine g_i2l X d6_64 (pc' := 65) rfl ?_
 refine g_lsub X d6_65 (pc' := 66) rfl ?_
 generalize j1 : ((y1.toInt64) - (l1.toInt64)) = q5
 refine g_lstore X d6_66 (pc' := 68) (Ls' := #[.val (.ref a0), .val (.ref a1), .val (.ref a2), .val (.int (1 : Int32)), .val (.int qy), .val (.int (1 : Int32)), .val (.long q5), .second, .val (.int jd)]) rfl rfl ?_
 refine g_bipush X (64 : Int32) d6_68 (pc' := 70) rfl rfl ?_
 refine g_lload X d6_70 (pc' := 72) rfl rfl ?_
 refine g_static X (W := 1) [(.long q5)] [(.int (64 : Int32))] (tb hw 47 rfl) (tb hw 48 rfl) (tb hw 49 rfl) (tb hw 50 rfl) (rNL l Z aa hw [] q5 _) d6_72 (pc' := 75) rfl (by decide) (by decide) (by decide) rfl rfl rfl (lenOf pd_2 rfl) (Nat.le_refl _) (by decide) (by decide) ?_
 intro v T L X q
 obtain ⟨rfl, X⟩ := pureX X q
 show Go p e below _ (T.setTop (mkF m 75 _ [(.int (fNL q5)), (.int (64 : Int32))]))
 refine g_isub X d6_75 (pc' := 76) rfl ?_
 generalize j2 : ((64 : Int32) - (fNL q5)) = je
 refine g_istore X d6_76 (pc' := 78) (Ls' := #[.val (.ref a0), .val (.ref a1), .val (.ref a2), .val (.int (1 : Int32)), .val (.int qy), .val (.int (1 : Int32)), .val (.long q5), .second, .val (.int je)]) rfl rfl ?_
 refine g_iload X d6_78 (pc' := 80) rfl rfl ?_
 refine g_iload X d6_80 (pc' := 82) rfl rfl ?_
 refine g_icY X d6_82 (flt (show ¬ (qy < je) from (by rw [← j2, ← j1, ← jz, ← ju, ← jt]; exact q1))).2.2.2 (pc' := 92) (by decide) (by decide) ?_
 refine g_iload X d6_92 (pc' := 94) rfl rfl ?_
 refine g_iload X d6_94 (pc' := 96) rfl rfl ?_
 refine g_isub X d6_96 (pc' := 97) rfl ?_
 generalize j7 : (qy - je) = q6
 refine g_istore X d6_97 (pc' := 99) (Ls' := #[.val (.ref a0), .val (.ref a1), .val (.ref a2), .val (.int (1 : Int32)), .val (.int q6), .val (.int (1 : Int32)), .val (.long q5), .second, .val (.int je)]) rfl rfl ?_
 refine g_aloadN X d6_99 (pc' := 100) rfl rfl rfl ?_
 refine g_getfield X (host := "") (Or.inl (tb hw 41 rfl)) Via.refl qc d6_100 (pc' := 103) rfl ?_
 intro T X
 refine g_iload X d6_103 (pc' := 105) rfl rfl ?_
 refine g_iloadN X d6_105 (pc' := 106) rfl rfl ?_
 refine g_iconst X (1 : Int32) d6_106 (pc' := 107) rfl rfl ?_
 refine g_isub X d6_107 (pc' := 108) rfl ?_
 refine Go.lit32 (z := (0 : Int32)) (by decide) ?_
 refine g_iastore X qi 1 d6_108 (pc' := 109) rfl (by decide) (by decide) (Nat.le_of_ble_eq_true rfl) ?_
 intro T h X W qi
 replace qi : Av Z h qu .int [(.int (0 : Int32)), (.int (0 : Int32)), (.int (0 : Int32))] := qi
 replace qa := qa.wr W
 replace qg := qg.other W (Or.inl qq)
 replace qc := qc.other W (Or.inl qq)
 replace qd := qd.other W (Or.inl qq)
 replace qe := qe.other W (Or.inl qq)
 replace qh := qh.other W (Or.inl qq)
 replace qb := qb.other W jw
 replace qk := qk.other W j4
 replace qf := qf.wr W
 replace qj := qj.other W jk
 replace ql := ql.wr W
 replace qo := qo.wr W
 replace qm := qm.other W (Ne.symm ja)
 replace qp := qp.wr W
 replace qn := qn.other W (Ne.symm jb)
 replace Z0 := Nat.le_trans Z0 (Nat.le_of_eq W.size.symm)
 replace N := Fr.snoc X.1 N jl
 replace Kp := Kp.wr W (Or.inr jm)
 refine g_aloadN X d6_109 (pc' := 110) rfl rfl rfl ?_
 refine g_getfield X (host := "") (Or.inl (tb hw 43 rfl)) Via.refl qd d6_110 (pc' := 113) rfl ?_
 intro T X
 refine g_iload X d6_113 (pc' := 115) rfl rfl ?_
 refine g_iload X d6_115 (pc' := 117) rfl rfl ?_
 refine g_iastore X qm 1 d6_117 (pc' := 118) rfl (by decide) (by decide) (Nat.le_of_ble_eq_true rfl) ?_
 intro T h X W qm
 replace qm : Av Z h qv .int [(.int qy), (.int q6), (.int (0 : Int32))] := qm
 replace qa := qa.wr W
 replace qg := qg.other W (Or.inl qr)
 replace qc := qc.other W (Or.inl qr)
 replace qd := qd.other W (Or.inl qr)
 replace qe := qe.other W (Or.inl qr)
 replace qh := qh.other W (Or.inl qr)
 replace qb := qb.other W jx
 replace qk := qk.other W j5
 replace qf := qf.wr W
 replace qj := qj.other W jn
 replace ql := ql.wr W
 replace qi := qi.other W ja
 replace qo := qo.wr W
 replace qp := qp.wr W
 replace qn := qn.other W (Ne.symm jc)
 replace Z0 := Nat.le_trans Z0 (Nat.le_of_eq W.size.symm)
 replace N := Fr.snoc X.1 N jo
 replace Kp := Kp.wr W (Or.inr jp)
 refine g_aloadN X d6_118 (pc' := 119) rfl rfl rfl ?_
 refine g_getfield X (host := "") (Or.inl (tb hw 45 rfl)) Via.refl qe d6_119 (pc' := 122) rfl ?_
 intro T X
 refine g_iload X d6_122 (pc' := 124) rfl rfl ?_
 refine g_lconst X (1 : Int64) d6_124 (pc' := 125) rfl rfl ?_
 refine g_iload X d6_125 (pc' := 127) rfl rfl ?_
 refine g_lshl X d6_127 (pc' := 128) rfl ?_
 refine g_lconst X (1 : Int64) d6_128 (pc' := 129) rfl rfl ?_
 refine g_lsub X d6_129 (pc' := 130) rfl ?_
 generalize we : (((1 : Int64) <<< (je &&& 0x3f).toInt64) - (1 : Int64)) = j8
 refine g_lastore X qn 1 d6_130 (pc' := 131) rfl (by decide) (by decide) (Nat.le_of_ble_eq_true rfl) ?_
 intro T h X W qn
 replace qn : Av Z h qw .long [(.long j0), (.long j8), (.long (0 : Int64))] := qn
 replace qa := qa.wr W
 replace qg := qg.other W (Or.inl qs)
 replace qc := qc.other W (Or.inl qs)
 replace qd := qd.other W (Or.inl qs)
 replace qe := qe.other W (Or.inl qs)
 replace qh := qh.other W (Or.inl qs)
 replace qb := qb.other W jy
 replace qk := qk.other W j6
 replace qf := qf.wr W
 replace qj := qj.other W jq
 replace ql := ql.wr W
 replace qi := qi.other W jb
 replace qo := qo.wr W
 replace qm := qm.other W jc
 replace qp := qp.wr W
 replace Z0 := Nat.le_trans Z0 (Nat.le_of_eq W.size.symm)
 replace N := Fr.snoc X.1 N jr
 replace Kp := Kp.wr W (Or.inr js)
 refine g_iinc X d6_131 (pc' := 134) (q := (1 : Int32)) (Ls' := #[.val (.ref a0), .val (.ref a1), .val (.ref a2), .val (.int (1 : Int32)), .val (.int q6), .val (.int (2 : Int32)), .val (.long q5), .second, .val (.int je)]) rfl rfl rfl rfl ?_
 refine g_goto X d6_134 (pc' := 48) (by decide) (by decide) ?_
 refine g_iload X d6_48 (pc' := 50) rfl rfl ?_
 refine g_aloadN X d6_50 (pc' := 51) rfl rfl rfl ?_
 refine g_arraylength X qb d6_51 (pc' := 52) rfl (z := (3 : Int32)) rfl ?_
 refine g_icN X d6_52 (tlt (show (2 : Int32) < (3 : Int32) from (by decide))).2.1 (pc' := 55) rfl ?_
 refine g_aloadN X d6_55 (pc' := 56) rfl rfl rfl ?_
 refine g_iload X d6_56 (pc' := 58) rfl rfl ?_
 refine g_iaload X qk 2 d6_58 (pc' := 59) rfl (by decide) (by decide) rfl ?_
 refine g_i2l X d6_59 (pc' := 60) rfl ?_
 refine g_aloadN X d6_60 (pc' := 61) rfl rfl rfl ?_
 refine g_iload X d6_61 (pc' := 63) rfl rfl ?_
 refine g_iaload X qb 2 d6_63 (pc' := 64) rfl (by decide) (by decide) rfl ?_
 refine g_i2l X d6_64 (pc' := 65) rfl ?_
 refine g_lsub X d6_65 (pc' := 66) rfl ?_
 generalize j9 : ((y2.toInt64) - (l2.toInt64)) = qx
 refine g_lstore X d6_66 (pc' := 68) (Ls' := #[.val (.ref a0), .val (.ref a1), .val (.ref a2), .val (.int (1 : Int32)), .val (.int q6), .val (.int (2 : Int32)), .val (.long qx), .second, .val (.int je)]) rfl rfl ?_
 refine g_bipush X (64 : Int32) d6_68 (pc' := 70) rfl rfl ?_
 refine g_lload X d6_70 (pc' := 72) rfl rfl ?_
 refine g_static X (W := 1) [(.long qx)] [(.int (64 : Int32))] (tb hw 47 rfl) (tb hw 48 rfl) (tb hw 49 rfl) (tb hw 50 rfl) (rNL l Z aa hw [] qx _) d6_72 (pc' := 75) rfl (by decide) (by decide) (by decide) rfl rfl rfl (lenOf pd_2 rfl) (Nat.le_refl _) (by decide) (by decide) ?_
 intro v T L X q
 obtain ⟨rfl, X⟩ := pureX X q
 show Go p e below _ (T.setTop (mkF m 75 _ [(.int (fNL qx)), (.int (64 : Int32))]))
 refine g_isub X d6_75 (pc' := 76) rfl ?_
 generalize wa : ((64 : Int32) - (fNL qx)) = q7
 refine g_istore X d6_76 (pc' := 78) (Ls' := #[.val (.ref a0), .val (.ref a1), .val (.ref a2), .val (.int (1 : Int32)), .val (.int q6), .val (.int (2 : Int32)), .val (.long qx), .second, .val (.int q7)]) rfl rfl ?_
 refine g_iload X d6_78 (pc' := 80) rfl rfl ?_
 refine g_iload X d6_80 (pc' := 82) rfl rfl ?_
 refine g_icN X d6_82 (tlt (show q6 < q7 from (by rw [← wa, ← j9, ← j7, ← j2, ← j1, ← jz, ← ju, ← jt]; exact q2))).2.2.2 (pc' := 85) rfl ?_
 refine g_iinc X d6_85 (pc' := 88) (q := (1 : Int32)) (Ls' := #[.val (.ref a0), .val (.ref a1), .val (.ref a2), .val (.int (2 : Int32)), .val (.int q6), .val (.int (2 : Int32)), .val (.long qx), .second, .val (.int q7)]) rfl rfl rfl rfl ?_
 refine g_bipush X (64 : Int32) d6_88 (pc' := 90) rfl rfl ?_
 refine g_istore X d6_90 (pc' := 92) (Ls' := #[.val (.ref a0), .val (.ref a1), .val (.ref a2), .val (.int (2 : Int32)), .val (.int (64 : Int32)), .val (.int (2 : Int32)), .val (.long qx), .second, .val (.int q7)]) rfl rfl ?_
 refine g_iload X d6_92 (pc' := 94) rfl rfl ?_
 refine g_iload X d6_94 (pc' := 96) rfl rfl ?_
 refine g_isub X d6_96 (pc' := 97) rfl ?_
 generalize wf : ((64 : Int32) - q7) = j3
 refine g_istore X d6_97 (pc' := 99) (Ls' := #[.val (.ref a0), .val (.ref a1), .val (.ref a2), .val (.int (2 : Int32)), .val (.int j3), .val (.int (2 : Int32)), .val (.long qx), .second, .val (.int q7)]) rfl rfl ?_
 refine g_aloadN X d6_99 (pc' := 100) rfl rfl rfl ?_
 refine g_getfield X (host := "") (Or.inl (tb hw 41 rfl)) Via.refl qc d6_100 (pc' := 103) rfl ?_
 intro T X
 refine g_iload X d6_103 (pc' := 105) rfl rfl ?_
 refine g_iloadN X d6_105 (pc' := 106) rfl rfl ?_
 refine g_iconst X (1 : Int32) d6_106 (pc' := 107) rfl rfl ?_
 refine g_isub X d6_107 (pc' := 108) rfl ?_
 refine Go.lit32 (z := (1 : Int32)) (by decide) ?_
 refine g_iastore X qi 2 d6_108 (pc' := 109) rfl (by decide) (by decide) (Nat.le_of_ble_eq_true rfl) ?_
 intro T h X W qi
 replace qi : Av Z h qu .int [(.int (0 : Int32)), (.int (0 : Int32)), (.int (1 : Int32))] := qi
 replace qa := qa.wr W
 replace qg := qg.other W (Or.inl qq)
 replace qc := qc.other W (Or.inl qq)
 replace qd := qd.other W (Or.inl qq)
 replace qe := qe.other W (Or.inl qq)
 replace qh := qh.other W (Or.inl qq)
 replace qb := qb.other W jw
 replace qf := qf.wr W
 replace qj := qj.other W jk
 replace ql := ql.wr W
 replace qo := qo.wr W
 replace qm := qm.other W (Ne.symm ja)
 replace qp := qp.wr W
 replace qn := qn.other W (Ne.symm jb)
 replace Z0 := Nat.le_trans Z0 (Nat.le_of_eq W.size.symm)
 replace N := Fr.snoc X.1 N jl
 replace Kp := Kp.wr W (Or.inr jm)
 refine g_aloadN X d6_109 (pc' := 110) rfl rfl rfl ?_
 refine g_getfield X (host := "") (Or.inl (tb hw 43 rfl)) Via.refl qd d6_110 (pc' := 113) rfl ?_
 intro T X
 refine g_iload X d6_113 (pc' := 115) rfl rfl ?_
 refine g_iload X d6_115 (pc' := 117) rfl rfl ?_
 refine g_iastore X qm 2 d6_117 (pc' := 118) rfl (by decide) (by decide) (Nat.le_of_ble_eq_true rfl) ?_
 intro T h X W qm
 replace qm : Av Z h qv .int [(.int qy), (.int q6), (.int j3)] := qm
 replace qa := qa.wr W
 replace qg := qg.other W (Or.inl qr)
 replace qc := qc.other W (Or.inl qr)
 replace qd := qd.other W (Or.inl qr)
 replace qe := qe.other W (Or.inl qr)
 replace qh := qh.other W (Or.inl qr)
 replace qb := qb.other W jx
 replace qf := qf.wr W
 replace qj := qj.other W jn
 replace ql := ql.wr W
 replace qi := qi.other W ja
 replace qo := qo.wr W
 replace qp := qp.wr W
 replace qn := qn.other W (Ne.symm jc)
 replace Z0 := Nat.le_trans Z0 (Nat.le_of_eq W.size.symm)
 replace N := Fr.snoc X.1 N jo
 replace Kp := Kp.wr W (Or.inr jp)
 refine g_aloadN X d6_118 (pc' := 119) rfl rfl rfl ?_
 refine g_getfield X (host := "") (Or.inl (tb hw 45 rfl)) Via.refl qe d6_119 (pc' := 122) rfl ?_
 intro T X
 refine g_iload X d6_122 (pc' := 124) rfl rfl ?_
 refine g_lconst X (1 : Int64) d6_124 (pc' := 125) rfl rfl ?_
 refine g_iload X d6_125 (pc' := 127) rfl rfl ?_
 refine g_lshl X d6_127 (pc' := 128) rfl ?_
 refine g_lconst X (1 : Int64) d6_128 (pc' := 129) rfl rfl ?_
 refine g_lsub X d6_129 (pc' := 130) rfl ?_
 generalize wg : (((1 : Int64) <<< (q7 &&& 0x3f).toInt64) - (1 : Int64)) = wh
 refine g_lastore X qn 2 d6_130 (pc' := 131) rfl (by decide) (by decide) (Nat.le_of_ble_eq_true rfl) ?_
 intro T h X W qn
 replace qn : Av Z h qw .long [(.long j0), (.long j8), (.long wh)] := qn
 replace qa := qa.wr W
 replace qg := qg.other W (Or.inl qs)
 replace qc := qc.other W (Or.inl qs)
 replace qd := qd.other W (Or.inl qs)
 replace qe := qe.other W (Or.inl qs)
 replace qh := qh.other W (Or.inl qs)
 replace qb := qb.other W jy
 replace qf := qf.wr W
 replace qj := qj.other W jq
 replace ql := ql.wr W
 replace qi := qi.other W jb
 replace qo := qo.wr W
 replace qm := qm.other W jc
 replace qp := qp.wr W
 replace Z0 := Nat.le_trans Z0 (Nat.le_of_eq W.size.symm)
 replace N := Fr.snoc X.1 N jr
 replace Kp := Kp.wr W (Or.inr js)
 refine g_iinc X d6_131 (pc' := 134) (q := (1 : Int32)) (Ls' := #[.val (.ref a0), .val (.ref a1), .val (.ref a2), .val (.int (2 : Int32)), .val (.int j3), .val (.int (3 : Int32)), .val (.long qx), .second, .val (.int q7)]) rfl rfl rfl rfl ?_
 refine g_goto X d6_134 (pc' := 48) (by decide) (by decide) ?_
 refine g_iload X d6_48 (pc' := 50) rfl rfl ?_
 refine g_aloadN X d6_50 (pc' := 51) rfl rfl rfl ?_
 refine g_arraylength X qb d6_51 (pc' := 52) rfl (z := (3 : Int32)) rfl ?_
 refine g_icY X d6_52 (flt (show ¬ ((3 : Int32) < (3 : Int32)) from (by decide))).2.1 (pc' := 137) (by decide) (by decide) ?_
 refine g_aloadN X d6_137 (pc' := 138) rfl rfl rfl ?_
 refine g_iloadN X d6_138 (pc' := 139) rfl rfl ?_
 refine g_putfield X (host := "") (Or.inl (tb hw 56 rfl)) Via.refl qh qa (Or.inr ⟨(tb hw 57 rfl), rfl, hnm⟩) (tb hw 22 rfl) (ty := .int) (by decide) rfl rfl d6_139 (pc' := 142) rfl ?_
 intro T h X W
 replace qa := qa.wr W
 replace qg := qg.other W (Or.inr (slot_ne (Or.inr (tb hw 40 rfl)) (Or.inr (tb hw 57 rfl)) (by decide) (t := (.array .int)) (t' := .int) (by decide) (by decide)))
 replace qc := qc.other W (Or.inr (slot_ne (Or.inr (tb hw 42 rfl)) (Or.inr (tb hw 57 rfl)) (by decide) (t := (.array .int)) (t' := .int) (by decide) (by decide)))
 replace qd := qd.other W (Or.inr (slot_ne (Or.inr (tb hw 44 rfl)) (Or.inr (tb hw 57 rfl)) (by decide) (t := (.array .int)) (t' := .int) (by decide) (by decide)))
 replace qe := qe.other W (Or.inr (slot_ne (Or.inr (tb hw 46 rfl)) (Or.inr (tb hw 57 rfl)) (by decide) (t := (.array .long)) (t' := .int) (by decide) (by decide)))
 replace qh := qh.same W
 replace qf := qf.wr W
 replace qj := qj.other W (Ne.symm jh)
 replace ql := ql.wr W
 replace qi := qi.other W (Ne.symm qq)
 replace qo := qo.wr W
 replace qm := qm.other W (Ne.symm qr)
 replace qp := qp.wr W
 replace qn := qn.other W (Ne.symm qs)
 replace Z0 := Nat.le_trans Z0 (Nat.le_of_eq W.size.symm)
 replace N := Fr.snoc X.1 N jg
 replace Kp := Kp.wr W (Or.inl (List.mem_of_getElem? (i := 0) rfl))
 refine g_return X d6_142 hret hlk (by decide) (by decide) ?_
 subst jt ju jz wd j1 j2 j7 we j9 wa wf wg
 exact ⟨q8, qu, qv, qw, rfl, N, Kp, wc, wb, jm, jl, jp, jo, js, jr, jk, jn, jq, ja, jb, jc, qa, qg, qc, qd, qe, qh, qf, qj, ql, qi, qo, qm, qp, qn⟩
theorem d10_0 : decode prog_58_method_3_code 0 = .ok (.iconst 0, 1) := by decide +kernel
theorem d10_1 : decode prog_58_method_3_code 1 = .ok (.istore 4, 2) := by decide +kernel
theorem d10_3 : decode prog_58_method_3_code 3 = .ok (.iload 4, 2) := by decide +kernel
theorem d10_5 : decode prog_58_method_3_code 5 = .ok (.aload_n 0, 1) := by decide +kernel
theorem d10_6 : decode prog_58_method_3_code 6 = .ok (.getfield 34, 3) := by decide +kernel
theorem d10_9 : decode prog_58_method_3_code 9 = .ok (.if_icmp .ge 16, 3) := by decide +kernel
theorem d10_12 : decode prog_58_method_3_code 12 = .ok (.aload_n 2, 1) := by decide +kernel
theorem d10_13 : decode prog_58_method_3_code 13 = .ok (.iload_n 3, 1) := by decide +kernel
theorem d10_14 : decode prog_58_method_3_code 14 = .ok (.iload 4, 2) := by decide +kernel
theorem d10_16 : decode prog_58_method_3_code 16 = .ok (.iadd, 1) := by decide +kernel
theorem d10_17 : decode prog_58_method_3_code 17 = .ok (.lconst 0, 1) := by decide +kernel
theorem d10_18 : decode prog_58_method_3_code 18 = .ok (.lastore, 1) := by decide +kernel
theorem d10_19 : decode prog_58_method_3_code 19 = .ok (.iinc 4 1, 3) := by decide +kernel
theorem d10_22 : decode prog_58_method_3_code 22 = .ok (.goto (-19), 3) := by decide +kernel
theorem d10_25 : decode prog_58_method_3_code 25 = .ok (.iconst 0, 1) := by decide +kernel
theorem d10_26 : decode prog_58_method_3_code 26 = .ok (.istore 4, 2) := by decide +kernel
theorem d10_28 : decode prog_58_method_3_code 28 = .ok (.iload 4, 2) := by decide +kernel
theorem d10_30 : decode prog_58_method_3_code 30 = .ok (.aload_n 1, 1) := by decide +kernel
theorem d10_31 : decode prog_58_method_3_code 31 = .ok (.arraylength, 1) := by decide +kernel
theorem d10_32 : decode prog_58_method_3_code 32 = .ok (.if_icmp .ge 45, 3) := by decide +kernel
theorem d10_35 : decode prog_58_method_3_code 35 = .ok (.aload_n 2, 1) := by decide +kernel
theorem d10_36 : decode prog_58_method_3_code 36 = .ok (.iload_n 3, 1) := by decide +kernel
theorem d10_37 : decode prog_58_method_3_code 37 = .ok (.aload_n 0, 1) := by decide +kernel
theorem d10_38 : decode prog_58_method_3_code 38 = .ok (.getfield 18, 3) := by decide +kernel
theorem d10_41 : decode prog_58_method_3_code 41 = .ok (.iload 4, 2) := by decide +kernel
theorem d10_43 : decode prog_58_method_3_code 43 = .ok (.iaload, 1) := by decide +kernel
theorem d10_44 : decode prog_58_method_3_code 44 = .ok (.iadd, 1) := by decide +kernel
theorem d10_45 : decode prog_58_method_3_code 45 = .ok (.dup2, 1) := by decide +kernel
theorem d10_46 : decode prog_58_method_3_code 46 = .ok (.laload, 1) := by decide +kernel
theorem d10_47 : decode prog_58_method_3_code 47 = .ok (.aload_n 1, 1) := by decide +kernel
theorem d10_48 : decode prog_58_method_3_code 48 = .ok (.iload 4, 2) := by decide +kernel
theorem d10_50 : decode prog_58_method_3_code 50 = .ok (.iaload, 1) := by decide +kernel
theorem d10_51 : decode prog_58_method_3_code 51 = .ok (.i2l, 1) := by decide +kernel
theorem d10_52 : decode prog_58_method_3_code 52 = .ok (.aload_n 0, 1) := by decide +kernel
theorem d10_53 : decode prog_58_method_3_code 53 = .ok (.getfield 13, 3) := by decide +kernel
theorem d10_56 : decode prog_58_method_3_code 56 = .ok (.iload 4, 2) := by decide +kernel
theorem d10_58 : decode prog_58_method_3_code 58 = .ok (.iaload, 1) := by decide +kernel
theorem d10_59 : decode prog_58_method_3_code 59 = .ok (.i2l, 1) := by decide +kernel
theorem d10_60 : decode prog_58_method_3_code 60 = .ok (.lsub, 1) := by decide +kernel
theorem d10_61 : decode prog_58_method_3_code 61 = .ok (.aload_n 0, 1) := by decide +kernel
theorem d10_62 : decode prog_58_method_3_code 62 = .ok (.getfield 21, 3) := by decide +kernel
theorem d10_65 : decode prog_58_method_3_code 65 = .ok (.iload 4, 2) := by decide +kernel
theorem d10_67 : decode prog_58_method_3_code 67 = .ok (.iaload, 1) := by decide +kernel
theorem d10_68 : decode prog_58_method_3_code 68 = .ok (.lshl, 1) := by decide +kernel
theorem d10_69 : decode prog_58_method_3_code 69 = .ok (.lor, 1) := by decide +kernel
theorem d10_70 : decode prog_58_method_3_code 70 = .ok (.lastore, 1) := by decide +kernel
theorem d10_71 : decode prog_58_method_3_code 71 = .ok (.iinc 4 1, 3) := by decide +kernel
theorem d10_74 : decode prog_58_method_3_code 74 = .ok (.goto (-46), 3) := by decide +kernel
theorem d10_77 : decode prog_58_method_3_code 77 = .ok (.return_, 1) := by decide +kernel
theorem ef_rPk00 (m : MethodId) (x0 : Addr) (x1 : Addr) (x2 : Addr) (x3 : Int32) : entryFrame m #[(.ref x0), (.ref x1), (.ref x2), (.int x3)] 5 = mkF m 0 #[.val (.ref x0), .val (.ref x1), .val (.ref x2), .val (.int x3), .unset] [] := by first | (simp [entryFrame, mkF, argsToLocals, Value.category]; done) | rfl
set_option maxRecDepth 65536 in
set_option maxHeartbeats 40000000 in
theorem rPk00 (l : Launch) (Z : State) (aa : Array Value) (hw : ∀ d ∈ tables_1, d.before aa Z = true) (ws : List Jvm.Cond) (a0 : Addr) (wv : Addr) (wk : Addr) (wl : Addr) (ww : Addr) (wt : Addr) (l0 : Int32) (l1 : Int32) (l2 : Int32) (s0 : Int32) (s1 : Int32) (s2 : Int32) (x0 : Int32) (x1 : Int32) (x2 : Int32) (k0 : Int64) (k1 : Int64) (k2 : Int64) (k3 : Int64) (k4 : Int64) (k5 : Int64) (h0 : Heap) (n0 : Nat) (Z0 : n0 ≤ h0.size) (qv : Exa Z h0 a0 "com/example/ryazan/ryazan/language/Layout") (qd : Fld Z h0 a0 "com/example/ryazan/ryazan/language/Layout" "low" "[I" (.ref wl)) (qe : Fld Z h0 a0 "com/example/ryazan/ryazan/language/Layout" "word" "[I" (.ref ww)) (qf : Fld Z h0 a0 "com/example/ryazan/ryazan/language/Layout" "shift" "[I" (.ref wt)) (qj : Fld Z h0 a0 "com/example/ryazan/ryazan/language/Layout" "width" "I" (.int (1 : Int32))) (qg : Av Z h0 wl .int [(.int l0), (.int l1), (.int l2)]) (qh : Av Z h0 ww .int [(.int (0 : Int32)), (.int (0 : Int32)), (.int (0 : Int32))]) (qi : Av Z h0 wt .int [(.int s0), (.int s1), (.int s2)]) (qb : Av Z h0 wv .int [(.int x0), (.int x1), (.int x2)]) (qa : Av Z h0 wk .long [(.long k0), (.long k1), (.long k2), (.long k3), (.long k4), (.long k5)]) (qk : n0 ≤ wk) (qc : a0 ≠ wk) (qm : wl ≠ wk) (qn : ww ≠ wk) (qo : wt ≠ wk) (ql : wv ≠ wk) :
    Rm l Z (⟨"com/example/ryazan/ryazan/language/Layout", "pack", "([I[JI)V"⟩ : MethodName) prog_58_method_3_code 5 none ws ({ frames := 0, cells := 0, slots := 0, locals := 0 } : Room) #[(.ref a0), (.ref wv), (.ref wk), (.int (0 : Int32))] h0 (fun v h L => v = none ∧ Fr n0 L ∧ Keep h0 h [wk] ∧ Av Z h wk .long [(.long ((((0 : Int64) ||| (((x0.toInt64) - (l0.toInt64)) <<< (s0 &&& 0x3f).toInt64)) ||| (((x1.toInt64) - (l1.toInt64)) <<< (s1 &&& 0x3f).toInt64)) ||| (((x2.toInt64) - (l2.toInt64)) <<< (s2 &&& 0x3f).toInt64))), (.long k1), (.long k2), (.long k3), (.long k4), (.long k5)]) := by
 refine Rm.of (plainFor_of_name pn_3) ?_
 intro p e s m below meth cc T X hnm hret hlk
 refine Go.at_ (ef_rPk00 m a0 wv wk (0 : Int32)) ?_
 have N := Fr.nil n0
 have Kp := Keep.refl h0 [wk]
 refine g_iconst X (0 : Int32) d10_0 (pc' := 1) rfl rfl ?_
 refine g_istore X d10_1 (pc' := 3) (Ls' := #[.val (.ref a0), .val (.ref wv), .val (.ref wk), .val (.int (0 : Int32)), .val (.int (0 : Int32))]) rfl rfl ?_
 refine g_iload X d10_3 (pc' := 5) rfl rfl ?_
 refine g_aloadN X d10_5 (pc' := 6) rfl rfl rfl ?_
 refine g_getfield X (host := "") (Or.inl (tb hw 56 rfl)) Via.refl qj d10_6 (pc' := 9) rfl ?_
 intro T X
 refine g_icN X d10_9 (tlt (show (0 : Int32) < (1 : Int32) from (by decide))).2.1 (pc' := 12) rfl ?_
 refine g_aloadN X d10_12 (pc' := 13) rfl rfl rfl ?_
 refine g_iloadN X d10_13 (pc' := 14) rfl rfl ?_
 refine g_iload X d10_14 (pc' := 16) rfl rfl ?_
 refine g_iadd X d10_16 (pc' := 17) rfl ?_
 refine Go.lit32 (z := (0 : Int32)) (by decide) ?_
 refine g_lconst X (0 : Int64) d10_17 (pc' := 18) rfl rfl ?_
 refine g_lastore X qa 0 d10_18 (pc' := 19) rfl (by decide) (by decide) (Nat.le_of_ble_eq_true rfl) ?_
 intro T h X W qa
 replace qa : Av Z h wk .long [(.long (0 : Int64)), (.long k1), (.long k2), (.long k3), (.long k4), (.long k5)] := qa
 replace qd := qd.other W (Or.inl qc)
 replace qe := qe.other W (Or.inl qc)
 replace qf := qf.other W (Or.inl qc)
 replace qj := qj.other W (Or.inl qc)
 replace qg := qg.other W qm
 replace qh := qh.other W qn
 replace qi := qi.other W qo
 replace qb := qb.other W ql
 replace Z0 := Nat.le_trans Z0 (Nat.le_of_eq W.size.symm)
 replace N := Fr.snoc X.1 N qk
 replace Kp := Kp.wr W (Or.inl (List.mem_of_getElem? (i := 0) rfl))
 refine g_iinc X d10_19 (pc' := 22) (q := (1 : Int32)) (Ls' := #[.val (.ref a0), .val (.ref wv), .val (.ref wk), .val (.int (0 : Int32)), .val (.int (1 : Int32))]) rfl rfl rfl rfl ?_
 refine g_goto X d10_22 (pc' := 3) (by decide) (by decide) ?_
 refine g_iload X d10_3 (pc' := 5) rfl rfl ?_
 refine g_aloadN X d10_5 (pc' := 6) rfl rfl rfl ?_
 refine g_getfield X (host := "") (Or.inl (tb hw 56 rfl)) Via.refl qj d10_6 (pc' := 9) rfl ?_
 intro T X
 refine g_icY X d10_9 (flt (show ¬ ((1 : Int32) < (1 : Int32)) from (by decide))).2.1 (pc' := 25) (by decide) (by decide) ?_
 refine g_iconst X (0 : Int32) d10_25 (pc' := 26) rfl rfl ?_
 refine g_istore X d10_26 (pc' := 28) (Ls' := #[.val (.ref a0), .val (.ref wv), .val (.ref wk), .val (.int (0 : Int32)), .val (.int (0 : Int32))]) rfl rfl ?_
 refine g_iload X d10_28 (pc' := 30) rfl rfl ?_
 refine g_aloadN X d10_30 (pc' := 31) rfl rfl rfl ?_
 refine g_arraylength X qb d10_31 (pc' := 32) rfl (z := (3 : Int32)) rfl ?_
 refine g_icN X d10_32 (tlt (show (0 : Int32) < (3 : Int32) from (by decide))).2.1 (pc' := 35) rfl ?_
 refine g_aloadN X d10_35 (pc' := 36) rfl rfl rfl ?_
 refine g_iloadN X d10_36 (pc' := 37) rfl rfl ?_
 refine g_aloadN X d10_37 (pc' := 38) rfl rfl rfl ?_
 refine g_getfield X (host := "") (Or.inl (tb hw 41 rfl)) Via.refl qe d10_38 (pc' := 41) rfl ?_
 intro T X
 refine g_iload X d10_41 (pc' := 43) rfl rfl ?_
 refine g_iaload X qh 0 d10_43 (pc' := 44) rfl (by decide) (by decide) rfl ?_
 refine g_iadd X d10_44 (pc' := 45) rfl ?_
 refine Go.lit32 (z := (0 : Int32)) (by decide) ?_
 refine g_dup2 X d10_45 (pc' := 46) rfl rfl rfl ?_
 refine g_laload X qa 0 d10_46 (pc' := 47) rfl (by decide) (by decide) rfl ?_
 refine g_aloadN X d10_47 (pc' := 48) rfl rfl rfl ?_
 refine g_iload X d10_48 (pc' := 50) rfl rfl ?_
 refine g_iaload X qb 0 d10_50 (pc' := 51) rfl (by decide) (by decide) rfl ?_
 refine g_i2l X d10_51 (pc' := 52) rfl ?_
 refine g_aloadN X d10_52 (pc' := 53) rfl rfl rfl ?_
 refine g_getfield X (host := "") (Or.inl (tb hw 39 rfl)) Via.refl qd d10_53 (pc' := 56) rfl ?_
 intro T X
 refine g_iload X d10_56 (pc' := 58) rfl rfl ?_
 refine g_iaload X qg 0 d10_58 (pc' := 59) rfl (by decide) (by decide) rfl ?_
 refine g_i2l X d10_59 (pc' := 60) rfl ?_
 refine g_lsub X d10_60 (pc' := 61) rfl ?_
 refine g_aloadN X d10_61 (pc' := 62) rfl rfl rfl ?_
 refine g_getfield X (host := "") (Or.inl (tb hw 43 rfl)) Via.refl qf d10_62 (pc' := 65) rfl ?_
 intro T X
 refine g_iload X d10_65 (pc' := 67) rfl rfl ?_
 refine g_iaload X qi 0 d10_67 (pc' := 68) rfl (by decide) (by decide) rfl ?_
 refine g_lshl X d10_68 (pc' := 69) rfl ?_
 refine g_lor X d10_69 (pc' := 70) rfl ?_
 generalize qr : ((0 : Int64) ||| (((x0.toInt64) - (l0.toInt64)) <<< (s0 &&& 0x3f).toInt64)) = qp
 refine g_lastore X qa 0 d10_70 (pc' := 71) rfl (by decide) (by decide) (Nat.le_of_ble_eq_true rfl) ?_
 intro T h X W qa
 replace qa : Av Z h wk .long [(.long qp), (.long k1), (.long k2), (.long k3), (.long k4), (.long k5)] := qa
 replace qd := qd.other W (Or.inl qc)
 replace qe := qe.other W (Or.inl qc)
 replace qf := qf.other W (Or.inl qc)
 replace qg := qg.other W qm
 replace qh := qh.other W qn
 replace qi := qi.other W qo
 replace qb := qb.other W ql
 replace Z0 := Nat.le_trans Z0 (Nat.le_of_eq W.size.symm)
 replace N := Fr.snoc X.1 N qk
 replace Kp := Kp.wr W (Or.inl (List.mem_of_getElem? (i := 0) rfl))
 refine g_iinc X d10_71 (pc' := 74) (q := (1 : Int32)) (Ls' := #[.val (.ref a0), .val (.ref wv), .val (.ref wk), .val (.int (0 : Int32)), .val (.int (1 : Int32))]) rfl rfl rfl rfl ?_
 refine g_goto X d10_74 (pc' := 28) (by decide) (by decide) ?_
 refine g_iload X d10_28 (pc' := 30) rfl rfl ?_
 refine g_aloadN X d10_30 (pc' := 31) rfl rfl rfl ?_
 refine g_arraylength X qb d10_31 (pc' := 32) rfl (z := (3 : Int32)) rfl ?_
 refine g_icN X d10_32 (tlt (show (1 : Int32) < (3 : Int32) from (by decide))).2.1 (pc' := 35) rfl ?_
 refine g_aloadN X d10_35 (pc' := 36) rfl rfl rfl ?_
 refine g_iloadN X d10_36 (pc' := 37) rfl rfl ?_
 refine g_aloadN X d10_37 (pc' := 38) rfl rfl rfl ?_
 refine g_getfield X (host := "") (Or.inl (tb hw 41 rfl)) Via.refl qe d10_38 (pc' := 41) rfl ?_
 intro T X
 refine g_iload X d10_41 (pc' := 43) rfl rfl ?_
 refine g_iaload X qh 1 d10_43 (pc' := 44) rfl (by decide) (by decide) rfl ?_
 refine g_iadd X d10_44 (pc' := 45) rfl ?_
 refine Go.lit32 (z := (0 : Int32)) (by decide) ?_
 refine g_dup2 X d10_45 (pc' := 46) rfl rfl rfl ?_
 refine g_laload X qa 0 d10_46 (pc' := 47) rfl (by decide) (by decide) rfl ?_
 refine g_aloadN X d10_47 (pc' := 48) rfl rfl rfl ?_
 refine g_iload X d10_48 (pc' := 50) rfl rfl ?_
 refine g_iaload X qb 1 d10_50 (pc' := 51) rfl (by decide) (by decide) rfl ?_
 refine g_i2l X d10_51 (pc' := 52) rfl ?_
 refine g_aloadN X d10_52 (pc' := 53) rfl rfl rfl ?_
 refine g_getfield X (host := "") (Or.inl (tb hw 39 rfl)) Via.refl qd d10_53 (pc' := 56) rfl ?_
 intro T X
 refine g_iload X d10_56 (pc' := 58) rfl rfl ?_
 refine g_iaload X qg 1 d10_58 (pc' := 59) rfl (by decide) (by decide) rfl ?_
 refine g_i2l X d10_59 (pc' := 60) rfl ?_
 refine g_lsub X d10_60 (pc' := 61) rfl ?_
 refine g_aloadN X d10_61 (pc' := 62) rfl rfl rfl ?_
 refine g_getfield X (host := "") (Or.inl (tb hw 43 rfl)) Via.refl qf d10_62 (pc' := 65) rfl ?_
 intro T X
 refine g_iload X d10_65 (pc' := 67) rfl rfl ?_
 refine g_iaload X qi 1 d10_67 (pc' := 68) rfl (by decide) (by decide) rfl ?_
 refine g_lshl X d10_68 (pc' := 69) rfl ?_
 refine g_lor X d10_69 (pc' := 70) rfl ?_
 generalize qs : (qp ||| (((x1.toInt64) - (l1.toInt64)) <<< (s1 &&& 0x3f).toInt64)) = qq
 refine g_lastore X qa 0 d10_70 (pc' := 71) rfl (by decide) (by decide) (Nat.le_of_ble_eq_true rfl) ?_
 intro T h X W qa
 replace qa : Av Z h wk .long [(.long qq), (.long k1), (.long k2), (.long k3), (.long k4), (.long k5)] := qa
 replace qd := qd.other W (Or.inl qc)
 replace qe := qe.other W (Or.inl qc)
 replace qf := qf.other W (Or.inl qc)
 replace qg := qg.other W qm
 replace qh := qh.other W qn
 replace qi := qi.other W qo
 replace qb := qb.other W ql
 replace Z0 := Nat.le_trans Z0 (Nat.le_of_eq W.size.symm)
 replace N := Fr.snoc X.1 N qk
 replace Kp := Kp.wr W (Or.inl (List.mem_of_getElem? (i := 0) rfl))
 refine g_iinc X d10_71 (pc' := 74) (q := (1 : Int32)) (Ls' := #[.val (.ref a0), .val (.ref wv), .val (.ref wk), .val (.int (0 : Int32)), .val (.int (2 : Int32))]) rfl rfl rfl rfl ?_
 refine g_goto X d10_74 (pc' := 28) (by decide) (by decide) ?_
 refine g_iload X d10_28 (pc' := 30) rfl rfl ?_
 refine g_aloadN X d10_30 (pc' := 31) rfl rfl rfl ?_
 refine g_arraylength X qb d10_31 (pc' := 32) rfl (z := (3 : Int32)) rfl ?_
 refine g_icN X d10_32 (tlt (show (2 : Int32) < (3 : Int32) from (by decide))).2.1 (pc' := 35) rfl ?_
 refine g_aloadN X d10_35 (pc' := 36) rfl rfl rfl ?_
 refine g_iloadN X d10_36 (pc' := 37) rfl rfl ?_
 refine g_aloadN X d10_37 (pc' := 38) rfl rfl rfl ?_
 refine g_getfield X (host := "") (Or.inl (tb hw 41 rfl)) Via.refl qe d10_38 (pc' := 41) rfl ?_
 intro T X
 refine g_iload X d10_41 (pc' := 43) rfl rfl ?_
 refine g_iaload X qh 2 d10_43 (pc' := 44) rfl (by decide) (by decide) rfl ?_
 refine g_iadd X d10_44 (pc' := 45) rfl ?_
 refine Go.lit32 (z := (0 : Int32)) (by decide) ?_
 refine g_dup2 X d10_45 (pc' := 46) rfl rfl rfl ?_
 refine g_laload X qa 0 d10_46 (pc' := 47) rfl (by decide) (by decide) rfl ?_
 refine g_aloadN X d10_47 (pc' := 48) rfl rfl rfl ?_
 refine g_iload X d10_48 (pc' := 50) rfl rfl ?_
 refine g_iaload X qb 2 d10_50 (pc' := 51) rfl (by decide) (by decide) rfl ?_
 refine g_i2l X d10_51 (pc' := 52) rfl ?_
 refine g_aloadN X d10_52 (pc' := 53) rfl rfl rfl ?_
 refine g_getfield X (host := "") (Or.inl (tb hw 39 rfl)) Via.refl qd d10_53 (pc' := 56) rfl ?_
 intro T X
 refine g_iload X d10_56 (pc' := 58) rfl rfl ?_
 refine g_iaload X qg 2 d10_58 (pc' := 59) rfl (by decide) (by decide) rfl ?_
 refine g_i2l X d10_59 (pc' := 60) rfl ?_
 refine g_lsub X d10_60 (pc' := 61) rfl ?_
 refine g_aloadN X d10_61 (pc' := 62) rfl rfl rfl ?_
 refine g_getfield X (host := "") (Or.inl (tb hw 43 rfl)) Via.refl qf d10_62 (pc' := 65) rfl ?_
 intro T X
 refine g_iload X d10_65 (pc' := 67) rfl rfl ?_
 refine g_iaload X qi 2 d10_67 (pc' := 68) rfl (by decide) (by decide) rfl ?_
 refine g_lshl X d10_68 (pc' := 69) rfl ?_
 refine g_lor X d10_69 (pc' := 70) rfl ?_
 generalize qt : (qq ||| (((x2.toInt64) - (l2.toInt64)) <<< (s2 &&& 0x3f).toInt64)) = qu
 refine g_lastore X qa 0 d10_70 (pc' := 71) rfl (by decide) (by decide) (Nat.le_of_ble_eq_true rfl) ?_
 intro T h X W qa
 replace qa : Av Z h wk .long [(.long qu), (.long k1), (.long k2), (.long k3), (.long k4), (.long k5)] := qa
 replace qb := qb.other W ql
 replace Z0 := Nat.le_trans Z0 (Nat.le_of_eq W.size.symm)
 replace N := Fr.snoc X.1 N qk
 replace Kp := Kp.wr W (Or.inl (List.mem_of_getElem? (i := 0) rfl))
 refine g_iinc X d10_71 (pc' := 74) (q := (1 : Int32)) (Ls' := #[.val (.ref a0), .val (.ref wv), .val (.ref wk), .val (.int (0 : Int32)), .val (.int (3 : Int32))]) rfl rfl rfl rfl ?_
 refine g_goto X d10_74 (pc' := 28) (by decide) (by decide) ?_
 refine g_iload X d10_28 (pc' := 30) rfl rfl ?_
 refine g_aloadN X d10_30 (pc' := 31) rfl rfl rfl ?_
 refine g_arraylength X qb d10_31 (pc' := 32) rfl (z := (3 : Int32)) rfl ?_
 refine g_icY X d10_32 (flt (show ¬ ((3 : Int32) < (3 : Int32)) from (by decide))).2.1 (pc' := 77) (by decide) (by decide) ?_
 refine g_return X d10_77 hret hlk (by decide) (by decide) ?_
 subst qr qs qt
 exact ⟨rfl, N, Kp, qa⟩
theorem d11_0 : decode prog_58_method_4_code 0 = .ok (.iconst 0, 1) := by decide +kernel
theorem d11_1 : decode prog_58_method_4_code 1 = .ok (.istore 4, 2) := by decide +kernel
theorem d11_3 : decode prog_58_method_4_code 3 = .ok (.iload 4, 2) := by decide +kernel
theorem d11_5 : decode prog_58_method_4_code 5 = .ok (.aload_n 3, 1) := by decide +kernel
theorem d11_6 : decode prog_58_method_4_code 6 = .ok (.arraylength, 1) := by decide +kernel
theorem d11_7 : decode prog_58_method_4_code 7 = .ok (.if_icmp .ge 49, 3) := by decide +kernel
theorem d11_10 : decode prog_58_method_4_code 10 = .ok (.aload_n 3, 1) := by decide +kernel
theorem d11_11 : decode prog_58_method_4_code 11 = .ok (.iload 4, 2) := by decide +kernel
theorem d11_13 : decode prog_58_method_4_code 13 = .ok (.aload_n 1, 1) := by decide +kernel
theorem d11_14 : decode prog_58_method_4_code 14 = .ok (.iload_n 2, 1) := by decide +kernel
theorem d11_15 : decode prog_58_method_4_code 15 = .ok (.aload_n 0, 1) := by decide +kernel
theorem d11_16 : decode prog_58_method_4_code 16 = .ok (.getfield 18, 3) := by decide +kernel
theorem d11_19 : decode prog_58_method_4_code 19 = .ok (.iload 4, 2) := by decide +kernel
theorem d11_21 : decode prog_58_method_4_code 21 = .ok (.iaload, 1) := by decide +kernel
theorem d11_22 : decode prog_58_method_4_code 22 = .ok (.iadd, 1) := by decide +kernel
theorem d11_23 : decode prog_58_method_4_code 23 = .ok (.laload, 1) := by decide +kernel
theorem d11_24 : decode prog_58_method_4_code 24 = .ok (.aload_n 0, 1) := by decide +kernel
theorem d11_25 : decode prog_58_method_4_code 25 = .ok (.getfield 21, 3) := by decide +kernel
theorem d11_28 : decode prog_58_method_4_code 28 = .ok (.iload 4, 2) := by decide +kernel
theorem d11_30 : decode prog_58_method_4_code 30 = .ok (.iaload, 1) := by decide +kernel
theorem d11_31 : decode prog_58_method_4_code 31 = .ok (.lushr, 1) := by decide +kernel
theorem d11_32 : decode prog_58_method_4_code 32 = .ok (.aload_n 0, 1) := by decide +kernel
theorem d11_33 : decode prog_58_method_4_code 33 = .ok (.getfield 24, 3) := by decide +kernel
theorem d11_36 : decode prog_58_method_4_code 36 = .ok (.iload 4, 2) := by decide +kernel
theorem d11_38 : decode prog_58_method_4_code 38 = .ok (.laload, 1) := by decide +kernel
theorem d11_39 : decode prog_58_method_4_code 39 = .ok (.land, 1) := by decide +kernel
theorem d11_40 : decode prog_58_method_4_code 40 = .ok (.l2i, 1) := by decide +kernel
theorem d11_41 : decode prog_58_method_4_code 41 = .ok (.aload_n 0, 1) := by decide +kernel
theorem d11_42 : decode prog_58_method_4_code 42 = .ok (.getfield 13, 3) := by decide +kernel
theorem d11_45 : decode prog_58_method_4_code 45 = .ok (.iload 4, 2) := by decide +kernel
theorem d11_47 : decode prog_58_method_4_code 47 = .ok (.iaload, 1) := by decide +kernel
theorem d11_48 : decode prog_58_method_4_code 48 = .ok (.iadd, 1) := by decide +kernel
theorem d11_49 : decode prog_58_method_4_code 49 = .ok (.iastore, 1) := by decide +kernel
theorem d11_50 : decode prog_58_method_4_code 50 = .ok (.iinc 4 1, 3) := by decide +kernel
theorem d11_53 : decode prog_58_method_4_code 53 = .ok (.goto (-50), 3) := by decide +kernel
theorem d11_56 : decode prog_58_method_4_code 56 = .ok (.return_, 1) := by decide +kernel
theorem ef_rUp00 (m : MethodId) (x0 : Addr) (x1 : Addr) (x2 : Int32) (x3 : Addr) : entryFrame m #[(.ref x0), (.ref x1), (.int x2), (.ref x3)] 5 = mkF m 0 #[.val (.ref x0), .val (.ref x1), .val (.int x2), .val (.ref x3), .unset] [] := by first | (simp [entryFrame, mkF, argsToLocals, Value.category]; done) | rfl
set_option maxRecDepth 65536 in
set_option maxHeartbeats 40000000 in
theorem rUp00 (l : Launch) (Z : State) (aa : Array Value) (hw : ∀ d ∈ tables_1, d.before aa Z = true) (ws : List Jvm.Cond) (a0 : Addr) (wk : Addr) (wv : Addr) (wl : Addr) (ww : Addr) (wt : Addr) (wm : Addr) (l0 : Int32) (l1 : Int32) (l2 : Int32) (s0 : Int32) (s1 : Int32) (s2 : Int32) (m0 : Int64) (m1 : Int64) (m2 : Int64) (k0 : Int64) (k1 : Int64) (k2 : Int64) (k3 : Int64) (k4 : Int64) (k5 : Int64) (x0 : Int32) (x1 : Int32) (x2 : Int32) (h0 : Heap) (n0 : Nat) (Z0 : n0 ≤ h0.size) (qx : Exa Z h0 a0 "com/example/ryazan/ryazan/language/Layout") (qc : Fld Z h0 a0 "com/example/ryazan/ryazan/language/Layout" "low" "[I" (.ref wl)) (qd : Fld Z h0 a0 "com/example/ryazan/ryazan/language/Layout" "word" "[I" (.ref ww)) (qe : Fld Z h0 a0 "com/example/ryazan/ryazan/language/Layout" "shift" "[I" (.ref wt)) (qf : Fld Z h0 a0 "com/example/ryazan/ryazan/language/Layout" "mask" "[J" (.ref wm)) (qg : Av Z h0 wl .int [(.int l0), (.int l1), (.int l2)]) (qh : Av Z h0 ww .int [(.int (0 : Int32)), (.int (0 : Int32)), (.int (0 : Int32))]) (qi : Av Z h0 wt .int [(.int s0), (.int s1), (.int s2)]) (qj : Av Z h0 wm .long [(.long m0), (.long m1), (.long m2)]) (qk : Av Z h0 wk .long [(.long k0), (.long k1), (.long k2), (.long k3), (.long k4), (.long k5)]) (qa : Av Z h0 wv .int [(.int x0), (.int x1), (.int x2)]) (ql : n0 ≤ wv) (qb : a0 ≠ wv) (qn : wl ≠ wv) (qo : ww ≠ wv) (qp : wt ≠ wv) (qq : wm ≠ wv) (qr : wk ≠ wv) :
    Rm l Z (⟨"com/example/ryazan/ryazan/language/Layout", "unpack", "([JI[I)V"⟩ : MethodName) prog_58_method_4_code 5 none ws ({ frames := 0, cells := 0, slots := 0, locals := 0 } : Room) #[(.ref a0), (.ref wk), (.int (0 : Int32)), (.ref wv)] h0 (fun v h L => v = none ∧ Fr n0 L ∧ Keep h0 h [wv] ∧ Av Z h wv .int [(.int (((((k0.toUInt64 >>> (s0 &&& 0x3f).toInt64.toUInt64).toInt64) &&& m0).toInt32) + l0)), (.int (((((k0.toUInt64 >>> (s1 &&& 0x3f).toInt64.toUInt64).toInt64) &&& m1).toInt32) + l1)), (.int (((((k0.toUInt64 >>> (s2 &&& 0x3f).toInt64.toUInt64).toInt64) &&& m2).toInt32) + l2))]) := by
 refine Rm.of (plainFor_of_name pn_3) ?_
 intro p e s m below meth cc T X hnm hret hlk
 refine Go.at_ (ef_rUp00 m a0 wk (0 : Int32) wv) ?_
 have N := Fr.nil n0
 have Kp := Keep.refl h0 [wv]
 refine g_iconst X (0 : Int32) d11_0 (pc' := 1) rfl rfl ?_
 refine g_istore X d11_1 (pc' := 3) (Ls' := #[.val (.ref a0), .val (.ref wk), .val (.int (0 : Int32)), .val (.ref wv), .val (.int (0 : Int32))]) rfl rfl ?_
 refine g_iload X d11_3 (pc' := 5) rfl rfl ?_
 refine g_aloadN X d11_5 (pc' := 6) rfl rfl rfl ?_
 refine g_arraylength X qa d11_6 (pc' := 7) rfl (z := (3 : Int32)) rfl ?_
 refine g_icN X d11_7 (tlt (show (0 : Int32) < (3 : Int32) from (by decide))).2.1 (pc' := 10) rfl ?_
 refine g_aloadN X d11_10 (pc' := 11) rfl rfl rfl ?_
 refine g_iload X d11_11 (pc' := 13) rfl rfl ?_
 refine g_aloadN X d11_13 (pc' := 14) rfl rfl rfl ?_
 refine g_iloadN X d11_14 (pc' := 15) rfl rfl ?_
 refine g_aloadN X d11_15 (pc' := 16) rfl rfl rfl ?_
 refine g_getfield X (host := "") (Or.inl (tb hw 41 rfl)) Via.refl qd d11_16 (pc' := 19) rfl ?_
 intro T X
 refine g_iload X d11_19 (pc' := 21) rfl rfl ?_
 refine g_iaload X qh 0 d11_21 (pc' := 22) rfl (by decide) (by decide) rfl ?_
 refine g_iadd X d11_22 (pc' := 23) rfl ?_
 refine Go.lit32 (z := (0 : Int32)) (by decide) ?_
 refine g_laload X qk 0 d11_23 (pc' := 24) rfl (by decide) (by decide) rfl ?_
 refine g_aloadN X d11_24 (pc' := 25) rfl rfl rfl ?_
 refine g_getfield X (host := "") (Or.inl (tb hw 43 rfl)) Via.refl qe d11_25 (pc' := 28) rfl ?_
 intro T X
 refine g_iload X d11_28 (pc' := 30) rfl rfl ?_
 refine g_iaload X qi 0 d11_30 (pc' := 31) rfl (by decide) (by decide) rfl ?_
 refine g_lushr X d11_31 (pc' := 32) rfl ?_
 refine g_aloadN X d11_32 (pc' := 33) rfl rfl rfl ?_
 refine g_getfield X (host := "") (Or.inl (tb hw 45 rfl)) Via.refl qf d11_33 (pc' := 36) rfl ?_
 intro T X
 refine g_iload X d11_36 (pc' := 38) rfl rfl ?_
 refine g_laload X qj 0 d11_38 (pc' := 39) rfl (by decide) (by decide) rfl ?_
 refine g_land X d11_39 (pc' := 40) rfl ?_
 refine g_l2i X d11_40 (pc' := 41) rfl ?_
 refine g_aloadN X d11_41 (pc' := 42) rfl rfl rfl ?_
 refine g_getfield X (host := "") (Or.inl (tb hw 39 rfl)) Via.refl qc d11_42 (pc' := 45) rfl ?_
 intro T X
 refine g_iload X d11_45 (pc' := 47) rfl rfl ?_
 refine g_iaload X qg 0 d11_47 (pc' := 48) rfl (by decide) (by decide) rfl ?_
 refine g_iadd X d11_48 (pc' := 49) rfl ?_
 generalize qt : (((((k0.toUInt64 >>> (s0 &&& 0x3f).toInt64.toUInt64).toInt64) &&& m0).toInt32) + l0) = qm
 refine g_iastore X qa 0 d11_49 (pc' := 50) rfl (by decide) (by decide) (Nat.le_of_ble_eq_true rfl) ?_
 intro T h X W qa
 replace qa : Av Z h wv .int [(.int qm), (.int x1), (.int x2)] := qa
 replace qc := qc.other W (Or.inl qb)
 replace qd := qd.other W (Or.inl qb)
 replace qe := qe.other W (Or.inl qb)
 replace qf := qf.other W (Or.inl qb)
 replace qg := qg.other W qn
 replace qh := qh.other W qo
 replace qi := qi.other W qp
 replace qj := qj.other W qq
 replace qk := qk.other W qr
 replace Z0 := Nat.le_trans Z0 (Nat.le_of_eq W.size.symm)
 replace N := Fr.snoc X.1 N ql
 replace Kp := Kp.wr W (Or.inl (List.mem_of_getElem? (i := 0) rfl))
 refine g_iinc X d11_50 (pc' := 53) (q := (1 : Int32)) (Ls' := #[.val (.ref a0), .val (.ref wk), .val (.int (0 : Int32)), .val (.ref wv), .val (.int (1 : Int32))]) rfl rfl rfl rfl ?_
 refine g_goto X d11_53 (pc' := 3) (by decide) (by decide) ?_
 refine g_iload X d11_3 (pc' := 5) rfl rfl ?_
 refine g_aloadN X d11_5 (pc' := 6) rfl rfl rfl ?_
 refine g_arraylength X qa d11_6 (pc' := 7) rfl (z := (3 : Int32)) rfl ?_
 refine g_icN X d11_7 (tlt (show (1 : Int32) < (3 : Int32) from (by decide))).2.1 (pc' := 10) rfl ?_
 refine g_aloadN X d11_10 (pc' := 11) rfl rfl rfl ?_
 refine g_iload X d11_11 (pc' := 13) rfl rfl ?_
 refine g_aloadN X d11_13 (pc' := 14) rfl rfl rfl ?_
 refine g_iloadN X d11_14 (pc' := 15) rfl rfl ?_
 refine g_aloadN X d11_15 (pc' := 16) rfl rfl rfl ?_
 refine g_getfield X (host := "") (Or.inl (tb hw 41 rfl)) Via.refl qd d11_16 (pc' := 19) rfl ?_
 intro T X
 refine g_iload X d11_19 (pc' := 21) rfl rfl ?_
 refine g_iaload X qh 1 d11_21 (pc' := 22) rfl (by decide) (by decide) rfl ?_
 refine g_iadd X d11_22 (pc' := 23) rfl ?_
 refine Go.lit32 (z := (0 : Int32)) (by decide) ?_
 refine g_laload X qk 0 d11_23 (pc' := 24) rfl (by decide) (by decide) rfl ?_
 refine g_aloadN X d11_24 (pc' := 25) rfl rfl rfl ?_
 refine g_getfield X (host := "") (Or.inl (tb hw 43 rfl)) Via.refl qe d11_25 (pc' := 28) rfl ?_
 intro T X
 refine g_iload X d11_28 (pc' := 30) rfl rfl ?_
 refine g_iaload X qi 1 d11_30 (pc' := 31) rfl (by decide) (by decide) rfl ?_
 refine g_lushr X d11_31 (pc' := 32) rfl ?_
 refine g_aloadN X d11_32 (pc' := 33) rfl rfl rfl ?_
 refine g_getfield X (host := "") (Or.inl (tb hw 45 rfl)) Via.refl qf d11_33 (pc' := 36) rfl ?_
 intro T X
 refine g_iload X d11_36 (pc' := 38) rfl rfl ?_
 refine g_laload X qj 1 d11_38 (pc' := 39) rfl (by decide) (by decide) rfl ?_
 refine g_land X d11_39 (pc' := 40) rfl ?_
 refine g_l2i X d11_40 (pc' := 41) rfl ?_
 refine g_aloadN X d11_41 (pc' := 42) rfl rfl rfl ?_
 refine g_getfield X (host := "") (Or.inl (tb hw 39 rfl)) Via.refl qc d11_42 (pc' := 45) rfl ?_
 intro T X
 refine g_iload X d11_45 (pc' := 47) rfl rfl ?_
 refine g_iaload X qg 1 d11_47 (pc' := 48) rfl (by decide) (by decide) rfl ?_
 refine g_iadd X d11_48 (pc' := 49) rfl ?_
 generalize qu : (((((k0.toUInt64 >>> (s1 &&& 0x3f).toInt64.toUInt64).toInt64) &&& m1).toInt32) + l1) = qs
 refine g_iastore X qa 1 d11_49 (pc' := 50) rfl (by decide) (by decide) (Nat.le_of_ble_eq_true rfl) ?_
 intro T h X W qa
 replace qa : Av Z h wv .int [(.int qm), (.int qs), (.int x2)] := qa
 replace qc := qc.other W (Or.inl qb)
 replace qd := qd.other W (Or.inl qb)
 replace qe := qe.other W (Or.inl qb)
 replace qf := qf.other W (Or.inl qb)
 replace qg := qg.other W qn
 replace qh := qh.other W qo
 replace qi := qi.other W qp
 replace qj := qj.other W qq
 replace qk := qk.other W qr
 replace Z0 := Nat.le_trans Z0 (Nat.le_of_eq W.size.symm)
 replace N := Fr.snoc X.1 N ql
 replace Kp := Kp.wr W (Or.inl (List.mem_of_getElem? (i := 0) rfl))
 refine g_iinc X d11_50 (pc' := 53) (q := (1 : Int32)) (Ls' := #[.val (.ref a0), .val (.ref wk), .val (.int (0 : Int32)), .val (.ref wv), .val (.int (2 : Int32))]) rfl rfl rfl rfl ?_
 refine g_goto X d11_53 (pc' := 3) (by decide) (by decide) ?_
 refine g_iload X d11_3 (pc' := 5) rfl rfl ?_
 refine g_aloadN X d11_5 (pc' := 6) rfl rfl rfl ?_
 refine g_arraylength X qa d11_6 (pc' := 7) rfl (z := (3 : Int32)) rfl ?_
 refine g_icN X d11_7 (tlt (show (2 : Int32) < (3 : Int32) from (by decide))).2.1 (pc' := 10) rfl ?_
 refine g_aloadN X d11_10 (pc' := 11) rfl rfl rfl ?_
 refine g_iload X d11_11 (pc' := 13) rfl rfl ?_
 refine g_aloadN X d11_13 (pc' := 14) rfl rfl rfl ?_
 refine g_iloadN X d11_14 (pc' := 15) rfl rfl ?_
 refine g_aloadN X d11_15 (pc' := 16) rfl rfl rfl ?_
 refine g_getfield X (host := "") (Or.inl (tb hw 41 rfl)) Via.refl qd d11_16 (pc' := 19) rfl ?_
 intro T X
 refine g_iload X d11_19 (pc' := 21) rfl rfl ?_
 refine g_iaload X qh 2 d11_21 (pc' := 22) rfl (by decide) (by decide) rfl ?_
 refine g_iadd X d11_22 (pc' := 23) rfl ?_
 refine Go.lit32 (z := (0 : Int32)) (by decide) ?_
 refine g_laload X qk 0 d11_23 (pc' := 24) rfl (by decide) (by decide) rfl ?_
 refine g_aloadN X d11_24 (pc' := 25) rfl rfl rfl ?_
 refine g_getfield X (host := "") (Or.inl (tb hw 43 rfl)) Via.refl qe d11_25 (pc' := 28) rfl ?_
 intro T X
 refine g_iload X d11_28 (pc' := 30) rfl rfl ?_
 refine g_iaload X qi 2 d11_30 (pc' := 31) rfl (by decide) (by decide) rfl ?_
 refine g_lushr X d11_31 (pc' := 32) rfl ?_
 refine g_aloadN X d11_32 (pc' := 33) rfl rfl rfl ?_
 refine g_getfield X (host := "") (Or.inl (tb hw 45 rfl)) Via.refl qf d11_33 (pc' := 36) rfl ?_
 intro T X
 refine g_iload X d11_36 (pc' := 38) rfl rfl ?_
 refine g_laload X qj 2 d11_38 (pc' := 39) rfl (by decide) (by decide) rfl ?_
 refine g_land X d11_39 (pc' := 40) rfl ?_
 refine g_l2i X d11_40 (pc' := 41) rfl ?_
 refine g_aloadN X d11_41 (pc' := 42) rfl rfl rfl ?_
 refine g_getfield X (host := "") (Or.inl (tb hw 39 rfl)) Via.refl qc d11_42 (pc' := 45) rfl ?_
 intro T X
 refine g_iload X d11_45 (pc' := 47) rfl rfl ?_
 refine g_iaload X qg 2 d11_47 (pc' := 48) rfl (by decide) (by decide) rfl ?_
 refine g_iadd X d11_48 (pc' := 49) rfl ?_
 generalize qv : (((((k0.toUInt64 >>> (s2 &&& 0x3f).toInt64.toUInt64).toInt64) &&& m2).toInt32) + l2) = qw
 refine g_iastore X qa 2 d11_49 (pc' := 50) rfl (by decide) (by decide) (Nat.le_of_ble_eq_true rfl) ?_
 intro T h X W qa
 replace qa : Av Z h wv .int [(.int qm), (.int qs), (.int qw)] := qa
 replace Z0 := Nat.le_trans Z0 (Nat.le_of_eq W.size.symm)
 replace N := Fr.snoc X.1 N ql
 replace Kp := Kp.wr W (Or.inl (List.mem_of_getElem? (i := 0) rfl))
 refine g_iinc X d11_50 (pc' := 53) (q := (1 : Int32)) (Ls' := #[.val (.ref a0), .val (.ref wk), .val (.int (0 : Int32)), .val (.ref wv), .val (.int (3 : Int32))]) rfl rfl rfl rfl ?_
 refine g_goto X d11_53 (pc' := 3) (by decide) (by decide) ?_
 refine g_iload X d11_3 (pc' := 5) rfl rfl ?_
 refine g_aloadN X d11_5 (pc' := 6) rfl rfl rfl ?_
 refine g_arraylength X qa d11_6 (pc' := 7) rfl (z := (3 : Int32)) rfl ?_
 refine g_icY X d11_7 (flt (show ¬ ((3 : Int32) < (3 : Int32)) from (by decide))).2.1 (pc' := 56) (by decide) (by decide) ?_
 refine g_return X d11_56 hret hlk (by decide) (by decide) ?_
 subst qt qu qv
 exact ⟨rfl, N, Kp, qa⟩
theorem ef_rPk01 (m : MethodId) (x0 : Addr) (x1 : Addr) (x2 : Addr) (x3 : Int32) : entryFrame m #[(.ref x0), (.ref x1), (.ref x2), (.int x3)] 5 = mkF m 0 #[.val (.ref x0), .val (.ref x1), .val (.ref x2), .val (.int x3), .unset] [] := by first | (simp [entryFrame, mkF, argsToLocals, Value.category]; done) | rfl
set_option maxRecDepth 65536 in
set_option maxHeartbeats 40000000 in
theorem rPk01 (l : Launch) (Z : State) (aa : Array Value) (hw : ∀ d ∈ tables_1, d.before aa Z = true) (ws : List Jvm.Cond) (a0 : Addr) (wv : Addr) (wk : Addr) (wl : Addr) (ww : Addr) (wt : Addr) (l0 : Int32) (l1 : Int32) (l2 : Int32) (s0 : Int32) (s1 : Int32) (s2 : Int32) (x0 : Int32) (x1 : Int32) (x2 : Int32) (k0 : Int64) (k1 : Int64) (k2 : Int64) (k3 : Int64) (k4 : Int64) (k5 : Int64) (h0 : Heap) (n0 : Nat) (Z0 : n0 ≤ h0.size) (qv : Exa Z h0 a0 "com/example/ryazan/ryazan/language/Layout") (qd : Fld Z h0 a0 "com/example/ryazan/ryazan/language/Layout" "low" "[I" (.ref wl)) (qe : Fld Z h0 a0 "com/example/ryazan/ryazan/language/Layout" "word" "[I" (.ref ww)) (qf : Fld Z h0 a0 "com/example/ryazan/ryazan/language/Layout" "shift" "[I" (.ref wt)) (qj : Fld Z h0 a0 "com/example/ryazan/ryazan/language/Layout" "width" "I" (.int (1 : Int32))) (qg : Av Z h0 wl .int [(.int l0), (.int l1), (.int l2)]) (qh : Av Z h0 ww .int [(.int (0 : Int32)), (.int (0 : Int32)), (.int (0 : Int32))]) (qi : Av Z h0 wt .int [(.int s0), (.int s1), (.int s2)]) (qb : Av Z h0 wv .int [(.int x0), (.int x1), (.int x2)]) (qa : Av Z h0 wk .long [(.long k0), (.long k1), (.long k2), (.long k3), (.long k4), (.long k5)]) (qk : n0 ≤ wk) (qc : a0 ≠ wk) (qm : wl ≠ wk) (qn : ww ≠ wk) (qo : wt ≠ wk) (ql : wv ≠ wk) :
    Rm l Z (⟨"com/example/ryazan/ryazan/language/Layout", "pack", "([I[JI)V"⟩ : MethodName) prog_58_method_3_code 5 none ws ({ frames := 0, cells := 0, slots := 0, locals := 0 } : Room) #[(.ref a0), (.ref wv), (.ref wk), (.int (1 : Int32))] h0 (fun v h L => v = none ∧ Fr n0 L ∧ Keep h0 h [wk] ∧ Av Z h wk .long [(.long k0), (.long ((((0 : Int64) ||| (((x0.toInt64) - (l0.toInt64)) <<< (s0 &&& 0x3f).toInt64)) ||| (((x1.toInt64) - (l1.toInt64)) <<< (s1 &&& 0x3f).toInt64)) ||| (((x2.toInt64) - (l2.toInt64)) <<< (s2 &&& 0x3f).toInt64))), (.long k2), (.long k3), (.long k4), (.long k5)]) := by
 refine Rm.of (plainFor_of_name pn_3) ?_
 intro p e s m below meth cc T X hnm hret hlk
 refine Go.at_ (ef_rPk01 m a0 wv wk (1 : Int32)) ?_
 have N := Fr.nil n0
 have Kp := Keep.refl h0 [wk]
 refine g_iconst X (0 : Int32) d10_0 (pc' := 1) rfl rfl ?_
 refine g_istore X d10_1 (pc' := 3) (Ls' := #[.val (.ref a0), .val (.ref wv), .val (.ref wk), .val (.int (1 : Int32)), .val (.int (0 : Int32))]) rfl rfl ?_
 refine g_iload X d10_3 (pc' := 5) rfl rfl ?_
 refine g_aloadN X d10_5 (pc' := 6) rfl rfl rfl ?_
 refine g_getfield X (host := "") (Or.inl (tb hw 56 rfl)) Via.refl qj d10_6 (pc' := 9) rfl ?_
 intro T X
 refine g_icN X d10_9 (tlt (show (0 : Int32) < (1 : Int32) from (by decide))).2.1 (pc' := 12) rfl ?_
 refine g_aloadN X d10_12 (pc' := 13) rfl rfl rfl ?_
 refine g_iloadN X d10_13 (pc' := 14) rfl rfl ?_
 refine g_iload X d10_14 (pc' := 16) rfl rfl ?_
 refine g_iadd X d10_16 (pc' := 17) rfl ?_
 refine Go.lit32 (z := (1 : Int32)) (by decide) ?_
 refine g_lconst X (0 : Int64) d10_17 (pc' := 18) rfl rfl ?_
 refine g_lastore X qa 1 d10_18 (pc' := 19) rfl (by decide) (by decide) (Nat.le_of_ble_eq_true rfl) ?_
 intro T h X W qa
 replace qa : Av Z h wk .long [(.long k0), (.long (0 : Int64)), (.long k2), (.long k3), (.long k4), (.long k5)] := qa
 replace qd := qd.other W (Or.inl qc)
 replace qe := qe.other W (Or.inl qc)
 replace qf := qf.other W (Or.inl qc)
 replace qj := qj.other W (Or.inl qc)
 replace qg := qg.other W qm
 replace qh := qh.other W qn
 replace qi := qi.other W qo
 replace qb := qb.other W ql
 replace Z0 := Nat.le_trans Z0 (Nat.le_of_eq W.size.symm)
 replace N := Fr.snoc X.1 N qk
 replace Kp := Kp.wr W (Or.inl (List.mem_of_getElem? (i := 0) rfl))
 refine g_iinc X d10_19 (pc' := 22) (q := (1 : Int32)) (Ls' := #[.val (.ref a0), .val (.ref wv), .val (.ref wk), .val (.int (1 : Int32)), .val (.int (1 : Int32))]) rfl rfl rfl rfl ?_
 refine g_goto X d10_22 (pc' := 3) (by decide) (by decide) ?_
 refine g_iload X d10_3 (pc' := 5) rfl rfl ?_
 refine g_aloadN X d10_5 (pc' := 6) rfl rfl rfl ?_
 refine g_getfield X (host := "") (Or.inl (tb hw 56 rfl)) Via.refl qj d10_6 (pc' := 9) rfl ?_
 intro T X
 refine g_icY X d10_9 (flt (show ¬ ((1 : Int32) < (1 : Int32)) from (by decide))).2.1 (pc' := 25) (by decide) (by decide) ?_
 refine g_iconst X (0 : Int32) d10_25 (pc' := 26) rfl rfl ?_
 refine g_istore X d10_26 (pc' := 28) (Ls' := #[.val (.ref a0), .val (.ref wv), .val (.ref wk), .val (.int (1 : Int32)), .val (.int (0 : Int32))]) rfl rfl ?_
 refine g_iload X d10_28 (pc' := 30) rfl rfl ?_
 refine g_aloadN X d10_30 (pc' := 31) rfl rfl rfl ?_
 refine g_arraylength X qb d10_31 (pc' := 32) rfl (z := (3 : Int32)) rfl ?_
 refine g_icN X d10_32 (tlt (show (0 : Int32) < (3 : Int32) from (by decide))).2.1 (pc' := 35) rfl ?_
 refine g_aloadN X d10_35 (pc' := 36) rfl rfl rfl ?_
 refine g_iloadN X d10_36 (pc' := 37) rfl rfl ?_
 refine g_aloadN X d10_37 (pc' := 38) rfl rfl rfl ?_
 refine g_getfield X (host := "") (Or.inl (tb hw 41 rfl)) Via.refl qe d10_38 (pc' := 41) rfl ?_
 intro T X
 refine g_iload X d10_41 (pc' := 43) rfl rfl ?_
 refine g_iaload X qh 0 d10_43 (pc' := 44) rfl (by decide) (by decide) rfl ?_
 refine g_iadd X d10_44 (pc' := 45) rfl ?_
 refine Go.lit32 (z := (1 : Int32)) (by decide) ?_
 refine g_dup2 X d10_45 (pc' := 46) rfl rfl rfl ?_
 refine g_laload X qa 1 d10_46 (pc' := 47) rfl (by decide) (by decide) rfl ?_
 refine g_aloadN X d10_47 (pc' := 48) rfl rfl rfl ?_
 refine g_iload X d10_48 (pc' := 50) rfl rfl ?_
 refine g_iaload X qb 0 d10_50 (pc' := 51) rfl (by decide) (by decide) rfl ?_
 refine g_i2l X d10_51 (pc' := 52) rfl ?_
 refine g_aloadN X d10_52 (pc' := 53) rfl rfl rfl ?_
 refine g_getfield X (host := "") (Or.inl (tb hw 39 rfl)) Via.refl qd d10_53 (pc' := 56) rfl ?_
 intro T X
 refine g_iload X d10_56 (pc' := 58) rfl rfl ?_
 refine g_iaload X qg 0 d10_58 (pc' := 59) rfl (by decide) (by decide) rfl ?_
 refine g_i2l X d10_59 (pc' := 60) rfl ?_
 refine g_lsub X d10_60 (pc' := 61) rfl ?_
 refine g_aloadN X d10_61 (pc' := 62) rfl rfl rfl ?_
 refine g_getfield X (host := "") (Or.inl (tb hw 43 rfl)) Via.refl qf d10_62 (pc' := 65) rfl ?_
 intro T X
 refine g_iload X d10_65 (pc' := 67) rfl rfl ?_
 refine g_iaload X qi 0 d10_67 (pc' := 68) rfl (by decide) (by decide) rfl ?_
 refine g_lshl X d10_68 (pc' := 69) rfl ?_
 refine g_lor X d10_69 (pc' := 70) rfl ?_
 generalize qr : ((0 : Int64) ||| (((x0.toInt64) - (l0.toInt64)) <<< (s0 &&& 0x3f).toInt64)) = qp
 refine g_lastore X qa 1 d10_70 (pc' := 71) rfl (by decide) (by decide) (Nat.le_of_ble_eq_true rfl) ?_
 intro T h X W qa
 replace qa : Av Z h wk .long [(.long k0), (.long qp), (.long k2), (.long k3), (.long k4), (.long k5)] := qa
 replace qd := qd.other W (Or.inl qc)
 replace qe := qe.other W (Or.inl qc)
 replace qf := qf.other W (Or.inl qc)
 replace qg := qg.other W qm
 replace qh := qh.other W qn
 replace qi := qi.other W qo
 replace qb := qb.other W ql
 replace Z0 := Nat.le_trans Z0 (Nat.le_of_eq W.size.symm)
 replace N := Fr.snoc X.1 N qk
 replace Kp := Kp.wr W (Or.inl (List.mem_of_getElem? (i := 0) rfl))
 refine g_iinc X d10_71 (pc' := 74) (q := (1 : Int32)) (Ls' := #[.val (.ref a0), .val (.ref wv), .val (.ref wk), .val (.int (1 : Int32)), .val (.int (1 : Int32))]) rfl rfl rfl rfl ?_
 refine g_goto X d10_74 (pc' := 28) (by decide) (by decide) ?_
 refine g_iload X d10_28 (pc' := 30) rfl rfl ?_
 refine g_aloadN X d10_30 (pc' := 31) rfl rfl rfl ?_
 refine g_arraylength X qb d10_31 (pc' := 32) rfl (z := (3 : Int32)) rfl ?_
 refine g_icN X d10_32 (tlt (show (1 : Int32) < (3 : Int32) from (by decide))).2.1 (pc' := 35) rfl ?_
 refine g_aloadN X d10_35 (pc' := 36) rfl rfl rfl ?_
 refine g_iloadN X d10_36 (pc' := 37) rfl rfl ?_
 refine g_aloadN X d10_37 (pc' := 38) rfl rfl rfl ?_
 refine g_getfield X (host := "") (Or.inl (tb hw 41 rfl)) Via.refl qe d10_38 (pc' := 41) rfl ?_
 intro T X
 refine g_iload X d10_41 (pc' := 43) rfl rfl ?_
 refine g_iaload X qh 1 d10_43 (pc' := 44) rfl (by decide) (by decide) rfl ?_
 refine g_iadd X d10_44 (pc' := 45) rfl ?_
 refine Go.lit32 (z := (1 : Int32)) (by decide) ?_
 refine g_dup2 X d10_45 (pc' := 46) rfl rfl rfl ?_
 refine g_laload X qa 1 d10_46 (pc' := 47) rfl (by decide) (by decide) rfl ?_
 refine g_aloadN X d10_47 (pc' := 48) rfl rfl rfl ?_
 refine g_iload X d10_48 (pc' := 50) rfl rfl ?_
 refine g_iaload X qb 1 d10_50 (pc' := 51) rfl (by decide) (by decide) rfl ?_
 refine g_i2l X d10_51 (pc' := 52) rfl ?_
 refine g_aloadN X d10_52 (pc' := 53) rfl rfl rfl ?_
 refine g_getfield X (host := "") (Or.inl (tb hw 39 rfl)) Via.refl qd d10_53 (pc' := 56) rfl ?_
 intro T X
 refine g_iload X d10_56 (pc' := 58) rfl rfl ?_
 refine g_iaload X qg 1 d10_58 (pc' := 59) rfl (by decide) (by decide) rfl ?_
 refine g_i2l X d10_59 (pc' := 60) rfl ?_
 refine g_lsub X d10_60 (pc' := 61) rfl ?_
 refine g_aloadN X d10_61 (pc' := 62) rfl rfl rfl ?_
 refine g_getfield X (host := "") (Or.inl (tb hw 43 rfl)) Via.refl qf d10_62 (pc' := 65) rfl ?_
 intro T X
 refine g_iload X d10_65 (pc' := 67) rfl rfl ?_
 refine g_iaload X qi 1 d10_67 (pc' := 68) rfl (by decide) (by decide) rfl ?_
 refine g_lshl X d10_68 (pc' := 69) rfl ?_
 refine g_lor X d10_69 (pc' := 70) rfl ?_
 generalize qs : (qp ||| (((x1.toInt64) - (l1.toInt64)) <<< (s1 &&& 0x3f).toInt64)) = qq
 refine g_lastore X qa 1 d10_70 (pc' := 71) rfl (by decide) (by decide) (Nat.le_of_ble_eq_true rfl) ?_
 intro T h X W qa
 replace qa : Av Z h wk .long [(.long k0), (.long qq), (.long k2), (.long k3), (.long k4), (.long k5)] := qa
 replace qd := qd.other W (Or.inl qc)
 replace qe := qe.other W (Or.inl qc)
 replace qf := qf.other W (Or.inl qc)
 replace qg := qg.other W qm
 replace qh := qh.other W qn
 replace qi := qi.other W qo
 replace qb := qb.other W ql
 replace Z0 := Nat.le_trans Z0 (Nat.le_of_eq W.size.symm)
 replace N := Fr.snoc X.1 N qk
 replace Kp := Kp.wr W (Or.inl (List.mem_of_getElem? (i := 0) rfl))
 refine g_iinc X d10_71 (pc' := 74) (q := (1 : Int32)) (Ls' := #[.val (.ref a0), .val (.ref wv), .val (.ref wk), .val (.int (1 : Int32)), .val (.int (2 : Int32))]) rfl rfl rfl rfl ?_
 refine g_goto X d10_74 (pc' := 28) (by decide) (by decide) ?_
 refine g_iload X d10_28 (pc' := 30) rfl rfl ?_
 refine g_aloadN X d10_30 (pc' := 31) rfl rfl rfl ?_
 refine g_arraylength X qb d10_31 (pc' := 32) rfl (z := (3 : Int32)) rfl ?_
 refine g_icN X d10_32 (tlt (show (2 : Int32) < (3 : Int32) from (by decide))).2.1 (pc' := 35) rfl ?_
 refine g_aloadN X d10_35 (pc' := 36) rfl rfl rfl ?_
 refine g_iloadN X d10_36 (pc' := 37) rfl rfl ?_
 refine g_aloadN X d10_37 (pc' := 38) rfl rfl rfl ?_
 refine g_getfield X (host := "") (Or.inl (tb hw 41 rfl)) Via.refl qe d10_38 (pc' := 41) rfl ?_
 intro T X
 refine g_iload X d10_41 (pc' := 43) rfl rfl ?_
 refine g_iaload X qh 2 d10_43 (pc' := 44) rfl (by decide) (by decide) rfl ?_
 refine g_iadd X d10_44 (pc' := 45) rfl ?_
 refine Go.lit32 (z := (1 : Int32)) (by decide) ?_
 refine g_dup2 X d10_45 (pc' := 46) rfl rfl rfl ?_
 refine g_laload X qa 1 d10_46 (pc' := 47) rfl (by decide) (by decide) rfl ?_
 refine g_aloadN X d10_47 (pc' := 48) rfl rfl rfl ?_
 refine g_iload X d10_48 (pc' := 50) rfl rfl ?_
 refine g_iaload X qb 2 d10_50 (pc' := 51) rfl (by decide) (by decide) rfl ?_
 refine g_i2l X d10_51 (pc' := 52) rfl ?_
 refine g_aloadN X d10_52 (pc' := 53) rfl rfl rfl ?_
 refine g_getfield X (host := "") (Or.inl (tb hw 39 rfl)) Via.refl qd d10_53 (pc' := 56) rfl ?_
 intro T X
 refine g_iload X d10_56 (pc' := 58) rfl rfl ?_
 refine g_iaload X qg 2 d10_58 (pc' := 59) rfl (by decide) (by decide) rfl ?_
 refine g_i2l X d10_59 (pc' := 60) rfl ?_
 refine g_lsub X d10_60 (pc' := 61) rfl ?_
 refine g_aloadN X d10_61 (pc' := 62) rfl rfl rfl ?_
 refine g_getfield X (host := "") (Or.inl (tb hw 43 rfl)) Via.refl qf d10_62 (pc' := 65) rfl ?_
 intro T X
 refine g_iload X d10_65 (pc' := 67) rfl rfl ?_
 refine g_iaload X qi 2 d10_67 (pc' := 68) rfl (by decide) (by decide) rfl ?_
 refine g_lshl X d10_68 (pc' := 69) rfl ?_
 refine g_lor X d10_69 (pc' := 70) rfl ?_
 generalize qt : (qq ||| (((x2.toInt64) - (l2.toInt64)) <<< (s2 &&& 0x3f).toInt64)) = qu
 refine g_lastore X qa 1 d10_70 (pc' := 71) rfl (by decide) (by decide) (Nat.le_of_ble_eq_true rfl) ?_
 intro T h X W qa
 replace qa : Av Z h wk .long [(.long k0), (.long qu), (.long k2), (.long k3), (.long k4), (.long k5)] := qa
 replace qb := qb.other W ql
 replace Z0 := Nat.le_trans Z0 (Nat.le_of_eq W.size.symm)
 replace N := Fr.snoc X.1 N qk
 replace Kp := Kp.wr W (Or.inl (List.mem_of_getElem? (i := 0) rfl))
 refine g_iinc X d10_71 (pc' := 74) (q := (1 : Int32)) (Ls' := #[.val (.ref a0), .val (.ref wv), .val (.ref wk), .val (.int (1 : Int32)), .val (.int (3 : Int32))]) rfl rfl rfl rfl ?_
 refine g_goto X d10_74 (pc' := 28) (by decide) (by decide) ?_
 refine g_iload X d10_28 (pc' := 30) rfl rfl ?_
 refine g_aloadN X d10_30 (pc' := 31) rfl rfl rfl ?_
 refine g_arraylength X qb d10_31 (pc' := 32) rfl (z := (3 : Int32)) rfl ?_
 refine g_icY X d10_32 (flt (show ¬ ((3 : Int32) < (3 : Int32)) from (by decide))).2.1 (pc' := 77) (by decide) (by decide) ?_
 refine g_return X d10_77 hret hlk (by decide) (by decide) ?_
 subst qr qs qt
 exact ⟨rfl, N, Kp, qa⟩
theorem ef_rUp01 (m : MethodId) (x0 : Addr) (x1 : Addr) (x2 : Int32) (x3 : Addr) : entryFrame m #[(.ref x0), (.ref x1), (.int x2), (.ref x3)] 5 = mkF m 0 #[.val (.ref x0), .val (.ref x1), .val (.int x2), .val (.ref x3), .unset] [] := by first | (simp [entryFrame, mkF, argsToLocals, Value.category]; done) | rfl
set_option maxRecDepth 65536 in
set_option maxHeartbeats 40000000 in
theorem rUp01 (l : Launch) (Z : State) (aa : Array Value) (hw : ∀ d ∈ tables_1, d.before aa Z = true) (ws : List Jvm.Cond) (a0 : Addr) (wk : Addr) (wv : Addr) (wl : Addr) (ww : Addr) (wt : Addr) (wm : Addr) (l0 : Int32) (l1 : Int32) (l2 : Int32) (s0 : Int32) (s1 : Int32) (s2 : Int32) (m0 : Int64) (m1 : Int64) (m2 : Int64) (k0 : Int64) (k1 : Int64) (k2 : Int64) (k3 : Int64) (k4 : Int64) (k5 : Int64) (x0 : Int32) (x1 : Int32) (x2 : Int32) (h0 : Heap) (n0 : Nat) (Z0 : n0 ≤ h0.size) (qx : Exa Z h0 a0 "com/example/ryazan/ryazan/language/Layout") (qc : Fld Z h0 a0 "com/example/ryazan/ryazan/language/Layout" "low" "[I" (.ref wl)) (qd : Fld Z h0 a0 "com/example/ryazan/ryazan/language/Layout" "word" "[I" (.ref ww)) (qe : Fld Z h0 a0 "com/example/ryazan/ryazan/language/Layout" "shift" "[I" (.ref wt)) (qf : Fld Z h0 a0 "com/example/ryazan/ryazan/language/Layout" "mask" "[J" (.ref wm)) (qg : Av Z h0 wl .int [(.int l0), (.int l1), (.int l2)]) (qh : Av Z h0 ww .int [(.int (0 : Int32)), (.int (0 : Int32)), (.int (0 : Int32))]) (qi : Av Z h0 wt .int [(.int s0), (.int s1), (.int s2)]) (qj : Av Z h0 wm .long [(.long m0), (.long m1), (.long m2)]) (qk : Av Z h0 wk .long [(.long k0), (.long k1), (.long k2), (.long k3), (.long k4), (.long k5)]) (qa : Av Z h0 wv .int [(.int x0), (.int x1), (.int x2)]) (ql : n0 ≤ wv) (qb : a0 ≠ wv) (qn : wl ≠ wv) (qo : ww ≠ wv) (qp : wt ≠ wv) (qq : wm ≠ wv) (qr : wk ≠ wv) :
    Rm l Z (⟨"com/example/ryazan/ryazan/language/Layout", "unpack", "([JI[I)V"⟩ : MethodName) prog_58_method_4_code 5 none ws ({ frames := 0, cells := 0, slots := 0, locals := 0 } : Room) #[(.ref a0), (.ref wk), (.int (1 : Int32)), (.ref wv)] h0 (fun v h L => v = none ∧ Fr n0 L ∧ Keep h0 h [wv] ∧ Av Z h wv .int [(.int (((((k1.toUInt64 >>> (s0 &&& 0x3f).toInt64.toUInt64).toInt64) &&& m0).toInt32) + l0)), (.int (((((k1.toUInt64 >>> (s1 &&& 0x3f).toInt64.toUInt64).toInt64) &&& m1).toInt32) + l1)), (.int (((((k1.toUInt64 >>> (s2 &&& 0x3f).toInt64.toUInt64).toInt64) &&& m2).toInt32) + l2))]) := by
 refine Rm.of (plainFor_of_name pn_3) ?_
 intro p e s m below meth cc T X hnm hret hlk
 refine Go.at_ (ef_rUp01 m a0 wk (1 : Int32) wv) ?_
 have N := Fr.nil n0
 have Kp := Keep.refl h0 [wv]
 refine g_iconst X (0 : Int32) d11_0 (pc' := 1) rfl rfl ?_
 refine g_istore X d11_1 (pc' := 3) (Ls' := #[.val (.ref a0), .val (.ref wk), .val (.int (1 : Int32)), .val (.ref wv), .val (.int (0 : Int32))]) rfl rfl ?_
 refine g_iload X d11_3 (pc' := 5) rfl rfl ?_
 refine g_aloadN X d11_5 (pc' := 6) rfl rfl rfl ?_
 refine g_arraylength X qa d11_6 (pc' := 7) rfl (z := (3 : Int32)) rfl ?_
 refine g_icN X d11_7 (tlt (show (0 : Int32) < (3 : Int32) from (by decide))).2.1 (pc' := 10) rfl ?_
 refine g_aloadN X d11_10 (pc' := 11) rfl rfl rfl ?_
 refine g_iload X d11_11 (pc' := 13) rfl rfl ?_
 refine g_aloadN X d11_13 (pc' := 14) rfl rfl rfl ?_
 refine g_iloadN X d11_14 (pc' := 15) rfl rfl ?_
 refine g_aloadN X d11_15 (pc' := 16) rfl rfl rfl ?_
 refine g_getfield X (host := "") (Or.inl (tb hw 41 rfl)) Via.refl qd d11_16 (pc' := 19) rfl ?_
 intro T X
 refine g_iload X d11_19 (pc' := 21) rfl rfl ?_
 refine g_iaload X qh 0 d11_21 (pc' := 22) rfl (by decide) (by decide) rfl ?_
 refine g_iadd X d11_22 (pc' := 23) rfl ?_
 refine Go.lit32 (z := (1 : Int32)) (by decide) ?_
 refine g_laload X qk 1 d11_23 (pc' := 24) rfl (by decide) (by decide) rfl ?_
 refine g_aloadN X d11_24 (pc' := 25) rfl rfl rfl ?_
 refine g_getfield X (host := "") (Or.inl (tb hw 43 rfl)) Via.refl qe d11_25 (pc' := 28) rfl ?_
 intro T X
 refine g_iload X d11_28 (pc' := 30) rfl rfl ?_
 refine g_iaload X qi 0 d11_30 (pc' := 31) rfl (by decide) (by decide) rfl ?_
 refine g_lushr X d11_31 (pc' := 32) rfl ?_
 refine g_aloadN X d11_32 (pc' := 33) rfl rfl rfl ?_
 refine g_getfield X (host := "") (Or.inl (tb hw 45 rfl)) Via.refl qf d11_33 (pc' := 36) rfl ?_
 intro T X
 refine g_iload X d11_36 (pc' := 38) rfl rfl ?_
 refine g_laload X qj 0 d11_38 (pc' := 39) rfl (by decide) (by decide) rfl ?_
 refine g_land X d11_39 (pc' := 40) rfl ?_
 refine g_l2i X d11_40 (pc' := 41) rfl ?_
 refine g_aloadN X d11_41 (pc' := 42) rfl rfl rfl ?_
 refine g_getfield X (host := "") (Or.inl (tb hw 39 rfl)) Via.refl qc d11_42 (pc' := 45) rfl ?_
 intro T X
 refine g_iload X d11_45 (pc' := 47) rfl rfl ?_
 refine g_iaload X qg 0 d11_47 (pc' := 48) rfl (by decide) (by decide) rfl ?_
 refine g_iadd X d11_48 (pc' := 49) rfl ?_
 generalize qt : (((((k1.toUInt64 >>> (s0 &&& 0x3f).toInt64.toUInt64).toInt64) &&& m0).toInt32) + l0) = qm
 refine g_iastore X qa 0 d11_49 (pc' := 50) rfl (by decide) (by decide) (Nat.le_of_ble_eq_true rfl) ?_
 intro T h X W qa
 replace qa : Av Z h wv .int [(.int qm), (.int x1), (.int x2)] := qa
 replace qc := qc.other W (Or.inl qb)
 replace qd := qd.other W (Or.inl qb)
 replace qe := qe.other W (Or.inl qb)
 replace qf := qf.other W (Or.inl qb)
 replace qg := qg.other W qn
 replace qh := qh.other W qo
 replace qi := qi.other W qp
 replace qj := qj.other W qq
 replace qk := qk.other W qr
 replace Z0 := Nat.le_trans Z0 (Nat.le_of_eq W.size.symm)
 replace N := Fr.snoc X.1 N ql
 replace Kp := Kp.wr W (Or.inl (List.mem_of_getElem? (i := 0) rfl))
 refine g_iinc X d11_50 (pc' := 53) (q := (1 : Int32)) (Ls' := #[.val (.ref a0), .val (.ref wk), .val (.int (1 : Int32)), .val (.ref wv), .val (.int (1 : Int32))]) rfl rfl rfl rfl ?_
 refine g_goto X d11_53 (pc' := 3) (by decide) (by decide) ?_
 refine g_iload X d11_3 (pc' := 5) rfl rfl ?_
 refine g_aloadN X d11_5 (pc' := 6) rfl rfl rfl ?_
 refine g_arraylength X qa d11_6 (pc' := 7) rfl (z := (3 : Int32)) rfl ?_
 refine g_icN X d11_7 (tlt (show (1 : Int32) < (3 : Int32) from (by decide))).2.1 (pc' := 10) rfl ?_
 refine g_aloadN X d11_10 (pc' := 11) rfl rfl rfl ?_
 refine g_iload X d11_11 (pc' := 13) rfl rfl ?_
 refine g_aloadN X d11_13 (pc' := 14) rfl rfl rfl ?_
 refine g_iloadN X d11_14 (pc' := 15) rfl rfl ?_
 refine g_aloadN X d11_15 (pc' := 16) rfl rfl rfl ?_
 refine g_getfield X (host := "") (Or.inl (tb hw 41 rfl)) Via.refl qd d11_16 (pc' := 19) rfl ?_
 intro T X
 refine g_iload X d11_19 (pc' := 21) rfl rfl ?_
 refine g_iaload X qh 1 d11_21 (pc' := 22) rfl (by decide) (by decide) rfl ?_
 refine g_iadd X d11_22 (pc' := 23) rfl ?_
 refine Go.lit32 (z := (1 : Int32)) (by decide) ?_
 refine g_laload X qk 1 d11_23 (pc' := 24) rfl (by decide) (by decide) rfl ?_
 refine g_aloadN X d11_24 (pc' := 25) rfl rfl rfl ?_
 refine g_getfield X (host := "") (Or.inl (tb hw 43 rfl)) Via.refl qe d11_25 (pc' := 28) rfl ?_
 intro T X
 refine g_iload X d11_28 (pc' := 30) rfl rfl ?_
 refine g_iaload X qi 1 d11_30 (pc' := 31) rfl (by decide) (by decide) rfl ?_
 refine g_lushr X d11_31 (pc' := 32) rfl ?_
 refine g_aloadN X d11_32 (pc' := 33) rfl rfl rfl ?_
 refine g_getfield X (host := "") (Or.inl (tb hw 45 rfl)) Via.refl qf d11_33 (pc' := 36) rfl ?_
 intro T X
 refine g_iload X d11_36 (pc' := 38) rfl rfl ?_
 refine g_laload X qj 1 d11_38 (pc' := 39) rfl (by decide) (by decide) rfl ?_
 refine g_land X d11_39 (pc' := 40) rfl ?_
 refine g_l2i X d11_40 (pc' := 41) rfl ?_
 refine g_aloadN X d11_41 (pc' := 42) rfl rfl rfl ?_
 refine g_getfield X (host := "") (Or.inl (tb hw 39 rfl)) Via.refl qc d11_42 (pc' := 45) rfl ?_
 intro T X
 refine g_iload X d11_45 (pc' := 47) rfl rfl ?_
 refine g_iaload X qg 1 d11_47 (pc' := 48) rfl (by decide) (by decide) rfl ?_
 refine g_iadd X d11_48 (pc' := 49) rfl ?_
 generalize qu : (((((k1.toUInt64 >>> (s1 &&& 0x3f).toInt64.toUInt64).toInt64) &&& m1).toInt32) + l1) = qs
 refine g_iastore X qa 1 d11_49 (pc' := 50) rfl (by decide) (by decide) (Nat.le_of_ble_eq_true rfl) ?_
 intro T h X W qa
 replace qa : Av Z h wv .int [(.int qm), (.int qs), (.int x2)] := qa
 replace qc := qc.other W (Or.inl qb)
 replace qd := qd.other W (Or.inl qb)
 replace qe := qe.other W (Or.inl qb)
 replace qf := qf.other W (Or.inl qb)
 replace qg := qg.other W qn
 replace qh := qh.other W qo
 replace qi := qi.other W qp
 replace qj := qj.other W qq
 replace qk := qk.other W qr
 replace Z0 := Nat.le_trans Z0 (Nat.le_of_eq W.size.symm)
 replace N := Fr.snoc X.1 N ql
 replace Kp := Kp.wr W (Or.inl (List.mem_of_getElem? (i := 0) rfl))
 refine g_iinc X d11_50 (pc' := 53) (q := (1 : Int32)) (Ls' := #[.val (.ref a0), .val (.ref wk), .val (.int (1 : Int32)), .val (.ref wv), .val (.int (2 : Int32))]) rfl rfl rfl rfl ?_
 refine g_goto X d11_53 (pc' := 3) (by decide) (by decide) ?_
 refine g_iload X d11_3 (pc' := 5) rfl rfl ?_
 refine g_aloadN X d11_5 (pc' := 6) rfl rfl rfl ?_
 refine g_arraylength X qa d11_6 (pc' := 7) rfl (z := (3 : Int32)) rfl ?_
 refine g_icN X d11_7 (tlt (show (2 : Int32) < (3 : Int32) from (by decide))).2.1 (pc' := 10) rfl ?_
 refine g_aloadN X d11_10 (pc' := 11) rfl rfl rfl ?_
 refine g_iload X d11_11 (pc' := 13) rfl rfl ?_
 refine g_aloadN X d11_13 (pc' := 14) rfl rfl rfl ?_
 refine g_iloadN X d11_14 (pc' := 15) rfl rfl ?_
 refine g_aloadN X d11_15 (pc' := 16) rfl rfl rfl ?_
 refine g_getfield X (host := "") (Or.inl (tb hw 41 rfl)) Via.refl qd d11_16 (pc' := 19) rfl ?_
 intro T X
 refine g_iload X d11_19 (pc' := 21) rfl rfl ?_
 refine g_iaload X qh 2 d11_21 (pc' := 22) rfl (by decide) (by decide) rfl ?_
 refine g_iadd X d11_22 (pc' := 23) rfl ?_
 refine Go.lit32 (z := (1 : Int32)) (by decide) ?_
 refine g_laload X qk 1 d11_23 (pc' := 24) rfl (by decide) (by decide) rfl ?_
 refine g_aloadN X d11_24 (pc' := 25) rfl rfl rfl ?_
 refine g_getfield X (host := "") (Or.inl (tb hw 43 rfl)) Via.refl qe d11_25 (pc' := 28) rfl ?_
 intro T X
 refine g_iload X d11_28 (pc' := 30) rfl rfl ?_
 refine g_iaload X qi 2 d11_30 (pc' := 31) rfl (by decide) (by decide) rfl ?_
 refine g_lushr X d11_31 (pc' := 32) rfl ?_
 refine g_aloadN X d11_32 (pc' := 33) rfl rfl rfl ?_
 refine g_getfield X (host := "") (Or.inl (tb hw 45 rfl)) Via.refl qf d11_33 (pc' := 36) rfl ?_
 intro T X
 refine g_iload X d11_36 (pc' := 38) rfl rfl ?_
 refine g_laload X qj 2 d11_38 (pc' := 39) rfl (by decide) (by decide) rfl ?_
 refine g_land X d11_39 (pc' := 40) rfl ?_
 refine g_l2i X d11_40 (pc' := 41) rfl ?_
 refine g_aloadN X d11_41 (pc' := 42) rfl rfl rfl ?_
 refine g_getfield X (host := "") (Or.inl (tb hw 39 rfl)) Via.refl qc d11_42 (pc' := 45) rfl ?_
 intro T X
 refine g_iload X d11_45 (pc' := 47) rfl rfl ?_
 refine g_iaload X qg 2 d11_47 (pc' := 48) rfl (by decide) (by decide) rfl ?_
 refine g_iadd X d11_48 (pc' := 49) rfl ?_
 generalize qv : (((((k1.toUInt64 >>> (s2 &&& 0x3f).toInt64.toUInt64).toInt64) &&& m2).toInt32) + l2) = qw
 refine g_iastore X qa 2 d11_49 (pc' := 50) rfl (by decide) (by decide) (Nat.le_of_ble_eq_true rfl) ?_
 intro T h X W qa
 replace qa : Av Z h wv .int [(.int qm), (.int qs), (.int qw)] := qa
 replace Z0 := Nat.le_trans Z0 (Nat.le_of_eq W.size.symm)
 replace N := Fr.snoc X.1 N ql
 replace Kp := Kp.wr W (Or.inl (List.mem_of_getElem? (i := 0) rfl))
 refine g_iinc X d11_50 (pc' := 53) (q := (1 : Int32)) (Ls' := #[.val (.ref a0), .val (.ref wk), .val (.int (1 : Int32)), .val (.ref wv), .val (.int (3 : Int32))]) rfl rfl rfl rfl ?_
 refine g_goto X d11_53 (pc' := 3) (by decide) (by decide) ?_
 refine g_iload X d11_3 (pc' := 5) rfl rfl ?_
 refine g_aloadN X d11_5 (pc' := 6) rfl rfl rfl ?_
 refine g_arraylength X qa d11_6 (pc' := 7) rfl (z := (3 : Int32)) rfl ?_
 refine g_icY X d11_7 (flt (show ¬ ((3 : Int32) < (3 : Int32)) from (by decide))).2.1 (pc' := 56) (by decide) (by decide) ?_
 refine g_return X d11_56 hret hlk (by decide) (by decide) ?_
 subst qt qu qv
 exact ⟨rfl, N, Kp, qa⟩
theorem ef_rPk02 (m : MethodId) (x0 : Addr) (x1 : Addr) (x2 : Addr) (x3 : Int32) : entryFrame m #[(.ref x0), (.ref x1), (.ref x2), (.int x3)] 5 = mkF m 0 #[.val (.ref x0), .val (.ref x1), .val (.ref x2), .val (.int x3), .unset] [] := by first | (simp [entryFrame, mkF, argsToLocals, Value.category]; done) | rfl
set_option maxRecDepth 65536 in
set_option maxHeartbeats 40000000 in
theorem rPk02 (l : Launch) (Z : State) (aa : Array Value) (hw : ∀ d ∈ tables_1, d.before aa Z = true) (ws : List Jvm.Cond) (a0 : Addr) (wv : Addr) (wk : Addr) (wl : Addr) (ww : Addr) (wt : Addr) (l0 : Int32) (l1 : Int32) (l2 : Int32) (s0 : Int32) (s1 : Int32) (s2 : Int32) (x0 : Int32) (x1 : Int32) (x2 : Int32) (k0 : Int64) (k1 : Int64) (k2 : Int64) (k3 : Int64) (k4 : Int64) (k5 : Int64) (h0 : Heap) (n0 : Nat) (Z0 : n0 ≤ h0.size) (qv : Exa Z h0 a0 "com/example/ryazan/ryazan/language/Layout") (qd : Fld Z h0 a0 "com/example/ryazan/ryazan/language/Layout" "low" "[I" (.ref wl)) (qe : Fld Z h0 a0 "com/example/ryazan/ryazan/language/Layout" "word" "[I" (.ref ww)) (qf : Fld Z h0 a0 "com/example/ryazan/ryazan/language/Layout" "shift" "[I" (.ref wt)) (qj : Fld Z h0 a0 "com/example/ryazan/ryazan/language/Layout" "width" "I" (.int (1 : Int32))) (qg : Av Z h0 wl .int [(.int l0), (.int l1), (.int l2)]) (qh : Av Z h0 ww .int [(.int (0 : Int32)), (.int (0 : Int32)), (.int (0 : Int32))]) (qi : Av Z h0 wt .int [(.int s0), (.int s1), (.int s2)]) (qb : Av Z h0 wv .int [(.int x0), (.int x1), (.int x2)]) (qa : Av Z h0 wk .long [(.long k0), (.long k1), (.long k2), (.long k3), (.long k4), (.long k5)]) (qk : n0 ≤ wk) (qc : a0 ≠ wk) (qm : wl ≠ wk) (qn : ww ≠ wk) (qo : wt ≠ wk) (ql : wv ≠ wk) :
    Rm l Z (⟨"com/example/ryazan/ryazan/language/Layout", "pack", "([I[JI)V"⟩ : MethodName) prog_58_method_3_code 5 none ws ({ frames := 0, cells := 0, slots := 0, locals := 0 } : Room) #[(.ref a0), (.ref wv), (.ref wk), (.int (2 : Int32))] h0 (fun v h L => v = none ∧ Fr n0 L ∧ Keep h0 h [wk] ∧ Av Z h wk .long [(.long k0), (.long k1), (.long ((((0 : Int64) ||| (((x0.toInt64) - (l0.toInt64)) <<< (s0 &&& 0x3f).toInt64)) ||| (((x1.toInt64) - (l1.toInt64)) <<< (s1 &&& 0x3f).toInt64)) ||| (((x2.toInt64) - (l2.toInt64)) <<< (s2 &&& 0x3f).toInt64))), (.long k3), (.long k4), (.long k5)]) := by
 refine Rm.of (plainFor_of_name pn_3) ?_
 intro p e s m below meth cc T X hnm hret hlk
 refine Go.at_ (ef_rPk02 m a0 wv wk (2 : Int32)) ?_
 have N := Fr.nil n0
 have Kp := Keep.refl h0 [wk]
 refine g_iconst X (0 : Int32) d10_0 (pc' := 1) rfl rfl ?_
 refine g_istore X d10_1 (pc' := 3) (Ls' := #[.val (.ref a0), .val (.ref wv), .val (.ref wk), .val (.int (2 : Int32)), .val (.int (0 : Int32))]) rfl rfl ?_
 refine g_iload X d10_3 (pc' := 5) rfl rfl ?_
 refine g_aloadN X d10_5 (pc' := 6) rfl rfl rfl ?_
 refine g_getfield X (host := "") (Or.inl (tb hw 56 rfl)) Via.refl qj d10_6 (pc' := 9) rfl ?_
 intro T X
 refine g_icN X d10_9 (tlt (show (0 : Int32) < (1 : Int32) from (by decide))).2.1 (pc' := 12) rfl ?_
 refine g_aloadN X d10_12 (pc' := 13) rfl rfl rfl ?_
 refine g_iloadN X d10_13 (pc' := 14) rfl rfl ?_
 refine g_iload X d10_14 (pc' := 16) rfl rfl ?_
 refine g_iadd X d10_16 (pc' := 17) rfl ?_
 refine Go.lit32 (z := (2 : Int32)) (by decide) ?_
 refine g_lconst X (0 : Int64) d10_17 (pc' := 18) rfl rfl ?_
 refine g_lastore X qa 2 d10_18 (pc' := 19) rfl (by decide) (by decide) (Nat.le_of_ble_eq_true rfl) ?_
 intro T h X W qa
 replace qa : Av Z h wk .long [(.long k0), (.long k1), (.long (0 : Int64)), (.long k3), (.long k4), (.long k5)] := qa
 replace qd := qd.other W (Or.inl qc)
 replace qe := qe.other W (Or.inl qc)
 replace qf := qf.other W (Or.inl qc)
 replace qj := qj.other W (Or.inl qc)
 replace qg := qg.other W qm
 replace qh := qh.other W qn
 replace qi := qi.other W qo
 replace qb := qb.other W ql
 replace Z0 := Nat.le_trans Z0 (Nat.le_of_eq W.size.symm)
 replace N := Fr.snoc X.1 N qk
 replace Kp := Kp.wr W (Or.inl (List.mem_of_getElem? (i := 0) rfl))
 refine g_iinc X d10_19 (pc' := 22) (q := (1 : Int32)) (Ls' := #[.val (.ref a0), .val (.ref wv), .val (.ref wk), .val (.int (2 : Int32)), .val (.int (1 : Int32))]) rfl rfl rfl rfl ?_
 refine g_goto X d10_22 (pc' := 3) (by decide) (by decide) ?_
 refine g_iload X d10_3 (pc' := 5) rfl rfl ?_
 refine g_aloadN X d10_5 (pc' := 6) rfl rfl rfl ?_
 refine g_getfield X (host := "") (Or.inl (tb hw 56 rfl)) Via.refl qj d10_6 (pc' := 9) rfl ?_
 intro T X
 refine g_icY X d10_9 (flt (show ¬ ((1 : Int32) < (1 : Int32)) from (by decide))).2.1 (pc' := 25) (by decide) (by decide) ?_
 refine g_iconst X (0 : Int32) d10_25 (pc' := 26) rfl rfl ?_
 refine g_istore X d10_26 (pc' := 28) (Ls' := #[.val (.ref a0), .val (.ref wv), .val (.ref wk), .val (.int (2 : Int32)), .val (.int (0 : Int32))]) rfl rfl ?_
 refine g_iload X d10_28 (pc' := 30) rfl rfl ?_
 refine g_aloadN X d10_30 (pc' := 31) rfl rfl rfl ?_
 refine g_arraylength X qb d10_31 (pc' := 32) rfl (z := (3 : Int32)) rfl ?_
 refine g_icN X d10_32 (tlt (show (0 : Int32) < (3 : Int32) from (by decide))).2.1 (pc' := 35) rfl ?_
 refine g_aloadN X d10_35 (pc' := 36) rfl rfl rfl ?_
 refine g_iloadN X d10_36 (pc' := 37) rfl rfl ?_
 refine g_aloadN X d10_37 (pc' := 38) rfl rfl rfl ?_
 refine g_getfield X (host := "") (Or.inl (tb hw 41 rfl)) Via.refl qe d10_38 (pc' := 41) rfl ?_
 intro T X
 refine g_iload X d10_41 (pc' := 43) rfl rfl ?_
 refine g_iaload X qh 0 d10_43 (pc' := 44) rfl (by decide) (by decide) rfl ?_
 refine g_iadd X d10_44 (pc' := 45) rfl ?_
 refine Go.lit32 (z := (2 : Int32)) (by decide) ?_
 refine g_dup2 X d10_45 (pc' := 46) rfl rfl rfl ?_
 refine g_laload X qa 2 d10_46 (pc' := 47) rfl (by decide) (by decide) rfl ?_
 refine g_aloadN X d10_47 (pc' := 48) rfl rfl rfl ?_
 refine g_iload X d10_48 (pc' := 50) rfl rfl ?_
 refine g_iaload X qb 0 d10_50 (pc' := 51) rfl (by decide) (by decide) rfl ?_
 refine g_i2l X d10_51 (pc' := 52) rfl ?_
 refine g_aloadN X d10_52 (pc' := 53) rfl rfl rfl ?_
 refine g_getfield X (host := "") (Or.inl (tb hw 39 rfl)) Via.refl qd d10_53 (pc' := 56) rfl ?_
 intro T X
 refine g_iload X d10_56 (pc' := 58) rfl rfl ?_
 refine g_iaload X qg 0 d10_58 (pc' := 59) rfl (by decide) (by decide) rfl ?_
 refine g_i2l X d10_59 (pc' := 60) rfl ?_
 refine g_lsub X d10_60 (pc' := 61) rfl ?_
 refine g_aloadN X d10_61 (pc' := 62) rfl rfl rfl ?_
 refine g_getfield X (host := "") (Or.inl (tb hw 43 rfl)) Via.refl qf d10_62 (pc' := 65) rfl ?_
 intro T X
 refine g_iload X d10_65 (pc' := 67) rfl rfl ?_
 refine g_iaload X qi 0 d10_67 (pc' := 68) rfl (by decide) (by decide) rfl ?_
 refine g_lshl X d10_68 (pc' := 69) rfl ?_
 refine g_lor X d10_69 (pc' := 70) rfl ?_
 generalize qr : ((0 : Int64) ||| (((x0.toInt64) - (l0.toInt64)) <<< (s0 &&& 0x3f).toInt64)) = qp
 refine g_lastore X qa 2 d10_70 (pc' := 71) rfl (by decide) (by decide) (Nat.le_of_ble_eq_true rfl) ?_
 intro T h X W qa
 replace qa : Av Z h wk .long [(.long k0), (.long k1), (.long qp), (.long k3), (.long k4), (.long k5)] := qa
 replace qd := qd.other W (Or.inl qc)
 replace qe := qe.other W (Or.inl qc)
 replace qf := qf.other W (Or.inl qc)
 replace qg := qg.other W qm
 replace qh := qh.other W qn
 replace qi := qi.other W qo
 replace qb := qb.other W ql
 replace Z0 := Nat.le_trans Z0 (Nat.le_of_eq W.size.symm)
 replace N := Fr.snoc X.1 N qk
 replace Kp := Kp.wr W (Or.inl (List.mem_of_getElem? (i := 0) rfl))
 refine g_iinc X d10_71 (pc' := 74) (q := (1 : Int32)) (Ls' := #[.val (.ref a0), .val (.ref wv), .val (.ref wk), .val (.int (2 : Int32)), .val (.int (1 : Int32))]) rfl rfl rfl rfl ?_
 refine g_goto X d10_74 (pc' := 28) (by decide) (by decide) ?_
 refine g_iload X d10_28 (pc' := 30) rfl rfl ?_
 refine g_aloadN X d10_30 (pc' := 31) rfl rfl rfl ?_
 refine g_arraylength X qb d10_31 (pc' := 32) rfl (z := (3 : Int32)) rfl ?_
 refine g_icN X d10_32 (tlt (show (1 : Int32) < (3 : Int32) from (by decide))).2.1 (pc' := 35) rfl ?_
 refine g_aloadN X d10_35 (pc' := 36) rfl rfl rfl ?_
 refine g_iloadN X d10_36 (pc' := 37) rfl rfl ?_
 refine g_aloadN X d10_37 (pc' := 38) rfl rfl rfl ?_
 refine g_getfield X (host := "") (Or.inl (tb hw 41 rfl)) Via.refl qe d10_38 (pc' := 41) rfl ?_
 intro T X
 refine g_iload X d10_41 (pc' := 43) rfl rfl ?_
 refine g_iaload X qh 1 d10_43 (pc' := 44) rfl (by decide) (by decide) rfl ?_
 refine g_iadd X d10_44 (pc' := 45) rfl ?_
 refine Go.lit32 (z := (2 : Int32)) (by decide) ?_
 refine g_dup2 X d10_45 (pc' := 46) rfl rfl rfl ?_
 refine g_laload X qa 2 d10_46 (pc' := 47) rfl (by decide) (by decide) rfl ?_
 refine g_aloadN X d10_47 (pc' := 48) rfl rfl rfl ?_
 refine g_iload X d10_48 (pc' := 50) rfl rfl ?_
 refine g_iaload X qb 1 d10_50 (pc' := 51) rfl (by decide) (by decide) rfl ?_
 refine g_i2l X d10_51 (pc' := 52) rfl ?_
 refine g_aloadN X d10_52 (pc' := 53) rfl rfl rfl ?_
 refine g_getfield X (host := "") (Or.inl (tb hw 39 rfl)) Via.refl qd d10_53 (pc' := 56) rfl ?_
 intro T X
 refine g_iload X d10_56 (pc' := 58) rfl rfl ?_
 refine g_iaload X qg 1 d10_58 (pc' := 59) rfl (by decide) (by decide) rfl ?_
 refine g_i2l X d10_59 (pc' := 60) rfl ?_
 refine g_lsub X d10_60 (pc' := 61) rfl ?_
 refine g_aloadN X d10_61 (pc' := 62) rfl rfl rfl ?_
 refine g_getfield X (host := "") (Or.inl (tb hw 43 rfl)) Via.refl qf d10_62 (pc' := 65) rfl ?_
 intro T X
 refine g_iload X d10_65 (pc' := 67) rfl rfl ?_
 refine g_iaload X qi 1 d10_67 (pc' := 68) rfl (by decide) (by decide) rfl ?_
 refine g_lshl X d10_68 (pc' := 69) rfl ?_
 refine g_lor X d10_69 (pc' := 70) rfl ?_
 generalize qs : (qp ||| (((x1.toInt64) - (l1.toInt64)) <<< (s1 &&& 0x3f).toInt64)) = qq
 refine g_lastore X qa 2 d10_70 (pc' := 71) rfl (by decide) (by decide) (Nat.le_of_ble_eq_true rfl) ?_
 intro T h X W qa
 replace qa : Av Z h wk .long [(.long k0), (.long k1), (.long qq), (.long k3), (.long k4), (.long k5)] := qa
 replace qd := qd.other W (Or.inl qc)
 replace qe := qe.other W (Or.inl qc)
 replace qf := qf.other W (Or.inl qc)
 replace qg := qg.other W qm
 replace qh := qh.other W qn
 replace qi := qi.other W qo
 replace qb := qb.other W ql
 replace Z0 := Nat.le_trans Z0 (Nat.le_of_eq W.size.symm)
 replace N := Fr.snoc X.1 N qk
 replace Kp := Kp.wr W (Or.inl (List.mem_of_getElem? (i := 0) rfl))
 refine g_iinc X d10_71 (pc' := 74) (q := (1 : Int32)) (Ls' := #[.val (.ref a0), .val (.ref wv), .val (.ref wk), .val (.int (2 : Int32)), .val (.int (2 : Int32))]) rfl rfl rfl rfl ?_
 refine g_goto X d10_74 (pc' := 28) (by decide) (by decide) ?_
 refine g_iload X d10_28 (pc' := 30) rfl rfl ?_
 refine g_aloadN X d10_30 (pc' := 31) rfl rfl rfl ?_
 refine g_arraylength X qb d10_31 (pc' := 32) rfl (z := (3 : Int32)) rfl ?_
 refine g_icN X d10_32 (tlt (show (2 : Int32) < (3 : Int32) from (by decide))).2.1 (pc' := 35) rfl ?_
 refine g_aloadN X d10_35 (pc' := 36) rfl rfl rfl ?_
 refine g_iloadN X d10_36 (pc' := 37) rfl rfl ?_
 refine g_aloadN X d10_37 (pc' := 38) rfl rfl rfl ?_
 refine g_getfield X (host := "") (Or.inl (tb hw 41 rfl)) Via.refl qe d10_38 (pc' := 41) rfl ?_
 intro T X
 refine g_iload X d10_41 (pc' := 43) rfl rfl ?_
 refine g_iaload X qh 2 d10_43 (pc' := 44) rfl (by decide) (by decide) rfl ?_
 refine g_iadd X d10_44 (pc' := 45) rfl ?_
 refine Go.lit32 (z := (2 : Int32)) (by decide) ?_
 refine g_dup2 X d10_45 (pc' := 46) rfl rfl rfl ?_
 refine g_laload X qa 2 d10_46 (pc' := 47) rfl (by decide) (by decide) rfl ?_
 refine g_aloadN X d10_47 (pc' := 48) rfl rfl rfl ?_
 refine g_iload X d10_48 (pc' := 50) rfl rfl ?_
 refine g_iaload X qb 2 d10_50 (pc' := 51) rfl (by decide) (by decide) rfl ?_
 refine g_i2l X d10_51 (pc' := 52) rfl ?_
 refine g_aloadN X d10_52 (pc' := 53) rfl rfl rfl ?_
 refine g_getfield X (host := "") (Or.inl (tb hw 39 rfl)) Via.refl qd d10_53 (pc' := 56) rfl ?_
 intro T X
 refine g_iload X d10_56 (pc' := 58) rfl rfl ?_
 refine g_iaload X qg 2 d10_58 (pc' := 59) rfl (by decide) (by decide) rfl ?_
 refine g_i2l X d10_59 (pc' := 60) rfl ?_
 refine g_lsub X d10_60 (pc' := 61) rfl ?_
 refine g_aloadN X d10_61 (pc' := 62) rfl rfl rfl ?_
 refine g_getfield X (host := "") (Or.inl (tb hw 43 rfl)) Via.refl qf d10_62 (pc' := 65) rfl ?_
 intro T X
 refine g_iload X d10_65 (pc' := 67) rfl rfl ?_
 refine g_iaload X qi 2 d10_67 (pc' := 68) rfl (by decide) (by decide) rfl ?_
 refine g_lshl X d10_68 (pc' := 69) rfl ?_
 refine g_lor X d10_69 (pc' := 70) rfl ?_
 generalize qt : (qq ||| (((x2.toInt64) - (l2.toInt64)) <<< (s2 &&& 0x3f).toInt64)) = qu
 refine g_lastore X qa 2 d10_70 (pc' := 71) rfl (by decide) (by decide) (Nat.le_of_ble_eq_true rfl) ?_
 intro T h X W qa
 replace qa : Av Z h wk .long [(.long k0), (.long k1), (.long qu), (.long k3), (.long k4), (.long k5)] := qa
 replace qb := qb.other W ql
 replace Z0 := Nat.le_trans Z0 (Nat.le_of_eq W.size.symm)
 replace N := Fr.snoc X.1 N qk
 replace Kp := Kp.wr W (Or.inl (List.mem_of_getElem? (i := 0) rfl))
 refine g_iinc X d10_71 (pc' := 74) (q := (1 : Int32)) (Ls' := #[.val (.ref a0), .val (.ref wv), .val (.ref wk), .val (.int (2 : Int32)), .val (.int (3 : Int32))]) rfl rfl rfl rfl ?_
 refine g_goto X d10_74 (pc' := 28) (by decide) (by decide) ?_
 refine g_iload X d10_28 (pc' := 30) rfl rfl ?_
 refine g_aloadN X d10_30 (pc' := 31) rfl rfl rfl ?_
 refine g_arraylength X qb d10_31 (pc' := 32) rfl (z := (3 : Int32)) rfl ?_
 refine g_icY X d10_32 (flt (show ¬ ((3 : Int32) < (3 : Int32)) from (by decide))).2.1 (pc' := 77) (by decide) (by decide) ?_
 refine g_return X d10_77 hret hlk (by decide) (by decide) ?_
 subst qr qs qt
 exact ⟨rfl, N, Kp, qa⟩
theorem ef_rUp02 (m : MethodId) (x0 : Addr) (x1 : Addr) (x2 : Int32) (x3 : Addr) : entryFrame m #[(.ref x0), (.ref x1), (.int x2), (.ref x3)] 5 = mkF m 0 #[.val (.ref x0), .val (.ref x1), .val (.int x2), .val (.ref x3), .unset] [] := by first | (simp [entryFrame, mkF, argsToLocals, Value.category]; done) | rfl
set_option maxRecDepth 65536 in
set_option maxHeartbeats 40000000 in
theorem rUp02 (l : Launch) (Z : State) (aa : Array Value) (hw : ∀ d ∈ tables_1, d.before aa Z = true) (ws : List Jvm.Cond) (a0 : Addr) (wk : Addr) (wv : Addr) (wl : Addr) (ww : Addr) (wt : Addr) (wm : Addr) (l0 : Int32) (l1 : Int32) (l2 : Int32) (s0 : Int32) (s1 : Int32) (s2 : Int32) (m0 : Int64) (m1 : Int64) (m2 : Int64) (k0 : Int64) (k1 : Int64) (k2 : Int64) (k3 : Int64) (k4 : Int64) (k5 : Int64) (x0 : Int32) (x1 : Int32) (x2 : Int32) (h0 : Heap) (n0 : Nat) (Z0 : n0 ≤ h0.size) (qx : Exa Z h0 a0 "com/example/ryazan/ryazan/language/Layout") (qc : Fld Z h0 a0 "com/example/ryazan/ryazan/language/Layout" "low" "[I" (.ref wl)) (qd : Fld Z h0 a0 "com/example/ryazan/ryazan/language/Layout" "word" "[I" (.ref ww)) (qe : Fld Z h0 a0 "com/example/ryazan/ryazan/language/Layout" "shift" "[I" (.ref wt)) (qf : Fld Z h0 a0 "com/example/ryazan/ryazan/language/Layout" "mask" "[J" (.ref wm)) (qg : Av Z h0 wl .int [(.int l0), (.int l1), (.int l2)]) (qh : Av Z h0 ww .int [(.int (0 : Int32)), (.int (0 : Int32)), (.int (0 : Int32))]) (qi : Av Z h0 wt .int [(.int s0), (.int s1), (.int s2)]) (qj : Av Z h0 wm .long [(.long m0), (.long m1), (.long m2)]) (qk : Av Z h0 wk .long [(.long k0), (.long k1), (.long k2), (.long k3), (.long k4), (.long k5)]) (qa : Av Z h0 wv .int [(.int x0), (.int x1), (.int x2)]) (ql : n0 ≤ wv) (qb : a0 ≠ wv) (qn : wl ≠ wv) (qo : ww ≠ wv) (qp : wt ≠ wv) (qq : wm ≠ wv) (qr : wk ≠ wv) :
    Rm l Z (⟨"com/example/ryazan/ryazan/language/Layout", "unpack", "([JI[I)V"⟩ : MethodName) prog_58_method_4_code 5 none ws ({ frames := 0, cells := 0, slots := 0, locals := 0 } : Room) #[(.ref a0), (.ref wk), (.int (2 : Int32)), (.ref wv)] h0 (fun v h L => v = none ∧ Fr n0 L ∧ Keep h0 h [wv] ∧ Av Z h wv .int [(.int (((((k2.toUInt64 >>> (s0 &&& 0x3f).toInt64.toUInt64).toInt64) &&& m0).toInt32) + l0)), (.int (((((k2.toUInt64 >>> (s1 &&& 0x3f).toInt64.toUInt64).toInt64) &&& m1).toInt32) + l1)), (.int (((((k2.toUInt64 >>> (s2 &&& 0x3f).toInt64.toUInt64).toInt64) &&& m2).toInt32) + l2))]) := by
 refine Rm.of (plainFor_of_name pn_3) ?_
 intro p e s m below meth cc T X hnm hret hlk
 refine Go.at_ (ef_rUp02 m a0 wk (2 : Int32) wv) ?_
 have N := Fr.nil n0
 have Kp := Keep.refl h0 [wv]
 refine g_iconst X (0 : Int32) d11_0 (pc' := 1) rfl rfl ?_
 refine g_istore X d11_1 (pc' := 3) (Ls' := #[.val (.ref a0), .val (.ref wk), .val (.int (2 : Int32)), .val (.ref wv), .val (.int (0 : Int32))]) rfl rfl ?_
 refine g_iload X d11_3 (pc' := 5) rfl rfl ?_
 refine g_aloadN X d11_5 (pc' := 6) rfl rfl rfl ?_
 refine g_arraylength X qa d11_6 (pc' := 7) rfl (z := (3 : Int32)) rfl ?_
 refine g_icN X d11_7 (tlt (show (0 : Int32) < (3 : Int32) from (by decide))).2.1 (pc' := 10) rfl ?_
 refine g_aloadN X d11_10 (pc' := 11) rfl rfl rfl ?_
 refine g_iload X d11_11 (pc' := 13) rfl rfl ?_
 refine g_aloadN X d11_13 (pc' := 14) rfl rfl rfl ?_
 refine g_iloadN X d11_14 (pc' := 15) rfl rfl ?_
 refine g_aloadN X d11_15 (pc' := 16) rfl rfl rfl ?_
 refine g_getfield X (host := "") (Or.inl (tb hw 41 rfl)) Via.refl qd d11_16 (pc' := 19) rfl ?_
 intro T X
 refine g_iload X d11_19 (pc' := 21) rfl rfl ?_
 refine g_iaload X qh 0 d11_21 (pc' := 22) rfl (by decide) (by decide) rfl ?_
 refine g_iadd X d11_22 (pc' := 23) rfl ?_
 refine Go.lit32 (z := (2 : Int32)) (by decide) ?_
 refine g_laload X qk 2 d11_23 (pc' := 24) rfl (by decide) (by decide) rfl ?_
 refine g_aloadN X d11_24 (pc' := 25) rfl rfl rfl ?_
 refine g_getfield X (host := "") (Or.inl (tb hw 43 rfl)) Via.refl qe d11_25 (pc' := 28) rfl ?_
 intro T X
 refine g_iload X d11_28 (pc' := 30) rfl rfl ?_
 refine g_iaload X qi 0 d11_30 (pc' := 31) rfl (by decide) (by decide) rfl ?_
 refine g_lushr X d11_31 (pc' := 32) rfl ?_
 refine g_aloadN X d11_32 (pc' := 33) rfl rfl rfl ?_
 refine g_getfield X (host := "") (Or.inl (tb hw 45 rfl)) Via.refl qf d11_33 (pc' := 36) rfl ?_
 intro T X
 refine g_iload X d11_36 (pc' := 38) rfl rfl ?_
 refine g_laload X qj 0 d11_38 (pc' := 39) rfl (by decide) (by decide) rfl ?_
 refine g_land X d11_39 (pc' := 40) rfl ?_
 refine g_l2i X d11_40 (pc' := 41) rfl ?_
 refine g_aloadN X d11_41 (pc' := 42) rfl rfl rfl ?_
 refine g_getfield X (host := "") (Or.inl (tb hw 39 rfl)) Via.refl qc d11_42 (pc' := 45) rfl ?_
 intro T X
 refine g_iload X d11_45 (pc' := 47) rfl rfl ?_
 refine g_iaload X qg 0 d11_47 (pc' := 48) rfl (by decide) (by decide) rfl ?_
 refine g_iadd X d11_48 (pc' := 49) rfl ?_
 generalize qt : (((((k2.toUInt64 >>> (s0 &&& 0x3f).toInt64.toUInt64).toInt64) &&& m0).toInt32) + l0) = qm
 refine g_iastore X qa 0 d11_49 (pc' := 50) rfl (by decide) (by decide) (Nat.le_of_ble_eq_true rfl) ?_
 intro T h X W qa
 replace qa : Av Z h wv .int [(.int qm), (.int x1), (.int x2)] := qa
 replace qc := qc.other W (Or.inl qb)
 replace qd := qd.other W (Or.inl qb)
 replace qe := qe.other W (Or.inl qb)
 replace qf := qf.other W (Or.inl qb)
 replace qg := qg.other W qn
 replace qh := qh.other W qo
 replace qi := qi.other W qp
 replace qj := qj.other W qq
 replace qk := qk.other W qr
 replace Z0 := Nat.le_trans Z0 (Nat.le_of_eq W.size.symm)
 replace N := Fr.snoc X.1 N ql
 replace Kp := Kp.wr W (Or.inl (List.mem_of_getElem? (i := 0) rfl))
 refine g_iinc X d11_50 (pc' := 53) (q := (1 : Int32)) (Ls' := #[.val (.ref a0), .val (.ref wk), .val (.int (2 : Int32)), .val (.ref wv), .val (.int (1 : Int32))]) rfl rfl rfl rfl ?_
 refine g_goto X d11_53 (pc' := 3) (by decide) (by decide) ?_
 refine g_iload X d11_3 (pc' := 5) rfl rfl ?_
 refine g_aloadN X d11_5 (pc' := 6) rfl rfl rfl ?_
 refine g_arraylength X qa d11_6 (pc' := 7) rfl (z := (3 : Int32)) rfl ?_
 refine g_icN X d11_7 (tlt (show (1 : Int32) < (3 : Int32) from (by decide))).2.1 (pc' := 10) rfl ?_
 refine g_aloadN X d11_10 (pc' := 11) rfl rfl rfl ?_
 refine g_iload X d11_11 (pc' := 13) rfl rfl ?_
 refine g_aloadN X d11_13 (pc' := 14) rfl rfl rfl ?_
 refine g_iloadN X d11_14 (pc' := 15) rfl rfl ?_
 refine g_aloadN X d11_15 (pc' := 16) rfl rfl rfl ?_
 refine g_getfield X (host := "") (Or.inl (tb hw 41 rfl)) Via.refl qd d11_16 (pc' := 19) rfl ?_
 intro T X
 refine g_iload X d11_19 (pc' := 21) rfl rfl ?_
 refine g_iaload X qh 1 d11_21 (pc' := 22) rfl (by decide) (by decide) rfl ?_
 refine g_iadd X d11_22 (pc' := 23) rfl ?_
 refine Go.lit32 (z := (2 : Int32)) (by decide) ?_
 refine g_laload X qk 2 d11_23 (pc' := 24) rfl (by decide) (by decide) rfl ?_
 refine g_aloadN X d11_24 (pc' := 25) rfl rfl rfl ?_
 refine g_getfield X (host := "") (Or.inl (tb hw 43 rfl)) Via.refl qe d11_25 (pc' := 28) rfl ?_
 intro T X
 refine g_iload X d11_28 (pc' := 30) rfl rfl ?_
 refine g_iaload X qi 1 d11_30 (pc' := 31) rfl (by decide) (by decide) rfl ?_
 refine g_lushr X d11_31 (pc' := 32) rfl ?_
 refine g_aloadN X d11_32 (pc' := 33) rfl rfl rfl ?_
 refine g_getfield X (host := "") (Or.inl (tb hw 45 rfl)) Via.refl qf d11_33 (pc' := 36) rfl ?_
 intro T X
 refine g_iload X d11_36 (pc' := 38) rfl rfl ?_
 refine g_laload X qj 1 d11_38 (pc' := 39) rfl (by decide) (by decide) rfl ?_
 refine g_land X d11_39 (pc' := 40) rfl ?_
 refine g_l2i X d11_40 (pc' := 41) rfl ?_
 refine g_aloadN X d11_41 (pc' := 42) rfl rfl rfl ?_
 refine g_getfield X (host := "") (Or.inl (tb hw 39 rfl)) Via.refl qc d11_42 (pc' := 45) rfl ?_
 intro T X
 refine g_iload X d11_45 (pc' := 47) rfl rfl ?_
 refine g_iaload X qg 1 d11_47 (pc' := 48) rfl (by decide) (by decide) rfl ?_
 refine g_iadd X d11_48 (pc' := 49) rfl ?_
 generalize qu : (((((k2.toUInt64 >>> (s1 &&& 0x3f).toInt64.toUInt64).toInt64) &&& m1).toInt32) + l1) = qs
 refine g_iastore X qa 1 d11_49 (pc' := 50) rfl (by decide) (by decide) (Nat.le_of_ble_eq_true rfl) ?_
 intro T h X W qa
 replace qa : Av Z h wv .int [(.int qm), (.int qs), (.int x2)] := qa
 replace qc := qc.other W (Or.inl qb)
 replace qd := qd.other W (Or.inl qb)
 replace qe := qe.other W (Or.inl qb)
 replace qf := qf.other W (Or.inl qb)
 replace qg := qg.other W qn
 replace qh := qh.other W qo
 replace qi := qi.other W qp
 replace qj := qj.other W qq
 replace qk := qk.other W qr
 replace Z0 := Nat.le_trans Z0 (Nat.le_of_eq W.size.symm)
 replace N := Fr.snoc X.1 N ql
 replace Kp := Kp.wr W (Or.inl (List.mem_of_getElem? (i := 0) rfl))
 refine g_iinc X d11_50 (pc' := 53) (q := (1 : Int32)) (Ls' := #[.val (.ref a0), .val (.ref wk), .val (.int (2 : Int32)), .val (.ref wv), .val (.int (2 : Int32))]) rfl rfl rfl rfl ?_
 refine g_goto X d11_53 (pc' := 3) (by decide) (by decide) ?_
 refine g_iload X d11_3 (pc' := 5) rfl rfl ?_
 refine g_aloadN X d11_5 (pc' := 6) rfl rfl rfl ?_
 refine g_arraylength X qa d11_6 (pc' := 7) rfl (z := (3 : Int32)) rfl ?_
 refine g_icN X d11_7 (tlt (show (2 : Int32) < (3 : Int32) from (by decide))).2.1 (pc' := 10) rfl ?_
 refine g_aloadN X d11_10 (pc' := 11) rfl rfl rfl ?_
 refine g_iload X d11_11 (pc' := 13) rfl rfl ?_
 refine g_aloadN X d11_13 (pc' := 14) rfl rfl rfl ?_
 refine g_iloadN X d11_14 (pc' := 15) rfl rfl ?_
 refine g_aloadN X d11_15 (pc' := 16) rfl rfl rfl ?_
 refine g_getfield X (host := "") (Or.inl (tb hw 41 rfl)) Via.refl qd d11_16 (pc' := 19) rfl ?_
 intro T X
 refine g_iload X d11_19 (pc' := 21) rfl rfl ?_
 refine g_iaload X qh 2 d11_21 (pc' := 22) rfl (by decide) (by decide) rfl ?_
 refine g_iadd X d11_22 (pc' := 23) rfl ?_
 refine Go.lit32 (z := (2 : Int32)) (by decide) ?_
 refine g_laload X qk 2 d11_23 (pc' := 24) rfl (by decide) (by decide) rfl ?_
 refine g_aloadN X d11_24 (pc' := 25) rfl rfl rfl ?_
 refine g_getfield X (host := "") (Or.inl (tb hw 43 rfl)) Via.refl qe d11_25 (pc' := 28) rfl ?_
 intro T X
 refine g_iload X d11_28 (pc' := 30) rfl rfl ?_
 refine g_iaload X qi 2 d11_30 (pc' := 31) rfl (by decide) (by decide) rfl ?_
 refine g_lushr X d11_31 (pc' := 32) rfl ?_
 refine g_aloadN X d11_32 (pc' := 33) rfl rfl rfl ?_
 refine g_getfield X (host := "") (Or.inl (tb hw 45 rfl)) Via.refl qf d11_33 (pc' := 36) rfl ?_
 intro T X
 refine g_iload X d11_36 (pc' := 38) rfl rfl ?_
 refine g_laload X qj 2 d11_38 (pc' := 39) rfl (by decide) (by decide) rfl ?_
 refine g_land X d11_39 (pc' := 40) rfl ?_
 refine g_l2i X d11_40 (pc' := 41) rfl ?_
 refine g_aloadN X d11_41 (pc' := 42) rfl rfl rfl ?_
 refine g_getfield X (host := "") (Or.inl (tb hw 39 rfl)) Via.refl qc d11_42 (pc' := 45) rfl ?_
 intro T X
 refine g_iload X d11_45 (pc' := 47) rfl rfl ?_
 refine g_iaload X qg 2 d11_47 (pc' := 48) rfl (by decide) (by decide) rfl ?_
 refine g_iadd X d11_48 (pc' := 49) rfl ?_
 generalize qv : (((((k2.toUInt64 >>> (s2 &&& 0x3f).toInt64.toUInt64).toInt64) &&& m2).toInt32) + l2) = qw
 refine g_iastore X qa 2 d11_49 (pc' := 50) rfl (by decide) (by decide) (Nat.le_of_ble_eq_true rfl) ?_
 intro T h X W qa
 replace qa : Av Z h wv .int [(.int qm), (.int qs), (.int qw)] := qa
 replace Z0 := Nat.le_trans Z0 (Nat.le_of_eq W.size.symm)
 replace N := Fr.snoc X.1 N ql
 replace Kp := Kp.wr W (Or.inl (List.mem_of_getElem? (i := 0) rfl))
 refine g_iinc X d11_50 (pc' := 53) (q := (1 : Int32)) (Ls' := #[.val (.ref a0), .val (.ref wk), .val (.int (2 : Int32)), .val (.ref wv), .val (.int (3 : Int32))]) rfl rfl rfl rfl ?_
 refine g_goto X d11_53 (pc' := 3) (by decide) (by decide) ?_
 refine g_iload X d11_3 (pc' := 5) rfl rfl ?_
 refine g_aloadN X d11_5 (pc' := 6) rfl rfl rfl ?_
 refine g_arraylength X qa d11_6 (pc' := 7) rfl (z := (3 : Int32)) rfl ?_
 refine g_icY X d11_7 (flt (show ¬ ((3 : Int32) < (3 : Int32)) from (by decide))).2.1 (pc' := 56) (by decide) (by decide) ?_
 refine g_return X d11_56 hret hlk (by decide) (by decide) ?_
 subst qt qu qv
 exact ⟨rfl, N, Kp, qa⟩
theorem ef_rPk03 (m : MethodId) (x0 : Addr) (x1 : Addr) (x2 : Addr) (x3 : Int32) : entryFrame m #[(.ref x0), (.ref x1), (.ref x2), (.int x3)] 5 = mkF m 0 #[.val (.ref x0), .val (.ref x1), .val (.ref x2), .val (.int x3), .unset] [] := by first | (simp [entryFrame, mkF, argsToLocals, Value.category]; done) | rfl
set_option maxRecDepth 65536 in
set_option maxHeartbeats 40000000 in
theorem rPk03 (l : Launch) (Z : State) (aa : Array Value) (hw : ∀ d ∈ tables_1, d.before aa Z = true) (ws : List Jvm.Cond) (a0 : Addr) (wv : Addr) (wk : Addr) (wl : Addr) (ww : Addr) (wt : Addr) (l0 : Int32) (l1 : Int32) (l2 : Int32) (s0 : Int32) (s1 : Int32) (s2 : Int32) (x0 : Int32) (x1 : Int32) (x2 : Int32) (k0 : Int64) (k1 : Int64) (k2 : Int64) (k3 : Int64) (k4 : Int64) (k5 : Int64) (h0 : Heap) (n0 : Nat) (Z0 : n0 ≤ h0.size) (qv : Exa Z h0 a0 "com/example/ryazan/ryazan/language/Layout") (qd : Fld Z h0 a0 "com/example/ryazan/ryazan/language/Layout" "low" "[I" (.ref wl)) (qe : Fld Z h0 a0 "com/example/ryazan/ryazan/language/Layout" "word" "[I" (.ref ww)) (qf : Fld Z h0 a0 "com/example/ryazan/ryazan/language/Layout" "shift" "[I" (.ref wt)) (qj : Fld Z h0 a0 "com/example/ryazan/ryazan/language/Layout" "width" "I" (.int (1 : Int32))) (qg : Av Z h0 wl .int [(.int l0), (.int l1), (.int l2)]) (qh : Av Z h0 ww .int [(.int (0 : Int32)), (.int (0 : Int32)), (.int (0 : Int32))]) (qi : Av Z h0 wt .int [(.int s0), (.int s1), (.int s2)]) (qb : Av Z h0 wv .int [(.int x0), (.int x1), (.int x2)]) (qa : Av Z h0 wk .long [(.long k0), (.long k1), (.long k2), (.long k3), (.long k4), (.long k5)]) (qk : n0 ≤ wk) (qc : a0 ≠ wk) (qm : wl ≠ wk) (qn : ww ≠ wk) (qo : wt ≠ wk) (ql : wv ≠ wk) :
    Rm l Z (⟨"com/example/ryazan/ryazan/language/Layout", "pack", "([I[JI)V"⟩ : MethodName) prog_58_method_3_code 5 none ws ({ frames := 0, cells := 0, slots := 0, locals := 0 } : Room) #[(.ref a0), (.ref wv), (.ref wk), (.int (3 : Int32))] h0 (fun v h L => v = none ∧ Fr n0 L ∧ Keep h0 h [wk] ∧ Av Z h wk .long [(.long k0), (.long k1), (.long k2), (.long ((((0 : Int64) ||| (((x0.toInt64) - (l0.toInt64)) <<< (s0 &&& 0x3f).toInt64)) ||| (((x1.toInt64) - (l1.toInt64)) <<< (s1 &&& 0x3f).toInt64)) ||| (((x2.toInt64) - (l2.toInt64)) <<< (s2 &&& 0x3f).toInt64))), (.long k4), (.long k5)]) := by
 refine Rm.of (plainFor_of_name pn_3) ?_
 intro p e s m below meth cc T X hnm hret hlk
 refine Go.at_ (ef_rPk03 m a0 wv wk (3 : Int32)) ?_
 have N := Fr.nil n0
 have Kp := Keep.refl h0 [wk]
 refine g_iconst X (0 : Int32) d10_0 (pc' := 1) rfl rfl ?_
 refine g_istore X d10_1 (pc' := 3) (Ls' := #[.val (.ref a0), .val (.ref wv), .val (.ref wk), .val (.int (3 : Int32)), .val (.int (0 : Int32))]) rfl rfl ?_
 refine g_iload X d10_3 (pc' := 5) rfl rfl ?_
 refine g_aloadN X d10_5 (pc' := 6) rfl rfl rfl ?_
 refine g_getfield X (host := "") (Or.inl (tb hw 56 rfl)) Via.refl qj d10_6 (pc' := 9) rfl ?_
 intro T X
 refine g_icN X d10_9 (tlt (show (0 : Int32) < (1 : Int32) from (by decide))).2.1 (pc' := 12) rfl ?_
 refine g_aloadN X d10_12 (pc' := 13) rfl rfl rfl ?_
 refine g_iloadN X d10_13 (pc' := 14) rfl rfl ?_
 refine g_iload X d10_14 (pc' := 16) rfl rfl ?_
 refine g_iadd X d10_16 (pc' := 17) rfl ?_
 refine Go.lit32 (z := (3 : Int32)) (by decide) ?_
 refine g_lconst X (0 : Int64) d10_17 (pc' := 18) rfl rfl ?_
 refine g_lastore X qa 3 d10_18 (pc' := 19) rfl (by decide) (by decide) (Nat.le_of_ble_eq_true rfl) ?_
 intro T h X W qa
 replace qa : Av Z h wk .long [(.long k0), (.long k1), (.long k2), (.long (0 : Int64)), (.long k4), (.long k5)] := qa
 replace qd := qd.other W (Or.inl qc)
 replace qe := qe.other W (Or.inl qc)
 replace qf := qf.other W (Or.inl qc)
 replace qj := qj.other W (Or.inl qc)
 replace qg := qg.other W qm
 replace qh := qh.other W qn
 replace qi := qi.other W qo
 replace qb := qb.other W ql
 replace Z0 := Nat.le_trans Z0 (Nat.le_of_eq W.size.symm)
 replace N := Fr.snoc X.1 N qk
 replace Kp := Kp.wr W (Or.inl (List.mem_of_getElem? (i := 0) rfl))
 refine g_iinc X d10_19 (pc' := 22) (q := (1 : Int32)) (Ls' := #[.val (.ref a0), .val (.ref wv), .val (.ref wk), .val (.int (3 : Int32)), .val (.int (1 : Int32))]) rfl rfl rfl rfl ?_
 refine g_goto X d10_22 (pc' := 3) (by decide) (by decide) ?_
 refine g_iload X d10_3 (pc' := 5) rfl rfl ?_
 refine g_aloadN X d10_5 (pc' := 6) rfl rfl rfl ?_
 refine g_getfield X (host := "") (Or.inl (tb hw 56 rfl)) Via.refl qj d10_6 (pc' := 9) rfl ?_
 intro T X
 refine g_icY X d10_9 (flt (show ¬ ((1 : Int32) < (1 : Int32)) from (by decide))).2.1 (pc' := 25) (by decide) (by decide) ?_
 refine g_iconst X (0 : Int32) d10_25 (pc' := 26) rfl rfl ?_
 refine g_istore X d10_26 (pc' := 28) (Ls' := #[.val (.ref a0), .val (.ref wv), .val (.ref wk), .val (.int (3 : Int32)), .val (.int (0 : Int32))]) rfl rfl ?_
 refine g_iload X d10_28 (pc' := 30) rfl rfl ?_
 refine g_aloadN X d10_30 (pc' := 31) rfl rfl rfl ?_
 refine g_arraylength X qb d10_31 (pc' := 32) rfl (z := (3 : Int32)) rfl ?_
 refine g_icN X d10_32 (tlt (show (0 : Int32) < (3 : Int32) from (by decide))).2.1 (pc' := 35) rfl ?_
 refine g_aloadN X d10_35 (pc' := 36) rfl rfl rfl ?_
 refine g_iloadN X d10_36 (pc' := 37) rfl rfl ?_
 refine g_aloadN X d10_37 (pc' := 38) rfl rfl rfl ?_
 refine g_getfield X (host := "") (Or.inl (tb hw 41 rfl)) Via.refl qe d10_38 (pc' := 41) rfl ?_
 intro T X
 refine g_iload X d10_41 (pc' := 43) rfl rfl ?_
 refine g_iaload X qh 0 d10_43 (pc' := 44) rfl (by decide) (by decide) rfl ?_
 refine g_iadd X d10_44 (pc' := 45) rfl ?_
 refine Go.lit32 (z := (3 : Int32)) (by decide) ?_
 refine g_dup2 X d10_45 (pc' := 46) rfl rfl rfl ?_
 refine g_laload X qa 3 d10_46 (pc' := 47) rfl (by decide) (by decide) rfl ?_
 refine g_aloadN X d10_47 (pc' := 48) rfl rfl rfl ?_
 refine g_iload X d10_48 (pc' := 50) rfl rfl ?_
 refine g_iaload X qb 0 d10_50 (pc' := 51) rfl (by decide) (by decide) rfl ?_
 refine g_i2l X d10_51 (pc' := 52) rfl ?_
 refine g_aloadN X d10_52 (pc' := 53) rfl rfl rfl ?_
 refine g_getfield X (host := "") (Or.inl (tb hw 39 rfl)) Via.refl qd d10_53 (pc' := 56) rfl ?_
 intro T X
 refine g_iload X d10_56 (pc' := 58) rfl rfl ?_
 refine g_iaload X qg 0 d10_58 (pc' := 59) rfl (by decide) (by decide) rfl ?_
 refine g_i2l X d10_59 (pc' := 60) rfl ?_
 refine g_lsub X d10_60 (pc' := 61) rfl ?_
 refine g_aloadN X d10_61 (pc' := 62) rfl rfl rfl ?_
 refine g_getfield X (host := "") (Or.inl (tb hw 43 rfl)) Via.refl qf d10_62 (pc' := 65) rfl ?_
 intro T X
 refine g_iload X d10_65 (pc' := 67) rfl rfl ?_
 refine g_iaload X qi 0 d10_67 (pc' := 68) rfl (by decide) (by decide) rfl ?_
 refine g_lshl X d10_68 (pc' := 69) rfl ?_
 refine g_lor X d10_69 (pc' := 70) rfl ?_
 generalize qr : ((0 : Int64) ||| (((x0.toInt64) - (l0.toInt64)) <<< (s0 &&& 0x3f).toInt64)) = qp
 refine g_lastore X qa 3 d10_70 (pc' := 71) rfl (by decide) (by decide) (Nat.le_of_ble_eq_true rfl) ?_
 intro T h X W qa
 replace qa : Av Z h wk .long [(.long k0), (.long k1), (.long k2), (.long qp), (.long k4), (.long k5)] := qa
 replace qd := qd.other W (Or.inl qc)
 replace qe := qe.other W (Or.inl qc)
 replace qf := qf.other W (Or.inl qc)
 replace qg := qg.other W qm
 replace qh := qh.other W qn
 replace qi := qi.other W qo
 replace qb := qb.other W ql
 replace Z0 := Nat.le_trans Z0 (Nat.le_of_eq W.size.symm)
 replace N := Fr.snoc X.1 N qk
 replace Kp := Kp.wr W (Or.inl (List.mem_of_getElem? (i := 0) rfl))
 refine g_iinc X d10_71 (pc' := 74) (q := (1 : Int32)) (Ls' := #[.val (.ref a0), .val (.ref wv), .val (.ref wk), .val (.int (3 : Int32)), .val (.int (1 : Int32))]) rfl rfl rfl rfl ?_
 refine g_goto X d10_74 (pc' := 28) (by decide) (by decide) ?_
 refine g_iload X d10_28 (pc' := 30) rfl rfl ?_
 refine g_aloadN X d10_30 (pc' := 31) rfl rfl rfl ?_
 refine g_arraylength X qb d10_31 (pc' := 32) rfl (z := (3 : Int32)) rfl ?_
 refine g_icN X d10_32 (tlt (show (1 : Int32) < (3 : Int32) from (by decide))).2.1 (pc' := 35) rfl ?_
 refine g_aloadN X d10_35 (pc' := 36) rfl rfl rfl ?_
 refine g_iloadN X d10_36 (pc' := 37) rfl rfl ?_
 refine g_aloadN X d10_37 (pc' := 38) rfl rfl rfl ?_
 refine g_getfield X (host := "") (Or.inl (tb hw 41 rfl)) Via.refl qe d10_38 (pc' := 41) rfl ?_
 intro T X
 refine g_iload X d10_41 (pc' := 43) rfl rfl ?_
 refine g_iaload X qh 1 d10_43 (pc' := 44) rfl (by decide) (by decide) rfl ?_
 refine g_iadd X d10_44 (pc' := 45) rfl ?_
 refine Go.lit32 (z := (3 : Int32)) (by decide) ?_
 refine g_dup2 X d10_45 (pc' := 46) rfl rfl rfl ?_
 refine g_laload X qa 3 d10_46 (pc' := 47) rfl (by decide) (by decide) rfl ?_
 refine g_aloadN X d10_47 (pc' := 48) rfl rfl rfl ?_
 refine g_iload X d10_48 (pc' := 50) rfl rfl ?_
 refine g_iaload X qb 1 d10_50 (pc' := 51) rfl (by decide) (by decide) rfl ?_
 refine g_i2l X d10_51 (pc' := 52) rfl ?_
 refine g_aloadN X d10_52 (pc' := 53) rfl rfl rfl ?_
 refine g_getfield X (host := "") (Or.inl (tb hw 39 rfl)) Via.refl qd d10_53 (pc' := 56) rfl ?_
 intro T X
 refine g_iload X d10_56 (pc' := 58) rfl rfl ?_
 refine g_iaload X qg 1 d10_58 (pc' := 59) rfl (by decide) (by decide) rfl ?_
 refine g_i2l X d10_59 (pc' := 60) rfl ?_
 refine g_lsub X d10_60 (pc' := 61) rfl ?_
 refine g_aloadN X d10_61 (pc' := 62) rfl rfl rfl ?_
 refine g_getfield X (host := "") (Or.inl (tb hw 43 rfl)) Via.refl qf d10_62 (pc' := 65) rfl ?_
 intro T X
 refine g_iload X d10_65 (pc' := 67) rfl rfl ?_
 refine g_iaload X qi 1 d10_67 (pc' := 68) rfl (by decide) (by decide) rfl ?_
 refine g_lshl X d10_68 (pc' := 69) rfl ?_
 refine g_lor X d10_69 (pc' := 70) rfl ?_
 generalize qs : (qp ||| (((x1.toInt64) - (l1.toInt64)) <<< (s1 &&& 0x3f).toInt64)) = qq
 refine g_lastore X qa 3 d10_70 (pc' := 71) rfl (by decide) (by decide) (Nat.le_of_ble_eq_true rfl) ?_
 intro T h X W qa
 replace qa : Av Z h wk .long [(.long k0), (.long k1), (.long k2), (.long qq), (.long k4), (.long k5)] := qa
 replace qd := qd.other W (Or.inl qc)
 replace qe := qe.other W (Or.inl qc)
 replace qf := qf.other W (Or.inl qc)
 replace qg := qg.other W qm
 replace qh := qh.other W qn
 replace qi := qi.other W qo
 replace qb := qb.other W ql
 replace Z0 := Nat.le_trans Z0 (Nat.le_of_eq W.size.symm)
 replace N := Fr.snoc X.1 N qk
 replace Kp := Kp.wr W (Or.inl (List.mem_of_getElem? (i := 0) rfl))
 refine g_iinc X d10_71 (pc' := 74) (q := (1 : Int32)) (Ls' := #[.val (.ref a0), .val (.ref wv), .val (.ref wk), .val (.int (3 : Int32)), .val (.int (2 : Int32))]) rfl rfl rfl rfl ?_
 refine g_goto X d10_74 (pc' := 28) (by decide) (by decide) ?_
 refine g_iload X d10_28 (pc' := 30) rfl rfl ?_
 refine g_aloadN X d10_30 (pc' := 31) rfl rfl rfl ?_
 refine g_arraylength X qb d10_31 (pc' := 32) rfl (z := (3 : Int32)) rfl ?_
 refine g_icN X d10_32 (tlt (show (2 : Int32) < (3 : Int32) from (by decide))).2.1 (pc' := 35) rfl ?_
 refine g_aloadN X d10_35 (pc' := 36) rfl rfl rfl ?_
 refine g_iloadN X d10_36 (pc' := 37) rfl rfl ?_
 refine g_aloadN X d10_37 (pc' := 38) rfl rfl rfl ?_
 refine g_getfield X (host := "") (Or.inl (tb hw 41 rfl)) Via.refl qe d10_38 (pc' := 41) rfl ?_
 intro T X
 refine g_iload X d10_41 (pc' := 43) rfl rfl ?_
 refine g_iaload X qh 2 d10_43 (pc' := 44) rfl (by decide) (by decide) rfl ?_
 refine g_iadd X d10_44 (pc' := 45) rfl ?_
 refine Go.lit32 (z := (3 : Int32)) (by decide) ?_
 refine g_dup2 X d10_45 (pc' := 46) rfl rfl rfl ?_
 refine g_laload X qa 3 d10_46 (pc' := 47) rfl (by decide) (by decide) rfl ?_
 refine g_aloadN X d10_47 (pc' := 48) rfl rfl rfl ?_
 refine g_iload X d10_48 (pc' := 50) rfl rfl ?_
 refine g_iaload X qb 2 d10_50 (pc' := 51) rfl (by decide) (by decide) rfl ?_
 refine g_i2l X d10_51 (pc' := 52) rfl ?_
 refine g_aloadN X d10_52 (pc' := 53) rfl rfl rfl ?_
 refine g_getfield X (host := "") (Or.inl (tb hw 39 rfl)) Via.refl qd d10_53 (pc' := 56) rfl ?_
 intro T X
 refine g_iload X d10_56 (pc' := 58) rfl rfl ?_
 refine g_iaload X qg 2 d10_58 (pc' := 59) rfl (by decide) (by decide) rfl ?_
 refine g_i2l X d10_59 (pc' := 60) rfl ?_
 refine g_lsub X d10_60 (pc' := 61) rfl ?_
 refine g_aloadN X d10_61 (pc' := 62) rfl rfl rfl ?_
 refine g_getfield X (host := "") (Or.inl (tb hw 43 rfl)) Via.refl qf d10_62 (pc' := 65) rfl ?_
 intro T X
 refine g_iload X d10_65 (pc' := 67) rfl rfl ?_
 refine g_iaload X qi 2 d10_67 (pc' := 68) rfl (by decide) (by decide) rfl ?_
 refine g_lshl X d10_68 (pc' := 69) rfl ?_
 refine g_lor X d10_69 (pc' := 70) rfl ?_
 generalize qt : (qq ||| (((x2.toInt64) - (l2.toInt64)) <<< (s2 &&& 0x3f).toInt64)) = qu
 refine g_lastore X qa 3 d10_70 (pc' := 71) rfl (by decide) (by decide) (Nat.le_of_ble_eq_true rfl) ?_
 intro T h X W qa
 replace qa : Av Z h wk .long [(.long k0), (.long k1), (.long k2), (.long qu), (.long k4), (.long k5)] := qa
 replace qb := qb.other W ql
 replace Z0 := Nat.le_trans Z0 (Nat.le_of_eq W.size.symm)
 replace N := Fr.snoc X.1 N qk
 replace Kp := Kp.wr W (Or.inl (List.mem_of_getElem? (i := 0) rfl))
 refine g_iinc X d10_71 (pc' := 74) (q := (1 : Int32)) (Ls' := #[.val (.ref a0), .val (.ref wv), .val (.ref wk), .val (.int (3 : Int32)), .val (.int (3 : Int32))]) rfl rfl rfl rfl ?_
 refine g_goto X d10_74 (pc' := 28) (by decide) (by decide) ?_
 refine g_iload X d10_28 (pc' := 30) rfl rfl ?_
 refine g_aloadN X d10_30 (pc' := 31) rfl rfl rfl ?_
 refine g_arraylength X qb d10_31 (pc' := 32) rfl (z := (3 : Int32)) rfl ?_
 refine g_icY X d10_32 (flt (show ¬ ((3 : Int32) < (3 : Int32)) from (by decide))).2.1 (pc' := 77) (by decide) (by decide) ?_
 refine g_return X d10_77 hret hlk (by decide) (by decide) ?_
 subst qr qs qt
 exact ⟨rfl, N, Kp, qa⟩
theorem ef_rUp03 (m : MethodId) (x0 : Addr) (x1 : Addr) (x2 : Int32) (x3 : Addr) : entryFrame m #[(.ref x0), (.ref x1), (.int x2), (.ref x3)] 5 = mkF m 0 #[.val (.ref x0), .val (.ref x1), .val (.int x2), .val (.ref x3), .unset] [] := by first | (simp [entryFrame, mkF, argsToLocals, Value.category]; done) | rfl
set_option maxRecDepth 65536 in
set_option maxHeartbeats 40000000 in
theorem rUp03 (l : Launch) (Z : State) (aa : Array Value) (hw : ∀ d ∈ tables_1, d.before aa Z = true) (ws : List Jvm.Cond) (a0 : Addr) (wk : Addr) (wv : Addr) (wl : Addr) (ww : Addr) (wt : Addr) (wm : Addr) (l0 : Int32) (l1 : Int32) (l2 : Int32) (s0 : Int32) (s1 : Int32) (s2 : Int32) (m0 : Int64) (m1 : Int64) (m2 : Int64) (k0 : Int64) (k1 : Int64) (k2 : Int64) (k3 : Int64) (k4 : Int64) (k5 : Int64) (x0 : Int32) (x1 : Int32) (x2 : Int32) (h0 : Heap) (n0 : Nat) (Z0 : n0 ≤ h0.size) (qx : Exa Z h0 a0 "com/example/ryazan/ryazan/language/Layout") (qc : Fld Z h0 a0 "com/example/ryazan/ryazan/language/Layout" "low" "[I" (.ref wl)) (qd : Fld Z h0 a0 "com/example/ryazan/ryazan/language/Layout" "word" "[I" (.ref ww)) (qe : Fld Z h0 a0 "com/example/ryazan/ryazan/language/Layout" "shift" "[I" (.ref wt)) (qf : Fld Z h0 a0 "com/example/ryazan/ryazan/language/Layout" "mask" "[J" (.ref wm)) (qg : Av Z h0 wl .int [(.int l0), (.int l1), (.int l2)]) (qh : Av Z h0 ww .int [(.int (0 : Int32)), (.int (0 : Int32)), (.int (0 : Int32))]) (qi : Av Z h0 wt .int [(.int s0), (.int s1), (.int s2)]) (qj : Av Z h0 wm .long [(.long m0), (.long m1), (.long m2)]) (qk : Av Z h0 wk .long [(.long k0), (.long k1), (.long k2), (.long k3), (.long k4), (.long k5)]) (qa : Av Z h0 wv .int [(.int x0), (.int x1), (.int x2)]) (ql : n0 ≤ wv) (qb : a0 ≠ wv) (qn : wl ≠ wv) (qo : ww ≠ wv) (qp : wt ≠ wv) (qq : wm ≠ wv) (qr : wk ≠ wv) :
    Rm l Z (⟨"com/example/ryazan/ryazan/language/Layout", "unpack", "([JI[I)V"⟩ : MethodName) prog_58_method_4_code 5 none ws ({ frames := 0, cells := 0, slots := 0, locals := 0 } : Room) #[(.ref a0), (.ref wk), (.int (3 : Int32)), (.ref wv)] h0 (fun v h L => v = none ∧ Fr n0 L ∧ Keep h0 h [wv] ∧ Av Z h wv .int [(.int (((((k3.toUInt64 >>> (s0 &&& 0x3f).toInt64.toUInt64).toInt64) &&& m0).toInt32) + l0)), (.int (((((k3.toUInt64 >>> (s1 &&& 0x3f).toInt64.toUInt64).toInt64) &&& m1).toInt32) + l1)), (.int (((((k3.toUInt64 >>> (s2 &&& 0x3f).toInt64.toUInt64).toInt64) &&& m2).toInt32) + l2))]) := by
 refine Rm.of (plainFor_of_name pn_3) ?_
 intro p e s m below meth cc T X hnm hret hlk
 refine Go.at_ (ef_rUp03 m a0 wk (3 : Int32) wv) ?_
 have N := Fr.nil n0
 have Kp := Keep.refl h0 [wv]
 refine g_iconst X (0 : Int32) d11_0 (pc' := 1) rfl rfl ?_
 refine g_istore X d11_1 (pc' := 3) (Ls' := #[.val (.ref a0), .val (.ref wk), .val (.int (3 : Int32)), .val (.ref wv), .val (.int (0 : Int32))]) rfl rfl ?_
 refine g_iload X d11_3 (pc' := 5) rfl rfl ?_
 refine g_aloadN X d11_5 (pc' := 6) rfl rfl rfl ?_
 refine g_arraylength X qa d11_6 (pc' := 7) rfl (z := (3 : Int32)) rfl ?_
 refine g_icN X d11_7 (tlt (show (0 : Int32) < (3 : Int32) from (by decide))).2.1 (pc' := 10) rfl ?_
 refine g_aloadN X d11_10 (pc' := 11) rfl rfl rfl ?_
 refine g_iload X d11_11 (pc' := 13) rfl rfl ?_
 refine g_aloadN X d11_13 (pc' := 14) rfl rfl rfl ?_
 refine g_iloadN X d11_14 (pc' := 15) rfl rfl ?_
 refine g_aloadN X d11_15 (pc' := 16) rfl rfl rfl ?_
 refine g_getfield X (host := "") (Or.inl (tb hw 41 rfl)) Via.refl qd d11_16 (pc' := 19) rfl ?_
 intro T X
 refine g_iload X d11_19 (pc' := 21) rfl rfl ?_
 refine g_iaload X qh 0 d11_21 (pc' := 22) rfl (by decide) (by decide) rfl ?_
 refine g_iadd X d11_22 (pc' := 23) rfl ?_
 refine Go.lit32 (z := (3 : Int32)) (by decide) ?_
 refine g_laload X qk 3 d11_23 (pc' := 24) rfl (by decide) (by decide) rfl ?_
 refine g_aloadN X d11_24 (pc' := 25) rfl rfl rfl ?_
 refine g_getfield X (host := "") (Or.inl (tb hw 43 rfl)) Via.refl qe d11_25 (pc' := 28) rfl ?_
 intro T X
 refine g_iload X d11_28 (pc' := 30) rfl rfl ?_
 refine g_iaload X qi 0 d11_30 (pc' := 31) rfl (by decide) (by decide) rfl ?_
 refine g_lushr X d11_31 (pc' := 32) rfl ?_
 refine g_aloadN X d11_32 (pc' := 33) rfl rfl rfl ?_
 refine g_getfield X (host := "") (Or.inl (tb hw 45 rfl)) Via.refl qf d11_33 (pc' := 36) rfl ?_
 intro T X
 refine g_iload X d11_36 (pc' := 38) rfl rfl ?_
 refine g_laload X qj 0 d11_38 (pc' := 39) rfl (by decide) (by decide) rfl ?_
 refine g_land X d11_39 (pc' := 40) rfl ?_
 refine g_l2i X d11_40 (pc' := 41) rfl ?_
 refine g_aloadN X d11_41 (pc' := 42) rfl rfl rfl ?_
 refine g_getfield X (host := "") (Or.inl (tb hw 39 rfl)) Via.refl qc d11_42 (pc' := 45) rfl ?_
 intro T X
 refine g_iload X d11_45 (pc' := 47) rfl rfl ?_
 refine g_iaload X qg 0 d11_47 (pc' := 48) rfl (by decide) (by decide) rfl ?_
 refine g_iadd X d11_48 (pc' := 49) rfl ?_
 generalize qt : (((((k3.toUInt64 >>> (s0 &&& 0x3f).toInt64.toUInt64).toInt64) &&& m0).toInt32) + l0) = qm
 refine g_iastore X qa 0 d11_49 (pc' := 50) rfl (by decide) (by decide) (Nat.le_of_ble_eq_true rfl) ?_
 intro T h X W qa
 replace qa : Av Z h wv .int [(.int qm), (.int x1), (.int x2)] := qa
 replace qc := qc.other W (Or.inl qb)
 replace qd := qd.other W (Or.inl qb)
 replace qe := qe.other W (Or.inl qb)
 replace qf := qf.other W (Or.inl qb)
 replace qg := qg.other W qn
 replace qh := qh.other W qo
 replace qi := qi.other W qp
 replace qj := qj.other W qq
 replace qk := qk.other W qr
 replace Z0 := Nat.le_trans Z0 (Nat.le_of_eq W.size.symm)
 replace N := Fr.snoc X.1 N ql
 replace Kp := Kp.wr W (Or.inl (List.mem_of_getElem? (i := 0) rfl))
 refine g_iinc X d11_50 (pc' := 53) (q := (1 : Int32)) (Ls' := #[.val (.ref a0), .val (.ref wk), .val (.int (3 : Int32)), .val (.ref wv), .val (.int (1 : Int32))]) rfl rfl rfl rfl ?_
 refine g_goto X d11_53 (pc' := 3) (by decide) (by decide) ?_
 refine g_iload X d11_3 (pc' := 5) rfl rfl ?_
 refine g_aloadN X d11_5 (pc' := 6) rfl rfl rfl ?_
 refine g_arraylength X qa d11_6 (pc' := 7) rfl (z := (3 : Int32)) rfl ?_
 refine g_icN X d11_7 (tlt (show (1 : Int32) < (3 : Int32) from (by decide))).2.1 (pc' := 10) rfl ?_
 refine g_aloadN X d11_10 (pc' := 11) rfl rfl rfl ?_
 refine g_iload X d11_11 (pc' := 13) rfl rfl ?_
 refine g_aloadN X d11_13 (pc' := 14) rfl rfl rfl ?_
 refine g_iloadN X d11_14 (pc' := 15) rfl rfl ?_
 refine g_aloadN X d11_15 (pc' := 16) rfl rfl rfl ?_
 refine g_getfield X (host := "") (Or.inl (tb hw 41 rfl)) Via.refl qd d11_16 (pc' := 19) rfl ?_
 intro T X
 refine g_iload X d11_19 (pc' := 21) rfl rfl ?_
 refine g_iaload X qh 1 d11_21 (pc' := 22) rfl (by decide) (by decide) rfl ?_
 refine g_iadd X d11_22 (pc' := 23) rfl ?_
 refine Go.lit32 (z := (3 : Int32)) (by decide) ?_
 refine g_laload X qk 3 d11_23 (pc' := 24) rfl (by decide) (by decide) rfl ?_
 refine g_aloadN X d11_24 (pc' := 25) rfl rfl rfl ?_
 refine g_getfield X (host := "") (Or.inl (tb hw 43 rfl)) Via.refl qe d11_25 (pc' := 28) rfl ?_
 intro T X
 refine g_iload X d11_28 (pc' := 30) rfl rfl ?_
 refine g_iaload X qi 1 d11_30 (pc' := 31) rfl (by decide) (by decide) rfl ?_
 refine g_lushr X d11_31 (pc' := 32) rfl ?_
 refine g_aloadN X d11_32 (pc' := 33) rfl rfl rfl ?_
 refine g_getfield X (host := "") (Or.inl (tb hw 45 rfl)) Via.refl qf d11_33 (pc' := 36) rfl ?_
 intro T X
 refine g_iload X d11_36 (pc' := 38) rfl rfl ?_
 refine g_laload X qj 1 d11_38 (pc' := 39) rfl (by decide) (by decide) rfl ?_
 refine g_land X d11_39 (pc' := 40) rfl ?_
 refine g_l2i X d11_40 (pc' := 41) rfl ?_
 refine g_aloadN X d11_41 (pc' := 42) rfl rfl rfl ?_
 refine g_getfield X (host := "") (Or.inl (tb hw 39 rfl)) Via.refl qc d11_42 (pc' := 45) rfl ?_
 intro T X
 refine g_iload X d11_45 (pc' := 47) rfl rfl ?_
 refine g_iaload X qg 1 d11_47 (pc' := 48) rfl (by decide) (by decide) rfl ?_
 refine g_iadd X d11_48 (pc' := 49) rfl ?_
 generalize qu : (((((k3.toUInt64 >>> (s1 &&& 0x3f).toInt64.toUInt64).toInt64) &&& m1).toInt32) + l1) = qs
 refine g_iastore X qa 1 d11_49 (pc' := 50) rfl (by decide) (by decide) (Nat.le_of_ble_eq_true rfl) ?_
 intro T h X W qa
 replace qa : Av Z h wv .int [(.int qm), (.int qs), (.int x2)] := qa
 replace qc := qc.other W (Or.inl qb)
 replace qd := qd.other W (Or.inl qb)
 replace qe := qe.other W (Or.inl qb)
 replace qf := qf.other W (Or.inl qb)
 replace qg := qg.other W qn
 replace qh := qh.other W qo
 replace qi := qi.other W qp
 replace qj := qj.other W qq
 replace qk := qk.other W qr
 replace Z0 := Nat.le_trans Z0 (Nat.le_of_eq W.size.symm)
 replace N := Fr.snoc X.1 N ql
 replace Kp := Kp.wr W (Or.inl (List.mem_of_getElem? (i := 0) rfl))
 refine g_iinc X d11_50 (pc' := 53) (q := (1 : Int32)) (Ls' := #[.val (.ref a0), .val (.ref wk), .val (.int (3 : Int32)), .val (.ref wv), .val (.int (2 : Int32))]) rfl rfl rfl rfl ?_
 refine g_goto X d11_53 (pc' := 3) (by decide) (by decide) ?_
 refine g_iload X d11_3 (pc' := 5) rfl rfl ?_
 refine g_aloadN X d11_5 (pc' := 6) rfl rfl rfl ?_
 refine g_arraylength X qa d11_6 (pc' := 7) rfl (z := (3 : Int32)) rfl ?_
 refine g_icN X d11_7 (tlt (show (2 : Int32) < (3 : Int32) from (by decide))).2.1 (pc' := 10) rfl ?_
 refine g_aloadN X d11_10 (pc' := 11) rfl rfl rfl ?_
 refine g_iload X d11_11 (pc' := 13) rfl rfl ?_
 refine g_aloadN X d11_13 (pc' := 14) rfl rfl rfl ?_
 refine g_iloadN X d11_14 (pc' := 15) rfl rfl ?_
 refine g_aloadN X d11_15 (pc' := 16) rfl rfl rfl ?_
 refine g_getfield X (host := "") (Or.inl (tb hw 41 rfl)) Via.refl qd d11_16 (pc' := 19) rfl ?_
 intro T X
 refine g_iload X d11_19 (pc' := 21) rfl rfl ?_
 refine g_iaload X qh 2 d11_21 (pc' := 22) rfl (by decide) (by decide) rfl ?_
 refine g_iadd X d11_22 (pc' := 23) rfl ?_
 refine Go.lit32 (z := (3 : Int32)) (by decide) ?_
 refine g_laload X qk 3 d11_23 (pc' := 24) rfl (by decide) (by decide) rfl ?_
 refine g_aloadN X d11_24 (pc' := 25) rfl rfl rfl ?_
 refine g_getfield X (host := "") (Or.inl (tb hw 43 rfl)) Via.refl qe d11_25 (pc' := 28) rfl ?_
 intro T X
 refine g_iload X d11_28 (pc' := 30) rfl rfl ?_
 refine g_iaload X qi 2 d11_30 (pc' := 31) rfl (by decide) (by decide) rfl ?_
 refine g_lushr X d11_31 (pc' := 32) rfl ?_
 refine g_aloadN X d11_32 (pc' := 33) rfl rfl rfl ?_
 refine g_getfield X (host := "") (Or.inl (tb hw 45 rfl)) Via.refl qf d11_33 (pc' := 36) rfl ?_
 intro T X
 refine g_iload X d11_36 (pc' := 38) rfl rfl ?_
 refine g_laload X qj 2 d11_38 (pc' := 39) rfl (by decide) (by decide) rfl ?_
 refine g_land X d11_39 (pc' := 40) rfl ?_
 refine g_l2i X d11_40 (pc' := 41) rfl ?_
 refine g_aloadN X d11_41 (pc' := 42) rfl rfl rfl ?_
 refine g_getfield X (host := "") (Or.inl (tb hw 39 rfl)) Via.refl qc d11_42 (pc' := 45) rfl ?_
 intro T X
 refine g_iload X d11_45 (pc' := 47) rfl rfl ?_
 refine g_iaload X qg 2 d11_47 (pc' := 48) rfl (by decide) (by decide) rfl ?_
 refine g_iadd X d11_48 (pc' := 49) rfl ?_
 generalize qv : (((((k3.toUInt64 >>> (s2 &&& 0x3f).toInt64.toUInt64).toInt64) &&& m2).toInt32) + l2) = qw
 refine g_iastore X qa 2 d11_49 (pc' := 50) rfl (by decide) (by decide) (Nat.le_of_ble_eq_true rfl) ?_
 intro T h X W qa
 replace qa : Av Z h wv .int [(.int qm), (.int qs), (.int qw)] := qa
 replace Z0 := Nat.le_trans Z0 (Nat.le_of_eq W.size.symm)
 replace N := Fr.snoc X.1 N ql
 replace Kp := Kp.wr W (Or.inl (List.mem_of_getElem? (i := 0) rfl))
 refine g_iinc X d11_50 (pc' := 53) (q := (1 : Int32)) (Ls' := #[.val (.ref a0), .val (.ref wk), .val (.int (3 : Int32)), .val (.ref wv), .val (.int (3 : Int32))]) rfl rfl rfl rfl ?_
 refine g_goto X d11_53 (pc' := 3) (by decide) (by decide) ?_
 refine g_iload X d11_3 (pc' := 5) rfl rfl ?_
 refine g_aloadN X d11_5 (pc' := 6) rfl rfl rfl ?_
 refine g_arraylength X qa d11_6 (pc' := 7) rfl (z := (3 : Int32)) rfl ?_
 refine g_icY X d11_7 (flt (show ¬ ((3 : Int32) < (3 : Int32)) from (by decide))).2.1 (pc' := 56) (by decide) (by decide) ?_
 refine g_return X d11_56 hret hlk (by decide) (by decide) ?_
 subst qt qu qv
 exact ⟨rfl, N, Kp, qa⟩
theorem ef_rPk10 (m : MethodId) (x0 : Addr) (x1 : Addr) (x2 : Addr) (x3 : Int32) : entryFrame m #[(.ref x0), (.ref x1), (.ref x2), (.int x3)] 5 = mkF m 0 #[.val (.ref x0), .val (.ref x1), .val (.ref x2), .val (.int x3), .unset] [] := by first | (simp [entryFrame, mkF, argsToLocals, Value.category]; done) | rfl
set_option maxRecDepth 65536 in
set_option maxHeartbeats 40000000 in
theorem rPk10 (l : Launch) (Z : State) (aa : Array Value) (hw : ∀ d ∈ tables_1, d.before aa Z = true) (ws : List Jvm.Cond) (a0 : Addr) (wv : Addr) (wk : Addr) (wl : Addr) (ww : Addr) (wt : Addr) (l0 : Int32) (l1 : Int32) (l2 : Int32) (s0 : Int32) (s1 : Int32) (s2 : Int32) (x0 : Int32) (x1 : Int32) (x2 : Int32) (k0 : Int64) (k1 : Int64) (k2 : Int64) (k3 : Int64) (k4 : Int64) (k5 : Int64) (h0 : Heap) (n0 : Nat) (Z0 : n0 ≤ h0.size) (qv : Exa Z h0 a0 "com/example/ryazan/ryazan/language/Layout") (qd : Fld Z h0 a0 "com/example/ryazan/ryazan/language/Layout" "low" "[I" (.ref wl)) (qe : Fld Z h0 a0 "com/example/ryazan/ryazan/language/Layout" "word" "[I" (.ref ww)) (qf : Fld Z h0 a0 "com/example/ryazan/ryazan/language/Layout" "shift" "[I" (.ref wt)) (qj : Fld Z h0 a0 "com/example/ryazan/ryazan/language/Layout" "width" "I" (.int (2 : Int32))) (qg : Av Z h0 wl .int [(.int l0), (.int l1), (.int l2)]) (qh : Av Z h0 ww .int [(.int (0 : Int32)), (.int (0 : Int32)), (.int (1 : Int32))]) (qi : Av Z h0 wt .int [(.int s0), (.int s1), (.int s2)]) (qb : Av Z h0 wv .int [(.int x0), (.int x1), (.int x2)]) (qa : Av Z h0 wk .long [(.long k0), (.long k1), (.long k2), (.long k3), (.long k4), (.long k5)]) (qk : n0 ≤ wk) (qc : a0 ≠ wk) (qm : wl ≠ wk) (qn : ww ≠ wk) (qo : wt ≠ wk) (ql : wv ≠ wk) :
    Rm l Z (⟨"com/example/ryazan/ryazan/language/Layout", "pack", "([I[JI)V"⟩ : MethodName) prog_58_method_3_code 5 none ws ({ frames := 0, cells := 0, slots := 0, locals := 0 } : Room) #[(.ref a0), (.ref wv), (.ref wk), (.int (0 : Int32))] h0 (fun v h L => v = none ∧ Fr n0 L ∧ Keep h0 h [wk] ∧ Av Z h wk .long [(.long (((0 : Int64) ||| (((x0.toInt64) - (l0.toInt64)) <<< (s0 &&& 0x3f).toInt64)) ||| (((x1.toInt64) - (l1.toInt64)) <<< (s1 &&& 0x3f).toInt64))), (.long ((0 : Int64) ||| (((x2.toInt64) - (l2.toInt64)) <<< (s2 &&& 0x3f).toInt64))), (.long k2), (.long k3), (.long k4), (.long k5)]) := by
 refine Rm.of (plainFor_of_name pn_3) ?_
 intro p e s m below meth cc T X hnm hret hlk
 refine Go.at_ (ef_rPk10 m a0 wv wk (0 : Int32)) ?_
 have N := Fr.nil n0
 have Kp := Keep.refl h0 [wk]
 refine g_iconst X (0 : Int32) d10_0 (pc' := 1) rfl rfl ?_
 refine g_istore X d10_1 (pc' := 3) (Ls' := #[.val (.ref a0), .val (.ref wv), .val (.ref wk), .val (.int (0 : Int32)), .val (.int (0 : Int32))]) rfl rfl ?_
 refine g_iload X d10_3 (pc' := 5) rfl rfl ?_
 refine g_aloadN X d10_5 (pc' := 6) rfl rfl rfl ?_
 refine g_getfield X (host := "") (Or.inl (tb hw 56 rfl)) Via.refl qj d10_6 (pc' := 9) rfl ?_
 intro T X
 refine g_icN X d10_9 (tlt (show (0 : Int32) < (2 : Int32) from (by decide))).2.1 (pc' := 12) rfl ?_
 refine g_aloadN X d10_12 (pc' := 13) rfl rfl rfl ?_
 refine g_iloadN X d10_13 (pc' := 14) rfl rfl ?_
 refine g_iload X d10_14 (pc' := 16) rfl rfl ?_
 refine g_iadd X d10_16 (pc' := 17) rfl ?_
 refine Go.lit32 (z := (0 : Int32)) (by decide) ?_
 refine g_lconst X (0 : Int64) d10_17 (pc' := 18) rfl rfl ?_
 refine g_lastore X qa 0 d10_18 (pc' := 19) rfl (by decide) (by decide) (Nat.le_of_ble_eq_true rfl) ?_
 intro T h X W qa
 replace qa : Av Z h wk .long [(.long (0 : Int64)), (.long k1), (.long k2), (.long k3), (.long k4), (.long k5)] := qa
 replace qd := qd.other W (Or.inl qc)
 replace qe := qe.other W (Or.inl qc)
 replace qf := qf.other W (Or.inl qc)
 replace qj := qj.other W (Or.inl qc)
 replace qg := qg.other W qm
 replace qh := qh.other W qn
 replace qi := qi.other W qo
 replace qb := qb.other W ql
 replace Z0 := Nat.le_trans Z0 (Nat.le_of_eq W.size.symm)
 replace N := Fr.snoc X.1 N qk
 replace Kp := Kp.wr W (Or.inl (List.mem_of_getElem? (i := 0) rfl))
 refine g_iinc X d10_19 (pc' := 22) (q := (1 : Int32)) (Ls' := #[.val (.ref a0), .val (.ref wv), .val (.ref wk), .val (.int (0 : Int32)), .val (.int (1 : Int32))]) rfl rfl rfl rfl ?_
 refine g_goto X d10_22 (pc' := 3) (by decide) (by decide) ?_
 refine g_iload X d10_3 (pc' := 5) rfl rfl ?_
 refine g_aloadN X d10_5 (pc' := 6) rfl rfl rfl ?_
 refine g_getfield X (host := "") (Or.inl (tb hw 56 rfl)) Via.refl qj d10_6 (pc' := 9) rfl ?_
 intro T X
 refine g_icN X d10_9 (tlt (show (1 : Int32) < (2 : Int32) from (by decide))).2.1 (pc' := 12) rfl ?_
 refine g_aloadN X d10_12 (pc' := 13) rfl rfl rfl ?_
 refine g_iloadN X d10_13 (pc' := 14) rfl rfl ?_
 refine g_iload X d10_14 (pc' := 16) rfl rfl ?_
 refine g_iadd X d10_16 (pc' := 17) rfl ?_
 refine Go.lit32 (z := (1 : Int32)) (by decide) ?_
 refine g_lconst X (0 : Int64) d10_17 (pc' := 18) rfl rfl ?_
 refine g_lastore X qa 1 d10_18 (pc' := 19) rfl (by decide) (by decide) (Nat.le_of_ble_eq_true rfl) ?_
 intro T h X W qa
 replace qa : Av Z h wk .long [(.long (0 : Int64)), (.long (0 : Int64)), (.long k2), (.long k3), (.long k4), (.long k5)] := qa
 replace qd := qd.other W (Or.inl qc)
 replace qe := qe.other W (Or.inl qc)
 replace qf := qf.other W (Or.inl qc)
 replace qj := qj.other W (Or.inl qc)
 replace qg := qg.other W qm
 replace qh := qh.other W qn
 replace qi := qi.other W qo
 replace qb := qb.other W ql
 replace Z0 := Nat.le_trans Z0 (Nat.le_of_eq W.size.symm)
 replace N := Fr.snoc X.1 N qk
 replace Kp := Kp.wr W (Or.inl (List.mem_of_getElem? (i := 0) rfl))
 refine g_iinc X d10_19 (pc' := 22) (q := (1 : Int32)) (Ls' := #[.val (.ref a0), .val (.ref wv), .val (.ref wk), .val (.int (0 : Int32)), .val (.int (2 : Int32))]) rfl rfl rfl rfl ?_
 refine g_goto X d10_22 (pc' := 3) (by decide) (by decide) ?_
 refine g_iload X d10_3 (pc' := 5) rfl rfl ?_
 refine g_aloadN X d10_5 (pc' := 6) rfl rfl rfl ?_
 refine g_getfield X (host := "") (Or.inl (tb hw 56 rfl)) Via.refl qj d10_6 (pc' := 9) rfl ?_
 intro T X
 refine g_icY X d10_9 (flt (show ¬ ((2 : Int32) < (2 : Int32)) from (by decide))).2.1 (pc' := 25) (by decide) (by decide) ?_
 refine g_iconst X (0 : Int32) d10_25 (pc' := 26) rfl rfl ?_
 refine g_istore X d10_26 (pc' := 28) (Ls' := #[.val (.ref a0), .val (.ref wv), .val (.ref wk), .val (.int (0 : Int32)), .val (.int (0 : Int32))]) rfl rfl ?_
 refine g_iload X d10_28 (pc' := 30) rfl rfl ?_
 refine g_aloadN X d10_30 (pc' := 31) rfl rfl rfl ?_
 refine g_arraylength X qb d10_31 (pc' := 32) rfl (z := (3 : Int32)) rfl ?_
 refine g_icN X d10_32 (tlt (show (0 : Int32) < (3 : Int32) from (by decide))).2.1 (pc' := 35) rfl ?_
 refine g_aloadN X d10_35 (pc' := 36) rfl rfl rfl ?_
 refine g_iloadN X d10_36 (pc' := 37) rfl rfl ?_
 refine g_aloadN X d10_37 (pc' := 38) rfl rfl rfl ?_
 refine g_getfield X (host := "") (Or.inl (tb hw 41 rfl)) Via.refl qe d10_38 (pc' := 41) rfl ?_
 intro T X
 refine g_iload X d10_41 (pc' := 43) rfl rfl ?_
 refine g_iaload X qh 0 d10_43 (pc' := 44) rfl (by decide) (by decide) rfl ?_
 refine g_iadd X d10_44 (pc' := 45) rfl ?_
 refine Go.lit32 (z := (0 : Int32)) (by decide) ?_
 refine g_dup2 X d10_45 (pc' := 46) rfl rfl rfl ?_
 refine g_laload X qa 0 d10_46 (pc' := 47) rfl (by decide) (by decide) rfl ?_
 refine g_aloadN X d10_47 (pc' := 48) rfl rfl rfl ?_
 refine g_iload X d10_48 (pc' := 50) rfl rfl ?_
 refine g_iaload X qb 0 d10_50 (pc' := 51) rfl (by decide) (by decide) rfl ?_
 refine g_i2l X d10_51 (pc' := 52) rfl ?_
 refine g_aloadN X d10_52 (pc' := 53) rfl rfl rfl ?_
 refine g_getfield X (host := "") (Or.inl (tb hw 39 rfl)) Via.refl qd d10_53 (pc' := 56) rfl ?_
 intro T X
 refine g_iload X d10_56 (pc' := 58) rfl rfl ?_
 refine g_iaload X qg 0 d10_58 (pc' := 59) rfl (by decide) (by decide) rfl ?_
 refine g_i2l X d10_59 (pc' := 60) rfl ?_
 refine g_lsub X d10_60 (pc' := 61) rfl ?_
 refine g_aloadN X d10_61 (pc' := 62) rfl rfl rfl ?_
 refine g_getfield X (host := "") (Or.inl (tb hw 43 rfl)) Via.refl qf d10_62 (pc' := 65) rfl ?_
 intro T X
 refine g_iload X d10_65 (pc' := 67) rfl rfl ?_
 refine g_iaload X qi 0 d10_67 (pc' := 68) rfl (by decide) (by decide) rfl ?_
 refine g_lshl X d10_68 (pc' := 69) rfl ?_
 refine g_lor X d10_69 (pc' := 70) rfl ?_
 generalize qr : ((0 : Int64) ||| (((x0.toInt64) - (l0.toInt64)) <<< (s0 &&& 0x3f).toInt64)) = qp
 refine g_lastore X qa 0 d10_70 (pc' := 71) rfl (by decide) (by decide) (Nat.le_of_ble_eq_true rfl) ?_
 intro T h X W qa
 replace qa : Av Z h wk .long [(.long qp), (.long (0 : Int64)), (.long k2), (.long k3), (.long k4), (.long k5)] := qa
 replace qd := qd.other W (Or.inl qc)
 replace qe := qe.other W (Or.inl qc)
 replace qf := qf.other W (Or.inl qc)
 replace qg := qg.other W qm
 replace qh := qh.other W qn
 replace qi := qi.other W qo
 replace qb := qb.other W ql
 replace Z0 := Nat.le_trans Z0 (Nat.le_of_eq W.size.symm)
 replace N := Fr.snoc X.1 N qk
 replace Kp := Kp.wr W (Or.inl (List.mem_of_getElem? (i := 0) rfl))
 refine g_iinc X d10_71 (pc' := 74) (q := (1 : Int32)) (Ls' := #[.val (.ref a0), .val (.ref wv), .val (.ref wk), .val (.int (0 : Int32)), .val (.int (1 : Int32))]) rfl rfl rfl rfl ?_
 refine g_goto X d10_74 (pc' := 28) (by decide) (by decide) ?_
 refine g_iload X d10_28 (pc' := 30) rfl rfl ?_
 refine g_aloadN X d10_30 (pc' := 31) rfl rfl rfl ?_
 refine g_arraylength X qb d10_31 (pc' := 32) rfl (z := (3 : Int32)) rfl ?_
 refine g_icN X d10_32 (tlt (show (1 : Int32) < (3 : Int32) from (by decide))).2.1 (pc' := 35) rfl ?_
 refine g_aloadN X d10_35 (pc' := 36) rfl rfl rfl ?_
 refine g_iloadN X d10_36 (pc' := 37) rfl rfl ?_
 refine g_aloadN X d10_37 (pc' := 38) rfl rfl rfl ?_
 refine g_getfield X (host := "") (Or.inl (tb hw 41 rfl)) Via.refl qe d10_38 (pc' := 41) rfl ?_
 intro T X
 refine g_iload X d10_41 (pc' := 43) rfl rfl ?_
 refine g_iaload X qh 1 d10_43 (pc' := 44) rfl (by decide) (by decide) rfl ?_
 refine g_iadd X d10_44 (pc' := 45) rfl ?_
 refine Go.lit32 (z := (0 : Int32)) (by decide) ?_
 refine g_dup2 X d10_45 (pc' := 46) rfl rfl rfl ?_
 refine g_laload X qa 0 d10_46 (pc' := 47) rfl (by decide) (by decide) rfl ?_
 refine g_aloadN X d10_47 (pc' := 48) rfl rfl rfl ?_
 refine g_iload X d10_48 (pc' := 50) rfl rfl ?_
 refine g_iaload X qb 1 d10_50 (pc' := 51) rfl (by decide) (by decide) rfl ?_
 refine g_i2l X d10_51 (pc' := 52) rfl ?_
 refine g_aloadN X d10_52 (pc' := 53) rfl rfl rfl ?_
 refine g_getfield X (host := "") (Or.inl (tb hw 39 rfl)) Via.refl qd d10_53 (pc' := 56) rfl ?_
 intro T X
 refine g_iload X d10_56 (pc' := 58) rfl rfl ?_
 refine g_iaload X qg 1 d10_58 (pc' := 59) rfl (by decide) (by decide) rfl ?_
 refine g_i2l X d10_59 (pc' := 60) rfl ?_
 refine g_lsub X d10_60 (pc' := 61) rfl ?_
 refine g_aloadN X d10_61 (pc' := 62) rfl rfl rfl ?_
 refine g_getfield X (host := "") (Or.inl (tb hw 43 rfl)) Via.refl qf d10_62 (pc' := 65) rfl ?_
 intro T X
 refine g_iload X d10_65 (pc' := 67) rfl rfl ?_
 refine g_iaload X qi 1 d10_67 (pc' := 68) rfl (by decide) (by decide) rfl ?_
 refine g_lshl X d10_68 (pc' := 69) rfl ?_
 refine g_lor X d10_69 (pc' := 70) rfl ?_
 generalize qs : (qp ||| (((x1.toInt64) - (l1.toInt64)) <<< (s1 &&& 0x3f).toInt64)) = qq
 refine g_lastore X qa 0 d10_70 (pc' := 71) rfl (by decide) (by decide) (Nat.le_of_ble_eq_true rfl) ?_
 intro T h X W qa
 replace qa : Av Z h wk .long [(.long qq), (.long (0 : Int64)), (.long k2), (.long k3), (.long k4), (.long k5)] := qa
 replace qd := qd.other W (Or.inl qc)
 replace qe := qe.other W (Or.inl qc)
 replace qf := qf.other W (Or.inl qc)
 replace qg := qg.other W qm
 replace qh := qh.other W qn
 replace qi := qi.other W qo
 replace qb := qb.other W ql
 replace Z0 := Nat.le_trans Z0 (Nat.le_of_eq W.size.symm)
 replace N := Fr.snoc X.1 N qk
 replace Kp := Kp.wr W (Or.inl (List.mem_of_getElem? (i := 0) rfl))
 refine g_iinc X d10_71 (pc' := 74) (q := (1 : Int32)) (Ls' := #[.val (.ref a0), .val (.ref wv), .val (.ref wk), .val (.int (0 : Int32)), .val (.int (2 : Int32))]) rfl rfl rfl rfl ?_
 refine g_goto X d10_74 (pc' := 28) (by decide) (by decide) ?_
 refine g_iload X d10_28 (pc' := 30) rfl rfl ?_
 refine g_aloadN X d10_30 (pc' := 31) rfl rfl rfl ?_
 refine g_arraylength X qb d10_31 (pc' := 32) rfl (z := (3 : Int32)) rfl ?_
 refine g_icN X d10_32 (tlt (show (2 : Int32) < (3 : Int32) from (by decide))).2.1 (pc' := 35) rfl ?_
 refine g_aloadN X d10_35 (pc' := 36) rfl rfl rfl ?_
 refine g_iloadN X d10_36 (pc' := 37) rfl rfl ?_
 refine g_aloadN X d10_37 (pc' := 38) rfl rfl rfl ?_
 refine g_getfield X (host := "") (Or.inl (tb hw 41 rfl)) Via.refl qe d10_38 (pc' := 41) rfl ?_
 intro T X
 refine g_iload X d10_41 (pc' := 43) rfl rfl ?_
 refine g_iaload X qh 2 d10_43 (pc' := 44) rfl (by decide) (by decide) rfl ?_
 refine g_iadd X d10_44 (pc' := 45) rfl ?_
 refine Go.lit32 (z := (1 : Int32)) (by decide) ?_
 refine g_dup2 X d10_45 (pc' := 46) rfl rfl rfl ?_
 refine g_laload X qa 1 d10_46 (pc' := 47) rfl (by decide) (by decide) rfl ?_
 refine g_aloadN X d10_47 (pc' := 48) rfl rfl rfl ?_
 refine g_iload X d10_48 (pc' := 50) rfl rfl ?_
 refine g_iaload X qb 2 d10_50 (pc' := 51) rfl (by decide) (by decide) rfl ?_
 refine g_i2l X d10_51 (pc' := 52) rfl ?_
 refine g_aloadN X d10_52 (pc' := 53) rfl rfl rfl ?_
 refine g_getfield X (host := "") (Or.inl (tb hw 39 rfl)) Via.refl qd d10_53 (pc' := 56) rfl ?_
 intro T X
 refine g_iload X d10_56 (pc' := 58) rfl rfl ?_
 refine g_iaload X qg 2 d10_58 (pc' := 59) rfl (by decide) (by decide) rfl ?_
 refine g_i2l X d10_59 (pc' := 60) rfl ?_
 refine g_lsub X d10_60 (pc' := 61) rfl ?_
 refine g_aloadN X d10_61 (pc' := 62) rfl rfl rfl ?_
 refine g_getfield X (host := "") (Or.inl (tb hw 43 rfl)) Via.refl qf d10_62 (pc' := 65) rfl ?_
 intro T X
 refine g_iload X d10_65 (pc' := 67) rfl rfl ?_
 refine g_iaload X qi 2 d10_67 (pc' := 68) rfl (by decide) (by decide) rfl ?_
 refine g_lshl X d10_68 (pc' := 69) rfl ?_
 refine g_lor X d10_69 (pc' := 70) rfl ?_
 generalize qt : ((0 : Int64) ||| (((x2.toInt64) - (l2.toInt64)) <<< (s2 &&& 0x3f).toInt64)) = qu
 refine g_lastore X qa 1 d10_70 (pc' := 71) rfl (by decide) (by decide) (Nat.le_of_ble_eq_true rfl) ?_
 intro T h X W qa
 replace qa : Av Z h wk .long [(.long qq), (.long qu), (.long k2), (.long k3), (.long k4), (.long k5)] := qa
 replace qb := qb.other W ql
 replace Z0 := Nat.le_trans Z0 (Nat.le_of_eq W.size.symm)
 replace N := Fr.snoc X.1 N qk
 replace Kp := Kp.wr W (Or.inl (List.mem_of_getElem? (i := 0) rfl))
 refine g_iinc X d10_71 (pc' := 74) (q := (1 : Int32)) (Ls' := #[.val (.ref a0), .val (.ref wv), .val (.ref wk), .val (.int (0 : Int32)), .val (.int (3 : Int32))]) rfl rfl rfl rfl ?_
 refine g_goto X d10_74 (pc' := 28) (by decide) (by decide) ?_
 refine g_iload X d10_28 (pc' := 30) rfl rfl ?_
 refine g_aloadN X d10_30 (pc' := 31) rfl rfl rfl ?_
 refine g_arraylength X qb d10_31 (pc' := 32) rfl (z := (3 : Int32)) rfl ?_
 refine g_icY X d10_32 (flt (show ¬ ((3 : Int32) < (3 : Int32)) from (by decide))).2.1 (pc' := 77) (by decide) (by decide) ?_
 refine g_return X d10_77 hret hlk (by decide) (by decide) ?_
 subst qr qs qt
 exact ⟨rfl, N, Kp, qa⟩
theorem ef_rUp10 (m : MethodId) (x0 : Addr) (x1 : Addr) (x2 : Int32) (x3 : Addr) : entryFrame m #[(.ref x0), (.ref x1), (.int x2), (.ref x3)] 5 = mkF m 0 #[.val (.ref x0), .val (.ref x1), .val (.int x2), .val (.ref x3), .unset] [] := by first | (simp [entryFrame, mkF, argsToLocals, Value.category]; done) | rfl
set_option maxRecDepth 65536 in
set_option maxHeartbeats 40000000 in
theorem rUp10 (l : Launch) (Z : State) (aa : Array Value) (hw : ∀ d ∈ tables_1, d.before aa Z = true) (ws : List Jvm.Cond) (a0 : Addr) (wk : Addr) (wv : Addr) (wl : Addr) (ww : Addr) (wt : Addr) (wm : Addr) (l0 : Int32) (l1 : Int32) (l2 : Int32) (s0 : Int32) (s1 : Int32) (s2 : Int32) (m0 : Int64) (m1 : Int64) (m2 : Int64) (k0 : Int64) (k1 : Int64) (k2 : Int64) (k3 : Int64) (k4 : Int64) (k5 : Int64) (x0 : Int32) (x1 : Int32) (x2 : Int32) (h0 : Heap) (n0 : Nat) (Z0 : n0 ≤ h0.size) (qx : Exa Z h0 a0 "com/example/ryazan/ryazan/language/Layout") (qc : Fld Z h0 a0 "com/example/ryazan/ryazan/language/Layout" "low" "[I" (.ref wl)) (qd : Fld Z h0 a0 "com/example/ryazan/ryazan/language/Layout" "word" "[I" (.ref ww)) (qe : Fld Z h0 a0 "com/example/ryazan/ryazan/language/Layout" "shift" "[I" (.ref wt)) (qf : Fld Z h0 a0 "com/example/ryazan/ryazan/language/Layout" "mask" "[J" (.ref wm)) (qg : Av Z h0 wl .int [(.int l0), (.int l1), (.int l2)]) (qh : Av Z h0 ww .int [(.int (0 : Int32)), (.int (0 : Int32)), (.int (1 : Int32))]) (qi : Av Z h0 wt .int [(.int s0), (.int s1), (.int s2)]) (qj : Av Z h0 wm .long [(.long m0), (.long m1), (.long m2)]) (qk : Av Z h0 wk .long [(.long k0), (.long k1), (.long k2), (.long k3), (.long k4), (.long k5)]) (qa : Av Z h0 wv .int [(.int x0), (.int x1), (.int x2)]) (ql : n0 ≤ wv) (qb : a0 ≠ wv) (qn : wl ≠ wv) (qo : ww ≠ wv) (qp : wt ≠ wv) (qq : wm ≠ wv) (qr : wk ≠ wv) :
    Rm l Z (⟨"com/example/ryazan/ryazan/language/Layout", "unpack", "([JI[I)V"⟩ : MethodName) prog_58_method_4_code 5 none ws ({ frames := 0, cells := 0, slots := 0, locals := 0 } : Room) #[(.ref a0), (.ref wk), (.int (0 : Int32)), (.ref wv)] h0 (fun v h L => v = none ∧ Fr n0 L ∧ Keep h0 h [wv] ∧ Av Z h wv .int [(.int (((((k0.toUInt64 >>> (s0 &&& 0x3f).toInt64.toUInt64).toInt64) &&& m0).toInt32) + l0)), (.int (((((k0.toUInt64 >>> (s1 &&& 0x3f).toInt64.toUInt64).toInt64) &&& m1).toInt32) + l1)), (.int (((((k1.toUInt64 >>> (s2 &&& 0x3f).toInt64.toUInt64).toInt64) &&& m2).toInt32) + l2))]) := by
 refine Rm.of (plainFor_of_name pn_3) ?_
 intro p e s m below meth cc T X hnm hret hlk
 refine Go.at_ (ef_rUp10 m a0 wk (0 : Int32) wv) ?_
 have N := Fr.nil n0
 have Kp := Keep.refl h0 [wv]
 refine g_iconst X (0 : Int32) d11_0 (pc' := 1) rfl rfl ?_
 refine g_istore X d11_1 (pc' := 3) (Ls' := #[.val (.ref a0), .val (.ref wk), .val (.int (0 : Int32)), .val (.ref wv), .val (.int (0 : Int32))]) rfl rfl ?_
 refine g_iload X d11_3 (pc' := 5) rfl rfl ?_
 refine g_aloadN X d11_5 (pc' := 6) rfl rfl rfl ?_
 refine g_arraylength X qa d11_6 (pc' := 7) rfl (z := (3 : Int32)) rfl ?_
 refine g_icN X d11_7 (tlt (show (0 : Int32) < (3 : Int32) from (by decide))).2.1 (pc' := 10) rfl ?_
 refine g_aloadN X d11_10 (pc' := 11) rfl rfl rfl ?_
 refine g_iload X d11_11 (pc' := 13) rfl rfl ?_
 refine g_aloadN X d11_13 (pc' := 14) rfl rfl rfl ?_
 refine g_iloadN X d11_14 (pc' := 15) rfl rfl ?_
 refine g_aloadN X d11_15 (pc' := 16) rfl rfl rfl ?_
 refine g_getfield X (host := "") (Or.inl (tb hw 41 rfl)) Via.refl qd d11_16 (pc' := 19) rfl ?_
 intro T X
 refine g_iload X d11_19 (pc' := 21) rfl rfl ?_
 refine g_iaload X qh 0 d11_21 (pc' := 22) rfl (by decide) (by decide) rfl ?_
 refine g_iadd X d11_22 (pc' := 23) rfl ?_
 refine Go.lit32 (z := (0 : Int32)) (by decide) ?_
 refine g_laload X qk 0 d11_23 (pc' := 24) rfl (by decide) (by decide) rfl ?_
 refine g_aloadN X d11_24 (pc' := 25) rfl rfl rfl ?_
 refine g_getfield X (host := "") (Or.inl (tb hw 43 rfl)) Via.refl qe d11_25 (pc' := 28) rfl ?_
 intro T X
 refine g_iload X d11_28 (pc' := 30) rfl rfl ?_
 refine g_iaload X qi 0 d11_30 (pc' := 31) rfl (by decide) (by decide) rfl ?_
 refine g_lushr X d11_31 (pc' := 32) rfl ?_
 refine g_aloadN X d11_32 (pc' := 33) rfl rfl rfl ?_
 refine g_getfield X (host := "") (Or.inl (tb hw 45 rfl)) Via.refl qf d11_33 (pc' := 36) rfl ?_
 intro T X
 refine g_iload X d11_36 (pc' := 38) rfl rfl ?_
 refine g_laload X qj 0 d11_38 (pc' := 39) rfl (by decide) (by decide) rfl ?_
 refine g_land X d11_39 (pc' := 40) rfl ?_
 refine g_l2i X d11_40 (pc' := 41) rfl ?_
 refine g_aloadN X d11_41 (pc' := 42) rfl rfl rfl ?_
 refine g_getfield X (host := "") (Or.inl (tb hw 39 rfl)) Via.refl qc d11_42 (pc' := 45) rfl ?_
 intro T X
 refine g_iload X d11_45 (pc' := 47) rfl rfl ?_
 refine g_iaload X qg 0 d11_47 (pc' := 48) rfl (by decide) (by decide) rfl ?_
 refine g_iadd X d11_48 (pc' := 49) rfl ?_
 generalize qt : (((((k0.toUInt64 >>> (s0 &&& 0x3f).toInt64.toUInt64).toInt64) &&& m0).toInt32) + l0) = qm
 refine g_iastore X qa 0 d11_49 (pc' := 50) rfl (by decide) (by decide) (Nat.le_of_ble_eq_true rfl) ?_
 intro T h X W qa
 replace qa : Av Z h wv .int [(.int qm), (.int x1), (.int x2)] := qa
 replace qc := qc.other W (Or.inl qb)
 replace qd := qd.other W (Or.inl qb)
 replace qe := qe.other W (Or.inl qb)
 replace qf := qf.other W (Or.inl qb)
 replace qg := qg.other W qn
 replace qh := qh.other W qo
 replace qi := qi.other W qp
 replace qj := qj.other W qq
 replace qk := qk.other W qr
 replace Z0 := Nat.le_trans Z0 (Nat.le_of_eq W.size.symm)
 replace N := Fr.snoc X.1 N ql
 replace Kp := Kp.wr W (Or.inl (List.mem_of_getElem? (i := 0) rfl))
 refine g_iinc X d11_50 (pc' := 53) (q := (1 : Int32)) (Ls' := #[.val (.ref a0), .val (.ref wk), .val (.int (0 : Int32)), .val (.ref wv), .val (.int (1 : Int32))]) rfl rfl rfl rfl ?_
 refine g_goto X d11_53 (pc' := 3) (by decide) (by decide) ?_
 refine g_iload X d11_3 (pc' := 5) rfl rfl ?_
 refine g_aloadN X d11_5 (pc' := 6) rfl rfl rfl ?_
 refine g_arraylength X qa d11_6 (pc' := 7) rfl (z := (3 : Int32)) rfl ?_
 refine g_icN X d11_7 (tlt (show (1 : Int32) < (3 : Int32) from (by decide))).2.1 (pc' := 10) rfl ?_
 refine g_aloadN X d11_10 (pc' := 11) rfl rfl rfl ?_
 refine g_iload X d11_11 (pc' := 13) rfl rfl ?_
 refine g_aloadN X d11_13 (pc' := 14) rfl rfl rfl ?_
 refine g_iloadN X d11_14 (pc' := 15) rfl rfl ?_
 refine g_aloadN X d11_15 (pc' := 16) rfl rfl rfl ?_
 refine g_getfield X (host := "") (Or.inl (tb hw 41 rfl)) Via.refl qd d11_16 (pc' := 19) rfl ?_
 intro T X
 refine g_iload X d11_19 (pc' := 21) rfl rfl ?_
 refine g_iaload X qh 1 d11_21 (pc' := 22) rfl (by decide) (by decide) rfl ?_
 refine g_iadd X d11_22 (pc' := 23) rfl ?_
 refine Go.lit32 (z := (0 : Int32)) (by decide) ?_
 refine g_laload X qk 0 d11_23 (pc' := 24) rfl (by decide) (by decide) rfl ?_
 refine g_aloadN X d11_24 (pc' := 25) rfl rfl rfl ?_
 refine g_getfield X (host := "") (Or.inl (tb hw 43 rfl)) Via.refl qe d11_25 (pc' := 28) rfl ?_
 intro T X
 refine g_iload X d11_28 (pc' := 30) rfl rfl ?_
 refine g_iaload X qi 1 d11_30 (pc' := 31) rfl (by decide) (by decide) rfl ?_
 refine g_lushr X d11_31 (pc' := 32) rfl ?_
 refine g_aloadN X d11_32 (pc' := 33) rfl rfl rfl ?_
 refine g_getfield X (host := "") (Or.inl (tb hw 45 rfl)) Via.refl qf d11_33 (pc' := 36) rfl ?_
 intro T X
 refine g_iload X d11_36 (pc' := 38) rfl rfl ?_
 refine g_laload X qj 1 d11_38 (pc' := 39) rfl (by decide) (by decide) rfl ?_
 refine g_land X d11_39 (pc' := 40) rfl ?_
 refine g_l2i X d11_40 (pc' := 41) rfl ?_
 refine g_aloadN X d11_41 (pc' := 42) rfl rfl rfl ?_
 refine g_getfield X (host := "") (Or.inl (tb hw 39 rfl)) Via.refl qc d11_42 (pc' := 45) rfl ?_
 intro T X
 refine g_iload X d11_45 (pc' := 47) rfl rfl ?_
 refine g_iaload X qg 1 d11_47 (pc' := 48) rfl (by decide) (by decide) rfl ?_
 refine g_iadd X d11_48 (pc' := 49) rfl ?_
 generalize qu : (((((k0.toUInt64 >>> (s1 &&& 0x3f).toInt64.toUInt64).toInt64) &&& m1).toInt32) + l1) = qs
 refine g_iastore X qa 1 d11_49 (pc' := 50) rfl (by decide) (by decide) (Nat.le_of_ble_eq_true rfl) ?_
 intro T h X W qa
 replace qa : Av Z h wv .int [(.int qm), (.int qs), (.int x2)] := qa
 replace qc := qc.other W (Or.inl qb)
 replace qd := qd.other W (Or.inl qb)
 replace qe := qe.other W (Or.inl qb)
 replace qf := qf.other W (Or.inl qb)
 replace qg := qg.other W qn
 replace qh := qh.other W qo
 replace qi := qi.other W qp
 replace qj := qj.other W qq
 replace qk := qk.other W qr
 replace Z0 := Nat.le_trans Z0 (Nat.le_of_eq W.size.symm)
 replace N := Fr.snoc X.1 N ql
 replace Kp := Kp.wr W (Or.inl (List.mem_of_getElem? (i := 0) rfl))
 refine g_iinc X d11_50 (pc' := 53) (q := (1 : Int32)) (Ls' := #[.val (.ref a0), .val (.ref wk), .val (.int (0 : Int32)), .val (.ref wv), .val (.int (2 : Int32))]) rfl rfl rfl rfl ?_
 refine g_goto X d11_53 (pc' := 3) (by decide) (by decide) ?_
 refine g_iload X d11_3 (pc' := 5) rfl rfl ?_
 refine g_aloadN X d11_5 (pc' := 6) rfl rfl rfl ?_
 refine g_arraylength X qa d11_6 (pc' := 7) rfl (z := (3 : Int32)) rfl ?_
 refine g_icN X d11_7 (tlt (show (2 : Int32) < (3 : Int32) from (by decide))).2.1 (pc' := 10) rfl ?_
 refine g_aloadN X d11_10 (pc' := 11) rfl rfl rfl ?_
 refine g_iload X d11_11 (pc' := 13) rfl rfl ?_
 refine g_aloadN X d11_13 (pc' := 14) rfl rfl rfl ?_
 refine g_iloadN X d11_14 (pc' := 15) rfl rfl ?_
 refine g_aloadN X d11_15 (pc' := 16) rfl rfl rfl ?_
 refine g_getfield X (host := "") (Or.inl (tb hw 41 rfl)) Via.refl qd d11_16 (pc' := 19) rfl ?_
 intro T X
 refine g_iload X d11_19 (pc' := 21) rfl rfl ?_
 refine g_iaload X qh 2 d11_21 (pc' := 22) rfl (by decide) (by decide) rfl ?_
 refine g_iadd X d11_22 (pc' := 23) rfl ?_
 refine Go.lit32 (z := (1 : Int32)) (by decide) ?_
 refine g_laload X qk 1 d11_23 (pc' := 24) rfl (by decide) (by decide) rfl ?_
 refine g_aloadN X d11_24 (pc' := 25) rfl rfl rfl ?_
 refine g_getfield X (host := "") (Or.inl (tb hw 43 rfl)) Via.refl qe d11_25 (pc' := 28) rfl ?_
 intro T X
 refine g_iload X d11_28 (pc' := 30) rfl rfl ?_
 refine g_iaload X qi 2 d11_30 (pc' := 31) rfl (by decide) (by decide) rfl ?_
 refine g_lushr X d11_31 (pc' := 32) rfl ?_
 refine g_aloadN X d11_32 (pc' := 33) rfl rfl rfl ?_
 refine g_getfield X (host := "") (Or.inl (tb hw 45 rfl)) Via.refl qf d11_33 (pc' := 36) rfl ?_
 intro T X
 refine g_iload X d11_36 (pc' := 38) rfl rfl ?_
 refine g_laload X qj 2 d11_38 (pc' := 39) rfl (by decide) (by decide) rfl ?_
 refine g_land X d11_39 (pc' := 40) rfl ?_
 refine g_l2i X d11_40 (pc' := 41) rfl ?_
 refine g_aloadN X d11_41 (pc' := 42) rfl rfl rfl ?_
 refine g_getfield X (host := "") (Or.inl (tb hw 39 rfl)) Via.refl qc d11_42 (pc' := 45) rfl ?_
 intro T X
 refine g_iload X d11_45 (pc' := 47) rfl rfl ?_
 refine g_iaload X qg 2 d11_47 (pc' := 48) rfl (by decide) (by decide) rfl ?_
 refine g_iadd X d11_48 (pc' := 49) rfl ?_
 generalize qv : (((((k1.toUInt64 >>> (s2 &&& 0x3f).toInt64.toUInt64).toInt64) &&& m2).toInt32) + l2) = qw
 refine g_iastore X qa 2 d11_49 (pc' := 50) rfl (by decide) (by decide) (Nat.le_of_ble_eq_true rfl) ?_
 intro T h X W qa
 replace qa : Av Z h wv .int [(.int qm), (.int qs), (.int qw)] := qa
 replace Z0 := Nat.le_trans Z0 (Nat.le_of_eq W.size.symm)
 replace N := Fr.snoc X.1 N ql
 replace Kp := Kp.wr W (Or.inl (List.mem_of_getElem? (i := 0) rfl))
 refine g_iinc X d11_50 (pc' := 53) (q := (1 : Int32)) (Ls' := #[.val (.ref a0), .val (.ref wk), .val (.int (0 : Int32)), .val (.ref wv), .val (.int (3 : Int32))]) rfl rfl rfl rfl ?_
 refine g_goto X d11_53 (pc' := 3) (by decide) (by decide) ?_
 refine g_iload X d11_3 (pc' := 5) rfl rfl ?_
 refine g_aloadN X d11_5 (pc' := 6) rfl rfl rfl ?_
 refine g_arraylength X qa d11_6 (pc' := 7) rfl (z := (3 : Int32)) rfl ?_
 refine g_icY X d11_7 (flt (show ¬ ((3 : Int32) < (3 : Int32)) from (by decide))).2.1 (pc' := 56) (by decide) (by decide) ?_
 refine g_return X d11_56 hret hlk (by decide) (by decide) ?_
 subst qt qu qv
 exact ⟨rfl, N, Kp, qa⟩
theorem ef_rPk11 (m : MethodId) (x0 : Addr) (x1 : Addr) (x2 : Addr) (x3 : Int32) : entryFrame m #[(.ref x0), (.ref x1), (.ref x2), (.int x3)] 5 = mkF m 0 #[.val (.ref x0), .val (.ref x1), .val (.ref x2), .val (.int x3), .unset] [] := by first | (simp [entryFrame, mkF, argsToLocals, Value.category]; done) | rfl
set_option maxRecDepth 65536 in
set_option maxHeartbeats 40000000 in
theorem rPk11 (l : Launch) (Z : State) (aa : Array Value) (hw : ∀ d ∈ tables_1, d.before aa Z = true) (ws : List Jvm.Cond) (a0 : Addr) (wv : Addr) (wk : Addr) (wl : Addr) (ww : Addr) (wt : Addr) (l0 : Int32) (l1 : Int32) (l2 : Int32) (s0 : Int32) (s1 : Int32) (s2 : Int32) (x0 : Int32) (x1 : Int32) (x2 : Int32) (k0 : Int64) (k1 : Int64) (k2 : Int64) (k3 : Int64) (k4 : Int64) (k5 : Int64) (h0 : Heap) (n0 : Nat) (Z0 : n0 ≤ h0.size) (qv : Exa Z h0 a0 "com/example/ryazan/ryazan/language/Layout") (qd : Fld Z h0 a0 "com/example/ryazan/ryazan/language/Layout" "low" "[I" (.ref wl)) (qe : Fld Z h0 a0 "com/example/ryazan/ryazan/language/Layout" "word" "[I" (.ref ww)) (qf : Fld Z h0 a0 "com/example/ryazan/ryazan/language/Layout" "shift" "[I" (.ref wt)) (qj : Fld Z h0 a0 "com/example/ryazan/ryazan/language/Layout" "width" "I" (.int (2 : Int32))) (qg : Av Z h0 wl .int [(.int l0), (.int l1), (.int l2)]) (qh : Av Z h0 ww .int [(.int (0 : Int32)), (.int (0 : Int32)), (.int (1 : Int32))]) (qi : Av Z h0 wt .int [(.int s0), (.int s1), (.int s2)]) (qb : Av Z h0 wv .int [(.int x0), (.int x1), (.int x2)]) (qa : Av Z h0 wk .long [(.long k0), (.long k1), (.long k2), (.long k3), (.long k4), (.long k5)]) (qk : n0 ≤ wk) (qc : a0 ≠ wk) (qm : wl ≠ wk) (qn : ww ≠ wk) (qo : wt ≠ wk) (ql : wv ≠ wk) :
    Rm l Z (⟨"com/example/ryazan/ryazan/language/Layout", "pack", "([I[JI)V"⟩ : MethodName) prog_58_method_3_code 5 none ws ({ frames := 0, cells := 0, slots := 0, locals := 0 } : Room) #[(.ref a0), (.ref wv), (.ref wk), (.int (1 : Int32))] h0 (fun v h L => v = none ∧ Fr n0 L ∧ Keep h0 h [wk] ∧ Av Z h wk .long [(.long k0), (.long (((0 : Int64) ||| (((x0.toInt64) - (l0.toInt64)) <<< (s0 &&& 0x3f).toInt64)) ||| (((x1.toInt64) - (l1.toInt64)) <<< (s1 &&& 0x3f).toInt64))), (.long ((0 : Int64) ||| (((x2.toInt64) - (l2.toInt64)) <<< (s2 &&& 0x3f).toInt64))), (.long k3), (.long k4), (.long k5)]) := by
 refine Rm.of (plainFor_of_name pn_3) ?_
 intro p e s m below meth cc T X hnm hret hlk
 refine Go.at_ (ef_rPk11 m a0 wv wk (1 : Int32)) ?_
 have N := Fr.nil n0
 have Kp := Keep.refl h0 [wk]
 refine g_iconst X (0 : Int32) d10_0 (pc' := 1) rfl rfl ?_
 refine g_istore X d10_1 (pc' := 3) (Ls' := #[.val (.ref a0), .val (.ref wv), .val (.ref wk), .val (.int (1 : Int32)), .val (.int (0 : Int32))]) rfl rfl ?_
 refine g_iload X d10_3 (pc' := 5) rfl rfl ?_
 refine g_aloadN X d10_5 (pc' := 6) rfl rfl rfl ?_
 refine g_getfield X (host := "") (Or.inl (tb hw 56 rfl)) Via.refl qj d10_6 (pc' := 9) rfl ?_
 intro T X
 refine g_icN X d10_9 (tlt (show (0 : Int32) < (2 : Int32) from (by decide))).2.1 (pc' := 12) rfl ?_
 refine g_aloadN X d10_12 (pc' := 13) rfl rfl rfl ?_
 refine g_iloadN X d10_13 (pc' := 14) rfl rfl ?_
 refine g_iload X d10_14 (pc' := 16) rfl rfl ?_
 refine g_iadd X d10_16 (pc' := 17) rfl ?_
 refine Go.lit32 (z := (1 : Int32)) (by decide) ?_
 refine g_lconst X (0 : Int64) d10_17 (pc' := 18) rfl rfl ?_
 refine g_lastore X qa 1 d10_18 (pc' := 19) rfl (by decide) (by decide) (Nat.le_of_ble_eq_true rfl) ?_
 intro T h X W qa
 replace qa : Av Z h wk .long [(.long k0), (.long (0 : Int64)), (.long k2), (.long k3), (.long k4), (.long k5)] := qa
 replace qd := qd.other W (Or.inl qc)
 replace qe := qe.other W (Or.inl qc)
 replace qf := qf.other W (Or.inl qc)
 replace qj := qj.other W (Or.inl qc)
 replace qg := qg.other W qm
 replace qh := qh.other W qn
 replace qi := qi.other W qo
 replace qb := qb.other W ql
 replace Z0 := Nat.le_trans Z0 (Nat.le_of_eq W.size.symm)
 replace N := Fr.snoc X.1 N qk
 replace Kp := Kp.wr W (Or.inl (List.mem_of_getElem? (i := 0) rfl))
 refine g_iinc X d10_19 (pc' := 22) (q := (1 : Int32)) (Ls' := #[.val (.ref a0), .val (.ref wv), .val (.ref wk), .val (.int (1 : Int32)), .val (.int (1 : Int32))]) rfl rfl rfl rfl ?_
 refine g_goto X d10_22 (pc' := 3) (by decide) (by decide) ?_
 refine g_iload X d10_3 (pc' := 5) rfl rfl ?_
 refine g_aloadN X d10_5 (pc' := 6) rfl rfl rfl ?_
 refine g_getfield X (host := "") (Or.inl (tb hw 56 rfl)) Via.refl qj d10_6 (pc' := 9) rfl ?_
 intro T X
 refine g_icN X d10_9 (tlt (show (1 : Int32) < (2 : Int32) from (by decide))).2.1 (pc' := 12) rfl ?_
 refine g_aloadN X d10_12 (pc' := 13) rfl rfl rfl ?_
 refine g_iloadN X d10_13 (pc' := 14) rfl rfl ?_
 refine g_iload X d10_14 (pc' := 16) rfl rfl ?_
 refine g_iadd X d10_16 (pc' := 17) rfl ?_
 refine Go.lit32 (z := (2 : Int32)) (by decide) ?_
 refine g_lconst X (0 : Int64) d10_17 (pc' := 18) rfl rfl ?_
 refine g_lastore X qa 2 d10_18 (pc' := 19) rfl (by decide) (by decide) (Nat.le_of_ble_eq_true rfl) ?_
 intro T h X W qa
 replace qa : Av Z h wk .long [(.long k0), (.long (0 : Int64)), (.long (0 : Int64)), (.long k3), (.long k4), (.long k5)] := qa
 replace qd := qd.other W (Or.inl qc)
 replace qe := qe.other W (Or.inl qc)
 replace qf := qf.other W (Or.inl qc)
 replace qj := qj.other W (Or.inl qc)
 replace qg := qg.other W qm
 replace qh := qh.other W qn
 replace qi := qi.other W qo
 replace qb := qb.other W ql
 replace Z0 := Nat.le_trans Z0 (Nat.le_of_eq W.size.symm)
 replace N := Fr.snoc X.1 N qk
 replace Kp := Kp.wr W (Or.inl (List.mem_of_getElem? (i := 0) rfl))
 refine g_iinc X d10_19 (pc' := 22) (q := (1 : Int32)) (Ls' := #[.val (.ref a0), .val (.ref wv), .val (.ref wk), .val (.int (1 : Int32)), .val (.int (2 : Int32))]) rfl rfl rfl rfl ?_
 refine g_goto X d10_22 (pc' := 3) (by decide) (by decide) ?_
 refine g_iload X d10_3 (pc' := 5) rfl rfl ?_
 refine g_aloadN X d10_5 (pc' := 6) rfl rfl rfl ?_
 refine g_getfield X (host := "") (Or.inl (tb hw 56 rfl)) Via.refl qj d10_6 (pc' := 9) rfl ?_
 intro T X
 refine g_icY X d10_9 (flt (show ¬ ((2 : Int32) < (2 : Int32)) from (by decide))).2.1 (pc' := 25) (by decide) (by decide) ?_
 refine g_iconst X (0 : Int32) d10_25 (pc' := 26) rfl rfl ?_
 refine g_istore X d10_26 (pc' := 28) (Ls' := #[.val (.ref a0), .val (.ref wv), .val (.ref wk), .val (.int (1 : Int32)), .val (.int (0 : Int32))]) rfl rfl ?_
 refine g_iload X d10_28 (pc' := 30) rfl rfl ?_
 refine g_aloadN X d10_30 (pc' := 31) rfl rfl rfl ?_
 refine g_arraylength X qb d10_31 (pc' := 32) rfl (z := (3 : Int32)) rfl ?_
 refine g_icN X d10_32 (tlt (show (0 : Int32) < (3 : Int32) from (by decide))).2.1 (pc' := 35) rfl ?_
 refine g_aloadN X d10_35 (pc' := 36) rfl rfl rfl ?_
 refine g_iloadN X d10_36 (pc' := 37) rfl rfl ?_
 refine g_aloadN X d10_37 (pc' := 38) rfl rfl rfl ?_
 refine g_getfield X (host := "") (Or.inl (tb hw 41 rfl)) Via.refl qe d10_38 (pc' := 41) rfl ?_
 intro T X
 refine g_iload X d10_41 (pc' := 43) rfl rfl ?_
 refine g_iaload X qh 0 d10_43 (pc' := 44) rfl (by decide) (by decide) rfl ?_
 refine g_iadd X d10_44 (pc' := 45) rfl ?_
 refine Go.lit32 (z := (1 : Int32)) (by decide) ?_
 refine g_dup2 X d10_45 (pc' := 46) rfl rfl rfl ?_
 refine g_laload X qa 1 d10_46 (pc' := 47) rfl (by decide) (by decide) rfl ?_
 refine g_aloadN X d10_47 (pc' := 48) rfl rfl rfl ?_
 refine g_iload X d10_48 (pc' := 50) rfl rfl ?_
 refine g_iaload X qb 0 d10_50 (pc' := 51) rfl (by decide) (by decide) rfl ?_
 refine g_i2l X d10_51 (pc' := 52) rfl ?_
 refine g_aloadN X d10_52 (pc' := 53) rfl rfl rfl ?_
 refine g_getfield X (host := "") (Or.inl (tb hw 39 rfl)) Via.refl qd d10_53 (pc' := 56) rfl ?_
 intro T X
 refine g_iload X d10_56 (pc' := 58) rfl rfl ?_
 refine g_iaload X qg 0 d10_58 (pc' := 59) rfl (by decide) (by decide) rfl ?_
 refine g_i2l X d10_59 (pc' := 60) rfl ?_
 refine g_lsub X d10_60 (pc' := 61) rfl ?_
 refine g_aloadN X d10_61 (pc' := 62) rfl rfl rfl ?_
 refine g_getfield X (host := "") (Or.inl (tb hw 43 rfl)) Via.refl qf d10_62 (pc' := 65) rfl ?_
 intro T X
 refine g_iload X d10_65 (pc' := 67) rfl rfl ?_
 refine g_iaload X qi 0 d10_67 (pc' := 68) rfl (by decide) (by decide) rfl ?_
 refine g_lshl X d10_68 (pc' := 69) rfl ?_
 refine g_lor X d10_69 (pc' := 70) rfl ?_
 generalize qr : ((0 : Int64) ||| (((x0.toInt64) - (l0.toInt64)) <<< (s0 &&& 0x3f).toInt64)) = qp
 refine g_lastore X qa 1 d10_70 (pc' := 71) rfl (by decide) (by decide) (Nat.le_of_ble_eq_true rfl) ?_
 intro T h X W qa
 replace qa : Av Z h wk .long [(.long k0), (.long qp), (.long (0 : Int64)), (.long k3), (.long k4), (.long k5)] := qa
 replace qd := qd.other W (Or.inl qc)
 replace qe := qe.other W (Or.inl qc)
 replace qf := qf.other W (Or.inl qc)
 replace qg := qg.other W qm
 replace qh := qh.other W qn
 replace qi := qi.other W qo
 replace qb := qb.other W ql
 replace Z0 := Nat.le_trans Z0 (Nat.le_of_eq W.size.symm)
 replace N := Fr.snoc X.1 N qk
 replace Kp := Kp.wr W (Or.inl (List.mem_of_getElem? (i := 0) rfl))
 refine g_iinc X d10_71 (pc' := 74) (q := (1 : Int32)) (Ls' := #[.val (.ref a0), .val (.ref wv), .val (.ref wk), .val (.int (1 : Int32)), .val (.int (1 : Int32))]) rfl rfl rfl rfl ?_
 refine g_goto X d10_74 (pc' := 28) (by decide) (by decide) ?_
 refine g_iload X d10_28 (pc' := 30) rfl rfl ?_
 refine g_aloadN X d10_30 (pc' := 31) rfl rfl rfl ?_
 refine g_arraylength X qb d10_31 (pc' := 32) rfl (z := (3 : Int32)) rfl ?_
 refine g_icN X d10_32 (tlt (show (1 : Int32) < (3 : Int32) from (by decide))).2.1 (pc' := 35) rfl ?_
 refine g_aloadN X d10_35 (pc' := 36) rfl rfl rfl ?_
 refine g_iloadN X d10_36 (pc' := 37) rfl rfl ?_
 refine g_aloadN X d10_37 (pc' := 38) rfl rfl rfl ?_
 refine g_getfield X (host := "") (Or.inl (tb hw 41 rfl)) Via.refl qe d10_38 (pc' := 41) rfl ?_
 intro T X
 refine g_iload X d10_41 (pc' := 43) rfl rfl ?_
 refine g_iaload X qh 1 d10_43 (pc' := 44) rfl (by decide) (by decide) rfl ?_
 refine g_iadd X d10_44 (pc' := 45) rfl ?_
 refine Go.lit32 (z := (1 : Int32)) (by decide) ?_
 refine g_dup2 X d10_45 (pc' := 46) rfl rfl rfl ?_
 refine g_laload X qa 1 d10_46 (pc' := 47) rfl (by decide) (by decide) rfl ?_
 refine g_aloadN X d10_47 (pc' := 48) rfl rfl rfl ?_
 refine g_iload X d10_48 (pc' := 50) rfl rfl ?_
 refine g_iaload X qb 1 d10_50 (pc' := 51) rfl (by decide) (by decide) rfl ?_
 refine g_i2l X d10_51 (pc' := 52) rfl ?_
 refine g_aloadN X d10_52 (pc' := 53) rfl rfl rfl ?_
 refine g_getfield X (host := "") (Or.inl (tb hw 39 rfl)) Via.refl qd d10_53 (pc' := 56) rfl ?_
 intro T X
 refine g_iload X d10_56 (pc' := 58) rfl rfl ?_
 refine g_iaload X qg 1 d10_58 (pc' := 59) rfl (by decide) (by decide) rfl ?_
 refine g_i2l X d10_59 (pc' := 60) rfl ?_
 refine g_lsub X d10_60 (pc' := 61) rfl ?_
 refine g_aloadN X d10_61 (pc' := 62) rfl rfl rfl ?_
 refine g_getfield X (host := "") (Or.inl (tb hw 43 rfl)) Via.refl qf d10_62 (pc' := 65) rfl ?_
 intro T X
 refine g_iload X d10_65 (pc' := 67) rfl rfl ?_
 refine g_iaload X qi 1 d10_67 (pc' := 68) rfl (by decide) (by decide) rfl ?_
 refine g_lshl X d10_68 (pc' := 69) rfl ?_
 refine g_lor X d10_69 (pc' := 70) rfl ?_
 generalize qs : (qp ||| (((x1.toInt64) - (l1.toInt64)) <<< (s1 &&& 0x3f).toInt64)) = qq
 refine g_lastore X qa 1 d10_70 (pc' := 71) rfl (by decide) (by decide) (Nat.le_of_ble_eq_true rfl) ?_
 intro T h X W qa
 replace qa : Av Z h wk .long [(.long k0), (.long qq), (.long (0 : Int64)), (.long k3), (.long k4), (.long k5)] := qa
 replace qd := qd.other W (Or.inl qc)
 replace qe := qe.other W (Or.inl qc)
 replace qf := qf.other W (Or.inl qc)
 replace qg := qg.other W qm
 replace qh := qh.other W qn
 replace qi := qi.other W qo
 replace qb := qb.other W ql
 replace Z0 := Nat.le_trans Z0 (Nat.le_of_eq W.size.symm)
 replace N := Fr.snoc X.1 N qk
 replace Kp := Kp.wr W (Or.inl (List.mem_of_getElem? (i := 0) rfl))
 refine g_iinc X d10_71 (pc' := 74) (q := (1 : Int32)) (Ls' := #[.val (.ref a0), .val (.ref wv), .val (.ref wk), .val (.int (1 : Int32)), .val (.int (2 : Int32))]) rfl rfl rfl rfl ?_
 refine g_goto X d10_74 (pc' := 28) (by decide) (by decide) ?_
 refine g_iload X d10_28 (pc' := 30) rfl rfl ?_
 refine g_aloadN X d10_30 (pc' := 31) rfl rfl rfl ?_
 refine g_arraylength X qb d10_31 (pc' := 32) rfl (z := (3 : Int32)) rfl ?_
 refine g_icN X d10_32 (tlt (show (2 : Int32) < (3 : Int32) from (by decide))).2.1 (pc' := 35) rfl ?_
 refine g_aloadN X d10_35 (pc' := 36) rfl rfl rfl ?_
 refine g_iloadN X d10_36 (pc' := 37) rfl rfl ?_
 refine g_aloadN X d10_37 (pc' := 38) rfl rfl rfl ?_
 refine g_getfield X (host := "") (Or.inl (tb hw 41 rfl)) Via.refl qe d10_38 (pc' := 41) rfl ?_
 intro T X
 refine g_iload X d10_41 (pc' := 43) rfl rfl ?_
 refine g_iaload X qh 2 d10_43 (pc' := 44) rfl (by decide) (by decide) rfl ?_
 refine g_iadd X d10_44 (pc' := 45) rfl ?_
 refine Go.lit32 (z := (2 : Int32)) (by decide) ?_
 refine g_dup2 X d10_45 (pc' := 46) rfl rfl rfl ?_
 refine g_laload X qa 2 d10_46 (pc' := 47) rfl (by decide) (by decide) rfl ?_
 refine g_aloadN X d10_47 (pc' := 48) rfl rfl rfl ?_
 refine g_iload X d10_48 (pc' := 50) rfl rfl ?_
 refine g_iaload X qb 2 d10_50 (pc' := 51) rfl (by decide) (by decide) rfl ?_
 refine g_i2l X d10_51 (pc' := 52) rfl ?_
 refine g_aloadN X d10_52 (pc' := 53) rfl rfl rfl ?_
 refine g_getfield X (host := "") (Or.inl (tb hw 39 rfl)) Via.refl qd d10_53 (pc' := 56) rfl ?_
 intro T X
 refine g_iload X d10_56 (pc' := 58) rfl rfl ?_
 refine g_iaload X qg 2 d10_58 (pc' := 59) rfl (by decide) (by decide) rfl ?_
 refine g_i2l X d10_59 (pc' := 60) rfl ?_
 refine g_lsub X d10_60 (pc' := 61) rfl ?_
 refine g_aloadN X d10_61 (pc' := 62) rfl rfl rfl ?_
 refine g_getfield X (host := "") (Or.inl (tb hw 43 rfl)) Via.refl qf d10_62 (pc' := 65) rfl ?_
 intro T X
 refine g_iload X d10_65 (pc' := 67) rfl rfl ?_
 refine g_iaload X qi 2 d10_67 (pc' := 68) rfl (by decide) (by decide) rfl ?_
 refine g_lshl X d10_68 (pc' := 69) rfl ?_
 refine g_lor X d10_69 (pc' := 70) rfl ?_
 generalize qt : ((0 : Int64) ||| (((x2.toInt64) - (l2.toInt64)) <<< (s2 &&& 0x3f).toInt64)) = qu
 refine g_lastore X qa 2 d10_70 (pc' := 71) rfl (by decide) (by decide) (Nat.le_of_ble_eq_true rfl) ?_
 intro T h X W qa
 replace qa : Av Z h wk .long [(.long k0), (.long qq), (.long qu), (.long k3), (.long k4), (.long k5)] := qa
 replace qb := qb.other W ql
 replace Z0 := Nat.le_trans Z0 (Nat.le_of_eq W.size.symm)
 replace N := Fr.snoc X.1 N qk
 replace Kp := Kp.wr W (Or.inl (List.mem_of_getElem? (i := 0) rfl))
 refine g_iinc X d10_71 (pc' := 74) (q := (1 : Int32)) (Ls' := #[.val (.ref a0), .val (.ref wv), .val (.ref wk), .val (.int (1 : Int32)), .val (.int (3 : Int32))]) rfl rfl rfl rfl ?_
 refine g_goto X d10_74 (pc' := 28) (by decide) (by decide) ?_
 refine g_iload X d10_28 (pc' := 30) rfl rfl ?_
 refine g_aloadN X d10_30 (pc' := 31) rfl rfl rfl ?_
 refine g_arraylength X qb d10_31 (pc' := 32) rfl (z := (3 : Int32)) rfl ?_
 refine g_icY X d10_32 (flt (show ¬ ((3 : Int32) < (3 : Int32)) from (by decide))).2.1 (pc' := 77) (by decide) (by decide) ?_
 refine g_return X d10_77 hret hlk (by decide) (by decide) ?_
 subst qr qs qt
 exact ⟨rfl, N, Kp, qa⟩
theorem ef_rUp11 (m : MethodId) (x0 : Addr) (x1 : Addr) (x2 : Int32) (x3 : Addr) : entryFrame m #[(.ref x0), (.ref x1), (.int x2), (.ref x3)] 5 = mkF m 0 #[.val (.ref x0), .val (.ref x1), .val (.int x2), .val (.ref x3), .unset] [] := by first | (simp [entryFrame, mkF, argsToLocals, Value.category]; done) | rfl
set_option maxRecDepth 65536 in
set_option maxHeartbeats 40000000 in
theorem rUp11 (l : Launch) (Z : State) (aa : Array Value) (hw : ∀ d ∈ tables_1, d.before aa Z = true) (ws : List Jvm.Cond) (a0 : Addr) (wk : Addr) (wv : Addr) (wl : Addr) (ww : Addr) (wt : Addr) (wm : Addr) (l0 : Int32) (l1 : Int32) (l2 : Int32) (s0 : Int32) (s1 : Int32) (s2 : Int32) (m0 : Int64) (m1 : Int64) (m2 : Int64) (k0 : Int64) (k1 : Int64) (k2 : Int64) (k3 : Int64) (k4 : Int64) (k5 : Int64) (x0 : Int32) (x1 : Int32) (x2 : Int32) (h0 : Heap) (n0 : Nat) (Z0 : n0 ≤ h0.size) (qx : Exa Z h0 a0 "com/example/ryazan/ryazan/language/Layout") (qc : Fld Z h0 a0 "com/example/ryazan/ryazan/language/Layout" "low" "[I" (.ref wl)) (qd : Fld Z h0 a0 "com/example/ryazan/ryazan/language/Layout" "word" "[I" (.ref ww)) (qe : Fld Z h0 a0 "com/example/ryazan/ryazan/language/Layout" "shift" "[I" (.ref wt)) (qf : Fld Z h0 a0 "com/example/ryazan/ryazan/language/Layout" "mask" "[J" (.ref wm)) (qg : Av Z h0 wl .int [(.int l0), (.int l1), (.int l2)]) (qh : Av Z h0 ww .int [(.int (0 : Int32)), (.int (0 : Int32)), (.int (1 : Int32))]) (qi : Av Z h0 wt .int [(.int s0), (.int s1), (.int s2)]) (qj : Av Z h0 wm .long [(.long m0), (.long m1), (.long m2)]) (qk : Av Z h0 wk .long [(.long k0), (.long k1), (.long k2), (.long k3), (.long k4), (.long k5)]) (qa : Av Z h0 wv .int [(.int x0), (.int x1), (.int x2)]) (ql : n0 ≤ wv) (qb : a0 ≠ wv) (qn : wl ≠ wv) (qo : ww ≠ wv) (qp : wt ≠ wv) (qq : wm ≠ wv) (qr : wk ≠ wv) :
    Rm l Z (⟨"com/example/ryazan/ryazan/language/Layout", "unpack", "([JI[I)V"⟩ : MethodName) prog_58_method_4_code 5 none ws ({ frames := 0, cells := 0, slots := 0, locals := 0 } : Room) #[(.ref a0), (.ref wk), (.int (1 : Int32)), (.ref wv)] h0 (fun v h L => v = none ∧ Fr n0 L ∧ Keep h0 h [wv] ∧ Av Z h wv .int [(.int (((((k1.toUInt64 >>> (s0 &&& 0x3f).toInt64.toUInt64).toInt64) &&& m0).toInt32) + l0)), (.int (((((k1.toUInt64 >>> (s1 &&& 0x3f).toInt64.toUInt64).toInt64) &&& m1).toInt32) + l1)), (.int (((((k2.toUInt64 >>> (s2 &&& 0x3f).toInt64.toUInt64).toInt64) &&& m2).toInt32) + l2))]) := by
 refine Rm.of (plainFor_of_name pn_3) ?_
 intro p e s m below meth cc T X hnm hret hlk
 refine Go.at_ (ef_rUp11 m a0 wk (1 : Int32) wv) ?_
 have N := Fr.nil n0
 have Kp := Keep.refl h0 [wv]
 refine g_iconst X (0 : Int32) d11_0 (pc' := 1) rfl rfl ?_
 refine g_istore X d11_1 (pc' := 3) (Ls' := #[.val (.ref a0), .val (.ref wk), .val (.int (1 : Int32)), .val (.ref wv), .val (.int (0 : Int32))]) rfl rfl ?_
 refine g_iload X d11_3 (pc' := 5) rfl rfl ?_
 refine g_aloadN X d11_5 (pc' := 6) rfl rfl rfl ?_
 refine g_arraylength X qa d11_6 (pc' := 7) rfl (z := (3 : Int32)) rfl ?_
 refine g_icN X d11_7 (tlt (show (0 : Int32) < (3 : Int32) from (by decide))).2.1 (pc' := 10) rfl ?_
 refine g_aloadN X d11_10 (pc' := 11) rfl rfl rfl ?_
 refine g_iload X d11_11 (pc' := 13) rfl rfl ?_
 refine g_aloadN X d11_13 (pc' := 14) rfl rfl rfl ?_
 refine g_iloadN X d11_14 (pc' := 15) rfl rfl ?_
 refine g_aloadN X d11_15 (pc' := 16) rfl rfl rfl ?_
 refine g_getfield X (host := "") (Or.inl (tb hw 41 rfl)) Via.refl qd d11_16 (pc' := 19) rfl ?_
 intro T X
 refine g_iload X d11_19 (pc' := 21) rfl rfl ?_
 refine g_iaload X qh 0 d11_21 (pc' := 22) rfl (by decide) (by decide) rfl ?_
 refine g_iadd X d11_22 (pc' := 23) rfl ?_
 refine Go.lit32 (z := (1 : Int32)) (by decide) ?_
 refine g_laload X qk 1 d11_23 (pc' := 24) rfl (by decide) (by decide) rfl ?_
 refine g_aloadN X d11_24 (pc' := 25) rfl rfl rfl ?_
 refine g_getfield X (host := "") (Or.inl (tb hw 43 rfl)) Via.refl qe d11_25 (pc' := 28) rfl ?_
 intro T X
 refine g_iload X d11_28 (pc' := 30) rfl rfl ?_
 refine g_iaload X qi 0 d11_30 (pc' := 31) rfl (by decide) (by decide) rfl ?_
 refine g_lushr X d11_31 (pc' := 32) rfl ?_
 refine g_aloadN X d11_32 (pc' := 33) rfl rfl rfl ?_
 refine g_getfield X (host := "") (Or.inl (tb hw 45 rfl)) Via.refl qf d11_33 (pc' := 36) rfl ?_
 intro T X
 refine g_iload X d11_36 (pc' := 38) rfl rfl ?_
 refine g_laload X qj 0 d11_38 (pc' := 39) rfl (by decide) (by decide) rfl ?_
 refine g_land X d11_39 (pc' := 40) rfl ?_
 refine g_l2i X d11_40 (pc' := 41) rfl ?_
 refine g_aloadN X d11_41 (pc' := 42) rfl rfl rfl ?_
 refine g_getfield X (host := "") (Or.inl (tb hw 39 rfl)) Via.refl qc d11_42 (pc' := 45) rfl ?_
 intro T X
 refine g_iload X d11_45 (pc' := 47) rfl rfl ?_
 refine g_iaload X qg 0 d11_47 (pc' := 48) rfl (by decide) (by decide) rfl ?_
 refine g_iadd X d11_48 (pc' := 49) rfl ?_
 generalize qt : (((((k1.toUInt64 >>> (s0 &&& 0x3f).toInt64.toUInt64).toInt64) &&& m0).toInt32) + l0) = qm
 refine g_iastore X qa 0 d11_49 (pc' := 50) rfl (by decide) (by decide) (Nat.le_of_ble_eq_true rfl) ?_
 intro T h X W qa
 replace qa : Av Z h wv .int [(.int qm), (.int x1), (.int x2)] := qa
 replace qc := qc.other W (Or.inl qb)
 replace qd := qd.other W (Or.inl qb)
 replace qe := qe.other W (Or.inl qb)
 replace qf := qf.other W (Or.inl qb)
 replace qg := qg.other W qn
 replace qh := qh.other W qo
 replace qi := qi.other W qp
 replace qj := qj.other W qq
 replace qk := qk.other W qr
 replace Z0 := Nat.le_trans Z0 (Nat.le_of_eq W.size.symm)
 replace N := Fr.snoc X.1 N ql
 replace Kp := Kp.wr W (Or.inl (List.mem_of_getElem? (i := 0) rfl))
 refine g_iinc X d11_50 (pc' := 53) (q := (1 : Int32)) (Ls' := #[.val (.ref a0), .val (.ref wk), .val (.int (1 : Int32)), .val (.ref wv), .val (.int (1 : Int32))]) rfl rfl rfl rfl ?_
 refine g_goto X d11_53 (pc' := 3) (by decide) (by decide) ?_
 refine g_iload X d11_3 (pc' := 5) rfl rfl ?_
 refine g_aloadN X d11_5 (pc' := 6) rfl rfl rfl ?_
 refine g_arraylength X qa d11_6 (pc' := 7) rfl (z := (3 : Int32)) rfl ?_
 refine g_icN X d11_7 (tlt (show (1 : Int32) < (3 : Int32) from (by decide))).2.1 (pc' := 10) rfl ?_
 refine g_aloadN X d11_10 (pc' := 11) rfl rfl rfl ?_
 refine g_iload X d11_11 (pc' := 13) rfl rfl ?_
 refine g_aloadN X d11_13 (pc' := 14) rfl rfl rfl ?_
 refine g_iloadN X d11_14 (pc' := 15) rfl rfl ?_
 refine g_aloadN X d11_15 (pc' := 16) rfl rfl rfl ?_
 refine g_getfield X (host := "") (Or.inl (tb hw 41 rfl)) Via.refl qd d11_16 (pc' := 19) rfl ?_
 intro T X
 refine g_iload X d11_19 (pc' := 21) rfl rfl ?_
 refine g_iaload X qh 1 d11_21 (pc' := 22) rfl (by decide) (by decide) rfl ?_
 refine g_iadd X d11_22 (pc' := 23) rfl ?_
 refine Go.lit32 (z := (1 : Int32)) (by decide) ?_
 refine g_laload X qk 1 d11_23 (pc' := 24) rfl (by decide) (by decide) rfl ?_
 refine g_aloadN X d11_24 (pc' := 25) rfl rfl rfl ?_
 refine g_getfield X (host := "") (Or.inl (tb hw 43 rfl)) Via.refl qe d11_25 (pc' := 28) rfl ?_
 intro T X
 refine g_iload X d11_28 (pc' := 30) rfl rfl ?_
 refine g_iaload X qi 1 d11_30 (pc' := 31) rfl (by decide) (by decide) rfl ?_
 refine g_lushr X d11_31 (pc' := 32) rfl ?_
 refine g_aloadN X d11_32 (pc' := 33) rfl rfl rfl ?_
 refine g_getfield X (host := "") (Or.inl (tb hw 45 rfl)) Via.refl qf d11_33 (pc' := 36) rfl ?_
 intro T X
 refine g_iload X d11_36 (pc' := 38) rfl rfl ?_
 refine g_laload X qj 1 d11_38 (pc' := 39) rfl (by decide) (by decide) rfl ?_
 refine g_land X d11_39 (pc' := 40) rfl ?_
 refine g_l2i X d11_40 (pc' := 41) rfl ?_
 refine g_aloadN X d11_41 (pc' := 42) rfl rfl rfl ?_
 refine g_getfield X (host := "") (Or.inl (tb hw 39 rfl)) Via.refl qc d11_42 (pc' := 45) rfl ?_
 intro T X
 refine g_iload X d11_45 (pc' := 47) rfl rfl ?_
 refine g_iaload X qg 1 d11_47 (pc' := 48) rfl (by decide) (by decide) rfl ?_
 refine g_iadd X d11_48 (pc' := 49) rfl ?_
 generalize qu : (((((k1.toUInt64 >>> (s1 &&& 0x3f).toInt64.toUInt64).toInt64) &&& m1).toInt32) + l1) = qs
 refine g_iastore X qa 1 d11_49 (pc' := 50) rfl (by decide) (by decide) (Nat.le_of_ble_eq_true rfl) ?_
 intro T h X W qa
 replace qa : Av Z h wv .int [(.int qm), (.int qs), (.int x2)] := qa
 replace qc := qc.other W (Or.inl qb)
 replace qd := qd.other W (Or.inl qb)
 replace qe := qe.other W (Or.inl qb)
 replace qf := qf.other W (Or.inl qb)
 replace qg := qg.other W qn
 replace qh := qh.other W qo
 replace qi := qi.other W qp
 replace qj := qj.other W qq
 replace qk := qk.other W qr
 replace Z0 := Nat.le_trans Z0 (Nat.le_of_eq W.size.symm)
 replace N := Fr.snoc X.1 N ql
 replace Kp := Kp.wr W (Or.inl (List.mem_of_getElem? (i := 0) rfl))
 refine g_iinc X d11_50 (pc' := 53) (q := (1 : Int32)) (Ls' := #[.val (.ref a0), .val (.ref wk), .val (.int (1 : Int32)), .val (.ref wv), .val (.int (2 : Int32))]) rfl rfl rfl rfl ?_
 refine g_goto X d11_53 (pc' := 3) (by decide) (by decide) ?_
 refine g_iload X d11_3 (pc' := 5) rfl rfl ?_
 refine g_aloadN X d11_5 (pc' := 6) rfl rfl rfl ?_
 refine g_arraylength X qa d11_6 (pc' := 7) rfl (z := (3 : Int32)) rfl ?_
 refine g_icN X d11_7 (tlt (show (2 : Int32) < (3 : Int32) from (by decide))).2.1 (pc' := 10) rfl ?_
 refine g_aloadN X d11_10 (pc' := 11) rfl rfl rfl ?_
 refine g_iload X d11_11 (pc' := 13) rfl rfl ?_
 refine g_aloadN X d11_13 (pc' := 14) rfl rfl rfl ?_
 refine g_iloadN X d11_14 (pc' := 15) rfl rfl ?_
 refine g_aloadN X d11_15 (pc' := 16) rfl rfl rfl ?_
 refine g_getfield X (host := "") (Or.inl (tb hw 41 rfl)) Via.refl qd d11_16 (pc' := 19) rfl ?_
 intro T X
 refine g_iload X d11_19 (pc' := 21) rfl rfl ?_
 refine g_iaload X qh 2 d11_21 (pc' := 22) rfl (by decide) (by decide) rfl ?_
 refine g_iadd X d11_22 (pc' := 23) rfl ?_
 refine Go.lit32 (z := (2 : Int32)) (by decide) ?_
 refine g_laload X qk 2 d11_23 (pc' := 24) rfl (by decide) (by decide) rfl ?_
 refine g_aloadN X d11_24 (pc' := 25) rfl rfl rfl ?_
 refine g_getfield X (host := "") (Or.inl (tb hw 43 rfl)) Via.refl qe d11_25 (pc' := 28) rfl ?_
 intro T X
 refine g_iload X d11_28 (pc' := 30) rfl rfl ?_
 refine g_iaload X qi 2 d11_30 (pc' := 31) rfl (by decide) (by decide) rfl ?_
 refine g_lushr X d11_31 (pc' := 32) rfl ?_
 refine g_aloadN X d11_32 (pc' := 33) rfl rfl rfl ?_
 refine g_getfield X (host := "") (Or.inl (tb hw 45 rfl)) Via.refl qf d11_33 (pc' := 36) rfl ?_
 intro T X
 refine g_iload X d11_36 (pc' := 38) rfl rfl ?_
 refine g_laload X qj 2 d11_38 (pc' := 39) rfl (by decide) (by decide) rfl ?_
 refine g_land X d11_39 (pc' := 40) rfl ?_
 refine g_l2i X d11_40 (pc' := 41) rfl ?_
 refine g_aloadN X d11_41 (pc' := 42) rfl rfl rfl ?_
 refine g_getfield X (host := "") (Or.inl (tb hw 39 rfl)) Via.refl qc d11_42 (pc' := 45) rfl ?_
 intro T X
 refine g_iload X d11_45 (pc' := 47) rfl rfl ?_
 refine g_iaload X qg 2 d11_47 (pc' := 48) rfl (by decide) (by decide) rfl ?_
 refine g_iadd X d11_48 (pc' := 49) rfl ?_
 generalize qv : (((((k2.toUInt64 >>> (s2 &&& 0x3f).toInt64.toUInt64).toInt64) &&& m2).toInt32) + l2) = qw
 refine g_iastore X qa 2 d11_49 (pc' := 50) rfl (by decide) (by decide) (Nat.le_of_ble_eq_true rfl) ?_
 intro T h X W qa
 replace qa : Av Z h wv .int [(.int qm), (.int qs), (.int qw)] := qa
 replace Z0 := Nat.le_trans Z0 (Nat.le_of_eq W.size.symm)
 replace N := Fr.snoc X.1 N ql
 replace Kp := Kp.wr W (Or.inl (List.mem_of_getElem? (i := 0) rfl))
 refine g_iinc X d11_50 (pc' := 53) (q := (1 : Int32)) (Ls' := #[.val (.ref a0), .val (.ref wk), .val (.int (1 : Int32)), .val (.ref wv), .val (.int (3 : Int32))]) rfl rfl rfl rfl ?_
 refine g_goto X d11_53 (pc' := 3) (by decide) (by decide) ?_
 refine g_iload X d11_3 (pc' := 5) rfl rfl ?_
 refine g_aloadN X d11_5 (pc' := 6) rfl rfl rfl ?_
 refine g_arraylength X qa d11_6 (pc' := 7) rfl (z := (3 : Int32)) rfl ?_
 refine g_icY X d11_7 (flt (show ¬ ((3 : Int32) < (3 : Int32)) from (by decide))).2.1 (pc' := 56) (by decide) (by decide) ?_
 refine g_return X d11_56 hret hlk (by decide) (by decide) ?_
 subst qt qu qv
 exact ⟨rfl, N, Kp, qa⟩
theorem ef_rPk12 (m : MethodId) (x0 : Addr) (x1 : Addr) (x2 : Addr) (x3 : Int32) : entryFrame m #[(.ref x0), (.ref x1), (.ref x2), (.int x3)] 5 = mkF m 0 #[.val (.ref x0), .val (.ref x1), .val (.ref x2), .val (.int x3), .unset] [] := by first | (simp [entryFrame, mkF, argsToLocals, Value.category]; done) | rfl
set_option maxRecDepth 65536 in
set_option maxHeartbeats 40000000 in
theorem rPk12 (l : Launch) (Z : State) (aa : Array Value) (hw : ∀ d ∈ tables_1, d.before aa Z = true) (ws : List Jvm.Cond) (a0 : Addr) (wv : Addr) (wk : Addr) (wl : Addr) (ww : Addr) (wt : Addr) (l0 : Int32) (l1 : Int32) (l2 : Int32) (s0 : Int32) (s1 : Int32) (s2 : Int32) (x0 : Int32) (x1 : Int32) (x2 : Int32) (k0 : Int64) (k1 : Int64) (k2 : Int64) (k3 : Int64) (k4 : Int64) (k5 : Int64) (h0 : Heap) (n0 : Nat) (Z0 : n0 ≤ h0.size) (qv : Exa Z h0 a0 "com/example/ryazan/ryazan/language/Layout") (qd : Fld Z h0 a0 "com/example/ryazan/ryazan/language/Layout" "low" "[I" (.ref wl)) (qe : Fld Z h0 a0 "com/example/ryazan/ryazan/language/Layout" "word" "[I" (.ref ww)) (qf : Fld Z h0 a0 "com/example/ryazan/ryazan/language/Layout" "shift" "[I" (.ref wt)) (qj : Fld Z h0 a0 "com/example/ryazan/ryazan/language/Layout" "width" "I" (.int (2 : Int32))) (qg : Av Z h0 wl .int [(.int l0), (.int l1), (.int l2)]) (qh : Av Z h0 ww .int [(.int (0 : Int32)), (.int (0 : Int32)), (.int (1 : Int32))]) (qi : Av Z h0 wt .int [(.int s0), (.int s1), (.int s2)]) (qb : Av Z h0 wv .int [(.int x0), (.int x1), (.int x2)]) (qa : Av Z h0 wk .long [(.long k0), (.long k1), (.long k2), (.long k3), (.long k4), (.long k5)]) (qk : n0 ≤ wk) (qc : a0 ≠ wk) (qm : wl ≠ wk) (qn : ww ≠ wk) (qo : wt ≠ wk) (ql : wv ≠ wk) :
    Rm l Z (⟨"com/example/ryazan/ryazan/language/Layout", "pack", "([I[JI)V"⟩ : MethodName) prog_58_method_3_code 5 none ws ({ frames := 0, cells := 0, slots := 0, locals := 0 } : Room) #[(.ref a0), (.ref wv), (.ref wk), (.int (2 : Int32))] h0 (fun v h L => v = none ∧ Fr n0 L ∧ Keep h0 h [wk] ∧ Av Z h wk .long [(.long k0), (.long k1), (.long (((0 : Int64) ||| (((x0.toInt64) - (l0.toInt64)) <<< (s0 &&& 0x3f).toInt64)) ||| (((x1.toInt64) - (l1.toInt64)) <<< (s1 &&& 0x3f).toInt64))), (.long ((0 : Int64) ||| (((x2.toInt64) - (l2.toInt64)) <<< (s2 &&& 0x3f).toInt64))), (.long k4), (.long k5)]) := by
 refine Rm.of (plainFor_of_name pn_3) ?_
 intro p e s m below meth cc T X hnm hret hlk
 refine Go.at_ (ef_rPk12 m a0 wv wk (2 : Int32)) ?_
 have N := Fr.nil n0
 have Kp := Keep.refl h0 [wk]
 refine g_iconst X (0 : Int32) d10_0 (pc' := 1) rfl rfl ?_
 refine g_istore X d10_1 (pc' := 3) (Ls' := #[.val (.ref a0), .val (.ref wv), .val (.ref wk), .val (.int (2 : Int32)), .val (.int (0 : Int32))]) rfl rfl ?_
 refine g_iload X d10_3 (pc' := 5) rfl rfl ?_
 refine g_aloadN X d10_5 (pc' := 6) rfl rfl rfl ?_
 refine g_getfield X (host := "") (Or.inl (tb hw 56 rfl)) Via.refl qj d10_6 (pc' := 9) rfl ?_
 intro T X
 refine g_icN X d10_9 (tlt (show (0 : Int32) < (2 : Int32) from (by decide))).2.1 (pc' := 12) rfl ?_
 refine g_aloadN X d10_12 (pc' := 13) rfl rfl rfl ?_
 refine g_iloadN X d10_13 (pc' := 14) rfl rfl ?_
 refine g_iload X d10_14 (pc' := 16) rfl rfl ?_
 refine g_iadd X d10_16 (pc' := 17) rfl ?_
 refine Go.lit32 (z := (2 : Int32)) (by decide) ?_
 refine g_lconst X (0 : Int64) d10_17 (pc' := 18) rfl rfl ?_
 refine g_lastore X qa 2 d10_18 (pc' := 19) rfl (by decide) (by decide) (Nat.le_of_ble_eq_true rfl) ?_
 intro T h X W qa
 replace qa : Av Z h wk .long [(.long k0), (.long k1), (.long (0 : Int64)), (.long k3), (.long k4), (.long k5)] := qa
 replace qd := qd.other W (Or.inl qc)
 replace qe := qe.other W (Or.inl qc)
 replace qf := qf.other W (Or.inl qc)
 replace qj := qj.other W (Or.inl qc)
 replace qg := qg.other W qm
 replace qh := qh.other W qn
 replace qi := qi.other W qo
 replace qb := qb.other W ql
 replace Z0 := Nat.le_trans Z0 (Nat.le_of_eq W.size.symm)
 replace N := Fr.snoc X.1 N qk
 replace Kp := Kp.wr W (Or.inl (List.mem_of_getElem? (i := 0) rfl))
 refine g_iinc X d10_19 (pc' := 22) (q := (1 : Int32)) (Ls' := #[.val (.ref a0), .val (.ref wv), .val (.ref wk), .val (.int (2 : Int32)), .val (.int (1 : Int32))]) rfl rfl rfl rfl ?_
 refine g_goto X d10_22 (pc' := 3) (by decide) (by decide) ?_
 refine g_iload X d10_3 (pc' := 5) rfl rfl ?_
 refine g_aloadN X d10_5 (pc' := 6) rfl rfl rfl ?_
 refine g_getfield X (host := "") (Or.inl (tb hw 56 rfl)) Via.refl qj d10_6 (pc' := 9) rfl ?_
 intro T X
 refine g_icN X d10_9 (tlt (show (1 : Int32) < (2 : Int32) from (by decide))).2.1 (pc' := 12) rfl ?_
 refine g_aloadN X d10_12 (pc' := 13) rfl rfl rfl ?_
 refine g_iloadN X d10_13 (pc' := 14) rfl rfl ?_
 refine g_iload X d10_14 (pc' := 16) rfl rfl ?_
 refine g_iadd X d10_16 (pc' := 17) rfl ?_
 refine Go.lit32 (z := (3 : Int32)) (by decide) ?_
 refine g_lconst X (0 : Int64) d10_17 (pc' := 18) rfl rfl ?_
 refine g_lastore X qa 3 d10_18 (pc' := 19) rfl (by decide) (by decide) (Nat.le_of_ble_eq_true rfl) ?_
 intro T h X W qa
 replace qa : Av Z h wk .long [(.long k0), (.long k1), (.long (0 : Int64)), (.long (0 : Int64)), (.long k4), (.long k5)] := qa
 replace qd := qd.other W (Or.inl qc)
 replace qe := qe.other W (Or.inl qc)
 replace qf := qf.other W (Or.inl qc)
 replace qj := qj.other W (Or.inl qc)
 replace qg := qg.other W qm
 replace qh := qh.other W qn
 replace qi := qi.other W qo
 replace qb := qb.other W ql
 replace Z0 := Nat.le_trans Z0 (Nat.le_of_eq W.size.symm)
 replace N := Fr.snoc X.1 N qk
 replace Kp := Kp.wr W (Or.inl (List.mem_of_getElem? (i := 0) rfl))
 refine g_iinc X d10_19 (pc' := 22) (q := (1 : Int32)) (Ls' := #[.val (.ref a0), .val (.ref wv), .val (.ref wk), .val (.int (2 : Int32)), .val (.int (2 : Int32))]) rfl rfl rfl rfl ?_
 refine g_goto X d10_22 (pc' := 3) (by decide) (by decide) ?_
 refine g_iload X d10_3 (pc' := 5) rfl rfl ?_
 refine g_aloadN X d10_5 (pc' := 6) rfl rfl rfl ?_
 refine g_getfield X (host := "") (Or.inl (tb hw 56 rfl)) Via.refl qj d10_6 (pc' := 9) rfl ?_
 intro T X
 refine g_icY X d10_9 (flt (show ¬ ((2 : Int32) < (2 : Int32)) from (by decide))).2.1 (pc' := 25) (by decide) (by decide) ?_
 refine g_iconst X (0 : Int32) d10_25 (pc' := 26) rfl rfl ?_
 refine g_istore X d10_26 (pc' := 28) (Ls' := #[.val (.ref a0), .val (.ref wv), .val (.ref wk), .val (.int (2 : Int32)), .val (.int (0 : Int32))]) rfl rfl ?_
 refine g_iload X d10_28 (pc' := 30) rfl rfl ?_
 refine g_aloadN X d10_30 (pc' := 31) rfl rfl rfl ?_
 refine g_arraylength X qb d10_31 (pc' := 32) rfl (z := (3 : Int32)) rfl ?_
 refine g_icN X d10_32 (tlt (show (0 : Int32) < (3 : Int32) from (by decide))).2.1 (pc' := 35) rfl ?_
 refine g_aloadN X d10_35 (pc' := 36) rfl rfl rfl ?_
 refine g_iloadN X d10_36 (pc' := 37) rfl rfl ?_
 refine g_aloadN X d10_37 (pc' := 38) rfl rfl rfl ?_
 refine g_getfield X (host := "") (Or.inl (tb hw 41 rfl)) Via.refl qe d10_38 (pc' := 41) rfl ?_
 intro T X
 refine g_iload X d10_41 (pc' := 43) rfl rfl ?_
 refine g_iaload X qh 0 d10_43 (pc' := 44) rfl (by decide) (by decide) rfl ?_
 refine g_iadd X d10_44 (pc' := 45) rfl ?_
 refine Go.lit32 (z := (2 : Int32)) (by decide) ?_
 refine g_dup2 X d10_45 (pc' := 46) rfl rfl rfl ?_
 refine g_laload X qa 2 d10_46 (pc' := 47) rfl (by decide) (by decide) rfl ?_
 refine g_aloadN X d10_47 (pc' := 48) rfl rfl rfl ?_
 refine g_iload X d10_48 (pc' := 50) rfl rfl ?_
 refine g_iaload X qb 0 d10_50 (pc' := 51) rfl (by decide) (by decide) rfl ?_
 refine g_i2l X d10_51 (pc' := 52) rfl ?_
 refine g_aloadN X d10_52 (pc' := 53) rfl rfl rfl ?_
 refine g_getfield X (host := "") (Or.inl (tb hw 39 rfl)) Via.refl qd d10_53 (pc' := 56) rfl ?_
 intro T X
 refine g_iload X d10_56 (pc' := 58) rfl rfl ?_
 refine g_iaload X qg 0 d10_58 (pc' := 59) rfl (by decide) (by decide) rfl ?_
 refine g_i2l X d10_59 (pc' := 60) rfl ?_
 refine g_lsub X d10_60 (pc' := 61) rfl ?_
 refine g_aloadN X d10_61 (pc' := 62) rfl rfl rfl ?_
 refine g_getfield X (host := "") (Or.inl (tb hw 43 rfl)) Via.refl qf d10_62 (pc' := 65) rfl ?_
 intro T X
 refine g_iload X d10_65 (pc' := 67) rfl rfl ?_
 refine g_iaload X qi 0 d10_67 (pc' := 68) rfl (by decide) (by decide) rfl ?_
 refine g_lshl X d10_68 (pc' := 69) rfl ?_
 refine g_lor X d10_69 (pc' := 70) rfl ?_
 generalize qr : ((0 : Int64) ||| (((x0.toInt64) - (l0.toInt64)) <<< (s0 &&& 0x3f).toInt64)) = qp
 refine g_lastore X qa 2 d10_70 (pc' := 71) rfl (by decide) (by decide) (Nat.le_of_ble_eq_true rfl) ?_
 intro T h X W qa
 replace qa : Av Z h wk .long [(.long k0), (.long k1), (.long qp), (.long (0 : Int64)), (.long k4), (.long k5)] := qa
 replace qd := qd.other W (Or.inl qc)
 replace qe := qe.other W (Or.inl qc)
 replace qf := qf.other W (Or.inl qc)
 replace qg := qg.other W qm
 replace qh := qh.other W qn
 replace qi := qi.other W qo
 replace qb := qb.other W ql
 replace Z0 := Nat.le_trans Z0 (Nat.le_of_eq W.size.symm)
 replace N := Fr.snoc X.1 N qk
 replace Kp := Kp.wr W (Or.inl (List.mem_of_getElem? (i := 0) rfl))
 refine g_iinc X d10_71 (pc' := 74) (q := (1 : Int32)) (Ls' := #[.val (.ref a0), .val (.ref wv), .val (.ref wk), .val (.int (2 : Int32)), .val (.int (1 : Int32))]) rfl rfl rfl rfl ?_
 refine g_goto X d10_74 (pc' := 28) (by decide) (by decide) ?_
 refine g_iload X d10_28 (pc' := 30) rfl rfl ?_
 refine g_aloadN X d10_30 (pc' := 31) rfl rfl rfl ?_
 refine g_arraylength X qb d10_31 (pc' := 32) rfl (z := (3 : Int32)) rfl ?_
 refine g_icN X d10_32 (tlt (show (1 : Int32) < (3 : Int32) from (by decide))).2.1 (pc' := 35) rfl ?_
 refine g_aloadN X d10_35 (pc' := 36) rfl rfl rfl ?_
 refine g_iloadN X d10_36 (pc' := 37) rfl rfl ?_
 refine g_aloadN X d10_37 (pc' := 38) rfl rfl rfl ?_
 refine g_getfield X (host := "") (Or.inl (tb hw 41 rfl)) Via.refl qe d10_38 (pc' := 41) rfl ?_
 intro T X
 refine g_iload X d10_41 (pc' := 43) rfl rfl ?_
 refine g_iaload X qh 1 d10_43 (pc' := 44) rfl (by decide) (by decide) rfl ?_
 refine g_iadd X d10_44 (pc' := 45) rfl ?_
 refine Go.lit32 (z := (2 : Int32)) (by decide) ?_
 refine g_dup2 X d10_45 (pc' := 46) rfl rfl rfl ?_
 refine g_laload X qa 2 d10_46 (pc' := 47) rfl (by decide) (by decide) rfl ?_
 refine g_aloadN X d10_47 (pc' := 48) rfl rfl rfl ?_
 refine g_iload X d10_48 (pc' := 50) rfl rfl ?_
 refine g_iaload X qb 1 d10_50 (pc' := 51) rfl (by decide) (by decide) rfl ?_
 refine g_i2l X d10_51 (pc' := 52) rfl ?_
 refine g_aloadN X d10_52 (pc' := 53) rfl rfl rfl ?_
 refine g_getfield X (host := "") (Or.inl (tb hw 39 rfl)) Via.refl qd d10_53 (pc' := 56) rfl ?_
 intro T X
 refine g_iload X d10_56 (pc' := 58) rfl rfl ?_
 refine g_iaload X qg 1 d10_58 (pc' := 59) rfl (by decide) (by decide) rfl ?_
 refine g_i2l X d10_59 (pc' := 60) rfl ?_
 refine g_lsub X d10_60 (pc' := 61) rfl ?_
 refine g_aloadN X d10_61 (pc' := 62) rfl rfl rfl ?_
 refine g_getfield X (host := "") (Or.inl (tb hw 43 rfl)) Via.refl qf d10_62 (pc' := 65) rfl ?_
 intro T X
 refine g_iload X d10_65 (pc' := 67) rfl rfl ?_
 refine g_iaload X qi 1 d10_67 (pc' := 68) rfl (by decide) (by decide) rfl ?_
 refine g_lshl X d10_68 (pc' := 69) rfl ?_
 refine g_lor X d10_69 (pc' := 70) rfl ?_
 generalize qs : (qp ||| (((x1.toInt64) - (l1.toInt64)) <<< (s1 &&& 0x3f).toInt64)) = qq
 refine g_lastore X qa 2 d10_70 (pc' := 71) rfl (by decide) (by decide) (Nat.le_of_ble_eq_true rfl) ?_
 intro T h X W qa
 replace qa : Av Z h wk .long [(.long k0), (.long k1), (.long qq), (.long (0 : Int64)), (.long k4), (.long k5)] := qa
 replace qd := qd.other W (Or.inl qc)
 replace qe := qe.other W (Or.inl qc)
 replace qf := qf.other W (Or.inl qc)
 replace qg := qg.other W qm
 replace qh := qh.other W qn
 replace qi := qi.other W qo
 replace qb := qb.other W ql
 replace Z0 := Nat.le_trans Z0 (Nat.le_of_eq W.size.symm)
 replace N := Fr.snoc X.1 N qk
 replace Kp := Kp.wr W (Or.inl (List.mem_of_getElem? (i := 0) rfl))
 refine g_iinc X d10_71 (pc' := 74) (q := (1 : Int32)) (Ls' := #[.val (.ref a0), .val (.ref wv), .val (.ref wk), .val (.int (2 : Int32)), .val (.int (2 : Int32))]) rfl rfl rfl rfl ?_
 refine g_goto X d10_74 (pc' := 28) (by decide) (by decide) ?_
 refine g_iload X d10_28 (pc' := 30) rfl rfl ?_
 refine g_aloadN X d10_30 (pc' := 31) rfl rfl rfl ?_
 refine g_arraylength X qb d10_31 (pc' := 32) rfl (z := (3 : Int32)) rfl ?_
 refine g_icN X d10_32 (tlt (show (2 : Int32) < (3 : Int32) from (by decide))).2.1 (pc' := 35) rfl ?_
 refine g_aloadN X d10_35 (pc' := 36) rfl rfl rfl ?_
 refine g_iloadN X d10_36 (pc' := 37) rfl rfl ?_
 refine g_aloadN X d10_37 (pc' := 38) rfl rfl rfl ?_
 refine g_getfield X (host := "") (Or.inl (tb hw 41 rfl)) Via.refl qe d10_38 (pc' := 41) rfl ?_
 intro T X
 refine g_iload X d10_41 (pc' := 43) rfl rfl ?_
 refine g_iaload X qh 2 d10_43 (pc' := 44) rfl (by decide) (by decide) rfl ?_
 refine g_iadd X d10_44 (pc' := 45) rfl ?_
 refine Go.lit32 (z := (3 : Int32)) (by decide) ?_
 refine g_dup2 X d10_45 (pc' := 46) rfl rfl rfl ?_
 refine g_laload X qa 3 d10_46 (pc' := 47) rfl (by decide) (by decide) rfl ?_
 refine g_aloadN X d10_47 (pc' := 48) rfl rfl rfl ?_
 refine g_iload X d10_48 (pc' := 50) rfl rfl ?_
 refine g_iaload X qb 2 d10_50 (pc' := 51) rfl (by decide) (by decide) rfl ?_
 refine g_i2l X d10_51 (pc' := 52) rfl ?_
 refine g_aloadN X d10_52 (pc' := 53) rfl rfl rfl ?_
 refine g_getfield X (host := "") (Or.inl (tb hw 39 rfl)) Via.refl qd d10_53 (pc' := 56) rfl ?_
 intro T X
 refine g_iload X d10_56 (pc' := 58) rfl rfl ?_
 refine g_iaload X qg 2 d10_58 (pc' := 59) rfl (by decide) (by decide) rfl ?_
 refine g_i2l X d10_59 (pc' := 60) rfl ?_
 refine g_lsub X d10_60 (pc' := 61) rfl ?_
 refine g_aloadN X d10_61 (pc' := 62) rfl rfl rfl ?_
 refine g_getfield X (host := "") (Or.inl (tb hw 43 rfl)) Via.refl qf d10_62 (pc' := 65) rfl ?_
 intro T X
 refine g_iload X d10_65 (pc' := 67) rfl rfl ?_
 refine g_iaload X qi 2 d10_67 (pc' := 68) rfl (by decide) (by decide) rfl ?_
 refine g_lshl X d10_68 (pc' := 69) rfl ?_
 refine g_lor X d10_69 (pc' := 70) rfl ?_
 generalize qt : ((0 : Int64) ||| (((x2.toInt64) - (l2.toInt64)) <<< (s2 &&& 0x3f).toInt64)) = qu
 refine g_lastore X qa 3 d10_70 (pc' := 71) rfl (by decide) (by decide) (Nat.le_of_ble_eq_true rfl) ?_
 intro T h X W qa
 replace qa : Av Z h wk .long [(.long k0), (.long k1), (.long qq), (.long qu), (.long k4), (.long k5)] := qa
 replace qb := qb.other W ql
 replace Z0 := Nat.le_trans Z0 (Nat.le_of_eq W.size.symm)
 replace N := Fr.snoc X.1 N qk
 replace Kp := Kp.wr W (Or.inl (List.mem_of_getElem? (i := 0) rfl))
 refine g_iinc X d10_71 (pc' := 74) (q := (1 : Int32)) (Ls' := #[.val (.ref a0), .val (.ref wv), .val (.ref wk), .val (.int (2 : Int32)), .val (.int (3 : Int32))]) rfl rfl rfl rfl ?_
 refine g_goto X d10_74 (pc' := 28) (by decide) (by decide) ?_
 refine g_iload X d10_28 (pc' := 30) rfl rfl ?_
 refine g_aloadN X d10_30 (pc' := 31) rfl rfl rfl ?_
 refine g_arraylength X qb d10_31 (pc' := 32) rfl (z := (3 : Int32)) rfl ?_
 refine g_icY X d10_32 (flt (show ¬ ((3 : Int32) < (3 : Int32)) from (by decide))).2.1 (pc' := 77) (by decide) (by decide) ?_
 refine g_return X d10_77 hret hlk (by decide) (by decide) ?_
 subst qr qs qt
 exact ⟨rfl, N, Kp, qa⟩
theorem ef_rUp12 (m : MethodId) (x0 : Addr) (x1 : Addr) (x2 : Int32) (x3 : Addr) : entryFrame m #[(.ref x0), (.ref x1), (.int x2), (.ref x3)] 5 = mkF m 0 #[.val (.ref x0), .val (.ref x1), .val (.int x2), .val (.ref x3), .unset] [] := by first | (simp [entryFrame, mkF, argsToLocals, Value.category]; done) | rfl
set_option maxRecDepth 65536 in
set_option maxHeartbeats 40000000 in
theorem rUp12 (l : Launch) (Z : State) (aa : Array Value) (hw : ∀ d ∈ tables_1, d.before aa Z = true) (ws : List Jvm.Cond) (a0 : Addr) (wk : Addr) (wv : Addr) (wl : Addr) (ww : Addr) (wt : Addr) (wm : Addr) (l0 : Int32) (l1 : Int32) (l2 : Int32) (s0 : Int32) (s1 : Int32) (s2 : Int32) (m0 : Int64) (m1 : Int64) (m2 : Int64) (k0 : Int64) (k1 : Int64) (k2 : Int64) (k3 : Int64) (k4 : Int64) (k5 : Int64) (x0 : Int32) (x1 : Int32) (x2 : Int32) (h0 : Heap) (n0 : Nat) (Z0 : n0 ≤ h0.size) (qx : Exa Z h0 a0 "com/example/ryazan/ryazan/language/Layout") (qc : Fld Z h0 a0 "com/example/ryazan/ryazan/language/Layout" "low" "[I" (.ref wl)) (qd : Fld Z h0 a0 "com/example/ryazan/ryazan/language/Layout" "word" "[I" (.ref ww)) (qe : Fld Z h0 a0 "com/example/ryazan/ryazan/language/Layout" "shift" "[I" (.ref wt)) (qf : Fld Z h0 a0 "com/example/ryazan/ryazan/language/Layout" "mask" "[J" (.ref wm)) (qg : Av Z h0 wl .int [(.int l0), (.int l1), (.int l2)]) (qh : Av Z h0 ww .int [(.int (0 : Int32)), (.int (0 : Int32)), (.int (1 : Int32))]) (qi : Av Z h0 wt .int [(.int s0), (.int s1), (.int s2)]) (qj : Av Z h0 wm .long [(.long m0), (.long m1), (.long m2)]) (qk : Av Z h0 wk .long [(.long k0), (.long k1), (.long k2), (.long k3), (.long k4), (.long k5)]) (qa : Av Z h0 wv .int [(.int x0), (.int x1), (.int x2)]) (ql : n0 ≤ wv) (qb : a0 ≠ wv) (qn : wl ≠ wv) (qo : ww ≠ wv) (qp : wt ≠ wv) (qq : wm ≠ wv) (qr : wk ≠ wv) :
    Rm l Z (⟨"com/example/ryazan/ryazan/language/Layout", "unpack", "([JI[I)V"⟩ : MethodName) prog_58_method_4_code 5 none ws ({ frames := 0, cells := 0, slots := 0, locals := 0 } : Room) #[(.ref a0), (.ref wk), (.int (2 : Int32)), (.ref wv)] h0 (fun v h L => v = none ∧ Fr n0 L ∧ Keep h0 h [wv] ∧ Av Z h wv .int [(.int (((((k2.toUInt64 >>> (s0 &&& 0x3f).toInt64.toUInt64).toInt64) &&& m0).toInt32) + l0)), (.int (((((k2.toUInt64 >>> (s1 &&& 0x3f).toInt64.toUInt64).toInt64) &&& m1).toInt32) + l1)), (.int (((((k3.toUInt64 >>> (s2 &&& 0x3f).toInt64.toUInt64).toInt64) &&& m2).toInt32) + l2))]) := by
 refine Rm.of (plainFor_of_name pn_3) ?_
 intro p e s m below meth cc T X hnm hret hlk
 refine Go.at_ (ef_rUp12 m a0 wk (2 : Int32) wv) ?_
 have N := Fr.nil n0
 have Kp := Keep.refl h0 [wv]
 refine g_iconst X (0 : Int32) d11_0 (pc' := 1) rfl rfl ?_
 refine g_istore X d11_1 (pc' := 3) (Ls' := #[.val (.ref a0), .val (.ref wk), .val (.int (2 : Int32)), .val (.ref wv), .val (.int (0 : Int32))]) rfl rfl ?_
 refine g_iload X d11_3 (pc' := 5) rfl rfl ?_
 refine g_aloadN X d11_5 (pc' := 6) rfl rfl rfl ?_
 refine g_arraylength X qa d11_6 (pc' := 7) rfl (z := (3 : Int32)) rfl ?_
 refine g_icN X d11_7 (tlt (show (0 : Int32) < (3 : Int32) from (by decide))).2.1 (pc' := 10) rfl ?_
 refine g_aloadN X d11_10 (pc' := 11) rfl rfl rfl ?_
 refine g_iload X d11_11 (pc' := 13) rfl rfl ?_
 refine g_aloadN X d11_13 (pc' := 14) rfl rfl rfl ?_
 refine g_iloadN X d11_14 (pc' := 15) rfl rfl ?_
 refine g_aloadN X d11_15 (pc' := 16) rfl rfl rfl ?_
 refine g_getfield X (host := "") (Or.inl (tb hw 41 rfl)) Via.refl qd d11_16 (pc' := 19) rfl ?_
 intro T X
 refine g_iload X d11_19 (pc' := 21) rfl rfl ?_
 refine g_iaload X qh 0 d11_21 (pc' := 22) rfl (by decide) (by decide) rfl ?_
 refine g_iadd X d11_22 (pc' := 23) rfl ?_
 refine Go.lit32 (z := (2 : Int32)) (by decide) ?_
 refine g_laload X qk 2 d11_23 (pc' := 24) rfl (by decide) (by decide) rfl ?_
 refine g_aloadN X d11_24 (pc' := 25) rfl rfl rfl ?_
 refine g_getfield X (host := "") (Or.inl (tb hw 43 rfl)) Via.refl qe d11_25 (pc' := 28) rfl ?_
 intro T X
 refine g_iload X d11_28 (pc' := 30) rfl rfl ?_
 refine g_iaload X qi 0 d11_30 (pc' := 31) rfl (by decide) (by decide) rfl ?_
 refine g_lushr X d11_31 (pc' := 32) rfl ?_
 refine g_aloadN X d11_32 (pc' := 33) rfl rfl rfl ?_
 refine g_getfield X (host := "") (Or.inl (tb hw 45 rfl)) Via.refl qf d11_33 (pc' := 36) rfl ?_
 intro T X
 refine g_iload X d11_36 (pc' := 38) rfl rfl ?_
 refine g_laload X qj 0 d11_38 (pc' := 39) rfl (by decide) (by decide) rfl ?_
 refine g_land X d11_39 (pc' := 40) rfl ?_
 refine g_l2i X d11_40 (pc' := 41) rfl ?_
 refine g_aloadN X d11_41 (pc' := 42) rfl rfl rfl ?_
 refine g_getfield X (host := "") (Or.inl (tb hw 39 rfl)) Via.refl qc d11_42 (pc' := 45) rfl ?_
 intro T X
 refine g_iload X d11_45 (pc' := 47) rfl rfl ?_
 refine g_iaload X qg 0 d11_47 (pc' := 48) rfl (by decide) (by decide) rfl ?_
 refine g_iadd X d11_48 (pc' := 49) rfl ?_
 generalize qt : (((((k2.toUInt64 >>> (s0 &&& 0x3f).toInt64.toUInt64).toInt64) &&& m0).toInt32) + l0) = qm
 refine g_iastore X qa 0 d11_49 (pc' := 50) rfl (by decide) (by decide) (Nat.le_of_ble_eq_true rfl) ?_
 intro T h X W qa
 replace qa : Av Z h wv .int [(.int qm), (.int x1), (.int x2)] := qa
 replace qc := qc.other W (Or.inl qb)
 replace qd := qd.other W (Or.inl qb)
 replace qe := qe.other W (Or.inl qb)
 replace qf := qf.other W (Or.inl qb)
 replace qg := qg.other W qn
 replace qh := qh.other W qo
 replace qi := qi.other W qp
 replace qj := qj.other W qq
 replace qk := qk.other W qr
 replace Z0 := Nat.le_trans Z0 (Nat.le_of_eq W.size.symm)
 replace N := Fr.snoc X.1 N ql
 replace Kp := Kp.wr W (Or.inl (List.mem_of_getElem? (i := 0) rfl))
 refine g_iinc X d11_50 (pc' := 53) (q := (1 : Int32)) (Ls' := #[.val (.ref a0), .val (.ref wk), .val (.int (2 : Int32)), .val (.ref wv), .val (.int (1 : Int32))]) rfl rfl rfl rfl ?_
 refine g_goto X d11_53 (pc' := 3) (by decide) (by decide) ?_
 refine g_iload X d11_3 (pc' := 5) rfl rfl ?_
 refine g_aloadN X d11_5 (pc' := 6) rfl rfl rfl ?_
 refine g_arraylength X qa d11_6 (pc' := 7) rfl (z := (3 : Int32)) rfl ?_
 refine g_icN X d11_7 (tlt (show (1 : Int32) < (3 : Int32) from (by decide))).2.1 (pc' := 10) rfl ?_
 refine g_aloadN X d11_10 (pc' := 11) rfl rfl rfl ?_
 refine g_iload X d11_11 (pc' := 13) rfl rfl ?_
 refine g_aloadN X d11_13 (pc' := 14) rfl rfl rfl ?_
 refine g_iloadN X d11_14 (pc' := 15) rfl rfl ?_
 refine g_aloadN X d11_15 (pc' := 16) rfl rfl rfl ?_
 refine g_getfield X (host := "") (Or.inl (tb hw 41 rfl)) Via.refl qd d11_16 (pc' := 19) rfl ?_
 intro T X
 refine g_iload X d11_19 (pc' := 21) rfl rfl ?_
 refine g_iaload X qh 1 d11_21 (pc' := 22) rfl (by decide) (by decide) rfl ?_
 refine g_iadd X d11_22 (pc' := 23) rfl ?_
 refine Go.lit32 (z := (2 : Int32)) (by decide) ?_
 refine g_laload X qk 2 d11_23 (pc' := 24) rfl (by decide) (by decide) rfl ?_
 refine g_aloadN X d11_24 (pc' := 25) rfl rfl rfl ?_
 refine g_getfield X (host := "") (Or.inl (tb hw 43 rfl)) Via.refl qe d11_25 (pc' := 28) rfl ?_
 intro T X
 refine g_iload X d11_28 (pc' := 30) rfl rfl ?_
 refine g_iaload X qi 1 d11_30 (pc' := 31) rfl (by decide) (by decide) rfl ?_
 refine g_lushr X d11_31 (pc' := 32) rfl ?_
 refine g_aloadN X d11_32 (pc' := 33) rfl rfl rfl ?_
 refine g_getfield X (host := "") (Or.inl (tb hw 45 rfl)) Via.refl qf d11_33 (pc' := 36) rfl ?_
 intro T X
 refine g_iload X d11_36 (pc' := 38) rfl rfl ?_
 refine g_laload X qj 1 d11_38 (pc' := 39) rfl (by decide) (by decide) rfl ?_
 refine g_land X d11_39 (pc' := 40) rfl ?_
 refine g_l2i X d11_40 (pc' := 41) rfl ?_
 refine g_aloadN X d11_41 (pc' := 42) rfl rfl rfl ?_
 refine g_getfield X (host := "") (Or.inl (tb hw 39 rfl)) Via.refl qc d11_42 (pc' := 45) rfl ?_
 intro T X
 refine g_iload X d11_45 (pc' := 47) rfl rfl ?_
 refine g_iaload X qg 1 d11_47 (pc' := 48) rfl (by decide) (by decide) rfl ?_
 refine g_iadd X d11_48 (pc' := 49) rfl ?_
 generalize qu : (((((k2.toUInt64 >>> (s1 &&& 0x3f).toInt64.toUInt64).toInt64) &&& m1).toInt32) + l1) = qs
 refine g_iastore X qa 1 d11_49 (pc' := 50) rfl (by decide) (by decide) (Nat.le_of_ble_eq_true rfl) ?_
 intro T h X W qa
 replace qa : Av Z h wv .int [(.int qm), (.int qs), (.int x2)] := qa
 replace qc := qc.other W (Or.inl qb)
 replace qd := qd.other W (Or.inl qb)
 replace qe := qe.other W (Or.inl qb)
 replace qf := qf.other W (Or.inl qb)
 replace qg := qg.other W qn
 replace qh := qh.other W qo
 replace qi := qi.other W qp
 replace qj := qj.other W qq
 replace qk := qk.other W qr
 replace Z0 := Nat.le_trans Z0 (Nat.le_of_eq W.size.symm)
 replace N := Fr.snoc X.1 N ql
 replace Kp := Kp.wr W (Or.inl (List.mem_of_getElem? (i := 0) rfl))
 refine g_iinc X d11_50 (pc' := 53) (q := (1 : Int32)) (Ls' := #[.val (.ref a0), .val (.ref wk), .val (.int (2 : Int32)), .val (.ref wv), .val (.int (2 : Int32))]) rfl rfl rfl rfl ?_
 refine g_goto X d11_53 (pc' := 3) (by decide) (by decide) ?_
 refine g_iload X d11_3 (pc' := 5) rfl rfl ?_
 refine g_aloadN X d11_5 (pc' := 6) rfl rfl rfl ?_
 refine g_arraylength X qa d11_6 (pc' := 7) rfl (z := (3 : Int32)) rfl ?_
 refine g_icN X d11_7 (tlt (show (2 : Int32) < (3 : Int32) from (by decide))).2.1 (pc' := 10) rfl ?_
 refine g_aloadN X d11_10 (pc' := 11) rfl rfl rfl ?_
 refine g_iload X d11_11 (pc' := 13) rfl rfl ?_
 refine g_aloadN X d11_13 (pc' := 14) rfl rfl rfl ?_
 refine g_iloadN X d11_14 (pc' := 15) rfl rfl ?_
 refine g_aloadN X d11_15 (pc' := 16) rfl rfl rfl ?_
 refine g_getfield X (host := "") (Or.inl (tb hw 41 rfl)) Via.refl qd d11_16 (pc' := 19) rfl ?_
 intro T X
 refine g_iload X d11_19 (pc' := 21) rfl rfl ?_
 refine g_iaload X qh 2 d11_21 (pc' := 22) rfl (by decide) (by decide) rfl ?_
 refine g_iadd X d11_22 (pc' := 23) rfl ?_
 refine Go.lit32 (z := (3 : Int32)) (by decide) ?_
 refine g_laload X qk 3 d11_23 (pc' := 24) rfl (by decide) (by decide) rfl ?_
 refine g_aloadN X d11_24 (pc' := 25) rfl rfl rfl ?_
 refine g_getfield X (host := "") (Or.inl (tb hw 43 rfl)) Via.refl qe d11_25 (pc' := 28) rfl ?_
 intro T X
 refine g_iload X d11_28 (pc' := 30) rfl rfl ?_
 refine g_iaload X qi 2 d11_30 (pc' := 31) rfl (by decide) (by decide) rfl ?_
 refine g_lushr X d11_31 (pc' := 32) rfl ?_
 refine g_aloadN X d11_32 (pc' := 33) rfl rfl rfl ?_
 refine g_getfield X (host := "") (Or.inl (tb hw 45 rfl)) Via.refl qf d11_33 (pc' := 36) rfl ?_
 intro T X
 refine g_iload X d11_36 (pc' := 38) rfl rfl ?_
 refine g_laload X qj 2 d11_38 (pc' := 39) rfl (by decide) (by decide) rfl ?_
 refine g_land X d11_39 (pc' := 40) rfl ?_
 refine g_l2i X d11_40 (pc' := 41) rfl ?_
 refine g_aloadN X d11_41 (pc' := 42) rfl rfl rfl ?_
 refine g_getfield X (host := "") (Or.inl (tb hw 39 rfl)) Via.refl qc d11_42 (pc' := 45) rfl ?_
 intro T X
 refine g_iload X d11_45 (pc' := 47) rfl rfl ?_
 refine g_iaload X qg 2 d11_47 (pc' := 48) rfl (by decide) (by decide) rfl ?_
 refine g_iadd X d11_48 (pc' := 49) rfl ?_
 generalize qv : (((((k3.toUInt64 >>> (s2 &&& 0x3f).toInt64.toUInt64).toInt64) &&& m2).toInt32) + l2) = qw
 refine g_iastore X qa 2 d11_49 (pc' := 50) rfl (by decide) (by decide) (Nat.le_of_ble_eq_true rfl) ?_
 intro T h X W qa
 replace qa : Av Z h wv .int [(.int qm), (.int qs), (.int qw)] := qa
 replace Z0 := Nat.le_trans Z0 (Nat.le_of_eq W.size.symm)
 replace N := Fr.snoc X.1 N ql
 replace Kp := Kp.wr W (Or.inl (List.mem_of_getElem? (i := 0) rfl))
 refine g_iinc X d11_50 (pc' := 53) (q := (1 : Int32)) (Ls' := #[.val (.ref a0), .val (.ref wk), .val (.int (2 : Int32)), .val (.ref wv), .val (.int (3 : Int32))]) rfl rfl rfl rfl ?_
 refine g_goto X d11_53 (pc' := 3) (by decide) (by decide) ?_
 refine g_iload X d11_3 (pc' := 5) rfl rfl ?_
 refine g_aloadN X d11_5 (pc' := 6) rfl rfl rfl ?_
 refine g_arraylength X qa d11_6 (pc' := 7) rfl (z := (3 : Int32)) rfl ?_
 refine g_icY X d11_7 (flt (show ¬ ((3 : Int32) < (3 : Int32)) from (by decide))).2.1 (pc' := 56) (by decide) (by decide) ?_
 refine g_return X d11_56 hret hlk (by decide) (by decide) ?_
 subst qt qu qv
 exact ⟨rfl, N, Kp, qa⟩
theorem ef_rPk13 (m : MethodId) (x0 : Addr) (x1 : Addr) (x2 : Addr) (x3 : Int32) : entryFrame m #[(.ref x0), (.ref x1), (.ref x2), (.int x3)] 5 = mkF m 0 #[.val (.ref x0), .val (.ref x1), .val (.ref x2), .val (.int x3), .unset] [] := by first | (simp [entryFrame, mkF, argsToLocals, Value.category]; done) | rfl
set_option maxRecDepth 65536 in
set_option maxHeartbeats 40000000 in
theorem rPk13 (l : Launch) (Z : State) (aa : Array Value) (hw : ∀ d ∈ tables_1, d.before aa Z = true) (ws : List Jvm.Cond) (a0 : Addr) (wv : Addr) (wk : Addr) (wl : Addr) (ww : Addr) (wt : Addr) (l0 : Int32) (l1 : Int32) (l2 : Int32) (s0 : Int32) (s1 : Int32) (s2 : Int32) (x0 : Int32) (x1 : Int32) (x2 : Int32) (k0 : Int64) (k1 : Int64) (k2 : Int64) (k3 : Int64) (k4 : Int64) (k5 : Int64) (h0 : Heap) (n0 : Nat) (Z0 : n0 ≤ h0.size) (qv : Exa Z h0 a0 "com/example/ryazan/ryazan/language/Layout") (qd : Fld Z h0 a0 "com/example/ryazan/ryazan/language/Layout" "low" "[I" (.ref wl)) (qe : Fld Z h0 a0 "com/example/ryazan/ryazan/language/Layout" "word" "[I" (.ref ww)) (qf : Fld Z h0 a0 "com/example/ryazan/ryazan/language/Layout" "shift" "[I" (.ref wt)) (qj : Fld Z h0 a0 "com/example/ryazan/ryazan/language/Layout" "width" "I" (.int (2 : Int32))) (qg : Av Z h0 wl .int [(.int l0), (.int l1), (.int l2)]) (qh : Av Z h0 ww .int [(.int (0 : Int32)), (.int (0 : Int32)), (.int (1 : Int32))]) (qi : Av Z h0 wt .int [(.int s0), (.int s1), (.int s2)]) (qb : Av Z h0 wv .int [(.int x0), (.int x1), (.int x2)]) (qa : Av Z h0 wk .long [(.long k0), (.long k1), (.long k2), (.long k3), (.long k4), (.long k5)]) (qk : n0 ≤ wk) (qc : a0 ≠ wk) (qm : wl ≠ wk) (qn : ww ≠ wk) (qo : wt ≠ wk) (ql : wv ≠ wk) :
    Rm l Z (⟨"com/example/ryazan/ryazan/language/Layout", "pack", "([I[JI)V"⟩ : MethodName) prog_58_method_3_code 5 none ws ({ frames := 0, cells := 0, slots := 0, locals := 0 } : Room) #[(.ref a0), (.ref wv), (.ref wk), (.int (3 : Int32))] h0 (fun v h L => v = none ∧ Fr n0 L ∧ Keep h0 h [wk] ∧ Av Z h wk .long [(.long k0), (.long k1), (.long k2), (.long (((0 : Int64) ||| (((x0.toInt64) - (l0.toInt64)) <<< (s0 &&& 0x3f).toInt64)) ||| (((x1.toInt64) - (l1.toInt64)) <<< (s1 &&& 0x3f).toInt64))), (.long ((0 : Int64) ||| (((x2.toInt64) - (l2.toInt64)) <<< (s2 &&& 0x3f).toInt64))), (.long k5)]) := by
 refine Rm.of (plainFor_of_name pn_3) ?_
 intro p e s m below meth cc T X hnm hret hlk
 refine Go.at_ (ef_rPk13 m a0 wv wk (3 : Int32)) ?_
 have N := Fr.nil n0
 have Kp := Keep.refl h0 [wk]
 refine g_iconst X (0 : Int32) d10_0 (pc' := 1) rfl rfl ?_
 refine g_istore X d10_1 (pc' := 3) (Ls' := #[.val (.ref a0), .val (.ref wv), .val (.ref wk), .val (.int (3 : Int32)), .val (.int (0 : Int32))]) rfl rfl ?_
 refine g_iload X d10_3 (pc' := 5) rfl rfl ?_
 refine g_aloadN X d10_5 (pc' := 6) rfl rfl rfl ?_
 refine g_getfield X (host := "") (Or.inl (tb hw 56 rfl)) Via.refl qj d10_6 (pc' := 9) rfl ?_
 intro T X
 refine g_icN X d10_9 (tlt (show (0 : Int32) < (2 : Int32) from (by decide))).2.1 (pc' := 12) rfl ?_
 refine g_aloadN X d10_12 (pc' := 13) rfl rfl rfl ?_
 refine g_iloadN X d10_13 (pc' := 14) rfl rfl ?_
 refine g_iload X d10_14 (pc' := 16) rfl rfl ?_
 refine g_iadd X d10_16 (pc' := 17) rfl ?_
 refine Go.lit32 (z := (3 : Int32)) (by decide) ?_
 refine g_lconst X (0 : Int64) d10_17 (pc' := 18) rfl rfl ?_
 refine g_lastore X qa 3 d10_18 (pc' := 19) rfl (by decide) (by decide) (Nat.le_of_ble_eq_true rfl) ?_
 intro T h X W qa
 replace qa : Av Z h wk .long [(.long k0), (.long k1), (.long k2), (.long (0 : Int64)), (.long k4), (.long k5)] := qa
 replace qd := qd.other W (Or.inl qc)
 replace qe := qe.other W (Or.inl qc)
 replace qf := qf.other W (Or.inl qc)
 replace qj := qj.other W (Or.inl qc)
 replace qg := qg.other W qm
 replace qh := qh.other W qn
 replace qi := qi.other W qo
 replace qb := qb.other W ql
 replace Z0 := Nat.le_trans Z0 (Nat.le_of_eq W.size.symm)
 replace N := Fr.snoc X.1 N qk
 replace Kp := Kp.wr W (Or.inl (List.mem_of_getElem? (i := 0) rfl))
 refine g_iinc X d10_19 (pc' := 22) (q := (1 : Int32)) (Ls' := #[.val (.ref a0), .val (.ref wv), .val (.ref wk), .val (.int (3 : Int32)), .val (.int (1 : Int32))]) rfl rfl rfl rfl ?_
 refine g_goto X d10_22 (pc' := 3) (by decide) (by decide) ?_
 refine g_iload X d10_3 (pc' := 5) rfl rfl ?_
 refine g_aloadN X d10_5 (pc' := 6) rfl rfl rfl ?_
 refine g_getfield X (host := "") (Or.inl (tb hw 56 rfl)) Via.refl qj d10_6 (pc' := 9) rfl ?_
 intro T X
 refine g_icN X d10_9 (tlt (show (1 : Int32) < (2 : Int32) from (by decide))).2.1 (pc' := 12) rfl ?_
 refine g_aloadN X d10_12 (pc' := 13) rfl rfl rfl ?_
 refine g_iloadN X d10_13 (pc' := 14) rfl rfl ?_
 refine g_iload X d10_14 (pc' := 16) rfl rfl ?_
 refine g_iadd X d10_16 (pc' := 17) rfl ?_
 refine Go.lit32 (z := (4 : Int32)) (by decide) ?_
 refine g_lconst X (0 : Int64) d10_17 (pc' := 18) rfl rfl ?_
 refine g_lastore X qa 4 d10_18 (pc' := 19) rfl (by decide) (by decide) (Nat.le_of_ble_eq_true rfl) ?_
 intro T h X W qa
 replace qa : Av Z h wk .long [(.long k0), (.long k1), (.long k2), (.long (0 : Int64)), (.long (0 : Int64)), (.long k5)] := qa
 replace qd := qd.other W (Or.inl qc)
 replace qe := qe.other W (Or.inl qc)
 replace qf := qf.other W (Or.inl qc)
 replace qj := qj.other W (Or.inl qc)
 replace qg := qg.other W qm
 replace qh := qh.other W qn
 replace qi := qi.other W qo
 replace qb := qb.other W ql
 replace Z0 := Nat.le_trans Z0 (Nat.le_of_eq W.size.symm)
 replace N := Fr.snoc X.1 N qk
 replace Kp := Kp.wr W (Or.inl (List.mem_of_getElem? (i := 0) rfl))
 refine g_iinc X d10_19 (pc' := 22) (q := (1 : Int32)) (Ls' := #[.val (.ref a0), .val (.ref wv), .val (.ref wk), .val (.int (3 : Int32)), .val (.int (2 : Int32))]) rfl rfl rfl rfl ?_
 refine g_goto X d10_22 (pc' := 3) (by decide) (by decide) ?_
 refine g_iload X d10_3 (pc' := 5) rfl rfl ?_
 refine g_aloadN X d10_5 (pc' := 6) rfl rfl rfl ?_
 refine g_getfield X (host := "") (Or.inl (tb hw 56 rfl)) Via.refl qj d10_6 (pc' := 9) rfl ?_
 intro T X
 refine g_icY X d10_9 (flt (show ¬ ((2 : Int32) < (2 : Int32)) from (by decide))).2.1 (pc' := 25) (by decide) (by decide) ?_
 refine g_iconst X (0 : Int32) d10_25 (pc' := 26) rfl rfl ?_
 refine g_istore X d10_26 (pc' := 28) (Ls' := #[.val (.ref a0), .val (.ref wv), .val (.ref wk), .val (.int (3 : Int32)), .val (.int (0 : Int32))]) rfl rfl ?_
 refine g_iload X d10_28 (pc' := 30) rfl rfl ?_
 refine g_aloadN X d10_30 (pc' := 31) rfl rfl rfl ?_
 refine g_arraylength X qb d10_31 (pc' := 32) rfl (z := (3 : Int32)) rfl ?_
 refine g_icN X d10_32 (tlt (show (0 : Int32) < (3 : Int32) from (by decide))).2.1 (pc' := 35) rfl ?_
 refine g_aloadN X d10_35 (pc' := 36) rfl rfl rfl ?_
 refine g_iloadN X d10_36 (pc' := 37) rfl rfl ?_
 refine g_aloadN X d10_37 (pc' := 38) rfl rfl rfl ?_
 refine g_getfield X (host := "") (Or.inl (tb hw 41 rfl)) Via.refl qe d10_38 (pc' := 41) rfl ?_
 intro T X
 refine g_iload X d10_41 (pc' := 43) rfl rfl ?_
 refine g_iaload X qh 0 d10_43 (pc' := 44) rfl (by decide) (by decide) rfl ?_
 refine g_iadd X d10_44 (pc' := 45) rfl ?_
 refine Go.lit32 (z := (3 : Int32)) (by decide) ?_
 refine g_dup2 X d10_45 (pc' := 46) rfl rfl rfl ?_
 refine g_laload X qa 3 d10_46 (pc' := 47) rfl (by decide) (by decide) rfl ?_
 refine g_aloadN X d10_47 (pc' := 48) rfl rfl rfl ?_
 refine g_iload X d10_48 (pc' := 50) rfl rfl ?_
 refine g_iaload X qb 0 d10_50 (pc' := 51) rfl (by decide) (by decide) rfl ?_
 refine g_i2l X d10_51 (pc' := 52) rfl ?_
 refine g_aloadN X d10_52 (pc' := 53) rfl rfl rfl ?_
 refine g_getfield X (host := "") (Or.inl (tb hw 39 rfl)) Via.refl qd d10_53 (pc' := 56) rfl ?_
 intro T X
 refine g_iload X d10_56 (pc' := 58) rfl rfl ?_
 refine g_iaload X qg 0 d10_58 (pc' := 59) rfl (by decide) (by decide) rfl ?_
 refine g_i2l X d10_59 (pc' := 60) rfl ?_
 refine g_lsub X d10_60 (pc' := 61) rfl ?_
 refine g_aloadN X d10_61 (pc' := 62) rfl rfl rfl ?_
 refine g_getfield X (host := "") (Or.inl (tb hw 43 rfl)) Via.refl qf d10_62 (pc' := 65) rfl ?_
 intro T X
 refine g_iload X d10_65 (pc' := 67) rfl rfl ?_
 refine g_iaload X qi 0 d10_67 (pc' := 68) rfl (by decide) (by decide) rfl ?_
 refine g_lshl X d10_68 (pc' := 69) rfl ?_
 refine g_lor X d10_69 (pc' := 70) rfl ?_
 generalize qr : ((0 : Int64) ||| (((x0.toInt64) - (l0.toInt64)) <<< (s0 &&& 0x3f).toInt64)) = qp
 refine g_lastore X qa 3 d10_70 (pc' := 71) rfl (by decide) (by decide) (Nat.le_of_ble_eq_true rfl) ?_
 intro T h X W qa
 replace qa : Av Z h wk .long [(.long k0), (.long k1), (.long k2), (.long qp), (.long (0 : Int64)), (.long k5)] := qa
 replace qd := qd.other W (Or.inl qc)
 replace qe := qe.other W (Or.inl qc)
 replace qf := qf.other W (Or.inl qc)
 replace qg := qg.other W qm
 replace qh := qh.other W qn
 replace qi := qi.other W qo
 replace qb := qb.other W ql
 replace Z0 := Nat.le_trans Z0 (Nat.le_of_eq W.size.symm)
 replace N := Fr.snoc X.1 N qk
 replace Kp := Kp.wr W (Or.inl (List.mem_of_getElem? (i := 0) rfl))
 refine g_iinc X d10_71 (pc' := 74) (q := (1 : Int32)) (Ls' := #[.val (.ref a0), .val (.ref wv), .val (.ref wk), .val (.int (3 : Int32)), .val (.int (1 : Int32))]) rfl rfl rfl rfl ?_
 refine g_goto X d10_74 (pc' := 28) (by decide) (by decide) ?_
 refine g_iload X d10_28 (pc' := 30) rfl rfl ?_
 refine g_aloadN X d10_30 (pc' := 31) rfl rfl rfl ?_
 refine g_arraylength X qb d10_31 (pc' := 32) rfl (z := (3 : Int32)) rfl ?_
 refine g_icN X d10_32 (tlt (show (1 : Int32) < (3 : Int32) from (by decide))).2.1 (pc' := 35) rfl ?_
 refine g_aloadN X d10_35 (pc' := 36) rfl rfl rfl ?_
 refine g_iloadN X d10_36 (pc' := 37) rfl rfl ?_
 refine g_aloadN X d10_37 (pc' := 38) rfl rfl rfl ?_
 refine g_getfield X (host := "") (Or.inl (tb hw 41 rfl)) Via.refl qe d10_38 (pc' := 41) rfl ?_
 intro T X
 refine g_iload X d10_41 (pc' := 43) rfl rfl ?_
 refine g_iaload X qh 1 d10_43 (pc' := 44) rfl (by decide) (by decide) rfl ?_
 refine g_iadd X d10_44 (pc' := 45) rfl ?_
 refine Go.lit32 (z := (3 : Int32)) (by decide) ?_
 refine g_dup2 X d10_45 (pc' := 46) rfl rfl rfl ?_
 refine g_laload X qa 3 d10_46 (pc' := 47) rfl (by decide) (by decide) rfl ?_
 refine g_aloadN X d10_47 (pc' := 48) rfl rfl rfl ?_
 refine g_iload X d10_48 (pc' := 50) rfl rfl ?_
 refine g_iaload X qb 1 d10_50 (pc' := 51) rfl (by decide) (by decide) rfl ?_
 refine g_i2l X d10_51 (pc' := 52) rfl ?_
 refine g_aloadN X d10_52 (pc' := 53) rfl rfl rfl ?_
 refine g_getfield X (host := "") (Or.inl (tb hw 39 rfl)) Via.refl qd d10_53 (pc' := 56) rfl ?_
 intro T X
 refine g_iload X d10_56 (pc' := 58) rfl rfl ?_
 refine g_iaload X qg 1 d10_58 (pc' := 59) rfl (by decide) (by decide) rfl ?_
 refine g_i2l X d10_59 (pc' := 60) rfl ?_
 refine g_lsub X d10_60 (pc' := 61) rfl ?_
 refine g_aloadN X d10_61 (pc' := 62) rfl rfl rfl ?_
 refine g_getfield X (host := "") (Or.inl (tb hw 43 rfl)) Via.refl qf d10_62 (pc' := 65) rfl ?_
 intro T X
 refine g_iload X d10_65 (pc' := 67) rfl rfl ?_
 refine g_iaload X qi 1 d10_67 (pc' := 68) rfl (by decide) (by decide) rfl ?_
 refine g_lshl X d10_68 (pc' := 69) rfl ?_
 refine g_lor X d10_69 (pc' := 70) rfl ?_
 generalize qs : (qp ||| (((x1.toInt64) - (l1.toInt64)) <<< (s1 &&& 0x3f).toInt64)) = qq
 refine g_lastore X qa 3 d10_70 (pc' := 71) rfl (by decide) (by decide) (Nat.le_of_ble_eq_true rfl) ?_
 intro T h X W qa
 replace qa : Av Z h wk .long [(.long k0), (.long k1), (.long k2), (.long qq), (.long (0 : Int64)), (.long k5)] := qa
 replace qd := qd.other W (Or.inl qc)
 replace qe := qe.other W (Or.inl qc)
 replace qf := qf.other W (Or.inl qc)
 replace qg := qg.other W qm
 replace qh := qh.other W qn
 replace qi := qi.other W qo
 replace qb := qb.other W ql
 replace Z0 := Nat.le_trans Z0 (Nat.le_of_eq W.size.symm)
 replace N := Fr.snoc X.1 N qk
 replace Kp := Kp.wr W (Or.inl (List.mem_of_getElem? (i := 0) rfl))
 refine g_iinc X d10_71 (pc' := 74) (q := (1 : Int32)) (Ls' := #[.val (.ref a0), .val (.ref wv), .val (.ref wk), .val (.int (3 : Int32)), .val (.int (2 : Int32))]) rfl rfl rfl rfl ?_
 refine g_goto X d10_74 (pc' := 28) (by decide) (by decide) ?_
 refine g_iload X d10_28 (pc' := 30) rfl rfl ?_
 refine g_aloadN X d10_30 (pc' := 31) rfl rfl rfl ?_
 refine g_arraylength X qb d10_31 (pc' := 32) rfl (z := (3 : Int32)) rfl ?_
 refine g_icN X d10_32 (tlt (show (2 : Int32) < (3 : Int32) from (by decide))).2.1 (pc' := 35) rfl ?_
 refine g_aloadN X d10_35 (pc' := 36) rfl rfl rfl ?_
 refine g_iloadN X d10_36 (pc' := 37) rfl rfl ?_
 refine g_aloadN X d10_37 (pc' := 38) rfl rfl rfl ?_
 refine g_getfield X (host := "") (Or.inl (tb hw 41 rfl)) Via.refl qe d10_38 (pc' := 41) rfl ?_
 intro T X
 refine g_iload X d10_41 (pc' := 43) rfl rfl ?_
 refine g_iaload X qh 2 d10_43 (pc' := 44) rfl (by decide) (by decide) rfl ?_
 refine g_iadd X d10_44 (pc' := 45) rfl ?_
 refine Go.lit32 (z := (4 : Int32)) (by decide) ?_
 refine g_dup2 X d10_45 (pc' := 46) rfl rfl rfl ?_
 refine g_laload X qa 4 d10_46 (pc' := 47) rfl (by decide) (by decide) rfl ?_
 refine g_aloadN X d10_47 (pc' := 48) rfl rfl rfl ?_
 refine g_iload X d10_48 (pc' := 50) rfl rfl ?_
 refine g_iaload X qb 2 d10_50 (pc' := 51) rfl (by decide) (by decide) rfl ?_
 refine g_i2l X d10_51 (pc' := 52) rfl ?_
 refine g_aloadN X d10_52 (pc' := 53) rfl rfl rfl ?_
 refine g_getfield X (host := "") (Or.inl (tb hw 39 rfl)) Via.refl qd d10_53 (pc' := 56) rfl ?_
 intro T X
 refine g_iload X d10_56 (pc' := 58) rfl rfl ?_
 refine g_iaload X qg 2 d10_58 (pc' := 59) rfl (by decide) (by decide) rfl ?_
 refine g_i2l X d10_59 (pc' := 60) rfl ?_
 refine g_lsub X d10_60 (pc' := 61) rfl ?_
 refine g_aloadN X d10_61 (pc' := 62) rfl rfl rfl ?_
 refine g_getfield X (host := "") (Or.inl (tb hw 43 rfl)) Via.refl qf d10_62 (pc' := 65) rfl ?_
 intro T X
 refine g_iload X d10_65 (pc' := 67) rfl rfl ?_
 refine g_iaload X qi 2 d10_67 (pc' := 68) rfl (by decide) (by decide) rfl ?_
 refine g_lshl X d10_68 (pc' := 69) rfl ?_
 refine g_lor X d10_69 (pc' := 70) rfl ?_
 generalize qt : ((0 : Int64) ||| (((x2.toInt64) - (l2.toInt64)) <<< (s2 &&& 0x3f).toInt64)) = qu
 refine g_lastore X qa 4 d10_70 (pc' := 71) rfl (by decide) (by decide) (Nat.le_of_ble_eq_true rfl) ?_
 intro T h X W qa
 replace qa : Av Z h wk .long [(.long k0), (.long k1), (.long k2), (.long qq), (.long qu), (.long k5)] := qa
 replace qb := qb.other W ql
 replace Z0 := Nat.le_trans Z0 (Nat.le_of_eq W.size.symm)
 replace N := Fr.snoc X.1 N qk
 replace Kp := Kp.wr W (Or.inl (List.mem_of_getElem? (i := 0) rfl))
 refine g_iinc X d10_71 (pc' := 74) (q := (1 : Int32)) (Ls' := #[.val (.ref a0), .val (.ref wv), .val (.ref wk), .val (.int (3 : Int32)), .val (.int (3 : Int32))]) rfl rfl rfl rfl ?_
 refine g_goto X d10_74 (pc' := 28) (by decide) (by decide) ?_
 refine g_iload X d10_28 (pc' := 30) rfl rfl ?_
 refine g_aloadN X d10_30 (pc' := 31) rfl rfl rfl ?_
 refine g_arraylength X qb d10_31 (pc' := 32) rfl (z := (3 : Int32)) rfl ?_
 refine g_icY X d10_32 (flt (show ¬ ((3 : Int32) < (3 : Int32)) from (by decide))).2.1 (pc' := 77) (by decide) (by decide) ?_
 refine g_return X d10_77 hret hlk (by decide) (by decide) ?_
 subst qr qs qt
 exact ⟨rfl, N, Kp, qa⟩
theorem ef_rUp13 (m : MethodId) (x0 : Addr) (x1 : Addr) (x2 : Int32) (x3 : Addr) : entryFrame m #[(.ref x0), (.ref x1), (.int x2), (.ref x3)] 5 = mkF m 0 #[.val (.ref x0), .val (.ref x1), .val (.int x2), .val (.ref x3), .unset] [] := by first | (simp [entryFrame, mkF, argsToLocals, Value.category]; done) | rfl
set_option maxRecDepth 65536 in
set_option maxHeartbeats 40000000 in
theorem rUp13 (l : Launch) (Z : State) (aa : Array Value) (hw : ∀ d ∈ tables_1, d.before aa Z = true) (ws : List Jvm.Cond) (a0 : Addr) (wk : Addr) (wv : Addr) (wl : Addr) (ww : Addr) (wt : Addr) (wm : Addr) (l0 : Int32) (l1 : Int32) (l2 : Int32) (s0 : Int32) (s1 : Int32) (s2 : Int32) (m0 : Int64) (m1 : Int64) (m2 : Int64) (k0 : Int64) (k1 : Int64) (k2 : Int64) (k3 : Int64) (k4 : Int64) (k5 : Int64) (x0 : Int32) (x1 : Int32) (x2 : Int32) (h0 : Heap) (n0 : Nat) (Z0 : n0 ≤ h0.size) (qx : Exa Z h0 a0 "com/example/ryazan/ryazan/language/Layout") (qc : Fld Z h0 a0 "com/example/ryazan/ryazan/language/Layout" "low" "[I" (.ref wl)) (qd : Fld Z h0 a0 "com/example/ryazan/ryazan/language/Layout" "word" "[I" (.ref ww)) (qe : Fld Z h0 a0 "com/example/ryazan/ryazan/language/Layout" "shift" "[I" (.ref wt)) (qf : Fld Z h0 a0 "com/example/ryazan/ryazan/language/Layout" "mask" "[J" (.ref wm)) (qg : Av Z h0 wl .int [(.int l0), (.int l1), (.int l2)]) (qh : Av Z h0 ww .int [(.int (0 : Int32)), (.int (0 : Int32)), (.int (1 : Int32))]) (qi : Av Z h0 wt .int [(.int s0), (.int s1), (.int s2)]) (qj : Av Z h0 wm .long [(.long m0), (.long m1), (.long m2)]) (qk : Av Z h0 wk .long [(.long k0), (.long k1), (.long k2), (.long k3), (.long k4), (.long k5)]) (qa : Av Z h0 wv .int [(.int x0), (.int x1), (.int x2)]) (ql : n0 ≤ wv) (qb : a0 ≠ wv) (qn : wl ≠ wv) (qo : ww ≠ wv) (qp : wt ≠ wv) (qq : wm ≠ wv) (qr : wk ≠ wv) :
    Rm l Z (⟨"com/example/ryazan/ryazan/language/Layout", "unpack", "([JI[I)V"⟩ : MethodName) prog_58_method_4_code 5 none ws ({ frames := 0, cells := 0, slots := 0, locals := 0 } : Room) #[(.ref a0), (.ref wk), (.int (3 : Int32)), (.ref wv)] h0 (fun v h L => v = none ∧ Fr n0 L ∧ Keep h0 h [wv] ∧ Av Z h wv .int [(.int (((((k3.toUInt64 >>> (s0 &&& 0x3f).toInt64.toUInt64).toInt64) &&& m0).toInt32) + l0)), (.int (((((k3.toUInt64 >>> (s1 &&& 0x3f).toInt64.toUInt64).toInt64) &&& m1).toInt32) + l1)), (.int (((((k4.toUInt64 >>> (s2 &&& 0x3f).toInt64.toUInt64).toInt64) &&& m2).toInt32) + l2))]) := by
 refine Rm.of (plainFor_of_name pn_3) ?_
 intro p e s m below meth cc T X hnm hret hlk
 refine Go.at_ (ef_rUp13 m a0 wk (3 : Int32) wv) ?_
 have N := Fr.nil n0
 have Kp := Keep.refl h0 [wv]
 refine g_iconst X (0 : Int32) d11_0 (pc' := 1) rfl rfl ?_
 refine g_istore X d11_1 (pc' := 3) (Ls' := #[.val (.ref a0), .val (.ref wk), .val (.int (3 : Int32)), .val (.ref wv), .val (.int (0 : Int32))]) rfl rfl ?_
 refine g_iload X d11_3 (pc' := 5) rfl rfl ?_
 refine g_aloadN X d11_5 (pc' := 6) rfl rfl rfl ?_
 refine g_arraylength X qa d11_6 (pc' := 7) rfl (z := (3 : Int32)) rfl ?_
 refine g_icN X d11_7 (tlt (show (0 : Int32) < (3 : Int32) from (by decide))).2.1 (pc' := 10) rfl ?_
 refine g_aloadN X d11_10 (pc' := 11) rfl rfl rfl ?_
 refine g_iload X d11_11 (pc' := 13) rfl rfl ?_
 refine g_aloadN X d11_13 (pc' := 14) rfl rfl rfl ?_
 refine g_iloadN X d11_14 (pc' := 15) rfl rfl ?_
 refine g_aloadN X d11_15 (pc' := 16) rfl rfl rfl ?_
 refine g_getfield X (host := "") (Or.inl (tb hw 41 rfl)) Via.refl qd d11_16 (pc' := 19) rfl ?_
 intro T X
 refine g_iload X d11_19 (pc' := 21) rfl rfl ?_
 refine g_iaload X qh 0 d11_21 (pc' := 22) rfl (by decide) (by decide) rfl ?_
 refine g_iadd X d11_22 (pc' := 23) rfl ?_
 refine Go.lit32 (z := (3 : Int32)) (by decide) ?_
 refine g_laload X qk 3 d11_23 (pc' := 24) rfl (by decide) (by decide) rfl ?_
 refine g_aloadN X d11_24 (pc' := 25) rfl rfl rfl ?_
 refine g_getfield X (host := "") (Or.inl (tb hw 43 rfl)) Via.refl qe d11_25 (pc' := 28) rfl ?_
 intro T X
 refine g_iload X d11_28 (pc' := 30) rfl rfl ?_
 refine g_iaload X qi 0 d11_30 (pc' := 31) rfl (by decide) (by decide) rfl ?_
 refine g_lushr X d11_31 (pc' := 32) rfl ?_
 refine g_aloadN X d11_32 (pc' := 33) rfl rfl rfl ?_
 refine g_getfield X (host := "") (Or.inl (tb hw 45 rfl)) Via.refl qf d11_33 (pc' := 36) rfl ?_
 intro T X
 refine g_iload X d11_36 (pc' := 38) rfl rfl ?_
 refine g_laload X qj 0 d11_38 (pc' := 39) rfl (by decide) (by decide) rfl ?_
 refine g_land X d11_39 (pc' := 40) rfl ?_
 refine g_l2i X d11_40 (pc' := 41) rfl ?_
 refine g_aloadN X d11_41 (pc' := 42) rfl rfl rfl ?_
 refine g_getfield X (host := "") (Or.inl (tb hw 39 rfl)) Via.refl qc d11_42 (pc' := 45) rfl ?_
 intro T X
 refine g_iload X d11_45 (pc' := 47) rfl rfl ?_
 refine g_iaload X qg 0 d11_47 (pc' := 48) rfl (by decide) (by decide) rfl ?_
 refine g_iadd X d11_48 (pc' := 49) rfl ?_
 generalize qt : (((((k3.toUInt64 >>> (s0 &&& 0x3f).toInt64.toUInt64).toInt64) &&& m0).toInt32) + l0) = qm
 refine g_iastore X qa 0 d11_49 (pc' := 50) rfl (by decide) (by decide) (Nat.le_of_ble_eq_true rfl) ?_
 intro T h X W qa
 replace qa : Av Z h wv .int [(.int qm), (.int x1), (.int x2)] := qa
 replace qc := qc.other W (Or.inl qb)
 replace qd := qd.other W (Or.inl qb)
 replace qe := qe.other W (Or.inl qb)
 replace qf := qf.other W (Or.inl qb)
 replace qg := qg.other W qn
 replace qh := qh.other W qo
 replace qi := qi.other W qp
 replace qj := qj.other W qq
 replace qk := qk.other W qr
 replace Z0 := Nat.le_trans Z0 (Nat.le_of_eq W.size.symm)
 replace N := Fr.snoc X.1 N ql
 replace Kp := Kp.wr W (Or.inl (List.mem_of_getElem? (i := 0) rfl))
 refine g_iinc X d11_50 (pc' := 53) (q := (1 : Int32)) (Ls' := #[.val (.ref a0), .val (.ref wk), .val (.int (3 : Int32)), .val (.ref wv), .val (.int (1 : Int32))]) rfl rfl rfl rfl ?_
 refine g_goto X d11_53 (pc' := 3) (by decide) (by decide) ?_
 refine g_iload X d11_3 (pc' := 5) rfl rfl ?_
 refine g_aloadN X d11_5 (pc' := 6) rfl rfl rfl ?_
 refine g_arraylength X qa d11_6 (pc' := 7) rfl (z := (3 : Int32)) rfl ?_
 refine g_icN X d11_7 (tlt (show (1 : Int32) < (3 : Int32) from (by decide))).2.1 (pc' := 10) rfl ?_
 refine g_aloadN X d11_10 (pc' := 11) rfl rfl rfl ?_
 refine g_iload X d11_11 (pc' := 13) rfl rfl ?_
 refine g_aloadN X d11_13 (pc' := 14) rfl rfl rfl ?_
 refine g_iloadN X d11_14 (pc' := 15) rfl rfl ?_
 refine g_aloadN X d11_15 (pc' := 16) rfl rfl rfl ?_
 refine g_getfield X (host := "") (Or.inl (tb hw 41 rfl)) Via.refl qd d11_16 (pc' := 19) rfl ?_
 intro T X
 refine g_iload X d11_19 (pc' := 21) rfl rfl ?_
 refine g_iaload X qh 1 d11_21 (pc' := 22) rfl (by decide) (by decide) rfl ?_
 refine g_iadd X d11_22 (pc' := 23) rfl ?_
 refine Go.lit32 (z := (3 : Int32)) (by decide) ?_
 refine g_laload X qk 3 d11_23 (pc' := 24) rfl (by decide) (by decide) rfl ?_
 refine g_aloadN X d11_24 (pc' := 25) rfl rfl rfl ?_
 refine g_getfield X (host := "") (Or.inl (tb hw 43 rfl)) Via.refl qe d11_25 (pc' := 28) rfl ?_
 intro T X
 refine g_iload X d11_28 (pc' := 30) rfl rfl ?_
 refine g_iaload X qi 1 d11_30 (pc' := 31) rfl (by decide) (by decide) rfl ?_
 refine g_lushr X d11_31 (pc' := 32) rfl ?_
 refine g_aloadN X d11_32 (pc' := 33) rfl rfl rfl ?_
 refine g_getfield X (host := "") (Or.inl (tb hw 45 rfl)) Via.refl qf d11_33 (pc' := 36) rfl ?_
 intro T X
 refine g_iload X d11_36 (pc' := 38) rfl rfl ?_
 refine g_laload X qj 1 d11_38 (pc' := 39) rfl (by decide) (by decide) rfl ?_
 refine g_land X d11_39 (pc' := 40) rfl ?_
 refine g_l2i X d11_40 (pc' := 41) rfl ?_
 refine g_aloadN X d11_41 (pc' := 42) rfl rfl rfl ?_
 refine g_getfield X (host := "") (Or.inl (tb hw 39 rfl)) Via.refl qc d11_42 (pc' := 45) rfl ?_
 intro T X
 refine g_iload X d11_45 (pc' := 47) rfl rfl ?_
 refine g_iaload X qg 1 d11_47 (pc' := 48) rfl (by decide) (by decide) rfl ?_
 refine g_iadd X d11_48 (pc' := 49) rfl ?_
 generalize qu : (((((k3.toUInt64 >>> (s1 &&& 0x3f).toInt64.toUInt64).toInt64) &&& m1).toInt32) + l1) = qs
 refine g_iastore X qa 1 d11_49 (pc' := 50) rfl (by decide) (by decide) (Nat.le_of_ble_eq_true rfl) ?_
 intro T h X W qa
 replace qa : Av Z h wv .int [(.int qm), (.int qs), (.int x2)] := qa
 replace qc := qc.other W (Or.inl qb)
 replace qd := qd.other W (Or.inl qb)
 replace qe := qe.other W (Or.inl qb)
 replace qf := qf.other W (Or.inl qb)
 replace qg := qg.other W qn
 replace qh := qh.other W qo
 replace qi := qi.other W qp
 replace qj := qj.other W qq
 replace qk := qk.other W qr
 replace Z0 := Nat.le_trans Z0 (Nat.le_of_eq W.size.symm)
 replace N := Fr.snoc X.1 N ql
 replace Kp := Kp.wr W (Or.inl (List.mem_of_getElem? (i := 0) rfl))
 refine g_iinc X d11_50 (pc' := 53) (q := (1 : Int32)) (Ls' := #[.val (.ref a0), .val (.ref wk), .val (.int (3 : Int32)), .val (.ref wv), .val (.int (2 : Int32))]) rfl rfl rfl rfl ?_
 refine g_goto X d11_53 (pc' := 3) (by decide) (by decide) ?_
 refine g_iload X d11_3 (pc' := 5) rfl rfl ?_
 refine g_aloadN X d11_5 (pc' := 6) rfl rfl rfl ?_
 refine g_arraylength X qa d11_6 (pc' := 7) rfl (z := (3 : Int32)) rfl ?_
 refine g_icN X d11_7 (tlt (show (2 : Int32) < (3 : Int32) from (by decide))).2.1 (pc' := 10) rfl ?_
 refine g_aloadN X d11_10 (pc' := 11) rfl rfl rfl ?_
 refine g_iload X d11_11 (pc' := 13) rfl rfl ?_
 refine g_aloadN X d11_13 (pc' := 14) rfl rfl rfl ?_
 refine g_iloadN X d11_14 (pc' := 15) rfl rfl ?_
 refine g_aloadN X d11_15 (pc' := 16) rfl rfl rfl ?_
 refine g_getfield X (host := "") (Or.inl (tb hw 41 rfl)) Via.refl qd d11_16 (pc' := 19) rfl ?_
 intro T X
 refine g_iload X d11_19 (pc' := 21) rfl rfl ?_
 refine g_iaload X qh 2 d11_21 (pc' := 22) rfl (by decide) (by decide) rfl ?_
 refine g_iadd X d11_22 (pc' := 23) rfl ?_
 refine Go.lit32 (z := (4 : Int32)) (by decide) ?_
 refine g_laload X qk 4 d11_23 (pc' := 24) rfl (by decide) (by decide) rfl ?_
 refine g_aloadN X d11_24 (pc' := 25) rfl rfl rfl ?_
 refine g_getfield X (host := "") (Or.inl (tb hw 43 rfl)) Via.refl qe d11_25 (pc' := 28) rfl ?_
 intro T X
 refine g_iload X d11_28 (pc' := 30) rfl rfl ?_
 refine g_iaload X qi 2 d11_30 (pc' := 31) rfl (by decide) (by decide) rfl ?_
 refine g_lushr X d11_31 (pc' := 32) rfl ?_
 refine g_aloadN X d11_32 (pc' := 33) rfl rfl rfl ?_
 refine g_getfield X (host := "") (Or.inl (tb hw 45 rfl)) Via.refl qf d11_33 (pc' := 36) rfl ?_
 intro T X
 refine g_iload X d11_36 (pc' := 38) rfl rfl ?_
 refine g_laload X qj 2 d11_38 (pc' := 39) rfl (by decide) (by decide) rfl ?_
 refine g_land X d11_39 (pc' := 40) rfl ?_
 refine g_l2i X d11_40 (pc' := 41) rfl ?_
 refine g_aloadN X d11_41 (pc' := 42) rfl rfl rfl ?_
 refine g_getfield X (host := "") (Or.inl (tb hw 39 rfl)) Via.refl qc d11_42 (pc' := 45) rfl ?_
 intro T X
 refine g_iload X d11_45 (pc' := 47) rfl rfl ?_
 refine g_iaload X qg 2 d11_47 (pc' := 48) rfl (by decide) (by decide) rfl ?_
 refine g_iadd X d11_48 (pc' := 49) rfl ?_
 generalize qv : (((((k4.toUInt64 >>> (s2 &&& 0x3f).toInt64.toUInt64).toInt64) &&& m2).toInt32) + l2) = qw
 refine g_iastore X qa 2 d11_49 (pc' := 50) rfl (by decide) (by decide) (Nat.le_of_ble_eq_true rfl) ?_
 intro T h X W qa
 replace qa : Av Z h wv .int [(.int qm), (.int qs), (.int qw)] := qa
 replace Z0 := Nat.le_trans Z0 (Nat.le_of_eq W.size.symm)
 replace N := Fr.snoc X.1 N ql
 replace Kp := Kp.wr W (Or.inl (List.mem_of_getElem? (i := 0) rfl))
 refine g_iinc X d11_50 (pc' := 53) (q := (1 : Int32)) (Ls' := #[.val (.ref a0), .val (.ref wk), .val (.int (3 : Int32)), .val (.ref wv), .val (.int (3 : Int32))]) rfl rfl rfl rfl ?_
 refine g_goto X d11_53 (pc' := 3) (by decide) (by decide) ?_
 refine g_iload X d11_3 (pc' := 5) rfl rfl ?_
 refine g_aloadN X d11_5 (pc' := 6) rfl rfl rfl ?_
 refine g_arraylength X qa d11_6 (pc' := 7) rfl (z := (3 : Int32)) rfl ?_
 refine g_icY X d11_7 (flt (show ¬ ((3 : Int32) < (3 : Int32)) from (by decide))).2.1 (pc' := 56) (by decide) (by decide) ?_
 refine g_return X d11_56 hret hlk (by decide) (by decide) ?_
 subst qt qu qv
 exact ⟨rfl, N, Kp, qa⟩
theorem lohi (j : Int64) : (fLo j).toInt ≤ (fHi j).toInt := by
  simp only [fLo, fHi, fMin, fMax, Int32.lt_iff_toInt_lt]
  repeat' split
  all_goals omega
theorem one_more {l h : Int32} (hle : l.toInt ≤ h.toInt) : ((h.toInt64 - l.toInt64) + (1 : Int64)).toInt = h.toInt - l.toInt + 1 ∧ ¬ ((h.toInt64 - l.toInt64) + (1 : Int64)) = (0 : Int64) := by
  have r := rng32 l; have r2 := rng32 h
  have e := span_int l h
  have e2 : ((h.toInt64 - l.toInt64) + (1 : Int64)).toInt = h.toInt - l.toInt + 1 := by
    rw [Int64.toInt_add, e]; simp only [Int64.reduceToInt]; exact Int.bmod_eq_of_le (by omega) (by omega)
  refine ⟨e2, fun q => ?_⟩
  rw [q] at e2; simp only [Int64.reduceToInt] at e2; omega
theorem pick_in {l h : Int32} {r : Int64} (hle : l.toInt ≤ h.toInt) (hr : 0 ≤ r.toInt) : l.toInt ≤ (fPick l h r).toInt ∧ (fPick l h r).toInt ≤ h.toInt := by
  have a := rng32 l; have b := rng32 h
  obtain ⟨e, hz⟩ := one_more hle
  have e3 : (r % ((h.toInt64 - l.toInt64) + (1 : Int64))).toInt = r.toInt % (h.toInt - l.toInt + 1) := by
    rw [Int64.toInt_mod, e, Int.tmod_eq_emod_of_nonneg hr]
  have f1 : 0 ≤ r.toInt % (h.toInt - l.toInt + 1) := Int.emod_nonneg _ (by omega)
  have f2 : r.toInt % (h.toInt - l.toInt + 1) < h.toInt - l.toInt + 1 := Int.emod_lt_of_pos _ (by omega)
  have e4 : (l.toInt64 + r % ((h.toInt64 - l.toInt64) + (1 : Int64))).toInt = l.toInt + r.toInt % (h.toInt - l.toInt + 1) := by
    rw [Int64.toInt_add, e3, Int32.toInt_toInt64]; exact Int.bmod_eq_of_le (by omega) (by omega)
  have e5 : (fPick l h r).toInt = l.toInt + r.toInt % (h.toInt - l.toInt + 1) := by
    show ((l.toInt64 + r % ((h.toInt64 - l.toInt64) + (1 : Int64))).toInt32).toInt = _
    rw [Int64.toInt_toInt32, e4]; exact Int.bmod_eq_of_le (by omega) (by omega)
  omega
theorem up32 (q : Int64) : 0 ≤ ((q.toUInt64 >>> ((32 : Int32) &&& 0x3f).toInt64.toUInt64).toInt64).toInt := by
  rw [c_lushr q 32 32 (by decide) (by decide)]
  exact Int.ediv_nonneg (by omega) (by decide)
theorem low32 (q : Int64) : 0 ≤ (q &&& (4294967295 : Int64)).toInt := by
  have e := c_maskL q 4294967295 32 (by decide) (by decide)
  rw [e]; exact Int.emod_nonneg _ (by decide)
theorem off4 {q : Int64} {o : Int32} (e : (q &&& (3 : Int64)).toInt32 = o) : o = 0 ∨ o = 1 ∨ o = 2 ∨ o = 3 := by
  have a : (q &&& (3 : Int64)).toInt = q.toInt % 4 := c_maskL q 3 2 (by decide) (by decide)
  have b := c_l2i (q &&& (3 : Int64))
  rw [e] at b
  have r := rng32 o
  simp only [← Int32.toInt_inj, Int32.reduceToInt]; omega
/-- a sum of two is free of a wrap -/
theorem sub32 {a b : Int32} {m n : Nat} (ha : a.toInt = m) (hb : b.toInt = n) (h : n ≤ m) (hm : m ≤ 64) : (a - b).toInt = (m - n : Nat) := by
  rw [Int32.toInt_sub, ha, hb, Int.bmod_eq_of_le (by omega) (by omega)]; omega
theorem le_of_not {a b : Int32} {m n : Nat} (ha : a.toInt = m) (hb : b.toInt = n) (h : ¬ a < b) : n ≤ m := by
  rw [Int32.lt_iff_toInt_lt, ha, hb] at h; omega
theorem not_of_le {a b : Int32} {m n : Nat} (ha : a.toInt = m) (hb : b.toInt = n) (h : n ≤ m) : ¬ a < b := by
  rw [Int32.lt_iff_toInt_lt, ha, hb]; omega
/-- three fields in one word -/
theorem three {d0 d1 d2 : Int64} {s0 s1 s2 : Int32} {n0 n1 n2 b0 b1 b2 : Nat} (h0 : s0.toInt = n0) (h1 : s1.toInt = n1) (h2 : s2.toInt = n2) (e0 : n0 + b0 = 64) (e1 : n1 + b1 = n0) (e2 : n2 + b2 = n1)
    (k0 : d0.toBitVec.toNat < 2 ^ b0) (k1 : d1.toBitVec.toNat < 2 ^ b1) (k2 : d2.toBitVec.toNat < 2 ^ b2) :
    (∀ i, i < b0 → ((((0 : Int64) ||| SL d0 s0) ||| SL d1 s1) ||| SL d2 s2).toBitVec.getLsbD (n0 + i) = d0.toBitVec.getLsbD i) ∧ (∀ i, i < b1 → ((((0 : Int64) ||| SL d0 s0) ||| SL d1 s1) ||| SL d2 s2).toBitVec.getLsbD (n1 + i) = d1.toBitVec.getLsbD i) ∧ (∀ i, i < b2 → ((((0 : Int64) ||| SL d0 s0) ||| SL d1 s1) ||| SL d2 s2).toBitVec.getLsbD (n2 + i) = d2.toBitVec.getLsbD i) := by
  have z : ∀ j, (0 : Int64).toBitVec.getLsbD j = false := fun j => BitVec.getLsbD_zero
  refine ⟨fun i hi => ?_, fun i hi => ?_, fun i hi => ?_⟩
  · simp only [Int64.toBitVec_or, BitVec.getLsbD_or, z, slbit h0 (by omega) k0 (n0 + i) (by omega), slbit h1 (by omega) k1 (n0 + i) (by omega), slbit h2 (by omega) k2 (n0 + i) (by omega)]
    rw [hi_false k1 (show b1 ≤ n0 + i - n1 by omega), hi_false k2 (show b2 ≤ n0 + i - n2 by omega), Nat.add_sub_cancel_left]
    simp
  · simp only [Int64.toBitVec_or, BitVec.getLsbD_or, z, slbit h0 (by omega) k0 (n1 + i) (by omega), slbit h1 (by omega) k1 (n1 + i) (by omega), slbit h2 (by omega) k2 (n1 + i) (by omega)]
    rw [decide_eq_false (show ¬ n0 ≤ n1 + i by omega), hi_false k2 (show b2 ≤ n1 + i - n2 by omega), Nat.add_sub_cancel_left]
    simp
  · simp only [Int64.toBitVec_or, BitVec.getLsbD_or, z, slbit h0 (by omega) k0 (n2 + i) (by omega), slbit h1 (by omega) k1 (n2 + i) (by omega), slbit h2 (by omega) k2 (n2 + i) (by omega)]
    rw [decide_eq_false (show ¬ n0 ≤ n2 + i by omega), decide_eq_false (show ¬ n1 ≤ n2 + i by omega), Nat.add_sub_cancel_left]
    simp
theorem two {d0 d1 : Int64} {s0 s1 : Int32} {n0 n1 b0 b1 : Nat} (h0 : s0.toInt = n0) (h1 : s1.toInt = n1) (e0 : n0 + b0 = 64) (e1 : n1 + b1 = n0)
    (k0 : d0.toBitVec.toNat < 2 ^ b0) (k1 : d1.toBitVec.toNat < 2 ^ b1) :
    (∀ i, i < b0 → (((0 : Int64) ||| SL d0 s0) ||| SL d1 s1).toBitVec.getLsbD (n0 + i) = d0.toBitVec.getLsbD i) ∧ (∀ i, i < b1 → (((0 : Int64) ||| SL d0 s0) ||| SL d1 s1).toBitVec.getLsbD (n1 + i) = d1.toBitVec.getLsbD i) := by
  have z : ∀ j, (0 : Int64).toBitVec.getLsbD j = false := fun j => BitVec.getLsbD_zero
  refine ⟨fun i hi => ?_, fun i hi => ?_⟩
  · simp only [Int64.toBitVec_or, BitVec.getLsbD_or, z, slbit h0 (by omega) k0 (n0 + i) (by omega), slbit h1 (by omega) k1 (n0 + i) (by omega)]
    rw [hi_false k1 (show b1 ≤ n0 + i - n1 by omega), Nat.add_sub_cancel_left]
    simp
  · simp only [Int64.toBitVec_or, BitVec.getLsbD_or, z, slbit h0 (by omega) k0 (n1 + i) (by omega), slbit h1 (by omega) k1 (n1 + i) (by omega)]
    rw [decide_eq_false (show ¬ n0 ≤ n1 + i by omega), Nat.add_sub_cancel_left]
    simp
theorem one {d0 : Int64} {s0 : Int32} {n0 b0 : Nat} (h0 : s0.toInt = n0) (e0 : n0 + b0 = 64) (k0 : d0.toBitVec.toNat < 2 ^ b0) :
    ∀ i, i < b0 → ((0 : Int64) ||| SL d0 s0).toBitVec.getLsbD (n0 + i) = d0.toBitVec.getLsbD i := by
  have z : ∀ j, (0 : Int64).toBitVec.getLsbD j = false := fun j => BitVec.getLsbD_zero
  intro i hi
  simp only [Int64.toBitVec_or, BitVec.getLsbD_or, z, slbit h0 (by omega) k0 (n0 + i) (by omega)]
  rw [Nat.add_sub_cancel_left]
  simp
/-- what the law needs of one variable -/
theorem got {K : Int64} {s b l v : Int32} {n bb : Nat} (hs : s.toInt = n) (hb : b.toInt = bb) (hnb : n + bb ≤ 64) (h32 : bb ≤ 32) (hd : (v.toInt64 - l.toInt64).toBitVec.toNat < 2 ^ bb) (bits : ∀ i, i < bb → K.toBitVec.getLsbD (n + i) = (v.toInt64 - l.toInt64).toBitVec.getLsbD i) :
    (SR K s &&& (SL (1 : Int64) b - (1 : Int64))).toInt32 + l = v := by rw [unpk hs hb hnb h32 hd bits]; exact back_int v l
theorem pd_3 : parseMethodDescriptor "(IIJ)I" = some ⟨[.int, .int, .long], some .int⟩ := by decide +kernel
theorem pd_4 : parseMethodDescriptor "([I[I)V" = some ⟨[(.array .int), (.array .int)], none⟩ := by decide +kernel
theorem pd_5 : parseMethodDescriptor "([I[JI)V" = some ⟨[(.array .int), (.array .long), .int], none⟩ := by decide +kernel
theorem pd_6 : parseMethodDescriptor "([JI[I)V" = some ⟨[(.array .long), .int, (.array .int)], none⟩ := by decide +kernel
theorem ef_rLaw (m : MethodId) (x0 : Int64) (x1 : Int64) (x2 : Int64) (x3 : Int64) (x4 : Int64) (x5 : Int64) : entryFrame m #[(.long x0), (.long x1), (.long x2), (.long x3), (.long x4), (.long x5)] maxLocals = mkF m 0 #[.val (.long x0), .second, .val (.long x1), .second, .val (.long x2), .second, .val (.long x3), .second, .val (.long x4), .second, .val (.long x5), .second, .unset, .unset, .unset, .unset, .unset, .unset, .unset] [] := by first | (simp [entryFrame, mkF, argsToLocals, Value.category, maxLocals]; done) | rfl
set_option maxRecDepth 65536 in
set_option maxHeartbeats 40000000 in
theorem rLaw (l : Launch) (Z : State) (aa : Array Value) (hw : ∀ d ∈ tables_1, d.before aa Z = true) (ws : List Jvm.Cond) (j0 : Int64) (j1 : Int64) (j2 : Int64) (j3 : Int64) (j4 : Int64) (j5 : Int64) (h0 : Heap) (n0 : Nat) (Z0 : n0 ≤ h0.size) :
    Rm l Z x code maxLocals ret ws room_1 #[(.long j0), (.long j1), (.long j2), (.long j3), (.long j4), (.long j5)] h0 (fun v h L => v = some (.int 1) ∧ Fr n0 L) := by
 refine Rm.of (plainFor_of_name pn_0) ?_
 intro p e s m below meth cc T X hnm hret hlk
 refine Go.at_ (ef_rLaw m j0 j1 j2 j3 j4 j5) ?_
 have N := Fr.nil n0
 refine g_iconst X (3 : Int32) at_0 (pc' := 1) rfl rfl ?_
 refine g_newarray X 3 (tb hw 0 rfl) at_1 (pc' := 3) rfl (by decide) (by decide) 3 (by decide) (by decide) (by decide) (by decide) (vs := [(.int (0 : Int32)), (.int (0 : Int32)), (.int (0 : Int32))]) rfl (ad := "[I") (by decide) ?_
 intro T h qt ys X Ex qg qd
 have w4 : n0 ≤ qt := by rw [ys]; exact Z0
 replace Z0 := Nat.le_trans Z0 Ex.1
 refine g_astore X at_3 (pc' := 5) (Ls' := #[.val (.long j0), .second, .val (.long j1), .second, .val (.long j2), .second, .val (.long j3), .second, .val (.long j4), .second, .val (.long j5), .second, .val (.ref qt), .unset, .unset, .unset, .unset, .unset, .unset]) rfl rfl rfl ?_
 refine g_iconst X (3 : Int32) at_5 (pc' := 6) rfl rfl ?_
 refine g_newarray X 3 (tb hw 0 rfl) at_6 (pc' := 8) rfl (by decide) (by decide) 3 (by decide) (by decide) (by decide) (by decide) (vs := [(.int (0 : Int32)), (.int (0 : Int32)), (.int (0 : Int32))]) rfl (ad := "[I") (by decide) ?_
 intro T h qv yc X Ex qj qe
 have wd : qt ≠ qv := Nat.ne_of_lt (by rw [yc]; exact qg.lt)
 have w5 : n0 ≤ qv := by rw [yc]; exact Z0
 replace qg := qg.ext Ex
 replace qd := qd.ext Ex
 replace Z0 := Nat.le_trans Z0 Ex.1
 refine g_astore X at_8 (pc' := 10) (Ls' := #[.val (.long j0), .second, .val (.long j1), .second, .val (.long j2), .second, .val (.long j3), .second, .val (.long j4), .second, .val (.long j5), .second, .val (.ref qt), .val (.ref qv), .unset, .unset, .unset, .unset, .unset]) rfl rfl rfl ?_
 refine g_aload X at_10 (pc' := 12) rfl rfl rfl ?_
 refine g_iconst X (0 : Int32) at_12 (pc' := 13) rfl rfl ?_
 refine g_lloadN X at_13 (pc' := 14) rfl rfl ?_
 refine g_static X (W := 2) [(.long j0)] [(.int (0 : Int32)), (.ref qt)] (tb hw 1 rfl) (tb hw 2 rfl) (tb hw 3 rfl) (tb hw 4 rfl) (rLo l Z aa hw [] j0 _) at_14 (pc' := 17) rfl (by decide) (by decide) (by decide) rfl rfl rfl (lenOf pd_2 rfl) (Nat.le_refl _) (by decide) (by decide) ?_
 intro v T L X q
 obtain ⟨rfl, X⟩ := pureX X q
 show Go p e below _ (T.setTop (mkF m 17 _ [(.int (fLo j0)), (.int (0 : Int32)), (.ref qt)]))
 generalize yd : (fLo j0) = qh
 refine g_iastore X qd 0 at_17 (pc' := 18) rfl (by decide) (by decide) (Nat.le_of_ble_eq_true rfl) ?_
 intro T h X W qd
 replace qd : Av Z h qt .int [(.int qh), (.int (0 : Int32)), (.int (0 : Int32))] := qd
 replace qg := qg.wr W
 replace qj := qj.wr W
 replace qe := qe.other W (Ne.symm wd)
 replace Z0 := Nat.le_trans Z0 (Nat.le_of_eq W.size.symm)
 replace N := Fr.snoc X.1 N w4
 refine g_aload X at_18 (pc' := 20) rfl rfl rfl ?_
 refine g_iconst X (0 : Int32) at_20 (pc' := 21) rfl rfl ?_
 refine g_lloadN X at_21 (pc' := 22) rfl rfl ?_
 refine g_static X (W := 2) [(.long j0)] [(.int (0 : Int32)), (.ref qv)] (tb hw 9 rfl) (tb hw 10 rfl) (tb hw 3 rfl) (tb hw 11 rfl) (rHi l Z aa hw [] j0 _) at_22 (pc' := 25) rfl (by decide) (by decide) (by decide) rfl rfl rfl (lenOf pd_2 rfl) (Nat.le_refl _) (by decide) (by decide) ?_
 intro v T L X q
 obtain ⟨rfl, X⟩ := pureX X q
 show Go p e below _ (T.setTop (mkF m 25 _ [(.int (fHi j0)), (.int (0 : Int32)), (.ref qv)]))
 generalize ye : (fHi j0) = q1
 refine g_iastore X qe 0 at_25 (pc' := 26) rfl (by decide) (by decide) (Nat.le_of_ble_eq_true rfl) ?_
 intro T h X W qe
 replace qe : Av Z h qv .int [(.int q1), (.int (0 : Int32)), (.int (0 : Int32))] := qe
 replace qg := qg.wr W
 replace qd := qd.other W wd
 replace qj := qj.wr W
 replace Z0 := Nat.le_trans Z0 (Nat.le_of_eq W.size.symm)
 replace N := Fr.snoc X.1 N w5
 refine g_aload X at_26 (pc' := 28) rfl rfl rfl ?_
 refine g_iconst X (1 : Int32) at_28 (pc' := 29) rfl rfl ?_
 refine g_lloadN X at_29 (pc' := 30) rfl rfl ?_
 refine g_static X (W := 2) [(.long j1)] [(.int (1 : Int32)), (.ref qt)] (tb hw 1 rfl) (tb hw 2 rfl) (tb hw 3 rfl) (tb hw 4 rfl) (rLo l Z aa hw [] j1 _) at_30 (pc' := 33) rfl (by decide) (by decide) (by decide) rfl rfl rfl (lenOf pd_2 rfl) (Nat.le_refl _) (by decide) (by decide) ?_
 intro v T L X q
 obtain ⟨rfl, X⟩ := pureX X q
 show Go p e below _ (T.setTop (mkF m 33 _ [(.int (fLo j1)), (.int (1 : Int32)), (.ref qt)]))
 generalize yf : (fLo j1) = qi
 refine g_iastore X qd 1 at_33 (pc' := 34) rfl (by decide) (by decide) (Nat.le_of_ble_eq_true rfl) ?_
 intro T h X W qd
 replace qd : Av Z h qt .int [(.int qh), (.int qi), (.int (0 : Int32))] := qd
 replace qg := qg.wr W
 replace qj := qj.wr W
 replace qe := qe.other W (Ne.symm wd)
 replace Z0 := Nat.le_trans Z0 (Nat.le_of_eq W.size.symm)
 replace N := Fr.snoc X.1 N w4
 refine g_aload X at_34 (pc' := 36) rfl rfl rfl ?_
 refine g_iconst X (1 : Int32) at_36 (pc' := 37) rfl rfl ?_
 refine g_lloadN X at_37 (pc' := 38) rfl rfl ?_
 refine g_static X (W := 2) [(.long j1)] [(.int (1 : Int32)), (.ref qv)] (tb hw 9 rfl) (tb hw 10 rfl) (tb hw 3 rfl) (tb hw 11 rfl) (rHi l Z aa hw [] j1 _) at_38 (pc' := 41) rfl (by decide) (by decide) (by decide) rfl rfl rfl (lenOf pd_2 rfl) (Nat.le_refl _) (by decide) (by decide) ?_
 intro v T L X q
 obtain ⟨rfl, X⟩ := pureX X q
 show Go p e below _ (T.setTop (mkF m 41 _ [(.int (fHi j1)), (.int (1 : Int32)), (.ref qv)]))
 generalize yg : (fHi j1) = jc
 refine g_iastore X qe 1 at_41 (pc' := 42) rfl (by decide) (by decide) (Nat.le_of_ble_eq_true rfl) ?_
 intro T h X W qe
 replace qe : Av Z h qv .int [(.int q1), (.int jc), (.int (0 : Int32))] := qe
 replace qg := qg.wr W
 replace qd := qd.other W wd
 replace qj := qj.wr W
 replace Z0 := Nat.le_trans Z0 (Nat.le_of_eq W.size.symm)
 replace N := Fr.snoc X.1 N w5
 refine g_aload X at_42 (pc' := 44) rfl rfl rfl ?_
 refine g_iconst X (2 : Int32) at_44 (pc' := 45) rfl rfl ?_
 refine g_lload X at_45 (pc' := 47) rfl rfl ?_
 refine g_static X (W := 2) [(.long j2)] [(.int (2 : Int32)), (.ref qt)] (tb hw 1 rfl) (tb hw 2 rfl) (tb hw 3 rfl) (tb hw 4 rfl) (rLo l Z aa hw [] j2 _) at_47 (pc' := 50) rfl (by decide) (by decide) (by decide) rfl rfl rfl (lenOf pd_2 rfl) (Nat.le_refl _) (by decide) (by decide) ?_
 intro v T L X q
 obtain ⟨rfl, X⟩ := pureX X q
 show Go p e below _ (T.setTop (mkF m 50 _ [(.int (fLo j2)), (.int (2 : Int32)), (.ref qt)]))
 generalize yh : (fLo j2) = qk
 refine g_iastore X qd 2 at_50 (pc' := 51) rfl (by decide) (by decide) (Nat.le_of_ble_eq_true rfl) ?_
 intro T h X W qd
 replace qd : Av Z h qt .int [(.int qh), (.int qi), (.int qk)] := qd
 replace qg := qg.wr W
 replace qj := qj.wr W
 replace qe := qe.other W (Ne.symm wd)
 replace Z0 := Nat.le_trans Z0 (Nat.le_of_eq W.size.symm)
 replace N := Fr.snoc X.1 N w4
 refine g_aload X at_51 (pc' := 53) rfl rfl rfl ?_
 refine g_iconst X (2 : Int32) at_53 (pc' := 54) rfl rfl ?_
 refine g_lload X at_54 (pc' := 56) rfl rfl ?_
 refine g_static X (W := 2) [(.long j2)] [(.int (2 : Int32)), (.ref qv)] (tb hw 9 rfl) (tb hw 10 rfl) (tb hw 3 rfl) (tb hw 11 rfl) (rHi l Z aa hw [] j2 _) at_56 (pc' := 59) rfl (by decide) (by decide) (by decide) rfl rfl rfl (lenOf pd_2 rfl) (Nat.le_refl _) (by decide) (by decide) ?_
 intro v T L X q
 obtain ⟨rfl, X⟩ := pureX X q
 show Go p e below _ (T.setTop (mkF m 59 _ [(.int (fHi j2)), (.int (2 : Int32)), (.ref qv)]))
 generalize yi : (fHi j2) = jh
 refine g_iastore X qe 2 at_59 (pc' := 60) rfl (by decide) (by decide) (Nat.le_of_ble_eq_true rfl) ?_
 intro T h X W qe
 replace qe : Av Z h qv .int [(.int q1), (.int jc), (.int jh)] := qe
 replace qg := qg.wr W
 replace qd := qd.other W wd
 replace qj := qj.wr W
 replace Z0 := Nat.le_trans Z0 (Nat.le_of_eq W.size.symm)
 replace N := Fr.snoc X.1 N w5
 refine g_iconst X (3 : Int32) at_60 (pc' := 61) rfl rfl ?_
 refine g_newarray X 3 (tb hw 0 rfl) at_61 (pc' := 63) rfl (by decide) (by decide) 3 (by decide) (by decide) (by decide) (by decide) (vs := [(.int (0 : Int32)), (.int (0 : Int32)), (.int (0 : Int32))]) rfl (ad := "[I") (by decide) ?_
 intro T h ql w6 X Ex qo qa
 have w7 : qt ≠ ql := Nat.ne_of_lt (by rw [w6]; exact qg.lt)
 have w8 : qv ≠ ql := Nat.ne_of_lt (by rw [w6]; exact qj.lt)
 have w9 : n0 ≤ ql := by rw [w6]; exact Z0
 replace qg := qg.ext Ex
 replace qd := qd.ext Ex
 replace qj := qj.ext Ex
 replace qe := qe.ext Ex
 replace Z0 := Nat.le_trans Z0 Ex.1
 refine g_astore X at_63 (pc' := 65) (Ls' := #[.val (.long j0), .second, .val (.long j1), .second, .val (.long j2), .second, .val (.long j3), .second, .val (.long j4), .second, .val (.long j5), .second, .val (.ref qt), .val (.ref qv), .val (.ref ql), .unset, .unset, .unset, .unset]) rfl rfl rfl ?_
 refine g_aload X at_65 (pc' := 67) rfl rfl rfl ?_
 refine g_iconst X (0 : Int32) at_67 (pc' := 68) rfl rfl ?_
 refine g_aload X at_68 (pc' := 70) rfl rfl rfl ?_
 refine g_iconst X (0 : Int32) at_70 (pc' := 71) rfl rfl ?_
 refine g_iaload X qd 0 at_71 (pc' := 72) rfl (by decide) (by decide) rfl ?_
 refine g_aload X at_72 (pc' := 74) rfl rfl rfl ?_
 refine g_iconst X (0 : Int32) at_74 (pc' := 75) rfl rfl ?_
 refine g_iaload X qe 0 at_75 (pc' := 76) rfl (by decide) (by decide) rfl ?_
 refine g_lload X at_76 (pc' := 78) rfl rfl ?_
 refine g_bipush X (32 : Int32) at_78 (pc' := 80) rfl rfl ?_
 refine g_lushr X at_80 (pc' := 81) rfl ?_
 refine g_static X (W := 2) [(.int qh), (.int q1), (.long ((j3.toUInt64 >>> ((32 : Int32) &&& 0x3f).toInt64.toUInt64).toInt64))] [(.int (0 : Int32)), (.ref ql)] (tb hw 15 rfl) (tb hw 16 rfl) (tb hw 3 rfl) (tb hw 17 rfl) (rPick l Z aa hw [] qh q1 ((j3.toUInt64 >>> ((32 : Int32) &&& 0x3f).toInt64.toUInt64).toInt64) _ (by rw [← ye, ← yd]; exact (one_more (lohi _)).2)) at_81 (pc' := 84) rfl (by decide) (by decide) (by decide) rfl rfl rfl (lenOf pd_3 rfl) (Nat.le_refl _) (by decide) (by decide) ?_
 intro v T L X q
 obtain ⟨rfl, X⟩ := pureX X q
 show Go p e below _ (T.setTop (mkF m 84 _ [(.int (fPick qh q1 ((j3.toUInt64 >>> ((32 : Int32) &&& 0x3f).toInt64.toUInt64).toInt64))), (.int (0 : Int32)), (.ref ql)]))
 generalize yt : (fPick qh q1 ((j3.toUInt64 >>> ((32 : Int32) &&& 0x3f).toInt64.toUInt64).toInt64)) = qr
 refine g_iastore X qa 0 at_84 (pc' := 85) rfl (by decide) (by decide) (Nat.le_of_ble_eq_true rfl) ?_
 intro T h X W qa
 replace qa : Av Z h ql .int [(.int qr), (.int (0 : Int32)), (.int (0 : Int32))] := qa
 replace qg := qg.wr W
 replace qd := qd.other W w7
 replace qj := qj.wr W
 replace qe := qe.other W w8
 replace qo := qo.wr W
 replace Z0 := Nat.le_trans Z0 (Nat.le_of_eq W.size.symm)
 replace N := Fr.snoc X.1 N w9
 refine g_aload X at_85 (pc' := 87) rfl rfl rfl ?_
 refine g_iconst X (1 : Int32) at_87 (pc' := 88) rfl rfl ?_
 refine g_aload X at_88 (pc' := 90) rfl rfl rfl ?_
 refine g_iconst X (1 : Int32) at_90 (pc' := 91) rfl rfl ?_
 refine g_iaload X qd 1 at_91 (pc' := 92) rfl (by decide) (by decide) rfl ?_
 refine g_aload X at_92 (pc' := 94) rfl rfl rfl ?_
 refine g_iconst X (1 : Int32) at_94 (pc' := 95) rfl rfl ?_
 refine g_iaload X qe 1 at_95 (pc' := 96) rfl (by decide) (by decide) rfl ?_
 refine g_lload X at_96 (pc' := 98) rfl rfl ?_
 refine g_ldc2 X (tb hw 18 rfl) at_98 (pc' := 101) rfl ?_
 refine g_land X at_101 (pc' := 102) rfl ?_
 refine g_static X (W := 2) [(.int qi), (.int jc), (.long (j3 &&& (4294967295 : Int64)))] [(.int (1 : Int32)), (.ref ql)] (tb hw 15 rfl) (tb hw 16 rfl) (tb hw 3 rfl) (tb hw 17 rfl) (rPick l Z aa hw [] qi jc (j3 &&& (4294967295 : Int64)) _ (by rw [← yg, ← yf]; exact (one_more (lohi _)).2)) at_102 (pc' := 105) rfl (by decide) (by decide) (by decide) rfl rfl rfl (lenOf pd_3 rfl) (Nat.le_refl _) (by decide) (by decide) ?_
 intro v T L X q
 obtain ⟨rfl, X⟩ := pureX X q
 show Go p e below _ (T.setTop (mkF m 105 _ [(.int (fPick qi jc (j3 &&& (4294967295 : Int64)))), (.int (1 : Int32)), (.ref ql)]))
 generalize yu : (fPick qi jc (j3 &&& (4294967295 : Int64))) = qs
 refine g_iastore X qa 1 at_105 (pc' := 106) rfl (by decide) (by decide) (Nat.le_of_ble_eq_true rfl) ?_
 intro T h X W qa
 replace qa : Av Z h ql .int [(.int qr), (.int qs), (.int (0 : Int32))] := qa
 replace qg := qg.wr W
 replace qd := qd.other W w7
 replace qj := qj.wr W
 replace qe := qe.other W w8
 replace qo := qo.wr W
 replace Z0 := Nat.le_trans Z0 (Nat.le_of_eq W.size.symm)
 replace N := Fr.snoc X.1 N w9
 refine g_aload X at_106 (pc' := 108) rfl rfl rfl ?_
 refine g_iconst X (2 : Int32) at_108 (pc' := 109) rfl rfl ?_
 refine g_aload X at_109 (pc' := 111) rfl rfl rfl ?_
 refine g_iconst X (2 : Int32) at_111 (pc' := 112) rfl rfl ?_
 refine g_iaload X qd 2 at_112 (pc' := 113) rfl (by decide) (by decide) rfl ?_
 refine g_aload X at_113 (pc' := 115) rfl rfl rfl ?_
 refine g_iconst X (2 : Int32) at_115 (pc' := 116) rfl rfl ?_
 refine g_iaload X qe 2 at_116 (pc' := 117) rfl (by decide) (by decide) rfl ?_
 refine g_lload X at_117 (pc' := 119) rfl rfl ?_
 refine g_bipush X (32 : Int32) at_119 (pc' := 121) rfl rfl ?_
 refine g_lushr X at_121 (pc' := 122) rfl ?_
 refine g_static X (W := 2) [(.int qk), (.int jh), (.long ((j4.toUInt64 >>> ((32 : Int32) &&& 0x3f).toInt64.toUInt64).toInt64))] [(.int (2 : Int32)), (.ref ql)] (tb hw 15 rfl) (tb hw 16 rfl) (tb hw 3 rfl) (tb hw 17 rfl) (rPick l Z aa hw [] qk jh ((j4.toUInt64 >>> ((32 : Int32) &&& 0x3f).toInt64.toUInt64).toInt64) _ (by rw [← yi, ← yh]; exact (one_more (lohi _)).2)) at_122 (pc' := 125) rfl (by decide) (by decide) (by decide) rfl rfl rfl (lenOf pd_3 rfl) (Nat.le_refl _) (by decide) (by decide) ?_
 intro v T L X q
 obtain ⟨rfl, X⟩ := pureX X q
 show Go p e below _ (T.setTop (mkF m 125 _ [(.int (fPick qk jh ((j4.toUInt64 >>> ((32 : Int32) &&& 0x3f).toInt64.toUInt64).toInt64))), (.int (2 : Int32)), (.ref ql)]))
 generalize yv : (fPick qk jh ((j4.toUInt64 >>> ((32 : Int32) &&& 0x3f).toInt64.toUInt64).toInt64)) = qu
 refine g_iastore X qa 2 at_125 (pc' := 126) rfl (by decide) (by decide) (Nat.le_of_ble_eq_true rfl) ?_
 intro T h X W qa
 replace qa : Av Z h ql .int [(.int qr), (.int qs), (.int qu)] := qa
 replace qg := qg.wr W
 replace qd := qd.other W w7
 replace qj := qj.wr W
 replace qe := qe.other W w8
 replace qo := qo.wr W
 replace Z0 := Nat.le_trans Z0 (Nat.le_of_eq W.size.symm)
 replace N := Fr.snoc X.1 N w9
 refine g_lload X at_126 (pc' := 128) rfl rfl ?_
 refine g_ldc2 X (tb hw 19 rfl) at_128 (pc' := 131) rfl ?_
 refine g_land X at_131 (pc' := 132) rfl ?_
 refine g_l2i X at_132 (pc' := 133) rfl ?_
 generalize yj : ((j4 &&& (3 : Int64)).toInt32) = jp
 refine g_istore X at_133 (pc' := 135) (Ls' := #[.val (.long j0), .second, .val (.long j1), .second, .val (.long j2), .second, .val (.long j3), .second, .val (.long j4), .second, .val (.long j5), .second, .val (.ref qt), .val (.ref qv), .val (.ref ql), .val (.int jp), .unset, .unset, .unset]) rfl rfl ?_
 refine g_bipush X (6 : Int32) at_135 (pc' := 137) rfl rfl ?_
 refine g_newarray X 6 (tb hw 20 rfl) at_137 (pc' := 139) rfl (by decide) (by decide) 6 (by decide) (by decide) (by decide) (by decide) (vs := [(.long (0 : Int64)), (.long (0 : Int64)), (.long (0 : Int64)), (.long (0 : Int64)), (.long (0 : Int64)), (.long (0 : Int64))]) rfl (ad := "[J") (by decide) ?_
 intro T h qf wt X Ex qn qc
 have we : qt ≠ qf := Nat.ne_of_lt (by rw [wt]; exact qg.lt)
 have wf : qv ≠ qf := Nat.ne_of_lt (by rw [wt]; exact qj.lt)
 have qy : ql ≠ qf := Nat.ne_of_lt (by rw [wt]; exact qo.lt)
 have jm : n0 ≤ qf := by rw [wt]; exact Z0
 replace qg := qg.ext Ex
 replace qd := qd.ext Ex
 replace qj := qj.ext Ex
 replace qe := qe.ext Ex
 replace qo := qo.ext Ex
 replace qa := qa.ext Ex
 replace Z0 := Nat.le_trans Z0 Ex.1
 refine g_astore X at_139 (pc' := 141) (Ls' := #[.val (.long j0), .second, .val (.long j1), .second, .val (.long j2), .second, .val (.long j3), .second, .val (.long j4), .second, .val (.long j5), .second, .val (.ref qt), .val (.ref qv), .val (.ref ql), .val (.int jp), .val (.ref qf), .unset, .unset]) rfl rfl rfl ?_
 refine g_aload X at_141 (pc' := 143) rfl rfl rfl ?_
 refine g_iconst X (0 : Int32) at_143 (pc' := 144) rfl rfl ?_
 refine g_lload X at_144 (pc' := 146) rfl rfl ?_
 refine g_lastore X qc 0 at_146 (pc' := 147) rfl (by decide) (by decide) (Nat.le_of_ble_eq_true rfl) ?_
 intro T h X W qc
 replace qc : Av Z h qf .long [(.long j5), (.long (0 : Int64)), (.long (0 : Int64)), (.long (0 : Int64)), (.long (0 : Int64)), (.long (0 : Int64))] := qc
 replace qg := qg.wr W
 replace qd := qd.other W we
 replace qj := qj.wr W
 replace qe := qe.other W wf
 replace qo := qo.wr W
 replace qa := qa.other W qy
 replace qn := qn.wr W
 replace Z0 := Nat.le_trans Z0 (Nat.le_of_eq W.size.symm)
 replace N := Fr.snoc X.1 N jm
 refine g_aload X at_147 (pc' := 149) rfl rfl rfl ?_
 refine g_iconst X (1 : Int32) at_149 (pc' := 150) rfl rfl ?_
 refine g_lload X at_150 (pc' := 152) rfl rfl ?_
 refine g_lastore X qc 1 at_152 (pc' := 153) rfl (by decide) (by decide) (Nat.le_of_ble_eq_true rfl) ?_
 intro T h X W qc
 replace qc : Av Z h qf .long [(.long j5), (.long j5), (.long (0 : Int64)), (.long (0 : Int64)), (.long (0 : Int64)), (.long (0 : Int64))] := qc
 replace qg := qg.wr W
 replace qd := qd.other W we
 replace qj := qj.wr W
 replace qe := qe.other W wf
 replace qo := qo.wr W
 replace qa := qa.other W qy
 replace qn := qn.wr W
 replace Z0 := Nat.le_trans Z0 (Nat.le_of_eq W.size.symm)
 replace N := Fr.snoc X.1 N jm
 refine g_aload X at_153 (pc' := 155) rfl rfl rfl ?_
 refine g_iconst X (2 : Int32) at_155 (pc' := 156) rfl rfl ?_
 refine g_lload X at_156 (pc' := 158) rfl rfl ?_
 refine g_lastore X qc 2 at_158 (pc' := 159) rfl (by decide) (by decide) (Nat.le_of_ble_eq_true rfl) ?_
 intro T h X W qc
 replace qc : Av Z h qf .long [(.long j5), (.long j5), (.long j5), (.long (0 : Int64)), (.long (0 : Int64)), (.long (0 : Int64))] := qc
 replace qg := qg.wr W
 replace qd := qd.other W we
 replace qj := qj.wr W
 replace qe := qe.other W wf
 replace qo := qo.wr W
 replace qa := qa.other W qy
 replace qn := qn.wr W
 replace Z0 := Nat.le_trans Z0 (Nat.le_of_eq W.size.symm)
 replace N := Fr.snoc X.1 N jm
 refine g_aload X at_159 (pc' := 161) rfl rfl rfl ?_
 refine g_iconst X (3 : Int32) at_161 (pc' := 162) rfl rfl ?_
 refine g_lload X at_162 (pc' := 164) rfl rfl ?_
 refine g_lastore X qc 3 at_164 (pc' := 165) rfl (by decide) (by decide) (Nat.le_of_ble_eq_true rfl) ?_
 intro T h X W qc
 replace qc : Av Z h qf .long [(.long j5), (.long j5), (.long j5), (.long j5), (.long (0 : Int64)), (.long (0 : Int64))] := qc
 replace qg := qg.wr W
 replace qd := qd.other W we
 replace qj := qj.wr W
 replace qe := qe.other W wf
 replace qo := qo.wr W
 replace qa := qa.other W qy
 replace qn := qn.wr W
 replace Z0 := Nat.le_trans Z0 (Nat.le_of_eq W.size.symm)
 replace N := Fr.snoc X.1 N jm
 refine g_aload X at_165 (pc' := 167) rfl rfl rfl ?_
 refine g_iconst X (4 : Int32) at_167 (pc' := 168) rfl rfl ?_
 refine g_lload X at_168 (pc' := 170) rfl rfl ?_
 refine g_lastore X qc 4 at_170 (pc' := 171) rfl (by decide) (by decide) (Nat.le_of_ble_eq_true rfl) ?_
 intro T h X W qc
 replace qc : Av Z h qf .long [(.long j5), (.long j5), (.long j5), (.long j5), (.long j5), (.long (0 : Int64))] := qc
 replace qg := qg.wr W
 replace qd := qd.other W we
 replace qj := qj.wr W
 replace qe := qe.other W wf
 replace qo := qo.wr W
 replace qa := qa.other W qy
 replace qn := qn.wr W
 replace Z0 := Nat.le_trans Z0 (Nat.le_of_eq W.size.symm)
 replace N := Fr.snoc X.1 N jm
 refine g_aload X at_171 (pc' := 173) rfl rfl rfl ?_
 refine g_iconst X (5 : Int32) at_173 (pc' := 174) rfl rfl ?_
 refine g_lload X at_174 (pc' := 176) rfl rfl ?_
 refine g_lastore X qc 5 at_176 (pc' := 177) rfl (by decide) (by decide) (Nat.le_of_ble_eq_true rfl) ?_
 intro T h X W qc
 replace qc : Av Z h qf .long [(.long j5), (.long j5), (.long j5), (.long j5), (.long j5), (.long j5)] := qc
 replace qg := qg.wr W
 replace qd := qd.other W we
 replace qj := qj.wr W
 replace qe := qe.other W wf
 replace qo := qo.wr W
 replace qa := qa.other W qy
 replace qn := qn.wr W
 replace Z0 := Nat.le_trans Z0 (Nat.le_of_eq W.size.symm)
 replace N := Fr.snoc X.1 N jm
 refine g_iconst X (3 : Int32) at_177 (pc' := 178) rfl rfl ?_
 refine g_newarray X 3 (tb hw 0 rfl) at_178 (pc' := 180) rfl (by decide) (by decide) 3 (by decide) (by decide) (by decide) (by decide) (vs := [(.int (0 : Int32)), (.int (0 : Int32)), (.int (0 : Int32))]) rfl (ad := "[I") (by decide) ?_
 intro T h qm wm X Ex q2 qb
 have ya : qt ≠ qm := Nat.ne_of_lt (by rw [wm]; exact qg.lt)
 have yb : qv ≠ qm := Nat.ne_of_lt (by rw [wm]; exact qj.lt)
 have jq : ql ≠ qm := Nat.ne_of_lt (by rw [wm]; exact qo.lt)
 have q3 : qf ≠ qm := Nat.ne_of_lt (by rw [wm]; exact qn.lt)
 have jr : n0 ≤ qm := by rw [wm]; exact Z0
 replace qg := qg.ext Ex
 replace qd := qd.ext Ex
 replace qj := qj.ext Ex
 replace qe := qe.ext Ex
 replace qo := qo.ext Ex
 replace qa := qa.ext Ex
 replace qn := qn.ext Ex
 replace qc := qc.ext Ex
 replace Z0 := Nat.le_trans Z0 Ex.1
 refine g_astore X at_180 (pc' := 182) (Ls' := #[.val (.long j0), .second, .val (.long j1), .second, .val (.long j2), .second, .val (.long j3), .second, .val (.long j4), .second, .val (.long j5), .second, .val (.ref qt), .val (.ref qv), .val (.ref ql), .val (.int jp), .val (.ref qf), .val (.ref qm), .unset]) rfl rfl rfl ?_
 refine g_aload X at_182 (pc' := 184) rfl rfl rfl ?_
 refine g_iconst X (0 : Int32) at_184 (pc' := 185) rfl rfl ?_
 refine g_aload X at_185 (pc' := 187) rfl rfl rfl ?_
 refine g_iconst X (0 : Int32) at_187 (pc' := 188) rfl rfl ?_
 refine g_iaload X qa 0 at_188 (pc' := 189) rfl (by decide) (by decide) rfl ?_
 refine g_iconst X (-1 : Int32) at_189 (pc' := 190) rfl rfl ?_
 refine g_ixor X at_190 (pc' := 191) rfl ?_
 generalize zg : (qr ^^^ (-1 : Int32)) = js
 refine g_iastore X qb 0 at_191 (pc' := 192) rfl (by decide) (by decide) (Nat.le_of_ble_eq_true rfl) ?_
 intro T h X W qb
 replace qb : Av Z h qm .int [(.int js), (.int (0 : Int32)), (.int (0 : Int32))] := qb
 replace qg := qg.wr W
 replace qd := qd.other W ya
 replace qj := qj.wr W
 replace qe := qe.other W yb
 replace qo := qo.wr W
 replace qa := qa.other W jq
 replace qn := qn.wr W
 replace qc := qc.other W q3
 replace q2 := q2.wr W
 replace Z0 := Nat.le_trans Z0 (Nat.le_of_eq W.size.symm)
 replace N := Fr.snoc X.1 N jr
 refine g_aload X at_192 (pc' := 194) rfl rfl rfl ?_
 refine g_iconst X (1 : Int32) at_194 (pc' := 195) rfl rfl ?_
 refine g_aload X at_195 (pc' := 197) rfl rfl rfl ?_
 refine g_iconst X (1 : Int32) at_197 (pc' := 198) rfl rfl ?_
 refine g_iaload X qa 1 at_198 (pc' := 199) rfl (by decide) (by decide) rfl ?_
 refine g_iconst X (-1 : Int32) at_199 (pc' := 200) rfl rfl ?_
 refine g_ixor X at_200 (pc' := 201) rfl ?_
 generalize zh : (qs ^^^ (-1 : Int32)) = jt
 refine g_iastore X qb 1 at_201 (pc' := 202) rfl (by decide) (by decide) (Nat.le_of_ble_eq_true rfl) ?_
 intro T h X W qb
 replace qb : Av Z h qm .int [(.int js), (.int jt), (.int (0 : Int32))] := qb
 replace qg := qg.wr W
 replace qd := qd.other W ya
 replace qj := qj.wr W
 replace qe := qe.other W yb
 replace qo := qo.wr W
 replace qa := qa.other W jq
 replace qn := qn.wr W
 replace qc := qc.other W q3
 replace q2 := q2.wr W
 replace Z0 := Nat.le_trans Z0 (Nat.le_of_eq W.size.symm)
 replace N := Fr.snoc X.1 N jr
 refine g_aload X at_202 (pc' := 204) rfl rfl rfl ?_
 refine g_iconst X (2 : Int32) at_204 (pc' := 205) rfl rfl ?_
 refine g_aload X at_205 (pc' := 207) rfl rfl rfl ?_
 refine g_iconst X (2 : Int32) at_207 (pc' := 208) rfl rfl ?_
 refine g_iaload X qa 2 at_208 (pc' := 209) rfl (by decide) (by decide) rfl ?_
 refine g_iconst X (-1 : Int32) at_209 (pc' := 210) rfl rfl ?_
 refine g_ixor X at_210 (pc' := 211) rfl ?_
 generalize zi : (qu ^^^ (-1 : Int32)) = j6
 refine g_iastore X qb 2 at_211 (pc' := 212) rfl (by decide) (by decide) (Nat.le_of_ble_eq_true rfl) ?_
 intro T h X W qb
 replace qb : Av Z h qm .int [(.int js), (.int jt), (.int j6)] := qb
 replace qg := qg.wr W
 replace qd := qd.other W ya
 replace qj := qj.wr W
 replace qe := qe.other W yb
 replace qo := qo.wr W
 replace qa := qa.other W jq
 replace qn := qn.wr W
 replace qc := qc.other W q3
 replace q2 := q2.wr W
 replace Z0 := Nat.le_trans Z0 (Nat.le_of_eq W.size.symm)
 replace N := Fr.snoc X.1 N jr
 have le0 : qh.toInt ≤ q1.toInt := by rw [← ye, ← yd]; exact lohi _
 obtain ⟨B0, b0, c0, s0⟩ := bt_bound qh q1 le0
 have in0 : qh.toInt ≤ qr.toInt ∧ qr.toInt ≤ q1.toInt := by rw [← yt]; exact pick_in le0 (up32 _)
 have dn0 := d_nat in0.1 in0.2 s0
 have le1 : qi.toInt ≤ jc.toInt := by rw [← yg, ← yf]; exact lohi _
 obtain ⟨B1, b1, c1, s1⟩ := bt_bound qi jc le1
 have in1 : qi.toInt ≤ qs.toInt ∧ qs.toInt ≤ jc.toInt := by rw [← yu]; exact pick_in le1 (low32 _)
 have dn1 := d_nat in1.1 in1.2 s1
 have le2 : qk.toInt ≤ jh.toInt := by rw [← yi, ← yh]; exact lohi _
 obtain ⟨B2, b2, c2, s2⟩ := bt_bound qk jh le2
 have in2 : qk.toInt ≤ qu.toInt ∧ qu.toInt ≤ jh.toInt := by rw [← yv]; exact pick_in le2 (up32 _)
 have dn2 := d_nat in2.1 in2.2 s2
 have n64 : (64 : Int32).toInt = (64 : Nat) := rfl
 have t0 := sub32 n64 b0 (by omega) (by omega)
 have t1 := sub32 t0 b1 (by omega) (by omega)
 by_cases hl : ((64 : Int32) - bt qh q1 - bt qi jc) < bt qk jh
 have u2 := sub32 n64 b2 (by omega) (by omega)
 refine g_new X (tb hw 21 rfl) (tb hw 22 rfl) (tb hw 23 rfl) at_212 (pc' := 215) rfl (by decide) (by decide) ?_
 intro T h qp wg X Ex qw wn
 have yw : qt ≠ qp := Nat.ne_of_lt (by rw [wg]; exact qg.lt)
 have yx : qv ≠ qp := Nat.ne_of_lt (by rw [wg]; exact qj.lt)
 have yy : ql ≠ qp := Nat.ne_of_lt (by rw [wg]; exact qo.lt)
 have qz : qf ≠ qp := Nat.ne_of_lt (by rw [wg]; exact qn.lt)
 have wo : qm ≠ qp := Nat.ne_of_lt (by rw [wg]; exact q2.lt)
 have yz : n0 ≤ qp := by rw [wg]; exact Z0
 replace qg := qg.ext Ex
 replace qd := qd.ext Ex
 replace qe := qe.ext Ex
 replace qa := qa.ext Ex
 replace qn := qn.ext Ex
 replace qc := qc.ext Ex
 replace q2 := q2.ext Ex
 replace qb := qb.ext Ex
 replace Z0 := Nat.le_trans Z0 Ex.1
 have q6 : Fld Z h qp "com/example/ryazan/ryazan/language/Layout" "low" "[I" .null := wn (Or.inr (tb hw 40 rfl)) (ty := (.array .int)) (by decide)
 have q7 : Fld Z h qp "com/example/ryazan/ryazan/language/Layout" "word" "[I" .null := wn (Or.inr (tb hw 42 rfl)) (ty := (.array .int)) (by decide)
 have q8 : Fld Z h qp "com/example/ryazan/ryazan/language/Layout" "shift" "[I" .null := wn (Or.inr (tb hw 44 rfl)) (ty := (.array .int)) (by decide)
 have jn : Fld Z h qp "com/example/ryazan/ryazan/language/Layout" "mask" "[J" .null := wn (Or.inr (tb hw 46 rfl)) (ty := (.array .long)) (by decide)
 have wh : Fld Z h qp "com/example/ryazan/ryazan/language/Layout" "width" "I" (.int (0 : Int32)) := wn (Or.inr (tb hw 57 rfl)) (ty := .int) (by decide)
 refine g_dup X at_215 (pc' := 216) rfl rfl ?_
 refine g_aload X at_216 (pc' := 218) rfl rfl rfl ?_
 refine g_aload X at_218 (pc' := 220) rfl rfl rfl ?_
 refine g_special X (W := 1) (a := qp) [(.ref qt), (.ref qv)] [(.ref qp)] rfl (tb hw 24 rfl) (tb hw 25 rfl) (tb hw 23 rfl) (tb hw 26 rfl) (rInit1 l Z aa hw [] qp qt qv qh qi qk q1 jc jh _ n0 Z0 qw q6 q7 q8 jn wh qg qd qe yz yw yx (not_of_le n64 b0 (by omega)) (not_of_le t0 b1 (by omega)) hl) at_220 (pc' := 223) rfl (by decide) (by decide) (by decide) rfl rfl rfl (lenOf pd_4 rfl) (Nat.le_refl _) (by decide) (by decide) ?_
 intro v T L X q
 obtain ⟨ju, jv, jw, wi, rfl, Nq, Kq, yk, zj, yl, zk, ym, zl, yn, zm, zn, zo, zp, zq, zr, zs, y0, y1, y2, y3, y4, y5, zt, jd, zu, je, zv, q4, zw, ji⟩ := q
 have j7 : qf ≠ ju := Nat.ne_of_lt (Nat.lt_of_lt_of_le qn.lt yk)
 have wu : qm ≠ ju := Nat.ne_of_lt (Nat.lt_of_lt_of_le q2.lt yk)
 have j8 : qf ≠ jv := Nat.ne_of_lt (Nat.lt_of_lt_of_le qn.lt yl)
 have wv : qm ≠ jv := Nat.ne_of_lt (Nat.lt_of_lt_of_le q2.lt yl)
 have j9 : qf ≠ jw := Nat.ne_of_lt (Nat.lt_of_lt_of_le qn.lt ym)
 have ww : qm ≠ jw := Nat.ne_of_lt (Nat.lt_of_lt_of_le q2.lt ym)
 have wx : qf ≠ wi := Nat.ne_of_lt (Nat.lt_of_lt_of_le qn.lt yn)
 have wy : qm ≠ wi := Nat.ne_of_lt (Nat.lt_of_lt_of_le q2.lt yn)
 replace N := N.app Nq
 replace qa := qa.keep Kq (ninS yy nin0)
 replace qc := qc.keep Kq (ninS qz nin0)
 replace qb := qb.keep Kq (ninS wo nin0)
 replace Z0 := Nat.le_trans Z0 Kq.1
 replace qw := y0
 replace q6 := y1
 replace q7 := y2
 replace q8 := y3
 replace jn := y4
 replace wh := y5
 generalize ex24 : ((64 : Int32) - ((64 : Int32) - (fNL ((jh.toInt64) - (qk.toInt64))))) = x24 at q4
 generalize ex25 : (((64 : Int32) - ((64 : Int32) - (fNL ((q1.toInt64) - (qh.toInt64))))) - ((64 : Int32) - (fNL ((jc.toInt64) - (qi.toInt64))))) = x25 at q4
 generalize ex26 : ((64 : Int32) - ((64 : Int32) - (fNL ((q1.toInt64) - (qh.toInt64))))) = x26 at q4
 generalize ex27 : (((1 : Int64) <<< (((64 : Int32) - (fNL ((jh.toInt64) - (qk.toInt64)))) &&& 0x3f).toInt64) - (1 : Int64)) = x27 at ji
 generalize ex28 : (((1 : Int64) <<< (((64 : Int32) - (fNL ((jc.toInt64) - (qi.toInt64)))) &&& 0x3f).toInt64) - (1 : Int64)) = x28 at ji
 generalize ex29 : (((1 : Int64) <<< (((64 : Int32) - (fNL ((q1.toInt64) - (qh.toInt64)))) &&& 0x3f).toInt64) - (1 : Int64)) = x29 at ji
 show Go p e below _ (T.setTop (mkF m 223 _ [(.ref qp)]))
 refine g_astore X at_223 (pc' := 225) (Ls' := #[.val (.long j0), .second, .val (.long j1), .second, .val (.long j2), .second, .val (.long j3), .second, .val (.long j4), .second, .val (.long j5), .second, .val (.ref qt), .val (.ref qv), .val (.ref ql), .val (.int jp), .val (.ref qf), .val (.ref qm), .val (.ref qp)]) rfl rfl rfl ?_
 rcases (off4 yj : jp = (0 : Int32) ∨ jp = (1 : Int32) ∨ jp = (2 : Int32) ∨ jp = (3 : Int32)) with hs | hs | hs | hs
 subst hs
 show Go p e below _ (T.setTop (mkF m 225 _ []))
 refine g_aload X at_225 (pc' := 227) rfl rfl rfl ?_
 refine g_aload X at_227 (pc' := 229) rfl rfl rfl ?_
 refine g_aload X at_229 (pc' := 231) rfl rfl rfl ?_
 refine g_iload X at_231 (pc' := 233) rfl rfl ?_
 refine g_virtual X (W := 0) (a := qp) (C := "com/example/ryazan/ryazan/language/Layout") [(.ref ql), (.ref qf), (.int (0 : Int32))] [] qw (tb hw 58 rfl) (tb hw 59 rfl) (tb hw 61 rfl) (tb hw 60 rfl) (tb hw 23 rfl) (tb hw 62 rfl) (rPk10 l Z aa hw [] qp ql qf ju jv jw qh qi qk x26 x25 x24 qr qs qu j5 j5 j5 j5 j5 j5 _ n0 Z0 qw q6 q7 q8 wh jd je q4 qa qc jm (Ne.symm qz) (Ne.symm j7) (Ne.symm j8) (Ne.symm j9) qy) at_233 (pc' := 236) rfl (by decide) (by decide) (by decide) rfl rfl rfl (lenOf pd_5 rfl) (Nat.le_refl _) (by decide) (by decide) ?_
 intro v T L X q
 obtain ⟨rfl, Nq, Kq, jj⟩ := q
 replace N := N.app Nq
 replace qa := qa.keep Kq (ninS qy nin0)
 replace qb := qb.keep Kq (ninS (Ne.symm q3) nin0)
 replace qw := qw.keep Kq
 replace q6 := q6.keep Kq (ninS (Ne.symm qz) nin0)
 replace q7 := q7.keep Kq (ninS (Ne.symm qz) nin0)
 replace q8 := q8.keep Kq (ninS (Ne.symm qz) nin0)
 replace jn := jn.keep Kq (ninS (Ne.symm qz) nin0)
 replace jd := jd.keep Kq (ninS (Ne.symm j7) nin0)
 replace je := je.keep Kq (ninS (Ne.symm j8) nin0)
 replace q4 := q4.keep Kq (ninS (Ne.symm j9) nin0)
 replace ji := ji.keep Kq (ninS (Ne.symm wx) nin0)
 replace Z0 := Nat.le_trans Z0 Kq.1
 replace qc := jj
 generalize ex30 : ((0 : Int64) ||| (((qu.toInt64) - (qk.toInt64)) <<< (x24 &&& 0x3f).toInt64)) = x30 at qc
 generalize ex31 : (((0 : Int64) ||| (((qr.toInt64) - (qh.toInt64)) <<< (x26 &&& 0x3f).toInt64)) ||| (((qs.toInt64) - (qi.toInt64)) <<< (x25 &&& 0x3f).toInt64)) = x31 at qc
 show Go p e below _ (T.setTop (mkF m 236 _ []))
 refine g_aload X at_236 (pc' := 238) rfl rfl rfl ?_
 refine g_aload X at_238 (pc' := 240) rfl rfl rfl ?_
 refine g_iload X at_240 (pc' := 242) rfl rfl ?_
 refine g_aload X at_242 (pc' := 244) rfl rfl rfl ?_
 refine g_virtual X (W := 0) (a := qp) (C := "com/example/ryazan/ryazan/language/Layout") [(.ref qf), (.int (0 : Int32)), (.ref qm)] [] qw (tb hw 63 rfl) (tb hw 64 rfl) (tb hw 66 rfl) (tb hw 65 rfl) (tb hw 23 rfl) (tb hw 67 rfl) (rUp10 l Z aa hw [] qp qf qm ju jv jw wi qh qi qk x26 x25 x24 x29 x28 x27 x31 x30 j5 j5 j5 j5 js jt j6 _ n0 Z0 qw q6 q7 q8 jn jd je q4 ji qc qb jr (Ne.symm wo) (Ne.symm wu) (Ne.symm wv) (Ne.symm ww) (Ne.symm wy) q3) at_244 (pc' := 247) rfl (by decide) (by decide) (by decide) rfl rfl rfl (lenOf pd_6 rfl) (Nat.le_refl _) (by decide) (by decide) ?_
 intro v T L X q
 obtain ⟨rfl, Nq, Kq, jk⟩ := q
 replace N := N.app Nq
 replace qa := qa.keep Kq (ninS jq nin0)
 replace Z0 := Nat.le_trans Z0 Kq.1
 replace qb := jk
 generalize ex32 : (((((x30.toUInt64 >>> (x24 &&& 0x3f).toInt64.toUInt64).toInt64) &&& x27).toInt32) + qk) = x32 at qb
 generalize ex33 : (((((x31.toUInt64 >>> (x25 &&& 0x3f).toInt64.toUInt64).toInt64) &&& x28).toInt32) + qi) = x33 at qb
 generalize ex34 : (((((x31.toUInt64 >>> (x26 &&& 0x3f).toInt64.toUInt64).toInt64) &&& x29).toInt32) + qh) = x34 at qb
 show Go p e below _ (T.setTop (mkF m 247 _ []))
 refine g_aload X at_247 (pc' := 249) rfl rfl rfl ?_
 refine g_iconst X (0 : Int32) at_249 (pc' := 250) rfl rfl ?_
 refine g_iaload X qb 0 at_250 (pc' := 251) rfl (by decide) (by decide) rfl ?_
 refine g_aload X at_251 (pc' := 253) rfl rfl rfl ?_
 refine g_iconst X (0 : Int32) at_253 (pc' := 254) rfl rfl ?_
 refine g_iaload X qa 0 at_254 (pc' := 255) rfl (by decide) (by decide) rfl ?_
 refine g_icN X at_255 (teq (show x34 = qr from (by rw [← ex34, ← ex31, ← ex29, ← ex26, ← ex25]; exact got t0 b0 (by omega) c0 dn0 (two t0 t1 (by omega) (by omega) dn0 dn1).1))).2 (pc' := 258) rfl ?_
 refine g_aload X at_258 (pc' := 260) rfl rfl rfl ?_
 refine g_iconst X (1 : Int32) at_260 (pc' := 261) rfl rfl ?_
 refine g_iaload X qb 1 at_261 (pc' := 262) rfl (by decide) (by decide) rfl ?_
 refine g_aload X at_262 (pc' := 264) rfl rfl rfl ?_
 refine g_iconst X (1 : Int32) at_264 (pc' := 265) rfl rfl ?_
 refine g_iaload X qa 1 at_265 (pc' := 266) rfl (by decide) (by decide) rfl ?_
 refine g_icN X at_266 (teq (show x33 = qs from (by rw [← ex33, ← ex31, ← ex28, ← ex26, ← ex25]; exact got t1 b1 (by omega) c1 dn1 (two t0 t1 (by omega) (by omega) dn0 dn1).2))).2 (pc' := 269) rfl ?_
 refine g_aload X at_269 (pc' := 271) rfl rfl rfl ?_
 refine g_iconst X (2 : Int32) at_271 (pc' := 272) rfl rfl ?_
 refine g_iaload X qb 2 at_272 (pc' := 273) rfl (by decide) (by decide) rfl ?_
 refine g_aload X at_273 (pc' := 275) rfl rfl rfl ?_
 refine g_iconst X (2 : Int32) at_275 (pc' := 276) rfl rfl ?_
 refine g_iaload X qa 2 at_276 (pc' := 277) rfl (by decide) (by decide) rfl ?_
 refine g_icN X at_277 (teq (show x32 = qu from (by rw [← ex32, ← ex30, ← ex27, ← ex24]; exact got u2 b2 (by omega) c2 dn2 (one u2 (by omega) dn2)))).2 (pc' := 280) rfl ?_
 refine g_iconst X (1 : Int32) at_280 (pc' := 281) rfl rfl ?_
 refine g_goto X at_281 (pc' := 285) (by decide) (by decide) ?_
 refine g_ireturnN X (t := .boolean) (by simp) at_285 hret hlk (by decide) (by decide) ?_
 exact ⟨rfl, N⟩
 subst hs
 show Go p e below _ (T.setTop (mkF m 225 _ []))
 refine g_aload X at_225 (pc' := 227) rfl rfl rfl ?_
 refine g_aload X at_227 (pc' := 229) rfl rfl rfl ?_
 refine g_aload X at_229 (pc' := 231) rfl rfl rfl ?_
 refine g_iload X at_231 (pc' := 233) rfl rfl ?_
 refine g_virtual X (W := 0) (a := qp) (C := "com/example/ryazan/ryazan/language/Layout") [(.ref ql), (.ref qf), (.int (1 : Int32))] [] qw (tb hw 58 rfl) (tb hw 59 rfl) (tb hw 61 rfl) (tb hw 60 rfl) (tb hw 23 rfl) (tb hw 62 rfl) (rPk11 l Z aa hw [] qp ql qf ju jv jw qh qi qk x26 x25 x24 qr qs qu j5 j5 j5 j5 j5 j5 _ n0 Z0 qw q6 q7 q8 wh jd je q4 qa qc jm (Ne.symm qz) (Ne.symm j7) (Ne.symm j8) (Ne.symm j9) qy) at_233 (pc' := 236) rfl (by decide) (by decide) (by decide) rfl rfl rfl (lenOf pd_5 rfl) (Nat.le_refl _) (by decide) (by decide) ?_
 intro v T L X q
 obtain ⟨rfl, Nq, Kq, jj⟩ := q
 replace N := N.app Nq
 replace qa := qa.keep Kq (ninS qy nin0)
 replace qb := qb.keep Kq (ninS (Ne.symm q3) nin0)
 replace qw := qw.keep Kq
 replace q6 := q6.keep Kq (ninS (Ne.symm qz) nin0)
 replace q7 := q7.keep Kq (ninS (Ne.symm qz) nin0)
 replace q8 := q8.keep Kq (ninS (Ne.symm qz) nin0)
 replace jn := jn.keep Kq (ninS (Ne.symm qz) nin0)
 replace jd := jd.keep Kq (ninS (Ne.symm j7) nin0)
 replace je := je.keep Kq (ninS (Ne.symm j8) nin0)
 replace q4 := q4.keep Kq (ninS (Ne.symm j9) nin0)
 replace ji := ji.keep Kq (ninS (Ne.symm wx) nin0)
 replace Z0 := Nat.le_trans Z0 Kq.1
 replace qc := jj
 generalize ex35 : ((0 : Int64) ||| (((qu.toInt64) - (qk.toInt64)) <<< (x24 &&& 0x3f).toInt64)) = x35 at qc
 generalize ex36 : (((0 : Int64) ||| (((qr.toInt64) - (qh.toInt64)) <<< (x26 &&& 0x3f).toInt64)) ||| (((qs.toInt64) - (qi.toInt64)) <<< (x25 &&& 0x3f).toInt64)) = x36 at qc
 show Go p e below _ (T.setTop (mkF m 236 _ []))
 refine g_aload X at_236 (pc' := 238) rfl rfl rfl ?_
 refine g_aload X at_238 (pc' := 240) rfl rfl rfl ?_
 refine g_iload X at_240 (pc' := 242) rfl rfl ?_
 refine g_aload X at_242 (pc' := 244) rfl rfl rfl ?_
 refine g_virtual X (W := 0) (a := qp) (C := "com/example/ryazan/ryazan/language/Layout") [(.ref qf), (.int (1 : Int32)), (.ref qm)] [] qw (tb hw 63 rfl) (tb hw 64 rfl) (tb hw 66 rfl) (tb hw 65 rfl) (tb hw 23 rfl) (tb hw 67 rfl) (rUp11 l Z aa hw [] qp qf qm ju jv jw wi qh qi qk x26 x25 x24 x29 x28 x27 j5 x36 x35 j5 j5 j5 js jt j6 _ n0 Z0 qw q6 q7 q8 jn jd je q4 ji qc qb jr (Ne.symm wo) (Ne.symm wu) (Ne.symm wv) (Ne.symm ww) (Ne.symm wy) q3) at_244 (pc' := 247) rfl (by decide) (by decide) (by decide) rfl rfl rfl (lenOf pd_6 rfl) (Nat.le_refl _) (by decide) (by decide) ?_
 intro v T L X q
 obtain ⟨rfl, Nq, Kq, jk⟩ := q
 replace N := N.app Nq
 replace qa := qa.keep Kq (ninS jq nin0)
 replace Z0 := Nat.le_trans Z0 Kq.1
 replace qb := jk
 generalize ex37 : (((((x35.toUInt64 >>> (x24 &&& 0x3f).toInt64.toUInt64).toInt64) &&& x27).toInt32) + qk) = x37 at qb
 generalize ex38 : (((((x36.toUInt64 >>> (x25 &&& 0x3f).toInt64.toUInt64).toInt64) &&& x28).toInt32) + qi) = x38 at qb
 generalize ex39 : (((((x36.toUInt64 >>> (x26 &&& 0x3f).toInt64.toUInt64).toInt64) &&& x29).toInt32) + qh) = x39 at qb
 show Go p e below _ (T.setTop (mkF m 247 _ []))
 refine g_aload X at_247 (pc' := 249) rfl rfl rfl ?_
 refine g_iconst X (0 : Int32) at_249 (pc' := 250) rfl rfl ?_
 refine g_iaload X qb 0 at_250 (pc' := 251) rfl (by decide) (by decide) rfl ?_
 refine g_aload X at_251 (pc' := 253) rfl rfl rfl ?_
 refine g_iconst X (0 : Int32) at_253 (pc' := 254) rfl rfl ?_
 refine g_iaload X qa 0 at_254 (pc' := 255) rfl (by decide) (by decide) rfl ?_
 refine g_icN X at_255 (teq (show x39 = qr from (by rw [← ex39, ← ex36, ← ex29, ← ex26, ← ex25]; exact got t0 b0 (by omega) c0 dn0 (two t0 t1 (by omega) (by omega) dn0 dn1).1))).2 (pc' := 258) rfl ?_
 refine g_aload X at_258 (pc' := 260) rfl rfl rfl ?_
 refine g_iconst X (1 : Int32) at_260 (pc' := 261) rfl rfl ?_
 refine g_iaload X qb 1 at_261 (pc' := 262) rfl (by decide) (by decide) rfl ?_
 refine g_aload X at_262 (pc' := 264) rfl rfl rfl ?_
 refine g_iconst X (1 : Int32) at_264 (pc' := 265) rfl rfl ?_
 refine g_iaload X qa 1 at_265 (pc' := 266) rfl (by decide) (by decide) rfl ?_
 refine g_icN X at_266 (teq (show x38 = qs from (by rw [← ex38, ← ex36, ← ex28, ← ex26, ← ex25]; exact got t1 b1 (by omega) c1 dn1 (two t0 t1 (by omega) (by omega) dn0 dn1).2))).2 (pc' := 269) rfl ?_
 refine g_aload X at_269 (pc' := 271) rfl rfl rfl ?_
 refine g_iconst X (2 : Int32) at_271 (pc' := 272) rfl rfl ?_
 refine g_iaload X qb 2 at_272 (pc' := 273) rfl (by decide) (by decide) rfl ?_
 refine g_aload X at_273 (pc' := 275) rfl rfl rfl ?_
 refine g_iconst X (2 : Int32) at_275 (pc' := 276) rfl rfl ?_
 refine g_iaload X qa 2 at_276 (pc' := 277) rfl (by decide) (by decide) rfl ?_
 refine g_icN X at_277 (teq (show x37 = qu from (by rw [← ex37, ← ex35, ← ex27, ← ex24]; exact got u2 b2 (by omega) c2 dn2 (one u2 (by omega) dn2)))).2 (pc' := 280) rfl ?_
 refine g_iconst X (1 : Int32) at_280 (pc' := 281) rfl rfl ?_
 refine g_goto X at_281 (pc' := 285) (by decide) (by decide) ?_
 refine g_ireturnN X (t := .boolean) (by simp) at_285 hret hlk (by decide) (by decide) ?_
 exact ⟨rfl, N⟩
 subst hs
 show Go p e below _ (T.setTop (mkF m 225 _ []))
 refine g_aload X at_225 (pc' := 227) rfl rfl rfl ?_
 refine g_aload X at_227 (pc' := 229) rfl rfl rfl ?_
 refine g_aload X at_229 (pc' := 231) rfl rfl rfl ?_
 refine g_iload X at_231 (pc' := 233) rfl rfl ?_
 refine g_virtual X (W := 0) (a := qp) (C := "com/example/ryazan/ryazan/language/Layout") [(.ref ql), (.ref qf), (.int (2 : Int32))] [] qw (tb hw 58 rfl) (tb hw 59 rfl) (tb hw 61 rfl) (tb hw 60 rfl) (tb hw 23 rfl) (tb hw 62 rfl) (rPk12 l Z aa hw [] qp ql qf ju jv jw qh qi qk x26 x25 x24 qr qs qu j5 j5 j5 j5 j5 j5 _ n0 Z0 qw q6 q7 q8 wh jd je q4 qa qc jm (Ne.symm qz) (Ne.symm j7) (Ne.symm j8) (Ne.symm j9) qy) at_233 (pc' := 236) rfl (by decide) (by decide) (by decide) rfl rfl rfl (lenOf pd_5 rfl) (Nat.le_refl _) (by decide) (by decide) ?_
 intro v T L X q
 obtain ⟨rfl, Nq, Kq, jj⟩ := q
 replace N := N.app Nq
 replace qa := qa.keep Kq (ninS qy nin0)
 replace qb := qb.keep Kq (ninS (Ne.symm q3) nin0)
 replace qw := qw.keep Kq
 replace q6 := q6.keep Kq (ninS (Ne.symm qz) nin0)
 replace q7 := q7.keep Kq (ninS (Ne.symm qz) nin0)
 replace q8 := q8.keep Kq (ninS (Ne.symm qz) nin0)
 replace jn := jn.keep Kq (ninS (Ne.symm qz) nin0)
 replace jd := jd.keep Kq (ninS (Ne.symm j7) nin0)
 replace je := je.keep Kq (ninS (Ne.symm j8) nin0)
 replace q4 := q4.keep Kq (ninS (Ne.symm j9) nin0)
 replace ji := ji.keep Kq (ninS (Ne.symm wx) nin0)
 replace Z0 := Nat.le_trans Z0 Kq.1
 replace qc := jj
 generalize ex40 : ((0 : Int64) ||| (((qu.toInt64) - (qk.toInt64)) <<< (x24 &&& 0x3f).toInt64)) = x40 at qc
 generalize ex41 : (((0 : Int64) ||| (((qr.toInt64) - (qh.toInt64)) <<< (x26 &&& 0x3f).toInt64)) ||| (((qs.toInt64) - (qi.toInt64)) <<< (x25 &&& 0x3f).toInt64)) = x41 at qc
 show Go p e below _ (T.setTop (mkF m 236 _ []))
 refine g_aload X at_236 (pc' := 238) rfl rfl rfl ?_
 refine g_aload X at_238 (pc' := 240) rfl rfl rfl ?_
 refine g_iload X at_240 (pc' := 242) rfl rfl ?_
 refine g_aload X at_242 (pc' := 244) rfl rfl rfl ?_
 refine g_virtual X (W := 0) (a := qp) (C := "com/example/ryazan/ryazan/language/Layout") [(.ref qf), (.int (2 : Int32)), (.ref qm)] [] qw (tb hw 63 rfl) (tb hw 64 rfl) (tb hw 66 rfl) (tb hw 65 rfl) (tb hw 23 rfl) (tb hw 67 rfl) (rUp12 l Z aa hw [] qp qf qm ju jv jw wi qh qi qk x26 x25 x24 x29 x28 x27 j5 j5 x41 x40 j5 j5 js jt j6 _ n0 Z0 qw q6 q7 q8 jn jd je q4 ji qc qb jr (Ne.symm wo) (Ne.symm wu) (Ne.symm wv) (Ne.symm ww) (Ne.symm wy) q3) at_244 (pc' := 247) rfl (by decide) (by decide) (by decide) rfl rfl rfl (lenOf pd_6 rfl) (Nat.le_refl _) (by decide) (by decide) ?_
 intro v T L X q
 obtain ⟨rfl, Nq, Kq, jk⟩ := q
 replace N := N.app Nq
 replace qa := qa.keep Kq (ninS jq nin0)
 replace Z0 := Nat.le_trans Z0 Kq.1
 replace qb := jk
 generalize ex42 : (((((x40.toUInt64 >>> (x24 &&& 0x3f).toInt64.toUInt64).toInt64) &&& x27).toInt32) + qk) = x42 at qb
 generalize ex43 : (((((x41.toUInt64 >>> (x25 &&& 0x3f).toInt64.toUInt64).toInt64) &&& x28).toInt32) + qi) = x43 at qb
 generalize ex44 : (((((x41.toUInt64 >>> (x26 &&& 0x3f).toInt64.toUInt64).toInt64) &&& x29).toInt32) + qh) = x44 at qb
 show Go p e below _ (T.setTop (mkF m 247 _ []))
 refine g_aload X at_247 (pc' := 249) rfl rfl rfl ?_
 refine g_iconst X (0 : Int32) at_249 (pc' := 250) rfl rfl ?_
 refine g_iaload X qb 0 at_250 (pc' := 251) rfl (by decide) (by decide) rfl ?_
 refine g_aload X at_251 (pc' := 253) rfl rfl rfl ?_
 refine g_iconst X (0 : Int32) at_253 (pc' := 254) rfl rfl ?_
 refine g_iaload X qa 0 at_254 (pc' := 255) rfl (by decide) (by decide) rfl ?_
 refine g_icN X at_255 (teq (show x44 = qr from (by rw [← ex44, ← ex41, ← ex29, ← ex26, ← ex25]; exact got t0 b0 (by omega) c0 dn0 (two t0 t1 (by omega) (by omega) dn0 dn1).1))).2 (pc' := 258) rfl ?_
 refine g_aload X at_258 (pc' := 260) rfl rfl rfl ?_
 refine g_iconst X (1 : Int32) at_260 (pc' := 261) rfl rfl ?_
 refine g_iaload X qb 1 at_261 (pc' := 262) rfl (by decide) (by decide) rfl ?_
 refine g_aload X at_262 (pc' := 264) rfl rfl rfl ?_
 refine g_iconst X (1 : Int32) at_264 (pc' := 265) rfl rfl ?_
 refine g_iaload X qa 1 at_265 (pc' := 266) rfl (by decide) (by decide) rfl ?_
 refine g_icN X at_266 (teq (show x43 = qs from (by rw [← ex43, ← ex41, ← ex28, ← ex26, ← ex25]; exact got t1 b1 (by omega) c1 dn1 (two t0 t1 (by omega) (by omega) dn0 dn1).2))).2 (pc' := 269) rfl ?_
 refine g_aload X at_269 (pc' := 271) rfl rfl rfl ?_
 refine g_iconst X (2 : Int32) at_271 (pc' := 272) rfl rfl ?_
 refine g_iaload X qb 2 at_272 (pc' := 273) rfl (by decide) (by decide) rfl ?_
 refine g_aload X at_273 (pc' := 275) rfl rfl rfl ?_
 refine g_iconst X (2 : Int32) at_275 (pc' := 276) rfl rfl ?_
 refine g_iaload X qa 2 at_276 (pc' := 277) rfl (by decide) (by decide) rfl ?_
 refine g_icN X at_277 (teq (show x42 = qu from (by rw [← ex42, ← ex40, ← ex27, ← ex24]; exact got u2 b2 (by omega) c2 dn2 (one u2 (by omega) dn2)))).2 (pc' := 280) rfl ?_
 refine g_iconst X (1 : Int32) at_280 (pc' := 281) rfl rfl ?_
 refine g_goto X at_281 (pc' := 285) (by decide) (by decide) ?_
 refine g_ireturnN X (t := .boolean) (by simp) at_285 hret hlk (by decide) (by decide) ?_
 exact ⟨rfl, N⟩
 subst hs
 show Go p e below _ (T.setTop (mkF m 225 _ []))
 refine g_aload X at_225 (pc' := 227) rfl rfl rfl ?_
 refine g_aload X at_227 (pc' := 229) rfl rfl rfl ?_
 refine g_aload X at_229 (pc' := 231) rfl rfl rfl ?_
 refine g_iload X at_231 (pc' := 233) rfl rfl ?_
 refine g_virtual X (W := 0) (a := qp) (C := "com/example/ryazan/ryazan/language/Layout") [(.ref ql), (.ref qf), (.int (3 : Int32))] [] qw (tb hw 58 rfl) (tb hw 59 rfl) (tb hw 61 rfl) (tb hw 60 rfl) (tb hw 23 rfl) (tb hw 62 rfl) (rPk13 l Z aa hw [] qp ql qf ju jv jw qh qi qk x26 x25 x24 qr qs qu j5 j5 j5 j5 j5 j5 _ n0 Z0 qw q6 q7 q8 wh jd je q4 qa qc jm (Ne.symm qz) (Ne.symm j7) (Ne.symm j8) (Ne.symm j9) qy) at_233 (pc' := 236) rfl (by decide) (by decide) (by decide) rfl rfl rfl (lenOf pd_5 rfl) (Nat.le_refl _) (by decide) (by decide) ?_
 intro v T L X q
 obtain ⟨rfl, Nq, Kq, jj⟩ := q
 replace N := N.app Nq
 replace qa := qa.keep Kq (ninS qy nin0)
 replace qb := qb.keep Kq (ninS (Ne.symm q3) nin0)
 replace qw := qw.keep Kq
 replace q6 := q6.keep Kq (ninS (Ne.symm qz) nin0)
 replace q7 := q7.keep Kq (ninS (Ne.symm qz) nin0)
 replace q8 := q8.keep Kq (ninS (Ne.symm qz) nin0)
 replace jn := jn.keep Kq (ninS (Ne.symm qz) nin0)
 replace jd := jd.keep Kq (ninS (Ne.symm j7) nin0)
 replace je := je.keep Kq (ninS (Ne.symm j8) nin0)
 replace q4 := q4.keep Kq (ninS (Ne.symm j9) nin0)
 replace ji := ji.keep Kq (ninS (Ne.symm wx) nin0)
 replace Z0 := Nat.le_trans Z0 Kq.1
 replace qc := jj
 generalize ex45 : ((0 : Int64) ||| (((qu.toInt64) - (qk.toInt64)) <<< (x24 &&& 0x3f).toInt64)) = x45 at qc
 generalize ex46 : (((0 : Int64) ||| (((qr.toInt64) - (qh.toInt64)) <<< (x26 &&& 0x3f).toInt64)) ||| (((qs.toInt64) - (qi.toInt64)) <<< (x25 &&& 0x3f).toInt64)) = x46 at qc
 show Go p e below _ (T.setTop (mkF m 236 _ []))
 refine g_aload X at_236 (pc' := 238) rfl rfl rfl ?_
 refine g_aload X at_238 (pc' := 240) rfl rfl rfl ?_
 refine g_iload X at_240 (pc' := 242) rfl rfl ?_
 refine g_aload X at_242 (pc' := 244) rfl rfl rfl ?_
 refine g_virtual X (W := 0) (a := qp) (C := "com/example/ryazan/ryazan/language/Layout") [(.ref qf), (.int (3 : Int32)), (.ref qm)] [] qw (tb hw 63 rfl) (tb hw 64 rfl) (tb hw 66 rfl) (tb hw 65 rfl) (tb hw 23 rfl) (tb hw 67 rfl) (rUp13 l Z aa hw [] qp qf qm ju jv jw wi qh qi qk x26 x25 x24 x29 x28 x27 j5 j5 j5 x46 x45 j5 js jt j6 _ n0 Z0 qw q6 q7 q8 jn jd je q4 ji qc qb jr (Ne.symm wo) (Ne.symm wu) (Ne.symm wv) (Ne.symm ww) (Ne.symm wy) q3) at_244 (pc' := 247) rfl (by decide) (by decide) (by decide) rfl rfl rfl (lenOf pd_6 rfl) (Nat.le_refl _) (by decide) (by decide) ?_
 intro v T L X q
 obtain ⟨rfl, Nq, Kq, jk⟩ := q
 replace N := N.app Nq
 replace qa := qa.keep Kq (ninS jq nin0)
 replace Z0 := Nat.le_trans Z0 Kq.1
 replace qb := jk
 generalize ex47 : (((((x45.toUInt64 >>> (x24 &&& 0x3f).toInt64.toUInt64).toInt64) &&& x27).toInt32) + qk) = x47 at qb
 generalize ex48 : (((((x46.toUInt64 >>> (x25 &&& 0x3f).toInt64.toUInt64).toInt64) &&& x28).toInt32) + qi) = x48 at qb
 generalize ex49 : (((((x46.toUInt64 >>> (x26 &&& 0x3f).toInt64.toUInt64).toInt64) &&& x29).toInt32) + qh) = x49 at qb
 show Go p e below _ (T.setTop (mkF m 247 _ []))
 refine g_aload X at_247 (pc' := 249) rfl rfl rfl ?_
 refine g_iconst X (0 : Int32) at_249 (pc' := 250) rfl rfl ?_
 refine g_iaload X qb 0 at_250 (pc' := 251) rfl (by decide) (by decide) rfl ?_
 refine g_aload X at_251 (pc' := 253) rfl rfl rfl ?_
 refine g_iconst X (0 : Int32) at_253 (pc' := 254) rfl rfl ?_
 refine g_iaload X qa 0 at_254 (pc' := 255) rfl (by decide) (by decide) rfl ?_
 refine g_icN X at_255 (teq (show x49 = qr from (by rw [← ex49, ← ex46, ← ex29, ← ex26, ← ex25]; exact got t0 b0 (by omega) c0 dn0 (two t0 t1 (by omega) (by omega) dn0 dn1).1))).2 (pc' := 258) rfl ?_
 refine g_aload X at_258 (pc' := 260) rfl rfl rfl ?_
 refine g_iconst X (1 : Int32) at_260 (pc' := 261) rfl rfl ?_
 refine g_iaload X qb 1 at_261 (pc' := 262) rfl (by decide) (by decide) rfl ?_
 refine g_aload X at_262 (pc' := 264) rfl rfl rfl ?_
 refine g_iconst X (1 : Int32) at_264 (pc' := 265) rfl rfl ?_
 refine g_iaload X qa 1 at_265 (pc' := 266) rfl (by decide) (by decide) rfl ?_
 refine g_icN X at_266 (teq (show x48 = qs from (by rw [← ex48, ← ex46, ← ex28, ← ex26, ← ex25]; exact got t1 b1 (by omega) c1 dn1 (two t0 t1 (by omega) (by omega) dn0 dn1).2))).2 (pc' := 269) rfl ?_
 refine g_aload X at_269 (pc' := 271) rfl rfl rfl ?_
 refine g_iconst X (2 : Int32) at_271 (pc' := 272) rfl rfl ?_
 refine g_iaload X qb 2 at_272 (pc' := 273) rfl (by decide) (by decide) rfl ?_
 refine g_aload X at_273 (pc' := 275) rfl rfl rfl ?_
 refine g_iconst X (2 : Int32) at_275 (pc' := 276) rfl rfl ?_
 refine g_iaload X qa 2 at_276 (pc' := 277) rfl (by decide) (by decide) rfl ?_
 refine g_icN X at_277 (teq (show x47 = qu from (by rw [← ex47, ← ex45, ← ex27, ← ex24]; exact got u2 b2 (by omega) c2 dn2 (one u2 (by omega) dn2)))).2 (pc' := 280) rfl ?_
 refine g_iconst X (1 : Int32) at_280 (pc' := 281) rfl rfl ?_
 refine g_goto X at_281 (pc' := 285) (by decide) (by decide) ?_
 refine g_ireturnN X (t := .boolean) (by simp) at_285 hret hlk (by decide) (by decide) ?_
 exact ⟨rfl, N⟩
 have m2 := le_of_not t1 b2 hl
 have u2 := sub32 t1 b2 m2 (by omega)
 refine g_new X (tb hw 21 rfl) (tb hw 22 rfl) (tb hw 23 rfl) at_212 (pc' := 215) rfl (by decide) (by decide) ?_
 intro T h qq wj X Ex qx wp
 have y6 : qt ≠ qq := Nat.ne_of_lt (by rw [wj]; exact qg.lt)
 have y7 : qv ≠ qq := Nat.ne_of_lt (by rw [wj]; exact qj.lt)
 have y8 : ql ≠ qq := Nat.ne_of_lt (by rw [wj]; exact qo.lt)
 have q0 : qf ≠ qq := Nat.ne_of_lt (by rw [wj]; exact qn.lt)
 have wq : qm ≠ qq := Nat.ne_of_lt (by rw [wj]; exact q2.lt)
 have y9 : n0 ≤ qq := by rw [wj]; exact Z0
 replace qg := qg.ext Ex
 replace qd := qd.ext Ex
 replace qe := qe.ext Ex
 replace qa := qa.ext Ex
 replace qn := qn.ext Ex
 replace qc := qc.ext Ex
 replace q2 := q2.ext Ex
 replace qb := qb.ext Ex
 replace Z0 := Nat.le_trans Z0 Ex.1
 have q9 : Fld Z h qq "com/example/ryazan/ryazan/language/Layout" "low" "[I" .null := wp (Or.inr (tb hw 40 rfl)) (ty := (.array .int)) (by decide)
 have ja : Fld Z h qq "com/example/ryazan/ryazan/language/Layout" "word" "[I" .null := wp (Or.inr (tb hw 42 rfl)) (ty := (.array .int)) (by decide)
 have jb : Fld Z h qq "com/example/ryazan/ryazan/language/Layout" "shift" "[I" .null := wp (Or.inr (tb hw 44 rfl)) (ty := (.array .int)) (by decide)
 have jo : Fld Z h qq "com/example/ryazan/ryazan/language/Layout" "mask" "[J" .null := wp (Or.inr (tb hw 46 rfl)) (ty := (.array .long)) (by decide)
 have wk : Fld Z h qq "com/example/ryazan/ryazan/language/Layout" "width" "I" (.int (0 : Int32)) := wp (Or.inr (tb hw 57 rfl)) (ty := .int) (by decide)
 refine g_dup X at_215 (pc' := 216) rfl rfl ?_
 refine g_aload X at_216 (pc' := 218) rfl rfl rfl ?_
 refine g_aload X at_218 (pc' := 220) rfl rfl rfl ?_
 refine g_special X (W := 1) (a := qq) [(.ref qt), (.ref qv)] [(.ref qq)] rfl (tb hw 24 rfl) (tb hw 25 rfl) (tb hw 23 rfl) (tb hw 26 rfl) (rInit0 l Z aa hw [] qq qt qv qh qi qk q1 jc jh _ n0 Z0 qx q9 ja jb jo wk qg qd qe y9 y6 y7 (not_of_le n64 b0 (by omega)) (not_of_le t0 b1 (by omega)) hl) at_220 (pc' := 223) rfl (by decide) (by decide) (by decide) rfl rfl rfl (lenOf pd_4 rfl) (Nat.le_refl _) (by decide) (by decide) ?_
 intro v T L X q
 obtain ⟨jx, jy, jz, wl, rfl, Nq, Kq, yo, zx, yp, zy, yq, zz, yr, z0, z1, z2, z3, z4, z5, z6, za, zb, zc, zd, ze, zf, z7, jf, z8, jg, z9, q5, ua, jl⟩ := q
 have wa : qf ≠ jx := Nat.ne_of_lt (Nat.lt_of_lt_of_le qn.lt yo)
 have wz : qm ≠ jx := Nat.ne_of_lt (Nat.lt_of_lt_of_le q2.lt yo)
 have wb : qf ≠ jy := Nat.ne_of_lt (Nat.lt_of_lt_of_le qn.lt yp)
 have w0 : qm ≠ jy := Nat.ne_of_lt (Nat.lt_of_lt_of_le q2.lt yp)
 have wc : qf ≠ jz := Nat.ne_of_lt (Nat.lt_of_lt_of_le qn.lt yq)
 have w1 : qm ≠ jz := Nat.ne_of_lt (Nat.lt_of_lt_of_le q2.lt yq)
 have w2 : qf ≠ wl := Nat.ne_of_lt (Nat.lt_of_lt_of_le qn.lt yr)
 have w3 : qm ≠ wl := Nat.ne_of_lt (Nat.lt_of_lt_of_le q2.lt yr)
 replace N := N.app Nq
 replace qa := qa.keep Kq (ninS y8 nin0)
 replace qc := qc.keep Kq (ninS q0 nin0)
 replace qb := qb.keep Kq (ninS wq nin0)
 replace Z0 := Nat.le_trans Z0 Kq.1
 replace qx := za
 replace q9 := zb
 replace ja := zc
 replace jb := zd
 replace jo := ze
 replace wk := zf
 generalize ex55 : ((((64 : Int32) - ((64 : Int32) - (fNL ((q1.toInt64) - (qh.toInt64))))) - ((64 : Int32) - (fNL ((jc.toInt64) - (qi.toInt64))))) - ((64 : Int32) - (fNL ((jh.toInt64) - (qk.toInt64))))) = x55 at q5
 generalize ex56 : (((64 : Int32) - ((64 : Int32) - (fNL ((q1.toInt64) - (qh.toInt64))))) - ((64 : Int32) - (fNL ((jc.toInt64) - (qi.toInt64))))) = x56 at q5
 generalize ex57 : ((64 : Int32) - ((64 : Int32) - (fNL ((q1.toInt64) - (qh.toInt64))))) = x57 at q5
 generalize ex58 : (((1 : Int64) <<< (((64 : Int32) - (fNL ((jh.toInt64) - (qk.toInt64)))) &&& 0x3f).toInt64) - (1 : Int64)) = x58 at jl
 generalize ex59 : (((1 : Int64) <<< (((64 : Int32) - (fNL ((jc.toInt64) - (qi.toInt64)))) &&& 0x3f).toInt64) - (1 : Int64)) = x59 at jl
 generalize ex60 : (((1 : Int64) <<< (((64 : Int32) - (fNL ((q1.toInt64) - (qh.toInt64)))) &&& 0x3f).toInt64) - (1 : Int64)) = x60 at jl
 show Go p e below _ (T.setTop (mkF m 223 _ [(.ref qq)]))
 refine g_astore X at_223 (pc' := 225) (Ls' := #[.val (.long j0), .second, .val (.long j1), .second, .val (.long j2), .second, .val (.long j3), .second, .val (.long j4), .second, .val (.long j5), .second, .val (.ref qt), .val (.ref qv), .val (.ref ql), .val (.int jp), .val (.ref qf), .val (.ref qm), .val (.ref qq)]) rfl rfl rfl ?_
 rcases (off4 yj : jp = (0 : Int32) ∨ jp = (1 : Int32) ∨ jp = (2 : Int32) ∨ jp = (3 : Int32)) with hs | hs | hs | hs
 subst hs
 show Go p e below _ (T.setTop (mkF m 225 _ []))
 refine g_aload X at_225 (pc' := 227) rfl rfl rfl ?_
 refine g_aload X at_227 (pc' := 229) rfl rfl rfl ?_
 refine g_aload X at_229 (pc' := 231) rfl rfl rfl ?_
 refine g_iload X at_231 (pc' := 233) rfl rfl ?_
 refine g_virtual X (W := 0) (a := qq) (C := "com/example/ryazan/ryazan/language/Layout") [(.ref ql), (.ref qf), (.int (0 : Int32))] [] qx (tb hw 58 rfl) (tb hw 59 rfl) (tb hw 61 rfl) (tb hw 60 rfl) (tb hw 23 rfl) (tb hw 62 rfl) (rPk00 l Z aa hw [] qq ql qf jx jy jz qh qi qk x57 x56 x55 qr qs qu j5 j5 j5 j5 j5 j5 _ n0 Z0 qx q9 ja jb wk jf jg q5 qa qc jm (Ne.symm q0) (Ne.symm wa) (Ne.symm wb) (Ne.symm wc) qy) at_233 (pc' := 236) rfl (by decide) (by decide) (by decide) rfl rfl rfl (lenOf pd_5 rfl) (Nat.le_refl _) (by decide) (by decide) ?_
 intro v T L X q
 obtain ⟨rfl, Nq, Kq, jj⟩ := q
 replace N := N.app Nq
 replace qa := qa.keep Kq (ninS qy nin0)
 replace qb := qb.keep Kq (ninS (Ne.symm q3) nin0)
 replace qx := qx.keep Kq
 replace q9 := q9.keep Kq (ninS (Ne.symm q0) nin0)
 replace ja := ja.keep Kq (ninS (Ne.symm q0) nin0)
 replace jb := jb.keep Kq (ninS (Ne.symm q0) nin0)
 replace jo := jo.keep Kq (ninS (Ne.symm q0) nin0)
 replace jf := jf.keep Kq (ninS (Ne.symm wa) nin0)
 replace jg := jg.keep Kq (ninS (Ne.symm wb) nin0)
 replace q5 := q5.keep Kq (ninS (Ne.symm wc) nin0)
 replace jl := jl.keep Kq (ninS (Ne.symm w2) nin0)
 replace Z0 := Nat.le_trans Z0 Kq.1
 replace qc := jj
 generalize ex61 : ((((0 : Int64) ||| (((qr.toInt64) - (qh.toInt64)) <<< (x57 &&& 0x3f).toInt64)) ||| (((qs.toInt64) - (qi.toInt64)) <<< (x56 &&& 0x3f).toInt64)) ||| (((qu.toInt64) - (qk.toInt64)) <<< (x55 &&& 0x3f).toInt64)) = x61 at qc
 show Go p e below _ (T.setTop (mkF m 236 _ []))
 refine g_aload X at_236 (pc' := 238) rfl rfl rfl ?_
 refine g_aload X at_238 (pc' := 240) rfl rfl rfl ?_
 refine g_iload X at_240 (pc' := 242) rfl rfl ?_
 refine g_aload X at_242 (pc' := 244) rfl rfl rfl ?_
 refine g_virtual X (W := 0) (a := qq) (C := "com/example/ryazan/ryazan/language/Layout") [(.ref qf), (.int (0 : Int32)), (.ref qm)] [] qx (tb hw 63 rfl) (tb hw 64 rfl) (tb hw 66 rfl) (tb hw 65 rfl) (tb hw 23 rfl) (tb hw 67 rfl) (rUp00 l Z aa hw [] qq qf qm jx jy jz wl qh qi qk x57 x56 x55 x60 x59 x58 x61 j5 j5 j5 j5 j5 js jt j6 _ n0 Z0 qx q9 ja jb jo jf jg q5 jl qc qb jr (Ne.symm wq) (Ne.symm wz) (Ne.symm w0) (Ne.symm w1) (Ne.symm w3) q3) at_244 (pc' := 247) rfl (by decide) (by decide) (by decide) rfl rfl rfl (lenOf pd_6 rfl) (Nat.le_refl _) (by decide) (by decide) ?_
 intro v T L X q
 obtain ⟨rfl, Nq, Kq, jk⟩ := q
 replace N := N.app Nq
 replace qa := qa.keep Kq (ninS jq nin0)
 replace Z0 := Nat.le_trans Z0 Kq.1
 replace qb := jk
 generalize ex62 : (((((x61.toUInt64 >>> (x55 &&& 0x3f).toInt64.toUInt64).toInt64) &&& x58).toInt32) + qk) = x62 at qb
 generalize ex63 : (((((x61.toUInt64 >>> (x56 &&& 0x3f).toInt64.toUInt64).toInt64) &&& x59).toInt32) + qi) = x63 at qb
 generalize ex64 : (((((x61.toUInt64 >>> (x57 &&& 0x3f).toInt64.toUInt64).toInt64) &&& x60).toInt32) + qh) = x64 at qb
 show Go p e below _ (T.setTop (mkF m 247 _ []))
 refine g_aload X at_247 (pc' := 249) rfl rfl rfl ?_
 refine g_iconst X (0 : Int32) at_249 (pc' := 250) rfl rfl ?_
 refine g_iaload X qb 0 at_250 (pc' := 251) rfl (by decide) (by decide) rfl ?_
 refine g_aload X at_251 (pc' := 253) rfl rfl rfl ?_
 refine g_iconst X (0 : Int32) at_253 (pc' := 254) rfl rfl ?_
 refine g_iaload X qa 0 at_254 (pc' := 255) rfl (by decide) (by decide) rfl ?_
 refine g_icN X at_255 (teq (show x64 = qr from (by rw [← ex64, ← ex61, ← ex60, ← ex57, ← ex56, ← ex55]; exact got t0 b0 (by omega) c0 dn0 (three t0 t1 u2 (by omega) (by omega) (by omega) dn0 dn1 dn2).1))).2 (pc' := 258) rfl ?_
 refine g_aload X at_258 (pc' := 260) rfl rfl rfl ?_
 refine g_iconst X (1 : Int32) at_260 (pc' := 261) rfl rfl ?_
 refine g_iaload X qb 1 at_261 (pc' := 262) rfl (by decide) (by decide) rfl ?_
 refine g_aload X at_262 (pc' := 264) rfl rfl rfl ?_
 refine g_iconst X (1 : Int32) at_264 (pc' := 265) rfl rfl ?_
 refine g_iaload X qa 1 at_265 (pc' := 266) rfl (by decide) (by decide) rfl ?_
 refine g_icN X at_266 (teq (show x63 = qs from (by rw [← ex63, ← ex61, ← ex59, ← ex57, ← ex56, ← ex55]; exact got t1 b1 (by omega) c1 dn1 (three t0 t1 u2 (by omega) (by omega) (by omega) dn0 dn1 dn2).2.1))).2 (pc' := 269) rfl ?_
 refine g_aload X at_269 (pc' := 271) rfl rfl rfl ?_
 refine g_iconst X (2 : Int32) at_271 (pc' := 272) rfl rfl ?_
 refine g_iaload X qb 2 at_272 (pc' := 273) rfl (by decide) (by decide) rfl ?_
 refine g_aload X at_273 (pc' := 275) rfl rfl rfl ?_
 refine g_iconst X (2 : Int32) at_275 (pc' := 276) rfl rfl ?_
 refine g_iaload X qa 2 at_276 (pc' := 277) rfl (by decide) (by decide) rfl ?_
 refine g_icN X at_277 (teq (show x62 = qu from (by rw [← ex62, ← ex61, ← ex58, ← ex57, ← ex56, ← ex55]; exact got u2 b2 (by omega) c2 dn2 (three t0 t1 u2 (by omega) (by omega) (by omega) dn0 dn1 dn2).2.2))).2 (pc' := 280) rfl ?_
 refine g_iconst X (1 : Int32) at_280 (pc' := 281) rfl rfl ?_
 refine g_goto X at_281 (pc' := 285) (by decide) (by decide) ?_
 refine g_ireturnN X (t := .boolean) (by simp) at_285 hret hlk (by decide) (by decide) ?_
 exact ⟨rfl, N⟩
 subst hs
 show Go p e below _ (T.setTop (mkF m 225 _ []))
 refine g_aload X at_225 (pc' := 227) rfl rfl rfl ?_
 refine g_aload X at_227 (pc' := 229) rfl rfl rfl ?_
 refine g_aload X at_229 (pc' := 231) rfl rfl rfl ?_
 refine g_iload X at_231 (pc' := 233) rfl rfl ?_
 refine g_virtual X (W := 0) (a := qq) (C := "com/example/ryazan/ryazan/language/Layout") [(.ref ql), (.ref qf), (.int (1 : Int32))] [] qx (tb hw 58 rfl) (tb hw 59 rfl) (tb hw 61 rfl) (tb hw 60 rfl) (tb hw 23 rfl) (tb hw 62 rfl) (rPk01 l Z aa hw [] qq ql qf jx jy jz qh qi qk x57 x56 x55 qr qs qu j5 j5 j5 j5 j5 j5 _ n0 Z0 qx q9 ja jb wk jf jg q5 qa qc jm (Ne.symm q0) (Ne.symm wa) (Ne.symm wb) (Ne.symm wc) qy) at_233 (pc' := 236) rfl (by decide) (by decide) (by decide) rfl rfl rfl (lenOf pd_5 rfl) (Nat.le_refl _) (by decide) (by decide) ?_
 intro v T L X q
 obtain ⟨rfl, Nq, Kq, jj⟩ := q
 replace N := N.app Nq
 replace qa := qa.keep Kq (ninS qy nin0)
 replace qb := qb.keep Kq (ninS (Ne.symm q3) nin0)
 replace qx := qx.keep Kq
 replace q9 := q9.keep Kq (ninS (Ne.symm q0) nin0)
 replace ja := ja.keep Kq (ninS (Ne.symm q0) nin0)
 replace jb := jb.keep Kq (ninS (Ne.symm q0) nin0)
 replace jo := jo.keep Kq (ninS (Ne.symm q0) nin0)
 replace jf := jf.keep Kq (ninS (Ne.symm wa) nin0)
 replace jg := jg.keep Kq (ninS (Ne.symm wb) nin0)
 replace q5 := q5.keep Kq (ninS (Ne.symm wc) nin0)
 replace jl := jl.keep Kq (ninS (Ne.symm w2) nin0)
 replace Z0 := Nat.le_trans Z0 Kq.1
 replace qc := jj
 generalize ex65 : ((((0 : Int64) ||| (((qr.toInt64) - (qh.toInt64)) <<< (x57 &&& 0x3f).toInt64)) ||| (((qs.toInt64) - (qi.toInt64)) <<< (x56 &&& 0x3f).toInt64)) ||| (((qu.toInt64) - (qk.toInt64)) <<< (x55 &&& 0x3f).toInt64)) = x65 at qc
 show Go p e below _ (T.setTop (mkF m 236 _ []))
 refine g_aload X at_236 (pc' := 238) rfl rfl rfl ?_
 refine g_aload X at_238 (pc' := 240) rfl rfl rfl ?_
 refine g_iload X at_240 (pc' := 242) rfl rfl ?_
 refine g_aload X at_242 (pc' := 244) rfl rfl rfl ?_
 refine g_virtual X (W := 0) (a := qq) (C := "com/example/ryazan/ryazan/language/Layout") [(.ref qf), (.int (1 : Int32)), (.ref qm)] [] qx (tb hw 63 rfl) (tb hw 64 rfl) (tb hw 66 rfl) (tb hw 65 rfl) (tb hw 23 rfl) (tb hw 67 rfl) (rUp01 l Z aa hw [] qq qf qm jx jy jz wl qh qi qk x57 x56 x55 x60 x59 x58 j5 x65 j5 j5 j5 j5 js jt j6 _ n0 Z0 qx q9 ja jb jo jf jg q5 jl qc qb jr (Ne.symm wq) (Ne.symm wz) (Ne.symm w0) (Ne.symm w1) (Ne.symm w3) q3) at_244 (pc' := 247) rfl (by decide) (by decide) (by decide) rfl rfl rfl (lenOf pd_6 rfl) (Nat.le_refl _) (by decide) (by decide) ?_
 intro v T L X q
 obtain ⟨rfl, Nq, Kq, jk⟩ := q
 replace N := N.app Nq
 replace qa := qa.keep Kq (ninS jq nin0)
 replace Z0 := Nat.le_trans Z0 Kq.1
 replace qb := jk
 generalize ex66 : (((((x65.toUInt64 >>> (x55 &&& 0x3f).toInt64.toUInt64).toInt64) &&& x58).toInt32) + qk) = x66 at qb
 generalize ex67 : (((((x65.toUInt64 >>> (x56 &&& 0x3f).toInt64.toUInt64).toInt64) &&& x59).toInt32) + qi) = x67 at qb
 generalize ex68 : (((((x65.toUInt64 >>> (x57 &&& 0x3f).toInt64.toUInt64).toInt64) &&& x60).toInt32) + qh) = x68 at qb
 show Go p e below _ (T.setTop (mkF m 247 _ []))
 refine g_aload X at_247 (pc' := 249) rfl rfl rfl ?_
 refine g_iconst X (0 : Int32) at_249 (pc' := 250) rfl rfl ?_
 refine g_iaload X qb 0 at_250 (pc' := 251) rfl (by decide) (by decide) rfl ?_
 refine g_aload X at_251 (pc' := 253) rfl rfl rfl ?_
 refine g_iconst X (0 : Int32) at_253 (pc' := 254) rfl rfl ?_
 refine g_iaload X qa 0 at_254 (pc' := 255) rfl (by decide) (by decide) rfl ?_
 refine g_icN X at_255 (teq (show x68 = qr from (by rw [← ex68, ← ex65, ← ex60, ← ex57, ← ex56, ← ex55]; exact got t0 b0 (by omega) c0 dn0 (three t0 t1 u2 (by omega) (by omega) (by omega) dn0 dn1 dn2).1))).2 (pc' := 258) rfl ?_
 refine g_aload X at_258 (pc' := 260) rfl rfl rfl ?_
 refine g_iconst X (1 : Int32) at_260 (pc' := 261) rfl rfl ?_
 refine g_iaload X qb 1 at_261 (pc' := 262) rfl (by decide) (by decide) rfl ?_
 refine g_aload X at_262 (pc' := 264) rfl rfl rfl ?_
 refine g_iconst X (1 : Int32) at_264 (pc' := 265) rfl rfl ?_
 refine g_iaload X qa 1 at_265 (pc' := 266) rfl (by decide) (by decide) rfl ?_
 refine g_icN X at_266 (teq (show x67 = qs from (by rw [← ex67, ← ex65, ← ex59, ← ex57, ← ex56, ← ex55]; exact got t1 b1 (by omega) c1 dn1 (three t0 t1 u2 (by omega) (by omega) (by omega) dn0 dn1 dn2).2.1))).2 (pc' := 269) rfl ?_
 refine g_aload X at_269 (pc' := 271) rfl rfl rfl ?_
 refine g_iconst X (2 : Int32) at_271 (pc' := 272) rfl rfl ?_
 refine g_iaload X qb 2 at_272 (pc' := 273) rfl (by decide) (by decide) rfl ?_
 refine g_aload X at_273 (pc' := 275) rfl rfl rfl ?_
 refine g_iconst X (2 : Int32) at_275 (pc' := 276) rfl rfl ?_
 refine g_iaload X qa 2 at_276 (pc' := 277) rfl (by decide) (by decide) rfl ?_
 refine g_icN X at_277 (teq (show x66 = qu from (by rw [← ex66, ← ex65, ← ex58, ← ex57, ← ex56, ← ex55]; exact got u2 b2 (by omega) c2 dn2 (three t0 t1 u2 (by omega) (by omega) (by omega) dn0 dn1 dn2).2.2))).2 (pc' := 280) rfl ?_
 refine g_iconst X (1 : Int32) at_280 (pc' := 281) rfl rfl ?_
 refine g_goto X at_281 (pc' := 285) (by decide) (by decide) ?_
 refine g_ireturnN X (t := .boolean) (by simp) at_285 hret hlk (by decide) (by decide) ?_
 exact ⟨rfl, N⟩
 subst hs
 show Go p e below _ (T.setTop (mkF m 225 _ []))
 refine g_aload X at_225 (pc' := 227) rfl rfl rfl ?_
 refine g_aload X at_227 (pc' := 229) rfl rfl rfl ?_
 refine g_aload X at_229 (pc' := 231) rfl rfl rfl ?_
 refine g_iload X at_231 (pc' := 233) rfl rfl ?_
 refine g_virtual X (W := 0) (a := qq) (C := "com/example/ryazan/ryazan/language/Layout") [(.ref ql), (.ref qf), (.int (2 : Int32))] [] qx (tb hw 58 rfl) (tb hw 59 rfl) (tb hw 61 rfl) (tb hw 60 rfl) (tb hw 23 rfl) (tb hw 62 rfl) (rPk02 l Z aa hw [] qq ql qf jx jy jz qh qi qk x57 x56 x55 qr qs qu j5 j5 j5 j5 j5 j5 _ n0 Z0 qx q9 ja jb wk jf jg q5 qa qc jm (Ne.symm q0) (Ne.symm wa) (Ne.symm wb) (Ne.symm wc) qy) at_233 (pc' := 236) rfl (by decide) (by decide) (by decide) rfl rfl rfl (lenOf pd_5 rfl) (Nat.le_refl _) (by decide) (by decide) ?_
 intro v T L X q
 obtain ⟨rfl, Nq, Kq, jj⟩ := q
 replace N := N.app Nq
 replace qa := qa.keep Kq (ninS qy nin0)
 replace qb := qb.keep Kq (ninS (Ne.symm q3) nin0)
 replace qx := qx.keep Kq
 replace q9 := q9.keep Kq (ninS (Ne.symm q0) nin0)
 replace ja := ja.keep Kq (ninS (Ne.symm q0) nin0)
 replace jb := jb.keep Kq (ninS (Ne.symm q0) nin0)
 replace jo := jo.keep Kq (ninS (Ne.symm q0) nin0)
 replace jf := jf.keep Kq (ninS (Ne.symm wa) nin0)
 replace jg := jg.keep Kq (ninS (Ne.symm wb) nin0)
 replace q5 := q5.keep Kq (ninS (Ne.symm wc) nin0)
 replace jl := jl.keep Kq (ninS (Ne.symm w2) nin0)
 replace Z0 := Nat.le_trans Z0 Kq.1
 replace qc := jj
 generalize ex69 : ((((0 : Int64) ||| (((qr.toInt64) - (qh.toInt64)) <<< (x57 &&& 0x3f).toInt64)) ||| (((qs.toInt64) - (qi.toInt64)) <<< (x56 &&& 0x3f).toInt64)) ||| (((qu.toInt64) - (qk.toInt64)) <<< (x55 &&& 0x3f).toInt64)) = x69 at qc
 show Go p e below _ (T.setTop (mkF m 236 _ []))
 refine g_aload X at_236 (pc' := 238) rfl rfl rfl ?_
 refine g_aload X at_238 (pc' := 240) rfl rfl rfl ?_
 refine g_iload X at_240 (pc' := 242) rfl rfl ?_
 refine g_aload X at_242 (pc' := 244) rfl rfl rfl ?_
 refine g_virtual X (W := 0) (a := qq) (C := "com/example/ryazan/ryazan/language/Layout") [(.ref qf), (.int (2 : Int32)), (.ref qm)] [] qx (tb hw 63 rfl) (tb hw 64 rfl) (tb hw 66 rfl) (tb hw 65 rfl) (tb hw 23 rfl) (tb hw 67 rfl) (rUp02 l Z aa hw [] qq qf qm jx jy jz wl qh qi qk x57 x56 x55 x60 x59 x58 j5 j5 x69 j5 j5 j5 js jt j6 _ n0 Z0 qx q9 ja jb jo jf jg q5 jl qc qb jr (Ne.symm wq) (Ne.symm wz) (Ne.symm w0) (Ne.symm w1) (Ne.symm w3) q3) at_244 (pc' := 247) rfl (by decide) (by decide) (by decide) rfl rfl rfl (lenOf pd_6 rfl) (Nat.le_refl _) (by decide) (by decide) ?_
 intro v T L X q
 obtain ⟨rfl, Nq, Kq, jk⟩ := q
 replace N := N.app Nq
 replace qa := qa.keep Kq (ninS jq nin0)
 replace Z0 := Nat.le_trans Z0 Kq.1
 replace qb := jk
 generalize ex70 : (((((x69.toUInt64 >>> (x55 &&& 0x3f).toInt64.toUInt64).toInt64) &&& x58).toInt32) + qk) = x70 at qb
 generalize ex71 : (((((x69.toUInt64 >>> (x56 &&& 0x3f).toInt64.toUInt64).toInt64) &&& x59).toInt32) + qi) = x71 at qb
 generalize ex72 : (((((x69.toUInt64 >>> (x57 &&& 0x3f).toInt64.toUInt64).toInt64) &&& x60).toInt32) + qh) = x72 at qb
 show Go p e below _ (T.setTop (mkF m 247 _ []))
 refine g_aload X at_247 (pc' := 249) rfl rfl rfl ?_
 refine g_iconst X (0 : Int32) at_249 (pc' := 250) rfl rfl ?_
 refine g_iaload X qb 0 at_250 (pc' := 251) rfl (by decide) (by decide) rfl ?_
 refine g_aload X at_251 (pc' := 253) rfl rfl rfl ?_
 refine g_iconst X (0 : Int32) at_253 (pc' := 254) rfl rfl ?_
 refine g_iaload X qa 0 at_254 (pc' := 255) rfl (by decide) (by decide) rfl ?_
 refine g_icN X at_255 (teq (show x72 = qr from (by rw [← ex72, ← ex69, ← ex60, ← ex57, ← ex56, ← ex55]; exact got t0 b0 (by omega) c0 dn0 (three t0 t1 u2 (by omega) (by omega) (by omega) dn0 dn1 dn2).1))).2 (pc' := 258) rfl ?_
 refine g_aload X at_258 (pc' := 260) rfl rfl rfl ?_
 refine g_iconst X (1 : Int32) at_260 (pc' := 261) rfl rfl ?_
 refine g_iaload X qb 1 at_261 (pc' := 262) rfl (by decide) (by decide) rfl ?_
 refine g_aload X at_262 (pc' := 264) rfl rfl rfl ?_
 refine g_iconst X (1 : Int32) at_264 (pc' := 265) rfl rfl ?_
 refine g_iaload X qa 1 at_265 (pc' := 266) rfl (by decide) (by decide) rfl ?_
 refine g_icN X at_266 (teq (show x71 = qs from (by rw [← ex71, ← ex69, ← ex59, ← ex57, ← ex56, ← ex55]; exact got t1 b1 (by omega) c1 dn1 (three t0 t1 u2 (by omega) (by omega) (by omega) dn0 dn1 dn2).2.1))).2 (pc' := 269) rfl ?_
 refine g_aload X at_269 (pc' := 271) rfl rfl rfl ?_
 refine g_iconst X (2 : Int32) at_271 (pc' := 272) rfl rfl ?_
 refine g_iaload X qb 2 at_272 (pc' := 273) rfl (by decide) (by decide) rfl ?_
 refine g_aload X at_273 (pc' := 275) rfl rfl rfl ?_
 refine g_iconst X (2 : Int32) at_275 (pc' := 276) rfl rfl ?_
 refine g_iaload X qa 2 at_276 (pc' := 277) rfl (by decide) (by decide) rfl ?_
 refine g_icN X at_277 (teq (show x70 = qu from (by rw [← ex70, ← ex69, ← ex58, ← ex57, ← ex56, ← ex55]; exact got u2 b2 (by omega) c2 dn2 (three t0 t1 u2 (by omega) (by omega) (by omega) dn0 dn1 dn2).2.2))).2 (pc' := 280) rfl ?_
 refine g_iconst X (1 : Int32) at_280 (pc' := 281) rfl rfl ?_
 refine g_goto X at_281 (pc' := 285) (by decide) (by decide) ?_
 refine g_ireturnN X (t := .boolean) (by simp) at_285 hret hlk (by decide) (by decide) ?_
 exact ⟨rfl, N⟩
 subst hs
 show Go p e below _ (T.setTop (mkF m 225 _ []))
 refine g_aload X at_225 (pc' := 227) rfl rfl rfl ?_
 refine g_aload X at_227 (pc' := 229) rfl rfl rfl ?_
 refine g_aload X at_229 (pc' := 231) rfl rfl rfl ?_
 refine g_iload X at_231 (pc' := 233) rfl rfl ?_
 refine g_virtual X (W := 0) (a := qq) (C := "com/example/ryazan/ryazan/language/Layout") [(.ref ql), (.ref qf), (.int (3 : Int32))] [] qx (tb hw 58 rfl) (tb hw 59 rfl) (tb hw 61 rfl) (tb hw 60 rfl) (tb hw 23 rfl) (tb hw 62 rfl) (rPk03 l Z aa hw [] qq ql qf jx jy jz qh qi qk x57 x56 x55 qr qs qu j5 j5 j5 j5 j5 j5 _ n0 Z0 qx q9 ja jb wk jf jg q5 qa qc jm (Ne.symm q0) (Ne.symm wa) (Ne.symm wb) (Ne.symm wc) qy) at_233 (pc' := 236) rfl (by decide) (by decide) (by decide) rfl rfl rfl (lenOf pd_5 rfl) (Nat.le_refl _) (by decide) (by decide) ?_
 intro v T L X q
 obtain ⟨rfl, Nq, Kq, jj⟩ := q
 replace N := N.app Nq
 replace qa := qa.keep Kq (ninS qy nin0)
 replace qb := qb.keep Kq (ninS (Ne.symm q3) nin0)
 replace qx := qx.keep Kq
 replace q9 := q9.keep Kq (ninS (Ne.symm q0) nin0)
 replace ja := ja.keep Kq (ninS (Ne.symm q0) nin0)
 replace jb := jb.keep Kq (ninS (Ne.symm q0) nin0)
 replace jo := jo.keep Kq (ninS (Ne.symm q0) nin0)
 replace jf := jf.keep Kq (ninS (Ne.symm wa) nin0)
 replace jg := jg.keep Kq (ninS (Ne.symm wb) nin0)
 replace q5 := q5.keep Kq (ninS (Ne.symm wc) nin0)
 replace jl := jl.keep Kq (ninS (Ne.symm w2) nin0)
 replace Z0 := Nat.le_trans Z0 Kq.1
 replace qc := jj
 generalize ex73 : ((((0 : Int64) ||| (((qr.toInt64) - (qh.toInt64)) <<< (x57 &&& 0x3f).toInt64)) ||| (((qs.toInt64) - (qi.toInt64)) <<< (x56 &&& 0x3f).toInt64)) ||| (((qu.toInt64) - (qk.toInt64)) <<< (x55 &&& 0x3f).toInt64)) = x73 at qc
 show Go p e below _ (T.setTop (mkF m 236 _ []))
 refine g_aload X at_236 (pc' := 238) rfl rfl rfl ?_
 refine g_aload X at_238 (pc' := 240) rfl rfl rfl ?_
 refine g_iload X at_240 (pc' := 242) rfl rfl ?_
 refine g_aload X at_242 (pc' := 244) rfl rfl rfl ?_
 refine g_virtual X (W := 0) (a := qq) (C := "com/example/ryazan/ryazan/language/Layout") [(.ref qf), (.int (3 : Int32)), (.ref qm)] [] qx (tb hw 63 rfl) (tb hw 64 rfl) (tb hw 66 rfl) (tb hw 65 rfl) (tb hw 23 rfl) (tb hw 67 rfl) (rUp03 l Z aa hw [] qq qf qm jx jy jz wl qh qi qk x57 x56 x55 x60 x59 x58 j5 j5 j5 x73 j5 j5 js jt j6 _ n0 Z0 qx q9 ja jb jo jf jg q5 jl qc qb jr (Ne.symm wq) (Ne.symm wz) (Ne.symm w0) (Ne.symm w1) (Ne.symm w3) q3) at_244 (pc' := 247) rfl (by decide) (by decide) (by decide) rfl rfl rfl (lenOf pd_6 rfl) (Nat.le_refl _) (by decide) (by decide) ?_
 intro v T L X q
 obtain ⟨rfl, Nq, Kq, jk⟩ := q
 replace N := N.app Nq
 replace qa := qa.keep Kq (ninS jq nin0)
 replace Z0 := Nat.le_trans Z0 Kq.1
 replace qb := jk
 generalize ex74 : (((((x73.toUInt64 >>> (x55 &&& 0x3f).toInt64.toUInt64).toInt64) &&& x58).toInt32) + qk) = x74 at qb
 generalize ex75 : (((((x73.toUInt64 >>> (x56 &&& 0x3f).toInt64.toUInt64).toInt64) &&& x59).toInt32) + qi) = x75 at qb
 generalize ex76 : (((((x73.toUInt64 >>> (x57 &&& 0x3f).toInt64.toUInt64).toInt64) &&& x60).toInt32) + qh) = x76 at qb
 show Go p e below _ (T.setTop (mkF m 247 _ []))
 refine g_aload X at_247 (pc' := 249) rfl rfl rfl ?_
 refine g_iconst X (0 : Int32) at_249 (pc' := 250) rfl rfl ?_
 refine g_iaload X qb 0 at_250 (pc' := 251) rfl (by decide) (by decide) rfl ?_
 refine g_aload X at_251 (pc' := 253) rfl rfl rfl ?_
 refine g_iconst X (0 : Int32) at_253 (pc' := 254) rfl rfl ?_
 refine g_iaload X qa 0 at_254 (pc' := 255) rfl (by decide) (by decide) rfl ?_
 refine g_icN X at_255 (teq (show x76 = qr from (by rw [← ex76, ← ex73, ← ex60, ← ex57, ← ex56, ← ex55]; exact got t0 b0 (by omega) c0 dn0 (three t0 t1 u2 (by omega) (by omega) (by omega) dn0 dn1 dn2).1))).2 (pc' := 258) rfl ?_
 refine g_aload X at_258 (pc' := 260) rfl rfl rfl ?_
 refine g_iconst X (1 : Int32) at_260 (pc' := 261) rfl rfl ?_
 refine g_iaload X qb 1 at_261 (pc' := 262) rfl (by decide) (by decide) rfl ?_
 refine g_aload X at_262 (pc' := 264) rfl rfl rfl ?_
 refine g_iconst X (1 : Int32) at_264 (pc' := 265) rfl rfl ?_
 refine g_iaload X qa 1 at_265 (pc' := 266) rfl (by decide) (by decide) rfl ?_
 refine g_icN X at_266 (teq (show x75 = qs from (by rw [← ex75, ← ex73, ← ex59, ← ex57, ← ex56, ← ex55]; exact got t1 b1 (by omega) c1 dn1 (three t0 t1 u2 (by omega) (by omega) (by omega) dn0 dn1 dn2).2.1))).2 (pc' := 269) rfl ?_
 refine g_aload X at_269 (pc' := 271) rfl rfl rfl ?_
 refine g_iconst X (2 : Int32) at_271 (pc' := 272) rfl rfl ?_
 refine g_iaload X qb 2 at_272 (pc' := 273) rfl (by decide) (by decide) rfl ?_
 refine g_aload X at_273 (pc' := 275) rfl rfl rfl ?_
 refine g_iconst X (2 : Int32) at_275 (pc' := 276) rfl rfl ?_
 refine g_iaload X qa 2 at_276 (pc' := 277) rfl (by decide) (by decide) rfl ?_
 refine g_icN X at_277 (teq (show x74 = qu from (by rw [← ex74, ← ex73, ← ex58, ← ex57, ← ex56, ← ex55]; exact got u2 b2 (by omega) c2 dn2 (three t0 t1 u2 (by omega) (by omega) (by omega) dn0 dn1 dn2).2.2))).2 (pc' := 280) rfl ?_
 refine g_iconst X (1 : Int32) at_280 (pc' := 281) rfl rfl ?_
 refine g_goto X at_281 (pc' := 285) (by decide) (by decide) ?_
 refine g_ireturnN X (t := .boolean) (by simp) at_285 hret hlk (by decide) (by decide) ?_
 exact ⟨rfl, N⟩
set_option maxRecDepth 65536 in
set_option maxHeartbeats 40000000 in
theorem comes_1 {Post : Tables → Env → Array Value → State → Outcome → State → Prop} (hpost : ∀ tb e args s v u, (limb_1_1.after args s (.returned v) u = true ∧ limb_1_2.after args s (.returned v) u = true ∧ True) → FrameEnd s (.returned v) u (Jvm.fieldLocs frame_1_writes args s ++ Jvm.arrayLocs frame_1_arrays args s ++ Jvm.staticLocs frame_1_statics s) 32 192 → Post tb e args s (.returned v) u) :
    ArmFor flags0 classFile x code maxLocals ret World_1 tables_1 room_1 Calls_1 rest_1 Pre_1 Post := by
  intro l hfl _ _ p e ha hc hk s m args below hf hA hF happ hP
  obtain ⟨hcalls, hrest, hpre⟩ := hP
  obtain ⟨-, -, -, hnamed, -, -, -, hat⟩ := (Spec.applies_iff hf).mp happ
  obtain ⟨hg, hn⟩ := and_e (Cond.before_iff.mp (show (Jvm.Cond.and given_1 narrow_1).before args s = true from hpre))
  obtain ⟨g1, g2⟩ := and_e hg
  obtain ⟨g3, g4⟩ := and_e g2
  obtain ⟨g5, g6⟩ := and_e g4
  obtain ⟨g7, g8⟩ := and_e g6
  obtain ⟨g9, g10⟩ := and_e g8
  obtain ⟨g11, g12⟩ := and_e g10
  obtain ⟨w0, w1, w2, w3, w4, w5, rfl⟩ : ∃ w0 w1 w2 w3 w4 w5 : Value, args = #[w0, w1, w2, w3, w4, w5] := by
    have hs : args.size = 6 := by simpa [Cond.value, given_1] using g1
    obtain ⟨L⟩ := args
    match L, hs with
    | [w0, w1, w2, w3, w4, w5], _ => exact ⟨w0, w1, w2, w3, w4, w5, rfl⟩
  have hw := fun d (hd : d ∈ tables_1) => atoms_spec (ws := Jvm.Cond.code x code maxLocals ret :: tables_1) hat d (List.mem_cons_of_mem _ hd)
  have hfit : Fit s := fun {y c} hc i hi => by
    obtain ⟨ha, rfl⟩ := Array.getElem?_eq_some_iff.mp hc
    have q := List.all_eq_true.mp ((Array.all_eq_true_iff_forall_mem.mp hF) _ (Array.getElem_mem ha)) i (List.mem_range.mpr hi)
    simpa [Array.getElem?_eq_getElem hi] using q
  obtain ⟨i0, ei0⟩ := isL_v g3
  obtain rfl : w0 = (.long i0) := Option.some.inj ei0
  obtain ⟨i1, ei1⟩ := isL_v g5
  obtain rfl : w1 = (.long i1) := Option.some.inj ei1
  obtain ⟨i2, ei2⟩ := isL_v g7
  obtain rfl : w2 = (.long i2) := Option.some.inj ei2
  obtain ⟨i3, ei3⟩ := isL_v g9
  obtain rfl : w3 = (.long i3) := Option.some.inj ei3
  obtain ⟨i4, ei4⟩ := isL_v g11
  obtain rfl : w4 = (.long i4) := Option.some.inj ei4
  obtain ⟨i5, ei5⟩ := isL_v g12
  obtain rfl : w5 = (.long i5) := Option.some.inj ei5
  obtain ⟨n, o, h1, h2, h3, _, L, rfl, ⟨rfl, N⟩, hq⟩ := rLaw l s _ hw tables_1 i0 i1 i2 i3 i4 i5 s.heap s.heap.size (Nat.le_refl _) p e ha hc hk s m _ below hf ((Spec.applies_iff_loose hf).mp happ).1 ⟨rfl, State.Warmed39.refl s, rfl⟩ trivial
  refine ⟨n, _, h1, h2, h3, hpost _ _ _ _ _ _ ⟨Cond.after_iff.mpr rfl, Cond.after_iff.mpr (eq_i res_at (Term.int_eval (1)) rfl), trivial⟩ ⟨hq.1, hq.2.1, (hq.2.2.sift fun y hy => Or.inr (N y hy)).mono (by decide) (by decide)⟩⟩
theorem main_1_1 : Claimed_1_1 := comes_1 fun _ _ _ _ _ _ h hF => ⟨h.1, hF⟩
theorem main_1_2 : Claimed_1_2 := comes_1 fun _ _ _ _ _ _ h hF => ⟨h.2.1, hF⟩

end Jvm.Pilot.@@N@@
namespace Jvm.Pilot.@@N@@
open Jvm Jvm.ClassFile Sem Op Lib Jvm.Free Jvm.Stand Jvm.Pilot.@@N@@.Jvm.D
/-! MADE BY PROGRAM (witnessworld.py) out of the Statement's table words and the real class files: 18 classes; the members and pool entries that the words name. The judged class is class 1, her method 4. -/
namespace start1
open Jvm.ClassFile
def u (s : String) : CpInfo := .utf8 (stringToUtf16 s)
/-- a pool by its gaps: so many unusable entries, then the entry; so many at the end -/
def gap : Nat → List CpInfo → List CpInfo
  | 0, r => r
  | n + 1, r => .unusable :: gap n r
def poolList (es : List (Nat × CpInfo)) (last : Nat) : List CpInfo := es.foldr (fun e r => gap e.1 (e.2 :: r)) (gap last [])
def pool (es : List (Nat × CpInfo)) (last : Nat) : Array CpInfo := ⟨poolList es last⟩
def fileOf (pool : Array CpInfo) (this : Nat) (attrs : Array Attribute := #[]) (ms : Array MethodInfo := #[]) (fl : Nat := 33) (sup : Nat := 0) (ifs : Array Nat := #[]) (fds : Array FieldInfo := #[]) : ClassFile where
  minorVersion := 0
  majorVersion := 65
  constantPool := pool
  accessFlags := fl
  thisClass := this
  superClass := sup
  interfaces := ifs
  fields := fds
  methods := ms
  attributes := attrs
def plain (name : String) (sup : Option ClassId) : Class where
  name := name
  kind := .ordinary
  loader := none
  accessFlags := 33
  super := sup
  interfaces := #[]
  cf := none
  fields := #[]
  methods := #[]
  instanceTypes := #[]
  staticTypes := #[]
  resolved := #[]
  callSites := []
  init := .initialized
  statics := none
  mirror := none

def pool0 : Array CpInfo := pool [(5, u "<init>"), (0, u "()V"), (1, .class_ 10), (1, u "java/lang/Object"), (85, u "clone"), (0, u "()Ljava/lang/Object;")] 26

def k0c0 : Code := { maxStack := 0, maxLocals := 1, code := object_method_1_code, exceptionTable := #[], attributes := #[] }
def k0m0 : Method := { name := "<init>", desc := "()V", sig := { parameters := [], returnType := none }, accessFlags := 1, code := some k0c0 }
def k0m1 : Method := { name := "clone", desc := "()Ljava/lang/Object;", sig := { parameters := [], returnType := some (.object "java/lang/Object") }, accessFlags := 260, code := none }
/-- java/lang/Object -/
def k0 : Class := { plain "java/lang/Object" none with
  accessFlags := 33
  interfaces := #[]
  cf := some (fileOf pool0 8 #[] #[{ accessFlags := 1, nameIndex := 5, descriptorIndex := 6, attributes := #[] }, { accessFlags := 260, nameIndex := 96, descriptorIndex := 97, attributes := #[] }] 33 0 #[] #[])
  fields := #[]
  methods := #[k0m0, k0m1]
  instanceTypes := #[]
  staticTypes := #[]
  resolved := Array.replicate 124 none
  statics := none }

def pool1 : Array CpInfo := pool [(2, .class_ 4), (1, u "java/lang/Object"), (0, u "<init>"), (0, u "()V"), (0, .methodref 8 9), (0, .class_ 10), (0, .nameAndType 11 12), (0, u "java/lang/Math"), (0, u "min"), (0, u "(II)I"), (0, .methodref 8 14), (0, .nameAndType 15 12), (0, u "max"), (0, .methodref 17 18), (0, .class_ 19), (0, .nameAndType 20 21), (0, u "com/example/ryazan/ryazan/language/LayoutUnpackPinLaw"), (0, u "lo"), (0, u "(J)I"), (0, .methodref 17 23), (0, .nameAndType 24 21), (0, u "hi"), (0, .methodref 17 26), (0, .nameAndType 27 28), (0, u "pick"), (0, u "(IIJ)I"), (0, .long 4294967295), (1, .long 3), (1, .class_ 34), (0, u "com/example/ryazan/ryazan/language/Layout"), (0, .methodref 33 36), (0, .nameAndType 5 37), (0, u "([I[I)V"), (0, .methodref 33 39), (0, .nameAndType 40 41), (0, u "pack"), (0, u "([I[JI)V"), (0, .methodref 33 43), (0, .nameAndType 44 45), (0, u "unpack"), (0, u "([JI[I)V"), (2, u "law"), (0, u "(JJJJJJ)Z")] 7

def k1m0 : Method := { name := "<init>", desc := "()V", sig := { parameters := [], returnType := none }, accessFlags := 1, code := none }
def k1c1 : Code := { maxStack := 3, maxLocals := 2, code := method_2_code, exceptionTable := #[], attributes := #[] }
def k1m1 : Method := { name := "lo", desc := "(J)I", sig := { parameters := [.long], returnType := some .int }, accessFlags := 10, code := some k1c1 }
def k1c2 : Code := { maxStack := 3, maxLocals := 2, code := method_3_code, exceptionTable := #[], attributes := #[] }
def k1m2 : Method := { name := "hi", desc := "(J)I", sig := { parameters := [.long], returnType := some .int }, accessFlags := 10, code := some k1c2 }
def k1c3 : Code := { maxStack := 8, maxLocals := 6, code := method_4_code, exceptionTable := #[], attributes := #[] }
def k1m3 : Method := { name := "pick", desc := "(IIJ)I", sig := { parameters := [.int, .int, .long], returnType := some .int }, accessFlags := 10, code := some k1c3 }
def k1c4 : Code := { maxStack := 8, maxLocals := 19, code := code, exceptionTable := #[], attributes := #[] }
def k1m4 : Method := { name := "law", desc := "(JJJJJJ)Z", sig := { parameters := [.long, .long, .long, .long, .long, .long], returnType := some .boolean }, accessFlags := 9, code := some k1c4 }
/-- com/example/ryazan/ryazan/language/LayoutUnpackPinLaw -/
def k1 : Class := { plain "com/example/ryazan/ryazan/language/LayoutUnpackPinLaw" (some 0) with
  accessFlags := 49
  interfaces := #[]
  cf := some (fileOf pool1 17 #[] #[{ accessFlags := 1, nameIndex := 5, descriptorIndex := 6, attributes := #[] }, { accessFlags := 10, nameIndex := 20, descriptorIndex := 21, attributes := #[] }, { accessFlags := 10, nameIndex := 24, descriptorIndex := 21, attributes := #[] }, { accessFlags := 10, nameIndex := 27, descriptorIndex := 28, attributes := #[] }, { accessFlags := 9, nameIndex := 48, descriptorIndex := 49, attributes := #[] }] 49 2 #[] #[])
  fields := #[]
  methods := #[k1m0, k1m1, k1m2, k1m3, k1m4]
  instanceTypes := #[]
  staticTypes := #[]
  resolved := Array.replicate 57 none
  statics := none }

def pool2 : Array CpInfo := pool [(1, .class_ 2), (0, u "java/lang/Math"), (1, .class_ 6), (1, u "java/lang/Object"), (0, u "<init>"), (0, u "()V"), (89, .class_ 100), (1, u "java/lang/Math$RandomNumberGeneratorHolder"), (71, u "negativeZeroFloatBits"), (0, u "J"), (2, u "negativeZeroDoubleBits"), (21, u "max"), (2, u "min"), (43, u "$assertionsDisabled"), (0, u "Z"), (88, u "(II)I"), (2, u "twoToTheDoubleScaleDown"), (0, u "D"), (4, u "twoToTheDoubleScaleUp"), (9, u "E"), (3, u "PI"), (2, u "TAU"), (2, u "DEGREES_TO_RADIANS"), (0, u "RADIANS_TO_DEGREES")] 94

def k2m0 : Method := { name := "<init>", desc := "()V", sig := { parameters := [], returnType := none }, accessFlags := 2, code := none }
def k2c1 : Code := { maxStack := 2, maxLocals := 2, code := jdk_29_method_65_code, exceptionTable := #[], attributes := #[] }
def k2m1 : Method := { name := "max", desc := "(II)I", sig := { parameters := [.int, .int], returnType := some .int }, accessFlags := 9, code := some k2c1 }
def k2c2 : Code := { maxStack := 2, maxLocals := 2, code := jdk_29_method_69_code, exceptionTable := #[], attributes := #[] }
def k2m2 : Method := { name := "min", desc := "(II)I", sig := { parameters := [.int, .int], returnType := some .int }, accessFlags := 9, code := some k2c2 }
/-- java/lang/Math -/
def k2 : Class := { plain "java/lang/Math" (some 0) with
  accessFlags := 49
  interfaces := #[]
  cf := some (fileOf pool2 1 #[.nestMembers #[98]] #[{ accessFlags := 2, nameIndex := 7, descriptorIndex := 8, attributes := #[] }, { accessFlags := 9, nameIndex := 198, descriptorIndex := 335, attributes := #[] }, { accessFlags := 9, nameIndex := 201, descriptorIndex := 335, attributes := #[] }] 49 4 #[] #[{ accessFlags := 25, nameIndex := 354, descriptorIndex := 339, attributes := #[] }, { accessFlags := 25, nameIndex := 358, descriptorIndex := 339, attributes := #[] }, { accessFlags := 25, nameIndex := 361, descriptorIndex := 339, attributes := #[] }, { accessFlags := 26, nameIndex := 364, descriptorIndex := 339, attributes := #[] }, { accessFlags := 26, nameIndex := 365, descriptorIndex := 339, attributes := #[] }, { accessFlags := 26, nameIndex := 172, descriptorIndex := 173, attributes := #[] }, { accessFlags := 26, nameIndex := 176, descriptorIndex := 173, attributes := #[] }, { accessFlags := 8, nameIndex := 344, descriptorIndex := 339, attributes := #[] }, { accessFlags := 8, nameIndex := 338, descriptorIndex := 339, attributes := #[] }, { accessFlags := 4120, nameIndex := 245, descriptorIndex := 246, attributes := #[] }])
  fields := #[{ name := "E", type := .double, accessFlags := 25, slot := 0, constantValue := 0 }, { name := "PI", type := .double, accessFlags := 25, slot := 1, constantValue := 0 }, { name := "TAU", type := .double, accessFlags := 25, slot := 2, constantValue := 0 }, { name := "DEGREES_TO_RADIANS", type := .double, accessFlags := 26, slot := 3, constantValue := 0 }, { name := "RADIANS_TO_DEGREES", type := .double, accessFlags := 26, slot := 4, constantValue := 0 }, { name := "negativeZeroFloatBits", type := .long, accessFlags := 26, slot := 5, constantValue := 0 }, { name := "negativeZeroDoubleBits", type := .long, accessFlags := 26, slot := 6, constantValue := 0 }, { name := "twoToTheDoubleScaleUp", type := .double, accessFlags := 8, slot := 7, constantValue := 0 }, { name := "twoToTheDoubleScaleDown", type := .double, accessFlags := 8, slot := 8, constantValue := 0 }, { name := "$assertionsDisabled", type := .boolean, accessFlags := 4120, slot := 9, constantValue := 0 }]
  methods := #[k2m0, k2m1, k2m2]
  instanceTypes := #[]
  staticTypes := #[.double, .double, .double, .double, .double, .long, .long, .double, .double, .boolean]
  resolved := Array.replicate 460 none
  statics := none }

def pool3 : Array CpInfo := pool [(1, .methodref 2 3), (0, .class_ 4), (0, .nameAndType 5 6), (0, u "java/lang/Object"), (0, u "<init>"), (0, u "()V"), (0, .methodref 8 9), (0, .class_ 10), (0, .nameAndType 11 12), (0, u "[I"), (0, u "clone"), (0, u "()Ljava/lang/Object;"), (0, .fieldref 14 15), (0, .class_ 16), (0, .nameAndType 17 10), (0, u "com/example/ryazan/ryazan/language/Layout"), (0, u "low"), (0, .fieldref 14 19), (0, .nameAndType 20 10), (0, u "word"), (0, .fieldref 14 22), (0, .nameAndType 23 10), (0, u "shift"), (0, .fieldref 14 25), (0, .nameAndType 26 27), (0, u "mask"), (0, u "[J"), (0, .class_ 29), (0, u "java/lang/Long"), (0, .methodref 28 31), (0, .nameAndType 32 33), (0, u "numberOfLeadingZeros"), (0, u "(J)I"), (0, .fieldref 14 35), (0, .nameAndType 36 37), (0, u "width"), (0, u "I"), (4, u "([I[I)V"), (4, u "pack"), (0, u "([I[JI)V"), (0, u "unpack"), (0, u "([JI[I)V")] 4

def k3c0 : Code := { maxStack := 6, maxLocals := 9, code := prog_58_method_1_code, exceptionTable := #[], attributes := #[] }
def k3m0 : Method := { name := "<init>", desc := "([I[I)V", sig := { parameters := [(.array .int), (.array .int)], returnType := none }, accessFlags := 0, code := some k3c0 }
def k3c1 : Code := { maxStack := 8, maxLocals := 5, code := prog_58_method_3_code, exceptionTable := #[], attributes := #[] }
def k3m1 : Method := { name := "pack", desc := "([I[JI)V", sig := { parameters := [(.array .int), (.array .long), .int], returnType := none }, accessFlags := 0, code := some k3c1 }
def k3c2 : Code := { maxStack := 6, maxLocals := 5, code := prog_58_method_4_code, exceptionTable := #[], attributes := #[] }
def k3m2 : Method := { name := "unpack", desc := "([JI[I)V", sig := { parameters := [(.array .long), .int, (.array .int)], returnType := none }, accessFlags := 0, code := some k3c2 }
/-- com/example/ryazan/ryazan/language/Layout -/
def k3 : Class := { plain "com/example/ryazan/ryazan/language/Layout" (some 0) with
  accessFlags := 32
  interfaces := #[]
  cf := some (fileOf pool3 14 #[] #[{ accessFlags := 0, nameIndex := 5, descriptorIndex := 42, attributes := #[] }, { accessFlags := 0, nameIndex := 47, descriptorIndex := 48, attributes := #[] }, { accessFlags := 0, nameIndex := 49, descriptorIndex := 50, attributes := #[] }] 32 2 #[] #[{ accessFlags := 18, nameIndex := 17, descriptorIndex := 10, attributes := #[] }, { accessFlags := 18, nameIndex := 20, descriptorIndex := 10, attributes := #[] }, { accessFlags := 18, nameIndex := 23, descriptorIndex := 10, attributes := #[] }, { accessFlags := 18, nameIndex := 26, descriptorIndex := 27, attributes := #[] }, { accessFlags := 18, nameIndex := 36, descriptorIndex := 37, attributes := #[] }])
  fields := #[{ name := "low", type := (.array .int), accessFlags := 18, slot := 0, constantValue := 0 }, { name := "word", type := (.array .int), accessFlags := 18, slot := 1, constantValue := 0 }, { name := "shift", type := (.array .int), accessFlags := 18, slot := 2, constantValue := 0 }, { name := "mask", type := (.array .long), accessFlags := 18, slot := 3, constantValue := 0 }, { name := "width", type := .int, accessFlags := 18, slot := 4, constantValue := 0 }]
  methods := #[k3m0, k3m1, k3m2]
  instanceTypes := #[(.array .int), (.array .int), (.array .int), (.array .long), .int]
  staticTypes := #[]
  resolved := Array.replicate 55 none
  statics := none }

def pool4 : Array CpInfo := pool [(1, .class_ 2), (0, u "java/lang/Cloneable"), (0, .class_ 4), (0, u "java/lang/Object")] 2

/-- java/lang/Cloneable -/
def k4 : Class := { plain "java/lang/Cloneable" (some 0) with
  accessFlags := 1537
  interfaces := #[]
  cf := some (fileOf pool4 1 #[] #[] 1537 3 #[] #[])
  fields := #[]
  methods := #[]
  instanceTypes := #[]
  staticTypes := #[]
  resolved := Array.replicate 7 none
  statics := none }

def pool5 : Array CpInfo := pool [(1, .class_ 2), (0, u "java/io/Serializable"), (0, .class_ 4), (0, u "java/lang/Object")] 2

/-- java/io/Serializable -/
def k5 : Class := { plain "java/io/Serializable" (some 0) with
  accessFlags := 1537
  interfaces := #[]
  cf := some (fileOf pool5 1 #[] #[] 1537 3 #[] #[])
  fields := #[]
  methods := #[]
  instanceTypes := #[]
  staticTypes := #[]
  resolved := Array.replicate 7 none
  statics := none }

def pool6 : Array CpInfo := pool [(2, .class_ 4), (1, u "java/lang/Object"), (0, u "<init>"), (0, u "()V"), (1, .class_ 10), (1, u "java/lang/Number"), (2, .class_ 14), (0, u "java/io/Serializable"), (0, u "serialVersionUID"), (0, u "J")] 20

def k6m0 : Method := { name := "<init>", desc := "()V", sig := { parameters := [], returnType := none }, accessFlags := 1, code := none }
/-- java/lang/Number -/
def k6 : Class := { plain "java/lang/Number" (some 0) with
  accessFlags := 1057
  interfaces := #[5]
  cf := some (fileOf pool6 8 #[] #[{ accessFlags := 1, nameIndex := 5, descriptorIndex := 6, attributes := #[] }] 1057 2 #[13] #[{ accessFlags := 26, nameIndex := 15, descriptorIndex := 16, attributes := #[] }])
  fields := #[{ name := "serialVersionUID", type := .long, accessFlags := 26, slot := 0, constantValue := 0 }]
  methods := #[k6m0]
  instanceTypes := #[]
  staticTypes := #[.long]
  resolved := Array.replicate 37 none
  statics := none }

def pool7 : Array CpInfo := pool [(1, .class_ 2), (0, u "java/lang/Comparable"), (0, .class_ 4), (0, u "java/lang/Object")] 7

/-- java/lang/Comparable -/
def k7 : Class := { plain "java/lang/Comparable" (some 0) with
  accessFlags := 1537
  interfaces := #[]
  cf := some (fileOf pool7 1 #[] #[] 1537 3 #[] #[])
  fields := #[]
  methods := #[]
  instanceTypes := #[]
  staticTypes := #[]
  resolved := Array.replicate 12 none
  statics := none }

def pool8 : Array CpInfo := pool [(1, .class_ 2), (0, u "java/lang/constant/Constable"), (0, .class_ 4), (0, u "java/lang/Object")] 6

/-- java/lang/constant/Constable -/
def k8 : Class := { plain "java/lang/constant/Constable" (some 0) with
  accessFlags := 1537
  interfaces := #[]
  cf := some (fileOf pool8 1 #[] #[] 1537 3 #[] #[])
  fields := #[]
  methods := #[]
  instanceTypes := #[]
  staticTypes := #[]
  resolved := Array.replicate 11 none
  statics := none }

def pool9 : Array CpInfo := pool [(1, .class_ 2), (0, u "java/lang/constant/ConstantDesc"), (0, .class_ 4), (0, u "java/lang/Object")] 32

/-- java/lang/constant/ConstantDesc -/
def k9 : Class := { plain "java/lang/constant/ConstantDesc" (some 0) with
  accessFlags := 1537
  interfaces := #[]
  cf := some (fileOf pool9 1 #[] #[] 1537 3 #[] #[])
  fields := #[]
  methods := #[]
  instanceTypes := #[]
  staticTypes := #[]
  resolved := Array.replicate 37 none
  statics := none }

def pool10 : Array CpInfo := pool [(1, .class_ 2), (0, u "java/lang/Long"), (15, .class_ 20), (1, u "java/lang/Integer"), (79, u "numberOfLeadingZeros"), (0, u "(J)I"), (133, .class_ 237), (1, u "java/lang/Long$LongCache"), (33, .class_ 272), (0, u "java/lang/Number"), (2, u "value"), (0, u "J"), (31, .methodref 18 309), (0, .nameAndType 100 310), (0, u "(I)I"), (50, u "TYPE"), (0, u "Ljava/lang/Class;"), (0, .class_ 364), (0, u "java/lang/Comparable"), (0, .class_ 366), (0, u "java/lang/constant/Constable"), (0, .class_ 368), (0, u "java/lang/constant/ConstantDesc"), (0, u "MIN_VALUE"), (1, u "MAX_VALUE"), (4, u "SIZE"), (0, u "I"), (1, u "BYTES"), (1, u "serialVersionUID")] 142

def k10c0 : Code := { maxStack := 3, maxLocals := 3, code := jdk_35_method_48_code, exceptionTable := #[], attributes := #[] }
def k10m0 : Method := { name := "numberOfLeadingZeros", desc := "(J)I", sig := { parameters := [.long], returnType := some .int }, accessFlags := 9, code := some k10c0 }
/-- java/lang/Long -/
def k10 : Class := { plain "java/lang/Long" (some 6) with
  accessFlags := 49
  interfaces := #[7, 8, 9]
  cf := some (fileOf pool10 1 #[.nestMembers #[235]] #[{ accessFlags := 9, nameIndex := 100, descriptorIndex := 101, attributes := #[] }] 49 271 #[363, 365, 367] #[{ accessFlags := 25, nameIndex := 369, descriptorIndex := 276, attributes := #[] }, { accessFlags := 25, nameIndex := 371, descriptorIndex := 276, attributes := #[] }, { accessFlags := 25, nameIndex := 361, descriptorIndex := 362, attributes := #[] }, { accessFlags := 18, nameIndex := 275, descriptorIndex := 276, attributes := #[] }, { accessFlags := 25, nameIndex := 376, descriptorIndex := 377, attributes := #[] }, { accessFlags := 25, nameIndex := 379, descriptorIndex := 377, attributes := #[] }, { accessFlags := 26, nameIndex := 381, descriptorIndex := 276, attributes := #[] }])
  fields := #[{ name := "MIN_VALUE", type := .long, accessFlags := 25, slot := 0, constantValue := 0 }, { name := "MAX_VALUE", type := .long, accessFlags := 25, slot := 1, constantValue := 0 }, { name := "TYPE", type := (.object "java/lang/Class"), accessFlags := 25, slot := 2, constantValue := 0 }, { name := "value", type := .long, accessFlags := 18, slot := 0, constantValue := 0 }, { name := "SIZE", type := .int, accessFlags := 25, slot := 3, constantValue := 0 }, { name := "BYTES", type := .int, accessFlags := 25, slot := 4, constantValue := 0 }, { name := "serialVersionUID", type := .long, accessFlags := 26, slot := 5, constantValue := 0 }]
  methods := #[k10m0]
  instanceTypes := #[.long]
  staticTypes := #[.long, .long, (.object "java/lang/Class"), .int, .int, .long]
  resolved := Array.replicate 524 none
  statics := none }

def pool11 : Array CpInfo := pool [(1, .class_ 2), (0, u "java/lang/Integer"), (16, u "digits"), (0, u "[C"), (32, u "numberOfLeadingZeros"), (0, u "(I)I"), (30, u "DigitOnes"), (0, u "[B"), (2, u "DigitTens"), (99, .class_ 190), (0, u "java/lang/Integer$IntegerCache"), (3, u "I"), (8, .class_ 204), (0, u "java/lang/Number"), (2, u "value"), (56, .integer 65536), (37, u "TYPE"), (0, u "Ljava/lang/Class;"), (0, .class_ 305), (0, u "java/lang/Comparable"), (0, .class_ 307), (0, u "java/lang/constant/Constable"), (0, .class_ 309), (0, u "java/lang/constant/ConstantDesc"), (0, u "MIN_VALUE"), (1, u "MAX_VALUE"), (3, u "SIZE"), (1, u "BYTES"), (1, u "serialVersionUID"), (0, u "J")] 131

def k11c0 : Code := { maxStack := 3, maxLocals := 2, code := jdk_33_method_47_code, exceptionTable := #[], attributes := #[] }
def k11m0 : Method := { name := "numberOfLeadingZeros", desc := "(I)I", sig := { parameters := [.int], returnType := some .int }, accessFlags := 9, code := some k11c0 }
/-- java/lang/Integer -/
def k11 : Class := { plain "java/lang/Integer" (some 6) with
  accessFlags := 49
  interfaces := #[7, 8, 9]
  cf := some (fileOf pool11 1 #[.nestMembers #[189]] #[{ accessFlags := 9, nameIndex := 53, descriptorIndex := 54, attributes := #[] }] 49 203 #[304, 306, 308] #[{ accessFlags := 25, nameIndex := 310, descriptorIndex := 194, attributes := #[] }, { accessFlags := 25, nameIndex := 312, descriptorIndex := 194, attributes := #[] }, { accessFlags := 25, nameIndex := 302, descriptorIndex := 303, attributes := #[] }, { accessFlags := 24, nameIndex := 19, descriptorIndex := 20, attributes := #[] }, { accessFlags := 24, nameIndex := 89, descriptorIndex := 86, attributes := #[] }, { accessFlags := 24, nameIndex := 85, descriptorIndex := 86, attributes := #[] }, { accessFlags := 18, nameIndex := 207, descriptorIndex := 194, attributes := #[] }, { accessFlags := 25, nameIndex := 316, descriptorIndex := 194, attributes := #[] }, { accessFlags := 25, nameIndex := 318, descriptorIndex := 194, attributes := #[] }, { accessFlags := 26, nameIndex := 320, descriptorIndex := 321, attributes := #[] }])
  fields := #[{ name := "MIN_VALUE", type := .int, accessFlags := 25, slot := 0, constantValue := 0 }, { name := "MAX_VALUE", type := .int, accessFlags := 25, slot := 1, constantValue := 0 }, { name := "TYPE", type := (.object "java/lang/Class"), accessFlags := 25, slot := 2, constantValue := 0 }, { name := "digits", type := (.array .char), accessFlags := 24, slot := 3, constantValue := 0 }, { name := "DigitTens", type := (.array .byte), accessFlags := 24, slot := 4, constantValue := 0 }, { name := "DigitOnes", type := (.array .byte), accessFlags := 24, slot := 5, constantValue := 0 }, { name := "value", type := .int, accessFlags := 18, slot := 0, constantValue := 0 }, { name := "SIZE", type := .int, accessFlags := 25, slot := 6, constantValue := 0 }, { name := "BYTES", type := .int, accessFlags := 25, slot := 7, constantValue := 0 }, { name := "serialVersionUID", type := .long, accessFlags := 26, slot := 8, constantValue := 0 }]
  methods := #[k11m0]
  instanceTypes := #[.int]
  staticTypes := #[.int, .int, (.object "java/lang/Class"), (.array .char), (.array .byte), (.array .byte), .int, .int, .long]
  resolved := Array.replicate 453 none
  statics := none }

/-- the primitive byte -/
def k12 : Class := { plain "byte" none with kind := .primitive 'B', accessFlags := 0x411 }
/-- [B -/
def k13 : Class := { plain "[B" (some 0) with kind := .array 12 .byte, interfaces := #[4, 5], accessFlags := 1041 }

/-- the primitive int -/
def k14 : Class := { plain "int" none with kind := .primitive 'I', accessFlags := 0x411 }
/-- [I -/
def k15 : Class := { plain "[I" (some 0) with kind := .array 14 .int, interfaces := #[4, 5], accessFlags := 1041 }

/-- the primitive long -/
def k16 : Class := { plain "long" none with kind := .primitive 'J', accessFlags := 0x411 }
/-- [J -/
def k17 : Class := { plain "[J" (some 0) with kind := .array 16 .long, interfaces := #[4, 5], accessFlags := 1041 }

def heap : Heap := #[]
def classes : Array Class := #[k0, k1, k2, k3, k4, k5, k6, k7, k8, k9, k10, k11, k12, k13, k14, k15, k16, k17]
def interned : List (Array UInt16 × Addr) := []
def slotsUsed : Nat := 0
def theMethod : MethodId := ⟨1, 4⟩
def args0 : Array Value := #[.long 5, .long 7, .long 3, .long 9, .long 4, .long 8]
def aboutOver (below : List Frame) : State where
  vm := { classes := classes, interned := interned.toArray }
  heap := heap
  slotsUsed := slotsUsed
  threads := #[{ frames := .invoking theMethod args0 :: below }]
def below0 : List Frame := [.native { method := ⟨0, 0⟩, args := #[] }]
def about1 : State := aboutOver below0
def p0 : Program := .bare "" "" ""
def e0 : Env := launch0.env 0 0 0
theorem w_frames : about1.frames = Frame.invoking theMethod args0 :: below0 := rfl
set_option maxRecDepth 65536 in
theorem w_args : argsFit about1.vm theMethod args0 = true := by decide +kernel
set_option maxRecDepth 65536 in
theorem w_heap : heapFits about1 = true := by decide +kernel
set_option maxRecDepth 65536 in
theorem w_runnable : about1.curStatus? = some .runnable := by decide +kernel
set_option maxRecDepth 65536 in
theorem w_alone : about1.alone = true := by decide +kernel
set_option maxRecDepth 65536 in
theorem w_named : about1.methodNamed? x = some theMethod := by decide +kernel
set_option maxRecDepth 65536 in
theorem w_hears : about1.hears theMethod below0 = true := by decide +kernel
set_option maxRecDepth 65536 in
theorem w_ripe : about1.ripe theMethod args0 below0 = true := by decide +kernel
theorem w_running : about1.status = .running := rfl
set_option maxRecDepth 65536 in
theorem w_room : about1.hasRoom e0.platform room_1 = true :=
  launch0.hasRoom_least _ room_1 (by decide +kernel) (by decide +kernel) (by decide +kernel) (by decide +kernel) (by decide +kernel) (by decide +kernel)
theorem allAtoms_all (ts : List Jvm.Cond) (a : Array Jvm.Value) (st : Jvm.State) : (allAtoms ts).before a st = ts.all (fun c => c.before a st) := by
  induction ts with
  | nil => rfl
  | cons c t ih =>
    show (Jvm.Cond.and c (allAtoms t)).before a st = _
    rw [Jvm.Cond.before_and, ih, List.all_cons]
def words1 : List Jvm.Cond := Jvm.Cond.code x code maxLocals ret :: tables_1
/-- a 'code' word, met by the world's own term for the bytes: nothing is compared byte by byte -/
theorem code_word {y : MethodName} {bytes : ByteArray} {mx : Nat} {rt : Option FieldType} {a : Array Value} {s : State} {m : MethodId} {meth : Method} {c : Code} (h1 : s.methodNamed? y = some m) (h2 : s.vm.method? m = some meth) (h3 : meth.code = some c) (h4 : c.code = bytes)
    (h5 : (c.maxLocals == mx && c.exceptionTable.isEmpty && decide (c.maxStack ≤ mostOperands) && decide (meth.sig.returnType = rt) && !meth.locks && decide (parseMethodDescriptor y.desc = some meth.sig)) = true) : (Jvm.Cond.code y bytes mx rt).before a s = true := by
  simp only [Bool.and_eq_true, beq_iff_eq, Bool.not_eq_true', decide_eq_true_eq] at h5
  obtain ⟨⟨⟨⟨⟨g1, g2⟩, g3⟩, g4⟩, g5⟩, g6⟩ := h5
  simp [Cond.before, Cond.holds, Cond.value, h1, h2, h3, h4, g1, g2, g3, g4, g5, g6]
def isCode : Jvm.Cond → Bool
  | .code _ _ _ _ => true
  | _ => false
theorem all_split {L : List Jvm.Cond} {P : Jvm.Cond → Bool} (h1 : L.all (fun c => isCode c || P c) = true) (h2 : ∀ c ∈ L.filter isCode, P c = true) : L.all P = true := by
  refine List.all_eq_true.mpr fun c hc => ?_
  have h := List.all_eq_true.mp h1 c hc
  rcases Bool.eq_false_or_eq_true (isCode c) with hi | hi
  · exact h2 c (List.mem_filter.mpr ⟨hc, hi⟩)
  · simpa [hi] using h
set_option maxRecDepth 65536 in
theorem w_c0 : (Jvm.Cond.code x code maxLocals ret).before args0 about1 = true := code_word (m := ⟨1, 4⟩) (meth := k1m4) (c := k1c4) (by decide +kernel) rfl rfl rfl (by decide +kernel)
set_option maxRecDepth 65536 in
theorem w_c1 : (Jvm.Cond.code ({ cls := "com/example/ryazan/ryazan/language/LayoutUnpackPinLaw", name := "lo", desc := "(J)I" } : Jvm.MethodName) method_2_code (2 : Nat) (Option.some Jvm.ClassFile.FieldType.int)).before args0 about1 = true := code_word (m := ⟨1, 1⟩) (meth := k1m1) (c := k1c1) (by decide +kernel) rfl rfl rfl (by decide +kernel)
set_option maxRecDepth 65536 in
theorem w_c2 : (Jvm.Cond.code ({ cls := "java/lang/Math", name := "min", desc := "(II)I" } : Jvm.MethodName) jdk_29_method_69_code (2 : Nat) (Option.some Jvm.ClassFile.FieldType.int)).before args0 about1 = true := code_word (m := ⟨2, 2⟩) (meth := k2m2) (c := k2c2) (by decide +kernel) rfl rfl rfl (by decide +kernel)
set_option maxRecDepth 65536 in
theorem w_c3 : (Jvm.Cond.code ({ cls := "com/example/ryazan/ryazan/language/LayoutUnpackPinLaw", name := "hi", desc := "(J)I" } : Jvm.MethodName) method_3_code (2 : Nat) (Option.some Jvm.ClassFile.FieldType.int)).before args0 about1 = true := code_word (m := ⟨1, 2⟩) (meth := k1m2) (c := k1c2) (by decide +kernel) rfl rfl rfl (by decide +kernel)
set_option maxRecDepth 65536 in
theorem w_c4 : (Jvm.Cond.code ({ cls := "java/lang/Math", name := "max", desc := "(II)I" } : Jvm.MethodName) jdk_29_method_65_code (2 : Nat) (Option.some Jvm.ClassFile.FieldType.int)).before args0 about1 = true := code_word (m := ⟨2, 1⟩) (meth := k2m1) (c := k2c1) (by decide +kernel) rfl rfl rfl (by decide +kernel)
set_option maxRecDepth 65536 in
theorem w_c5 : (Jvm.Cond.code ({ cls := "com/example/ryazan/ryazan/language/LayoutUnpackPinLaw", name := "pick", desc := "(IIJ)I" } : Jvm.MethodName) method_4_code (6 : Nat) (Option.some Jvm.ClassFile.FieldType.int)).before args0 about1 = true := code_word (m := ⟨1, 3⟩) (meth := k1m3) (c := k1c3) (by decide +kernel) rfl rfl rfl (by decide +kernel)
set_option maxRecDepth 65536 in
theorem w_c6 : (Jvm.Cond.code ({ cls := "com/example/ryazan/ryazan/language/Layout", name := "<init>", desc := "([I[I)V" } : Jvm.MethodName) prog_58_method_1_code (9 : Nat) (Option.none : Option Jvm.ClassFile.FieldType)).before args0 about1 = true := code_word (m := ⟨3, 0⟩) (meth := k3m0) (c := k3c0) (by decide +kernel) rfl rfl rfl (by decide +kernel)
set_option maxRecDepth 65536 in
theorem w_c7 : (Jvm.Cond.code ({ cls := "java/lang/Object", name := "<init>", desc := "()V" } : Jvm.MethodName) object_method_1_code (1 : Nat) (Option.none : Option Jvm.ClassFile.FieldType)).before args0 about1 = true := code_word (m := ⟨0, 0⟩) (meth := k0m0) (c := k0c0) (by decide +kernel) rfl rfl rfl (by decide +kernel)
set_option maxRecDepth 65536 in
theorem w_c8 : (Jvm.Cond.code ({ cls := "java/lang/Long", name := "numberOfLeadingZeros", desc := "(J)I" } : Jvm.MethodName) jdk_35_method_48_code (3 : Nat) (Option.some Jvm.ClassFile.FieldType.int)).before args0 about1 = true := code_word (m := ⟨10, 0⟩) (meth := k10m0) (c := k10c0) (by decide +kernel) rfl rfl rfl (by decide +kernel)
set_option maxRecDepth 65536 in
theorem w_c9 : (Jvm.Cond.code ({ cls := "java/lang/Integer", name := "numberOfLeadingZeros", desc := "(I)I" } : Jvm.MethodName) jdk_33_method_47_code (2 : Nat) (Option.some Jvm.ClassFile.FieldType.int)).before args0 about1 = true := code_word (m := ⟨11, 0⟩) (meth := k11m0) (c := k11c0) (by decide +kernel) rfl rfl rfl (by decide +kernel)
set_option maxRecDepth 65536 in
theorem w_c10 : (Jvm.Cond.code ({ cls := "com/example/ryazan/ryazan/language/Layout", name := "pack", desc := "([I[JI)V" } : Jvm.MethodName) prog_58_method_3_code (5 : Nat) (Option.none : Option Jvm.ClassFile.FieldType)).before args0 about1 = true := code_word (m := ⟨3, 1⟩) (meth := k3m1) (c := k3c1) (by decide +kernel) rfl rfl rfl (by decide +kernel)
set_option maxRecDepth 65536 in
theorem w_c11 : (Jvm.Cond.code ({ cls := "com/example/ryazan/ryazan/language/Layout", name := "unpack", desc := "([JI[I)V" } : Jvm.MethodName) prog_58_method_4_code (5 : Nat) (Option.none : Option Jvm.ClassFile.FieldType)).before args0 about1 = true := code_word (m := ⟨3, 2⟩) (meth := k3m2) (c := k3c2) (by decide +kernel) rfl rfl rfl (by decide +kernel)
def codes1 : List Jvm.Cond := [Jvm.Cond.code x code maxLocals ret, Jvm.Cond.code ({ cls := "com/example/ryazan/ryazan/language/LayoutUnpackPinLaw", name := "lo", desc := "(J)I" } : Jvm.MethodName) method_2_code (2 : Nat) (Option.some Jvm.ClassFile.FieldType.int), Jvm.Cond.code ({ cls := "java/lang/Math", name := "min", desc := "(II)I" } : Jvm.MethodName) jdk_29_method_69_code (2 : Nat) (Option.some Jvm.ClassFile.FieldType.int), Jvm.Cond.code ({ cls := "com/example/ryazan/ryazan/language/LayoutUnpackPinLaw", name := "hi", desc := "(J)I" } : Jvm.MethodName) method_3_code (2 : Nat) (Option.some Jvm.ClassFile.FieldType.int), Jvm.Cond.code ({ cls := "java/lang/Math", name := "max", desc := "(II)I" } : Jvm.MethodName) jdk_29_method_65_code (2 : Nat) (Option.some Jvm.ClassFile.FieldType.int), Jvm.Cond.code ({ cls := "com/example/ryazan/ryazan/language/LayoutUnpackPinLaw", name := "pick", desc := "(IIJ)I" } : Jvm.MethodName) method_4_code (6 : Nat) (Option.some Jvm.ClassFile.FieldType.int), Jvm.Cond.code ({ cls := "com/example/ryazan/ryazan/language/Layout", name := "<init>", desc := "([I[I)V" } : Jvm.MethodName) prog_58_method_1_code (9 : Nat) (Option.none : Option Jvm.ClassFile.FieldType), Jvm.Cond.code ({ cls := "java/lang/Object", name := "<init>", desc := "()V" } : Jvm.MethodName) object_method_1_code (1 : Nat) (Option.none : Option Jvm.ClassFile.FieldType), Jvm.Cond.code ({ cls := "java/lang/Long", name := "numberOfLeadingZeros", desc := "(J)I" } : Jvm.MethodName) jdk_35_method_48_code (3 : Nat) (Option.some Jvm.ClassFile.FieldType.int), Jvm.Cond.code ({ cls := "java/lang/Integer", name := "numberOfLeadingZeros", desc := "(I)I" } : Jvm.MethodName) jdk_33_method_47_code (2 : Nat) (Option.some Jvm.ClassFile.FieldType.int), Jvm.Cond.code ({ cls := "com/example/ryazan/ryazan/language/Layout", name := "pack", desc := "([I[JI)V" } : Jvm.MethodName) prog_58_method_3_code (5 : Nat) (Option.none : Option Jvm.ClassFile.FieldType), Jvm.Cond.code ({ cls := "com/example/ryazan/ryazan/language/Layout", name := "unpack", desc := "([JI[I)V" } : Jvm.MethodName) prog_58_method_4_code (5 : Nat) (Option.none : Option Jvm.ClassFile.FieldType)]
set_option maxRecDepth 65536 in
theorem codes_eq : words1.filter isCode = codes1 := rfl
theorem w_codes : ∀ c ∈ words1.filter isCode, c.before args0 about1 = true := by
  rw [codes_eq]
  intro c hc
  simp only [codes1, List.mem_cons, List.not_mem_nil, or_false] at hc
  rcases hc with rfl | rfl | rfl | rfl | rfl | rfl | rfl | rfl | rfl | rfl | rfl | rfl
  · exact w_c0
  · exact w_c1
  · exact w_c2
  · exact w_c3
  · exact w_c4
  · exact w_c5
  · exact w_c6
  · exact w_c7
  · exact w_c8
  · exact w_c9
  · exact w_c10
  · exact w_c11
set_option maxRecDepth 65536 in
theorem w_t1 : (words1.take 24).all (fun c => isCode c || c.before args0 about1) = true := by decide +kernel
set_option maxRecDepth 65536 in
theorem w_t2 : ((words1.drop 24).take 24).all (fun c => isCode c || c.before args0 about1) = true := by decide +kernel
set_option maxRecDepth 65536 in
theorem w_t3 : ((words1.drop 24).drop 24).all (fun c => isCode c || c.before args0 about1) = true := by decide +kernel
theorem w_tables : (allAtoms (Jvm.Cond.code x code maxLocals ret :: tables_1)).before args0 about1 = true := by
  rw [allAtoms_all]
  show words1.all (fun c => c.before args0 about1) = true
  refine all_split ?_ w_codes
  rw [← List.take_append_drop 24 words1, List.all_append, w_t1, ← List.take_append_drop 24 (words1.drop 24), List.all_append, w_t2, w_t3]
  rfl
set_option maxRecDepth 65536 in
theorem w_case : (Jvm.Cond.and given_1 narrow_1).before args0 about1 = true := by decide +kernel
theorem w_applies : (headSpec (Jvm.Cond.code x code maxLocals ret :: tables_1) room_1).applies x e0.platform about1 = true :=
  (Spec.applies_iff w_frames).mpr ⟨w_running, w_runnable, w_alone, w_named, w_hears, w_ripe, w_room, w_tables⟩
theorem atStart : AtStart classFile x code maxLocals ret World_1 tables_1 room_1 Calls_1 rest_1 Pre_1 launch0 p0 e0 about1 theMethod args0 below0 :=
  ⟨lists_1, trivial, launch0.admits_env _ _ _, launch0.least_env, fairChoices_fair.cas, fairChoices_fair.clock, w_frames, w_args, w_heap, w_applies, trivial, trivial, w_case⟩
end start1
theorem witness_1 : WitnessClaimed_1 := ⟨start1.p0, start1.e0, start1.about1, start1.theMethod, start1.args0, start1.below0, start1.atStart⟩
end Jvm.Pilot.@@N@@
