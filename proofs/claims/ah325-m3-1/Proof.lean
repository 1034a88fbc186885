import JvmDerived
import JvmDerived.Pilot.@@N@@Statement
import JvmDerived.Pilot.@@N@@Code
set_option linter.unusedVariables false
set_option linter.unusedSimpArgs false
namespace Jvm.RoadKit
open Sem ClassFile Op Lib Jvm.Stand Jvm.Free Jvm.LawKit
section New
variable {p : Program} {l : Launch} {e : Env} {R : Room} {s : State} {m : MethodId} {args : Array Value} {below : List Frame} {meth : Method} {c : Code} {T : State} {locs : List Loc} {cells slots : Nat}
theorem retI (X : Stand p l e R s m args below meth c T locs cells slots) (hx : p.tables.exec = Jvm.exec) {pc : Nat} {Ls : Array Slot} {z : Int32} {rest : List Value} (hret : meth.sig.returnType = some .int) (hd : decode c.code pc = .ok (.ireturn, 1)) {fs : List Frame}
    (hl : ∀ (f : JFrame) (acts : List Action), f.method = m → f.locked = none → f.entered = [] → (doReturn e (T.setTop f) acts (some (.int z))).1 = T.setFrames fs) : Steps p.tables e below (T.setTop (mkF m pc Ls (.int z :: rest))) (T.setFrames fs) := by
  have hm' : T.vm.method? m = some meth := X.method'
  have hn : narrow .int (.int z) = .int z := rfl
  show Steps p.tables e below (T.setTop { method := m, pc := pc, locals := Ls, stack := _ :: rest, locked := none }) _
  jvm_step X.here [X.here.top, hx, hd, hm', hret, hn]
  first | (intro acts; rw [hl _ acts rfl rfl rfl]) | rw [hl _ _ rfl rfl rfl]
  exact Steps.refl _
theorem retJ (X : Stand p l e R s m args below meth c T locs cells slots) (hx : p.tables.exec = Jvm.exec) {pc : Nat} {Ls : Array Slot} {z : Int64} {rest : List Value} (hret : meth.sig.returnType = some .long) (hd : decode c.code pc = .ok (.lreturn, 1)) {fs : List Frame}
    (hl : ∀ (f : JFrame) (acts : List Action), f.method = m → f.locked = none → f.entered = [] → (doReturn e (T.setTop f) acts (some (.long z))).1 = T.setFrames fs) : Steps p.tables e below (T.setTop (mkF m pc Ls (.long z :: rest))) (T.setFrames fs) := by
  have hm' : T.vm.method? m = some meth := X.method'
  have hn : narrow .long (.long z) = .long z := rfl
  show Steps p.tables e below (T.setTop { method := m, pc := pc, locals := Ls, stack := _ :: rest, locked := none }) _
  jvm_step X.here [X.here.top, hx, hd, hm', hret, hn]
  first | (intro acts; rw [hl _ acts rfl rfl rfl]) | rw [hl _ _ rfl rfl rfl]
  exact Steps.refl _
end New
end Jvm.RoadKit
namespace Jvm.Pilot.@@N@@
open Jvm Jvm.ClassFile Sem Op Lib Jvm.Free Jvm.Stand Jvm.LawKit Jvm.RoadKit Bundle Jvm.Pilot.@@N@@.Jvm.D
/-! THE WALK's GOAL, AND ONE LAW A STEP (each in the form: where the run goes on, it ends well; so it does from here) -/
def Go (p : Program) (e : Env) (below : List Frame) (K : Outcome → State → Prop) (u : State) : Prop := ∃ s₂ o, Steps p.tables e below u s₂ ∧ s₂.status = .running ∧ Ended s₂ below o ∧ K o s₂
theorem Go.step {p : Program} {e : Env} {below : List Frame} {K : Outcome → State → Prop} {u u' : State} (h : ∀ t, Steps p.tables e below u' t → Steps p.tables e below u t) (g : Go p e below K u') : Go p e below K u := by
  obtain ⟨a, o, h1, h2⟩ := g; exact ⟨a, o, h _ h1, h2⟩
def Ends (s : State) (Q : Option Value → Heap → List Loc → Prop) (kc ks : Nat) (o : Outcome) (U : State) : Prop := ∃ v L, o = .returned v ∧ Q v U.heap L ∧ FrameEnd s o U L kc ks
/-- where the run stands, with all that a step asks -/
def Sx (Z : State) (own : String) (bytes : ByteArray) (ml : Nat) (p : Program) (l : Launch) (e : Env) (R : Room) (s : State) (m : MethodId) (args : Array Value) (below : List Frame) (meth : Method) (c : Code) (T : State) (locs : List Loc) (cells slots : Nat) (h : Heap) : Prop :=
  Stand p l e R s m args below meth c T locs cells slots ∧ p.tables.exec = Jvm.exec ∧ c.code = bytes ∧ c.maxLocals = ml ∧ s.vm.findClass own = some m.cls ∧ Z.Warmed39 s.vm ∧ T.heap = h
/-- what a method owes: called at the heap h0 with these arguments it returns, and Q holds -/
abbrev Rm (l : Launch) (Z : State) (y : MethodName) (bytes : ByteArray) (ml : Nat) (ret : Option FieldType) (ws : List Jvm.Cond) (rm : Room) (as' : Array Value) (h0 : Heap) (Q : Option Value → Heap → List Loc → Prop) : Prop :=
  MetFree l y (head1 (Jvm.Cond.code y bytes ml ret :: ws) rm) (fun a U => a = as' ∧ Z.Warmed39 U.vm ∧ U.heap = h0) (fun _ _ _ _ _ => True) (fun _ U o U' => ∃ v L, o = .returned v ∧ Q v U'.heap L ∧ FrameEnd U o U' L rm.cells rm.slots)
theorem Rm.of {l : Launch} {Z : State} {y : MethodName} {bytes : ByteArray} {ml : Nat} {ret : Option FieldType} {ws : List Jvm.Cond} {rm : Room} {as' : Array Value} {h0 : Heap} {Q : Option Value → Heap → List Loc → Prop} (hpl : plainFor y = true)
    (body : ∀ (p : Program) (e : Env) (s : State) (m : MethodId) (below : List Frame) (meth : Method) (c : Code) (T : State), Sx Z y.cls bytes ml p l e rm s m as' below meth c T [] 0 0 h0 → meth.name = y.name → meth.sig.returnType = ret → meth.locks = false → Go p e below (Ends s Q rm.cells rm.slots) (T.setTop (entryFrame m as' ml))) : Rm l Z y bytes ml ret ws rm as' h0 Q := by
  refine MetFree.of_bodySF hpl hisR ?_
  intro p e s m args below meth c s₁ Bd hml0 hP hK
  obtain ⟨rfl, hZ, hh⟩ := hP
  have X0 : Stand p l e rm s m args below meth c s₁ [] 0 0 := Stand.of_body Bd
  exact body p e s m below meth c s₁ ⟨X0, Bd.exec, Bd.bytes, hml0, findClass_of_methodNamed Bd.named, hZ, by rw [← hh, Bd.state]; rfl⟩ (name_of_methodNamed Bd.named Bd.method).1 Bd.returns (BodyLoose.notSynchronized Bd)
theorem Rm.weaken {l : Launch} {Z : State} {y : MethodName} {bytes : ByteArray} {ml : Nat} {ret : Option FieldType} {ws : List Jvm.Cond} {rm : Room} {as' : Array Value} {h0 : Heap} {Q Q' : Option Value → Heap → List Loc → Prop} (M : Rm l Z y bytes ml ret ws rm as' h0 Q) (hq : ∀ v h L, Q v h L → Q' v h L) : Rm l Z y bytes ml ret ws rm as' h0 Q' := by
  intro p e ha hc hk s m args below hf happ hP hK
  obtain ⟨n, o, h1, h2, h3, v, L, e1, q, r⟩ := M p e ha hc hk s m args below hf happ hP hK
  exact ⟨n, o, h1, h2, h3, v, L, e1, hq _ _ _ q, r⟩
/-- a boolean as an int -/
def b2i (b : Bool) : Int32 := if b then 1 else 0
theorem m1_int : (-1 : Int32).toInt = -1 := rfl
theorem b2i_t : b2i true = 1 := rfl
theorem b2i_f : b2i false = 0 := rfl
theorem nar_b2i (b : Bool) : nar .boolean (b2i b) = b2i b := by cases b <;> rfl
theorem bne {b : Bool} (h : b = true) : ¬ b2i b = 0 := by subst h; decide
theorem beq0 {b : Bool} (h : ¬ b = true) : b2i b = 0 := by simp at h; subst h; rfl
theorem Fr.one {k : Nat} {a : Addr} {sl : Nat} (g : k ≤ a) : Fr k [⟨a, sl⟩] := fun y hy => by cases List.mem_singleton.mp hy; exact g
/-- an array and all that it holds -/
def Av (Z : State) (h : Heap) (a : Addr) (ty : FieldType) (vs : List Value) : Prop := ∃ c : Cell, Arr Z h a c ty ∧ c.slots.toList = vs ∧ vs.length < 2147483648
section Facts
variable {Z : State} {h h' : Heap} {a b : Addr} {ty : FieldType} {vs : List Value} {sl : Nat} {v : Value} {ws : List Addr}
theorem Av.lt (F : Av Z h a ty vs) : a < h.size := by obtain ⟨c, A, -⟩ := F; exact A.lt
theorem Av.ext (F : Av Z h a ty vs) (E : Ext h h') : Av Z h' a ty vs := by obtain ⟨c, A, r⟩ := F; exact ⟨c, A.ext E, r⟩
theorem Av.other (F : Av Z h b ty vs) (W : Wr h h' a sl v) (q : b ≠ a) : Av Z h' b ty vs := by obtain ⟨c, A, r⟩ := F; exact ⟨c, A.other W q, r⟩
theorem Av.keep (F : Av Z h a ty vs) (K : Keep h h' ws) (q : a ∉ ws) : Av Z h' a ty vs := by obtain ⟨c, A, r⟩ := F; exact ⟨c, ⟨K.2.1 a c A.1 q, A.2⟩, r⟩
theorem Av.set (F : Av Z h a ty vs) (W : Wr h h' a sl v) : Av Z h' a ty (vs.set sl v) := by
  obtain ⟨c, A, e, r⟩ := F
  refine ⟨_, A.same W, ?_, by simpa using r⟩
  subst e
  simp [Cell.setSlot]
theorem Av.eq {vs' : List Value} (F : Av Z h a ty vs) (e : vs = vs') : Av Z h a ty vs' := e ▸ F
/-- an array of which the length is known alone -/
def AvN (Z : State) (h : Heap) (a : Addr) (ty : FieldType) (z : Int32) : Prop := ∃ vs, Av Z h a ty vs ∧ vs.length.toInt32 = z
theorem AvN.lt {z : Int32} (F : AvN Z h a ty z) : a < h.size := by obtain ⟨vs, A, -⟩ := F; exact A.lt
theorem AvN.ext {z : Int32} (F : AvN Z h a ty z) (E : Ext h h') : AvN Z h' a ty z := by obtain ⟨vs, A, r⟩ := F; exact ⟨vs, A.ext E, r⟩
theorem AvN.other {z : Int32} (F : AvN Z h b ty z) (W : Wr h h' a sl v) (q : b ≠ a) : AvN Z h' b ty z := by obtain ⟨vs, A, r⟩ := F; exact ⟨vs, A.other W q, r⟩
theorem AvN.keep {z : Int32} (F : AvN Z h a ty z) (K : Keep h h' ws) (q : a ∉ ws) : AvN Z h' a ty z := by obtain ⟨vs, A, r⟩ := F; exact ⟨vs, A.keep K q, r⟩
theorem Av.len (F : Av Z h a ty vs) : vs.length.toInt32.toInt = vs.length := by obtain ⟨_, _, _, r⟩ := F; exact len_toInt r
/-- an array over objects of the class C -/
def OvA (Z : State) (h : Heap) (a : Addr) (C : String) : Prop := ∃ cl : Cell, Arr Z h a cl (.object C) ∧ Ovr Z cl.cls C
theorem OvA.lt {C : String} (F : OvA Z h a C) : a < h.size := by obtain ⟨_, A, _⟩ := F; exact A.lt
theorem OvA.ext {C : String} (F : OvA Z h a C) (E : Ext h h') : OvA Z h' a C := by obtain ⟨cl, A, r⟩ := F; exact ⟨cl, A.ext E, r⟩
theorem OvA.keep {C : String} (F : OvA Z h a C) (K : Keep h h' ws) (q : a ∉ ws) : OvA Z h' a C := by obtain ⟨c, A, r⟩ := F; exact ⟨c, ⟨K.2.1 a c A.1 q, A.2⟩, r⟩
theorem OvA.wr {C : String} (F : OvA Z h a C) (W : Wr h h' b sl v) : OvA Z h' a C := by
  obtain ⟨cl, A, r⟩ := F
  by_cases q : a = b
  · subst q; exact ⟨_, A.same W, r⟩
  · exact ⟨cl, A.other W q, r⟩
theorem OvA.sto {C : String} (F : OvA Z h a C) (I : Ins Z h b C true) : Sto Z h a (.ref b) := by obtain ⟨cl, A, r⟩ := F; exact Sto.of A r I
theorem fit0 : ∀ v ∈ ([] : List Value), fits ty v = true := fun _ q => nomatch q
theorem fitS (q : fits ty v = true) (r : ∀ w ∈ vs, fits ty w = true) : ∀ w ∈ v :: vs, fits ty w = true := fun w hw => (List.mem_cons.mp hw).elim (fun e => e ▸ q) (r w)
theorem Sta.keep {C n d : String} (F : Sta Z h C n d v) (K : Keep h h' ws) (q : ∀ x ∈ ws, ∀ c : Cell, h[x]? = some c → c.vm.isStatics = false) : Sta Z h' C n d v := by
  obtain ⟨cf, i, k, f, st, cell, h1, h2, h3, h4, h5, h6, h7⟩ := F
  exact ⟨cf, i, k, f, st, cell, h1, h2, h3, h4, K.2.1 _ _ h5 (fun hm => by rw [q _ hm _ h5] at h6; cases h6), h6, h7⟩
end Facts
section Walk
variable {Z : State} {a0 : Array Value} {own : String} {bytes : ByteArray} {ml : Nat} {p : Program} {l : Launch} {e : Env} {R : Room} {s : State} {m : MethodId} {args : Array Value} {below : List Frame} {meth : Method} {c : Code} {T : State} {locs : List Loc} {cells slots : Nat} {h : Heap} {K : Outcome → State → Prop} {pc pc' : Nat} {Ls Ls' : Array Slot} {st : List Value}
theorem Go.lit32 {x z : Int32} (q : x = z) (k : Go p e below K (T.setTop (mkF m pc Ls (.int z :: st)))) : Go p e below K (T.setTop (mkF m pc Ls (.int x :: st))) := q ▸ k
theorem Go.lit64 {x z : Int64} (q : x = z) (k : Go p e below K (T.setTop (mkF m pc Ls (.long z :: st)))) : Go p e below K (T.setTop (mkF m pc Ls (.long x :: st))) := q ▸ k
theorem Go.at_ {f f' : JFrame} (q : f = f') (k : Go p e below K (T.setTop f')) : Go p e below K (T.setTop f) := q ▸ k
theorem g_iload (X : Sx Z own bytes ml p l e R s m args below meth c T locs cells slots h) {i : Nat} {v : Int32} (hd : decode bytes pc = .ok (.iload i, 2)) (hp : pc + 2 = pc') (hl : Ls[i]? = some (.val (.int v))) (k : Go p e below K (T.setTop (mkF m pc' Ls (.int v :: st)))) : Go p e below K (T.setTop (mkF m pc Ls (st))) := by
  subst hp; exact Go.step (fun t q => XS.iload X.1.here X.2.1 rfl (hb X.2.2.1 hd) hl q) k
theorem g_iloadN (X : Sx Z own bytes ml p l e R s m args below meth c T locs cells slots h) {i : Fin 4} {v : Int32} (hd : decode bytes pc = .ok (.iload_n i, 1)) (hp : pc + 1 = pc') (hl : Ls[i.val]? = some (.val (.int v))) (k : Go p e below K (T.setTop (mkF m pc' Ls (.int v :: st)))) : Go p e below K (T.setTop (mkF m pc Ls (st))) := by
  subst hp; exact Go.step (fun t q => XS.iloadN X.1.here X.2.1 rfl (hb X.2.2.1 hd) hl q) k
theorem g_lload (X : Sx Z own bytes ml p l e R s m args below meth c T locs cells slots h) {i : Nat} {v : Int64} (hd : decode bytes pc = .ok (.lload i, 2)) (hp : pc + 2 = pc') (hl : Ls[i]? = some (.val (.long v))) (k : Go p e below K (T.setTop (mkF m pc' Ls (.long v :: st)))) : Go p e below K (T.setTop (mkF m pc Ls (st))) := by
  subst hp; exact Go.step (fun t q => XS.lload X.1.here X.2.1 rfl (hb X.2.2.1 hd) hl q) k
theorem g_lloadN (X : Sx Z own bytes ml p l e R s m args below meth c T locs cells slots h) {i : Fin 4} {v : Int64} (hd : decode bytes pc = .ok (.lload_n i, 1)) (hp : pc + 1 = pc') (hl : Ls[i.val]? = some (.val (.long v))) (k : Go p e below K (T.setTop (mkF m pc' Ls (.long v :: st)))) : Go p e below K (T.setTop (mkF m pc Ls (st))) := by
  subst hp; exact Go.step (fun t q => XS.lloadN X.1.here X.2.1 rfl (hb X.2.2.1 hd) hl q) k
theorem g_aload (X : Sx Z own bytes ml p l e R s m args below meth c T locs cells slots h) {i : Nat} {v : Value} (hd : decode bytes pc = .ok (.aload i, 2)) (hp : pc + 2 = pc') (hl : Ls[i]? = some (.val v)) (hv : v.isRef = true) (k : Go p e below K (T.setTop (mkF m pc' Ls (v :: st)))) : Go p e below K (T.setTop (mkF m pc Ls (st))) := by
  subst hp; exact Go.step (fun t q => XS.aload X.1.here X.2.1 rfl (hb X.2.2.1 hd) hl hv q) k
theorem g_aloadN (X : Sx Z own bytes ml p l e R s m args below meth c T locs cells slots h) {i : Fin 4} {v : Value} (hd : decode bytes pc = .ok (.aload_n i, 1)) (hp : pc + 1 = pc') (hl : Ls[i.val]? = some (.val v)) (hv : v.isRef = true) (k : Go p e below K (T.setTop (mkF m pc' Ls (v :: st)))) : Go p e below K (T.setTop (mkF m pc Ls (st))) := by
  subst hp; exact Go.step (fun t q => XS.aloadN X.1.here X.2.1 rfl (hb X.2.2.1 hd) hl hv q) k
theorem g_istore (X : Sx Z own bytes ml p l e R s m args below meth c T locs cells slots h) {i : Nat} {v : Int32} (hd : decode bytes pc = .ok (.istore i, 2)) (hp : pc + 2 = pc') (hl : storeLocals Ls i (.int v) = some Ls') (k : Go p e below K (T.setTop (mkF m pc' Ls' (st)))) : Go p e below K (T.setTop (mkF m pc Ls (.int v :: st))) := by
  subst hp; exact Go.step (fun t q => XS.istore X.1.here X.2.1 rfl (hb X.2.2.1 hd) rfl hl q) k
theorem g_istoreN (X : Sx Z own bytes ml p l e R s m args below meth c T locs cells slots h) {i : Fin 4} {v : Int32} (hd : decode bytes pc = .ok (.istore_n i, 1)) (hp : pc + 1 = pc') (hl : storeLocals Ls i.val (.int v) = some Ls') (k : Go p e below K (T.setTop (mkF m pc' Ls' (st)))) : Go p e below K (T.setTop (mkF m pc Ls (.int v :: st))) := by
  subst hp; exact Go.step (fun t q => XS.istoreN X.1.here X.2.1 rfl (hb X.2.2.1 hd) rfl hl q) k
theorem g_lstore (X : Sx Z own bytes ml p l e R s m args below meth c T locs cells slots h) {i : Nat} {v : Int64} (hd : decode bytes pc = .ok (.lstore i, 2)) (hp : pc + 2 = pc') (hl : storeLocals Ls i (.long v) = some Ls') (k : Go p e below K (T.setTop (mkF m pc' Ls' (st)))) : Go p e below K (T.setTop (mkF m pc Ls (.long v :: st))) := by
  subst hp; exact Go.step (fun t q => XS.lstore X.1.here X.2.1 rfl (hb X.2.2.1 hd) rfl hl q) k
theorem g_lstoreN (X : Sx Z own bytes ml p l e R s m args below meth c T locs cells slots h) {i : Fin 4} {v : Int64} (hd : decode bytes pc = .ok (.lstore_n i, 1)) (hp : pc + 1 = pc') (hl : storeLocals Ls i.val (.long v) = some Ls') (k : Go p e below K (T.setTop (mkF m pc' Ls' (st)))) : Go p e below K (T.setTop (mkF m pc Ls (.long v :: st))) := by
  subst hp; exact Go.step (fun t q => XS.lstoreN X.1.here X.2.1 rfl (hb X.2.2.1 hd) rfl hl q) k
theorem g_astore (X : Sx Z own bytes ml p l e R s m args below meth c T locs cells slots h) {i : Nat} {v : Value} (hd : decode bytes pc = .ok (.astore i, 2)) (hp : pc + 2 = pc') (hv : v.isRef = true) (hl : storeLocals Ls i v = some Ls') (k : Go p e below K (T.setTop (mkF m pc' Ls' (st)))) : Go p e below K (T.setTop (mkF m pc Ls (v :: st))) := by
  subst hp; exact Go.step (fun t q => XS.astore X.1.here X.2.1 rfl (hb X.2.2.1 hd) rfl hv hl q) k
theorem g_astoreN (X : Sx Z own bytes ml p l e R s m args below meth c T locs cells slots h) {i : Fin 4} {v : Value} (hd : decode bytes pc = .ok (.astore_n i, 1)) (hp : pc + 1 = pc') (hv : v.isRef = true) (hl : storeLocals Ls i.val v = some Ls') (k : Go p e below K (T.setTop (mkF m pc' Ls' (st)))) : Go p e below K (T.setTop (mkF m pc Ls (v :: st))) := by
  subst hp; exact Go.step (fun t q => XS.astoreN X.1.here X.2.1 rfl (hb X.2.2.1 hd) rfl hv hl q) k
theorem g_iconst (X : Sx Z own bytes ml p l e R s m args below meth c T locs cells slots h) {i : Int} (v : Int32) (hd : decode bytes pc = .ok (.iconst i, 1)) (hp : pc + 1 = pc') (hv : Int32.ofInt i = v) (k : Go p e below K (T.setTop (mkF m pc' Ls (.int v :: st)))) : Go p e below K (T.setTop (mkF m pc Ls (st))) := by
  subst hv; subst hp; exact Go.step (fun t q => XS.iconst X.1.here X.2.1 rfl (hb X.2.2.1 hd)  q) k
theorem g_bipush (X : Sx Z own bytes ml p l e R s m args below meth c T locs cells slots h) {i : Int} (v : Int32) (hd : decode bytes pc = .ok (.bipush i, 2)) (hp : pc + 2 = pc') (hv : (Int8.ofInt i).toInt32 = v) (k : Go p e below K (T.setTop (mkF m pc' Ls (.int v :: st)))) : Go p e below K (T.setTop (mkF m pc Ls (st))) := by
  subst hv; subst hp; exact Go.step (fun t q => XS.bipush X.1.here X.2.1 rfl (hb X.2.2.1 hd)  q) k
theorem g_sipush (X : Sx Z own bytes ml p l e R s m args below meth c T locs cells slots h) {i : Int} (v : Int32) (hd : decode bytes pc = .ok (.sipush i, 3)) (hp : pc + 3 = pc') (hv : (Int16.ofInt i).toInt32 = v) (k : Go p e below K (T.setTop (mkF m pc' Ls (.int v :: st)))) : Go p e below K (T.setTop (mkF m pc Ls (st))) := by
  subst hv; subst hp; exact Go.step (fun t q => XS.sipush X.1.here X.2.1 rfl (hb X.2.2.1 hd)  q) k
theorem g_lconst (X : Sx Z own bytes ml p l e R s m args below meth c T locs cells slots h) {i : Fin 2} (v : Int64) (hd : decode bytes pc = .ok (.lconst i, 1)) (hp : pc + 1 = pc') (hv : Int64.ofNat i = v) (k : Go p e below K (T.setTop (mkF m pc' Ls (.long v :: st)))) : Go p e below K (T.setTop (mkF m pc Ls (st))) := by
  subst hv; subst hp; exact Go.step (fun t q => XS.lconst X.1.here X.2.1 rfl (hb X.2.2.1 hd)  q) k
theorem g_aconst_null (X : Sx Z own bytes ml p l e R s m args below meth c T locs cells slots h) (hd : decode bytes pc = .ok (.aconst_null, 1)) (hp : pc + 1 = pc') (k : Go p e below K (T.setTop (mkF m pc' Ls (.null :: st)))) : Go p e below K (T.setTop (mkF m pc Ls (st))) := by
  subst hp; exact Go.step (fun t q => XS.aconstNull X.1.here X.2.1 rfl (hb X.2.2.1 hd)  q) k
theorem g_ldc (X : Sx Z own bytes ml p l e R s m args below meth c T locs cells slots h) {i : Nat} {v : Int32} (w : (Cond.constant own i v).before a0 Z = true) (hd : decode bytes pc = .ok (.ldc i, 2)) (hp : pc + 2 = pc') (k : Go p e below K (T.setTop (mkF m pc' Ls (.int v :: st)))) : Go p e below K (T.setTop (mkF m pc Ls (st))) := by
  subst hp; exact Go.step (fun t q => X.1.ldcInt X.2.1 X.2.2.2.2.1 (mvT X.2.2.2.2.2.1 w) (g := mkF m pc Ls st) rfl (hb X.2.2.1 hd) _ q) k
theorem g_ldcw (X : Sx Z own bytes ml p l e R s m args below meth c T locs cells slots h) {i : Nat} {v : Int32} (w : (Cond.constant own i v).before a0 Z = true) (hd : decode bytes pc = .ok (.ldc_w i, 3)) (hp : pc + 3 = pc') (k : Go p e below K (T.setTop (mkF m pc' Ls (.int v :: st)))) : Go p e below K (T.setTop (mkF m pc Ls (st))) := by
  subst hp; exact Go.step (fun t q => X.1.ldcwInt X.2.1 X.2.2.2.2.1 (mvT X.2.2.2.2.2.1 w) (g := mkF m pc Ls st) rfl (hb X.2.2.1 hd) _ q) k
theorem g_ldc2 (X : Sx Z own bytes ml p l e R s m args below meth c T locs cells slots h) {i : Nat} {v : Int64} (w : (Cond.constantLong own i v).before a0 Z = true) (hd : decode bytes pc = .ok (.ldc2_w i, 3)) (hp : pc + 3 = pc') (k : Go p e below K (T.setTop (mkF m pc' Ls (.long v :: st)))) : Go p e below K (T.setTop (mkF m pc Ls (st))) := by
  subst hp; exact Go.step (fun t q => X.1.ldc2Long X.2.1 X.2.2.2.2.1 (mvT X.2.2.2.2.2.1 w) (g := mkF m pc Ls st) rfl (hb X.2.2.1 hd) _ q) k
theorem g_iadd (X : Sx Z own bytes ml p l e R s m args below meth c T locs cells slots h) {x y : Int32} (hd : decode bytes pc = .ok (.iadd, 1)) (hp : pc + 1 = pc') (k : Go p e below K (T.setTop (mkF m pc' Ls (.int (x + y) :: st)))) : Go p e below K (T.setTop (mkF m pc Ls (.int y :: .int x :: st))) := by
  subst hp; exact Go.step (fun t q => XS.iadd X.1.here X.2.1 rfl (hb X.2.2.1 hd) rfl q) k
theorem g_isub (X : Sx Z own bytes ml p l e R s m args below meth c T locs cells slots h) {x y : Int32} (hd : decode bytes pc = .ok (.isub, 1)) (hp : pc + 1 = pc') (k : Go p e below K (T.setTop (mkF m pc' Ls (.int (x - y) :: st)))) : Go p e below K (T.setTop (mkF m pc Ls (.int y :: .int x :: st))) := by
  subst hp; exact Go.step (fun t q => XS.isub X.1.here X.2.1 rfl (hb X.2.2.1 hd) rfl q) k
theorem g_imul (X : Sx Z own bytes ml p l e R s m args below meth c T locs cells slots h) {x y : Int32} (hd : decode bytes pc = .ok (.imul, 1)) (hp : pc + 1 = pc') (k : Go p e below K (T.setTop (mkF m pc' Ls (.int (x * y) :: st)))) : Go p e below K (T.setTop (mkF m pc Ls (.int y :: .int x :: st))) := by
  subst hp; exact Go.step (fun t q => XS.imul X.1.here X.2.1 rfl (hb X.2.2.1 hd) rfl q) k
theorem g_iand (X : Sx Z own bytes ml p l e R s m args below meth c T locs cells slots h) {x y : Int32} (hd : decode bytes pc = .ok (.iand, 1)) (hp : pc + 1 = pc') (k : Go p e below K (T.setTop (mkF m pc' Ls (.int (x &&& y) :: st)))) : Go p e below K (T.setTop (mkF m pc Ls (.int y :: .int x :: st))) := by
  subst hp; exact Go.step (fun t q => XS.iand X.1.here X.2.1 rfl (hb X.2.2.1 hd) rfl q) k
theorem g_ior (X : Sx Z own bytes ml p l e R s m args below meth c T locs cells slots h) {x y : Int32} (hd : decode bytes pc = .ok (.ior, 1)) (hp : pc + 1 = pc') (k : Go p e below K (T.setTop (mkF m pc' Ls (.int (x ||| y) :: st)))) : Go p e below K (T.setTop (mkF m pc Ls (.int y :: .int x :: st))) := by
  subst hp; exact Go.step (fun t q => XS.ior X.1.here X.2.1 rfl (hb X.2.2.1 hd) rfl q) k
theorem g_ixor (X : Sx Z own bytes ml p l e R s m args below meth c T locs cells slots h) {x y : Int32} (hd : decode bytes pc = .ok (.ixor, 1)) (hp : pc + 1 = pc') (k : Go p e below K (T.setTop (mkF m pc' Ls (.int (x ^^^ y) :: st)))) : Go p e below K (T.setTop (mkF m pc Ls (.int y :: .int x :: st))) := by
  subst hp; exact Go.step (fun t q => XS.ixor X.1.here X.2.1 rfl (hb X.2.2.1 hd) rfl q) k
theorem g_ishl (X : Sx Z own bytes ml p l e R s m args below meth c T locs cells slots h) {x y : Int32} (hd : decode bytes pc = .ok (.ishl, 1)) (hp : pc + 1 = pc') (k : Go p e below K (T.setTop (mkF m pc' Ls (.int (x <<< (y &&& 31)) :: st)))) : Go p e below K (T.setTop (mkF m pc Ls (.int y :: .int x :: st))) := by
  subst hp; exact Go.step (fun t q => XS.ishl X.1.here X.2.1 rfl (hb X.2.2.1 hd) rfl q) k
theorem g_ishr (X : Sx Z own bytes ml p l e R s m args below meth c T locs cells slots h) {x y : Int32} (hd : decode bytes pc = .ok (.ishr, 1)) (hp : pc + 1 = pc') (k : Go p e below K (T.setTop (mkF m pc' Ls (.int (x >>> (y &&& 31)) :: st)))) : Go p e below K (T.setTop (mkF m pc Ls (.int y :: .int x :: st))) := by
  subst hp; exact Go.step (fun t q => XS.ishr X.1.here X.2.1 rfl (hb X.2.2.1 hd) rfl q) k
theorem g_iushr (X : Sx Z own bytes ml p l e R s m args below meth c T locs cells slots h) {x y : Int32} (hd : decode bytes pc = .ok (.iushr, 1)) (hp : pc + 1 = pc') (k : Go p e below K (T.setTop (mkF m pc' Ls (.int ((x.toUInt32 >>> (y &&& 31).toUInt32).toInt32) :: st)))) : Go p e below K (T.setTop (mkF m pc Ls (.int y :: .int x :: st))) := by
  subst hp; exact Go.step (fun t q => XS.iushr X.1.here X.2.1 rfl (hb X.2.2.1 hd) rfl q) k
theorem g_idiv (X : Sx Z own bytes ml p l e R s m args below meth c T locs cells slots h) {x y : Int32} (hd : decode bytes pc = .ok (.idiv, 1)) (hp : pc + 1 = pc') (hy : y ≠ 0) (k : Go p e below K (T.setTop (mkF m pc' Ls (.int (x / y) :: st)))) : Go p e below K (T.setTop (mkF m pc Ls (.int y :: .int x :: st))) := by
  subst hp; exact Go.step (fun t q => XS.idiv X.1.here X.2.1 rfl (hb X.2.2.1 hd) rfl hy q) k
theorem g_irem (X : Sx Z own bytes ml p l e R s m args below meth c T locs cells slots h) {x y : Int32} (hd : decode bytes pc = .ok (.irem, 1)) (hp : pc + 1 = pc') (hy : y ≠ 0) (k : Go p e below K (T.setTop (mkF m pc' Ls (.int (x % y) :: st)))) : Go p e below K (T.setTop (mkF m pc Ls (.int y :: .int x :: st))) := by
  subst hp; exact Go.step (fun t q => iremM (g := mkF m pc Ls (.int y :: .int x :: st)) X.1 X.2.1 rfl (hb X.2.2.1 hd) rfl hy q) k
theorem g_ladd (X : Sx Z own bytes ml p l e R s m args below meth c T locs cells slots h) {x y : Int64} (hd : decode bytes pc = .ok (.ladd, 1)) (hp : pc + 1 = pc') (k : Go p e below K (T.setTop (mkF m pc' Ls (.long (x + y) :: st)))) : Go p e below K (T.setTop (mkF m pc Ls (.long y :: .long x :: st))) := by
  subst hp; exact Go.step (fun t q => XS.ladd X.1.here X.2.1 rfl (hb X.2.2.1 hd) rfl q) k
theorem g_lsub (X : Sx Z own bytes ml p l e R s m args below meth c T locs cells slots h) {x y : Int64} (hd : decode bytes pc = .ok (.lsub, 1)) (hp : pc + 1 = pc') (k : Go p e below K (T.setTop (mkF m pc' Ls (.long (x - y) :: st)))) : Go p e below K (T.setTop (mkF m pc Ls (.long y :: .long x :: st))) := by
  subst hp; exact Go.step (fun t q => XS.lsub X.1.here X.2.1 rfl (hb X.2.2.1 hd) rfl q) k
theorem g_lmul (X : Sx Z own bytes ml p l e R s m args below meth c T locs cells slots h) {x y : Int64} (hd : decode bytes pc = .ok (.lmul, 1)) (hp : pc + 1 = pc') (k : Go p e below K (T.setTop (mkF m pc' Ls (.long (x * y) :: st)))) : Go p e below K (T.setTop (mkF m pc Ls (.long y :: .long x :: st))) := by
  subst hp; exact Go.step (fun t q => XS.lmul X.1.here X.2.1 rfl (hb X.2.2.1 hd) rfl q) k
theorem g_land (X : Sx Z own bytes ml p l e R s m args below meth c T locs cells slots h) {x y : Int64} (hd : decode bytes pc = .ok (.land, 1)) (hp : pc + 1 = pc') (k : Go p e below K (T.setTop (mkF m pc' Ls (.long (x &&& y) :: st)))) : Go p e below K (T.setTop (mkF m pc Ls (.long y :: .long x :: st))) := by
  subst hp; exact Go.step (fun t q => XS.land X.1.here X.2.1 rfl (hb X.2.2.1 hd) rfl q) k
theorem g_lor (X : Sx Z own bytes ml p l e R s m args below meth c T locs cells slots h) {x y : Int64} (hd : decode bytes pc = .ok (.lor, 1)) (hp : pc + 1 = pc') (k : Go p e below K (T.setTop (mkF m pc' Ls (.long (x ||| y) :: st)))) : Go p e below K (T.setTop (mkF m pc Ls (.long y :: .long x :: st))) := by
  subst hp; exact Go.step (fun t q => XS.lor X.1.here X.2.1 rfl (hb X.2.2.1 hd) rfl q) k
theorem g_lxor (X : Sx Z own bytes ml p l e R s m args below meth c T locs cells slots h) {x y : Int64} (hd : decode bytes pc = .ok (.lxor, 1)) (hp : pc + 1 = pc') (k : Go p e below K (T.setTop (mkF m pc' Ls (.long (x ^^^ y) :: st)))) : Go p e below K (T.setTop (mkF m pc Ls (.long y :: .long x :: st))) := by
  subst hp; exact Go.step (fun t q => XS.lxor X.1.here X.2.1 rfl (hb X.2.2.1 hd) rfl q) k
theorem g_lshl (X : Sx Z own bytes ml p l e R s m args below meth c T locs cells slots h) {x : Int64} {y : Int32} (hd : decode bytes pc = .ok (.lshl, 1)) (hp : pc + 1 = pc') (k : Go p e below K (T.setTop (mkF m pc' Ls (.long (x <<< (y &&& 0x3f).toInt64) :: st)))) : Go p e below K (T.setTop (mkF m pc Ls (.int y :: .long x :: st))) := by
  subst hp; exact Go.step (fun t q => XS.lshl X.1.here X.2.1 rfl (hb X.2.2.1 hd) rfl q) k
theorem g_lshr (X : Sx Z own bytes ml p l e R s m args below meth c T locs cells slots h) {x : Int64} {y : Int32} (hd : decode bytes pc = .ok (.lshr, 1)) (hp : pc + 1 = pc') (k : Go p e below K (T.setTop (mkF m pc' Ls (.long (x >>> (y &&& 0x3f).toInt64) :: st)))) : Go p e below K (T.setTop (mkF m pc Ls (.int y :: .long x :: st))) := by
  subst hp; exact Go.step (fun t q => XS.lshr X.1.here X.2.1 rfl (hb X.2.2.1 hd) rfl q) k
theorem g_lushr (X : Sx Z own bytes ml p l e R s m args below meth c T locs cells slots h) {x : Int64} {y : Int32} (hd : decode bytes pc = .ok (.lushr, 1)) (hp : pc + 1 = pc') (k : Go p e below K (T.setTop (mkF m pc' Ls (.long ((x.toUInt64 >>> (y &&& 0x3f).toInt64.toUInt64).toInt64) :: st)))) : Go p e below K (T.setTop (mkF m pc Ls (.int y :: .long x :: st))) := by
  subst hp; exact Go.step (fun t q => XS.lushr X.1.here X.2.1 rfl (hb X.2.2.1 hd) rfl q) k
theorem g_ldiv (X : Sx Z own bytes ml p l e R s m args below meth c T locs cells slots h) {x y : Int64} (hd : decode bytes pc = .ok (.ldiv, 1)) (hp : pc + 1 = pc') (hy : y ≠ 0) (k : Go p e below K (T.setTop (mkF m pc' Ls (.long (x / y) :: st)))) : Go p e below K (T.setTop (mkF m pc Ls (.long y :: .long x :: st))) := by
  subst hp; exact Go.step (fun t q => XS.ldiv X.1.here X.2.1 rfl (hb X.2.2.1 hd) rfl hy q) k
theorem g_lrem (X : Sx Z own bytes ml p l e R s m args below meth c T locs cells slots h) {x y : Int64} (hd : decode bytes pc = .ok (.lrem, 1)) (hp : pc + 1 = pc') (hy : y ≠ 0) (k : Go p e below K (T.setTop (mkF m pc' Ls (.long (x % y) :: st)))) : Go p e below K (T.setTop (mkF m pc Ls (.long y :: .long x :: st))) := by
  rw [← lrem_mod] at k; subst hp; exact Go.step (fun t q => XS.lrem X.1.here X.2.1 rfl (hb X.2.2.1 hd) rfl hy q) k
theorem g_lcmp (X : Sx Z own bytes ml p l e R s m args below meth c T locs cells slots h) {x y : Int64} (hd : decode bytes pc = .ok (.lcmp, 1)) (hp : pc + 1 = pc') (k : Go p e below K (T.setTop (mkF m pc' Ls (.int (lcmpW x y) :: st)))) : Go p e below K (T.setTop (mkF m pc Ls (.long y :: .long x :: st))) := by
  subst hp; exact Go.step (fun t q => XS.lcmp X.1.here X.2.1 rfl (hb X.2.2.1 hd) rfl q) k
theorem g_ineg (X : Sx Z own bytes ml p l e R s m args below meth c T locs cells slots h) {x : Int32} (hd : decode bytes pc = .ok (.ineg, 1)) (hp : pc + 1 = pc') (k : Go p e below K (T.setTop (mkF m pc' Ls (.int (-x) :: st)))) : Go p e below K (T.setTop (mkF m pc Ls (.int x :: st))) := by
  subst hp; exact Go.step (fun t q => XS.ineg X.1.here X.2.1 rfl (hb X.2.2.1 hd) rfl q) k
theorem g_i2b (X : Sx Z own bytes ml p l e R s m args below meth c T locs cells slots h) {x : Int32} (hd : decode bytes pc = .ok (.i2b, 1)) (hp : pc + 1 = pc') (k : Go p e below K (T.setTop (mkF m pc' Ls (.int (x.toInt8.toInt32) :: st)))) : Go p e below K (T.setTop (mkF m pc Ls (.int x :: st))) := by
  subst hp; exact Go.step (fun t q => XS.i2b X.1.here X.2.1 rfl (hb X.2.2.1 hd) rfl q) k
theorem g_i2c (X : Sx Z own bytes ml p l e R s m args below meth c T locs cells slots h) {x : Int32} (hd : decode bytes pc = .ok (.i2c, 1)) (hp : pc + 1 = pc') (k : Go p e below K (T.setTop (mkF m pc' Ls (.int (x.toUInt32.toUInt16.toUInt32.toInt32) :: st)))) : Go p e below K (T.setTop (mkF m pc Ls (.int x :: st))) := by
  subst hp; exact Go.step (fun t q => XS.i2c X.1.here X.2.1 rfl (hb X.2.2.1 hd) rfl q) k
theorem g_i2s (X : Sx Z own bytes ml p l e R s m args below meth c T locs cells slots h) {x : Int32} (hd : decode bytes pc = .ok (.i2s, 1)) (hp : pc + 1 = pc') (k : Go p e below K (T.setTop (mkF m pc' Ls (.int (x.toInt16.toInt32) :: st)))) : Go p e below K (T.setTop (mkF m pc Ls (.int x :: st))) := by
  subst hp; exact Go.step (fun t q => XS.i2s X.1.here X.2.1 rfl (hb X.2.2.1 hd) rfl q) k
theorem g_i2l (X : Sx Z own bytes ml p l e R s m args below meth c T locs cells slots h) {x : Int32} (hd : decode bytes pc = .ok (.i2l, 1)) (hp : pc + 1 = pc') (k : Go p e below K (T.setTop (mkF m pc' Ls (.long (x.toInt64) :: st)))) : Go p e below K (T.setTop (mkF m pc Ls (.int x :: st))) := by
  subst hp; exact Go.step (fun t q => XS.i2l X.1.here X.2.1 rfl (hb X.2.2.1 hd) rfl q) k
theorem g_l2i (X : Sx Z own bytes ml p l e R s m args below meth c T locs cells slots h) {x : Int64} (hd : decode bytes pc = .ok (.l2i, 1)) (hp : pc + 1 = pc') (k : Go p e below K (T.setTop (mkF m pc' Ls (.int (x.toInt32) :: st)))) : Go p e below K (T.setTop (mkF m pc Ls (.long x :: st))) := by
  subst hp; exact Go.step (fun t q => XS.l2i X.1.here X.2.1 rfl (hb X.2.2.1 hd) rfl q) k
theorem g_lneg (X : Sx Z own bytes ml p l e R s m args below meth c T locs cells slots h) {x : Int64} (hd : decode bytes pc = .ok (.lneg, 1)) (hp : pc + 1 = pc') (k : Go p e below K (T.setTop (mkF m pc' Ls (.long (-x) :: st)))) : Go p e below K (T.setTop (mkF m pc Ls (.long x :: st))) := by
  subst hp; exact Go.step (fun t q => XS.lneg X.1.here X.2.1 rfl (hb X.2.2.1 hd) rfl q) k
theorem g_iinc (X : Sx Z own bytes ml p l e R s m args below meth c T locs cells slots h) {i : Nat} {q x : Int32} {n : Int} (hd : decode bytes pc = .ok (.iinc i n, 3)) (hp : pc + 3 = pc') (hq : Int32.ofInt n = q) (hl : Ls[i]? = some (.val (.int x))) (hl' : storeLocals Ls i (.int (x + q)) = some Ls') (k : Go p e below K (T.setTop (mkF m pc' Ls' (st)))) : Go p e below K (T.setTop (mkF m pc Ls (st))) := by
  subst hq; subst hp; exact Go.step (fun t q => XS.iinc X.1.here X.2.1 rfl (hb X.2.2.1 hd) hl hl' q) k
theorem g_dup (X : Sx Z own bytes ml p l e R s m args below meth c T locs cells slots h) {v : Value} (hd : decode bytes pc = .ok (.dup, 1)) (hp : pc + 1 = pc') (hc : v.category = 1) (k : Go p e below K (T.setTop (mkF m pc' Ls (v :: v :: st)))) : Go p e below K (T.setTop (mkF m pc Ls (v :: st))) := by
  subst hp; exact Go.step (fun t q => XS.dup X.1.here X.2.1 rfl (hb X.2.2.1 hd) rfl hc q) k
theorem g_pop (X : Sx Z own bytes ml p l e R s m args below meth c T locs cells slots h) {v : Value} (hd : decode bytes pc = .ok (.pop, 1)) (hp : pc + 1 = pc') (hc : v.category = 1) (k : Go p e below K (T.setTop (mkF m pc' Ls (st)))) : Go p e below K (T.setTop (mkF m pc Ls (v :: st))) := by
  subst hp; exact Go.step (fun t q => XS.pop X.1.here X.2.1 rfl (hb X.2.2.1 hd) rfl hc q) k
theorem g_dup_x1 (X : Sx Z own bytes ml p l e R s m args below meth c T locs cells slots h) {v w : Value} (hd : decode bytes pc = .ok (.dup_x1, 1)) (hp : pc + 1 = pc') (hc : v.category = 1) (hc' : w.category = 1) (k : Go p e below K (T.setTop (mkF m pc' Ls (v :: w :: v :: st)))) : Go p e below K (T.setTop (mkF m pc Ls (v :: w :: st))) := by
  subst hp; exact Go.step (fun t q => XS.dupX1 X.1.here X.2.1 rfl (hb X.2.2.1 hd) rfl hc hc' q) k
theorem g_dup2 (X : Sx Z own bytes ml p l e R s m args below meth c T locs cells slots h) {v w : Value} (hd : decode bytes pc = .ok (.dup2, 1)) (hp : pc + 1 = pc') (hc : v.category = 1) (hc' : w.category = 1) (k : Go p e below K (T.setTop (mkF m pc' Ls (v :: w :: v :: w :: st)))) : Go p e below K (T.setTop (mkF m pc Ls (v :: w :: st))) := by
  subst hp; exact Go.step (fun t q => Jvm.Free.XT.dup2 X.1.here X.2.1 rfl (hb X.2.2.1 hd) rfl hc hc' q) k
theorem g_dup2L (X : Sx Z own bytes ml p l e R s m args below meth c T locs cells slots h) {v : Int64} (hd : decode bytes pc = .ok (.dup2, 1)) (hp : pc + 1 = pc') (k : Go p e below K (T.setTop (mkF m pc' Ls (.long v :: .long v :: st)))) : Go p e below K (T.setTop (mkF m pc Ls (.long v :: st))) := by
  subst hp; exact Go.step (fun t q => Jvm.Free.XT.dup2L X.1.here X.2.1 rfl (hb X.2.2.1 hd) rfl q) k
theorem g_dload (X : Sx Z own bytes ml p l e R s m args below meth c T locs cells slots h) {i : Nat} {v : UInt64} (hd : decode bytes pc = .ok (.dload i, 2)) (hp : pc + 2 = pc') (hl : Ls[i]? = some (.val (.double v))) (k : Go p e below K (T.setTop (mkF m pc' Ls (.double v :: st)))) : Go p e below K (T.setTop (mkF m pc Ls (st))) := by
  subst hp; exact Go.step (fun t q => XS.dload X.1.here X.2.1 rfl (hb X.2.2.1 hd) hl q) k
theorem g_dloadN (X : Sx Z own bytes ml p l e R s m args below meth c T locs cells slots h) {i : Fin 4} {v : UInt64} (hd : decode bytes pc = .ok (.dload_n i, 1)) (hp : pc + 1 = pc') (hl : Ls[i.val]? = some (.val (.double v))) (k : Go p e below K (T.setTop (mkF m pc' Ls (.double v :: st)))) : Go p e below K (T.setTop (mkF m pc Ls (st))) := by
  subst hp; exact Go.step (fun t q => XS.dloadN X.1.here X.2.1 rfl (hb X.2.2.1 hd) hl q) k
theorem g_i2d (X : Sx Z own bytes ml p l e R s m args below meth c T locs cells slots h) {x : Int32} (hd : decode bytes pc = .ok (.i2d, 1)) (hp : pc + 1 = pc') (k : Go p e below K (T.setTop (mkF m pc' Ls (.double (FP.i2d x) :: st)))) : Go p e below K (T.setTop (mkF m pc Ls (.int x :: st))) := by
  subst hp; exact Go.step (fun t q => XS.i2dS X.1.here X.2.1 rfl (hb X.2.2.1 hd) rfl rfl q) k
theorem g_dcmp (X : Sx Z own bytes ml p l e R s m args below meth c T locs cells slots h) {o : CmpOp} {x y : UInt64} (hd : decode bytes pc = .ok (.dcmp o, 1)) (hp : pc + 1 = pc') (k : ∀ v : Int32, Go p e below K (T.setTop (mkF m pc' Ls (.int v :: st)))) : Go p e below K (T.setTop (mkF m pc Ls (.double y :: .double x :: st))) := by
  subst hp; exact Go.step (fun t q => XS.dcmpS X.1.here X.2.1 rfl (hb X.2.2.1 hd) rfl rfl q) (k _)
theorem g_goto (X : Sx Z own bytes ml p l e R s m args below meth c T locs cells slots h) {o : Int} (hd : decode bytes pc = .ok (.goto o, 3)) (ho : 0 ≤ (pc : Int) + o) (hp : ((pc : Int) + o).toNat = pc') (k : Go p e below K (T.setTop (mkF m pc' Ls (st)))) : Go p e below K (T.setTop (mkF m pc Ls (st))) := by
  exact Go.step (fun t q => XS.goto X.1.here X.2.1 rfl rfl (hb X.2.2.1 hd) ho hp q) k
theorem g_ifY (X : Sx Z own bytes ml p l e R s m args below meth c T locs cells slots h) {cd : ClassFile.Cond} {x : Int32} {o : Int} (hd : decode bytes pc = .ok (.ifCond cd o, 3)) (hc : ifCond.holds cd x = true) (ho : 0 ≤ (pc : Int) + o) (hp : ((pc : Int) + o).toNat = pc') (k : Go p e below K (T.setTop (mkF m pc' Ls (st)))) : Go p e below K (T.setTop (mkF m pc Ls (.int x :: st))) := by
  exact Go.step (fun t q => XS.ifYes X.1.here X.2.1 rfl rfl (hb X.2.2.1 hd) rfl hc ho hp q) k
theorem g_ifN (X : Sx Z own bytes ml p l e R s m args below meth c T locs cells slots h) {cd : ClassFile.Cond} {x : Int32} {o : Int} (hd : decode bytes pc = .ok (.ifCond cd o, 3)) (hc : ifCond.holds cd x = false) (hp : pc + 3 = pc') (k : Go p e below K (T.setTop (mkF m pc' Ls (st)))) : Go p e below K (T.setTop (mkF m pc Ls (.int x :: st))) := by
  subst hp; exact Go.step (fun t q => XS.ifNo X.1.here X.2.1 rfl (hb X.2.2.1 hd) rfl hc q) k
theorem g_icY (X : Sx Z own bytes ml p l e R s m args below meth c T locs cells slots h) {cd : ClassFile.Cond} {x y : Int32} {o : Int} (hd : decode bytes pc = .ok (.if_icmp cd o, 3)) (hc : if_icmp.holds cd x y = true) (ho : 0 ≤ (pc : Int) + o) (hp : ((pc : Int) + o).toNat = pc') (k : Go p e below K (T.setTop (mkF m pc' Ls (st)))) : Go p e below K (T.setTop (mkF m pc Ls (.int y :: .int x :: st))) := by
  exact Go.step (fun t q => XS.icmpYes X.1.here X.2.1 rfl rfl (hb X.2.2.1 hd) rfl hc ho hp q) k
theorem g_icN (X : Sx Z own bytes ml p l e R s m args below meth c T locs cells slots h) {cd : ClassFile.Cond} {x y : Int32} {o : Int} (hd : decode bytes pc = .ok (.if_icmp cd o, 3)) (hc : if_icmp.holds cd x y = false) (hp : pc + 3 = pc') (k : Go p e below K (T.setTop (mkF m pc' Ls (st)))) : Go p e below K (T.setTop (mkF m pc Ls (.int y :: .int x :: st))) := by
  subst hp; exact Go.step (fun t q => XS.icmpNo X.1.here X.2.1 rfl (hb X.2.2.1 hd) rfl hc q) k
theorem g_nullY (X : Sx Z own bytes ml p l e R s m args below meth c T locs cells slots h) {o : Int} (hd : decode bytes pc = .ok (.ifnull o, 3)) (ho : 0 ≤ (pc : Int) + o) (hp : ((pc : Int) + o).toNat = pc') (k : Go p e below K (T.setTop (mkF m pc' Ls (st)))) : Go p e below K (T.setTop (mkF m pc Ls (.null :: st))) := by
  exact Go.step (fun t q => XS.ifnullYes X.1.here X.2.1 rfl rfl (hb X.2.2.1 hd) rfl ho hp q) k
theorem g_nullN (X : Sx Z own bytes ml p l e R s m args below meth c T locs cells slots h) {o : Int} {b : Addr} (hd : decode bytes pc = .ok (.ifnull o, 3)) (hp : pc + 3 = pc') (k : Go p e below K (T.setTop (mkF m pc' Ls (st)))) : Go p e below K (T.setTop (mkF m pc Ls (.ref b :: st))) := by
  subst hp; exact Go.step (fun t q => XS.ifnullNo X.1.here X.2.1 rfl (hb X.2.2.1 hd) rfl q) k
theorem g_nonnullY (X : Sx Z own bytes ml p l e R s m args below meth c T locs cells slots h) {o : Int} {b : Addr} (hd : decode bytes pc = .ok (.ifnonnull o, 3)) (ho : 0 ≤ (pc : Int) + o) (hp : ((pc : Int) + o).toNat = pc') (k : Go p e below K (T.setTop (mkF m pc' Ls (st)))) : Go p e below K (T.setTop (mkF m pc Ls (.ref b :: st))) := by
  exact Go.step (fun t q => XS.ifnonnullYes X.1.here X.2.1 rfl rfl (hb X.2.2.1 hd) rfl ho hp q) k
theorem g_nonnullN (X : Sx Z own bytes ml p l e R s m args below meth c T locs cells slots h) {o : Int} (hd : decode bytes pc = .ok (.ifnonnull o, 3)) (hp : pc + 3 = pc') (k : Go p e below K (T.setTop (mkF m pc' Ls (st)))) : Go p e below K (T.setTop (mkF m pc Ls (.null :: st))) := by
  subst hp; exact Go.step (fun t q => XS.ifnonnullNo X.1.here X.2.1 rfl (hb X.2.2.1 hd) rfl q) k
theorem g_acmp (X : Sx Z own bytes ml p l e R s m args below meth c T locs cells slots h) {cd : ACond} {x y : Value} {o : Int} {same : Bool} (hd : decode bytes pc = .ok (.if_acmp cd o, 3)) (h1 : x.isRef = true) (h2 : y.isRef = true) (hq : decide (x = y) = same) (ho : 0 ≤ (pc : Int) + o) (hp : pc' = if acV cd same = true then ((pc : Int) + o).toNat else pc + 3) (k : Go p e below K (T.setTop (mkF m pc' Ls (st)))) : Go p e below K (T.setTop (mkF m pc Ls (y :: x :: st))) := by
  exact Go.step (fun t q => acmp (g := mkF m pc Ls (y :: x :: st)) X.1 X.2.1 rfl h1 h2 rfl (hb X.2.2.1 hd) rfl hq ho hp q) k
theorem g_tswIn (X : Sx Z own bytes ml p l e R s m args below meth c T locs cells slots h) {dflt low high : Int} {offs : Array Int} {len : Nat} {o : Int} {i : Int32} (hd : decode bytes pc = .ok (.tableswitch dflt low high offs, len)) (hin : ¬ (i.toInt < low ∨ i.toInt > high)) (hoff : offs[(i.toInt - low).toNat]? = some o) (ho : 0 ≤ (pc : Int) + o) (hp : ((pc : Int) + o).toNat = pc') (k : Go p e below K (T.setTop (mkF m pc' Ls (st)))) : Go p e below K (T.setTop (mkF m pc Ls (.int i :: st))) := by
  exact Go.step (fun t q => XS.tswIn X.1.here X.2.1 rfl rfl (hb X.2.2.1 hd) rfl hin hoff ho hp q) k
theorem g_tswOut (X : Sx Z own bytes ml p l e R s m args below meth c T locs cells slots h) {dflt low high : Int} {offs : Array Int} {len : Nat} {i : Int32} (hd : decode bytes pc = .ok (.tableswitch dflt low high offs, len)) (hin : i.toInt < low ∨ i.toInt > high) (ho : 0 ≤ (pc : Int) + dflt) (hp : ((pc : Int) + dflt).toNat = pc') (k : Go p e below K (T.setTop (mkF m pc' Ls (st)))) : Go p e below K (T.setTop (mkF m pc Ls (.int i :: st))) := by
  exact Go.step (fun t q => XS.tswOut X.1.here X.2.1 rfl rfl (hb X.2.2.1 hd) rfl hin ho hp q) k
theorem g_iaload (X : Sx Z own bytes ml p l e R s m args below meth c T locs cells slots h) {a : Addr} {vs : List Value} {j : Int32} {x : Int32} (A : Av Z h a .int vs) (n : Nat) (hd : decode bytes pc = .ok (.iaload, 1)) (hp : pc + 1 = pc') (hj : ¬ j < 0) (hn : j.toNatClampNeg = n) (hv : vs[n]? = some (.int x)) (k : Go p e below K (T.setTop (mkF m pc' Ls (.int x :: st)))) : Go p e below K (T.setTop (mkF m pc Ls (.int j :: .ref a :: st))) := by
  obtain ⟨cl, A, rfl, r⟩ := A; subst hn; subst hp
  have hv' : cl.slots[j.toNatClampNeg]? = some (.int x) := by rw [← Array.getElem?_toList]; exact hv
  exact Go.step (fun t q => X.1.iaload X.2.1 (j := j) (by rw [X.2.2.2.2.2.2]; exact A.1) (State.isArrayOf_alike X.2.2.2.2.2.1.alike A.2.1) A.2.2 (fun hh => hh.elim hj (fun hh => absurd (Array.getElem?_eq_some_iff.mp hv').1 (Nat.not_lt.mpr hh))) hv' (g := mkF m pc Ls (.int j :: .ref a :: st)) rfl rfl (hb X.2.2.1 hd) _ q) k
theorem g_caload (X : Sx Z own bytes ml p l e R s m args below meth c T locs cells slots h) {a : Addr} {vs : List Value} {j : Int32} {x : Int32} (A : Av Z h a .char vs) (n : Nat) (hd : decode bytes pc = .ok (.caload, 1)) (hp : pc + 1 = pc') (hj : ¬ j < 0) (hn : j.toNatClampNeg = n) (hv : vs[n]? = some (.int x)) (k : Go p e below K (T.setTop (mkF m pc' Ls (.int x :: st)))) : Go p e below K (T.setTop (mkF m pc Ls (.int j :: .ref a :: st))) := by
  obtain ⟨cl, A, rfl, r⟩ := A; subst hn; subst hp
  have hv' : cl.slots[j.toNatClampNeg]? = some (.int x) := by rw [← Array.getElem?_toList]; exact hv
  exact Go.step (fun t q => X.1.caload X.2.1 (j := j) (by rw [X.2.2.2.2.2.2]; exact A.1) (State.isArrayOf_alike X.2.2.2.2.2.1.alike A.2.1) A.2.2 (fun hh => hh.elim hj (fun hh => absurd (Array.getElem?_eq_some_iff.mp hv').1 (Nat.not_lt.mpr hh))) hv' (g := mkF m pc Ls (.int j :: .ref a :: st)) rfl rfl (hb X.2.2.1 hd) _ q) k
theorem g_saload (X : Sx Z own bytes ml p l e R s m args below meth c T locs cells slots h) {a : Addr} {vs : List Value} {j : Int32} {x : Int32} (A : Av Z h a .short vs) (n : Nat) (hd : decode bytes pc = .ok (.saload, 1)) (hp : pc + 1 = pc') (hj : ¬ j < 0) (hn : j.toNatClampNeg = n) (hv : vs[n]? = some (.int x)) (k : Go p e below K (T.setTop (mkF m pc' Ls (.int x :: st)))) : Go p e below K (T.setTop (mkF m pc Ls (.int j :: .ref a :: st))) := by
  obtain ⟨cl, A, rfl, r⟩ := A; subst hn; subst hp
  have hv' : cl.slots[j.toNatClampNeg]? = some (.int x) := by rw [← Array.getElem?_toList]; exact hv
  exact Go.step (fun t q => X.1.saload X.2.1 (j := j) (by rw [X.2.2.2.2.2.2]; exact A.1) (State.isArrayOf_alike X.2.2.2.2.2.1.alike A.2.1) A.2.2 (fun hh => hh.elim hj (fun hh => absurd (Array.getElem?_eq_some_iff.mp hv').1 (Nat.not_lt.mpr hh))) hv' (g := mkF m pc Ls (.int j :: .ref a :: st)) rfl rfl (hb X.2.2.1 hd) _ q) k
theorem g_baload (X : Sx Z own bytes ml p l e R s m args below meth c T locs cells slots h) {a : Addr} {vs : List Value} {j : Int32} {x : Int32} (A : Av Z h a .byte vs) (n : Nat) (hd : decode bytes pc = .ok (.baload, 1)) (hp : pc + 1 = pc') (hj : ¬ j < 0) (hn : j.toNatClampNeg = n) (hv : vs[n]? = some (.int x)) (k : Go p e below K (T.setTop (mkF m pc' Ls (.int x :: st)))) : Go p e below K (T.setTop (mkF m pc Ls (.int j :: .ref a :: st))) := by
  obtain ⟨cl, A, rfl, r⟩ := A; subst hn; subst hp
  have hv' : cl.slots[j.toNatClampNeg]? = some (.int x) := by rw [← Array.getElem?_toList]; exact hv
  exact Go.step (fun t q => X.1.baloadBytes X.2.1 (j := j) (by rw [X.2.2.2.2.2.2]; exact A.1) (State.isArrayOf_alike X.2.2.2.2.2.1.alike A.2.1) A.2.2 (fun hh => hh.elim hj (fun hh => absurd (Array.getElem?_eq_some_iff.mp hv').1 (Nat.not_lt.mpr hh))) hv' (g := mkF m pc Ls (.int j :: .ref a :: st)) rfl rfl (hb X.2.2.1 hd) _ q) k
theorem g_laload (X : Sx Z own bytes ml p l e R s m args below meth c T locs cells slots h) {a : Addr} {vs : List Value} {j : Int32} {x : Int64} (A : Av Z h a .long vs) (n : Nat) (hd : decode bytes pc = .ok (.laload, 1)) (hp : pc + 1 = pc') (hj : ¬ j < 0) (hn : j.toNatClampNeg = n) (hv : vs[n]? = some (.long x)) (k : Go p e below K (T.setTop (mkF m pc' Ls (.long x :: st)))) : Go p e below K (T.setTop (mkF m pc Ls (.int j :: .ref a :: st))) := by
  obtain ⟨cl, A, rfl, r⟩ := A; subst hn; subst hp
  have hv' : cl.slots[j.toNatClampNeg]? = some (.long x) := by rw [← Array.getElem?_toList]; exact hv
  exact Go.step (fun t q => X.1.laload X.2.1 (j := j) (by rw [X.2.2.2.2.2.2]; exact A.1) (State.isArrayOf_alike X.2.2.2.2.2.1.alike A.2.1) A.2.2 (fun hh => hh.elim hj (fun hh => absurd (Array.getElem?_eq_some_iff.mp hv').1 (Nat.not_lt.mpr hh))) hv' (g := mkF m pc Ls (.int j :: .ref a :: st)) rfl rfl (hb X.2.2.1 hd) _ q) k
theorem g_aaload (X : Sx Z own bytes ml p l e R s m args below meth c T locs cells slots h) {a : Addr} {vs : List Value} {j : Int32} {v : Value} {ty : FieldType} (A : Av Z h a ty vs) (n : Nat) (hd : decode bytes pc = .ok (.aaload, 1)) (hp : pc + 1 = pc') (hty : ty.isReference = true) (hj : ¬ j < 0) (hn : j.toNatClampNeg = n) (hv : vs[n]? = some v) (k : Go p e below K (T.setTop (mkF m pc' Ls (v :: st)))) : Go p e below K (T.setTop (mkF m pc Ls (.int j :: .ref a :: st))) := by
  obtain ⟨cl, A, rfl, r⟩ := A; subst hn; subst hp
  have hv' : cl.slots[j.toNatClampNeg]? = some v := by rw [← Array.getElem?_toList]; exact hv
  exact Go.step (fun t q => X.1.aaload X.2.1 (j := j) (by rw [X.2.2.2.2.2.2]; exact A.1) (State.isArrayOf_alike X.2.2.2.2.2.1.alike A.2.1) hty A.2.2 (fun hh => hh.elim hj (fun hh => absurd (Array.getElem?_eq_some_iff.mp hv').1 (Nat.not_lt.mpr hh))) hv' (g := mkF m pc Ls (.int j :: .ref a :: st)) rfl rfl (hb X.2.2.1 hd) _ q) k
theorem g_arraylength (X : Sx Z own bytes ml p l e R s m args below meth c T locs cells slots h) {a : Addr} {vs : List Value} {ty : FieldType} (A : Av Z h a ty vs) (hd : decode bytes pc = .ok (.arraylength, 1)) (hp : pc + 1 = pc') {z : Int32} (hz : vs.length.toInt32 = z) (k : Go p e below K (T.setTop (mkF m pc' Ls (.int z :: st)))) : Go p e below K (T.setTop (mkF m pc Ls (.ref a :: st))) := by
  obtain ⟨cl, A, rfl, r⟩ := A; subst hp
  rw [Array.length_toList] at hz; subst hz
  exact Go.step (fun t q => X.1.arraylength X.2.1 (by rw [X.2.2.2.2.2.2]; exact A.1) (State.isArrayOf_alike X.2.2.2.2.2.1.alike A.2.1) (g := mkF m pc Ls (.ref a :: st)) rfl rfl (hb X.2.2.1 hd) _ q) k
theorem g_iastore (X : Sx Z own bytes ml p l e R s m args below meth c T locs cells slots h) {a : Addr} {vs : List Value} {j : Int32} {x : Int32} (A : Av Z h a .int vs) (n : Nat) (hd : decode bytes pc = .ok (.iastore, 1)) (hp : pc + 1 = pc') (hj : ¬ j < 0) (hn : j.toNatClampNeg = n) (hlt : n < vs.length) (k : ∀ T' h', Sx Z own bytes ml p l e R s m args below meth c T' (locs ++ [⟨a, n⟩]) cells slots h' → Wr h h' a n (.int x) → Av Z h' a .int (vs.set n (.int x)) → Go p e below K (T'.setTop (mkF m pc' Ls (st)))) : Go p e below K (T.setTop (mkF m pc Ls (.int x :: .int j :: .ref a :: st))) := by
  obtain ⟨cl, A, rfl, r⟩ := A; subst hn; subst hp
  obtain ⟨T', h', X', e', W, stp⟩ := stI X.1 X.2.1 X.2.2.2.2.2.1 X.2.2.2.2.2.2 A (j := j) (fun hh => hh.elim hj (fun hh => absurd hlt (by simpa using hh))) (g := mkF m pc Ls (.int x :: .int j :: .ref a :: st)) rfl rfl (hb X.2.2.1 hd)
  exact Go.step (fun t q => stp _ q) (k T' h' ⟨X', X.2.1, X.2.2.1, X.2.2.2.1, X.2.2.2.2.1, X.2.2.2.2.2.1, e'⟩ W (Av.set ⟨cl, A, rfl, r⟩ W))
theorem g_lastore (X : Sx Z own bytes ml p l e R s m args below meth c T locs cells slots h) {a : Addr} {vs : List Value} {j : Int32} {x : Int64} (A : Av Z h a .long vs) (n : Nat) (hd : decode bytes pc = .ok (.lastore, 1)) (hp : pc + 1 = pc') (hj : ¬ j < 0) (hn : j.toNatClampNeg = n) (hlt : n < vs.length) (k : ∀ T' h', Sx Z own bytes ml p l e R s m args below meth c T' (locs ++ [⟨a, n⟩]) cells slots h' → Wr h h' a n (.long x) → Av Z h' a .long (vs.set n (.long x)) → Go p e below K (T'.setTop (mkF m pc' Ls (st)))) : Go p e below K (T.setTop (mkF m pc Ls (.long x :: .int j :: .ref a :: st))) := by
  obtain ⟨cl, A, rfl, r⟩ := A; subst hn; subst hp
  obtain ⟨T', h', X', e', W, stp⟩ := stJ X.1 X.2.1 X.2.2.2.2.2.1 X.2.2.2.2.2.2 A (j := j) (fun hh => hh.elim hj (fun hh => absurd hlt (by simpa using hh))) (g := mkF m pc Ls (.long x :: .int j :: .ref a :: st)) rfl rfl (hb X.2.2.1 hd)
  exact Go.step (fun t q => stp _ q) (k T' h' ⟨X', X.2.1, X.2.2.1, X.2.2.2.1, X.2.2.2.2.1, X.2.2.2.2.2.1, e'⟩ W (Av.set ⟨cl, A, rfl, r⟩ W))
theorem g_castore (X : Sx Z own bytes ml p l e R s m args below meth c T locs cells slots h) {a : Addr} {vs : List Value} {j : Int32} {x : Int32} (A : Av Z h a .char vs) (n : Nat) (hd : decode bytes pc = .ok (.castore, 1)) (hp : pc + 1 = pc') (hj : ¬ j < 0) (hn : j.toNatClampNeg = n) (hlt : n < vs.length) (k : ∀ T' h', Sx Z own bytes ml p l e R s m args below meth c T' (locs ++ [⟨a, n⟩]) cells slots h' → Wr h h' a n (.int (nar .char x)) → Av Z h' a .char (vs.set n (.int (nar .char x))) → Go p e below K (T'.setTop (mkF m pc' Ls (st)))) : Go p e below K (T.setTop (mkF m pc Ls (.int x :: .int j :: .ref a :: st))) := by
  obtain ⟨cl, A, rfl, r⟩ := A; subst hn; subst hp
  obtain ⟨T', h', X', e', W, stp⟩ := stC X.1 X.2.1 X.2.2.2.2.2.1 X.2.2.2.2.2.2 A (j := j) (fun hh => hh.elim hj (fun hh => absurd hlt (by simpa using hh))) (g := mkF m pc Ls (.int x :: .int j :: .ref a :: st)) rfl rfl (hb X.2.2.1 hd)
  exact Go.step (fun t q => stp _ q) (k T' h' ⟨X', X.2.1, X.2.2.1, X.2.2.2.1, X.2.2.2.2.1, X.2.2.2.2.2.1, e'⟩ W (Av.set ⟨cl, A, rfl, r⟩ W))
theorem g_sastore (X : Sx Z own bytes ml p l e R s m args below meth c T locs cells slots h) {a : Addr} {vs : List Value} {j : Int32} {x : Int32} (A : Av Z h a .short vs) (n : Nat) (hd : decode bytes pc = .ok (.sastore, 1)) (hp : pc + 1 = pc') (hj : ¬ j < 0) (hn : j.toNatClampNeg = n) (hlt : n < vs.length) (k : ∀ T' h', Sx Z own bytes ml p l e R s m args below meth c T' (locs ++ [⟨a, n⟩]) cells slots h' → Wr h h' a n (.int (nar .short x)) → Av Z h' a .short (vs.set n (.int (nar .short x))) → Go p e below K (T'.setTop (mkF m pc' Ls (st)))) : Go p e below K (T.setTop (mkF m pc Ls (.int x :: .int j :: .ref a :: st))) := by
  obtain ⟨cl, A, rfl, r⟩ := A; subst hn; subst hp
  obtain ⟨T', h', X', e', W, stp⟩ := stS X.1 X.2.1 X.2.2.2.2.2.1 X.2.2.2.2.2.2 A (j := j) (fun hh => hh.elim hj (fun hh => absurd hlt (by simpa using hh))) (g := mkF m pc Ls (.int x :: .int j :: .ref a :: st)) rfl rfl (hb X.2.2.1 hd)
  exact Go.step (fun t q => stp _ q) (k T' h' ⟨X', X.2.1, X.2.2.1, X.2.2.2.1, X.2.2.2.2.1, X.2.2.2.2.2.1, e'⟩ W (Av.set ⟨cl, A, rfl, r⟩ W))
theorem g_bastore (X : Sx Z own bytes ml p l e R s m args below meth c T locs cells slots h) {a : Addr} {vs : List Value} {j : Int32} {x : Int32} (A : Av Z h a .byte vs) (n : Nat) (hd : decode bytes pc = .ok (.bastore, 1)) (hp : pc + 1 = pc') (hj : ¬ j < 0) (hn : j.toNatClampNeg = n) (hlt : n < vs.length) (k : ∀ T' h', Sx Z own bytes ml p l e R s m args below meth c T' (locs ++ [⟨a, n⟩]) cells slots h' → Wr h h' a n (.int (nar .byte x)) → Av Z h' a .byte (vs.set n (.int (nar .byte x))) → Go p e below K (T'.setTop (mkF m pc' Ls (st)))) : Go p e below K (T.setTop (mkF m pc Ls (.int x :: .int j :: .ref a :: st))) := by
  obtain ⟨cl, A, rfl, r⟩ := A; subst hn; subst hp
  obtain ⟨T', h', X', e', W, stp⟩ := stB X.1 X.2.1 X.2.2.2.2.2.1 X.2.2.2.2.2.2 A (j := j) (fun hh => hh.elim hj (fun hh => absurd hlt (by simpa using hh))) (g := mkF m pc Ls (.int x :: .int j :: .ref a :: st)) rfl rfl (hb X.2.2.1 hd)
  exact Go.step (fun t q => stp _ q) (k T' h' ⟨X', X.2.1, X.2.2.1, X.2.2.2.1, X.2.2.2.2.1, X.2.2.2.2.2.1, e'⟩ W (Av.set ⟨cl, A, rfl, r⟩ W))
theorem g_arraylengthN (X : Sx Z own bytes ml p l e R s m args below meth c T locs cells slots h) {a : Addr} {ty : FieldType} {z : Int32} (A : AvN Z h a ty z) (hd : decode bytes pc = .ok (.arraylength, 1)) (hp : pc + 1 = pc') (k : Go p e below K (T.setTop (mkF m pc' Ls (.int z :: st)))) : Go p e below K (T.setTop (mkF m pc Ls (.ref a :: st))) := by
  obtain ⟨vs, A, hz⟩ := A; exact g_arraylength X A hd hp hz k
theorem g_iastoreN (X : Sx Z own bytes ml p l e R s m args below meth c T locs cells slots h) {a : Addr} {j x z : Int32} (A : AvN Z h a .int z) (hd : decode bytes pc = .ok (.iastore, 1)) (hp : pc + 1 = pc') (hj : ¬ j < 0) (hjz : j < z) (k : ∀ T' h', Sx Z own bytes ml p l e R s m args below meth c T' (locs ++ [⟨a, j.toNatClampNeg⟩]) cells slots h' → Wr h h' a j.toNatClampNeg (.int x) → AvN Z h' a .int z → Go p e below K (T'.setTop (mkF m pc' Ls (st)))) : Go p e below K (T.setTop (mkF m pc Ls (.int x :: .int j :: .ref a :: st))) := by
  obtain ⟨vs, A, hz⟩ := A
  have hl := A.len
  refine g_iastore X A _ hd hp hj rfl ?_ (fun T' h' X' W V => k T' h' X' W ⟨_, V, by rw [List.length_set]; exact hz⟩)
  rw [hz] at hl
  rw [Int32.lt_iff_toInt_lt] at hj hjz
  simp only [Int32.toNatClampNeg, Int32.reduceToInt] at hj ⊢
  omega
theorem g_aastore (X : Sx Z own bytes ml p l e R s m args below meth c T locs cells slots h) {a : Addr} {vs : List Value} {j : Int32} {v : Value} {ty : FieldType} (A : Av Z h a ty vs) (S : Sto Z h a v) (n : Nat) (hd : decode bytes pc = .ok (.aastore, 1)) (hp : pc + 1 = pc') (hty : ty.isReference = true) (hj : ¬ j < 0) (hn : j.toNatClampNeg = n) (hlt : n < vs.length) (k : ∀ T' h', Sx Z own bytes ml p l e R s m args below meth c T' (locs ++ [⟨a, n⟩]) cells slots h' → Wr h h' a n v → Av Z h' a ty (vs.set n v) → Go p e below K (T'.setTop (mkF m pc' Ls (st)))) : Go p e below K (T.setTop (mkF m pc Ls (v :: .int j :: .ref a :: st))) := by
  obtain ⟨cl, A, rfl, r⟩ := A; subst hn; subst hp
  obtain ⟨T', h', X', e', W, stp⟩ := stR X.1 X.2.1 X.2.2.2.2.2.1 X.2.2.2.2.2.2 A (j := j) (fun hh => hh.elim hj (fun hh => absurd hlt (by simpa using hh))) hty S (g := mkF m pc Ls (v :: .int j :: .ref a :: st)) rfl rfl (hb X.2.2.1 hd)
  exact Go.step (fun t q => stp _ q) (k T' h' ⟨X', X.2.1, X.2.2.1, X.2.2.2.1, X.2.2.2.2.1, X.2.2.2.2.2.1, e'⟩ W (Av.set ⟨cl, A, rfl, r⟩ W))
theorem g_newarray (X : Sx Z own bytes ml p l e R s m args below meth c T locs cells slots h) {aty : ArrayType} {z : Int32} {vs : List Value} {ad : String} (n : Nat) (w : (Cond.arrayClass (newarray.typeOf aty)).before a0 Z = true) (hd : decode bytes pc = .ok (.newarray aty, 2)) (hp : pc + 2 = pc') (hz : ¬ z < 0) (hn : z.toNatClampNeg = n) (cap : Nat) (hcap : n ≤ cap) (hbig : cap * 8 ≤ 536870912) (hc : cells + 1 ≤ R.cells) (hl : slots + cap ≤ R.slots) (hvs : List.replicate n (defaultValue (newarray.typeOf aty)) = vs) (had : "[" ++ (newarray.typeOf aty).toString = ad) (k : ∀ T' h' (a : Addr), a = h.size → Sx Z own bytes ml p l e R s m args below meth c T' locs (cells + 1) (slots + cap) h' → Ext h h' → Exa Z h' a ad → Av Z h' a (newarray.typeOf aty) vs → Go p e below K (T'.setTop (mkF m pc' Ls (.ref a :: st)))) : Go p e below K (T.setTop (mkF m pc Ls (.int z :: st))) := by
  subst hn; subst hp; subst hvs
  obtain ⟨T', h', cA, X', e', E, A, B, stp⟩ := newPE X.1 X.2.1 X.2.2.2.2.2.1 w X.2.2.2.2.2.2 (g := mkF m pc Ls (.int z :: st)) rfl (hb X.2.2.1 hd) rfl hz hcap hbig hc hl had
  refine Go.step (fun t q => stp _ q) (k T' h' _ rfl ⟨X', X.2.1, X.2.2.1, X.2.2.2.1, X.2.2.2.2.1, X.2.2.2.2.2.1, e'⟩ E B ⟨_, A, by simp [newA], ?_⟩)
  simp only [List.length_replicate]
  exact (back32 hz).2
theorem g_anewarray (X : Sx Z own bytes ml p l e R s m args below meth c T locs cells slots h) {i : Nat} {C : String} {z : Int32} {vs : List Value} {ad : String} (n : Nat) (w1 : (Cond.classLink own i C).before a0 Z = true) (w2 : (Cond.arrayOver (.object C)).before a0 Z = true) (hd : decode bytes pc = .ok (.anewarray i, 3)) (hp : pc + 3 = pc') (hz : ¬ z < 0) (hn : z.toNatClampNeg = n) (cap : Nat) (hcap : n ≤ cap) (hbig : cap * 8 ≤ 536870912) (hc : cells + 1 ≤ R.cells) (hl : slots + cap ≤ R.slots) (hvs : List.replicate n .null = vs) (had : "[" ++ (FieldType.object C).toString = ad) (k : ∀ T' h' (a : Addr), a = h.size → Sx Z own bytes ml p l e R s m args below meth c T' locs (cells + 1) (slots + cap) h' → Ext h h' → Exa Z h' a ad → Av Z h' a (.object C) vs → OvA Z h' a C → Go p e below K (T'.setTop (mkF m pc' Ls (.ref a :: st)))) : Go p e below K (T.setTop (mkF m pc Ls (.int z :: st))) := by
  subst hn; subst hp; subst hvs
  obtain ⟨T', h', cA, X', e', E, A, B, O, stp⟩ := newRE X.1 X.2.1 X.2.2.2.2.2.1 X.2.2.2.2.1 w1 w2 X.2.2.2.2.2.2 (g := mkF m pc Ls (.int z :: st)) rfl (hb X.2.2.1 hd) rfl hz hcap hbig hc hl had
  refine Go.step (fun t q => stp _ q) (k T' h' _ rfl ⟨X', X.2.1, X.2.2.1, X.2.2.2.1, X.2.2.2.2.1, X.2.2.2.2.2.1, e'⟩ E B ⟨_, A, by simp [newA, defaultValue], ?_⟩ ⟨_, A, O⟩)
  simp only [List.length_replicate]
  exact (back32 hz).2
theorem g_new (X : Sx Z own bytes ml p l e R s m args below meth c T locs cells slots h) {i n : Nat} {C : String} (w1 : (Cond.classLink own i C).before a0 Z = true) (w2 : (Cond.instantiable C n).before a0 Z = true) (w3 : (Cond.initialized C).before a0 Z = true) (hd : decode bytes pc = .ok (.new i, 3)) (hp : pc + 3 = pc') (hc : cells + 1 ≤ R.cells) (hl : slots + n ≤ R.slots) (k : ∀ T' h' (a : Addr), a = h.size → Sx Z own bytes ml p l e R s m args below meth c T' locs (cells + 1) (slots + n) h' → Ext h h' → Exa Z h' a C → (∀ {O nm d : String} {ty : FieldType}, Laid Z a0 C O nm d → parseFieldDescriptor d = some ty → Fld Z h' a O nm d (defaultValue ty)) → Go p e below K (T'.setTop (mkF m pc' Ls (.ref a :: st)))) : Go p e below K (T.setTop (mkF m pc Ls (st))) := by
  subst hp
  obtain ⟨T', h', X', e', E, A, D, -, stp⟩ := newO X.1 X.2.1 X.2.2.2.2.2.1 X.2.2.2.2.1 w1 w2 w3 X.2.2.2.2.2.2 (g := mkF m pc Ls st) rfl (hb X.2.2.1 hd) hc hl
  exact Go.step (fun t q => stp _ q) (k T' h' _ rfl ⟨X', X.2.1, X.2.2.1, X.2.2.2.1, X.2.2.2.2.1, X.2.2.2.2.2.1, e'⟩ E A D)
theorem g_getfield (X : Sx Z own bytes ml p l e R s m args below meth c T locs cells slots h) {i : Nat} {R0 O nm d host : String} {a : Addr} {v : Value} (w : (Cond.fieldLink own i R0 nm d).before a0 Z = true ∨ (Cond.fieldLinkNest own i R0 nm d host).before a0 Z = true) (via : Via Z R0 O nm d) (F : Fld Z h a O nm d v) (hd : decode bytes pc = .ok (.getfield i, 3)) (hp : pc + 3 = pc') (k : ∀ T', Sx Z own bytes ml p l e R s m args below meth c T' locs cells slots h → Go p e below K (T'.setTop (mkF m pc' Ls (v :: st)))) : Go p e below K (T.setTop (mkF m pc Ls (.ref a :: st))) := by
  subst hp
  obtain ⟨T', X', e', stp⟩ := getF X.1 X.2.1 X.2.2.2.2.2.1 X.2.2.2.2.1 w via X.2.2.2.2.2.2 F (g := mkF m pc Ls (.ref a :: st)) rfl rfl (hb X.2.2.1 hd)
  exact Go.step (fun t q => stp _ q) (k T' ⟨X', X.2.1, X.2.2.1, X.2.2.2.1, X.2.2.2.2.1, X.2.2.2.2.2.1, e'⟩)
theorem g_getstatic (X : Sx Z own bytes ml p l e R s m args below meth c T locs cells slots h) {i : Nat} {R0 O nm d host : String} {v : Value} (w : (Cond.fieldLink own i R0 nm d).before a0 Z = true ∨ (Cond.fieldLinkNest own i R0 nm d host).before a0 Z = true) (via : Via Z R0 O nm d) (F : Sta Z h O nm d v) (hd : decode bytes pc = .ok (.getstatic i, 3)) (hp : pc + 3 = pc') (k : ∀ T', Sx Z own bytes ml p l e R s m args below meth c T' locs cells slots h → Go p e below K (T'.setTop (mkF m pc' Ls (v :: st)))) : Go p e below K (T.setTop (mkF m pc Ls (st))) := by
  subst hp
  obtain ⟨T', X', e', stp⟩ := getS2 X.1 X.2.1 X.2.2.2.2.2.1 X.2.2.2.2.1 w via X.2.2.2.2.2.2 F (g := mkF m pc Ls st) rfl (hb X.2.2.1 hd)
  exact Go.step (fun t q => stp _ q) (k T' ⟨X', X.2.1, X.2.2.1, X.2.2.2.1, X.2.2.2.2.1, X.2.2.2.2.2.1, e'⟩)
theorem g_putfield (X : Sx Z own bytes ml p l e R s m args below meth c T locs cells slots h) {i kk : Nat} {R0 O nm d host C : String} {a : Addr} {v old : Value} {ty : FieldType} (w : (Cond.fieldLink own i R0 nm d).before a0 Z = true ∨ (Cond.fieldLinkNest own i R0 nm d host).before a0 Z = true) (via : Via Z R0 O nm d) (F : Fld Z h a O nm d old) (E : Exa Z h a C) (L : (Cond.lays C O nm d).before a0 Z = true ∨ ((Cond.laysFinal C O nm d).before a0 Z = true ∧ own = O ∧ meth.name = "<init>")) (wi : (Cond.instantiable C kk).before a0 Z = true) (hty : parseFieldDescriptor d = some ty) (hn : narrow ty v = v) (hf : fits ty v = true) (hd : decode bytes pc = .ok (.putfield i, 3)) (hp : pc + 3 = pc') (k : ∀ T' h', Sx Z own bytes ml p l e R s m args below meth c T' (locs ++ [⟨a, RoadKit.slotOf Z O nm d⟩]) cells slots h' → Wr h h' a (RoadKit.slotOf Z O nm d) v → Go p e below K (T'.setTop (mkF m pc' Ls (st)))) : Go p e below K (T.setTop (mkF m pc Ls (v :: .ref a :: st))) := by
  subst hp
  obtain ⟨T', h', X', e', W, stp⟩ := putF X.1 X.2.1 X.2.2.2.2.2.1 X.2.2.2.2.1 w via X.2.2.2.2.2.2 F E L wi hty hn hf (g := mkF m pc Ls (v :: .ref a :: st)) rfl rfl (hb X.2.2.1 hd)
  exact Go.step (fun t q => stp _ q) (k T' h' ⟨X', X.2.1, X.2.2.1, X.2.2.2.1, X.2.2.2.2.1, X.2.2.2.2.2.1, e'⟩ W)
theorem g_putfieldN (X : Sx Z own bytes ml p l e R s m args below meth c T locs cells slots h) {i kk : Nat} {R0 O nm d C : String} {a : Addr} {v v' old : Value} {ty : FieldType} (w : (Cond.fieldLink own i R0 nm d).before a0 Z = true) (via : Via Z R0 O nm d) (F : Fld Z h a O nm d old) (E : Exa Z h a C) (L : (Cond.lays C O nm d).before a0 Z = true ∨ ((Cond.laysFinal C O nm d).before a0 Z = true ∧ own = O ∧ meth.name = "<init>")) (wi : (Cond.instantiable C kk).before a0 Z = true) (hty : parseFieldDescriptor d = some ty) (hn : narrow ty v = v') (hf : fits ty v' = true) (hd : decode bytes pc = .ok (.putfield i, 3)) (hp : pc + 3 = pc') (k : ∀ T' h', Sx Z own bytes ml p l e R s m args below meth c T' (locs ++ [⟨a, RoadKit.slotOf Z O nm d⟩]) cells slots h' → Wr h h' a (RoadKit.slotOf Z O nm d) v' → Go p e below K (T'.setTop (mkF m pc' Ls (st)))) : Go p e below K (T.setTop (mkF m pc Ls (v :: .ref a :: st))) := by
  subst hp
  obtain ⟨T', h', X', e', W, stp⟩ := putFN X.1 X.2.1 X.2.2.2.2.2.1 X.2.2.2.2.1 w via X.2.2.2.2.2.2 F E L wi hty hn hf (g := mkF m pc Ls (v :: .ref a :: st)) rfl rfl (hb X.2.2.1 hd)
  exact Go.step (fun t q => stp _ q) (k T' h' ⟨X', X.2.1, X.2.2.1, X.2.2.2.1, X.2.2.2.2.1, X.2.2.2.2.2.1, e'⟩ W)
theorem g_initO (X : Sx Z own bytes ml p l e R s m args below meth c T locs cells slots h) {i W : Nat} {a : Addr} (w1 : (Cond.methodLink own i Lib.objectInit).before a0 Z = true) (w2 : (Cond.instanceMethod Lib.objectInit).before a0 Z = true) (w3 : (Cond.code Lib.objectInit ⟨#[0xb1]⟩ 1 none).before a0 Z = true) (hd : decode bytes pc = .ok (.invokespecial i, 3)) (hp : pc + 3 = pc') (hsz : Ls.size = ml) (hf : 1 ≤ R.frames) (hW : (st.map fun v => v.category).sum ≤ W) (hl : W + 12 ≤ R.locals) (k : ∀ T', Sx Z own bytes ml p l e R s m args below meth c T' locs cells slots h → Go p e below K (T'.setTop (mkF m pc' Ls (st)))) : Go p e below K (T.setTop (mkF m pc Ls (.ref a :: st))) := by
  subst hp
  obtain ⟨T', X', e', stp⟩ := initO X.1 X.2.1 X.2.2.2.2.2.1 X.2.2.2.2.1 w1 w2 w3 X.2.2.2.2.2.2 (g := mkF m pc Ls (.ref a :: st)) rfl (by rw [X.2.2.2.1]; exact hsz) rfl (hb X.2.2.1 hd) hf (W := W) (by simpa using hW) hl
  exact Go.step (fun t q => stp _ q) (k T' ⟨X', X.2.1, X.2.2.1, X.2.2.2.1, X.2.2.2.2.1, X.2.2.2.2.2.1, e'⟩)
theorem g_checkcast (X : Sx Z own bytes ml p l e R s m args below meth c T locs cells slots h) {i : Nat} {K0 : String} {a : Addr} (w : (Cond.classLink own i K0).before a0 Z = true) (F : Ins Z h a K0 true) (hd : decode bytes pc = .ok (.checkcast i, 3)) (hp : pc + 3 = pc') (k : ∀ T', Sx Z own bytes ml p l e R s m args below meth c T' locs cells slots h → Go p e below K (T'.setTop (mkF m pc' Ls (.ref a :: st)))) : Go p e below K (T.setTop (mkF m pc Ls (.ref a :: st))) := by
  subst hp
  obtain ⟨T', X', e', stp⟩ := castY X.1 X.2.1 X.2.2.2.2.2.1 X.2.2.2.2.1 w X.2.2.2.2.2.2 F (g := mkF m pc Ls (.ref a :: st)) rfl rfl (hb X.2.2.1 hd)
  exact Go.step (fun t q => stp _ q) (k T' ⟨X', X.2.1, X.2.2.1, X.2.2.2.1, X.2.2.2.2.1, X.2.2.2.2.2.1, e'⟩)
theorem g_clone (X : Sx Z own bytes ml p l e R s m args below meth c T locs cells slots h) {i W : Nat} {ad : String} {a : Addr} {ty : FieldType} {vs : List Value} (w1 : (Cond.methodLink own i ⟨ad, "clone", "()Ljava/lang/Object;"⟩).before a0 Z = true) (w2 : (Cond.sameMethod ad "java/lang/Object" "clone" "()Ljava/lang/Object;").before a0 Z = true) (w3 : (Cond.native ⟨"java/lang/Object", "clone", "()Ljava/lang/Object;"⟩).before a0 Z = true) (w4 : (Cond.instanceMethod ⟨"java/lang/Object", "clone", "()Ljava/lang/Object;"⟩).before a0 Z = true) (w5 : (Cond.selects ad ⟨ad, "clone", "()Ljava/lang/Object;"⟩ ⟨"java/lang/Object", "clone", "()Ljava/lang/Object;"⟩).before a0 Z = true) (w6 : (Cond.castable ad "java/lang/Cloneable").before a0 Z = true) (A : Av Z h a ty vs) (E : Exa Z h a ad) (hfit : ∀ v ∈ vs, fits ty v = true) (hd : decode bytes pc = .ok (.invokevirtual i, 3)) (hp : pc + 3 = pc') (hsz : Ls.size = ml) (hf : 1 ≤ R.frames) (hW : (st.map fun v => v.category).sum ≤ W) (hl : W + 14 ≤ R.locals) (cap : Nat) (hcap : vs.length ≤ cap) (hc : cells + 1 ≤ R.cells) (hs : slots + cap ≤ R.slots) (k : ∀ T' h' (b : Addr), b = h.size → Sx Z own bytes ml p l e R s m args below meth c T' locs (cells + 1) (slots + cap) h' → Ext h h' → Exa Z h' b ad → Av Z h' b ty vs → Go p e below K (T'.setTop (mkF m pc' Ls (.ref b :: st)))) : Go p e below K (T.setTop (mkF m pc Ls (.ref a :: st))) := by
  subst hp
  obtain ⟨cl, A, rfl, r⟩ := A
  have FC : FitC Z cl := fitC_of A fun j hj v hv => hfit v (by rw [← Array.getElem?_toList] at hv; exact List.mem_of_getElem? hv)
  obtain ⟨T', h', X', e', Ex, A', E', stp⟩ := cloneA X.1 X.2.1 X.2.2.2.2.2.1 X.2.2.2.2.1 w1 w2 w3 w4 w5 w6 X.2.2.2.2.2.2 A E FC (g := mkF m pc Ls (.ref a :: st)) rfl (by rw [X.2.2.2.1]; exact hsz) rfl (hb X.2.2.1 hd) hf (W := W) (cap := cap) (by simpa using hW) hl (by simpa using hcap) hc hs
  exact Go.step (fun t q => stp _ q) (k T' h' _ rfl ⟨X', X.2.1, X.2.2.1, X.2.2.2.1, X.2.2.2.2.1, X.2.2.2.2.2.1, e'⟩ Ex E' ⟨_, A', rfl, r⟩)
theorem g_static (X : Sx Z own bytes ml p l e R s m args below meth c T locs cells slots h) {y : MethodName} {yb : ByteArray} {yl : Nat} {yr : Option FieldType} {rm : Room} {as' : Array Value} {Q : Option Value → Heap → List Loc → Prop} {i W : Nat} (argsL rest : List Value) (w1 : (Cond.methodLink own i y).before a0 Z = true) (w2 : (Cond.static y).before a0 Z = true) (w3 : (Cond.initialized y.cls).before a0 Z = true) (w4 : (Cond.code y yb yl yr).before a0 Z = true) (M : Rm l Z y yb yl yr [] rm as' h Q) (hd : decode bytes pc = .ok (.invokestatic i, 3)) (hp : pc + 3 = pc') (hy : y.cls ≠ "java/lang/invoke/MethodHandle" ∧ y.cls ≠ "java/lang/invoke/VarHandle") (hf : rm.frames + 1 ≤ R.frames) (hl : W + (yl + 11) + rm.locals ≤ R.locals) (hsz : Ls.size = ml) (ha : argsL.toArray = as') (hst : st = argsL.reverse ++ rest) (hlen : ∀ sig, parseMethodDescriptor y.desc = some sig → argsL.length = sig.parameters.length) (hW : (rest.map fun v => v.category).sum ≤ W) (hc : cells + rm.cells ≤ R.cells) (hs : slots + rm.slots ≤ R.slots) (k : ∀ v T' L, Sx Z own bytes ml p l e R s m args below meth c T' (locs ++ L) (cells + rm.cells) (slots + rm.slots) T'.heap → Q v T'.heap L → Go p e below K (T'.setTop (mkF m pc' Ls (v.toList ++ rest)))) : Go p e below K (T.setTop (mkF m pc Ls (st))) := by
  subst hp; subst hst
  have hZ := X.2.2.2.2.2.1
  obtain ⟨v, vm1, ⟨T', L', k', n'⟩, -, X', ⟨L, hQ, l1, l2, l3⟩, stp⟩ := Jvm.LawKit.callS X.1 X.2.1 X.2.2.2.2.1 (mvT hZ w1) (mvT hZ w2) (mvT hZ w3) (mvT hZ w4) hy (backOf (W := W) M hZ w4 w3 hf hl) (g := mkF m pc Ls (argsL.reverse ++ rest)) rfl (by rw [X.2.2.2.1]; exact hsz) (argsL := argsL) (rest := rest) hlen rfl (by simpa using hW) (hb X.2.2.1 hd) (fun _ _ => ⟨ha, X.2.2.2.2.2.2, hc, hs⟩)
  dsimp only [Pt.U, Pt.locs, Pt.cells, Pt.slots] at X' l1 l2 l3 stp hQ
  subst l1 l2 l3
  exact Go.step (fun t q => stp _ q) (k v T' L ⟨X', X.2.1, X.2.2.1, X.2.2.2.1, X.2.2.2.2.1, X.2.2.2.2.2.1, rfl⟩ hQ)
theorem g_special (X : Sx Z own bytes ml p l e R s m args below meth c T locs cells slots h) {y : MethodName} {yb : ByteArray} {yl : Nat} {rm : Room} {as' : Array Value} {Q : Option Value → Heap → List Loc → Prop} {i W : Nat} {a : Addr} (argsL rest : List Value) (hi : y.name = "<init>") (w1 : (Cond.methodLink own i y).before a0 Z = true) (w2 : (Cond.instanceMethod y).before a0 Z = true) (w3 : (Cond.initialized y.cls).before a0 Z = true) (w4 : (Cond.code y yb yl none).before a0 Z = true) (M : Rm l Z y yb yl none [] rm as' h Q) (hd : decode bytes pc = .ok (.invokespecial i, 3)) (hp : pc + 3 = pc') (hy : y.cls ≠ "java/lang/invoke/MethodHandle" ∧ y.cls ≠ "java/lang/invoke/VarHandle") (hf : rm.frames + 1 ≤ R.frames) (hl : W + (yl + 11) + rm.locals ≤ R.locals) (hsz : Ls.size = ml) (ha : (.ref a :: argsL).toArray = as') (hst : st = argsL.reverse ++ .ref a :: rest) (hlen : ∀ sig, parseMethodDescriptor y.desc = some sig → argsL.length = sig.parameters.length) (hW : (rest.map fun v => v.category).sum ≤ W) (hc : cells + rm.cells ≤ R.cells) (hs : slots + rm.slots ≤ R.slots) (k : ∀ v T' L, Sx Z own bytes ml p l e R s m args below meth c T' (locs ++ L) (cells + rm.cells) (slots + rm.slots) T'.heap → Q v T'.heap L → Go p e below K (T'.setTop (mkF m pc' Ls (v.toList ++ rest)))) : Go p e below K (T.setTop (mkF m pc Ls (st))) := by
  subst hp; subst hst
  have hZ := X.2.2.2.2.2.1
  obtain ⟨v, vm1, ⟨T', L', k', n'⟩, -, X', ⟨L, hQ, l1, l2, l3⟩, stp⟩ := X.1.specialBack X.2.1 (y := y) hi X.2.2.2.2.1 (mvT hZ w1) (mvT hZ w2) (mvT hZ w4) hy (backOf (W := W) M hZ w4 w3 hf hl) (g := mkF m pc Ls (argsL.reverse ++ .ref a :: rest)) rfl (by rw [X.2.2.2.1]; exact hsz) (Steps.refl _) (a := a) (argsL := argsL) (rest := rest) hlen rfl (by simpa using hW) (hb X.2.2.1 hd) (fun _ _ => ⟨ha, X.2.2.2.2.2.2, hc, hs⟩)
  dsimp only [Pt.U, Pt.locs, Pt.cells, Pt.slots] at X' l1 l2 l3 stp hQ
  subst l1 l2 l3
  exact Go.step (fun t q => stp.trans q) (k v T' L ⟨X', X.2.1, X.2.2.1, X.2.2.2.1, X.2.2.2.2.1, X.2.2.2.2.2.1, rfl⟩ hQ)
theorem g_virtual (X : Sx Z own bytes ml p l e R s m args below meth c T locs cells slots h) {y : MethodName} {yb : ByteArray} {yl : Nat} {yr : Option FieldType} {rm : Room} {as' : Array Value} {Q : Option Value → Heap → List Loc → Prop} {i W : Nat} {a : Addr} {C : String} (argsL rest : List Value) (E : Exa Z h a C) (w1 : (Cond.methodLink own i y).before a0 Z = true) (w2 : (Cond.declares y).before a0 Z = true) (w5 : (Cond.selects C y y).before a0 Z = true) (w6 : (Cond.instanceMethod y).before a0 Z = true) (w3 : (Cond.initialized y.cls).before a0 Z = true) (w4 : (Cond.code y yb yl yr).before a0 Z = true) (M : Rm l Z y yb yl yr [] rm as' h Q) (hd : decode bytes pc = .ok (.invokevirtual i, 3)) (hp : pc + 3 = pc') (hy : y.cls ≠ "java/lang/invoke/MethodHandle" ∧ y.cls ≠ "java/lang/invoke/VarHandle") (hf : rm.frames + 1 ≤ R.frames) (hl : W + (yl + 11) + rm.locals ≤ R.locals) (hsz : Ls.size = ml) (ha : (.ref a :: argsL).toArray = as') (hst : st = argsL.reverse ++ .ref a :: rest) (hlen : ∀ sig, parseMethodDescriptor y.desc = some sig → argsL.length = sig.parameters.length) (hW : (rest.map fun v => v.category).sum ≤ W) (hc : cells + rm.cells ≤ R.cells) (hs : slots + rm.slots ≤ R.slots) (k : ∀ v T' L, Sx Z own bytes ml p l e R s m args below meth c T' (locs ++ L) (cells + rm.cells) (slots + rm.slots) T'.heap → Q v T'.heap L → Go p e below K (T'.setTop (mkF m pc' Ls (v.toList ++ rest)))) : Go p e below K (T.setTop (mkF m pc Ls (st))) := by
  subst hp; subst hst
  have hZ := X.2.2.2.2.2.1
  obtain ⟨cq, kq, qa, qb, qc⟩ := isOf hZ X.2.2.2.2.2.2 E
  obtain ⟨v, vm1, ⟨T', L', k', n'⟩, -, X', ⟨L, hQ, l1, l2, l3⟩, stp⟩ := X.1.virtualBack X.2.1 (y := y) (z := y) X.2.2.2.2.1 (mvT hZ w1) (mvT hZ w2) (notFace_of_selects (args := #[]) (mvT hZ w5)) (mvT hZ w5) (mvT hZ w6) hy (backOf (W := W) M hZ w4 w3 hf hl) qa qc (g := mkF m pc Ls (argsL.reverse ++ .ref a :: rest)) rfl (by rw [X.2.2.2.1]; exact hsz) (Steps.refl _) (argsL := argsL) (rest := rest) hlen rfl (by simpa using hW) (hb X.2.2.1 hd) (fun _ _ => ⟨ha, X.2.2.2.2.2.2, hc, hs⟩)
  dsimp only [Pt.U, Pt.locs, Pt.cells, Pt.slots] at X' l1 l2 l3 stp hQ
  subst l1 l2 l3
  exact Go.step (fun t q => stp.trans q) (k v T' L ⟨X', X.2.1, X.2.2.1, X.2.2.2.1, X.2.2.2.2.1, X.2.2.2.2.2.1, rfl⟩ hQ)
theorem g_virtualUp (X : Sx Z own bytes ml p l e R s m args below meth c T locs cells slots h) {y : MethodName} {yb : ByteArray} {yl : Nat} {yr : Option FieldType} {rm : Room} {as' : Array Value} {Q : Option Value → Heap → List Loc → Prop} {i W : Nat} {a : Addr} {C owner : String} {x : MethodName} (argsL rest : List Value) (E : Exa Z h a C) (w1 : (Cond.methodLink own i x).before a0 Z = true) (w8 : (Cond.sameMethod x.cls owner x.name x.desc).before a0 Z = true) (w2 : (Cond.declares ⟨owner, x.name, x.desc⟩).before a0 Z = true) (w5 : (Cond.selects C x y).before a0 Z = true) (w6 : (Cond.instanceMethod y).before a0 Z = true) (w3 : (Cond.initialized y.cls).before a0 Z = true) (w4 : (Cond.code y yb yl yr).before a0 Z = true) (M : Rm l Z y yb yl yr [] rm as' h Q) (hd : decode bytes pc = .ok (.invokevirtual i, 3)) (hp : pc + 3 = pc') (hy : owner ≠ "java/lang/invoke/MethodHandle" ∧ owner ≠ "java/lang/invoke/VarHandle") (hf : rm.frames + 1 ≤ R.frames) (hl : W + (yl + 11) + rm.locals ≤ R.locals) (hsz : Ls.size = ml) (ha : (.ref a :: argsL).toArray = as') (hst : st = argsL.reverse ++ .ref a :: rest) (hlen : ∀ sig, parseMethodDescriptor x.desc = some sig → argsL.length = sig.parameters.length) (hW : (rest.map fun v => v.category).sum ≤ W) (hc : cells + rm.cells ≤ R.cells) (hs : slots + rm.slots ≤ R.slots) (k : ∀ v T' L, Sx Z own bytes ml p l e R s m args below meth c T' (locs ++ L) (cells + rm.cells) (slots + rm.slots) T'.heap → Q v T'.heap L → Go p e below K (T'.setTop (mkF m pc' Ls (v.toList ++ rest)))) : Go p e below K (T.setTop (mkF m pc Ls (st))) := by
  subst hp; subst hst
  have hZ := X.2.2.2.2.2.1
  obtain ⟨cq, kq, qa, qb, qc⟩ := isOf hZ X.2.2.2.2.2.2 E
  obtain ⟨v, vm1, ⟨T', L', k', n'⟩, -, X', ⟨L, hQ, l1, l2, l3⟩, stp⟩ := X.1.virtualBackUp X.2.1 (x := x) (y := y) X.2.2.2.2.1 (mvT hZ w1) (mvT hZ w8) (mvT hZ w2) hy (mvT hZ w5) (mvT hZ w6) (backOf (W := W) M hZ w4 w3 hf hl) qa qc (g := mkF m pc Ls (argsL.reverse ++ .ref a :: rest)) rfl (by rw [X.2.2.2.1]; exact hsz) (Steps.refl _) (argsL := argsL) (rest := rest) hlen rfl (by simpa using hW) (hb X.2.2.1 hd) (fun _ _ => ⟨ha, X.2.2.2.2.2.2, hc, hs⟩)
  dsimp only [Pt.U, Pt.locs, Pt.cells, Pt.slots] at X' l1 l2 l3 stp hQ
  subst l1 l2 l3
  exact Go.step (fun t q => stp.trans q) (k v T' L ⟨X', X.2.1, X.2.2.1, X.2.2.2.1, X.2.2.2.2.1, X.2.2.2.2.2.1, rfl⟩ hQ)
theorem g_private (X : Sx Z own bytes ml p l e R s m args below meth c T locs cells slots h) {y : MethodName} {yb : ByteArray} {yl : Nat} {yr : Option FieldType} {rm : Room} {as' : Array Value} {Q : Option Value → Heap → List Loc → Prop} {i W : Nat} {a : Addr} (argsL rest : List Value) (E : Exa Z h a y.cls) (w1 : (Cond.methodLink own i y).before a0 Z = true) (w5 : (Cond.selects y.cls y y).before a0 Z = true) (w6 : (Cond.instanceMethod y).before a0 Z = true) (w7 : (Cond.privateMethod y).before a0 Z = true) (w3 : (Cond.initialized y.cls).before a0 Z = true) (w4 : (Cond.code y yb yl yr).before a0 Z = true) (M : Rm l Z y yb yl yr [] rm as' h Q) (hd : decode bytes pc = .ok (.invokevirtual i, 3)) (hp : pc + 3 = pc') (hy : y.cls ≠ "java/lang/invoke/MethodHandle" ∧ y.cls ≠ "java/lang/invoke/VarHandle") (hf : rm.frames + 1 ≤ R.frames) (hl : W + (yl + 11) + rm.locals ≤ R.locals) (hsz : Ls.size = ml) (ha : (.ref a :: argsL).toArray = as') (hst : st = argsL.reverse ++ .ref a :: rest) (hlen : ∀ sig, parseMethodDescriptor y.desc = some sig → argsL.length = sig.parameters.length) (hW : (rest.map fun v => v.category).sum ≤ W) (hc : cells + rm.cells ≤ R.cells) (hs : slots + rm.slots ≤ R.slots) (k : ∀ v T' L, Sx Z own bytes ml p l e R s m args below meth c T' (locs ++ L) (cells + rm.cells) (slots + rm.slots) T'.heap → Q v T'.heap L → Go p e below K (T'.setTop (mkF m pc' Ls (v.toList ++ rest)))) : Go p e below K (T.setTop (mkF m pc Ls (st))) := by
  subst hp; subst hst
  have hZ := X.2.2.2.2.2.1
  obtain ⟨cq, q1, q2⟩ := E.cell
  obtain ⟨v, vm1, ⟨T', L', k', n'⟩, -, X', ⟨L, hQ, l1, l2, l3⟩, stp⟩ := X.1.privateBack X.2.1 (y := y) X.2.2.2.2.1 (mvT hZ w1) (mvT hZ w6) (mvT hZ w5) (Cond.privateMethod_at (mvP hZ w7 (args := #[]))) (mvT hZ w4) hy (backOf (W := W) M hZ w4 w3 hf hl) (g := mkF m pc Ls (argsL.reverse ++ .ref a :: rest)) rfl (by rw [X.2.2.2.1]; exact hsz) (Steps.refl _) (a := a) (by rw [X.2.2.2.2.2.2]; exact q1) q2 (argsL := argsL) (rest := rest) hlen rfl (by simpa using hW) (hb X.2.2.1 hd) (fun _ _ => ⟨ha, X.2.2.2.2.2.2, hc, hs⟩)
  dsimp only [Pt.U, Pt.locs, Pt.cells, Pt.slots] at X' l1 l2 l3 stp hQ
  subst l1 l2 l3
  exact Go.step (fun t q => stp.trans q) (k v T' L ⟨X', X.2.1, X.2.2.1, X.2.2.2.1, X.2.2.2.2.1, X.2.2.2.2.2.1, rfl⟩ hQ)
theorem g_specialB (X : Sx Z own bytes ml p l e R s m args below meth c T locs cells slots h) {y : MethodName} {as' : Array Value} {Q : Option Value → Heap → List Loc → Prop} {i W kc ks : Nat} {a : Addr} {yb : ByteArray} {yl : Nat} (argsL rest : List Value) (hi : y.name = "<init>") (w1 : (Cond.methodLink own i y).before a0 Z = true) (w2 : (Cond.instanceMethod y).before a0 Z = true) (w4 : (Cond.code y yb yl none).before a0 Z = true) (hK : Back l R p e below s args y 3 W (fun A a => a = as' ∧ A.U.heap = h ∧ A.cells + kc ≤ R.cells ∧ A.slots + ks ≤ R.slots) (fun A _ v B => ∃ L, Q v B.U.heap L ∧ B.locs = A.locs ++ L ∧ B.cells = A.cells + kc ∧ B.slots = A.slots + ks)) (hd : decode bytes pc = .ok (.invokespecial i, 3)) (hp : pc + 3 = pc') (hy : y.cls ≠ "java/lang/invoke/MethodHandle" ∧ y.cls ≠ "java/lang/invoke/VarHandle") (hsz : Ls.size = ml) (ha : (.ref a :: argsL).toArray = as') (hst : st = argsL.reverse ++ .ref a :: rest) (hlen : ∀ sig, parseMethodDescriptor y.desc = some sig → argsL.length = sig.parameters.length) (hW : (rest.map fun v => v.category).sum ≤ W) (hc : cells + kc ≤ R.cells) (hs : slots + ks ≤ R.slots) (k : ∀ v T' L, Sx Z own bytes ml p l e R s m args below meth c T' (locs ++ L) (cells + kc) (slots + ks) T'.heap → Q v T'.heap L → Go p e below K (T'.setTop (mkF m pc' Ls (v.toList ++ rest)))) : Go p e below K (T.setTop (mkF m pc Ls (st))) := by
  subst hp; subst hst
  have hZ := X.2.2.2.2.2.1
  obtain ⟨v, vm1, ⟨T', L', k', n'⟩, -, X', ⟨L, hQ, l1, l2, l3⟩, stp⟩ := X.1.specialBack X.2.1 (y := y) hi X.2.2.2.2.1 (mvT hZ w1) (mvT hZ w2) (mvT hZ w4) hy hK (g := mkF m pc Ls (argsL.reverse ++ .ref a :: rest)) rfl (by rw [X.2.2.2.1]; exact hsz) (Steps.refl _) (a := a) (argsL := argsL) (rest := rest) hlen rfl (by simpa using hW) (hb X.2.2.1 hd) (fun _ _ => ⟨ha, X.2.2.2.2.2.2, hc, hs⟩)
  dsimp only [Pt.U, Pt.locs, Pt.cells, Pt.slots] at X' l1 l2 l3 stp hQ
  subst l1 l2 l3
  exact Go.step (fun t q => stp.trans q) (k v T' L ⟨X', X.2.1, X.2.2.1, X.2.2.2.1, X.2.2.2.2.1, X.2.2.2.2.2.1, rfl⟩ hQ)
theorem g_virtualB (X : Sx Z own bytes ml p l e R s m args below meth c T locs cells slots h) {y : MethodName} {as' : Array Value} {Q : Option Value → Heap → List Loc → Prop} {i W kc ks : Nat} {a : Addr} {C : String} (argsL rest : List Value) (E : Exa Z h a C) (w1 : (Cond.methodLink own i y).before a0 Z = true) (w2 : (Cond.declares y).before a0 Z = true) (w5 : (Cond.selects C y y).before a0 Z = true) (w6 : (Cond.instanceMethod y).before a0 Z = true) (hK : Back l R p e below s args y 3 W (fun A a => a = as' ∧ A.U.heap = h ∧ A.cells + kc ≤ R.cells ∧ A.slots + ks ≤ R.slots) (fun A _ v B => ∃ L, Q v B.U.heap L ∧ B.locs = A.locs ++ L ∧ B.cells = A.cells + kc ∧ B.slots = A.slots + ks)) (hd : decode bytes pc = .ok (.invokevirtual i, 3)) (hp : pc + 3 = pc') (hy : y.cls ≠ "java/lang/invoke/MethodHandle" ∧ y.cls ≠ "java/lang/invoke/VarHandle") (hsz : Ls.size = ml) (ha : (.ref a :: argsL).toArray = as') (hst : st = argsL.reverse ++ .ref a :: rest) (hlen : ∀ sig, parseMethodDescriptor y.desc = some sig → argsL.length = sig.parameters.length) (hW : (rest.map fun v => v.category).sum ≤ W) (hc : cells + kc ≤ R.cells) (hs : slots + ks ≤ R.slots) (k : ∀ v T' L, Sx Z own bytes ml p l e R s m args below meth c T' (locs ++ L) (cells + kc) (slots + ks) T'.heap → Q v T'.heap L → Go p e below K (T'.setTop (mkF m pc' Ls (v.toList ++ rest)))) : Go p e below K (T.setTop (mkF m pc Ls (st))) := by
  subst hp; subst hst
  have hZ := X.2.2.2.2.2.1
  obtain ⟨cq, kq, qa, qb, qc⟩ := isOf hZ X.2.2.2.2.2.2 E
  obtain ⟨v, vm1, ⟨T', L', k', n'⟩, -, X', ⟨L, hQ, l1, l2, l3⟩, stp⟩ := X.1.virtualBack X.2.1 (y := y) (z := y) X.2.2.2.2.1 (mvT hZ w1) (mvT hZ w2) (notFace_of_selects (args := #[]) (mvT hZ w5)) (mvT hZ w5) (mvT hZ w6) hy hK qa qc (g := mkF m pc Ls (argsL.reverse ++ .ref a :: rest)) rfl (by rw [X.2.2.2.1]; exact hsz) (Steps.refl _) (argsL := argsL) (rest := rest) hlen rfl (by simpa using hW) (hb X.2.2.1 hd) (fun _ _ => ⟨ha, X.2.2.2.2.2.2, hc, hs⟩)
  dsimp only [Pt.U, Pt.locs, Pt.cells, Pt.slots] at X' l1 l2 l3 stp hQ
  subst l1 l2 l3
  exact Go.step (fun t q => stp.trans q) (k v T' L ⟨X', X.2.1, X.2.2.1, X.2.2.2.1, X.2.2.2.2.1, X.2.2.2.2.2.1, rfl⟩ hQ)
theorem g_ireturn (X : Sx Z own bytes ml p l e R s m args below meth c T locs cells slots h) {Q : Option Value → Heap → List Loc → Prop} {kc ks : Nat} {z : Int32} (hd : decode bytes pc = .ok (.ireturn, 1)) (hret : meth.sig.returnType = some .int) (hlk : meth.locks = false) (hc : cells ≤ kc) (hs : slots ≤ ks) (q : Q (some (.int z)) h locs) : Go p e below (Ends s Q kc ks) (T.setTop (mkF m pc Ls (.int z :: st))) := by
  obtain ⟨fs, hr, hrun, hended, hW, hsame⟩ := X.1.leave (v := (some (.int z))) (fun h => by rw [hret] at h; cases h) hlk
  refine ⟨_, _, retI X.1 X.2.1 hret (hb X.2.2.1 hd) hr, hrun, hended, _, _, rfl, ?_, ⟨_, rfl⟩, hW, hsame.mono hc hs⟩
  show Q _ T.heap _
  rw [X.2.2.2.2.2.2]; exact q
theorem g_lreturn (X : Sx Z own bytes ml p l e R s m args below meth c T locs cells slots h) {Q : Option Value → Heap → List Loc → Prop} {kc ks : Nat} {z : Int64} (hd : decode bytes pc = .ok (.lreturn, 1)) (hret : meth.sig.returnType = some .long) (hlk : meth.locks = false) (hc : cells ≤ kc) (hs : slots ≤ ks) (q : Q (some (.long z)) h locs) : Go p e below (Ends s Q kc ks) (T.setTop (mkF m pc Ls (.long z :: st))) := by
  obtain ⟨fs, hr, hrun, hended, hW, hsame⟩ := X.1.leave (v := (some (.long z))) (fun h => by rw [hret] at h; cases h) hlk
  refine ⟨_, _, retJ X.1 X.2.1 hret (hb X.2.2.1 hd) hr, hrun, hended, _, _, rfl, ?_, ⟨_, rfl⟩, hW, hsame.mono hc hs⟩
  show Q _ T.heap _
  rw [X.2.2.2.2.2.2]; exact q
theorem g_ireturnN (X : Sx Z own bytes ml p l e R s m args below meth c T locs cells slots h) {Q : Option Value → Heap → List Loc → Prop} {kc ks : Nat} {z : Int32} {t : FieldType} (ht : t = .boolean ∨ t = .byte ∨ t = .char ∨ t = .short) (hd : decode bytes pc = .ok (.ireturn, 1)) (hret : meth.sig.returnType = some t) (hlk : meth.locks = false) (hc : cells ≤ kc) (hs : slots ≤ ks) (q : Q (some (.int (nar t z))) h locs) : Go p e below (Ends s Q kc ks) (T.setTop (mkF m pc Ls (.int z :: st))) := by
  obtain ⟨fs, hr, hrun, hended, hW, hsame⟩ := X.1.leave (v := (some (.int (nar t z)))) (fun h => by rw [hret] at h; cases h) hlk
  refine ⟨_, _, retN X.1 X.2.1 hret ht (hb X.2.2.1 hd) hr, hrun, hended, _, _, rfl, ?_, ⟨_, rfl⟩, hW, hsame.mono hc hs⟩
  show Q _ T.heap _
  rw [X.2.2.2.2.2.2]; exact q
theorem g_areturn (X : Sx Z own bytes ml p l e R s m args below meth c T locs cells slots h) {Q : Option Value → Heap → List Loc → Prop} {kc ks : Nat} {w : Value} {t : FieldType} (hw : w.isRef = true) (ht : t.isReference = true) (hd : decode bytes pc = .ok (.areturn, 1)) (hret : meth.sig.returnType = some t) (hlk : meth.locks = false) (hc : cells ≤ kc) (hs : slots ≤ ks) (q : Q (some w) h locs) : Go p e below (Ends s Q kc ks) (T.setTop (mkF m pc Ls ([w]))) := by
  obtain ⟨fs, hr, hrun, hended, hW, hsame⟩ := X.1.leave (v := (some w)) (fun h => by rw [hret] at h; cases h) hlk
  refine ⟨_, _, X.1.areturnOut X.2.1 hw hret ht (hb X.2.2.1 hd) hr, hrun, hended, _, _, rfl, ?_, ⟨_, rfl⟩, hW, hsame.mono hc hs⟩
  show Q _ T.heap _
  rw [X.2.2.2.2.2.2]; exact q
theorem g_return (X : Sx Z own bytes ml p l e R s m args below meth c T locs cells slots h) {Q : Option Value → Heap → List Loc → Prop} {kc ks : Nat} (hd : decode bytes pc = .ok (.return_, 1)) (hret : meth.sig.returnType = none) (hlk : meth.locks = false) (hc : cells ≤ kc) (hs : slots ≤ ks) (q : Q none h locs) : Go p e below (Ends s Q kc ks) (T.setTop (mkF m pc Ls ([]))) := by
  obtain ⟨fs, hr, hrun, hended, hW, hsame⟩ := X.1.leave (v := none) (fun _ => rfl) hlk
  refine ⟨_, _, X.1.returnOut X.2.1 hret (hb X.2.2.1 hd) hr, hrun, hended, _, _, rfl, ?_, ⟨_, rfl⟩, hW, hsame.mono hc hs⟩
  show Q _ T.heap _
  rw [X.2.2.2.2.2.2]; exact q
/-- a loop that writes nothing: F: the frame at its head; I: what holds there; mu: the turns left -/
theorem loopP {α : Type} (X : Sx Z own bytes ml p l e R s m args below meth c T locs cells slots h) (F : α → JFrame) (I : α → Prop) (mu : α → Nat)
    (hstep : ∀ (a : α) (T : State), Sx Z own bytes ml p l e R s m args below meth c T locs cells slots h → I a → (∀ (a' : α) (T' : State), mu a' < mu a → Sx Z own bytes ml p l e R s m args below meth c T' locs cells slots h → I a' → Go p e below K (T'.setTop (F a'))) → Go p e below K (T.setTop (F a))) (b : α) (hI : I b) : Go p e below K (T.setTop (F b)) := by
  have main : ∀ (n : Nat) (a : α) (T : State), mu a < n → Sx Z own bytes ml p l e R s m args below meth c T locs cells slots h → I a → Go p e below K (T.setTop (F a)) := by
    intro n
    induction n with
    | zero => intro a T q; exact absurd q (Nat.not_lt_zero _)
    | succ n ih => intro a T q X hI; exact hstep a T X hI (fun a' T' q' X' hI' => ih a' T' (Nat.lt_of_lt_of_le q' (Nat.le_of_lt_succ q)) X' hI')
  exact main _ b T (Nat.lt_succ_self _) X hI
/-- a loop that writes -/
theorem loopW {α : Type} (X : Sx Z own bytes ml p l e R s m args below meth c T locs cells slots h) (F : α → JFrame) (I : α → Heap → List Loc → Prop) (mu : α → Nat)
    (hstep : ∀ (a : α) (T : State) (h : Heap) (locs : List Loc), Sx Z own bytes ml p l e R s m args below meth c T locs cells slots h → I a h locs → (∀ (a' : α) (T' : State) (h' : Heap) (locs' : List Loc), mu a' < mu a → Sx Z own bytes ml p l e R s m args below meth c T' locs' cells slots h' → I a' h' locs' → Go p e below K (T'.setTop (F a'))) → Go p e below K (T.setTop (F a))) (b : α) (hI : I b h locs) : Go p e below K (T.setTop (F b)) := by
  have main : ∀ (n : Nat) (a : α) (T : State) (h : Heap) (locs : List Loc), mu a < n → Sx Z own bytes ml p l e R s m args below meth c T locs cells slots h → I a h locs → Go p e below K (T.setTop (F a)) := by
    intro n
    induction n with
    | zero => intro a T h locs q; exact absurd q (Nat.not_lt_zero _)
    | succ n ih => intro a T h locs q X hI; exact hstep a T h locs X hI (fun a' T' h' locs' q' X' hI' => ih a' T' h' locs' (Nat.lt_of_lt_of_le q' (Nat.le_of_lt_succ q)) X' hI')
  exact main _ b T h locs (Nat.lt_succ_self _) X hI
/-- two ways that meet again -/
theorem joinA {α : Type} (X : Sx Z own bytes ml p l e R s m args below meth c T locs cells slots h) (F : α → JFrame) (r : α → Prop) {f : JFrame} (k : ∀ (T' : State), Sx Z own bytes ml p l e R s m args below meth c T' locs cells slots h → ∀ v : α, r v → Go p e below K (T'.setTop (F v)))
    (b : (∀ (T' : State), Sx Z own bytes ml p l e R s m args below meth c T' locs cells slots h → ∀ v : α, r v → Go p e below K (T'.setTop (F v))) → Go p e below K (T.setTop f)) : Go p e below K (T.setTop f) := b k
end Walk
theorem narT : nar .boolean (1 : Int32) = b2i true := rfl
theorem narF : nar .boolean (0 : Int32) = b2i false := rfl
/-- the sheet's k-th word -/
theorem tb {a0 : Array Value} {Z : State} (hw : ∀ d ∈ tables_1, d.before a0 Z = true) (k : Nat) {d : Jvm.Cond} (hd : tables_1[k]? = some d) : d.before a0 Z = true := hw d (List.mem_of_getElem? hd)
/-- what a method says that writes and makes nothing: it returns this -/
def Pu (val : Value) (h0 : Heap) (v : Option Value) (h : Heap) (L : List Loc) : Prop := v = some val ∧ L = [] ∧ h = h0
theorem pureX {Z : State} {own : String} {bytes : ByteArray} {ml : Nat} {p : Program} {l : Launch} {e : Env} {R : Room} {s : State} {m : MethodId} {args : Array Value} {below : List Frame} {meth : Method} {c : Code} {T : State} {locs L : List Loc} {cells slots : Nat} {h : Heap} {val : Value} {v : Option Value}
    (X : Sx Z own bytes ml p l e R s m args below meth c T (locs ++ L) (cells + 0) (slots + 0) T.heap) (q : Pu val h v T.heap L) : v = some val ∧ Sx Z own bytes ml p l e R s m args below meth c T locs cells slots h := by
  obtain ⟨q1, rfl, q3⟩ := q
  rw [List.append_nil] at X
  exact ⟨q1, X.1, X.2.1, X.2.2.1, X.2.2.2.1, X.2.2.2.2.1, X.2.2.2.2.2.1, q3⟩
theorem pn_0 : plainName "com/example/ratatoskr/ratatoskr/simulator/TraceEvent" = true := by first | (simp [plainName, overriddenIn]; done) | decide +kernel
theorem d2_0 : decode prog_42_method_4_code 0 = .ok (.aload_n 0, 1) := by decide +kernel
theorem d2_1 : decode prog_42_method_4_code 1 = .ok (.invokespecial 16, 3) := by decide +kernel
theorem d2_4 : decode prog_42_method_4_code 4 = .ok (.aload_n 0, 1) := by decide +kernel
theorem d2_5 : decode prog_42_method_4_code 5 = .ok (.lload_n 1, 1) := by decide +kernel
theorem d2_6 : decode prog_42_method_4_code 6 = .ok (.putfield 21, 3) := by decide +kernel
theorem d2_9 : decode prog_42_method_4_code 9 = .ok (.aload_n 0, 1) := by decide +kernel
theorem d2_10 : decode prog_42_method_4_code 10 = .ok (.iload_n 3, 1) := by decide +kernel
theorem d2_11 : decode prog_42_method_4_code 11 = .ok (.putfield 25, 3) := by decide +kernel
theorem d2_14 : decode prog_42_method_4_code 14 = .ok (.aload_n 0, 1) := by decide +kernel
theorem d2_15 : decode prog_42_method_4_code 15 = .ok (.aload 4, 2) := by decide +kernel
theorem d2_17 : decode prog_42_method_4_code 17 = .ok (.putfield 29, 3) := by decide +kernel
theorem d2_20 : decode prog_42_method_4_code 20 = .ok (.aload_n 0, 1) := by decide +kernel
theorem d2_21 : decode prog_42_method_4_code 21 = .ok (.iload 5, 2) := by decide +kernel
theorem d2_23 : decode prog_42_method_4_code 23 = .ok (.putfield 32, 3) := by decide +kernel
theorem d2_26 : decode prog_42_method_4_code 26 = .ok (.aload_n 0, 1) := by decide +kernel
theorem d2_27 : decode prog_42_method_4_code 27 = .ok (.lload 6, 2) := by decide +kernel
theorem d2_29 : decode prog_42_method_4_code 29 = .ok (.putfield 35, 3) := by decide +kernel
theorem d2_32 : decode prog_42_method_4_code 32 = .ok (.aload_n 0, 1) := by decide +kernel
theorem d2_33 : decode prog_42_method_4_code 33 = .ok (.aload 8, 2) := by decide +kernel
theorem d2_35 : decode prog_42_method_4_code 35 = .ok (.putfield 38, 3) := by decide +kernel
theorem d2_38 : decode prog_42_method_4_code 38 = .ok (.return_, 1) := by decide +kernel
theorem ef_rC6n (m : MethodId) (x0 : Addr) (x1 : Int64) (x2 : Int32) (x3 : Addr) (x4 : Int32) (x5 : Int64) : entryFrame m #[(.ref x0), (.long x1), (.int x2), (.ref x3), (.int x4), (.long x5), .null] 9 = mkF m 0 #[.val (.ref x0), .val (.long x1), .second, .val (.int x2), .val (.ref x3), .val (.int x4), .val (.long x5), .second, .val .null] [] := by first | (simp [entryFrame, mkF, argsToLocals, Value.category]; done) | rfl
set_option maxRecDepth 65536 in
set_option maxHeartbeats 40000000 in
theorem rC6n (l : Launch) (Z : State) (aa : Array Value) (hw : ∀ d ∈ tables_1, d.before aa Z = true) (ws : List Jvm.Cond) (a0 : Addr) (j1 : Int64) (i2 : Int32) (a3 : Addr) (i4 : Int32) (j5 : Int64) (h0 : Heap) (n0 : Nat) (Z0 : n0 ≤ h0.size) (E_a0 : Exa Z h0 a0 "com/example/ratatoskr/ratatoskr/simulator/TraceEvent") (F_a0_time : Fld Z h0 a0 "com/example/ratatoskr/ratatoskr/simulator/TraceEvent" "time" "J" (.long (0 : Int64))) (F_a0_member : Fld Z h0 a0 "com/example/ratatoskr/ratatoskr/simulator/TraceEvent" "member" "I" (.int (0 : Int32))) (F_a0_kind : Fld Z h0 a0 "com/example/ratatoskr/ratatoskr/simulator/TraceEvent" "kind" "Lcom/example/ratatoskr/ratatoskr/simulator/TraceEvent$Kind;" .null) (F_a0_other : Fld Z h0 a0 "com/example/ratatoskr/ratatoskr/simulator/TraceEvent" "other" "I" (.int (0 : Int32))) (F_a0_sequence : Fld Z h0 a0 "com/example/ratatoskr/ratatoskr/simulator/TraceEvent" "sequence" "J" (.long (0 : Int64))) (F_a0_message : Fld Z h0 a0 "com/example/ratatoskr/ratatoskr/simulator/TraceEvent" "message" "[B" .null) (g_a0 : n0 ≤ a0) :
    Rm l Z (⟨"com/example/ratatoskr/ratatoskr/simulator/TraceEvent", "<init>", "(JILcom/example/ratatoskr/ratatoskr/simulator/TraceEvent$Kind;IJ[B)V"⟩ : MethodName) prog_42_method_4_code 9 none ws ({ frames := 1, cells := 0, slots := 0, locals := 12 } : Room) #[(.ref a0), (.long j1), (.int i2), (.ref a3), (.int i4), (.long j5), .null] h0 (fun v h L => v = none ∧ Fr n0 L ∧ Keep h0 h [a0] ∧ Exa Z h a0 "com/example/ratatoskr/ratatoskr/simulator/TraceEvent" ∧ Fld Z h a0 "com/example/ratatoskr/ratatoskr/simulator/TraceEvent" "time" "J" (.long j1) ∧ Fld Z h a0 "com/example/ratatoskr/ratatoskr/simulator/TraceEvent" "member" "I" (.int i2) ∧ Fld Z h a0 "com/example/ratatoskr/ratatoskr/simulator/TraceEvent" "kind" "Lcom/example/ratatoskr/ratatoskr/simulator/TraceEvent$Kind;" (.ref a3) ∧ Fld Z h a0 "com/example/ratatoskr/ratatoskr/simulator/TraceEvent" "other" "I" (.int i4) ∧ Fld Z h a0 "com/example/ratatoskr/ratatoskr/simulator/TraceEvent" "sequence" "J" (.long j5) ∧ Fld Z h a0 "com/example/ratatoskr/ratatoskr/simulator/TraceEvent" "message" "[B" .null) := by
  refine Rm.of (plainFor_of_name pn_0) ?_
  intro p e s m below meth cc T X hnm hret hlk
  refine Go.at_ (ef_rC6n m a0 j1 i2 a3 i4 j5) ?_
  have N := Fr.nil n0
  have Kp := Keep.refl h0 [a0]
  refine g_aloadN X d2_0 (pc' := 1) rfl rfl rfl ?_
  refine g_initO X (W := 0) (tb hw 13 rfl) (tb hw 14 rfl) (tb hw 15 rfl) d2_1 (pc' := 4) rfl rfl (by decide) (Nat.le_refl _) (by decide) ?_
  intro T X
  refine g_aloadN X d2_4 (pc' := 5) rfl rfl rfl ?_
  refine g_lloadN X d2_5 (pc' := 6) rfl rfl ?_
  refine g_putfield X (host := "") (Or.inl (tb hw 16 rfl)) Via.refl F_a0_time E_a0 (Or.inr ⟨(tb hw 17 rfl), rfl, hnm⟩) (tb hw 5 rfl) (ty := .long) (by decide) rfl rfl d2_6 (pc' := 9) rfl ?_
  intro T h X W
  replace E_a0 := E_a0.wr W
  replace F_a0_time := F_a0_time.same W
  replace F_a0_member := F_a0_member.other W (Or.inr (slot_ne (Or.inr (tb hw 19 rfl)) (Or.inr (tb hw 17 rfl)) (by decide) (t := .int) (t' := .long) (by decide) (by decide)))
  replace F_a0_kind := F_a0_kind.other W (Or.inr (slot_ne (Or.inr (tb hw 21 rfl)) (Or.inr (tb hw 17 rfl)) (by decide) (t := (.object "com/example/ratatoskr/ratatoskr/simulator/TraceEvent$Kind")) (t' := .long) (by decide) (by decide)))
  replace F_a0_other := F_a0_other.other W (Or.inr (slot_ne (Or.inr (tb hw 23 rfl)) (Or.inr (tb hw 17 rfl)) (by decide) (t := .int) (t' := .long) (by decide) (by decide)))
  replace F_a0_sequence := F_a0_sequence.other W (Or.inr (slot_ne (Or.inr (tb hw 25 rfl)) (Or.inr (tb hw 17 rfl)) (by decide) (t := .long) (t' := .long) (by decide) (by decide)))
  replace F_a0_message := F_a0_message.other W (Or.inr (slot_ne (Or.inr (tb hw 27 rfl)) (Or.inr (tb hw 17 rfl)) (by decide) (t := (.array .byte)) (t' := .long) (by decide) (by decide)))
  replace Z0 := Nat.le_trans Z0 (Nat.le_of_eq W.size.symm)
  replace N := Fr.snoc X.1 N g_a0
  replace Kp := Kp.wr W (Or.inl (List.mem_of_getElem? (i := 0) rfl))
  refine g_aloadN X d2_9 (pc' := 10) rfl rfl rfl ?_
  refine g_iloadN X d2_10 (pc' := 11) rfl rfl ?_
  refine g_putfield X (host := "") (Or.inl (tb hw 18 rfl)) Via.refl F_a0_member E_a0 (Or.inr ⟨(tb hw 19 rfl), rfl, hnm⟩) (tb hw 5 rfl) (ty := .int) (by decide) rfl rfl d2_11 (pc' := 14) rfl ?_
  intro T h X W
  replace E_a0 := E_a0.wr W
  replace F_a0_time := F_a0_time.other W (Or.inr (slot_ne (Or.inr (tb hw 17 rfl)) (Or.inr (tb hw 19 rfl)) (by decide) (t := .long) (t' := .int) (by decide) (by decide)))
  replace F_a0_member := F_a0_member.same W
  replace F_a0_kind := F_a0_kind.other W (Or.inr (slot_ne (Or.inr (tb hw 21 rfl)) (Or.inr (tb hw 19 rfl)) (by decide) (t := (.object "com/example/ratatoskr/ratatoskr/simulator/TraceEvent$Kind")) (t' := .int) (by decide) (by decide)))
  replace F_a0_other := F_a0_other.other W (Or.inr (slot_ne (Or.inr (tb hw 23 rfl)) (Or.inr (tb hw 19 rfl)) (by decide) (t := .int) (t' := .int) (by decide) (by decide)))
  replace F_a0_sequence := F_a0_sequence.other W (Or.inr (slot_ne (Or.inr (tb hw 25 rfl)) (Or.inr (tb hw 19 rfl)) (by decide) (t := .long) (t' := .int) (by decide) (by decide)))
  replace F_a0_message := F_a0_message.other W (Or.inr (slot_ne (Or.inr (tb hw 27 rfl)) (Or.inr (tb hw 19 rfl)) (by decide) (t := (.array .byte)) (t' := .int) (by decide) (by decide)))
  replace Z0 := Nat.le_trans Z0 (Nat.le_of_eq W.size.symm)
  replace N := Fr.snoc X.1 N g_a0
  replace Kp := Kp.wr W (Or.inl (List.mem_of_getElem? (i := 0) rfl))
  refine g_aloadN X d2_14 (pc' := 15) rfl rfl rfl ?_
  refine g_aload X d2_15 (pc' := 17) rfl rfl rfl ?_
  refine g_putfield X (host := "") (Or.inl (tb hw 20 rfl)) Via.refl F_a0_kind E_a0 (Or.inr ⟨(tb hw 21 rfl), rfl, hnm⟩) (tb hw 5 rfl) (ty := (.object "com/example/ratatoskr/ratatoskr/simulator/TraceEvent$Kind")) (by decide) rfl rfl d2_17 (pc' := 20) rfl ?_
  intro T h X W
  replace E_a0 := E_a0.wr W
  replace F_a0_time := F_a0_time.other W (Or.inr (slot_ne (Or.inr (tb hw 17 rfl)) (Or.inr (tb hw 21 rfl)) (by decide) (t := .long) (t' := (.object "com/example/ratatoskr/ratatoskr/simulator/TraceEvent$Kind")) (by decide) (by decide)))
  replace F_a0_member := F_a0_member.other W (Or.inr (slot_ne (Or.inr (tb hw 19 rfl)) (Or.inr (tb hw 21 rfl)) (by decide) (t := .int) (t' := (.object "com/example/ratatoskr/ratatoskr/simulator/TraceEvent$Kind")) (by decide) (by decide)))
  replace F_a0_kind := F_a0_kind.same W
  replace F_a0_other := F_a0_other.other W (Or.inr (slot_ne (Or.inr (tb hw 23 rfl)) (Or.inr (tb hw 21 rfl)) (by decide) (t := .int) (t' := (.object "com/example/ratatoskr/ratatoskr/simulator/TraceEvent$Kind")) (by decide) (by decide)))
  replace F_a0_sequence := F_a0_sequence.other W (Or.inr (slot_ne (Or.inr (tb hw 25 rfl)) (Or.inr (tb hw 21 rfl)) (by decide) (t := .long) (t' := (.object "com/example/ratatoskr/ratatoskr/simulator/TraceEvent$Kind")) (by decide) (by decide)))
  replace F_a0_message := F_a0_message.other W (Or.inr (slot_ne (Or.inr (tb hw 27 rfl)) (Or.inr (tb hw 21 rfl)) (by decide) (t := (.array .byte)) (t' := (.object "com/example/ratatoskr/ratatoskr/simulator/TraceEvent$Kind")) (by decide) (by decide)))
  replace Z0 := Nat.le_trans Z0 (Nat.le_of_eq W.size.symm)
  replace N := Fr.snoc X.1 N g_a0
  replace Kp := Kp.wr W (Or.inl (List.mem_of_getElem? (i := 0) rfl))
  refine g_aloadN X d2_20 (pc' := 21) rfl rfl rfl ?_
  refine g_iload X d2_21 (pc' := 23) rfl rfl ?_
  refine g_putfield X (host := "") (Or.inl (tb hw 22 rfl)) Via.refl F_a0_other E_a0 (Or.inr ⟨(tb hw 23 rfl), rfl, hnm⟩) (tb hw 5 rfl) (ty := .int) (by decide) rfl rfl d2_23 (pc' := 26) rfl ?_
  intro T h X W
  replace E_a0 := E_a0.wr W
  replace F_a0_time := F_a0_time.other W (Or.inr (slot_ne (Or.inr (tb hw 17 rfl)) (Or.inr (tb hw 23 rfl)) (by decide) (t := .long) (t' := .int) (by decide) (by decide)))
  replace F_a0_member := F_a0_member.other W (Or.inr (slot_ne (Or.inr (tb hw 19 rfl)) (Or.inr (tb hw 23 rfl)) (by decide) (t := .int) (t' := .int) (by decide) (by decide)))
  replace F_a0_kind := F_a0_kind.other W (Or.inr (slot_ne (Or.inr (tb hw 21 rfl)) (Or.inr (tb hw 23 rfl)) (by decide) (t := (.object "com/example/ratatoskr/ratatoskr/simulator/TraceEvent$Kind")) (t' := .int) (by decide) (by decide)))
  replace F_a0_other := F_a0_other.same W
  replace F_a0_sequence := F_a0_sequence.other W (Or.inr (slot_ne (Or.inr (tb hw 25 rfl)) (Or.inr (tb hw 23 rfl)) (by decide) (t := .long) (t' := .int) (by decide) (by decide)))
  replace F_a0_message := F_a0_message.other W (Or.inr (slot_ne (Or.inr (tb hw 27 rfl)) (Or.inr (tb hw 23 rfl)) (by decide) (t := (.array .byte)) (t' := .int) (by decide) (by decide)))
  replace Z0 := Nat.le_trans Z0 (Nat.le_of_eq W.size.symm)
  replace N := Fr.snoc X.1 N g_a0
  replace Kp := Kp.wr W (Or.inl (List.mem_of_getElem? (i := 0) rfl))
  refine g_aloadN X d2_26 (pc' := 27) rfl rfl rfl ?_
  refine g_lload X d2_27 (pc' := 29) rfl rfl ?_
  refine g_putfield X (host := "") (Or.inl (tb hw 24 rfl)) Via.refl F_a0_sequence E_a0 (Or.inr ⟨(tb hw 25 rfl), rfl, hnm⟩) (tb hw 5 rfl) (ty := .long) (by decide) rfl rfl d2_29 (pc' := 32) rfl ?_
  intro T h X W
  replace E_a0 := E_a0.wr W
  replace F_a0_time := F_a0_time.other W (Or.inr (slot_ne (Or.inr (tb hw 17 rfl)) (Or.inr (tb hw 25 rfl)) (by decide) (t := .long) (t' := .long) (by decide) (by decide)))
  replace F_a0_member := F_a0_member.other W (Or.inr (slot_ne (Or.inr (tb hw 19 rfl)) (Or.inr (tb hw 25 rfl)) (by decide) (t := .int) (t' := .long) (by decide) (by decide)))
  replace F_a0_kind := F_a0_kind.other W (Or.inr (slot_ne (Or.inr (tb hw 21 rfl)) (Or.inr (tb hw 25 rfl)) (by decide) (t := (.object "com/example/ratatoskr/ratatoskr/simulator/TraceEvent$Kind")) (t' := .long) (by decide) (by decide)))
  replace F_a0_other := F_a0_other.other W (Or.inr (slot_ne (Or.inr (tb hw 23 rfl)) (Or.inr (tb hw 25 rfl)) (by decide) (t := .int) (t' := .long) (by decide) (by decide)))
  replace F_a0_sequence := F_a0_sequence.same W
  replace F_a0_message := F_a0_message.other W (Or.inr (slot_ne (Or.inr (tb hw 27 rfl)) (Or.inr (tb hw 25 rfl)) (by decide) (t := (.array .byte)) (t' := .long) (by decide) (by decide)))
  replace Z0 := Nat.le_trans Z0 (Nat.le_of_eq W.size.symm)
  replace N := Fr.snoc X.1 N g_a0
  replace Kp := Kp.wr W (Or.inl (List.mem_of_getElem? (i := 0) rfl))
  refine g_aloadN X d2_32 (pc' := 33) rfl rfl rfl ?_
  refine g_aload X d2_33 (pc' := 35) rfl rfl rfl ?_
  refine g_putfield X (host := "") (Or.inl (tb hw 26 rfl)) Via.refl F_a0_message E_a0 (Or.inr ⟨(tb hw 27 rfl), rfl, hnm⟩) (tb hw 5 rfl) (ty := (.array .byte)) (by decide) rfl rfl d2_35 (pc' := 38) rfl ?_
  intro T h X W
  replace E_a0 := E_a0.wr W
  replace F_a0_time := F_a0_time.other W (Or.inr (slot_ne (Or.inr (tb hw 17 rfl)) (Or.inr (tb hw 27 rfl)) (by decide) (t := .long) (t' := (.array .byte)) (by decide) (by decide)))
  replace F_a0_member := F_a0_member.other W (Or.inr (slot_ne (Or.inr (tb hw 19 rfl)) (Or.inr (tb hw 27 rfl)) (by decide) (t := .int) (t' := (.array .byte)) (by decide) (by decide)))
  replace F_a0_kind := F_a0_kind.other W (Or.inr (slot_ne (Or.inr (tb hw 21 rfl)) (Or.inr (tb hw 27 rfl)) (by decide) (t := (.object "com/example/ratatoskr/ratatoskr/simulator/TraceEvent$Kind")) (t' := (.array .byte)) (by decide) (by decide)))
  replace F_a0_other := F_a0_other.other W (Or.inr (slot_ne (Or.inr (tb hw 23 rfl)) (Or.inr (tb hw 27 rfl)) (by decide) (t := .int) (t' := (.array .byte)) (by decide) (by decide)))
  replace F_a0_sequence := F_a0_sequence.other W (Or.inr (slot_ne (Or.inr (tb hw 25 rfl)) (Or.inr (tb hw 27 rfl)) (by decide) (t := .long) (t' := (.array .byte)) (by decide) (by decide)))
  replace F_a0_message := F_a0_message.same W
  replace Z0 := Nat.le_trans Z0 (Nat.le_of_eq W.size.symm)
  replace N := Fr.snoc X.1 N g_a0
  replace Kp := Kp.wr W (Or.inl (List.mem_of_getElem? (i := 0) rfl))
  refine g_return X d2_38 hret hlk (by decide) (by decide) ?_
  exact ⟨rfl, N, Kp, E_a0, F_a0_time, F_a0_member, F_a0_kind, F_a0_other, F_a0_sequence, F_a0_message⟩
theorem ef_rC6 (m : MethodId) (x0 : Addr) (x1 : Int64) (x2 : Int32) (x3 : Addr) (x4 : Int32) (x5 : Int64) (x6 : Addr) : entryFrame m #[(.ref x0), (.long x1), (.int x2), (.ref x3), (.int x4), (.long x5), (.ref x6)] 9 = mkF m 0 #[.val (.ref x0), .val (.long x1), .second, .val (.int x2), .val (.ref x3), .val (.int x4), .val (.long x5), .second, .val (.ref x6)] [] := by first | (simp [entryFrame, mkF, argsToLocals, Value.category]; done) | rfl
set_option maxRecDepth 65536 in
set_option maxHeartbeats 40000000 in
theorem rC6 (l : Launch) (Z : State) (aa : Array Value) (hw : ∀ d ∈ tables_1, d.before aa Z = true) (ws : List Jvm.Cond) (a0 : Addr) (j1 : Int64) (i2 : Int32) (a3 : Addr) (i4 : Int32) (j5 : Int64) (a6 : Addr) (h0 : Heap) (n0 : Nat) (Z0 : n0 ≤ h0.size) (E_a0 : Exa Z h0 a0 "com/example/ratatoskr/ratatoskr/simulator/TraceEvent") (F_a0_time : Fld Z h0 a0 "com/example/ratatoskr/ratatoskr/simulator/TraceEvent" "time" "J" (.long (0 : Int64))) (F_a0_member : Fld Z h0 a0 "com/example/ratatoskr/ratatoskr/simulator/TraceEvent" "member" "I" (.int (0 : Int32))) (F_a0_kind : Fld Z h0 a0 "com/example/ratatoskr/ratatoskr/simulator/TraceEvent" "kind" "Lcom/example/ratatoskr/ratatoskr/simulator/TraceEvent$Kind;" .null) (F_a0_other : Fld Z h0 a0 "com/example/ratatoskr/ratatoskr/simulator/TraceEvent" "other" "I" (.int (0 : Int32))) (F_a0_sequence : Fld Z h0 a0 "com/example/ratatoskr/ratatoskr/simulator/TraceEvent" "sequence" "J" (.long (0 : Int64))) (F_a0_message : Fld Z h0 a0 "com/example/ratatoskr/ratatoskr/simulator/TraceEvent" "message" "[B" .null) (g_a0 : n0 ≤ a0) :
    Rm l Z (⟨"com/example/ratatoskr/ratatoskr/simulator/TraceEvent", "<init>", "(JILcom/example/ratatoskr/ratatoskr/simulator/TraceEvent$Kind;IJ[B)V"⟩ : MethodName) prog_42_method_4_code 9 none ws ({ frames := 1, cells := 0, slots := 0, locals := 12 } : Room) #[(.ref a0), (.long j1), (.int i2), (.ref a3), (.int i4), (.long j5), (.ref a6)] h0 (fun v h L => v = none ∧ Fr n0 L ∧ Keep h0 h [a0] ∧ Exa Z h a0 "com/example/ratatoskr/ratatoskr/simulator/TraceEvent" ∧ Fld Z h a0 "com/example/ratatoskr/ratatoskr/simulator/TraceEvent" "time" "J" (.long j1) ∧ Fld Z h a0 "com/example/ratatoskr/ratatoskr/simulator/TraceEvent" "member" "I" (.int i2) ∧ Fld Z h a0 "com/example/ratatoskr/ratatoskr/simulator/TraceEvent" "kind" "Lcom/example/ratatoskr/ratatoskr/simulator/TraceEvent$Kind;" (.ref a3) ∧ Fld Z h a0 "com/example/ratatoskr/ratatoskr/simulator/TraceEvent" "other" "I" (.int i4) ∧ Fld Z h a0 "com/example/ratatoskr/ratatoskr/simulator/TraceEvent" "sequence" "J" (.long j5) ∧ Fld Z h a0 "com/example/ratatoskr/ratatoskr/simulator/TraceEvent" "message" "[B" (.ref a6)) := by
  refine Rm.of (plainFor_of_name pn_0) ?_
  intro p e s m below meth cc T X hnm hret hlk
  refine Go.at_ (ef_rC6 m a0 j1 i2 a3 i4 j5 a6) ?_
  have N := Fr.nil n0
  have Kp := Keep.refl h0 [a0]
  refine g_aloadN X d2_0 (pc' := 1) rfl rfl rfl ?_
  refine g_initO X (W := 0) (tb hw 13 rfl) (tb hw 14 rfl) (tb hw 15 rfl) d2_1 (pc' := 4) rfl rfl (by decide) (Nat.le_refl _) (by decide) ?_
  intro T X
  refine g_aloadN X d2_4 (pc' := 5) rfl rfl rfl ?_
  refine g_lloadN X d2_5 (pc' := 6) rfl rfl ?_
  refine g_putfield X (host := "") (Or.inl (tb hw 16 rfl)) Via.refl F_a0_time E_a0 (Or.inr ⟨(tb hw 17 rfl), rfl, hnm⟩) (tb hw 5 rfl) (ty := .long) (by decide) rfl rfl d2_6 (pc' := 9) rfl ?_
  intro T h X W
  replace E_a0 := E_a0.wr W
  replace F_a0_time := F_a0_time.same W
  replace F_a0_member := F_a0_member.other W (Or.inr (slot_ne (Or.inr (tb hw 19 rfl)) (Or.inr (tb hw 17 rfl)) (by decide) (t := .int) (t' := .long) (by decide) (by decide)))
  replace F_a0_kind := F_a0_kind.other W (Or.inr (slot_ne (Or.inr (tb hw 21 rfl)) (Or.inr (tb hw 17 rfl)) (by decide) (t := (.object "com/example/ratatoskr/ratatoskr/simulator/TraceEvent$Kind")) (t' := .long) (by decide) (by decide)))
  replace F_a0_other := F_a0_other.other W (Or.inr (slot_ne (Or.inr (tb hw 23 rfl)) (Or.inr (tb hw 17 rfl)) (by decide) (t := .int) (t' := .long) (by decide) (by decide)))
  replace F_a0_sequence := F_a0_sequence.other W (Or.inr (slot_ne (Or.inr (tb hw 25 rfl)) (Or.inr (tb hw 17 rfl)) (by decide) (t := .long) (t' := .long) (by decide) (by decide)))
  replace F_a0_message := F_a0_message.other W (Or.inr (slot_ne (Or.inr (tb hw 27 rfl)) (Or.inr (tb hw 17 rfl)) (by decide) (t := (.array .byte)) (t' := .long) (by decide) (by decide)))
  replace Z0 := Nat.le_trans Z0 (Nat.le_of_eq W.size.symm)
  replace N := Fr.snoc X.1 N g_a0
  replace Kp := Kp.wr W (Or.inl (List.mem_of_getElem? (i := 0) rfl))
  refine g_aloadN X d2_9 (pc' := 10) rfl rfl rfl ?_
  refine g_iloadN X d2_10 (pc' := 11) rfl rfl ?_
  refine g_putfield X (host := "") (Or.inl (tb hw 18 rfl)) Via.refl F_a0_member E_a0 (Or.inr ⟨(tb hw 19 rfl), rfl, hnm⟩) (tb hw 5 rfl) (ty := .int) (by decide) rfl rfl d2_11 (pc' := 14) rfl ?_
  intro T h X W
  replace E_a0 := E_a0.wr W
  replace F_a0_time := F_a0_time.other W (Or.inr (slot_ne (Or.inr (tb hw 17 rfl)) (Or.inr (tb hw 19 rfl)) (by decide) (t := .long) (t' := .int) (by decide) (by decide)))
  replace F_a0_member := F_a0_member.same W
  replace F_a0_kind := F_a0_kind.other W (Or.inr (slot_ne (Or.inr (tb hw 21 rfl)) (Or.inr (tb hw 19 rfl)) (by decide) (t := (.object "com/example/ratatoskr/ratatoskr/simulator/TraceEvent$Kind")) (t' := .int) (by decide) (by decide)))
  replace F_a0_other := F_a0_other.other W (Or.inr (slot_ne (Or.inr (tb hw 23 rfl)) (Or.inr (tb hw 19 rfl)) (by decide) (t := .int) (t' := .int) (by decide) (by decide)))
  replace F_a0_sequence := F_a0_sequence.other W (Or.inr (slot_ne (Or.inr (tb hw 25 rfl)) (Or.inr (tb hw 19 rfl)) (by decide) (t := .long) (t' := .int) (by decide) (by decide)))
  replace F_a0_message := F_a0_message.other W (Or.inr (slot_ne (Or.inr (tb hw 27 rfl)) (Or.inr (tb hw 19 rfl)) (by decide) (t := (.array .byte)) (t' := .int) (by decide) (by decide)))
  replace Z0 := Nat.le_trans Z0 (Nat.le_of_eq W.size.symm)
  replace N := Fr.snoc X.1 N g_a0
  replace Kp := Kp.wr W (Or.inl (List.mem_of_getElem? (i := 0) rfl))
  refine g_aloadN X d2_14 (pc' := 15) rfl rfl rfl ?_
  refine g_aload X d2_15 (pc' := 17) rfl rfl rfl ?_
  refine g_putfield X (host := "") (Or.inl (tb hw 20 rfl)) Via.refl F_a0_kind E_a0 (Or.inr ⟨(tb hw 21 rfl), rfl, hnm⟩) (tb hw 5 rfl) (ty := (.object "com/example/ratatoskr/ratatoskr/simulator/TraceEvent$Kind")) (by decide) rfl rfl d2_17 (pc' := 20) rfl ?_
  intro T h X W
  replace E_a0 := E_a0.wr W
  replace F_a0_time := F_a0_time.other W (Or.inr (slot_ne (Or.inr (tb hw 17 rfl)) (Or.inr (tb hw 21 rfl)) (by decide) (t := .long) (t' := (.object "com/example/ratatoskr/ratatoskr/simulator/TraceEvent$Kind")) (by decide) (by decide)))
  replace F_a0_member := F_a0_member.other W (Or.inr (slot_ne (Or.inr (tb hw 19 rfl)) (Or.inr (tb hw 21 rfl)) (by decide) (t := .int) (t' := (.object "com/example/ratatoskr/ratatoskr/simulator/TraceEvent$Kind")) (by decide) (by decide)))
  replace F_a0_kind := F_a0_kind.same W
  replace F_a0_other := F_a0_other.other W (Or.inr (slot_ne (Or.inr (tb hw 23 rfl)) (Or.inr (tb hw 21 rfl)) (by decide) (t := .int) (t' := (.object "com/example/ratatoskr/ratatoskr/simulator/TraceEvent$Kind")) (by decide) (by decide)))
  replace F_a0_sequence := F_a0_sequence.other W (Or.inr (slot_ne (Or.inr (tb hw 25 rfl)) (Or.inr (tb hw 21 rfl)) (by decide) (t := .long) (t' := (.object "com/example/ratatoskr/ratatoskr/simulator/TraceEvent$Kind")) (by decide) (by decide)))
  replace F_a0_message := F_a0_message.other W (Or.inr (slot_ne (Or.inr (tb hw 27 rfl)) (Or.inr (tb hw 21 rfl)) (by decide) (t := (.array .byte)) (t' := (.object "com/example/ratatoskr/ratatoskr/simulator/TraceEvent$Kind")) (by decide) (by decide)))
  replace Z0 := Nat.le_trans Z0 (Nat.le_of_eq W.size.symm)
  replace N := Fr.snoc X.1 N g_a0
  replace Kp := Kp.wr W (Or.inl (List.mem_of_getElem? (i := 0) rfl))
  refine g_aloadN X d2_20 (pc' := 21) rfl rfl rfl ?_
  refine g_iload X d2_21 (pc' := 23) rfl rfl ?_
  refine g_putfield X (host := "") (Or.inl (tb hw 22 rfl)) Via.refl F_a0_other E_a0 (Or.inr ⟨(tb hw 23 rfl), rfl, hnm⟩) (tb hw 5 rfl) (ty := .int) (by decide) rfl rfl d2_23 (pc' := 26) rfl ?_
  intro T h X W
  replace E_a0 := E_a0.wr W
  replace F_a0_time := F_a0_time.other W (Or.inr (slot_ne (Or.inr (tb hw 17 rfl)) (Or.inr (tb hw 23 rfl)) (by decide) (t := .long) (t' := .int) (by decide) (by decide)))
  replace F_a0_member := F_a0_member.other W (Or.inr (slot_ne (Or.inr (tb hw 19 rfl)) (Or.inr (tb hw 23 rfl)) (by decide) (t := .int) (t' := .int) (by decide) (by decide)))
  replace F_a0_kind := F_a0_kind.other W (Or.inr (slot_ne (Or.inr (tb hw 21 rfl)) (Or.inr (tb hw 23 rfl)) (by decide) (t := (.object "com/example/ratatoskr/ratatoskr/simulator/TraceEvent$Kind")) (t' := .int) (by decide) (by decide)))
  replace F_a0_other := F_a0_other.same W
  replace F_a0_sequence := F_a0_sequence.other W (Or.inr (slot_ne (Or.inr (tb hw 25 rfl)) (Or.inr (tb hw 23 rfl)) (by decide) (t := .long) (t' := .int) (by decide) (by decide)))
  replace F_a0_message := F_a0_message.other W (Or.inr (slot_ne (Or.inr (tb hw 27 rfl)) (Or.inr (tb hw 23 rfl)) (by decide) (t := (.array .byte)) (t' := .int) (by decide) (by decide)))
  replace Z0 := Nat.le_trans Z0 (Nat.le_of_eq W.size.symm)
  replace N := Fr.snoc X.1 N g_a0
  replace Kp := Kp.wr W (Or.inl (List.mem_of_getElem? (i := 0) rfl))
  refine g_aloadN X d2_26 (pc' := 27) rfl rfl rfl ?_
  refine g_lload X d2_27 (pc' := 29) rfl rfl ?_
  refine g_putfield X (host := "") (Or.inl (tb hw 24 rfl)) Via.refl F_a0_sequence E_a0 (Or.inr ⟨(tb hw 25 rfl), rfl, hnm⟩) (tb hw 5 rfl) (ty := .long) (by decide) rfl rfl d2_29 (pc' := 32) rfl ?_
  intro T h X W
  replace E_a0 := E_a0.wr W
  replace F_a0_time := F_a0_time.other W (Or.inr (slot_ne (Or.inr (tb hw 17 rfl)) (Or.inr (tb hw 25 rfl)) (by decide) (t := .long) (t' := .long) (by decide) (by decide)))
  replace F_a0_member := F_a0_member.other W (Or.inr (slot_ne (Or.inr (tb hw 19 rfl)) (Or.inr (tb hw 25 rfl)) (by decide) (t := .int) (t' := .long) (by decide) (by decide)))
  replace F_a0_kind := F_a0_kind.other W (Or.inr (slot_ne (Or.inr (tb hw 21 rfl)) (Or.inr (tb hw 25 rfl)) (by decide) (t := (.object "com/example/ratatoskr/ratatoskr/simulator/TraceEvent$Kind")) (t' := .long) (by decide) (by decide)))
  replace F_a0_other := F_a0_other.other W (Or.inr (slot_ne (Or.inr (tb hw 23 rfl)) (Or.inr (tb hw 25 rfl)) (by decide) (t := .int) (t' := .long) (by decide) (by decide)))
  replace F_a0_sequence := F_a0_sequence.same W
  replace F_a0_message := F_a0_message.other W (Or.inr (slot_ne (Or.inr (tb hw 27 rfl)) (Or.inr (tb hw 25 rfl)) (by decide) (t := (.array .byte)) (t' := .long) (by decide) (by decide)))
  replace Z0 := Nat.le_trans Z0 (Nat.le_of_eq W.size.symm)
  replace N := Fr.snoc X.1 N g_a0
  replace Kp := Kp.wr W (Or.inl (List.mem_of_getElem? (i := 0) rfl))
  refine g_aloadN X d2_32 (pc' := 33) rfl rfl rfl ?_
  refine g_aload X d2_33 (pc' := 35) rfl rfl rfl ?_
  refine g_putfield X (host := "") (Or.inl (tb hw 26 rfl)) Via.refl F_a0_message E_a0 (Or.inr ⟨(tb hw 27 rfl), rfl, hnm⟩) (tb hw 5 rfl) (ty := (.array .byte)) (by decide) rfl rfl d2_35 (pc' := 38) rfl ?_
  intro T h X W
  replace E_a0 := E_a0.wr W
  replace F_a0_time := F_a0_time.other W (Or.inr (slot_ne (Or.inr (tb hw 17 rfl)) (Or.inr (tb hw 27 rfl)) (by decide) (t := .long) (t' := (.array .byte)) (by decide) (by decide)))
  replace F_a0_member := F_a0_member.other W (Or.inr (slot_ne (Or.inr (tb hw 19 rfl)) (Or.inr (tb hw 27 rfl)) (by decide) (t := .int) (t' := (.array .byte)) (by decide) (by decide)))
  replace F_a0_kind := F_a0_kind.other W (Or.inr (slot_ne (Or.inr (tb hw 21 rfl)) (Or.inr (tb hw 27 rfl)) (by decide) (t := (.object "com/example/ratatoskr/ratatoskr/simulator/TraceEvent$Kind")) (t' := (.array .byte)) (by decide) (by decide)))
  replace F_a0_other := F_a0_other.other W (Or.inr (slot_ne (Or.inr (tb hw 23 rfl)) (Or.inr (tb hw 27 rfl)) (by decide) (t := .int) (t' := (.array .byte)) (by decide) (by decide)))
  replace F_a0_sequence := F_a0_sequence.other W (Or.inr (slot_ne (Or.inr (tb hw 25 rfl)) (Or.inr (tb hw 27 rfl)) (by decide) (t := .long) (t' := (.array .byte)) (by decide) (by decide)))
  replace F_a0_message := F_a0_message.same W
  replace Z0 := Nat.le_trans Z0 (Nat.le_of_eq W.size.symm)
  replace N := Fr.snoc X.1 N g_a0
  replace Kp := Kp.wr W (Or.inl (List.mem_of_getElem? (i := 0) rfl))
  refine g_return X d2_38 hret hlk (by decide) (by decide) ?_
  exact ⟨rfl, N, Kp, E_a0, F_a0_time, F_a0_member, F_a0_kind, F_a0_other, F_a0_sequence, F_a0_message⟩
theorem d1_0 : decode prog_42_method_1_code 0 = .ok (.aload_n 0, 1) := by decide +kernel
theorem d1_1 : decode prog_42_method_1_code 1 = .ok (.lload_n 1, 1) := by decide +kernel
theorem d1_2 : decode prog_42_method_1_code 2 = .ok (.iload_n 3, 1) := by decide +kernel
theorem d1_3 : decode prog_42_method_1_code 3 = .ok (.aload 4, 2) := by decide +kernel
theorem d1_5 : decode prog_42_method_1_code 5 = .ok (.iconst (-1), 1) := by decide +kernel
theorem d1_6 : decode prog_42_method_1_code 6 = .ok (.lconst 0, 1) := by decide +kernel
theorem d1_7 : decode prog_42_method_1_code 7 = .ok (.aconst_null, 1) := by decide +kernel
theorem d1_8 : decode prog_42_method_1_code 8 = .ok (.invokespecial 3, 3) := by decide +kernel
theorem pd_0 : parseMethodDescriptor "(JILcom/example/ratatoskr/ratatoskr/simulator/TraceEvent$Kind;IJ[B)V" = some ⟨[.long, .int, (.object "com/example/ratatoskr/ratatoskr/simulator/TraceEvent$Kind"), .int, .long, (.array .byte)], none⟩ := by decide +kernel
theorem d1_11 : decode prog_42_method_1_code 11 = .ok (.return_, 1) := by decide +kernel
theorem ef_rC3 (m : MethodId) (x0 : Addr) (x1 : Int64) (x2 : Int32) (x3 : Addr) : entryFrame m #[(.ref x0), (.long x1), (.int x2), (.ref x3)] 5 = mkF m 0 #[.val (.ref x0), .val (.long x1), .second, .val (.int x2), .val (.ref x3)] [] := by first | (simp [entryFrame, mkF, argsToLocals, Value.category]; done) | rfl
set_option maxRecDepth 65536 in
set_option maxHeartbeats 40000000 in
theorem rC3 (l : Launch) (Z : State) (aa : Array Value) (hw : ∀ d ∈ tables_1, d.before aa Z = true) (ws : List Jvm.Cond) (a0 : Addr) (j1 : Int64) (i2 : Int32) (a3 : Addr) (h0 : Heap) (n0 : Nat) (Z0 : n0 ≤ h0.size) (E_a0 : Exa Z h0 a0 "com/example/ratatoskr/ratatoskr/simulator/TraceEvent") (F_a0_time : Fld Z h0 a0 "com/example/ratatoskr/ratatoskr/simulator/TraceEvent" "time" "J" (.long (0 : Int64))) (F_a0_member : Fld Z h0 a0 "com/example/ratatoskr/ratatoskr/simulator/TraceEvent" "member" "I" (.int (0 : Int32))) (F_a0_kind : Fld Z h0 a0 "com/example/ratatoskr/ratatoskr/simulator/TraceEvent" "kind" "Lcom/example/ratatoskr/ratatoskr/simulator/TraceEvent$Kind;" .null) (F_a0_other : Fld Z h0 a0 "com/example/ratatoskr/ratatoskr/simulator/TraceEvent" "other" "I" (.int (0 : Int32))) (F_a0_sequence : Fld Z h0 a0 "com/example/ratatoskr/ratatoskr/simulator/TraceEvent" "sequence" "J" (.long (0 : Int64))) (F_a0_message : Fld Z h0 a0 "com/example/ratatoskr/ratatoskr/simulator/TraceEvent" "message" "[B" .null) (g_a0 : n0 ≤ a0) :
    Rm l Z (⟨"com/example/ratatoskr/ratatoskr/simulator/TraceEvent", "<init>", "(JILcom/example/ratatoskr/ratatoskr/simulator/TraceEvent$Kind;)V"⟩ : MethodName) prog_42_method_1_code 5 none ws ({ frames := 2, cells := 0, slots := 0, locals := 32 } : Room) #[(.ref a0), (.long j1), (.int i2), (.ref a3)] h0 (fun v h L => v = none ∧ Fr n0 L ∧ Keep h0 h [a0] ∧ Exa Z h a0 "com/example/ratatoskr/ratatoskr/simulator/TraceEvent" ∧ Fld Z h a0 "com/example/ratatoskr/ratatoskr/simulator/TraceEvent" "time" "J" (.long j1) ∧ Fld Z h a0 "com/example/ratatoskr/ratatoskr/simulator/TraceEvent" "member" "I" (.int i2) ∧ Fld Z h a0 "com/example/ratatoskr/ratatoskr/simulator/TraceEvent" "kind" "Lcom/example/ratatoskr/ratatoskr/simulator/TraceEvent$Kind;" (.ref a3) ∧ Fld Z h a0 "com/example/ratatoskr/ratatoskr/simulator/TraceEvent" "other" "I" (.int (-1 : Int32)) ∧ Fld Z h a0 "com/example/ratatoskr/ratatoskr/simulator/TraceEvent" "sequence" "J" (.long (0 : Int64)) ∧ Fld Z h a0 "com/example/ratatoskr/ratatoskr/simulator/TraceEvent" "message" "[B" .null) := by
  refine Rm.of (plainFor_of_name pn_0) ?_
  intro p e s m below meth cc T X hnm hret hlk
  refine Go.at_ (ef_rC3 m a0 j1 i2 a3) ?_
  have N := Fr.nil n0
  have Kp := Keep.refl h0 [a0]
  refine g_aloadN X d1_0 (pc' := 1) rfl rfl rfl ?_
  refine g_lloadN X d1_1 (pc' := 2) rfl rfl ?_
  refine g_iloadN X d1_2 (pc' := 3) rfl rfl ?_
  refine g_aload X d1_3 (pc' := 5) rfl rfl rfl ?_
  refine g_iconst X (-1 : Int32) d1_5 (pc' := 6) rfl rfl ?_
  refine g_lconst X (0 : Int64) d1_6 (pc' := 7) rfl rfl ?_
  refine g_aconst_null X d1_7 (pc' := 8) rfl ?_
  refine g_special X (W := 0) (a := a0) [(.long j1), (.int i2), (.ref a3), (.int (-1 : Int32)), (.long (0 : Int64)), .null] [] rfl (tb hw 10 rfl) (tb hw 11 rfl) (tb hw 6 rfl) (tb hw 12 rfl) (rC6n l Z aa hw [] a0 j1 i2 a3 (-1 : Int32) (0 : Int64) _ n0 Z0 E_a0 F_a0_time F_a0_member F_a0_kind F_a0_other F_a0_sequence F_a0_message g_a0) d1_8 (pc' := 11) rfl (by decide) (by decide) (by decide) rfl rfl rfl (lenOf pd_0 rfl) (Nat.le_refl _) (by decide) (by decide) ?_
  intro v T L X q
  obtain ⟨rfl, Nq, Kq, E_a0', F_a0_time', F_a0_member', F_a0_kind', F_a0_other', F_a0_sequence', F_a0_message'⟩ := q
  replace N := N.app Nq
  replace Z0 := Nat.le_trans Z0 Kq.1
  replace Kp := Kp.trans Kq (allS (Or.inl (List.mem_of_getElem? (i := 0) rfl)) all0)
  replace E_a0 := E_a0'
  replace F_a0_time := F_a0_time'
  replace F_a0_member := F_a0_member'
  replace F_a0_kind := F_a0_kind'
  replace F_a0_other := F_a0_other'
  replace F_a0_sequence := F_a0_sequence'
  replace F_a0_message := F_a0_message'
  show Go p e below _ (T.setTop (mkF m 11 #[.val (.ref a0), .val (.long j1), .second, .val (.int i2), .val (.ref a3)] []))
  refine g_return X d1_11 hret hlk (by decide) (by decide) ?_
  exact ⟨rfl, N, Kp, E_a0, F_a0_time, F_a0_member, F_a0_kind, F_a0_other, F_a0_sequence, F_a0_message⟩
theorem d5_0 : decode prog_42_method_3_code 0 = .ok (.aload_n 0, 1) := by decide +kernel
theorem d5_1 : decode prog_42_method_3_code 1 = .ok (.lload_n 1, 1) := by decide +kernel
theorem d5_2 : decode prog_42_method_3_code 2 = .ok (.iload_n 3, 1) := by decide +kernel
theorem d5_3 : decode prog_42_method_3_code 3 = .ok (.getstatic 13, 3) := by decide +kernel
theorem d5_6 : decode prog_42_method_3_code 6 = .ok (.iload 4, 2) := by decide +kernel
theorem d5_8 : decode prog_42_method_3_code 8 = .ok (.lload 5, 2) := by decide +kernel
theorem d5_10 : decode prog_42_method_3_code 10 = .ok (.aload 7, 2) := by decide +kernel
theorem d5_12 : decode prog_42_method_3_code 12 = .ok (.invokespecial 3, 3) := by decide +kernel
theorem d5_15 : decode prog_42_method_3_code 15 = .ok (.return_, 1) := by decide +kernel
theorem ef_rC5 (m : MethodId) (x0 : Addr) (x1 : Int64) (x2 : Int32) (x3 : Int32) (x4 : Int64) (x5 : Addr) : entryFrame m #[(.ref x0), (.long x1), (.int x2), (.int x3), (.long x4), (.ref x5)] 8 = mkF m 0 #[.val (.ref x0), .val (.long x1), .second, .val (.int x2), .val (.int x3), .val (.long x4), .second, .val (.ref x5)] [] := by first | (simp [entryFrame, mkF, argsToLocals, Value.category]; done) | rfl
set_option maxRecDepth 65536 in
set_option maxHeartbeats 40000000 in
theorem rC5 (l : Launch) (Z : State) (aa : Array Value) (hw : ∀ d ∈ tables_1, d.before aa Z = true) (ws : List Jvm.Cond) (a0 : Addr) (j1 : Int64) (i2 : Int32) (i3 : Int32) (j4 : Int64) (a5 : Addr) (eDELIVER : Addr) (h0 : Heap) (n0 : Nat) (Z0 : n0 ≤ h0.size) (E_a0 : Exa Z h0 a0 "com/example/ratatoskr/ratatoskr/simulator/TraceEvent") (F_a0_time : Fld Z h0 a0 "com/example/ratatoskr/ratatoskr/simulator/TraceEvent" "time" "J" (.long (0 : Int64))) (F_a0_member : Fld Z h0 a0 "com/example/ratatoskr/ratatoskr/simulator/TraceEvent" "member" "I" (.int (0 : Int32))) (F_a0_kind : Fld Z h0 a0 "com/example/ratatoskr/ratatoskr/simulator/TraceEvent" "kind" "Lcom/example/ratatoskr/ratatoskr/simulator/TraceEvent$Kind;" .null) (F_a0_other : Fld Z h0 a0 "com/example/ratatoskr/ratatoskr/simulator/TraceEvent" "other" "I" (.int (0 : Int32))) (F_a0_sequence : Fld Z h0 a0 "com/example/ratatoskr/ratatoskr/simulator/TraceEvent" "sequence" "J" (.long (0 : Int64))) (F_a0_message : Fld Z h0 a0 "com/example/ratatoskr/ratatoskr/simulator/TraceEvent" "message" "[B" .null) (g_a0 : n0 ≤ a0) (S_DELIVER : Sta Z h0 "com/example/ratatoskr/ratatoskr/simulator/TraceEvent$Kind" "DELIVER" "Lcom/example/ratatoskr/ratatoskr/simulator/TraceEvent$Kind;" (.ref eDELIVER)) :
    Rm l Z (⟨"com/example/ratatoskr/ratatoskr/simulator/TraceEvent", "<init>", "(JIIJ[B)V"⟩ : MethodName) prog_42_method_3_code 8 none ws ({ frames := 2, cells := 0, slots := 0, locals := 32 } : Room) #[(.ref a0), (.long j1), (.int i2), (.int i3), (.long j4), (.ref a5)] h0 (fun v h L => v = none ∧ Fr n0 L ∧ Keep h0 h [a0] ∧ Exa Z h a0 "com/example/ratatoskr/ratatoskr/simulator/TraceEvent" ∧ Fld Z h a0 "com/example/ratatoskr/ratatoskr/simulator/TraceEvent" "time" "J" (.long j1) ∧ Fld Z h a0 "com/example/ratatoskr/ratatoskr/simulator/TraceEvent" "member" "I" (.int i2) ∧ Fld Z h a0 "com/example/ratatoskr/ratatoskr/simulator/TraceEvent" "kind" "Lcom/example/ratatoskr/ratatoskr/simulator/TraceEvent$Kind;" (.ref eDELIVER) ∧ Fld Z h a0 "com/example/ratatoskr/ratatoskr/simulator/TraceEvent" "other" "I" (.int i3) ∧ Fld Z h a0 "com/example/ratatoskr/ratatoskr/simulator/TraceEvent" "sequence" "J" (.long j4) ∧ Fld Z h a0 "com/example/ratatoskr/ratatoskr/simulator/TraceEvent" "message" "[B" (.ref a5)) := by
  refine Rm.of (plainFor_of_name pn_0) ?_
  intro p e s m below meth cc T X hnm hret hlk
  refine Go.at_ (ef_rC5 m a0 j1 i2 i3 j4 a5) ?_
  have N := Fr.nil n0
  have Kp := Keep.refl h0 [a0]
  refine g_aloadN X d5_0 (pc' := 1) rfl rfl rfl ?_
  refine g_lloadN X d5_1 (pc' := 2) rfl rfl ?_
  refine g_iloadN X d5_2 (pc' := 3) rfl rfl ?_
  refine g_getstatic X (host := "") (Or.inl (tb hw 38 rfl)) Via.refl S_DELIVER d5_3 (pc' := 6) rfl ?_
  intro T X
  refine g_iload X d5_6 (pc' := 8) rfl rfl ?_
  refine g_lload X d5_8 (pc' := 10) rfl rfl ?_
  refine g_aload X d5_10 (pc' := 12) rfl rfl rfl ?_
  refine g_special X (W := 0) (a := a0) [(.long j1), (.int i2), (.ref eDELIVER), (.int i3), (.long j4), (.ref a5)] [] rfl (tb hw 10 rfl) (tb hw 11 rfl) (tb hw 6 rfl) (tb hw 12 rfl) (rC6 l Z aa hw [] a0 j1 i2 eDELIVER i3 j4 a5 _ n0 Z0 E_a0 F_a0_time F_a0_member F_a0_kind F_a0_other F_a0_sequence F_a0_message g_a0) d5_12 (pc' := 15) rfl (by decide) (by decide) (by decide) rfl rfl rfl (lenOf pd_0 rfl) (Nat.le_refl _) (by decide) (by decide) ?_
  intro v T L X q
  obtain ⟨rfl, Nq, Kq, E_a0', F_a0_time', F_a0_member', F_a0_kind', F_a0_other', F_a0_sequence', F_a0_message'⟩ := q
  replace N := N.app Nq
  replace Z0 := Nat.le_trans Z0 Kq.1
  replace Kp := Kp.trans Kq (allS (Or.inl (List.mem_of_getElem? (i := 0) rfl)) all0)
  replace E_a0 := E_a0'
  replace F_a0_time := F_a0_time'
  replace F_a0_member := F_a0_member'
  replace F_a0_kind := F_a0_kind'
  replace F_a0_other := F_a0_other'
  replace F_a0_sequence := F_a0_sequence'
  replace F_a0_message := F_a0_message'
  show Go p e below _ (T.setTop (mkF m 15 #[.val (.ref a0), .val (.long j1), .second, .val (.int i2), .val (.int i3), .val (.long j4), .second, .val (.ref a5)] []))
  refine g_return X d5_15 hret hlk (by decide) (by decide) ?_
  exact ⟨rfl, N, Kp, E_a0, F_a0_time, F_a0_member, F_a0_kind, F_a0_other, F_a0_sequence, F_a0_message⟩
theorem d4_0 : decode prog_42_method_11_code 0 = .ok (.aload_n 0, 1) := by decide +kernel
theorem d4_1 : decode prog_42_method_11_code 1 = .ok (.getfield 38, 3) := by decide +kernel
theorem d4_4 : decode prog_42_method_11_code 4 = .ok (.ifnonnull 7, 3) := by decide +kernel
theorem d4_7 : decode prog_42_method_11_code 7 = .ok (.aconst_null, 1) := by decide +kernel
theorem d4_8 : decode prog_42_method_11_code 8 = .ok (.goto 13, 3) := by decide +kernel
theorem d4_21 : decode prog_42_method_11_code 21 = .ok (.areturn, 1) := by decide +kernel
theorem ef_rGn (m : MethodId) (x0 : Addr) : entryFrame m #[(.ref x0)] 1 = mkF m 0 #[.val (.ref x0)] [] := by first | (simp [entryFrame, mkF, argsToLocals, Value.category]; done) | rfl
set_option maxRecDepth 65536 in
set_option maxHeartbeats 40000000 in
theorem rGn (l : Launch) (Z : State) (aa : Array Value) (hw : ∀ d ∈ tables_1, d.before aa Z = true) (ws : List Jvm.Cond) (a0 : Addr) (h0 : Heap) (E_a0 : Exa Z h0 a0 "com/example/ratatoskr/ratatoskr/simulator/TraceEvent") (F_a0_message : Fld Z h0 a0 "com/example/ratatoskr/ratatoskr/simulator/TraceEvent" "message" "[B" .null) :
    Rm l Z (⟨"com/example/ratatoskr/ratatoskr/simulator/TraceEvent", "getMessage", "()[B"⟩ : MethodName) prog_42_method_11_code 1 (some (.array .byte)) ws ({ frames := 0, cells := 0, slots := 0, locals := 0 } : Room) #[(.ref a0)] h0 (Pu .null h0) := by
  refine Rm.of (plainFor_of_name pn_0) ?_
  intro p e s m below meth cc T X hnm hret hlk
  refine Go.at_ (ef_rGn m a0) ?_
  refine g_aloadN X d4_0 (pc' := 1) rfl rfl rfl ?_
  refine g_getfield X (host := "") (Or.inl (tb hw 26 rfl)) Via.refl F_a0_message d4_1 (pc' := 4) rfl ?_
  intro T X
  refine g_nonnullN X d4_4 (pc' := 7) rfl ?_
  refine g_aconst_null X d4_7 (pc' := 8) rfl ?_
  refine g_goto X d4_8 (pc' := 21) (by decide) (by decide) ?_
  refine g_areturn X rfl rfl d4_21 hret hlk (by decide) (by decide) ?_
  exact ⟨rfl, rfl, rfl⟩
theorem d4_11 : decode prog_42_method_11_code 11 = .ok (.aload_n 0, 1) := by decide +kernel
theorem d4_12 : decode prog_42_method_11_code 12 = .ok (.getfield 38, 3) := by decide +kernel
theorem d4_15 : decode prog_42_method_11_code 15 = .ok (.invokevirtual 42, 3) := by decide +kernel
theorem d4_18 : decode prog_42_method_11_code 18 = .ok (.checkcast 43, 3) := by decide +kernel
theorem ef_rG0 (m : MethodId) (x0 : Addr) : entryFrame m #[(.ref x0)] 1 = mkF m 0 #[.val (.ref x0)] [] := by first | (simp [entryFrame, mkF, argsToLocals, Value.category]; done) | rfl
set_option maxRecDepth 65536 in
set_option maxHeartbeats 40000000 in
theorem rG0 (l : Launch) (Z : State) (aa : Array Value) (hw : ∀ d ∈ tables_1, d.before aa Z = true) (ws : List Jvm.Cond) (a0 : Addr) (w1 : Addr) (h0 : Heap) (n0 : Nat) (Z0 : n0 ≤ h0.size) (E_a0 : Exa Z h0 a0 "com/example/ratatoskr/ratatoskr/simulator/TraceEvent") (F_a0_message : Fld Z h0 a0 "com/example/ratatoskr/ratatoskr/simulator/TraceEvent" "message" "[B" (.ref w1)) (E_w1 : Exa Z h0 w1 "[B") (V_w1 : Av Z h0 w1 .byte []) :
    Rm l Z (⟨"com/example/ratatoskr/ratatoskr/simulator/TraceEvent", "getMessage", "()[B"⟩ : MethodName) prog_42_method_11_code 1 (some (.array .byte)) ws ({ frames := 1, cells := 1, slots := 0, locals := 14 } : Room) #[(.ref a0)] h0 (fun v h L => ∃ q0 : Addr, v = some (.ref q0) ∧ Fr n0 L ∧ Keep h0 h [] ∧ h0.size ≤ q0 ∧ n0 ≤ q0 ∧ Exa Z h q0 "[B" ∧ Av Z h q0 .byte []) := by
  refine Rm.of (plainFor_of_name pn_0) ?_
  intro p e s m below meth cc T X hnm hret hlk
  refine Go.at_ (ef_rG0 m a0) ?_
  have N := Fr.nil n0
  have Kp := Keep.refl h0 []
  refine g_aloadN X d4_0 (pc' := 1) rfl rfl rfl ?_
  refine g_getfield X (host := "") (Or.inl (tb hw 26 rfl)) Via.refl F_a0_message d4_1 (pc' := 4) rfl ?_
  intro T X
  refine g_nonnullY X d4_4 (pc' := 11) (by decide) (by decide) ?_
  refine g_aloadN X d4_11 (pc' := 12) rfl rfl rfl ?_
  refine g_getfield X (host := "") (Or.inl (tb hw 26 rfl)) Via.refl F_a0_message d4_12 (pc' := 15) rfl ?_
  intro T X
  refine g_clone X (W := 0) (tb hw 40 rfl) (tb hw 41 rfl) (tb hw 45 rfl) (tb hw 43 rfl) (tb hw 44 rfl) (tb hw 46 rfl) V_w1 E_w1 fit0 d4_15 (pc' := 18) rfl rfl (by decide) (Nat.le_refl _) (by decide) 0 (Nat.le_of_ble_eq_true rfl) (by decide) (by decide) ?_
  intro T h b15_1 s_b15_1 X Ex E_b15_1 V_b15_1
  have ne_a0_b15_1 : a0 ≠ b15_1 := Nat.ne_of_lt (by rw [s_b15_1]; exact E_a0.lt)
  have ne_w1_b15_1 : w1 ≠ b15_1 := Nat.ne_of_lt (by rw [s_b15_1]; exact E_w1.lt)
  have g_b15_1 : n0 ≤ b15_1 := by rw [s_b15_1]; exact Z0
  have sz_b15_1 : h0.size ≤ b15_1 := by rw [s_b15_1]; exact Kp.1
  replace E_a0 := E_a0.ext Ex
  replace F_a0_message := F_a0_message.ext Ex
  replace E_w1 := E_w1.ext Ex
  replace V_w1 := V_w1.ext Ex
  replace Z0 := Nat.le_trans Z0 Ex.1
  replace Kp := Kp.ext Ex
  refine g_checkcast X (tb hw 47 rfl) (Ins.self E_b15_1) d4_18 (pc' := 21) rfl ?_
  intro T X
  refine g_areturn X rfl rfl d4_21 hret hlk (by decide) (by decide) ?_
  exact ⟨b15_1, rfl, N, Kp, sz_b15_1, g_b15_1, E_b15_1, V_b15_1⟩
theorem pn_1 : plainName "com/example/ratatoskr/ratatoskr/simulator/TraceEventGetMessagePinLaw" = true := by first | (simp [plainName, overriddenIn]; done) | decide +kernel
theorem d6_0 : decode method_3_code 0 = .ok (.iload_n 1, 1) := by decide +kernel
theorem d6_1 : decode method_3_code 1 = .ok (.ifCond .le 13, 3) := by decide +kernel
theorem d6_14 : decode method_3_code 14 = .ok (.iload_n 1, 1) := by decide +kernel
theorem d6_15 : decode method_3_code 15 = .ok (.iconst 1, 1) := by decide +kernel
theorem d6_16 : decode method_3_code 16 = .ok (.if_icmp .le 13, 3) := by decide +kernel
theorem d6_29 : decode method_3_code 29 = .ok (.iload_n 1, 1) := by decide +kernel
theorem d6_30 : decode method_3_code 30 = .ok (.iconst 2, 1) := by decide +kernel
theorem d6_31 : decode method_3_code 31 = .ok (.if_icmp .le 14, 3) := by decide +kernel
theorem d6_45 : decode method_3_code 45 = .ok (.iconst 1, 1) := by decide +kernel
theorem d6_46 : decode method_3_code 46 = .ok (.ireturn, 1) := by decide +kernel
def fH0 (i2 : Int32) (i3 : Int32) (i4 : Int32) : Bool := true
theorem ef_rH0 (m : MethodId) (x0 : Addr) (x1 : Int32) (x2 : Int32) (x3 : Int32) (x4 : Int32) : entryFrame m #[(.ref x0), (.int x1), (.int x2), (.int x3), (.int x4)] 5 = mkF m 0 #[.val (.ref x0), .val (.int x1), .val (.int x2), .val (.int x3), .val (.int x4)] [] := by first | (simp [entryFrame, mkF, argsToLocals, Value.category]; done) | rfl
set_option maxRecDepth 65536 in
set_option maxHeartbeats 40000000 in
theorem rH0 (l : Launch) (Z : State) (aa : Array Value) (hw : ∀ d ∈ tables_1, d.before aa Z = true) (ws : List Jvm.Cond) (w0 : Addr) (i2 : Int32) (i3 : Int32) (i4 : Int32) (h0 : Heap) (V_w0 : Av Z h0 w0 .byte []) :
    Rm l Z (⟨"com/example/ratatoskr/ratatoskr/simulator/TraceEventGetMessagePinLaw", "holds", "([BIIII)Z"⟩ : MethodName) method_3_code 5 (some .boolean) ws ({ frames := 0, cells := 0, slots := 0, locals := 0 } : Room) #[(.ref w0), (.int (0 : Int32)), (.int i2), (.int i3), (.int i4)] h0 (Pu (.int (b2i (fH0 i2 i3 i4))) h0) := by
  refine Rm.of (plainFor_of_name pn_1) ?_
  intro p e s m below meth cc T X hnm hret hlk
  refine Go.at_ (ef_rH0 m w0 (0 : Int32) i2 i3 i4) ?_
  refine g_iloadN X d6_0 (pc' := 1) rfl rfl ?_
  refine g_ifY X d6_1 ((if0 _ _).trans (flt (show ¬ ((0 : Int32) < (0 : Int32)) from (by decide))).2.2.2) (pc' := 14) (by decide) (by decide) ?_
  refine g_iloadN X d6_14 (pc' := 15) rfl rfl ?_
  refine g_iconst X (1 : Int32) d6_15 (pc' := 16) rfl rfl ?_
  refine g_icY X d6_16 (flt (show ¬ ((1 : Int32) < (0 : Int32)) from (by decide))).2.2.2 (pc' := 29) (by decide) (by decide) ?_
  refine g_iloadN X d6_29 (pc' := 30) rfl rfl ?_
  refine g_iconst X (2 : Int32) d6_30 (pc' := 31) rfl rfl ?_
  refine g_icY X d6_31 (flt (show ¬ ((2 : Int32) < (0 : Int32)) from (by decide))).2.2.2 (pc' := 45) (by decide) (by decide) ?_
  refine g_iconst X (1 : Int32) d6_45 (pc' := 46) rfl rfl ?_
  refine g_ireturnN X (t := .boolean) (by simp) d6_46 hret hlk (by decide) (by decide) ?_
  exact ⟨congrArg (fun z => some (Value.int z)) (Eq.trans narT (congrArg b2i (Eq.symm (show fH0 i2 i3 i4 = _ from rfl)))), rfl, rfl⟩
theorem ef_rG1 (m : MethodId) (x0 : Addr) : entryFrame m #[(.ref x0)] 1 = mkF m 0 #[.val (.ref x0)] [] := by first | (simp [entryFrame, mkF, argsToLocals, Value.category]; done) | rfl
set_option maxRecDepth 65536 in
set_option maxHeartbeats 40000000 in
theorem rG1 (l : Launch) (Z : State) (aa : Array Value) (hw : ∀ d ∈ tables_1, d.before aa Z = true) (ws : List Jvm.Cond) (a0 : Addr) (w1 : Addr) (u0 : Int32) (h0 : Heap) (n0 : Nat) (Z0 : n0 ≤ h0.size) (E_a0 : Exa Z h0 a0 "com/example/ratatoskr/ratatoskr/simulator/TraceEvent") (F_a0_message : Fld Z h0 a0 "com/example/ratatoskr/ratatoskr/simulator/TraceEvent" "message" "[B" (.ref w1)) (E_w1 : Exa Z h0 w1 "[B") (V_w1 : Av Z h0 w1 .byte [(.int u0)]) (ft0 : fits .byte (.int u0) = true) :
    Rm l Z (⟨"com/example/ratatoskr/ratatoskr/simulator/TraceEvent", "getMessage", "()[B"⟩ : MethodName) prog_42_method_11_code 1 (some (.array .byte)) ws ({ frames := 1, cells := 1, slots := 1, locals := 14 } : Room) #[(.ref a0)] h0 (fun v h L => ∃ q0 : Addr, v = some (.ref q0) ∧ Fr n0 L ∧ Keep h0 h [] ∧ h0.size ≤ q0 ∧ n0 ≤ q0 ∧ Exa Z h q0 "[B" ∧ Av Z h q0 .byte [(.int u0)]) := by
  refine Rm.of (plainFor_of_name pn_0) ?_
  intro p e s m below meth cc T X hnm hret hlk
  refine Go.at_ (ef_rG1 m a0) ?_
  have N := Fr.nil n0
  have Kp := Keep.refl h0 []
  refine g_aloadN X d4_0 (pc' := 1) rfl rfl rfl ?_
  refine g_getfield X (host := "") (Or.inl (tb hw 26 rfl)) Via.refl F_a0_message d4_1 (pc' := 4) rfl ?_
  intro T X
  refine g_nonnullY X d4_4 (pc' := 11) (by decide) (by decide) ?_
  refine g_aloadN X d4_11 (pc' := 12) rfl rfl rfl ?_
  refine g_getfield X (host := "") (Or.inl (tb hw 26 rfl)) Via.refl F_a0_message d4_12 (pc' := 15) rfl ?_
  intro T X
  refine g_clone X (W := 0) (tb hw 40 rfl) (tb hw 41 rfl) (tb hw 45 rfl) (tb hw 43 rfl) (tb hw 44 rfl) (tb hw 46 rfl) V_w1 E_w1 (fitS ft0 fit0) d4_15 (pc' := 18) rfl rfl (by decide) (Nat.le_refl _) (by decide) 1 (Nat.le_of_ble_eq_true rfl) (by decide) (by decide) ?_
  intro T h b15_1 s_b15_1 X Ex E_b15_1 V_b15_1
  have ne_a0_b15_1 : a0 ≠ b15_1 := Nat.ne_of_lt (by rw [s_b15_1]; exact E_a0.lt)
  have ne_w1_b15_1 : w1 ≠ b15_1 := Nat.ne_of_lt (by rw [s_b15_1]; exact E_w1.lt)
  have g_b15_1 : n0 ≤ b15_1 := by rw [s_b15_1]; exact Z0
  have sz_b15_1 : h0.size ≤ b15_1 := by rw [s_b15_1]; exact Kp.1
  replace E_a0 := E_a0.ext Ex
  replace F_a0_message := F_a0_message.ext Ex
  replace E_w1 := E_w1.ext Ex
  replace V_w1 := V_w1.ext Ex
  replace Z0 := Nat.le_trans Z0 Ex.1
  replace Kp := Kp.ext Ex
  refine g_checkcast X (tb hw 47 rfl) (Ins.self E_b15_1) d4_18 (pc' := 21) rfl ?_
  intro T X
  refine g_areturn X rfl rfl d4_21 hret hlk (by decide) (by decide) ?_
  exact ⟨b15_1, rfl, N, Kp, sz_b15_1, g_b15_1, E_b15_1, V_b15_1⟩
theorem d6_4 : decode method_3_code 4 = .ok (.aload_n 0, 1) := by decide +kernel
theorem d6_5 : decode method_3_code 5 = .ok (.iconst 0, 1) := by decide +kernel
theorem d6_6 : decode method_3_code 6 = .ok (.baload, 1) := by decide +kernel
theorem d6_7 : decode method_3_code 7 = .ok (.iload_n 2, 1) := by decide +kernel
theorem d6_8 : decode method_3_code 8 = .ok (.i2b, 1) := by decide +kernel
theorem d6_9 : decode method_3_code 9 = .ok (.if_icmp .eq 5, 3) := by decide +kernel
theorem d6_12 : decode method_3_code 12 = .ok (.iconst 0, 1) := by decide +kernel
theorem d6_13 : decode method_3_code 13 = .ok (.ireturn, 1) := by decide +kernel
def fH1 (i2 : Int32) (i3 : Int32) (i4 : Int32) (u0 : Int32) : Bool := if u0 = (i2.toInt8.toInt32) then (true) else (false)
theorem ef_rH1 (m : MethodId) (x0 : Addr) (x1 : Int32) (x2 : Int32) (x3 : Int32) (x4 : Int32) : entryFrame m #[(.ref x0), (.int x1), (.int x2), (.int x3), (.int x4)] 5 = mkF m 0 #[.val (.ref x0), .val (.int x1), .val (.int x2), .val (.int x3), .val (.int x4)] [] := by first | (simp [entryFrame, mkF, argsToLocals, Value.category]; done) | rfl
set_option maxRecDepth 65536 in
set_option maxHeartbeats 40000000 in
theorem rH1 (l : Launch) (Z : State) (aa : Array Value) (hw : ∀ d ∈ tables_1, d.before aa Z = true) (ws : List Jvm.Cond) (w0 : Addr) (i2 : Int32) (i3 : Int32) (i4 : Int32) (u0 : Int32) (h0 : Heap) (V_w0 : Av Z h0 w0 .byte [(.int u0)]) :
    Rm l Z (⟨"com/example/ratatoskr/ratatoskr/simulator/TraceEventGetMessagePinLaw", "holds", "([BIIII)Z"⟩ : MethodName) method_3_code 5 (some .boolean) ws ({ frames := 0, cells := 0, slots := 0, locals := 0 } : Room) #[(.ref w0), (.int (1 : Int32)), (.int i2), (.int i3), (.int i4)] h0 (Pu (.int (b2i (fH1 i2 i3 i4 u0))) h0) := by
  refine Rm.of (plainFor_of_name pn_1) ?_
  intro p e s m below meth cc T X hnm hret hlk
  refine Go.at_ (ef_rH1 m w0 (1 : Int32) i2 i3 i4) ?_
  refine g_iloadN X d6_0 (pc' := 1) rfl rfl ?_
  refine g_ifN X d6_1 ((if0 _ _).trans (tlt (show (0 : Int32) < (1 : Int32) from (by decide))).2.2.2) (pc' := 4) rfl ?_
  refine g_aloadN X d6_4 (pc' := 5) rfl rfl rfl ?_
  refine g_iconst X (0 : Int32) d6_5 (pc' := 6) rfl rfl ?_
  refine g_baload X V_w0 0 d6_6 (pc' := 7) rfl (by decide) (by decide) rfl ?_
  refine g_iloadN X d6_7 (pc' := 8) rfl rfl ?_
  refine g_i2b X d6_8 (pc' := 9) rfl ?_
  by_cases hc9_1 : u0 = (i2.toInt8.toInt32)
  · skip
    refine g_icY X d6_9 (teq hc9_1).1 (pc' := 14) (by decide) (by decide) ?_
    refine g_iloadN X d6_14 (pc' := 15) rfl rfl ?_
    refine g_iconst X (1 : Int32) d6_15 (pc' := 16) rfl rfl ?_
    refine g_icY X d6_16 (flt (show ¬ ((1 : Int32) < (1 : Int32)) from (by decide))).2.2.2 (pc' := 29) (by decide) (by decide) ?_
    refine g_iloadN X d6_29 (pc' := 30) rfl rfl ?_
    refine g_iconst X (2 : Int32) d6_30 (pc' := 31) rfl rfl ?_
    refine g_icY X d6_31 (flt (show ¬ ((2 : Int32) < (1 : Int32)) from (by decide))).2.2.2 (pc' := 45) (by decide) (by decide) ?_
    refine g_iconst X (1 : Int32) d6_45 (pc' := 46) rfl rfl ?_
    refine g_ireturnN X (t := .boolean) (by simp) d6_46 hret hlk (by decide) (by decide) ?_
    exact ⟨congrArg (fun z => some (Value.int z)) (Eq.trans narT (congrArg b2i (Eq.symm (show fH1 i2 i3 i4 u0 = _ from (Eq.trans (if_pos hc9_1) rfl))))), rfl, rfl⟩
  · skip
    refine g_icN X d6_9 (feq hc9_1).1 (pc' := 12) rfl ?_
    refine g_iconst X (0 : Int32) d6_12 (pc' := 13) rfl rfl ?_
    refine g_ireturnN X (t := .boolean) (by simp) d6_13 hret hlk (by decide) (by decide) ?_
    exact ⟨congrArg (fun z => some (Value.int z)) (Eq.trans narF (congrArg b2i (Eq.symm (show fH1 i2 i3 i4 u0 = _ from (Eq.trans (if_neg hc9_1) rfl))))), rfl, rfl⟩
theorem ef_rG2 (m : MethodId) (x0 : Addr) : entryFrame m #[(.ref x0)] 1 = mkF m 0 #[.val (.ref x0)] [] := by first | (simp [entryFrame, mkF, argsToLocals, Value.category]; done) | rfl
set_option maxRecDepth 65536 in
set_option maxHeartbeats 40000000 in
theorem rG2 (l : Launch) (Z : State) (aa : Array Value) (hw : ∀ d ∈ tables_1, d.before aa Z = true) (ws : List Jvm.Cond) (a0 : Addr) (w1 : Addr) (u0 : Int32) (u1 : Int32) (h0 : Heap) (n0 : Nat) (Z0 : n0 ≤ h0.size) (E_a0 : Exa Z h0 a0 "com/example/ratatoskr/ratatoskr/simulator/TraceEvent") (F_a0_message : Fld Z h0 a0 "com/example/ratatoskr/ratatoskr/simulator/TraceEvent" "message" "[B" (.ref w1)) (E_w1 : Exa Z h0 w1 "[B") (V_w1 : Av Z h0 w1 .byte [(.int u0), (.int u1)]) (ft0 : fits .byte (.int u0) = true) (ft1 : fits .byte (.int u1) = true) :
    Rm l Z (⟨"com/example/ratatoskr/ratatoskr/simulator/TraceEvent", "getMessage", "()[B"⟩ : MethodName) prog_42_method_11_code 1 (some (.array .byte)) ws ({ frames := 1, cells := 1, slots := 2, locals := 14 } : Room) #[(.ref a0)] h0 (fun v h L => ∃ q0 : Addr, v = some (.ref q0) ∧ Fr n0 L ∧ Keep h0 h [] ∧ h0.size ≤ q0 ∧ n0 ≤ q0 ∧ Exa Z h q0 "[B" ∧ Av Z h q0 .byte [(.int u0), (.int u1)]) := by
  refine Rm.of (plainFor_of_name pn_0) ?_
  intro p e s m below meth cc T X hnm hret hlk
  refine Go.at_ (ef_rG2 m a0) ?_
  have N := Fr.nil n0
  have Kp := Keep.refl h0 []
  refine g_aloadN X d4_0 (pc' := 1) rfl rfl rfl ?_
  refine g_getfield X (host := "") (Or.inl (tb hw 26 rfl)) Via.refl F_a0_message d4_1 (pc' := 4) rfl ?_
  intro T X
  refine g_nonnullY X d4_4 (pc' := 11) (by decide) (by decide) ?_
  refine g_aloadN X d4_11 (pc' := 12) rfl rfl rfl ?_
  refine g_getfield X (host := "") (Or.inl (tb hw 26 rfl)) Via.refl F_a0_message d4_12 (pc' := 15) rfl ?_
  intro T X
  refine g_clone X (W := 0) (tb hw 40 rfl) (tb hw 41 rfl) (tb hw 45 rfl) (tb hw 43 rfl) (tb hw 44 rfl) (tb hw 46 rfl) V_w1 E_w1 (fitS ft0 (fitS ft1 fit0)) d4_15 (pc' := 18) rfl rfl (by decide) (Nat.le_refl _) (by decide) 2 (Nat.le_of_ble_eq_true rfl) (by decide) (by decide) ?_
  intro T h b15_1 s_b15_1 X Ex E_b15_1 V_b15_1
  have ne_a0_b15_1 : a0 ≠ b15_1 := Nat.ne_of_lt (by rw [s_b15_1]; exact E_a0.lt)
  have ne_w1_b15_1 : w1 ≠ b15_1 := Nat.ne_of_lt (by rw [s_b15_1]; exact E_w1.lt)
  have g_b15_1 : n0 ≤ b15_1 := by rw [s_b15_1]; exact Z0
  have sz_b15_1 : h0.size ≤ b15_1 := by rw [s_b15_1]; exact Kp.1
  replace E_a0 := E_a0.ext Ex
  replace F_a0_message := F_a0_message.ext Ex
  replace E_w1 := E_w1.ext Ex
  replace V_w1 := V_w1.ext Ex
  replace Z0 := Nat.le_trans Z0 Ex.1
  replace Kp := Kp.ext Ex
  refine g_checkcast X (tb hw 47 rfl) (Ins.self E_b15_1) d4_18 (pc' := 21) rfl ?_
  intro T X
  refine g_areturn X rfl rfl d4_21 hret hlk (by decide) (by decide) ?_
  exact ⟨b15_1, rfl, N, Kp, sz_b15_1, g_b15_1, E_b15_1, V_b15_1⟩
theorem d6_19 : decode method_3_code 19 = .ok (.aload_n 0, 1) := by decide +kernel
theorem d6_20 : decode method_3_code 20 = .ok (.iconst 1, 1) := by decide +kernel
theorem d6_21 : decode method_3_code 21 = .ok (.baload, 1) := by decide +kernel
theorem d6_22 : decode method_3_code 22 = .ok (.iload_n 3, 1) := by decide +kernel
theorem d6_23 : decode method_3_code 23 = .ok (.i2b, 1) := by decide +kernel
theorem d6_24 : decode method_3_code 24 = .ok (.if_icmp .eq 5, 3) := by decide +kernel
theorem d6_27 : decode method_3_code 27 = .ok (.iconst 0, 1) := by decide +kernel
theorem d6_28 : decode method_3_code 28 = .ok (.ireturn, 1) := by decide +kernel
def fH2 (i2 : Int32) (i3 : Int32) (i4 : Int32) (u0 : Int32) (u1 : Int32) : Bool := if u0 = (i2.toInt8.toInt32) then (if u1 = (i3.toInt8.toInt32) then (true) else (false)) else (false)
theorem ef_rH2 (m : MethodId) (x0 : Addr) (x1 : Int32) (x2 : Int32) (x3 : Int32) (x4 : Int32) : entryFrame m #[(.ref x0), (.int x1), (.int x2), (.int x3), (.int x4)] 5 = mkF m 0 #[.val (.ref x0), .val (.int x1), .val (.int x2), .val (.int x3), .val (.int x4)] [] := by first | (simp [entryFrame, mkF, argsToLocals, Value.category]; done) | rfl
set_option maxRecDepth 65536 in
set_option maxHeartbeats 40000000 in
theorem rH2 (l : Launch) (Z : State) (aa : Array Value) (hw : ∀ d ∈ tables_1, d.before aa Z = true) (ws : List Jvm.Cond) (w0 : Addr) (i2 : Int32) (i3 : Int32) (i4 : Int32) (u0 : Int32) (u1 : Int32) (h0 : Heap) (V_w0 : Av Z h0 w0 .byte [(.int u0), (.int u1)]) :
    Rm l Z (⟨"com/example/ratatoskr/ratatoskr/simulator/TraceEventGetMessagePinLaw", "holds", "([BIIII)Z"⟩ : MethodName) method_3_code 5 (some .boolean) ws ({ frames := 0, cells := 0, slots := 0, locals := 0 } : Room) #[(.ref w0), (.int (2 : Int32)), (.int i2), (.int i3), (.int i4)] h0 (Pu (.int (b2i (fH2 i2 i3 i4 u0 u1))) h0) := by
  refine Rm.of (plainFor_of_name pn_1) ?_
  intro p e s m below meth cc T X hnm hret hlk
  refine Go.at_ (ef_rH2 m w0 (2 : Int32) i2 i3 i4) ?_
  refine g_iloadN X d6_0 (pc' := 1) rfl rfl ?_
  refine g_ifN X d6_1 ((if0 _ _).trans (tlt (show (0 : Int32) < (2 : Int32) from (by decide))).2.2.2) (pc' := 4) rfl ?_
  refine g_aloadN X d6_4 (pc' := 5) rfl rfl rfl ?_
  refine g_iconst X (0 : Int32) d6_5 (pc' := 6) rfl rfl ?_
  refine g_baload X V_w0 0 d6_6 (pc' := 7) rfl (by decide) (by decide) rfl ?_
  refine g_iloadN X d6_7 (pc' := 8) rfl rfl ?_
  refine g_i2b X d6_8 (pc' := 9) rfl ?_
  by_cases hc9_1 : u0 = (i2.toInt8.toInt32)
  · skip
    refine g_icY X d6_9 (teq hc9_1).1 (pc' := 14) (by decide) (by decide) ?_
    refine g_iloadN X d6_14 (pc' := 15) rfl rfl ?_
    refine g_iconst X (1 : Int32) d6_15 (pc' := 16) rfl rfl ?_
    refine g_icN X d6_16 (tlt (show (1 : Int32) < (2 : Int32) from (by decide))).2.2.2 (pc' := 19) rfl ?_
    refine g_aloadN X d6_19 (pc' := 20) rfl rfl rfl ?_
    refine g_iconst X (1 : Int32) d6_20 (pc' := 21) rfl rfl ?_
    refine g_baload X V_w0 1 d6_21 (pc' := 22) rfl (by decide) (by decide) rfl ?_
    refine g_iloadN X d6_22 (pc' := 23) rfl rfl ?_
    refine g_i2b X d6_23 (pc' := 24) rfl ?_
    by_cases hc24_2 : u1 = (i3.toInt8.toInt32)
    · skip
      refine g_icY X d6_24 (teq hc24_2).1 (pc' := 29) (by decide) (by decide) ?_
      refine g_iloadN X d6_29 (pc' := 30) rfl rfl ?_
      refine g_iconst X (2 : Int32) d6_30 (pc' := 31) rfl rfl ?_
      refine g_icY X d6_31 (flt (show ¬ ((2 : Int32) < (2 : Int32)) from (by decide))).2.2.2 (pc' := 45) (by decide) (by decide) ?_
      refine g_iconst X (1 : Int32) d6_45 (pc' := 46) rfl rfl ?_
      refine g_ireturnN X (t := .boolean) (by simp) d6_46 hret hlk (by decide) (by decide) ?_
      exact ⟨congrArg (fun z => some (Value.int z)) (Eq.trans narT (congrArg b2i (Eq.symm (show fH2 i2 i3 i4 u0 u1 = _ from (Eq.trans (if_pos hc9_1) (Eq.trans (if_pos hc24_2) rfl)))))), rfl, rfl⟩
    · skip
      refine g_icN X d6_24 (feq hc24_2).1 (pc' := 27) rfl ?_
      refine g_iconst X (0 : Int32) d6_27 (pc' := 28) rfl rfl ?_
      refine g_ireturnN X (t := .boolean) (by simp) d6_28 hret hlk (by decide) (by decide) ?_
      exact ⟨congrArg (fun z => some (Value.int z)) (Eq.trans narF (congrArg b2i (Eq.symm (show fH2 i2 i3 i4 u0 u1 = _ from (Eq.trans (if_pos hc9_1) (Eq.trans (if_neg hc24_2) rfl)))))), rfl, rfl⟩
  · skip
    refine g_icN X d6_9 (feq hc9_1).1 (pc' := 12) rfl ?_
    refine g_iconst X (0 : Int32) d6_12 (pc' := 13) rfl rfl ?_
    refine g_ireturnN X (t := .boolean) (by simp) d6_13 hret hlk (by decide) (by decide) ?_
    exact ⟨congrArg (fun z => some (Value.int z)) (Eq.trans narF (congrArg b2i (Eq.symm (show fH2 i2 i3 i4 u0 u1 = _ from (Eq.trans (if_neg hc9_1) rfl))))), rfl, rfl⟩
theorem ef_rG3 (m : MethodId) (x0 : Addr) : entryFrame m #[(.ref x0)] 1 = mkF m 0 #[.val (.ref x0)] [] := by first | (simp [entryFrame, mkF, argsToLocals, Value.category]; done) | rfl
set_option maxRecDepth 65536 in
set_option maxHeartbeats 40000000 in
theorem rG3 (l : Launch) (Z : State) (aa : Array Value) (hw : ∀ d ∈ tables_1, d.before aa Z = true) (ws : List Jvm.Cond) (a0 : Addr) (w1 : Addr) (u0 : Int32) (u1 : Int32) (u2 : Int32) (h0 : Heap) (n0 : Nat) (Z0 : n0 ≤ h0.size) (E_a0 : Exa Z h0 a0 "com/example/ratatoskr/ratatoskr/simulator/TraceEvent") (F_a0_message : Fld Z h0 a0 "com/example/ratatoskr/ratatoskr/simulator/TraceEvent" "message" "[B" (.ref w1)) (E_w1 : Exa Z h0 w1 "[B") (V_w1 : Av Z h0 w1 .byte [(.int u0), (.int u1), (.int u2)]) (ft0 : fits .byte (.int u0) = true) (ft1 : fits .byte (.int u1) = true) (ft2 : fits .byte (.int u2) = true) :
    Rm l Z (⟨"com/example/ratatoskr/ratatoskr/simulator/TraceEvent", "getMessage", "()[B"⟩ : MethodName) prog_42_method_11_code 1 (some (.array .byte)) ws ({ frames := 1, cells := 1, slots := 3, locals := 14 } : Room) #[(.ref a0)] h0 (fun v h L => ∃ q0 : Addr, v = some (.ref q0) ∧ Fr n0 L ∧ Keep h0 h [] ∧ h0.size ≤ q0 ∧ n0 ≤ q0 ∧ Exa Z h q0 "[B" ∧ Av Z h q0 .byte [(.int u0), (.int u1), (.int u2)]) := by
  refine Rm.of (plainFor_of_name pn_0) ?_
  intro p e s m below meth cc T X hnm hret hlk
  refine Go.at_ (ef_rG3 m a0) ?_
  have N := Fr.nil n0
  have Kp := Keep.refl h0 []
  refine g_aloadN X d4_0 (pc' := 1) rfl rfl rfl ?_
  refine g_getfield X (host := "") (Or.inl (tb hw 26 rfl)) Via.refl F_a0_message d4_1 (pc' := 4) rfl ?_
  intro T X
  refine g_nonnullY X d4_4 (pc' := 11) (by decide) (by decide) ?_
  refine g_aloadN X d4_11 (pc' := 12) rfl rfl rfl ?_
  refine g_getfield X (host := "") (Or.inl (tb hw 26 rfl)) Via.refl F_a0_message d4_12 (pc' := 15) rfl ?_
  intro T X
  refine g_clone X (W := 0) (tb hw 40 rfl) (tb hw 41 rfl) (tb hw 45 rfl) (tb hw 43 rfl) (tb hw 44 rfl) (tb hw 46 rfl) V_w1 E_w1 (fitS ft0 (fitS ft1 (fitS ft2 fit0))) d4_15 (pc' := 18) rfl rfl (by decide) (Nat.le_refl _) (by decide) 3 (Nat.le_of_ble_eq_true rfl) (by decide) (by decide) ?_
  intro T h b15_1 s_b15_1 X Ex E_b15_1 V_b15_1
  have ne_a0_b15_1 : a0 ≠ b15_1 := Nat.ne_of_lt (by rw [s_b15_1]; exact E_a0.lt)
  have ne_w1_b15_1 : w1 ≠ b15_1 := Nat.ne_of_lt (by rw [s_b15_1]; exact E_w1.lt)
  have g_b15_1 : n0 ≤ b15_1 := by rw [s_b15_1]; exact Z0
  have sz_b15_1 : h0.size ≤ b15_1 := by rw [s_b15_1]; exact Kp.1
  replace E_a0 := E_a0.ext Ex
  replace F_a0_message := F_a0_message.ext Ex
  replace E_w1 := E_w1.ext Ex
  replace V_w1 := V_w1.ext Ex
  replace Z0 := Nat.le_trans Z0 Ex.1
  replace Kp := Kp.ext Ex
  refine g_checkcast X (tb hw 47 rfl) (Ins.self E_b15_1) d4_18 (pc' := 21) rfl ?_
  intro T X
  refine g_areturn X rfl rfl d4_21 hret hlk (by decide) (by decide) ?_
  exact ⟨b15_1, rfl, N, Kp, sz_b15_1, g_b15_1, E_b15_1, V_b15_1⟩
theorem d6_34 : decode method_3_code 34 = .ok (.aload_n 0, 1) := by decide +kernel
theorem d6_35 : decode method_3_code 35 = .ok (.iconst 2, 1) := by decide +kernel
theorem d6_36 : decode method_3_code 36 = .ok (.baload, 1) := by decide +kernel
theorem d6_37 : decode method_3_code 37 = .ok (.iload 4, 2) := by decide +kernel
theorem d6_39 : decode method_3_code 39 = .ok (.i2b, 1) := by decide +kernel
theorem d6_40 : decode method_3_code 40 = .ok (.if_icmp .eq 5, 3) := by decide +kernel
theorem d6_43 : decode method_3_code 43 = .ok (.iconst 0, 1) := by decide +kernel
theorem d6_44 : decode method_3_code 44 = .ok (.ireturn, 1) := by decide +kernel
def fH3 (i2 : Int32) (i3 : Int32) (i4 : Int32) (u0 : Int32) (u1 : Int32) (u2 : Int32) : Bool := if u0 = (i2.toInt8.toInt32) then (if u1 = (i3.toInt8.toInt32) then (if u2 = (i4.toInt8.toInt32) then (true) else (false)) else (false)) else (false)
theorem ef_rH3 (m : MethodId) (x0 : Addr) (x1 : Int32) (x2 : Int32) (x3 : Int32) (x4 : Int32) : entryFrame m #[(.ref x0), (.int x1), (.int x2), (.int x3), (.int x4)] 5 = mkF m 0 #[.val (.ref x0), .val (.int x1), .val (.int x2), .val (.int x3), .val (.int x4)] [] := by first | (simp [entryFrame, mkF, argsToLocals, Value.category]; done) | rfl
set_option maxRecDepth 65536 in
set_option maxHeartbeats 40000000 in
theorem rH3 (l : Launch) (Z : State) (aa : Array Value) (hw : ∀ d ∈ tables_1, d.before aa Z = true) (ws : List Jvm.Cond) (w0 : Addr) (i2 : Int32) (i3 : Int32) (i4 : Int32) (u0 : Int32) (u1 : Int32) (u2 : Int32) (h0 : Heap) (V_w0 : Av Z h0 w0 .byte [(.int u0), (.int u1), (.int u2)]) :
    Rm l Z (⟨"com/example/ratatoskr/ratatoskr/simulator/TraceEventGetMessagePinLaw", "holds", "([BIIII)Z"⟩ : MethodName) method_3_code 5 (some .boolean) ws ({ frames := 0, cells := 0, slots := 0, locals := 0 } : Room) #[(.ref w0), (.int (3 : Int32)), (.int i2), (.int i3), (.int i4)] h0 (Pu (.int (b2i (fH3 i2 i3 i4 u0 u1 u2))) h0) := by
  refine Rm.of (plainFor_of_name pn_1) ?_
  intro p e s m below meth cc T X hnm hret hlk
  refine Go.at_ (ef_rH3 m w0 (3 : Int32) i2 i3 i4) ?_
  refine g_iloadN X d6_0 (pc' := 1) rfl rfl ?_
  refine g_ifN X d6_1 ((if0 _ _).trans (tlt (show (0 : Int32) < (3 : Int32) from (by decide))).2.2.2) (pc' := 4) rfl ?_
  refine g_aloadN X d6_4 (pc' := 5) rfl rfl rfl ?_
  refine g_iconst X (0 : Int32) d6_5 (pc' := 6) rfl rfl ?_
  refine g_baload X V_w0 0 d6_6 (pc' := 7) rfl (by decide) (by decide) rfl ?_
  refine g_iloadN X d6_7 (pc' := 8) rfl rfl ?_
  refine g_i2b X d6_8 (pc' := 9) rfl ?_
  by_cases hc9_1 : u0 = (i2.toInt8.toInt32)
  · skip
    refine g_icY X d6_9 (teq hc9_1).1 (pc' := 14) (by decide) (by decide) ?_
    refine g_iloadN X d6_14 (pc' := 15) rfl rfl ?_
    refine g_iconst X (1 : Int32) d6_15 (pc' := 16) rfl rfl ?_
    refine g_icN X d6_16 (tlt (show (1 : Int32) < (3 : Int32) from (by decide))).2.2.2 (pc' := 19) rfl ?_
    refine g_aloadN X d6_19 (pc' := 20) rfl rfl rfl ?_
    refine g_iconst X (1 : Int32) d6_20 (pc' := 21) rfl rfl ?_
    refine g_baload X V_w0 1 d6_21 (pc' := 22) rfl (by decide) (by decide) rfl ?_
    refine g_iloadN X d6_22 (pc' := 23) rfl rfl ?_
    refine g_i2b X d6_23 (pc' := 24) rfl ?_
    by_cases hc24_2 : u1 = (i3.toInt8.toInt32)
    · skip
      refine g_icY X d6_24 (teq hc24_2).1 (pc' := 29) (by decide) (by decide) ?_
      refine g_iloadN X d6_29 (pc' := 30) rfl rfl ?_
      refine g_iconst X (2 : Int32) d6_30 (pc' := 31) rfl rfl ?_
      refine g_icN X d6_31 (tlt (show (2 : Int32) < (3 : Int32) from (by decide))).2.2.2 (pc' := 34) rfl ?_
      refine g_aloadN X d6_34 (pc' := 35) rfl rfl rfl ?_
      refine g_iconst X (2 : Int32) d6_35 (pc' := 36) rfl rfl ?_
      refine g_baload X V_w0 2 d6_36 (pc' := 37) rfl (by decide) (by decide) rfl ?_
      refine g_iload X d6_37 (pc' := 39) rfl rfl ?_
      refine g_i2b X d6_39 (pc' := 40) rfl ?_
      by_cases hc40_3 : u2 = (i4.toInt8.toInt32)
      · skip
        refine g_icY X d6_40 (teq hc40_3).1 (pc' := 45) (by decide) (by decide) ?_
        refine g_iconst X (1 : Int32) d6_45 (pc' := 46) rfl rfl ?_
        refine g_ireturnN X (t := .boolean) (by simp) d6_46 hret hlk (by decide) (by decide) ?_
        exact ⟨congrArg (fun z => some (Value.int z)) (Eq.trans narT (congrArg b2i (Eq.symm (show fH3 i2 i3 i4 u0 u1 u2 = _ from (Eq.trans (if_pos hc9_1) (Eq.trans (if_pos hc24_2) (Eq.trans (if_pos hc40_3) rfl))))))), rfl, rfl⟩
      · skip
        refine g_icN X d6_40 (feq hc40_3).1 (pc' := 43) rfl ?_
        refine g_iconst X (0 : Int32) d6_43 (pc' := 44) rfl rfl ?_
        refine g_ireturnN X (t := .boolean) (by simp) d6_44 hret hlk (by decide) (by decide) ?_
        exact ⟨congrArg (fun z => some (Value.int z)) (Eq.trans narF (congrArg b2i (Eq.symm (show fH3 i2 i3 i4 u0 u1 u2 = _ from (Eq.trans (if_pos hc9_1) (Eq.trans (if_pos hc24_2) (Eq.trans (if_neg hc40_3) rfl))))))), rfl, rfl⟩
    · skip
      refine g_icN X d6_24 (feq hc24_2).1 (pc' := 27) rfl ?_
      refine g_iconst X (0 : Int32) d6_27 (pc' := 28) rfl rfl ?_
      refine g_ireturnN X (t := .boolean) (by simp) d6_28 hret hlk (by decide) (by decide) ?_
      exact ⟨congrArg (fun z => some (Value.int z)) (Eq.trans narF (congrArg b2i (Eq.symm (show fH3 i2 i3 i4 u0 u1 u2 = _ from (Eq.trans (if_pos hc9_1) (Eq.trans (if_neg hc24_2) rfl)))))), rfl, rfl⟩
  · skip
    refine g_icN X d6_9 (feq hc9_1).1 (pc' := 12) rfl ?_
    refine g_iconst X (0 : Int32) d6_12 (pc' := 13) rfl rfl ?_
    refine g_ireturnN X (t := .boolean) (by simp) d6_13 hret hlk (by decide) (by decide) ?_
    exact ⟨congrArg (fun z => some (Value.int z)) (Eq.trans narF (congrArg b2i (Eq.symm (show fH3 i2 i3 i4 u0 u1 u2 = _ from (Eq.trans (if_neg hc9_1) rfl))))), rfl, rfl⟩
theorem nb (x : Int32) : nar .byte (x.toInt8.toInt32) = x.toInt8.toInt32 := by
  have a := c_i2b x
  have b := c_i2b x.toInt8.toInt32
  apply Int32.toInt_inj.mp
  show (x.toInt8.toInt32.toInt8.toInt32).toInt = _
  omega
theorem n4 {o p : Int32} (e : o &&& 3 = p) : p = 0 ∨ p = 1 ∨ p = 2 ∨ p = 3 := by
  have q : p.toInt = o.toInt % 4 := by rw [← e]; exact c_mask o 3 2 (by decide) (by decide)
  simp only [← Int32.toInt_inj, Int32.reduceToInt]; omega
theorem pd_1 : parseMethodDescriptor "(JILcom/example/ratatoskr/ratatoskr/simulator/TraceEvent$Kind;)V" = some ⟨[.long, .int, (.object "com/example/ratatoskr/ratatoskr/simulator/TraceEvent$Kind")], none⟩ := by decide +kernel
theorem pd_2 : parseMethodDescriptor "()[B" = some ⟨[], some (.array .byte)⟩ := by decide +kernel
theorem pd_3 : parseMethodDescriptor "(JIIJ[B)V" = some ⟨[.long, .int, .int, .long, (.array .byte)], none⟩ := by decide +kernel
theorem pd_4 : parseMethodDescriptor "([BIIII)Z" = some ⟨[(.array .byte), .int, .int, .int, .int], some .boolean⟩ := by decide +kernel
theorem ef_rLaw (m : MethodId) (x0 : Int64) (x1 : Int32) (x2 : Int32) (x3 : Int32) (x4 : Int32) (x5 : Int32) : entryFrame m #[(.long x0), (.int x1), (.int x2), (.int x3), (.int x4), (.int x5)] maxLocals = mkF m 0 #[.val (.long x0), .second, .val (.int x1), .val (.int x2), .val (.int x3), .val (.int x4), .val (.int x5), .unset, .unset, .unset, .unset, .unset] [] := by first | (simp [entryFrame, mkF, argsToLocals, Value.category, maxLocals]; done) | rfl
set_option maxRecDepth 65536 in
set_option maxHeartbeats 40000000 in
theorem rLaw (l : Launch) (Z : State) (aa : Array Value) (hw : ∀ d ∈ tables_1, d.before aa Z = true) (ws : List Jvm.Cond) (j0 : Int64) (i1 : Int32) (i2 : Int32) (i3 : Int32) (i4 : Int32) (i5 : Int32) (eENTER : Addr) (eEXIT : Addr) (eDELIVER : Addr) (eLEADER : Addr) (h0 : Heap) (n0 : Nat) (Z0 : n0 ≤ h0.size) (S_ENTER : Sta Z h0 "com/example/ratatoskr/ratatoskr/simulator/TraceEvent$Kind" "ENTER" "Lcom/example/ratatoskr/ratatoskr/simulator/TraceEvent$Kind;" (.ref eENTER)) (E_eENTER : Exa Z h0 eENTER "com/example/ratatoskr/ratatoskr/simulator/TraceEvent$Kind") (S_EXIT : Sta Z h0 "com/example/ratatoskr/ratatoskr/simulator/TraceEvent$Kind" "EXIT" "Lcom/example/ratatoskr/ratatoskr/simulator/TraceEvent$Kind;" (.ref eEXIT)) (E_eEXIT : Exa Z h0 eEXIT "com/example/ratatoskr/ratatoskr/simulator/TraceEvent$Kind") (S_DELIVER : Sta Z h0 "com/example/ratatoskr/ratatoskr/simulator/TraceEvent$Kind" "DELIVER" "Lcom/example/ratatoskr/ratatoskr/simulator/TraceEvent$Kind;" (.ref eDELIVER)) (E_eDELIVER : Exa Z h0 eDELIVER "com/example/ratatoskr/ratatoskr/simulator/TraceEvent$Kind") (S_LEADER : Sta Z h0 "com/example/ratatoskr/ratatoskr/simulator/TraceEvent$Kind" "LEADER" "Lcom/example/ratatoskr/ratatoskr/simulator/TraceEvent$Kind;" (.ref eLEADER)) (E_eLEADER : Exa Z h0 eLEADER "com/example/ratatoskr/ratatoskr/simulator/TraceEvent$Kind") :
    Rm l Z x code maxLocals ret ws room_1 #[(.long j0), (.int i1), (.int i2), (.int i3), (.int i4), (.int i5)] h0 (fun v h L => v = some (.int 1) ∧ Fr n0 L) := by
  refine Rm.of (plainFor_of_name pn_1) ?_
  intro p e s m below meth cc T X hnm hret hlk
  refine Go.at_ (ef_rLaw m j0 i1 i2 i3 i4 i5) ?_
  have N := Fr.nil n0
  refine g_iloadN X at_0 (pc' := 1) rfl rfl ?_
  refine g_iconst X (3 : Int32) at_1 (pc' := 2) rfl rfl ?_
  refine g_iand X at_2 (pc' := 3) rfl ?_
  generalize ev3_1 : (i2 &&& (3 : Int32)) = v3_1
  refine g_istore X at_3 (pc' := 5) (Ls' := #[.val (.long j0), .second, .val (.int i1), .val (.int i2), .val (.int i3), .val (.int i4), .val (.int i5), .val (.int v3_1), .unset, .unset, .unset, .unset]) rfl rfl ?_
  rcases (n4 ev3_1 : v3_1 = (0 : Int32) ∨ v3_1 = (1 : Int32) ∨ v3_1 = (2 : Int32) ∨ v3_1 = (3 : Int32)) with hs | hs | hs | hs
  · subst hs
    show Go p e below _ (T.setTop (mkF m 5 #[.val (.long j0), .second, .val (.int i1), .val (.int i2), .val (.int i3), .val (.int i4), .val (.int i5), .val (.int (0 : Int32)), .unset, .unset, .unset, .unset] []))
    refine g_iload X at_5 (pc' := 7) rfl rfl ?_
    refine g_newarray X 0 (tb hw 0 rfl) at_7 (pc' := 9) rfl (by decide) (by decide) 0 (by decide) (by decide) (by decide) (by decide) (vs := []) rfl (ad := "[B") (by decide) ?_
    intro T h b7_2 s_b7_2 X Ex E_b7_2 V_b7_2
    have ne_eENTER_b7_2 : eENTER ≠ b7_2 := Nat.ne_of_lt (by rw [s_b7_2]; exact E_eENTER.lt)
    have ne_eEXIT_b7_2 : eEXIT ≠ b7_2 := Nat.ne_of_lt (by rw [s_b7_2]; exact E_eEXIT.lt)
    have ne_eDELIVER_b7_2 : eDELIVER ≠ b7_2 := Nat.ne_of_lt (by rw [s_b7_2]; exact E_eDELIVER.lt)
    have ne_eLEADER_b7_2 : eLEADER ≠ b7_2 := Nat.ne_of_lt (by rw [s_b7_2]; exact E_eLEADER.lt)
    have g_b7_2 : n0 ≤ b7_2 := by rw [s_b7_2]; exact Z0
    replace E_eENTER := E_eENTER.ext Ex
    replace E_eEXIT := E_eEXIT.ext Ex
    replace E_eDELIVER := E_eDELIVER.ext Ex
    replace E_eLEADER := E_eLEADER.ext Ex
    replace S_ENTER := S_ENTER.ext Ex
    replace S_EXIT := S_EXIT.ext Ex
    replace S_DELIVER := S_DELIVER.ext Ex
    replace S_LEADER := S_LEADER.ext Ex
    replace Z0 := Nat.le_trans Z0 Ex.1
    refine g_astore X at_9 (pc' := 11) (Ls' := #[.val (.long j0), .second, .val (.int i1), .val (.int i2), .val (.int i3), .val (.int i4), .val (.int i5), .val (.int (0 : Int32)), .val (.ref b7_2), .unset, .unset, .unset]) rfl rfl rfl ?_
    refine g_iload X at_11 (pc' := 13) rfl rfl ?_
    refine g_ifY X at_13 ((if0 _ _).trans (flt (show ¬ ((0 : Int32) < (0 : Int32)) from (by decide))).2.2.2) (pc' := 23) (by decide) (by decide) ?_
    refine g_iload X at_23 (pc' := 25) rfl rfl ?_
    refine g_iconst X (1 : Int32) at_25 (pc' := 26) rfl rfl ?_
    refine g_icY X at_26 (flt (show ¬ ((1 : Int32) < (0 : Int32)) from (by decide))).2.2.2 (pc' := 36) (by decide) (by decide) ?_
    refine g_iload X at_36 (pc' := 38) rfl rfl ?_
    refine g_iconst X (2 : Int32) at_38 (pc' := 39) rfl rfl ?_
    refine g_icY X at_39 (flt (show ¬ ((2 : Int32) < (0 : Int32)) from (by decide))).2.2.2 (pc' := 49) (by decide) (by decide) ?_
    refine g_iloadN X at_49 (pc' := 50) rfl rfl ?_
    refine g_iconst X (2 : Int32) at_50 (pc' := 51) rfl rfl ?_
    refine g_iushr X at_51 (pc' := 52) rfl ?_
    refine g_iconst X (1 : Int32) at_52 (pc' := 53) rfl rfl ?_
    refine g_iand X at_53 (pc' := 54) rfl ?_
    by_cases hc54_3 : (((i2.toUInt32 >>> ((2 : Int32) &&& 31).toUInt32).toInt32) &&& (1 : Int32)) = (0 : Int32)
    · skip
      refine g_ifN X at_54 ((if0 _ _).trans (teq hc54_3).2) (pc' := 57) rfl ?_
      refine g_iloadN X at_57 (pc' := 58) rfl rfl ?_
      refine g_iconst X (3 : Int32) at_58 (pc' := 59) rfl rfl ?_
      refine g_iushr X at_59 (pc' := 60) rfl ?_
      refine g_iconst X (3 : Int32) at_60 (pc' := 61) rfl rfl ?_
      refine g_iand X at_61 (pc' := 62) rfl ?_
      generalize ev62_4 : (((i2.toUInt32 >>> ((3 : Int32) &&& 31).toUInt32).toInt32) &&& (3 : Int32)) = v62_4
      refine g_istore X at_62 (pc' := 64) (Ls' := #[.val (.long j0), .second, .val (.int i1), .val (.int i2), .val (.int i3), .val (.int i4), .val (.int i5), .val (.int (0 : Int32)), .val (.ref b7_2), .val (.int v62_4), .unset, .unset]) rfl rfl ?_
      refine g_iload X at_64 (pc' := 66) rfl rfl ?_
      by_cases hc66_5 : v62_4 = (0 : Int32)
      · skip
        refine g_ifN X at_66 ((if0 _ _).trans (teq hc66_5).2) (pc' := 69) rfl ?_
        refine g_getstatic X (host := "") (Or.inl (tb hw 1 rfl)) Via.refl S_ENTER at_69 (pc' := 72) rfl ?_
        intro T X
        refine g_astore X at_72 (pc' := 74) (Ls' := #[.val (.long j0), .second, .val (.int i1), .val (.int i2), .val (.int i3), .val (.int i4), .val (.int i5), .val (.int (0 : Int32)), .val (.ref b7_2), .val (.int v62_4), .val (.ref eENTER), .unset]) rfl rfl rfl ?_
        refine g_goto X at_74 (pc' := 110) (by decide) (by decide) ?_
        refine g_new X (tb hw 4 rfl) (tb hw 5 rfl) (tb hw 6 rfl) at_110 (pc' := 113) rfl (by decide) (by decide) ?_
        intro T h b110_6 s_b110_6 X Ex E_b110_6 D_b110_6
        have ne_eENTER_b110_6 : eENTER ≠ b110_6 := Nat.ne_of_lt (by rw [s_b110_6]; exact E_eENTER.lt)
        have ne_eEXIT_b110_6 : eEXIT ≠ b110_6 := Nat.ne_of_lt (by rw [s_b110_6]; exact E_eEXIT.lt)
        have ne_eDELIVER_b110_6 : eDELIVER ≠ b110_6 := Nat.ne_of_lt (by rw [s_b110_6]; exact E_eDELIVER.lt)
        have ne_eLEADER_b110_6 : eLEADER ≠ b110_6 := Nat.ne_of_lt (by rw [s_b110_6]; exact E_eLEADER.lt)
        have ne_b7_2_b110_6 : b7_2 ≠ b110_6 := Nat.ne_of_lt (by rw [s_b110_6]; exact E_b7_2.lt)
        have g_b110_6 : n0 ≤ b110_6 := by rw [s_b110_6]; exact Z0
        replace E_eENTER := E_eENTER.ext Ex
        replace E_eEXIT := E_eEXIT.ext Ex
        replace E_eDELIVER := E_eDELIVER.ext Ex
        replace E_eLEADER := E_eLEADER.ext Ex
        replace E_b7_2 := E_b7_2.ext Ex
        replace V_b7_2 := V_b7_2.ext Ex
        replace S_ENTER := S_ENTER.ext Ex
        replace S_EXIT := S_EXIT.ext Ex
        replace S_DELIVER := S_DELIVER.ext Ex
        replace S_LEADER := S_LEADER.ext Ex
        replace Z0 := Nat.le_trans Z0 Ex.1
        have F_b110_6_time : Fld Z h b110_6 "com/example/ratatoskr/ratatoskr/simulator/TraceEvent" "time" "J" (.long (0 : Int64)) := D_b110_6 (Or.inr (tb hw 17 rfl)) (ty := .long) (by decide)
        have F_b110_6_member : Fld Z h b110_6 "com/example/ratatoskr/ratatoskr/simulator/TraceEvent" "member" "I" (.int (0 : Int32)) := D_b110_6 (Or.inr (tb hw 19 rfl)) (ty := .int) (by decide)
        have F_b110_6_kind : Fld Z h b110_6 "com/example/ratatoskr/ratatoskr/simulator/TraceEvent" "kind" "Lcom/example/ratatoskr/ratatoskr/simulator/TraceEvent$Kind;" .null := D_b110_6 (Or.inr (tb hw 21 rfl)) (ty := (.object "com/example/ratatoskr/ratatoskr/simulator/TraceEvent$Kind")) (by decide)
        have F_b110_6_other : Fld Z h b110_6 "com/example/ratatoskr/ratatoskr/simulator/TraceEvent" "other" "I" (.int (0 : Int32)) := D_b110_6 (Or.inr (tb hw 23 rfl)) (ty := .int) (by decide)
        have F_b110_6_sequence : Fld Z h b110_6 "com/example/ratatoskr/ratatoskr/simulator/TraceEvent" "sequence" "J" (.long (0 : Int64)) := D_b110_6 (Or.inr (tb hw 25 rfl)) (ty := .long) (by decide)
        have F_b110_6_message : Fld Z h b110_6 "com/example/ratatoskr/ratatoskr/simulator/TraceEvent" "message" "[B" .null := D_b110_6 (Or.inr (tb hw 27 rfl)) (ty := (.array .byte)) (by decide)
        refine g_dup X at_113 (pc' := 114) rfl rfl ?_
        refine g_lloadN X at_114 (pc' := 115) rfl rfl ?_
        refine g_iloadN X at_115 (pc' := 116) rfl rfl ?_
        refine g_aload X at_116 (pc' := 118) rfl rfl rfl ?_
        refine g_special X (W := 1) (a := b110_6) [(.long j0), (.int i1), (.ref eENTER)] [(.ref b110_6)] rfl (tb hw 7 rfl) (tb hw 8 rfl) (tb hw 6 rfl) (tb hw 9 rfl) (rC3 l Z aa hw [] b110_6 j0 i1 eENTER _ n0 Z0 E_b110_6 F_b110_6_time F_b110_6_member F_b110_6_kind F_b110_6_other F_b110_6_sequence F_b110_6_message g_b110_6) at_118 (pc' := 121) rfl (by decide) (by decide) (by decide) rfl rfl rfl (lenOf pd_1 rfl) (Nat.le_refl _) (by decide) (by decide) ?_
        intro v T L X q
        obtain ⟨rfl, Nq, Kq, E_b110_6', F_b110_6_time', F_b110_6_member', F_b110_6_kind', F_b110_6_other', F_b110_6_sequence', F_b110_6_message'⟩ := q
        replace N := N.app Nq
        replace E_eENTER := E_eENTER.keep Kq
        replace E_eEXIT := E_eEXIT.keep Kq
        replace E_eDELIVER := E_eDELIVER.keep Kq
        replace E_eLEADER := E_eLEADER.keep Kq
        replace E_b7_2 := E_b7_2.keep Kq
        replace V_b7_2 := V_b7_2.keep Kq (ninS ne_b7_2_b110_6 nin0)
        replace Z0 := Nat.le_trans Z0 Kq.1
        replace E_b110_6 := E_b110_6'
        replace F_b110_6_time := F_b110_6_time'
        replace F_b110_6_member := F_b110_6_member'
        replace F_b110_6_kind := F_b110_6_kind'
        replace F_b110_6_other := F_b110_6_other'
        replace F_b110_6_sequence := F_b110_6_sequence'
        replace F_b110_6_message := F_b110_6_message'
        show Go p e below _ (T.setTop (mkF m 121 #[.val (.long j0), .second, .val (.int i1), .val (.int i2), .val (.int i3), .val (.int i4), .val (.int i5), .val (.int (0 : Int32)), .val (.ref b7_2), .val (.int v62_4), .val (.ref eENTER), .unset] [(.ref b110_6)]))
        refine g_astore X at_121 (pc' := 123) (Ls' := #[.val (.long j0), .second, .val (.int i1), .val (.int i2), .val (.int i3), .val (.int i4), .val (.int i5), .val (.int (0 : Int32)), .val (.ref b7_2), .val (.int v62_4), .val (.ref eENTER), .val (.ref b110_6)]) rfl rfl rfl ?_
        refine g_aload X at_123 (pc' := 125) rfl rfl rfl ?_
        refine g_virtual X (W := 0) (a := b110_6) (C := "com/example/ratatoskr/ratatoskr/simulator/TraceEvent") [] [] E_b110_6 (tb hw 28 rfl) (tb hw 29 rfl) (tb hw 31 rfl) (tb hw 30 rfl) (tb hw 6 rfl) (tb hw 32 rfl) (rGn l Z aa hw [] b110_6 _ E_b110_6 F_b110_6_message) at_125 (pc' := 128) rfl (by decide) (by decide) (by decide) rfl rfl rfl (lenOf pd_2 rfl) (Nat.le_refl _) (by decide) (by decide) ?_
        intro v T L X q
        obtain ⟨rfl, X⟩ := pureX X q
        show Go p e below _ (T.setTop (mkF m 128 #[.val (.long j0), .second, .val (.int i1), .val (.int i2), .val (.int i3), .val (.int i4), .val (.int i5), .val (.int (0 : Int32)), .val (.ref b7_2), .val (.int v62_4), .val (.ref eENTER), .val (.ref b110_6)] [.null]))
        refine g_nonnullN X at_128 (pc' := 131) rfl ?_
        refine g_aload X at_131 (pc' := 133) rfl rfl rfl ?_
        refine g_virtual X (W := 0) (a := b110_6) (C := "com/example/ratatoskr/ratatoskr/simulator/TraceEvent") [] [] E_b110_6 (tb hw 28 rfl) (tb hw 29 rfl) (tb hw 31 rfl) (tb hw 30 rfl) (tb hw 6 rfl) (tb hw 32 rfl) (rGn l Z aa hw [] b110_6 _ E_b110_6 F_b110_6_message) at_133 (pc' := 136) rfl (by decide) (by decide) (by decide) rfl rfl rfl (lenOf pd_2 rfl) (Nat.le_refl _) (by decide) (by decide) ?_
        intro v T L X q
        obtain ⟨rfl, X⟩ := pureX X q
        show Go p e below _ (T.setTop (mkF m 136 #[.val (.long j0), .second, .val (.int i1), .val (.int i2), .val (.int i3), .val (.int i4), .val (.int i5), .val (.int (0 : Int32)), .val (.ref b7_2), .val (.int v62_4), .val (.ref eENTER), .val (.ref b110_6)] [.null]))
        refine g_nonnullN X at_136 (pc' := 139) rfl ?_
        refine g_iconst X (1 : Int32) at_139 (pc' := 140) rfl rfl ?_
        refine g_goto X at_140 (pc' := 144) (by decide) (by decide) ?_
        refine g_ireturnN X (t := .boolean) (by simp) at_144 hret hlk (by decide) (by decide) ?_
        exact ⟨rfl, N⟩
      · skip
        refine g_ifY X at_66 ((if0 _ _).trans (feq hc66_5).2) (pc' := 77) (by decide) (by decide) ?_
        refine g_iload X at_77 (pc' := 79) rfl rfl ?_
        refine g_iconst X (1 : Int32) at_79 (pc' := 80) rfl rfl ?_
        by_cases hc80_7 : v62_4 = (1 : Int32)
        · skip
          refine g_icN X at_80 (teq hc80_7).2 (pc' := 83) rfl ?_
          refine g_getstatic X (host := "") (Or.inl (tb hw 33 rfl)) Via.refl S_EXIT at_83 (pc' := 86) rfl ?_
          intro T X
          refine g_astore X at_86 (pc' := 88) (Ls' := #[.val (.long j0), .second, .val (.int i1), .val (.int i2), .val (.int i3), .val (.int i4), .val (.int i5), .val (.int (0 : Int32)), .val (.ref b7_2), .val (.int v62_4), .val (.ref eEXIT), .unset]) rfl rfl rfl ?_
          refine g_goto X at_88 (pc' := 110) (by decide) (by decide) ?_
          refine g_new X (tb hw 4 rfl) (tb hw 5 rfl) (tb hw 6 rfl) at_110 (pc' := 113) rfl (by decide) (by decide) ?_
          intro T h b110_8 s_b110_8 X Ex E_b110_8 D_b110_8
          have ne_eENTER_b110_8 : eENTER ≠ b110_8 := Nat.ne_of_lt (by rw [s_b110_8]; exact E_eENTER.lt)
          have ne_eEXIT_b110_8 : eEXIT ≠ b110_8 := Nat.ne_of_lt (by rw [s_b110_8]; exact E_eEXIT.lt)
          have ne_eDELIVER_b110_8 : eDELIVER ≠ b110_8 := Nat.ne_of_lt (by rw [s_b110_8]; exact E_eDELIVER.lt)
          have ne_eLEADER_b110_8 : eLEADER ≠ b110_8 := Nat.ne_of_lt (by rw [s_b110_8]; exact E_eLEADER.lt)
          have ne_b7_2_b110_8 : b7_2 ≠ b110_8 := Nat.ne_of_lt (by rw [s_b110_8]; exact E_b7_2.lt)
          have g_b110_8 : n0 ≤ b110_8 := by rw [s_b110_8]; exact Z0
          replace E_eENTER := E_eENTER.ext Ex
          replace E_eEXIT := E_eEXIT.ext Ex
          replace E_eDELIVER := E_eDELIVER.ext Ex
          replace E_eLEADER := E_eLEADER.ext Ex
          replace E_b7_2 := E_b7_2.ext Ex
          replace V_b7_2 := V_b7_2.ext Ex
          replace S_ENTER := S_ENTER.ext Ex
          replace S_EXIT := S_EXIT.ext Ex
          replace S_DELIVER := S_DELIVER.ext Ex
          replace S_LEADER := S_LEADER.ext Ex
          replace Z0 := Nat.le_trans Z0 Ex.1
          have F_b110_8_time : Fld Z h b110_8 "com/example/ratatoskr/ratatoskr/simulator/TraceEvent" "time" "J" (.long (0 : Int64)) := D_b110_8 (Or.inr (tb hw 17 rfl)) (ty := .long) (by decide)
          have F_b110_8_member : Fld Z h b110_8 "com/example/ratatoskr/ratatoskr/simulator/TraceEvent" "member" "I" (.int (0 : Int32)) := D_b110_8 (Or.inr (tb hw 19 rfl)) (ty := .int) (by decide)
          have F_b110_8_kind : Fld Z h b110_8 "com/example/ratatoskr/ratatoskr/simulator/TraceEvent" "kind" "Lcom/example/ratatoskr/ratatoskr/simulator/TraceEvent$Kind;" .null := D_b110_8 (Or.inr (tb hw 21 rfl)) (ty := (.object "com/example/ratatoskr/ratatoskr/simulator/TraceEvent$Kind")) (by decide)
          have F_b110_8_other : Fld Z h b110_8 "com/example/ratatoskr/ratatoskr/simulator/TraceEvent" "other" "I" (.int (0 : Int32)) := D_b110_8 (Or.inr (tb hw 23 rfl)) (ty := .int) (by decide)
          have F_b110_8_sequence : Fld Z h b110_8 "com/example/ratatoskr/ratatoskr/simulator/TraceEvent" "sequence" "J" (.long (0 : Int64)) := D_b110_8 (Or.inr (tb hw 25 rfl)) (ty := .long) (by decide)
          have F_b110_8_message : Fld Z h b110_8 "com/example/ratatoskr/ratatoskr/simulator/TraceEvent" "message" "[B" .null := D_b110_8 (Or.inr (tb hw 27 rfl)) (ty := (.array .byte)) (by decide)
          refine g_dup X at_113 (pc' := 114) rfl rfl ?_
          refine g_lloadN X at_114 (pc' := 115) rfl rfl ?_
          refine g_iloadN X at_115 (pc' := 116) rfl rfl ?_
          refine g_aload X at_116 (pc' := 118) rfl rfl rfl ?_
          refine g_special X (W := 1) (a := b110_8) [(.long j0), (.int i1), (.ref eEXIT)] [(.ref b110_8)] rfl (tb hw 7 rfl) (tb hw 8 rfl) (tb hw 6 rfl) (tb hw 9 rfl) (rC3 l Z aa hw [] b110_8 j0 i1 eEXIT _ n0 Z0 E_b110_8 F_b110_8_time F_b110_8_member F_b110_8_kind F_b110_8_other F_b110_8_sequence F_b110_8_message g_b110_8) at_118 (pc' := 121) rfl (by decide) (by decide) (by decide) rfl rfl rfl (lenOf pd_1 rfl) (Nat.le_refl _) (by decide) (by decide) ?_
          intro v T L X q
          obtain ⟨rfl, Nq, Kq, E_b110_8', F_b110_8_time', F_b110_8_member', F_b110_8_kind', F_b110_8_other', F_b110_8_sequence', F_b110_8_message'⟩ := q
          replace N := N.app Nq
          replace E_eENTER := E_eENTER.keep Kq
          replace E_eEXIT := E_eEXIT.keep Kq
          replace E_eDELIVER := E_eDELIVER.keep Kq
          replace E_eLEADER := E_eLEADER.keep Kq
          replace E_b7_2 := E_b7_2.keep Kq
          replace V_b7_2 := V_b7_2.keep Kq (ninS ne_b7_2_b110_8 nin0)
          replace Z0 := Nat.le_trans Z0 Kq.1
          replace E_b110_8 := E_b110_8'
          replace F_b110_8_time := F_b110_8_time'
          replace F_b110_8_member := F_b110_8_member'
          replace F_b110_8_kind := F_b110_8_kind'
          replace F_b110_8_other := F_b110_8_other'
          replace F_b110_8_sequence := F_b110_8_sequence'
          replace F_b110_8_message := F_b110_8_message'
          show Go p e below _ (T.setTop (mkF m 121 #[.val (.long j0), .second, .val (.int i1), .val (.int i2), .val (.int i3), .val (.int i4), .val (.int i5), .val (.int (0 : Int32)), .val (.ref b7_2), .val (.int v62_4), .val (.ref eEXIT), .unset] [(.ref b110_8)]))
          refine g_astore X at_121 (pc' := 123) (Ls' := #[.val (.long j0), .second, .val (.int i1), .val (.int i2), .val (.int i3), .val (.int i4), .val (.int i5), .val (.int (0 : Int32)), .val (.ref b7_2), .val (.int v62_4), .val (.ref eEXIT), .val (.ref b110_8)]) rfl rfl rfl ?_
          refine g_aload X at_123 (pc' := 125) rfl rfl rfl ?_
          refine g_virtual X (W := 0) (a := b110_8) (C := "com/example/ratatoskr/ratatoskr/simulator/TraceEvent") [] [] E_b110_8 (tb hw 28 rfl) (tb hw 29 rfl) (tb hw 31 rfl) (tb hw 30 rfl) (tb hw 6 rfl) (tb hw 32 rfl) (rGn l Z aa hw [] b110_8 _ E_b110_8 F_b110_8_message) at_125 (pc' := 128) rfl (by decide) (by decide) (by decide) rfl rfl rfl (lenOf pd_2 rfl) (Nat.le_refl _) (by decide) (by decide) ?_
          intro v T L X q
          obtain ⟨rfl, X⟩ := pureX X q
          show Go p e below _ (T.setTop (mkF m 128 #[.val (.long j0), .second, .val (.int i1), .val (.int i2), .val (.int i3), .val (.int i4), .val (.int i5), .val (.int (0 : Int32)), .val (.ref b7_2), .val (.int v62_4), .val (.ref eEXIT), .val (.ref b110_8)] [.null]))
          refine g_nonnullN X at_128 (pc' := 131) rfl ?_
          refine g_aload X at_131 (pc' := 133) rfl rfl rfl ?_
          refine g_virtual X (W := 0) (a := b110_8) (C := "com/example/ratatoskr/ratatoskr/simulator/TraceEvent") [] [] E_b110_8 (tb hw 28 rfl) (tb hw 29 rfl) (tb hw 31 rfl) (tb hw 30 rfl) (tb hw 6 rfl) (tb hw 32 rfl) (rGn l Z aa hw [] b110_8 _ E_b110_8 F_b110_8_message) at_133 (pc' := 136) rfl (by decide) (by decide) (by decide) rfl rfl rfl (lenOf pd_2 rfl) (Nat.le_refl _) (by decide) (by decide) ?_
          intro v T L X q
          obtain ⟨rfl, X⟩ := pureX X q
          show Go p e below _ (T.setTop (mkF m 136 #[.val (.long j0), .second, .val (.int i1), .val (.int i2), .val (.int i3), .val (.int i4), .val (.int i5), .val (.int (0 : Int32)), .val (.ref b7_2), .val (.int v62_4), .val (.ref eEXIT), .val (.ref b110_8)] [.null]))
          refine g_nonnullN X at_136 (pc' := 139) rfl ?_
          refine g_iconst X (1 : Int32) at_139 (pc' := 140) rfl rfl ?_
          refine g_goto X at_140 (pc' := 144) (by decide) (by decide) ?_
          refine g_ireturnN X (t := .boolean) (by simp) at_144 hret hlk (by decide) (by decide) ?_
          exact ⟨rfl, N⟩
        · skip
          refine g_icY X at_80 (feq hc80_7).2 (pc' := 91) (by decide) (by decide) ?_
          refine g_iload X at_91 (pc' := 93) rfl rfl ?_
          refine g_iconst X (2 : Int32) at_93 (pc' := 94) rfl rfl ?_
          by_cases hc94_9 : v62_4 = (2 : Int32)
          · skip
            refine g_icN X at_94 (teq hc94_9).2 (pc' := 97) rfl ?_
            refine g_getstatic X (host := "") (Or.inl (tb hw 53 rfl)) Via.refl S_LEADER at_97 (pc' := 100) rfl ?_
            intro T X
            refine g_astore X at_100 (pc' := 102) (Ls' := #[.val (.long j0), .second, .val (.int i1), .val (.int i2), .val (.int i3), .val (.int i4), .val (.int i5), .val (.int (0 : Int32)), .val (.ref b7_2), .val (.int v62_4), .val (.ref eLEADER), .unset]) rfl rfl rfl ?_
            refine g_goto X at_102 (pc' := 110) (by decide) (by decide) ?_
            refine g_new X (tb hw 4 rfl) (tb hw 5 rfl) (tb hw 6 rfl) at_110 (pc' := 113) rfl (by decide) (by decide) ?_
            intro T h b110_10 s_b110_10 X Ex E_b110_10 D_b110_10
            have ne_eENTER_b110_10 : eENTER ≠ b110_10 := Nat.ne_of_lt (by rw [s_b110_10]; exact E_eENTER.lt)
            have ne_eEXIT_b110_10 : eEXIT ≠ b110_10 := Nat.ne_of_lt (by rw [s_b110_10]; exact E_eEXIT.lt)
            have ne_eDELIVER_b110_10 : eDELIVER ≠ b110_10 := Nat.ne_of_lt (by rw [s_b110_10]; exact E_eDELIVER.lt)
            have ne_eLEADER_b110_10 : eLEADER ≠ b110_10 := Nat.ne_of_lt (by rw [s_b110_10]; exact E_eLEADER.lt)
            have ne_b7_2_b110_10 : b7_2 ≠ b110_10 := Nat.ne_of_lt (by rw [s_b110_10]; exact E_b7_2.lt)
            have g_b110_10 : n0 ≤ b110_10 := by rw [s_b110_10]; exact Z0
            replace E_eENTER := E_eENTER.ext Ex
            replace E_eEXIT := E_eEXIT.ext Ex
            replace E_eDELIVER := E_eDELIVER.ext Ex
            replace E_eLEADER := E_eLEADER.ext Ex
            replace E_b7_2 := E_b7_2.ext Ex
            replace V_b7_2 := V_b7_2.ext Ex
            replace S_ENTER := S_ENTER.ext Ex
            replace S_EXIT := S_EXIT.ext Ex
            replace S_DELIVER := S_DELIVER.ext Ex
            replace S_LEADER := S_LEADER.ext Ex
            replace Z0 := Nat.le_trans Z0 Ex.1
            have F_b110_10_time : Fld Z h b110_10 "com/example/ratatoskr/ratatoskr/simulator/TraceEvent" "time" "J" (.long (0 : Int64)) := D_b110_10 (Or.inr (tb hw 17 rfl)) (ty := .long) (by decide)
            have F_b110_10_member : Fld Z h b110_10 "com/example/ratatoskr/ratatoskr/simulator/TraceEvent" "member" "I" (.int (0 : Int32)) := D_b110_10 (Or.inr (tb hw 19 rfl)) (ty := .int) (by decide)
            have F_b110_10_kind : Fld Z h b110_10 "com/example/ratatoskr/ratatoskr/simulator/TraceEvent" "kind" "Lcom/example/ratatoskr/ratatoskr/simulator/TraceEvent$Kind;" .null := D_b110_10 (Or.inr (tb hw 21 rfl)) (ty := (.object "com/example/ratatoskr/ratatoskr/simulator/TraceEvent$Kind")) (by decide)
            have F_b110_10_other : Fld Z h b110_10 "com/example/ratatoskr/ratatoskr/simulator/TraceEvent" "other" "I" (.int (0 : Int32)) := D_b110_10 (Or.inr (tb hw 23 rfl)) (ty := .int) (by decide)
            have F_b110_10_sequence : Fld Z h b110_10 "com/example/ratatoskr/ratatoskr/simulator/TraceEvent" "sequence" "J" (.long (0 : Int64)) := D_b110_10 (Or.inr (tb hw 25 rfl)) (ty := .long) (by decide)
            have F_b110_10_message : Fld Z h b110_10 "com/example/ratatoskr/ratatoskr/simulator/TraceEvent" "message" "[B" .null := D_b110_10 (Or.inr (tb hw 27 rfl)) (ty := (.array .byte)) (by decide)
            refine g_dup X at_113 (pc' := 114) rfl rfl ?_
            refine g_lloadN X at_114 (pc' := 115) rfl rfl ?_
            refine g_iloadN X at_115 (pc' := 116) rfl rfl ?_
            refine g_aload X at_116 (pc' := 118) rfl rfl rfl ?_
            refine g_special X (W := 1) (a := b110_10) [(.long j0), (.int i1), (.ref eLEADER)] [(.ref b110_10)] rfl (tb hw 7 rfl) (tb hw 8 rfl) (tb hw 6 rfl) (tb hw 9 rfl) (rC3 l Z aa hw [] b110_10 j0 i1 eLEADER _ n0 Z0 E_b110_10 F_b110_10_time F_b110_10_member F_b110_10_kind F_b110_10_other F_b110_10_sequence F_b110_10_message g_b110_10) at_118 (pc' := 121) rfl (by decide) (by decide) (by decide) rfl rfl rfl (lenOf pd_1 rfl) (Nat.le_refl _) (by decide) (by decide) ?_
            intro v T L X q
            obtain ⟨rfl, Nq, Kq, E_b110_10', F_b110_10_time', F_b110_10_member', F_b110_10_kind', F_b110_10_other', F_b110_10_sequence', F_b110_10_message'⟩ := q
            replace N := N.app Nq
            replace E_eENTER := E_eENTER.keep Kq
            replace E_eEXIT := E_eEXIT.keep Kq
            replace E_eDELIVER := E_eDELIVER.keep Kq
            replace E_eLEADER := E_eLEADER.keep Kq
            replace E_b7_2 := E_b7_2.keep Kq
            replace V_b7_2 := V_b7_2.keep Kq (ninS ne_b7_2_b110_10 nin0)
            replace Z0 := Nat.le_trans Z0 Kq.1
            replace E_b110_10 := E_b110_10'
            replace F_b110_10_time := F_b110_10_time'
            replace F_b110_10_member := F_b110_10_member'
            replace F_b110_10_kind := F_b110_10_kind'
            replace F_b110_10_other := F_b110_10_other'
            replace F_b110_10_sequence := F_b110_10_sequence'
            replace F_b110_10_message := F_b110_10_message'
            show Go p e below _ (T.setTop (mkF m 121 #[.val (.long j0), .second, .val (.int i1), .val (.int i2), .val (.int i3), .val (.int i4), .val (.int i5), .val (.int (0 : Int32)), .val (.ref b7_2), .val (.int v62_4), .val (.ref eLEADER), .unset] [(.ref b110_10)]))
            refine g_astore X at_121 (pc' := 123) (Ls' := #[.val (.long j0), .second, .val (.int i1), .val (.int i2), .val (.int i3), .val (.int i4), .val (.int i5), .val (.int (0 : Int32)), .val (.ref b7_2), .val (.int v62_4), .val (.ref eLEADER), .val (.ref b110_10)]) rfl rfl rfl ?_
            refine g_aload X at_123 (pc' := 125) rfl rfl rfl ?_
            refine g_virtual X (W := 0) (a := b110_10) (C := "com/example/ratatoskr/ratatoskr/simulator/TraceEvent") [] [] E_b110_10 (tb hw 28 rfl) (tb hw 29 rfl) (tb hw 31 rfl) (tb hw 30 rfl) (tb hw 6 rfl) (tb hw 32 rfl) (rGn l Z aa hw [] b110_10 _ E_b110_10 F_b110_10_message) at_125 (pc' := 128) rfl (by decide) (by decide) (by decide) rfl rfl rfl (lenOf pd_2 rfl) (Nat.le_refl _) (by decide) (by decide) ?_
            intro v T L X q
            obtain ⟨rfl, X⟩ := pureX X q
            show Go p e below _ (T.setTop (mkF m 128 #[.val (.long j0), .second, .val (.int i1), .val (.int i2), .val (.int i3), .val (.int i4), .val (.int i5), .val (.int (0 : Int32)), .val (.ref b7_2), .val (.int v62_4), .val (.ref eLEADER), .val (.ref b110_10)] [.null]))
            refine g_nonnullN X at_128 (pc' := 131) rfl ?_
            refine g_aload X at_131 (pc' := 133) rfl rfl rfl ?_
            refine g_virtual X (W := 0) (a := b110_10) (C := "com/example/ratatoskr/ratatoskr/simulator/TraceEvent") [] [] E_b110_10 (tb hw 28 rfl) (tb hw 29 rfl) (tb hw 31 rfl) (tb hw 30 rfl) (tb hw 6 rfl) (tb hw 32 rfl) (rGn l Z aa hw [] b110_10 _ E_b110_10 F_b110_10_message) at_133 (pc' := 136) rfl (by decide) (by decide) (by decide) rfl rfl rfl (lenOf pd_2 rfl) (Nat.le_refl _) (by decide) (by decide) ?_
            intro v T L X q
            obtain ⟨rfl, X⟩ := pureX X q
            show Go p e below _ (T.setTop (mkF m 136 #[.val (.long j0), .second, .val (.int i1), .val (.int i2), .val (.int i3), .val (.int i4), .val (.int i5), .val (.int (0 : Int32)), .val (.ref b7_2), .val (.int v62_4), .val (.ref eLEADER), .val (.ref b110_10)] [.null]))
            refine g_nonnullN X at_136 (pc' := 139) rfl ?_
            refine g_iconst X (1 : Int32) at_139 (pc' := 140) rfl rfl ?_
            refine g_goto X at_140 (pc' := 144) (by decide) (by decide) ?_
            refine g_ireturnN X (t := .boolean) (by simp) at_144 hret hlk (by decide) (by decide) ?_
            exact ⟨rfl, N⟩
          · skip
            refine g_icY X at_94 (feq hc94_9).2 (pc' := 105) (by decide) (by decide) ?_
            refine g_getstatic X (host := "") (Or.inl (tb hw 55 rfl)) Via.refl S_DELIVER at_105 (pc' := 108) rfl ?_
            intro T X
            refine g_astore X at_108 (pc' := 110) (Ls' := #[.val (.long j0), .second, .val (.int i1), .val (.int i2), .val (.int i3), .val (.int i4), .val (.int i5), .val (.int (0 : Int32)), .val (.ref b7_2), .val (.int v62_4), .val (.ref eDELIVER), .unset]) rfl rfl rfl ?_
            refine g_new X (tb hw 4 rfl) (tb hw 5 rfl) (tb hw 6 rfl) at_110 (pc' := 113) rfl (by decide) (by decide) ?_
            intro T h b110_11 s_b110_11 X Ex E_b110_11 D_b110_11
            have ne_eENTER_b110_11 : eENTER ≠ b110_11 := Nat.ne_of_lt (by rw [s_b110_11]; exact E_eENTER.lt)
            have ne_eEXIT_b110_11 : eEXIT ≠ b110_11 := Nat.ne_of_lt (by rw [s_b110_11]; exact E_eEXIT.lt)
            have ne_eDELIVER_b110_11 : eDELIVER ≠ b110_11 := Nat.ne_of_lt (by rw [s_b110_11]; exact E_eDELIVER.lt)
            have ne_eLEADER_b110_11 : eLEADER ≠ b110_11 := Nat.ne_of_lt (by rw [s_b110_11]; exact E_eLEADER.lt)
            have ne_b7_2_b110_11 : b7_2 ≠ b110_11 := Nat.ne_of_lt (by rw [s_b110_11]; exact E_b7_2.lt)
            have g_b110_11 : n0 ≤ b110_11 := by rw [s_b110_11]; exact Z0
            replace E_eENTER := E_eENTER.ext Ex
            replace E_eEXIT := E_eEXIT.ext Ex
            replace E_eDELIVER := E_eDELIVER.ext Ex
            replace E_eLEADER := E_eLEADER.ext Ex
            replace E_b7_2 := E_b7_2.ext Ex
            replace V_b7_2 := V_b7_2.ext Ex
            replace S_ENTER := S_ENTER.ext Ex
            replace S_EXIT := S_EXIT.ext Ex
            replace S_DELIVER := S_DELIVER.ext Ex
            replace S_LEADER := S_LEADER.ext Ex
            replace Z0 := Nat.le_trans Z0 Ex.1
            have F_b110_11_time : Fld Z h b110_11 "com/example/ratatoskr/ratatoskr/simulator/TraceEvent" "time" "J" (.long (0 : Int64)) := D_b110_11 (Or.inr (tb hw 17 rfl)) (ty := .long) (by decide)
            have F_b110_11_member : Fld Z h b110_11 "com/example/ratatoskr/ratatoskr/simulator/TraceEvent" "member" "I" (.int (0 : Int32)) := D_b110_11 (Or.inr (tb hw 19 rfl)) (ty := .int) (by decide)
            have F_b110_11_kind : Fld Z h b110_11 "com/example/ratatoskr/ratatoskr/simulator/TraceEvent" "kind" "Lcom/example/ratatoskr/ratatoskr/simulator/TraceEvent$Kind;" .null := D_b110_11 (Or.inr (tb hw 21 rfl)) (ty := (.object "com/example/ratatoskr/ratatoskr/simulator/TraceEvent$Kind")) (by decide)
            have F_b110_11_other : Fld Z h b110_11 "com/example/ratatoskr/ratatoskr/simulator/TraceEvent" "other" "I" (.int (0 : Int32)) := D_b110_11 (Or.inr (tb hw 23 rfl)) (ty := .int) (by decide)
            have F_b110_11_sequence : Fld Z h b110_11 "com/example/ratatoskr/ratatoskr/simulator/TraceEvent" "sequence" "J" (.long (0 : Int64)) := D_b110_11 (Or.inr (tb hw 25 rfl)) (ty := .long) (by decide)
            have F_b110_11_message : Fld Z h b110_11 "com/example/ratatoskr/ratatoskr/simulator/TraceEvent" "message" "[B" .null := D_b110_11 (Or.inr (tb hw 27 rfl)) (ty := (.array .byte)) (by decide)
            refine g_dup X at_113 (pc' := 114) rfl rfl ?_
            refine g_lloadN X at_114 (pc' := 115) rfl rfl ?_
            refine g_iloadN X at_115 (pc' := 116) rfl rfl ?_
            refine g_aload X at_116 (pc' := 118) rfl rfl rfl ?_
            refine g_special X (W := 1) (a := b110_11) [(.long j0), (.int i1), (.ref eDELIVER)] [(.ref b110_11)] rfl (tb hw 7 rfl) (tb hw 8 rfl) (tb hw 6 rfl) (tb hw 9 rfl) (rC3 l Z aa hw [] b110_11 j0 i1 eDELIVER _ n0 Z0 E_b110_11 F_b110_11_time F_b110_11_member F_b110_11_kind F_b110_11_other F_b110_11_sequence F_b110_11_message g_b110_11) at_118 (pc' := 121) rfl (by decide) (by decide) (by decide) rfl rfl rfl (lenOf pd_1 rfl) (Nat.le_refl _) (by decide) (by decide) ?_
            intro v T L X q
            obtain ⟨rfl, Nq, Kq, E_b110_11', F_b110_11_time', F_b110_11_member', F_b110_11_kind', F_b110_11_other', F_b110_11_sequence', F_b110_11_message'⟩ := q
            replace N := N.app Nq
            replace E_eENTER := E_eENTER.keep Kq
            replace E_eEXIT := E_eEXIT.keep Kq
            replace E_eDELIVER := E_eDELIVER.keep Kq
            replace E_eLEADER := E_eLEADER.keep Kq
            replace E_b7_2 := E_b7_2.keep Kq
            replace V_b7_2 := V_b7_2.keep Kq (ninS ne_b7_2_b110_11 nin0)
            replace Z0 := Nat.le_trans Z0 Kq.1
            replace E_b110_11 := E_b110_11'
            replace F_b110_11_time := F_b110_11_time'
            replace F_b110_11_member := F_b110_11_member'
            replace F_b110_11_kind := F_b110_11_kind'
            replace F_b110_11_other := F_b110_11_other'
            replace F_b110_11_sequence := F_b110_11_sequence'
            replace F_b110_11_message := F_b110_11_message'
            show Go p e below _ (T.setTop (mkF m 121 #[.val (.long j0), .second, .val (.int i1), .val (.int i2), .val (.int i3), .val (.int i4), .val (.int i5), .val (.int (0 : Int32)), .val (.ref b7_2), .val (.int v62_4), .val (.ref eDELIVER), .unset] [(.ref b110_11)]))
            refine g_astore X at_121 (pc' := 123) (Ls' := #[.val (.long j0), .second, .val (.int i1), .val (.int i2), .val (.int i3), .val (.int i4), .val (.int i5), .val (.int (0 : Int32)), .val (.ref b7_2), .val (.int v62_4), .val (.ref eDELIVER), .val (.ref b110_11)]) rfl rfl rfl ?_
            refine g_aload X at_123 (pc' := 125) rfl rfl rfl ?_
            refine g_virtual X (W := 0) (a := b110_11) (C := "com/example/ratatoskr/ratatoskr/simulator/TraceEvent") [] [] E_b110_11 (tb hw 28 rfl) (tb hw 29 rfl) (tb hw 31 rfl) (tb hw 30 rfl) (tb hw 6 rfl) (tb hw 32 rfl) (rGn l Z aa hw [] b110_11 _ E_b110_11 F_b110_11_message) at_125 (pc' := 128) rfl (by decide) (by decide) (by decide) rfl rfl rfl (lenOf pd_2 rfl) (Nat.le_refl _) (by decide) (by decide) ?_
            intro v T L X q
            obtain ⟨rfl, X⟩ := pureX X q
            show Go p e below _ (T.setTop (mkF m 128 #[.val (.long j0), .second, .val (.int i1), .val (.int i2), .val (.int i3), .val (.int i4), .val (.int i5), .val (.int (0 : Int32)), .val (.ref b7_2), .val (.int v62_4), .val (.ref eDELIVER), .val (.ref b110_11)] [.null]))
            refine g_nonnullN X at_128 (pc' := 131) rfl ?_
            refine g_aload X at_131 (pc' := 133) rfl rfl rfl ?_
            refine g_virtual X (W := 0) (a := b110_11) (C := "com/example/ratatoskr/ratatoskr/simulator/TraceEvent") [] [] E_b110_11 (tb hw 28 rfl) (tb hw 29 rfl) (tb hw 31 rfl) (tb hw 30 rfl) (tb hw 6 rfl) (tb hw 32 rfl) (rGn l Z aa hw [] b110_11 _ E_b110_11 F_b110_11_message) at_133 (pc' := 136) rfl (by decide) (by decide) (by decide) rfl rfl rfl (lenOf pd_2 rfl) (Nat.le_refl _) (by decide) (by decide) ?_
            intro v T L X q
            obtain ⟨rfl, X⟩ := pureX X q
            show Go p e below _ (T.setTop (mkF m 136 #[.val (.long j0), .second, .val (.int i1), .val (.int i2), .val (.int i3), .val (.int i4), .val (.int i5), .val (.int (0 : Int32)), .val (.ref b7_2), .val (.int v62_4), .val (.ref eDELIVER), .val (.ref b110_11)] [.null]))
            refine g_nonnullN X at_136 (pc' := 139) rfl ?_
            refine g_iconst X (1 : Int32) at_139 (pc' := 140) rfl rfl ?_
            refine g_goto X at_140 (pc' := 144) (by decide) (by decide) ?_
            refine g_ireturnN X (t := .boolean) (by simp) at_144 hret hlk (by decide) (by decide) ?_
            exact ⟨rfl, N⟩
    · skip
      refine g_ifY X at_54 ((if0 _ _).trans (feq hc54_3).2) (pc' := 145) (by decide) (by decide) ?_
      refine g_new X (tb hw 4 rfl) (tb hw 5 rfl) (tb hw 6 rfl) at_145 (pc' := 148) rfl (by decide) (by decide) ?_
      intro T h b145_12 s_b145_12 X Ex E_b145_12 D_b145_12
      have ne_eENTER_b145_12 : eENTER ≠ b145_12 := Nat.ne_of_lt (by rw [s_b145_12]; exact E_eENTER.lt)
      have ne_eEXIT_b145_12 : eEXIT ≠ b145_12 := Nat.ne_of_lt (by rw [s_b145_12]; exact E_eEXIT.lt)
      have ne_eDELIVER_b145_12 : eDELIVER ≠ b145_12 := Nat.ne_of_lt (by rw [s_b145_12]; exact E_eDELIVER.lt)
      have ne_eLEADER_b145_12 : eLEADER ≠ b145_12 := Nat.ne_of_lt (by rw [s_b145_12]; exact E_eLEADER.lt)
      have ne_b7_2_b145_12 : b7_2 ≠ b145_12 := Nat.ne_of_lt (by rw [s_b145_12]; exact E_b7_2.lt)
      have g_b145_12 : n0 ≤ b145_12 := by rw [s_b145_12]; exact Z0
      replace E_eENTER := E_eENTER.ext Ex
      replace E_eEXIT := E_eEXIT.ext Ex
      replace E_eDELIVER := E_eDELIVER.ext Ex
      replace E_eLEADER := E_eLEADER.ext Ex
      replace E_b7_2 := E_b7_2.ext Ex
      replace V_b7_2 := V_b7_2.ext Ex
      replace S_ENTER := S_ENTER.ext Ex
      replace S_EXIT := S_EXIT.ext Ex
      replace S_DELIVER := S_DELIVER.ext Ex
      replace S_LEADER := S_LEADER.ext Ex
      replace Z0 := Nat.le_trans Z0 Ex.1
      have F_b145_12_time : Fld Z h b145_12 "com/example/ratatoskr/ratatoskr/simulator/TraceEvent" "time" "J" (.long (0 : Int64)) := D_b145_12 (Or.inr (tb hw 17 rfl)) (ty := .long) (by decide)
      have F_b145_12_member : Fld Z h b145_12 "com/example/ratatoskr/ratatoskr/simulator/TraceEvent" "member" "I" (.int (0 : Int32)) := D_b145_12 (Or.inr (tb hw 19 rfl)) (ty := .int) (by decide)
      have F_b145_12_kind : Fld Z h b145_12 "com/example/ratatoskr/ratatoskr/simulator/TraceEvent" "kind" "Lcom/example/ratatoskr/ratatoskr/simulator/TraceEvent$Kind;" .null := D_b145_12 (Or.inr (tb hw 21 rfl)) (ty := (.object "com/example/ratatoskr/ratatoskr/simulator/TraceEvent$Kind")) (by decide)
      have F_b145_12_other : Fld Z h b145_12 "com/example/ratatoskr/ratatoskr/simulator/TraceEvent" "other" "I" (.int (0 : Int32)) := D_b145_12 (Or.inr (tb hw 23 rfl)) (ty := .int) (by decide)
      have F_b145_12_sequence : Fld Z h b145_12 "com/example/ratatoskr/ratatoskr/simulator/TraceEvent" "sequence" "J" (.long (0 : Int64)) := D_b145_12 (Or.inr (tb hw 25 rfl)) (ty := .long) (by decide)
      have F_b145_12_message : Fld Z h b145_12 "com/example/ratatoskr/ratatoskr/simulator/TraceEvent" "message" "[B" .null := D_b145_12 (Or.inr (tb hw 27 rfl)) (ty := (.array .byte)) (by decide)
      refine g_dup X at_148 (pc' := 149) rfl rfl ?_
      refine g_lloadN X at_149 (pc' := 150) rfl rfl ?_
      refine g_iloadN X at_150 (pc' := 151) rfl rfl ?_
      refine g_iloadN X at_151 (pc' := 152) rfl rfl ?_
      refine g_iloadN X at_152 (pc' := 153) rfl rfl ?_
      refine g_ixor X at_153 (pc' := 154) rfl ?_
      refine g_lloadN X at_154 (pc' := 155) rfl rfl ?_
      refine g_aload X at_155 (pc' := 157) rfl rfl rfl ?_
      refine g_special X (W := 1) (a := b145_12) [(.long j0), (.int i1), (.int (i1 ^^^ i2)), (.long j0), (.ref b7_2)] [(.ref b145_12)] rfl (tb hw 35 rfl) (tb hw 36 rfl) (tb hw 6 rfl) (tb hw 37 rfl) (rC5 l Z aa hw [] b145_12 j0 i1 (i1 ^^^ i2) j0 b7_2 eDELIVER _ n0 Z0 E_b145_12 F_b145_12_time F_b145_12_member F_b145_12_kind F_b145_12_other F_b145_12_sequence F_b145_12_message g_b145_12 S_DELIVER) at_157 (pc' := 160) rfl (by decide) (by decide) (by decide) rfl rfl rfl (lenOf pd_3 rfl) (Nat.le_refl _) (by decide) (by decide) ?_
      intro v T L X q
      obtain ⟨rfl, Nq, Kq, E_b145_12', F_b145_12_time', F_b145_12_member', F_b145_12_kind', F_b145_12_other', F_b145_12_sequence', F_b145_12_message'⟩ := q
      replace N := N.app Nq
      replace E_eENTER := E_eENTER.keep Kq
      replace E_eEXIT := E_eEXIT.keep Kq
      replace E_eDELIVER := E_eDELIVER.keep Kq
      replace E_eLEADER := E_eLEADER.keep Kq
      replace E_b7_2 := E_b7_2.keep Kq
      replace V_b7_2 := V_b7_2.keep Kq (ninS ne_b7_2_b145_12 nin0)
      replace Z0 := Nat.le_trans Z0 Kq.1
      replace E_b145_12 := E_b145_12'
      replace F_b145_12_time := F_b145_12_time'
      replace F_b145_12_member := F_b145_12_member'
      replace F_b145_12_kind := F_b145_12_kind'
      replace F_b145_12_other := F_b145_12_other'
      replace F_b145_12_sequence := F_b145_12_sequence'
      replace F_b145_12_message := F_b145_12_message'
      show Go p e below _ (T.setTop (mkF m 160 #[.val (.long j0), .second, .val (.int i1), .val (.int i2), .val (.int i3), .val (.int i4), .val (.int i5), .val (.int (0 : Int32)), .val (.ref b7_2), .unset, .unset, .unset] [(.ref b145_12)]))
      refine g_astore X at_160 (pc' := 162) (Ls' := #[.val (.long j0), .second, .val (.int i1), .val (.int i2), .val (.int i3), .val (.int i4), .val (.int i5), .val (.int (0 : Int32)), .val (.ref b7_2), .val (.ref b145_12), .unset, .unset]) rfl rfl rfl ?_
      refine g_aload X at_162 (pc' := 164) rfl rfl rfl ?_
      refine g_virtual X (W := 0) (a := b145_12) (C := "com/example/ratatoskr/ratatoskr/simulator/TraceEvent") [] [] E_b145_12 (tb hw 28 rfl) (tb hw 29 rfl) (tb hw 31 rfl) (tb hw 30 rfl) (tb hw 6 rfl) (tb hw 32 rfl) (rG0 l Z aa hw [] b145_12 b7_2 _ n0 Z0 E_b145_12 F_b145_12_message E_b7_2 V_b7_2) at_164 (pc' := 167) rfl (by decide) (by decide) (by decide) rfl rfl rfl (lenOf pd_2 rfl) (Nat.le_refl _) (by decide) (by decide) ?_
      intro v T L X q
      obtain ⟨b167_13, rfl, Nq, Kq, szq_b167_13, g_b167_13, E_b167_13, V_b167_13⟩ := q
      have ne_eENTER_b167_13 : eENTER ≠ b167_13 := Nat.ne_of_lt (Nat.lt_of_lt_of_le E_eENTER.lt szq_b167_13)
      have ne_eEXIT_b167_13 : eEXIT ≠ b167_13 := Nat.ne_of_lt (Nat.lt_of_lt_of_le E_eEXIT.lt szq_b167_13)
      have ne_eDELIVER_b167_13 : eDELIVER ≠ b167_13 := Nat.ne_of_lt (Nat.lt_of_lt_of_le E_eDELIVER.lt szq_b167_13)
      have ne_eLEADER_b167_13 : eLEADER ≠ b167_13 := Nat.ne_of_lt (Nat.lt_of_lt_of_le E_eLEADER.lt szq_b167_13)
      have ne_b7_2_b167_13 : b7_2 ≠ b167_13 := Nat.ne_of_lt (Nat.lt_of_lt_of_le E_b7_2.lt szq_b167_13)
      have ne_b145_12_b167_13 : b145_12 ≠ b167_13 := Nat.ne_of_lt (Nat.lt_of_lt_of_le E_b145_12.lt szq_b167_13)
      replace N := N.app Nq
      replace E_eENTER := E_eENTER.keep Kq
      replace E_eEXIT := E_eEXIT.keep Kq
      replace E_eDELIVER := E_eDELIVER.keep Kq
      replace E_eLEADER := E_eLEADER.keep Kq
      replace E_b7_2 := E_b7_2.keep Kq
      replace V_b7_2 := V_b7_2.keep Kq nin0
      replace E_b145_12 := E_b145_12.keep Kq
      replace F_b145_12_time := F_b145_12_time.keep Kq nin0
      replace F_b145_12_member := F_b145_12_member.keep Kq nin0
      replace F_b145_12_kind := F_b145_12_kind.keep Kq nin0
      replace F_b145_12_other := F_b145_12_other.keep Kq nin0
      replace F_b145_12_sequence := F_b145_12_sequence.keep Kq nin0
      replace F_b145_12_message := F_b145_12_message.keep Kq nin0
      replace Z0 := Nat.le_trans Z0 Kq.1
      show Go p e below _ (T.setTop (mkF m 167 #[.val (.long j0), .second, .val (.int i1), .val (.int i2), .val (.int i3), .val (.int i4), .val (.int i5), .val (.int (0 : Int32)), .val (.ref b7_2), .val (.ref b145_12), .unset, .unset] [(.ref b167_13)]))
      refine g_astore X at_167 (pc' := 169) (Ls' := #[.val (.long j0), .second, .val (.int i1), .val (.int i2), .val (.int i3), .val (.int i4), .val (.int i5), .val (.int (0 : Int32)), .val (.ref b7_2), .val (.ref b145_12), .val (.ref b167_13), .unset]) rfl rfl rfl ?_
      refine g_aload X at_169 (pc' := 171) rfl rfl rfl ?_
      refine g_nullN X at_171 (pc' := 174) rfl ?_
      refine g_aload X at_174 (pc' := 176) rfl rfl rfl ?_
      refine g_aload X at_176 (pc' := 178) rfl rfl rfl ?_
      refine g_acmp X at_178 (pc' := 181) (same := false) rfl rfl (decide_eq_false fun q => (Ne.symm ne_b7_2_b167_13) (Value.ref.inj q)) (by decide) (by decide) ?_
      refine g_aload X at_181 (pc' := 183) rfl rfl rfl ?_
      refine g_arraylength X V_b167_13 at_183 (pc' := 184) rfl (z := (0 : Int32)) rfl ?_
      refine g_iload X at_184 (pc' := 186) rfl rfl ?_
      refine g_icY X at_186 (teq (show (0 : Int32) = (0 : Int32) from (by decide))).1 (pc' := 191) (by decide) (by decide) ?_
      refine g_aload X at_191 (pc' := 193) rfl rfl rfl ?_
      refine g_iload X at_193 (pc' := 195) rfl rfl ?_
      refine g_iload X at_195 (pc' := 197) rfl rfl ?_
      refine g_iload X at_197 (pc' := 199) rfl rfl ?_
      refine g_iload X at_199 (pc' := 201) rfl rfl ?_
      refine g_static X (W := 0) [(.ref b167_13), (.int (0 : Int32)), (.int i3), (.int i4), (.int i5)] [] (tb hw 49 rfl) (tb hw 50 rfl) (tb hw 51 rfl) (tb hw 52 rfl) (rH0 l Z aa hw [] b167_13 i3 i4 i5 _ V_b167_13) at_201 (pc' := 204) rfl (by decide) (by decide) (by decide) rfl rfl rfl (lenOf pd_4 rfl) (Nat.le_refl _) (by decide) (by decide) ?_
      intro v T L X q
      obtain ⟨rfl, X⟩ := pureX X q
      show Go p e below _ (T.setTop (mkF m 204 #[.val (.long j0), .second, .val (.int i1), .val (.int i2), .val (.int i3), .val (.int i4), .val (.int i5), .val (.int (0 : Int32)), .val (.ref b7_2), .val (.ref b145_12), .val (.ref b167_13), .unset] [(.int (b2i (fH0 i3 i4 i5)))]))
      refine g_ifY X at_204 ((if0 _ _).trans (feq (bne (show (fH0 i3 i4 i5) = true from (by subst_vars; simp [fH0, nb])))).2) (pc' := 209) (by decide) (by decide) ?_
      refine g_iload X at_209 (pc' := 211) rfl rfl ?_
      refine g_ifY X at_211 ((if0 _ _).trans (flt (show ¬ ((0 : Int32) < (0 : Int32)) from (by decide))).2.2.2) (pc' := 225) (by decide) (by decide) ?_
      refine g_iload X at_225 (pc' := 227) rfl rfl ?_
      refine g_iconst X (1 : Int32) at_227 (pc' := 228) rfl rfl ?_
      refine g_icY X at_228 (flt (show ¬ ((1 : Int32) < (0 : Int32)) from (by decide))).2.2.2 (pc' := 242) (by decide) (by decide) ?_
      refine g_iload X at_242 (pc' := 244) rfl rfl ?_
      refine g_iconst X (2 : Int32) at_244 (pc' := 245) rfl rfl ?_
      refine g_icY X at_245 (flt (show ¬ ((2 : Int32) < (0 : Int32)) from (by decide))).2.2.2 (pc' := 259) (by decide) (by decide) ?_
      refine g_aload X at_259 (pc' := 261) rfl rfl rfl ?_
      refine g_virtual X (W := 0) (a := b145_12) (C := "com/example/ratatoskr/ratatoskr/simulator/TraceEvent") [] [] E_b145_12 (tb hw 28 rfl) (tb hw 29 rfl) (tb hw 31 rfl) (tb hw 30 rfl) (tb hw 6 rfl) (tb hw 32 rfl) (rG0 l Z aa hw [] b145_12 b7_2 _ n0 Z0 E_b145_12 F_b145_12_message E_b7_2 V_b7_2) at_261 (pc' := 264) rfl (by decide) (by decide) (by decide) rfl rfl rfl (lenOf pd_2 rfl) (Nat.le_refl _) (by decide) (by decide) ?_
      intro v T L X q
      obtain ⟨b264_14, rfl, Nq, Kq, szq_b264_14, g_b264_14, E_b264_14, V_b264_14⟩ := q
      have ne_eENTER_b264_14 : eENTER ≠ b264_14 := Nat.ne_of_lt (Nat.lt_of_lt_of_le E_eENTER.lt szq_b264_14)
      have ne_eEXIT_b264_14 : eEXIT ≠ b264_14 := Nat.ne_of_lt (Nat.lt_of_lt_of_le E_eEXIT.lt szq_b264_14)
      have ne_eDELIVER_b264_14 : eDELIVER ≠ b264_14 := Nat.ne_of_lt (Nat.lt_of_lt_of_le E_eDELIVER.lt szq_b264_14)
      have ne_eLEADER_b264_14 : eLEADER ≠ b264_14 := Nat.ne_of_lt (Nat.lt_of_lt_of_le E_eLEADER.lt szq_b264_14)
      have ne_b7_2_b264_14 : b7_2 ≠ b264_14 := Nat.ne_of_lt (Nat.lt_of_lt_of_le E_b7_2.lt szq_b264_14)
      have ne_b145_12_b264_14 : b145_12 ≠ b264_14 := Nat.ne_of_lt (Nat.lt_of_lt_of_le E_b145_12.lt szq_b264_14)
      have ne_b167_13_b264_14 : b167_13 ≠ b264_14 := Nat.ne_of_lt (Nat.lt_of_lt_of_le E_b167_13.lt szq_b264_14)
      replace N := N.app Nq
      replace E_eENTER := E_eENTER.keep Kq
      replace E_eEXIT := E_eEXIT.keep Kq
      replace E_eDELIVER := E_eDELIVER.keep Kq
      replace E_eLEADER := E_eLEADER.keep Kq
      replace E_b7_2 := E_b7_2.keep Kq
      replace V_b7_2 := V_b7_2.keep Kq nin0
      replace E_b145_12 := E_b145_12.keep Kq
      replace F_b145_12_time := F_b145_12_time.keep Kq nin0
      replace F_b145_12_member := F_b145_12_member.keep Kq nin0
      replace F_b145_12_kind := F_b145_12_kind.keep Kq nin0
      replace F_b145_12_other := F_b145_12_other.keep Kq nin0
      replace F_b145_12_sequence := F_b145_12_sequence.keep Kq nin0
      replace F_b145_12_message := F_b145_12_message.keep Kq nin0
      replace E_b167_13 := E_b167_13.keep Kq
      replace V_b167_13 := V_b167_13.keep Kq nin0
      replace Z0 := Nat.le_trans Z0 Kq.1
      show Go p e below _ (T.setTop (mkF m 264 #[.val (.long j0), .second, .val (.int i1), .val (.int i2), .val (.int i3), .val (.int i4), .val (.int i5), .val (.int (0 : Int32)), .val (.ref b7_2), .val (.ref b145_12), .val (.ref b167_13), .unset] [(.ref b264_14)]))
      refine g_astore X at_264 (pc' := 266) (Ls' := #[.val (.long j0), .second, .val (.int i1), .val (.int i2), .val (.int i3), .val (.int i4), .val (.int i5), .val (.int (0 : Int32)), .val (.ref b7_2), .val (.ref b145_12), .val (.ref b167_13), .val (.ref b264_14)]) rfl rfl rfl ?_
      refine g_aload X at_266 (pc' := 268) rfl rfl rfl ?_
      refine g_nullN X at_268 (pc' := 271) rfl ?_
      refine g_aload X at_271 (pc' := 273) rfl rfl rfl ?_
      refine g_aload X at_273 (pc' := 275) rfl rfl rfl ?_
      refine g_acmp X at_275 (pc' := 278) (same := false) rfl rfl (decide_eq_false fun q => (Ne.symm ne_b167_13_b264_14) (Value.ref.inj q)) (by decide) (by decide) ?_
      refine g_aload X at_278 (pc' := 280) rfl rfl rfl ?_
      refine g_aload X at_280 (pc' := 282) rfl rfl rfl ?_
      refine g_acmp X at_282 (pc' := 285) (same := false) rfl rfl (decide_eq_false fun q => (Ne.symm ne_b7_2_b264_14) (Value.ref.inj q)) (by decide) (by decide) ?_
      refine g_aload X at_285 (pc' := 287) rfl rfl rfl ?_
      refine g_arraylength X V_b264_14 at_287 (pc' := 288) rfl (z := (0 : Int32)) rfl ?_
      refine g_iload X at_288 (pc' := 290) rfl rfl ?_
      refine g_icY X at_290 (teq (show (0 : Int32) = (0 : Int32) from (by decide))).1 (pc' := 295) (by decide) (by decide) ?_
      refine g_aload X at_295 (pc' := 297) rfl rfl rfl ?_
      refine g_iload X at_297 (pc' := 299) rfl rfl ?_
      refine g_iload X at_299 (pc' := 301) rfl rfl ?_
      refine g_iload X at_301 (pc' := 303) rfl rfl ?_
      refine g_iload X at_303 (pc' := 305) rfl rfl ?_
      refine g_static X (W := 0) [(.ref b264_14), (.int (0 : Int32)), (.int i3), (.int i4), (.int i5)] [] (tb hw 49 rfl) (tb hw 50 rfl) (tb hw 51 rfl) (tb hw 52 rfl) (rH0 l Z aa hw [] b264_14 i3 i4 i5 _ V_b264_14) at_305 (pc' := 308) rfl (by decide) (by decide) (by decide) rfl rfl rfl (lenOf pd_4 rfl) (Nat.le_refl _) (by decide) (by decide) ?_
      intro v T L X q
      obtain ⟨rfl, X⟩ := pureX X q
      show Go p e below _ (T.setTop (mkF m 308 #[.val (.long j0), .second, .val (.int i1), .val (.int i2), .val (.int i3), .val (.int i4), .val (.int i5), .val (.int (0 : Int32)), .val (.ref b7_2), .val (.ref b145_12), .val (.ref b167_13), .val (.ref b264_14)] [(.int (b2i (fH0 i3 i4 i5)))]))
      refine g_ifN X at_308 ((if0 _ _).trans (feq (bne (show (fH0 i3 i4 i5) = true from (by subst_vars; simp [fH0, nb])))).1) (pc' := 311) rfl ?_
      refine g_aload X at_311 (pc' := 313) rfl rfl rfl ?_
      refine g_iload X at_313 (pc' := 315) rfl rfl ?_
      refine g_iload X at_315 (pc' := 317) rfl rfl ?_
      refine g_iload X at_317 (pc' := 319) rfl rfl ?_
      refine g_iload X at_319 (pc' := 321) rfl rfl ?_
      refine g_static X (W := 0) [(.ref b7_2), (.int (0 : Int32)), (.int i3), (.int i4), (.int i5)] [] (tb hw 49 rfl) (tb hw 50 rfl) (tb hw 51 rfl) (tb hw 52 rfl) (rH0 l Z aa hw [] b7_2 i3 i4 i5 _ V_b7_2) at_321 (pc' := 324) rfl (by decide) (by decide) (by decide) rfl rfl rfl (lenOf pd_4 rfl) (Nat.le_refl _) (by decide) (by decide) ?_
      intro v T L X q
      obtain ⟨rfl, X⟩ := pureX X q
      show Go p e below _ (T.setTop (mkF m 324 #[.val (.long j0), .second, .val (.int i1), .val (.int i2), .val (.int i3), .val (.int i4), .val (.int i5), .val (.int (0 : Int32)), .val (.ref b7_2), .val (.ref b145_12), .val (.ref b167_13), .val (.ref b264_14)] [(.int (b2i (fH0 i3 i4 i5)))]))
      refine g_ifN X at_324 ((if0 _ _).trans (feq (bne (show (fH0 i3 i4 i5) = true from (by subst_vars; simp [fH0, nb])))).1) (pc' := 327) rfl ?_
      refine g_iconst X (1 : Int32) at_327 (pc' := 328) rfl rfl ?_
      refine g_goto X at_328 (pc' := 332) (by decide) (by decide) ?_
      refine g_ireturnN X (t := .boolean) (by simp) at_332 hret hlk (by decide) (by decide) ?_
      exact ⟨rfl, N⟩
  · subst hs
    show Go p e below _ (T.setTop (mkF m 5 #[.val (.long j0), .second, .val (.int i1), .val (.int i2), .val (.int i3), .val (.int i4), .val (.int i5), .val (.int (1 : Int32)), .unset, .unset, .unset, .unset] []))
    refine g_iload X at_5 (pc' := 7) rfl rfl ?_
    refine g_newarray X 1 (tb hw 0 rfl) at_7 (pc' := 9) rfl (by decide) (by decide) 1 (by decide) (by decide) (by decide) (by decide) (vs := [(.int (0 : Int32))]) rfl (ad := "[B") (by decide) ?_
    intro T h b7_15 s_b7_15 X Ex E_b7_15 V_b7_15
    have ne_eENTER_b7_15 : eENTER ≠ b7_15 := Nat.ne_of_lt (by rw [s_b7_15]; exact E_eENTER.lt)
    have ne_eEXIT_b7_15 : eEXIT ≠ b7_15 := Nat.ne_of_lt (by rw [s_b7_15]; exact E_eEXIT.lt)
    have ne_eDELIVER_b7_15 : eDELIVER ≠ b7_15 := Nat.ne_of_lt (by rw [s_b7_15]; exact E_eDELIVER.lt)
    have ne_eLEADER_b7_15 : eLEADER ≠ b7_15 := Nat.ne_of_lt (by rw [s_b7_15]; exact E_eLEADER.lt)
    have g_b7_15 : n0 ≤ b7_15 := by rw [s_b7_15]; exact Z0
    replace E_eENTER := E_eENTER.ext Ex
    replace E_eEXIT := E_eEXIT.ext Ex
    replace E_eDELIVER := E_eDELIVER.ext Ex
    replace E_eLEADER := E_eLEADER.ext Ex
    replace S_ENTER := S_ENTER.ext Ex
    replace S_EXIT := S_EXIT.ext Ex
    replace S_DELIVER := S_DELIVER.ext Ex
    replace S_LEADER := S_LEADER.ext Ex
    replace Z0 := Nat.le_trans Z0 Ex.1
    refine g_astore X at_9 (pc' := 11) (Ls' := #[.val (.long j0), .second, .val (.int i1), .val (.int i2), .val (.int i3), .val (.int i4), .val (.int i5), .val (.int (1 : Int32)), .val (.ref b7_15), .unset, .unset, .unset]) rfl rfl rfl ?_
    refine g_iload X at_11 (pc' := 13) rfl rfl ?_
    refine g_ifN X at_13 ((if0 _ _).trans (tlt (show (0 : Int32) < (1 : Int32) from (by decide))).2.2.2) (pc' := 16) rfl ?_
    refine g_aload X at_16 (pc' := 18) rfl rfl rfl ?_
    refine g_iconst X (0 : Int32) at_18 (pc' := 19) rfl rfl ?_
    refine g_iload X at_19 (pc' := 21) rfl rfl ?_
    refine g_i2b X at_21 (pc' := 22) rfl ?_
    generalize ev22_16 : (i3.toInt8.toInt32) = v22_16
    refine g_bastore X V_b7_15 0 at_22 (pc' := 23) rfl (by decide) (by decide) (Nat.le_of_ble_eq_true rfl) ?_
    intro T h X W V_b7_15
    replace V_b7_15 : Av Z h b7_15 .byte [(.int (nar .byte v22_16))] := V_b7_15
    replace E_eENTER := E_eENTER.wr W
    replace E_eEXIT := E_eEXIT.wr W
    replace E_eDELIVER := E_eDELIVER.wr W
    replace E_eLEADER := E_eLEADER.wr W
    replace E_b7_15 := E_b7_15.wr W
    replace S_ENTER := S_ENTER.wr W
    replace S_EXIT := S_EXIT.wr W
    replace S_DELIVER := S_DELIVER.wr W
    replace S_LEADER := S_LEADER.wr W
    replace Z0 := Nat.le_trans Z0 (Nat.le_of_eq W.size.symm)
    replace N := Fr.snoc X.1 N g_b7_15
    refine g_iload X at_23 (pc' := 25) rfl rfl ?_
    refine g_iconst X (1 : Int32) at_25 (pc' := 26) rfl rfl ?_
    refine g_icY X at_26 (flt (show ¬ ((1 : Int32) < (1 : Int32)) from (by decide))).2.2.2 (pc' := 36) (by decide) (by decide) ?_
    refine g_iload X at_36 (pc' := 38) rfl rfl ?_
    refine g_iconst X (2 : Int32) at_38 (pc' := 39) rfl rfl ?_
    refine g_icY X at_39 (flt (show ¬ ((2 : Int32) < (1 : Int32)) from (by decide))).2.2.2 (pc' := 49) (by decide) (by decide) ?_
    refine g_iloadN X at_49 (pc' := 50) rfl rfl ?_
    refine g_iconst X (2 : Int32) at_50 (pc' := 51) rfl rfl ?_
    refine g_iushr X at_51 (pc' := 52) rfl ?_
    refine g_iconst X (1 : Int32) at_52 (pc' := 53) rfl rfl ?_
    refine g_iand X at_53 (pc' := 54) rfl ?_
    by_cases hc54_17 : (((i2.toUInt32 >>> ((2 : Int32) &&& 31).toUInt32).toInt32) &&& (1 : Int32)) = (0 : Int32)
    · skip
      refine g_ifN X at_54 ((if0 _ _).trans (teq hc54_17).2) (pc' := 57) rfl ?_
      refine g_iloadN X at_57 (pc' := 58) rfl rfl ?_
      refine g_iconst X (3 : Int32) at_58 (pc' := 59) rfl rfl ?_
      refine g_iushr X at_59 (pc' := 60) rfl ?_
      refine g_iconst X (3 : Int32) at_60 (pc' := 61) rfl rfl ?_
      refine g_iand X at_61 (pc' := 62) rfl ?_
      generalize ev62_18 : (((i2.toUInt32 >>> ((3 : Int32) &&& 31).toUInt32).toInt32) &&& (3 : Int32)) = v62_18
      refine g_istore X at_62 (pc' := 64) (Ls' := #[.val (.long j0), .second, .val (.int i1), .val (.int i2), .val (.int i3), .val (.int i4), .val (.int i5), .val (.int (1 : Int32)), .val (.ref b7_15), .val (.int v62_18), .unset, .unset]) rfl rfl ?_
      refine g_iload X at_64 (pc' := 66) rfl rfl ?_
      by_cases hc66_19 : v62_18 = (0 : Int32)
      · skip
        refine g_ifN X at_66 ((if0 _ _).trans (teq hc66_19).2) (pc' := 69) rfl ?_
        refine g_getstatic X (host := "") (Or.inl (tb hw 1 rfl)) Via.refl S_ENTER at_69 (pc' := 72) rfl ?_
        intro T X
        refine g_astore X at_72 (pc' := 74) (Ls' := #[.val (.long j0), .second, .val (.int i1), .val (.int i2), .val (.int i3), .val (.int i4), .val (.int i5), .val (.int (1 : Int32)), .val (.ref b7_15), .val (.int v62_18), .val (.ref eENTER), .unset]) rfl rfl rfl ?_
        refine g_goto X at_74 (pc' := 110) (by decide) (by decide) ?_
        refine g_new X (tb hw 4 rfl) (tb hw 5 rfl) (tb hw 6 rfl) at_110 (pc' := 113) rfl (by decide) (by decide) ?_
        intro T h b110_20 s_b110_20 X Ex E_b110_20 D_b110_20
        have ne_eENTER_b110_20 : eENTER ≠ b110_20 := Nat.ne_of_lt (by rw [s_b110_20]; exact E_eENTER.lt)
        have ne_eEXIT_b110_20 : eEXIT ≠ b110_20 := Nat.ne_of_lt (by rw [s_b110_20]; exact E_eEXIT.lt)
        have ne_eDELIVER_b110_20 : eDELIVER ≠ b110_20 := Nat.ne_of_lt (by rw [s_b110_20]; exact E_eDELIVER.lt)
        have ne_eLEADER_b110_20 : eLEADER ≠ b110_20 := Nat.ne_of_lt (by rw [s_b110_20]; exact E_eLEADER.lt)
        have ne_b7_15_b110_20 : b7_15 ≠ b110_20 := Nat.ne_of_lt (by rw [s_b110_20]; exact E_b7_15.lt)
        have g_b110_20 : n0 ≤ b110_20 := by rw [s_b110_20]; exact Z0
        replace E_eENTER := E_eENTER.ext Ex
        replace E_eEXIT := E_eEXIT.ext Ex
        replace E_eDELIVER := E_eDELIVER.ext Ex
        replace E_eLEADER := E_eLEADER.ext Ex
        replace E_b7_15 := E_b7_15.ext Ex
        replace V_b7_15 := V_b7_15.ext Ex
        replace S_ENTER := S_ENTER.ext Ex
        replace S_EXIT := S_EXIT.ext Ex
        replace S_DELIVER := S_DELIVER.ext Ex
        replace S_LEADER := S_LEADER.ext Ex
        replace Z0 := Nat.le_trans Z0 Ex.1
        have F_b110_20_time : Fld Z h b110_20 "com/example/ratatoskr/ratatoskr/simulator/TraceEvent" "time" "J" (.long (0 : Int64)) := D_b110_20 (Or.inr (tb hw 17 rfl)) (ty := .long) (by decide)
        have F_b110_20_member : Fld Z h b110_20 "com/example/ratatoskr/ratatoskr/simulator/TraceEvent" "member" "I" (.int (0 : Int32)) := D_b110_20 (Or.inr (tb hw 19 rfl)) (ty := .int) (by decide)
        have F_b110_20_kind : Fld Z h b110_20 "com/example/ratatoskr/ratatoskr/simulator/TraceEvent" "kind" "Lcom/example/ratatoskr/ratatoskr/simulator/TraceEvent$Kind;" .null := D_b110_20 (Or.inr (tb hw 21 rfl)) (ty := (.object "com/example/ratatoskr/ratatoskr/simulator/TraceEvent$Kind")) (by decide)
        have F_b110_20_other : Fld Z h b110_20 "com/example/ratatoskr/ratatoskr/simulator/TraceEvent" "other" "I" (.int (0 : Int32)) := D_b110_20 (Or.inr (tb hw 23 rfl)) (ty := .int) (by decide)
        have F_b110_20_sequence : Fld Z h b110_20 "com/example/ratatoskr/ratatoskr/simulator/TraceEvent" "sequence" "J" (.long (0 : Int64)) := D_b110_20 (Or.inr (tb hw 25 rfl)) (ty := .long) (by decide)
        have F_b110_20_message : Fld Z h b110_20 "com/example/ratatoskr/ratatoskr/simulator/TraceEvent" "message" "[B" .null := D_b110_20 (Or.inr (tb hw 27 rfl)) (ty := (.array .byte)) (by decide)
        refine g_dup X at_113 (pc' := 114) rfl rfl ?_
        refine g_lloadN X at_114 (pc' := 115) rfl rfl ?_
        refine g_iloadN X at_115 (pc' := 116) rfl rfl ?_
        refine g_aload X at_116 (pc' := 118) rfl rfl rfl ?_
        refine g_special X (W := 1) (a := b110_20) [(.long j0), (.int i1), (.ref eENTER)] [(.ref b110_20)] rfl (tb hw 7 rfl) (tb hw 8 rfl) (tb hw 6 rfl) (tb hw 9 rfl) (rC3 l Z aa hw [] b110_20 j0 i1 eENTER _ n0 Z0 E_b110_20 F_b110_20_time F_b110_20_member F_b110_20_kind F_b110_20_other F_b110_20_sequence F_b110_20_message g_b110_20) at_118 (pc' := 121) rfl (by decide) (by decide) (by decide) rfl rfl rfl (lenOf pd_1 rfl) (Nat.le_refl _) (by decide) (by decide) ?_
        intro v T L X q
        obtain ⟨rfl, Nq, Kq, E_b110_20', F_b110_20_time', F_b110_20_member', F_b110_20_kind', F_b110_20_other', F_b110_20_sequence', F_b110_20_message'⟩ := q
        replace N := N.app Nq
        replace E_eENTER := E_eENTER.keep Kq
        replace E_eEXIT := E_eEXIT.keep Kq
        replace E_eDELIVER := E_eDELIVER.keep Kq
        replace E_eLEADER := E_eLEADER.keep Kq
        replace E_b7_15 := E_b7_15.keep Kq
        replace V_b7_15 := V_b7_15.keep Kq (ninS ne_b7_15_b110_20 nin0)
        replace Z0 := Nat.le_trans Z0 Kq.1
        replace E_b110_20 := E_b110_20'
        replace F_b110_20_time := F_b110_20_time'
        replace F_b110_20_member := F_b110_20_member'
        replace F_b110_20_kind := F_b110_20_kind'
        replace F_b110_20_other := F_b110_20_other'
        replace F_b110_20_sequence := F_b110_20_sequence'
        replace F_b110_20_message := F_b110_20_message'
        show Go p e below _ (T.setTop (mkF m 121 #[.val (.long j0), .second, .val (.int i1), .val (.int i2), .val (.int i3), .val (.int i4), .val (.int i5), .val (.int (1 : Int32)), .val (.ref b7_15), .val (.int v62_18), .val (.ref eENTER), .unset] [(.ref b110_20)]))
        refine g_astore X at_121 (pc' := 123) (Ls' := #[.val (.long j0), .second, .val (.int i1), .val (.int i2), .val (.int i3), .val (.int i4), .val (.int i5), .val (.int (1 : Int32)), .val (.ref b7_15), .val (.int v62_18), .val (.ref eENTER), .val (.ref b110_20)]) rfl rfl rfl ?_
        refine g_aload X at_123 (pc' := 125) rfl rfl rfl ?_
        refine g_virtual X (W := 0) (a := b110_20) (C := "com/example/ratatoskr/ratatoskr/simulator/TraceEvent") [] [] E_b110_20 (tb hw 28 rfl) (tb hw 29 rfl) (tb hw 31 rfl) (tb hw 30 rfl) (tb hw 6 rfl) (tb hw 32 rfl) (rGn l Z aa hw [] b110_20 _ E_b110_20 F_b110_20_message) at_125 (pc' := 128) rfl (by decide) (by decide) (by decide) rfl rfl rfl (lenOf pd_2 rfl) (Nat.le_refl _) (by decide) (by decide) ?_
        intro v T L X q
        obtain ⟨rfl, X⟩ := pureX X q
        show Go p e below _ (T.setTop (mkF m 128 #[.val (.long j0), .second, .val (.int i1), .val (.int i2), .val (.int i3), .val (.int i4), .val (.int i5), .val (.int (1 : Int32)), .val (.ref b7_15), .val (.int v62_18), .val (.ref eENTER), .val (.ref b110_20)] [.null]))
        refine g_nonnullN X at_128 (pc' := 131) rfl ?_
        refine g_aload X at_131 (pc' := 133) rfl rfl rfl ?_
        refine g_virtual X (W := 0) (a := b110_20) (C := "com/example/ratatoskr/ratatoskr/simulator/TraceEvent") [] [] E_b110_20 (tb hw 28 rfl) (tb hw 29 rfl) (tb hw 31 rfl) (tb hw 30 rfl) (tb hw 6 rfl) (tb hw 32 rfl) (rGn l Z aa hw [] b110_20 _ E_b110_20 F_b110_20_message) at_133 (pc' := 136) rfl (by decide) (by decide) (by decide) rfl rfl rfl (lenOf pd_2 rfl) (Nat.le_refl _) (by decide) (by decide) ?_
        intro v T L X q
        obtain ⟨rfl, X⟩ := pureX X q
        show Go p e below _ (T.setTop (mkF m 136 #[.val (.long j0), .second, .val (.int i1), .val (.int i2), .val (.int i3), .val (.int i4), .val (.int i5), .val (.int (1 : Int32)), .val (.ref b7_15), .val (.int v62_18), .val (.ref eENTER), .val (.ref b110_20)] [.null]))
        refine g_nonnullN X at_136 (pc' := 139) rfl ?_
        refine g_iconst X (1 : Int32) at_139 (pc' := 140) rfl rfl ?_
        refine g_goto X at_140 (pc' := 144) (by decide) (by decide) ?_
        refine g_ireturnN X (t := .boolean) (by simp) at_144 hret hlk (by decide) (by decide) ?_
        exact ⟨rfl, N⟩
      · skip
        refine g_ifY X at_66 ((if0 _ _).trans (feq hc66_19).2) (pc' := 77) (by decide) (by decide) ?_
        refine g_iload X at_77 (pc' := 79) rfl rfl ?_
        refine g_iconst X (1 : Int32) at_79 (pc' := 80) rfl rfl ?_
        by_cases hc80_21 : v62_18 = (1 : Int32)
        · skip
          refine g_icN X at_80 (teq hc80_21).2 (pc' := 83) rfl ?_
          refine g_getstatic X (host := "") (Or.inl (tb hw 33 rfl)) Via.refl S_EXIT at_83 (pc' := 86) rfl ?_
          intro T X
          refine g_astore X at_86 (pc' := 88) (Ls' := #[.val (.long j0), .second, .val (.int i1), .val (.int i2), .val (.int i3), .val (.int i4), .val (.int i5), .val (.int (1 : Int32)), .val (.ref b7_15), .val (.int v62_18), .val (.ref eEXIT), .unset]) rfl rfl rfl ?_
          refine g_goto X at_88 (pc' := 110) (by decide) (by decide) ?_
          refine g_new X (tb hw 4 rfl) (tb hw 5 rfl) (tb hw 6 rfl) at_110 (pc' := 113) rfl (by decide) (by decide) ?_
          intro T h b110_22 s_b110_22 X Ex E_b110_22 D_b110_22
          have ne_eENTER_b110_22 : eENTER ≠ b110_22 := Nat.ne_of_lt (by rw [s_b110_22]; exact E_eENTER.lt)
          have ne_eEXIT_b110_22 : eEXIT ≠ b110_22 := Nat.ne_of_lt (by rw [s_b110_22]; exact E_eEXIT.lt)
          have ne_eDELIVER_b110_22 : eDELIVER ≠ b110_22 := Nat.ne_of_lt (by rw [s_b110_22]; exact E_eDELIVER.lt)
          have ne_eLEADER_b110_22 : eLEADER ≠ b110_22 := Nat.ne_of_lt (by rw [s_b110_22]; exact E_eLEADER.lt)
          have ne_b7_15_b110_22 : b7_15 ≠ b110_22 := Nat.ne_of_lt (by rw [s_b110_22]; exact E_b7_15.lt)
          have g_b110_22 : n0 ≤ b110_22 := by rw [s_b110_22]; exact Z0
          replace E_eENTER := E_eENTER.ext Ex
          replace E_eEXIT := E_eEXIT.ext Ex
          replace E_eDELIVER := E_eDELIVER.ext Ex
          replace E_eLEADER := E_eLEADER.ext Ex
          replace E_b7_15 := E_b7_15.ext Ex
          replace V_b7_15 := V_b7_15.ext Ex
          replace S_ENTER := S_ENTER.ext Ex
          replace S_EXIT := S_EXIT.ext Ex
          replace S_DELIVER := S_DELIVER.ext Ex
          replace S_LEADER := S_LEADER.ext Ex
          replace Z0 := Nat.le_trans Z0 Ex.1
          have F_b110_22_time : Fld Z h b110_22 "com/example/ratatoskr/ratatoskr/simulator/TraceEvent" "time" "J" (.long (0 : Int64)) := D_b110_22 (Or.inr (tb hw 17 rfl)) (ty := .long) (by decide)
          have F_b110_22_member : Fld Z h b110_22 "com/example/ratatoskr/ratatoskr/simulator/TraceEvent" "member" "I" (.int (0 : Int32)) := D_b110_22 (Or.inr (tb hw 19 rfl)) (ty := .int) (by decide)
          have F_b110_22_kind : Fld Z h b110_22 "com/example/ratatoskr/ratatoskr/simulator/TraceEvent" "kind" "Lcom/example/ratatoskr/ratatoskr/simulator/TraceEvent$Kind;" .null := D_b110_22 (Or.inr (tb hw 21 rfl)) (ty := (.object "com/example/ratatoskr/ratatoskr/simulator/TraceEvent$Kind")) (by decide)
          have F_b110_22_other : Fld Z h b110_22 "com/example/ratatoskr/ratatoskr/simulator/TraceEvent" "other" "I" (.int (0 : Int32)) := D_b110_22 (Or.inr (tb hw 23 rfl)) (ty := .int) (by decide)
          have F_b110_22_sequence : Fld Z h b110_22 "com/example/ratatoskr/ratatoskr/simulator/TraceEvent" "sequence" "J" (.long (0 : Int64)) := D_b110_22 (Or.inr (tb hw 25 rfl)) (ty := .long) (by decide)
          have F_b110_22_message : Fld Z h b110_22 "com/example/ratatoskr/ratatoskr/simulator/TraceEvent" "message" "[B" .null := D_b110_22 (Or.inr (tb hw 27 rfl)) (ty := (.array .byte)) (by decide)
          refine g_dup X at_113 (pc' := 114) rfl rfl ?_
          refine g_lloadN X at_114 (pc' := 115) rfl rfl ?_
          refine g_iloadN X at_115 (pc' := 116) rfl rfl ?_
          refine g_aload X at_116 (pc' := 118) rfl rfl rfl ?_
          refine g_special X (W := 1) (a := b110_22) [(.long j0), (.int i1), (.ref eEXIT)] [(.ref b110_22)] rfl (tb hw 7 rfl) (tb hw 8 rfl) (tb hw 6 rfl) (tb hw 9 rfl) (rC3 l Z aa hw [] b110_22 j0 i1 eEXIT _ n0 Z0 E_b110_22 F_b110_22_time F_b110_22_member F_b110_22_kind F_b110_22_other F_b110_22_sequence F_b110_22_message g_b110_22) at_118 (pc' := 121) rfl (by decide) (by decide) (by decide) rfl rfl rfl (lenOf pd_1 rfl) (Nat.le_refl _) (by decide) (by decide) ?_
          intro v T L X q
          obtain ⟨rfl, Nq, Kq, E_b110_22', F_b110_22_time', F_b110_22_member', F_b110_22_kind', F_b110_22_other', F_b110_22_sequence', F_b110_22_message'⟩ := q
          replace N := N.app Nq
          replace E_eENTER := E_eENTER.keep Kq
          replace E_eEXIT := E_eEXIT.keep Kq
          replace E_eDELIVER := E_eDELIVER.keep Kq
          replace E_eLEADER := E_eLEADER.keep Kq
          replace E_b7_15 := E_b7_15.keep Kq
          replace V_b7_15 := V_b7_15.keep Kq (ninS ne_b7_15_b110_22 nin0)
          replace Z0 := Nat.le_trans Z0 Kq.1
          replace E_b110_22 := E_b110_22'
          replace F_b110_22_time := F_b110_22_time'
          replace F_b110_22_member := F_b110_22_member'
          replace F_b110_22_kind := F_b110_22_kind'
          replace F_b110_22_other := F_b110_22_other'
          replace F_b110_22_sequence := F_b110_22_sequence'
          replace F_b110_22_message := F_b110_22_message'
          show Go p e below _ (T.setTop (mkF m 121 #[.val (.long j0), .second, .val (.int i1), .val (.int i2), .val (.int i3), .val (.int i4), .val (.int i5), .val (.int (1 : Int32)), .val (.ref b7_15), .val (.int v62_18), .val (.ref eEXIT), .unset] [(.ref b110_22)]))
          refine g_astore X at_121 (pc' := 123) (Ls' := #[.val (.long j0), .second, .val (.int i1), .val (.int i2), .val (.int i3), .val (.int i4), .val (.int i5), .val (.int (1 : Int32)), .val (.ref b7_15), .val (.int v62_18), .val (.ref eEXIT), .val (.ref b110_22)]) rfl rfl rfl ?_
          refine g_aload X at_123 (pc' := 125) rfl rfl rfl ?_
          refine g_virtual X (W := 0) (a := b110_22) (C := "com/example/ratatoskr/ratatoskr/simulator/TraceEvent") [] [] E_b110_22 (tb hw 28 rfl) (tb hw 29 rfl) (tb hw 31 rfl) (tb hw 30 rfl) (tb hw 6 rfl) (tb hw 32 rfl) (rGn l Z aa hw [] b110_22 _ E_b110_22 F_b110_22_message) at_125 (pc' := 128) rfl (by decide) (by decide) (by decide) rfl rfl rfl (lenOf pd_2 rfl) (Nat.le_refl _) (by decide) (by decide) ?_
          intro v T L X q
          obtain ⟨rfl, X⟩ := pureX X q
          show Go p e below _ (T.setTop (mkF m 128 #[.val (.long j0), .second, .val (.int i1), .val (.int i2), .val (.int i3), .val (.int i4), .val (.int i5), .val (.int (1 : Int32)), .val (.ref b7_15), .val (.int v62_18), .val (.ref eEXIT), .val (.ref b110_22)] [.null]))
          refine g_nonnullN X at_128 (pc' := 131) rfl ?_
          refine g_aload X at_131 (pc' := 133) rfl rfl rfl ?_
          refine g_virtual X (W := 0) (a := b110_22) (C := "com/example/ratatoskr/ratatoskr/simulator/TraceEvent") [] [] E_b110_22 (tb hw 28 rfl) (tb hw 29 rfl) (tb hw 31 rfl) (tb hw 30 rfl) (tb hw 6 rfl) (tb hw 32 rfl) (rGn l Z aa hw [] b110_22 _ E_b110_22 F_b110_22_message) at_133 (pc' := 136) rfl (by decide) (by decide) (by decide) rfl rfl rfl (lenOf pd_2 rfl) (Nat.le_refl _) (by decide) (by decide) ?_
          intro v T L X q
          obtain ⟨rfl, X⟩ := pureX X q
          show Go p e below _ (T.setTop (mkF m 136 #[.val (.long j0), .second, .val (.int i1), .val (.int i2), .val (.int i3), .val (.int i4), .val (.int i5), .val (.int (1 : Int32)), .val (.ref b7_15), .val (.int v62_18), .val (.ref eEXIT), .val (.ref b110_22)] [.null]))
          refine g_nonnullN X at_136 (pc' := 139) rfl ?_
          refine g_iconst X (1 : Int32) at_139 (pc' := 140) rfl rfl ?_
          refine g_goto X at_140 (pc' := 144) (by decide) (by decide) ?_
          refine g_ireturnN X (t := .boolean) (by simp) at_144 hret hlk (by decide) (by decide) ?_
          exact ⟨rfl, N⟩
        · skip
          refine g_icY X at_80 (feq hc80_21).2 (pc' := 91) (by decide) (by decide) ?_
          refine g_iload X at_91 (pc' := 93) rfl rfl ?_
          refine g_iconst X (2 : Int32) at_93 (pc' := 94) rfl rfl ?_
          by_cases hc94_23 : v62_18 = (2 : Int32)
          · skip
            refine g_icN X at_94 (teq hc94_23).2 (pc' := 97) rfl ?_
            refine g_getstatic X (host := "") (Or.inl (tb hw 53 rfl)) Via.refl S_LEADER at_97 (pc' := 100) rfl ?_
            intro T X
            refine g_astore X at_100 (pc' := 102) (Ls' := #[.val (.long j0), .second, .val (.int i1), .val (.int i2), .val (.int i3), .val (.int i4), .val (.int i5), .val (.int (1 : Int32)), .val (.ref b7_15), .val (.int v62_18), .val (.ref eLEADER), .unset]) rfl rfl rfl ?_
            refine g_goto X at_102 (pc' := 110) (by decide) (by decide) ?_
            refine g_new X (tb hw 4 rfl) (tb hw 5 rfl) (tb hw 6 rfl) at_110 (pc' := 113) rfl (by decide) (by decide) ?_
            intro T h b110_24 s_b110_24 X Ex E_b110_24 D_b110_24
            have ne_eENTER_b110_24 : eENTER ≠ b110_24 := Nat.ne_of_lt (by rw [s_b110_24]; exact E_eENTER.lt)
            have ne_eEXIT_b110_24 : eEXIT ≠ b110_24 := Nat.ne_of_lt (by rw [s_b110_24]; exact E_eEXIT.lt)
            have ne_eDELIVER_b110_24 : eDELIVER ≠ b110_24 := Nat.ne_of_lt (by rw [s_b110_24]; exact E_eDELIVER.lt)
            have ne_eLEADER_b110_24 : eLEADER ≠ b110_24 := Nat.ne_of_lt (by rw [s_b110_24]; exact E_eLEADER.lt)
            have ne_b7_15_b110_24 : b7_15 ≠ b110_24 := Nat.ne_of_lt (by rw [s_b110_24]; exact E_b7_15.lt)
            have g_b110_24 : n0 ≤ b110_24 := by rw [s_b110_24]; exact Z0
            replace E_eENTER := E_eENTER.ext Ex
            replace E_eEXIT := E_eEXIT.ext Ex
            replace E_eDELIVER := E_eDELIVER.ext Ex
            replace E_eLEADER := E_eLEADER.ext Ex
            replace E_b7_15 := E_b7_15.ext Ex
            replace V_b7_15 := V_b7_15.ext Ex
            replace S_ENTER := S_ENTER.ext Ex
            replace S_EXIT := S_EXIT.ext Ex
            replace S_DELIVER := S_DELIVER.ext Ex
            replace S_LEADER := S_LEADER.ext Ex
            replace Z0 := Nat.le_trans Z0 Ex.1
            have F_b110_24_time : Fld Z h b110_24 "com/example/ratatoskr/ratatoskr/simulator/TraceEvent" "time" "J" (.long (0 : Int64)) := D_b110_24 (Or.inr (tb hw 17 rfl)) (ty := .long) (by decide)
            have F_b110_24_member : Fld Z h b110_24 "com/example/ratatoskr/ratatoskr/simulator/TraceEvent" "member" "I" (.int (0 : Int32)) := D_b110_24 (Or.inr (tb hw 19 rfl)) (ty := .int) (by decide)
            have F_b110_24_kind : Fld Z h b110_24 "com/example/ratatoskr/ratatoskr/simulator/TraceEvent" "kind" "Lcom/example/ratatoskr/ratatoskr/simulator/TraceEvent$Kind;" .null := D_b110_24 (Or.inr (tb hw 21 rfl)) (ty := (.object "com/example/ratatoskr/ratatoskr/simulator/TraceEvent$Kind")) (by decide)
            have F_b110_24_other : Fld Z h b110_24 "com/example/ratatoskr/ratatoskr/simulator/TraceEvent" "other" "I" (.int (0 : Int32)) := D_b110_24 (Or.inr (tb hw 23 rfl)) (ty := .int) (by decide)
            have F_b110_24_sequence : Fld Z h b110_24 "com/example/ratatoskr/ratatoskr/simulator/TraceEvent" "sequence" "J" (.long (0 : Int64)) := D_b110_24 (Or.inr (tb hw 25 rfl)) (ty := .long) (by decide)
            have F_b110_24_message : Fld Z h b110_24 "com/example/ratatoskr/ratatoskr/simulator/TraceEvent" "message" "[B" .null := D_b110_24 (Or.inr (tb hw 27 rfl)) (ty := (.array .byte)) (by decide)
            refine g_dup X at_113 (pc' := 114) rfl rfl ?_
            refine g_lloadN X at_114 (pc' := 115) rfl rfl ?_
            refine g_iloadN X at_115 (pc' := 116) rfl rfl ?_
            refine g_aload X at_116 (pc' := 118) rfl rfl rfl ?_
            refine g_special X (W := 1) (a := b110_24) [(.long j0), (.int i1), (.ref eLEADER)] [(.ref b110_24)] rfl (tb hw 7 rfl) (tb hw 8 rfl) (tb hw 6 rfl) (tb hw 9 rfl) (rC3 l Z aa hw [] b110_24 j0 i1 eLEADER _ n0 Z0 E_b110_24 F_b110_24_time F_b110_24_member F_b110_24_kind F_b110_24_other F_b110_24_sequence F_b110_24_message g_b110_24) at_118 (pc' := 121) rfl (by decide) (by decide) (by decide) rfl rfl rfl (lenOf pd_1 rfl) (Nat.le_refl _) (by decide) (by decide) ?_
            intro v T L X q
            obtain ⟨rfl, Nq, Kq, E_b110_24', F_b110_24_time', F_b110_24_member', F_b110_24_kind', F_b110_24_other', F_b110_24_sequence', F_b110_24_message'⟩ := q
            replace N := N.app Nq
            replace E_eENTER := E_eENTER.keep Kq
            replace E_eEXIT := E_eEXIT.keep Kq
            replace E_eDELIVER := E_eDELIVER.keep Kq
            replace E_eLEADER := E_eLEADER.keep Kq
            replace E_b7_15 := E_b7_15.keep Kq
            replace V_b7_15 := V_b7_15.keep Kq (ninS ne_b7_15_b110_24 nin0)
            replace Z0 := Nat.le_trans Z0 Kq.1
            replace E_b110_24 := E_b110_24'
            replace F_b110_24_time := F_b110_24_time'
            replace F_b110_24_member := F_b110_24_member'
            replace F_b110_24_kind := F_b110_24_kind'
            replace F_b110_24_other := F_b110_24_other'
            replace F_b110_24_sequence := F_b110_24_sequence'
            replace F_b110_24_message := F_b110_24_message'
            show Go p e below _ (T.setTop (mkF m 121 #[.val (.long j0), .second, .val (.int i1), .val (.int i2), .val (.int i3), .val (.int i4), .val (.int i5), .val (.int (1 : Int32)), .val (.ref b7_15), .val (.int v62_18), .val (.ref eLEADER), .unset] [(.ref b110_24)]))
            refine g_astore X at_121 (pc' := 123) (Ls' := #[.val (.long j0), .second, .val (.int i1), .val (.int i2), .val (.int i3), .val (.int i4), .val (.int i5), .val (.int (1 : Int32)), .val (.ref b7_15), .val (.int v62_18), .val (.ref eLEADER), .val (.ref b110_24)]) rfl rfl rfl ?_
            refine g_aload X at_123 (pc' := 125) rfl rfl rfl ?_
            refine g_virtual X (W := 0) (a := b110_24) (C := "com/example/ratatoskr/ratatoskr/simulator/TraceEvent") [] [] E_b110_24 (tb hw 28 rfl) (tb hw 29 rfl) (tb hw 31 rfl) (tb hw 30 rfl) (tb hw 6 rfl) (tb hw 32 rfl) (rGn l Z aa hw [] b110_24 _ E_b110_24 F_b110_24_message) at_125 (pc' := 128) rfl (by decide) (by decide) (by decide) rfl rfl rfl (lenOf pd_2 rfl) (Nat.le_refl _) (by decide) (by decide) ?_
            intro v T L X q
            obtain ⟨rfl, X⟩ := pureX X q
            show Go p e below _ (T.setTop (mkF m 128 #[.val (.long j0), .second, .val (.int i1), .val (.int i2), .val (.int i3), .val (.int i4), .val (.int i5), .val (.int (1 : Int32)), .val (.ref b7_15), .val (.int v62_18), .val (.ref eLEADER), .val (.ref b110_24)] [.null]))
            refine g_nonnullN X at_128 (pc' := 131) rfl ?_
            refine g_aload X at_131 (pc' := 133) rfl rfl rfl ?_
            refine g_virtual X (W := 0) (a := b110_24) (C := "com/example/ratatoskr/ratatoskr/simulator/TraceEvent") [] [] E_b110_24 (tb hw 28 rfl) (tb hw 29 rfl) (tb hw 31 rfl) (tb hw 30 rfl) (tb hw 6 rfl) (tb hw 32 rfl) (rGn l Z aa hw [] b110_24 _ E_b110_24 F_b110_24_message) at_133 (pc' := 136) rfl (by decide) (by decide) (by decide) rfl rfl rfl (lenOf pd_2 rfl) (Nat.le_refl _) (by decide) (by decide) ?_
            intro v T L X q
            obtain ⟨rfl, X⟩ := pureX X q
            show Go p e below _ (T.setTop (mkF m 136 #[.val (.long j0), .second, .val (.int i1), .val (.int i2), .val (.int i3), .val (.int i4), .val (.int i5), .val (.int (1 : Int32)), .val (.ref b7_15), .val (.int v62_18), .val (.ref eLEADER), .val (.ref b110_24)] [.null]))
            refine g_nonnullN X at_136 (pc' := 139) rfl ?_
            refine g_iconst X (1 : Int32) at_139 (pc' := 140) rfl rfl ?_
            refine g_goto X at_140 (pc' := 144) (by decide) (by decide) ?_
            refine g_ireturnN X (t := .boolean) (by simp) at_144 hret hlk (by decide) (by decide) ?_
            exact ⟨rfl, N⟩
          · skip
            refine g_icY X at_94 (feq hc94_23).2 (pc' := 105) (by decide) (by decide) ?_
            refine g_getstatic X (host := "") (Or.inl (tb hw 55 rfl)) Via.refl S_DELIVER at_105 (pc' := 108) rfl ?_
            intro T X
            refine g_astore X at_108 (pc' := 110) (Ls' := #[.val (.long j0), .second, .val (.int i1), .val (.int i2), .val (.int i3), .val (.int i4), .val (.int i5), .val (.int (1 : Int32)), .val (.ref b7_15), .val (.int v62_18), .val (.ref eDELIVER), .unset]) rfl rfl rfl ?_
            refine g_new X (tb hw 4 rfl) (tb hw 5 rfl) (tb hw 6 rfl) at_110 (pc' := 113) rfl (by decide) (by decide) ?_
            intro T h b110_25 s_b110_25 X Ex E_b110_25 D_b110_25
            have ne_eENTER_b110_25 : eENTER ≠ b110_25 := Nat.ne_of_lt (by rw [s_b110_25]; exact E_eENTER.lt)
            have ne_eEXIT_b110_25 : eEXIT ≠ b110_25 := Nat.ne_of_lt (by rw [s_b110_25]; exact E_eEXIT.lt)
            have ne_eDELIVER_b110_25 : eDELIVER ≠ b110_25 := Nat.ne_of_lt (by rw [s_b110_25]; exact E_eDELIVER.lt)
            have ne_eLEADER_b110_25 : eLEADER ≠ b110_25 := Nat.ne_of_lt (by rw [s_b110_25]; exact E_eLEADER.lt)
            have ne_b7_15_b110_25 : b7_15 ≠ b110_25 := Nat.ne_of_lt (by rw [s_b110_25]; exact E_b7_15.lt)
            have g_b110_25 : n0 ≤ b110_25 := by rw [s_b110_25]; exact Z0
            replace E_eENTER := E_eENTER.ext Ex
            replace E_eEXIT := E_eEXIT.ext Ex
            replace E_eDELIVER := E_eDELIVER.ext Ex
            replace E_eLEADER := E_eLEADER.ext Ex
            replace E_b7_15 := E_b7_15.ext Ex
            replace V_b7_15 := V_b7_15.ext Ex
            replace S_ENTER := S_ENTER.ext Ex
            replace S_EXIT := S_EXIT.ext Ex
            replace S_DELIVER := S_DELIVER.ext Ex
            replace S_LEADER := S_LEADER.ext Ex
            replace Z0 := Nat.le_trans Z0 Ex.1
            have F_b110_25_time : Fld Z h b110_25 "com/example/ratatoskr/ratatoskr/simulator/TraceEvent" "time" "J" (.long (0 : Int64)) := D_b110_25 (Or.inr (tb hw 17 rfl)) (ty := .long) (by decide)
            have F_b110_25_member : Fld Z h b110_25 "com/example/ratatoskr/ratatoskr/simulator/TraceEvent" "member" "I" (.int (0 : Int32)) := D_b110_25 (Or.inr (tb hw 19 rfl)) (ty := .int) (by decide)
            have F_b110_25_kind : Fld Z h b110_25 "com/example/ratatoskr/ratatoskr/simulator/TraceEvent" "kind" "Lcom/example/ratatoskr/ratatoskr/simulator/TraceEvent$Kind;" .null := D_b110_25 (Or.inr (tb hw 21 rfl)) (ty := (.object "com/example/ratatoskr/ratatoskr/simulator/TraceEvent$Kind")) (by decide)
            have F_b110_25_other : Fld Z h b110_25 "com/example/ratatoskr/ratatoskr/simulator/TraceEvent" "other" "I" (.int (0 : Int32)) := D_b110_25 (Or.inr (tb hw 23 rfl)) (ty := .int) (by decide)
            have F_b110_25_sequence : Fld Z h b110_25 "com/example/ratatoskr/ratatoskr/simulator/TraceEvent" "sequence" "J" (.long (0 : Int64)) := D_b110_25 (Or.inr (tb hw 25 rfl)) (ty := .long) (by decide)
            have F_b110_25_message : Fld Z h b110_25 "com/example/ratatoskr/ratatoskr/simulator/TraceEvent" "message" "[B" .null := D_b110_25 (Or.inr (tb hw 27 rfl)) (ty := (.array .byte)) (by decide)
            refine g_dup X at_113 (pc' := 114) rfl rfl ?_
            refine g_lloadN X at_114 (pc' := 115) rfl rfl ?_
            refine g_iloadN X at_115 (pc' := 116) rfl rfl ?_
            refine g_aload X at_116 (pc' := 118) rfl rfl rfl ?_
            refine g_special X (W := 1) (a := b110_25) [(.long j0), (.int i1), (.ref eDELIVER)] [(.ref b110_25)] rfl (tb hw 7 rfl) (tb hw 8 rfl) (tb hw 6 rfl) (tb hw 9 rfl) (rC3 l Z aa hw [] b110_25 j0 i1 eDELIVER _ n0 Z0 E_b110_25 F_b110_25_time F_b110_25_member F_b110_25_kind F_b110_25_other F_b110_25_sequence F_b110_25_message g_b110_25) at_118 (pc' := 121) rfl (by decide) (by decide) (by decide) rfl rfl rfl (lenOf pd_1 rfl) (Nat.le_refl _) (by decide) (by decide) ?_
            intro v T L X q
            obtain ⟨rfl, Nq, Kq, E_b110_25', F_b110_25_time', F_b110_25_member', F_b110_25_kind', F_b110_25_other', F_b110_25_sequence', F_b110_25_message'⟩ := q
            replace N := N.app Nq
            replace E_eENTER := E_eENTER.keep Kq
            replace E_eEXIT := E_eEXIT.keep Kq
            replace E_eDELIVER := E_eDELIVER.keep Kq
            replace E_eLEADER := E_eLEADER.keep Kq
            replace E_b7_15 := E_b7_15.keep Kq
            replace V_b7_15 := V_b7_15.keep Kq (ninS ne_b7_15_b110_25 nin0)
            replace Z0 := Nat.le_trans Z0 Kq.1
            replace E_b110_25 := E_b110_25'
            replace F_b110_25_time := F_b110_25_time'
            replace F_b110_25_member := F_b110_25_member'
            replace F_b110_25_kind := F_b110_25_kind'
            replace F_b110_25_other := F_b110_25_other'
            replace F_b110_25_sequence := F_b110_25_sequence'
            replace F_b110_25_message := F_b110_25_message'
            show Go p e below _ (T.setTop (mkF m 121 #[.val (.long j0), .second, .val (.int i1), .val (.int i2), .val (.int i3), .val (.int i4), .val (.int i5), .val (.int (1 : Int32)), .val (.ref b7_15), .val (.int v62_18), .val (.ref eDELIVER), .unset] [(.ref b110_25)]))
            refine g_astore X at_121 (pc' := 123) (Ls' := #[.val (.long j0), .second, .val (.int i1), .val (.int i2), .val (.int i3), .val (.int i4), .val (.int i5), .val (.int (1 : Int32)), .val (.ref b7_15), .val (.int v62_18), .val (.ref eDELIVER), .val (.ref b110_25)]) rfl rfl rfl ?_
            refine g_aload X at_123 (pc' := 125) rfl rfl rfl ?_
            refine g_virtual X (W := 0) (a := b110_25) (C := "com/example/ratatoskr/ratatoskr/simulator/TraceEvent") [] [] E_b110_25 (tb hw 28 rfl) (tb hw 29 rfl) (tb hw 31 rfl) (tb hw 30 rfl) (tb hw 6 rfl) (tb hw 32 rfl) (rGn l Z aa hw [] b110_25 _ E_b110_25 F_b110_25_message) at_125 (pc' := 128) rfl (by decide) (by decide) (by decide) rfl rfl rfl (lenOf pd_2 rfl) (Nat.le_refl _) (by decide) (by decide) ?_
            intro v T L X q
            obtain ⟨rfl, X⟩ := pureX X q
            show Go p e below _ (T.setTop (mkF m 128 #[.val (.long j0), .second, .val (.int i1), .val (.int i2), .val (.int i3), .val (.int i4), .val (.int i5), .val (.int (1 : Int32)), .val (.ref b7_15), .val (.int v62_18), .val (.ref eDELIVER), .val (.ref b110_25)] [.null]))
            refine g_nonnullN X at_128 (pc' := 131) rfl ?_
            refine g_aload X at_131 (pc' := 133) rfl rfl rfl ?_
            refine g_virtual X (W := 0) (a := b110_25) (C := "com/example/ratatoskr/ratatoskr/simulator/TraceEvent") [] [] E_b110_25 (tb hw 28 rfl) (tb hw 29 rfl) (tb hw 31 rfl) (tb hw 30 rfl) (tb hw 6 rfl) (tb hw 32 rfl) (rGn l Z aa hw [] b110_25 _ E_b110_25 F_b110_25_message) at_133 (pc' := 136) rfl (by decide) (by decide) (by decide) rfl rfl rfl (lenOf pd_2 rfl) (Nat.le_refl _) (by decide) (by decide) ?_
            intro v T L X q
            obtain ⟨rfl, X⟩ := pureX X q
            show Go p e below _ (T.setTop (mkF m 136 #[.val (.long j0), .second, .val (.int i1), .val (.int i2), .val (.int i3), .val (.int i4), .val (.int i5), .val (.int (1 : Int32)), .val (.ref b7_15), .val (.int v62_18), .val (.ref eDELIVER), .val (.ref b110_25)] [.null]))
            refine g_nonnullN X at_136 (pc' := 139) rfl ?_
            refine g_iconst X (1 : Int32) at_139 (pc' := 140) rfl rfl ?_
            refine g_goto X at_140 (pc' := 144) (by decide) (by decide) ?_
            refine g_ireturnN X (t := .boolean) (by simp) at_144 hret hlk (by decide) (by decide) ?_
            exact ⟨rfl, N⟩
    · skip
      refine g_ifY X at_54 ((if0 _ _).trans (feq hc54_17).2) (pc' := 145) (by decide) (by decide) ?_
      refine g_new X (tb hw 4 rfl) (tb hw 5 rfl) (tb hw 6 rfl) at_145 (pc' := 148) rfl (by decide) (by decide) ?_
      intro T h b145_26 s_b145_26 X Ex E_b145_26 D_b145_26
      have ne_eENTER_b145_26 : eENTER ≠ b145_26 := Nat.ne_of_lt (by rw [s_b145_26]; exact E_eENTER.lt)
      have ne_eEXIT_b145_26 : eEXIT ≠ b145_26 := Nat.ne_of_lt (by rw [s_b145_26]; exact E_eEXIT.lt)
      have ne_eDELIVER_b145_26 : eDELIVER ≠ b145_26 := Nat.ne_of_lt (by rw [s_b145_26]; exact E_eDELIVER.lt)
      have ne_eLEADER_b145_26 : eLEADER ≠ b145_26 := Nat.ne_of_lt (by rw [s_b145_26]; exact E_eLEADER.lt)
      have ne_b7_15_b145_26 : b7_15 ≠ b145_26 := Nat.ne_of_lt (by rw [s_b145_26]; exact E_b7_15.lt)
      have g_b145_26 : n0 ≤ b145_26 := by rw [s_b145_26]; exact Z0
      replace E_eENTER := E_eENTER.ext Ex
      replace E_eEXIT := E_eEXIT.ext Ex
      replace E_eDELIVER := E_eDELIVER.ext Ex
      replace E_eLEADER := E_eLEADER.ext Ex
      replace E_b7_15 := E_b7_15.ext Ex
      replace V_b7_15 := V_b7_15.ext Ex
      replace S_ENTER := S_ENTER.ext Ex
      replace S_EXIT := S_EXIT.ext Ex
      replace S_DELIVER := S_DELIVER.ext Ex
      replace S_LEADER := S_LEADER.ext Ex
      replace Z0 := Nat.le_trans Z0 Ex.1
      have F_b145_26_time : Fld Z h b145_26 "com/example/ratatoskr/ratatoskr/simulator/TraceEvent" "time" "J" (.long (0 : Int64)) := D_b145_26 (Or.inr (tb hw 17 rfl)) (ty := .long) (by decide)
      have F_b145_26_member : Fld Z h b145_26 "com/example/ratatoskr/ratatoskr/simulator/TraceEvent" "member" "I" (.int (0 : Int32)) := D_b145_26 (Or.inr (tb hw 19 rfl)) (ty := .int) (by decide)
      have F_b145_26_kind : Fld Z h b145_26 "com/example/ratatoskr/ratatoskr/simulator/TraceEvent" "kind" "Lcom/example/ratatoskr/ratatoskr/simulator/TraceEvent$Kind;" .null := D_b145_26 (Or.inr (tb hw 21 rfl)) (ty := (.object "com/example/ratatoskr/ratatoskr/simulator/TraceEvent$Kind")) (by decide)
      have F_b145_26_other : Fld Z h b145_26 "com/example/ratatoskr/ratatoskr/simulator/TraceEvent" "other" "I" (.int (0 : Int32)) := D_b145_26 (Or.inr (tb hw 23 rfl)) (ty := .int) (by decide)
      have F_b145_26_sequence : Fld Z h b145_26 "com/example/ratatoskr/ratatoskr/simulator/TraceEvent" "sequence" "J" (.long (0 : Int64)) := D_b145_26 (Or.inr (tb hw 25 rfl)) (ty := .long) (by decide)
      have F_b145_26_message : Fld Z h b145_26 "com/example/ratatoskr/ratatoskr/simulator/TraceEvent" "message" "[B" .null := D_b145_26 (Or.inr (tb hw 27 rfl)) (ty := (.array .byte)) (by decide)
      refine g_dup X at_148 (pc' := 149) rfl rfl ?_
      refine g_lloadN X at_149 (pc' := 150) rfl rfl ?_
      refine g_iloadN X at_150 (pc' := 151) rfl rfl ?_
      refine g_iloadN X at_151 (pc' := 152) rfl rfl ?_
      refine g_iloadN X at_152 (pc' := 153) rfl rfl ?_
      refine g_ixor X at_153 (pc' := 154) rfl ?_
      refine g_lloadN X at_154 (pc' := 155) rfl rfl ?_
      refine g_aload X at_155 (pc' := 157) rfl rfl rfl ?_
      refine g_special X (W := 1) (a := b145_26) [(.long j0), (.int i1), (.int (i1 ^^^ i2)), (.long j0), (.ref b7_15)] [(.ref b145_26)] rfl (tb hw 35 rfl) (tb hw 36 rfl) (tb hw 6 rfl) (tb hw 37 rfl) (rC5 l Z aa hw [] b145_26 j0 i1 (i1 ^^^ i2) j0 b7_15 eDELIVER _ n0 Z0 E_b145_26 F_b145_26_time F_b145_26_member F_b145_26_kind F_b145_26_other F_b145_26_sequence F_b145_26_message g_b145_26 S_DELIVER) at_157 (pc' := 160) rfl (by decide) (by decide) (by decide) rfl rfl rfl (lenOf pd_3 rfl) (Nat.le_refl _) (by decide) (by decide) ?_
      intro v T L X q
      obtain ⟨rfl, Nq, Kq, E_b145_26', F_b145_26_time', F_b145_26_member', F_b145_26_kind', F_b145_26_other', F_b145_26_sequence', F_b145_26_message'⟩ := q
      replace N := N.app Nq
      replace E_eENTER := E_eENTER.keep Kq
      replace E_eEXIT := E_eEXIT.keep Kq
      replace E_eDELIVER := E_eDELIVER.keep Kq
      replace E_eLEADER := E_eLEADER.keep Kq
      replace E_b7_15 := E_b7_15.keep Kq
      replace V_b7_15 := V_b7_15.keep Kq (ninS ne_b7_15_b145_26 nin0)
      replace Z0 := Nat.le_trans Z0 Kq.1
      replace E_b145_26 := E_b145_26'
      replace F_b145_26_time := F_b145_26_time'
      replace F_b145_26_member := F_b145_26_member'
      replace F_b145_26_kind := F_b145_26_kind'
      replace F_b145_26_other := F_b145_26_other'
      replace F_b145_26_sequence := F_b145_26_sequence'
      replace F_b145_26_message := F_b145_26_message'
      show Go p e below _ (T.setTop (mkF m 160 #[.val (.long j0), .second, .val (.int i1), .val (.int i2), .val (.int i3), .val (.int i4), .val (.int i5), .val (.int (1 : Int32)), .val (.ref b7_15), .unset, .unset, .unset] [(.ref b145_26)]))
      refine g_astore X at_160 (pc' := 162) (Ls' := #[.val (.long j0), .second, .val (.int i1), .val (.int i2), .val (.int i3), .val (.int i4), .val (.int i5), .val (.int (1 : Int32)), .val (.ref b7_15), .val (.ref b145_26), .unset, .unset]) rfl rfl rfl ?_
      refine g_aload X at_162 (pc' := 164) rfl rfl rfl ?_
      refine g_virtual X (W := 0) (a := b145_26) (C := "com/example/ratatoskr/ratatoskr/simulator/TraceEvent") [] [] E_b145_26 (tb hw 28 rfl) (tb hw 29 rfl) (tb hw 31 rfl) (tb hw 30 rfl) (tb hw 6 rfl) (tb hw 32 rfl) (rG1 l Z aa hw [] b145_26 b7_15 (nar .byte v22_16) _ n0 Z0 E_b145_26 F_b145_26_message E_b7_15 V_b7_15 (fits_nar_byte _)) at_164 (pc' := 167) rfl (by decide) (by decide) (by decide) rfl rfl rfl (lenOf pd_2 rfl) (Nat.le_refl _) (by decide) (by decide) ?_
      intro v T L X q
      obtain ⟨b167_27, rfl, Nq, Kq, szq_b167_27, g_b167_27, E_b167_27, V_b167_27⟩ := q
      have ne_eENTER_b167_27 : eENTER ≠ b167_27 := Nat.ne_of_lt (Nat.lt_of_lt_of_le E_eENTER.lt szq_b167_27)
      have ne_eEXIT_b167_27 : eEXIT ≠ b167_27 := Nat.ne_of_lt (Nat.lt_of_lt_of_le E_eEXIT.lt szq_b167_27)
      have ne_eDELIVER_b167_27 : eDELIVER ≠ b167_27 := Nat.ne_of_lt (Nat.lt_of_lt_of_le E_eDELIVER.lt szq_b167_27)
      have ne_eLEADER_b167_27 : eLEADER ≠ b167_27 := Nat.ne_of_lt (Nat.lt_of_lt_of_le E_eLEADER.lt szq_b167_27)
      have ne_b7_15_b167_27 : b7_15 ≠ b167_27 := Nat.ne_of_lt (Nat.lt_of_lt_of_le E_b7_15.lt szq_b167_27)
      have ne_b145_26_b167_27 : b145_26 ≠ b167_27 := Nat.ne_of_lt (Nat.lt_of_lt_of_le E_b145_26.lt szq_b167_27)
      replace N := N.app Nq
      replace E_eENTER := E_eENTER.keep Kq
      replace E_eEXIT := E_eEXIT.keep Kq
      replace E_eDELIVER := E_eDELIVER.keep Kq
      replace E_eLEADER := E_eLEADER.keep Kq
      replace E_b7_15 := E_b7_15.keep Kq
      replace V_b7_15 := V_b7_15.keep Kq nin0
      replace E_b145_26 := E_b145_26.keep Kq
      replace F_b145_26_time := F_b145_26_time.keep Kq nin0
      replace F_b145_26_member := F_b145_26_member.keep Kq nin0
      replace F_b145_26_kind := F_b145_26_kind.keep Kq nin0
      replace F_b145_26_other := F_b145_26_other.keep Kq nin0
      replace F_b145_26_sequence := F_b145_26_sequence.keep Kq nin0
      replace F_b145_26_message := F_b145_26_message.keep Kq nin0
      replace Z0 := Nat.le_trans Z0 Kq.1
      show Go p e below _ (T.setTop (mkF m 167 #[.val (.long j0), .second, .val (.int i1), .val (.int i2), .val (.int i3), .val (.int i4), .val (.int i5), .val (.int (1 : Int32)), .val (.ref b7_15), .val (.ref b145_26), .unset, .unset] [(.ref b167_27)]))
      refine g_astore X at_167 (pc' := 169) (Ls' := #[.val (.long j0), .second, .val (.int i1), .val (.int i2), .val (.int i3), .val (.int i4), .val (.int i5), .val (.int (1 : Int32)), .val (.ref b7_15), .val (.ref b145_26), .val (.ref b167_27), .unset]) rfl rfl rfl ?_
      refine g_aload X at_169 (pc' := 171) rfl rfl rfl ?_
      refine g_nullN X at_171 (pc' := 174) rfl ?_
      refine g_aload X at_174 (pc' := 176) rfl rfl rfl ?_
      refine g_aload X at_176 (pc' := 178) rfl rfl rfl ?_
      refine g_acmp X at_178 (pc' := 181) (same := false) rfl rfl (decide_eq_false fun q => (Ne.symm ne_b7_15_b167_27) (Value.ref.inj q)) (by decide) (by decide) ?_
      refine g_aload X at_181 (pc' := 183) rfl rfl rfl ?_
      refine g_arraylength X V_b167_27 at_183 (pc' := 184) rfl (z := (1 : Int32)) rfl ?_
      refine g_iload X at_184 (pc' := 186) rfl rfl ?_
      refine g_icY X at_186 (teq (show (1 : Int32) = (1 : Int32) from (by decide))).1 (pc' := 191) (by decide) (by decide) ?_
      refine g_aload X at_191 (pc' := 193) rfl rfl rfl ?_
      refine g_iload X at_193 (pc' := 195) rfl rfl ?_
      refine g_iload X at_195 (pc' := 197) rfl rfl ?_
      refine g_iload X at_197 (pc' := 199) rfl rfl ?_
      refine g_iload X at_199 (pc' := 201) rfl rfl ?_
      refine g_static X (W := 0) [(.ref b167_27), (.int (1 : Int32)), (.int i3), (.int i4), (.int i5)] [] (tb hw 49 rfl) (tb hw 50 rfl) (tb hw 51 rfl) (tb hw 52 rfl) (rH1 l Z aa hw [] b167_27 i3 i4 i5 (nar .byte v22_16) _ V_b167_27) at_201 (pc' := 204) rfl (by decide) (by decide) (by decide) rfl rfl rfl (lenOf pd_4 rfl) (Nat.le_refl _) (by decide) (by decide) ?_
      intro v T L X q
      obtain ⟨rfl, X⟩ := pureX X q
      show Go p e below _ (T.setTop (mkF m 204 #[.val (.long j0), .second, .val (.int i1), .val (.int i2), .val (.int i3), .val (.int i4), .val (.int i5), .val (.int (1 : Int32)), .val (.ref b7_15), .val (.ref b145_26), .val (.ref b167_27), .unset] [(.int (b2i (fH1 i3 i4 i5 (nar .byte v22_16))))]))
      refine g_ifY X at_204 ((if0 _ _).trans (feq (bne (show (fH1 i3 i4 i5 (nar .byte v22_16)) = true from (by subst_vars; simp [fH1, nb])))).2) (pc' := 209) (by decide) (by decide) ?_
      refine g_iload X at_209 (pc' := 211) rfl rfl ?_
      refine g_ifN X at_211 ((if0 _ _).trans (tlt (show (0 : Int32) < (1 : Int32) from (by decide))).2.2.2) (pc' := 214) rfl ?_
      refine g_aload X at_214 (pc' := 216) rfl rfl rfl ?_
      refine g_iconst X (0 : Int32) at_216 (pc' := 217) rfl rfl ?_
      refine g_aload X at_217 (pc' := 219) rfl rfl rfl ?_
      refine g_iconst X (0 : Int32) at_219 (pc' := 220) rfl rfl ?_
      refine g_baload X V_b167_27 0 at_220 (pc' := 221) rfl (by decide) (by decide) rfl ?_
      refine g_iconst X (-1 : Int32) at_221 (pc' := 222) rfl rfl ?_
      refine g_ixor X at_222 (pc' := 223) rfl ?_
      refine g_i2b X at_223 (pc' := 224) rfl ?_
      generalize ev224_28 : (((nar .byte v22_16) ^^^ (-1 : Int32)).toInt8.toInt32) = v224_28
      refine g_bastore X V_b167_27 0 at_224 (pc' := 225) rfl (by decide) (by decide) (Nat.le_of_ble_eq_true rfl) ?_
      intro T h X W V_b167_27
      replace V_b167_27 : Av Z h b167_27 .byte [(.int (nar .byte v224_28))] := V_b167_27
      replace E_eENTER := E_eENTER.wr W
      replace E_eEXIT := E_eEXIT.wr W
      replace E_eDELIVER := E_eDELIVER.wr W
      replace E_eLEADER := E_eLEADER.wr W
      replace E_b7_15 := E_b7_15.wr W
      replace V_b7_15 := V_b7_15.other W ne_b7_15_b167_27
      replace E_b145_26 := E_b145_26.wr W
      replace F_b145_26_time := F_b145_26_time.other W (Or.inl ne_b145_26_b167_27)
      replace F_b145_26_member := F_b145_26_member.other W (Or.inl ne_b145_26_b167_27)
      replace F_b145_26_kind := F_b145_26_kind.other W (Or.inl ne_b145_26_b167_27)
      replace F_b145_26_other := F_b145_26_other.other W (Or.inl ne_b145_26_b167_27)
      replace F_b145_26_sequence := F_b145_26_sequence.other W (Or.inl ne_b145_26_b167_27)
      replace F_b145_26_message := F_b145_26_message.other W (Or.inl ne_b145_26_b167_27)
      replace E_b167_27 := E_b167_27.wr W
      replace Z0 := Nat.le_trans Z0 (Nat.le_of_eq W.size.symm)
      replace N := Fr.snoc X.1 N g_b167_27
      refine g_iload X at_225 (pc' := 227) rfl rfl ?_
      refine g_iconst X (1 : Int32) at_227 (pc' := 228) rfl rfl ?_
      refine g_icY X at_228 (flt (show ¬ ((1 : Int32) < (1 : Int32)) from (by decide))).2.2.2 (pc' := 242) (by decide) (by decide) ?_
      refine g_iload X at_242 (pc' := 244) rfl rfl ?_
      refine g_iconst X (2 : Int32) at_244 (pc' := 245) rfl rfl ?_
      refine g_icY X at_245 (flt (show ¬ ((2 : Int32) < (1 : Int32)) from (by decide))).2.2.2 (pc' := 259) (by decide) (by decide) ?_
      refine g_aload X at_259 (pc' := 261) rfl rfl rfl ?_
      refine g_virtual X (W := 0) (a := b145_26) (C := "com/example/ratatoskr/ratatoskr/simulator/TraceEvent") [] [] E_b145_26 (tb hw 28 rfl) (tb hw 29 rfl) (tb hw 31 rfl) (tb hw 30 rfl) (tb hw 6 rfl) (tb hw 32 rfl) (rG1 l Z aa hw [] b145_26 b7_15 (nar .byte v22_16) _ n0 Z0 E_b145_26 F_b145_26_message E_b7_15 V_b7_15 (fits_nar_byte _)) at_261 (pc' := 264) rfl (by decide) (by decide) (by decide) rfl rfl rfl (lenOf pd_2 rfl) (Nat.le_refl _) (by decide) (by decide) ?_
      intro v T L X q
      obtain ⟨b264_29, rfl, Nq, Kq, szq_b264_29, g_b264_29, E_b264_29, V_b264_29⟩ := q
      have ne_eENTER_b264_29 : eENTER ≠ b264_29 := Nat.ne_of_lt (Nat.lt_of_lt_of_le E_eENTER.lt szq_b264_29)
      have ne_eEXIT_b264_29 : eEXIT ≠ b264_29 := Nat.ne_of_lt (Nat.lt_of_lt_of_le E_eEXIT.lt szq_b264_29)
      have ne_eDELIVER_b264_29 : eDELIVER ≠ b264_29 := Nat.ne_of_lt (Nat.lt_of_lt_of_le E_eDELIVER.lt szq_b264_29)
      have ne_eLEADER_b264_29 : eLEADER ≠ b264_29 := Nat.ne_of_lt (Nat.lt_of_lt_of_le E_eLEADER.lt szq_b264_29)
      have ne_b7_15_b264_29 : b7_15 ≠ b264_29 := Nat.ne_of_lt (Nat.lt_of_lt_of_le E_b7_15.lt szq_b264_29)
      have ne_b145_26_b264_29 : b145_26 ≠ b264_29 := Nat.ne_of_lt (Nat.lt_of_lt_of_le E_b145_26.lt szq_b264_29)
      have ne_b167_27_b264_29 : b167_27 ≠ b264_29 := Nat.ne_of_lt (Nat.lt_of_lt_of_le E_b167_27.lt szq_b264_29)
      replace N := N.app Nq
      replace E_eENTER := E_eENTER.keep Kq
      replace E_eEXIT := E_eEXIT.keep Kq
      replace E_eDELIVER := E_eDELIVER.keep Kq
      replace E_eLEADER := E_eLEADER.keep Kq
      replace E_b7_15 := E_b7_15.keep Kq
      replace V_b7_15 := V_b7_15.keep Kq nin0
      replace E_b145_26 := E_b145_26.keep Kq
      replace F_b145_26_time := F_b145_26_time.keep Kq nin0
      replace F_b145_26_member := F_b145_26_member.keep Kq nin0
      replace F_b145_26_kind := F_b145_26_kind.keep Kq nin0
      replace F_b145_26_other := F_b145_26_other.keep Kq nin0
      replace F_b145_26_sequence := F_b145_26_sequence.keep Kq nin0
      replace F_b145_26_message := F_b145_26_message.keep Kq nin0
      replace E_b167_27 := E_b167_27.keep Kq
      replace V_b167_27 := V_b167_27.keep Kq nin0
      replace Z0 := Nat.le_trans Z0 Kq.1
      show Go p e below _ (T.setTop (mkF m 264 #[.val (.long j0), .second, .val (.int i1), .val (.int i2), .val (.int i3), .val (.int i4), .val (.int i5), .val (.int (1 : Int32)), .val (.ref b7_15), .val (.ref b145_26), .val (.ref b167_27), .unset] [(.ref b264_29)]))
      refine g_astore X at_264 (pc' := 266) (Ls' := #[.val (.long j0), .second, .val (.int i1), .val (.int i2), .val (.int i3), .val (.int i4), .val (.int i5), .val (.int (1 : Int32)), .val (.ref b7_15), .val (.ref b145_26), .val (.ref b167_27), .val (.ref b264_29)]) rfl rfl rfl ?_
      refine g_aload X at_266 (pc' := 268) rfl rfl rfl ?_
      refine g_nullN X at_268 (pc' := 271) rfl ?_
      refine g_aload X at_271 (pc' := 273) rfl rfl rfl ?_
      refine g_aload X at_273 (pc' := 275) rfl rfl rfl ?_
      refine g_acmp X at_275 (pc' := 278) (same := false) rfl rfl (decide_eq_false fun q => (Ne.symm ne_b167_27_b264_29) (Value.ref.inj q)) (by decide) (by decide) ?_
      refine g_aload X at_278 (pc' := 280) rfl rfl rfl ?_
      refine g_aload X at_280 (pc' := 282) rfl rfl rfl ?_
      refine g_acmp X at_282 (pc' := 285) (same := false) rfl rfl (decide_eq_false fun q => (Ne.symm ne_b7_15_b264_29) (Value.ref.inj q)) (by decide) (by decide) ?_
      refine g_aload X at_285 (pc' := 287) rfl rfl rfl ?_
      refine g_arraylength X V_b264_29 at_287 (pc' := 288) rfl (z := (1 : Int32)) rfl ?_
      refine g_iload X at_288 (pc' := 290) rfl rfl ?_
      refine g_icY X at_290 (teq (show (1 : Int32) = (1 : Int32) from (by decide))).1 (pc' := 295) (by decide) (by decide) ?_
      refine g_aload X at_295 (pc' := 297) rfl rfl rfl ?_
      refine g_iload X at_297 (pc' := 299) rfl rfl ?_
      refine g_iload X at_299 (pc' := 301) rfl rfl ?_
      refine g_iload X at_301 (pc' := 303) rfl rfl ?_
      refine g_iload X at_303 (pc' := 305) rfl rfl ?_
      refine g_static X (W := 0) [(.ref b264_29), (.int (1 : Int32)), (.int i3), (.int i4), (.int i5)] [] (tb hw 49 rfl) (tb hw 50 rfl) (tb hw 51 rfl) (tb hw 52 rfl) (rH1 l Z aa hw [] b264_29 i3 i4 i5 (nar .byte v22_16) _ V_b264_29) at_305 (pc' := 308) rfl (by decide) (by decide) (by decide) rfl rfl rfl (lenOf pd_4 rfl) (Nat.le_refl _) (by decide) (by decide) ?_
      intro v T L X q
      obtain ⟨rfl, X⟩ := pureX X q
      show Go p e below _ (T.setTop (mkF m 308 #[.val (.long j0), .second, .val (.int i1), .val (.int i2), .val (.int i3), .val (.int i4), .val (.int i5), .val (.int (1 : Int32)), .val (.ref b7_15), .val (.ref b145_26), .val (.ref b167_27), .val (.ref b264_29)] [(.int (b2i (fH1 i3 i4 i5 (nar .byte v22_16))))]))
      refine g_ifN X at_308 ((if0 _ _).trans (feq (bne (show (fH1 i3 i4 i5 (nar .byte v22_16)) = true from (by subst_vars; simp [fH1, nb])))).1) (pc' := 311) rfl ?_
      refine g_aload X at_311 (pc' := 313) rfl rfl rfl ?_
      refine g_iload X at_313 (pc' := 315) rfl rfl ?_
      refine g_iload X at_315 (pc' := 317) rfl rfl ?_
      refine g_iload X at_317 (pc' := 319) rfl rfl ?_
      refine g_iload X at_319 (pc' := 321) rfl rfl ?_
      refine g_static X (W := 0) [(.ref b7_15), (.int (1 : Int32)), (.int i3), (.int i4), (.int i5)] [] (tb hw 49 rfl) (tb hw 50 rfl) (tb hw 51 rfl) (tb hw 52 rfl) (rH1 l Z aa hw [] b7_15 i3 i4 i5 (nar .byte v22_16) _ V_b7_15) at_321 (pc' := 324) rfl (by decide) (by decide) (by decide) rfl rfl rfl (lenOf pd_4 rfl) (Nat.le_refl _) (by decide) (by decide) ?_
      intro v T L X q
      obtain ⟨rfl, X⟩ := pureX X q
      show Go p e below _ (T.setTop (mkF m 324 #[.val (.long j0), .second, .val (.int i1), .val (.int i2), .val (.int i3), .val (.int i4), .val (.int i5), .val (.int (1 : Int32)), .val (.ref b7_15), .val (.ref b145_26), .val (.ref b167_27), .val (.ref b264_29)] [(.int (b2i (fH1 i3 i4 i5 (nar .byte v22_16))))]))
      refine g_ifN X at_324 ((if0 _ _).trans (feq (bne (show (fH1 i3 i4 i5 (nar .byte v22_16)) = true from (by subst_vars; simp [fH1, nb])))).1) (pc' := 327) rfl ?_
      refine g_iconst X (1 : Int32) at_327 (pc' := 328) rfl rfl ?_
      refine g_goto X at_328 (pc' := 332) (by decide) (by decide) ?_
      refine g_ireturnN X (t := .boolean) (by simp) at_332 hret hlk (by decide) (by decide) ?_
      exact ⟨rfl, N⟩
  · subst hs
    show Go p e below _ (T.setTop (mkF m 5 #[.val (.long j0), .second, .val (.int i1), .val (.int i2), .val (.int i3), .val (.int i4), .val (.int i5), .val (.int (2 : Int32)), .unset, .unset, .unset, .unset] []))
    refine g_iload X at_5 (pc' := 7) rfl rfl ?_
    refine g_newarray X 2 (tb hw 0 rfl) at_7 (pc' := 9) rfl (by decide) (by decide) 2 (by decide) (by decide) (by decide) (by decide) (vs := [(.int (0 : Int32)), (.int (0 : Int32))]) rfl (ad := "[B") (by decide) ?_
    intro T h b7_30 s_b7_30 X Ex E_b7_30 V_b7_30
    have ne_eENTER_b7_30 : eENTER ≠ b7_30 := Nat.ne_of_lt (by rw [s_b7_30]; exact E_eENTER.lt)
    have ne_eEXIT_b7_30 : eEXIT ≠ b7_30 := Nat.ne_of_lt (by rw [s_b7_30]; exact E_eEXIT.lt)
    have ne_eDELIVER_b7_30 : eDELIVER ≠ b7_30 := Nat.ne_of_lt (by rw [s_b7_30]; exact E_eDELIVER.lt)
    have ne_eLEADER_b7_30 : eLEADER ≠ b7_30 := Nat.ne_of_lt (by rw [s_b7_30]; exact E_eLEADER.lt)
    have g_b7_30 : n0 ≤ b7_30 := by rw [s_b7_30]; exact Z0
    replace E_eENTER := E_eENTER.ext Ex
    replace E_eEXIT := E_eEXIT.ext Ex
    replace E_eDELIVER := E_eDELIVER.ext Ex
    replace E_eLEADER := E_eLEADER.ext Ex
    replace S_ENTER := S_ENTER.ext Ex
    replace S_EXIT := S_EXIT.ext Ex
    replace S_DELIVER := S_DELIVER.ext Ex
    replace S_LEADER := S_LEADER.ext Ex
    replace Z0 := Nat.le_trans Z0 Ex.1
    refine g_astore X at_9 (pc' := 11) (Ls' := #[.val (.long j0), .second, .val (.int i1), .val (.int i2), .val (.int i3), .val (.int i4), .val (.int i5), .val (.int (2 : Int32)), .val (.ref b7_30), .unset, .unset, .unset]) rfl rfl rfl ?_
    refine g_iload X at_11 (pc' := 13) rfl rfl ?_
    refine g_ifN X at_13 ((if0 _ _).trans (tlt (show (0 : Int32) < (2 : Int32) from (by decide))).2.2.2) (pc' := 16) rfl ?_
    refine g_aload X at_16 (pc' := 18) rfl rfl rfl ?_
    refine g_iconst X (0 : Int32) at_18 (pc' := 19) rfl rfl ?_
    refine g_iload X at_19 (pc' := 21) rfl rfl ?_
    refine g_i2b X at_21 (pc' := 22) rfl ?_
    generalize ev22_31 : (i3.toInt8.toInt32) = v22_31
    refine g_bastore X V_b7_30 0 at_22 (pc' := 23) rfl (by decide) (by decide) (Nat.le_of_ble_eq_true rfl) ?_
    intro T h X W V_b7_30
    replace V_b7_30 : Av Z h b7_30 .byte [(.int (nar .byte v22_31)), (.int (0 : Int32))] := V_b7_30
    replace E_eENTER := E_eENTER.wr W
    replace E_eEXIT := E_eEXIT.wr W
    replace E_eDELIVER := E_eDELIVER.wr W
    replace E_eLEADER := E_eLEADER.wr W
    replace E_b7_30 := E_b7_30.wr W
    replace S_ENTER := S_ENTER.wr W
    replace S_EXIT := S_EXIT.wr W
    replace S_DELIVER := S_DELIVER.wr W
    replace S_LEADER := S_LEADER.wr W
    replace Z0 := Nat.le_trans Z0 (Nat.le_of_eq W.size.symm)
    replace N := Fr.snoc X.1 N g_b7_30
    refine g_iload X at_23 (pc' := 25) rfl rfl ?_
    refine g_iconst X (1 : Int32) at_25 (pc' := 26) rfl rfl ?_
    refine g_icN X at_26 (tlt (show (1 : Int32) < (2 : Int32) from (by decide))).2.2.2 (pc' := 29) rfl ?_
    refine g_aload X at_29 (pc' := 31) rfl rfl rfl ?_
    refine g_iconst X (1 : Int32) at_31 (pc' := 32) rfl rfl ?_
    refine g_iload X at_32 (pc' := 34) rfl rfl ?_
    refine g_i2b X at_34 (pc' := 35) rfl ?_
    generalize ev35_32 : (i4.toInt8.toInt32) = v35_32
    refine g_bastore X V_b7_30 1 at_35 (pc' := 36) rfl (by decide) (by decide) (Nat.le_of_ble_eq_true rfl) ?_
    intro T h X W V_b7_30
    replace V_b7_30 : Av Z h b7_30 .byte [(.int (nar .byte v22_31)), (.int (nar .byte v35_32))] := V_b7_30
    replace E_eENTER := E_eENTER.wr W
    replace E_eEXIT := E_eEXIT.wr W
    replace E_eDELIVER := E_eDELIVER.wr W
    replace E_eLEADER := E_eLEADER.wr W
    replace E_b7_30 := E_b7_30.wr W
    replace S_ENTER := S_ENTER.wr W
    replace S_EXIT := S_EXIT.wr W
    replace S_DELIVER := S_DELIVER.wr W
    replace S_LEADER := S_LEADER.wr W
    replace Z0 := Nat.le_trans Z0 (Nat.le_of_eq W.size.symm)
    replace N := Fr.snoc X.1 N g_b7_30
    refine g_iload X at_36 (pc' := 38) rfl rfl ?_
    refine g_iconst X (2 : Int32) at_38 (pc' := 39) rfl rfl ?_
    refine g_icY X at_39 (flt (show ¬ ((2 : Int32) < (2 : Int32)) from (by decide))).2.2.2 (pc' := 49) (by decide) (by decide) ?_
    refine g_iloadN X at_49 (pc' := 50) rfl rfl ?_
    refine g_iconst X (2 : Int32) at_50 (pc' := 51) rfl rfl ?_
    refine g_iushr X at_51 (pc' := 52) rfl ?_
    refine g_iconst X (1 : Int32) at_52 (pc' := 53) rfl rfl ?_
    refine g_iand X at_53 (pc' := 54) rfl ?_
    by_cases hc54_33 : (((i2.toUInt32 >>> ((2 : Int32) &&& 31).toUInt32).toInt32) &&& (1 : Int32)) = (0 : Int32)
    · skip
      refine g_ifN X at_54 ((if0 _ _).trans (teq hc54_33).2) (pc' := 57) rfl ?_
      refine g_iloadN X at_57 (pc' := 58) rfl rfl ?_
      refine g_iconst X (3 : Int32) at_58 (pc' := 59) rfl rfl ?_
      refine g_iushr X at_59 (pc' := 60) rfl ?_
      refine g_iconst X (3 : Int32) at_60 (pc' := 61) rfl rfl ?_
      refine g_iand X at_61 (pc' := 62) rfl ?_
      generalize ev62_34 : (((i2.toUInt32 >>> ((3 : Int32) &&& 31).toUInt32).toInt32) &&& (3 : Int32)) = v62_34
      refine g_istore X at_62 (pc' := 64) (Ls' := #[.val (.long j0), .second, .val (.int i1), .val (.int i2), .val (.int i3), .val (.int i4), .val (.int i5), .val (.int (2 : Int32)), .val (.ref b7_30), .val (.int v62_34), .unset, .unset]) rfl rfl ?_
      refine g_iload X at_64 (pc' := 66) rfl rfl ?_
      by_cases hc66_35 : v62_34 = (0 : Int32)
      · skip
        refine g_ifN X at_66 ((if0 _ _).trans (teq hc66_35).2) (pc' := 69) rfl ?_
        refine g_getstatic X (host := "") (Or.inl (tb hw 1 rfl)) Via.refl S_ENTER at_69 (pc' := 72) rfl ?_
        intro T X
        refine g_astore X at_72 (pc' := 74) (Ls' := #[.val (.long j0), .second, .val (.int i1), .val (.int i2), .val (.int i3), .val (.int i4), .val (.int i5), .val (.int (2 : Int32)), .val (.ref b7_30), .val (.int v62_34), .val (.ref eENTER), .unset]) rfl rfl rfl ?_
        refine g_goto X at_74 (pc' := 110) (by decide) (by decide) ?_
        refine g_new X (tb hw 4 rfl) (tb hw 5 rfl) (tb hw 6 rfl) at_110 (pc' := 113) rfl (by decide) (by decide) ?_
        intro T h b110_36 s_b110_36 X Ex E_b110_36 D_b110_36
        have ne_eENTER_b110_36 : eENTER ≠ b110_36 := Nat.ne_of_lt (by rw [s_b110_36]; exact E_eENTER.lt)
        have ne_eEXIT_b110_36 : eEXIT ≠ b110_36 := Nat.ne_of_lt (by rw [s_b110_36]; exact E_eEXIT.lt)
        have ne_eDELIVER_b110_36 : eDELIVER ≠ b110_36 := Nat.ne_of_lt (by rw [s_b110_36]; exact E_eDELIVER.lt)
        have ne_eLEADER_b110_36 : eLEADER ≠ b110_36 := Nat.ne_of_lt (by rw [s_b110_36]; exact E_eLEADER.lt)
        have ne_b7_30_b110_36 : b7_30 ≠ b110_36 := Nat.ne_of_lt (by rw [s_b110_36]; exact E_b7_30.lt)
        have g_b110_36 : n0 ≤ b110_36 := by rw [s_b110_36]; exact Z0
        replace E_eENTER := E_eENTER.ext Ex
        replace E_eEXIT := E_eEXIT.ext Ex
        replace E_eDELIVER := E_eDELIVER.ext Ex
        replace E_eLEADER := E_eLEADER.ext Ex
        replace E_b7_30 := E_b7_30.ext Ex
        replace V_b7_30 := V_b7_30.ext Ex
        replace S_ENTER := S_ENTER.ext Ex
        replace S_EXIT := S_EXIT.ext Ex
        replace S_DELIVER := S_DELIVER.ext Ex
        replace S_LEADER := S_LEADER.ext Ex
        replace Z0 := Nat.le_trans Z0 Ex.1
        have F_b110_36_time : Fld Z h b110_36 "com/example/ratatoskr/ratatoskr/simulator/TraceEvent" "time" "J" (.long (0 : Int64)) := D_b110_36 (Or.inr (tb hw 17 rfl)) (ty := .long) (by decide)
        have F_b110_36_member : Fld Z h b110_36 "com/example/ratatoskr/ratatoskr/simulator/TraceEvent" "member" "I" (.int (0 : Int32)) := D_b110_36 (Or.inr (tb hw 19 rfl)) (ty := .int) (by decide)
        have F_b110_36_kind : Fld Z h b110_36 "com/example/ratatoskr/ratatoskr/simulator/TraceEvent" "kind" "Lcom/example/ratatoskr/ratatoskr/simulator/TraceEvent$Kind;" .null := D_b110_36 (Or.inr (tb hw 21 rfl)) (ty := (.object "com/example/ratatoskr/ratatoskr/simulator/TraceEvent$Kind")) (by decide)
        have F_b110_36_other : Fld Z h b110_36 "com/example/ratatoskr/ratatoskr/simulator/TraceEvent" "other" "I" (.int (0 : Int32)) := D_b110_36 (Or.inr (tb hw 23 rfl)) (ty := .int) (by decide)
        have F_b110_36_sequence : Fld Z h b110_36 "com/example/ratatoskr/ratatoskr/simulator/TraceEvent" "sequence" "J" (.long (0 : Int64)) := D_b110_36 (Or.inr (tb hw 25 rfl)) (ty := .long) (by decide)
        have F_b110_36_message : Fld Z h b110_36 "com/example/ratatoskr/ratatoskr/simulator/TraceEvent" "message" "[B" .null := D_b110_36 (Or.inr (tb hw 27 rfl)) (ty := (.array .byte)) (by decide)
        refine g_dup X at_113 (pc' := 114) rfl rfl ?_
        refine g_lloadN X at_114 (pc' := 115) rfl rfl ?_
        refine g_iloadN X at_115 (pc' := 116) rfl rfl ?_
        refine g_aload X at_116 (pc' := 118) rfl rfl rfl ?_
        refine g_special X (W := 1) (a := b110_36) [(.long j0), (.int i1), (.ref eENTER)] [(.ref b110_36)] rfl (tb hw 7 rfl) (tb hw 8 rfl) (tb hw 6 rfl) (tb hw 9 rfl) (rC3 l Z aa hw [] b110_36 j0 i1 eENTER _ n0 Z0 E_b110_36 F_b110_36_time F_b110_36_member F_b110_36_kind F_b110_36_other F_b110_36_sequence F_b110_36_message g_b110_36) at_118 (pc' := 121) rfl (by decide) (by decide) (by decide) rfl rfl rfl (lenOf pd_1 rfl) (Nat.le_refl _) (by decide) (by decide) ?_
        intro v T L X q
        obtain ⟨rfl, Nq, Kq, E_b110_36', F_b110_36_time', F_b110_36_member', F_b110_36_kind', F_b110_36_other', F_b110_36_sequence', F_b110_36_message'⟩ := q
        replace N := N.app Nq
        replace E_eENTER := E_eENTER.keep Kq
        replace E_eEXIT := E_eEXIT.keep Kq
        replace E_eDELIVER := E_eDELIVER.keep Kq
        replace E_eLEADER := E_eLEADER.keep Kq
        replace E_b7_30 := E_b7_30.keep Kq
        replace V_b7_30 := V_b7_30.keep Kq (ninS ne_b7_30_b110_36 nin0)
        replace Z0 := Nat.le_trans Z0 Kq.1
        replace E_b110_36 := E_b110_36'
        replace F_b110_36_time := F_b110_36_time'
        replace F_b110_36_member := F_b110_36_member'
        replace F_b110_36_kind := F_b110_36_kind'
        replace F_b110_36_other := F_b110_36_other'
        replace F_b110_36_sequence := F_b110_36_sequence'
        replace F_b110_36_message := F_b110_36_message'
        show Go p e below _ (T.setTop (mkF m 121 #[.val (.long j0), .second, .val (.int i1), .val (.int i2), .val (.int i3), .val (.int i4), .val (.int i5), .val (.int (2 : Int32)), .val (.ref b7_30), .val (.int v62_34), .val (.ref eENTER), .unset] [(.ref b110_36)]))
        refine g_astore X at_121 (pc' := 123) (Ls' := #[.val (.long j0), .second, .val (.int i1), .val (.int i2), .val (.int i3), .val (.int i4), .val (.int i5), .val (.int (2 : Int32)), .val (.ref b7_30), .val (.int v62_34), .val (.ref eENTER), .val (.ref b110_36)]) rfl rfl rfl ?_
        refine g_aload X at_123 (pc' := 125) rfl rfl rfl ?_
        refine g_virtual X (W := 0) (a := b110_36) (C := "com/example/ratatoskr/ratatoskr/simulator/TraceEvent") [] [] E_b110_36 (tb hw 28 rfl) (tb hw 29 rfl) (tb hw 31 rfl) (tb hw 30 rfl) (tb hw 6 rfl) (tb hw 32 rfl) (rGn l Z aa hw [] b110_36 _ E_b110_36 F_b110_36_message) at_125 (pc' := 128) rfl (by decide) (by decide) (by decide) rfl rfl rfl (lenOf pd_2 rfl) (Nat.le_refl _) (by decide) (by decide) ?_
        intro v T L X q
        obtain ⟨rfl, X⟩ := pureX X q
        show Go p e below _ (T.setTop (mkF m 128 #[.val (.long j0), .second, .val (.int i1), .val (.int i2), .val (.int i3), .val (.int i4), .val (.int i5), .val (.int (2 : Int32)), .val (.ref b7_30), .val (.int v62_34), .val (.ref eENTER), .val (.ref b110_36)] [.null]))
        refine g_nonnullN X at_128 (pc' := 131) rfl ?_
        refine g_aload X at_131 (pc' := 133) rfl rfl rfl ?_
        refine g_virtual X (W := 0) (a := b110_36) (C := "com/example/ratatoskr/ratatoskr/simulator/TraceEvent") [] [] E_b110_36 (tb hw 28 rfl) (tb hw 29 rfl) (tb hw 31 rfl) (tb hw 30 rfl) (tb hw 6 rfl) (tb hw 32 rfl) (rGn l Z aa hw [] b110_36 _ E_b110_36 F_b110_36_message) at_133 (pc' := 136) rfl (by decide) (by decide) (by decide) rfl rfl rfl (lenOf pd_2 rfl) (Nat.le_refl _) (by decide) (by decide) ?_
        intro v T L X q
        obtain ⟨rfl, X⟩ := pureX X q
        show Go p e below _ (T.setTop (mkF m 136 #[.val (.long j0), .second, .val (.int i1), .val (.int i2), .val (.int i3), .val (.int i4), .val (.int i5), .val (.int (2 : Int32)), .val (.ref b7_30), .val (.int v62_34), .val (.ref eENTER), .val (.ref b110_36)] [.null]))
        refine g_nonnullN X at_136 (pc' := 139) rfl ?_
        refine g_iconst X (1 : Int32) at_139 (pc' := 140) rfl rfl ?_
        refine g_goto X at_140 (pc' := 144) (by decide) (by decide) ?_
        refine g_ireturnN X (t := .boolean) (by simp) at_144 hret hlk (by decide) (by decide) ?_
        exact ⟨rfl, N⟩
      · skip
        refine g_ifY X at_66 ((if0 _ _).trans (feq hc66_35).2) (pc' := 77) (by decide) (by decide) ?_
        refine g_iload X at_77 (pc' := 79) rfl rfl ?_
        refine g_iconst X (1 : Int32) at_79 (pc' := 80) rfl rfl ?_
        by_cases hc80_37 : v62_34 = (1 : Int32)
        · skip
          refine g_icN X at_80 (teq hc80_37).2 (pc' := 83) rfl ?_
          refine g_getstatic X (host := "") (Or.inl (tb hw 33 rfl)) Via.refl S_EXIT at_83 (pc' := 86) rfl ?_
          intro T X
          refine g_astore X at_86 (pc' := 88) (Ls' := #[.val (.long j0), .second, .val (.int i1), .val (.int i2), .val (.int i3), .val (.int i4), .val (.int i5), .val (.int (2 : Int32)), .val (.ref b7_30), .val (.int v62_34), .val (.ref eEXIT), .unset]) rfl rfl rfl ?_
          refine g_goto X at_88 (pc' := 110) (by decide) (by decide) ?_
          refine g_new X (tb hw 4 rfl) (tb hw 5 rfl) (tb hw 6 rfl) at_110 (pc' := 113) rfl (by decide) (by decide) ?_
          intro T h b110_38 s_b110_38 X Ex E_b110_38 D_b110_38
          have ne_eENTER_b110_38 : eENTER ≠ b110_38 := Nat.ne_of_lt (by rw [s_b110_38]; exact E_eENTER.lt)
          have ne_eEXIT_b110_38 : eEXIT ≠ b110_38 := Nat.ne_of_lt (by rw [s_b110_38]; exact E_eEXIT.lt)
          have ne_eDELIVER_b110_38 : eDELIVER ≠ b110_38 := Nat.ne_of_lt (by rw [s_b110_38]; exact E_eDELIVER.lt)
          have ne_eLEADER_b110_38 : eLEADER ≠ b110_38 := Nat.ne_of_lt (by rw [s_b110_38]; exact E_eLEADER.lt)
          have ne_b7_30_b110_38 : b7_30 ≠ b110_38 := Nat.ne_of_lt (by rw [s_b110_38]; exact E_b7_30.lt)
          have g_b110_38 : n0 ≤ b110_38 := by rw [s_b110_38]; exact Z0
          replace E_eENTER := E_eENTER.ext Ex
          replace E_eEXIT := E_eEXIT.ext Ex
          replace E_eDELIVER := E_eDELIVER.ext Ex
          replace E_eLEADER := E_eLEADER.ext Ex
          replace E_b7_30 := E_b7_30.ext Ex
          replace V_b7_30 := V_b7_30.ext Ex
          replace S_ENTER := S_ENTER.ext Ex
          replace S_EXIT := S_EXIT.ext Ex
          replace S_DELIVER := S_DELIVER.ext Ex
          replace S_LEADER := S_LEADER.ext Ex
          replace Z0 := Nat.le_trans Z0 Ex.1
          have F_b110_38_time : Fld Z h b110_38 "com/example/ratatoskr/ratatoskr/simulator/TraceEvent" "time" "J" (.long (0 : Int64)) := D_b110_38 (Or.inr (tb hw 17 rfl)) (ty := .long) (by decide)
          have F_b110_38_member : Fld Z h b110_38 "com/example/ratatoskr/ratatoskr/simulator/TraceEvent" "member" "I" (.int (0 : Int32)) := D_b110_38 (Or.inr (tb hw 19 rfl)) (ty := .int) (by decide)
          have F_b110_38_kind : Fld Z h b110_38 "com/example/ratatoskr/ratatoskr/simulator/TraceEvent" "kind" "Lcom/example/ratatoskr/ratatoskr/simulator/TraceEvent$Kind;" .null := D_b110_38 (Or.inr (tb hw 21 rfl)) (ty := (.object "com/example/ratatoskr/ratatoskr/simulator/TraceEvent$Kind")) (by decide)
          have F_b110_38_other : Fld Z h b110_38 "com/example/ratatoskr/ratatoskr/simulator/TraceEvent" "other" "I" (.int (0 : Int32)) := D_b110_38 (Or.inr (tb hw 23 rfl)) (ty := .int) (by decide)
          have F_b110_38_sequence : Fld Z h b110_38 "com/example/ratatoskr/ratatoskr/simulator/TraceEvent" "sequence" "J" (.long (0 : Int64)) := D_b110_38 (Or.inr (tb hw 25 rfl)) (ty := .long) (by decide)
          have F_b110_38_message : Fld Z h b110_38 "com/example/ratatoskr/ratatoskr/simulator/TraceEvent" "message" "[B" .null := D_b110_38 (Or.inr (tb hw 27 rfl)) (ty := (.array .byte)) (by decide)
          refine g_dup X at_113 (pc' := 114) rfl rfl ?_
          refine g_lloadN X at_114 (pc' := 115) rfl rfl ?_
          refine g_iloadN X at_115 (pc' := 116) rfl rfl ?_
          refine g_aload X at_116 (pc' := 118) rfl rfl rfl ?_
          refine g_special X (W := 1) (a := b110_38) [(.long j0), (.int i1), (.ref eEXIT)] [(.ref b110_38)] rfl (tb hw 7 rfl) (tb hw 8 rfl) (tb hw 6 rfl) (tb hw 9 rfl) (rC3 l Z aa hw [] b110_38 j0 i1 eEXIT _ n0 Z0 E_b110_38 F_b110_38_time F_b110_38_member F_b110_38_kind F_b110_38_other F_b110_38_sequence F_b110_38_message g_b110_38) at_118 (pc' := 121) rfl (by decide) (by decide) (by decide) rfl rfl rfl (lenOf pd_1 rfl) (Nat.le_refl _) (by decide) (by decide) ?_
          intro v T L X q
          obtain ⟨rfl, Nq, Kq, E_b110_38', F_b110_38_time', F_b110_38_member', F_b110_38_kind', F_b110_38_other', F_b110_38_sequence', F_b110_38_message'⟩ := q
          replace N := N.app Nq
          replace E_eENTER := E_eENTER.keep Kq
          replace E_eEXIT := E_eEXIT.keep Kq
          replace E_eDELIVER := E_eDELIVER.keep Kq
          replace E_eLEADER := E_eLEADER.keep Kq
          replace E_b7_30 := E_b7_30.keep Kq
          replace V_b7_30 := V_b7_30.keep Kq (ninS ne_b7_30_b110_38 nin0)
          replace Z0 := Nat.le_trans Z0 Kq.1
          replace E_b110_38 := E_b110_38'
          replace F_b110_38_time := F_b110_38_time'
          replace F_b110_38_member := F_b110_38_member'
          replace F_b110_38_kind := F_b110_38_kind'
          replace F_b110_38_other := F_b110_38_other'
          replace F_b110_38_sequence := F_b110_38_sequence'
          replace F_b110_38_message := F_b110_38_message'
          show Go p e below _ (T.setTop (mkF m 121 #[.val (.long j0), .second, .val (.int i1), .val (.int i2), .val (.int i3), .val (.int i4), .val (.int i5), .val (.int (2 : Int32)), .val (.ref b7_30), .val (.int v62_34), .val (.ref eEXIT), .unset] [(.ref b110_38)]))
          refine g_astore X at_121 (pc' := 123) (Ls' := #[.val (.long j0), .second, .val (.int i1), .val (.int i2), .val (.int i3), .val (.int i4), .val (.int i5), .val (.int (2 : Int32)), .val (.ref b7_30), .val (.int v62_34), .val (.ref eEXIT), .val (.ref b110_38)]) rfl rfl rfl ?_
          refine g_aload X at_123 (pc' := 125) rfl rfl rfl ?_
          refine g_virtual X (W := 0) (a := b110_38) (C := "com/example/ratatoskr/ratatoskr/simulator/TraceEvent") [] [] E_b110_38 (tb hw 28 rfl) (tb hw 29 rfl) (tb hw 31 rfl) (tb hw 30 rfl) (tb hw 6 rfl) (tb hw 32 rfl) (rGn l Z aa hw [] b110_38 _ E_b110_38 F_b110_38_message) at_125 (pc' := 128) rfl (by decide) (by decide) (by decide) rfl rfl rfl (lenOf pd_2 rfl) (Nat.le_refl _) (by decide) (by decide) ?_
          intro v T L X q
          obtain ⟨rfl, X⟩ := pureX X q
          show Go p e below _ (T.setTop (mkF m 128 #[.val (.long j0), .second, .val (.int i1), .val (.int i2), .val (.int i3), .val (.int i4), .val (.int i5), .val (.int (2 : Int32)), .val (.ref b7_30), .val (.int v62_34), .val (.ref eEXIT), .val (.ref b110_38)] [.null]))
          refine g_nonnullN X at_128 (pc' := 131) rfl ?_
          refine g_aload X at_131 (pc' := 133) rfl rfl rfl ?_
          refine g_virtual X (W := 0) (a := b110_38) (C := "com/example/ratatoskr/ratatoskr/simulator/TraceEvent") [] [] E_b110_38 (tb hw 28 rfl) (tb hw 29 rfl) (tb hw 31 rfl) (tb hw 30 rfl) (tb hw 6 rfl) (tb hw 32 rfl) (rGn l Z aa hw [] b110_38 _ E_b110_38 F_b110_38_message) at_133 (pc' := 136) rfl (by decide) (by decide) (by decide) rfl rfl rfl (lenOf pd_2 rfl) (Nat.le_refl _) (by decide) (by decide) ?_
          intro v T L X q
          obtain ⟨rfl, X⟩ := pureX X q
          show Go p e below _ (T.setTop (mkF m 136 #[.val (.long j0), .second, .val (.int i1), .val (.int i2), .val (.int i3), .val (.int i4), .val (.int i5), .val (.int (2 : Int32)), .val (.ref b7_30), .val (.int v62_34), .val (.ref eEXIT), .val (.ref b110_38)] [.null]))
          refine g_nonnullN X at_136 (pc' := 139) rfl ?_
          refine g_iconst X (1 : Int32) at_139 (pc' := 140) rfl rfl ?_
          refine g_goto X at_140 (pc' := 144) (by decide) (by decide) ?_
          refine g_ireturnN X (t := .boolean) (by simp) at_144 hret hlk (by decide) (by decide) ?_
          exact ⟨rfl, N⟩
        · skip
          refine g_icY X at_80 (feq hc80_37).2 (pc' := 91) (by decide) (by decide) ?_
          refine g_iload X at_91 (pc' := 93) rfl rfl ?_
          refine g_iconst X (2 : Int32) at_93 (pc' := 94) rfl rfl ?_
          by_cases hc94_39 : v62_34 = (2 : Int32)
          · skip
            refine g_icN X at_94 (teq hc94_39).2 (pc' := 97) rfl ?_
            refine g_getstatic X (host := "") (Or.inl (tb hw 53 rfl)) Via.refl S_LEADER at_97 (pc' := 100) rfl ?_
            intro T X
            refine g_astore X at_100 (pc' := 102) (Ls' := #[.val (.long j0), .second, .val (.int i1), .val (.int i2), .val (.int i3), .val (.int i4), .val (.int i5), .val (.int (2 : Int32)), .val (.ref b7_30), .val (.int v62_34), .val (.ref eLEADER), .unset]) rfl rfl rfl ?_
            refine g_goto X at_102 (pc' := 110) (by decide) (by decide) ?_
            refine g_new X (tb hw 4 rfl) (tb hw 5 rfl) (tb hw 6 rfl) at_110 (pc' := 113) rfl (by decide) (by decide) ?_
            intro T h b110_40 s_b110_40 X Ex E_b110_40 D_b110_40
            have ne_eENTER_b110_40 : eENTER ≠ b110_40 := Nat.ne_of_lt (by rw [s_b110_40]; exact E_eENTER.lt)
            have ne_eEXIT_b110_40 : eEXIT ≠ b110_40 := Nat.ne_of_lt (by rw [s_b110_40]; exact E_eEXIT.lt)
            have ne_eDELIVER_b110_40 : eDELIVER ≠ b110_40 := Nat.ne_of_lt (by rw [s_b110_40]; exact E_eDELIVER.lt)
            have ne_eLEADER_b110_40 : eLEADER ≠ b110_40 := Nat.ne_of_lt (by rw [s_b110_40]; exact E_eLEADER.lt)
            have ne_b7_30_b110_40 : b7_30 ≠ b110_40 := Nat.ne_of_lt (by rw [s_b110_40]; exact E_b7_30.lt)
            have g_b110_40 : n0 ≤ b110_40 := by rw [s_b110_40]; exact Z0
            replace E_eENTER := E_eENTER.ext Ex
            replace E_eEXIT := E_eEXIT.ext Ex
            replace E_eDELIVER := E_eDELIVER.ext Ex
            replace E_eLEADER := E_eLEADER.ext Ex
            replace E_b7_30 := E_b7_30.ext Ex
            replace V_b7_30 := V_b7_30.ext Ex
            replace S_ENTER := S_ENTER.ext Ex
            replace S_EXIT := S_EXIT.ext Ex
            replace S_DELIVER := S_DELIVER.ext Ex
            replace S_LEADER := S_LEADER.ext Ex
            replace Z0 := Nat.le_trans Z0 Ex.1
            have F_b110_40_time : Fld Z h b110_40 "com/example/ratatoskr/ratatoskr/simulator/TraceEvent" "time" "J" (.long (0 : Int64)) := D_b110_40 (Or.inr (tb hw 17 rfl)) (ty := .long) (by decide)
            have F_b110_40_member : Fld Z h b110_40 "com/example/ratatoskr/ratatoskr/simulator/TraceEvent" "member" "I" (.int (0 : Int32)) := D_b110_40 (Or.inr (tb hw 19 rfl)) (ty := .int) (by decide)
            have F_b110_40_kind : Fld Z h b110_40 "com/example/ratatoskr/ratatoskr/simulator/TraceEvent" "kind" "Lcom/example/ratatoskr/ratatoskr/simulator/TraceEvent$Kind;" .null := D_b110_40 (Or.inr (tb hw 21 rfl)) (ty := (.object "com/example/ratatoskr/ratatoskr/simulator/TraceEvent$Kind")) (by decide)
            have F_b110_40_other : Fld Z h b110_40 "com/example/ratatoskr/ratatoskr/simulator/TraceEvent" "other" "I" (.int (0 : Int32)) := D_b110_40 (Or.inr (tb hw 23 rfl)) (ty := .int) (by decide)
            have F_b110_40_sequence : Fld Z h b110_40 "com/example/ratatoskr/ratatoskr/simulator/TraceEvent" "sequence" "J" (.long (0 : Int64)) := D_b110_40 (Or.inr (tb hw 25 rfl)) (ty := .long) (by decide)
            have F_b110_40_message : Fld Z h b110_40 "com/example/ratatoskr/ratatoskr/simulator/TraceEvent" "message" "[B" .null := D_b110_40 (Or.inr (tb hw 27 rfl)) (ty := (.array .byte)) (by decide)
            refine g_dup X at_113 (pc' := 114) rfl rfl ?_
            refine g_lloadN X at_114 (pc' := 115) rfl rfl ?_
            refine g_iloadN X at_115 (pc' := 116) rfl rfl ?_
            refine g_aload X at_116 (pc' := 118) rfl rfl rfl ?_
            refine g_special X (W := 1) (a := b110_40) [(.long j0), (.int i1), (.ref eLEADER)] [(.ref b110_40)] rfl (tb hw 7 rfl) (tb hw 8 rfl) (tb hw 6 rfl) (tb hw 9 rfl) (rC3 l Z aa hw [] b110_40 j0 i1 eLEADER _ n0 Z0 E_b110_40 F_b110_40_time F_b110_40_member F_b110_40_kind F_b110_40_other F_b110_40_sequence F_b110_40_message g_b110_40) at_118 (pc' := 121) rfl (by decide) (by decide) (by decide) rfl rfl rfl (lenOf pd_1 rfl) (Nat.le_refl _) (by decide) (by decide) ?_
            intro v T L X q
            obtain ⟨rfl, Nq, Kq, E_b110_40', F_b110_40_time', F_b110_40_member', F_b110_40_kind', F_b110_40_other', F_b110_40_sequence', F_b110_40_message'⟩ := q
            replace N := N.app Nq
            replace E_eENTER := E_eENTER.keep Kq
            replace E_eEXIT := E_eEXIT.keep Kq
            replace E_eDELIVER := E_eDELIVER.keep Kq
            replace E_eLEADER := E_eLEADER.keep Kq
            replace E_b7_30 := E_b7_30.keep Kq
            replace V_b7_30 := V_b7_30.keep Kq (ninS ne_b7_30_b110_40 nin0)
            replace Z0 := Nat.le_trans Z0 Kq.1
            replace E_b110_40 := E_b110_40'
            replace F_b110_40_time := F_b110_40_time'
            replace F_b110_40_member := F_b110_40_member'
            replace F_b110_40_kind := F_b110_40_kind'
            replace F_b110_40_other := F_b110_40_other'
            replace F_b110_40_sequence := F_b110_40_sequence'
            replace F_b110_40_message := F_b110_40_message'
            show Go p e below _ (T.setTop (mkF m 121 #[.val (.long j0), .second, .val (.int i1), .val (.int i2), .val (.int i3), .val (.int i4), .val (.int i5), .val (.int (2 : Int32)), .val (.ref b7_30), .val (.int v62_34), .val (.ref eLEADER), .unset] [(.ref b110_40)]))
            refine g_astore X at_121 (pc' := 123) (Ls' := #[.val (.long j0), .second, .val (.int i1), .val (.int i2), .val (.int i3), .val (.int i4), .val (.int i5), .val (.int (2 : Int32)), .val (.ref b7_30), .val (.int v62_34), .val (.ref eLEADER), .val (.ref b110_40)]) rfl rfl rfl ?_
            refine g_aload X at_123 (pc' := 125) rfl rfl rfl ?_
            refine g_virtual X (W := 0) (a := b110_40) (C := "com/example/ratatoskr/ratatoskr/simulator/TraceEvent") [] [] E_b110_40 (tb hw 28 rfl) (tb hw 29 rfl) (tb hw 31 rfl) (tb hw 30 rfl) (tb hw 6 rfl) (tb hw 32 rfl) (rGn l Z aa hw [] b110_40 _ E_b110_40 F_b110_40_message) at_125 (pc' := 128) rfl (by decide) (by decide) (by decide) rfl rfl rfl (lenOf pd_2 rfl) (Nat.le_refl _) (by decide) (by decide) ?_
            intro v T L X q
            obtain ⟨rfl, X⟩ := pureX X q
            show Go p e below _ (T.setTop (mkF m 128 #[.val (.long j0), .second, .val (.int i1), .val (.int i2), .val (.int i3), .val (.int i4), .val (.int i5), .val (.int (2 : Int32)), .val (.ref b7_30), .val (.int v62_34), .val (.ref eLEADER), .val (.ref b110_40)] [.null]))
            refine g_nonnullN X at_128 (pc' := 131) rfl ?_
            refine g_aload X at_131 (pc' := 133) rfl rfl rfl ?_
            refine g_virtual X (W := 0) (a := b110_40) (C := "com/example/ratatoskr/ratatoskr/simulator/TraceEvent") [] [] E_b110_40 (tb hw 28 rfl) (tb hw 29 rfl) (tb hw 31 rfl) (tb hw 30 rfl) (tb hw 6 rfl) (tb hw 32 rfl) (rGn l Z aa hw [] b110_40 _ E_b110_40 F_b110_40_message) at_133 (pc' := 136) rfl (by decide) (by decide) (by decide) rfl rfl rfl (lenOf pd_2 rfl) (Nat.le_refl _) (by decide) (by decide) ?_
            intro v T L X q
            obtain ⟨rfl, X⟩ := pureX X q
            show Go p e below _ (T.setTop (mkF m 136 #[.val (.long j0), .second, .val (.int i1), .val (.int i2), .val (.int i3), .val (.int i4), .val (.int i5), .val (.int (2 : Int32)), .val (.ref b7_30), .val (.int v62_34), .val (.ref eLEADER), .val (.ref b110_40)] [.null]))
            refine g_nonnullN X at_136 (pc' := 139) rfl ?_
            refine g_iconst X (1 : Int32) at_139 (pc' := 140) rfl rfl ?_
            refine g_goto X at_140 (pc' := 144) (by decide) (by decide) ?_
            refine g_ireturnN X (t := .boolean) (by simp) at_144 hret hlk (by decide) (by decide) ?_
            exact ⟨rfl, N⟩
          · skip
            refine g_icY X at_94 (feq hc94_39).2 (pc' := 105) (by decide) (by decide) ?_
            refine g_getstatic X (host := "") (Or.inl (tb hw 55 rfl)) Via.refl S_DELIVER at_105 (pc' := 108) rfl ?_
            intro T X
            refine g_astore X at_108 (pc' := 110) (Ls' := #[.val (.long j0), .second, .val (.int i1), .val (.int i2), .val (.int i3), .val (.int i4), .val (.int i5), .val (.int (2 : Int32)), .val (.ref b7_30), .val (.int v62_34), .val (.ref eDELIVER), .unset]) rfl rfl rfl ?_
            refine g_new X (tb hw 4 rfl) (tb hw 5 rfl) (tb hw 6 rfl) at_110 (pc' := 113) rfl (by decide) (by decide) ?_
            intro T h b110_41 s_b110_41 X Ex E_b110_41 D_b110_41
            have ne_eENTER_b110_41 : eENTER ≠ b110_41 := Nat.ne_of_lt (by rw [s_b110_41]; exact E_eENTER.lt)
            have ne_eEXIT_b110_41 : eEXIT ≠ b110_41 := Nat.ne_of_lt (by rw [s_b110_41]; exact E_eEXIT.lt)
            have ne_eDELIVER_b110_41 : eDELIVER ≠ b110_41 := Nat.ne_of_lt (by rw [s_b110_41]; exact E_eDELIVER.lt)
            have ne_eLEADER_b110_41 : eLEADER ≠ b110_41 := Nat.ne_of_lt (by rw [s_b110_41]; exact E_eLEADER.lt)
            have ne_b7_30_b110_41 : b7_30 ≠ b110_41 := Nat.ne_of_lt (by rw [s_b110_41]; exact E_b7_30.lt)
            have g_b110_41 : n0 ≤ b110_41 := by rw [s_b110_41]; exact Z0
            replace E_eENTER := E_eENTER.ext Ex
            replace E_eEXIT := E_eEXIT.ext Ex
            replace E_eDELIVER := E_eDELIVER.ext Ex
            replace E_eLEADER := E_eLEADER.ext Ex
            replace E_b7_30 := E_b7_30.ext Ex
            replace V_b7_30 := V_b7_30.ext Ex
            replace S_ENTER := S_ENTER.ext Ex
            replace S_EXIT := S_EXIT.ext Ex
            replace S_DELIVER := S_DELIVER.ext Ex
            replace S_LEADER := S_LEADER.ext Ex
            replace Z0 := Nat.le_trans Z0 Ex.1
            have F_b110_41_time : Fld Z h b110_41 "com/example/ratatoskr/ratatoskr/simulator/TraceEvent" "time" "J" (.long (0 : Int64)) := D_b110_41 (Or.inr (tb hw 17 rfl)) (ty := .long) (by decide)
            have F_b110_41_member : Fld Z h b110_41 "com/example/ratatoskr/ratatoskr/simulator/TraceEvent" "member" "I" (.int (0 : Int32)) := D_b110_41 (Or.inr (tb hw 19 rfl)) (ty := .int) (by decide)
            have F_b110_41_kind : Fld Z h b110_41 "com/example/ratatoskr/ratatoskr/simulator/TraceEvent" "kind" "Lcom/example/ratatoskr/ratatoskr/simulator/TraceEvent$Kind;" .null := D_b110_41 (Or.inr (tb hw 21 rfl)) (ty := (.object "com/example/ratatoskr/ratatoskr/simulator/TraceEvent$Kind")) (by decide)
            have F_b110_41_other : Fld Z h b110_41 "com/example/ratatoskr/ratatoskr/simulator/TraceEvent" "other" "I" (.int (0 : Int32)) := D_b110_41 (Or.inr (tb hw 23 rfl)) (ty := .int) (by decide)
            have F_b110_41_sequence : Fld Z h b110_41 "com/example/ratatoskr/ratatoskr/simulator/TraceEvent" "sequence" "J" (.long (0 : Int64)) := D_b110_41 (Or.inr (tb hw 25 rfl)) (ty := .long) (by decide)
            have F_b110_41_message : Fld Z h b110_41 "com/example/ratatoskr/ratatoskr/simulator/TraceEvent" "message" "[B" .null := D_b110_41 (Or.inr (tb hw 27 rfl)) (ty := (.array .byte)) (by decide)
            refine g_dup X at_113 (pc' := 114) rfl rfl ?_
            refine g_lloadN X at_114 (pc' := 115) rfl rfl ?_
            refine g_iloadN X at_115 (pc' := 116) rfl rfl ?_
            refine g_aload X at_116 (pc' := 118) rfl rfl rfl ?_
            refine g_special X (W := 1) (a := b110_41) [(.long j0), (.int i1), (.ref eDELIVER)] [(.ref b110_41)] rfl (tb hw 7 rfl) (tb hw 8 rfl) (tb hw 6 rfl) (tb hw 9 rfl) (rC3 l Z aa hw [] b110_41 j0 i1 eDELIVER _ n0 Z0 E_b110_41 F_b110_41_time F_b110_41_member F_b110_41_kind F_b110_41_other F_b110_41_sequence F_b110_41_message g_b110_41) at_118 (pc' := 121) rfl (by decide) (by decide) (by decide) rfl rfl rfl (lenOf pd_1 rfl) (Nat.le_refl _) (by decide) (by decide) ?_
            intro v T L X q
            obtain ⟨rfl, Nq, Kq, E_b110_41', F_b110_41_time', F_b110_41_member', F_b110_41_kind', F_b110_41_other', F_b110_41_sequence', F_b110_41_message'⟩ := q
            replace N := N.app Nq
            replace E_eENTER := E_eENTER.keep Kq
            replace E_eEXIT := E_eEXIT.keep Kq
            replace E_eDELIVER := E_eDELIVER.keep Kq
            replace E_eLEADER := E_eLEADER.keep Kq
            replace E_b7_30 := E_b7_30.keep Kq
            replace V_b7_30 := V_b7_30.keep Kq (ninS ne_b7_30_b110_41 nin0)
            replace Z0 := Nat.le_trans Z0 Kq.1
            replace E_b110_41 := E_b110_41'
            replace F_b110_41_time := F_b110_41_time'
            replace F_b110_41_member := F_b110_41_member'
            replace F_b110_41_kind := F_b110_41_kind'
            replace F_b110_41_other := F_b110_41_other'
            replace F_b110_41_sequence := F_b110_41_sequence'
            replace F_b110_41_message := F_b110_41_message'
            show Go p e below _ (T.setTop (mkF m 121 #[.val (.long j0), .second, .val (.int i1), .val (.int i2), .val (.int i3), .val (.int i4), .val (.int i5), .val (.int (2 : Int32)), .val (.ref b7_30), .val (.int v62_34), .val (.ref eDELIVER), .unset] [(.ref b110_41)]))
            refine g_astore X at_121 (pc' := 123) (Ls' := #[.val (.long j0), .second, .val (.int i1), .val (.int i2), .val (.int i3), .val (.int i4), .val (.int i5), .val (.int (2 : Int32)), .val (.ref b7_30), .val (.int v62_34), .val (.ref eDELIVER), .val (.ref b110_41)]) rfl rfl rfl ?_
            refine g_aload X at_123 (pc' := 125) rfl rfl rfl ?_
            refine g_virtual X (W := 0) (a := b110_41) (C := "com/example/ratatoskr/ratatoskr/simulator/TraceEvent") [] [] E_b110_41 (tb hw 28 rfl) (tb hw 29 rfl) (tb hw 31 rfl) (tb hw 30 rfl) (tb hw 6 rfl) (tb hw 32 rfl) (rGn l Z aa hw [] b110_41 _ E_b110_41 F_b110_41_message) at_125 (pc' := 128) rfl (by decide) (by decide) (by decide) rfl rfl rfl (lenOf pd_2 rfl) (Nat.le_refl _) (by decide) (by decide) ?_
            intro v T L X q
            obtain ⟨rfl, X⟩ := pureX X q
            show Go p e below _ (T.setTop (mkF m 128 #[.val (.long j0), .second, .val (.int i1), .val (.int i2), .val (.int i3), .val (.int i4), .val (.int i5), .val (.int (2 : Int32)), .val (.ref b7_30), .val (.int v62_34), .val (.ref eDELIVER), .val (.ref b110_41)] [.null]))
            refine g_nonnullN X at_128 (pc' := 131) rfl ?_
            refine g_aload X at_131 (pc' := 133) rfl rfl rfl ?_
            refine g_virtual X (W := 0) (a := b110_41) (C := "com/example/ratatoskr/ratatoskr/simulator/TraceEvent") [] [] E_b110_41 (tb hw 28 rfl) (tb hw 29 rfl) (tb hw 31 rfl) (tb hw 30 rfl) (tb hw 6 rfl) (tb hw 32 rfl) (rGn l Z aa hw [] b110_41 _ E_b110_41 F_b110_41_message) at_133 (pc' := 136) rfl (by decide) (by decide) (by decide) rfl rfl rfl (lenOf pd_2 rfl) (Nat.le_refl _) (by decide) (by decide) ?_
            intro v T L X q
            obtain ⟨rfl, X⟩ := pureX X q
            show Go p e below _ (T.setTop (mkF m 136 #[.val (.long j0), .second, .val (.int i1), .val (.int i2), .val (.int i3), .val (.int i4), .val (.int i5), .val (.int (2 : Int32)), .val (.ref b7_30), .val (.int v62_34), .val (.ref eDELIVER), .val (.ref b110_41)] [.null]))
            refine g_nonnullN X at_136 (pc' := 139) rfl ?_
            refine g_iconst X (1 : Int32) at_139 (pc' := 140) rfl rfl ?_
            refine g_goto X at_140 (pc' := 144) (by decide) (by decide) ?_
            refine g_ireturnN X (t := .boolean) (by simp) at_144 hret hlk (by decide) (by decide) ?_
            exact ⟨rfl, N⟩
    · skip
      refine g_ifY X at_54 ((if0 _ _).trans (feq hc54_33).2) (pc' := 145) (by decide) (by decide) ?_
      refine g_new X (tb hw 4 rfl) (tb hw 5 rfl) (tb hw 6 rfl) at_145 (pc' := 148) rfl (by decide) (by decide) ?_
      intro T h b145_42 s_b145_42 X Ex E_b145_42 D_b145_42
      have ne_eENTER_b145_42 : eENTER ≠ b145_42 := Nat.ne_of_lt (by rw [s_b145_42]; exact E_eENTER.lt)
      have ne_eEXIT_b145_42 : eEXIT ≠ b145_42 := Nat.ne_of_lt (by rw [s_b145_42]; exact E_eEXIT.lt)
      have ne_eDELIVER_b145_42 : eDELIVER ≠ b145_42 := Nat.ne_of_lt (by rw [s_b145_42]; exact E_eDELIVER.lt)
      have ne_eLEADER_b145_42 : eLEADER ≠ b145_42 := Nat.ne_of_lt (by rw [s_b145_42]; exact E_eLEADER.lt)
      have ne_b7_30_b145_42 : b7_30 ≠ b145_42 := Nat.ne_of_lt (by rw [s_b145_42]; exact E_b7_30.lt)
      have g_b145_42 : n0 ≤ b145_42 := by rw [s_b145_42]; exact Z0
      replace E_eENTER := E_eENTER.ext Ex
      replace E_eEXIT := E_eEXIT.ext Ex
      replace E_eDELIVER := E_eDELIVER.ext Ex
      replace E_eLEADER := E_eLEADER.ext Ex
      replace E_b7_30 := E_b7_30.ext Ex
      replace V_b7_30 := V_b7_30.ext Ex
      replace S_ENTER := S_ENTER.ext Ex
      replace S_EXIT := S_EXIT.ext Ex
      replace S_DELIVER := S_DELIVER.ext Ex
      replace S_LEADER := S_LEADER.ext Ex
      replace Z0 := Nat.le_trans Z0 Ex.1
      have F_b145_42_time : Fld Z h b145_42 "com/example/ratatoskr/ratatoskr/simulator/TraceEvent" "time" "J" (.long (0 : Int64)) := D_b145_42 (Or.inr (tb hw 17 rfl)) (ty := .long) (by decide)
      have F_b145_42_member : Fld Z h b145_42 "com/example/ratatoskr/ratatoskr/simulator/TraceEvent" "member" "I" (.int (0 : Int32)) := D_b145_42 (Or.inr (tb hw 19 rfl)) (ty := .int) (by decide)
      have F_b145_42_kind : Fld Z h b145_42 "com/example/ratatoskr/ratatoskr/simulator/TraceEvent" "kind" "Lcom/example/ratatoskr/ratatoskr/simulator/TraceEvent$Kind;" .null := D_b145_42 (Or.inr (tb hw 21 rfl)) (ty := (.object "com/example/ratatoskr/ratatoskr/simulator/TraceEvent$Kind")) (by decide)
      have F_b145_42_other : Fld Z h b145_42 "com/example/ratatoskr/ratatoskr/simulator/TraceEvent" "other" "I" (.int (0 : Int32)) := D_b145_42 (Or.inr (tb hw 23 rfl)) (ty := .int) (by decide)
      have F_b145_42_sequence : Fld Z h b145_42 "com/example/ratatoskr/ratatoskr/simulator/TraceEvent" "sequence" "J" (.long (0 : Int64)) := D_b145_42 (Or.inr (tb hw 25 rfl)) (ty := .long) (by decide)
      have F_b145_42_message : Fld Z h b145_42 "com/example/ratatoskr/ratatoskr/simulator/TraceEvent" "message" "[B" .null := D_b145_42 (Or.inr (tb hw 27 rfl)) (ty := (.array .byte)) (by decide)
      refine g_dup X at_148 (pc' := 149) rfl rfl ?_
      refine g_lloadN X at_149 (pc' := 150) rfl rfl ?_
      refine g_iloadN X at_150 (pc' := 151) rfl rfl ?_
      refine g_iloadN X at_151 (pc' := 152) rfl rfl ?_
      refine g_iloadN X at_152 (pc' := 153) rfl rfl ?_
      refine g_ixor X at_153 (pc' := 154) rfl ?_
      refine g_lloadN X at_154 (pc' := 155) rfl rfl ?_
      refine g_aload X at_155 (pc' := 157) rfl rfl rfl ?_
      refine g_special X (W := 1) (a := b145_42) [(.long j0), (.int i1), (.int (i1 ^^^ i2)), (.long j0), (.ref b7_30)] [(.ref b145_42)] rfl (tb hw 35 rfl) (tb hw 36 rfl) (tb hw 6 rfl) (tb hw 37 rfl) (rC5 l Z aa hw [] b145_42 j0 i1 (i1 ^^^ i2) j0 b7_30 eDELIVER _ n0 Z0 E_b145_42 F_b145_42_time F_b145_42_member F_b145_42_kind F_b145_42_other F_b145_42_sequence F_b145_42_message g_b145_42 S_DELIVER) at_157 (pc' := 160) rfl (by decide) (by decide) (by decide) rfl rfl rfl (lenOf pd_3 rfl) (Nat.le_refl _) (by decide) (by decide) ?_
      intro v T L X q
      obtain ⟨rfl, Nq, Kq, E_b145_42', F_b145_42_time', F_b145_42_member', F_b145_42_kind', F_b145_42_other', F_b145_42_sequence', F_b145_42_message'⟩ := q
      replace N := N.app Nq
      replace E_eENTER := E_eENTER.keep Kq
      replace E_eEXIT := E_eEXIT.keep Kq
      replace E_eDELIVER := E_eDELIVER.keep Kq
      replace E_eLEADER := E_eLEADER.keep Kq
      replace E_b7_30 := E_b7_30.keep Kq
      replace V_b7_30 := V_b7_30.keep Kq (ninS ne_b7_30_b145_42 nin0)
      replace Z0 := Nat.le_trans Z0 Kq.1
      replace E_b145_42 := E_b145_42'
      replace F_b145_42_time := F_b145_42_time'
      replace F_b145_42_member := F_b145_42_member'
      replace F_b145_42_kind := F_b145_42_kind'
      replace F_b145_42_other := F_b145_42_other'
      replace F_b145_42_sequence := F_b145_42_sequence'
      replace F_b145_42_message := F_b145_42_message'
      show Go p e below _ (T.setTop (mkF m 160 #[.val (.long j0), .second, .val (.int i1), .val (.int i2), .val (.int i3), .val (.int i4), .val (.int i5), .val (.int (2 : Int32)), .val (.ref b7_30), .unset, .unset, .unset] [(.ref b145_42)]))
      refine g_astore X at_160 (pc' := 162) (Ls' := #[.val (.long j0), .second, .val (.int i1), .val (.int i2), .val (.int i3), .val (.int i4), .val (.int i5), .val (.int (2 : Int32)), .val (.ref b7_30), .val (.ref b145_42), .unset, .unset]) rfl rfl rfl ?_
      refine g_aload X at_162 (pc' := 164) rfl rfl rfl ?_
      refine g_virtual X (W := 0) (a := b145_42) (C := "com/example/ratatoskr/ratatoskr/simulator/TraceEvent") [] [] E_b145_42 (tb hw 28 rfl) (tb hw 29 rfl) (tb hw 31 rfl) (tb hw 30 rfl) (tb hw 6 rfl) (tb hw 32 rfl) (rG2 l Z aa hw [] b145_42 b7_30 (nar .byte v22_31) (nar .byte v35_32) _ n0 Z0 E_b145_42 F_b145_42_message E_b7_30 V_b7_30 (fits_nar_byte _) (fits_nar_byte _)) at_164 (pc' := 167) rfl (by decide) (by decide) (by decide) rfl rfl rfl (lenOf pd_2 rfl) (Nat.le_refl _) (by decide) (by decide) ?_
      intro v T L X q
      obtain ⟨b167_43, rfl, Nq, Kq, szq_b167_43, g_b167_43, E_b167_43, V_b167_43⟩ := q
      have ne_eENTER_b167_43 : eENTER ≠ b167_43 := Nat.ne_of_lt (Nat.lt_of_lt_of_le E_eENTER.lt szq_b167_43)
      have ne_eEXIT_b167_43 : eEXIT ≠ b167_43 := Nat.ne_of_lt (Nat.lt_of_lt_of_le E_eEXIT.lt szq_b167_43)
      have ne_eDELIVER_b167_43 : eDELIVER ≠ b167_43 := Nat.ne_of_lt (Nat.lt_of_lt_of_le E_eDELIVER.lt szq_b167_43)
      have ne_eLEADER_b167_43 : eLEADER ≠ b167_43 := Nat.ne_of_lt (Nat.lt_of_lt_of_le E_eLEADER.lt szq_b167_43)
      have ne_b7_30_b167_43 : b7_30 ≠ b167_43 := Nat.ne_of_lt (Nat.lt_of_lt_of_le E_b7_30.lt szq_b167_43)
      have ne_b145_42_b167_43 : b145_42 ≠ b167_43 := Nat.ne_of_lt (Nat.lt_of_lt_of_le E_b145_42.lt szq_b167_43)
      replace N := N.app Nq
      replace E_eENTER := E_eENTER.keep Kq
      replace E_eEXIT := E_eEXIT.keep Kq
      replace E_eDELIVER := E_eDELIVER.keep Kq
      replace E_eLEADER := E_eLEADER.keep Kq
      replace E_b7_30 := E_b7_30.keep Kq
      replace V_b7_30 := V_b7_30.keep Kq nin0
      replace E_b145_42 := E_b145_42.keep Kq
      replace F_b145_42_time := F_b145_42_time.keep Kq nin0
      replace F_b145_42_member := F_b145_42_member.keep Kq nin0
      replace F_b145_42_kind := F_b145_42_kind.keep Kq nin0
      replace F_b145_42_other := F_b145_42_other.keep Kq nin0
      replace F_b145_42_sequence := F_b145_42_sequence.keep Kq nin0
      replace F_b145_42_message := F_b145_42_message.keep Kq nin0
      replace Z0 := Nat.le_trans Z0 Kq.1
      show Go p e below _ (T.setTop (mkF m 167 #[.val (.long j0), .second, .val (.int i1), .val (.int i2), .val (.int i3), .val (.int i4), .val (.int i5), .val (.int (2 : Int32)), .val (.ref b7_30), .val (.ref b145_42), .unset, .unset] [(.ref b167_43)]))
      refine g_astore X at_167 (pc' := 169) (Ls' := #[.val (.long j0), .second, .val (.int i1), .val (.int i2), .val (.int i3), .val (.int i4), .val (.int i5), .val (.int (2 : Int32)), .val (.ref b7_30), .val (.ref b145_42), .val (.ref b167_43), .unset]) rfl rfl rfl ?_
      refine g_aload X at_169 (pc' := 171) rfl rfl rfl ?_
      refine g_nullN X at_171 (pc' := 174) rfl ?_
      refine g_aload X at_174 (pc' := 176) rfl rfl rfl ?_
      refine g_aload X at_176 (pc' := 178) rfl rfl rfl ?_
      refine g_acmp X at_178 (pc' := 181) (same := false) rfl rfl (decide_eq_false fun q => (Ne.symm ne_b7_30_b167_43) (Value.ref.inj q)) (by decide) (by decide) ?_
      refine g_aload X at_181 (pc' := 183) rfl rfl rfl ?_
      refine g_arraylength X V_b167_43 at_183 (pc' := 184) rfl (z := (2 : Int32)) rfl ?_
      refine g_iload X at_184 (pc' := 186) rfl rfl ?_
      refine g_icY X at_186 (teq (show (2 : Int32) = (2 : Int32) from (by decide))).1 (pc' := 191) (by decide) (by decide) ?_
      refine g_aload X at_191 (pc' := 193) rfl rfl rfl ?_
      refine g_iload X at_193 (pc' := 195) rfl rfl ?_
      refine g_iload X at_195 (pc' := 197) rfl rfl ?_
      refine g_iload X at_197 (pc' := 199) rfl rfl ?_
      refine g_iload X at_199 (pc' := 201) rfl rfl ?_
      refine g_static X (W := 0) [(.ref b167_43), (.int (2 : Int32)), (.int i3), (.int i4), (.int i5)] [] (tb hw 49 rfl) (tb hw 50 rfl) (tb hw 51 rfl) (tb hw 52 rfl) (rH2 l Z aa hw [] b167_43 i3 i4 i5 (nar .byte v22_31) (nar .byte v35_32) _ V_b167_43) at_201 (pc' := 204) rfl (by decide) (by decide) (by decide) rfl rfl rfl (lenOf pd_4 rfl) (Nat.le_refl _) (by decide) (by decide) ?_
      intro v T L X q
      obtain ⟨rfl, X⟩ := pureX X q
      show Go p e below _ (T.setTop (mkF m 204 #[.val (.long j0), .second, .val (.int i1), .val (.int i2), .val (.int i3), .val (.int i4), .val (.int i5), .val (.int (2 : Int32)), .val (.ref b7_30), .val (.ref b145_42), .val (.ref b167_43), .unset] [(.int (b2i (fH2 i3 i4 i5 (nar .byte v22_31) (nar .byte v35_32))))]))
      refine g_ifY X at_204 ((if0 _ _).trans (feq (bne (show (fH2 i3 i4 i5 (nar .byte v22_31) (nar .byte v35_32)) = true from (by subst_vars; simp [fH2, nb])))).2) (pc' := 209) (by decide) (by decide) ?_
      refine g_iload X at_209 (pc' := 211) rfl rfl ?_
      refine g_ifN X at_211 ((if0 _ _).trans (tlt (show (0 : Int32) < (2 : Int32) from (by decide))).2.2.2) (pc' := 214) rfl ?_
      refine g_aload X at_214 (pc' := 216) rfl rfl rfl ?_
      refine g_iconst X (0 : Int32) at_216 (pc' := 217) rfl rfl ?_
      refine g_aload X at_217 (pc' := 219) rfl rfl rfl ?_
      refine g_iconst X (0 : Int32) at_219 (pc' := 220) rfl rfl ?_
      refine g_baload X V_b167_43 0 at_220 (pc' := 221) rfl (by decide) (by decide) rfl ?_
      refine g_iconst X (-1 : Int32) at_221 (pc' := 222) rfl rfl ?_
      refine g_ixor X at_222 (pc' := 223) rfl ?_
      refine g_i2b X at_223 (pc' := 224) rfl ?_
      generalize ev224_44 : (((nar .byte v22_31) ^^^ (-1 : Int32)).toInt8.toInt32) = v224_44
      refine g_bastore X V_b167_43 0 at_224 (pc' := 225) rfl (by decide) (by decide) (Nat.le_of_ble_eq_true rfl) ?_
      intro T h X W V_b167_43
      replace V_b167_43 : Av Z h b167_43 .byte [(.int (nar .byte v224_44)), (.int (nar .byte v35_32))] := V_b167_43
      replace E_eENTER := E_eENTER.wr W
      replace E_eEXIT := E_eEXIT.wr W
      replace E_eDELIVER := E_eDELIVER.wr W
      replace E_eLEADER := E_eLEADER.wr W
      replace E_b7_30 := E_b7_30.wr W
      replace V_b7_30 := V_b7_30.other W ne_b7_30_b167_43
      replace E_b145_42 := E_b145_42.wr W
      replace F_b145_42_time := F_b145_42_time.other W (Or.inl ne_b145_42_b167_43)
      replace F_b145_42_member := F_b145_42_member.other W (Or.inl ne_b145_42_b167_43)
      replace F_b145_42_kind := F_b145_42_kind.other W (Or.inl ne_b145_42_b167_43)
      replace F_b145_42_other := F_b145_42_other.other W (Or.inl ne_b145_42_b167_43)
      replace F_b145_42_sequence := F_b145_42_sequence.other W (Or.inl ne_b145_42_b167_43)
      replace F_b145_42_message := F_b145_42_message.other W (Or.inl ne_b145_42_b167_43)
      replace E_b167_43 := E_b167_43.wr W
      replace Z0 := Nat.le_trans Z0 (Nat.le_of_eq W.size.symm)
      replace N := Fr.snoc X.1 N g_b167_43
      refine g_iload X at_225 (pc' := 227) rfl rfl ?_
      refine g_iconst X (1 : Int32) at_227 (pc' := 228) rfl rfl ?_
      refine g_icN X at_228 (tlt (show (1 : Int32) < (2 : Int32) from (by decide))).2.2.2 (pc' := 231) rfl ?_
      refine g_aload X at_231 (pc' := 233) rfl rfl rfl ?_
      refine g_iconst X (1 : Int32) at_233 (pc' := 234) rfl rfl ?_
      refine g_aload X at_234 (pc' := 236) rfl rfl rfl ?_
      refine g_iconst X (1 : Int32) at_236 (pc' := 237) rfl rfl ?_
      refine g_baload X V_b167_43 1 at_237 (pc' := 238) rfl (by decide) (by decide) rfl ?_
      refine g_iconst X (-1 : Int32) at_238 (pc' := 239) rfl rfl ?_
      refine g_ixor X at_239 (pc' := 240) rfl ?_
      refine g_i2b X at_240 (pc' := 241) rfl ?_
      generalize ev241_45 : (((nar .byte v35_32) ^^^ (-1 : Int32)).toInt8.toInt32) = v241_45
      refine g_bastore X V_b167_43 1 at_241 (pc' := 242) rfl (by decide) (by decide) (Nat.le_of_ble_eq_true rfl) ?_
      intro T h X W V_b167_43
      replace V_b167_43 : Av Z h b167_43 .byte [(.int (nar .byte v224_44)), (.int (nar .byte v241_45))] := V_b167_43
      replace E_eENTER := E_eENTER.wr W
      replace E_eEXIT := E_eEXIT.wr W
      replace E_eDELIVER := E_eDELIVER.wr W
      replace E_eLEADER := E_eLEADER.wr W
      replace E_b7_30 := E_b7_30.wr W
      replace V_b7_30 := V_b7_30.other W ne_b7_30_b167_43
      replace E_b145_42 := E_b145_42.wr W
      replace F_b145_42_time := F_b145_42_time.other W (Or.inl ne_b145_42_b167_43)
      replace F_b145_42_member := F_b145_42_member.other W (Or.inl ne_b145_42_b167_43)
      replace F_b145_42_kind := F_b145_42_kind.other W (Or.inl ne_b145_42_b167_43)
      replace F_b145_42_other := F_b145_42_other.other W (Or.inl ne_b145_42_b167_43)
      replace F_b145_42_sequence := F_b145_42_sequence.other W (Or.inl ne_b145_42_b167_43)
      replace F_b145_42_message := F_b145_42_message.other W (Or.inl ne_b145_42_b167_43)
      replace E_b167_43 := E_b167_43.wr W
      replace Z0 := Nat.le_trans Z0 (Nat.le_of_eq W.size.symm)
      replace N := Fr.snoc X.1 N g_b167_43
      refine g_iload X at_242 (pc' := 244) rfl rfl ?_
      refine g_iconst X (2 : Int32) at_244 (pc' := 245) rfl rfl ?_
      refine g_icY X at_245 (flt (show ¬ ((2 : Int32) < (2 : Int32)) from (by decide))).2.2.2 (pc' := 259) (by decide) (by decide) ?_
      refine g_aload X at_259 (pc' := 261) rfl rfl rfl ?_
      refine g_virtual X (W := 0) (a := b145_42) (C := "com/example/ratatoskr/ratatoskr/simulator/TraceEvent") [] [] E_b145_42 (tb hw 28 rfl) (tb hw 29 rfl) (tb hw 31 rfl) (tb hw 30 rfl) (tb hw 6 rfl) (tb hw 32 rfl) (rG2 l Z aa hw [] b145_42 b7_30 (nar .byte v22_31) (nar .byte v35_32) _ n0 Z0 E_b145_42 F_b145_42_message E_b7_30 V_b7_30 (fits_nar_byte _) (fits_nar_byte _)) at_261 (pc' := 264) rfl (by decide) (by decide) (by decide) rfl rfl rfl (lenOf pd_2 rfl) (Nat.le_refl _) (by decide) (by decide) ?_
      intro v T L X q
      obtain ⟨b264_46, rfl, Nq, Kq, szq_b264_46, g_b264_46, E_b264_46, V_b264_46⟩ := q
      have ne_eENTER_b264_46 : eENTER ≠ b264_46 := Nat.ne_of_lt (Nat.lt_of_lt_of_le E_eENTER.lt szq_b264_46)
      have ne_eEXIT_b264_46 : eEXIT ≠ b264_46 := Nat.ne_of_lt (Nat.lt_of_lt_of_le E_eEXIT.lt szq_b264_46)
      have ne_eDELIVER_b264_46 : eDELIVER ≠ b264_46 := Nat.ne_of_lt (Nat.lt_of_lt_of_le E_eDELIVER.lt szq_b264_46)
      have ne_eLEADER_b264_46 : eLEADER ≠ b264_46 := Nat.ne_of_lt (Nat.lt_of_lt_of_le E_eLEADER.lt szq_b264_46)
      have ne_b7_30_b264_46 : b7_30 ≠ b264_46 := Nat.ne_of_lt (Nat.lt_of_lt_of_le E_b7_30.lt szq_b264_46)
      have ne_b145_42_b264_46 : b145_42 ≠ b264_46 := Nat.ne_of_lt (Nat.lt_of_lt_of_le E_b145_42.lt szq_b264_46)
      have ne_b167_43_b264_46 : b167_43 ≠ b264_46 := Nat.ne_of_lt (Nat.lt_of_lt_of_le E_b167_43.lt szq_b264_46)
      replace N := N.app Nq
      replace E_eENTER := E_eENTER.keep Kq
      replace E_eEXIT := E_eEXIT.keep Kq
      replace E_eDELIVER := E_eDELIVER.keep Kq
      replace E_eLEADER := E_eLEADER.keep Kq
      replace E_b7_30 := E_b7_30.keep Kq
      replace V_b7_30 := V_b7_30.keep Kq nin0
      replace E_b145_42 := E_b145_42.keep Kq
      replace F_b145_42_time := F_b145_42_time.keep Kq nin0
      replace F_b145_42_member := F_b145_42_member.keep Kq nin0
      replace F_b145_42_kind := F_b145_42_kind.keep Kq nin0
      replace F_b145_42_other := F_b145_42_other.keep Kq nin0
      replace F_b145_42_sequence := F_b145_42_sequence.keep Kq nin0
      replace F_b145_42_message := F_b145_42_message.keep Kq nin0
      replace E_b167_43 := E_b167_43.keep Kq
      replace V_b167_43 := V_b167_43.keep Kq nin0
      replace Z0 := Nat.le_trans Z0 Kq.1
      show Go p e below _ (T.setTop (mkF m 264 #[.val (.long j0), .second, .val (.int i1), .val (.int i2), .val (.int i3), .val (.int i4), .val (.int i5), .val (.int (2 : Int32)), .val (.ref b7_30), .val (.ref b145_42), .val (.ref b167_43), .unset] [(.ref b264_46)]))
      refine g_astore X at_264 (pc' := 266) (Ls' := #[.val (.long j0), .second, .val (.int i1), .val (.int i2), .val (.int i3), .val (.int i4), .val (.int i5), .val (.int (2 : Int32)), .val (.ref b7_30), .val (.ref b145_42), .val (.ref b167_43), .val (.ref b264_46)]) rfl rfl rfl ?_
      refine g_aload X at_266 (pc' := 268) rfl rfl rfl ?_
      refine g_nullN X at_268 (pc' := 271) rfl ?_
      refine g_aload X at_271 (pc' := 273) rfl rfl rfl ?_
      refine g_aload X at_273 (pc' := 275) rfl rfl rfl ?_
      refine g_acmp X at_275 (pc' := 278) (same := false) rfl rfl (decide_eq_false fun q => (Ne.symm ne_b167_43_b264_46) (Value.ref.inj q)) (by decide) (by decide) ?_
      refine g_aload X at_278 (pc' := 280) rfl rfl rfl ?_
      refine g_aload X at_280 (pc' := 282) rfl rfl rfl ?_
      refine g_acmp X at_282 (pc' := 285) (same := false) rfl rfl (decide_eq_false fun q => (Ne.symm ne_b7_30_b264_46) (Value.ref.inj q)) (by decide) (by decide) ?_
      refine g_aload X at_285 (pc' := 287) rfl rfl rfl ?_
      refine g_arraylength X V_b264_46 at_287 (pc' := 288) rfl (z := (2 : Int32)) rfl ?_
      refine g_iload X at_288 (pc' := 290) rfl rfl ?_
      refine g_icY X at_290 (teq (show (2 : Int32) = (2 : Int32) from (by decide))).1 (pc' := 295) (by decide) (by decide) ?_
      refine g_aload X at_295 (pc' := 297) rfl rfl rfl ?_
      refine g_iload X at_297 (pc' := 299) rfl rfl ?_
      refine g_iload X at_299 (pc' := 301) rfl rfl ?_
      refine g_iload X at_301 (pc' := 303) rfl rfl ?_
      refine g_iload X at_303 (pc' := 305) rfl rfl ?_
      refine g_static X (W := 0) [(.ref b264_46), (.int (2 : Int32)), (.int i3), (.int i4), (.int i5)] [] (tb hw 49 rfl) (tb hw 50 rfl) (tb hw 51 rfl) (tb hw 52 rfl) (rH2 l Z aa hw [] b264_46 i3 i4 i5 (nar .byte v22_31) (nar .byte v35_32) _ V_b264_46) at_305 (pc' := 308) rfl (by decide) (by decide) (by decide) rfl rfl rfl (lenOf pd_4 rfl) (Nat.le_refl _) (by decide) (by decide) ?_
      intro v T L X q
      obtain ⟨rfl, X⟩ := pureX X q
      show Go p e below _ (T.setTop (mkF m 308 #[.val (.long j0), .second, .val (.int i1), .val (.int i2), .val (.int i3), .val (.int i4), .val (.int i5), .val (.int (2 : Int32)), .val (.ref b7_30), .val (.ref b145_42), .val (.ref b167_43), .val (.ref b264_46)] [(.int (b2i (fH2 i3 i4 i5 (nar .byte v22_31) (nar .byte v35_32))))]))
      refine g_ifN X at_308 ((if0 _ _).trans (feq (bne (show (fH2 i3 i4 i5 (nar .byte v22_31) (nar .byte v35_32)) = true from (by subst_vars; simp [fH2, nb])))).1) (pc' := 311) rfl ?_
      refine g_aload X at_311 (pc' := 313) rfl rfl rfl ?_
      refine g_iload X at_313 (pc' := 315) rfl rfl ?_
      refine g_iload X at_315 (pc' := 317) rfl rfl ?_
      refine g_iload X at_317 (pc' := 319) rfl rfl ?_
      refine g_iload X at_319 (pc' := 321) rfl rfl ?_
      refine g_static X (W := 0) [(.ref b7_30), (.int (2 : Int32)), (.int i3), (.int i4), (.int i5)] [] (tb hw 49 rfl) (tb hw 50 rfl) (tb hw 51 rfl) (tb hw 52 rfl) (rH2 l Z aa hw [] b7_30 i3 i4 i5 (nar .byte v22_31) (nar .byte v35_32) _ V_b7_30) at_321 (pc' := 324) rfl (by decide) (by decide) (by decide) rfl rfl rfl (lenOf pd_4 rfl) (Nat.le_refl _) (by decide) (by decide) ?_
      intro v T L X q
      obtain ⟨rfl, X⟩ := pureX X q
      show Go p e below _ (T.setTop (mkF m 324 #[.val (.long j0), .second, .val (.int i1), .val (.int i2), .val (.int i3), .val (.int i4), .val (.int i5), .val (.int (2 : Int32)), .val (.ref b7_30), .val (.ref b145_42), .val (.ref b167_43), .val (.ref b264_46)] [(.int (b2i (fH2 i3 i4 i5 (nar .byte v22_31) (nar .byte v35_32))))]))
      refine g_ifN X at_324 ((if0 _ _).trans (feq (bne (show (fH2 i3 i4 i5 (nar .byte v22_31) (nar .byte v35_32)) = true from (by subst_vars; simp [fH2, nb])))).1) (pc' := 327) rfl ?_
      refine g_iconst X (1 : Int32) at_327 (pc' := 328) rfl rfl ?_
      refine g_goto X at_328 (pc' := 332) (by decide) (by decide) ?_
      refine g_ireturnN X (t := .boolean) (by simp) at_332 hret hlk (by decide) (by decide) ?_
      exact ⟨rfl, N⟩
  · subst hs
    show Go p e below _ (T.setTop (mkF m 5 #[.val (.long j0), .second, .val (.int i1), .val (.int i2), .val (.int i3), .val (.int i4), .val (.int i5), .val (.int (3 : Int32)), .unset, .unset, .unset, .unset] []))
    refine g_iload X at_5 (pc' := 7) rfl rfl ?_
    refine g_newarray X 3 (tb hw 0 rfl) at_7 (pc' := 9) rfl (by decide) (by decide) 3 (by decide) (by decide) (by decide) (by decide) (vs := [(.int (0 : Int32)), (.int (0 : Int32)), (.int (0 : Int32))]) rfl (ad := "[B") (by decide) ?_
    intro T h b7_47 s_b7_47 X Ex E_b7_47 V_b7_47
    have ne_eENTER_b7_47 : eENTER ≠ b7_47 := Nat.ne_of_lt (by rw [s_b7_47]; exact E_eENTER.lt)
    have ne_eEXIT_b7_47 : eEXIT ≠ b7_47 := Nat.ne_of_lt (by rw [s_b7_47]; exact E_eEXIT.lt)
    have ne_eDELIVER_b7_47 : eDELIVER ≠ b7_47 := Nat.ne_of_lt (by rw [s_b7_47]; exact E_eDELIVER.lt)
    have ne_eLEADER_b7_47 : eLEADER ≠ b7_47 := Nat.ne_of_lt (by rw [s_b7_47]; exact E_eLEADER.lt)
    have g_b7_47 : n0 ≤ b7_47 := by rw [s_b7_47]; exact Z0
    replace E_eENTER := E_eENTER.ext Ex
    replace E_eEXIT := E_eEXIT.ext Ex
    replace E_eDELIVER := E_eDELIVER.ext Ex
    replace E_eLEADER := E_eLEADER.ext Ex
    replace S_ENTER := S_ENTER.ext Ex
    replace S_EXIT := S_EXIT.ext Ex
    replace S_DELIVER := S_DELIVER.ext Ex
    replace S_LEADER := S_LEADER.ext Ex
    replace Z0 := Nat.le_trans Z0 Ex.1
    refine g_astore X at_9 (pc' := 11) (Ls' := #[.val (.long j0), .second, .val (.int i1), .val (.int i2), .val (.int i3), .val (.int i4), .val (.int i5), .val (.int (3 : Int32)), .val (.ref b7_47), .unset, .unset, .unset]) rfl rfl rfl ?_
    refine g_iload X at_11 (pc' := 13) rfl rfl ?_
    refine g_ifN X at_13 ((if0 _ _).trans (tlt (show (0 : Int32) < (3 : Int32) from (by decide))).2.2.2) (pc' := 16) rfl ?_
    refine g_aload X at_16 (pc' := 18) rfl rfl rfl ?_
    refine g_iconst X (0 : Int32) at_18 (pc' := 19) rfl rfl ?_
    refine g_iload X at_19 (pc' := 21) rfl rfl ?_
    refine g_i2b X at_21 (pc' := 22) rfl ?_
    generalize ev22_48 : (i3.toInt8.toInt32) = v22_48
    refine g_bastore X V_b7_47 0 at_22 (pc' := 23) rfl (by decide) (by decide) (Nat.le_of_ble_eq_true rfl) ?_
    intro T h X W V_b7_47
    replace V_b7_47 : Av Z h b7_47 .byte [(.int (nar .byte v22_48)), (.int (0 : Int32)), (.int (0 : Int32))] := V_b7_47
    replace E_eENTER := E_eENTER.wr W
    replace E_eEXIT := E_eEXIT.wr W
    replace E_eDELIVER := E_eDELIVER.wr W
    replace E_eLEADER := E_eLEADER.wr W
    replace E_b7_47 := E_b7_47.wr W
    replace S_ENTER := S_ENTER.wr W
    replace S_EXIT := S_EXIT.wr W
    replace S_DELIVER := S_DELIVER.wr W
    replace S_LEADER := S_LEADER.wr W
    replace Z0 := Nat.le_trans Z0 (Nat.le_of_eq W.size.symm)
    replace N := Fr.snoc X.1 N g_b7_47
    refine g_iload X at_23 (pc' := 25) rfl rfl ?_
    refine g_iconst X (1 : Int32) at_25 (pc' := 26) rfl rfl ?_
    refine g_icN X at_26 (tlt (show (1 : Int32) < (3 : Int32) from (by decide))).2.2.2 (pc' := 29) rfl ?_
    refine g_aload X at_29 (pc' := 31) rfl rfl rfl ?_
    refine g_iconst X (1 : Int32) at_31 (pc' := 32) rfl rfl ?_
    refine g_iload X at_32 (pc' := 34) rfl rfl ?_
    refine g_i2b X at_34 (pc' := 35) rfl ?_
    generalize ev35_49 : (i4.toInt8.toInt32) = v35_49
    refine g_bastore X V_b7_47 1 at_35 (pc' := 36) rfl (by decide) (by decide) (Nat.le_of_ble_eq_true rfl) ?_
    intro T h X W V_b7_47
    replace V_b7_47 : Av Z h b7_47 .byte [(.int (nar .byte v22_48)), (.int (nar .byte v35_49)), (.int (0 : Int32))] := V_b7_47
    replace E_eENTER := E_eENTER.wr W
    replace E_eEXIT := E_eEXIT.wr W
    replace E_eDELIVER := E_eDELIVER.wr W
    replace E_eLEADER := E_eLEADER.wr W
    replace E_b7_47 := E_b7_47.wr W
    replace S_ENTER := S_ENTER.wr W
    replace S_EXIT := S_EXIT.wr W
    replace S_DELIVER := S_DELIVER.wr W
    replace S_LEADER := S_LEADER.wr W
    replace Z0 := Nat.le_trans Z0 (Nat.le_of_eq W.size.symm)
    replace N := Fr.snoc X.1 N g_b7_47
    refine g_iload X at_36 (pc' := 38) rfl rfl ?_
    refine g_iconst X (2 : Int32) at_38 (pc' := 39) rfl rfl ?_
    refine g_icN X at_39 (tlt (show (2 : Int32) < (3 : Int32) from (by decide))).2.2.2 (pc' := 42) rfl ?_
    refine g_aload X at_42 (pc' := 44) rfl rfl rfl ?_
    refine g_iconst X (2 : Int32) at_44 (pc' := 45) rfl rfl ?_
    refine g_iload X at_45 (pc' := 47) rfl rfl ?_
    refine g_i2b X at_47 (pc' := 48) rfl ?_
    generalize ev48_50 : (i5.toInt8.toInt32) = v48_50
    refine g_bastore X V_b7_47 2 at_48 (pc' := 49) rfl (by decide) (by decide) (Nat.le_of_ble_eq_true rfl) ?_
    intro T h X W V_b7_47
    replace V_b7_47 : Av Z h b7_47 .byte [(.int (nar .byte v22_48)), (.int (nar .byte v35_49)), (.int (nar .byte v48_50))] := V_b7_47
    replace E_eENTER := E_eENTER.wr W
    replace E_eEXIT := E_eEXIT.wr W
    replace E_eDELIVER := E_eDELIVER.wr W
    replace E_eLEADER := E_eLEADER.wr W
    replace E_b7_47 := E_b7_47.wr W
    replace S_ENTER := S_ENTER.wr W
    replace S_EXIT := S_EXIT.wr W
    replace S_DELIVER := S_DELIVER.wr W
    replace S_LEADER := S_LEADER.wr W
    replace Z0 := Nat.le_trans Z0 (Nat.le_of_eq W.size.symm)
    replace N := Fr.snoc X.1 N g_b7_47
    refine g_iloadN X at_49 (pc' := 50) rfl rfl ?_
    refine g_iconst X (2 : Int32) at_50 (pc' := 51) rfl rfl ?_
    refine g_iushr X at_51 (pc' := 52) rfl ?_
    refine g_iconst X (1 : Int32) at_52 (pc' := 53) rfl rfl ?_
    refine g_iand X at_53 (pc' := 54) rfl ?_
    by_cases hc54_51 : (((i2.toUInt32 >>> ((2 : Int32) &&& 31).toUInt32).toInt32) &&& (1 : Int32)) = (0 : Int32)
    · skip
      refine g_ifN X at_54 ((if0 _ _).trans (teq hc54_51).2) (pc' := 57) rfl ?_
      refine g_iloadN X at_57 (pc' := 58) rfl rfl ?_
      refine g_iconst X (3 : Int32) at_58 (pc' := 59) rfl rfl ?_
      refine g_iushr X at_59 (pc' := 60) rfl ?_
      refine g_iconst X (3 : Int32) at_60 (pc' := 61) rfl rfl ?_
      refine g_iand X at_61 (pc' := 62) rfl ?_
      generalize ev62_52 : (((i2.toUInt32 >>> ((3 : Int32) &&& 31).toUInt32).toInt32) &&& (3 : Int32)) = v62_52
      refine g_istore X at_62 (pc' := 64) (Ls' := #[.val (.long j0), .second, .val (.int i1), .val (.int i2), .val (.int i3), .val (.int i4), .val (.int i5), .val (.int (3 : Int32)), .val (.ref b7_47), .val (.int v62_52), .unset, .unset]) rfl rfl ?_
      refine g_iload X at_64 (pc' := 66) rfl rfl ?_
      by_cases hc66_53 : v62_52 = (0 : Int32)
      · skip
        refine g_ifN X at_66 ((if0 _ _).trans (teq hc66_53).2) (pc' := 69) rfl ?_
        refine g_getstatic X (host := "") (Or.inl (tb hw 1 rfl)) Via.refl S_ENTER at_69 (pc' := 72) rfl ?_
        intro T X
        refine g_astore X at_72 (pc' := 74) (Ls' := #[.val (.long j0), .second, .val (.int i1), .val (.int i2), .val (.int i3), .val (.int i4), .val (.int i5), .val (.int (3 : Int32)), .val (.ref b7_47), .val (.int v62_52), .val (.ref eENTER), .unset]) rfl rfl rfl ?_
        refine g_goto X at_74 (pc' := 110) (by decide) (by decide) ?_
        refine g_new X (tb hw 4 rfl) (tb hw 5 rfl) (tb hw 6 rfl) at_110 (pc' := 113) rfl (by decide) (by decide) ?_
        intro T h b110_54 s_b110_54 X Ex E_b110_54 D_b110_54
        have ne_eENTER_b110_54 : eENTER ≠ b110_54 := Nat.ne_of_lt (by rw [s_b110_54]; exact E_eENTER.lt)
        have ne_eEXIT_b110_54 : eEXIT ≠ b110_54 := Nat.ne_of_lt (by rw [s_b110_54]; exact E_eEXIT.lt)
        have ne_eDELIVER_b110_54 : eDELIVER ≠ b110_54 := Nat.ne_of_lt (by rw [s_b110_54]; exact E_eDELIVER.lt)
        have ne_eLEADER_b110_54 : eLEADER ≠ b110_54 := Nat.ne_of_lt (by rw [s_b110_54]; exact E_eLEADER.lt)
        have ne_b7_47_b110_54 : b7_47 ≠ b110_54 := Nat.ne_of_lt (by rw [s_b110_54]; exact E_b7_47.lt)
        have g_b110_54 : n0 ≤ b110_54 := by rw [s_b110_54]; exact Z0
        replace E_eENTER := E_eENTER.ext Ex
        replace E_eEXIT := E_eEXIT.ext Ex
        replace E_eDELIVER := E_eDELIVER.ext Ex
        replace E_eLEADER := E_eLEADER.ext Ex
        replace E_b7_47 := E_b7_47.ext Ex
        replace V_b7_47 := V_b7_47.ext Ex
        replace S_ENTER := S_ENTER.ext Ex
        replace S_EXIT := S_EXIT.ext Ex
        replace S_DELIVER := S_DELIVER.ext Ex
        replace S_LEADER := S_LEADER.ext Ex
        replace Z0 := Nat.le_trans Z0 Ex.1
        have F_b110_54_time : Fld Z h b110_54 "com/example/ratatoskr/ratatoskr/simulator/TraceEvent" "time" "J" (.long (0 : Int64)) := D_b110_54 (Or.inr (tb hw 17 rfl)) (ty := .long) (by decide)
        have F_b110_54_member : Fld Z h b110_54 "com/example/ratatoskr/ratatoskr/simulator/TraceEvent" "member" "I" (.int (0 : Int32)) := D_b110_54 (Or.inr (tb hw 19 rfl)) (ty := .int) (by decide)
        have F_b110_54_kind : Fld Z h b110_54 "com/example/ratatoskr/ratatoskr/simulator/TraceEvent" "kind" "Lcom/example/ratatoskr/ratatoskr/simulator/TraceEvent$Kind;" .null := D_b110_54 (Or.inr (tb hw 21 rfl)) (ty := (.object "com/example/ratatoskr/ratatoskr/simulator/TraceEvent$Kind")) (by decide)
        have F_b110_54_other : Fld Z h b110_54 "com/example/ratatoskr/ratatoskr/simulator/TraceEvent" "other" "I" (.int (0 : Int32)) := D_b110_54 (Or.inr (tb hw 23 rfl)) (ty := .int) (by decide)
        have F_b110_54_sequence : Fld Z h b110_54 "com/example/ratatoskr/ratatoskr/simulator/TraceEvent" "sequence" "J" (.long (0 : Int64)) := D_b110_54 (Or.inr (tb hw 25 rfl)) (ty := .long) (by decide)
        have F_b110_54_message : Fld Z h b110_54 "com/example/ratatoskr/ratatoskr/simulator/TraceEvent" "message" "[B" .null := D_b110_54 (Or.inr (tb hw 27 rfl)) (ty := (.array .byte)) (by decide)
        refine g_dup X at_113 (pc' := 114) rfl rfl ?_
        refine g_lloadN X at_114 (pc' := 115) rfl rfl ?_
        refine g_iloadN X at_115 (pc' := 116) rfl rfl ?_
        refine g_aload X at_116 (pc' := 118) rfl rfl rfl ?_
        refine g_special X (W := 1) (a := b110_54) [(.long j0), (.int i1), (.ref eENTER)] [(.ref b110_54)] rfl (tb hw 7 rfl) (tb hw 8 rfl) (tb hw 6 rfl) (tb hw 9 rfl) (rC3 l Z aa hw [] b110_54 j0 i1 eENTER _ n0 Z0 E_b110_54 F_b110_54_time F_b110_54_member F_b110_54_kind F_b110_54_other F_b110_54_sequence F_b110_54_message g_b110_54) at_118 (pc' := 121) rfl (by decide) (by decide) (by decide) rfl rfl rfl (lenOf pd_1 rfl) (Nat.le_refl _) (by decide) (by decide) ?_
        intro v T L X q
        obtain ⟨rfl, Nq, Kq, E_b110_54', F_b110_54_time', F_b110_54_member', F_b110_54_kind', F_b110_54_other', F_b110_54_sequence', F_b110_54_message'⟩ := q
        replace N := N.app Nq
        replace E_eENTER := E_eENTER.keep Kq
        replace E_eEXIT := E_eEXIT.keep Kq
        replace E_eDELIVER := E_eDELIVER.keep Kq
        replace E_eLEADER := E_eLEADER.keep Kq
        replace E_b7_47 := E_b7_47.keep Kq
        replace V_b7_47 := V_b7_47.keep Kq (ninS ne_b7_47_b110_54 nin0)
        replace Z0 := Nat.le_trans Z0 Kq.1
        replace E_b110_54 := E_b110_54'
        replace F_b110_54_time := F_b110_54_time'
        replace F_b110_54_member := F_b110_54_member'
        replace F_b110_54_kind := F_b110_54_kind'
        replace F_b110_54_other := F_b110_54_other'
        replace F_b110_54_sequence := F_b110_54_sequence'
        replace F_b110_54_message := F_b110_54_message'
        show Go p e below _ (T.setTop (mkF m 121 #[.val (.long j0), .second, .val (.int i1), .val (.int i2), .val (.int i3), .val (.int i4), .val (.int i5), .val (.int (3 : Int32)), .val (.ref b7_47), .val (.int v62_52), .val (.ref eENTER), .unset] [(.ref b110_54)]))
        refine g_astore X at_121 (pc' := 123) (Ls' := #[.val (.long j0), .second, .val (.int i1), .val (.int i2), .val (.int i3), .val (.int i4), .val (.int i5), .val (.int (3 : Int32)), .val (.ref b7_47), .val (.int v62_52), .val (.ref eENTER), .val (.ref b110_54)]) rfl rfl rfl ?_
        refine g_aload X at_123 (pc' := 125) rfl rfl rfl ?_
        refine g_virtual X (W := 0) (a := b110_54) (C := "com/example/ratatoskr/ratatoskr/simulator/TraceEvent") [] [] E_b110_54 (tb hw 28 rfl) (tb hw 29 rfl) (tb hw 31 rfl) (tb hw 30 rfl) (tb hw 6 rfl) (tb hw 32 rfl) (rGn l Z aa hw [] b110_54 _ E_b110_54 F_b110_54_message) at_125 (pc' := 128) rfl (by decide) (by decide) (by decide) rfl rfl rfl (lenOf pd_2 rfl) (Nat.le_refl _) (by decide) (by decide) ?_
        intro v T L X q
        obtain ⟨rfl, X⟩ := pureX X q
        show Go p e below _ (T.setTop (mkF m 128 #[.val (.long j0), .second, .val (.int i1), .val (.int i2), .val (.int i3), .val (.int i4), .val (.int i5), .val (.int (3 : Int32)), .val (.ref b7_47), .val (.int v62_52), .val (.ref eENTER), .val (.ref b110_54)] [.null]))
        refine g_nonnullN X at_128 (pc' := 131) rfl ?_
        refine g_aload X at_131 (pc' := 133) rfl rfl rfl ?_
        refine g_virtual X (W := 0) (a := b110_54) (C := "com/example/ratatoskr/ratatoskr/simulator/TraceEvent") [] [] E_b110_54 (tb hw 28 rfl) (tb hw 29 rfl) (tb hw 31 rfl) (tb hw 30 rfl) (tb hw 6 rfl) (tb hw 32 rfl) (rGn l Z aa hw [] b110_54 _ E_b110_54 F_b110_54_message) at_133 (pc' := 136) rfl (by decide) (by decide) (by decide) rfl rfl rfl (lenOf pd_2 rfl) (Nat.le_refl _) (by decide) (by decide) ?_
        intro v T L X q
        obtain ⟨rfl, X⟩ := pureX X q
        show Go p e below _ (T.setTop (mkF m 136 #[.val (.long j0), .second, .val (.int i1), .val (.int i2), .val (.int i3), .val (.int i4), .val (.int i5), .val (.int (3 : Int32)), .val (.ref b7_47), .val (.int v62_52), .val (.ref eENTER), .val (.ref b110_54)] [.null]))
        refine g_nonnullN X at_136 (pc' := 139) rfl ?_
        refine g_iconst X (1 : Int32) at_139 (pc' := 140) rfl rfl ?_
        refine g_goto X at_140 (pc' := 144) (by decide) (by decide) ?_
        refine g_ireturnN X (t := .boolean) (by simp) at_144 hret hlk (by decide) (by decide) ?_
        exact ⟨rfl, N⟩
      · skip
        refine g_ifY X at_66 ((if0 _ _).trans (feq hc66_53).2) (pc' := 77) (by decide) (by decide) ?_
        refine g_iload X at_77 (pc' := 79) rfl rfl ?_
        refine g_iconst X (1 : Int32) at_79 (pc' := 80) rfl rfl ?_
        by_cases hc80_55 : v62_52 = (1 : Int32)
        · skip
          refine g_icN X at_80 (teq hc80_55).2 (pc' := 83) rfl ?_
          refine g_getstatic X (host := "") (Or.inl (tb hw 33 rfl)) Via.refl S_EXIT at_83 (pc' := 86) rfl ?_
          intro T X
          refine g_astore X at_86 (pc' := 88) (Ls' := #[.val (.long j0), .second, .val (.int i1), .val (.int i2), .val (.int i3), .val (.int i4), .val (.int i5), .val (.int (3 : Int32)), .val (.ref b7_47), .val (.int v62_52), .val (.ref eEXIT), .unset]) rfl rfl rfl ?_
          refine g_goto X at_88 (pc' := 110) (by decide) (by decide) ?_
          refine g_new X (tb hw 4 rfl) (tb hw 5 rfl) (tb hw 6 rfl) at_110 (pc' := 113) rfl (by decide) (by decide) ?_
          intro T h b110_56 s_b110_56 X Ex E_b110_56 D_b110_56
          have ne_eENTER_b110_56 : eENTER ≠ b110_56 := Nat.ne_of_lt (by rw [s_b110_56]; exact E_eENTER.lt)
          have ne_eEXIT_b110_56 : eEXIT ≠ b110_56 := Nat.ne_of_lt (by rw [s_b110_56]; exact E_eEXIT.lt)
          have ne_eDELIVER_b110_56 : eDELIVER ≠ b110_56 := Nat.ne_of_lt (by rw [s_b110_56]; exact E_eDELIVER.lt)
          have ne_eLEADER_b110_56 : eLEADER ≠ b110_56 := Nat.ne_of_lt (by rw [s_b110_56]; exact E_eLEADER.lt)
          have ne_b7_47_b110_56 : b7_47 ≠ b110_56 := Nat.ne_of_lt (by rw [s_b110_56]; exact E_b7_47.lt)
          have g_b110_56 : n0 ≤ b110_56 := by rw [s_b110_56]; exact Z0
          replace E_eENTER := E_eENTER.ext Ex
          replace E_eEXIT := E_eEXIT.ext Ex
          replace E_eDELIVER := E_eDELIVER.ext Ex
          replace E_eLEADER := E_eLEADER.ext Ex
          replace E_b7_47 := E_b7_47.ext Ex
          replace V_b7_47 := V_b7_47.ext Ex
          replace S_ENTER := S_ENTER.ext Ex
          replace S_EXIT := S_EXIT.ext Ex
          replace S_DELIVER := S_DELIVER.ext Ex
          replace S_LEADER := S_LEADER.ext Ex
          replace Z0 := Nat.le_trans Z0 Ex.1
          have F_b110_56_time : Fld Z h b110_56 "com/example/ratatoskr/ratatoskr/simulator/TraceEvent" "time" "J" (.long (0 : Int64)) := D_b110_56 (Or.inr (tb hw 17 rfl)) (ty := .long) (by decide)
          have F_b110_56_member : Fld Z h b110_56 "com/example/ratatoskr/ratatoskr/simulator/TraceEvent" "member" "I" (.int (0 : Int32)) := D_b110_56 (Or.inr (tb hw 19 rfl)) (ty := .int) (by decide)
          have F_b110_56_kind : Fld Z h b110_56 "com/example/ratatoskr/ratatoskr/simulator/TraceEvent" "kind" "Lcom/example/ratatoskr/ratatoskr/simulator/TraceEvent$Kind;" .null := D_b110_56 (Or.inr (tb hw 21 rfl)) (ty := (.object "com/example/ratatoskr/ratatoskr/simulator/TraceEvent$Kind")) (by decide)
          have F_b110_56_other : Fld Z h b110_56 "com/example/ratatoskr/ratatoskr/simulator/TraceEvent" "other" "I" (.int (0 : Int32)) := D_b110_56 (Or.inr (tb hw 23 rfl)) (ty := .int) (by decide)
          have F_b110_56_sequence : Fld Z h b110_56 "com/example/ratatoskr/ratatoskr/simulator/TraceEvent" "sequence" "J" (.long (0 : Int64)) := D_b110_56 (Or.inr (tb hw 25 rfl)) (ty := .long) (by decide)
          have F_b110_56_message : Fld Z h b110_56 "com/example/ratatoskr/ratatoskr/simulator/TraceEvent" "message" "[B" .null := D_b110_56 (Or.inr (tb hw 27 rfl)) (ty := (.array .byte)) (by decide)
          refine g_dup X at_113 (pc' := 114) rfl rfl ?_
          refine g_lloadN X at_114 (pc' := 115) rfl rfl ?_
          refine g_iloadN X at_115 (pc' := 116) rfl rfl ?_
          refine g_aload X at_116 (pc' := 118) rfl rfl rfl ?_
          refine g_special X (W := 1) (a := b110_56) [(.long j0), (.int i1), (.ref eEXIT)] [(.ref b110_56)] rfl (tb hw 7 rfl) (tb hw 8 rfl) (tb hw 6 rfl) (tb hw 9 rfl) (rC3 l Z aa hw [] b110_56 j0 i1 eEXIT _ n0 Z0 E_b110_56 F_b110_56_time F_b110_56_member F_b110_56_kind F_b110_56_other F_b110_56_sequence F_b110_56_message g_b110_56) at_118 (pc' := 121) rfl (by decide) (by decide) (by decide) rfl rfl rfl (lenOf pd_1 rfl) (Nat.le_refl _) (by decide) (by decide) ?_
          intro v T L X q
          obtain ⟨rfl, Nq, Kq, E_b110_56', F_b110_56_time', F_b110_56_member', F_b110_56_kind', F_b110_56_other', F_b110_56_sequence', F_b110_56_message'⟩ := q
          replace N := N.app Nq
          replace E_eENTER := E_eENTER.keep Kq
          replace E_eEXIT := E_eEXIT.keep Kq
          replace E_eDELIVER := E_eDELIVER.keep Kq
          replace E_eLEADER := E_eLEADER.keep Kq
          replace E_b7_47 := E_b7_47.keep Kq
          replace V_b7_47 := V_b7_47.keep Kq (ninS ne_b7_47_b110_56 nin0)
          replace Z0 := Nat.le_trans Z0 Kq.1
          replace E_b110_56 := E_b110_56'
          replace F_b110_56_time := F_b110_56_time'
          replace F_b110_56_member := F_b110_56_member'
          replace F_b110_56_kind := F_b110_56_kind'
          replace F_b110_56_other := F_b110_56_other'
          replace F_b110_56_sequence := F_b110_56_sequence'
          replace F_b110_56_message := F_b110_56_message'
          show Go p e below _ (T.setTop (mkF m 121 #[.val (.long j0), .second, .val (.int i1), .val (.int i2), .val (.int i3), .val (.int i4), .val (.int i5), .val (.int (3 : Int32)), .val (.ref b7_47), .val (.int v62_52), .val (.ref eEXIT), .unset] [(.ref b110_56)]))
          refine g_astore X at_121 (pc' := 123) (Ls' := #[.val (.long j0), .second, .val (.int i1), .val (.int i2), .val (.int i3), .val (.int i4), .val (.int i5), .val (.int (3 : Int32)), .val (.ref b7_47), .val (.int v62_52), .val (.ref eEXIT), .val (.ref b110_56)]) rfl rfl rfl ?_
          refine g_aload X at_123 (pc' := 125) rfl rfl rfl ?_
          refine g_virtual X (W := 0) (a := b110_56) (C := "com/example/ratatoskr/ratatoskr/simulator/TraceEvent") [] [] E_b110_56 (tb hw 28 rfl) (tb hw 29 rfl) (tb hw 31 rfl) (tb hw 30 rfl) (tb hw 6 rfl) (tb hw 32 rfl) (rGn l Z aa hw [] b110_56 _ E_b110_56 F_b110_56_message) at_125 (pc' := 128) rfl (by decide) (by decide) (by decide) rfl rfl rfl (lenOf pd_2 rfl) (Nat.le_refl _) (by decide) (by decide) ?_
          intro v T L X q
          obtain ⟨rfl, X⟩ := pureX X q
          show Go p e below _ (T.setTop (mkF m 128 #[.val (.long j0), .second, .val (.int i1), .val (.int i2), .val (.int i3), .val (.int i4), .val (.int i5), .val (.int (3 : Int32)), .val (.ref b7_47), .val (.int v62_52), .val (.ref eEXIT), .val (.ref b110_56)] [.null]))
          refine g_nonnullN X at_128 (pc' := 131) rfl ?_
          refine g_aload X at_131 (pc' := 133) rfl rfl rfl ?_
          refine g_virtual X (W := 0) (a := b110_56) (C := "com/example/ratatoskr/ratatoskr/simulator/TraceEvent") [] [] E_b110_56 (tb hw 28 rfl) (tb hw 29 rfl) (tb hw 31 rfl) (tb hw 30 rfl) (tb hw 6 rfl) (tb hw 32 rfl) (rGn l Z aa hw [] b110_56 _ E_b110_56 F_b110_56_message) at_133 (pc' := 136) rfl (by decide) (by decide) (by decide) rfl rfl rfl (lenOf pd_2 rfl) (Nat.le_refl _) (by decide) (by decide) ?_
          intro v T L X q
          obtain ⟨rfl, X⟩ := pureX X q
          show Go p e below _ (T.setTop (mkF m 136 #[.val (.long j0), .second, .val (.int i1), .val (.int i2), .val (.int i3), .val (.int i4), .val (.int i5), .val (.int (3 : Int32)), .val (.ref b7_47), .val (.int v62_52), .val (.ref eEXIT), .val (.ref b110_56)] [.null]))
          refine g_nonnullN X at_136 (pc' := 139) rfl ?_
          refine g_iconst X (1 : Int32) at_139 (pc' := 140) rfl rfl ?_
          refine g_goto X at_140 (pc' := 144) (by decide) (by decide) ?_
          refine g_ireturnN X (t := .boolean) (by simp) at_144 hret hlk (by decide) (by decide) ?_
          exact ⟨rfl, N⟩
        · skip
          refine g_icY X at_80 (feq hc80_55).2 (pc' := 91) (by decide) (by decide) ?_
          refine g_iload X at_91 (pc' := 93) rfl rfl ?_
          refine g_iconst X (2 : Int32) at_93 (pc' := 94) rfl rfl ?_
          by_cases hc94_57 : v62_52 = (2 : Int32)
          · skip
            refine g_icN X at_94 (teq hc94_57).2 (pc' := 97) rfl ?_
            refine g_getstatic X (host := "") (Or.inl (tb hw 53 rfl)) Via.refl S_LEADER at_97 (pc' := 100) rfl ?_
            intro T X
            refine g_astore X at_100 (pc' := 102) (Ls' := #[.val (.long j0), .second, .val (.int i1), .val (.int i2), .val (.int i3), .val (.int i4), .val (.int i5), .val (.int (3 : Int32)), .val (.ref b7_47), .val (.int v62_52), .val (.ref eLEADER), .unset]) rfl rfl rfl ?_
            refine g_goto X at_102 (pc' := 110) (by decide) (by decide) ?_
            refine g_new X (tb hw 4 rfl) (tb hw 5 rfl) (tb hw 6 rfl) at_110 (pc' := 113) rfl (by decide) (by decide) ?_
            intro T h b110_58 s_b110_58 X Ex E_b110_58 D_b110_58
            have ne_eENTER_b110_58 : eENTER ≠ b110_58 := Nat.ne_of_lt (by rw [s_b110_58]; exact E_eENTER.lt)
            have ne_eEXIT_b110_58 : eEXIT ≠ b110_58 := Nat.ne_of_lt (by rw [s_b110_58]; exact E_eEXIT.lt)
            have ne_eDELIVER_b110_58 : eDELIVER ≠ b110_58 := Nat.ne_of_lt (by rw [s_b110_58]; exact E_eDELIVER.lt)
            have ne_eLEADER_b110_58 : eLEADER ≠ b110_58 := Nat.ne_of_lt (by rw [s_b110_58]; exact E_eLEADER.lt)
            have ne_b7_47_b110_58 : b7_47 ≠ b110_58 := Nat.ne_of_lt (by rw [s_b110_58]; exact E_b7_47.lt)
            have g_b110_58 : n0 ≤ b110_58 := by rw [s_b110_58]; exact Z0
            replace E_eENTER := E_eENTER.ext Ex
            replace E_eEXIT := E_eEXIT.ext Ex
            replace E_eDELIVER := E_eDELIVER.ext Ex
            replace E_eLEADER := E_eLEADER.ext Ex
            replace E_b7_47 := E_b7_47.ext Ex
            replace V_b7_47 := V_b7_47.ext Ex
            replace S_ENTER := S_ENTER.ext Ex
            replace S_EXIT := S_EXIT.ext Ex
            replace S_DELIVER := S_DELIVER.ext Ex
            replace S_LEADER := S_LEADER.ext Ex
            replace Z0 := Nat.le_trans Z0 Ex.1
            have F_b110_58_time : Fld Z h b110_58 "com/example/ratatoskr/ratatoskr/simulator/TraceEvent" "time" "J" (.long (0 : Int64)) := D_b110_58 (Or.inr (tb hw 17 rfl)) (ty := .long) (by decide)
            have F_b110_58_member : Fld Z h b110_58 "com/example/ratatoskr/ratatoskr/simulator/TraceEvent" "member" "I" (.int (0 : Int32)) := D_b110_58 (Or.inr (tb hw 19 rfl)) (ty := .int) (by decide)
            have F_b110_58_kind : Fld Z h b110_58 "com/example/ratatoskr/ratatoskr/simulator/TraceEvent" "kind" "Lcom/example/ratatoskr/ratatoskr/simulator/TraceEvent$Kind;" .null := D_b110_58 (Or.inr (tb hw 21 rfl)) (ty := (.object "com/example/ratatoskr/ratatoskr/simulator/TraceEvent$Kind")) (by decide)
            have F_b110_58_other : Fld Z h b110_58 "com/example/ratatoskr/ratatoskr/simulator/TraceEvent" "other" "I" (.int (0 : Int32)) := D_b110_58 (Or.inr (tb hw 23 rfl)) (ty := .int) (by decide)
            have F_b110_58_sequence : Fld Z h b110_58 "com/example/ratatoskr/ratatoskr/simulator/TraceEvent" "sequence" "J" (.long (0 : Int64)) := D_b110_58 (Or.inr (tb hw 25 rfl)) (ty := .long) (by decide)
            have F_b110_58_message : Fld Z h b110_58 "com/example/ratatoskr/ratatoskr/simulator/TraceEvent" "message" "[B" .null := D_b110_58 (Or.inr (tb hw 27 rfl)) (ty := (.array .byte)) (by decide)
            refine g_dup X at_113 (pc' := 114) rfl rfl ?_
            refine g_lloadN X at_114 (pc' := 115) rfl rfl ?_
            refine g_iloadN X at_115 (pc' := 116) rfl rfl ?_
            refine g_aload X at_116 (pc' := 118) rfl rfl rfl ?_
            refine g_special X (W := 1) (a := b110_58) [(.long j0), (.int i1), (.ref eLEADER)] [(.ref b110_58)] rfl (tb hw 7 rfl) (tb hw 8 rfl) (tb hw 6 rfl) (tb hw 9 rfl) (rC3 l Z aa hw [] b110_58 j0 i1 eLEADER _ n0 Z0 E_b110_58 F_b110_58_time F_b110_58_member F_b110_58_kind F_b110_58_other F_b110_58_sequence F_b110_58_message g_b110_58) at_118 (pc' := 121) rfl (by decide) (by decide) (by decide) rfl rfl rfl (lenOf pd_1 rfl) (Nat.le_refl _) (by decide) (by decide) ?_
            intro v T L X q
            obtain ⟨rfl, Nq, Kq, E_b110_58', F_b110_58_time', F_b110_58_member', F_b110_58_kind', F_b110_58_other', F_b110_58_sequence', F_b110_58_message'⟩ := q
            replace N := N.app Nq
            replace E_eENTER := E_eENTER.keep Kq
            replace E_eEXIT := E_eEXIT.keep Kq
            replace E_eDELIVER := E_eDELIVER.keep Kq
            replace E_eLEADER := E_eLEADER.keep Kq
            replace E_b7_47 := E_b7_47.keep Kq
            replace V_b7_47 := V_b7_47.keep Kq (ninS ne_b7_47_b110_58 nin0)
            replace Z0 := Nat.le_trans Z0 Kq.1
            replace E_b110_58 := E_b110_58'
            replace F_b110_58_time := F_b110_58_time'
            replace F_b110_58_member := F_b110_58_member'
            replace F_b110_58_kind := F_b110_58_kind'
            replace F_b110_58_other := F_b110_58_other'
            replace F_b110_58_sequence := F_b110_58_sequence'
            replace F_b110_58_message := F_b110_58_message'
            show Go p e below _ (T.setTop (mkF m 121 #[.val (.long j0), .second, .val (.int i1), .val (.int i2), .val (.int i3), .val (.int i4), .val (.int i5), .val (.int (3 : Int32)), .val (.ref b7_47), .val (.int v62_52), .val (.ref eLEADER), .unset] [(.ref b110_58)]))
            refine g_astore X at_121 (pc' := 123) (Ls' := #[.val (.long j0), .second, .val (.int i1), .val (.int i2), .val (.int i3), .val (.int i4), .val (.int i5), .val (.int (3 : Int32)), .val (.ref b7_47), .val (.int v62_52), .val (.ref eLEADER), .val (.ref b110_58)]) rfl rfl rfl ?_
            refine g_aload X at_123 (pc' := 125) rfl rfl rfl ?_
            refine g_virtual X (W := 0) (a := b110_58) (C := "com/example/ratatoskr/ratatoskr/simulator/TraceEvent") [] [] E_b110_58 (tb hw 28 rfl) (tb hw 29 rfl) (tb hw 31 rfl) (tb hw 30 rfl) (tb hw 6 rfl) (tb hw 32 rfl) (rGn l Z aa hw [] b110_58 _ E_b110_58 F_b110_58_message) at_125 (pc' := 128) rfl (by decide) (by decide) (by decide) rfl rfl rfl (lenOf pd_2 rfl) (Nat.le_refl _) (by decide) (by decide) ?_
            intro v T L X q
            obtain ⟨rfl, X⟩ := pureX X q
            show Go p e below _ (T.setTop (mkF m 128 #[.val (.long j0), .second, .val (.int i1), .val (.int i2), .val (.int i3), .val (.int i4), .val (.int i5), .val (.int (3 : Int32)), .val (.ref b7_47), .val (.int v62_52), .val (.ref eLEADER), .val (.ref b110_58)] [.null]))
            refine g_nonnullN X at_128 (pc' := 131) rfl ?_
            refine g_aload X at_131 (pc' := 133) rfl rfl rfl ?_
            refine g_virtual X (W := 0) (a := b110_58) (C := "com/example/ratatoskr/ratatoskr/simulator/TraceEvent") [] [] E_b110_58 (tb hw 28 rfl) (tb hw 29 rfl) (tb hw 31 rfl) (tb hw 30 rfl) (tb hw 6 rfl) (tb hw 32 rfl) (rGn l Z aa hw [] b110_58 _ E_b110_58 F_b110_58_message) at_133 (pc' := 136) rfl (by decide) (by decide) (by decide) rfl rfl rfl (lenOf pd_2 rfl) (Nat.le_refl _) (by decide) (by decide) ?_
            intro v T L X q
            obtain ⟨rfl, X⟩ := pureX X q
            show Go p e below _ (T.setTop (mkF m 136 #[.val (.long j0), .second, .val (.int i1), .val (.int i2), .val (.int i3), .val (.int i4), .val (.int i5), .val (.int (3 : Int32)), .val (.ref b7_47), .val (.int v62_52), .val (.ref eLEADER), .val (.ref b110_58)] [.null]))
            refine g_nonnullN X at_136 (pc' := 139) rfl ?_
            refine g_iconst X (1 : Int32) at_139 (pc' := 140) rfl rfl ?_
            refine g_goto X at_140 (pc' := 144) (by decide) (by decide) ?_
            refine g_ireturnN X (t := .boolean) (by simp) at_144 hret hlk (by decide) (by decide) ?_
            exact ⟨rfl, N⟩
          · skip
            refine g_icY X at_94 (feq hc94_57).2 (pc' := 105) (by decide) (by decide) ?_
            refine g_getstatic X (host := "") (Or.inl (tb hw 55 rfl)) Via.refl S_DELIVER at_105 (pc' := 108) rfl ?_
            intro T X
            refine g_astore X at_108 (pc' := 110) (Ls' := #[.val (.long j0), .second, .val (.int i1), .val (.int i2), .val (.int i3), .val (.int i4), .val (.int i5), .val (.int (3 : Int32)), .val (.ref b7_47), .val (.int v62_52), .val (.ref eDELIVER), .unset]) rfl rfl rfl ?_
            refine g_new X (tb hw 4 rfl) (tb hw 5 rfl) (tb hw 6 rfl) at_110 (pc' := 113) rfl (by decide) (by decide) ?_
            intro T h b110_59 s_b110_59 X Ex E_b110_59 D_b110_59
            have ne_eENTER_b110_59 : eENTER ≠ b110_59 := Nat.ne_of_lt (by rw [s_b110_59]; exact E_eENTER.lt)
            have ne_eEXIT_b110_59 : eEXIT ≠ b110_59 := Nat.ne_of_lt (by rw [s_b110_59]; exact E_eEXIT.lt)
            have ne_eDELIVER_b110_59 : eDELIVER ≠ b110_59 := Nat.ne_of_lt (by rw [s_b110_59]; exact E_eDELIVER.lt)
            have ne_eLEADER_b110_59 : eLEADER ≠ b110_59 := Nat.ne_of_lt (by rw [s_b110_59]; exact E_eLEADER.lt)
            have ne_b7_47_b110_59 : b7_47 ≠ b110_59 := Nat.ne_of_lt (by rw [s_b110_59]; exact E_b7_47.lt)
            have g_b110_59 : n0 ≤ b110_59 := by rw [s_b110_59]; exact Z0
            replace E_eENTER := E_eENTER.ext Ex
            replace E_eEXIT := E_eEXIT.ext Ex
            replace E_eDELIVER := E_eDELIVER.ext Ex
            replace E_eLEADER := E_eLEADER.ext Ex
            replace E_b7_47 := E_b7_47.ext Ex
            replace V_b7_47 := V_b7_47.ext Ex
            replace S_ENTER := S_ENTER.ext Ex
            replace S_EXIT := S_EXIT.ext Ex
            replace S_DELIVER := S_DELIVER.ext Ex
            replace S_LEADER := S_LEADER.ext Ex
            replace Z0 := Nat.le_trans Z0 Ex.1
            have F_b110_59_time : Fld Z h b110_59 "com/example/ratatoskr/ratatoskr/simulator/TraceEvent" "time" "J" (.long (0 : Int64)) := D_b110_59 (Or.inr (tb hw 17 rfl)) (ty := .long) (by decide)
            have F_b110_59_member : Fld Z h b110_59 "com/example/ratatoskr/ratatoskr/simulator/TraceEvent" "member" "I" (.int (0 : Int32)) := D_b110_59 (Or.inr (tb hw 19 rfl)) (ty := .int) (by decide)
            have F_b110_59_kind : Fld Z h b110_59 "com/example/ratatoskr/ratatoskr/simulator/TraceEvent" "kind" "Lcom/example/ratatoskr/ratatoskr/simulator/TraceEvent$Kind;" .null := D_b110_59 (Or.inr (tb hw 21 rfl)) (ty := (.object "com/example/ratatoskr/ratatoskr/simulator/TraceEvent$Kind")) (by decide)
            have F_b110_59_other : Fld Z h b110_59 "com/example/ratatoskr/ratatoskr/simulator/TraceEvent" "other" "I" (.int (0 : Int32)) := D_b110_59 (Or.inr (tb hw 23 rfl)) (ty := .int) (by decide)
            have F_b110_59_sequence : Fld Z h b110_59 "com/example/ratatoskr/ratatoskr/simulator/TraceEvent" "sequence" "J" (.long (0 : Int64)) := D_b110_59 (Or.inr (tb hw 25 rfl)) (ty := .long) (by decide)
            have F_b110_59_message : Fld Z h b110_59 "com/example/ratatoskr/ratatoskr/simulator/TraceEvent" "message" "[B" .null := D_b110_59 (Or.inr (tb hw 27 rfl)) (ty := (.array .byte)) (by decide)
            refine g_dup X at_113 (pc' := 114) rfl rfl ?_
            refine g_lloadN X at_114 (pc' := 115) rfl rfl ?_
            refine g_iloadN X at_115 (pc' := 116) rfl rfl ?_
            refine g_aload X at_116 (pc' := 118) rfl rfl rfl ?_
            refine g_special X (W := 1) (a := b110_59) [(.long j0), (.int i1), (.ref eDELIVER)] [(.ref b110_59)] rfl (tb hw 7 rfl) (tb hw 8 rfl) (tb hw 6 rfl) (tb hw 9 rfl) (rC3 l Z aa hw [] b110_59 j0 i1 eDELIVER _ n0 Z0 E_b110_59 F_b110_59_time F_b110_59_member F_b110_59_kind F_b110_59_other F_b110_59_sequence F_b110_59_message g_b110_59) at_118 (pc' := 121) rfl (by decide) (by decide) (by decide) rfl rfl rfl (lenOf pd_1 rfl) (Nat.le_refl _) (by decide) (by decide) ?_
            intro v T L X q
            obtain ⟨rfl, Nq, Kq, E_b110_59', F_b110_59_time', F_b110_59_member', F_b110_59_kind', F_b110_59_other', F_b110_59_sequence', F_b110_59_message'⟩ := q
            replace N := N.app Nq
            replace E_eENTER := E_eENTER.keep Kq
            replace E_eEXIT := E_eEXIT.keep Kq
            replace E_eDELIVER := E_eDELIVER.keep Kq
            replace E_eLEADER := E_eLEADER.keep Kq
            replace E_b7_47 := E_b7_47.keep Kq
            replace V_b7_47 := V_b7_47.keep Kq (ninS ne_b7_47_b110_59 nin0)
            replace Z0 := Nat.le_trans Z0 Kq.1
            replace E_b110_59 := E_b110_59'
            replace F_b110_59_time := F_b110_59_time'
            replace F_b110_59_member := F_b110_59_member'
            replace F_b110_59_kind := F_b110_59_kind'
            replace F_b110_59_other := F_b110_59_other'
            replace F_b110_59_sequence := F_b110_59_sequence'
            replace F_b110_59_message := F_b110_59_message'
            show Go p e below _ (T.setTop (mkF m 121 #[.val (.long j0), .second, .val (.int i1), .val (.int i2), .val (.int i3), .val (.int i4), .val (.int i5), .val (.int (3 : Int32)), .val (.ref b7_47), .val (.int v62_52), .val (.ref eDELIVER), .unset] [(.ref b110_59)]))
            refine g_astore X at_121 (pc' := 123) (Ls' := #[.val (.long j0), .second, .val (.int i1), .val (.int i2), .val (.int i3), .val (.int i4), .val (.int i5), .val (.int (3 : Int32)), .val (.ref b7_47), .val (.int v62_52), .val (.ref eDELIVER), .val (.ref b110_59)]) rfl rfl rfl ?_
            refine g_aload X at_123 (pc' := 125) rfl rfl rfl ?_
            refine g_virtual X (W := 0) (a := b110_59) (C := "com/example/ratatoskr/ratatoskr/simulator/TraceEvent") [] [] E_b110_59 (tb hw 28 rfl) (tb hw 29 rfl) (tb hw 31 rfl) (tb hw 30 rfl) (tb hw 6 rfl) (tb hw 32 rfl) (rGn l Z aa hw [] b110_59 _ E_b110_59 F_b110_59_message) at_125 (pc' := 128) rfl (by decide) (by decide) (by decide) rfl rfl rfl (lenOf pd_2 rfl) (Nat.le_refl _) (by decide) (by decide) ?_
            intro v T L X q
            obtain ⟨rfl, X⟩ := pureX X q
            show Go p e below _ (T.setTop (mkF m 128 #[.val (.long j0), .second, .val (.int i1), .val (.int i2), .val (.int i3), .val (.int i4), .val (.int i5), .val (.int (3 : Int32)), .val (.ref b7_47), .val (.int v62_52), .val (.ref eDELIVER), .val (.ref b110_59)] [.null]))
            refine g_nonnullN X at_128 (pc' := 131) rfl ?_
            refine g_aload X at_131 (pc' := 133) rfl rfl rfl ?_
            refine g_virtual X (W := 0) (a := b110_59) (C := "com/example/ratatoskr/ratatoskr/simulator/TraceEvent") [] [] E_b110_59 (tb hw 28 rfl) (tb hw 29 rfl) (tb hw 31 rfl) (tb hw 30 rfl) (tb hw 6 rfl) (tb hw 32 rfl) (rGn l Z aa hw [] b110_59 _ E_b110_59 F_b110_59_message) at_133 (pc' := 136) rfl (by decide) (by decide) (by decide) rfl rfl rfl (lenOf pd_2 rfl) (Nat.le_refl _) (by decide) (by decide) ?_
            intro v T L X q
            obtain ⟨rfl, X⟩ := pureX X q
            show Go p e below _ (T.setTop (mkF m 136 #[.val (.long j0), .second, .val (.int i1), .val (.int i2), .val (.int i3), .val (.int i4), .val (.int i5), .val (.int (3 : Int32)), .val (.ref b7_47), .val (.int v62_52), .val (.ref eDELIVER), .val (.ref b110_59)] [.null]))
            refine g_nonnullN X at_136 (pc' := 139) rfl ?_
            refine g_iconst X (1 : Int32) at_139 (pc' := 140) rfl rfl ?_
            refine g_goto X at_140 (pc' := 144) (by decide) (by decide) ?_
            refine g_ireturnN X (t := .boolean) (by simp) at_144 hret hlk (by decide) (by decide) ?_
            exact ⟨rfl, N⟩
    · skip
      refine g_ifY X at_54 ((if0 _ _).trans (feq hc54_51).2) (pc' := 145) (by decide) (by decide) ?_
      refine g_new X (tb hw 4 rfl) (tb hw 5 rfl) (tb hw 6 rfl) at_145 (pc' := 148) rfl (by decide) (by decide) ?_
      intro T h b145_60 s_b145_60 X Ex E_b145_60 D_b145_60
      have ne_eENTER_b145_60 : eENTER ≠ b145_60 := Nat.ne_of_lt (by rw [s_b145_60]; exact E_eENTER.lt)
      have ne_eEXIT_b145_60 : eEXIT ≠ b145_60 := Nat.ne_of_lt (by rw [s_b145_60]; exact E_eEXIT.lt)
      have ne_eDELIVER_b145_60 : eDELIVER ≠ b145_60 := Nat.ne_of_lt (by rw [s_b145_60]; exact E_eDELIVER.lt)
      have ne_eLEADER_b145_60 : eLEADER ≠ b145_60 := Nat.ne_of_lt (by rw [s_b145_60]; exact E_eLEADER.lt)
      have ne_b7_47_b145_60 : b7_47 ≠ b145_60 := Nat.ne_of_lt (by rw [s_b145_60]; exact E_b7_47.lt)
      have g_b145_60 : n0 ≤ b145_60 := by rw [s_b145_60]; exact Z0
      replace E_eENTER := E_eENTER.ext Ex
      replace E_eEXIT := E_eEXIT.ext Ex
      replace E_eDELIVER := E_eDELIVER.ext Ex
      replace E_eLEADER := E_eLEADER.ext Ex
      replace E_b7_47 := E_b7_47.ext Ex
      replace V_b7_47 := V_b7_47.ext Ex
      replace S_ENTER := S_ENTER.ext Ex
      replace S_EXIT := S_EXIT.ext Ex
      replace S_DELIVER := S_DELIVER.ext Ex
      replace S_LEADER := S_LEADER.ext Ex
      replace Z0 := Nat.le_trans Z0 Ex.1
      have F_b145_60_time : Fld Z h b145_60 "com/example/ratatoskr/ratatoskr/simulator/TraceEvent" "time" "J" (.long (0 : Int64)) := D_b145_60 (Or.inr (tb hw 17 rfl)) (ty := .long) (by decide)
      have F_b145_60_member : Fld Z h b145_60 "com/example/ratatoskr/ratatoskr/simulator/TraceEvent" "member" "I" (.int (0 : Int32)) := D_b145_60 (Or.inr (tb hw 19 rfl)) (ty := .int) (by decide)
      have F_b145_60_kind : Fld Z h b145_60 "com/example/ratatoskr/ratatoskr/simulator/TraceEvent" "kind" "Lcom/example/ratatoskr/ratatoskr/simulator/TraceEvent$Kind;" .null := D_b145_60 (Or.inr (tb hw 21 rfl)) (ty := (.object "com/example/ratatoskr/ratatoskr/simulator/TraceEvent$Kind")) (by decide)
      have F_b145_60_other : Fld Z h b145_60 "com/example/ratatoskr/ratatoskr/simulator/TraceEvent" "other" "I" (.int (0 : Int32)) := D_b145_60 (Or.inr (tb hw 23 rfl)) (ty := .int) (by decide)
      have F_b145_60_sequence : Fld Z h b145_60 "com/example/ratatoskr/ratatoskr/simulator/TraceEvent" "sequence" "J" (.long (0 : Int64)) := D_b145_60 (Or.inr (tb hw 25 rfl)) (ty := .long) (by decide)
      have F_b145_60_message : Fld Z h b145_60 "com/example/ratatoskr/ratatoskr/simulator/TraceEvent" "message" "[B" .null := D_b145_60 (Or.inr (tb hw 27 rfl)) (ty := (.array .byte)) (by decide)
      refine g_dup X at_148 (pc' := 149) rfl rfl ?_
      refine g_lloadN X at_149 (pc' := 150) rfl rfl ?_
      refine g_iloadN X at_150 (pc' := 151) rfl rfl ?_
      refine g_iloadN X at_151 (pc' := 152) rfl rfl ?_
      refine g_iloadN X at_152 (pc' := 153) rfl rfl ?_
      refine g_ixor X at_153 (pc' := 154) rfl ?_
      refine g_lloadN X at_154 (pc' := 155) rfl rfl ?_
      refine g_aload X at_155 (pc' := 157) rfl rfl rfl ?_
      refine g_special X (W := 1) (a := b145_60) [(.long j0), (.int i1), (.int (i1 ^^^ i2)), (.long j0), (.ref b7_47)] [(.ref b145_60)] rfl (tb hw 35 rfl) (tb hw 36 rfl) (tb hw 6 rfl) (tb hw 37 rfl) (rC5 l Z aa hw [] b145_60 j0 i1 (i1 ^^^ i2) j0 b7_47 eDELIVER _ n0 Z0 E_b145_60 F_b145_60_time F_b145_60_member F_b145_60_kind F_b145_60_other F_b145_60_sequence F_b145_60_message g_b145_60 S_DELIVER) at_157 (pc' := 160) rfl (by decide) (by decide) (by decide) rfl rfl rfl (lenOf pd_3 rfl) (Nat.le_refl _) (by decide) (by decide) ?_
      intro v T L X q
      obtain ⟨rfl, Nq, Kq, E_b145_60', F_b145_60_time', F_b145_60_member', F_b145_60_kind', F_b145_60_other', F_b145_60_sequence', F_b145_60_message'⟩ := q
      replace N := N.app Nq
      replace E_eENTER := E_eENTER.keep Kq
      replace E_eEXIT := E_eEXIT.keep Kq
      replace E_eDELIVER := E_eDELIVER.keep Kq
      replace E_eLEADER := E_eLEADER.keep Kq
      replace E_b7_47 := E_b7_47.keep Kq
      replace V_b7_47 := V_b7_47.keep Kq (ninS ne_b7_47_b145_60 nin0)
      replace Z0 := Nat.le_trans Z0 Kq.1
      replace E_b145_60 := E_b145_60'
      replace F_b145_60_time := F_b145_60_time'
      replace F_b145_60_member := F_b145_60_member'
      replace F_b145_60_kind := F_b145_60_kind'
      replace F_b145_60_other := F_b145_60_other'
      replace F_b145_60_sequence := F_b145_60_sequence'
      replace F_b145_60_message := F_b145_60_message'
      show Go p e below _ (T.setTop (mkF m 160 #[.val (.long j0), .second, .val (.int i1), .val (.int i2), .val (.int i3), .val (.int i4), .val (.int i5), .val (.int (3 : Int32)), .val (.ref b7_47), .unset, .unset, .unset] [(.ref b145_60)]))
      refine g_astore X at_160 (pc' := 162) (Ls' := #[.val (.long j0), .second, .val (.int i1), .val (.int i2), .val (.int i3), .val (.int i4), .val (.int i5), .val (.int (3 : Int32)), .val (.ref b7_47), .val (.ref b145_60), .unset, .unset]) rfl rfl rfl ?_
      refine g_aload X at_162 (pc' := 164) rfl rfl rfl ?_
      refine g_virtual X (W := 0) (a := b145_60) (C := "com/example/ratatoskr/ratatoskr/simulator/TraceEvent") [] [] E_b145_60 (tb hw 28 rfl) (tb hw 29 rfl) (tb hw 31 rfl) (tb hw 30 rfl) (tb hw 6 rfl) (tb hw 32 rfl) (rG3 l Z aa hw [] b145_60 b7_47 (nar .byte v22_48) (nar .byte v35_49) (nar .byte v48_50) _ n0 Z0 E_b145_60 F_b145_60_message E_b7_47 V_b7_47 (fits_nar_byte _) (fits_nar_byte _) (fits_nar_byte _)) at_164 (pc' := 167) rfl (by decide) (by decide) (by decide) rfl rfl rfl (lenOf pd_2 rfl) (Nat.le_refl _) (by decide) (by decide) ?_
      intro v T L X q
      obtain ⟨b167_61, rfl, Nq, Kq, szq_b167_61, g_b167_61, E_b167_61, V_b167_61⟩ := q
      have ne_eENTER_b167_61 : eENTER ≠ b167_61 := Nat.ne_of_lt (Nat.lt_of_lt_of_le E_eENTER.lt szq_b167_61)
      have ne_eEXIT_b167_61 : eEXIT ≠ b167_61 := Nat.ne_of_lt (Nat.lt_of_lt_of_le E_eEXIT.lt szq_b167_61)
      have ne_eDELIVER_b167_61 : eDELIVER ≠ b167_61 := Nat.ne_of_lt (Nat.lt_of_lt_of_le E_eDELIVER.lt szq_b167_61)
      have ne_eLEADER_b167_61 : eLEADER ≠ b167_61 := Nat.ne_of_lt (Nat.lt_of_lt_of_le E_eLEADER.lt szq_b167_61)
      have ne_b7_47_b167_61 : b7_47 ≠ b167_61 := Nat.ne_of_lt (Nat.lt_of_lt_of_le E_b7_47.lt szq_b167_61)
      have ne_b145_60_b167_61 : b145_60 ≠ b167_61 := Nat.ne_of_lt (Nat.lt_of_lt_of_le E_b145_60.lt szq_b167_61)
      replace N := N.app Nq
      replace E_eENTER := E_eENTER.keep Kq
      replace E_eEXIT := E_eEXIT.keep Kq
      replace E_eDELIVER := E_eDELIVER.keep Kq
      replace E_eLEADER := E_eLEADER.keep Kq
      replace E_b7_47 := E_b7_47.keep Kq
      replace V_b7_47 := V_b7_47.keep Kq nin0
      replace E_b145_60 := E_b145_60.keep Kq
      replace F_b145_60_time := F_b145_60_time.keep Kq nin0
      replace F_b145_60_member := F_b145_60_member.keep Kq nin0
      replace F_b145_60_kind := F_b145_60_kind.keep Kq nin0
      replace F_b145_60_other := F_b145_60_other.keep Kq nin0
      replace F_b145_60_sequence := F_b145_60_sequence.keep Kq nin0
      replace F_b145_60_message := F_b145_60_message.keep Kq nin0
      replace Z0 := Nat.le_trans Z0 Kq.1
      show Go p e below _ (T.setTop (mkF m 167 #[.val (.long j0), .second, .val (.int i1), .val (.int i2), .val (.int i3), .val (.int i4), .val (.int i5), .val (.int (3 : Int32)), .val (.ref b7_47), .val (.ref b145_60), .unset, .unset] [(.ref b167_61)]))
      refine g_astore X at_167 (pc' := 169) (Ls' := #[.val (.long j0), .second, .val (.int i1), .val (.int i2), .val (.int i3), .val (.int i4), .val (.int i5), .val (.int (3 : Int32)), .val (.ref b7_47), .val (.ref b145_60), .val (.ref b167_61), .unset]) rfl rfl rfl ?_
      refine g_aload X at_169 (pc' := 171) rfl rfl rfl ?_
      refine g_nullN X at_171 (pc' := 174) rfl ?_
      refine g_aload X at_174 (pc' := 176) rfl rfl rfl ?_
      refine g_aload X at_176 (pc' := 178) rfl rfl rfl ?_
      refine g_acmp X at_178 (pc' := 181) (same := false) rfl rfl (decide_eq_false fun q => (Ne.symm ne_b7_47_b167_61) (Value.ref.inj q)) (by decide) (by decide) ?_
      refine g_aload X at_181 (pc' := 183) rfl rfl rfl ?_
      refine g_arraylength X V_b167_61 at_183 (pc' := 184) rfl (z := (3 : Int32)) rfl ?_
      refine g_iload X at_184 (pc' := 186) rfl rfl ?_
      refine g_icY X at_186 (teq (show (3 : Int32) = (3 : Int32) from (by decide))).1 (pc' := 191) (by decide) (by decide) ?_
      refine g_aload X at_191 (pc' := 193) rfl rfl rfl ?_
      refine g_iload X at_193 (pc' := 195) rfl rfl ?_
      refine g_iload X at_195 (pc' := 197) rfl rfl ?_
      refine g_iload X at_197 (pc' := 199) rfl rfl ?_
      refine g_iload X at_199 (pc' := 201) rfl rfl ?_
      refine g_static X (W := 0) [(.ref b167_61), (.int (3 : Int32)), (.int i3), (.int i4), (.int i5)] [] (tb hw 49 rfl) (tb hw 50 rfl) (tb hw 51 rfl) (tb hw 52 rfl) (rH3 l Z aa hw [] b167_61 i3 i4 i5 (nar .byte v22_48) (nar .byte v35_49) (nar .byte v48_50) _ V_b167_61) at_201 (pc' := 204) rfl (by decide) (by decide) (by decide) rfl rfl rfl (lenOf pd_4 rfl) (Nat.le_refl _) (by decide) (by decide) ?_
      intro v T L X q
      obtain ⟨rfl, X⟩ := pureX X q
      show Go p e below _ (T.setTop (mkF m 204 #[.val (.long j0), .second, .val (.int i1), .val (.int i2), .val (.int i3), .val (.int i4), .val (.int i5), .val (.int (3 : Int32)), .val (.ref b7_47), .val (.ref b145_60), .val (.ref b167_61), .unset] [(.int (b2i (fH3 i3 i4 i5 (nar .byte v22_48) (nar .byte v35_49) (nar .byte v48_50))))]))
      refine g_ifY X at_204 ((if0 _ _).trans (feq (bne (show (fH3 i3 i4 i5 (nar .byte v22_48) (nar .byte v35_49) (nar .byte v48_50)) = true from (by subst_vars; simp [fH3, nb])))).2) (pc' := 209) (by decide) (by decide) ?_
      refine g_iload X at_209 (pc' := 211) rfl rfl ?_
      refine g_ifN X at_211 ((if0 _ _).trans (tlt (show (0 : Int32) < (3 : Int32) from (by decide))).2.2.2) (pc' := 214) rfl ?_
      refine g_aload X at_214 (pc' := 216) rfl rfl rfl ?_
      refine g_iconst X (0 : Int32) at_216 (pc' := 217) rfl rfl ?_
      refine g_aload X at_217 (pc' := 219) rfl rfl rfl ?_
      refine g_iconst X (0 : Int32) at_219 (pc' := 220) rfl rfl ?_
      refine g_baload X V_b167_61 0 at_220 (pc' := 221) rfl (by decide) (by decide) rfl ?_
      refine g_iconst X (-1 : Int32) at_221 (pc' := 222) rfl rfl ?_
      refine g_ixor X at_222 (pc' := 223) rfl ?_
      refine g_i2b X at_223 (pc' := 224) rfl ?_
      generalize ev224_62 : (((nar .byte v22_48) ^^^ (-1 : Int32)).toInt8.toInt32) = v224_62
      refine g_bastore X V_b167_61 0 at_224 (pc' := 225) rfl (by decide) (by decide) (Nat.le_of_ble_eq_true rfl) ?_
      intro T h X W V_b167_61
      replace V_b167_61 : Av Z h b167_61 .byte [(.int (nar .byte v224_62)), (.int (nar .byte v35_49)), (.int (nar .byte v48_50))] := V_b167_61
      replace E_eENTER := E_eENTER.wr W
      replace E_eEXIT := E_eEXIT.wr W
      replace E_eDELIVER := E_eDELIVER.wr W
      replace E_eLEADER := E_eLEADER.wr W
      replace E_b7_47 := E_b7_47.wr W
      replace V_b7_47 := V_b7_47.other W ne_b7_47_b167_61
      replace E_b145_60 := E_b145_60.wr W
      replace F_b145_60_time := F_b145_60_time.other W (Or.inl ne_b145_60_b167_61)
      replace F_b145_60_member := F_b145_60_member.other W (Or.inl ne_b145_60_b167_61)
      replace F_b145_60_kind := F_b145_60_kind.other W (Or.inl ne_b145_60_b167_61)
      replace F_b145_60_other := F_b145_60_other.other W (Or.inl ne_b145_60_b167_61)
      replace F_b145_60_sequence := F_b145_60_sequence.other W (Or.inl ne_b145_60_b167_61)
      replace F_b145_60_message := F_b145_60_message.other W (Or.inl ne_b145_60_b167_61)
      replace E_b167_61 := E_b167_61.wr W
      replace Z0 := Nat.le_trans Z0 (Nat.le_of_eq W.size.symm)
      replace N := Fr.snoc X.1 N g_b167_61
      refine g_iload X at_225 (pc' := 227) rfl rfl ?_
      refine g_iconst X (1 : Int32) at_227 (pc' := 228) rfl rfl ?_
      refine g_icN X at_228 (tlt (show (1 : Int32) < (3 : Int32) from (by decide))).2.2.2 (pc' := 231) rfl ?_
      refine g_aload X at_231 (pc' := 233) rfl rfl rfl ?_
      refine g_iconst X (1 : Int32) at_233 (pc' := 234) rfl rfl ?_
      refine g_aload X at_234 (pc' := 236) rfl rfl rfl ?_
      refine g_iconst X (1 : Int32) at_236 (pc' := 237) rfl rfl ?_
      refine g_baload X V_b167_61 1 at_237 (pc' := 238) rfl (by decide) (by decide) rfl ?_
      refine g_iconst X (-1 : Int32) at_238 (pc' := 239) rfl rfl ?_
      refine g_ixor X at_239 (pc' := 240) rfl ?_
      refine g_i2b X at_240 (pc' := 241) rfl ?_
      generalize ev241_63 : (((nar .byte v35_49) ^^^ (-1 : Int32)).toInt8.toInt32) = v241_63
      refine g_bastore X V_b167_61 1 at_241 (pc' := 242) rfl (by decide) (by decide) (Nat.le_of_ble_eq_true rfl) ?_
      intro T h X W V_b167_61
      replace V_b167_61 : Av Z h b167_61 .byte [(.int (nar .byte v224_62)), (.int (nar .byte v241_63)), (.int (nar .byte v48_50))] := V_b167_61
      replace E_eENTER := E_eENTER.wr W
      replace E_eEXIT := E_eEXIT.wr W
      replace E_eDELIVER := E_eDELIVER.wr W
      replace E_eLEADER := E_eLEADER.wr W
      replace E_b7_47 := E_b7_47.wr W
      replace V_b7_47 := V_b7_47.other W ne_b7_47_b167_61
      replace E_b145_60 := E_b145_60.wr W
      replace F_b145_60_time := F_b145_60_time.other W (Or.inl ne_b145_60_b167_61)
      replace F_b145_60_member := F_b145_60_member.other W (Or.inl ne_b145_60_b167_61)
      replace F_b145_60_kind := F_b145_60_kind.other W (Or.inl ne_b145_60_b167_61)
      replace F_b145_60_other := F_b145_60_other.other W (Or.inl ne_b145_60_b167_61)
      replace F_b145_60_sequence := F_b145_60_sequence.other W (Or.inl ne_b145_60_b167_61)
      replace F_b145_60_message := F_b145_60_message.other W (Or.inl ne_b145_60_b167_61)
      replace E_b167_61 := E_b167_61.wr W
      replace Z0 := Nat.le_trans Z0 (Nat.le_of_eq W.size.symm)
      replace N := Fr.snoc X.1 N g_b167_61
      refine g_iload X at_242 (pc' := 244) rfl rfl ?_
      refine g_iconst X (2 : Int32) at_244 (pc' := 245) rfl rfl ?_
      refine g_icN X at_245 (tlt (show (2 : Int32) < (3 : Int32) from (by decide))).2.2.2 (pc' := 248) rfl ?_
      refine g_aload X at_248 (pc' := 250) rfl rfl rfl ?_
      refine g_iconst X (2 : Int32) at_250 (pc' := 251) rfl rfl ?_
      refine g_aload X at_251 (pc' := 253) rfl rfl rfl ?_
      refine g_iconst X (2 : Int32) at_253 (pc' := 254) rfl rfl ?_
      refine g_baload X V_b167_61 2 at_254 (pc' := 255) rfl (by decide) (by decide) rfl ?_
      refine g_iconst X (-1 : Int32) at_255 (pc' := 256) rfl rfl ?_
      refine g_ixor X at_256 (pc' := 257) rfl ?_
      refine g_i2b X at_257 (pc' := 258) rfl ?_
      generalize ev258_64 : (((nar .byte v48_50) ^^^ (-1 : Int32)).toInt8.toInt32) = v258_64
      refine g_bastore X V_b167_61 2 at_258 (pc' := 259) rfl (by decide) (by decide) (Nat.le_of_ble_eq_true rfl) ?_
      intro T h X W V_b167_61
      replace V_b167_61 : Av Z h b167_61 .byte [(.int (nar .byte v224_62)), (.int (nar .byte v241_63)), (.int (nar .byte v258_64))] := V_b167_61
      replace E_eENTER := E_eENTER.wr W
      replace E_eEXIT := E_eEXIT.wr W
      replace E_eDELIVER := E_eDELIVER.wr W
      replace E_eLEADER := E_eLEADER.wr W
      replace E_b7_47 := E_b7_47.wr W
      replace V_b7_47 := V_b7_47.other W ne_b7_47_b167_61
      replace E_b145_60 := E_b145_60.wr W
      replace F_b145_60_time := F_b145_60_time.other W (Or.inl ne_b145_60_b167_61)
      replace F_b145_60_member := F_b145_60_member.other W (Or.inl ne_b145_60_b167_61)
      replace F_b145_60_kind := F_b145_60_kind.other W (Or.inl ne_b145_60_b167_61)
      replace F_b145_60_other := F_b145_60_other.other W (Or.inl ne_b145_60_b167_61)
      replace F_b145_60_sequence := F_b145_60_sequence.other W (Or.inl ne_b145_60_b167_61)
      replace F_b145_60_message := F_b145_60_message.other W (Or.inl ne_b145_60_b167_61)
      replace E_b167_61 := E_b167_61.wr W
      replace Z0 := Nat.le_trans Z0 (Nat.le_of_eq W.size.symm)
      replace N := Fr.snoc X.1 N g_b167_61
      refine g_aload X at_259 (pc' := 261) rfl rfl rfl ?_
      refine g_virtual X (W := 0) (a := b145_60) (C := "com/example/ratatoskr/ratatoskr/simulator/TraceEvent") [] [] E_b145_60 (tb hw 28 rfl) (tb hw 29 rfl) (tb hw 31 rfl) (tb hw 30 rfl) (tb hw 6 rfl) (tb hw 32 rfl) (rG3 l Z aa hw [] b145_60 b7_47 (nar .byte v22_48) (nar .byte v35_49) (nar .byte v48_50) _ n0 Z0 E_b145_60 F_b145_60_message E_b7_47 V_b7_47 (fits_nar_byte _) (fits_nar_byte _) (fits_nar_byte _)) at_261 (pc' := 264) rfl (by decide) (by decide) (by decide) rfl rfl rfl (lenOf pd_2 rfl) (Nat.le_refl _) (by decide) (by decide) ?_
      intro v T L X q
      obtain ⟨b264_65, rfl, Nq, Kq, szq_b264_65, g_b264_65, E_b264_65, V_b264_65⟩ := q
      have ne_eENTER_b264_65 : eENTER ≠ b264_65 := Nat.ne_of_lt (Nat.lt_of_lt_of_le E_eENTER.lt szq_b264_65)
      have ne_eEXIT_b264_65 : eEXIT ≠ b264_65 := Nat.ne_of_lt (Nat.lt_of_lt_of_le E_eEXIT.lt szq_b264_65)
      have ne_eDELIVER_b264_65 : eDELIVER ≠ b264_65 := Nat.ne_of_lt (Nat.lt_of_lt_of_le E_eDELIVER.lt szq_b264_65)
      have ne_eLEADER_b264_65 : eLEADER ≠ b264_65 := Nat.ne_of_lt (Nat.lt_of_lt_of_le E_eLEADER.lt szq_b264_65)
      have ne_b7_47_b264_65 : b7_47 ≠ b264_65 := Nat.ne_of_lt (Nat.lt_of_lt_of_le E_b7_47.lt szq_b264_65)
      have ne_b145_60_b264_65 : b145_60 ≠ b264_65 := Nat.ne_of_lt (Nat.lt_of_lt_of_le E_b145_60.lt szq_b264_65)
      have ne_b167_61_b264_65 : b167_61 ≠ b264_65 := Nat.ne_of_lt (Nat.lt_of_lt_of_le E_b167_61.lt szq_b264_65)
      replace N := N.app Nq
      replace E_eENTER := E_eENTER.keep Kq
      replace E_eEXIT := E_eEXIT.keep Kq
      replace E_eDELIVER := E_eDELIVER.keep Kq
      replace E_eLEADER := E_eLEADER.keep Kq
      replace E_b7_47 := E_b7_47.keep Kq
      replace V_b7_47 := V_b7_47.keep Kq nin0
      replace E_b145_60 := E_b145_60.keep Kq
      replace F_b145_60_time := F_b145_60_time.keep Kq nin0
      replace F_b145_60_member := F_b145_60_member.keep Kq nin0
      replace F_b145_60_kind := F_b145_60_kind.keep Kq nin0
      replace F_b145_60_other := F_b145_60_other.keep Kq nin0
      replace F_b145_60_sequence := F_b145_60_sequence.keep Kq nin0
      replace F_b145_60_message := F_b145_60_message.keep Kq nin0
      replace E_b167_61 := E_b167_61.keep Kq
      replace V_b167_61 := V_b167_61.keep Kq nin0
      replace Z0 := Nat.le_trans Z0 Kq.1
      show Go p e below _ (T.setTop (mkF m 264 #[.val (.long j0), .second, .val (.int i1), .val (.int i2), .val (.int i3), .val (.int i4), .val (.int i5), .val (.int (3 : Int32)), .val (.ref b7_47), .val (.ref b145_60), .val (.ref b167_61), .unset] [(.ref b264_65)]))
      refine g_astore X at_264 (pc' := 266) (Ls' := #[.val (.long j0), .second, .val (.int i1), .val (.int i2), .val (.int i3), .val (.int i4), .val (.int i5), .val (.int (3 : Int32)), .val (.ref b7_47), .val (.ref b145_60), .val (.ref b167_61), .val (.ref b264_65)]) rfl rfl rfl ?_
      refine g_aload X at_266 (pc' := 268) rfl rfl rfl ?_
      refine g_nullN X at_268 (pc' := 271) rfl ?_
      refine g_aload X at_271 (pc' := 273) rfl rfl rfl ?_
      refine g_aload X at_273 (pc' := 275) rfl rfl rfl ?_
      refine g_acmp X at_275 (pc' := 278) (same := false) rfl rfl (decide_eq_false fun q => (Ne.symm ne_b167_61_b264_65) (Value.ref.inj q)) (by decide) (by decide) ?_
      refine g_aload X at_278 (pc' := 280) rfl rfl rfl ?_
      refine g_aload X at_280 (pc' := 282) rfl rfl rfl ?_
      refine g_acmp X at_282 (pc' := 285) (same := false) rfl rfl (decide_eq_false fun q => (Ne.symm ne_b7_47_b264_65) (Value.ref.inj q)) (by decide) (by decide) ?_
      refine g_aload X at_285 (pc' := 287) rfl rfl rfl ?_
      refine g_arraylength X V_b264_65 at_287 (pc' := 288) rfl (z := (3 : Int32)) rfl ?_
      refine g_iload X at_288 (pc' := 290) rfl rfl ?_
      refine g_icY X at_290 (teq (show (3 : Int32) = (3 : Int32) from (by decide))).1 (pc' := 295) (by decide) (by decide) ?_
      refine g_aload X at_295 (pc' := 297) rfl rfl rfl ?_
      refine g_iload X at_297 (pc' := 299) rfl rfl ?_
      refine g_iload X at_299 (pc' := 301) rfl rfl ?_
      refine g_iload X at_301 (pc' := 303) rfl rfl ?_
      refine g_iload X at_303 (pc' := 305) rfl rfl ?_
      refine g_static X (W := 0) [(.ref b264_65), (.int (3 : Int32)), (.int i3), (.int i4), (.int i5)] [] (tb hw 49 rfl) (tb hw 50 rfl) (tb hw 51 rfl) (tb hw 52 rfl) (rH3 l Z aa hw [] b264_65 i3 i4 i5 (nar .byte v22_48) (nar .byte v35_49) (nar .byte v48_50) _ V_b264_65) at_305 (pc' := 308) rfl (by decide) (by decide) (by decide) rfl rfl rfl (lenOf pd_4 rfl) (Nat.le_refl _) (by decide) (by decide) ?_
      intro v T L X q
      obtain ⟨rfl, X⟩ := pureX X q
      show Go p e below _ (T.setTop (mkF m 308 #[.val (.long j0), .second, .val (.int i1), .val (.int i2), .val (.int i3), .val (.int i4), .val (.int i5), .val (.int (3 : Int32)), .val (.ref b7_47), .val (.ref b145_60), .val (.ref b167_61), .val (.ref b264_65)] [(.int (b2i (fH3 i3 i4 i5 (nar .byte v22_48) (nar .byte v35_49) (nar .byte v48_50))))]))
      refine g_ifN X at_308 ((if0 _ _).trans (feq (bne (show (fH3 i3 i4 i5 (nar .byte v22_48) (nar .byte v35_49) (nar .byte v48_50)) = true from (by subst_vars; simp [fH3, nb])))).1) (pc' := 311) rfl ?_
      refine g_aload X at_311 (pc' := 313) rfl rfl rfl ?_
      refine g_iload X at_313 (pc' := 315) rfl rfl ?_
      refine g_iload X at_315 (pc' := 317) rfl rfl ?_
      refine g_iload X at_317 (pc' := 319) rfl rfl ?_
      refine g_iload X at_319 (pc' := 321) rfl rfl ?_
      refine g_static X (W := 0) [(.ref b7_47), (.int (3 : Int32)), (.int i3), (.int i4), (.int i5)] [] (tb hw 49 rfl) (tb hw 50 rfl) (tb hw 51 rfl) (tb hw 52 rfl) (rH3 l Z aa hw [] b7_47 i3 i4 i5 (nar .byte v22_48) (nar .byte v35_49) (nar .byte v48_50) _ V_b7_47) at_321 (pc' := 324) rfl (by decide) (by decide) (by decide) rfl rfl rfl (lenOf pd_4 rfl) (Nat.le_refl _) (by decide) (by decide) ?_
      intro v T L X q
      obtain ⟨rfl, X⟩ := pureX X q
      show Go p e below _ (T.setTop (mkF m 324 #[.val (.long j0), .second, .val (.int i1), .val (.int i2), .val (.int i3), .val (.int i4), .val (.int i5), .val (.int (3 : Int32)), .val (.ref b7_47), .val (.ref b145_60), .val (.ref b167_61), .val (.ref b264_65)] [(.int (b2i (fH3 i3 i4 i5 (nar .byte v22_48) (nar .byte v35_49) (nar .byte v48_50))))]))
      refine g_ifN X at_324 ((if0 _ _).trans (feq (bne (show (fH3 i3 i4 i5 (nar .byte v22_48) (nar .byte v35_49) (nar .byte v48_50)) = true from (by subst_vars; simp [fH3, nb])))).1) (pc' := 327) rfl ?_
      refine g_iconst X (1 : Int32) at_327 (pc' := 328) rfl rfl ?_
      refine g_goto X at_328 (pc' := 332) (by decide) (by decide) ?_
      refine g_ireturnN X (t := .boolean) (by simp) at_332 hret hlk (by decide) (by decide) ?_
      exact ⟨rfl, N⟩
set_option maxRecDepth 65536 in
set_option maxHeartbeats 40000000 in
theorem comes_1 {Post : Tables → Env → Array Value → State → Outcome → State → Prop} (hpost : ∀ tb e args s v u, (limb_1_1.after args s (.returned v) u = true ∧ limb_1_2.after args s (.returned v) u = true ∧ True) → FrameEnd s (.returned v) u (Jvm.fieldLocs frame_1_writes args s ++ Jvm.arrayLocs frame_1_arrays args s ++ Jvm.staticLocs frame_1_statics s) 16 128 → Post tb e args s (.returned v) u) :
    ArmFor flags0 classFile x code maxLocals ret World_1 tables_1 room_1 Calls_1 rest_1 Pre_1 Post := by
  intro l hfl _ _ p e ha hc hk s m args below hf hA hF happ hP
  obtain ⟨hcalls, hrest, hpre⟩ := hP
  obtain ⟨-, -, -, hnamed, -, -, -, hat⟩ := (Spec.applies_iff hf).mp happ
  obtain ⟨hg, hn⟩ := and_e (Cond.before_iff.mp (show (Jvm.Cond.and given_1 narrow_1).before args s = true from hpre))
  obtain ⟨g1, g2⟩ := and_e hg
  obtain ⟨g3, g4⟩ := and_e g2
  obtain ⟨g5, g6⟩ := and_e g4
  obtain ⟨g7, g8⟩ := and_e g6
  obtain ⟨g9, g10⟩ := and_e g8
  obtain ⟨g11, g12⟩ := and_e g10
  obtain ⟨w0, w1, w2, w3, w4, w5, rfl⟩ : ∃ w0 w1 w2 w3 w4 w5 : Value, args = #[w0, w1, w2, w3, w4, w5] := by
    have hs : args.size = 6 := by simpa [Cond.value, given_1] using g1
    obtain ⟨L⟩ := args
    match L, hs with
    | [w0, w1, w2, w3, w4, w5], _ => exact ⟨w0, w1, w2, w3, w4, w5, rfl⟩
  have hw := fun d (hd : d ∈ tables_1) => atoms_spec (ws := Jvm.Cond.code x code maxLocals ret :: tables_1) hat d (List.mem_cons_of_mem _ hd)
  have hfit : Fit s := fun {y c} hc i hi => by
    obtain ⟨ha, rfl⟩ := Array.getElem?_eq_some_iff.mp hc
    have q := List.all_eq_true.mp ((Array.all_eq_true_iff_forall_mem.mp hF) _ (Array.getElem_mem ha)) i (List.mem_range.mpr hi)
    simpa [Array.getElem?_eq_getElem hi] using q
  obtain ⟨i0, ei0⟩ := isL_v g3
  obtain rfl : w0 = (.long i0) := Option.some.inj ei0
  obtain ⟨i1, ei1⟩ := is_v g5
  obtain rfl : w1 = (.int i1) := Option.some.inj ei1
  obtain ⟨i2, ei2⟩ := is_v g7
  obtain rfl : w2 = (.int i2) := Option.some.inj ei2
  obtain ⟨i3, ei3⟩ := is_v g9
  obtain rfl : w3 = (.int i3) := Option.some.inj ei3
  obtain ⟨i4, ei4⟩ := is_v g11
  obtain rfl : w4 = (.int i4) := Option.some.inj ei4
  obtain ⟨i5, ei5⟩ := is_v g12
  obtain rfl : w5 = (.int i5) := Option.some.inj ei5
  rw [narrow_1] at hn
  obtain ⟨n1, n2⟩ := and_e hn
  obtain ⟨n3, n4⟩ := and_e n2
  obtain ⟨n5, n6⟩ := and_e n4
  obtain ⟨eENTER, v_eENTER⟩ := exa_v n1
  have E_eENTER := Exa.start v_eENTER n1
  have S_ENTER : Sta s s.heap "com/example/ratatoskr/ratatoskr/simulator/TraceEvent$Kind" "ENTER" "Lcom/example/ratatoskr/ratatoskr/simulator/TraceEvent$Kind;" (.ref eENTER) := Sta.start v_eENTER (Or.inr ⟨tb hw 2 rfl, tb hw 3 rfl⟩)
  obtain ⟨eEXIT, v_eEXIT⟩ := exa_v n3
  have E_eEXIT := Exa.start v_eEXIT n3
  have S_EXIT : Sta s s.heap "com/example/ratatoskr/ratatoskr/simulator/TraceEvent$Kind" "EXIT" "Lcom/example/ratatoskr/ratatoskr/simulator/TraceEvent$Kind;" (.ref eEXIT) := Sta.start v_eEXIT (Or.inr ⟨tb hw 2 rfl, tb hw 34 rfl⟩)
  obtain ⟨eDELIVER, v_eDELIVER⟩ := exa_v n5
  have E_eDELIVER := Exa.start v_eDELIVER n5
  have S_DELIVER : Sta s s.heap "com/example/ratatoskr/ratatoskr/simulator/TraceEvent$Kind" "DELIVER" "Lcom/example/ratatoskr/ratatoskr/simulator/TraceEvent$Kind;" (.ref eDELIVER) := Sta.start v_eDELIVER (Or.inr ⟨tb hw 2 rfl, tb hw 39 rfl⟩)
  obtain ⟨eLEADER, v_eLEADER⟩ := exa_v n6
  have E_eLEADER := Exa.start v_eLEADER n6
  have S_LEADER : Sta s s.heap "com/example/ratatoskr/ratatoskr/simulator/TraceEvent$Kind" "LEADER" "Lcom/example/ratatoskr/ratatoskr/simulator/TraceEvent$Kind;" (.ref eLEADER) := Sta.start v_eLEADER (Or.inr ⟨tb hw 2 rfl, tb hw 54 rfl⟩)
  obtain ⟨n, o, h1, h2, h3, _, L, rfl, ⟨rfl, N⟩, hq⟩ := rLaw l s _ hw tables_1 i0 i1 i2 i3 i4 i5 eENTER eEXIT eDELIVER eLEADER s.heap s.heap.size (Nat.le_refl _) S_ENTER E_eENTER S_EXIT E_eEXIT S_DELIVER E_eDELIVER S_LEADER E_eLEADER p e ha hc hk s m _ below hf ((Spec.applies_iff_loose hf).mp happ).1 ⟨rfl, State.Warmed39.refl s, rfl⟩ trivial
  refine ⟨n, _, h1, h2, h3, hpost _ _ _ _ _ _ ⟨Cond.after_iff.mpr rfl, Cond.after_iff.mpr (eq_i res_at (Term.int_eval (1)) rfl), trivial⟩ ⟨hq.1, hq.2.1, (hq.2.2.sift fun y hy => Or.inr (N y hy)).mono (by decide) (by decide)⟩⟩
theorem main_1_1 : Claimed_1_1 := comes_1 fun _ _ _ _ _ _ h hF => ⟨h.1, hF⟩
theorem main_1_2 : Claimed_1_2 := comes_1 fun _ _ _ _ _ _ h hF => ⟨h.2.1, hF⟩
end Jvm.Pilot.@@N@@
namespace Jvm.Pilot.@@N@@
open Jvm Jvm.ClassFile Sem Op Lib Jvm.Free Jvm.Stand Jvm.Pilot.@@N@@.Jvm.D
/-! MADE BY PROGRAM (witnessworld.py) out of the Statement's table words and the real class files: 13 classes; the members and pool entries that the words name. The judged class is class 1, her method 1. -/
namespace start1
open Jvm.ClassFile
def u (s : String) : CpInfo := .utf8 (stringToUtf16 s)
/-- a pool by its gaps: so many unusable entries, then the entry; so many at the end -/
def gap : Nat → List CpInfo → List CpInfo
  | 0, r => r
  | n + 1, r => .unusable :: gap n r
def poolList (es : List (Nat × CpInfo)) (last : Nat) : List CpInfo := es.foldr (fun e r => gap e.1 (e.2 :: r)) (gap last [])
def pool (es : List (Nat × CpInfo)) (last : Nat) : Array CpInfo := ⟨poolList es last⟩
def fileOf (pool : Array CpInfo) (this : Nat) (attrs : Array Attribute := #[]) (ms : Array MethodInfo := #[]) (fl : Nat := 33) (sup : Nat := 0) (ifs : Array Nat := #[]) (fds : Array FieldInfo := #[]) : ClassFile where
  minorVersion := 0
  majorVersion := 65
  constantPool := pool
  accessFlags := fl
  thisClass := this
  superClass := sup
  interfaces := ifs
  fields := fds
  methods := ms
  attributes := attrs
def plain (name : String) (sup : Option ClassId) : Class where
  name := name
  kind := .ordinary
  loader := none
  accessFlags := 33
  super := sup
  interfaces := #[]
  cf := none
  fields := #[]
  methods := #[]
  instanceTypes := #[]
  staticTypes := #[]
  resolved := #[]
  callSites := []
  init := .initialized
  statics := none
  mirror := none

def pool0 : Array CpInfo := pool [(5, u "<init>"), (0, u "()V"), (1, .class_ 10), (1, u "java/lang/Object"), (85, u "clone"), (0, u "()Ljava/lang/Object;")] 26

def k0c0 : Code := { maxStack := 0, maxLocals := 1, code := object_method_1_code, exceptionTable := #[], attributes := #[] }
def k0m0 : Method := { name := "<init>", desc := "()V", sig := { parameters := [], returnType := none }, accessFlags := 1, code := some k0c0 }
def k0m1 : Method := { name := "clone", desc := "()Ljava/lang/Object;", sig := { parameters := [], returnType := some (.object "java/lang/Object") }, accessFlags := 260, code := none }
/-- java/lang/Object -/
def k0 : Class := { plain "java/lang/Object" none with
  accessFlags := 33
  interfaces := #[]
  cf := some (fileOf pool0 8 #[] #[{ accessFlags := 1, nameIndex := 5, descriptorIndex := 6, attributes := #[] }, { accessFlags := 260, nameIndex := 96, descriptorIndex := 97, attributes := #[] }] 33 0 #[] #[])
  fields := #[]
  methods := #[k0m0, k0m1]
  instanceTypes := #[]
  staticTypes := #[]
  resolved := Array.replicate 124 none
  statics := none }

def pool1 : Array CpInfo := pool [(2, .class_ 4), (1, u "java/lang/Object"), (0, u "<init>"), (0, u "()V"), (0, .fieldref 8 9), (0, .class_ 10), (0, .nameAndType 11 12), (0, u "com/example/ratatoskr/ratatoskr/simulator/TraceEvent$Kind"), (0, u "ENTER"), (0, u "Lcom/example/ratatoskr/ratatoskr/simulator/TraceEvent$Kind;"), (0, .fieldref 8 14), (0, .nameAndType 15 12), (0, u "EXIT"), (0, .fieldref 8 17), (0, .nameAndType 18 12), (0, u "LEADER"), (0, .fieldref 8 20), (0, .nameAndType 21 12), (0, u "DELIVER"), (0, .class_ 23), (0, u "com/example/ratatoskr/ratatoskr/simulator/TraceEvent"), (0, .methodref 22 25), (0, .nameAndType 5 26), (0, u "(JILcom/example/ratatoskr/ratatoskr/simulator/TraceEvent$Kind;)V"), (0, .methodref 22 28), (0, .nameAndType 29 30), (0, u "getMessage"), (0, u "()[B"), (0, .methodref 22 32), (0, .nameAndType 5 33), (0, u "(JIIJ[B)V"), (0, .methodref 35 36), (0, .class_ 37), (0, .nameAndType 38 39), (0, u "com/example/ratatoskr/ratatoskr/simulator/TraceEventGetMessagePinLaw"), (0, u "holds"), (0, u "([BIIII)Z"), (2, u "law"), (0, u "(JIIIII)Z")] 7

def k1m0 : Method := { name := "<init>", desc := "()V", sig := { parameters := [], returnType := none }, accessFlags := 1, code := none }
def k1c1 : Code := { maxStack := 9, maxLocals := 12, code := code, exceptionTable := #[], attributes := #[] }
def k1m1 : Method := { name := "law", desc := "(JIIIII)Z", sig := { parameters := [.long, .int, .int, .int, .int, .int], returnType := some .boolean }, accessFlags := 9, code := some k1c1 }
def k1c2 : Code := { maxStack := 2, maxLocals := 5, code := method_3_code, exceptionTable := #[], attributes := #[] }
def k1m2 : Method := { name := "holds", desc := "([BIIII)Z", sig := { parameters := [(.array .byte), .int, .int, .int, .int], returnType := some .boolean }, accessFlags := 10, code := some k1c2 }
/-- com/example/ratatoskr/ratatoskr/simulator/TraceEventGetMessagePinLaw -/
def k1 : Class := { plain "com/example/ratatoskr/ratatoskr/simulator/TraceEventGetMessagePinLaw" (some 0) with
  accessFlags := 49
  interfaces := #[]
  cf := some (fileOf pool1 35 #[] #[{ accessFlags := 1, nameIndex := 5, descriptorIndex := 6, attributes := #[] }, { accessFlags := 9, nameIndex := 42, descriptorIndex := 43, attributes := #[] }, { accessFlags := 10, nameIndex := 38, descriptorIndex := 39, attributes := #[] }] 49 2 #[] #[])
  fields := #[]
  methods := #[k1m0, k1m1, k1m2]
  instanceTypes := #[]
  staticTypes := #[]
  resolved := Array.replicate 51 none
  statics := none }

def pool2 : Array CpInfo := pool [(1, .class_ 2), (0, u "java/lang/constant/Constable"), (0, .class_ 4), (0, u "java/lang/Object")] 6

/-- java/lang/constant/Constable -/
def k2 : Class := { plain "java/lang/constant/Constable" (some 0) with
  accessFlags := 1537
  interfaces := #[]
  cf := some (fileOf pool2 1 #[] #[] 1537 3 #[] #[])
  fields := #[]
  methods := #[]
  instanceTypes := #[]
  staticTypes := #[]
  resolved := Array.replicate 11 none
  statics := none }

def pool3 : Array CpInfo := pool [(1, .class_ 2), (0, u "java/lang/Comparable"), (0, .class_ 4), (0, u "java/lang/Object")] 7

/-- java/lang/Comparable -/
def k3 : Class := { plain "java/lang/Comparable" (some 0) with
  accessFlags := 1537
  interfaces := #[]
  cf := some (fileOf pool3 1 #[] #[] 1537 3 #[] #[])
  fields := #[]
  methods := #[]
  instanceTypes := #[]
  staticTypes := #[]
  resolved := Array.replicate 12 none
  statics := none }

def pool4 : Array CpInfo := pool [(1, .class_ 2), (0, u "java/io/Serializable"), (0, .class_ 4), (0, u "java/lang/Object")] 2

/-- java/io/Serializable -/
def k4 : Class := { plain "java/io/Serializable" (some 0) with
  accessFlags := 1537
  interfaces := #[]
  cf := some (fileOf pool4 1 #[] #[] 1537 3 #[] #[])
  fields := #[]
  methods := #[]
  instanceTypes := #[]
  staticTypes := #[]
  resolved := Array.replicate 7 none
  statics := none }

def pool5 : Array CpInfo := pool [(2, .class_ 4), (1, u "java/lang/Enum"), (0, u "name"), (0, u "Ljava/lang/String;"), (2, u "ordinal"), (0, u "I"), (1, .class_ 14), (1, u "java/lang/Object"), (4, u "hash"), (86, .class_ 108), (1, u "java/lang/Enum$EnumDesc"), (2, .class_ 112), (0, u "java/lang/constant/Constable"), (0, .class_ 114), (0, u "java/lang/Comparable"), (0, .class_ 116), (0, u "java/io/Serializable")] 87

/-- java/lang/Enum -/
def k5 : Class := { plain "java/lang/Enum" (some 0) with
  accessFlags := 1057
  interfaces := #[2, 3, 4]
  cf := some (fileOf pool5 2 #[.nestMembers #[106]] #[] 1057 12 #[111, 113, 115] #[{ accessFlags := 18, nameIndex := 5, descriptorIndex := 6, attributes := #[] }, { accessFlags := 18, nameIndex := 9, descriptorIndex := 10, attributes := #[] }, { accessFlags := 2, nameIndex := 19, descriptorIndex := 10, attributes := #[] }])
  fields := #[{ name := "name", type := (.object "java/lang/String"), accessFlags := 18, slot := 0, constantValue := 0 }, { name := "ordinal", type := .int, accessFlags := 18, slot := 1, constantValue := 0 }, { name := "hash", type := .int, accessFlags := 2, slot := 2, constantValue := 0 }]
  methods := #[]
  instanceTypes := #[(.object "java/lang/String"), .int, .int]
  staticTypes := #[]
  resolved := Array.replicate 204 none
  statics := none }

def pool6 : Array CpInfo := pool [(1, .class_ 2), (0, u "com/example/ratatoskr/ratatoskr/simulator/TraceEvent$Kind"), (2, u "ENTER"), (0, u "Lcom/example/ratatoskr/ratatoskr/simulator/TraceEvent$Kind;"), (2, u "EXIT"), (2, u "LEADER"), (2, u "DELIVER"), (2, u "$VALUES"), (0, u "[Lcom/example/ratatoskr/ratatoskr/simulator/TraceEvent$Kind;"), (6, .class_ 28), (1, u "java/lang/Enum"), (8, u "name"), (0, u "Ljava/lang/String;"), (34, .class_ 74), (0, u "com/example/ratatoskr/ratatoskr/simulator/TraceEvent")] 2

/-- com/example/ratatoskr/ratatoskr/simulator/TraceEvent$Kind -/
def k6 : Class := { plain "com/example/ratatoskr/ratatoskr/simulator/TraceEvent$Kind" (some 5) with
  accessFlags := 16433
  interfaces := #[]
  cf := some (fileOf pool6 1 #[.nestHost 73] #[] 16433 26 #[] #[{ accessFlags := 16409, nameIndex := 5, descriptorIndex := 6, attributes := #[] }, { accessFlags := 16409, nameIndex := 9, descriptorIndex := 6, attributes := #[] }, { accessFlags := 16409, nameIndex := 12, descriptorIndex := 6, attributes := #[] }, { accessFlags := 16409, nameIndex := 15, descriptorIndex := 6, attributes := #[] }, { accessFlags := 18, nameIndex := 37, descriptorIndex := 38, attributes := #[] }, { accessFlags := 4122, nameIndex := 18, descriptorIndex := 19, attributes := #[] }])
  fields := #[{ name := "ENTER", type := (.object "com/example/ratatoskr/ratatoskr/simulator/TraceEvent$Kind"), accessFlags := 16409, slot := 0, constantValue := 0 }, { name := "EXIT", type := (.object "com/example/ratatoskr/ratatoskr/simulator/TraceEvent$Kind"), accessFlags := 16409, slot := 1, constantValue := 0 }, { name := "LEADER", type := (.object "com/example/ratatoskr/ratatoskr/simulator/TraceEvent$Kind"), accessFlags := 16409, slot := 2, constantValue := 0 }, { name := "DELIVER", type := (.object "com/example/ratatoskr/ratatoskr/simulator/TraceEvent$Kind"), accessFlags := 16409, slot := 3, constantValue := 0 }, { name := "name", type := (.object "java/lang/String"), accessFlags := 18, slot := 3, constantValue := 0 }, { name := "$VALUES", type := (.array (.object "com/example/ratatoskr/ratatoskr/simulator/TraceEvent$Kind")), accessFlags := 4122, slot := 4, constantValue := 0 }]
  methods := #[]
  instanceTypes := #[(.object "java/lang/String"), .int, .int, (.object "java/lang/String")]
  staticTypes := #[(.object "com/example/ratatoskr/ratatoskr/simulator/TraceEvent$Kind"), (.object "com/example/ratatoskr/ratatoskr/simulator/TraceEvent$Kind"), (.object "com/example/ratatoskr/ratatoskr/simulator/TraceEvent$Kind"), (.object "com/example/ratatoskr/ratatoskr/simulator/TraceEvent$Kind"), (.array (.object "com/example/ratatoskr/ratatoskr/simulator/TraceEvent$Kind"))]
  resolved := Array.replicate 77 none
  statics := some 0 }

def pool7 : Array CpInfo := pool [(1, .class_ 2), (0, u "com/example/ratatoskr/ratatoskr/simulator/TraceEvent"), (0, .methodref 1 4), (0, .nameAndType 5 6), (0, u "<init>"), (0, u "(JILcom/example/ratatoskr/ratatoskr/simulator/TraceEvent$Kind;IJ[B)V"), (1, .class_ 10), (1, u "com/example/ratatoskr/ratatoskr/simulator/TraceEvent$Kind"), (1, u "Lcom/example/ratatoskr/ratatoskr/simulator/TraceEvent$Kind;"), (0, .fieldref 8 14), (0, .nameAndType 15 12), (0, u "DELIVER"), (0, .methodref 17 18), (0, .class_ 19), (0, .nameAndType 5 20), (0, u "java/lang/Object"), (0, u "()V"), (0, .fieldref 1 22), (0, .nameAndType 23 24), (0, u "time"), (0, u "J"), (0, .fieldref 1 26), (0, .nameAndType 27 28), (0, u "member"), (0, u "I"), (0, .fieldref 1 30), (0, .nameAndType 31 12), (0, u "kind"), (0, .fieldref 1 33), (0, .nameAndType 34 28), (0, u "other"), (0, .fieldref 1 36), (0, .nameAndType 37 24), (0, u "sequence"), (0, .fieldref 1 39), (0, .nameAndType 40 41), (0, u "message"), (0, u "[B"), (0, .methodref 43 44), (0, .class_ 41), (0, .nameAndType 45 46), (0, u "clone"), (0, u "()Ljava/lang/Object;"), (25, u "NO_MEMBER"), (2, u "(JILcom/example/ratatoskr/ratatoskr/simulator/TraceEvent$Kind;)V"), (3, u "(JIIJ[B)V"), (10, u "getMessage"), (0, u "()[B")] 24

def k7c0 : Code := { maxStack := 9, maxLocals := 5, code := prog_42_method_1_code, exceptionTable := #[], attributes := #[] }
def k7m0 : Method := { name := "<init>", desc := "(JILcom/example/ratatoskr/ratatoskr/simulator/TraceEvent$Kind;)V", sig := { parameters := [.long, .int, (.object "com/example/ratatoskr/ratatoskr/simulator/TraceEvent$Kind")], returnType := none }, accessFlags := 0, code := some k7c0 }
def k7c1 : Code := { maxStack := 9, maxLocals := 8, code := prog_42_method_3_code, exceptionTable := #[], attributes := #[] }
def k7m1 : Method := { name := "<init>", desc := "(JIIJ[B)V", sig := { parameters := [.long, .int, .int, .long, (.array .byte)], returnType := none }, accessFlags := 0, code := some k7c1 }
def k7c2 : Code := { maxStack := 3, maxLocals := 9, code := prog_42_method_4_code, exceptionTable := #[], attributes := #[] }
def k7m2 : Method := { name := "<init>", desc := "(JILcom/example/ratatoskr/ratatoskr/simulator/TraceEvent$Kind;IJ[B)V", sig := { parameters := [.long, .int, (.object "com/example/ratatoskr/ratatoskr/simulator/TraceEvent$Kind"), .int, .long, (.array .byte)], returnType := none }, accessFlags := 2, code := some k7c2 }
def k7c3 : Code := { maxStack := 1, maxLocals := 1, code := prog_42_method_11_code, exceptionTable := #[], attributes := #[] }
def k7m3 : Method := { name := "getMessage", desc := "()[B", sig := { parameters := [], returnType := some (.array .byte) }, accessFlags := 1, code := some k7c3 }
/-- com/example/ratatoskr/ratatoskr/simulator/TraceEvent -/
def k7 : Class := { plain "com/example/ratatoskr/ratatoskr/simulator/TraceEvent" (some 0) with
  accessFlags := 33
  interfaces := #[]
  cf := some (fileOf pool7 1 #[.nestMembers #[8]] #[{ accessFlags := 0, nameIndex := 5, descriptorIndex := 75, attributes := #[] }, { accessFlags := 0, nameIndex := 5, descriptorIndex := 79, attributes := #[] }, { accessFlags := 2, nameIndex := 5, descriptorIndex := 6, attributes := #[] }, { accessFlags := 1, nameIndex := 90, descriptorIndex := 91, attributes := #[] }] 33 17 #[] #[{ accessFlags := 26, nameIndex := 72, descriptorIndex := 28, attributes := #[] }, { accessFlags := 18, nameIndex := 23, descriptorIndex := 24, attributes := #[] }, { accessFlags := 18, nameIndex := 27, descriptorIndex := 28, attributes := #[] }, { accessFlags := 18, nameIndex := 31, descriptorIndex := 12, attributes := #[] }, { accessFlags := 18, nameIndex := 34, descriptorIndex := 28, attributes := #[] }, { accessFlags := 18, nameIndex := 37, descriptorIndex := 24, attributes := #[] }, { accessFlags := 18, nameIndex := 40, descriptorIndex := 41, attributes := #[] }])
  fields := #[{ name := "NO_MEMBER", type := .int, accessFlags := 26, slot := 0, constantValue := 0 }, { name := "time", type := .long, accessFlags := 18, slot := 0, constantValue := 0 }, { name := "member", type := .int, accessFlags := 18, slot := 1, constantValue := 0 }, { name := "kind", type := (.object "com/example/ratatoskr/ratatoskr/simulator/TraceEvent$Kind"), accessFlags := 18, slot := 2, constantValue := 0 }, { name := "other", type := .int, accessFlags := 18, slot := 3, constantValue := 0 }, { name := "sequence", type := .long, accessFlags := 18, slot := 4, constantValue := 0 }, { name := "message", type := (.array .byte), accessFlags := 18, slot := 5, constantValue := 0 }]
  methods := #[k7m0, k7m1, k7m2, k7m3]
  instanceTypes := #[.long, .int, (.object "com/example/ratatoskr/ratatoskr/simulator/TraceEvent$Kind"), .int, .long, (.array .byte)]
  staticTypes := #[.int]
  resolved := Array.replicate 116 none
  statics := none }

def pool8 : Array CpInfo := pool [(1, .class_ 2), (0, u "java/lang/Cloneable"), (0, .class_ 4), (0, u "java/lang/Object")] 2

/-- java/lang/Cloneable -/
def k8 : Class := { plain "java/lang/Cloneable" (some 0) with
  accessFlags := 1537
  interfaces := #[]
  cf := some (fileOf pool8 1 #[] #[] 1537 3 #[] #[])
  fields := #[]
  methods := #[]
  instanceTypes := #[]
  staticTypes := #[]
  resolved := Array.replicate 7 none
  statics := none }

/-- the primitive byte -/
def k9 : Class := { plain "byte" none with kind := .primitive 'B', accessFlags := 0x411 }
/-- [B -/
def k10 : Class := { plain "[B" (some 0) with kind := .array 9 .byte, interfaces := #[8, 4], accessFlags := 1041 }

/-- the primitive int -/
def k11 : Class := { plain "int" none with kind := .primitive 'I', accessFlags := 0x411 }
/-- [I -/
def k12 : Class := { plain "[I" (some 0) with kind := .array 11 .int, interfaces := #[8, 4], accessFlags := 1041 }

def heap : Heap := #[{ cls := 6, slots := #[.ref 1, .ref 2, .ref 4, .ref 3, .null], vm := .statics 6 },
  { cls := 6, slots := #[.null, .int 0, .int 0, .null], vm := .none },
  { cls := 6, slots := #[.null, .int 0, .int 0, .null], vm := .none },
  { cls := 6, slots := #[.null, .int 0, .int 0, .null], vm := .none },
  { cls := 6, slots := #[.null, .int 0, .int 0, .null], vm := .none }]
def classes : Array Class := #[k0, k1, k2, k3, k4, k5, k6, k7, k8, k9, k10, k11, k12]
def interned : List (Array UInt16 × Addr) := []
def slotsUsed : Nat := 21
def theMethod : MethodId := ⟨1, 1⟩
def args0 : Array Value := #[.long 5, .int 7, .int 3, .int 9, .int 4, .int 8]
def aboutOver (below : List Frame) : State where
  vm := { classes := classes, interned := interned.toArray }
  heap := heap
  slotsUsed := slotsUsed
  threads := #[{ frames := .invoking theMethod args0 :: below }]
def below0 : List Frame := [.native { method := ⟨0, 0⟩, args := #[] }]
def about1 : State := aboutOver below0
def p0 : Program := .bare "" "" ""
def e0 : Env := launch0.env 0 0 0
theorem w_frames : about1.frames = Frame.invoking theMethod args0 :: below0 := rfl
set_option maxRecDepth 65536 in
theorem w_args : argsFit about1.vm theMethod args0 = true := by decide +kernel
set_option maxRecDepth 65536 in
theorem w_heap : heapFits about1 = true := by decide +kernel
set_option maxRecDepth 65536 in
theorem w_runnable : about1.curStatus? = some .runnable := by decide +kernel
set_option maxRecDepth 65536 in
theorem w_alone : about1.alone = true := by decide +kernel
set_option maxRecDepth 65536 in
theorem w_named : about1.methodNamed? x = some theMethod := by decide +kernel
set_option maxRecDepth 65536 in
theorem w_hears : about1.hears theMethod below0 = true := by decide +kernel
set_option maxRecDepth 65536 in
theorem w_ripe : about1.ripe theMethod args0 below0 = true := by decide +kernel
theorem w_running : about1.status = .running := rfl
set_option maxRecDepth 65536 in
theorem w_room : about1.hasRoom e0.platform room_1 = true :=
  launch0.hasRoom_least _ room_1 (by decide +kernel) (by decide +kernel) (by decide +kernel) (by decide +kernel) (by decide +kernel) (by decide +kernel)
theorem allAtoms_all (ts : List Jvm.Cond) (a : Array Jvm.Value) (st : Jvm.State) : (allAtoms ts).before a st = ts.all (fun c => c.before a st) := by
  induction ts with
  | nil => rfl
  | cons c t ih =>
    show (Jvm.Cond.and c (allAtoms t)).before a st = _
    rw [Jvm.Cond.before_and, ih, List.all_cons]
def words1 : List Jvm.Cond := Jvm.Cond.code x code maxLocals ret :: tables_1
/-- a 'code' word, met by the world's own term for the bytes: nothing is compared byte by byte -/
theorem code_word {y : MethodName} {bytes : ByteArray} {mx : Nat} {rt : Option FieldType} {a : Array Value} {s : State} {m : MethodId} {meth : Method} {c : Code} (h1 : s.methodNamed? y = some m) (h2 : s.vm.method? m = some meth) (h3 : meth.code = some c) (h4 : c.code = bytes)
    (h5 : (c.maxLocals == mx && c.exceptionTable.isEmpty && decide (c.maxStack ≤ mostOperands) && decide (meth.sig.returnType = rt) && !meth.locks && decide (parseMethodDescriptor y.desc = some meth.sig)) = true) : (Jvm.Cond.code y bytes mx rt).before a s = true := by
  simp only [Bool.and_eq_true, beq_iff_eq, Bool.not_eq_true', decide_eq_true_eq] at h5
  obtain ⟨⟨⟨⟨⟨g1, g2⟩, g3⟩, g4⟩, g5⟩, g6⟩ := h5
  simp [Cond.before, Cond.holds, Cond.value, h1, h2, h3, h4, g1, g2, g3, g4, g5, g6]
def isCode : Jvm.Cond → Bool
  | .code _ _ _ _ => true
  | _ => false
theorem all_split {L : List Jvm.Cond} {P : Jvm.Cond → Bool} (h1 : L.all (fun c => isCode c || P c) = true) (h2 : ∀ c ∈ L.filter isCode, P c = true) : L.all P = true := by
  refine List.all_eq_true.mpr fun c hc => ?_
  have h := List.all_eq_true.mp h1 c hc
  rcases Bool.eq_false_or_eq_true (isCode c) with hi | hi
  · exact h2 c (List.mem_filter.mpr ⟨hc, hi⟩)
  · simpa [hi] using h
set_option maxRecDepth 65536 in
theorem w_c0 : (Jvm.Cond.code x code maxLocals ret).before args0 about1 = true := code_word (m := ⟨1, 1⟩) (meth := k1m1) (c := k1c1) (by decide +kernel) rfl rfl rfl (by decide +kernel)
set_option maxRecDepth 65536 in
theorem w_c1 : (Jvm.Cond.code ({ cls := "com/example/ratatoskr/ratatoskr/simulator/TraceEvent", name := "<init>", desc := "(JILcom/example/ratatoskr/ratatoskr/simulator/TraceEvent$Kind;)V" } : Jvm.MethodName) prog_42_method_1_code (5 : Nat) (Option.none : Option Jvm.ClassFile.FieldType)).before args0 about1 = true := code_word (m := ⟨7, 0⟩) (meth := k7m0) (c := k7c0) (by decide +kernel) rfl rfl rfl (by decide +kernel)
set_option maxRecDepth 65536 in
theorem w_c2 : (Jvm.Cond.code ({ cls := "com/example/ratatoskr/ratatoskr/simulator/TraceEvent", name := "<init>", desc := "(JILcom/example/ratatoskr/ratatoskr/simulator/TraceEvent$Kind;IJ[B)V" } : Jvm.MethodName) prog_42_method_4_code (9 : Nat) (Option.none : Option Jvm.ClassFile.FieldType)).before args0 about1 = true := code_word (m := ⟨7, 2⟩) (meth := k7m2) (c := k7c2) (by decide +kernel) rfl rfl rfl (by decide +kernel)
set_option maxRecDepth 65536 in
theorem w_c3 : (Jvm.Cond.code ({ cls := "java/lang/Object", name := "<init>", desc := "()V" } : Jvm.MethodName) object_method_1_code (1 : Nat) (Option.none : Option Jvm.ClassFile.FieldType)).before args0 about1 = true := code_word (m := ⟨0, 0⟩) (meth := k0m0) (c := k0c0) (by decide +kernel) rfl rfl rfl (by decide +kernel)
set_option maxRecDepth 65536 in
theorem w_c4 : (Jvm.Cond.code ({ cls := "com/example/ratatoskr/ratatoskr/simulator/TraceEvent", name := "getMessage", desc := "()[B" } : Jvm.MethodName) prog_42_method_11_code (1 : Nat) (Option.some (Jvm.ClassFile.FieldType.array Jvm.ClassFile.FieldType.byte))).before args0 about1 = true := code_word (m := ⟨7, 3⟩) (meth := k7m3) (c := k7c3) (by decide +kernel) rfl rfl rfl (by decide +kernel)
set_option maxRecDepth 65536 in
theorem w_c5 : (Jvm.Cond.code ({ cls := "com/example/ratatoskr/ratatoskr/simulator/TraceEvent", name := "<init>", desc := "(JIIJ[B)V" } : Jvm.MethodName) prog_42_method_3_code (8 : Nat) (Option.none : Option Jvm.ClassFile.FieldType)).before args0 about1 = true := code_word (m := ⟨7, 1⟩) (meth := k7m1) (c := k7c1) (by decide +kernel) rfl rfl rfl (by decide +kernel)
set_option maxRecDepth 65536 in
theorem w_c6 : (Jvm.Cond.code ({ cls := "com/example/ratatoskr/ratatoskr/simulator/TraceEventGetMessagePinLaw", name := "holds", desc := "([BIIII)Z" } : Jvm.MethodName) method_3_code (5 : Nat) (Option.some Jvm.ClassFile.FieldType.boolean)).before args0 about1 = true := code_word (m := ⟨1, 2⟩) (meth := k1m2) (c := k1c2) (by decide +kernel) rfl rfl rfl (by decide +kernel)
def codes1 : List Jvm.Cond := [Jvm.Cond.code x code maxLocals ret, Jvm.Cond.code ({ cls := "com/example/ratatoskr/ratatoskr/simulator/TraceEvent", name := "<init>", desc := "(JILcom/example/ratatoskr/ratatoskr/simulator/TraceEvent$Kind;)V" } : Jvm.MethodName) prog_42_method_1_code (5 : Nat) (Option.none : Option Jvm.ClassFile.FieldType), Jvm.Cond.code ({ cls := "com/example/ratatoskr/ratatoskr/simulator/TraceEvent", name := "<init>", desc := "(JILcom/example/ratatoskr/ratatoskr/simulator/TraceEvent$Kind;IJ[B)V" } : Jvm.MethodName) prog_42_method_4_code (9 : Nat) (Option.none : Option Jvm.ClassFile.FieldType), Jvm.Cond.code ({ cls := "java/lang/Object", name := "<init>", desc := "()V" } : Jvm.MethodName) object_method_1_code (1 : Nat) (Option.none : Option Jvm.ClassFile.FieldType), Jvm.Cond.code ({ cls := "com/example/ratatoskr/ratatoskr/simulator/TraceEvent", name := "getMessage", desc := "()[B" } : Jvm.MethodName) prog_42_method_11_code (1 : Nat) (Option.some (Jvm.ClassFile.FieldType.array Jvm.ClassFile.FieldType.byte)), Jvm.Cond.code ({ cls := "com/example/ratatoskr/ratatoskr/simulator/TraceEvent", name := "<init>", desc := "(JIIJ[B)V" } : Jvm.MethodName) prog_42_method_3_code (8 : Nat) (Option.none : Option Jvm.ClassFile.FieldType), Jvm.Cond.code ({ cls := "com/example/ratatoskr/ratatoskr/simulator/TraceEventGetMessagePinLaw", name := "holds", desc := "([BIIII)Z" } : Jvm.MethodName) method_3_code (5 : Nat) (Option.some Jvm.ClassFile.FieldType.boolean)]
set_option maxRecDepth 65536 in
theorem codes_eq : words1.filter isCode = codes1 := rfl
theorem w_codes : ∀ c ∈ words1.filter isCode, c.before args0 about1 = true := by
  rw [codes_eq]
  intro c hc
  simp only [codes1, List.mem_cons, List.not_mem_nil, or_false] at hc
  rcases hc with rfl | rfl | rfl | rfl | rfl | rfl | rfl
  · exact w_c0
  · exact w_c1
  · exact w_c2
  · exact w_c3
  · exact w_c4
  · exact w_c5
  · exact w_c6
set_option maxRecDepth 65536 in
theorem w_t1 : (words1.take 24).all (fun c => isCode c || c.before args0 about1) = true := by decide +kernel
set_option maxRecDepth 65536 in
theorem w_t2 : ((words1.drop 24).take 24).all (fun c => isCode c || c.before args0 about1) = true := by decide +kernel
set_option maxRecDepth 65536 in
theorem w_t3 : ((words1.drop 24).drop 24).all (fun c => isCode c || c.before args0 about1) = true := by decide +kernel
theorem w_tables : (allAtoms (Jvm.Cond.code x code maxLocals ret :: tables_1)).before args0 about1 = true := by
  rw [allAtoms_all]
  show words1.all (fun c => c.before args0 about1) = true
  refine all_split ?_ w_codes
  rw [← List.take_append_drop 24 words1, List.all_append, w_t1, ← List.take_append_drop 24 (words1.drop 24), List.all_append, w_t2, w_t3]
  rfl
set_option maxRecDepth 65536 in
theorem w_case : (Jvm.Cond.and given_1 narrow_1).before args0 about1 = true := by decide +kernel
theorem w_applies : (headSpec (Jvm.Cond.code x code maxLocals ret :: tables_1) room_1).applies x e0.platform about1 = true :=
  (Spec.applies_iff w_frames).mpr ⟨w_running, w_runnable, w_alone, w_named, w_hears, w_ripe, w_room, w_tables⟩
theorem atStart : AtStart classFile x code maxLocals ret World_1 tables_1 room_1 Calls_1 rest_1 Pre_1 launch0 p0 e0 about1 theMethod args0 below0 :=
  ⟨lists_1, trivial, launch0.admits_env _ _ _, launch0.least_env, fairChoices_fair.cas, fairChoices_fair.clock, w_frames, w_args, w_heap, w_applies, trivial, trivial, w_case⟩
end start1
theorem witness_1 : WitnessClaimed_1 := ⟨start1.p0, start1.e0, start1.about1, start1.theMethod, start1.args0, start1.below0, start1.atStart⟩
end Jvm.Pilot.@@N@@
