import JvmDerived
import JvmDerived.Pilot.@@N@@Statement
import JvmDerived.Pilot.@@N@@Code
set_option linter.unusedVariables false
set_option linter.unusedSimpArgs false
namespace Jvm.RoadKit
open Sem ClassFile Op Lib Jvm.Stand Jvm.Free Jvm.LawKit
section New
variable {p : Program} {l : Launch} {e : Env} {R : Room} {s : State} {m : MethodId} {args : Array Value} {below : List Frame} {meth : Method} {c : Code} {T : State} {locs : List Loc} {cells slots : Nat}
theorem retI (X : Stand p l e R s m args below meth c T locs cells slots) (hx : p.tables.exec = Jvm.exec) {pc : Nat} {Ls : Array Slot} {z : Int32} {rest : List Value} (hret : meth.sig.returnType = some .int) (hd : decode c.code pc = .ok (.ireturn, 1)) {fs : List Frame}
    (hl : ∀ (f : JFrame) (acts : List Action), f.method = m → f.locked = none → f.entered = [] → (doReturn e (T.setTop f) acts (some (.int z))).1 = T.setFrames fs) : Steps p.tables e below (T.setTop (mkF m pc Ls (.int z :: rest))) (T.setFrames fs) := by
  have hm' : T.vm.method? m = some meth := X.method'
  have hn : narrow .int (.int z) = .int z := rfl
  show Steps p.tables e below (T.setTop { method := m, pc := pc, locals := Ls, stack := _ :: rest, locked := none }) _
  jvm_step X.here [X.here.top, hx, hd, hm', hret, hn]
  first | (intro acts; rw [hl _ acts rfl rfl rfl]) | rw [hl _ _ rfl rfl rfl]
  exact Steps.refl _
theorem retJ (X : Stand p l e R s m args below meth c T locs cells slots) (hx : p.tables.exec = Jvm.exec) {pc : Nat} {Ls : Array Slot} {z : Int64} {rest : List Value} (hret : meth.sig.returnType = some .long) (hd : decode c.code pc = .ok (.lreturn, 1)) {fs : List Frame}
    (hl : ∀ (f : JFrame) (acts : List Action), f.method = m → f.locked = none → f.entered = [] → (doReturn e (T.setTop f) acts (some (.long z))).1 = T.setFrames fs) : Steps p.tables e below (T.setTop (mkF m pc Ls (.long z :: rest))) (T.setFrames fs) := by
  have hm' : T.vm.method? m = some meth := X.method'
  have hn : narrow .long (.long z) = .long z := rfl
  show Steps p.tables e below (T.setTop { method := m, pc := pc, locals := Ls, stack := _ :: rest, locked := none }) _
  jvm_step X.here [X.here.top, hx, hd, hm', hret, hn]
  first | (intro acts; rw [hl _ acts rfl rfl rfl]) | rw [hl _ _ rfl rfl rfl]
  exact Steps.refl _
end New
end Jvm.RoadKit
namespace Jvm.Pilot.@@N@@
open Jvm Jvm.ClassFile Sem Op Lib Jvm.Free Jvm.Stand Jvm.LawKit Jvm.RoadKit Bundle Jvm.Pilot.@@N@@.Jvm.D
/-! THE WALK's GOAL, AND ONE LAW A STEP (each in the form: where the run goes on, it ends well; so it does from here) -/
def Go (p : Program) (e : Env) (below : List Frame) (K : Outcome → State → Prop) (u : State) : Prop := ∃ s₂ o, Steps p.tables e below u s₂ ∧ s₂.status = .running ∧ Ended s₂ below o ∧ K o s₂
theorem Go.step {p : Program} {e : Env} {below : List Frame} {K : Outcome → State → Prop} {u u' : State} (h : ∀ t, Steps p.tables e below u' t → Steps p.tables e below u t) (g : Go p e below K u') : Go p e below K u := by
  obtain ⟨a, o, h1, h2⟩ := g; exact ⟨a, o, h _ h1, h2⟩
def Ends (s : State) (Q : Option Value → Heap → List Loc → Prop) (kc ks : Nat) (o : Outcome) (U : State) : Prop := ∃ v L, o = .returned v ∧ Q v U.heap L ∧ FrameEnd s o U L kc ks
/-- where the run stands, with all that a step asks -/
def Sx (Z : State) (own : String) (bytes : ByteArray) (ml : Nat) (p : Program) (l : Launch) (e : Env) (R : Room) (s : State) (m : MethodId) (args : Array Value) (below : List Frame) (meth : Method) (c : Code) (T : State) (locs : List Loc) (cells slots : Nat) (h : Heap) : Prop :=
  Stand p l e R s m args below meth c T locs cells slots ∧ p.tables.exec = Jvm.exec ∧ c.code = bytes ∧ c.maxLocals = ml ∧ s.vm.findClass own = some m.cls ∧ Z.Warmed39 s.vm ∧ T.heap = h
/-- what a method owes: called at the heap h0 with these arguments it returns, and Q holds -/
abbrev Rm (l : Launch) (Z : State) (y : MethodName) (bytes : ByteArray) (ml : Nat) (ret : Option FieldType) (ws : List Jvm.Cond) (rm : Room) (as' : Array Value) (h0 : Heap) (Q : Option Value → Heap → List Loc → Prop) : Prop :=
  MetFree l y (head1 (Jvm.Cond.code y bytes ml ret :: ws) rm) (fun a U => a = as' ∧ Z.Warmed39 U.vm ∧ U.heap = h0) (fun _ _ _ _ _ => True) (fun _ U o U' => ∃ v L, o = .returned v ∧ Q v U'.heap L ∧ FrameEnd U o U' L rm.cells rm.slots)
theorem Rm.of {l : Launch} {Z : State} {y : MethodName} {bytes : ByteArray} {ml : Nat} {ret : Option FieldType} {ws : List Jvm.Cond} {rm : Room} {as' : Array Value} {h0 : Heap} {Q : Option Value → Heap → List Loc → Prop} (hpl : plainFor y = true)
    (body : ∀ (p : Program) (e : Env) (s : State) (m : MethodId) (below : List Frame) (meth : Method) (c : Code) (T : State), Sx Z y.cls bytes ml p l e rm s m as' below meth c T [] 0 0 h0 → meth.name = y.name → meth.sig.returnType = ret → meth.locks = false → Go p e below (Ends s Q rm.cells rm.slots) (T.setTop (entryFrame m as' ml))) : Rm l Z y bytes ml ret ws rm as' h0 Q := by
  refine MetFree.of_bodySF hpl hisR ?_
  intro p e s m args below meth c s₁ Bd hml0 hP hK
  obtain ⟨rfl, hZ, hh⟩ := hP
  have X0 : Stand p l e rm s m args below meth c s₁ [] 0 0 := Stand.of_body Bd
  exact body p e s m below meth c s₁ ⟨X0, Bd.exec, Bd.bytes, hml0, findClass_of_methodNamed Bd.named, hZ, by rw [← hh, Bd.state]; rfl⟩ (name_of_methodNamed Bd.named Bd.method).1 Bd.returns (BodyLoose.notSynchronized Bd)
theorem Rm.weaken {l : Launch} {Z : State} {y : MethodName} {bytes : ByteArray} {ml : Nat} {ret : Option FieldType} {ws : List Jvm.Cond} {rm : Room} {as' : Array Value} {h0 : Heap} {Q Q' : Option Value → Heap → List Loc → Prop} (M : Rm l Z y bytes ml ret ws rm as' h0 Q) (hq : ∀ v h L, Q v h L → Q' v h L) : Rm l Z y bytes ml ret ws rm as' h0 Q' := by
  intro p e ha hc hk s m args below hf happ hP hK
  obtain ⟨n, o, h1, h2, h3, v, L, e1, q, r⟩ := M p e ha hc hk s m args below hf happ hP hK
  exact ⟨n, o, h1, h2, h3, v, L, e1, hq _ _ _ q, r⟩
/-- a boolean as an int -/
def b2i (b : Bool) : Int32 := if b then 1 else 0
theorem m1_int : (-1 : Int32).toInt = -1 := rfl
theorem b2i_t : b2i true = 1 := rfl
theorem b2i_f : b2i false = 0 := rfl
theorem nar_b2i (b : Bool) : nar .boolean (b2i b) = b2i b := by cases b <;> rfl
theorem bne {b : Bool} (h : b = true) : ¬ b2i b = 0 := by subst h; decide
theorem beq0 {b : Bool} (h : ¬ b = true) : b2i b = 0 := by simp at h; subst h; rfl
theorem Fr.one {k : Nat} {a : Addr} {sl : Nat} (g : k ≤ a) : Fr k [⟨a, sl⟩] := fun y hy => by cases List.mem_singleton.mp hy; exact g
/-- an array and all that it holds -/
def Av (Z : State) (h : Heap) (a : Addr) (ty : FieldType) (vs : List Value) : Prop := ∃ c : Cell, Arr Z h a c ty ∧ c.slots.toList = vs ∧ vs.length < 2147483648
section Facts
variable {Z : State} {h h' : Heap} {a b : Addr} {ty : FieldType} {vs : List Value} {sl : Nat} {v : Value} {ws : List Addr}
theorem Av.lt (F : Av Z h a ty vs) : a < h.size := by obtain ⟨c, A, -⟩ := F; exact A.lt
theorem Av.ext (F : Av Z h a ty vs) (E : Ext h h') : Av Z h' a ty vs := by obtain ⟨c, A, r⟩ := F; exact ⟨c, A.ext E, r⟩
theorem Av.other (F : Av Z h b ty vs) (W : Wr h h' a sl v) (q : b ≠ a) : Av Z h' b ty vs := by obtain ⟨c, A, r⟩ := F; exact ⟨c, A.other W q, r⟩
theorem Av.keep (F : Av Z h a ty vs) (K : Keep h h' ws) (q : a ∉ ws) : Av Z h' a ty vs := by obtain ⟨c, A, r⟩ := F; exact ⟨c, ⟨K.2.1 a c A.1 q, A.2⟩, r⟩
theorem Av.set (F : Av Z h a ty vs) (W : Wr h h' a sl v) : Av Z h' a ty (vs.set sl v) := by
  obtain ⟨c, A, e, r⟩ := F
  refine ⟨_, A.same W, ?_, by simpa using r⟩
  subst e
  simp [Cell.setSlot]
theorem Av.eq {vs' : List Value} (F : Av Z h a ty vs) (e : vs = vs') : Av Z h a ty vs' := e ▸ F
/-- an array of which the length is known alone -/
def AvN (Z : State) (h : Heap) (a : Addr) (ty : FieldType) (z : Int32) : Prop := ∃ vs, Av Z h a ty vs ∧ vs.length.toInt32 = z
theorem AvN.lt {z : Int32} (F : AvN Z h a ty z) : a < h.size := by obtain ⟨vs, A, -⟩ := F; exact A.lt
theorem AvN.ext {z : Int32} (F : AvN Z h a ty z) (E : Ext h h') : AvN Z h' a ty z := by obtain ⟨vs, A, r⟩ := F; exact ⟨vs, A.ext E, r⟩
theorem AvN.other {z : Int32} (F : AvN Z h b ty z) (W : Wr h h' a sl v) (q : b ≠ a) : AvN Z h' b ty z := by obtain ⟨vs, A, r⟩ := F; exact ⟨vs, A.other W q, r⟩
theorem AvN.keep {z : Int32} (F : AvN Z h a ty z) (K : Keep h h' ws) (q : a ∉ ws) : AvN Z h' a ty z := by obtain ⟨vs, A, r⟩ := F; exact ⟨vs, A.keep K q, r⟩
theorem Av.len (F : Av Z h a ty vs) : vs.length.toInt32.toInt = vs.length := by obtain ⟨_, _, _, r⟩ := F; exact len_toInt r
/-- an array over objects of the class C -/
def OvA (Z : State) (h : Heap) (a : Addr) (C : String) : Prop := ∃ cl : Cell, Arr Z h a cl (.object C) ∧ Ovr Z cl.cls C
theorem OvA.lt {C : String} (F : OvA Z h a C) : a < h.size := by obtain ⟨_, A, _⟩ := F; exact A.lt
theorem OvA.ext {C : String} (F : OvA Z h a C) (E : Ext h h') : OvA Z h' a C := by obtain ⟨cl, A, r⟩ := F; exact ⟨cl, A.ext E, r⟩
theorem OvA.keep {C : String} (F : OvA Z h a C) (K : Keep h h' ws) (q : a ∉ ws) : OvA Z h' a C := by obtain ⟨c, A, r⟩ := F; exact ⟨c, ⟨K.2.1 a c A.1 q, A.2⟩, r⟩
theorem OvA.wr {C : String} (F : OvA Z h a C) (W : Wr h h' b sl v) : OvA Z h' a C := by
  obtain ⟨cl, A, r⟩ := F
  by_cases q : a = b
  · subst q; exact ⟨_, A.same W, r⟩
  · exact ⟨cl, A.other W q, r⟩
theorem OvA.sto {C : String} (F : OvA Z h a C) (I : Ins Z h b C true) : Sto Z h a (.ref b) := by obtain ⟨cl, A, r⟩ := F; exact Sto.of A r I
theorem fit0 : ∀ v ∈ ([] : List Value), fits ty v = true := fun _ q => nomatch q
theorem fitS (q : fits ty v = true) (r : ∀ w ∈ vs, fits ty w = true) : ∀ w ∈ v :: vs, fits ty w = true := fun w hw => (List.mem_cons.mp hw).elim (fun e => e ▸ q) (r w)
theorem Sta.keep {C n d : String} (F : Sta Z h C n d v) (K : Keep h h' ws) (q : ∀ x ∈ ws, ∀ c : Cell, h[x]? = some c → c.vm.isStatics = false) : Sta Z h' C n d v := by
  obtain ⟨cf, i, k, f, st, cell, h1, h2, h3, h4, h5, h6, h7⟩ := F
  exact ⟨cf, i, k, f, st, cell, h1, h2, h3, h4, K.2.1 _ _ h5 (fun hm => by rw [q _ hm _ h5] at h6; cases h6), h6, h7⟩
end Facts
section Walk
variable {Z : State} {a0 : Array Value} {own : String} {bytes : ByteArray} {ml : Nat} {p : Program} {l : Launch} {e : Env} {R : Room} {s : State} {m : MethodId} {args : Array Value} {below : List Frame} {meth : Method} {c : Code} {T : State} {locs : List Loc} {cells slots : Nat} {h : Heap} {K : Outcome → State → Prop} {pc pc' : Nat} {Ls Ls' : Array Slot} {st : List Value}
theorem Go.lit32 {x z : Int32} (q : x = z) (k : Go p e below K (T.setTop (mkF m pc Ls (.int z :: st)))) : Go p e below K (T.setTop (mkF m pc Ls (.int x :: st))) := q ▸ k
theorem Go.lit64 {x z : Int64} (q : x = z) (k : Go p e below K (T.setTop (mkF m pc Ls (.long z :: st)))) : Go p e below K (T.setTop (mkF m pc Ls (.long x :: st))) := q ▸ k
theorem Go.at_ {f f' : JFrame} (q : f = f') (k : Go p e below K (T.setTop f')) : Go p e below K (T.setTop f) := q ▸ k
theorem g_iload (X : Sx Z own bytes ml p l e R s m args below meth c T locs cells slots h) {i : Nat} {v : Int32} (hd : decode bytes pc = .ok (.iload i, 2)) (hp : pc + 2 = pc') (hl : Ls[i]? = some (.val (.int v))) (k : Go p e below K (T.setTop (mkF m pc' Ls (.int v :: st)))) : Go p e below K (T.setTop (mkF m pc Ls (st))) := by
  subst hp; exact Go.step (fun t q => XS.iload X.1.here X.2.1 rfl (hb X.2.2.1 hd) hl q) k
theorem g_iloadN (X : Sx Z own bytes ml p l e R s m args below meth c T locs cells slots h) {i : Fin 4} {v : Int32} (hd : decode bytes pc = .ok (.iload_n i, 1)) (hp : pc + 1 = pc') (hl : Ls[i.val]? = some (.val (.int v))) (k : Go p e below K (T.setTop (mkF m pc' Ls (.int v :: st)))) : Go p e below K (T.setTop (mkF m pc Ls (st))) := by
  subst hp; exact Go.step (fun t q => XS.iloadN X.1.here X.2.1 rfl (hb X.2.2.1 hd) hl q) k
theorem g_lload (X : Sx Z own bytes ml p l e R s m args below meth c T locs cells slots h) {i : Nat} {v : Int64} (hd : decode bytes pc = .ok (.lload i, 2)) (hp : pc + 2 = pc') (hl : Ls[i]? = some (.val (.long v))) (k : Go p e below K (T.setTop (mkF m pc' Ls (.long v :: st)))) : Go p e below K (T.setTop (mkF m pc Ls (st))) := by
  subst hp; exact Go.step (fun t q => XS.lload X.1.here X.2.1 rfl (hb X.2.2.1 hd) hl q) k
theorem g_lloadN (X : Sx Z own bytes ml p l e R s m args below meth c T locs cells slots h) {i : Fin 4} {v : Int64} (hd : decode bytes pc = .ok (.lload_n i, 1)) (hp : pc + 1 = pc') (hl : Ls[i.val]? = some (.val (.long v))) (k : Go p e below K (T.setTop (mkF m pc' Ls (.long v :: st)))) : Go p e below K (T.setTop (mkF m pc Ls (st))) := by
  subst hp; exact Go.step (fun t q => XS.lloadN X.1.here X.2.1 rfl (hb X.2.2.1 hd) hl q) k
theorem g_aload (X : Sx Z own bytes ml p l e R s m args below meth c T locs cells slots h) {i : Nat} {v : Value} (hd : decode bytes pc = .ok (.aload i, 2)) (hp : pc + 2 = pc') (hl : Ls[i]? = some (.val v)) (hv : v.isRef = true) (k : Go p e below K (T.setTop (mkF m pc' Ls (v :: st)))) : Go p e below K (T.setTop (mkF m pc Ls (st))) := by
  subst hp; exact Go.step (fun t q => XS.aload X.1.here X.2.1 rfl (hb X.2.2.1 hd) hl hv q) k
theorem g_aloadN (X : Sx Z own bytes ml p l e R s m args below meth c T locs cells slots h) {i : Fin 4} {v : Value} (hd : decode bytes pc = .ok (.aload_n i, 1)) (hp : pc + 1 = pc') (hl : Ls[i.val]? = some (.val v)) (hv : v.isRef = true) (k : Go p e below K (T.setTop (mkF m pc' Ls (v :: st)))) : Go p e below K (T.setTop (mkF m pc Ls (st))) := by
  subst hp; exact Go.step (fun t q => XS.aloadN X.1.here X.2.1 rfl (hb X.2.2.1 hd) hl hv q) k
theorem g_istore (X : Sx Z own bytes ml p l e R s m args below meth c T locs cells slots h) {i : Nat} {v : Int32} (hd : decode bytes pc = .ok (.istore i, 2)) (hp : pc + 2 = pc') (hl : storeLocals Ls i (.int v) = some Ls') (k : Go p e below K (T.setTop (mkF m pc' Ls' (st)))) : Go p e below K (T.setTop (mkF m pc Ls (.int v :: st))) := by
  subst hp; exact Go.step (fun t q => XS.istore X.1.here X.2.1 rfl (hb X.2.2.1 hd) rfl hl q) k
theorem g_istoreN (X : Sx Z own bytes ml p l e R s m args below meth c T locs cells slots h) {i : Fin 4} {v : Int32} (hd : decode bytes pc = .ok (.istore_n i, 1)) (hp : pc + 1 = pc') (hl : storeLocals Ls i.val (.int v) = some Ls') (k : Go p e below K (T.setTop (mkF m pc' Ls' (st)))) : Go p e below K (T.setTop (mkF m pc Ls (.int v :: st))) := by
  subst hp; exact Go.step (fun t q => XS.istoreN X.1.here X.2.1 rfl (hb X.2.2.1 hd) rfl hl q) k
theorem g_lstore (X : Sx Z own bytes ml p l e R s m args below meth c T locs cells slots h) {i : Nat} {v : Int64} (hd : decode bytes pc = .ok (.lstore i, 2)) (hp : pc + 2 = pc') (hl : storeLocals Ls i (.long v) = some Ls') (k : Go p e below K (T.setTop (mkF m pc' Ls' (st)))) : Go p e below K (T.setTop (mkF m pc Ls (.long v :: st))) := by
  subst hp; exact Go.step (fun t q => XS.lstore X.1.here X.2.1 rfl (hb X.2.2.1 hd) rfl hl q) k
theorem g_lstoreN (X : Sx Z own bytes ml p l e R s m args below meth c T locs cells slots h) {i : Fin 4} {v : Int64} (hd : decode bytes pc = .ok (.lstore_n i, 1)) (hp : pc + 1 = pc') (hl : storeLocals Ls i.val (.long v) = some Ls') (k : Go p e below K (T.setTop (mkF m pc' Ls' (st)))) : Go p e below K (T.setTop (mkF m pc Ls (.long v :: st))) := by
  subst hp; exact Go.step (fun t q => XS.lstoreN X.1.here X.2.1 rfl (hb X.2.2.1 hd) rfl hl q) k
theorem g_astore (X : Sx Z own bytes ml p l e R s m args below meth c T locs cells slots h) {i : Nat} {v : Value} (hd : decode bytes pc = .ok (.astore i, 2)) (hp : pc + 2 = pc') (hv : v.isRef = true) (hl : storeLocals Ls i v = some Ls') (k : Go p e below K (T.setTop (mkF m pc' Ls' (st)))) : Go p e below K (T.setTop (mkF m pc Ls (v :: st))) := by
  subst hp; exact Go.step (fun t q => XS.astore X.1.here X.2.1 rfl (hb X.2.2.1 hd) rfl hv hl q) k
theorem g_astoreN (X : Sx Z own bytes ml p l e R s m args below meth c T locs cells slots h) {i : Fin 4} {v : Value} (hd : decode bytes pc = .ok (.astore_n i, 1)) (hp : pc + 1 = pc') (hv : v.isRef = true) (hl : storeLocals Ls i.val v = some Ls') (k : Go p e below K (T.setTop (mkF m pc' Ls' (st)))) : Go p e below K (T.setTop (mkF m pc Ls (v :: st))) := by
  subst hp; exact Go.step (fun t q => XS.astoreN X.1.here X.2.1 rfl (hb X.2.2.1 hd) rfl hv hl q) k
theorem g_iconst (X : Sx Z own bytes ml p l e R s m args below meth c T locs cells slots h) {i : Int} (v : Int32) (hd : decode bytes pc = .ok (.iconst i, 1)) (hp : pc + 1 = pc') (hv : Int32.ofInt i = v) (k : Go p e below K (T.setTop (mkF m pc' Ls (.int v :: st)))) : Go p e below K (T.setTop (mkF m pc Ls (st))) := by
  subst hv; subst hp; exact Go.step (fun t q => XS.iconst X.1.here X.2.1 rfl (hb X.2.2.1 hd)  q) k
theorem g_bipush (X : Sx Z own bytes ml p l e R s m args below meth c T locs cells slots h) {i : Int} (v : Int32) (hd : decode bytes pc = .ok (.bipush i, 2)) (hp : pc + 2 = pc') (hv : (Int8.ofInt i).toInt32 = v) (k : Go p e below K (T.setTop (mkF m pc' Ls (.int v :: st)))) : Go p e below K (T.setTop (mkF m pc Ls (st))) := by
  subst hv; subst hp; exact Go.step (fun t q => XS.bipush X.1.here X.2.1 rfl (hb X.2.2.1 hd)  q) k
theorem g_sipush (X : Sx Z own bytes ml p l e R s m args below meth c T locs cells slots h) {i : Int} (v : Int32) (hd : decode bytes pc = .ok (.sipush i, 3)) (hp : pc + 3 = pc') (hv : (Int16.ofInt i).toInt32 = v) (k : Go p e below K (T.setTop (mkF m pc' Ls (.int v :: st)))) : Go p e below K (T.setTop (mkF m pc Ls (st))) := by
  subst hv; subst hp; exact Go.step (fun t q => XS.sipush X.1.here X.2.1 rfl (hb X.2.2.1 hd)  q) k
theorem g_lconst (X : Sx Z own bytes ml p l e R s m args below meth c T locs cells slots h) {i : Fin 2} (v : Int64) (hd : decode bytes pc = .ok (.lconst i, 1)) (hp : pc + 1 = pc') (hv : Int64.ofNat i = v) (k : Go p e below K (T.setTop (mkF m pc' Ls (.long v :: st)))) : Go p e below K (T.setTop (mkF m pc Ls (st))) := by
  subst hv; subst hp; exact Go.step (fun t q => XS.lconst X.1.here X.2.1 rfl (hb X.2.2.1 hd)  q) k
theorem g_aconst_null (X : Sx Z own bytes ml p l e R s m args below meth c T locs cells slots h) (hd : decode bytes pc = .ok (.aconst_null, 1)) (hp : pc + 1 = pc') (k : Go p e below K (T.setTop (mkF m pc' Ls (.null :: st)))) : Go p e below K (T.setTop (mkF m pc Ls (st))) := by
  subst hp; exact Go.step (fun t q => XS.aconstNull X.1.here X.2.1 rfl (hb X.2.2.1 hd)  q) k
theorem g_ldc (X : Sx Z own bytes ml p l e R s m args below meth c T locs cells slots h) {i : Nat} {v : Int32} (w : (Cond.constant own i v).before a0 Z = true) (hd : decode bytes pc = .ok (.ldc i, 2)) (hp : pc + 2 = pc') (k : Go p e below K (T.setTop (mkF m pc' Ls (.int v :: st)))) : Go p e below K (T.setTop (mkF m pc Ls (st))) := by
  subst hp; exact Go.step (fun t q => X.1.ldcInt X.2.1 X.2.2.2.2.1 (mvT X.2.2.2.2.2.1 w) (g := mkF m pc Ls st) rfl (hb X.2.2.1 hd) _ q) k
theorem g_ldcw (X : Sx Z own bytes ml p l e R s m args below meth c T locs cells slots h) {i : Nat} {v : Int32} (w : (Cond.constant own i v).before a0 Z = true) (hd : decode bytes pc = .ok (.ldc_w i, 3)) (hp : pc + 3 = pc') (k : Go p e below K (T.setTop (mkF m pc' Ls (.int v :: st)))) : Go p e below K (T.setTop (mkF m pc Ls (st))) := by
  subst hp; exact Go.step (fun t q => X.1.ldcwInt X.2.1 X.2.2.2.2.1 (mvT X.2.2.2.2.2.1 w) (g := mkF m pc Ls st) rfl (hb X.2.2.1 hd) _ q) k
theorem g_ldc2 (X : Sx Z own bytes ml p l e R s m args below meth c T locs cells slots h) {i : Nat} {v : Int64} (w : (Cond.constantLong own i v).before a0 Z = true) (hd : decode bytes pc = .ok (.ldc2_w i, 3)) (hp : pc + 3 = pc') (k : Go p e below K (T.setTop (mkF m pc' Ls (.long v :: st)))) : Go p e below K (T.setTop (mkF m pc Ls (st))) := by
  subst hp; exact Go.step (fun t q => X.1.ldc2Long X.2.1 X.2.2.2.2.1 (mvT X.2.2.2.2.2.1 w) (g := mkF m pc Ls st) rfl (hb X.2.2.1 hd) _ q) k
theorem g_iadd (X : Sx Z own bytes ml p l e R s m args below meth c T locs cells slots h) {x y : Int32} (hd : decode bytes pc = .ok (.iadd, 1)) (hp : pc + 1 = pc') (k : Go p e below K (T.setTop (mkF m pc' Ls (.int (x + y) :: st)))) : Go p e below K (T.setTop (mkF m pc Ls (.int y :: .int x :: st))) := by
  subst hp; exact Go.step (fun t q => XS.iadd X.1.here X.2.1 rfl (hb X.2.2.1 hd) rfl q) k
theorem g_isub (X : Sx Z own bytes ml p l e R s m args below meth c T locs cells slots h) {x y : Int32} (hd : decode bytes pc = .ok (.isub, 1)) (hp : pc + 1 = pc') (k : Go p e below K (T.setTop (mkF m pc' Ls (.int (x - y) :: st)))) : Go p e below K (T.setTop (mkF m pc Ls (.int y :: .int x :: st))) := by
  subst hp; exact Go.step (fun t q => XS.isub X.1.here X.2.1 rfl (hb X.2.2.1 hd) rfl q) k
theorem g_imul (X : Sx Z own bytes ml p l e R s m args below meth c T locs cells slots h) {x y : Int32} (hd : decode bytes pc = .ok (.imul, 1)) (hp : pc + 1 = pc') (k : Go p e below K (T.setTop (mkF m pc' Ls (.int (x * y) :: st)))) : Go p e below K (T.setTop (mkF m pc Ls (.int y :: .int x :: st))) := by
  subst hp; exact Go.step (fun t q => XS.imul X.1.here X.2.1 rfl (hb X.2.2.1 hd) rfl q) k
theorem g_iand (X : Sx Z own bytes ml p l e R s m args below meth c T locs cells slots h) {x y : Int32} (hd : decode bytes pc = .ok (.iand, 1)) (hp : pc + 1 = pc') (k : Go p e below K (T.setTop (mkF m pc' Ls (.int (x &&& y) :: st)))) : Go p e below K (T.setTop (mkF m pc Ls (.int y :: .int x :: st))) := by
  subst hp; exact Go.step (fun t q => XS.iand X.1.here X.2.1 rfl (hb X.2.2.1 hd) rfl q) k
theorem g_ior (X : Sx Z own bytes ml p l e R s m args below meth c T locs cells slots h) {x y : Int32} (hd : decode bytes pc = .ok (.ior, 1)) (hp : pc + 1 = pc') (k : Go p e below K (T.setTop (mkF m pc' Ls (.int (x ||| y) :: st)))) : Go p e below K (T.setTop (mkF m pc Ls (.int y :: .int x :: st))) := by
  subst hp; exact Go.step (fun t q => XS.ior X.1.here X.2.1 rfl (hb X.2.2.1 hd) rfl q) k
theorem g_ixor (X : Sx Z own bytes ml p l e R s m args below meth c T locs cells slots h) {x y : Int32} (hd : decode bytes pc = .ok (.ixor, 1)) (hp : pc + 1 = pc') (k : Go p e below K (T.setTop (mkF m pc' Ls (.int (x ^^^ y) :: st)))) : Go p e below K (T.setTop (mkF m pc Ls (.int y :: .int x :: st))) := by
  subst hp; exact Go.step (fun t q => XS.ixor X.1.here X.2.1 rfl (hb X.2.2.1 hd) rfl q) k
theorem g_ishl (X : Sx Z own bytes ml p l e R s m args below meth c T locs cells slots h) {x y : Int32} (hd : decode bytes pc = .ok (.ishl, 1)) (hp : pc + 1 = pc') (k : Go p e below K (T.setTop (mkF m pc' Ls (.int (x <<< (y &&& 31)) :: st)))) : Go p e below K (T.setTop (mkF m pc Ls (.int y :: .int x :: st))) := by
  subst hp; exact Go.step (fun t q => XS.ishl X.1.here X.2.1 rfl (hb X.2.2.1 hd) rfl q) k
theorem g_ishr (X : Sx Z own bytes ml p l e R s m args below meth c T locs cells slots h) {x y : Int32} (hd : decode bytes pc = .ok (.ishr, 1)) (hp : pc + 1 = pc') (k : Go p e below K (T.setTop (mkF m pc' Ls (.int (x >>> (y &&& 31)) :: st)))) : Go p e below K (T.setTop (mkF m pc Ls (.int y :: .int x :: st))) := by
  subst hp; exact Go.step (fun t q => XS.ishr X.1.here X.2.1 rfl (hb X.2.2.1 hd) rfl q) k
theorem g_iushr (X : Sx Z own bytes ml p l e R s m args below meth c T locs cells slots h) {x y : Int32} (hd : decode bytes pc = .ok (.iushr, 1)) (hp : pc + 1 = pc') (k : Go p e below K (T.setTop (mkF m pc' Ls (.int ((x.toUInt32 >>> (y &&& 31).toUInt32).toInt32) :: st)))) : Go p e below K (T.setTop (mkF m pc Ls (.int y :: .int x :: st))) := by
  subst hp; exact Go.step (fun t q => XS.iushr X.1.here X.2.1 rfl (hb X.2.2.1 hd) rfl q) k
theorem g_idiv (X : Sx Z own bytes ml p l e R s m args below meth c T locs cells slots h) {x y : Int32} (hd : decode bytes pc = .ok (.idiv, 1)) (hp : pc + 1 = pc') (hy : y ≠ 0) (k : Go p e below K (T.setTop (mkF m pc' Ls (.int (x / y) :: st)))) : Go p e below K (T.setTop (mkF m pc Ls (.int y :: .int x :: st))) := by
  subst hp; exact Go.step (fun t q => XS.idiv X.1.here X.2.1 rfl (hb X.2.2.1 hd) rfl hy q) k
theorem g_irem (X : Sx Z own bytes ml p l e R s m args below meth c T locs cells slots h) {x y : Int32} (hd : decode bytes pc = .ok (.irem, 1)) (hp : pc + 1 = pc') (hy : y ≠ 0) (k : Go p e below K (T.setTop (mkF m pc' Ls (.int (x % y) :: st)))) : Go p e below K (T.setTop (mkF m pc Ls (.int y :: .int x :: st))) := by
  subst hp; exact Go.step (fun t q => iremM (g := mkF m pc Ls (.int y :: .int x :: st)) X.1 X.2.1 rfl (hb X.2.2.1 hd) rfl hy q) k
theorem g_ladd (X : Sx Z own bytes ml p l e R s m args below meth c T locs cells slots h) {x y : Int64} (hd : decode bytes pc = .ok (.ladd, 1)) (hp : pc + 1 = pc') (k : Go p e below K (T.setTop (mkF m pc' Ls (.long (x + y) :: st)))) : Go p e below K (T.setTop (mkF m pc Ls (.long y :: .long x :: st))) := by
  subst hp; exact Go.step (fun t q => XS.ladd X.1.here X.2.1 rfl (hb X.2.2.1 hd) rfl q) k
theorem g_lsub (X : Sx Z own bytes ml p l e R s m args below meth c T locs cells slots h) {x y : Int64} (hd : decode bytes pc = .ok (.lsub, 1)) (hp : pc + 1 = pc') (k : Go p e below K (T.setTop (mkF m pc' Ls (.long (x - y) :: st)))) : Go p e below K (T.setTop (mkF m pc Ls (.long y :: .long x :: st))) := by
  subst hp; exact Go.step (fun t q => XS.lsub X.1.here X.2.1 rfl (hb X.2.2.1 hd) rfl q) k
theorem g_lmul (X : Sx Z own bytes ml p l e R s m args below meth c T locs cells slots h) {x y : Int64} (hd : decode bytes pc = .ok (.lmul, 1)) (hp : pc + 1 = pc') (k : Go p e below K (T.setTop (mkF m pc' Ls (.long (x * y) :: st)))) : Go p e below K (T.setTop (mkF m pc Ls (.long y :: .long x :: st))) := by
  subst hp; exact Go.step (fun t q => XS.lmul X.1.here X.2.1 rfl (hb X.2.2.1 hd) rfl q) k
theorem g_land (X : Sx Z own bytes ml p l e R s m args below meth c T locs cells slots h) {x y : Int64} (hd : decode bytes pc = .ok (.land, 1)) (hp : pc + 1 = pc') (k : Go p e below K (T.setTop (mkF m pc' Ls (.long (x &&& y) :: st)))) : Go p e below K (T.setTop (mkF m pc Ls (.long y :: .long x :: st))) := by
  subst hp; exact Go.step (fun t q => XS.land X.1.here X.2.1 rfl (hb X.2.2.1 hd) rfl q) k
theorem g_lor (X : Sx Z own bytes ml p l e R s m args below meth c T locs cells slots h) {x y : Int64} (hd : decode bytes pc = .ok (.lor, 1)) (hp : pc + 1 = pc') (k : Go p e below K (T.setTop (mkF m pc' Ls (.long (x ||| y) :: st)))) : Go p e below K (T.setTop (mkF m pc Ls (.long y :: .long x :: st))) := by
  subst hp; exact Go.step (fun t q => XS.lor X.1.here X.2.1 rfl (hb X.2.2.1 hd) rfl q) k
theorem g_lxor (X : Sx Z own bytes ml p l e R s m args below meth c T locs cells slots h) {x y : Int64} (hd : decode bytes pc = .ok (.lxor, 1)) (hp : pc + 1 = pc') (k : Go p e below K (T.setTop (mkF m pc' Ls (.long (x ^^^ y) :: st)))) : Go p e below K (T.setTop (mkF m pc Ls (.long y :: .long x :: st))) := by
  subst hp; exact Go.step (fun t q => XS.lxor X.1.here X.2.1 rfl (hb X.2.2.1 hd) rfl q) k
theorem g_lshl (X : Sx Z own bytes ml p l e R s m args below meth c T locs cells slots h) {x : Int64} {y : Int32} (hd : decode bytes pc = .ok (.lshl, 1)) (hp : pc + 1 = pc') (k : Go p e below K (T.setTop (mkF m pc' Ls (.long (x <<< (y &&& 0x3f).toInt64) :: st)))) : Go p e below K (T.setTop (mkF m pc Ls (.int y :: .long x :: st))) := by
  subst hp; exact Go.step (fun t q => XS.lshl X.1.here X.2.1 rfl (hb X.2.2.1 hd) rfl q) k
theorem g_lshr (X : Sx Z own bytes ml p l e R s m args below meth c T locs cells slots h) {x : Int64} {y : Int32} (hd : decode bytes pc = .ok (.lshr, 1)) (hp : pc + 1 = pc') (k : Go p e below K (T.setTop (mkF m pc' Ls (.long (x >>> (y &&& 0x3f).toInt64) :: st)))) : Go p e below K (T.setTop (mkF m pc Ls (.int y :: .long x :: st))) := by
  subst hp; exact Go.step (fun t q => XS.lshr X.1.here X.2.1 rfl (hb X.2.2.1 hd) rfl q) k
theorem g_lushr (X : Sx Z own bytes ml p l e R s m args below meth c T locs cells slots h) {x : Int64} {y : Int32} (hd : decode bytes pc = .ok (.lushr, 1)) (hp : pc + 1 = pc') (k : Go p e below K (T.setTop (mkF m pc' Ls (.long ((x.toUInt64 >>> (y &&& 0x3f).toInt64.toUInt64).toInt64) :: st)))) : Go p e below K (T.setTop (mkF m pc Ls (.int y :: .long x :: st))) := by
  subst hp; exact Go.step (fun t q => XS.lushr X.1.here X.2.1 rfl (hb X.2.2.1 hd) rfl q) k
theorem g_ldiv (X : Sx Z own bytes ml p l e R s m args below meth c T locs cells slots h) {x y : Int64} (hd : decode bytes pc = .ok (.ldiv, 1)) (hp : pc + 1 = pc') (hy : y ≠ 0) (k : Go p e below K (T.setTop (mkF m pc' Ls (.long (x / y) :: st)))) : Go p e below K (T.setTop (mkF m pc Ls (.long y :: .long x :: st))) := by
  subst hp; exact Go.step (fun t q => XS.ldiv X.1.here X.2.1 rfl (hb X.2.2.1 hd) rfl hy q) k
theorem g_lrem (X : Sx Z own bytes ml p l e R s m args below meth c T locs cells slots h) {x y : Int64} (hd : decode bytes pc = .ok (.lrem, 1)) (hp : pc + 1 = pc') (hy : y ≠ 0) (k : Go p e below K (T.setTop (mkF m pc' Ls (.long (x % y) :: st)))) : Go p e below K (T.setTop (mkF m pc Ls (.long y :: .long x :: st))) := by
  rw [← lrem_mod] at k; subst hp; exact Go.step (fun t q => XS.lrem X.1.here X.2.1 rfl (hb X.2.2.1 hd) rfl hy q) k
theorem g_lcmp (X : Sx Z own bytes ml p l e R s m args below meth c T locs cells slots h) {x y : Int64} (hd : decode bytes pc = .ok (.lcmp, 1)) (hp : pc + 1 = pc') (k : Go p e below K (T.setTop (mkF m pc' Ls (.int (lcmpW x y) :: st)))) : Go p e below K (T.setTop (mkF m pc Ls (.long y :: .long x :: st))) := by
  subst hp; exact Go.step (fun t q => XS.lcmp X.1.here X.2.1 rfl (hb X.2.2.1 hd) rfl q) k
theorem g_ineg (X : Sx Z own bytes ml p l e R s m args below meth c T locs cells slots h) {x : Int32} (hd : decode bytes pc = .ok (.ineg, 1)) (hp : pc + 1 = pc') (k : Go p e below K (T.setTop (mkF m pc' Ls (.int (-x) :: st)))) : Go p e below K (T.setTop (mkF m pc Ls (.int x :: st))) := by
  subst hp; exact Go.step (fun t q => XS.ineg X.1.here X.2.1 rfl (hb X.2.2.1 hd) rfl q) k
theorem g_i2b (X : Sx Z own bytes ml p l e R s m args below meth c T locs cells slots h) {x : Int32} (hd : decode bytes pc = .ok (.i2b, 1)) (hp : pc + 1 = pc') (k : Go p e below K (T.setTop (mkF m pc' Ls (.int (x.toInt8.toInt32) :: st)))) : Go p e below K (T.setTop (mkF m pc Ls (.int x :: st))) := by
  subst hp; exact Go.step (fun t q => XS.i2b X.1.here X.2.1 rfl (hb X.2.2.1 hd) rfl q) k
theorem g_i2c (X : Sx Z own bytes ml p l e R s m args below meth c T locs cells slots h) {x : Int32} (hd : decode bytes pc = .ok (.i2c, 1)) (hp : pc + 1 = pc') (k : Go p e below K (T.setTop (mkF m pc' Ls (.int (x.toUInt32.toUInt16.toUInt32.toInt32) :: st)))) : Go p e below K (T.setTop (mkF m pc Ls (.int x :: st))) := by
  subst hp; exact Go.step (fun t q => XS.i2c X.1.here X.2.1 rfl (hb X.2.2.1 hd) rfl q) k
theorem g_i2s (X : Sx Z own bytes ml p l e R s m args below meth c T locs cells slots h) {x : Int32} (hd : decode bytes pc = .ok (.i2s, 1)) (hp : pc + 1 = pc') (k : Go p e below K (T.setTop (mkF m pc' Ls (.int (x.toInt16.toInt32) :: st)))) : Go p e below K (T.setTop (mkF m pc Ls (.int x :: st))) := by
  subst hp; exact Go.step (fun t q => XS.i2s X.1.here X.2.1 rfl (hb X.2.2.1 hd) rfl q) k
theorem g_i2l (X : Sx Z own bytes ml p l e R s m args below meth c T locs cells slots h) {x : Int32} (hd : decode bytes pc = .ok (.i2l, 1)) (hp : pc + 1 = pc') (k : Go p e below K (T.setTop (mkF m pc' Ls (.long (x.toInt64) :: st)))) : Go p e below K (T.setTop (mkF m pc Ls (.int x :: st))) := by
  subst hp; exact Go.step (fun t q => XS.i2l X.1.here X.2.1 rfl (hb X.2.2.1 hd) rfl q) k
theorem g_l2i (X : Sx Z own bytes ml p l e R s m args below meth c T locs cells slots h) {x : Int64} (hd : decode bytes pc = .ok (.l2i, 1)) (hp : pc + 1 = pc') (k : Go p e below K (T.setTop (mkF m pc' Ls (.int (x.toInt32) :: st)))) : Go p e below K (T.setTop (mkF m pc Ls (.long x :: st))) := by
  subst hp; exact Go.step (fun t q => XS.l2i X.1.here X.2.1 rfl (hb X.2.2.1 hd) rfl q) k
theorem g_lneg (X : Sx Z own bytes ml p l e R s m args below meth c T locs cells slots h) {x : Int64} (hd : decode bytes pc = .ok (.lneg, 1)) (hp : pc + 1 = pc') (k : Go p e below K (T.setTop (mkF m pc' Ls (.long (-x) :: st)))) : Go p e below K (T.setTop (mkF m pc Ls (.long x :: st))) := by
  subst hp; exact Go.step (fun t q => XS.lneg X.1.here X.2.1 rfl (hb X.2.2.1 hd) rfl q) k
theorem g_iinc (X : Sx Z own bytes ml p l e R s m args below meth c T locs cells slots h) {i : Nat} {q x : Int32} {n : Int} (hd : decode bytes pc = .ok (.iinc i n, 3)) (hp : pc + 3 = pc') (hq : Int32.ofInt n = q) (hl : Ls[i]? = some (.val (.int x))) (hl' : storeLocals Ls i (.int (x + q)) = some Ls') (k : Go p e below K (T.setTop (mkF m pc' Ls' (st)))) : Go p e below K (T.setTop (mkF m pc Ls (st))) := by
  subst hq; subst hp; exact Go.step (fun t q => XS.iinc X.1.here X.2.1 rfl (hb X.2.2.1 hd) hl hl' q) k
theorem g_dup (X : Sx Z own bytes ml p l e R s m args below meth c T locs cells slots h) {v : Value} (hd : decode bytes pc = .ok (.dup, 1)) (hp : pc + 1 = pc') (hc : v.category = 1) (k : Go p e below K (T.setTop (mkF m pc' Ls (v :: v :: st)))) : Go p e below K (T.setTop (mkF m pc Ls (v :: st))) := by
  subst hp; exact Go.step (fun t q => XS.dup X.1.here X.2.1 rfl (hb X.2.2.1 hd) rfl hc q) k
theorem g_pop (X : Sx Z own bytes ml p l e R s m args below meth c T locs cells slots h) {v : Value} (hd : decode bytes pc = .ok (.pop, 1)) (hp : pc + 1 = pc') (hc : v.category = 1) (k : Go p e below K (T.setTop (mkF m pc' Ls (st)))) : Go p e below K (T.setTop (mkF m pc Ls (v :: st))) := by
  subst hp; exact Go.step (fun t q => XS.pop X.1.here X.2.1 rfl (hb X.2.2.1 hd) rfl hc q) k
theorem g_dup_x1 (X : Sx Z own bytes ml p l e R s m args below meth c T locs cells slots h) {v w : Value} (hd : decode bytes pc = .ok (.dup_x1, 1)) (hp : pc + 1 = pc') (hc : v.category = 1) (hc' : w.category = 1) (k : Go p e below K (T.setTop (mkF m pc' Ls (v :: w :: v :: st)))) : Go p e below K (T.setTop (mkF m pc Ls (v :: w :: st))) := by
  subst hp; exact Go.step (fun t q => XS.dupX1 X.1.here X.2.1 rfl (hb X.2.2.1 hd) rfl hc hc' q) k
theorem g_dup2 (X : Sx Z own bytes ml p l e R s m args below meth c T locs cells slots h) {v w : Value} (hd : decode bytes pc = .ok (.dup2, 1)) (hp : pc + 1 = pc') (hc : v.category = 1) (hc' : w.category = 1) (k : Go p e below K (T.setTop (mkF m pc' Ls (v :: w :: v :: w :: st)))) : Go p e below K (T.setTop (mkF m pc Ls (v :: w :: st))) := by
  subst hp; exact Go.step (fun t q => Jvm.Free.XT.dup2 X.1.here X.2.1 rfl (hb X.2.2.1 hd) rfl hc hc' q) k
theorem g_dup2L (X : Sx Z own bytes ml p l e R s m args below meth c T locs cells slots h) {v : Int64} (hd : decode bytes pc = .ok (.dup2, 1)) (hp : pc + 1 = pc') (k : Go p e below K (T.setTop (mkF m pc' Ls (.long v :: .long v :: st)))) : Go p e below K (T.setTop (mkF m pc Ls (.long v :: st))) := by
  subst hp; exact Go.step (fun t q => Jvm.Free.XT.dup2L X.1.here X.2.1 rfl (hb X.2.2.1 hd) rfl q) k
theorem g_dload (X : Sx Z own bytes ml p l e R s m args below meth c T locs cells slots h) {i : Nat} {v : UInt64} (hd : decode bytes pc = .ok (.dload i, 2)) (hp : pc + 2 = pc') (hl : Ls[i]? = some (.val (.double v))) (k : Go p e below K (T.setTop (mkF m pc' Ls (.double v :: st)))) : Go p e below K (T.setTop (mkF m pc Ls (st))) := by
  subst hp; exact Go.step (fun t q => XS.dload X.1.here X.2.1 rfl (hb X.2.2.1 hd) hl q) k
theorem g_dloadN (X : Sx Z own bytes ml p l e R s m args below meth c T locs cells slots h) {i : Fin 4} {v : UInt64} (hd : decode bytes pc = .ok (.dload_n i, 1)) (hp : pc + 1 = pc') (hl : Ls[i.val]? = some (.val (.double v))) (k : Go p e below K (T.setTop (mkF m pc' Ls (.double v :: st)))) : Go p e below K (T.setTop (mkF m pc Ls (st))) := by
  subst hp; exact Go.step (fun t q => XS.dloadN X.1.here X.2.1 rfl (hb X.2.2.1 hd) hl q) k
theorem g_i2d (X : Sx Z own bytes ml p l e R s m args below meth c T locs cells slots h) {x : Int32} (hd : decode bytes pc = .ok (.i2d, 1)) (hp : pc + 1 = pc') (k : Go p e below K (T.setTop (mkF m pc' Ls (.double (FP.i2d x) :: st)))) : Go p e below K (T.setTop (mkF m pc Ls (.int x :: st))) := by
  subst hp; exact Go.step (fun t q => XS.i2dS X.1.here X.2.1 rfl (hb X.2.2.1 hd) rfl rfl q) k
theorem g_dcmp (X : Sx Z own bytes ml p l e R s m args below meth c T locs cells slots h) {o : CmpOp} {x y : UInt64} (hd : decode bytes pc = .ok (.dcmp o, 1)) (hp : pc + 1 = pc') (k : ∀ v : Int32, Go p e below K (T.setTop (mkF m pc' Ls (.int v :: st)))) : Go p e below K (T.setTop (mkF m pc Ls (.double y :: .double x :: st))) := by
  subst hp; exact Go.step (fun t q => XS.dcmpS X.1.here X.2.1 rfl (hb X.2.2.1 hd) rfl rfl q) (k _)
theorem g_goto (X : Sx Z own bytes ml p l e R s m args below meth c T locs cells slots h) {o : Int} (hd : decode bytes pc = .ok (.goto o, 3)) (ho : 0 ≤ (pc : Int) + o) (hp : ((pc : Int) + o).toNat = pc') (k : Go p e below K (T.setTop (mkF m pc' Ls (st)))) : Go p e below K (T.setTop (mkF m pc Ls (st))) := by
  exact Go.step (fun t q => XS.goto X.1.here X.2.1 rfl rfl (hb X.2.2.1 hd) ho hp q) k
theorem g_ifY (X : Sx Z own bytes ml p l e R s m args below meth c T locs cells slots h) {cd : ClassFile.Cond} {x : Int32} {o : Int} (hd : decode bytes pc = .ok (.ifCond cd o, 3)) (hc : ifCond.holds cd x = true) (ho : 0 ≤ (pc : Int) + o) (hp : ((pc : Int) + o).toNat = pc') (k : Go p e below K (T.setTop (mkF m pc' Ls (st)))) : Go p e below K (T.setTop (mkF m pc Ls (.int x :: st))) := by
  exact Go.step (fun t q => XS.ifYes X.1.here X.2.1 rfl rfl (hb X.2.2.1 hd) rfl hc ho hp q) k
theorem g_ifN (X : Sx Z own bytes ml p l e R s m args below meth c T locs cells slots h) {cd : ClassFile.Cond} {x : Int32} {o : Int} (hd : decode bytes pc = .ok (.ifCond cd o, 3)) (hc : ifCond.holds cd x = false) (hp : pc + 3 = pc') (k : Go p e below K (T.setTop (mkF m pc' Ls (st)))) : Go p e below K (T.setTop (mkF m pc Ls (.int x :: st))) := by
  subst hp; exact Go.step (fun t q => XS.ifNo X.1.here X.2.1 rfl (hb X.2.2.1 hd) rfl hc q) k
theorem g_icY (X : Sx Z own bytes ml p l e R s m args below meth c T locs cells slots h) {cd : ClassFile.Cond} {x y : Int32} {o : Int} (hd : decode bytes pc = .ok (.if_icmp cd o, 3)) (hc : if_icmp.holds cd x y = true) (ho : 0 ≤ (pc : Int) + o) (hp : ((pc : Int) + o).toNat = pc') (k : Go p e below K (T.setTop (mkF m pc' Ls (st)))) : Go p e below K (T.setTop (mkF m pc Ls (.int y :: .int x :: st))) := by
  exact Go.step (fun t q => XS.icmpYes X.1.here X.2.1 rfl rfl (hb X.2.2.1 hd) rfl hc ho hp q) k
theorem g_icN (X : Sx Z own bytes ml p l e R s m args below meth c T locs cells slots h) {cd : ClassFile.Cond} {x y : Int32} {o : Int} (hd : decode bytes pc = .ok (.if_icmp cd o, 3)) (hc : if_icmp.holds cd x y = false) (hp : pc + 3 = pc') (k : Go p e below K (T.setTop (mkF m pc' Ls (st)))) : Go p e below K (T.setTop (mkF m pc Ls (.int y :: .int x :: st))) := by
  subst hp; exact Go.step (fun t q => XS.icmpNo X.1.here X.2.1 rfl (hb X.2.2.1 hd) rfl hc q) k
theorem g_nullY (X : Sx Z own bytes ml p l e R s m args below meth c T locs cells slots h) {o : Int} (hd : decode bytes pc = .ok (.ifnull o, 3)) (ho : 0 ≤ (pc : Int) + o) (hp : ((pc : Int) + o).toNat = pc') (k : Go p e below K (T.setTop (mkF m pc' Ls (st)))) : Go p e below K (T.setTop (mkF m pc Ls (.null :: st))) := by
  exact Go.step (fun t q => XS.ifnullYes X.1.here X.2.1 rfl rfl (hb X.2.2.1 hd) rfl ho hp q) k
theorem g_nullN (X : Sx Z own bytes ml p l e R s m args below meth c T locs cells slots h) {o : Int} {b : Addr} (hd : decode bytes pc = .ok (.ifnull o, 3)) (hp : pc + 3 = pc') (k : Go p e below K (T.setTop (mkF m pc' Ls (st)))) : Go p e below K (T.setTop (mkF m pc Ls (.ref b :: st))) := by
  subst hp; exact Go.step (fun t q => XS.ifnullNo X.1.here X.2.1 rfl (hb X.2.2.1 hd) rfl q) k
theorem g_nonnullY (X : Sx Z own bytes ml p l e R s m args below meth c T locs cells slots h) {o : Int} {b : Addr} (hd : decode bytes pc = .ok (.ifnonnull o, 3)) (ho : 0 ≤ (pc : Int) + o) (hp : ((pc : Int) + o).toNat = pc') (k : Go p e below K (T.setTop (mkF m pc' Ls (st)))) : Go p e below K (T.setTop (mkF m pc Ls (.ref b :: st))) := by
  exact Go.step (fun t q => XS.ifnonnullYes X.1.here X.2.1 rfl rfl (hb X.2.2.1 hd) rfl ho hp q) k
theorem g_nonnullN (X : Sx Z own bytes ml p l e R s m args below meth c T locs cells slots h) {o : Int} (hd : decode bytes pc = .ok (.ifnonnull o, 3)) (hp : pc + 3 = pc') (k : Go p e below K (T.setTop (mkF m pc' Ls (st)))) : Go p e below K (T.setTop (mkF m pc Ls (.null :: st))) := by
  subst hp; exact Go.step (fun t q => XS.ifnonnullNo X.1.here X.2.1 rfl (hb X.2.2.1 hd) rfl q) k
theorem g_acmp (X : Sx Z own bytes ml p l e R s m args below meth c T locs cells slots h) {cd : ACond} {x y : Value} {o : Int} {same : Bool} (hd : decode bytes pc = .ok (.if_acmp cd o, 3)) (h1 : x.isRef = true) (h2 : y.isRef = true) (hq : decide (x = y) = same) (ho : 0 ≤ (pc : Int) + o) (hp : pc' = if acV cd same = true then ((pc : Int) + o).toNat else pc + 3) (k : Go p e below K (T.setTop (mkF m pc' Ls (st)))) : Go p e below K (T.setTop (mkF m pc Ls (y :: x :: st))) := by
  exact Go.step (fun t q => acmp (g := mkF m pc Ls (y :: x :: st)) X.1 X.2.1 rfl h1 h2 rfl (hb X.2.2.1 hd) rfl hq ho hp q) k
theorem g_tswIn (X : Sx Z own bytes ml p l e R s m args below meth c T locs cells slots h) {dflt low high : Int} {offs : Array Int} {len : Nat} {o : Int} {i : Int32} (hd : decode bytes pc = .ok (.tableswitch dflt low high offs, len)) (hin : ¬ (i.toInt < low ∨ i.toInt > high)) (hoff : offs[(i.toInt - low).toNat]? = some o) (ho : 0 ≤ (pc : Int) + o) (hp : ((pc : Int) + o).toNat = pc') (k : Go p e below K (T.setTop (mkF m pc' Ls (st)))) : Go p e below K (T.setTop (mkF m pc Ls (.int i :: st))) := by
  exact Go.step (fun t q => XS.tswIn X.1.here X.2.1 rfl rfl (hb X.2.2.1 hd) rfl hin hoff ho hp q) k
theorem g_tswOut (X : Sx Z own bytes ml p l e R s m args below meth c T locs cells slots h) {dflt low high : Int} {offs : Array Int} {len : Nat} {i : Int32} (hd : decode bytes pc = .ok (.tableswitch dflt low high offs, len)) (hin : i.toInt < low ∨ i.toInt > high) (ho : 0 ≤ (pc : Int) + dflt) (hp : ((pc : Int) + dflt).toNat = pc') (k : Go p e below K (T.setTop (mkF m pc' Ls (st)))) : Go p e below K (T.setTop (mkF m pc Ls (.int i :: st))) := by
  exact Go.step (fun t q => XS.tswOut X.1.here X.2.1 rfl rfl (hb X.2.2.1 hd) rfl hin ho hp q) k
theorem g_iaload (X : Sx Z own bytes ml p l e R s m args below meth c T locs cells slots h) {a : Addr} {vs : List Value} {j : Int32} {x : Int32} (A : Av Z h a .int vs) (n : Nat) (hd : decode bytes pc = .ok (.iaload, 1)) (hp : pc + 1 = pc') (hj : ¬ j < 0) (hn : j.toNatClampNeg = n) (hv : vs[n]? = some (.int x)) (k : Go p e below K (T.setTop (mkF m pc' Ls (.int x :: st)))) : Go p e below K (T.setTop (mkF m pc Ls (.int j :: .ref a :: st))) := by
  obtain ⟨cl, A, rfl, r⟩ := A; subst hn; subst hp
  have hv' : cl.slots[j.toNatClampNeg]? = some (.int x) := by rw [← Array.getElem?_toList]; exact hv
  exact Go.step (fun t q => X.1.iaload X.2.1 (j := j) (by rw [X.2.2.2.2.2.2]; exact A.1) (State.isArrayOf_alike X.2.2.2.2.2.1.alike A.2.1) A.2.2 (fun hh => hh.elim hj (fun hh => absurd (Array.getElem?_eq_some_iff.mp hv').1 (Nat.not_lt.mpr hh))) hv' (g := mkF m pc Ls (.int j :: .ref a :: st)) rfl rfl (hb X.2.2.1 hd) _ q) k
theorem g_caload (X : Sx Z own bytes ml p l e R s m args below meth c T locs cells slots h) {a : Addr} {vs : List Value} {j : Int32} {x : Int32} (A : Av Z h a .char vs) (n : Nat) (hd : decode bytes pc = .ok (.caload, 1)) (hp : pc + 1 = pc') (hj : ¬ j < 0) (hn : j.toNatClampNeg = n) (hv : vs[n]? = some (.int x)) (k : Go p e below K (T.setTop (mkF m pc' Ls (.int x :: st)))) : Go p e below K (T.setTop (mkF m pc Ls (.int j :: .ref a :: st))) := by
  obtain ⟨cl, A, rfl, r⟩ := A; subst hn; subst hp
  have hv' : cl.slots[j.toNatClampNeg]? = some (.int x) := by rw [← Array.getElem?_toList]; exact hv
  exact Go.step (fun t q => X.1.caload X.2.1 (j := j) (by rw [X.2.2.2.2.2.2]; exact A.1) (State.isArrayOf_alike X.2.2.2.2.2.1.alike A.2.1) A.2.2 (fun hh => hh.elim hj (fun hh => absurd (Array.getElem?_eq_some_iff.mp hv').1 (Nat.not_lt.mpr hh))) hv' (g := mkF m pc Ls (.int j :: .ref a :: st)) rfl rfl (hb X.2.2.1 hd) _ q) k
theorem g_saload (X : Sx Z own bytes ml p l e R s m args below meth c T locs cells slots h) {a : Addr} {vs : List Value} {j : Int32} {x : Int32} (A : Av Z h a .short vs) (n : Nat) (hd : decode bytes pc = .ok (.saload, 1)) (hp : pc + 1 = pc') (hj : ¬ j < 0) (hn : j.toNatClampNeg = n) (hv : vs[n]? = some (.int x)) (k : Go p e below K (T.setTop (mkF m pc' Ls (.int x :: st)))) : Go p e below K (T.setTop (mkF m pc Ls (.int j :: .ref a :: st))) := by
  obtain ⟨cl, A, rfl, r⟩ := A; subst hn; subst hp
  have hv' : cl.slots[j.toNatClampNeg]? = some (.int x) := by rw [← Array.getElem?_toList]; exact hv
  exact Go.step (fun t q => X.1.saload X.2.1 (j := j) (by rw [X.2.2.2.2.2.2]; exact A.1) (State.isArrayOf_alike X.2.2.2.2.2.1.alike A.2.1) A.2.2 (fun hh => hh.elim hj (fun hh => absurd (Array.getElem?_eq_some_iff.mp hv').1 (Nat.not_lt.mpr hh))) hv' (g := mkF m pc Ls (.int j :: .ref a :: st)) rfl rfl (hb X.2.2.1 hd) _ q) k
theorem g_baload (X : Sx Z own bytes ml p l e R s m args below meth c T locs cells slots h) {a : Addr} {vs : List Value} {j : Int32} {x : Int32} (A : Av Z h a .byte vs) (n : Nat) (hd : decode bytes pc = .ok (.baload, 1)) (hp : pc + 1 = pc') (hj : ¬ j < 0) (hn : j.toNatClampNeg = n) (hv : vs[n]? = some (.int x)) (k : Go p e below K (T.setTop (mkF m pc' Ls (.int x :: st)))) : Go p e below K (T.setTop (mkF m pc Ls (.int j :: .ref a :: st))) := by
  obtain ⟨cl, A, rfl, r⟩ := A; subst hn; subst hp
  have hv' : cl.slots[j.toNatClampNeg]? = some (.int x) := by rw [← Array.getElem?_toList]; exact hv
  exact Go.step (fun t q => X.1.baloadBytes X.2.1 (j := j) (by rw [X.2.2.2.2.2.2]; exact A.1) (State.isArrayOf_alike X.2.2.2.2.2.1.alike A.2.1) A.2.2 (fun hh => hh.elim hj (fun hh => absurd (Array.getElem?_eq_some_iff.mp hv').1 (Nat.not_lt.mpr hh))) hv' (g := mkF m pc Ls (.int j :: .ref a :: st)) rfl rfl (hb X.2.2.1 hd) _ q) k
theorem g_laload (X : Sx Z own bytes ml p l e R s m args below meth c T locs cells slots h) {a : Addr} {vs : List Value} {j : Int32} {x : Int64} (A : Av Z h a .long vs) (n : Nat) (hd : decode bytes pc = .ok (.laload, 1)) (hp : pc + 1 = pc') (hj : ¬ j < 0) (hn : j.toNatClampNeg = n) (hv : vs[n]? = some (.long x)) (k : Go p e below K (T.setTop (mkF m pc' Ls (.long x :: st)))) : Go p e below K (T.setTop (mkF m pc Ls (.int j :: .ref a :: st))) := by
  obtain ⟨cl, A, rfl, r⟩ := A; subst hn; subst hp
  have hv' : cl.slots[j.toNatClampNeg]? = some (.long x) := by rw [← Array.getElem?_toList]; exact hv
  exact Go.step (fun t q => X.1.laload X.2.1 (j := j) (by rw [X.2.2.2.2.2.2]; exact A.1) (State.isArrayOf_alike X.2.2.2.2.2.1.alike A.2.1) A.2.2 (fun hh => hh.elim hj (fun hh => absurd (Array.getElem?_eq_some_iff.mp hv').1 (Nat.not_lt.mpr hh))) hv' (g := mkF m pc Ls (.int j :: .ref a :: st)) rfl rfl (hb X.2.2.1 hd) _ q) k
theorem g_aaload (X : Sx Z own bytes ml p l e R s m args below meth c T locs cells slots h) {a : Addr} {vs : List Value} {j : Int32} {v : Value} {ty : FieldType} (A : Av Z h a ty vs) (n : Nat) (hd : decode bytes pc = .ok (.aaload, 1)) (hp : pc + 1 = pc') (hty : ty.isReference = true) (hj : ¬ j < 0) (hn : j.toNatClampNeg = n) (hv : vs[n]? = some v) (k : Go p e below K (T.setTop (mkF m pc' Ls (v :: st)))) : Go p e below K (T.setTop (mkF m pc Ls (.int j :: .ref a :: st))) := by
  obtain ⟨cl, A, rfl, r⟩ := A; subst hn; subst hp
  have hv' : cl.slots[j.toNatClampNeg]? = some v := by rw [← Array.getElem?_toList]; exact hv
  exact Go.step (fun t q => X.1.aaload X.2.1 (j := j) (by rw [X.2.2.2.2.2.2]; exact A.1) (State.isArrayOf_alike X.2.2.2.2.2.1.alike A.2.1) hty A.2.2 (fun hh => hh.elim hj (fun hh => absurd (Array.getElem?_eq_some_iff.mp hv').1 (Nat.not_lt.mpr hh))) hv' (g := mkF m pc Ls (.int j :: .ref a :: st)) rfl rfl (hb X.2.2.1 hd) _ q) k
theorem g_arraylength (X : Sx Z own bytes ml p l e R s m args below meth c T locs cells slots h) {a : Addr} {vs : List Value} {ty : FieldType} (A : Av Z h a ty vs) (hd : decode bytes pc = .ok (.arraylength, 1)) (hp : pc + 1 = pc') {z : Int32} (hz : vs.length.toInt32 = z) (k : Go p e below K (T.setTop (mkF m pc' Ls (.int z :: st)))) : Go p e below K (T.setTop (mkF m pc Ls (.ref a :: st))) := by
  obtain ⟨cl, A, rfl, r⟩ := A; subst hp
  rw [Array.length_toList] at hz; subst hz
  exact Go.step (fun t q => X.1.arraylength X.2.1 (by rw [X.2.2.2.2.2.2]; exact A.1) (State.isArrayOf_alike X.2.2.2.2.2.1.alike A.2.1) (g := mkF m pc Ls (.ref a :: st)) rfl rfl (hb X.2.2.1 hd) _ q) k
theorem g_iastore (X : Sx Z own bytes ml p l e R s m args below meth c T locs cells slots h) {a : Addr} {vs : List Value} {j : Int32} {x : Int32} (A : Av Z h a .int vs) (n : Nat) (hd : decode bytes pc = .ok (.iastore, 1)) (hp : pc + 1 = pc') (hj : ¬ j < 0) (hn : j.toNatClampNeg = n) (hlt : n < vs.length) (k : ∀ T' h', Sx Z own bytes ml p l e R s m args below meth c T' (locs ++ [⟨a, n⟩]) cells slots h' → Wr h h' a n (.int x) → Av Z h' a .int (vs.set n (.int x)) → Go p e below K (T'.setTop (mkF m pc' Ls (st)))) : Go p e below K (T.setTop (mkF m pc Ls (.int x :: .int j :: .ref a :: st))) := by
  obtain ⟨cl, A, rfl, r⟩ := A; subst hn; subst hp
  obtain ⟨T', h', X', e', W, stp⟩ := stI X.1 X.2.1 X.2.2.2.2.2.1 X.2.2.2.2.2.2 A (j := j) (fun hh => hh.elim hj (fun hh => absurd hlt (by simpa using hh))) (g := mkF m pc Ls (.int x :: .int j :: .ref a :: st)) rfl rfl (hb X.2.2.1 hd)
  exact Go.step (fun t q => stp _ q) (k T' h' ⟨X', X.2.1, X.2.2.1, X.2.2.2.1, X.2.2.2.2.1, X.2.2.2.2.2.1, e'⟩ W (Av.set ⟨cl, A, rfl, r⟩ W))
theorem g_lastore (X : Sx Z own bytes ml p l e R s m args below meth c T locs cells slots h) {a : Addr} {vs : List Value} {j : Int32} {x : Int64} (A : Av Z h a .long vs) (n : Nat) (hd : decode bytes pc = .ok (.lastore, 1)) (hp : pc + 1 = pc') (hj : ¬ j < 0) (hn : j.toNatClampNeg = n) (hlt : n < vs.length) (k : ∀ T' h', Sx Z own bytes ml p l e R s m args below meth c T' (locs ++ [⟨a, n⟩]) cells slots h' → Wr h h' a n (.long x) → Av Z h' a .long (vs.set n (.long x)) → Go p e below K (T'.setTop (mkF m pc' Ls (st)))) : Go p e below K (T.setTop (mkF m pc Ls (.long x :: .int j :: .ref a :: st))) := by
  obtain ⟨cl, A, rfl, r⟩ := A; subst hn; subst hp
  obtain ⟨T', h', X', e', W, stp⟩ := stJ X.1 X.2.1 X.2.2.2.2.2.1 X.2.2.2.2.2.2 A (j := j) (fun hh => hh.elim hj (fun hh => absurd hlt (by simpa using hh))) (g := mkF m pc Ls (.long x :: .int j :: .ref a :: st)) rfl rfl (hb X.2.2.1 hd)
  exact Go.step (fun t q => stp _ q) (k T' h' ⟨X', X.2.1, X.2.2.1, X.2.2.2.1, X.2.2.2.2.1, X.2.2.2.2.2.1, e'⟩ W (Av.set ⟨cl, A, rfl, r⟩ W))
theorem g_castore (X : Sx Z own bytes ml p l e R s m args below meth c T locs cells slots h) {a : Addr} {vs : List Value} {j : Int32} {x : Int32} (A : Av Z h a .char vs) (n : Nat) (hd : decode bytes pc = .ok (.castore, 1)) (hp : pc + 1 = pc') (hj : ¬ j < 0) (hn : j.toNatClampNeg = n) (hlt : n < vs.length) (k : ∀ T' h', Sx Z own bytes ml p l e R s m args below meth c T' (locs ++ [⟨a, n⟩]) cells slots h' → Wr h h' a n (.int (nar .char x)) → Av Z h' a .char (vs.set n (.int (nar .char x))) → Go p e below K (T'.setTop (mkF m pc' Ls (st)))) : Go p e below K (T.setTop (mkF m pc Ls (.int x :: .int j :: .ref a :: st))) := by
  obtain ⟨cl, A, rfl, r⟩ := A; subst hn; subst hp
  obtain ⟨T', h', X', e', W, stp⟩ := stC X.1 X.2.1 X.2.2.2.2.2.1 X.2.2.2.2.2.2 A (j := j) (fun hh => hh.elim hj (fun hh => absurd hlt (by simpa using hh))) (g := mkF m pc Ls (.int x :: .int j :: .ref a :: st)) rfl rfl (hb X.2.2.1 hd)
  exact Go.step (fun t q => stp _ q) (k T' h' ⟨X', X.2.1, X.2.2.1, X.2.2.2.1, X.2.2.2.2.1, X.2.2.2.2.2.1, e'⟩ W (Av.set ⟨cl, A, rfl, r⟩ W))
theorem g_sastore (X : Sx Z own bytes ml p l e R s m args below meth c T locs cells slots h) {a : Addr} {vs : List Value} {j : Int32} {x : Int32} (A : Av Z h a .short vs) (n : Nat) (hd : decode bytes pc = .ok (.sastore, 1)) (hp : pc + 1 = pc') (hj : ¬ j < 0) (hn : j.toNatClampNeg = n) (hlt : n < vs.length) (k : ∀ T' h', Sx Z own bytes ml p l e R s m args below meth c T' (locs ++ [⟨a, n⟩]) cells slots h' → Wr h h' a n (.int (nar .short x)) → Av Z h' a .short (vs.set n (.int (nar .short x))) → Go p e below K (T'.setTop (mkF m pc' Ls (st)))) : Go p e below K (T.setTop (mkF m pc Ls (.int x :: .int j :: .ref a :: st))) := by
  obtain ⟨cl, A, rfl, r⟩ := A; subst hn; subst hp
  obtain ⟨T', h', X', e', W, stp⟩ := stS X.1 X.2.1 X.2.2.2.2.2.1 X.2.2.2.2.2.2 A (j := j) (fun hh => hh.elim hj (fun hh => absurd hlt (by simpa using hh))) (g := mkF m pc Ls (.int x :: .int j :: .ref a :: st)) rfl rfl (hb X.2.2.1 hd)
  exact Go.step (fun t q => stp _ q) (k T' h' ⟨X', X.2.1, X.2.2.1, X.2.2.2.1, X.2.2.2.2.1, X.2.2.2.2.2.1, e'⟩ W (Av.set ⟨cl, A, rfl, r⟩ W))
theorem g_bastore (X : Sx Z own bytes ml p l e R s m args below meth c T locs cells slots h) {a : Addr} {vs : List Value} {j : Int32} {x : Int32} (A : Av Z h a .byte vs) (n : Nat) (hd : decode bytes pc = .ok (.bastore, 1)) (hp : pc + 1 = pc') (hj : ¬ j < 0) (hn : j.toNatClampNeg = n) (hlt : n < vs.length) (k : ∀ T' h', Sx Z own bytes ml p l e R s m args below meth c T' (locs ++ [⟨a, n⟩]) cells slots h' → Wr h h' a n (.int (nar .byte x)) → Av Z h' a .byte (vs.set n (.int (nar .byte x))) → Go p e below K (T'.setTop (mkF m pc' Ls (st)))) : Go p e below K (T.setTop (mkF m pc Ls (.int x :: .int j :: .ref a :: st))) := by
  obtain ⟨cl, A, rfl, r⟩ := A; subst hn; subst hp
  obtain ⟨T', h', X', e', W, stp⟩ := stB X.1 X.2.1 X.2.2.2.2.2.1 X.2.2.2.2.2.2 A (j := j) (fun hh => hh.elim hj (fun hh => absurd hlt (by simpa using hh))) (g := mkF m pc Ls (.int x :: .int j :: .ref a :: st)) rfl rfl (hb X.2.2.1 hd)
  exact Go.step (fun t q => stp _ q) (k T' h' ⟨X', X.2.1, X.2.2.1, X.2.2.2.1, X.2.2.2.2.1, X.2.2.2.2.2.1, e'⟩ W (Av.set ⟨cl, A, rfl, r⟩ W))
theorem g_arraylengthN (X : Sx Z own bytes ml p l e R s m args below meth c T locs cells slots h) {a : Addr} {ty : FieldType} {z : Int32} (A : AvN Z h a ty z) (hd : decode bytes pc = .ok (.arraylength, 1)) (hp : pc + 1 = pc') (k : Go p e below K (T.setTop (mkF m pc' Ls (.int z :: st)))) : Go p e below K (T.setTop (mkF m pc Ls (.ref a :: st))) := by
  obtain ⟨vs, A, hz⟩ := A; exact g_arraylength X A hd hp hz k
theorem g_iastoreN (X : Sx Z own bytes ml p l e R s m args below meth c T locs cells slots h) {a : Addr} {j x z : Int32} (A : AvN Z h a .int z) (hd : decode bytes pc = .ok (.iastore, 1)) (hp : pc + 1 = pc') (hj : ¬ j < 0) (hjz : j < z) (k : ∀ T' h', Sx Z own bytes ml p l e R s m args below meth c T' (locs ++ [⟨a, j.toNatClampNeg⟩]) cells slots h' → Wr h h' a j.toNatClampNeg (.int x) → AvN Z h' a .int z → Go p e below K (T'.setTop (mkF m pc' Ls (st)))) : Go p e below K (T.setTop (mkF m pc Ls (.int x :: .int j :: .ref a :: st))) := by
  obtain ⟨vs, A, hz⟩ := A
  have hl := A.len
  refine g_iastore X A _ hd hp hj rfl ?_ (fun T' h' X' W V => k T' h' X' W ⟨_, V, by rw [List.length_set]; exact hz⟩)
  rw [hz] at hl
  rw [Int32.lt_iff_toInt_lt] at hj hjz
  simp only [Int32.toNatClampNeg, Int32.reduceToInt] at hj ⊢
  omega
theorem g_aastore (X : Sx Z own bytes ml p l e R s m args below meth c T locs cells slots h) {a : Addr} {vs : List Value} {j : Int32} {v : Value} {ty : FieldType} (A : Av Z h a ty vs) (S : Sto Z h a v) (n : Nat) (hd : decode bytes pc = .ok (.aastore, 1)) (hp : pc + 1 = pc') (hty : ty.isReference = true) (hj : ¬ j < 0) (hn : j.toNatClampNeg = n) (hlt : n < vs.length) (k : ∀ T' h', Sx Z own bytes ml p l e R s m args below meth c T' (locs ++ [⟨a, n⟩]) cells slots h' → Wr h h' a n v → Av Z h' a ty (vs.set n v) → Go p e below K (T'.setTop (mkF m pc' Ls (st)))) : Go p e below K (T.setTop (mkF m pc Ls (v :: .int j :: .ref a :: st))) := by
  obtain ⟨cl, A, rfl, r⟩ := A; subst hn; subst hp
  obtain ⟨T', h', X', e', W, stp⟩ := stR X.1 X.2.1 X.2.2.2.2.2.1 X.2.2.2.2.2.2 A (j := j) (fun hh => hh.elim hj (fun hh => absurd hlt (by simpa using hh))) hty S (g := mkF m pc Ls (v :: .int j :: .ref a :: st)) rfl rfl (hb X.2.2.1 hd)
  exact Go.step (fun t q => stp _ q) (k T' h' ⟨X', X.2.1, X.2.2.1, X.2.2.2.1, X.2.2.2.2.1, X.2.2.2.2.2.1, e'⟩ W (Av.set ⟨cl, A, rfl, r⟩ W))
theorem g_newarray (X : Sx Z own bytes ml p l e R s m args below meth c T locs cells slots h) {aty : ArrayType} {z : Int32} {vs : List Value} {ad : String} (n : Nat) (w : (Cond.arrayClass (newarray.typeOf aty)).before a0 Z = true) (hd : decode bytes pc = .ok (.newarray aty, 2)) (hp : pc + 2 = pc') (hz : ¬ z < 0) (hn : z.toNatClampNeg = n) (cap : Nat) (hcap : n ≤ cap) (hbig : cap * 8 ≤ 536870912) (hc : cells + 1 ≤ R.cells) (hl : slots + cap ≤ R.slots) (hvs : List.replicate n (defaultValue (newarray.typeOf aty)) = vs) (had : "[" ++ (newarray.typeOf aty).toString = ad) (k : ∀ T' h' (a : Addr), a = h.size → Sx Z own bytes ml p l e R s m args below meth c T' locs (cells + 1) (slots + cap) h' → Ext h h' → Exa Z h' a ad → Av Z h' a (newarray.typeOf aty) vs → Go p e below K (T'.setTop (mkF m pc' Ls (.ref a :: st)))) : Go p e below K (T.setTop (mkF m pc Ls (.int z :: st))) := by
  subst hn; subst hp; subst hvs
  obtain ⟨T', h', cA, X', e', E, A, B, stp⟩ := newPE X.1 X.2.1 X.2.2.2.2.2.1 w X.2.2.2.2.2.2 (g := mkF m pc Ls (.int z :: st)) rfl (hb X.2.2.1 hd) rfl hz hcap hbig hc hl had
  refine Go.step (fun t q => stp _ q) (k T' h' _ rfl ⟨X', X.2.1, X.2.2.1, X.2.2.2.1, X.2.2.2.2.1, X.2.2.2.2.2.1, e'⟩ E B ⟨_, A, by simp [newA], ?_⟩)
  simp only [List.length_replicate]
  exact (back32 hz).2
theorem g_anewarray (X : Sx Z own bytes ml p l e R s m args below meth c T locs cells slots h) {i : Nat} {C : String} {z : Int32} {vs : List Value} {ad : String} (n : Nat) (w1 : (Cond.classLink own i C).before a0 Z = true) (w2 : (Cond.arrayOver (.object C)).before a0 Z = true) (hd : decode bytes pc = .ok (.anewarray i, 3)) (hp : pc + 3 = pc') (hz : ¬ z < 0) (hn : z.toNatClampNeg = n) (cap : Nat) (hcap : n ≤ cap) (hbig : cap * 8 ≤ 536870912) (hc : cells + 1 ≤ R.cells) (hl : slots + cap ≤ R.slots) (hvs : List.replicate n .null = vs) (had : "[" ++ (FieldType.object C).toString = ad) (k : ∀ T' h' (a : Addr), a = h.size → Sx Z own bytes ml p l e R s m args below meth c T' locs (cells + 1) (slots + cap) h' → Ext h h' → Exa Z h' a ad → Av Z h' a (.object C) vs → OvA Z h' a C → Go p e below K (T'.setTop (mkF m pc' Ls (.ref a :: st)))) : Go p e below K (T.setTop (mkF m pc Ls (.int z :: st))) := by
  subst hn; subst hp; subst hvs
  obtain ⟨T', h', cA, X', e', E, A, B, O, stp⟩ := newRE X.1 X.2.1 X.2.2.2.2.2.1 X.2.2.2.2.1 w1 w2 X.2.2.2.2.2.2 (g := mkF m pc Ls (.int z :: st)) rfl (hb X.2.2.1 hd) rfl hz hcap hbig hc hl had
  refine Go.step (fun t q => stp _ q) (k T' h' _ rfl ⟨X', X.2.1, X.2.2.1, X.2.2.2.1, X.2.2.2.2.1, X.2.2.2.2.2.1, e'⟩ E B ⟨_, A, by simp [newA, defaultValue], ?_⟩ ⟨_, A, O⟩)
  simp only [List.length_replicate]
  exact (back32 hz).2
theorem g_new (X : Sx Z own bytes ml p l e R s m args below meth c T locs cells slots h) {i n : Nat} {C : String} (w1 : (Cond.classLink own i C).before a0 Z = true) (w2 : (Cond.instantiable C n).before a0 Z = true) (w3 : (Cond.initialized C).before a0 Z = true) (hd : decode bytes pc = .ok (.new i, 3)) (hp : pc + 3 = pc') (hc : cells + 1 ≤ R.cells) (hl : slots + n ≤ R.slots) (k : ∀ T' h' (a : Addr), a = h.size → Sx Z own bytes ml p l e R s m args below meth c T' locs (cells + 1) (slots + n) h' → Ext h h' → Exa Z h' a C → (∀ {O nm d : String} {ty : FieldType}, Laid Z a0 C O nm d → parseFieldDescriptor d = some ty → Fld Z h' a O nm d (defaultValue ty)) → Go p e below K (T'.setTop (mkF m pc' Ls (.ref a :: st)))) : Go p e below K (T.setTop (mkF m pc Ls (st))) := by
  subst hp
  obtain ⟨T', h', X', e', E, A, D, -, stp⟩ := newO X.1 X.2.1 X.2.2.2.2.2.1 X.2.2.2.2.1 w1 w2 w3 X.2.2.2.2.2.2 (g := mkF m pc Ls st) rfl (hb X.2.2.1 hd) hc hl
  exact Go.step (fun t q => stp _ q) (k T' h' _ rfl ⟨X', X.2.1, X.2.2.1, X.2.2.2.1, X.2.2.2.2.1, X.2.2.2.2.2.1, e'⟩ E A D)
theorem g_getfield (X : Sx Z own bytes ml p l e R s m args below meth c T locs cells slots h) {i : Nat} {R0 O nm d host : String} {a : Addr} {v : Value} (w : (Cond.fieldLink own i R0 nm d).before a0 Z = true ∨ (Cond.fieldLinkNest own i R0 nm d host).before a0 Z = true) (via : Via Z R0 O nm d) (F : Fld Z h a O nm d v) (hd : decode bytes pc = .ok (.getfield i, 3)) (hp : pc + 3 = pc') (k : ∀ T', Sx Z own bytes ml p l e R s m args below meth c T' locs cells slots h → Go p e below K (T'.setTop (mkF m pc' Ls (v :: st)))) : Go p e below K (T.setTop (mkF m pc Ls (.ref a :: st))) := by
  subst hp
  obtain ⟨T', X', e', stp⟩ := getF X.1 X.2.1 X.2.2.2.2.2.1 X.2.2.2.2.1 w via X.2.2.2.2.2.2 F (g := mkF m pc Ls (.ref a :: st)) rfl rfl (hb X.2.2.1 hd)
  exact Go.step (fun t q => stp _ q) (k T' ⟨X', X.2.1, X.2.2.1, X.2.2.2.1, X.2.2.2.2.1, X.2.2.2.2.2.1, e'⟩)
theorem g_getstatic (X : Sx Z own bytes ml p l e R s m args below meth c T locs cells slots h) {i : Nat} {R0 O nm d host : String} {v : Value} (w : (Cond.fieldLink own i R0 nm d).before a0 Z = true ∨ (Cond.fieldLinkNest own i R0 nm d host).before a0 Z = true) (via : Via Z R0 O nm d) (F : Sta Z h O nm d v) (hd : decode bytes pc = .ok (.getstatic i, 3)) (hp : pc + 3 = pc') (k : ∀ T', Sx Z own bytes ml p l e R s m args below meth c T' locs cells slots h → Go p e below K (T'.setTop (mkF m pc' Ls (v :: st)))) : Go p e below K (T.setTop (mkF m pc Ls (st))) := by
  subst hp
  obtain ⟨T', X', e', stp⟩ := getS2 X.1 X.2.1 X.2.2.2.2.2.1 X.2.2.2.2.1 w via X.2.2.2.2.2.2 F (g := mkF m pc Ls st) rfl (hb X.2.2.1 hd)
  exact Go.step (fun t q => stp _ q) (k T' ⟨X', X.2.1, X.2.2.1, X.2.2.2.1, X.2.2.2.2.1, X.2.2.2.2.2.1, e'⟩)
theorem g_putfield (X : Sx Z own bytes ml p l e R s m args below meth c T locs cells slots h) {i kk : Nat} {R0 O nm d host C : String} {a : Addr} {v old : Value} {ty : FieldType} (w : (Cond.fieldLink own i R0 nm d).before a0 Z = true ∨ (Cond.fieldLinkNest own i R0 nm d host).before a0 Z = true) (via : Via Z R0 O nm d) (F : Fld Z h a O nm d old) (E : Exa Z h a C) (L : (Cond.lays C O nm d).before a0 Z = true ∨ ((Cond.laysFinal C O nm d).before a0 Z = true ∧ own = O ∧ meth.name = "<init>")) (wi : (Cond.instantiable C kk).before a0 Z = true) (hty : parseFieldDescriptor d = some ty) (hn : narrow ty v = v) (hf : fits ty v = true) (hd : decode bytes pc = .ok (.putfield i, 3)) (hp : pc + 3 = pc') (k : ∀ T' h', Sx Z own bytes ml p l e R s m args below meth c T' (locs ++ [⟨a, RoadKit.slotOf Z O nm d⟩]) cells slots h' → Wr h h' a (RoadKit.slotOf Z O nm d) v → Go p e below K (T'.setTop (mkF m pc' Ls (st)))) : Go p e below K (T.setTop (mkF m pc Ls (v :: .ref a :: st))) := by
  subst hp
  obtain ⟨T', h', X', e', W, stp⟩ := putF X.1 X.2.1 X.2.2.2.2.2.1 X.2.2.2.2.1 w via X.2.2.2.2.2.2 F E L wi hty hn hf (g := mkF m pc Ls (v :: .ref a :: st)) rfl rfl (hb X.2.2.1 hd)
  exact Go.step (fun t q => stp _ q) (k T' h' ⟨X', X.2.1, X.2.2.1, X.2.2.2.1, X.2.2.2.2.1, X.2.2.2.2.2.1, e'⟩ W)
theorem g_putfieldN (X : Sx Z own bytes ml p l e R s m args below meth c T locs cells slots h) {i kk : Nat} {R0 O nm d C : String} {a : Addr} {v v' old : Value} {ty : FieldType} (w : (Cond.fieldLink own i R0 nm d).before a0 Z = true) (via : Via Z R0 O nm d) (F : Fld Z h a O nm d old) (E : Exa Z h a C) (L : (Cond.lays C O nm d).before a0 Z = true ∨ ((Cond.laysFinal C O nm d).before a0 Z = true ∧ own = O ∧ meth.name = "<init>")) (wi : (Cond.instantiable C kk).before a0 Z = true) (hty : parseFieldDescriptor d = some ty) (hn : narrow ty v = v') (hf : fits ty v' = true) (hd : decode bytes pc = .ok (.putfield i, 3)) (hp : pc + 3 = pc') (k : ∀ T' h', Sx Z own bytes ml p l e R s m args below meth c T' (locs ++ [⟨a, RoadKit.slotOf Z O nm d⟩]) cells slots h' → Wr h h' a (RoadKit.slotOf Z O nm d) v' → Go p e below K (T'.setTop (mkF m pc' Ls (st)))) : Go p e below K (T.setTop (mkF m pc Ls (v :: .ref a :: st))) := by
  subst hp
  obtain ⟨T', h', X', e', W, stp⟩ := putFN X.1 X.2.1 X.2.2.2.2.2.1 X.2.2.2.2.1 w via X.2.2.2.2.2.2 F E L wi hty hn hf (g := mkF m pc Ls (v :: .ref a :: st)) rfl rfl (hb X.2.2.1 hd)
  exact Go.step (fun t q => stp _ q) (k T' h' ⟨X', X.2.1, X.2.2.1, X.2.2.2.1, X.2.2.2.2.1, X.2.2.2.2.2.1, e'⟩ W)
theorem g_initO (X : Sx Z own bytes ml p l e R s m args below meth c T locs cells slots h) {i W : Nat} {a : Addr} (w1 : (Cond.methodLink own i Lib.objectInit).before a0 Z = true) (w2 : (Cond.instanceMethod Lib.objectInit).before a0 Z = true) (w3 : (Cond.code Lib.objectInit ⟨#[0xb1]⟩ 1 none).before a0 Z = true) (hd : decode bytes pc = .ok (.invokespecial i, 3)) (hp : pc + 3 = pc') (hsz : Ls.size = ml) (hf : 1 ≤ R.frames) (hW : (st.map fun v => v.category).sum ≤ W) (hl : W + 12 ≤ R.locals) (k : ∀ T', Sx Z own bytes ml p l e R s m args below meth c T' locs cells slots h → Go p e below K (T'.setTop (mkF m pc' Ls (st)))) : Go p e below K (T.setTop (mkF m pc Ls (.ref a :: st))) := by
  subst hp
  obtain ⟨T', X', e', stp⟩ := initO X.1 X.2.1 X.2.2.2.2.2.1 X.2.2.2.2.1 w1 w2 w3 X.2.2.2.2.2.2 (g := mkF m pc Ls (.ref a :: st)) rfl (by rw [X.2.2.2.1]; exact hsz) rfl (hb X.2.2.1 hd) hf (W := W) (by simpa using hW) hl
  exact Go.step (fun t q => stp _ q) (k T' ⟨X', X.2.1, X.2.2.1, X.2.2.2.1, X.2.2.2.2.1, X.2.2.2.2.2.1, e'⟩)
theorem g_checkcast (X : Sx Z own bytes ml p l e R s m args below meth c T locs cells slots h) {i : Nat} {K0 : String} {a : Addr} (w : (Cond.classLink own i K0).before a0 Z = true) (F : Ins Z h a K0 true) (hd : decode bytes pc = .ok (.checkcast i, 3)) (hp : pc + 3 = pc') (k : ∀ T', Sx Z own bytes ml p l e R s m args below meth c T' locs cells slots h → Go p e below K (T'.setTop (mkF m pc' Ls (.ref a :: st)))) : Go p e below K (T.setTop (mkF m pc Ls (.ref a :: st))) := by
  subst hp
  obtain ⟨T', X', e', stp⟩ := castY X.1 X.2.1 X.2.2.2.2.2.1 X.2.2.2.2.1 w X.2.2.2.2.2.2 F (g := mkF m pc Ls (.ref a :: st)) rfl rfl (hb X.2.2.1 hd)
  exact Go.step (fun t q => stp _ q) (k T' ⟨X', X.2.1, X.2.2.1, X.2.2.2.1, X.2.2.2.2.1, X.2.2.2.2.2.1, e'⟩)
theorem g_clone (X : Sx Z own bytes ml p l e R s m args below meth c T locs cells slots h) {i W : Nat} {ad : String} {a : Addr} {ty : FieldType} {vs : List Value} (w1 : (Cond.methodLink own i ⟨ad, "clone", "()Ljava/lang/Object;"⟩).before a0 Z = true) (w2 : (Cond.sameMethod ad "java/lang/Object" "clone" "()Ljava/lang/Object;").before a0 Z = true) (w3 : (Cond.native ⟨"java/lang/Object", "clone", "()Ljava/lang/Object;"⟩).before a0 Z = true) (w4 : (Cond.instanceMethod ⟨"java/lang/Object", "clone", "()Ljava/lang/Object;"⟩).before a0 Z = true) (w5 : (Cond.selects ad ⟨ad, "clone", "()Ljava/lang/Object;"⟩ ⟨"java/lang/Object", "clone", "()Ljava/lang/Object;"⟩).before a0 Z = true) (w6 : (Cond.castable ad "java/lang/Cloneable").before a0 Z = true) (A : Av Z h a ty vs) (E : Exa Z h a ad) (hfit : ∀ v ∈ vs, fits ty v = true) (hd : decode bytes pc = .ok (.invokevirtual i, 3)) (hp : pc + 3 = pc') (hsz : Ls.size = ml) (hf : 1 ≤ R.frames) (hW : (st.map fun v => v.category).sum ≤ W) (hl : W + 14 ≤ R.locals) (cap : Nat) (hcap : vs.length ≤ cap) (hc : cells + 1 ≤ R.cells) (hs : slots + cap ≤ R.slots) (k : ∀ T' h' (b : Addr), b = h.size → Sx Z own bytes ml p l e R s m args below meth c T' locs (cells + 1) (slots + cap) h' → Ext h h' → Exa Z h' b ad → Av Z h' b ty vs → Go p e below K (T'.setTop (mkF m pc' Ls (.ref b :: st)))) : Go p e below K (T.setTop (mkF m pc Ls (.ref a :: st))) := by
  subst hp
  obtain ⟨cl, A, rfl, r⟩ := A
  have FC : FitC Z cl := fitC_of A fun j hj v hv => hfit v (by rw [← Array.getElem?_toList] at hv; exact List.mem_of_getElem? hv)
  obtain ⟨T', h', X', e', Ex, A', E', stp⟩ := cloneA X.1 X.2.1 X.2.2.2.2.2.1 X.2.2.2.2.1 w1 w2 w3 w4 w5 w6 X.2.2.2.2.2.2 A E FC (g := mkF m pc Ls (.ref a :: st)) rfl (by rw [X.2.2.2.1]; exact hsz) rfl (hb X.2.2.1 hd) hf (W := W) (cap := cap) (by simpa using hW) hl (by simpa using hcap) hc hs
  exact Go.step (fun t q => stp _ q) (k T' h' _ rfl ⟨X', X.2.1, X.2.2.1, X.2.2.2.1, X.2.2.2.2.1, X.2.2.2.2.2.1, e'⟩ Ex E' ⟨_, A', rfl, r⟩)
theorem g_static (X : Sx Z own bytes ml p l e R s m args below meth c T locs cells slots h) {y : MethodName} {yb : ByteArray} {yl : Nat} {yr : Option FieldType} {rm : Room} {as' : Array Value} {Q : Option Value → Heap → List Loc → Prop} {i W : Nat} (argsL rest : List Value) (w1 : (Cond.methodLink own i y).before a0 Z = true) (w2 : (Cond.static y).before a0 Z = true) (w3 : (Cond.initialized y.cls).before a0 Z = true) (w4 : (Cond.code y yb yl yr).before a0 Z = true) (M : Rm l Z y yb yl yr [] rm as' h Q) (hd : decode bytes pc = .ok (.invokestatic i, 3)) (hp : pc + 3 = pc') (hy : y.cls ≠ "java/lang/invoke/MethodHandle" ∧ y.cls ≠ "java/lang/invoke/VarHandle") (hf : rm.frames + 1 ≤ R.frames) (hl : W + (yl + 11) + rm.locals ≤ R.locals) (hsz : Ls.size = ml) (ha : argsL.toArray = as') (hst : st = argsL.reverse ++ rest) (hlen : ∀ sig, parseMethodDescriptor y.desc = some sig → argsL.length = sig.parameters.length) (hW : (rest.map fun v => v.category).sum ≤ W) (hc : cells + rm.cells ≤ R.cells) (hs : slots + rm.slots ≤ R.slots) (k : ∀ v T' L, Sx Z own bytes ml p l e R s m args below meth c T' (locs ++ L) (cells + rm.cells) (slots + rm.slots) T'.heap → Q v T'.heap L → Go p e below K (T'.setTop (mkF m pc' Ls (v.toList ++ rest)))) : Go p e below K (T.setTop (mkF m pc Ls (st))) := by
  subst hp; subst hst
  have hZ := X.2.2.2.2.2.1
  obtain ⟨v, vm1, ⟨T', L', k', n'⟩, -, X', ⟨L, hQ, l1, l2, l3⟩, stp⟩ := Jvm.LawKit.callS X.1 X.2.1 X.2.2.2.2.1 (mvT hZ w1) (mvT hZ w2) (mvT hZ w3) (mvT hZ w4) hy (backOf (W := W) M hZ w4 w3 hf hl) (g := mkF m pc Ls (argsL.reverse ++ rest)) rfl (by rw [X.2.2.2.1]; exact hsz) (argsL := argsL) (rest := rest) hlen rfl (by simpa using hW) (hb X.2.2.1 hd) (fun _ _ => ⟨ha, X.2.2.2.2.2.2, hc, hs⟩)
  dsimp only [Pt.U, Pt.locs, Pt.cells, Pt.slots] at X' l1 l2 l3 stp hQ
  subst l1 l2 l3
  exact Go.step (fun t q => stp _ q) (k v T' L ⟨X', X.2.1, X.2.2.1, X.2.2.2.1, X.2.2.2.2.1, X.2.2.2.2.2.1, rfl⟩ hQ)
theorem g_special (X : Sx Z own bytes ml p l e R s m args below meth c T locs cells slots h) {y : MethodName} {yb : ByteArray} {yl : Nat} {rm : Room} {as' : Array Value} {Q : Option Value → Heap → List Loc → Prop} {i W : Nat} {a : Addr} (argsL rest : List Value) (hi : y.name = "<init>") (w1 : (Cond.methodLink own i y).before a0 Z = true) (w2 : (Cond.instanceMethod y).before a0 Z = true) (w3 : (Cond.initialized y.cls).before a0 Z = true) (w4 : (Cond.code y yb yl none).before a0 Z = true) (M : Rm l Z y yb yl none [] rm as' h Q) (hd : decode bytes pc = .ok (.invokespecial i, 3)) (hp : pc + 3 = pc') (hy : y.cls ≠ "java/lang/invoke/MethodHandle" ∧ y.cls ≠ "java/lang/invoke/VarHandle") (hf : rm.frames + 1 ≤ R.frames) (hl : W + (yl + 11) + rm.locals ≤ R.locals) (hsz : Ls.size = ml) (ha : (.ref a :: argsL).toArray = as') (hst : st = argsL.reverse ++ .ref a :: rest) (hlen : ∀ sig, parseMethodDescriptor y.desc = some sig → argsL.length = sig.parameters.length) (hW : (rest.map fun v => v.category).sum ≤ W) (hc : cells + rm.cells ≤ R.cells) (hs : slots + rm.slots ≤ R.slots) (k : ∀ v T' L, Sx Z own bytes ml p l e R s m args below meth c T' (locs ++ L) (cells + rm.cells) (slots + rm.slots) T'.heap → Q v T'.heap L → Go p e below K (T'.setTop (mkF m pc' Ls (v.toList ++ rest)))) : Go p e below K (T.setTop (mkF m pc Ls (st))) := by
  subst hp; subst hst
  have hZ := X.2.2.2.2.2.1
  obtain ⟨v, vm1, ⟨T', L', k', n'⟩, -, X', ⟨L, hQ, l1, l2, l3⟩, stp⟩ := X.1.specialBack X.2.1 (y := y) hi X.2.2.2.2.1 (mvT hZ w1) (mvT hZ w2) (mvT hZ w4) hy (backOf (W := W) M hZ w4 w3 hf hl) (g := mkF m pc Ls (argsL.reverse ++ .ref a :: rest)) rfl (by rw [X.2.2.2.1]; exact hsz) (Steps.refl _) (a := a) (argsL := argsL) (rest := rest) hlen rfl (by simpa using hW) (hb X.2.2.1 hd) (fun _ _ => ⟨ha, X.2.2.2.2.2.2, hc, hs⟩)
  dsimp only [Pt.U, Pt.locs, Pt.cells, Pt.slots] at X' l1 l2 l3 stp hQ
  subst l1 l2 l3
  exact Go.step (fun t q => stp.trans q) (k v T' L ⟨X', X.2.1, X.2.2.1, X.2.2.2.1, X.2.2.2.2.1, X.2.2.2.2.2.1, rfl⟩ hQ)
theorem g_virtual (X : Sx Z own bytes ml p l e R s m args below meth c T locs cells slots h) {y : MethodName} {yb : ByteArray} {yl : Nat} {yr : Option FieldType} {rm : Room} {as' : Array Value} {Q : Option Value → Heap → List Loc → Prop} {i W : Nat} {a : Addr} {C : String} (argsL rest : List Value) (E : Exa Z h a C) (w1 : (Cond.methodLink own i y).before a0 Z = true) (w2 : (Cond.declares y).before a0 Z = true) (w5 : (Cond.selects C y y).before a0 Z = true) (w6 : (Cond.instanceMethod y).before a0 Z = true) (w3 : (Cond.initialized y.cls).before a0 Z = true) (w4 : (Cond.code y yb yl yr).before a0 Z = true) (M : Rm l Z y yb yl yr [] rm as' h Q) (hd : decode bytes pc = .ok (.invokevirtual i, 3)) (hp : pc + 3 = pc') (hy : y.cls ≠ "java/lang/invoke/MethodHandle" ∧ y.cls ≠ "java/lang/invoke/VarHandle") (hf : rm.frames + 1 ≤ R.frames) (hl : W + (yl + 11) + rm.locals ≤ R.locals) (hsz : Ls.size = ml) (ha : (.ref a :: argsL).toArray = as') (hst : st = argsL.reverse ++ .ref a :: rest) (hlen : ∀ sig, parseMethodDescriptor y.desc = some sig → argsL.length = sig.parameters.length) (hW : (rest.map fun v => v.category).sum ≤ W) (hc : cells + rm.cells ≤ R.cells) (hs : slots + rm.slots ≤ R.slots) (k : ∀ v T' L, Sx Z own bytes ml p l e R s m args below meth c T' (locs ++ L) (cells + rm.cells) (slots + rm.slots) T'.heap → Q v T'.heap L → Go p e below K (T'.setTop (mkF m pc' Ls (v.toList ++ rest)))) : Go p e below K (T.setTop (mkF m pc Ls (st))) := by
  subst hp; subst hst
  have hZ := X.2.2.2.2.2.1
  obtain ⟨cq, kq, qa, qb, qc⟩ := isOf hZ X.2.2.2.2.2.2 E
  obtain ⟨v, vm1, ⟨T', L', k', n'⟩, -, X', ⟨L, hQ, l1, l2, l3⟩, stp⟩ := X.1.virtualBack X.2.1 (y := y) (z := y) X.2.2.2.2.1 (mvT hZ w1) (mvT hZ w2) (notFace_of_selects (args := #[]) (mvT hZ w5)) (mvT hZ w5) (mvT hZ w6) hy (backOf (W := W) M hZ w4 w3 hf hl) qa qc (g := mkF m pc Ls (argsL.reverse ++ .ref a :: rest)) rfl (by rw [X.2.2.2.1]; exact hsz) (Steps.refl _) (argsL := argsL) (rest := rest) hlen rfl (by simpa using hW) (hb X.2.2.1 hd) (fun _ _ => ⟨ha, X.2.2.2.2.2.2, hc, hs⟩)
  dsimp only [Pt.U, Pt.locs, Pt.cells, Pt.slots] at X' l1 l2 l3 stp hQ
  subst l1 l2 l3
  exact Go.step (fun t q => stp.trans q) (k v T' L ⟨X', X.2.1, X.2.2.1, X.2.2.2.1, X.2.2.2.2.1, X.2.2.2.2.2.1, rfl⟩ hQ)
theorem g_virtualUp (X : Sx Z own bytes ml p l e R s m args below meth c T locs cells slots h) {y : MethodName} {yb : ByteArray} {yl : Nat} {yr : Option FieldType} {rm : Room} {as' : Array Value} {Q : Option Value → Heap → List Loc → Prop} {i W : Nat} {a : Addr} {C owner : String} {x : MethodName} (argsL rest : List Value) (E : Exa Z h a C) (w1 : (Cond.methodLink own i x).before a0 Z = true) (w8 : (Cond.sameMethod x.cls owner x.name x.desc).before a0 Z = true) (w2 : (Cond.declares ⟨owner, x.name, x.desc⟩).before a0 Z = true) (w5 : (Cond.selects C x y).before a0 Z = true) (w6 : (Cond.instanceMethod y).before a0 Z = true) (w3 : (Cond.initialized y.cls).before a0 Z = true) (w4 : (Cond.code y yb yl yr).before a0 Z = true) (M : Rm l Z y yb yl yr [] rm as' h Q) (hd : decode bytes pc = .ok (.invokevirtual i, 3)) (hp : pc + 3 = pc') (hy : owner ≠ "java/lang/invoke/MethodHandle" ∧ owner ≠ "java/lang/invoke/VarHandle") (hf : rm.frames + 1 ≤ R.frames) (hl : W + (yl + 11) + rm.locals ≤ R.locals) (hsz : Ls.size = ml) (ha : (.ref a :: argsL).toArray = as') (hst : st = argsL.reverse ++ .ref a :: rest) (hlen : ∀ sig, parseMethodDescriptor x.desc = some sig → argsL.length = sig.parameters.length) (hW : (rest.map fun v => v.category).sum ≤ W) (hc : cells + rm.cells ≤ R.cells) (hs : slots + rm.slots ≤ R.slots) (k : ∀ v T' L, Sx Z own bytes ml p l e R s m args below meth c T' (locs ++ L) (cells + rm.cells) (slots + rm.slots) T'.heap → Q v T'.heap L → Go p e below K (T'.setTop (mkF m pc' Ls (v.toList ++ rest)))) : Go p e below K (T.setTop (mkF m pc Ls (st))) := by
  subst hp; subst hst
  have hZ := X.2.2.2.2.2.1
  obtain ⟨cq, kq, qa, qb, qc⟩ := isOf hZ X.2.2.2.2.2.2 E
  obtain ⟨v, vm1, ⟨T', L', k', n'⟩, -, X', ⟨L, hQ, l1, l2, l3⟩, stp⟩ := X.1.virtualBackUp X.2.1 (x := x) (y := y) X.2.2.2.2.1 (mvT hZ w1) (mvT hZ w8) (mvT hZ w2) hy (mvT hZ w5) (mvT hZ w6) (backOf (W := W) M hZ w4 w3 hf hl) qa qc (g := mkF m pc Ls (argsL.reverse ++ .ref a :: rest)) rfl (by rw [X.2.2.2.1]; exact hsz) (Steps.refl _) (argsL := argsL) (rest := rest) hlen rfl (by simpa using hW) (hb X.2.2.1 hd) (fun _ _ => ⟨ha, X.2.2.2.2.2.2, hc, hs⟩)
  dsimp only [Pt.U, Pt.locs, Pt.cells, Pt.slots] at X' l1 l2 l3 stp hQ
  subst l1 l2 l3
  exact Go.step (fun t q => stp.trans q) (k v T' L ⟨X', X.2.1, X.2.2.1, X.2.2.2.1, X.2.2.2.2.1, X.2.2.2.2.2.1, rfl⟩ hQ)
theorem g_private (X : Sx Z own bytes ml p l e R s m args below meth c T locs cells slots h) {y : MethodName} {yb : ByteArray} {yl : Nat} {yr : Option FieldType} {rm : Room} {as' : Array Value} {Q : Option Value → Heap → List Loc → Prop} {i W : Nat} {a : Addr} (argsL rest : List Value) (E : Exa Z h a y.cls) (w1 : (Cond.methodLink own i y).before a0 Z = true) (w5 : (Cond.selects y.cls y y).before a0 Z = true) (w6 : (Cond.instanceMethod y).before a0 Z = true) (w7 : (Cond.privateMethod y).before a0 Z = true) (w3 : (Cond.initialized y.cls).before a0 Z = true) (w4 : (Cond.code y yb yl yr).before a0 Z = true) (M : Rm l Z y yb yl yr [] rm as' h Q) (hd : decode bytes pc = .ok (.invokevirtual i, 3)) (hp : pc + 3 = pc') (hy : y.cls ≠ "java/lang/invoke/MethodHandle" ∧ y.cls ≠ "java/lang/invoke/VarHandle") (hf : rm.frames + 1 ≤ R.frames) (hl : W + (yl + 11) + rm.locals ≤ R.locals) (hsz : Ls.size = ml) (ha : (.ref a :: argsL).toArray = as') (hst : st = argsL.reverse ++ .ref a :: rest) (hlen : ∀ sig, parseMethodDescriptor y.desc = some sig → argsL.length = sig.parameters.length) (hW : (rest.map fun v => v.category).sum ≤ W) (hc : cells + rm.cells ≤ R.cells) (hs : slots + rm.slots ≤ R.slots) (k : ∀ v T' L, Sx Z own bytes ml p l e R s m args below meth c T' (locs ++ L) (cells + rm.cells) (slots + rm.slots) T'.heap → Q v T'.heap L → Go p e below K (T'.setTop (mkF m pc' Ls (v.toList ++ rest)))) : Go p e below K (T.setTop (mkF m pc Ls (st))) := by
  subst hp; subst hst
  have hZ := X.2.2.2.2.2.1
  obtain ⟨cq, q1, q2⟩ := E.cell
  obtain ⟨v, vm1, ⟨T', L', k', n'⟩, -, X', ⟨L, hQ, l1, l2, l3⟩, stp⟩ := X.1.privateBack X.2.1 (y := y) X.2.2.2.2.1 (mvT hZ w1) (mvT hZ w6) (mvT hZ w5) (Cond.privateMethod_at (mvP hZ w7 (args := #[]))) (mvT hZ w4) hy (backOf (W := W) M hZ w4 w3 hf hl) (g := mkF m pc Ls (argsL.reverse ++ .ref a :: rest)) rfl (by rw [X.2.2.2.1]; exact hsz) (Steps.refl _) (a := a) (by rw [X.2.2.2.2.2.2]; exact q1) q2 (argsL := argsL) (rest := rest) hlen rfl (by simpa using hW) (hb X.2.2.1 hd) (fun _ _ => ⟨ha, X.2.2.2.2.2.2, hc, hs⟩)
  dsimp only [Pt.U, Pt.locs, Pt.cells, Pt.slots] at X' l1 l2 l3 stp hQ
  subst l1 l2 l3
  exact Go.step (fun t q => stp.trans q) (k v T' L ⟨X', X.2.1, X.2.2.1, X.2.2.2.1, X.2.2.2.2.1, X.2.2.2.2.2.1, rfl⟩ hQ)
theorem g_specialB (X : Sx Z own bytes ml p l e R s m args below meth c T locs cells slots h) {y : MethodName} {as' : Array Value} {Q : Option Value → Heap → List Loc → Prop} {i W kc ks : Nat} {a : Addr} {yb : ByteArray} {yl : Nat} (argsL rest : List Value) (hi : y.name = "<init>") (w1 : (Cond.methodLink own i y).before a0 Z = true) (w2 : (Cond.instanceMethod y).before a0 Z = true) (w4 : (Cond.code y yb yl none).before a0 Z = true) (hK : Back l R p e below s args y 3 W (fun A a => a = as' ∧ A.U.heap = h ∧ A.cells + kc ≤ R.cells ∧ A.slots + ks ≤ R.slots) (fun A _ v B => ∃ L, Q v B.U.heap L ∧ B.locs = A.locs ++ L ∧ B.cells = A.cells + kc ∧ B.slots = A.slots + ks)) (hd : decode bytes pc = .ok (.invokespecial i, 3)) (hp : pc + 3 = pc') (hy : y.cls ≠ "java/lang/invoke/MethodHandle" ∧ y.cls ≠ "java/lang/invoke/VarHandle") (hsz : Ls.size = ml) (ha : (.ref a :: argsL).toArray = as') (hst : st = argsL.reverse ++ .ref a :: rest) (hlen : ∀ sig, parseMethodDescriptor y.desc = some sig → argsL.length = sig.parameters.length) (hW : (rest.map fun v => v.category).sum ≤ W) (hc : cells + kc ≤ R.cells) (hs : slots + ks ≤ R.slots) (k : ∀ v T' L, Sx Z own bytes ml p l e R s m args below meth c T' (locs ++ L) (cells + kc) (slots + ks) T'.heap → Q v T'.heap L → Go p e below K (T'.setTop (mkF m pc' Ls (v.toList ++ rest)))) : Go p e below K (T.setTop (mkF m pc Ls (st))) := by
  subst hp; subst hst
  have hZ := X.2.2.2.2.2.1
  obtain ⟨v, vm1, ⟨T', L', k', n'⟩, -, X', ⟨L, hQ, l1, l2, l3⟩, stp⟩ := X.1.specialBack X.2.1 (y := y) hi X.2.2.2.2.1 (mvT hZ w1) (mvT hZ w2) (mvT hZ w4) hy hK (g := mkF m pc Ls (argsL.reverse ++ .ref a :: rest)) rfl (by rw [X.2.2.2.1]; exact hsz) (Steps.refl _) (a := a) (argsL := argsL) (rest := rest) hlen rfl (by simpa using hW) (hb X.2.2.1 hd) (fun _ _ => ⟨ha, X.2.2.2.2.2.2, hc, hs⟩)
  dsimp only [Pt.U, Pt.locs, Pt.cells, Pt.slots] at X' l1 l2 l3 stp hQ
  subst l1 l2 l3
  exact Go.step (fun t q => stp.trans q) (k v T' L ⟨X', X.2.1, X.2.2.1, X.2.2.2.1, X.2.2.2.2.1, X.2.2.2.2.2.1, rfl⟩ hQ)
theorem g_virtualB (X : Sx Z own bytes ml p l e R s m args below meth c T locs cells slots h) {y : MethodName} {as' : Array Value} {Q : Option Value → Heap → List Loc → Prop} {i W kc ks : Nat} {a : Addr} {C : String} (argsL rest : List Value) (E : Exa Z h a C) (w1 : (Cond.methodLink own i y).before a0 Z = true) (w2 : (Cond.declares y).before a0 Z = true) (w5 : (Cond.selects C y y).before a0 Z = true) (w6 : (Cond.instanceMethod y).before a0 Z = true) (hK : Back l R p e below s args y 3 W (fun A a => a = as' ∧ A.U.heap = h ∧ A.cells + kc ≤ R.cells ∧ A.slots + ks ≤ R.slots) (fun A _ v B => ∃ L, Q v B.U.heap L ∧ B.locs = A.locs ++ L ∧ B.cells = A.cells + kc ∧ B.slots = A.slots + ks)) (hd : decode bytes pc = .ok (.invokevirtual i, 3)) (hp : pc + 3 = pc') (hy : y.cls ≠ "java/lang/invoke/MethodHandle" ∧ y.cls ≠ "java/lang/invoke/VarHandle") (hsz : Ls.size = ml) (ha : (.ref a :: argsL).toArray = as') (hst : st = argsL.reverse ++ .ref a :: rest) (hlen : ∀ sig, parseMethodDescriptor y.desc = some sig → argsL.length = sig.parameters.length) (hW : (rest.map fun v => v.category).sum ≤ W) (hc : cells + kc ≤ R.cells) (hs : slots + ks ≤ R.slots) (k : ∀ v T' L, Sx Z own bytes ml p l e R s m args below meth c T' (locs ++ L) (cells + kc) (slots + ks) T'.heap → Q v T'.heap L → Go p e below K (T'.setTop (mkF m pc' Ls (v.toList ++ rest)))) : Go p e below K (T.setTop (mkF m pc Ls (st))) := by
  subst hp; subst hst
  have hZ := X.2.2.2.2.2.1
  obtain ⟨cq, kq, qa, qb, qc⟩ := isOf hZ X.2.2.2.2.2.2 E
  obtain ⟨v, vm1, ⟨T', L', k', n'⟩, -, X', ⟨L, hQ, l1, l2, l3⟩, stp⟩ := X.1.virtualBack X.2.1 (y := y) (z := y) X.2.2.2.2.1 (mvT hZ w1) (mvT hZ w2) (notFace_of_selects (args := #[]) (mvT hZ w5)) (mvT hZ w5) (mvT hZ w6) hy hK qa qc (g := mkF m pc Ls (argsL.reverse ++ .ref a :: rest)) rfl (by rw [X.2.2.2.1]; exact hsz) (Steps.refl _) (argsL := argsL) (rest := rest) hlen rfl (by simpa using hW) (hb X.2.2.1 hd) (fun _ _ => ⟨ha, X.2.2.2.2.2.2, hc, hs⟩)
  dsimp only [Pt.U, Pt.locs, Pt.cells, Pt.slots] at X' l1 l2 l3 stp hQ
  subst l1 l2 l3
  exact Go.step (fun t q => stp.trans q) (k v T' L ⟨X', X.2.1, X.2.2.1, X.2.2.2.1, X.2.2.2.2.1, X.2.2.2.2.2.1, rfl⟩ hQ)
theorem g_ireturn (X : Sx Z own bytes ml p l e R s m args below meth c T locs cells slots h) {Q : Option Value → Heap → List Loc → Prop} {kc ks : Nat} {z : Int32} (hd : decode bytes pc = .ok (.ireturn, 1)) (hret : meth.sig.returnType = some .int) (hlk : meth.locks = false) (hc : cells ≤ kc) (hs : slots ≤ ks) (q : Q (some (.int z)) h locs) : Go p e below (Ends s Q kc ks) (T.setTop (mkF m pc Ls (.int z :: st))) := by
  obtain ⟨fs, hr, hrun, hended, hW, hsame⟩ := X.1.leave (v := (some (.int z))) (fun h => by rw [hret] at h; cases h) hlk
  refine ⟨_, _, retI X.1 X.2.1 hret (hb X.2.2.1 hd) hr, hrun, hended, _, _, rfl, ?_, ⟨_, rfl⟩, hW, hsame.mono hc hs⟩
  show Q _ T.heap _
  rw [X.2.2.2.2.2.2]; exact q
theorem g_lreturn (X : Sx Z own bytes ml p l e R s m args below meth c T locs cells slots h) {Q : Option Value → Heap → List Loc → Prop} {kc ks : Nat} {z : Int64} (hd : decode bytes pc = .ok (.lreturn, 1)) (hret : meth.sig.returnType = some .long) (hlk : meth.locks = false) (hc : cells ≤ kc) (hs : slots ≤ ks) (q : Q (some (.long z)) h locs) : Go p e below (Ends s Q kc ks) (T.setTop (mkF m pc Ls (.long z :: st))) := by
  obtain ⟨fs, hr, hrun, hended, hW, hsame⟩ := X.1.leave (v := (some (.long z))) (fun h => by rw [hret] at h; cases h) hlk
  refine ⟨_, _, retJ X.1 X.2.1 hret (hb X.2.2.1 hd) hr, hrun, hended, _, _, rfl, ?_, ⟨_, rfl⟩, hW, hsame.mono hc hs⟩
  show Q _ T.heap _
  rw [X.2.2.2.2.2.2]; exact q
theorem g_ireturnN (X : Sx Z own bytes ml p l e R s m args below meth c T locs cells slots h) {Q : Option Value → Heap → List Loc → Prop} {kc ks : Nat} {z : Int32} {t : FieldType} (ht : t = .boolean ∨ t = .byte ∨ t = .char ∨ t = .short) (hd : decode bytes pc = .ok (.ireturn, 1)) (hret : meth.sig.returnType = some t) (hlk : meth.locks = false) (hc : cells ≤ kc) (hs : slots ≤ ks) (q : Q (some (.int (nar t z))) h locs) : Go p e below (Ends s Q kc ks) (T.setTop (mkF m pc Ls (.int z :: st))) := by
  obtain ⟨fs, hr, hrun, hended, hW, hsame⟩ := X.1.leave (v := (some (.int (nar t z)))) (fun h => by rw [hret] at h; cases h) hlk
  refine ⟨_, _, retN X.1 X.2.1 hret ht (hb X.2.2.1 hd) hr, hrun, hended, _, _, rfl, ?_, ⟨_, rfl⟩, hW, hsame.mono hc hs⟩
  show Q _ T.heap _
  rw [X.2.2.2.2.2.2]; exact q
theorem g_areturn (X : Sx Z own bytes ml p l e R s m args below meth c T locs cells slots h) {Q : Option Value → Heap → List Loc → Prop} {kc ks : Nat} {w : Value} {t : FieldType} (hw : w.isRef = true) (ht : t.isReference = true) (hd : decode bytes pc = .ok (.areturn, 1)) (hret : meth.sig.returnType = some t) (hlk : meth.locks = false) (hc : cells ≤ kc) (hs : slots ≤ ks) (q : Q (some w) h locs) : Go p e below (Ends s Q kc ks) (T.setTop (mkF m pc Ls ([w]))) := by
  obtain ⟨fs, hr, hrun, hended, hW, hsame⟩ := X.1.leave (v := (some w)) (fun h => by rw [hret] at h; cases h) hlk
  refine ⟨_, _, X.1.areturnOut X.2.1 hw hret ht (hb X.2.2.1 hd) hr, hrun, hended, _, _, rfl, ?_, ⟨_, rfl⟩, hW, hsame.mono hc hs⟩
  show Q _ T.heap _
  rw [X.2.2.2.2.2.2]; exact q
theorem g_return (X : Sx Z own bytes ml p l e R s m args below meth c T locs cells slots h) {Q : Option Value → Heap → List Loc → Prop} {kc ks : Nat} (hd : decode bytes pc = .ok (.return_, 1)) (hret : meth.sig.returnType = none) (hlk : meth.locks = false) (hc : cells ≤ kc) (hs : slots ≤ ks) (q : Q none h locs) : Go p e below (Ends s Q kc ks) (T.setTop (mkF m pc Ls ([]))) := by
  obtain ⟨fs, hr, hrun, hended, hW, hsame⟩ := X.1.leave (v := none) (fun _ => rfl) hlk
  refine ⟨_, _, X.1.returnOut X.2.1 hret (hb X.2.2.1 hd) hr, hrun, hended, _, _, rfl, ?_, ⟨_, rfl⟩, hW, hsame.mono hc hs⟩
  show Q _ T.heap _
  rw [X.2.2.2.2.2.2]; exact q
/-- a loop that writes nothing: F: the frame at its head; I: what holds there; mu: the turns left -/
theorem loopP {α : Type} (X : Sx Z own bytes ml p l e R s m args below meth c T locs cells slots h) (F : α → JFrame) (I : α → Prop) (mu : α → Nat)
    (hstep : ∀ (a : α) (T : State), Sx Z own bytes ml p l e R s m args below meth c T locs cells slots h → I a → (∀ (a' : α) (T' : State), mu a' < mu a → Sx Z own bytes ml p l e R s m args below meth c T' locs cells slots h → I a' → Go p e below K (T'.setTop (F a'))) → Go p e below K (T.setTop (F a))) (b : α) (hI : I b) : Go p e below K (T.setTop (F b)) := by
  have main : ∀ (n : Nat) (a : α) (T : State), mu a < n → Sx Z own bytes ml p l e R s m args below meth c T locs cells slots h → I a → Go p e below K (T.setTop (F a)) := by
    intro n
    induction n with
    | zero => intro a T q; exact absurd q (Nat.not_lt_zero _)
    | succ n ih => intro a T q X hI; exact hstep a T X hI (fun a' T' q' X' hI' => ih a' T' (Nat.lt_of_lt_of_le q' (Nat.le_of_lt_succ q)) X' hI')
  exact main _ b T (Nat.lt_succ_self _) X hI
/-- a loop that writes -/
theorem loopW {α : Type} (X : Sx Z own bytes ml p l e R s m args below meth c T locs cells slots h) (F : α → JFrame) (I : α → Heap → List Loc → Prop) (mu : α → Nat)
    (hstep : ∀ (a : α) (T : State) (h : Heap) (locs : List Loc), Sx Z own bytes ml p l e R s m args below meth c T locs cells slots h → I a h locs → (∀ (a' : α) (T' : State) (h' : Heap) (locs' : List Loc), mu a' < mu a → Sx Z own bytes ml p l e R s m args below meth c T' locs' cells slots h' → I a' h' locs' → Go p e below K (T'.setTop (F a'))) → Go p e below K (T.setTop (F a))) (b : α) (hI : I b h locs) : Go p e below K (T.setTop (F b)) := by
  have main : ∀ (n : Nat) (a : α) (T : State) (h : Heap) (locs : List Loc), mu a < n → Sx Z own bytes ml p l e R s m args below meth c T locs cells slots h → I a h locs → Go p e below K (T.setTop (F a)) := by
    intro n
    induction n with
    | zero => intro a T h locs q; exact absurd q (Nat.not_lt_zero _)
    | succ n ih => intro a T h locs q X hI; exact hstep a T h locs X hI (fun a' T' h' locs' q' X' hI' => ih a' T' h' locs' (Nat.lt_of_lt_of_le q' (Nat.le_of_lt_succ q)) X' hI')
  exact main _ b T h locs (Nat.lt_succ_self _) X hI
/-- two ways that meet again -/
theorem joinA {α : Type} (X : Sx Z own bytes ml p l e R s m args below meth c T locs cells slots h) (F : α → JFrame) (r : α → Prop) {f : JFrame} (k : ∀ (T' : State), Sx Z own bytes ml p l e R s m args below meth c T' locs cells slots h → ∀ v : α, r v → Go p e below K (T'.setTop (F v)))
    (b : (∀ (T' : State), Sx Z own bytes ml p l e R s m args below meth c T' locs cells slots h → ∀ v : α, r v → Go p e below K (T'.setTop (F v))) → Go p e below K (T.setTop f)) : Go p e below K (T.setTop f) := b k
end Walk
theorem narT : nar .boolean (1 : Int32) = b2i true := rfl
theorem narF : nar .boolean (0 : Int32) = b2i false := rfl
/-- the sheet's k-th word -/
theorem tb {a0 : Array Value} {Z : State} (hw : ∀ d ∈ tables_1, d.before a0 Z = true) (k : Nat) {d : Jvm.Cond} (hd : tables_1[k]? = some d) : d.before a0 Z = true := hw d (List.mem_of_getElem? hd)
/-- what a method says that writes and makes nothing: it returns this -/
def Pu (val : Value) (h0 : Heap) (v : Option Value) (h : Heap) (L : List Loc) : Prop := v = some val ∧ L = [] ∧ h = h0
theorem pureX {Z : State} {own : String} {bytes : ByteArray} {ml : Nat} {p : Program} {l : Launch} {e : Env} {R : Room} {s : State} {m : MethodId} {args : Array Value} {below : List Frame} {meth : Method} {c : Code} {T : State} {locs L : List Loc} {cells slots : Nat} {h : Heap} {val : Value} {v : Option Value}
    (X : Sx Z own bytes ml p l e R s m args below meth c T (locs ++ L) (cells + 0) (slots + 0) T.heap) (q : Pu val h v T.heap L) : v = some val ∧ Sx Z own bytes ml p l e R s m args below meth c T locs cells slots h := by
  obtain ⟨q1, rfl, q3⟩ := q
  rw [List.append_nil] at X
  exact ⟨q1, X.1, X.2.1, X.2.2.1, X.2.2.2.1, X.2.2.2.2.1, X.2.2.2.2.2.1, q3⟩
theorem pn_0 : plainName "com/example/tagwire/tagwire/ec/EcTagUnsignedDataPinLaw" = true := by first | (simp [plainName, overriddenIn]; done) | decide +kernel
theorem d2_0 : decode method_3_code 0 = .ok (.iload_n 2, 1) := by decide +kernel
theorem d2_1 : decode method_3_code 1 = .ok (.iconst 1, 1) := by decide +kernel
theorem d2_2 : decode method_3_code 2 = .ok (.isub, 1) := by decide +kernel
theorem d2_3 : decode method_3_code 3 = .ok (.iload_n 3, 1) := by decide +kernel
theorem d2_4 : decode method_3_code 4 = .ok (.isub, 1) := by decide +kernel
theorem d2_5 : decode method_3_code 5 = .ok (.istore 4, 2) := by decide +kernel
theorem d2_7 : decode method_3_code 7 = .ok (.iload 4, 2) := by decide +kernel
theorem d2_9 : decode method_3_code 9 = .ok (.bipush 8, 2) := by decide +kernel
theorem d2_11 : decode method_3_code 11 = .ok (.if_icmp .lt 5, 3) := by decide +kernel
theorem d2_16 : decode method_3_code 16 = .ok (.lload_n 0, 1) := by decide +kernel
theorem d2_17 : decode method_3_code 17 = .ok (.bipush 8, 2) := by decide +kernel
theorem d2_19 : decode method_3_code 19 = .ok (.iload 4, 2) := by decide +kernel
theorem d2_21 : decode method_3_code 21 = .ok (.imul, 1) := by decide +kernel
theorem d2_22 : decode method_3_code 22 = .ok (.lushr, 1) := by decide +kernel
theorem d2_23 : decode method_3_code 23 = .ok (.l2i, 1) := by decide +kernel
theorem d2_24 : decode method_3_code 24 = .ok (.i2b, 1) := by decide +kernel
theorem d2_25 : decode method_3_code 25 = .ok (.ireturn, 1) := by decide +kernel
theorem d2_14 : decode method_3_code 14 = .ok (.iconst 0, 1) := by decide +kernel
theorem d2_15 : decode method_3_code 15 = .ok (.ireturn, 1) := by decide +kernel
def fE (j0 : Int64) (i1 : Int32) (i2 : Int32) : Int32 := let v5_1 : Int32 := ((i1 - (1 : Int32)) - i2); if v5_1 < (8 : Int32) then (nar .byte ((((j0.toUInt64 >>> (((8 : Int32) * v5_1) &&& 0x3f).toInt64.toUInt64).toInt64).toInt32).toInt8.toInt32)) else (nar .byte (0 : Int32))
theorem ef_rE (m : MethodId) (x0 : Int64) (x1 : Int32) (x2 : Int32) : entryFrame m #[(.long x0), (.int x1), (.int x2)] 5 = mkF m 0 #[.val (.long x0), .second, .val (.int x1), .val (.int x2), .unset] [] := by first | (simp [entryFrame, mkF, argsToLocals, Value.category]; done) | rfl
set_option maxRecDepth 65536 in
set_option maxHeartbeats 40000000 in
theorem rE (l : Launch) (Z : State) (aa : Array Value) (hw : ∀ d ∈ tables_1, d.before aa Z = true) (ws : List Jvm.Cond) (j0 : Int64) (i1 : Int32) (i2 : Int32) (h0 : Heap) :
    Rm l Z (⟨"com/example/tagwire/tagwire/ec/EcTagUnsignedDataPinLaw", "expected", "(JII)B"⟩ : MethodName) method_3_code 5 (some .byte) ws ({ frames := 0, cells := 0, slots := 0, locals := 0 } : Room) #[(.long j0), (.int i1), (.int i2)] h0 (Pu (.int (fE j0 i1 i2)) h0) := by
  refine Rm.of (plainFor_of_name pn_0) ?_
  intro p e s m below meth cc T X hnm hret hlk
  refine Go.at_ (ef_rE m j0 i1 i2) ?_
  refine g_iloadN X d2_0 (pc' := 1) rfl rfl ?_
  refine g_iconst X (1 : Int32) d2_1 (pc' := 2) rfl rfl ?_
  refine g_isub X d2_2 (pc' := 3) rfl ?_
  refine g_iloadN X d2_3 (pc' := 4) rfl rfl ?_
  refine g_isub X d2_4 (pc' := 5) rfl ?_
  generalize ev5_1 : ((i1 - (1 : Int32)) - i2) = v5_1
  refine g_istore X d2_5 (pc' := 7) (Ls' := #[.val (.long j0), .second, .val (.int i1), .val (.int i2), .val (.int v5_1)]) rfl rfl ?_
  refine g_iload X d2_7 (pc' := 9) rfl rfl ?_
  refine g_bipush X (8 : Int32) d2_9 (pc' := 11) rfl rfl ?_
  by_cases hc11_2 : v5_1 < (8 : Int32)
  · skip
    refine g_icY X d2_11 (tlt hc11_2).1 (pc' := 16) (by decide) (by decide) ?_
    refine g_lloadN X d2_16 (pc' := 17) rfl rfl ?_
    refine g_bipush X (8 : Int32) d2_17 (pc' := 19) rfl rfl ?_
    refine g_iload X d2_19 (pc' := 21) rfl rfl ?_
    refine g_imul X d2_21 (pc' := 22) rfl ?_
    refine g_lushr X d2_22 (pc' := 23) rfl ?_
    refine g_l2i X d2_23 (pc' := 24) rfl ?_
    refine g_i2b X d2_24 (pc' := 25) rfl ?_
    refine g_ireturnN X (t := .byte) (by simp) d2_25 hret hlk (by decide) (by decide) ?_
    subst ev5_1
    exact ⟨congrArg (fun z => some (Value.int z)) (Eq.symm (show fE j0 i1 i2 = _ from (Eq.trans (if_pos hc11_2) rfl))), rfl, rfl⟩
  · skip
    refine g_icN X d2_11 (flt hc11_2).1 (pc' := 14) rfl ?_
    refine g_iconst X (0 : Int32) d2_14 (pc' := 15) rfl rfl ?_
    refine g_ireturnN X (t := .byte) (by simp) d2_15 hret hlk (by decide) (by decide) ?_
    subst ev5_1
    exact ⟨congrArg (fun z => some (Value.int z)) (Eq.symm (show fE j0 i1 i2 = _ from (Eq.trans (if_neg hc11_2) rfl))), rfl, rfl⟩
def iter8 : Nat → Int64 → Int64
  | 0, v => v
  | s + 1, v => (((iter8 s v).toUInt64 >>> ((8 : Int32) &&& 0x3f).toInt64.toUInt64).toInt64)
def elt (v : Int64) (s : Nat) : Int32 := nar .byte ((iter8 s v).toInt32.toInt8.toInt32)
def InvU (n : Nat) (j : Int64) (k : Nat) (v : Int64) (i : Int32) (vs : List Value) : Prop :=
  k ≤ n ∧ v = iter8 (n - k) j ∧ i.toInt + 1 = k ∧ vs.length = n ∧ ∀ t, k ≤ t → t < n → vs[t]? = some (.int (elt j (n - 1 - t)))
theorem stepU {n k : Nat} {j v v' : Int64} {i x : Int32} {vs : List Value} (I : InvU n j k v i vs) (hi : ¬ i < 0) (ex : v.toInt32.toInt8.toInt32 = x) (ev : ((v.toUInt64 >>> ((8 : Int32) &&& 0x3f).toInt64.toUInt64).toInt64) = v') :
    k - 1 < k ∧ i.toNatClampNeg = k - 1 ∧ k - 1 < vs.length ∧ InvU n j (k - 1) v' (i + (-1 : Int32)) (List.set vs (k - 1) (.int (nar .byte x))) := by
  obtain ⟨q1, q2, q3, q4, q5⟩ := I
  rw [Int32.lt_iff_toInt_lt] at hi; simp only [Int32.reduceToInt] at hi
  have r := rng32 i
  have e1 : (i + (-1 : Int32)).toInt = i.toInt - 1 := by rw [Int32.toInt_add]; simp only [Int32.reduceToInt, m1_int]; exact Int.bmod_eq_of_le (by omega) (by omega)
  refine ⟨by omega, by simp only [Int32.toNatClampNeg]; omega, by omega, by omega, ?_, by omega, by rw [List.length_set]; exact q4, fun t h1 h2 => ?_⟩
  · rw [← ev, q2, show n - (k - 1) = (n - k) + 1 by omega]; rfl
  · by_cases q : t = k - 1
    · subst q
      rw [List.getElem?_set_self (by omega), ← ex, q2, show n - 1 - (k - 1) = n - k by omega]; rfl
    · rw [List.getElem?_set_ne (by omega)]; exact q5 t (by omega) h2
theorem startU {n : Nat} {j : Int64} {i1 i : Int32} (hn : i1.toInt = n) (e : i1 - 1 = i) : InvU n j n j i (List.replicate i1.toNatClampNeg (.int (0 : Int32))) := by
  have r := rng32 i1
  have e1 : (i1 - 1).toInt = i1.toInt - 1 := by rw [Int32.toInt_sub]; simp only [Int32.reduceToInt]; exact Int.bmod_eq_of_le (by omega) (by omega)
  rw [e] at e1
  refine ⟨Nat.le_refl _, by rw [Nat.sub_self]; rfl, by omega, by rw [List.length_replicate]; simp only [Int32.toNatClampNeg]; omega, fun t h1 h2 => absurd h1 (by omega)⟩
theorem len32 {i1 : Int32} {n : Nat} (hn : i1.toInt = n) (hb : n ≤ 15) : ¬ i1 < 0 ∧ i1.toNatClampNeg ≤ 15 := by
  rw [Int32.lt_iff_toInt_lt]; simp only [Int32.reduceToInt, Int32.toNatClampNeg]; omega
theorem iter8_int (j : Int64) : ∀ s : Nat, (iter8 (s + 1) j).toInt = (j.toInt % 18446744073709551616) / (256 ^ (s + 1) : Nat)
  | 0 => c_lushr j 8 8 (by decide) (by decide)
  | s + 1 => by
    have h := c_lushr (iter8 (s + 1) j) 8 8 (by decide) (by decide)
    show (Int64.toInt _) = _
    rw [iter8, h, iter8_int j s]
    have p : 0 < ((256 ^ (s + 1) : Nat) : Int) := by exact_mod_cast Nat.pow_pos (by decide)
    have a : 0 ≤ (j.toInt % 18446744073709551616) / ((256 ^ (s + 1) : Nat) : Int) := Int.ediv_nonneg (by omega) (by omega)
    have b : (j.toInt % 18446744073709551616) / ((256 ^ (s + 1) : Nat) : Int) ≤ j.toInt % 18446744073709551616 := Int.ediv_le_self _ (by omega)
    rw [Int.emod_eq_of_lt a (by omega), Int.ediv_ediv_of_nonneg (by omega)]
    congr 1
theorem lsh_zero (j : Int64) : ((j.toUInt64 >>> ((0 : Int32) &&& 0x3f).toInt64.toUInt64).toInt64) = j := by
  apply Int64.toBitVec_inj.mp
  show j.toBitVec >>> (0 : Nat) = j.toBitVec
  exact BitVec.ushiftRight_zero j.toBitVec
theorem iter8_lsh (j : Int64) (s : Nat) (q : Int32) (hq : q.toBitVec.toNat % 64 = 8 * (s + 1)) : iter8 (s + 1) j = ((j.toUInt64 >>> (q &&& 0x3f).toInt64.toUInt64).toInt64) := by
  apply Int64.toInt_inj.mp
  rw [iter8_int, c_lushr j q _ hq (by omega), Nat.pow_mul]
theorem eltE (j : Int64) (sz i : Int32) (s : Nat) (h : sz.toInt - 1 - i.toInt = s) (hs : s ≤ 14) (h1 : 0 ≤ sz.toInt) (h2 : sz.toInt ≤ 15) (h3 : 0 ≤ i.toInt) : elt j s = fE j sz i := by
  have e : (sz - 1 - i).toInt = s := by
    have r := rng32 sz; have r2 := rng32 i
    rw [Int32.toInt_sub, Int32.toInt_sub]; simp only [Int32.reduceToInt]
    rw [Int.bmod_eq_of_le (n := sz.toInt - 1) (by omega) (by omega)]
    rw [h]; exact Int.bmod_eq_of_le (by omega) (by omega)
  unfold fE
  show _ = (if (sz - 1 - i) < 8 then _ else _)
  generalize sz - 1 - i = w at *
  by_cases q : w < 8
  · rw [if_pos q]
    rw [Int32.lt_iff_toInt_lt] at q; simp only [Int32.reduceToInt] at q
    unfold elt
    have hw : s = 0 ∧ w = 0 ∨ s = 1 ∧ w = 1 ∨ s = 2 ∧ w = 2 ∨ s = 3 ∧ w = 3 ∨ s = 4 ∧ w = 4 ∨ s = 5 ∧ w = 5 ∨ s = 6 ∧ w = 6 ∨ s = 7 ∧ w = 7 := by
      simp only [← Int32.toInt_inj, Int32.reduceToInt]; omega
    rcases hw with ⟨rfl, rfl⟩ | ⟨rfl, rfl⟩ | ⟨rfl, rfl⟩ | ⟨rfl, rfl⟩ | ⟨rfl, rfl⟩ | ⟨rfl, rfl⟩ | ⟨rfl, rfl⟩ | ⟨rfl, rfl⟩
    · rw [show (8 : Int32) * 0 = 0 from rfl, lsh_zero]; rfl
    · exact congrArg (fun z : Int64 => nar .byte z.toInt32.toInt8.toInt32) (iter8_lsh j 0 ((8 : Int32) * 1) (by decide))
    · exact congrArg (fun z : Int64 => nar .byte z.toInt32.toInt8.toInt32) (iter8_lsh j 1 ((8 : Int32) * 2) (by decide))
    · exact congrArg (fun z : Int64 => nar .byte z.toInt32.toInt8.toInt32) (iter8_lsh j 2 ((8 : Int32) * 3) (by decide))
    · exact congrArg (fun z : Int64 => nar .byte z.toInt32.toInt8.toInt32) (iter8_lsh j 3 ((8 : Int32) * 4) (by decide))
    · exact congrArg (fun z : Int64 => nar .byte z.toInt32.toInt8.toInt32) (iter8_lsh j 4 ((8 : Int32) * 5) (by decide))
    · exact congrArg (fun z : Int64 => nar .byte z.toInt32.toInt8.toInt32) (iter8_lsh j 5 ((8 : Int32) * 6) (by decide))
    · exact congrArg (fun z : Int64 => nar .byte z.toInt32.toInt8.toInt32) (iter8_lsh j 6 ((8 : Int32) * 7) (by decide))
  · rw [if_neg q]
    rw [Int32.lt_iff_toInt_lt] at q; simp only [Int32.reduceToInt] at q
    unfold elt
    obtain ⟨t, rfl⟩ : ∃ t, s = t + 1 := ⟨s - 1, by omega⟩
    have z : iter8 (t + 1) j = 0 := by
      apply Int64.toInt_inj.mp
      rw [iter8_int]
      have ht : t = 7 ∨ t = 8 ∨ t = 9 ∨ t = 10 ∨ t = 11 ∨ t = 12 ∨ t = 13 := by omega
      simp only [Int64.reduceToInt]
      rcases ht with rfl | rfl | rfl | rfl | rfl | rfl | rfl <;> simp only [Nat.reducePow, Nat.reduceAdd] <;> omega
    rw [z]; rfl
theorem elt0 (j : Int64) : elt j 0 = j.toInt32.toInt8.toInt32 := by
  have a := c_i2b j.toInt32
  have b := c_i2b j.toInt32.toInt8.toInt32
  apply Int32.toInt_inj.mp
  show (j.toInt32.toInt8.toInt32.toInt8.toInt32).toInt = _
  omega
theorem pn_1 : plainName "com/example/tagwire/tagwire/ec/EcTag" = true := by first | (simp [plainName, overriddenIn]; done) | decide +kernel
theorem d1_0 : decode prog_50_method_16_code 0 = .ok (.iload_n 2, 1) := by decide +kernel
theorem d1_1 : decode prog_50_method_16_code 1 = .ok (.newarray .byte, 2) := by decide +kernel
theorem d1_3 : decode prog_50_method_16_code 3 = .ok (.astore_n 3, 1) := by decide +kernel
theorem d1_4 : decode prog_50_method_16_code 4 = .ok (.iload_n 2, 1) := by decide +kernel
theorem d1_5 : decode prog_50_method_16_code 5 = .ok (.iconst 1, 1) := by decide +kernel
theorem d1_6 : decode prog_50_method_16_code 6 = .ok (.isub, 1) := by decide +kernel
theorem d1_7 : decode prog_50_method_16_code 7 = .ok (.istore 4, 2) := by decide +kernel
theorem d1_9 : decode prog_50_method_16_code 9 = .ok (.iload 4, 2) := by decide +kernel
theorem d1_11 : decode prog_50_method_16_code 11 = .ok (.ifCond .lt 21, 3) := by decide +kernel
theorem d1_32 : decode prog_50_method_16_code 32 = .ok (.aload_n 3, 1) := by decide +kernel
theorem d1_33 : decode prog_50_method_16_code 33 = .ok (.areturn, 1) := by decide +kernel
theorem d1_14 : decode prog_50_method_16_code 14 = .ok (.aload_n 3, 1) := by decide +kernel
theorem d1_15 : decode prog_50_method_16_code 15 = .ok (.iload 4, 2) := by decide +kernel
theorem d1_17 : decode prog_50_method_16_code 17 = .ok (.lload_n 0, 1) := by decide +kernel
theorem d1_18 : decode prog_50_method_16_code 18 = .ok (.l2i, 1) := by decide +kernel
theorem d1_19 : decode prog_50_method_16_code 19 = .ok (.i2b, 1) := by decide +kernel
theorem d1_20 : decode prog_50_method_16_code 20 = .ok (.bastore, 1) := by decide +kernel
theorem d1_21 : decode prog_50_method_16_code 21 = .ok (.iinc 4 (-1), 3) := by decide +kernel
theorem d1_24 : decode prog_50_method_16_code 24 = .ok (.lload_n 0, 1) := by decide +kernel
theorem d1_25 : decode prog_50_method_16_code 25 = .ok (.bipush 8, 2) := by decide +kernel
theorem d1_27 : decode prog_50_method_16_code 27 = .ok (.lushr, 1) := by decide +kernel
theorem d1_28 : decode prog_50_method_16_code 28 = .ok (.lstore_n 0, 1) := by decide +kernel
theorem d1_29 : decode prog_50_method_16_code 29 = .ok (.goto (-20), 3) := by decide +kernel
theorem ef_rU (m : MethodId) (x0 : Int64) (x1 : Int32) : entryFrame m #[(.long x0), (.int x1)] 5 = mkF m 0 #[.val (.long x0), .second, .val (.int x1), .unset, .unset] [] := by first | (simp [entryFrame, mkF, argsToLocals, Value.category]; done) | rfl
set_option maxRecDepth 65536 in
set_option maxHeartbeats 40000000 in
theorem rU (l : Launch) (Z : State) (aa : Array Value) (hw : ∀ d ∈ tables_1, d.before aa Z = true) (ws : List Jvm.Cond) (j0 : Int64) (i1 : Int32) (n : Nat) (h0 : Heap) (n0 : Nat) (Z0 : n0 ≤ h0.size) (hn : i1.toInt = n) (hb : n ≤ 15) :
    Rm l Z (⟨"com/example/tagwire/tagwire/ec/EcTag", "unsignedData", "(JI)[B"⟩ : MethodName) prog_50_method_16_code 5 (some (.array .byte)) ws ({ frames := 0, cells := 1, slots := 15, locals := 0 } : Room) #[(.long j0), (.int i1)] h0 (fun v h L => ∃ b vs, v = some (.ref b) ∧ h0.size ≤ b ∧ n0 ≤ b ∧ Fr n0 L ∧ Keep h0 h [] ∧ Exa Z h b "[B" ∧ Av Z h b .byte vs ∧ vs.length = n ∧ ∀ t, t < n → vs[t]? = some (.int (elt j0 (n - 1 - t)))) := by
  refine Rm.of (plainFor_of_name pn_1) ?_
  intro p e s m below meth cc T X hnm hret hlk
  refine Go.at_ (ef_rU m j0 i1) ?_
  have N := Fr.nil n0
  have Kp := Keep.refl h0 []
  refine g_iloadN X d1_0 (pc' := 1) rfl rfl ?_
  refine g_newarray X _ (tb hw 4 rfl) d1_1 (pc' := 3) rfl (len32 hn hb).1 rfl 15 (len32 hn hb).2 (by decide) (by decide) (by decide) rfl (ad := "[B") (by decide) ?_
  intro T h b1_1 s_b1_1 X Ex E_b1_1 V_b1_1
  have g_b1_1 : n0 ≤ b1_1 := by rw [s_b1_1]; exact Z0
  have sz_b1_1 : h0.size ≤ b1_1 := by rw [s_b1_1]; exact Kp.1
  replace Z0 := Nat.le_trans Z0 Ex.1
  replace Kp := Kp.ext Ex
  replace V_b1_1 : Av Z h b1_1 .byte (List.replicate i1.toNatClampNeg (.int (0 : Int32))) := V_b1_1
  refine g_astoreN X d1_3 (pc' := 4) (Ls' := #[.val (.long j0), .second, .val (.int i1), .val (.ref b1_1), .unset]) rfl rfl rfl ?_
  refine g_iloadN X d1_4 (pc' := 5) rfl rfl ?_
  refine g_iconst X (1 : Int32) d1_5 (pc' := 6) rfl rfl ?_
  refine g_isub X d1_6 (pc' := 7) rfl ?_
  generalize ev7_2 : (i1 - (1 : Int32)) = v7_2
  refine g_istore X d1_7 (pc' := 9) (Ls' := #[.val (.long j0), .second, .val (.int i1), .val (.ref b1_1), .val (.int v7_2)]) rfl rfl ?_
  refine loopW X (α := Nat × Int64 × Int32 × List Value) (fun a => mkF m 9 #[.val (.long a.2.1), .second, .val (.int i1), .val (.ref b1_1), .val (.int a.2.2.1)] []) (fun a h locs => InvU n j0 a.1 a.2.1 a.2.2.1 a.2.2.2 ∧ Fr n0 locs ∧ n0 ≤ h.size ∧ Keep h0 h [] ∧ Exa Z h b1_1 "[B" ∧ Av Z h b1_1 .byte a.2.2.2) (fun a => a.1) ?_ (n, j0, v7_2, (List.replicate i1.toNatClampNeg (.int (0 : Int32)))) ⟨startU hn ev7_2, N, Z0, Kp, E_b1_1, V_b1_1⟩
  clear X N Z0 Kp E_b1_1 V_b1_1
  intro a T h locs X I ih
  obtain ⟨k, v, i, vs⟩ := a
  obtain ⟨I0, N, Z0, Kp, E_b1_1, V_b1_1⟩ := I
  replace I0 : InvU n j0 k v i vs := I0
  replace V_b1_1 : Av Z h b1_1 .byte vs := V_b1_1
  show Go p e below _ (T.setTop (mkF m 9 #[.val (.long v), .second, .val (.int i1), .val (.ref b1_1), .val (.int i)] []))
  refine g_iload X d1_9 (pc' := 11) rfl rfl ?_
  by_cases hc11_3 : i < (0 : Int32)
  · skip
    refine g_ifY X d1_11 ((if0 _ _).trans (tlt hc11_3).1) (pc' := 32) (by decide) (by decide) ?_
    refine g_aloadN X d1_32 (pc' := 33) rfl rfl rfl ?_
    refine g_areturn X rfl rfl d1_33 hret hlk (by decide) (by decide) ?_
    have q0 : k = 0 := by
      have q := hc11_3
      have q3 := I0.2.2.1
      rw [Int32.lt_iff_toInt_lt] at q; simp only [Int32.reduceToInt] at q; omega
    exact ⟨b1_1, vs, rfl, sz_b1_1, g_b1_1, N, Kp, E_b1_1, V_b1_1, I0.2.2.2.1, fun t ht => I0.2.2.2.2 t (by omega) ht⟩
  · skip
    refine g_ifN X d1_11 ((if0 _ _).trans (flt hc11_3).1) (pc' := 14) rfl ?_
    refine g_aloadN X d1_14 (pc' := 15) rfl rfl rfl ?_
    refine g_iload X d1_15 (pc' := 17) rfl rfl ?_
    refine g_lloadN X d1_17 (pc' := 18) rfl rfl ?_
    refine g_l2i X d1_18 (pc' := 19) rfl ?_
    refine g_i2b X d1_19 (pc' := 20) rfl ?_
    generalize ev20_4 : ((v.toInt32).toInt8.toInt32) = v20_4
    refine g_bastore X V_b1_1 (k - 1) d1_20 (pc' := 21) rfl hc11_3 (stepU I0 hc11_3 rfl rfl).2.1 (stepU I0 hc11_3 rfl rfl).2.2.1 ?_
    intro T h X W V_b1_1
    replace E_b1_1 := E_b1_1.wr W
    replace Z0 := Nat.le_trans Z0 (Nat.le_of_eq W.size.symm)
    replace N := Fr.snoc X.1 N g_b1_1
    replace Kp := Kp.wr W (Or.inr sz_b1_1)
    refine g_iinc X d1_21 (pc' := 24) (q := (-1 : Int32)) (Ls' := #[.val (.long v), .second, .val (.int i1), .val (.ref b1_1), .val (.int (i + (-1 : Int32)))]) rfl rfl rfl rfl ?_
    refine g_lloadN X d1_24 (pc' := 25) rfl rfl ?_
    refine g_bipush X (8 : Int32) d1_25 (pc' := 27) rfl rfl ?_
    refine g_lushr X d1_27 (pc' := 28) rfl ?_
    generalize ev28_5 : ((v.toUInt64 >>> ((8 : Int32) &&& 0x3f).toInt64.toUInt64).toInt64) = v28_5
    refine g_lstoreN X d1_28 (pc' := 29) (Ls' := #[.val (.long v28_5), .second, .val (.int i1), .val (.ref b1_1), .val (.int (i + (-1 : Int32)))]) rfl rfl ?_
    refine g_goto X d1_29 (pc' := 9) (by decide) (by decide) ?_
    have S := stepU I0 hc11_3 ev20_4 ev28_5
    exact ih (k - 1, v28_5, (i + (-1 : Int32)), (List.set vs (k - 1) (.int (nar .byte v20_4)))) T h _ S.1 X ⟨S.2.2.2, N, Z0, Kp, E_b1_1, V_b1_1⟩
theorem size15 {s v : Int32} (e : s &&& 15 = v) : v.toInt = (v.toInt.toNat : Nat) ∧ v.toInt.toNat ≤ 15 := by
  have q : v.toInt = s.toInt % 16 := by rw [← e]; exact c_mask s 15 4 (by decide) (by decide)
  omega
theorem len_is {v : Int32} {n : Nat} {vs : List Value} (hn : v.toInt = n) (hl : vs.length = n) : vs.length.toInt32 = v := by
  have r := rng32 v
  apply Int32.toInt_inj.mp; rw [hl, len_toInt (by omega), hn]
theorem idx_ok {k v i : Int32} {n : Nat} (hn : v.toInt = n) (hb : n ≤ 15) (h0 : ¬ v = 0) (e : (k &&& 2147483647) % v = i) : 0 ≤ i.toInt ∧ i.toInt < n ∧ 0 < n ∧ ¬ i < 0 := by
  have q : (k &&& 2147483647).toInt = k.toInt % 2147483648 := c_mask k 2147483647 31 (by decide) (by decide)
  rw [← Int32.toInt_inj] at h0; simp only [Int32.reduceToInt] at h0
  have r := (c_iremV (k &&& 2147483647) v).1 (by omega) (by omega)
  rw [e] at r
  rw [Int32.lt_iff_toInt_lt]; simp only [Int32.reduceToInt]; omega
theorem last_ok {v : Int32} {n : Nat} (hn : v.toInt = n) (hb : n ≤ 15) (hp : 0 < n) : ¬ (v - 1) < 0 ∧ (v - 1).toNatClampNeg = n - 1 := by
  have e1 : (v - 1).toInt = v.toInt - 1 := by rw [Int32.toInt_sub]; simp only [Int32.reduceToInt]; exact Int.bmod_eq_of_le (by omega) (by omega)
  rw [Int32.lt_iff_toInt_lt]; simp only [Int32.toNatClampNeg, e1, Int32.reduceToInt]; omega
theorem pd_0 : parseMethodDescriptor "(JI)[B" = some ⟨[.long, .int], some (.array .byte)⟩ := by decide +kernel
theorem pd_1 : parseMethodDescriptor "(JII)B" = some ⟨[.long, .int, .int], some .byte⟩ := by decide +kernel
theorem ef_rLaw (m : MethodId) (x0 : Int64) (x1 : Int32) (x2 : Int32) : entryFrame m #[(.long x0), (.int x1), (.int x2)] maxLocals = mkF m 0 #[.val (.long x0), .second, .val (.int x1), .val (.int x2), .unset, .unset, .unset] [] := by first | (simp [entryFrame, mkF, argsToLocals, Value.category, maxLocals]; done) | rfl
set_option maxRecDepth 65536 in
set_option maxHeartbeats 40000000 in
theorem rLaw (l : Launch) (Z : State) (aa : Array Value) (hw : ∀ d ∈ tables_1, d.before aa Z = true) (ws : List Jvm.Cond) (j0 : Int64) (i1 : Int32) (i2 : Int32) (h0 : Heap) (n0 : Nat) (Z0 : n0 ≤ h0.size) :
    Rm l Z x code maxLocals ret ws room_1 #[(.long j0), (.int i1), (.int i2)] h0 (fun v h L => v = some (.int 1) ∧ Fr n0 L) := by
  refine Rm.of (plainFor_of_name pn_0) ?_
  intro p e s m below meth cc T X hnm hret hlk
  refine Go.at_ (ef_rLaw m j0 i1 i2) ?_
  have N := Fr.nil n0
  refine g_iloadN X at_0 (pc' := 1) rfl rfl ?_
  refine g_bipush X (15 : Int32) at_1 (pc' := 3) rfl rfl ?_
  refine g_iand X at_3 (pc' := 4) rfl ?_
  generalize ev4_1 : (i1 &&& (15 : Int32)) = v4_1
  refine g_istore X at_4 (pc' := 6) (Ls' := #[.val (.long j0), .second, .val (.int i1), .val (.int i2), .val (.int v4_1), .unset, .unset]) rfl rfl ?_
  obtain ⟨nn, en⟩ : ∃ n, n = v4_1.toInt.toNat := ⟨_, rfl⟩
  have hnn : v4_1.toInt = nn := by rw [en]; exact (size15 ev4_1).1
  have hbb : nn ≤ 15 := by rw [en]; exact (size15 ev4_1).2
  refine g_lloadN X at_6 (pc' := 7) rfl rfl ?_
  refine g_iload X at_7 (pc' := 9) rfl rfl ?_
  refine g_static X (W := 0) [(.long j0), (.int v4_1)] [] (tb hw 0 rfl) (tb hw 1 rfl) (tb hw 2 rfl) (tb hw 3 rfl) (rU l Z aa hw [] j0 v4_1 nn _ n0 Z0 hnn hbb) at_9 (pc' := 12) rfl (by decide) (by decide) (by decide) rfl rfl rfl (lenOf pd_0 rfl) (Nat.le_refl _) (by decide) (by decide) ?_
  intro v T L X q
  obtain ⟨bb, vs, rfl, szq, g_bb, Nq, Kq, E_bb, V_bb, ql, qv⟩ := q
  replace N := N.app Nq
  replace Z0 := Nat.le_trans Z0 Kq.1
  show Go p e below _ (T.setTop (mkF m 12 #[.val (.long j0), .second, .val (.int i1), .val (.int i2), .val (.int v4_1), .unset, .unset] [(.ref bb)]))
  refine g_astore X at_12 (pc' := 14) (Ls' := #[.val (.long j0), .second, .val (.int i1), .val (.int i2), .val (.int v4_1), .val (.ref bb), .unset]) rfl rfl rfl ?_
  refine g_aload X at_14 (pc' := 16) rfl rfl rfl ?_
  refine g_arraylength X V_bb at_16 (pc' := 17) rfl (z := v4_1) (len_is hnn ql) ?_
  refine g_iload X at_17 (pc' := 19) rfl rfl ?_
  refine g_icY X at_19 (teq (show v4_1 = v4_1 from rfl)).1 (pc' := 24) (by decide) (by decide) ?_
  refine g_iload X at_24 (pc' := 26) rfl rfl ?_
  by_cases hc26_2 : v4_1 = (0 : Int32)
  · skip
    refine g_ifN X at_26 ((if0 _ _).trans (teq hc26_2).2) (pc' := 29) rfl ?_
    refine g_iconst X (1 : Int32) at_29 (pc' := 30) rfl rfl ?_
    refine g_ireturnN X (t := .boolean) (by simp) at_30 hret hlk (by decide) (by decide) ?_
    exact ⟨rfl, N⟩
  · skip
    refine g_ifY X at_26 ((if0 _ _).trans (feq hc26_2).2) (pc' := 31) (by decide) (by decide) ?_
    refine g_iloadN X at_31 (pc' := 32) rfl rfl ?_
    refine g_ldc X (tb hw 5 rfl) at_32 (pc' := 34) rfl ?_
    refine g_iand X at_34 (pc' := 35) rfl ?_
    refine g_iload X at_35 (pc' := 37) rfl rfl ?_
    refine g_irem X at_37 (pc' := 38) rfl hc26_2 ?_
    generalize ev38_3 : ((i2 &&& (2147483647 : Int32)) % v4_1) = v38_3
    refine g_istore X at_38 (pc' := 40) (Ls' := #[.val (.long j0), .second, .val (.int i1), .val (.int i2), .val (.int v4_1), .val (.ref bb), .val (.int v38_3)]) rfl rfl ?_
    refine g_aload X at_40 (pc' := 42) rfl rfl rfl ?_
    refine g_iload X at_42 (pc' := 44) rfl rfl ?_
    refine g_baload X V_bb v38_3.toNatClampNeg at_44 (pc' := 45) rfl (idx_ok hnn hbb hc26_2 ev38_3).2.2.2 rfl (qv _ (by have := (idx_ok hnn hbb hc26_2 ev38_3); simp only [Int32.toNatClampNeg]; omega)) ?_
    refine g_lloadN X at_45 (pc' := 46) rfl rfl ?_
    refine g_iload X at_46 (pc' := 48) rfl rfl ?_
    refine g_iload X at_48 (pc' := 50) rfl rfl ?_
    refine g_static X (W := 1) [(.long j0), (.int v4_1), (.int v38_3)] [(.int (elt j0 (nn - 1 - v38_3.toNatClampNeg)))] (tb hw 6 rfl) (tb hw 7 rfl) (tb hw 8 rfl) (tb hw 9 rfl) (rE l Z aa hw [] j0 v4_1 v38_3 _) at_50 (pc' := 53) rfl (by decide) (by decide) (by decide) rfl rfl rfl (lenOf pd_1 rfl) (Nat.le_refl _) (by decide) (by decide) ?_
    intro v T L X q
    obtain ⟨rfl, X⟩ := pureX X q
    show Go p e below _ (T.setTop (mkF m 53 #[.val (.long j0), .second, .val (.int i1), .val (.int i2), .val (.int v4_1), .val (.ref bb), .val (.int v38_3)] [(.int (fE j0 v4_1 v38_3)), (.int (elt j0 (nn - 1 - v38_3.toNatClampNeg)))]))
    refine g_icN X at_53 (teq (show (elt j0 (nn - 1 - v38_3.toNatClampNeg)) = (fE j0 v4_1 v38_3) from (eltE _ _ _ _ (by have := (idx_ok hnn hbb hc26_2 ev38_3); simp only [Int32.toNatClampNeg]; omega) (by omega) (by omega) (by omega) ((idx_ok hnn hbb hc26_2 ev38_3)).1))).2 (pc' := 56) rfl ?_
    refine g_aload X at_56 (pc' := 58) rfl rfl rfl ?_
    refine g_iconst X (0 : Int32) at_58 (pc' := 59) rfl rfl ?_
    refine g_baload X V_bb 0 at_59 (pc' := 60) rfl (by decide) (by decide) (qv 0 (idx_ok hnn hbb hc26_2 ev38_3).2.2.1) ?_
    refine g_lloadN X at_60 (pc' := 61) rfl rfl ?_
    refine g_iload X at_61 (pc' := 63) rfl rfl ?_
    refine g_iconst X (0 : Int32) at_63 (pc' := 64) rfl rfl ?_
    refine g_static X (W := 1) [(.long j0), (.int v4_1), (.int (0 : Int32))] [(.int (elt j0 (nn - 1 - 0)))] (tb hw 6 rfl) (tb hw 7 rfl) (tb hw 8 rfl) (tb hw 9 rfl) (rE l Z aa hw [] j0 v4_1 (0 : Int32) _) at_64 (pc' := 67) rfl (by decide) (by decide) (by decide) rfl rfl rfl (lenOf pd_1 rfl) (Nat.le_refl _) (by decide) (by decide) ?_
    intro v T L X q
    obtain ⟨rfl, X⟩ := pureX X q
    show Go p e below _ (T.setTop (mkF m 67 #[.val (.long j0), .second, .val (.int i1), .val (.int i2), .val (.int v4_1), .val (.ref bb), .val (.int v38_3)] [(.int (fE j0 v4_1 (0 : Int32))), (.int (elt j0 (nn - 1 - 0)))]))
    refine g_icN X at_67 (teq (show (elt j0 (nn - 1 - 0)) = (fE j0 v4_1 (0 : Int32)) from (eltE _ _ _ _ (by have := (idx_ok hnn hbb hc26_2 ev38_3); simp only [Int32.reduceToInt]; omega) (by omega) (by omega) (by omega) (by decide)))).2 (pc' := 70) rfl ?_
    refine g_aload X at_70 (pc' := 72) rfl rfl rfl ?_
    refine g_iload X at_72 (pc' := 74) rfl rfl ?_
    refine g_iconst X (1 : Int32) at_74 (pc' := 75) rfl rfl ?_
    refine g_isub X at_75 (pc' := 76) rfl ?_
    refine g_baload X V_bb (nn - 1) at_76 (pc' := 77) rfl (last_ok hnn hbb (idx_ok hnn hbb hc26_2 ev38_3).2.2.1).1 (last_ok hnn hbb (idx_ok hnn hbb hc26_2 ev38_3).2.2.1).2 (qv _ (by have := (idx_ok hnn hbb hc26_2 ev38_3); omega)) ?_
    refine g_lloadN X at_77 (pc' := 78) rfl rfl ?_
    refine g_l2i X at_78 (pc' := 79) rfl ?_
    refine g_i2b X at_79 (pc' := 80) rfl ?_
    refine g_icN X at_80 (teq (show (elt j0 (nn - 1 - (nn - 1))) = ((j0.toInt32).toInt8.toInt32) from (by rw [Nat.sub_self]; exact elt0 _))).2 (pc' := 83) rfl ?_
    refine g_iconst X (1 : Int32) at_83 (pc' := 84) rfl rfl ?_
    refine g_goto X at_84 (pc' := 88) (by decide) (by decide) ?_
    refine g_ireturnN X (t := .boolean) (by simp) at_88 hret hlk (by decide) (by decide) ?_
    exact ⟨rfl, N⟩
set_option maxRecDepth 65536 in
set_option maxHeartbeats 40000000 in
theorem comes_1 {Post : Tables → Env → Array Value → State → Outcome → State → Prop} (hpost : ∀ tb e args s v u, (limb_1_1.after args s (.returned v) u = true ∧ limb_1_2.after args s (.returned v) u = true ∧ True) → FrameEnd s (.returned v) u (Jvm.fieldLocs frame_1_writes args s ++ Jvm.arrayLocs frame_1_arrays args s ++ Jvm.staticLocs frame_1_statics s) 16 128 → Post tb e args s (.returned v) u) :
    ArmFor flags0 classFile x code maxLocals ret World_1 tables_1 room_1 Calls_1 rest_1 Pre_1 Post := by
  intro l hfl _ _ p e ha hc hk s m args below hf hA hF happ hP
  obtain ⟨hcalls, hrest, hpre⟩ := hP
  obtain ⟨-, -, -, hnamed, -, -, -, hat⟩ := (Spec.applies_iff hf).mp happ
  obtain ⟨hg, hn⟩ := and_e (Cond.before_iff.mp (show (Jvm.Cond.and given_1 narrow_1).before args s = true from hpre))
  obtain ⟨g1, g2⟩ := and_e hg
  obtain ⟨g3, g4⟩ := and_e g2
  obtain ⟨g5, g6⟩ := and_e g4
  obtain ⟨w0, w1, w2, rfl⟩ : ∃ w0 w1 w2 : Value, args = #[w0, w1, w2] := by
    have hs : args.size = 3 := by simpa [Cond.value, given_1] using g1
    obtain ⟨L⟩ := args
    match L, hs with
    | [w0, w1, w2], _ => exact ⟨w0, w1, w2, rfl⟩
  have hw := fun d (hd : d ∈ tables_1) => atoms_spec (ws := Jvm.Cond.code x code maxLocals ret :: tables_1) hat d (List.mem_cons_of_mem _ hd)
  have hfit : Fit s := fun {y c} hc i hi => by
    obtain ⟨ha, rfl⟩ := Array.getElem?_eq_some_iff.mp hc
    have q := List.all_eq_true.mp ((Array.all_eq_true_iff_forall_mem.mp hF) _ (Array.getElem_mem ha)) i (List.mem_range.mpr hi)
    simpa [Array.getElem?_eq_getElem hi] using q
  obtain ⟨i0, ei0⟩ := isL_v g3
  obtain rfl : w0 = (.long i0) := Option.some.inj ei0
  obtain ⟨i1, ei1⟩ := is_v g5
  obtain rfl : w1 = (.int i1) := Option.some.inj ei1
  obtain ⟨i2, ei2⟩ := is_v g6
  obtain rfl : w2 = (.int i2) := Option.some.inj ei2
  obtain ⟨n, o, h1, h2, h3, _, L, rfl, ⟨rfl, N⟩, hq⟩ := rLaw l s _ hw tables_1 i0 i1 i2 s.heap s.heap.size (Nat.le_refl _) p e ha hc hk s m _ below hf ((Spec.applies_iff_loose hf).mp happ).1 ⟨rfl, State.Warmed39.refl s, rfl⟩ trivial
  refine ⟨n, _, h1, h2, h3, hpost _ _ _ _ _ _ ⟨Cond.after_iff.mpr rfl, Cond.after_iff.mpr (eq_i res_at (Term.int_eval (1)) rfl), trivial⟩ ⟨hq.1, hq.2.1, (hq.2.2.sift fun y hy => Or.inr (N y hy)).mono (by decide) (by decide)⟩⟩
theorem main_1_1 : Claimed_1_1 := comes_1 fun _ _ _ _ _ _ h hF => ⟨h.1, hF⟩
theorem main_1_2 : Claimed_1_2 := comes_1 fun _ _ _ _ _ _ h hF => ⟨h.2.1, hF⟩
end Jvm.Pilot.@@N@@
namespace Jvm.Pilot.@@N@@
open Jvm Jvm.ClassFile Sem Op Lib Jvm.Free Jvm.Stand Jvm.Pilot.@@N@@.Jvm.D
/-! MADE BY PROGRAM (witnessworld.py) out of the Statement's table words and the real class files: 9 classes; the members and pool entries that the words name. The judged class is class 1, her method 1. -/
namespace start1
open Jvm.ClassFile
def u (s : String) : CpInfo := .utf8 (stringToUtf16 s)
/-- a pool by its gaps: so many unusable entries, then the entry; so many at the end -/
def gap : Nat → List CpInfo → List CpInfo
  | 0, r => r
  | n + 1, r => .unusable :: gap n r
def poolList (es : List (Nat × CpInfo)) (last : Nat) : List CpInfo := es.foldr (fun e r => gap e.1 (e.2 :: r)) (gap last [])
def pool (es : List (Nat × CpInfo)) (last : Nat) : Array CpInfo := ⟨poolList es last⟩
def fileOf (pool : Array CpInfo) (this : Nat) (attrs : Array Attribute := #[]) (ms : Array MethodInfo := #[]) (fl : Nat := 33) (sup : Nat := 0) (ifs : Array Nat := #[]) (fds : Array FieldInfo := #[]) : ClassFile where
  minorVersion := 0
  majorVersion := 65
  constantPool := pool
  accessFlags := fl
  thisClass := this
  superClass := sup
  interfaces := ifs
  fields := fds
  methods := ms
  attributes := attrs
def plain (name : String) (sup : Option ClassId) : Class where
  name := name
  kind := .ordinary
  loader := none
  accessFlags := 33
  super := sup
  interfaces := #[]
  cf := none
  fields := #[]
  methods := #[]
  instanceTypes := #[]
  staticTypes := #[]
  resolved := #[]
  callSites := []
  init := .initialized
  statics := none
  mirror := none

def pool0 : Array CpInfo := pool [(5, u "<init>"), (0, u "()V"), (1, .class_ 10), (1, u "java/lang/Object")] 113

def k0m0 : Method := { name := "<init>", desc := "()V", sig := { parameters := [], returnType := none }, accessFlags := 1, code := none }
/-- java/lang/Object -/
def k0 : Class := { plain "java/lang/Object" none with
  accessFlags := 33
  interfaces := #[]
  cf := some (fileOf pool0 8 #[] #[{ accessFlags := 1, nameIndex := 5, descriptorIndex := 6, attributes := #[] }] 33 0 #[] #[])
  fields := #[]
  methods := #[k0m0]
  instanceTypes := #[]
  staticTypes := #[]
  resolved := Array.replicate 124 none
  statics := none }

def pool1 : Array CpInfo := pool [(2, .class_ 4), (1, u "java/lang/Object"), (0, u "<init>"), (0, u "()V"), (0, .methodref 8 9), (0, .class_ 10), (0, .nameAndType 11 12), (0, u "com/example/tagwire/tagwire/ec/EcTag"), (0, u "unsignedData"), (0, u "(JI)[B"), (0, .integer 2147483647), (0, .methodref 15 16), (0, .class_ 17), (0, .nameAndType 18 19), (0, u "com/example/tagwire/tagwire/ec/EcTagUnsignedDataPinLaw"), (0, u "expected"), (0, u "(JII)B"), (2, u "law"), (0, u "(JII)Z")] 5

def k1m0 : Method := { name := "<init>", desc := "()V", sig := { parameters := [], returnType := none }, accessFlags := 2, code := none }
def k1c1 : Code := { maxStack := 5, maxLocals := 7, code := code, exceptionTable := #[], attributes := #[] }
def k1m1 : Method := { name := "law", desc := "(JII)Z", sig := { parameters := [.long, .int, .int], returnType := some .boolean }, accessFlags := 9, code := some k1c1 }
def k1c2 : Code := { maxStack := 4, maxLocals := 5, code := method_3_code, exceptionTable := #[], attributes := #[] }
def k1m2 : Method := { name := "expected", desc := "(JII)B", sig := { parameters := [.long, .int, .int], returnType := some .byte }, accessFlags := 10, code := some k1c2 }
/-- com/example/tagwire/tagwire/ec/EcTagUnsignedDataPinLaw -/
def k1 : Class := { plain "com/example/tagwire/tagwire/ec/EcTagUnsignedDataPinLaw" (some 0) with
  accessFlags := 49
  interfaces := #[]
  cf := some (fileOf pool1 15 #[] #[{ accessFlags := 2, nameIndex := 5, descriptorIndex := 6, attributes := #[] }, { accessFlags := 9, nameIndex := 22, descriptorIndex := 23, attributes := #[] }, { accessFlags := 10, nameIndex := 18, descriptorIndex := 19, attributes := #[] }] 49 2 #[] #[])
  fields := #[]
  methods := #[k1m0, k1m1, k1m2]
  instanceTypes := #[]
  staticTypes := #[]
  resolved := Array.replicate 29 none
  statics := none }

def pool2 : Array CpInfo := pool [(10, u "[B"), (3, .class_ 16), (1, u "com/example/tagwire/tagwire/ec/EcTag"), (3, .class_ 22), (1, u "java/lang/Object"), (13, u "name"), (0, u "I"), (2, u "type"), (2, u "data"), (2, u "children"), (0, u "Ljava/util/List;"), (18, u "lengthField"), (0, u "J"), (133, u "MAX_NAME"), (2, u "PLAIN_NAME_BYTES"), (1, u "TYPE_BYTES"), (1, u "PLAIN_LENGTH_BYTES"), (1, u "PLAIN_COUNT_BYTES"), (0, u "SMALLEST_HEADER_BYTES"), (1, u "HASH16_BYTES"), (24, u "unsignedData"), (0, u "(JI)[B")] 51

def k2c0 : Code := { maxStack := 4, maxLocals := 5, code := prog_50_method_16_code, exceptionTable := #[], attributes := #[] }
def k2m0 : Method := { name := "unsignedData", desc := "(JI)[B", sig := { parameters := [.long, .int], returnType := some (.array .byte) }, accessFlags := 8, code := some k2c0 }
/-- com/example/tagwire/tagwire/ec/EcTag -/
def k2 : Class := { plain "com/example/tagwire/tagwire/ec/EcTag" (some 0) with
  accessFlags := 49
  interfaces := #[]
  cf := some (fileOf pool2 14 #[] #[{ accessFlags := 8, nameIndex := 238, descriptorIndex := 239, attributes := #[] }] 49 20 #[] #[{ accessFlags := 25, nameIndex := 201, descriptorIndex := 37, attributes := #[] }, { accessFlags := 24, nameIndex := 204, descriptorIndex := 37, attributes := #[] }, { accessFlags := 24, nameIndex := 206, descriptorIndex := 37, attributes := #[] }, { accessFlags := 24, nameIndex := 208, descriptorIndex := 37, attributes := #[] }, { accessFlags := 24, nameIndex := 210, descriptorIndex := 37, attributes := #[] }, { accessFlags := 24, nameIndex := 211, descriptorIndex := 37, attributes := #[] }, { accessFlags := 24, nameIndex := 213, descriptorIndex := 37, attributes := #[] }, { accessFlags := 18, nameIndex := 36, descriptorIndex := 37, attributes := #[] }, { accessFlags := 18, nameIndex := 40, descriptorIndex := 37, attributes := #[] }, { accessFlags := 18, nameIndex := 43, descriptorIndex := 10, attributes := #[] }, { accessFlags := 18, nameIndex := 46, descriptorIndex := 47, attributes := #[] }, { accessFlags := 18, nameIndex := 66, descriptorIndex := 67, attributes := #[] }])
  fields := #[{ name := "MAX_NAME", type := .int, accessFlags := 25, slot := 0, constantValue := 0 }, { name := "PLAIN_NAME_BYTES", type := .int, accessFlags := 24, slot := 1, constantValue := 0 }, { name := "TYPE_BYTES", type := .int, accessFlags := 24, slot := 2, constantValue := 0 }, { name := "PLAIN_LENGTH_BYTES", type := .int, accessFlags := 24, slot := 3, constantValue := 0 }, { name := "PLAIN_COUNT_BYTES", type := .int, accessFlags := 24, slot := 4, constantValue := 0 }, { name := "SMALLEST_HEADER_BYTES", type := .int, accessFlags := 24, slot := 5, constantValue := 0 }, { name := "HASH16_BYTES", type := .int, accessFlags := 24, slot := 6, constantValue := 0 }, { name := "name", type := .int, accessFlags := 18, slot := 0, constantValue := 0 }, { name := "type", type := .int, accessFlags := 18, slot := 1, constantValue := 0 }, { name := "data", type := (.array .byte), accessFlags := 18, slot := 2, constantValue := 0 }, { name := "children", type := (.object "java/util/List"), accessFlags := 18, slot := 3, constantValue := 0 }, { name := "lengthField", type := .long, accessFlags := 18, slot := 4, constantValue := 0 }]
  methods := #[k2m0]
  instanceTypes := #[.int, .int, (.array .byte), (.object "java/util/List"), .long]
  staticTypes := #[.int, .int, .int, .int, .int, .int, .int]
  resolved := Array.replicate 291 none
  statics := none }

def pool3 : Array CpInfo := pool [(1, u "java/lang/Cloneable"), (0, .class_ 1), (0, u "java/lang/Object"), (0, .class_ 3)] 3

/-- java/lang/Cloneable -/
def k3 : Class := { plain "java/lang/Cloneable" (some 0) with
  accessFlags := 1537
  interfaces := #[]
  cf := some (fileOf pool3 2 #[] #[] 1537 4 #[] #[])
  fields := #[]
  methods := #[]
  instanceTypes := #[]
  staticTypes := #[]
  resolved := Array.replicate 8 none
  statics := none }

def pool4 : Array CpInfo := pool [(1, u "java/io/Serializable"), (0, .class_ 1), (0, u "java/lang/Object"), (0, .class_ 3)] 3

/-- java/io/Serializable -/
def k4 : Class := { plain "java/io/Serializable" (some 0) with
  accessFlags := 1537
  interfaces := #[]
  cf := some (fileOf pool4 2 #[] #[] 1537 4 #[] #[])
  fields := #[]
  methods := #[]
  instanceTypes := #[]
  staticTypes := #[]
  resolved := Array.replicate 8 none
  statics := none }

/-- the primitive byte -/
def k5 : Class := { plain "byte" none with kind := .primitive 'B', accessFlags := 0x411 }
/-- [B -/
def k6 : Class := { plain "[B" (some 0) with kind := .array 5 .byte, interfaces := #[3, 4], accessFlags := 1041 }

/-- the primitive int -/
def k7 : Class := { plain "int" none with kind := .primitive 'I', accessFlags := 0x411 }
/-- [I -/
def k8 : Class := { plain "[I" (some 0) with kind := .array 7 .int, interfaces := #[3, 4], accessFlags := 1041 }

def heap : Heap := #[]
def classes : Array Class := #[k0, k1, k2, k3, k4, k5, k6, k7, k8]
def interned : List (Array UInt16 × Addr) := []
def slotsUsed : Nat := 0
def theMethod : MethodId := ⟨1, 1⟩
def args0 : Array Value := #[.long 5, .int 7, .int 3]
def aboutOver (below : List Frame) : State where
  vm := { classes := classes, interned := interned.toArray }
  heap := heap
  slotsUsed := slotsUsed
  threads := #[{ frames := .invoking theMethod args0 :: below }]
def below0 : List Frame := [.native { method := ⟨0, 0⟩, args := #[] }]
def about1 : State := aboutOver below0
def p0 : Program := .bare "" "" ""
def e0 : Env := launch0.env 0 0 0
theorem w_frames : about1.frames = Frame.invoking theMethod args0 :: below0 := rfl
set_option maxRecDepth 65536 in
theorem w_args : argsFit about1.vm theMethod args0 = true := by decide +kernel
set_option maxRecDepth 65536 in
theorem w_heap : heapFits about1 = true := by decide +kernel
set_option maxRecDepth 65536 in
theorem w_runnable : about1.curStatus? = some .runnable := by decide +kernel
set_option maxRecDepth 65536 in
theorem w_alone : about1.alone = true := by decide +kernel
set_option maxRecDepth 65536 in
theorem w_named : about1.methodNamed? x = some theMethod := by decide +kernel
set_option maxRecDepth 65536 in
theorem w_hears : about1.hears theMethod below0 = true := by decide +kernel
set_option maxRecDepth 65536 in
theorem w_ripe : about1.ripe theMethod args0 below0 = true := by decide +kernel
theorem w_running : about1.status = .running := rfl
set_option maxRecDepth 65536 in
theorem w_room : about1.hasRoom e0.platform room_1 = true :=
  launch0.hasRoom_least _ room_1 (by decide +kernel) (by decide +kernel) (by decide +kernel) (by decide +kernel) (by decide +kernel) (by decide +kernel)
theorem allAtoms_all (ts : List Jvm.Cond) (a : Array Jvm.Value) (st : Jvm.State) : (allAtoms ts).before a st = ts.all (fun c => c.before a st) := by
  induction ts with
  | nil => rfl
  | cons c t ih =>
    show (Jvm.Cond.and c (allAtoms t)).before a st = _
    rw [Jvm.Cond.before_and, ih, List.all_cons]
def words1 : List Jvm.Cond := Jvm.Cond.code x code maxLocals ret :: tables_1
/-- a 'code' word, met by the world's own term for the bytes: nothing is compared byte by byte -/
theorem code_word {y : MethodName} {bytes : ByteArray} {mx : Nat} {rt : Option FieldType} {a : Array Value} {s : State} {m : MethodId} {meth : Method} {c : Code} (h1 : s.methodNamed? y = some m) (h2 : s.vm.method? m = some meth) (h3 : meth.code = some c) (h4 : c.code = bytes)
    (h5 : (c.maxLocals == mx && c.exceptionTable.isEmpty && decide (c.maxStack ≤ mostOperands) && decide (meth.sig.returnType = rt) && !meth.locks && decide (parseMethodDescriptor y.desc = some meth.sig)) = true) : (Jvm.Cond.code y bytes mx rt).before a s = true := by
  simp only [Bool.and_eq_true, beq_iff_eq, Bool.not_eq_true', decide_eq_true_eq] at h5
  obtain ⟨⟨⟨⟨⟨g1, g2⟩, g3⟩, g4⟩, g5⟩, g6⟩ := h5
  simp [Cond.before, Cond.holds, Cond.value, h1, h2, h3, h4, g1, g2, g3, g4, g5, g6]
def isCode : Jvm.Cond → Bool
  | .code _ _ _ _ => true
  | _ => false
theorem all_split {L : List Jvm.Cond} {P : Jvm.Cond → Bool} (h1 : L.all (fun c => isCode c || P c) = true) (h2 : ∀ c ∈ L.filter isCode, P c = true) : L.all P = true := by
  refine List.all_eq_true.mpr fun c hc => ?_
  have h := List.all_eq_true.mp h1 c hc
  rcases Bool.eq_false_or_eq_true (isCode c) with hi | hi
  · exact h2 c (List.mem_filter.mpr ⟨hc, hi⟩)
  · simpa [hi] using h
set_option maxRecDepth 65536 in
theorem w_c0 : (Jvm.Cond.code x code maxLocals ret).before args0 about1 = true := code_word (m := ⟨1, 1⟩) (meth := k1m1) (c := k1c1) (by decide +kernel) rfl rfl rfl (by decide +kernel)
set_option maxRecDepth 65536 in
theorem w_c1 : (Jvm.Cond.code ({ cls := "com/example/tagwire/tagwire/ec/EcTag", name := "unsignedData", desc := "(JI)[B" } : Jvm.MethodName) prog_50_method_16_code (5 : Nat) (Option.some (Jvm.ClassFile.FieldType.array Jvm.ClassFile.FieldType.byte))).before args0 about1 = true := code_word (m := ⟨2, 0⟩) (meth := k2m0) (c := k2c0) (by decide +kernel) rfl rfl rfl (by decide +kernel)
set_option maxRecDepth 65536 in
theorem w_c2 : (Jvm.Cond.code ({ cls := "com/example/tagwire/tagwire/ec/EcTagUnsignedDataPinLaw", name := "expected", desc := "(JII)B" } : Jvm.MethodName) method_3_code (5 : Nat) (Option.some Jvm.ClassFile.FieldType.byte)).before args0 about1 = true := code_word (m := ⟨1, 2⟩) (meth := k1m2) (c := k1c2) (by decide +kernel) rfl rfl rfl (by decide +kernel)
def codes1 : List Jvm.Cond := [Jvm.Cond.code x code maxLocals ret, Jvm.Cond.code ({ cls := "com/example/tagwire/tagwire/ec/EcTag", name := "unsignedData", desc := "(JI)[B" } : Jvm.MethodName) prog_50_method_16_code (5 : Nat) (Option.some (Jvm.ClassFile.FieldType.array Jvm.ClassFile.FieldType.byte)), Jvm.Cond.code ({ cls := "com/example/tagwire/tagwire/ec/EcTagUnsignedDataPinLaw", name := "expected", desc := "(JII)B" } : Jvm.MethodName) method_3_code (5 : Nat) (Option.some Jvm.ClassFile.FieldType.byte)]
set_option maxRecDepth 65536 in
theorem codes_eq : words1.filter isCode = codes1 := rfl
theorem w_codes : ∀ c ∈ words1.filter isCode, c.before args0 about1 = true := by
  rw [codes_eq]
  intro c hc
  simp only [codes1, List.mem_cons, List.not_mem_nil, or_false] at hc
  rcases hc with rfl | rfl | rfl
  · exact w_c0
  · exact w_c1
  · exact w_c2
set_option maxRecDepth 65536 in
theorem w_t1 : words1.all (fun c => isCode c || c.before args0 about1) = true := by decide +kernel
theorem w_tables : (allAtoms (Jvm.Cond.code x code maxLocals ret :: tables_1)).before args0 about1 = true := by
  rw [allAtoms_all]
  show words1.all (fun c => c.before args0 about1) = true
  refine all_split ?_ w_codes
  rw [w_t1]
set_option maxRecDepth 65536 in
theorem w_case : (Jvm.Cond.and given_1 narrow_1).before args0 about1 = true := by decide +kernel
theorem w_applies : (headSpec (Jvm.Cond.code x code maxLocals ret :: tables_1) room_1).applies x e0.platform about1 = true :=
  (Spec.applies_iff w_frames).mpr ⟨w_running, w_runnable, w_alone, w_named, w_hears, w_ripe, w_room, w_tables⟩
theorem atStart : AtStart classFile x code maxLocals ret World_1 tables_1 room_1 Calls_1 rest_1 Pre_1 launch0 p0 e0 about1 theMethod args0 below0 :=
  ⟨lists_1, trivial, launch0.admits_env _ _ _, launch0.least_env, fairChoices_fair.cas, fairChoices_fair.clock, w_frames, w_args, w_heap, w_applies, trivial, trivial, w_case⟩
end start1
theorem witness_1 : WitnessClaimed_1 := ⟨start1.p0, start1.e0, start1.about1, start1.theMethod, start1.args0, start1.below0, start1.atStart⟩
end Jvm.Pilot.@@N@@
