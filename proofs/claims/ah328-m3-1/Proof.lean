import JvmDerived
import JvmDerived.Pilot.@@N@@Statement
import JvmDerived.Pilot.@@N@@Code
set_option linter.unusedVariables false
set_option linter.unusedSimpArgs false
namespace Jvm.RoadKit
open Sem ClassFile Op Lib Jvm.Stand Jvm.Free Jvm.LawKit
section New
variable {p : Program} {l : Launch} {e : Env} {R : Room} {s : State} {m : MethodId} {args : Array Value} {below : List Frame} {meth : Method} {c : Code} {T : State} {locs : List Loc} {cells slots : Nat}
theorem retI (X : Stand p l e R s m args below meth c T locs cells slots) (hx : p.tables.exec = Jvm.exec) {pc : Nat} {Ls : Array Slot} {z : Int32} {rest : List Value} (hret : meth.sig.returnType = some .int) (hd : decode c.code pc = .ok (.ireturn, 1)) {fs : List Frame}
    (hl : ∀ (f : JFrame) (acts : List Action), f.method = m → f.locked = none → f.entered = [] → (doReturn e (T.setTop f) acts (some (.int z))).1 = T.setFrames fs) : Steps p.tables e below (T.setTop (mkF m pc Ls (.int z :: rest))) (T.setFrames fs) := by
  have hm' : T.vm.method? m = some meth := X.method'
  have hn : narrow .int (.int z) = .int z := rfl
  show Steps p.tables e below (T.setTop { method := m, pc := pc, locals := Ls, stack := _ :: rest, locked := none }) _
  jvm_step X.here [X.here.top, hx, hd, hm', hret, hn]
  first | (intro acts; rw [hl _ acts rfl rfl rfl]) | rw [hl _ _ rfl rfl rfl]
  exact Steps.refl _
theorem retJ (X : Stand p l e R s m args below meth c T locs cells slots) (hx : p.tables.exec = Jvm.exec) {pc : Nat} {Ls : Array Slot} {z : Int64} {rest : List Value} (hret : meth.sig.returnType = some .long) (hd : decode c.code pc = .ok (.lreturn, 1)) {fs : List Frame}
    (hl : ∀ (f : JFrame) (acts : List Action), f.method = m → f.locked = none → f.entered = [] → (doReturn e (T.setTop f) acts (some (.long z))).1 = T.setFrames fs) : Steps p.tables e below (T.setTop (mkF m pc Ls (.long z :: rest))) (T.setFrames fs) := by
  have hm' : T.vm.method? m = some meth := X.method'
  have hn : narrow .long (.long z) = .long z := rfl
  show Steps p.tables e below (T.setTop { method := m, pc := pc, locals := Ls, stack := _ :: rest, locked := none }) _
  jvm_step X.here [X.here.top, hx, hd, hm', hret, hn]
  first | (intro acts; rw [hl _ acts rfl rfl rfl]) | rw [hl _ _ rfl rfl rfl]
  exact Steps.refl _
end New
end Jvm.RoadKit
namespace Jvm.Pilot.@@N@@
open Jvm Jvm.ClassFile Sem Op Lib Jvm.Free Jvm.Stand Jvm.LawKit Jvm.RoadKit Bundle Jvm.Pilot.@@N@@.Jvm.D
/-! THE WALK's GOAL, AND ONE LAW A STEP (each in the form: where the run goes on, it ends well; so it does from here) -/
def Go (p : Program) (e : Env) (below : List Frame) (K : Outcome → State → Prop) (u : State) : Prop := ∃ s₂ o, Steps p.tables e below u s₂ ∧ s₂.status = .running ∧ Ended s₂ below o ∧ K o s₂
theorem Go.step {p : Program} {e : Env} {below : List Frame} {K : Outcome → State → Prop} {u u' : State} (h : ∀ t, Steps p.tables e below u' t → Steps p.tables e below u t) (g : Go p e below K u') : Go p e below K u := by
  obtain ⟨a, o, h1, h2⟩ := g; exact ⟨a, o, h _ h1, h2⟩
def Ends (s : State) (Q : Option Value → Heap → List Loc → Prop) (kc ks : Nat) (o : Outcome) (U : State) : Prop := ∃ v L, o = .returned v ∧ Q v U.heap L ∧ FrameEnd s o U L kc ks
/-- where the run stands, with all that a step asks -/
def Sx (Z : State) (own : String) (bytes : ByteArray) (ml : Nat) (p : Program) (l : Launch) (e : Env) (R : Room) (s : State) (m : MethodId) (args : Array Value) (below : List Frame) (meth : Method) (c : Code) (T : State) (locs : List Loc) (cells slots : Nat) (h : Heap) : Prop :=
  Stand p l e R s m args below meth c T locs cells slots ∧ p.tables.exec = Jvm.exec ∧ c.code = bytes ∧ c.maxLocals = ml ∧ s.vm.findClass own = some m.cls ∧ Z.Warmed39 s.vm ∧ T.heap = h
/-- what a method owes: called at the heap h0 with these arguments it returns, and Q holds -/
abbrev Rm (l : Launch) (Z : State) (y : MethodName) (bytes : ByteArray) (ml : Nat) (ret : Option FieldType) (ws : List Jvm.Cond) (rm : Room) (as' : Array Value) (h0 : Heap) (Q : Option Value → Heap → List Loc → Prop) : Prop :=
  MetFree l y (head1 (Jvm.Cond.code y bytes ml ret :: ws) rm) (fun a U => a = as' ∧ Z.Warmed39 U.vm ∧ U.heap = h0) (fun _ _ _ _ _ => True) (fun _ U o U' => ∃ v L, o = .returned v ∧ Q v U'.heap L ∧ FrameEnd U o U' L rm.cells rm.slots)
theorem Rm.of {l : Launch} {Z : State} {y : MethodName} {bytes : ByteArray} {ml : Nat} {ret : Option FieldType} {ws : List Jvm.Cond} {rm : Room} {as' : Array Value} {h0 : Heap} {Q : Option Value → Heap → List Loc → Prop} (hpl : plainFor y = true)
    (body : ∀ (p : Program) (e : Env) (s : State) (m : MethodId) (below : List Frame) (meth : Method) (c : Code) (T : State), Sx Z y.cls bytes ml p l e rm s m as' below meth c T [] 0 0 h0 → meth.name = y.name → meth.sig.returnType = ret → meth.locks = false → Go p e below (Ends s Q rm.cells rm.slots) (T.setTop (entryFrame m as' ml))) : Rm l Z y bytes ml ret ws rm as' h0 Q := by
  refine MetFree.of_bodySF hpl hisR ?_
  intro p e s m args below meth c s₁ Bd hml0 hP hK
  obtain ⟨rfl, hZ, hh⟩ := hP
  have X0 : Stand p l e rm s m args below meth c s₁ [] 0 0 := Stand.of_body Bd
  exact body p e s m below meth c s₁ ⟨X0, Bd.exec, Bd.bytes, hml0, findClass_of_methodNamed Bd.named, hZ, by rw [← hh, Bd.state]; rfl⟩ (name_of_methodNamed Bd.named Bd.method).1 Bd.returns (BodyLoose.notSynchronized Bd)
theorem Rm.weaken {l : Launch} {Z : State} {y : MethodName} {bytes : ByteArray} {ml : Nat} {ret : Option FieldType} {ws : List Jvm.Cond} {rm : Room} {as' : Array Value} {h0 : Heap} {Q Q' : Option Value → Heap → List Loc → Prop} (M : Rm l Z y bytes ml ret ws rm as' h0 Q) (hq : ∀ v h L, Q v h L → Q' v h L) : Rm l Z y bytes ml ret ws rm as' h0 Q' := by
  intro p e ha hc hk s m args below hf happ hP hK
  obtain ⟨n, o, h1, h2, h3, v, L, e1, q, r⟩ := M p e ha hc hk s m args below hf happ hP hK
  exact ⟨n, o, h1, h2, h3, v, L, e1, hq _ _ _ q, r⟩
/-- a boolean as an int -/
def b2i (b : Bool) : Int32 := if b then 1 else 0
theorem m1_int : (-1 : Int32).toInt = -1 := rfl
theorem b2i_t : b2i true = 1 := rfl
theorem b2i_f : b2i false = 0 := rfl
theorem nar_b2i (b : Bool) : nar .boolean (b2i b) = b2i b := by cases b <;> rfl
theorem bne {b : Bool} (h : b = true) : ¬ b2i b = 0 := by subst h; decide
theorem beq0 {b : Bool} (h : ¬ b = true) : b2i b = 0 := by simp at h; subst h; rfl
theorem Fr.one {k : Nat} {a : Addr} {sl : Nat} (g : k ≤ a) : Fr k [⟨a, sl⟩] := fun y hy => by cases List.mem_singleton.mp hy; exact g
/-- an array and all that it holds -/
def Av (Z : State) (h : Heap) (a : Addr) (ty : FieldType) (vs : List Value) : Prop := ∃ c : Cell, Arr Z h a c ty ∧ c.slots.toList = vs ∧ vs.length < 2147483648
section Facts
variable {Z : State} {h h' : Heap} {a b : Addr} {ty : FieldType} {vs : List Value} {sl : Nat} {v : Value} {ws : List Addr}
theorem Av.lt (F : Av Z h a ty vs) : a < h.size := by obtain ⟨c, A, -⟩ := F; exact A.lt
theorem Av.ext (F : Av Z h a ty vs) (E : Ext h h') : Av Z h' a ty vs := by obtain ⟨c, A, r⟩ := F; exact ⟨c, A.ext E, r⟩
theorem Av.other (F : Av Z h b ty vs) (W : Wr h h' a sl v) (q : b ≠ a) : Av Z h' b ty vs := by obtain ⟨c, A, r⟩ := F; exact ⟨c, A.other W q, r⟩
theorem Av.keep (F : Av Z h a ty vs) (K : Keep h h' ws) (q : a ∉ ws) : Av Z h' a ty vs := by obtain ⟨c, A, r⟩ := F; exact ⟨c, ⟨K.2.1 a c A.1 q, A.2⟩, r⟩
theorem Av.set (F : Av Z h a ty vs) (W : Wr h h' a sl v) : Av Z h' a ty (vs.set sl v) := by
  obtain ⟨c, A, e, r⟩ := F
  refine ⟨_, A.same W, ?_, by simpa using r⟩
  subst e
  simp [Cell.setSlot]
theorem Av.eq {vs' : List Value} (F : Av Z h a ty vs) (e : vs = vs') : Av Z h a ty vs' := e ▸ F
/-- an array of which the length is known alone -/
def AvN (Z : State) (h : Heap) (a : Addr) (ty : FieldType) (z : Int32) : Prop := ∃ vs, Av Z h a ty vs ∧ vs.length.toInt32 = z
theorem AvN.lt {z : Int32} (F : AvN Z h a ty z) : a < h.size := by obtain ⟨vs, A, -⟩ := F; exact A.lt
theorem AvN.ext {z : Int32} (F : AvN Z h a ty z) (E : Ext h h') : AvN Z h' a ty z := by obtain ⟨vs, A, r⟩ := F; exact ⟨vs, A.ext E, r⟩
theorem AvN.other {z : Int32} (F : AvN Z h b ty z) (W : Wr h h' a sl v) (q : b ≠ a) : AvN Z h' b ty z := by obtain ⟨vs, A, r⟩ := F; exact ⟨vs, A.other W q, r⟩
theorem AvN.keep {z : Int32} (F : AvN Z h a ty z) (K : Keep h h' ws) (q : a ∉ ws) : AvN Z h' a ty z := by obtain ⟨vs, A, r⟩ := F; exact ⟨vs, A.keep K q, r⟩
theorem Av.len (F : Av Z h a ty vs) : vs.length.toInt32.toInt = vs.length := by obtain ⟨_, _, _, r⟩ := F; exact len_toInt r
/-- an array over objects of the class C -/
def OvA (Z : State) (h : Heap) (a : Addr) (C : String) : Prop := ∃ cl : Cell, Arr Z h a cl (.object C) ∧ Ovr Z cl.cls C
theorem OvA.lt {C : String} (F : OvA Z h a C) : a < h.size := by obtain ⟨_, A, _⟩ := F; exact A.lt
theorem OvA.ext {C : String} (F : OvA Z h a C) (E : Ext h h') : OvA Z h' a C := by obtain ⟨cl, A, r⟩ := F; exact ⟨cl, A.ext E, r⟩
theorem OvA.keep {C : String} (F : OvA Z h a C) (K : Keep h h' ws) (q : a ∉ ws) : OvA Z h' a C := by obtain ⟨c, A, r⟩ := F; exact ⟨c, ⟨K.2.1 a c A.1 q, A.2⟩, r⟩
theorem OvA.wr {C : String} (F : OvA Z h a C) (W : Wr h h' b sl v) : OvA Z h' a C := by
  obtain ⟨cl, A, r⟩ := F
  by_cases q : a = b
  · subst q; exact ⟨_, A.same W, r⟩
  · exact ⟨cl, A.other W q, r⟩
theorem OvA.sto {C : String} (F : OvA Z h a C) (I : Ins Z h b C true) : Sto Z h a (.ref b) := by obtain ⟨cl, A, r⟩ := F; exact Sto.of A r I
theorem fit0 : ∀ v ∈ ([] : List Value), fits ty v = true := fun _ q => nomatch q
theorem fitS (q : fits ty v = true) (r : ∀ w ∈ vs, fits ty w = true) : ∀ w ∈ v :: vs, fits ty w = true := fun w hw => (List.mem_cons.mp hw).elim (fun e => e ▸ q) (r w)
theorem Sta.keep {C n d : String} (F : Sta Z h C n d v) (K : Keep h h' ws) (q : ∀ x ∈ ws, ∀ c : Cell, h[x]? = some c → c.vm.isStatics = false) : Sta Z h' C n d v := by
  obtain ⟨cf, i, k, f, st, cell, h1, h2, h3, h4, h5, h6, h7⟩ := F
  exact ⟨cf, i, k, f, st, cell, h1, h2, h3, h4, K.2.1 _ _ h5 (fun hm => by rw [q _ hm _ h5] at h6; cases h6), h6, h7⟩
end Facts
section Walk
variable {Z : State} {a0 : Array Value} {own : String} {bytes : ByteArray} {ml : Nat} {p : Program} {l : Launch} {e : Env} {R : Room} {s : State} {m : MethodId} {args : Array Value} {below : List Frame} {meth : Method} {c : Code} {T : State} {locs : List Loc} {cells slots : Nat} {h : Heap} {K : Outcome → State → Prop} {pc pc' : Nat} {Ls Ls' : Array Slot} {st : List Value}
theorem Go.lit32 {x z : Int32} (q : x = z) (k : Go p e below K (T.setTop (mkF m pc Ls (.int z :: st)))) : Go p e below K (T.setTop (mkF m pc Ls (.int x :: st))) := q ▸ k
theorem Go.lit64 {x z : Int64} (q : x = z) (k : Go p e below K (T.setTop (mkF m pc Ls (.long z :: st)))) : Go p e below K (T.setTop (mkF m pc Ls (.long x :: st))) := q ▸ k
theorem Go.at_ {f f' : JFrame} (q : f = f') (k : Go p e below K (T.setTop f')) : Go p e below K (T.setTop f) := q ▸ k
theorem g_iload (X : Sx Z own bytes ml p l e R s m args below meth c T locs cells slots h) {i : Nat} {v : Int32} (hd : decode bytes pc = .ok (.iload i, 2)) (hp : pc + 2 = pc') (hl : Ls[i]? = some (.val (.int v))) (k : Go p e below K (T.setTop (mkF m pc' Ls (.int v :: st)))) : Go p e below K (T.setTop (mkF m pc Ls (st))) := by
  subst hp; exact Go.step (fun t q => XS.iload X.1.here X.2.1 rfl (hb X.2.2.1 hd) hl q) k
theorem g_iloadN (X : Sx Z own bytes ml p l e R s m args below meth c T locs cells slots h) {i : Fin 4} {v : Int32} (hd : decode bytes pc = .ok (.iload_n i, 1)) (hp : pc + 1 = pc') (hl : Ls[i.val]? = some (.val (.int v))) (k : Go p e below K (T.setTop (mkF m pc' Ls (.int v :: st)))) : Go p e below K (T.setTop (mkF m pc Ls (st))) := by
  subst hp; exact Go.step (fun t q => XS.iloadN X.1.here X.2.1 rfl (hb X.2.2.1 hd) hl q) k
theorem g_lload (X : Sx Z own bytes ml p l e R s m args below meth c T locs cells slots h) {i : Nat} {v : Int64} (hd : decode bytes pc = .ok (.lload i, 2)) (hp : pc + 2 = pc') (hl : Ls[i]? = some (.val (.long v))) (k : Go p e below K (T.setTop (mkF m pc' Ls (.long v :: st)))) : Go p e below K (T.setTop (mkF m pc Ls (st))) := by
  subst hp; exact Go.step (fun t q => XS.lload X.1.here X.2.1 rfl (hb X.2.2.1 hd) hl q) k
theorem g_lloadN (X : Sx Z own bytes ml p l e R s m args below meth c T locs cells slots h) {i : Fin 4} {v : Int64} (hd : decode bytes pc = .ok (.lload_n i, 1)) (hp : pc + 1 = pc') (hl : Ls[i.val]? = some (.val (.long v))) (k : Go p e below K (T.setTop (mkF m pc' Ls (.long v :: st)))) : Go p e below K (T.setTop (mkF m pc Ls (st))) := by
  subst hp; exact Go.step (fun t q => XS.lloadN X.1.here X.2.1 rfl (hb X.2.2.1 hd) hl q) k
theorem g_aload (X : Sx Z own bytes ml p l e R s m args below meth c T locs cells slots h) {i : Nat} {v : Value} (hd : decode bytes pc = .ok (.aload i, 2)) (hp : pc + 2 = pc') (hl : Ls[i]? = some (.val v)) (hv : v.isRef = true) (k : Go p e below K (T.setTop (mkF m pc' Ls (v :: st)))) : Go p e below K (T.setTop (mkF m pc Ls (st))) := by
  subst hp; exact Go.step (fun t q => XS.aload X.1.here X.2.1 rfl (hb X.2.2.1 hd) hl hv q) k
theorem g_aloadN (X : Sx Z own bytes ml p l e R s m args below meth c T locs cells slots h) {i : Fin 4} {v : Value} (hd : decode bytes pc = .ok (.aload_n i, 1)) (hp : pc + 1 = pc') (hl : Ls[i.val]? = some (.val v)) (hv : v.isRef = true) (k : Go p e below K (T.setTop (mkF m pc' Ls (v :: st)))) : Go p e below K (T.setTop (mkF m pc Ls (st))) := by
  subst hp; exact Go.step (fun t q => XS.aloadN X.1.here X.2.1 rfl (hb X.2.2.1 hd) hl hv q) k
theorem g_istore (X : Sx Z own bytes ml p l e R s m args below meth c T locs cells slots h) {i : Nat} {v : Int32} (hd : decode bytes pc = .ok (.istore i, 2)) (hp : pc + 2 = pc') (hl : storeLocals Ls i (.int v) = some Ls') (k : Go p e below K (T.setTop (mkF m pc' Ls' (st)))) : Go p e below K (T.setTop (mkF m pc Ls (.int v :: st))) := by
  subst hp; exact Go.step (fun t q => XS.istore X.1.here X.2.1 rfl (hb X.2.2.1 hd) rfl hl q) k
theorem g_istoreN (X : Sx Z own bytes ml p l e R s m args below meth c T locs cells slots h) {i : Fin 4} {v : Int32} (hd : decode bytes pc = .ok (.istore_n i, 1)) (hp : pc + 1 = pc') (hl : storeLocals Ls i.val (.int v) = some Ls') (k : Go p e below K (T.setTop (mkF m pc' Ls' (st)))) : Go p e below K (T.setTop (mkF m pc Ls (.int v :: st))) := by
  subst hp; exact Go.step (fun t q => XS.istoreN X.1.here X.2.1 rfl (hb X.2.2.1 hd) rfl hl q) k
theorem g_lstore (X : Sx Z own bytes ml p l e R s m args below meth c T locs cells slots h) {i : Nat} {v : Int64} (hd : decode bytes pc = .ok (.lstore i, 2)) (hp : pc + 2 = pc') (hl : storeLocals Ls i (.long v) = some Ls') (k : Go p e below K (T.setTop (mkF m pc' Ls' (st)))) : Go p e below K (T.setTop (mkF m pc Ls (.long v :: st))) := by
  subst hp; exact Go.step (fun t q => XS.lstore X.1.here X.2.1 rfl (hb X.2.2.1 hd) rfl hl q) k
theorem g_lstoreN (X : Sx Z own bytes ml p l e R s m args below meth c T locs cells slots h) {i : Fin 4} {v : Int64} (hd : decode bytes pc = .ok (.lstore_n i, 1)) (hp : pc + 1 = pc') (hl : storeLocals Ls i.val (.long v) = some Ls') (k : Go p e below K (T.setTop (mkF m pc' Ls' (st)))) : Go p e below K (T.setTop (mkF m pc Ls (.long v :: st))) := by
  subst hp; exact Go.step (fun t q => XS.lstoreN X.1.here X.2.1 rfl (hb X.2.2.1 hd) rfl hl q) k
theorem g_astore (X : Sx Z own bytes ml p l e R s m args below meth c T locs cells slots h) {i : Nat} {v : Value} (hd : decode bytes pc = .ok (.astore i, 2)) (hp : pc + 2 = pc') (hv : v.isRef = true) (hl : storeLocals Ls i v = some Ls') (k : Go p e below K (T.setTop (mkF m pc' Ls' (st)))) : Go p e below K (T.setTop (mkF m pc Ls (v :: st))) := by
  subst hp; exact Go.step (fun t q => XS.astore X.1.here X.2.1 rfl (hb X.2.2.1 hd) rfl hv hl q) k
theorem g_astoreN (X : Sx Z own bytes ml p l e R s m args below meth c T locs cells slots h) {i : Fin 4} {v : Value} (hd : decode bytes pc = .ok (.astore_n i, 1)) (hp : pc + 1 = pc') (hv : v.isRef = true) (hl : storeLocals Ls i.val v = some Ls') (k : Go p e below K (T.setTop (mkF m pc' Ls' (st)))) : Go p e below K (T.setTop (mkF m pc Ls (v :: st))) := by
  subst hp; exact Go.step (fun t q => XS.astoreN X.1.here X.2.1 rfl (hb X.2.2.1 hd) rfl hv hl q) k
theorem g_iconst (X : Sx Z own bytes ml p l e R s m args below meth c T locs cells slots h) {i : Int} (v : Int32) (hd : decode bytes pc = .ok (.iconst i, 1)) (hp : pc + 1 = pc') (hv : Int32.ofInt i = v) (k : Go p e below K (T.setTop (mkF m pc' Ls (.int v :: st)))) : Go p e below K (T.setTop (mkF m pc Ls (st))) := by
  subst hv; subst hp; exact Go.step (fun t q => XS.iconst X.1.here X.2.1 rfl (hb X.2.2.1 hd)  q) k
theorem g_bipush (X : Sx Z own bytes ml p l e R s m args below meth c T locs cells slots h) {i : Int} (v : Int32) (hd : decode bytes pc = .ok (.bipush i, 2)) (hp : pc + 2 = pc') (hv : (Int8.ofInt i).toInt32 = v) (k : Go p e below K (T.setTop (mkF m pc' Ls (.int v :: st)))) : Go p e below K (T.setTop (mkF m pc Ls (st))) := by
  subst hv; subst hp; exact Go.step (fun t q => XS.bipush X.1.here X.2.1 rfl (hb X.2.2.1 hd)  q) k
theorem g_sipush (X : Sx Z own bytes ml p l e R s m args below meth c T locs cells slots h) {i : Int} (v : Int32) (hd : decode bytes pc = .ok (.sipush i, 3)) (hp : pc + 3 = pc') (hv : (Int16.ofInt i).toInt32 = v) (k : Go p e below K (T.setTop (mkF m pc' Ls (.int v :: st)))) : Go p e below K (T.setTop (mkF m pc Ls (st))) := by
  subst hv; subst hp; exact Go.step (fun t q => XS.sipush X.1.here X.2.1 rfl (hb X.2.2.1 hd)  q) k
theorem g_lconst (X : Sx Z own bytes ml p l e R s m args below meth c T locs cells slots h) {i : Fin 2} (v : Int64) (hd : decode bytes pc = .ok (.lconst i, 1)) (hp : pc + 1 = pc') (hv : Int64.ofNat i = v) (k : Go p e below K (T.setTop (mkF m pc' Ls (.long v :: st)))) : Go p e below K (T.setTop (mkF m pc Ls (st))) := by
  subst hv; subst hp; exact Go.step (fun t q => XS.lconst X.1.here X.2.1 rfl (hb X.2.2.1 hd)  q) k
theorem g_aconst_null (X : Sx Z own bytes ml p l e R s m args below meth c T locs cells slots h) (hd : decode bytes pc = .ok (.aconst_null, 1)) (hp : pc + 1 = pc') (k : Go p e below K (T.setTop (mkF m pc' Ls (.null :: st)))) : Go p e below K (T.setTop (mkF m pc Ls (st))) := by
  subst hp; exact Go.step (fun t q => XS.aconstNull X.1.here X.2.1 rfl (hb X.2.2.1 hd)  q) k
theorem g_ldc (X : Sx Z own bytes ml p l e R s m args below meth c T locs cells slots h) {i : Nat} {v : Int32} (w : (Cond.constant own i v).before a0 Z = true) (hd : decode bytes pc = .ok (.ldc i, 2)) (hp : pc + 2 = pc') (k : Go p e below K (T.setTop (mkF m pc' Ls (.int v :: st)))) : Go p e below K (T.setTop (mkF m pc Ls (st))) := by
  subst hp; exact Go.step (fun t q => X.1.ldcInt X.2.1 X.2.2.2.2.1 (mvT X.2.2.2.2.2.1 w) (g := mkF m pc Ls st) rfl (hb X.2.2.1 hd) _ q) k
theorem g_ldcw (X : Sx Z own bytes ml p l e R s m args below meth c T locs cells slots h) {i : Nat} {v : Int32} (w : (Cond.constant own i v).before a0 Z = true) (hd : decode bytes pc = .ok (.ldc_w i, 3)) (hp : pc + 3 = pc') (k : Go p e below K (T.setTop (mkF m pc' Ls (.int v :: st)))) : Go p e below K (T.setTop (mkF m pc Ls (st))) := by
  subst hp; exact Go.step (fun t q => X.1.ldcwInt X.2.1 X.2.2.2.2.1 (mvT X.2.2.2.2.2.1 w) (g := mkF m pc Ls st) rfl (hb X.2.2.1 hd) _ q) k
theorem g_ldc2 (X : Sx Z own bytes ml p l e R s m args below meth c T locs cells slots h) {i : Nat} {v : Int64} (w : (Cond.constantLong own i v).before a0 Z = true) (hd : decode bytes pc = .ok (.ldc2_w i, 3)) (hp : pc + 3 = pc') (k : Go p e below K (T.setTop (mkF m pc' Ls (.long v :: st)))) : Go p e below K (T.setTop (mkF m pc Ls (st))) := by
  subst hp; exact Go.step (fun t q => X.1.ldc2Long X.2.1 X.2.2.2.2.1 (mvT X.2.2.2.2.2.1 w) (g := mkF m pc Ls st) rfl (hb X.2.2.1 hd) _ q) k
theorem g_iadd (X : Sx Z own bytes ml p l e R s m args below meth c T locs cells slots h) {x y : Int32} (hd : decode bytes pc = .ok (.iadd, 1)) (hp : pc + 1 = pc') (k : Go p e below K (T.setTop (mkF m pc' Ls (.int (x + y) :: st)))) : Go p e below K (T.setTop (mkF m pc Ls (.int y :: .int x :: st))) := by
  subst hp; exact Go.step (fun t q => XS.iadd X.1.here X.2.1 rfl (hb X.2.2.1 hd) rfl q) k
theorem g_isub (X : Sx Z own bytes ml p l e R s m args below meth c T locs cells slots h) {x y : Int32} (hd : decode bytes pc = .ok (.isub, 1)) (hp : pc + 1 = pc') (k : Go p e below K (T.setTop (mkF m pc' Ls (.int (x - y) :: st)))) : Go p e below K (T.setTop (mkF m pc Ls (.int y :: .int x :: st))) := by
  subst hp; exact Go.step (fun t q => XS.isub X.1.here X.2.1 rfl (hb X.2.2.1 hd) rfl q) k
theorem g_imul (X : Sx Z own bytes ml p l e R s m args below meth c T locs cells slots h) {x y : Int32} (hd : decode bytes pc = .ok (.imul, 1)) (hp : pc + 1 = pc') (k : Go p e below K (T.setTop (mkF m pc' Ls (.int (x * y) :: st)))) : Go p e below K (T.setTop (mkF m pc Ls (.int y :: .int x :: st))) := by
  subst hp; exact Go.step (fun t q => XS.imul X.1.here X.2.1 rfl (hb X.2.2.1 hd) rfl q) k
theorem g_iand (X : Sx Z own bytes ml p l e R s m args below meth c T locs cells slots h) {x y : Int32} (hd : decode bytes pc = .ok (.iand, 1)) (hp : pc + 1 = pc') (k : Go p e below K (T.setTop (mkF m pc' Ls (.int (x &&& y) :: st)))) : Go p e below K (T.setTop (mkF m pc Ls (.int y :: .int x :: st))) := by
  subst hp; exact Go.step (fun t q => XS.iand X.1.here X.2.1 rfl (hb X.2.2.1 hd) rfl q) k
theorem g_ior (X : Sx Z own bytes ml p l e R s m args below meth c T locs cells slots h) {x y : Int32} (hd : decode bytes pc = .ok (.ior, 1)) (hp : pc + 1 = pc') (k : Go p e below K (T.setTop (mkF m pc' Ls (.int (x ||| y) :: st)))) : Go p e below K (T.setTop (mkF m pc Ls (.int y :: .int x :: st))) := by
  subst hp; exact Go.step (fun t q => XS.ior X.1.here X.2.1 rfl (hb X.2.2.1 hd) rfl q) k
theorem g_ixor (X : Sx Z own bytes ml p l e R s m args below meth c T locs cells slots h) {x y : Int32} (hd : decode bytes pc = .ok (.ixor, 1)) (hp : pc + 1 = pc') (k : Go p e below K (T.setTop (mkF m pc' Ls (.int (x ^^^ y) :: st)))) : Go p e below K (T.setTop (mkF m pc Ls (.int y :: .int x :: st))) := by
  subst hp; exact Go.step (fun t q => XS.ixor X.1.here X.2.1 rfl (hb X.2.2.1 hd) rfl q) k
theorem g_ishl (X : Sx Z own bytes ml p l e R s m args below meth c T locs cells slots h) {x y : Int32} (hd : decode bytes pc = .ok (.ishl, 1)) (hp : pc + 1 = pc') (k : Go p e below K (T.setTop (mkF m pc' Ls (.int (x <<< (y &&& 31)) :: st)))) : Go p e below K (T.setTop (mkF m pc Ls (.int y :: .int x :: st))) := by
  subst hp; exact Go.step (fun t q => XS.ishl X.1.here X.2.1 rfl (hb X.2.2.1 hd) rfl q) k
theorem g_ishr (X : Sx Z own bytes ml p l e R s m args below meth c T locs cells slots h) {x y : Int32} (hd : decode bytes pc = .ok (.ishr, 1)) (hp : pc + 1 = pc') (k : Go p e below K (T.setTop (mkF m pc' Ls (.int (x >>> (y &&& 31)) :: st)))) : Go p e below K (T.setTop (mkF m pc Ls (.int y :: .int x :: st))) := by
  subst hp; exact Go.step (fun t q => XS.ishr X.1.here X.2.1 rfl (hb X.2.2.1 hd) rfl q) k
theorem g_iushr (X : Sx Z own bytes ml p l e R s m args below meth c T locs cells slots h) {x y : Int32} (hd : decode bytes pc = .ok (.iushr, 1)) (hp : pc + 1 = pc') (k : Go p e below K (T.setTop (mkF m pc' Ls (.int ((x.toUInt32 >>> (y &&& 31).toUInt32).toInt32) :: st)))) : Go p e below K (T.setTop (mkF m pc Ls (.int y :: .int x :: st))) := by
  subst hp; exact Go.step (fun t q => XS.iushr X.1.here X.2.1 rfl (hb X.2.2.1 hd) rfl q) k
theorem g_idiv (X : Sx Z own bytes ml p l e R s m args below meth c T locs cells slots h) {x y : Int32} (hd : decode bytes pc = .ok (.idiv, 1)) (hp : pc + 1 = pc') (hy : y ≠ 0) (k : Go p e below K (T.setTop (mkF m pc' Ls (.int (x / y) :: st)))) : Go p e below K (T.setTop (mkF m pc Ls (.int y :: .int x :: st))) := by
  subst hp; exact Go.step (fun t q => XS.idiv X.1.here X.2.1 rfl (hb X.2.2.1 hd) rfl hy q) k
theorem g_irem (X : Sx Z own bytes ml p l e R s m args below meth c T locs cells slots h) {x y : Int32} (hd : decode bytes pc = .ok (.irem, 1)) (hp : pc + 1 = pc') (hy : y ≠ 0) (k : Go p e below K (T.setTop (mkF m pc' Ls (.int (x % y) :: st)))) : Go p e below K (T.setTop (mkF m pc Ls (.int y :: .int x :: st))) := by
  subst hp; exact Go.step (fun t q => iremM (g := mkF m pc Ls (.int y :: .int x :: st)) X.1 X.2.1 rfl (hb X.2.2.1 hd) rfl hy q) k
theorem g_ladd (X : Sx Z own bytes ml p l e R s m args below meth c T locs cells slots h) {x y : Int64} (hd : decode bytes pc = .ok (.ladd, 1)) (hp : pc + 1 = pc') (k : Go p e below K (T.setTop (mkF m pc' Ls (.long (x + y) :: st)))) : Go p e below K (T.setTop (mkF m pc Ls (.long y :: .long x :: st))) := by
  subst hp; exact Go.step (fun t q => XS.ladd X.1.here X.2.1 rfl (hb X.2.2.1 hd) rfl q) k
theorem g_lsub (X : Sx Z own bytes ml p l e R s m args below meth c T locs cells slots h) {x y : Int64} (hd : decode bytes pc = .ok (.lsub, 1)) (hp : pc + 1 = pc') (k : Go p e below K (T.setTop (mkF m pc' Ls (.long (x - y) :: st)))) : Go p e below K (T.setTop (mkF m pc Ls (.long y :: .long x :: st))) := by
  subst hp; exact Go.step (fun t q => XS.lsub X.1.here X.2.1 rfl (hb X.2.2.1 hd) rfl q) k
theorem g_lmul (X : Sx Z own bytes ml p l e R s m args below meth c T locs cells slots h) {x y : Int64} (hd : decode bytes pc = .ok (.lmul, 1)) (hp : pc + 1 = pc') (k : Go p e below K (T.setTop (mkF m pc' Ls (.long (x * y) :: st)))) : Go p e below K (T.setTop (mkF m pc Ls (.long y :: .long x :: st))) := by
  subst hp; exact Go.step (fun t q => XS.lmul X.1.here X.2.1 rfl (hb X.2.2.1 hd) rfl q) k
theorem g_land (X : Sx Z own bytes ml p l e R s m args below meth c T locs cells slots h) {x y : Int64} (hd : decode bytes pc = .ok (.land, 1)) (hp : pc + 1 = pc') (k : Go p e below K (T.setTop (mkF m pc' Ls (.long (x &&& y) :: st)))) : Go p e below K (T.setTop (mkF m pc Ls (.long y :: .long x :: st))) := by
  subst hp; exact Go.step (fun t q => XS.land X.1.here X.2.1 rfl (hb X.2.2.1 hd) rfl q) k
theorem g_lor (X : Sx Z own bytes ml p l e R s m args below meth c T locs cells slots h) {x y : Int64} (hd : decode bytes pc = .ok (.lor, 1)) (hp : pc + 1 = pc') (k : Go p e below K (T.setTop (mkF m pc' Ls (.long (x ||| y) :: st)))) : Go p e below K (T.setTop (mkF m pc Ls (.long y :: .long x :: st))) := by
  subst hp; exact Go.step (fun t q => XS.lor X.1.here X.2.1 rfl (hb X.2.2.1 hd) rfl q) k
theorem g_lxor (X : Sx Z own bytes ml p l e R s m args below meth c T locs cells slots h) {x y : Int64} (hd : decode bytes pc = .ok (.lxor, 1)) (hp : pc + 1 = pc') (k : Go p e below K (T.setTop (mkF m pc' Ls (.long (x ^^^ y) :: st)))) : Go p e below K (T.setTop (mkF m pc Ls (.long y :: .long x :: st))) := by
  subst hp; exact Go.step (fun t q => XS.lxor X.1.here X.2.1 rfl (hb X.2.2.1 hd) rfl q) k
theorem g_lshl (X : Sx Z own bytes ml p l e R s m args below meth c T locs cells slots h) {x : Int64} {y : Int32} (hd : decode bytes pc = .ok (.lshl, 1)) (hp : pc + 1 = pc') (k : Go p e below K (T.setTop (mkF m pc' Ls (.long (x <<< (y &&& 0x3f).toInt64) :: st)))) : Go p e below K (T.setTop (mkF m pc Ls (.int y :: .long x :: st))) := by
  subst hp; exact Go.step (fun t q => XS.lshl X.1.here X.2.1 rfl (hb X.2.2.1 hd) rfl q) k
theorem g_lshr (X : Sx Z own bytes ml p l e R s m args below meth c T locs cells slots h) {x : Int64} {y : Int32} (hd : decode bytes pc = .ok (.lshr, 1)) (hp : pc + 1 = pc') (k : Go p e below K (T.setTop (mkF m pc' Ls (.long (x >>> (y &&& 0x3f).toInt64) :: st)))) : Go p e below K (T.setTop (mkF m pc Ls (.int y :: .long x :: st))) := by
  subst hp; exact Go.step (fun t q => XS.lshr X.1.here X.2.1 rfl (hb X.2.2.1 hd) rfl q) k
theorem g_lushr (X : Sx Z own bytes ml p l e R s m args below meth c T locs cells slots h) {x : Int64} {y : Int32} (hd : decode bytes pc = .ok (.lushr, 1)) (hp : pc + 1 = pc') (k : Go p e below K (T.setTop (mkF m pc' Ls (.long ((x.toUInt64 >>> (y &&& 0x3f).toInt64.toUInt64).toInt64) :: st)))) : Go p e below K (T.setTop (mkF m pc Ls (.int y :: .long x :: st))) := by
  subst hp; exact Go.step (fun t q => XS.lushr X.1.here X.2.1 rfl (hb X.2.2.1 hd) rfl q) k
theorem g_ldiv (X : Sx Z own bytes ml p l e R s m args below meth c T locs cells slots h) {x y : Int64} (hd : decode bytes pc = .ok (.ldiv, 1)) (hp : pc + 1 = pc') (hy : y ≠ 0) (k : Go p e below K (T.setTop (mkF m pc' Ls (.long (x / y) :: st)))) : Go p e below K (T.setTop (mkF m pc Ls (.long y :: .long x :: st))) := by
  subst hp; exact Go.step (fun t q => XS.ldiv X.1.here X.2.1 rfl (hb X.2.2.1 hd) rfl hy q) k
theorem g_lrem (X : Sx Z own bytes ml p l e R s m args below meth c T locs cells slots h) {x y : Int64} (hd : decode bytes pc = .ok (.lrem, 1)) (hp : pc + 1 = pc') (hy : y ≠ 0) (k : Go p e below K (T.setTop (mkF m pc' Ls (.long (x % y) :: st)))) : Go p e below K (T.setTop (mkF m pc Ls (.long y :: .long x :: st))) := by
  rw [← lrem_mod] at k; subst hp; exact Go.step (fun t q => XS.lrem X.1.here X.2.1 rfl (hb X.2.2.1 hd) rfl hy q) k
theorem g_lcmp (X : Sx Z own bytes ml p l e R s m args below meth c T locs cells slots h) {x y : Int64} (hd : decode bytes pc = .ok (.lcmp, 1)) (hp : pc + 1 = pc') (k : Go p e below K (T.setTop (mkF m pc' Ls (.int (lcmpW x y) :: st)))) : Go p e below K (T.setTop (mkF m pc Ls (.long y :: .long x :: st))) := by
  subst hp; exact Go.step (fun t q => XS.lcmp X.1.here X.2.1 rfl (hb X.2.2.1 hd) rfl q) k
theorem g_ineg (X : Sx Z own bytes ml p l e R s m args below meth c T locs cells slots h) {x : Int32} (hd : decode bytes pc = .ok (.ineg, 1)) (hp : pc + 1 = pc') (k : Go p e below K (T.setTop (mkF m pc' Ls (.int (-x) :: st)))) : Go p e below K (T.setTop (mkF m pc Ls (.int x :: st))) := by
  subst hp; exact Go.step (fun t q => XS.ineg X.1.here X.2.1 rfl (hb X.2.2.1 hd) rfl q) k
theorem g_i2b (X : Sx Z own bytes ml p l e R s m args below meth c T locs cells slots h) {x : Int32} (hd : decode bytes pc = .ok (.i2b, 1)) (hp : pc + 1 = pc') (k : Go p e below K (T.setTop (mkF m pc' Ls (.int (x.toInt8.toInt32) :: st)))) : Go p e below K (T.setTop (mkF m pc Ls (.int x :: st))) := by
  subst hp; exact Go.step (fun t q => XS.i2b X.1.here X.2.1 rfl (hb X.2.2.1 hd) rfl q) k
theorem g_i2c (X : Sx Z own bytes ml p l e R s m args below meth c T locs cells slots h) {x : Int32} (hd : decode bytes pc = .ok (.i2c, 1)) (hp : pc + 1 = pc') (k : Go p e below K (T.setTop (mkF m pc' Ls (.int (x.toUInt32.toUInt16.toUInt32.toInt32) :: st)))) : Go p e below K (T.setTop (mkF m pc Ls (.int x :: st))) := by
  subst hp; exact Go.step (fun t q => XS.i2c X.1.here X.2.1 rfl (hb X.2.2.1 hd) rfl q) k
theorem g_i2s (X : Sx Z own bytes ml p l e R s m args below meth c T locs cells slots h) {x : Int32} (hd : decode bytes pc = .ok (.i2s, 1)) (hp : pc + 1 = pc') (k : Go p e below K (T.setTop (mkF m pc' Ls (.int (x.toInt16.toInt32) :: st)))) : Go p e below K (T.setTop (mkF m pc Ls (.int x :: st))) := by
  subst hp; exact Go.step (fun t q => XS.i2s X.1.here X.2.1 rfl (hb X.2.2.1 hd) rfl q) k
theorem g_i2l (X : Sx Z own bytes ml p l e R s m args below meth c T locs cells slots h) {x : Int32} (hd : decode bytes pc = .ok (.i2l, 1)) (hp : pc + 1 = pc') (k : Go p e below K (T.setTop (mkF m pc' Ls (.long (x.toInt64) :: st)))) : Go p e below K (T.setTop (mkF m pc Ls (.int x :: st))) := by
  subst hp; exact Go.step (fun t q => XS.i2l X.1.here X.2.1 rfl (hb X.2.2.1 hd) rfl q) k
theorem g_l2i (X : Sx Z own bytes ml p l e R s m args below meth c T locs cells slots h) {x : Int64} (hd : decode bytes pc = .ok (.l2i, 1)) (hp : pc + 1 = pc') (k : Go p e below K (T.setTop (mkF m pc' Ls (.int (x.toInt32) :: st)))) : Go p e below K (T.setTop (mkF m pc Ls (.long x :: st))) := by
  subst hp; exact Go.step (fun t q => XS.l2i X.1.here X.2.1 rfl (hb X.2.2.1 hd) rfl q) k
theorem g_lneg (X : Sx Z own bytes ml p l e R s m args below meth c T locs cells slots h) {x : Int64} (hd : decode bytes pc = .ok (.lneg, 1)) (hp : pc + 1 = pc') (k : Go p e below K (T.setTop (mkF m pc' Ls (.long (-x) :: st)))) : Go p e below K (T.setTop (mkF m pc Ls (.long x :: st))) := by
  subst hp; exact Go.step (fun t q => XS.lneg X.1.here X.2.1 rfl (hb X.2.2.1 hd) rfl q) k
theorem g_iinc (X : Sx Z own bytes ml p l e R s m args below meth c T locs cells slots h) {i : Nat} {q x : Int32} {n : Int} (hd : decode bytes pc = .ok (.iinc i n, 3)) (hp : pc + 3 = pc') (hq : Int32.ofInt n = q) (hl : Ls[i]? = some (.val (.int x))) (hl' : storeLocals Ls i (.int (x + q)) = some Ls') (k : Go p e below K (T.setTop (mkF m pc' Ls' (st)))) : Go p e below K (T.setTop (mkF m pc Ls (st))) := by
  subst hq; subst hp; exact Go.step (fun t q => XS.iinc X.1.here X.2.1 rfl (hb X.2.2.1 hd) hl hl' q) k
theorem g_dup (X : Sx Z own bytes ml p l e R s m args below meth c T locs cells slots h) {v : Value} (hd : decode bytes pc = .ok (.dup, 1)) (hp : pc + 1 = pc') (hc : v.category = 1) (k : Go p e below K (T.setTop (mkF m pc' Ls (v :: v :: st)))) : Go p e below K (T.setTop (mkF m pc Ls (v :: st))) := by
  subst hp; exact Go.step (fun t q => XS.dup X.1.here X.2.1 rfl (hb X.2.2.1 hd) rfl hc q) k
theorem g_pop (X : Sx Z own bytes ml p l e R s m args below meth c T locs cells slots h) {v : Value} (hd : decode bytes pc = .ok (.pop, 1)) (hp : pc + 1 = pc') (hc : v.category = 1) (k : Go p e below K (T.setTop (mkF m pc' Ls (st)))) : Go p e below K (T.setTop (mkF m pc Ls (v :: st))) := by
  subst hp; exact Go.step (fun t q => XS.pop X.1.here X.2.1 rfl (hb X.2.2.1 hd) rfl hc q) k
theorem g_dup_x1 (X : Sx Z own bytes ml p l e R s m args below meth c T locs cells slots h) {v w : Value} (hd : decode bytes pc = .ok (.dup_x1, 1)) (hp : pc + 1 = pc') (hc : v.category = 1) (hc' : w.category = 1) (k : Go p e below K (T.setTop (mkF m pc' Ls (v :: w :: v :: st)))) : Go p e below K (T.setTop (mkF m pc Ls (v :: w :: st))) := by
  subst hp; exact Go.step (fun t q => XS.dupX1 X.1.here X.2.1 rfl (hb X.2.2.1 hd) rfl hc hc' q) k
theorem g_dup2 (X : Sx Z own bytes ml p l e R s m args below meth c T locs cells slots h) {v w : Value} (hd : decode bytes pc = .ok (.dup2, 1)) (hp : pc + 1 = pc') (hc : v.category = 1) (hc' : w.category = 1) (k : Go p e below K (T.setTop (mkF m pc' Ls (v :: w :: v :: w :: st)))) : Go p e below K (T.setTop (mkF m pc Ls (v :: w :: st))) := by
  subst hp; exact Go.step (fun t q => Jvm.Free.XT.dup2 X.1.here X.2.1 rfl (hb X.2.2.1 hd) rfl hc hc' q) k
theorem g_dup2L (X : Sx Z own bytes ml p l e R s m args below meth c T locs cells slots h) {v : Int64} (hd : decode bytes pc = .ok (.dup2, 1)) (hp : pc + 1 = pc') (k : Go p e below K (T.setTop (mkF m pc' Ls (.long v :: .long v :: st)))) : Go p e below K (T.setTop (mkF m pc Ls (.long v :: st))) := by
  subst hp; exact Go.step (fun t q => Jvm.Free.XT.dup2L X.1.here X.2.1 rfl (hb X.2.2.1 hd) rfl q) k
theorem g_dload (X : Sx Z own bytes ml p l e R s m args below meth c T locs cells slots h) {i : Nat} {v : UInt64} (hd : decode bytes pc = .ok (.dload i, 2)) (hp : pc + 2 = pc') (hl : Ls[i]? = some (.val (.double v))) (k : Go p e below K (T.setTop (mkF m pc' Ls (.double v :: st)))) : Go p e below K (T.setTop (mkF m pc Ls (st))) := by
  subst hp; exact Go.step (fun t q => XS.dload X.1.here X.2.1 rfl (hb X.2.2.1 hd) hl q) k
theorem g_dloadN (X : Sx Z own bytes ml p l e R s m args below meth c T locs cells slots h) {i : Fin 4} {v : UInt64} (hd : decode bytes pc = .ok (.dload_n i, 1)) (hp : pc + 1 = pc') (hl : Ls[i.val]? = some (.val (.double v))) (k : Go p e below K (T.setTop (mkF m pc' Ls (.double v :: st)))) : Go p e below K (T.setTop (mkF m pc Ls (st))) := by
  subst hp; exact Go.step (fun t q => XS.dloadN X.1.here X.2.1 rfl (hb X.2.2.1 hd) hl q) k
theorem g_i2d (X : Sx Z own bytes ml p l e R s m args below meth c T locs cells slots h) {x : Int32} (hd : decode bytes pc = .ok (.i2d, 1)) (hp : pc + 1 = pc') (k : Go p e below K (T.setTop (mkF m pc' Ls (.double (FP.i2d x) :: st)))) : Go p e below K (T.setTop (mkF m pc Ls (.int x :: st))) := by
  subst hp; exact Go.step (fun t q => XS.i2dS X.1.here X.2.1 rfl (hb X.2.2.1 hd) rfl rfl q) k
theorem g_dcmp (X : Sx Z own bytes ml p l e R s m args below meth c T locs cells slots h) {o : CmpOp} {x y : UInt64} (hd : decode bytes pc = .ok (.dcmp o, 1)) (hp : pc + 1 = pc') (k : ∀ v : Int32, Go p e below K (T.setTop (mkF m pc' Ls (.int v :: st)))) : Go p e below K (T.setTop (mkF m pc Ls (.double y :: .double x :: st))) := by
  subst hp; exact Go.step (fun t q => XS.dcmpS X.1.here X.2.1 rfl (hb X.2.2.1 hd) rfl rfl q) (k _)
theorem g_goto (X : Sx Z own bytes ml p l e R s m args below meth c T locs cells slots h) {o : Int} (hd : decode bytes pc = .ok (.goto o, 3)) (ho : 0 ≤ (pc : Int) + o) (hp : ((pc : Int) + o).toNat = pc') (k : Go p e below K (T.setTop (mkF m pc' Ls (st)))) : Go p e below K (T.setTop (mkF m pc Ls (st))) := by
  exact Go.step (fun t q => XS.goto X.1.here X.2.1 rfl rfl (hb X.2.2.1 hd) ho hp q) k
theorem g_ifY (X : Sx Z own bytes ml p l e R s m args below meth c T locs cells slots h) {cd : ClassFile.Cond} {x : Int32} {o : Int} (hd : decode bytes pc = .ok (.ifCond cd o, 3)) (hc : ifCond.holds cd x = true) (ho : 0 ≤ (pc : Int) + o) (hp : ((pc : Int) + o).toNat = pc') (k : Go p e below K (T.setTop (mkF m pc' Ls (st)))) : Go p e below K (T.setTop (mkF m pc Ls (.int x :: st))) := by
  exact Go.step (fun t q => XS.ifYes X.1.here X.2.1 rfl rfl (hb X.2.2.1 hd) rfl hc ho hp q) k
theorem g_ifN (X : Sx Z own bytes ml p l e R s m args below meth c T locs cells slots h) {cd : ClassFile.Cond} {x : Int32} {o : Int} (hd : decode bytes pc = .ok (.ifCond cd o, 3)) (hc : ifCond.holds cd x = false) (hp : pc + 3 = pc') (k : Go p e below K (T.setTop (mkF m pc' Ls (st)))) : Go p e below K (T.setTop (mkF m pc Ls (.int x :: st))) := by
  subst hp; exact Go.step (fun t q => XS.ifNo X.1.here X.2.1 rfl (hb X.2.2.1 hd) rfl hc q) k
theorem g_icY (X : Sx Z own bytes ml p l e R s m args below meth c T locs cells slots h) {cd : ClassFile.Cond} {x y : Int32} {o : Int} (hd : decode bytes pc = .ok (.if_icmp cd o, 3)) (hc : if_icmp.holds cd x y = true) (ho : 0 ≤ (pc : Int) + o) (hp : ((pc : Int) + o).toNat = pc') (k : Go p e below K (T.setTop (mkF m pc' Ls (st)))) : Go p e below K (T.setTop (mkF m pc Ls (.int y :: .int x :: st))) := by
  exact Go.step (fun t q => XS.icmpYes X.1.here X.2.1 rfl rfl (hb X.2.2.1 hd) rfl hc ho hp q) k
theorem g_icN (X : Sx Z own bytes ml p l e R s m args below meth c T locs cells slots h) {cd : ClassFile.Cond} {x y : Int32} {o : Int} (hd : decode bytes pc = .ok (.if_icmp cd o, 3)) (hc : if_icmp.holds cd x y = false) (hp : pc + 3 = pc') (k : Go p e below K (T.setTop (mkF m pc' Ls (st)))) : Go p e below K (T.setTop (mkF m pc Ls (.int y :: .int x :: st))) := by
  subst hp; exact Go.step (fun t q => XS.icmpNo X.1.here X.2.1 rfl (hb X.2.2.1 hd) rfl hc q) k
theorem g_nullY (X : Sx Z own bytes ml p l e R s m args below meth c T locs cells slots h) {o : Int} (hd : decode bytes pc = .ok (.ifnull o, 3)) (ho : 0 ≤ (pc : Int) + o) (hp : ((pc : Int) + o).toNat = pc') (k : Go p e below K (T.setTop (mkF m pc' Ls (st)))) : Go p e below K (T.setTop (mkF m pc Ls (.null :: st))) := by
  exact Go.step (fun t q => XS.ifnullYes X.1.here X.2.1 rfl rfl (hb X.2.2.1 hd) rfl ho hp q) k
theorem g_nullN (X : Sx Z own bytes ml p l e R s m args below meth c T locs cells slots h) {o : Int} {b : Addr} (hd : decode bytes pc = .ok (.ifnull o, 3)) (hp : pc + 3 = pc') (k : Go p e below K (T.setTop (mkF m pc' Ls (st)))) : Go p e below K (T.setTop (mkF m pc Ls (.ref b :: st))) := by
  subst hp; exact Go.step (fun t q => XS.ifnullNo X.1.here X.2.1 rfl (hb X.2.2.1 hd) rfl q) k
theorem g_nonnullY (X : Sx Z own bytes ml p l e R s m args below meth c T locs cells slots h) {o : Int} {b : Addr} (hd : decode bytes pc = .ok (.ifnonnull o, 3)) (ho : 0 ≤ (pc : Int) + o) (hp : ((pc : Int) + o).toNat = pc') (k : Go p e below K (T.setTop (mkF m pc' Ls (st)))) : Go p e below K (T.setTop (mkF m pc Ls (.ref b :: st))) := by
  exact Go.step (fun t q => XS.ifnonnullYes X.1.here X.2.1 rfl rfl (hb X.2.2.1 hd) rfl ho hp q) k
theorem g_nonnullN (X : Sx Z own bytes ml p l e R s m args below meth c T locs cells slots h) {o : Int} (hd : decode bytes pc = .ok (.ifnonnull o, 3)) (hp : pc + 3 = pc') (k : Go p e below K (T.setTop (mkF m pc' Ls (st)))) : Go p e below K (T.setTop (mkF m pc Ls (.null :: st))) := by
  subst hp; exact Go.step (fun t q => XS.ifnonnullNo X.1.here X.2.1 rfl (hb X.2.2.1 hd) rfl q) k
theorem g_acmp (X : Sx Z own bytes ml p l e R s m args below meth c T locs cells slots h) {cd : ACond} {x y : Value} {o : Int} {same : Bool} (hd : decode bytes pc = .ok (.if_acmp cd o, 3)) (h1 : x.isRef = true) (h2 : y.isRef = true) (hq : decide (x = y) = same) (ho : 0 ≤ (pc : Int) + o) (hp : pc' = if acV cd same = true then ((pc : Int) + o).toNat else pc + 3) (k : Go p e below K (T.setTop (mkF m pc' Ls (st)))) : Go p e below K (T.setTop (mkF m pc Ls (y :: x :: st))) := by
  exact Go.step (fun t q => acmp (g := mkF m pc Ls (y :: x :: st)) X.1 X.2.1 rfl h1 h2 rfl (hb X.2.2.1 hd) rfl hq ho hp q) k
theorem g_tswIn (X : Sx Z own bytes ml p l e R s m args below meth c T locs cells slots h) {dflt low high : Int} {offs : Array Int} {len : Nat} {o : Int} {i : Int32} (hd : decode bytes pc = .ok (.tableswitch dflt low high offs, len)) (hin : ¬ (i.toInt < low ∨ i.toInt > high)) (hoff : offs[(i.toInt - low).toNat]? = some o) (ho : 0 ≤ (pc : Int) + o) (hp : ((pc : Int) + o).toNat = pc') (k : Go p e below K (T.setTop (mkF m pc' Ls (st)))) : Go p e below K (T.setTop (mkF m pc Ls (.int i :: st))) := by
  exact Go.step (fun t q => XS.tswIn X.1.here X.2.1 rfl rfl (hb X.2.2.1 hd) rfl hin hoff ho hp q) k
theorem g_tswOut (X : Sx Z own bytes ml p l e R s m args below meth c T locs cells slots h) {dflt low high : Int} {offs : Array Int} {len : Nat} {i : Int32} (hd : decode bytes pc = .ok (.tableswitch dflt low high offs, len)) (hin : i.toInt < low ∨ i.toInt > high) (ho : 0 ≤ (pc : Int) + dflt) (hp : ((pc : Int) + dflt).toNat = pc') (k : Go p e below K (T.setTop (mkF m pc' Ls (st)))) : Go p e below K (T.setTop (mkF m pc Ls (.int i :: st))) := by
  exact Go.step (fun t q => XS.tswOut X.1.here X.2.1 rfl rfl (hb X.2.2.1 hd) rfl hin ho hp q) k
theorem g_iaload (X : Sx Z own bytes ml p l e R s m args below meth c T locs cells slots h) {a : Addr} {vs : List Value} {j : Int32} {x : Int32} (A : Av Z h a .int vs) (n : Nat) (hd : decode bytes pc = .ok (.iaload, 1)) (hp : pc + 1 = pc') (hj : ¬ j < 0) (hn : j.toNatClampNeg = n) (hv : vs[n]? = some (.int x)) (k : Go p e below K (T.setTop (mkF m pc' Ls (.int x :: st)))) : Go p e below K (T.setTop (mkF m pc Ls (.int j :: .ref a :: st))) := by
  obtain ⟨cl, A, rfl, r⟩ := A; subst hn; subst hp
  have hv' : cl.slots[j.toNatClampNeg]? = some (.int x) := by rw [← Array.getElem?_toList]; exact hv
  exact Go.step (fun t q => X.1.iaload X.2.1 (j := j) (by rw [X.2.2.2.2.2.2]; exact A.1) (State.isArrayOf_alike X.2.2.2.2.2.1.alike A.2.1) A.2.2 (fun hh => hh.elim hj (fun hh => absurd (Array.getElem?_eq_some_iff.mp hv').1 (Nat.not_lt.mpr hh))) hv' (g := mkF m pc Ls (.int j :: .ref a :: st)) rfl rfl (hb X.2.2.1 hd) _ q) k
theorem g_caload (X : Sx Z own bytes ml p l e R s m args below meth c T locs cells slots h) {a : Addr} {vs : List Value} {j : Int32} {x : Int32} (A : Av Z h a .char vs) (n : Nat) (hd : decode bytes pc = .ok (.caload, 1)) (hp : pc + 1 = pc') (hj : ¬ j < 0) (hn : j.toNatClampNeg = n) (hv : vs[n]? = some (.int x)) (k : Go p e below K (T.setTop (mkF m pc' Ls (.int x :: st)))) : Go p e below K (T.setTop (mkF m pc Ls (.int j :: .ref a :: st))) := by
  obtain ⟨cl, A, rfl, r⟩ := A; subst hn; subst hp
  have hv' : cl.slots[j.toNatClampNeg]? = some (.int x) := by rw [← Array.getElem?_toList]; exact hv
  exact Go.step (fun t q => X.1.caload X.2.1 (j := j) (by rw [X.2.2.2.2.2.2]; exact A.1) (State.isArrayOf_alike X.2.2.2.2.2.1.alike A.2.1) A.2.2 (fun hh => hh.elim hj (fun hh => absurd (Array.getElem?_eq_some_iff.mp hv').1 (Nat.not_lt.mpr hh))) hv' (g := mkF m pc Ls (.int j :: .ref a :: st)) rfl rfl (hb X.2.2.1 hd) _ q) k
theorem g_saload (X : Sx Z own bytes ml p l e R s m args below meth c T locs cells slots h) {a : Addr} {vs : List Value} {j : Int32} {x : Int32} (A : Av Z h a .short vs) (n : Nat) (hd : decode bytes pc = .ok (.saload, 1)) (hp : pc + 1 = pc') (hj : ¬ j < 0) (hn : j.toNatClampNeg = n) (hv : vs[n]? = some (.int x)) (k : Go p e below K (T.setTop (mkF m pc' Ls (.int x :: st)))) : Go p e below K (T.setTop (mkF m pc Ls (.int j :: .ref a :: st))) := by
  obtain ⟨cl, A, rfl, r⟩ := A; subst hn; subst hp
  have hv' : cl.slots[j.toNatClampNeg]? = some (.int x) := by rw [← Array.getElem?_toList]; exact hv
  exact Go.step (fun t q => X.1.saload X.2.1 (j := j) (by rw [X.2.2.2.2.2.2]; exact A.1) (State.isArrayOf_alike X.2.2.2.2.2.1.alike A.2.1) A.2.2 (fun hh => hh.elim hj (fun hh => absurd (Array.getElem?_eq_some_iff.mp hv').1 (Nat.not_lt.mpr hh))) hv' (g := mkF m pc Ls (.int j :: .ref a :: st)) rfl rfl (hb X.2.2.1 hd) _ q) k
theorem g_baload (X : Sx Z own bytes ml p l e R s m args below meth c T locs cells slots h) {a : Addr} {vs : List Value} {j : Int32} {x : Int32} (A : Av Z h a .byte vs) (n : Nat) (hd : decode bytes pc = .ok (.baload, 1)) (hp : pc + 1 = pc') (hj : ¬ j < 0) (hn : j.toNatClampNeg = n) (hv : vs[n]? = some (.int x)) (k : Go p e below K (T.setTop (mkF m pc' Ls (.int x :: st)))) : Go p e below K (T.setTop (mkF m pc Ls (.int j :: .ref a :: st))) := by
  obtain ⟨cl, A, rfl, r⟩ := A; subst hn; subst hp
  have hv' : cl.slots[j.toNatClampNeg]? = some (.int x) := by rw [← Array.getElem?_toList]; exact hv
  exact Go.step (fun t q => X.1.baloadBytes X.2.1 (j := j) (by rw [X.2.2.2.2.2.2]; exact A.1) (State.isArrayOf_alike X.2.2.2.2.2.1.alike A.2.1) A.2.2 (fun hh => hh.elim hj (fun hh => absurd (Array.getElem?_eq_some_iff.mp hv').1 (Nat.not_lt.mpr hh))) hv' (g := mkF m pc Ls (.int j :: .ref a :: st)) rfl rfl (hb X.2.2.1 hd) _ q) k
theorem g_laload (X : Sx Z own bytes ml p l e R s m args below meth c T locs cells slots h) {a : Addr} {vs : List Value} {j : Int32} {x : Int64} (A : Av Z h a .long vs) (n : Nat) (hd : decode bytes pc = .ok (.laload, 1)) (hp : pc + 1 = pc') (hj : ¬ j < 0) (hn : j.toNatClampNeg = n) (hv : vs[n]? = some (.long x)) (k : Go p e below K (T.setTop (mkF m pc' Ls (.long x :: st)))) : Go p e below K (T.setTop (mkF m pc Ls (.int j :: .ref a :: st))) := by
  obtain ⟨cl, A, rfl, r⟩ := A; subst hn; subst hp
  have hv' : cl.slots[j.toNatClampNeg]? = some (.long x) := by rw [← Array.getElem?_toList]; exact hv
  exact Go.step (fun t q => X.1.laload X.2.1 (j := j) (by rw [X.2.2.2.2.2.2]; exact A.1) (State.isArrayOf_alike X.2.2.2.2.2.1.alike A.2.1) A.2.2 (fun hh => hh.elim hj (fun hh => absurd (Array.getElem?_eq_some_iff.mp hv').1 (Nat.not_lt.mpr hh))) hv' (g := mkF m pc Ls (.int j :: .ref a :: st)) rfl rfl (hb X.2.2.1 hd) _ q) k
theorem g_aaload (X : Sx Z own bytes ml p l e R s m args below meth c T locs cells slots h) {a : Addr} {vs : List Value} {j : Int32} {v : Value} {ty : FieldType} (A : Av Z h a ty vs) (n : Nat) (hd : decode bytes pc = .ok (.aaload, 1)) (hp : pc + 1 = pc') (hty : ty.isReference = true) (hj : ¬ j < 0) (hn : j.toNatClampNeg = n) (hv : vs[n]? = some v) (k : Go p e below K (T.setTop (mkF m pc' Ls (v :: st)))) : Go p e below K (T.setTop (mkF m pc Ls (.int j :: .ref a :: st))) := by
  obtain ⟨cl, A, rfl, r⟩ := A; subst hn; subst hp
  have hv' : cl.slots[j.toNatClampNeg]? = some v := by rw [← Array.getElem?_toList]; exact hv
  exact Go.step (fun t q => X.1.aaload X.2.1 (j := j) (by rw [X.2.2.2.2.2.2]; exact A.1) (State.isArrayOf_alike X.2.2.2.2.2.1.alike A.2.1) hty A.2.2 (fun hh => hh.elim hj (fun hh => absurd (Array.getElem?_eq_some_iff.mp hv').1 (Nat.not_lt.mpr hh))) hv' (g := mkF m pc Ls (.int j :: .ref a :: st)) rfl rfl (hb X.2.2.1 hd) _ q) k
theorem g_arraylength (X : Sx Z own bytes ml p l e R s m args below meth c T locs cells slots h) {a : Addr} {vs : List Value} {ty : FieldType} (A : Av Z h a ty vs) (hd : decode bytes pc = .ok (.arraylength, 1)) (hp : pc + 1 = pc') {z : Int32} (hz : vs.length.toInt32 = z) (k : Go p e below K (T.setTop (mkF m pc' Ls (.int z :: st)))) : Go p e below K (T.setTop (mkF m pc Ls (.ref a :: st))) := by
  obtain ⟨cl, A, rfl, r⟩ := A; subst hp
  rw [Array.length_toList] at hz; subst hz
  exact Go.step (fun t q => X.1.arraylength X.2.1 (by rw [X.2.2.2.2.2.2]; exact A.1) (State.isArrayOf_alike X.2.2.2.2.2.1.alike A.2.1) (g := mkF m pc Ls (.ref a :: st)) rfl rfl (hb X.2.2.1 hd) _ q) k
theorem g_iastore (X : Sx Z own bytes ml p l e R s m args below meth c T locs cells slots h) {a : Addr} {vs : List Value} {j : Int32} {x : Int32} (A : Av Z h a .int vs) (n : Nat) (hd : decode bytes pc = .ok (.iastore, 1)) (hp : pc + 1 = pc') (hj : ¬ j < 0) (hn : j.toNatClampNeg = n) (hlt : n < vs.length) (k : ∀ T' h', Sx Z own bytes ml p l e R s m args below meth c T' (locs ++ [⟨a, n⟩]) cells slots h' → Wr h h' a n (.int x) → Av Z h' a .int (vs.set n (.int x)) → Go p e below K (T'.setTop (mkF m pc' Ls (st)))) : Go p e below K (T.setTop (mkF m pc Ls (.int x :: .int j :: .ref a :: st))) := by
  obtain ⟨cl, A, rfl, r⟩ := A; subst hn; subst hp
  obtain ⟨T', h', X', e', W, stp⟩ := stI X.1 X.2.1 X.2.2.2.2.2.1 X.2.2.2.2.2.2 A (j := j) (fun hh => hh.elim hj (fun hh => absurd hlt (by simpa using hh))) (g := mkF m pc Ls (.int x :: .int j :: .ref a :: st)) rfl rfl (hb X.2.2.1 hd)
  exact Go.step (fun t q => stp _ q) (k T' h' ⟨X', X.2.1, X.2.2.1, X.2.2.2.1, X.2.2.2.2.1, X.2.2.2.2.2.1, e'⟩ W (Av.set ⟨cl, A, rfl, r⟩ W))
theorem g_lastore (X : Sx Z own bytes ml p l e R s m args below meth c T locs cells slots h) {a : Addr} {vs : List Value} {j : Int32} {x : Int64} (A : Av Z h a .long vs) (n : Nat) (hd : decode bytes pc = .ok (.lastore, 1)) (hp : pc + 1 = pc') (hj : ¬ j < 0) (hn : j.toNatClampNeg = n) (hlt : n < vs.length) (k : ∀ T' h', Sx Z own bytes ml p l e R s m args below meth c T' (locs ++ [⟨a, n⟩]) cells slots h' → Wr h h' a n (.long x) → Av Z h' a .long (vs.set n (.long x)) → Go p e below K (T'.setTop (mkF m pc' Ls (st)))) : Go p e below K (T.setTop (mkF m pc Ls (.long x :: .int j :: .ref a :: st))) := by
  obtain ⟨cl, A, rfl, r⟩ := A; subst hn; subst hp
  obtain ⟨T', h', X', e', W, stp⟩ := stJ X.1 X.2.1 X.2.2.2.2.2.1 X.2.2.2.2.2.2 A (j := j) (fun hh => hh.elim hj (fun hh => absurd hlt (by simpa using hh))) (g := mkF m pc Ls (.long x :: .int j :: .ref a :: st)) rfl rfl (hb X.2.2.1 hd)
  exact Go.step (fun t q => stp _ q) (k T' h' ⟨X', X.2.1, X.2.2.1, X.2.2.2.1, X.2.2.2.2.1, X.2.2.2.2.2.1, e'⟩ W (Av.set ⟨cl, A, rfl, r⟩ W))
theorem g_castore (X : Sx Z own bytes ml p l e R s m args below meth c T locs cells slots h) {a : Addr} {vs : List Value} {j : Int32} {x : Int32} (A : Av Z h a .char vs) (n : Nat) (hd : decode bytes pc = .ok (.castore, 1)) (hp : pc + 1 = pc') (hj : ¬ j < 0) (hn : j.toNatClampNeg = n) (hlt : n < vs.length) (k : ∀ T' h', Sx Z own bytes ml p l e R s m args below meth c T' (locs ++ [⟨a, n⟩]) cells slots h' → Wr h h' a n (.int (nar .char x)) → Av Z h' a .char (vs.set n (.int (nar .char x))) → Go p e below K (T'.setTop (mkF m pc' Ls (st)))) : Go p e below K (T.setTop (mkF m pc Ls (.int x :: .int j :: .ref a :: st))) := by
  obtain ⟨cl, A, rfl, r⟩ := A; subst hn; subst hp
  obtain ⟨T', h', X', e', W, stp⟩ := stC X.1 X.2.1 X.2.2.2.2.2.1 X.2.2.2.2.2.2 A (j := j) (fun hh => hh.elim hj (fun hh => absurd hlt (by simpa using hh))) (g := mkF m pc Ls (.int x :: .int j :: .ref a :: st)) rfl rfl (hb X.2.2.1 hd)
  exact Go.step (fun t q => stp _ q) (k T' h' ⟨X', X.2.1, X.2.2.1, X.2.2.2.1, X.2.2.2.2.1, X.2.2.2.2.2.1, e'⟩ W (Av.set ⟨cl, A, rfl, r⟩ W))
theorem g_sastore (X : Sx Z own bytes ml p l e R s m args below meth c T locs cells slots h) {a : Addr} {vs : List Value} {j : Int32} {x : Int32} (A : Av Z h a .short vs) (n : Nat) (hd : decode bytes pc = .ok (.sastore, 1)) (hp : pc + 1 = pc') (hj : ¬ j < 0) (hn : j.toNatClampNeg = n) (hlt : n < vs.length) (k : ∀ T' h', Sx Z own bytes ml p l e R s m args below meth c T' (locs ++ [⟨a, n⟩]) cells slots h' → Wr h h' a n (.int (nar .short x)) → Av Z h' a .short (vs.set n (.int (nar .short x))) → Go p e below K (T'.setTop (mkF m pc' Ls (st)))) : Go p e below K (T.setTop (mkF m pc Ls (.int x :: .int j :: .ref a :: st))) := by
  obtain ⟨cl, A, rfl, r⟩ := A; subst hn; subst hp
  obtain ⟨T', h', X', e', W, stp⟩ := stS X.1 X.2.1 X.2.2.2.2.2.1 X.2.2.2.2.2.2 A (j := j) (fun hh => hh.elim hj (fun hh => absurd hlt (by simpa using hh))) (g := mkF m pc Ls (.int x :: .int j :: .ref a :: st)) rfl rfl (hb X.2.2.1 hd)
  exact Go.step (fun t q => stp _ q) (k T' h' ⟨X', X.2.1, X.2.2.1, X.2.2.2.1, X.2.2.2.2.1, X.2.2.2.2.2.1, e'⟩ W (Av.set ⟨cl, A, rfl, r⟩ W))
theorem g_bastore (X : Sx Z own bytes ml p l e R s m args below meth c T locs cells slots h) {a : Addr} {vs : List Value} {j : Int32} {x : Int32} (A : Av Z h a .byte vs) (n : Nat) (hd : decode bytes pc = .ok (.bastore, 1)) (hp : pc + 1 = pc') (hj : ¬ j < 0) (hn : j.toNatClampNeg = n) (hlt : n < vs.length) (k : ∀ T' h', Sx Z own bytes ml p l e R s m args below meth c T' (locs ++ [⟨a, n⟩]) cells slots h' → Wr h h' a n (.int (nar .byte x)) → Av Z h' a .byte (vs.set n (.int (nar .byte x))) → Go p e below K (T'.setTop (mkF m pc' Ls (st)))) : Go p e below K (T.setTop (mkF m pc Ls (.int x :: .int j :: .ref a :: st))) := by
  obtain ⟨cl, A, rfl, r⟩ := A; subst hn; subst hp
  obtain ⟨T', h', X', e', W, stp⟩ := stB X.1 X.2.1 X.2.2.2.2.2.1 X.2.2.2.2.2.2 A (j := j) (fun hh => hh.elim hj (fun hh => absurd hlt (by simpa using hh))) (g := mkF m pc Ls (.int x :: .int j :: .ref a :: st)) rfl rfl (hb X.2.2.1 hd)
  exact Go.step (fun t q => stp _ q) (k T' h' ⟨X', X.2.1, X.2.2.1, X.2.2.2.1, X.2.2.2.2.1, X.2.2.2.2.2.1, e'⟩ W (Av.set ⟨cl, A, rfl, r⟩ W))
theorem g_arraylengthN (X : Sx Z own bytes ml p l e R s m args below meth c T locs cells slots h) {a : Addr} {ty : FieldType} {z : Int32} (A : AvN Z h a ty z) (hd : decode bytes pc = .ok (.arraylength, 1)) (hp : pc + 1 = pc') (k : Go p e below K (T.setTop (mkF m pc' Ls (.int z :: st)))) : Go p e below K (T.setTop (mkF m pc Ls (.ref a :: st))) := by
  obtain ⟨vs, A, hz⟩ := A; exact g_arraylength X A hd hp hz k
theorem g_iastoreN (X : Sx Z own bytes ml p l e R s m args below meth c T locs cells slots h) {a : Addr} {j x z : Int32} (A : AvN Z h a .int z) (hd : decode bytes pc = .ok (.iastore, 1)) (hp : pc + 1 = pc') (hj : ¬ j < 0) (hjz : j < z) (k : ∀ T' h', Sx Z own bytes ml p l e R s m args below meth c T' (locs ++ [⟨a, j.toNatClampNeg⟩]) cells slots h' → Wr h h' a j.toNatClampNeg (.int x) → AvN Z h' a .int z → Go p e below K (T'.setTop (mkF m pc' Ls (st)))) : Go p e below K (T.setTop (mkF m pc Ls (.int x :: .int j :: .ref a :: st))) := by
  obtain ⟨vs, A, hz⟩ := A
  have hl := A.len
  refine g_iastore X A _ hd hp hj rfl ?_ (fun T' h' X' W V => k T' h' X' W ⟨_, V, by rw [List.length_set]; exact hz⟩)
  rw [hz] at hl
  rw [Int32.lt_iff_toInt_lt] at hj hjz
  simp only [Int32.toNatClampNeg, Int32.reduceToInt] at hj ⊢
  omega
theorem g_aastore (X : Sx Z own bytes ml p l e R s m args below meth c T locs cells slots h) {a : Addr} {vs : List Value} {j : Int32} {v : Value} {ty : FieldType} (A : Av Z h a ty vs) (S : Sto Z h a v) (n : Nat) (hd : decode bytes pc = .ok (.aastore, 1)) (hp : pc + 1 = pc') (hty : ty.isReference = true) (hj : ¬ j < 0) (hn : j.toNatClampNeg = n) (hlt : n < vs.length) (k : ∀ T' h', Sx Z own bytes ml p l e R s m args below meth c T' (locs ++ [⟨a, n⟩]) cells slots h' → Wr h h' a n v → Av Z h' a ty (vs.set n v) → Go p e below K (T'.setTop (mkF m pc' Ls (st)))) : Go p e below K (T.setTop (mkF m pc Ls (v :: .int j :: .ref a :: st))) := by
  obtain ⟨cl, A, rfl, r⟩ := A; subst hn; subst hp
  obtain ⟨T', h', X', e', W, stp⟩ := stR X.1 X.2.1 X.2.2.2.2.2.1 X.2.2.2.2.2.2 A (j := j) (fun hh => hh.elim hj (fun hh => absurd hlt (by simpa using hh))) hty S (g := mkF m pc Ls (v :: .int j :: .ref a :: st)) rfl rfl (hb X.2.2.1 hd)
  exact Go.step (fun t q => stp _ q) (k T' h' ⟨X', X.2.1, X.2.2.1, X.2.2.2.1, X.2.2.2.2.1, X.2.2.2.2.2.1, e'⟩ W (Av.set ⟨cl, A, rfl, r⟩ W))
theorem g_newarray (X : Sx Z own bytes ml p l e R s m args below meth c T locs cells slots h) {aty : ArrayType} {z : Int32} {vs : List Value} {ad : String} (n : Nat) (w : (Cond.arrayClass (newarray.typeOf aty)).before a0 Z = true) (hd : decode bytes pc = .ok (.newarray aty, 2)) (hp : pc + 2 = pc') (hz : ¬ z < 0) (hn : z.toNatClampNeg = n) (cap : Nat) (hcap : n ≤ cap) (hbig : cap * 8 ≤ 536870912) (hc : cells + 1 ≤ R.cells) (hl : slots + cap ≤ R.slots) (hvs : List.replicate n (defaultValue (newarray.typeOf aty)) = vs) (had : "[" ++ (newarray.typeOf aty).toString = ad) (k : ∀ T' h' (a : Addr), a = h.size → Sx Z own bytes ml p l e R s m args below meth c T' locs (cells + 1) (slots + cap) h' → Ext h h' → Exa Z h' a ad → Av Z h' a (newarray.typeOf aty) vs → Go p e below K (T'.setTop (mkF m pc' Ls (.ref a :: st)))) : Go p e below K (T.setTop (mkF m pc Ls (.int z :: st))) := by
  subst hn; subst hp; subst hvs
  obtain ⟨T', h', cA, X', e', E, A, B, stp⟩ := newPE X.1 X.2.1 X.2.2.2.2.2.1 w X.2.2.2.2.2.2 (g := mkF m pc Ls (.int z :: st)) rfl (hb X.2.2.1 hd) rfl hz hcap hbig hc hl had
  refine Go.step (fun t q => stp _ q) (k T' h' _ rfl ⟨X', X.2.1, X.2.2.1, X.2.2.2.1, X.2.2.2.2.1, X.2.2.2.2.2.1, e'⟩ E B ⟨_, A, by simp [newA], ?_⟩)
  simp only [List.length_replicate]
  exact (back32 hz).2
theorem g_anewarray (X : Sx Z own bytes ml p l e R s m args below meth c T locs cells slots h) {i : Nat} {C : String} {z : Int32} {vs : List Value} {ad : String} (n : Nat) (w1 : (Cond.classLink own i C).before a0 Z = true) (w2 : (Cond.arrayOver (.object C)).before a0 Z = true) (hd : decode bytes pc = .ok (.anewarray i, 3)) (hp : pc + 3 = pc') (hz : ¬ z < 0) (hn : z.toNatClampNeg = n) (cap : Nat) (hcap : n ≤ cap) (hbig : cap * 8 ≤ 536870912) (hc : cells + 1 ≤ R.cells) (hl : slots + cap ≤ R.slots) (hvs : List.replicate n .null = vs) (had : "[" ++ (FieldType.object C).toString = ad) (k : ∀ T' h' (a : Addr), a = h.size → Sx Z own bytes ml p l e R s m args below meth c T' locs (cells + 1) (slots + cap) h' → Ext h h' → Exa Z h' a ad → Av Z h' a (.object C) vs → OvA Z h' a C → Go p e below K (T'.setTop (mkF m pc' Ls (.ref a :: st)))) : Go p e below K (T.setTop (mkF m pc Ls (.int z :: st))) := by
  subst hn; subst hp; subst hvs
  obtain ⟨T', h', cA, X', e', E, A, B, O, stp⟩ := newRE X.1 X.2.1 X.2.2.2.2.2.1 X.2.2.2.2.1 w1 w2 X.2.2.2.2.2.2 (g := mkF m pc Ls (.int z :: st)) rfl (hb X.2.2.1 hd) rfl hz hcap hbig hc hl had
  refine Go.step (fun t q => stp _ q) (k T' h' _ rfl ⟨X', X.2.1, X.2.2.1, X.2.2.2.1, X.2.2.2.2.1, X.2.2.2.2.2.1, e'⟩ E B ⟨_, A, by simp [newA, defaultValue], ?_⟩ ⟨_, A, O⟩)
  simp only [List.length_replicate]
  exact (back32 hz).2
theorem g_new (X : Sx Z own bytes ml p l e R s m args below meth c T locs cells slots h) {i n : Nat} {C : String} (w1 : (Cond.classLink own i C).before a0 Z = true) (w2 : (Cond.instantiable C n).before a0 Z = true) (w3 : (Cond.initialized C).before a0 Z = true) (hd : decode bytes pc = .ok (.new i, 3)) (hp : pc + 3 = pc') (hc : cells + 1 ≤ R.cells) (hl : slots + n ≤ R.slots) (k : ∀ T' h' (a : Addr), a = h.size → Sx Z own bytes ml p l e R s m args below meth c T' locs (cells + 1) (slots + n) h' → Ext h h' → Exa Z h' a C → (∀ {O nm d : String} {ty : FieldType}, Laid Z a0 C O nm d → parseFieldDescriptor d = some ty → Fld Z h' a O nm d (defaultValue ty)) → Go p e below K (T'.setTop (mkF m pc' Ls (.ref a :: st)))) : Go p e below K (T.setTop (mkF m pc Ls (st))) := by
  subst hp
  obtain ⟨T', h', X', e', E, A, D, -, stp⟩ := newO X.1 X.2.1 X.2.2.2.2.2.1 X.2.2.2.2.1 w1 w2 w3 X.2.2.2.2.2.2 (g := mkF m pc Ls st) rfl (hb X.2.2.1 hd) hc hl
  exact Go.step (fun t q => stp _ q) (k T' h' _ rfl ⟨X', X.2.1, X.2.2.1, X.2.2.2.1, X.2.2.2.2.1, X.2.2.2.2.2.1, e'⟩ E A D)
theorem g_getfield (X : Sx Z own bytes ml p l e R s m args below meth c T locs cells slots h) {i : Nat} {R0 O nm d host : String} {a : Addr} {v : Value} (w : (Cond.fieldLink own i R0 nm d).before a0 Z = true ∨ (Cond.fieldLinkNest own i R0 nm d host).before a0 Z = true) (via : Via Z R0 O nm d) (F : Fld Z h a O nm d v) (hd : decode bytes pc = .ok (.getfield i, 3)) (hp : pc + 3 = pc') (k : ∀ T', Sx Z own bytes ml p l e R s m args below meth c T' locs cells slots h → Go p e below K (T'.setTop (mkF m pc' Ls (v :: st)))) : Go p e below K (T.setTop (mkF m pc Ls (.ref a :: st))) := by
  subst hp
  obtain ⟨T', X', e', stp⟩ := getF X.1 X.2.1 X.2.2.2.2.2.1 X.2.2.2.2.1 w via X.2.2.2.2.2.2 F (g := mkF m pc Ls (.ref a :: st)) rfl rfl (hb X.2.2.1 hd)
  exact Go.step (fun t q => stp _ q) (k T' ⟨X', X.2.1, X.2.2.1, X.2.2.2.1, X.2.2.2.2.1, X.2.2.2.2.2.1, e'⟩)
theorem g_getstatic (X : Sx Z own bytes ml p l e R s m args below meth c T locs cells slots h) {i : Nat} {R0 O nm d host : String} {v : Value} (w : (Cond.fieldLink own i R0 nm d).before a0 Z = true ∨ (Cond.fieldLinkNest own i R0 nm d host).before a0 Z = true) (via : Via Z R0 O nm d) (F : Sta Z h O nm d v) (hd : decode bytes pc = .ok (.getstatic i, 3)) (hp : pc + 3 = pc') (k : ∀ T', Sx Z own bytes ml p l e R s m args below meth c T' locs cells slots h → Go p e below K (T'.setTop (mkF m pc' Ls (v :: st)))) : Go p e below K (T.setTop (mkF m pc Ls (st))) := by
  subst hp
  obtain ⟨T', X', e', stp⟩ := getS2 X.1 X.2.1 X.2.2.2.2.2.1 X.2.2.2.2.1 w via X.2.2.2.2.2.2 F (g := mkF m pc Ls st) rfl (hb X.2.2.1 hd)
  exact Go.step (fun t q => stp _ q) (k T' ⟨X', X.2.1, X.2.2.1, X.2.2.2.1, X.2.2.2.2.1, X.2.2.2.2.2.1, e'⟩)
theorem g_putfield (X : Sx Z own bytes ml p l e R s m args below meth c T locs cells slots h) {i kk : Nat} {R0 O nm d host C : String} {a : Addr} {v old : Value} {ty : FieldType} (w : (Cond.fieldLink own i R0 nm d).before a0 Z = true ∨ (Cond.fieldLinkNest own i R0 nm d host).before a0 Z = true) (via : Via Z R0 O nm d) (F : Fld Z h a O nm d old) (E : Exa Z h a C) (L : (Cond.lays C O nm d).before a0 Z = true ∨ ((Cond.laysFinal C O nm d).before a0 Z = true ∧ own = O ∧ meth.name = "<init>")) (wi : (Cond.instantiable C kk).before a0 Z = true) (hty : parseFieldDescriptor d = some ty) (hn : narrow ty v = v) (hf : fits ty v = true) (hd : decode bytes pc = .ok (.putfield i, 3)) (hp : pc + 3 = pc') (k : ∀ T' h', Sx Z own bytes ml p l e R s m args below meth c T' (locs ++ [⟨a, RoadKit.slotOf Z O nm d⟩]) cells slots h' → Wr h h' a (RoadKit.slotOf Z O nm d) v → Go p e below K (T'.setTop (mkF m pc' Ls (st)))) : Go p e below K (T.setTop (mkF m pc Ls (v :: .ref a :: st))) := by
  subst hp
  obtain ⟨T', h', X', e', W, stp⟩ := putF X.1 X.2.1 X.2.2.2.2.2.1 X.2.2.2.2.1 w via X.2.2.2.2.2.2 F E L wi hty hn hf (g := mkF m pc Ls (v :: .ref a :: st)) rfl rfl (hb X.2.2.1 hd)
  exact Go.step (fun t q => stp _ q) (k T' h' ⟨X', X.2.1, X.2.2.1, X.2.2.2.1, X.2.2.2.2.1, X.2.2.2.2.2.1, e'⟩ W)
theorem g_putfieldN (X : Sx Z own bytes ml p l e R s m args below meth c T locs cells slots h) {i kk : Nat} {R0 O nm d C : String} {a : Addr} {v v' old : Value} {ty : FieldType} (w : (Cond.fieldLink own i R0 nm d).before a0 Z = true) (via : Via Z R0 O nm d) (F : Fld Z h a O nm d old) (E : Exa Z h a C) (L : (Cond.lays C O nm d).before a0 Z = true ∨ ((Cond.laysFinal C O nm d).before a0 Z = true ∧ own = O ∧ meth.name = "<init>")) (wi : (Cond.instantiable C kk).before a0 Z = true) (hty : parseFieldDescriptor d = some ty) (hn : narrow ty v = v') (hf : fits ty v' = true) (hd : decode bytes pc = .ok (.putfield i, 3)) (hp : pc + 3 = pc') (k : ∀ T' h', Sx Z own bytes ml p l e R s m args below meth c T' (locs ++ [⟨a, RoadKit.slotOf Z O nm d⟩]) cells slots h' → Wr h h' a (RoadKit.slotOf Z O nm d) v' → Go p e below K (T'.setTop (mkF m pc' Ls (st)))) : Go p e below K (T.setTop (mkF m pc Ls (v :: .ref a :: st))) := by
  subst hp
  obtain ⟨T', h', X', e', W, stp⟩ := putFN X.1 X.2.1 X.2.2.2.2.2.1 X.2.2.2.2.1 w via X.2.2.2.2.2.2 F E L wi hty hn hf (g := mkF m pc Ls (v :: .ref a :: st)) rfl rfl (hb X.2.2.1 hd)
  exact Go.step (fun t q => stp _ q) (k T' h' ⟨X', X.2.1, X.2.2.1, X.2.2.2.1, X.2.2.2.2.1, X.2.2.2.2.2.1, e'⟩ W)
theorem g_initO (X : Sx Z own bytes ml p l e R s m args below meth c T locs cells slots h) {i W : Nat} {a : Addr} (w1 : (Cond.methodLink own i Lib.objectInit).before a0 Z = true) (w2 : (Cond.instanceMethod Lib.objectInit).before a0 Z = true) (w3 : (Cond.code Lib.objectInit ⟨#[0xb1]⟩ 1 none).before a0 Z = true) (hd : decode bytes pc = .ok (.invokespecial i, 3)) (hp : pc + 3 = pc') (hsz : Ls.size = ml) (hf : 1 ≤ R.frames) (hW : (st.map fun v => v.category).sum ≤ W) (hl : W + 12 ≤ R.locals) (k : ∀ T', Sx Z own bytes ml p l e R s m args below meth c T' locs cells slots h → Go p e below K (T'.setTop (mkF m pc' Ls (st)))) : Go p e below K (T.setTop (mkF m pc Ls (.ref a :: st))) := by
  subst hp
  obtain ⟨T', X', e', stp⟩ := initO X.1 X.2.1 X.2.2.2.2.2.1 X.2.2.2.2.1 w1 w2 w3 X.2.2.2.2.2.2 (g := mkF m pc Ls (.ref a :: st)) rfl (by rw [X.2.2.2.1]; exact hsz) rfl (hb X.2.2.1 hd) hf (W := W) (by simpa using hW) hl
  exact Go.step (fun t q => stp _ q) (k T' ⟨X', X.2.1, X.2.2.1, X.2.2.2.1, X.2.2.2.2.1, X.2.2.2.2.2.1, e'⟩)
theorem g_checkcast (X : Sx Z own bytes ml p l e R s m args below meth c T locs cells slots h) {i : Nat} {K0 : String} {a : Addr} (w : (Cond.classLink own i K0).before a0 Z = true) (F : Ins Z h a K0 true) (hd : decode bytes pc = .ok (.checkcast i, 3)) (hp : pc + 3 = pc') (k : ∀ T', Sx Z own bytes ml p l e R s m args below meth c T' locs cells slots h → Go p e below K (T'.setTop (mkF m pc' Ls (.ref a :: st)))) : Go p e below K (T.setTop (mkF m pc Ls (.ref a :: st))) := by
  subst hp
  obtain ⟨T', X', e', stp⟩ := castY X.1 X.2.1 X.2.2.2.2.2.1 X.2.2.2.2.1 w X.2.2.2.2.2.2 F (g := mkF m pc Ls (.ref a :: st)) rfl rfl (hb X.2.2.1 hd)
  exact Go.step (fun t q => stp _ q) (k T' ⟨X', X.2.1, X.2.2.1, X.2.2.2.1, X.2.2.2.2.1, X.2.2.2.2.2.1, e'⟩)
theorem g_clone (X : Sx Z own bytes ml p l e R s m args below meth c T locs cells slots h) {i W : Nat} {ad : String} {a : Addr} {ty : FieldType} {vs : List Value} (w1 : (Cond.methodLink own i ⟨ad, "clone", "()Ljava/lang/Object;"⟩).before a0 Z = true) (w2 : (Cond.sameMethod ad "java/lang/Object" "clone" "()Ljava/lang/Object;").before a0 Z = true) (w3 : (Cond.native ⟨"java/lang/Object", "clone", "()Ljava/lang/Object;"⟩).before a0 Z = true) (w4 : (Cond.instanceMethod ⟨"java/lang/Object", "clone", "()Ljava/lang/Object;"⟩).before a0 Z = true) (w5 : (Cond.selects ad ⟨ad, "clone", "()Ljava/lang/Object;"⟩ ⟨"java/lang/Object", "clone", "()Ljava/lang/Object;"⟩).before a0 Z = true) (w6 : (Cond.castable ad "java/lang/Cloneable").before a0 Z = true) (A : Av Z h a ty vs) (E : Exa Z h a ad) (hfit : ∀ v ∈ vs, fits ty v = true) (hd : decode bytes pc = .ok (.invokevirtual i, 3)) (hp : pc + 3 = pc') (hsz : Ls.size = ml) (hf : 1 ≤ R.frames) (hW : (st.map fun v => v.category).sum ≤ W) (hl : W + 14 ≤ R.locals) (cap : Nat) (hcap : vs.length ≤ cap) (hc : cells + 1 ≤ R.cells) (hs : slots + cap ≤ R.slots) (k : ∀ T' h' (b : Addr), b = h.size → Sx Z own bytes ml p l e R s m args below meth c T' locs (cells + 1) (slots + cap) h' → Ext h h' → Exa Z h' b ad → Av Z h' b ty vs → Go p e below K (T'.setTop (mkF m pc' Ls (.ref b :: st)))) : Go p e below K (T.setTop (mkF m pc Ls (.ref a :: st))) := by
  subst hp
  obtain ⟨cl, A, rfl, r⟩ := A
  have FC : FitC Z cl := fitC_of A fun j hj v hv => hfit v (by rw [← Array.getElem?_toList] at hv; exact List.mem_of_getElem? hv)
  obtain ⟨T', h', X', e', Ex, A', E', stp⟩ := cloneA X.1 X.2.1 X.2.2.2.2.2.1 X.2.2.2.2.1 w1 w2 w3 w4 w5 w6 X.2.2.2.2.2.2 A E FC (g := mkF m pc Ls (.ref a :: st)) rfl (by rw [X.2.2.2.1]; exact hsz) rfl (hb X.2.2.1 hd) hf (W := W) (cap := cap) (by simpa using hW) hl (by simpa using hcap) hc hs
  exact Go.step (fun t q => stp _ q) (k T' h' _ rfl ⟨X', X.2.1, X.2.2.1, X.2.2.2.1, X.2.2.2.2.1, X.2.2.2.2.2.1, e'⟩ Ex E' ⟨_, A', rfl, r⟩)
theorem g_static (X : Sx Z own bytes ml p l e R s m args below meth c T locs cells slots h) {y : MethodName} {yb : ByteArray} {yl : Nat} {yr : Option FieldType} {rm : Room} {as' : Array Value} {Q : Option Value → Heap → List Loc → Prop} {i W : Nat} (argsL rest : List Value) (w1 : (Cond.methodLink own i y).before a0 Z = true) (w2 : (Cond.static y).before a0 Z = true) (w3 : (Cond.initialized y.cls).before a0 Z = true) (w4 : (Cond.code y yb yl yr).before a0 Z = true) (M : Rm l Z y yb yl yr [] rm as' h Q) (hd : decode bytes pc = .ok (.invokestatic i, 3)) (hp : pc + 3 = pc') (hy : y.cls ≠ "java/lang/invoke/MethodHandle" ∧ y.cls ≠ "java/lang/invoke/VarHandle") (hf : rm.frames + 1 ≤ R.frames) (hl : W + (yl + 11) + rm.locals ≤ R.locals) (hsz : Ls.size = ml) (ha : argsL.toArray = as') (hst : st = argsL.reverse ++ rest) (hlen : ∀ sig, parseMethodDescriptor y.desc = some sig → argsL.length = sig.parameters.length) (hW : (rest.map fun v => v.category).sum ≤ W) (hc : cells + rm.cells ≤ R.cells) (hs : slots + rm.slots ≤ R.slots) (k : ∀ v T' L, Sx Z own bytes ml p l e R s m args below meth c T' (locs ++ L) (cells + rm.cells) (slots + rm.slots) T'.heap → Q v T'.heap L → Go p e below K (T'.setTop (mkF m pc' Ls (v.toList ++ rest)))) : Go p e below K (T.setTop (mkF m pc Ls (st))) := by
  subst hp; subst hst
  have hZ := X.2.2.2.2.2.1
  obtain ⟨v, vm1, ⟨T', L', k', n'⟩, -, X', ⟨L, hQ, l1, l2, l3⟩, stp⟩ := Jvm.LawKit.callS X.1 X.2.1 X.2.2.2.2.1 (mvT hZ w1) (mvT hZ w2) (mvT hZ w3) (mvT hZ w4) hy (backOf (W := W) M hZ w4 w3 hf hl) (g := mkF m pc Ls (argsL.reverse ++ rest)) rfl (by rw [X.2.2.2.1]; exact hsz) (argsL := argsL) (rest := rest) hlen rfl (by simpa using hW) (hb X.2.2.1 hd) (fun _ _ => ⟨ha, X.2.2.2.2.2.2, hc, hs⟩)
  dsimp only [Pt.U, Pt.locs, Pt.cells, Pt.slots] at X' l1 l2 l3 stp hQ
  subst l1 l2 l3
  exact Go.step (fun t q => stp _ q) (k v T' L ⟨X', X.2.1, X.2.2.1, X.2.2.2.1, X.2.2.2.2.1, X.2.2.2.2.2.1, rfl⟩ hQ)
theorem g_special (X : Sx Z own bytes ml p l e R s m args below meth c T locs cells slots h) {y : MethodName} {yb : ByteArray} {yl : Nat} {rm : Room} {as' : Array Value} {Q : Option Value → Heap → List Loc → Prop} {i W : Nat} {a : Addr} (argsL rest : List Value) (hi : y.name = "<init>") (w1 : (Cond.methodLink own i y).before a0 Z = true) (w2 : (Cond.instanceMethod y).before a0 Z = true) (w3 : (Cond.initialized y.cls).before a0 Z = true) (w4 : (Cond.code y yb yl none).before a0 Z = true) (M : Rm l Z y yb yl none [] rm as' h Q) (hd : decode bytes pc = .ok (.invokespecial i, 3)) (hp : pc + 3 = pc') (hy : y.cls ≠ "java/lang/invoke/MethodHandle" ∧ y.cls ≠ "java/lang/invoke/VarHandle") (hf : rm.frames + 1 ≤ R.frames) (hl : W + (yl + 11) + rm.locals ≤ R.locals) (hsz : Ls.size = ml) (ha : (.ref a :: argsL).toArray = as') (hst : st = argsL.reverse ++ .ref a :: rest) (hlen : ∀ sig, parseMethodDescriptor y.desc = some sig → argsL.length = sig.parameters.length) (hW : (rest.map fun v => v.category).sum ≤ W) (hc : cells + rm.cells ≤ R.cells) (hs : slots + rm.slots ≤ R.slots) (k : ∀ v T' L, Sx Z own bytes ml p l e R s m args below meth c T' (locs ++ L) (cells + rm.cells) (slots + rm.slots) T'.heap → Q v T'.heap L → Go p e below K (T'.setTop (mkF m pc' Ls (v.toList ++ rest)))) : Go p e below K (T.setTop (mkF m pc Ls (st))) := by
  subst hp; subst hst
  have hZ := X.2.2.2.2.2.1
  obtain ⟨v, vm1, ⟨T', L', k', n'⟩, -, X', ⟨L, hQ, l1, l2, l3⟩, stp⟩ := X.1.specialBack X.2.1 (y := y) hi X.2.2.2.2.1 (mvT hZ w1) (mvT hZ w2) (mvT hZ w4) hy (backOf (W := W) M hZ w4 w3 hf hl) (g := mkF m pc Ls (argsL.reverse ++ .ref a :: rest)) rfl (by rw [X.2.2.2.1]; exact hsz) (Steps.refl _) (a := a) (argsL := argsL) (rest := rest) hlen rfl (by simpa using hW) (hb X.2.2.1 hd) (fun _ _ => ⟨ha, X.2.2.2.2.2.2, hc, hs⟩)
  dsimp only [Pt.U, Pt.locs, Pt.cells, Pt.slots] at X' l1 l2 l3 stp hQ
  subst l1 l2 l3
  exact Go.step (fun t q => stp.trans q) (k v T' L ⟨X', X.2.1, X.2.2.1, X.2.2.2.1, X.2.2.2.2.1, X.2.2.2.2.2.1, rfl⟩ hQ)
theorem g_virtual (X : Sx Z own bytes ml p l e R s m args below meth c T locs cells slots h) {y : MethodName} {yb : ByteArray} {yl : Nat} {yr : Option FieldType} {rm : Room} {as' : Array Value} {Q : Option Value → Heap → List Loc → Prop} {i W : Nat} {a : Addr} {C : String} (argsL rest : List Value) (E : Exa Z h a C) (w1 : (Cond.methodLink own i y).before a0 Z = true) (w2 : (Cond.declares y).before a0 Z = true) (w5 : (Cond.selects C y y).before a0 Z = true) (w6 : (Cond.instanceMethod y).before a0 Z = true) (w3 : (Cond.initialized y.cls).before a0 Z = true) (w4 : (Cond.code y yb yl yr).before a0 Z = true) (M : Rm l Z y yb yl yr [] rm as' h Q) (hd : decode bytes pc = .ok (.invokevirtual i, 3)) (hp : pc + 3 = pc') (hy : y.cls ≠ "java/lang/invoke/MethodHandle" ∧ y.cls ≠ "java/lang/invoke/VarHandle") (hf : rm.frames + 1 ≤ R.frames) (hl : W + (yl + 11) + rm.locals ≤ R.locals) (hsz : Ls.size = ml) (ha : (.ref a :: argsL).toArray = as') (hst : st = argsL.reverse ++ .ref a :: rest) (hlen : ∀ sig, parseMethodDescriptor y.desc = some sig → argsL.length = sig.parameters.length) (hW : (rest.map fun v => v.category).sum ≤ W) (hc : cells + rm.cells ≤ R.cells) (hs : slots + rm.slots ≤ R.slots) (k : ∀ v T' L, Sx Z own bytes ml p l e R s m args below meth c T' (locs ++ L) (cells + rm.cells) (slots + rm.slots) T'.heap → Q v T'.heap L → Go p e below K (T'.setTop (mkF m pc' Ls (v.toList ++ rest)))) : Go p e below K (T.setTop (mkF m pc Ls (st))) := by
  subst hp; subst hst
  have hZ := X.2.2.2.2.2.1
  obtain ⟨cq, kq, qa, qb, qc⟩ := isOf hZ X.2.2.2.2.2.2 E
  obtain ⟨v, vm1, ⟨T', L', k', n'⟩, -, X', ⟨L, hQ, l1, l2, l3⟩, stp⟩ := X.1.virtualBack X.2.1 (y := y) (z := y) X.2.2.2.2.1 (mvT hZ w1) (mvT hZ w2) (notFace_of_selects (args := #[]) (mvT hZ w5)) (mvT hZ w5) (mvT hZ w6) hy (backOf (W := W) M hZ w4 w3 hf hl) qa qc (g := mkF m pc Ls (argsL.reverse ++ .ref a :: rest)) rfl (by rw [X.2.2.2.1]; exact hsz) (Steps.refl _) (argsL := argsL) (rest := rest) hlen rfl (by simpa using hW) (hb X.2.2.1 hd) (fun _ _ => ⟨ha, X.2.2.2.2.2.2, hc, hs⟩)
  dsimp only [Pt.U, Pt.locs, Pt.cells, Pt.slots] at X' l1 l2 l3 stp hQ
  subst l1 l2 l3
  exact Go.step (fun t q => stp.trans q) (k v T' L ⟨X', X.2.1, X.2.2.1, X.2.2.2.1, X.2.2.2.2.1, X.2.2.2.2.2.1, rfl⟩ hQ)
theorem g_virtualUp (X : Sx Z own bytes ml p l e R s m args below meth c T locs cells slots h) {y : MethodName} {yb : ByteArray} {yl : Nat} {yr : Option FieldType} {rm : Room} {as' : Array Value} {Q : Option Value → Heap → List Loc → Prop} {i W : Nat} {a : Addr} {C owner : String} {x : MethodName} (argsL rest : List Value) (E : Exa Z h a C) (w1 : (Cond.methodLink own i x).before a0 Z = true) (w8 : (Cond.sameMethod x.cls owner x.name x.desc).before a0 Z = true) (w2 : (Cond.declares ⟨owner, x.name, x.desc⟩).before a0 Z = true) (w5 : (Cond.selects C x y).before a0 Z = true) (w6 : (Cond.instanceMethod y).before a0 Z = true) (w3 : (Cond.initialized y.cls).before a0 Z = true) (w4 : (Cond.code y yb yl yr).before a0 Z = true) (M : Rm l Z y yb yl yr [] rm as' h Q) (hd : decode bytes pc = .ok (.invokevirtual i, 3)) (hp : pc + 3 = pc') (hy : owner ≠ "java/lang/invoke/MethodHandle" ∧ owner ≠ "java/lang/invoke/VarHandle") (hf : rm.frames + 1 ≤ R.frames) (hl : W + (yl + 11) + rm.locals ≤ R.locals) (hsz : Ls.size = ml) (ha : (.ref a :: argsL).toArray = as') (hst : st = argsL.reverse ++ .ref a :: rest) (hlen : ∀ sig, parseMethodDescriptor x.desc = some sig → argsL.length = sig.parameters.length) (hW : (rest.map fun v => v.category).sum ≤ W) (hc : cells + rm.cells ≤ R.cells) (hs : slots + rm.slots ≤ R.slots) (k : ∀ v T' L, Sx Z own bytes ml p l e R s m args below meth c T' (locs ++ L) (cells + rm.cells) (slots + rm.slots) T'.heap → Q v T'.heap L → Go p e below K (T'.setTop (mkF m pc' Ls (v.toList ++ rest)))) : Go p e below K (T.setTop (mkF m pc Ls (st))) := by
  subst hp; subst hst
  have hZ := X.2.2.2.2.2.1
  obtain ⟨cq, kq, qa, qb, qc⟩ := isOf hZ X.2.2.2.2.2.2 E
  obtain ⟨v, vm1, ⟨T', L', k', n'⟩, -, X', ⟨L, hQ, l1, l2, l3⟩, stp⟩ := X.1.virtualBackUp X.2.1 (x := x) (y := y) X.2.2.2.2.1 (mvT hZ w1) (mvT hZ w8) (mvT hZ w2) hy (mvT hZ w5) (mvT hZ w6) (backOf (W := W) M hZ w4 w3 hf hl) qa qc (g := mkF m pc Ls (argsL.reverse ++ .ref a :: rest)) rfl (by rw [X.2.2.2.1]; exact hsz) (Steps.refl _) (argsL := argsL) (rest := rest) hlen rfl (by simpa using hW) (hb X.2.2.1 hd) (fun _ _ => ⟨ha, X.2.2.2.2.2.2, hc, hs⟩)
  dsimp only [Pt.U, Pt.locs, Pt.cells, Pt.slots] at X' l1 l2 l3 stp hQ
  subst l1 l2 l3
  exact Go.step (fun t q => stp.trans q) (k v T' L ⟨X', X.2.1, X.2.2.1, X.2.2.2.1, X.2.2.2.2.1, X.2.2.2.2.2.1, rfl⟩ hQ)
theorem g_private (X : Sx Z own bytes ml p l e R s m args below meth c T locs cells slots h) {y : MethodName} {yb : ByteArray} {yl : Nat} {yr : Option FieldType} {rm : Room} {as' : Array Value} {Q : Option Value → Heap → List Loc → Prop} {i W : Nat} {a : Addr} (argsL rest : List Value) (E : Exa Z h a y.cls) (w1 : (Cond.methodLink own i y).before a0 Z = true) (w5 : (Cond.selects y.cls y y).before a0 Z = true) (w6 : (Cond.instanceMethod y).before a0 Z = true) (w7 : (Cond.privateMethod y).before a0 Z = true) (w3 : (Cond.initialized y.cls).before a0 Z = true) (w4 : (Cond.code y yb yl yr).before a0 Z = true) (M : Rm l Z y yb yl yr [] rm as' h Q) (hd : decode bytes pc = .ok (.invokevirtual i, 3)) (hp : pc + 3 = pc') (hy : y.cls ≠ "java/lang/invoke/MethodHandle" ∧ y.cls ≠ "java/lang/invoke/VarHandle") (hf : rm.frames + 1 ≤ R.frames) (hl : W + (yl + 11) + rm.locals ≤ R.locals) (hsz : Ls.size = ml) (ha : (.ref a :: argsL).toArray = as') (hst : st = argsL.reverse ++ .ref a :: rest) (hlen : ∀ sig, parseMethodDescriptor y.desc = some sig → argsL.length = sig.parameters.length) (hW : (rest.map fun v => v.category).sum ≤ W) (hc : cells + rm.cells ≤ R.cells) (hs : slots + rm.slots ≤ R.slots) (k : ∀ v T' L, Sx Z own bytes ml p l e R s m args below meth c T' (locs ++ L) (cells + rm.cells) (slots + rm.slots) T'.heap → Q v T'.heap L → Go p e below K (T'.setTop (mkF m pc' Ls (v.toList ++ rest)))) : Go p e below K (T.setTop (mkF m pc Ls (st))) := by
  subst hp; subst hst
  have hZ := X.2.2.2.2.2.1
  obtain ⟨cq, q1, q2⟩ := E.cell
  obtain ⟨v, vm1, ⟨T', L', k', n'⟩, -, X', ⟨L, hQ, l1, l2, l3⟩, stp⟩ := X.1.privateBack X.2.1 (y := y) X.2.2.2.2.1 (mvT hZ w1) (mvT hZ w6) (mvT hZ w5) (Cond.privateMethod_at (mvP hZ w7 (args := #[]))) (mvT hZ w4) hy (backOf (W := W) M hZ w4 w3 hf hl) (g := mkF m pc Ls (argsL.reverse ++ .ref a :: rest)) rfl (by rw [X.2.2.2.1]; exact hsz) (Steps.refl _) (a := a) (by rw [X.2.2.2.2.2.2]; exact q1) q2 (argsL := argsL) (rest := rest) hlen rfl (by simpa using hW) (hb X.2.2.1 hd) (fun _ _ => ⟨ha, X.2.2.2.2.2.2, hc, hs⟩)
  dsimp only [Pt.U, Pt.locs, Pt.cells, Pt.slots] at X' l1 l2 l3 stp hQ
  subst l1 l2 l3
  exact Go.step (fun t q => stp.trans q) (k v T' L ⟨X', X.2.1, X.2.2.1, X.2.2.2.1, X.2.2.2.2.1, X.2.2.2.2.2.1, rfl⟩ hQ)
theorem g_specialB (X : Sx Z own bytes ml p l e R s m args below meth c T locs cells slots h) {y : MethodName} {as' : Array Value} {Q : Option Value → Heap → List Loc → Prop} {i W kc ks : Nat} {a : Addr} {yb : ByteArray} {yl : Nat} (argsL rest : List Value) (hi : y.name = "<init>") (w1 : (Cond.methodLink own i y).before a0 Z = true) (w2 : (Cond.instanceMethod y).before a0 Z = true) (w4 : (Cond.code y yb yl none).before a0 Z = true) (hK : Back l R p e below s args y 3 W (fun A a => a = as' ∧ A.U.heap = h ∧ A.cells + kc ≤ R.cells ∧ A.slots + ks ≤ R.slots) (fun A _ v B => ∃ L, Q v B.U.heap L ∧ B.locs = A.locs ++ L ∧ B.cells = A.cells + kc ∧ B.slots = A.slots + ks)) (hd : decode bytes pc = .ok (.invokespecial i, 3)) (hp : pc + 3 = pc') (hy : y.cls ≠ "java/lang/invoke/MethodHandle" ∧ y.cls ≠ "java/lang/invoke/VarHandle") (hsz : Ls.size = ml) (ha : (.ref a :: argsL).toArray = as') (hst : st = argsL.reverse ++ .ref a :: rest) (hlen : ∀ sig, parseMethodDescriptor y.desc = some sig → argsL.length = sig.parameters.length) (hW : (rest.map fun v => v.category).sum ≤ W) (hc : cells + kc ≤ R.cells) (hs : slots + ks ≤ R.slots) (k : ∀ v T' L, Sx Z own bytes ml p l e R s m args below meth c T' (locs ++ L) (cells + kc) (slots + ks) T'.heap → Q v T'.heap L → Go p e below K (T'.setTop (mkF m pc' Ls (v.toList ++ rest)))) : Go p e below K (T.setTop (mkF m pc Ls (st))) := by
  subst hp; subst hst
  have hZ := X.2.2.2.2.2.1
  obtain ⟨v, vm1, ⟨T', L', k', n'⟩, -, X', ⟨L, hQ, l1, l2, l3⟩, stp⟩ := X.1.specialBack X.2.1 (y := y) hi X.2.2.2.2.1 (mvT hZ w1) (mvT hZ w2) (mvT hZ w4) hy hK (g := mkF m pc Ls (argsL.reverse ++ .ref a :: rest)) rfl (by rw [X.2.2.2.1]; exact hsz) (Steps.refl _) (a := a) (argsL := argsL) (rest := rest) hlen rfl (by simpa using hW) (hb X.2.2.1 hd) (fun _ _ => ⟨ha, X.2.2.2.2.2.2, hc, hs⟩)
  dsimp only [Pt.U, Pt.locs, Pt.cells, Pt.slots] at X' l1 l2 l3 stp hQ
  subst l1 l2 l3
  exact Go.step (fun t q => stp.trans q) (k v T' L ⟨X', X.2.1, X.2.2.1, X.2.2.2.1, X.2.2.2.2.1, X.2.2.2.2.2.1, rfl⟩ hQ)
theorem g_virtualB (X : Sx Z own bytes ml p l e R s m args below meth c T locs cells slots h) {y : MethodName} {as' : Array Value} {Q : Option Value → Heap → List Loc → Prop} {i W kc ks : Nat} {a : Addr} {C : String} (argsL rest : List Value) (E : Exa Z h a C) (w1 : (Cond.methodLink own i y).before a0 Z = true) (w2 : (Cond.declares y).before a0 Z = true) (w5 : (Cond.selects C y y).before a0 Z = true) (w6 : (Cond.instanceMethod y).before a0 Z = true) (hK : Back l R p e below s args y 3 W (fun A a => a = as' ∧ A.U.heap = h ∧ A.cells + kc ≤ R.cells ∧ A.slots + ks ≤ R.slots) (fun A _ v B => ∃ L, Q v B.U.heap L ∧ B.locs = A.locs ++ L ∧ B.cells = A.cells + kc ∧ B.slots = A.slots + ks)) (hd : decode bytes pc = .ok (.invokevirtual i, 3)) (hp : pc + 3 = pc') (hy : y.cls ≠ "java/lang/invoke/MethodHandle" ∧ y.cls ≠ "java/lang/invoke/VarHandle") (hsz : Ls.size = ml) (ha : (.ref a :: argsL).toArray = as') (hst : st = argsL.reverse ++ .ref a :: rest) (hlen : ∀ sig, parseMethodDescriptor y.desc = some sig → argsL.length = sig.parameters.length) (hW : (rest.map fun v => v.category).sum ≤ W) (hc : cells + kc ≤ R.cells) (hs : slots + ks ≤ R.slots) (k : ∀ v T' L, Sx Z own bytes ml p l e R s m args below meth c T' (locs ++ L) (cells + kc) (slots + ks) T'.heap → Q v T'.heap L → Go p e below K (T'.setTop (mkF m pc' Ls (v.toList ++ rest)))) : Go p e below K (T.setTop (mkF m pc Ls (st))) := by
  subst hp; subst hst
  have hZ := X.2.2.2.2.2.1
  obtain ⟨cq, kq, qa, qb, qc⟩ := isOf hZ X.2.2.2.2.2.2 E
  obtain ⟨v, vm1, ⟨T', L', k', n'⟩, -, X', ⟨L, hQ, l1, l2, l3⟩, stp⟩ := X.1.virtualBack X.2.1 (y := y) (z := y) X.2.2.2.2.1 (mvT hZ w1) (mvT hZ w2) (notFace_of_selects (args := #[]) (mvT hZ w5)) (mvT hZ w5) (mvT hZ w6) hy hK qa qc (g := mkF m pc Ls (argsL.reverse ++ .ref a :: rest)) rfl (by rw [X.2.2.2.1]; exact hsz) (Steps.refl _) (argsL := argsL) (rest := rest) hlen rfl (by simpa using hW) (hb X.2.2.1 hd) (fun _ _ => ⟨ha, X.2.2.2.2.2.2, hc, hs⟩)
  dsimp only [Pt.U, Pt.locs, Pt.cells, Pt.slots] at X' l1 l2 l3 stp hQ
  subst l1 l2 l3
  exact Go.step (fun t q => stp.trans q) (k v T' L ⟨X', X.2.1, X.2.2.1, X.2.2.2.1, X.2.2.2.2.1, X.2.2.2.2.2.1, rfl⟩ hQ)
theorem g_ireturn (X : Sx Z own bytes ml p l e R s m args below meth c T locs cells slots h) {Q : Option Value → Heap → List Loc → Prop} {kc ks : Nat} {z : Int32} (hd : decode bytes pc = .ok (.ireturn, 1)) (hret : meth.sig.returnType = some .int) (hlk : meth.locks = false) (hc : cells ≤ kc) (hs : slots ≤ ks) (q : Q (some (.int z)) h locs) : Go p e below (Ends s Q kc ks) (T.setTop (mkF m pc Ls (.int z :: st))) := by
  obtain ⟨fs, hr, hrun, hended, hW, hsame⟩ := X.1.leave (v := (some (.int z))) (fun h => by rw [hret] at h; cases h) hlk
  refine ⟨_, _, retI X.1 X.2.1 hret (hb X.2.2.1 hd) hr, hrun, hended, _, _, rfl, ?_, ⟨_, rfl⟩, hW, hsame.mono hc hs⟩
  show Q _ T.heap _
  rw [X.2.2.2.2.2.2]; exact q
theorem g_lreturn (X : Sx Z own bytes ml p l e R s m args below meth c T locs cells slots h) {Q : Option Value → Heap → List Loc → Prop} {kc ks : Nat} {z : Int64} (hd : decode bytes pc = .ok (.lreturn, 1)) (hret : meth.sig.returnType = some .long) (hlk : meth.locks = false) (hc : cells ≤ kc) (hs : slots ≤ ks) (q : Q (some (.long z)) h locs) : Go p e below (Ends s Q kc ks) (T.setTop (mkF m pc Ls (.long z :: st))) := by
  obtain ⟨fs, hr, hrun, hended, hW, hsame⟩ := X.1.leave (v := (some (.long z))) (fun h => by rw [hret] at h; cases h) hlk
  refine ⟨_, _, retJ X.1 X.2.1 hret (hb X.2.2.1 hd) hr, hrun, hended, _, _, rfl, ?_, ⟨_, rfl⟩, hW, hsame.mono hc hs⟩
  show Q _ T.heap _
  rw [X.2.2.2.2.2.2]; exact q
theorem g_ireturnN (X : Sx Z own bytes ml p l e R s m args below meth c T locs cells slots h) {Q : Option Value → Heap → List Loc → Prop} {kc ks : Nat} {z : Int32} {t : FieldType} (ht : t = .boolean ∨ t = .byte ∨ t = .char ∨ t = .short) (hd : decode bytes pc = .ok (.ireturn, 1)) (hret : meth.sig.returnType = some t) (hlk : meth.locks = false) (hc : cells ≤ kc) (hs : slots ≤ ks) (q : Q (some (.int (nar t z))) h locs) : Go p e below (Ends s Q kc ks) (T.setTop (mkF m pc Ls (.int z :: st))) := by
  obtain ⟨fs, hr, hrun, hended, hW, hsame⟩ := X.1.leave (v := (some (.int (nar t z)))) (fun h => by rw [hret] at h; cases h) hlk
  refine ⟨_, _, retN X.1 X.2.1 hret ht (hb X.2.2.1 hd) hr, hrun, hended, _, _, rfl, ?_, ⟨_, rfl⟩, hW, hsame.mono hc hs⟩
  show Q _ T.heap _
  rw [X.2.2.2.2.2.2]; exact q
theorem g_areturn (X : Sx Z own bytes ml p l e R s m args below meth c T locs cells slots h) {Q : Option Value → Heap → List Loc → Prop} {kc ks : Nat} {w : Value} {t : FieldType} (hw : w.isRef = true) (ht : t.isReference = true) (hd : decode bytes pc = .ok (.areturn, 1)) (hret : meth.sig.returnType = some t) (hlk : meth.locks = false) (hc : cells ≤ kc) (hs : slots ≤ ks) (q : Q (some w) h locs) : Go p e below (Ends s Q kc ks) (T.setTop (mkF m pc Ls ([w]))) := by
  obtain ⟨fs, hr, hrun, hended, hW, hsame⟩ := X.1.leave (v := (some w)) (fun h => by rw [hret] at h; cases h) hlk
  refine ⟨_, _, X.1.areturnOut X.2.1 hw hret ht (hb X.2.2.1 hd) hr, hrun, hended, _, _, rfl, ?_, ⟨_, rfl⟩, hW, hsame.mono hc hs⟩
  show Q _ T.heap _
  rw [X.2.2.2.2.2.2]; exact q
theorem g_return (X : Sx Z own bytes ml p l e R s m args below meth c T locs cells slots h) {Q : Option Value → Heap → List Loc → Prop} {kc ks : Nat} (hd : decode bytes pc = .ok (.return_, 1)) (hret : meth.sig.returnType = none) (hlk : meth.locks = false) (hc : cells ≤ kc) (hs : slots ≤ ks) (q : Q none h locs) : Go p e below (Ends s Q kc ks) (T.setTop (mkF m pc Ls ([]))) := by
  obtain ⟨fs, hr, hrun, hended, hW, hsame⟩ := X.1.leave (v := none) (fun _ => rfl) hlk
  refine ⟨_, _, X.1.returnOut X.2.1 hret (hb X.2.2.1 hd) hr, hrun, hended, _, _, rfl, ?_, ⟨_, rfl⟩, hW, hsame.mono hc hs⟩
  show Q _ T.heap _
  rw [X.2.2.2.2.2.2]; exact q
/-- a loop that writes nothing: F: the frame at its head; I: what holds there; mu: the turns left -/
theorem loopP {α : Type} (X : Sx Z own bytes ml p l e R s m args below meth c T locs cells slots h) (F : α → JFrame) (I : α → Prop) (mu : α → Nat)
    (hstep : ∀ (a : α) (T : State), Sx Z own bytes ml p l e R s m args below meth c T locs cells slots h → I a → (∀ (a' : α) (T' : State), mu a' < mu a → Sx Z own bytes ml p l e R s m args below meth c T' locs cells slots h → I a' → Go p e below K (T'.setTop (F a'))) → Go p e below K (T.setTop (F a))) (b : α) (hI : I b) : Go p e below K (T.setTop (F b)) := by
  have main : ∀ (n : Nat) (a : α) (T : State), mu a < n → Sx Z own bytes ml p l e R s m args below meth c T locs cells slots h → I a → Go p e below K (T.setTop (F a)) := by
    intro n
    induction n with
    | zero => intro a T q; exact absurd q (Nat.not_lt_zero _)
    | succ n ih => intro a T q X hI; exact hstep a T X hI (fun a' T' q' X' hI' => ih a' T' (Nat.lt_of_lt_of_le q' (Nat.le_of_lt_succ q)) X' hI')
  exact main _ b T (Nat.lt_succ_self _) X hI
/-- a loop that writes -/
theorem loopW {α : Type} (X : Sx Z own bytes ml p l e R s m args below meth c T locs cells slots h) (F : α → JFrame) (I : α → Heap → List Loc → Prop) (mu : α → Nat)
    (hstep : ∀ (a : α) (T : State) (h : Heap) (locs : List Loc), Sx Z own bytes ml p l e R s m args below meth c T locs cells slots h → I a h locs → (∀ (a' : α) (T' : State) (h' : Heap) (locs' : List Loc), mu a' < mu a → Sx Z own bytes ml p l e R s m args below meth c T' locs' cells slots h' → I a' h' locs' → Go p e below K (T'.setTop (F a'))) → Go p e below K (T.setTop (F a))) (b : α) (hI : I b h locs) : Go p e below K (T.setTop (F b)) := by
  have main : ∀ (n : Nat) (a : α) (T : State) (h : Heap) (locs : List Loc), mu a < n → Sx Z own bytes ml p l e R s m args below meth c T locs cells slots h → I a h locs → Go p e below K (T.setTop (F a)) := by
    intro n
    induction n with
    | zero => intro a T h locs q; exact absurd q (Nat.not_lt_zero _)
    | succ n ih => intro a T h locs q X hI; exact hstep a T h locs X hI (fun a' T' h' locs' q' X' hI' => ih a' T' h' locs' (Nat.lt_of_lt_of_le q' (Nat.le_of_lt_succ q)) X' hI')
  exact main _ b T h locs (Nat.lt_succ_self _) X hI
/-- two ways that meet again -/
theorem joinA {α : Type} (X : Sx Z own bytes ml p l e R s m args below meth c T locs cells slots h) (F : α → JFrame) (r : α → Prop) {f : JFrame} (k : ∀ (T' : State), Sx Z own bytes ml p l e R s m args below meth c T' locs cells slots h → ∀ v : α, r v → Go p e below K (T'.setTop (F v)))
    (b : (∀ (T' : State), Sx Z own bytes ml p l e R s m args below meth c T' locs cells slots h → ∀ v : α, r v → Go p e below K (T'.setTop (F v))) → Go p e below K (T.setTop f)) : Go p e below K (T.setTop f) := b k
end Walk
theorem narT : nar .boolean (1 : Int32) = b2i true := rfl
theorem narF : nar .boolean (0 : Int32) = b2i false := rfl
/-- the sheet's k-th word -/
theorem tb {a0 : Array Value} {Z : State} (hw : ∀ d ∈ tables_1, d.before a0 Z = true) (k : Nat) {d : Jvm.Cond} (hd : tables_1[k]? = some d) : d.before a0 Z = true := hw d (List.mem_of_getElem? hd)
/-- what a method says that writes and makes nothing: it returns this -/
def Pu (val : Value) (h0 : Heap) (v : Option Value) (h : Heap) (L : List Loc) : Prop := v = some val ∧ L = [] ∧ h = h0
theorem pureX {Z : State} {own : String} {bytes : ByteArray} {ml : Nat} {p : Program} {l : Launch} {e : Env} {R : Room} {s : State} {m : MethodId} {args : Array Value} {below : List Frame} {meth : Method} {c : Code} {T : State} {locs L : List Loc} {cells slots : Nat} {h : Heap} {val : Value} {v : Option Value}
    (X : Sx Z own bytes ml p l e R s m args below meth c T (locs ++ L) (cells + 0) (slots + 0) T.heap) (q : Pu val h v T.heap L) : v = some val ∧ Sx Z own bytes ml p l e R s m args below meth c T locs cells slots h := by
  obtain ⟨q1, rfl, q3⟩ := q
  rw [List.append_nil] at X
  exact ⟨q1, X.1, X.2.1, X.2.2.1, X.2.2.2.1, X.2.2.2.2.1, X.2.2.2.2.2.1, q3⟩
theorem pn_0 : plainName "java/lang/Enum" = true := by first | (simp [plainName, overriddenIn]; done) | decide +kernel
theorem d2_0 : decode jdk_37_method_2_code 0 = .ok (.aload_n 0, 1) := by decide +kernel
theorem d2_1 : decode jdk_37_method_2_code 1 = .ok (.getfield 7, 3) := by decide +kernel
theorem d2_4 : decode jdk_37_method_2_code 4 = .ok (.ireturn, 1) := by decide +kernel
theorem ef_rOrd (m : MethodId) (x0 : Addr) : entryFrame m #[(.ref x0)] 1 = mkF m 0 #[.val (.ref x0)] [] := by first | (simp [entryFrame, mkF, argsToLocals, Value.category]; done) | rfl
set_option maxRecDepth 65536 in
set_option maxHeartbeats 40000000 in
theorem rOrd (l : Launch) (Z : State) (aa : Array Value) (hw : ∀ d ∈ tables_1, d.before aa Z = true) (ws : List Jvm.Cond) (a0 : Addr) (o : Int32) (h0 : Heap) (F_a0_ordinal : Fld Z h0 a0 "java/lang/Enum" "ordinal" "I" (.int o)) :
    Rm l Z (⟨"java/lang/Enum", "ordinal", "()I"⟩ : MethodName) jdk_37_method_2_code 1 (some .int) ws ({ frames := 0, cells := 0, slots := 0, locals := 0 } : Room) #[(.ref a0)] h0 (Pu (.int o) h0) := by
  refine Rm.of (plainFor_of_name pn_0) ?_
  intro p e s m below meth cc T X hnm hret hlk
  refine Go.at_ (ef_rOrd m a0) ?_
  refine g_aloadN X d2_0 (pc' := 1) rfl rfl rfl ?_
  refine g_getfield X (host := "") (Or.inl (tb hw 39 rfl)) Via.refl F_a0_ordinal d2_1 (pc' := 4) rfl ?_
  intro T X
  refine g_ireturn X d2_4 hret hlk (by decide) (by decide) ?_
  exact ⟨rfl, rfl, rfl⟩
theorem pn_1 : plainName "com/example/tagwire/tagwire/ec/EcTagType" = true := by first | (simp [plainName, overriddenIn]; done) | decide +kernel
theorem d1_0 : decode prog_53_method_5_code 0 = .ok (.aload_n 0, 1) := by decide +kernel
theorem d1_1 : decode prog_53_method_5_code 1 = .ok (.invokevirtual 80, 3) := by decide +kernel
theorem pd_0 : parseMethodDescriptor "()I" = some ⟨[], some .int⟩ := by decide +kernel
theorem d1_4 : decode prog_53_method_5_code 4 = .ok (.tableswitch 49 2 5 #[32, 36, 40, 44], 32) := by decide +kernel
theorem d1_53 : decode prog_53_method_5_code 53 = .ok (.iconst 0, 1) := by decide +kernel
theorem d1_54 : decode prog_53_method_5_code 54 = .ok (.ireturn, 1) := by decide +kernel
theorem ef_rBUNKNOWN (m : MethodId) (x0 : Addr) : entryFrame m #[(.ref x0)] 1 = mkF m 0 #[.val (.ref x0)] [] := by first | (simp [entryFrame, mkF, argsToLocals, Value.category]; done) | rfl
set_option maxRecDepth 65536 in
set_option maxHeartbeats 40000000 in
theorem rBUNKNOWN (l : Launch) (Z : State) (aa : Array Value) (hw : ∀ d ∈ tables_1, d.before aa Z = true) (ws : List Jvm.Cond) (eUNKNOWN : Addr) (h0 : Heap) (E_eUNKNOWN : Exa Z h0 eUNKNOWN "com/example/tagwire/tagwire/ec/EcTagType") (F_eUNKNOWN_ordinal : Fld Z h0 eUNKNOWN "java/lang/Enum" "ordinal" "I" (.int (0 : Int32))) :
    Rm l Z (⟨"com/example/tagwire/tagwire/ec/EcTagType", "integerBytes", "()I"⟩ : MethodName) prog_53_method_5_code 1 (some .int) ws ({ frames := 1, cells := 0, slots := 0, locals := 12 } : Room) #[(.ref eUNKNOWN)] h0 (Pu (.int (0 : Int32)) h0) := by
  refine Rm.of (plainFor_of_name pn_1) ?_
  intro p e s m below meth cc T X hnm hret hlk
  refine Go.at_ (ef_rBUNKNOWN m eUNKNOWN) ?_
  refine g_aloadN X d1_0 (pc' := 1) rfl rfl rfl ?_
  refine g_virtualUp X (W := 0) (a := eUNKNOWN) (C := "com/example/tagwire/tagwire/ec/EcTagType") (owner := "java/lang/Enum") [] [] E_eUNKNOWN (tb hw 32 rfl) (tb hw 33 rfl) (tb hw 34 rfl) (tb hw 36 rfl) (tb hw 35 rfl) (tb hw 37 rfl) (tb hw 38 rfl) (rOrd l Z aa hw [] eUNKNOWN (0 : Int32) _ F_eUNKNOWN_ordinal) d1_1 (pc' := 4) rfl (by decide) (by decide) (by decide) rfl rfl rfl (lenOf pd_0 rfl) (Nat.le_refl _) (by decide) (by decide) ?_
  intro v T L X q
  obtain ⟨rfl, X⟩ := pureX X q
  show Go p e below _ (T.setTop (mkF m 4 #[.val (.ref eUNKNOWN)] [(.int (0 : Int32))]))
  refine g_tswOut X d1_4 (by decide) (pc' := 53) (by decide) (by decide) ?_
  refine g_iconst X (0 : Int32) d1_53 (pc' := 54) rfl rfl ?_
  refine g_ireturn X d1_54 hret hlk (by decide) (by decide) ?_
  exact ⟨rfl, rfl, rfl⟩
theorem ef_rBCUSTOM (m : MethodId) (x0 : Addr) : entryFrame m #[(.ref x0)] 1 = mkF m 0 #[.val (.ref x0)] [] := by first | (simp [entryFrame, mkF, argsToLocals, Value.category]; done) | rfl
set_option maxRecDepth 65536 in
set_option maxHeartbeats 40000000 in
theorem rBCUSTOM (l : Launch) (Z : State) (aa : Array Value) (hw : ∀ d ∈ tables_1, d.before aa Z = true) (ws : List Jvm.Cond) (eCUSTOM : Addr) (h0 : Heap) (E_eCUSTOM : Exa Z h0 eCUSTOM "com/example/tagwire/tagwire/ec/EcTagType") (F_eCUSTOM_ordinal : Fld Z h0 eCUSTOM "java/lang/Enum" "ordinal" "I" (.int (1 : Int32))) :
    Rm l Z (⟨"com/example/tagwire/tagwire/ec/EcTagType", "integerBytes", "()I"⟩ : MethodName) prog_53_method_5_code 1 (some .int) ws ({ frames := 1, cells := 0, slots := 0, locals := 12 } : Room) #[(.ref eCUSTOM)] h0 (Pu (.int (0 : Int32)) h0) := by
  refine Rm.of (plainFor_of_name pn_1) ?_
  intro p e s m below meth cc T X hnm hret hlk
  refine Go.at_ (ef_rBCUSTOM m eCUSTOM) ?_
  refine g_aloadN X d1_0 (pc' := 1) rfl rfl rfl ?_
  refine g_virtualUp X (W := 0) (a := eCUSTOM) (C := "com/example/tagwire/tagwire/ec/EcTagType") (owner := "java/lang/Enum") [] [] E_eCUSTOM (tb hw 32 rfl) (tb hw 33 rfl) (tb hw 34 rfl) (tb hw 36 rfl) (tb hw 35 rfl) (tb hw 37 rfl) (tb hw 38 rfl) (rOrd l Z aa hw [] eCUSTOM (1 : Int32) _ F_eCUSTOM_ordinal) d1_1 (pc' := 4) rfl (by decide) (by decide) (by decide) rfl rfl rfl (lenOf pd_0 rfl) (Nat.le_refl _) (by decide) (by decide) ?_
  intro v T L X q
  obtain ⟨rfl, X⟩ := pureX X q
  show Go p e below _ (T.setTop (mkF m 4 #[.val (.ref eCUSTOM)] [(.int (1 : Int32))]))
  refine g_tswOut X d1_4 (by decide) (pc' := 53) (by decide) (by decide) ?_
  refine g_iconst X (0 : Int32) d1_53 (pc' := 54) rfl rfl ?_
  refine g_ireturn X d1_54 hret hlk (by decide) (by decide) ?_
  exact ⟨rfl, rfl, rfl⟩
theorem d1_36 : decode prog_53_method_5_code 36 = .ok (.iconst 1, 1) := by decide +kernel
theorem d1_37 : decode prog_53_method_5_code 37 = .ok (.goto 17, 3) := by decide +kernel
theorem ef_rBUINT8 (m : MethodId) (x0 : Addr) : entryFrame m #[(.ref x0)] 1 = mkF m 0 #[.val (.ref x0)] [] := by first | (simp [entryFrame, mkF, argsToLocals, Value.category]; done) | rfl
set_option maxRecDepth 65536 in
set_option maxHeartbeats 40000000 in
theorem rBUINT8 (l : Launch) (Z : State) (aa : Array Value) (hw : ∀ d ∈ tables_1, d.before aa Z = true) (ws : List Jvm.Cond) (eUINT8 : Addr) (h0 : Heap) (E_eUINT8 : Exa Z h0 eUINT8 "com/example/tagwire/tagwire/ec/EcTagType") (F_eUINT8_ordinal : Fld Z h0 eUINT8 "java/lang/Enum" "ordinal" "I" (.int (2 : Int32))) :
    Rm l Z (⟨"com/example/tagwire/tagwire/ec/EcTagType", "integerBytes", "()I"⟩ : MethodName) prog_53_method_5_code 1 (some .int) ws ({ frames := 1, cells := 0, slots := 0, locals := 12 } : Room) #[(.ref eUINT8)] h0 (Pu (.int (1 : Int32)) h0) := by
  refine Rm.of (plainFor_of_name pn_1) ?_
  intro p e s m below meth cc T X hnm hret hlk
  refine Go.at_ (ef_rBUINT8 m eUINT8) ?_
  refine g_aloadN X d1_0 (pc' := 1) rfl rfl rfl ?_
  refine g_virtualUp X (W := 0) (a := eUINT8) (C := "com/example/tagwire/tagwire/ec/EcTagType") (owner := "java/lang/Enum") [] [] E_eUINT8 (tb hw 32 rfl) (tb hw 33 rfl) (tb hw 34 rfl) (tb hw 36 rfl) (tb hw 35 rfl) (tb hw 37 rfl) (tb hw 38 rfl) (rOrd l Z aa hw [] eUINT8 (2 : Int32) _ F_eUINT8_ordinal) d1_1 (pc' := 4) rfl (by decide) (by decide) (by decide) rfl rfl rfl (lenOf pd_0 rfl) (Nat.le_refl _) (by decide) (by decide) ?_
  intro v T L X q
  obtain ⟨rfl, X⟩ := pureX X q
  show Go p e below _ (T.setTop (mkF m 4 #[.val (.ref eUINT8)] [(.int (2 : Int32))]))
  refine g_tswIn X d1_4 (by decide) (o := 32) rfl (pc' := 36) (by decide) (by decide) ?_
  refine g_iconst X (1 : Int32) d1_36 (pc' := 37) rfl rfl ?_
  refine g_goto X d1_37 (pc' := 54) (by decide) (by decide) ?_
  refine g_ireturn X d1_54 hret hlk (by decide) (by decide) ?_
  exact ⟨rfl, rfl, rfl⟩
theorem d1_40 : decode prog_53_method_5_code 40 = .ok (.iconst 2, 1) := by decide +kernel
theorem d1_41 : decode prog_53_method_5_code 41 = .ok (.goto 13, 3) := by decide +kernel
theorem ef_rBUINT16 (m : MethodId) (x0 : Addr) : entryFrame m #[(.ref x0)] 1 = mkF m 0 #[.val (.ref x0)] [] := by first | (simp [entryFrame, mkF, argsToLocals, Value.category]; done) | rfl
set_option maxRecDepth 65536 in
set_option maxHeartbeats 40000000 in
theorem rBUINT16 (l : Launch) (Z : State) (aa : Array Value) (hw : ∀ d ∈ tables_1, d.before aa Z = true) (ws : List Jvm.Cond) (eUINT16 : Addr) (h0 : Heap) (E_eUINT16 : Exa Z h0 eUINT16 "com/example/tagwire/tagwire/ec/EcTagType") (F_eUINT16_ordinal : Fld Z h0 eUINT16 "java/lang/Enum" "ordinal" "I" (.int (3 : Int32))) :
    Rm l Z (⟨"com/example/tagwire/tagwire/ec/EcTagType", "integerBytes", "()I"⟩ : MethodName) prog_53_method_5_code 1 (some .int) ws ({ frames := 1, cells := 0, slots := 0, locals := 12 } : Room) #[(.ref eUINT16)] h0 (Pu (.int (2 : Int32)) h0) := by
  refine Rm.of (plainFor_of_name pn_1) ?_
  intro p e s m below meth cc T X hnm hret hlk
  refine Go.at_ (ef_rBUINT16 m eUINT16) ?_
  refine g_aloadN X d1_0 (pc' := 1) rfl rfl rfl ?_
  refine g_virtualUp X (W := 0) (a := eUINT16) (C := "com/example/tagwire/tagwire/ec/EcTagType") (owner := "java/lang/Enum") [] [] E_eUINT16 (tb hw 32 rfl) (tb hw 33 rfl) (tb hw 34 rfl) (tb hw 36 rfl) (tb hw 35 rfl) (tb hw 37 rfl) (tb hw 38 rfl) (rOrd l Z aa hw [] eUINT16 (3 : Int32) _ F_eUINT16_ordinal) d1_1 (pc' := 4) rfl (by decide) (by decide) (by decide) rfl rfl rfl (lenOf pd_0 rfl) (Nat.le_refl _) (by decide) (by decide) ?_
  intro v T L X q
  obtain ⟨rfl, X⟩ := pureX X q
  show Go p e below _ (T.setTop (mkF m 4 #[.val (.ref eUINT16)] [(.int (3 : Int32))]))
  refine g_tswIn X d1_4 (by decide) (o := 36) rfl (pc' := 40) (by decide) (by decide) ?_
  refine g_iconst X (2 : Int32) d1_40 (pc' := 41) rfl rfl ?_
  refine g_goto X d1_41 (pc' := 54) (by decide) (by decide) ?_
  refine g_ireturn X d1_54 hret hlk (by decide) (by decide) ?_
  exact ⟨rfl, rfl, rfl⟩
theorem d1_44 : decode prog_53_method_5_code 44 = .ok (.iconst 4, 1) := by decide +kernel
theorem d1_45 : decode prog_53_method_5_code 45 = .ok (.goto 9, 3) := by decide +kernel
theorem ef_rBUINT32 (m : MethodId) (x0 : Addr) : entryFrame m #[(.ref x0)] 1 = mkF m 0 #[.val (.ref x0)] [] := by first | (simp [entryFrame, mkF, argsToLocals, Value.category]; done) | rfl
set_option maxRecDepth 65536 in
set_option maxHeartbeats 40000000 in
theorem rBUINT32 (l : Launch) (Z : State) (aa : Array Value) (hw : ∀ d ∈ tables_1, d.before aa Z = true) (ws : List Jvm.Cond) (eUINT32 : Addr) (h0 : Heap) (E_eUINT32 : Exa Z h0 eUINT32 "com/example/tagwire/tagwire/ec/EcTagType") (F_eUINT32_ordinal : Fld Z h0 eUINT32 "java/lang/Enum" "ordinal" "I" (.int (4 : Int32))) :
    Rm l Z (⟨"com/example/tagwire/tagwire/ec/EcTagType", "integerBytes", "()I"⟩ : MethodName) prog_53_method_5_code 1 (some .int) ws ({ frames := 1, cells := 0, slots := 0, locals := 12 } : Room) #[(.ref eUINT32)] h0 (Pu (.int (4 : Int32)) h0) := by
  refine Rm.of (plainFor_of_name pn_1) ?_
  intro p e s m below meth cc T X hnm hret hlk
  refine Go.at_ (ef_rBUINT32 m eUINT32) ?_
  refine g_aloadN X d1_0 (pc' := 1) rfl rfl rfl ?_
  refine g_virtualUp X (W := 0) (a := eUINT32) (C := "com/example/tagwire/tagwire/ec/EcTagType") (owner := "java/lang/Enum") [] [] E_eUINT32 (tb hw 32 rfl) (tb hw 33 rfl) (tb hw 34 rfl) (tb hw 36 rfl) (tb hw 35 rfl) (tb hw 37 rfl) (tb hw 38 rfl) (rOrd l Z aa hw [] eUINT32 (4 : Int32) _ F_eUINT32_ordinal) d1_1 (pc' := 4) rfl (by decide) (by decide) (by decide) rfl rfl rfl (lenOf pd_0 rfl) (Nat.le_refl _) (by decide) (by decide) ?_
  intro v T L X q
  obtain ⟨rfl, X⟩ := pureX X q
  show Go p e below _ (T.setTop (mkF m 4 #[.val (.ref eUINT32)] [(.int (4 : Int32))]))
  refine g_tswIn X d1_4 (by decide) (o := 40) rfl (pc' := 44) (by decide) (by decide) ?_
  refine g_iconst X (4 : Int32) d1_44 (pc' := 45) rfl rfl ?_
  refine g_goto X d1_45 (pc' := 54) (by decide) (by decide) ?_
  refine g_ireturn X d1_54 hret hlk (by decide) (by decide) ?_
  exact ⟨rfl, rfl, rfl⟩
theorem d1_48 : decode prog_53_method_5_code 48 = .ok (.bipush 8, 2) := by decide +kernel
theorem d1_50 : decode prog_53_method_5_code 50 = .ok (.goto 4, 3) := by decide +kernel
theorem ef_rBUINT64 (m : MethodId) (x0 : Addr) : entryFrame m #[(.ref x0)] 1 = mkF m 0 #[.val (.ref x0)] [] := by first | (simp [entryFrame, mkF, argsToLocals, Value.category]; done) | rfl
set_option maxRecDepth 65536 in
set_option maxHeartbeats 40000000 in
theorem rBUINT64 (l : Launch) (Z : State) (aa : Array Value) (hw : ∀ d ∈ tables_1, d.before aa Z = true) (ws : List Jvm.Cond) (eUINT64 : Addr) (h0 : Heap) (E_eUINT64 : Exa Z h0 eUINT64 "com/example/tagwire/tagwire/ec/EcTagType") (F_eUINT64_ordinal : Fld Z h0 eUINT64 "java/lang/Enum" "ordinal" "I" (.int (5 : Int32))) :
    Rm l Z (⟨"com/example/tagwire/tagwire/ec/EcTagType", "integerBytes", "()I"⟩ : MethodName) prog_53_method_5_code 1 (some .int) ws ({ frames := 1, cells := 0, slots := 0, locals := 12 } : Room) #[(.ref eUINT64)] h0 (Pu (.int (8 : Int32)) h0) := by
  refine Rm.of (plainFor_of_name pn_1) ?_
  intro p e s m below meth cc T X hnm hret hlk
  refine Go.at_ (ef_rBUINT64 m eUINT64) ?_
  refine g_aloadN X d1_0 (pc' := 1) rfl rfl rfl ?_
  refine g_virtualUp X (W := 0) (a := eUINT64) (C := "com/example/tagwire/tagwire/ec/EcTagType") (owner := "java/lang/Enum") [] [] E_eUINT64 (tb hw 32 rfl) (tb hw 33 rfl) (tb hw 34 rfl) (tb hw 36 rfl) (tb hw 35 rfl) (tb hw 37 rfl) (tb hw 38 rfl) (rOrd l Z aa hw [] eUINT64 (5 : Int32) _ F_eUINT64_ordinal) d1_1 (pc' := 4) rfl (by decide) (by decide) (by decide) rfl rfl rfl (lenOf pd_0 rfl) (Nat.le_refl _) (by decide) (by decide) ?_
  intro v T L X q
  obtain ⟨rfl, X⟩ := pureX X q
  show Go p e below _ (T.setTop (mkF m 4 #[.val (.ref eUINT64)] [(.int (5 : Int32))]))
  refine g_tswIn X d1_4 (by decide) (o := 44) rfl (pc' := 48) (by decide) (by decide) ?_
  refine g_bipush X (8 : Int32) d1_48 (pc' := 50) rfl rfl ?_
  refine g_goto X d1_50 (pc' := 54) (by decide) (by decide) ?_
  refine g_ireturn X d1_54 hret hlk (by decide) (by decide) ?_
  exact ⟨rfl, rfl, rfl⟩
theorem ef_rBSTRING (m : MethodId) (x0 : Addr) : entryFrame m #[(.ref x0)] 1 = mkF m 0 #[.val (.ref x0)] [] := by first | (simp [entryFrame, mkF, argsToLocals, Value.category]; done) | rfl
set_option maxRecDepth 65536 in
set_option maxHeartbeats 40000000 in
theorem rBSTRING (l : Launch) (Z : State) (aa : Array Value) (hw : ∀ d ∈ tables_1, d.before aa Z = true) (ws : List Jvm.Cond) (eSTRING : Addr) (h0 : Heap) (E_eSTRING : Exa Z h0 eSTRING "com/example/tagwire/tagwire/ec/EcTagType") (F_eSTRING_ordinal : Fld Z h0 eSTRING "java/lang/Enum" "ordinal" "I" (.int (6 : Int32))) :
    Rm l Z (⟨"com/example/tagwire/tagwire/ec/EcTagType", "integerBytes", "()I"⟩ : MethodName) prog_53_method_5_code 1 (some .int) ws ({ frames := 1, cells := 0, slots := 0, locals := 12 } : Room) #[(.ref eSTRING)] h0 (Pu (.int (0 : Int32)) h0) := by
  refine Rm.of (plainFor_of_name pn_1) ?_
  intro p e s m below meth cc T X hnm hret hlk
  refine Go.at_ (ef_rBSTRING m eSTRING) ?_
  refine g_aloadN X d1_0 (pc' := 1) rfl rfl rfl ?_
  refine g_virtualUp X (W := 0) (a := eSTRING) (C := "com/example/tagwire/tagwire/ec/EcTagType") (owner := "java/lang/Enum") [] [] E_eSTRING (tb hw 32 rfl) (tb hw 33 rfl) (tb hw 34 rfl) (tb hw 36 rfl) (tb hw 35 rfl) (tb hw 37 rfl) (tb hw 38 rfl) (rOrd l Z aa hw [] eSTRING (6 : Int32) _ F_eSTRING_ordinal) d1_1 (pc' := 4) rfl (by decide) (by decide) (by decide) rfl rfl rfl (lenOf pd_0 rfl) (Nat.le_refl _) (by decide) (by decide) ?_
  intro v T L X q
  obtain ⟨rfl, X⟩ := pureX X q
  show Go p e below _ (T.setTop (mkF m 4 #[.val (.ref eSTRING)] [(.int (6 : Int32))]))
  refine g_tswOut X d1_4 (by decide) (pc' := 53) (by decide) (by decide) ?_
  refine g_iconst X (0 : Int32) d1_53 (pc' := 54) rfl rfl ?_
  refine g_ireturn X d1_54 hret hlk (by decide) (by decide) ?_
  exact ⟨rfl, rfl, rfl⟩
theorem ef_rBDOUBLE (m : MethodId) (x0 : Addr) : entryFrame m #[(.ref x0)] 1 = mkF m 0 #[.val (.ref x0)] [] := by first | (simp [entryFrame, mkF, argsToLocals, Value.category]; done) | rfl
set_option maxRecDepth 65536 in
set_option maxHeartbeats 40000000 in
theorem rBDOUBLE (l : Launch) (Z : State) (aa : Array Value) (hw : ∀ d ∈ tables_1, d.before aa Z = true) (ws : List Jvm.Cond) (eDOUBLE : Addr) (h0 : Heap) (E_eDOUBLE : Exa Z h0 eDOUBLE "com/example/tagwire/tagwire/ec/EcTagType") (F_eDOUBLE_ordinal : Fld Z h0 eDOUBLE "java/lang/Enum" "ordinal" "I" (.int (7 : Int32))) :
    Rm l Z (⟨"com/example/tagwire/tagwire/ec/EcTagType", "integerBytes", "()I"⟩ : MethodName) prog_53_method_5_code 1 (some .int) ws ({ frames := 1, cells := 0, slots := 0, locals := 12 } : Room) #[(.ref eDOUBLE)] h0 (Pu (.int (0 : Int32)) h0) := by
  refine Rm.of (plainFor_of_name pn_1) ?_
  intro p e s m below meth cc T X hnm hret hlk
  refine Go.at_ (ef_rBDOUBLE m eDOUBLE) ?_
  refine g_aloadN X d1_0 (pc' := 1) rfl rfl rfl ?_
  refine g_virtualUp X (W := 0) (a := eDOUBLE) (C := "com/example/tagwire/tagwire/ec/EcTagType") (owner := "java/lang/Enum") [] [] E_eDOUBLE (tb hw 32 rfl) (tb hw 33 rfl) (tb hw 34 rfl) (tb hw 36 rfl) (tb hw 35 rfl) (tb hw 37 rfl) (tb hw 38 rfl) (rOrd l Z aa hw [] eDOUBLE (7 : Int32) _ F_eDOUBLE_ordinal) d1_1 (pc' := 4) rfl (by decide) (by decide) (by decide) rfl rfl rfl (lenOf pd_0 rfl) (Nat.le_refl _) (by decide) (by decide) ?_
  intro v T L X q
  obtain ⟨rfl, X⟩ := pureX X q
  show Go p e below _ (T.setTop (mkF m 4 #[.val (.ref eDOUBLE)] [(.int (7 : Int32))]))
  refine g_tswOut X d1_4 (by decide) (pc' := 53) (by decide) (by decide) ?_
  refine g_iconst X (0 : Int32) d1_53 (pc' := 54) rfl rfl ?_
  refine g_ireturn X d1_54 hret hlk (by decide) (by decide) ?_
  exact ⟨rfl, rfl, rfl⟩
theorem ef_rBIPV4 (m : MethodId) (x0 : Addr) : entryFrame m #[(.ref x0)] 1 = mkF m 0 #[.val (.ref x0)] [] := by first | (simp [entryFrame, mkF, argsToLocals, Value.category]; done) | rfl
set_option maxRecDepth 65536 in
set_option maxHeartbeats 40000000 in
theorem rBIPV4 (l : Launch) (Z : State) (aa : Array Value) (hw : ∀ d ∈ tables_1, d.before aa Z = true) (ws : List Jvm.Cond) (eIPV4 : Addr) (h0 : Heap) (E_eIPV4 : Exa Z h0 eIPV4 "com/example/tagwire/tagwire/ec/EcTagType") (F_eIPV4_ordinal : Fld Z h0 eIPV4 "java/lang/Enum" "ordinal" "I" (.int (8 : Int32))) :
    Rm l Z (⟨"com/example/tagwire/tagwire/ec/EcTagType", "integerBytes", "()I"⟩ : MethodName) prog_53_method_5_code 1 (some .int) ws ({ frames := 1, cells := 0, slots := 0, locals := 12 } : Room) #[(.ref eIPV4)] h0 (Pu (.int (0 : Int32)) h0) := by
  refine Rm.of (plainFor_of_name pn_1) ?_
  intro p e s m below meth cc T X hnm hret hlk
  refine Go.at_ (ef_rBIPV4 m eIPV4) ?_
  refine g_aloadN X d1_0 (pc' := 1) rfl rfl rfl ?_
  refine g_virtualUp X (W := 0) (a := eIPV4) (C := "com/example/tagwire/tagwire/ec/EcTagType") (owner := "java/lang/Enum") [] [] E_eIPV4 (tb hw 32 rfl) (tb hw 33 rfl) (tb hw 34 rfl) (tb hw 36 rfl) (tb hw 35 rfl) (tb hw 37 rfl) (tb hw 38 rfl) (rOrd l Z aa hw [] eIPV4 (8 : Int32) _ F_eIPV4_ordinal) d1_1 (pc' := 4) rfl (by decide) (by decide) (by decide) rfl rfl rfl (lenOf pd_0 rfl) (Nat.le_refl _) (by decide) (by decide) ?_
  intro v T L X q
  obtain ⟨rfl, X⟩ := pureX X q
  show Go p e below _ (T.setTop (mkF m 4 #[.val (.ref eIPV4)] [(.int (8 : Int32))]))
  refine g_tswOut X d1_4 (by decide) (pc' := 53) (by decide) (by decide) ?_
  refine g_iconst X (0 : Int32) d1_53 (pc' := 54) rfl rfl ?_
  refine g_ireturn X d1_54 hret hlk (by decide) (by decide) ?_
  exact ⟨rfl, rfl, rfl⟩
theorem ef_rBHASH16 (m : MethodId) (x0 : Addr) : entryFrame m #[(.ref x0)] 1 = mkF m 0 #[.val (.ref x0)] [] := by first | (simp [entryFrame, mkF, argsToLocals, Value.category]; done) | rfl
set_option maxRecDepth 65536 in
set_option maxHeartbeats 40000000 in
theorem rBHASH16 (l : Launch) (Z : State) (aa : Array Value) (hw : ∀ d ∈ tables_1, d.before aa Z = true) (ws : List Jvm.Cond) (eHASH16 : Addr) (h0 : Heap) (E_eHASH16 : Exa Z h0 eHASH16 "com/example/tagwire/tagwire/ec/EcTagType") (F_eHASH16_ordinal : Fld Z h0 eHASH16 "java/lang/Enum" "ordinal" "I" (.int (9 : Int32))) :
    Rm l Z (⟨"com/example/tagwire/tagwire/ec/EcTagType", "integerBytes", "()I"⟩ : MethodName) prog_53_method_5_code 1 (some .int) ws ({ frames := 1, cells := 0, slots := 0, locals := 12 } : Room) #[(.ref eHASH16)] h0 (Pu (.int (0 : Int32)) h0) := by
  refine Rm.of (plainFor_of_name pn_1) ?_
  intro p e s m below meth cc T X hnm hret hlk
  refine Go.at_ (ef_rBHASH16 m eHASH16) ?_
  refine g_aloadN X d1_0 (pc' := 1) rfl rfl rfl ?_
  refine g_virtualUp X (W := 0) (a := eHASH16) (C := "com/example/tagwire/tagwire/ec/EcTagType") (owner := "java/lang/Enum") [] [] E_eHASH16 (tb hw 32 rfl) (tb hw 33 rfl) (tb hw 34 rfl) (tb hw 36 rfl) (tb hw 35 rfl) (tb hw 37 rfl) (tb hw 38 rfl) (rOrd l Z aa hw [] eHASH16 (9 : Int32) _ F_eHASH16_ordinal) d1_1 (pc' := 4) rfl (by decide) (by decide) (by decide) rfl rfl rfl (lenOf pd_0 rfl) (Nat.le_refl _) (by decide) (by decide) ?_
  intro v T L X q
  obtain ⟨rfl, X⟩ := pureX X q
  show Go p e below _ (T.setTop (mkF m 4 #[.val (.ref eHASH16)] [(.int (9 : Int32))]))
  refine g_tswOut X d1_4 (by decide) (pc' := 53) (by decide) (by decide) ?_
  refine g_iconst X (0 : Int32) d1_53 (pc' := 54) rfl rfl ?_
  refine g_ireturn X d1_54 hret hlk (by decide) (by decide) ?_
  exact ⟨rfl, rfl, rfl⟩
theorem ef_rBUINT128 (m : MethodId) (x0 : Addr) : entryFrame m #[(.ref x0)] 1 = mkF m 0 #[.val (.ref x0)] [] := by first | (simp [entryFrame, mkF, argsToLocals, Value.category]; done) | rfl
set_option maxRecDepth 65536 in
set_option maxHeartbeats 40000000 in
theorem rBUINT128 (l : Launch) (Z : State) (aa : Array Value) (hw : ∀ d ∈ tables_1, d.before aa Z = true) (ws : List Jvm.Cond) (eUINT128 : Addr) (h0 : Heap) (E_eUINT128 : Exa Z h0 eUINT128 "com/example/tagwire/tagwire/ec/EcTagType") (F_eUINT128_ordinal : Fld Z h0 eUINT128 "java/lang/Enum" "ordinal" "I" (.int (10 : Int32))) :
    Rm l Z (⟨"com/example/tagwire/tagwire/ec/EcTagType", "integerBytes", "()I"⟩ : MethodName) prog_53_method_5_code 1 (some .int) ws ({ frames := 1, cells := 0, slots := 0, locals := 12 } : Room) #[(.ref eUINT128)] h0 (Pu (.int (0 : Int32)) h0) := by
  refine Rm.of (plainFor_of_name pn_1) ?_
  intro p e s m below meth cc T X hnm hret hlk
  refine Go.at_ (ef_rBUINT128 m eUINT128) ?_
  refine g_aloadN X d1_0 (pc' := 1) rfl rfl rfl ?_
  refine g_virtualUp X (W := 0) (a := eUINT128) (C := "com/example/tagwire/tagwire/ec/EcTagType") (owner := "java/lang/Enum") [] [] E_eUINT128 (tb hw 32 rfl) (tb hw 33 rfl) (tb hw 34 rfl) (tb hw 36 rfl) (tb hw 35 rfl) (tb hw 37 rfl) (tb hw 38 rfl) (rOrd l Z aa hw [] eUINT128 (10 : Int32) _ F_eUINT128_ordinal) d1_1 (pc' := 4) rfl (by decide) (by decide) (by decide) rfl rfl rfl (lenOf pd_0 rfl) (Nat.le_refl _) (by decide) (by decide) ?_
  intro v T L X q
  obtain ⟨rfl, X⟩ := pureX X q
  show Go p e below _ (T.setTop (mkF m 4 #[.val (.ref eUINT128)] [(.int (10 : Int32))]))
  refine g_tswOut X d1_4 (by decide) (pc' := 53) (by decide) (by decide) ?_
  refine g_iconst X (0 : Int32) d1_53 (pc' := 54) rfl rfl ?_
  refine g_ireturn X d1_54 hret hlk (by decide) (by decide) ?_
  exact ⟨rfl, rfl, rfl⟩
theorem m11 {k i : Int32} (e : (k &&& 2147483647) % 11 = i) : i = 0 ∨ i = 1 ∨ i = 2 ∨ i = 3 ∨ i = 4 ∨ i = 5 ∨ i = 6 ∨ i = 7 ∨ i = 8 ∨ i = 9 ∨ i = 10 := by
  have q : (k &&& 2147483647).toInt = k.toInt % 2147483648 := c_mask k 2147483647 31 (by decide) (by decide)
  have r := (c_irem (k &&& 2147483647) 11 11 rfl).1 (by omega)
  rw [e] at r
  simp only [← Int32.toInt_inj, Int32.reduceToInt]; omega
theorem pn_2 : plainName "com/example/tagwire/tagwire/ec/EcTagTypeIntegerBytesPinLaw" = true := by first | (simp [plainName, overriddenIn]; done) | decide +kernel
theorem ef_rLaw (m : MethodId) (x0 : Int32) : entryFrame m #[(.int x0)] maxLocals = mkF m 0 #[.val (.int x0), .unset, .unset, .unset] [] := by first | (simp [entryFrame, mkF, argsToLocals, Value.category, maxLocals]; done) | rfl
set_option maxRecDepth 65536 in
set_option maxHeartbeats 40000000 in
theorem rLaw (l : Launch) (Z : State) (aa : Array Value) (hw : ∀ d ∈ tables_1, d.before aa Z = true) (ws : List Jvm.Cond) (i0 : Int32) (eUNKNOWN : Addr) (eCUSTOM : Addr) (eUINT8 : Addr) (eUINT16 : Addr) (eUINT32 : Addr) (eUINT64 : Addr) (eSTRING : Addr) (eDOUBLE : Addr) (eIPV4 : Addr) (eHASH16 : Addr) (eUINT128 : Addr) (h0 : Heap) (n0 : Nat) (Z0 : n0 ≤ h0.size) (S_UNKNOWN : Sta Z h0 "com/example/tagwire/tagwire/ec/EcTagType" "UNKNOWN" "Lcom/example/tagwire/tagwire/ec/EcTagType;" (.ref eUNKNOWN)) (E_eUNKNOWN : Exa Z h0 eUNKNOWN "com/example/tagwire/tagwire/ec/EcTagType") (F_eUNKNOWN_ordinal : Fld Z h0 eUNKNOWN "java/lang/Enum" "ordinal" "I" (.int (0 : Int32))) (S_CUSTOM : Sta Z h0 "com/example/tagwire/tagwire/ec/EcTagType" "CUSTOM" "Lcom/example/tagwire/tagwire/ec/EcTagType;" (.ref eCUSTOM)) (E_eCUSTOM : Exa Z h0 eCUSTOM "com/example/tagwire/tagwire/ec/EcTagType") (F_eCUSTOM_ordinal : Fld Z h0 eCUSTOM "java/lang/Enum" "ordinal" "I" (.int (1 : Int32))) (S_UINT8 : Sta Z h0 "com/example/tagwire/tagwire/ec/EcTagType" "UINT8" "Lcom/example/tagwire/tagwire/ec/EcTagType;" (.ref eUINT8)) (E_eUINT8 : Exa Z h0 eUINT8 "com/example/tagwire/tagwire/ec/EcTagType") (F_eUINT8_ordinal : Fld Z h0 eUINT8 "java/lang/Enum" "ordinal" "I" (.int (2 : Int32))) (S_UINT16 : Sta Z h0 "com/example/tagwire/tagwire/ec/EcTagType" "UINT16" "Lcom/example/tagwire/tagwire/ec/EcTagType;" (.ref eUINT16)) (E_eUINT16 : Exa Z h0 eUINT16 "com/example/tagwire/tagwire/ec/EcTagType") (F_eUINT16_ordinal : Fld Z h0 eUINT16 "java/lang/Enum" "ordinal" "I" (.int (3 : Int32))) (S_UINT32 : Sta Z h0 "com/example/tagwire/tagwire/ec/EcTagType" "UINT32" "Lcom/example/tagwire/tagwire/ec/EcTagType;" (.ref eUINT32)) (E_eUINT32 : Exa Z h0 eUINT32 "com/example/tagwire/tagwire/ec/EcTagType") (F_eUINT32_ordinal : Fld Z h0 eUINT32 "java/lang/Enum" "ordinal" "I" (.int (4 : Int32))) (S_UINT64 : Sta Z h0 "com/example/tagwire/tagwire/ec/EcTagType" "UINT64" "Lcom/example/tagwire/tagwire/ec/EcTagType;" (.ref eUINT64)) (E_eUINT64 : Exa Z h0 eUINT64 "com/example/tagwire/tagwire/ec/EcTagType") (F_eUINT64_ordinal : Fld Z h0 eUINT64 "java/lang/Enum" "ordinal" "I" (.int (5 : Int32))) (S_STRING : Sta Z h0 "com/example/tagwire/tagwire/ec/EcTagType" "STRING" "Lcom/example/tagwire/tagwire/ec/EcTagType;" (.ref eSTRING)) (E_eSTRING : Exa Z h0 eSTRING "com/example/tagwire/tagwire/ec/EcTagType") (F_eSTRING_ordinal : Fld Z h0 eSTRING "java/lang/Enum" "ordinal" "I" (.int (6 : Int32))) (S_DOUBLE : Sta Z h0 "com/example/tagwire/tagwire/ec/EcTagType" "DOUBLE" "Lcom/example/tagwire/tagwire/ec/EcTagType;" (.ref eDOUBLE)) (E_eDOUBLE : Exa Z h0 eDOUBLE "com/example/tagwire/tagwire/ec/EcTagType") (F_eDOUBLE_ordinal : Fld Z h0 eDOUBLE "java/lang/Enum" "ordinal" "I" (.int (7 : Int32))) (S_IPV4 : Sta Z h0 "com/example/tagwire/tagwire/ec/EcTagType" "IPV4" "Lcom/example/tagwire/tagwire/ec/EcTagType;" (.ref eIPV4)) (E_eIPV4 : Exa Z h0 eIPV4 "com/example/tagwire/tagwire/ec/EcTagType") (F_eIPV4_ordinal : Fld Z h0 eIPV4 "java/lang/Enum" "ordinal" "I" (.int (8 : Int32))) (S_HASH16 : Sta Z h0 "com/example/tagwire/tagwire/ec/EcTagType" "HASH16" "Lcom/example/tagwire/tagwire/ec/EcTagType;" (.ref eHASH16)) (E_eHASH16 : Exa Z h0 eHASH16 "com/example/tagwire/tagwire/ec/EcTagType") (F_eHASH16_ordinal : Fld Z h0 eHASH16 "java/lang/Enum" "ordinal" "I" (.int (9 : Int32))) (S_UINT128 : Sta Z h0 "com/example/tagwire/tagwire/ec/EcTagType" "UINT128" "Lcom/example/tagwire/tagwire/ec/EcTagType;" (.ref eUINT128)) (E_eUINT128 : Exa Z h0 eUINT128 "com/example/tagwire/tagwire/ec/EcTagType") (F_eUINT128_ordinal : Fld Z h0 eUINT128 "java/lang/Enum" "ordinal" "I" (.int (10 : Int32))) :
    Rm l Z x code maxLocals ret ws room_1 #[(.int i0)] h0 (fun v h L => v = some (.int 1) ∧ Fr n0 L) := by
  refine Rm.of (plainFor_of_name pn_2) ?_
  intro p e s m below meth cc T X hnm hret hlk
  refine Go.at_ (ef_rLaw m i0) ?_
  have N := Fr.nil n0
  refine g_bipush X (11 : Int32) at_0 (pc' := 2) rfl rfl ?_
  refine g_anewarray X 11 (tb hw 0 rfl) (tb hw 1 rfl) at_2 (pc' := 5) rfl (by decide) (by decide) 11 (by decide) (by decide) (by decide) (by decide) (vs := [.null, .null, .null, .null, .null, .null, .null, .null, .null, .null, .null]) rfl (ad := "[Lcom/example/tagwire/tagwire/ec/EcTagType;") (by decide) ?_
  intro T h b2_1 s_b2_1 X Ex E_b2_1 V_b2_1 O_b2_1
  have ne_eUNKNOWN_b2_1 : eUNKNOWN ≠ b2_1 := Nat.ne_of_lt (by rw [s_b2_1]; exact E_eUNKNOWN.lt)
  have ne_eCUSTOM_b2_1 : eCUSTOM ≠ b2_1 := Nat.ne_of_lt (by rw [s_b2_1]; exact E_eCUSTOM.lt)
  have ne_eUINT8_b2_1 : eUINT8 ≠ b2_1 := Nat.ne_of_lt (by rw [s_b2_1]; exact E_eUINT8.lt)
  have ne_eUINT16_b2_1 : eUINT16 ≠ b2_1 := Nat.ne_of_lt (by rw [s_b2_1]; exact E_eUINT16.lt)
  have ne_eUINT32_b2_1 : eUINT32 ≠ b2_1 := Nat.ne_of_lt (by rw [s_b2_1]; exact E_eUINT32.lt)
  have ne_eUINT64_b2_1 : eUINT64 ≠ b2_1 := Nat.ne_of_lt (by rw [s_b2_1]; exact E_eUINT64.lt)
  have ne_eSTRING_b2_1 : eSTRING ≠ b2_1 := Nat.ne_of_lt (by rw [s_b2_1]; exact E_eSTRING.lt)
  have ne_eDOUBLE_b2_1 : eDOUBLE ≠ b2_1 := Nat.ne_of_lt (by rw [s_b2_1]; exact E_eDOUBLE.lt)
  have ne_eIPV4_b2_1 : eIPV4 ≠ b2_1 := Nat.ne_of_lt (by rw [s_b2_1]; exact E_eIPV4.lt)
  have ne_eHASH16_b2_1 : eHASH16 ≠ b2_1 := Nat.ne_of_lt (by rw [s_b2_1]; exact E_eHASH16.lt)
  have ne_eUINT128_b2_1 : eUINT128 ≠ b2_1 := Nat.ne_of_lt (by rw [s_b2_1]; exact E_eUINT128.lt)
  have g_b2_1 : n0 ≤ b2_1 := by rw [s_b2_1]; exact Z0
  replace E_eUNKNOWN := E_eUNKNOWN.ext Ex
  replace F_eUNKNOWN_ordinal := F_eUNKNOWN_ordinal.ext Ex
  replace E_eCUSTOM := E_eCUSTOM.ext Ex
  replace F_eCUSTOM_ordinal := F_eCUSTOM_ordinal.ext Ex
  replace E_eUINT8 := E_eUINT8.ext Ex
  replace F_eUINT8_ordinal := F_eUINT8_ordinal.ext Ex
  replace E_eUINT16 := E_eUINT16.ext Ex
  replace F_eUINT16_ordinal := F_eUINT16_ordinal.ext Ex
  replace E_eUINT32 := E_eUINT32.ext Ex
  replace F_eUINT32_ordinal := F_eUINT32_ordinal.ext Ex
  replace E_eUINT64 := E_eUINT64.ext Ex
  replace F_eUINT64_ordinal := F_eUINT64_ordinal.ext Ex
  replace E_eSTRING := E_eSTRING.ext Ex
  replace F_eSTRING_ordinal := F_eSTRING_ordinal.ext Ex
  replace E_eDOUBLE := E_eDOUBLE.ext Ex
  replace F_eDOUBLE_ordinal := F_eDOUBLE_ordinal.ext Ex
  replace E_eIPV4 := E_eIPV4.ext Ex
  replace F_eIPV4_ordinal := F_eIPV4_ordinal.ext Ex
  replace E_eHASH16 := E_eHASH16.ext Ex
  replace F_eHASH16_ordinal := F_eHASH16_ordinal.ext Ex
  replace E_eUINT128 := E_eUINT128.ext Ex
  replace F_eUINT128_ordinal := F_eUINT128_ordinal.ext Ex
  replace S_UNKNOWN := S_UNKNOWN.ext Ex
  replace S_CUSTOM := S_CUSTOM.ext Ex
  replace S_UINT8 := S_UINT8.ext Ex
  replace S_UINT16 := S_UINT16.ext Ex
  replace S_UINT32 := S_UINT32.ext Ex
  replace S_UINT64 := S_UINT64.ext Ex
  replace S_STRING := S_STRING.ext Ex
  replace S_DOUBLE := S_DOUBLE.ext Ex
  replace S_IPV4 := S_IPV4.ext Ex
  replace S_HASH16 := S_HASH16.ext Ex
  replace S_UINT128 := S_UINT128.ext Ex
  replace Z0 := Nat.le_trans Z0 Ex.1
  refine g_dup X at_5 (pc' := 6) rfl rfl ?_
  refine g_iconst X (0 : Int32) at_6 (pc' := 7) rfl rfl ?_
  refine g_getstatic X (host := "") (Or.inl (tb hw 2 rfl)) Via.refl S_UNKNOWN at_7 (pc' := 10) rfl ?_
  intro T X
  refine g_aastore X V_b2_1 (O_b2_1.sto (Ins.self E_eUNKNOWN)) 0 at_10 (pc' := 11) rfl rfl (by decide) (by decide) (Nat.le_of_ble_eq_true rfl) ?_
  intro T h X W V_b2_1
  replace V_b2_1 : Av Z h b2_1 (.object "com/example/tagwire/tagwire/ec/EcTagType") [(.ref eUNKNOWN), .null, .null, .null, .null, .null, .null, .null, .null, .null, .null] := V_b2_1
  replace E_eUNKNOWN := E_eUNKNOWN.wr W
  replace F_eUNKNOWN_ordinal := F_eUNKNOWN_ordinal.other W (Or.inl ne_eUNKNOWN_b2_1)
  replace E_eCUSTOM := E_eCUSTOM.wr W
  replace F_eCUSTOM_ordinal := F_eCUSTOM_ordinal.other W (Or.inl ne_eCUSTOM_b2_1)
  replace E_eUINT8 := E_eUINT8.wr W
  replace F_eUINT8_ordinal := F_eUINT8_ordinal.other W (Or.inl ne_eUINT8_b2_1)
  replace E_eUINT16 := E_eUINT16.wr W
  replace F_eUINT16_ordinal := F_eUINT16_ordinal.other W (Or.inl ne_eUINT16_b2_1)
  replace E_eUINT32 := E_eUINT32.wr W
  replace F_eUINT32_ordinal := F_eUINT32_ordinal.other W (Or.inl ne_eUINT32_b2_1)
  replace E_eUINT64 := E_eUINT64.wr W
  replace F_eUINT64_ordinal := F_eUINT64_ordinal.other W (Or.inl ne_eUINT64_b2_1)
  replace E_eSTRING := E_eSTRING.wr W
  replace F_eSTRING_ordinal := F_eSTRING_ordinal.other W (Or.inl ne_eSTRING_b2_1)
  replace E_eDOUBLE := E_eDOUBLE.wr W
  replace F_eDOUBLE_ordinal := F_eDOUBLE_ordinal.other W (Or.inl ne_eDOUBLE_b2_1)
  replace E_eIPV4 := E_eIPV4.wr W
  replace F_eIPV4_ordinal := F_eIPV4_ordinal.other W (Or.inl ne_eIPV4_b2_1)
  replace E_eHASH16 := E_eHASH16.wr W
  replace F_eHASH16_ordinal := F_eHASH16_ordinal.other W (Or.inl ne_eHASH16_b2_1)
  replace E_eUINT128 := E_eUINT128.wr W
  replace F_eUINT128_ordinal := F_eUINT128_ordinal.other W (Or.inl ne_eUINT128_b2_1)
  replace E_b2_1 := E_b2_1.wr W
  replace O_b2_1 := O_b2_1.wr W
  replace S_UNKNOWN := S_UNKNOWN.wr W
  replace S_CUSTOM := S_CUSTOM.wr W
  replace S_UINT8 := S_UINT8.wr W
  replace S_UINT16 := S_UINT16.wr W
  replace S_UINT32 := S_UINT32.wr W
  replace S_UINT64 := S_UINT64.wr W
  replace S_STRING := S_STRING.wr W
  replace S_DOUBLE := S_DOUBLE.wr W
  replace S_IPV4 := S_IPV4.wr W
  replace S_HASH16 := S_HASH16.wr W
  replace S_UINT128 := S_UINT128.wr W
  replace Z0 := Nat.le_trans Z0 (Nat.le_of_eq W.size.symm)
  replace N := Fr.snoc X.1 N g_b2_1
  refine g_dup X at_11 (pc' := 12) rfl rfl ?_
  refine g_iconst X (1 : Int32) at_12 (pc' := 13) rfl rfl ?_
  refine g_getstatic X (host := "") (Or.inl (tb hw 6 rfl)) Via.refl S_CUSTOM at_13 (pc' := 16) rfl ?_
  intro T X
  refine g_aastore X V_b2_1 (O_b2_1.sto (Ins.self E_eCUSTOM)) 1 at_16 (pc' := 17) rfl rfl (by decide) (by decide) (Nat.le_of_ble_eq_true rfl) ?_
  intro T h X W V_b2_1
  replace V_b2_1 : Av Z h b2_1 (.object "com/example/tagwire/tagwire/ec/EcTagType") [(.ref eUNKNOWN), (.ref eCUSTOM), .null, .null, .null, .null, .null, .null, .null, .null, .null] := V_b2_1
  replace E_eUNKNOWN := E_eUNKNOWN.wr W
  replace F_eUNKNOWN_ordinal := F_eUNKNOWN_ordinal.other W (Or.inl ne_eUNKNOWN_b2_1)
  replace E_eCUSTOM := E_eCUSTOM.wr W
  replace F_eCUSTOM_ordinal := F_eCUSTOM_ordinal.other W (Or.inl ne_eCUSTOM_b2_1)
  replace E_eUINT8 := E_eUINT8.wr W
  replace F_eUINT8_ordinal := F_eUINT8_ordinal.other W (Or.inl ne_eUINT8_b2_1)
  replace E_eUINT16 := E_eUINT16.wr W
  replace F_eUINT16_ordinal := F_eUINT16_ordinal.other W (Or.inl ne_eUINT16_b2_1)
  replace E_eUINT32 := E_eUINT32.wr W
  replace F_eUINT32_ordinal := F_eUINT32_ordinal.other W (Or.inl ne_eUINT32_b2_1)
  replace E_eUINT64 := E_eUINT64.wr W
  replace F_eUINT64_ordinal := F_eUINT64_ordinal.other W (Or.inl ne_eUINT64_b2_1)
  replace E_eSTRING := E_eSTRING.wr W
  replace F_eSTRING_ordinal := F_eSTRING_ordinal.other W (Or.inl ne_eSTRING_b2_1)
  replace E_eDOUBLE := E_eDOUBLE.wr W
  replace F_eDOUBLE_ordinal := F_eDOUBLE_ordinal.other W (Or.inl ne_eDOUBLE_b2_1)
  replace E_eIPV4 := E_eIPV4.wr W
  replace F_eIPV4_ordinal := F_eIPV4_ordinal.other W (Or.inl ne_eIPV4_b2_1)
  replace E_eHASH16 := E_eHASH16.wr W
  replace F_eHASH16_ordinal := F_eHASH16_ordinal.other W (Or.inl ne_eHASH16_b2_1)
  replace E_eUINT128 := E_eUINT128.wr W
  replace F_eUINT128_ordinal := F_eUINT128_ordinal.other W (Or.inl ne_eUINT128_b2_1)
  replace E_b2_1 := E_b2_1.wr W
  replace O_b2_1 := O_b2_1.wr W
  replace S_UNKNOWN := S_UNKNOWN.wr W
  replace S_CUSTOM := S_CUSTOM.wr W
  replace S_UINT8 := S_UINT8.wr W
  replace S_UINT16 := S_UINT16.wr W
  replace S_UINT32 := S_UINT32.wr W
  replace S_UINT64 := S_UINT64.wr W
  replace S_STRING := S_STRING.wr W
  replace S_DOUBLE := S_DOUBLE.wr W
  replace S_IPV4 := S_IPV4.wr W
  replace S_HASH16 := S_HASH16.wr W
  replace S_UINT128 := S_UINT128.wr W
  replace Z0 := Nat.le_trans Z0 (Nat.le_of_eq W.size.symm)
  replace N := Fr.snoc X.1 N g_b2_1
  refine g_dup X at_17 (pc' := 18) rfl rfl ?_
  refine g_iconst X (2 : Int32) at_18 (pc' := 19) rfl rfl ?_
  refine g_getstatic X (host := "") (Or.inl (tb hw 8 rfl)) Via.refl S_UINT8 at_19 (pc' := 22) rfl ?_
  intro T X
  refine g_aastore X V_b2_1 (O_b2_1.sto (Ins.self E_eUINT8)) 2 at_22 (pc' := 23) rfl rfl (by decide) (by decide) (Nat.le_of_ble_eq_true rfl) ?_
  intro T h X W V_b2_1
  replace V_b2_1 : Av Z h b2_1 (.object "com/example/tagwire/tagwire/ec/EcTagType") [(.ref eUNKNOWN), (.ref eCUSTOM), (.ref eUINT8), .null, .null, .null, .null, .null, .null, .null, .null] := V_b2_1
  replace E_eUNKNOWN := E_eUNKNOWN.wr W
  replace F_eUNKNOWN_ordinal := F_eUNKNOWN_ordinal.other W (Or.inl ne_eUNKNOWN_b2_1)
  replace E_eCUSTOM := E_eCUSTOM.wr W
  replace F_eCUSTOM_ordinal := F_eCUSTOM_ordinal.other W (Or.inl ne_eCUSTOM_b2_1)
  replace E_eUINT8 := E_eUINT8.wr W
  replace F_eUINT8_ordinal := F_eUINT8_ordinal.other W (Or.inl ne_eUINT8_b2_1)
  replace E_eUINT16 := E_eUINT16.wr W
  replace F_eUINT16_ordinal := F_eUINT16_ordinal.other W (Or.inl ne_eUINT16_b2_1)
  replace E_eUINT32 := E_eUINT32.wr W
  replace F_eUINT32_ordinal := F_eUINT32_ordinal.other W (Or.inl ne_eUINT32_b2_1)
  replace E_eUINT64 := E_eUINT64.wr W
  replace F_eUINT64_ordinal := F_eUINT64_ordinal.other W (Or.inl ne_eUINT64_b2_1)
  replace E_eSTRING := E_eSTRING.wr W
  replace F_eSTRING_ordinal := F_eSTRING_ordinal.other W (Or.inl ne_eSTRING_b2_1)
  replace E_eDOUBLE := E_eDOUBLE.wr W
  replace F_eDOUBLE_ordinal := F_eDOUBLE_ordinal.other W (Or.inl ne_eDOUBLE_b2_1)
  replace E_eIPV4 := E_eIPV4.wr W
  replace F_eIPV4_ordinal := F_eIPV4_ordinal.other W (Or.inl ne_eIPV4_b2_1)
  replace E_eHASH16 := E_eHASH16.wr W
  replace F_eHASH16_ordinal := F_eHASH16_ordinal.other W (Or.inl ne_eHASH16_b2_1)
  replace E_eUINT128 := E_eUINT128.wr W
  replace F_eUINT128_ordinal := F_eUINT128_ordinal.other W (Or.inl ne_eUINT128_b2_1)
  replace E_b2_1 := E_b2_1.wr W
  replace O_b2_1 := O_b2_1.wr W
  replace S_UNKNOWN := S_UNKNOWN.wr W
  replace S_CUSTOM := S_CUSTOM.wr W
  replace S_UINT8 := S_UINT8.wr W
  replace S_UINT16 := S_UINT16.wr W
  replace S_UINT32 := S_UINT32.wr W
  replace S_UINT64 := S_UINT64.wr W
  replace S_STRING := S_STRING.wr W
  replace S_DOUBLE := S_DOUBLE.wr W
  replace S_IPV4 := S_IPV4.wr W
  replace S_HASH16 := S_HASH16.wr W
  replace S_UINT128 := S_UINT128.wr W
  replace Z0 := Nat.le_trans Z0 (Nat.le_of_eq W.size.symm)
  replace N := Fr.snoc X.1 N g_b2_1
  refine g_dup X at_23 (pc' := 24) rfl rfl ?_
  refine g_iconst X (3 : Int32) at_24 (pc' := 25) rfl rfl ?_
  refine g_getstatic X (host := "") (Or.inl (tb hw 10 rfl)) Via.refl S_UINT16 at_25 (pc' := 28) rfl ?_
  intro T X
  refine g_aastore X V_b2_1 (O_b2_1.sto (Ins.self E_eUINT16)) 3 at_28 (pc' := 29) rfl rfl (by decide) (by decide) (Nat.le_of_ble_eq_true rfl) ?_
  intro T h X W V_b2_1
  replace V_b2_1 : Av Z h b2_1 (.object "com/example/tagwire/tagwire/ec/EcTagType") [(.ref eUNKNOWN), (.ref eCUSTOM), (.ref eUINT8), (.ref eUINT16), .null, .null, .null, .null, .null, .null, .null] := V_b2_1
  replace E_eUNKNOWN := E_eUNKNOWN.wr W
  replace F_eUNKNOWN_ordinal := F_eUNKNOWN_ordinal.other W (Or.inl ne_eUNKNOWN_b2_1)
  replace E_eCUSTOM := E_eCUSTOM.wr W
  replace F_eCUSTOM_ordinal := F_eCUSTOM_ordinal.other W (Or.inl ne_eCUSTOM_b2_1)
  replace E_eUINT8 := E_eUINT8.wr W
  replace F_eUINT8_ordinal := F_eUINT8_ordinal.other W (Or.inl ne_eUINT8_b2_1)
  replace E_eUINT16 := E_eUINT16.wr W
  replace F_eUINT16_ordinal := F_eUINT16_ordinal.other W (Or.inl ne_eUINT16_b2_1)
  replace E_eUINT32 := E_eUINT32.wr W
  replace F_eUINT32_ordinal := F_eUINT32_ordinal.other W (Or.inl ne_eUINT32_b2_1)
  replace E_eUINT64 := E_eUINT64.wr W
  replace F_eUINT64_ordinal := F_eUINT64_ordinal.other W (Or.inl ne_eUINT64_b2_1)
  replace E_eSTRING := E_eSTRING.wr W
  replace F_eSTRING_ordinal := F_eSTRING_ordinal.other W (Or.inl ne_eSTRING_b2_1)
  replace E_eDOUBLE := E_eDOUBLE.wr W
  replace F_eDOUBLE_ordinal := F_eDOUBLE_ordinal.other W (Or.inl ne_eDOUBLE_b2_1)
  replace E_eIPV4 := E_eIPV4.wr W
  replace F_eIPV4_ordinal := F_eIPV4_ordinal.other W (Or.inl ne_eIPV4_b2_1)
  replace E_eHASH16 := E_eHASH16.wr W
  replace F_eHASH16_ordinal := F_eHASH16_ordinal.other W (Or.inl ne_eHASH16_b2_1)
  replace E_eUINT128 := E_eUINT128.wr W
  replace F_eUINT128_ordinal := F_eUINT128_ordinal.other W (Or.inl ne_eUINT128_b2_1)
  replace E_b2_1 := E_b2_1.wr W
  replace O_b2_1 := O_b2_1.wr W
  replace S_UNKNOWN := S_UNKNOWN.wr W
  replace S_CUSTOM := S_CUSTOM.wr W
  replace S_UINT8 := S_UINT8.wr W
  replace S_UINT16 := S_UINT16.wr W
  replace S_UINT32 := S_UINT32.wr W
  replace S_UINT64 := S_UINT64.wr W
  replace S_STRING := S_STRING.wr W
  replace S_DOUBLE := S_DOUBLE.wr W
  replace S_IPV4 := S_IPV4.wr W
  replace S_HASH16 := S_HASH16.wr W
  replace S_UINT128 := S_UINT128.wr W
  replace Z0 := Nat.le_trans Z0 (Nat.le_of_eq W.size.symm)
  replace N := Fr.snoc X.1 N g_b2_1
  refine g_dup X at_29 (pc' := 30) rfl rfl ?_
  refine g_iconst X (4 : Int32) at_30 (pc' := 31) rfl rfl ?_
  refine g_getstatic X (host := "") (Or.inl (tb hw 12 rfl)) Via.refl S_UINT32 at_31 (pc' := 34) rfl ?_
  intro T X
  refine g_aastore X V_b2_1 (O_b2_1.sto (Ins.self E_eUINT32)) 4 at_34 (pc' := 35) rfl rfl (by decide) (by decide) (Nat.le_of_ble_eq_true rfl) ?_
  intro T h X W V_b2_1
  replace V_b2_1 : Av Z h b2_1 (.object "com/example/tagwire/tagwire/ec/EcTagType") [(.ref eUNKNOWN), (.ref eCUSTOM), (.ref eUINT8), (.ref eUINT16), (.ref eUINT32), .null, .null, .null, .null, .null, .null] := V_b2_1
  replace E_eUNKNOWN := E_eUNKNOWN.wr W
  replace F_eUNKNOWN_ordinal := F_eUNKNOWN_ordinal.other W (Or.inl ne_eUNKNOWN_b2_1)
  replace E_eCUSTOM := E_eCUSTOM.wr W
  replace F_eCUSTOM_ordinal := F_eCUSTOM_ordinal.other W (Or.inl ne_eCUSTOM_b2_1)
  replace E_eUINT8 := E_eUINT8.wr W
  replace F_eUINT8_ordinal := F_eUINT8_ordinal.other W (Or.inl ne_eUINT8_b2_1)
  replace E_eUINT16 := E_eUINT16.wr W
  replace F_eUINT16_ordinal := F_eUINT16_ordinal.other W (Or.inl ne_eUINT16_b2_1)
  replace E_eUINT32 := E_eUINT32.wr W
  replace F_eUINT32_ordinal := F_eUINT32_ordinal.other W (Or.inl ne_eUINT32_b2_1)
  replace E_eUINT64 := E_eUINT64.wr W
  replace F_eUINT64_ordinal := F_eUINT64_ordinal.other W (Or.inl ne_eUINT64_b2_1)
  replace E_eSTRING := E_eSTRING.wr W
  replace F_eSTRING_ordinal := F_eSTRING_ordinal.other W (Or.inl ne_eSTRING_b2_1)
  replace E_eDOUBLE := E_eDOUBLE.wr W
  replace F_eDOUBLE_ordinal := F_eDOUBLE_ordinal.other W (Or.inl ne_eDOUBLE_b2_1)
  replace E_eIPV4 := E_eIPV4.wr W
  replace F_eIPV4_ordinal := F_eIPV4_ordinal.other W (Or.inl ne_eIPV4_b2_1)
  replace E_eHASH16 := E_eHASH16.wr W
  replace F_eHASH16_ordinal := F_eHASH16_ordinal.other W (Or.inl ne_eHASH16_b2_1)
  replace E_eUINT128 := E_eUINT128.wr W
  replace F_eUINT128_ordinal := F_eUINT128_ordinal.other W (Or.inl ne_eUINT128_b2_1)
  replace E_b2_1 := E_b2_1.wr W
  replace O_b2_1 := O_b2_1.wr W
  replace S_UNKNOWN := S_UNKNOWN.wr W
  replace S_CUSTOM := S_CUSTOM.wr W
  replace S_UINT8 := S_UINT8.wr W
  replace S_UINT16 := S_UINT16.wr W
  replace S_UINT32 := S_UINT32.wr W
  replace S_UINT64 := S_UINT64.wr W
  replace S_STRING := S_STRING.wr W
  replace S_DOUBLE := S_DOUBLE.wr W
  replace S_IPV4 := S_IPV4.wr W
  replace S_HASH16 := S_HASH16.wr W
  replace S_UINT128 := S_UINT128.wr W
  replace Z0 := Nat.le_trans Z0 (Nat.le_of_eq W.size.symm)
  replace N := Fr.snoc X.1 N g_b2_1
  refine g_dup X at_35 (pc' := 36) rfl rfl ?_
  refine g_iconst X (5 : Int32) at_36 (pc' := 37) rfl rfl ?_
  refine g_getstatic X (host := "") (Or.inl (tb hw 14 rfl)) Via.refl S_UINT64 at_37 (pc' := 40) rfl ?_
  intro T X
  refine g_aastore X V_b2_1 (O_b2_1.sto (Ins.self E_eUINT64)) 5 at_40 (pc' := 41) rfl rfl (by decide) (by decide) (Nat.le_of_ble_eq_true rfl) ?_
  intro T h X W V_b2_1
  replace V_b2_1 : Av Z h b2_1 (.object "com/example/tagwire/tagwire/ec/EcTagType") [(.ref eUNKNOWN), (.ref eCUSTOM), (.ref eUINT8), (.ref eUINT16), (.ref eUINT32), (.ref eUINT64), .null, .null, .null, .null, .null] := V_b2_1
  replace E_eUNKNOWN := E_eUNKNOWN.wr W
  replace F_eUNKNOWN_ordinal := F_eUNKNOWN_ordinal.other W (Or.inl ne_eUNKNOWN_b2_1)
  replace E_eCUSTOM := E_eCUSTOM.wr W
  replace F_eCUSTOM_ordinal := F_eCUSTOM_ordinal.other W (Or.inl ne_eCUSTOM_b2_1)
  replace E_eUINT8 := E_eUINT8.wr W
  replace F_eUINT8_ordinal := F_eUINT8_ordinal.other W (Or.inl ne_eUINT8_b2_1)
  replace E_eUINT16 := E_eUINT16.wr W
  replace F_eUINT16_ordinal := F_eUINT16_ordinal.other W (Or.inl ne_eUINT16_b2_1)
  replace E_eUINT32 := E_eUINT32.wr W
  replace F_eUINT32_ordinal := F_eUINT32_ordinal.other W (Or.inl ne_eUINT32_b2_1)
  replace E_eUINT64 := E_eUINT64.wr W
  replace F_eUINT64_ordinal := F_eUINT64_ordinal.other W (Or.inl ne_eUINT64_b2_1)
  replace E_eSTRING := E_eSTRING.wr W
  replace F_eSTRING_ordinal := F_eSTRING_ordinal.other W (Or.inl ne_eSTRING_b2_1)
  replace E_eDOUBLE := E_eDOUBLE.wr W
  replace F_eDOUBLE_ordinal := F_eDOUBLE_ordinal.other W (Or.inl ne_eDOUBLE_b2_1)
  replace E_eIPV4 := E_eIPV4.wr W
  replace F_eIPV4_ordinal := F_eIPV4_ordinal.other W (Or.inl ne_eIPV4_b2_1)
  replace E_eHASH16 := E_eHASH16.wr W
  replace F_eHASH16_ordinal := F_eHASH16_ordinal.other W (Or.inl ne_eHASH16_b2_1)
  replace E_eUINT128 := E_eUINT128.wr W
  replace F_eUINT128_ordinal := F_eUINT128_ordinal.other W (Or.inl ne_eUINT128_b2_1)
  replace E_b2_1 := E_b2_1.wr W
  replace O_b2_1 := O_b2_1.wr W
  replace S_UNKNOWN := S_UNKNOWN.wr W
  replace S_CUSTOM := S_CUSTOM.wr W
  replace S_UINT8 := S_UINT8.wr W
  replace S_UINT16 := S_UINT16.wr W
  replace S_UINT32 := S_UINT32.wr W
  replace S_UINT64 := S_UINT64.wr W
  replace S_STRING := S_STRING.wr W
  replace S_DOUBLE := S_DOUBLE.wr W
  replace S_IPV4 := S_IPV4.wr W
  replace S_HASH16 := S_HASH16.wr W
  replace S_UINT128 := S_UINT128.wr W
  replace Z0 := Nat.le_trans Z0 (Nat.le_of_eq W.size.symm)
  replace N := Fr.snoc X.1 N g_b2_1
  refine g_dup X at_41 (pc' := 42) rfl rfl ?_
  refine g_bipush X (6 : Int32) at_42 (pc' := 44) rfl rfl ?_
  refine g_getstatic X (host := "") (Or.inl (tb hw 16 rfl)) Via.refl S_STRING at_44 (pc' := 47) rfl ?_
  intro T X
  refine g_aastore X V_b2_1 (O_b2_1.sto (Ins.self E_eSTRING)) 6 at_47 (pc' := 48) rfl rfl (by decide) (by decide) (Nat.le_of_ble_eq_true rfl) ?_
  intro T h X W V_b2_1
  replace V_b2_1 : Av Z h b2_1 (.object "com/example/tagwire/tagwire/ec/EcTagType") [(.ref eUNKNOWN), (.ref eCUSTOM), (.ref eUINT8), (.ref eUINT16), (.ref eUINT32), (.ref eUINT64), (.ref eSTRING), .null, .null, .null, .null] := V_b2_1
  replace E_eUNKNOWN := E_eUNKNOWN.wr W
  replace F_eUNKNOWN_ordinal := F_eUNKNOWN_ordinal.other W (Or.inl ne_eUNKNOWN_b2_1)
  replace E_eCUSTOM := E_eCUSTOM.wr W
  replace F_eCUSTOM_ordinal := F_eCUSTOM_ordinal.other W (Or.inl ne_eCUSTOM_b2_1)
  replace E_eUINT8 := E_eUINT8.wr W
  replace F_eUINT8_ordinal := F_eUINT8_ordinal.other W (Or.inl ne_eUINT8_b2_1)
  replace E_eUINT16 := E_eUINT16.wr W
  replace F_eUINT16_ordinal := F_eUINT16_ordinal.other W (Or.inl ne_eUINT16_b2_1)
  replace E_eUINT32 := E_eUINT32.wr W
  replace F_eUINT32_ordinal := F_eUINT32_ordinal.other W (Or.inl ne_eUINT32_b2_1)
  replace E_eUINT64 := E_eUINT64.wr W
  replace F_eUINT64_ordinal := F_eUINT64_ordinal.other W (Or.inl ne_eUINT64_b2_1)
  replace E_eSTRING := E_eSTRING.wr W
  replace F_eSTRING_ordinal := F_eSTRING_ordinal.other W (Or.inl ne_eSTRING_b2_1)
  replace E_eDOUBLE := E_eDOUBLE.wr W
  replace F_eDOUBLE_ordinal := F_eDOUBLE_ordinal.other W (Or.inl ne_eDOUBLE_b2_1)
  replace E_eIPV4 := E_eIPV4.wr W
  replace F_eIPV4_ordinal := F_eIPV4_ordinal.other W (Or.inl ne_eIPV4_b2_1)
  replace E_eHASH16 := E_eHASH16.wr W
  replace F_eHASH16_ordinal := F_eHASH16_ordinal.other W (Or.inl ne_eHASH16_b2_1)
  replace E_eUINT128 := E_eUINT128.wr W
  replace F_eUINT128_ordinal := F_eUINT128_ordinal.other W (Or.inl ne_eUINT128_b2_1)
  replace E_b2_1 := E_b2_1.wr W
  replace O_b2_1 := O_b2_1.wr W
  replace S_UNKNOWN := S_UNKNOWN.wr W
  replace S_CUSTOM := S_CUSTOM.wr W
  replace S_UINT8 := S_UINT8.wr W
  replace S_UINT16 := S_UINT16.wr W
  replace S_UINT32 := S_UINT32.wr W
  replace S_UINT64 := S_UINT64.wr W
  replace S_STRING := S_STRING.wr W
  replace S_DOUBLE := S_DOUBLE.wr W
  replace S_IPV4 := S_IPV4.wr W
  replace S_HASH16 := S_HASH16.wr W
  replace S_UINT128 := S_UINT128.wr W
  replace Z0 := Nat.le_trans Z0 (Nat.le_of_eq W.size.symm)
  replace N := Fr.snoc X.1 N g_b2_1
  refine g_dup X at_48 (pc' := 49) rfl rfl ?_
  refine g_bipush X (7 : Int32) at_49 (pc' := 51) rfl rfl ?_
  refine g_getstatic X (host := "") (Or.inl (tb hw 18 rfl)) Via.refl S_DOUBLE at_51 (pc' := 54) rfl ?_
  intro T X
  refine g_aastore X V_b2_1 (O_b2_1.sto (Ins.self E_eDOUBLE)) 7 at_54 (pc' := 55) rfl rfl (by decide) (by decide) (Nat.le_of_ble_eq_true rfl) ?_
  intro T h X W V_b2_1
  replace V_b2_1 : Av Z h b2_1 (.object "com/example/tagwire/tagwire/ec/EcTagType") [(.ref eUNKNOWN), (.ref eCUSTOM), (.ref eUINT8), (.ref eUINT16), (.ref eUINT32), (.ref eUINT64), (.ref eSTRING), (.ref eDOUBLE), .null, .null, .null] := V_b2_1
  replace E_eUNKNOWN := E_eUNKNOWN.wr W
  replace F_eUNKNOWN_ordinal := F_eUNKNOWN_ordinal.other W (Or.inl ne_eUNKNOWN_b2_1)
  replace E_eCUSTOM := E_eCUSTOM.wr W
  replace F_eCUSTOM_ordinal := F_eCUSTOM_ordinal.other W (Or.inl ne_eCUSTOM_b2_1)
  replace E_eUINT8 := E_eUINT8.wr W
  replace F_eUINT8_ordinal := F_eUINT8_ordinal.other W (Or.inl ne_eUINT8_b2_1)
  replace E_eUINT16 := E_eUINT16.wr W
  replace F_eUINT16_ordinal := F_eUINT16_ordinal.other W (Or.inl ne_eUINT16_b2_1)
  replace E_eUINT32 := E_eUINT32.wr W
  replace F_eUINT32_ordinal := F_eUINT32_ordinal.other W (Or.inl ne_eUINT32_b2_1)
  replace E_eUINT64 := E_eUINT64.wr W
  replace F_eUINT64_ordinal := F_eUINT64_ordinal.other W (Or.inl ne_eUINT64_b2_1)
  replace E_eSTRING := E_eSTRING.wr W
  replace F_eSTRING_ordinal := F_eSTRING_ordinal.other W (Or.inl ne_eSTRING_b2_1)
  replace E_eDOUBLE := E_eDOUBLE.wr W
  replace F_eDOUBLE_ordinal := F_eDOUBLE_ordinal.other W (Or.inl ne_eDOUBLE_b2_1)
  replace E_eIPV4 := E_eIPV4.wr W
  replace F_eIPV4_ordinal := F_eIPV4_ordinal.other W (Or.inl ne_eIPV4_b2_1)
  replace E_eHASH16 := E_eHASH16.wr W
  replace F_eHASH16_ordinal := F_eHASH16_ordinal.other W (Or.inl ne_eHASH16_b2_1)
  replace E_eUINT128 := E_eUINT128.wr W
  replace F_eUINT128_ordinal := F_eUINT128_ordinal.other W (Or.inl ne_eUINT128_b2_1)
  replace E_b2_1 := E_b2_1.wr W
  replace O_b2_1 := O_b2_1.wr W
  replace S_UNKNOWN := S_UNKNOWN.wr W
  replace S_CUSTOM := S_CUSTOM.wr W
  replace S_UINT8 := S_UINT8.wr W
  replace S_UINT16 := S_UINT16.wr W
  replace S_UINT32 := S_UINT32.wr W
  replace S_UINT64 := S_UINT64.wr W
  replace S_STRING := S_STRING.wr W
  replace S_DOUBLE := S_DOUBLE.wr W
  replace S_IPV4 := S_IPV4.wr W
  replace S_HASH16 := S_HASH16.wr W
  replace S_UINT128 := S_UINT128.wr W
  replace Z0 := Nat.le_trans Z0 (Nat.le_of_eq W.size.symm)
  replace N := Fr.snoc X.1 N g_b2_1
  refine g_dup X at_55 (pc' := 56) rfl rfl ?_
  refine g_bipush X (8 : Int32) at_56 (pc' := 58) rfl rfl ?_
  refine g_getstatic X (host := "") (Or.inl (tb hw 20 rfl)) Via.refl S_IPV4 at_58 (pc' := 61) rfl ?_
  intro T X
  refine g_aastore X V_b2_1 (O_b2_1.sto (Ins.self E_eIPV4)) 8 at_61 (pc' := 62) rfl rfl (by decide) (by decide) (Nat.le_of_ble_eq_true rfl) ?_
  intro T h X W V_b2_1
  replace V_b2_1 : Av Z h b2_1 (.object "com/example/tagwire/tagwire/ec/EcTagType") [(.ref eUNKNOWN), (.ref eCUSTOM), (.ref eUINT8), (.ref eUINT16), (.ref eUINT32), (.ref eUINT64), (.ref eSTRING), (.ref eDOUBLE), (.ref eIPV4), .null, .null] := V_b2_1
  replace E_eUNKNOWN := E_eUNKNOWN.wr W
  replace F_eUNKNOWN_ordinal := F_eUNKNOWN_ordinal.other W (Or.inl ne_eUNKNOWN_b2_1)
  replace E_eCUSTOM := E_eCUSTOM.wr W
  replace F_eCUSTOM_ordinal := F_eCUSTOM_ordinal.other W (Or.inl ne_eCUSTOM_b2_1)
  replace E_eUINT8 := E_eUINT8.wr W
  replace F_eUINT8_ordinal := F_eUINT8_ordinal.other W (Or.inl ne_eUINT8_b2_1)
  replace E_eUINT16 := E_eUINT16.wr W
  replace F_eUINT16_ordinal := F_eUINT16_ordinal.other W (Or.inl ne_eUINT16_b2_1)
  replace E_eUINT32 := E_eUINT32.wr W
  replace F_eUINT32_ordinal := F_eUINT32_ordinal.other W (Or.inl ne_eUINT32_b2_1)
  replace E_eUINT64 := E_eUINT64.wr W
  replace F_eUINT64_ordinal := F_eUINT64_ordinal.other W (Or.inl ne_eUINT64_b2_1)
  replace E_eSTRING := E_eSTRING.wr W
  replace F_eSTRING_ordinal := F_eSTRING_ordinal.other W (Or.inl ne_eSTRING_b2_1)
  replace E_eDOUBLE := E_eDOUBLE.wr W
  replace F_eDOUBLE_ordinal := F_eDOUBLE_ordinal.other W (Or.inl ne_eDOUBLE_b2_1)
  replace E_eIPV4 := E_eIPV4.wr W
  replace F_eIPV4_ordinal := F_eIPV4_ordinal.other W (Or.inl ne_eIPV4_b2_1)
  replace E_eHASH16 := E_eHASH16.wr W
  replace F_eHASH16_ordinal := F_eHASH16_ordinal.other W (Or.inl ne_eHASH16_b2_1)
  replace E_eUINT128 := E_eUINT128.wr W
  replace F_eUINT128_ordinal := F_eUINT128_ordinal.other W (Or.inl ne_eUINT128_b2_1)
  replace E_b2_1 := E_b2_1.wr W
  replace O_b2_1 := O_b2_1.wr W
  replace S_UNKNOWN := S_UNKNOWN.wr W
  replace S_CUSTOM := S_CUSTOM.wr W
  replace S_UINT8 := S_UINT8.wr W
  replace S_UINT16 := S_UINT16.wr W
  replace S_UINT32 := S_UINT32.wr W
  replace S_UINT64 := S_UINT64.wr W
  replace S_STRING := S_STRING.wr W
  replace S_DOUBLE := S_DOUBLE.wr W
  replace S_IPV4 := S_IPV4.wr W
  replace S_HASH16 := S_HASH16.wr W
  replace S_UINT128 := S_UINT128.wr W
  replace Z0 := Nat.le_trans Z0 (Nat.le_of_eq W.size.symm)
  replace N := Fr.snoc X.1 N g_b2_1
  refine g_dup X at_62 (pc' := 63) rfl rfl ?_
  refine g_bipush X (9 : Int32) at_63 (pc' := 65) rfl rfl ?_
  refine g_getstatic X (host := "") (Or.inl (tb hw 22 rfl)) Via.refl S_HASH16 at_65 (pc' := 68) rfl ?_
  intro T X
  refine g_aastore X V_b2_1 (O_b2_1.sto (Ins.self E_eHASH16)) 9 at_68 (pc' := 69) rfl rfl (by decide) (by decide) (Nat.le_of_ble_eq_true rfl) ?_
  intro T h X W V_b2_1
  replace V_b2_1 : Av Z h b2_1 (.object "com/example/tagwire/tagwire/ec/EcTagType") [(.ref eUNKNOWN), (.ref eCUSTOM), (.ref eUINT8), (.ref eUINT16), (.ref eUINT32), (.ref eUINT64), (.ref eSTRING), (.ref eDOUBLE), (.ref eIPV4), (.ref eHASH16), .null] := V_b2_1
  replace E_eUNKNOWN := E_eUNKNOWN.wr W
  replace F_eUNKNOWN_ordinal := F_eUNKNOWN_ordinal.other W (Or.inl ne_eUNKNOWN_b2_1)
  replace E_eCUSTOM := E_eCUSTOM.wr W
  replace F_eCUSTOM_ordinal := F_eCUSTOM_ordinal.other W (Or.inl ne_eCUSTOM_b2_1)
  replace E_eUINT8 := E_eUINT8.wr W
  replace F_eUINT8_ordinal := F_eUINT8_ordinal.other W (Or.inl ne_eUINT8_b2_1)
  replace E_eUINT16 := E_eUINT16.wr W
  replace F_eUINT16_ordinal := F_eUINT16_ordinal.other W (Or.inl ne_eUINT16_b2_1)
  replace E_eUINT32 := E_eUINT32.wr W
  replace F_eUINT32_ordinal := F_eUINT32_ordinal.other W (Or.inl ne_eUINT32_b2_1)
  replace E_eUINT64 := E_eUINT64.wr W
  replace F_eUINT64_ordinal := F_eUINT64_ordinal.other W (Or.inl ne_eUINT64_b2_1)
  replace E_eSTRING := E_eSTRING.wr W
  replace F_eSTRING_ordinal := F_eSTRING_ordinal.other W (Or.inl ne_eSTRING_b2_1)
  replace E_eDOUBLE := E_eDOUBLE.wr W
  replace F_eDOUBLE_ordinal := F_eDOUBLE_ordinal.other W (Or.inl ne_eDOUBLE_b2_1)
  replace E_eIPV4 := E_eIPV4.wr W
  replace F_eIPV4_ordinal := F_eIPV4_ordinal.other W (Or.inl ne_eIPV4_b2_1)
  replace E_eHASH16 := E_eHASH16.wr W
  replace F_eHASH16_ordinal := F_eHASH16_ordinal.other W (Or.inl ne_eHASH16_b2_1)
  replace E_eUINT128 := E_eUINT128.wr W
  replace F_eUINT128_ordinal := F_eUINT128_ordinal.other W (Or.inl ne_eUINT128_b2_1)
  replace E_b2_1 := E_b2_1.wr W
  replace O_b2_1 := O_b2_1.wr W
  replace S_UNKNOWN := S_UNKNOWN.wr W
  replace S_CUSTOM := S_CUSTOM.wr W
  replace S_UINT8 := S_UINT8.wr W
  replace S_UINT16 := S_UINT16.wr W
  replace S_UINT32 := S_UINT32.wr W
  replace S_UINT64 := S_UINT64.wr W
  replace S_STRING := S_STRING.wr W
  replace S_DOUBLE := S_DOUBLE.wr W
  replace S_IPV4 := S_IPV4.wr W
  replace S_HASH16 := S_HASH16.wr W
  replace S_UINT128 := S_UINT128.wr W
  replace Z0 := Nat.le_trans Z0 (Nat.le_of_eq W.size.symm)
  replace N := Fr.snoc X.1 N g_b2_1
  refine g_dup X at_69 (pc' := 70) rfl rfl ?_
  refine g_bipush X (10 : Int32) at_70 (pc' := 72) rfl rfl ?_
  refine g_getstatic X (host := "") (Or.inl (tb hw 24 rfl)) Via.refl S_UINT128 at_72 (pc' := 75) rfl ?_
  intro T X
  refine g_aastore X V_b2_1 (O_b2_1.sto (Ins.self E_eUINT128)) 10 at_75 (pc' := 76) rfl rfl (by decide) (by decide) (Nat.le_of_ble_eq_true rfl) ?_
  intro T h X W V_b2_1
  replace V_b2_1 : Av Z h b2_1 (.object "com/example/tagwire/tagwire/ec/EcTagType") [(.ref eUNKNOWN), (.ref eCUSTOM), (.ref eUINT8), (.ref eUINT16), (.ref eUINT32), (.ref eUINT64), (.ref eSTRING), (.ref eDOUBLE), (.ref eIPV4), (.ref eHASH16), (.ref eUINT128)] := V_b2_1
  replace E_eUNKNOWN := E_eUNKNOWN.wr W
  replace F_eUNKNOWN_ordinal := F_eUNKNOWN_ordinal.other W (Or.inl ne_eUNKNOWN_b2_1)
  replace E_eCUSTOM := E_eCUSTOM.wr W
  replace F_eCUSTOM_ordinal := F_eCUSTOM_ordinal.other W (Or.inl ne_eCUSTOM_b2_1)
  replace E_eUINT8 := E_eUINT8.wr W
  replace F_eUINT8_ordinal := F_eUINT8_ordinal.other W (Or.inl ne_eUINT8_b2_1)
  replace E_eUINT16 := E_eUINT16.wr W
  replace F_eUINT16_ordinal := F_eUINT16_ordinal.other W (Or.inl ne_eUINT16_b2_1)
  replace E_eUINT32 := E_eUINT32.wr W
  replace F_eUINT32_ordinal := F_eUINT32_ordinal.other W (Or.inl ne_eUINT32_b2_1)
  replace E_eUINT64 := E_eUINT64.wr W
  replace F_eUINT64_ordinal := F_eUINT64_ordinal.other W (Or.inl ne_eUINT64_b2_1)
  replace E_eSTRING := E_eSTRING.wr W
  replace F_eSTRING_ordinal := F_eSTRING_ordinal.other W (Or.inl ne_eSTRING_b2_1)
  replace E_eDOUBLE := E_eDOUBLE.wr W
  replace F_eDOUBLE_ordinal := F_eDOUBLE_ordinal.other W (Or.inl ne_eDOUBLE_b2_1)
  replace E_eIPV4 := E_eIPV4.wr W
  replace F_eIPV4_ordinal := F_eIPV4_ordinal.other W (Or.inl ne_eIPV4_b2_1)
  replace E_eHASH16 := E_eHASH16.wr W
  replace F_eHASH16_ordinal := F_eHASH16_ordinal.other W (Or.inl ne_eHASH16_b2_1)
  replace E_eUINT128 := E_eUINT128.wr W
  replace F_eUINT128_ordinal := F_eUINT128_ordinal.other W (Or.inl ne_eUINT128_b2_1)
  replace E_b2_1 := E_b2_1.wr W
  replace O_b2_1 := O_b2_1.wr W
  replace S_UNKNOWN := S_UNKNOWN.wr W
  replace S_CUSTOM := S_CUSTOM.wr W
  replace S_UINT8 := S_UINT8.wr W
  replace S_UINT16 := S_UINT16.wr W
  replace S_UINT32 := S_UINT32.wr W
  replace S_UINT64 := S_UINT64.wr W
  replace S_STRING := S_STRING.wr W
  replace S_DOUBLE := S_DOUBLE.wr W
  replace S_IPV4 := S_IPV4.wr W
  replace S_HASH16 := S_HASH16.wr W
  replace S_UINT128 := S_UINT128.wr W
  replace Z0 := Nat.le_trans Z0 (Nat.le_of_eq W.size.symm)
  replace N := Fr.snoc X.1 N g_b2_1
  refine g_astoreN X at_76 (pc' := 77) (Ls' := #[.val (.int i0), .val (.ref b2_1), .unset, .unset]) rfl rfl rfl ?_
  refine g_iloadN X at_77 (pc' := 78) rfl rfl ?_
  refine g_ldc X (tb hw 26 rfl) at_78 (pc' := 80) rfl ?_
  refine g_iand X at_80 (pc' := 81) rfl ?_
  refine g_bipush X (11 : Int32) at_81 (pc' := 83) rfl rfl ?_
  refine g_irem X at_83 (pc' := 84) rfl (by decide) ?_
  generalize ev84_2 : ((i0 &&& (2147483647 : Int32)) % (11 : Int32)) = v84_2
  refine g_istoreN X at_84 (pc' := 85) (Ls' := #[.val (.int i0), .val (.ref b2_1), .val (.int v84_2), .unset]) rfl rfl ?_
  rcases (m11 ev84_2 : v84_2 = (0 : Int32) ∨ v84_2 = (1 : Int32) ∨ v84_2 = (2 : Int32) ∨ v84_2 = (3 : Int32) ∨ v84_2 = (4 : Int32) ∨ v84_2 = (5 : Int32) ∨ v84_2 = (6 : Int32) ∨ v84_2 = (7 : Int32) ∨ v84_2 = (8 : Int32) ∨ v84_2 = (9 : Int32) ∨ v84_2 = (10 : Int32)) with hs | hs | hs | hs | hs | hs | hs | hs | hs | hs | hs
  · subst hs
    show Go p e below _ (T.setTop (mkF m 85 #[.val (.int i0), .val (.ref b2_1), .val (.int (0 : Int32)), .unset] []))
    refine g_iloadN X at_85 (pc' := 86) rfl rfl ?_
    refine g_iconst X (2 : Int32) at_86 (pc' := 87) rfl rfl ?_
    refine g_icY X at_87 (tlt (show (0 : Int32) < (2 : Int32) from (by decide))).1 (pc' := 103) (by decide) (by decide) ?_
    refine g_iconst X (0 : Int32) at_103 (pc' := 104) rfl rfl ?_
    refine g_istoreN X at_104 (pc' := 105) (Ls' := #[.val (.int i0), .val (.ref b2_1), .val (.int (0 : Int32)), .val (.int (0 : Int32))]) rfl rfl ?_
    refine g_aloadN X at_105 (pc' := 106) rfl rfl rfl ?_
    refine g_iloadN X at_106 (pc' := 107) rfl rfl ?_
    refine g_aaload X V_b2_1 0 at_107 (pc' := 108) rfl rfl (by decide) (by decide) rfl ?_
    refine g_virtual X (W := 0) (a := eUNKNOWN) (C := "com/example/tagwire/tagwire/ec/EcTagType") [] [] E_eUNKNOWN (tb hw 27 rfl) (tb hw 28 rfl) (tb hw 30 rfl) (tb hw 29 rfl) (tb hw 3 rfl) (tb hw 31 rfl) (rBUNKNOWN l Z aa hw [] eUNKNOWN _ E_eUNKNOWN F_eUNKNOWN_ordinal) at_108 (pc' := 111) rfl (by decide) (by decide) (by decide) rfl rfl rfl (lenOf pd_0 rfl) (Nat.le_refl _) (by decide) (by decide) ?_
    intro v T L X q
    obtain ⟨rfl, X⟩ := pureX X q
    show Go p e below _ (T.setTop (mkF m 111 #[.val (.int i0), .val (.ref b2_1), .val (.int (0 : Int32)), .val (.int (0 : Int32))] [(.int (0 : Int32))]))
    refine g_iloadN X at_111 (pc' := 112) rfl rfl ?_
    refine g_icN X at_112 (teq (show (0 : Int32) = (0 : Int32) from (by decide))).2 (pc' := 115) rfl ?_
    refine g_iconst X (1 : Int32) at_115 (pc' := 116) rfl rfl ?_
    refine g_goto X at_116 (pc' := 120) (by decide) (by decide) ?_
    refine g_ireturnN X (t := .boolean) (by simp) at_120 hret hlk (by decide) (by decide) ?_
    exact ⟨rfl, N⟩
  · subst hs
    show Go p e below _ (T.setTop (mkF m 85 #[.val (.int i0), .val (.ref b2_1), .val (.int (1 : Int32)), .unset] []))
    refine g_iloadN X at_85 (pc' := 86) rfl rfl ?_
    refine g_iconst X (2 : Int32) at_86 (pc' := 87) rfl rfl ?_
    refine g_icY X at_87 (tlt (show (1 : Int32) < (2 : Int32) from (by decide))).1 (pc' := 103) (by decide) (by decide) ?_
    refine g_iconst X (0 : Int32) at_103 (pc' := 104) rfl rfl ?_
    refine g_istoreN X at_104 (pc' := 105) (Ls' := #[.val (.int i0), .val (.ref b2_1), .val (.int (1 : Int32)), .val (.int (0 : Int32))]) rfl rfl ?_
    refine g_aloadN X at_105 (pc' := 106) rfl rfl rfl ?_
    refine g_iloadN X at_106 (pc' := 107) rfl rfl ?_
    refine g_aaload X V_b2_1 1 at_107 (pc' := 108) rfl rfl (by decide) (by decide) rfl ?_
    refine g_virtual X (W := 0) (a := eCUSTOM) (C := "com/example/tagwire/tagwire/ec/EcTagType") [] [] E_eCUSTOM (tb hw 27 rfl) (tb hw 28 rfl) (tb hw 30 rfl) (tb hw 29 rfl) (tb hw 3 rfl) (tb hw 31 rfl) (rBCUSTOM l Z aa hw [] eCUSTOM _ E_eCUSTOM F_eCUSTOM_ordinal) at_108 (pc' := 111) rfl (by decide) (by decide) (by decide) rfl rfl rfl (lenOf pd_0 rfl) (Nat.le_refl _) (by decide) (by decide) ?_
    intro v T L X q
    obtain ⟨rfl, X⟩ := pureX X q
    show Go p e below _ (T.setTop (mkF m 111 #[.val (.int i0), .val (.ref b2_1), .val (.int (1 : Int32)), .val (.int (0 : Int32))] [(.int (0 : Int32))]))
    refine g_iloadN X at_111 (pc' := 112) rfl rfl ?_
    refine g_icN X at_112 (teq (show (0 : Int32) = (0 : Int32) from (by decide))).2 (pc' := 115) rfl ?_
    refine g_iconst X (1 : Int32) at_115 (pc' := 116) rfl rfl ?_
    refine g_goto X at_116 (pc' := 120) (by decide) (by decide) ?_
    refine g_ireturnN X (t := .boolean) (by simp) at_120 hret hlk (by decide) (by decide) ?_
    exact ⟨rfl, N⟩
  · subst hs
    show Go p e below _ (T.setTop (mkF m 85 #[.val (.int i0), .val (.ref b2_1), .val (.int (2 : Int32)), .unset] []))
    refine g_iloadN X at_85 (pc' := 86) rfl rfl ?_
    refine g_iconst X (2 : Int32) at_86 (pc' := 87) rfl rfl ?_
    refine g_icN X at_87 (flt (show ¬ ((2 : Int32) < (2 : Int32)) from (by decide))).1 (pc' := 90) rfl ?_
    refine g_iloadN X at_90 (pc' := 91) rfl rfl ?_
    refine g_iconst X (5 : Int32) at_91 (pc' := 92) rfl rfl ?_
    refine g_icN X at_92 (flt (show ¬ ((5 : Int32) < (2 : Int32)) from (by decide))).2.2.1 (pc' := 95) rfl ?_
    refine g_iconst X (1 : Int32) at_95 (pc' := 96) rfl rfl ?_
    refine g_iloadN X at_96 (pc' := 97) rfl rfl ?_
    refine g_iconst X (2 : Int32) at_97 (pc' := 98) rfl rfl ?_
    refine g_isub X at_98 (pc' := 99) rfl ?_
    refine Go.lit32 (z := (0 : Int32)) (by decide) ?_
    refine g_ishl X at_99 (pc' := 100) rfl ?_
    refine Go.lit32 (z := (1 : Int32)) (by decide) ?_
    refine g_goto X at_100 (pc' := 104) (by decide) (by decide) ?_
    refine g_istoreN X at_104 (pc' := 105) (Ls' := #[.val (.int i0), .val (.ref b2_1), .val (.int (2 : Int32)), .val (.int (1 : Int32))]) rfl rfl ?_
    refine g_aloadN X at_105 (pc' := 106) rfl rfl rfl ?_
    refine g_iloadN X at_106 (pc' := 107) rfl rfl ?_
    refine g_aaload X V_b2_1 2 at_107 (pc' := 108) rfl rfl (by decide) (by decide) rfl ?_
    refine g_virtual X (W := 0) (a := eUINT8) (C := "com/example/tagwire/tagwire/ec/EcTagType") [] [] E_eUINT8 (tb hw 27 rfl) (tb hw 28 rfl) (tb hw 30 rfl) (tb hw 29 rfl) (tb hw 3 rfl) (tb hw 31 rfl) (rBUINT8 l Z aa hw [] eUINT8 _ E_eUINT8 F_eUINT8_ordinal) at_108 (pc' := 111) rfl (by decide) (by decide) (by decide) rfl rfl rfl (lenOf pd_0 rfl) (Nat.le_refl _) (by decide) (by decide) ?_
    intro v T L X q
    obtain ⟨rfl, X⟩ := pureX X q
    show Go p e below _ (T.setTop (mkF m 111 #[.val (.int i0), .val (.ref b2_1), .val (.int (2 : Int32)), .val (.int (1 : Int32))] [(.int (1 : Int32))]))
    refine g_iloadN X at_111 (pc' := 112) rfl rfl ?_
    refine g_icN X at_112 (teq (show (1 : Int32) = (1 : Int32) from (by decide))).2 (pc' := 115) rfl ?_
    refine g_iconst X (1 : Int32) at_115 (pc' := 116) rfl rfl ?_
    refine g_goto X at_116 (pc' := 120) (by decide) (by decide) ?_
    refine g_ireturnN X (t := .boolean) (by simp) at_120 hret hlk (by decide) (by decide) ?_
    exact ⟨rfl, N⟩
  · subst hs
    show Go p e below _ (T.setTop (mkF m 85 #[.val (.int i0), .val (.ref b2_1), .val (.int (3 : Int32)), .unset] []))
    refine g_iloadN X at_85 (pc' := 86) rfl rfl ?_
    refine g_iconst X (2 : Int32) at_86 (pc' := 87) rfl rfl ?_
    refine g_icN X at_87 (flt (show ¬ ((3 : Int32) < (2 : Int32)) from (by decide))).1 (pc' := 90) rfl ?_
    refine g_iloadN X at_90 (pc' := 91) rfl rfl ?_
    refine g_iconst X (5 : Int32) at_91 (pc' := 92) rfl rfl ?_
    refine g_icN X at_92 (flt (show ¬ ((5 : Int32) < (3 : Int32)) from (by decide))).2.2.1 (pc' := 95) rfl ?_
    refine g_iconst X (1 : Int32) at_95 (pc' := 96) rfl rfl ?_
    refine g_iloadN X at_96 (pc' := 97) rfl rfl ?_
    refine g_iconst X (2 : Int32) at_97 (pc' := 98) rfl rfl ?_
    refine g_isub X at_98 (pc' := 99) rfl ?_
    refine Go.lit32 (z := (1 : Int32)) (by decide) ?_
    refine g_ishl X at_99 (pc' := 100) rfl ?_
    refine Go.lit32 (z := (2 : Int32)) (by decide) ?_
    refine g_goto X at_100 (pc' := 104) (by decide) (by decide) ?_
    refine g_istoreN X at_104 (pc' := 105) (Ls' := #[.val (.int i0), .val (.ref b2_1), .val (.int (3 : Int32)), .val (.int (2 : Int32))]) rfl rfl ?_
    refine g_aloadN X at_105 (pc' := 106) rfl rfl rfl ?_
    refine g_iloadN X at_106 (pc' := 107) rfl rfl ?_
    refine g_aaload X V_b2_1 3 at_107 (pc' := 108) rfl rfl (by decide) (by decide) rfl ?_
    refine g_virtual X (W := 0) (a := eUINT16) (C := "com/example/tagwire/tagwire/ec/EcTagType") [] [] E_eUINT16 (tb hw 27 rfl) (tb hw 28 rfl) (tb hw 30 rfl) (tb hw 29 rfl) (tb hw 3 rfl) (tb hw 31 rfl) (rBUINT16 l Z aa hw [] eUINT16 _ E_eUINT16 F_eUINT16_ordinal) at_108 (pc' := 111) rfl (by decide) (by decide) (by decide) rfl rfl rfl (lenOf pd_0 rfl) (Nat.le_refl _) (by decide) (by decide) ?_
    intro v T L X q
    obtain ⟨rfl, X⟩ := pureX X q
    show Go p e below _ (T.setTop (mkF m 111 #[.val (.int i0), .val (.ref b2_1), .val (.int (3 : Int32)), .val (.int (2 : Int32))] [(.int (2 : Int32))]))
    refine g_iloadN X at_111 (pc' := 112) rfl rfl ?_
    refine g_icN X at_112 (teq (show (2 : Int32) = (2 : Int32) from (by decide))).2 (pc' := 115) rfl ?_
    refine g_iconst X (1 : Int32) at_115 (pc' := 116) rfl rfl ?_
    refine g_goto X at_116 (pc' := 120) (by decide) (by decide) ?_
    refine g_ireturnN X (t := .boolean) (by simp) at_120 hret hlk (by decide) (by decide) ?_
    exact ⟨rfl, N⟩
  · subst hs
    show Go p e below _ (T.setTop (mkF m 85 #[.val (.int i0), .val (.ref b2_1), .val (.int (4 : Int32)), .unset] []))
    refine g_iloadN X at_85 (pc' := 86) rfl rfl ?_
    refine g_iconst X (2 : Int32) at_86 (pc' := 87) rfl rfl ?_
    refine g_icN X at_87 (flt (show ¬ ((4 : Int32) < (2 : Int32)) from (by decide))).1 (pc' := 90) rfl ?_
    refine g_iloadN X at_90 (pc' := 91) rfl rfl ?_
    refine g_iconst X (5 : Int32) at_91 (pc' := 92) rfl rfl ?_
    refine g_icN X at_92 (flt (show ¬ ((5 : Int32) < (4 : Int32)) from (by decide))).2.2.1 (pc' := 95) rfl ?_
    refine g_iconst X (1 : Int32) at_95 (pc' := 96) rfl rfl ?_
    refine g_iloadN X at_96 (pc' := 97) rfl rfl ?_
    refine g_iconst X (2 : Int32) at_97 (pc' := 98) rfl rfl ?_
    refine g_isub X at_98 (pc' := 99) rfl ?_
    refine Go.lit32 (z := (2 : Int32)) (by decide) ?_
    refine g_ishl X at_99 (pc' := 100) rfl ?_
    refine Go.lit32 (z := (4 : Int32)) (by decide) ?_
    refine g_goto X at_100 (pc' := 104) (by decide) (by decide) ?_
    refine g_istoreN X at_104 (pc' := 105) (Ls' := #[.val (.int i0), .val (.ref b2_1), .val (.int (4 : Int32)), .val (.int (4 : Int32))]) rfl rfl ?_
    refine g_aloadN X at_105 (pc' := 106) rfl rfl rfl ?_
    refine g_iloadN X at_106 (pc' := 107) rfl rfl ?_
    refine g_aaload X V_b2_1 4 at_107 (pc' := 108) rfl rfl (by decide) (by decide) rfl ?_
    refine g_virtual X (W := 0) (a := eUINT32) (C := "com/example/tagwire/tagwire/ec/EcTagType") [] [] E_eUINT32 (tb hw 27 rfl) (tb hw 28 rfl) (tb hw 30 rfl) (tb hw 29 rfl) (tb hw 3 rfl) (tb hw 31 rfl) (rBUINT32 l Z aa hw [] eUINT32 _ E_eUINT32 F_eUINT32_ordinal) at_108 (pc' := 111) rfl (by decide) (by decide) (by decide) rfl rfl rfl (lenOf pd_0 rfl) (Nat.le_refl _) (by decide) (by decide) ?_
    intro v T L X q
    obtain ⟨rfl, X⟩ := pureX X q
    show Go p e below _ (T.setTop (mkF m 111 #[.val (.int i0), .val (.ref b2_1), .val (.int (4 : Int32)), .val (.int (4 : Int32))] [(.int (4 : Int32))]))
    refine g_iloadN X at_111 (pc' := 112) rfl rfl ?_
    refine g_icN X at_112 (teq (show (4 : Int32) = (4 : Int32) from (by decide))).2 (pc' := 115) rfl ?_
    refine g_iconst X (1 : Int32) at_115 (pc' := 116) rfl rfl ?_
    refine g_goto X at_116 (pc' := 120) (by decide) (by decide) ?_
    refine g_ireturnN X (t := .boolean) (by simp) at_120 hret hlk (by decide) (by decide) ?_
    exact ⟨rfl, N⟩
  · subst hs
    show Go p e below _ (T.setTop (mkF m 85 #[.val (.int i0), .val (.ref b2_1), .val (.int (5 : Int32)), .unset] []))
    refine g_iloadN X at_85 (pc' := 86) rfl rfl ?_
    refine g_iconst X (2 : Int32) at_86 (pc' := 87) rfl rfl ?_
    refine g_icN X at_87 (flt (show ¬ ((5 : Int32) < (2 : Int32)) from (by decide))).1 (pc' := 90) rfl ?_
    refine g_iloadN X at_90 (pc' := 91) rfl rfl ?_
    refine g_iconst X (5 : Int32) at_91 (pc' := 92) rfl rfl ?_
    refine g_icN X at_92 (flt (show ¬ ((5 : Int32) < (5 : Int32)) from (by decide))).2.2.1 (pc' := 95) rfl ?_
    refine g_iconst X (1 : Int32) at_95 (pc' := 96) rfl rfl ?_
    refine g_iloadN X at_96 (pc' := 97) rfl rfl ?_
    refine g_iconst X (2 : Int32) at_97 (pc' := 98) rfl rfl ?_
    refine g_isub X at_98 (pc' := 99) rfl ?_
    refine Go.lit32 (z := (3 : Int32)) (by decide) ?_
    refine g_ishl X at_99 (pc' := 100) rfl ?_
    refine Go.lit32 (z := (8 : Int32)) (by decide) ?_
    refine g_goto X at_100 (pc' := 104) (by decide) (by decide) ?_
    refine g_istoreN X at_104 (pc' := 105) (Ls' := #[.val (.int i0), .val (.ref b2_1), .val (.int (5 : Int32)), .val (.int (8 : Int32))]) rfl rfl ?_
    refine g_aloadN X at_105 (pc' := 106) rfl rfl rfl ?_
    refine g_iloadN X at_106 (pc' := 107) rfl rfl ?_
    refine g_aaload X V_b2_1 5 at_107 (pc' := 108) rfl rfl (by decide) (by decide) rfl ?_
    refine g_virtual X (W := 0) (a := eUINT64) (C := "com/example/tagwire/tagwire/ec/EcTagType") [] [] E_eUINT64 (tb hw 27 rfl) (tb hw 28 rfl) (tb hw 30 rfl) (tb hw 29 rfl) (tb hw 3 rfl) (tb hw 31 rfl) (rBUINT64 l Z aa hw [] eUINT64 _ E_eUINT64 F_eUINT64_ordinal) at_108 (pc' := 111) rfl (by decide) (by decide) (by decide) rfl rfl rfl (lenOf pd_0 rfl) (Nat.le_refl _) (by decide) (by decide) ?_
    intro v T L X q
    obtain ⟨rfl, X⟩ := pureX X q
    show Go p e below _ (T.setTop (mkF m 111 #[.val (.int i0), .val (.ref b2_1), .val (.int (5 : Int32)), .val (.int (8 : Int32))] [(.int (8 : Int32))]))
    refine g_iloadN X at_111 (pc' := 112) rfl rfl ?_
    refine g_icN X at_112 (teq (show (8 : Int32) = (8 : Int32) from (by decide))).2 (pc' := 115) rfl ?_
    refine g_iconst X (1 : Int32) at_115 (pc' := 116) rfl rfl ?_
    refine g_goto X at_116 (pc' := 120) (by decide) (by decide) ?_
    refine g_ireturnN X (t := .boolean) (by simp) at_120 hret hlk (by decide) (by decide) ?_
    exact ⟨rfl, N⟩
  · subst hs
    show Go p e below _ (T.setTop (mkF m 85 #[.val (.int i0), .val (.ref b2_1), .val (.int (6 : Int32)), .unset] []))
    refine g_iloadN X at_85 (pc' := 86) rfl rfl ?_
    refine g_iconst X (2 : Int32) at_86 (pc' := 87) rfl rfl ?_
    refine g_icN X at_87 (flt (show ¬ ((6 : Int32) < (2 : Int32)) from (by decide))).1 (pc' := 90) rfl ?_
    refine g_iloadN X at_90 (pc' := 91) rfl rfl ?_
    refine g_iconst X (5 : Int32) at_91 (pc' := 92) rfl rfl ?_
    refine g_icY X at_92 (tlt (show (5 : Int32) < (6 : Int32) from (by decide))).2.2.1 (pc' := 103) (by decide) (by decide) ?_
    refine g_iconst X (0 : Int32) at_103 (pc' := 104) rfl rfl ?_
    refine g_istoreN X at_104 (pc' := 105) (Ls' := #[.val (.int i0), .val (.ref b2_1), .val (.int (6 : Int32)), .val (.int (0 : Int32))]) rfl rfl ?_
    refine g_aloadN X at_105 (pc' := 106) rfl rfl rfl ?_
    refine g_iloadN X at_106 (pc' := 107) rfl rfl ?_
    refine g_aaload X V_b2_1 6 at_107 (pc' := 108) rfl rfl (by decide) (by decide) rfl ?_
    refine g_virtual X (W := 0) (a := eSTRING) (C := "com/example/tagwire/tagwire/ec/EcTagType") [] [] E_eSTRING (tb hw 27 rfl) (tb hw 28 rfl) (tb hw 30 rfl) (tb hw 29 rfl) (tb hw 3 rfl) (tb hw 31 rfl) (rBSTRING l Z aa hw [] eSTRING _ E_eSTRING F_eSTRING_ordinal) at_108 (pc' := 111) rfl (by decide) (by decide) (by decide) rfl rfl rfl (lenOf pd_0 rfl) (Nat.le_refl _) (by decide) (by decide) ?_
    intro v T L X q
    obtain ⟨rfl, X⟩ := pureX X q
    show Go p e below _ (T.setTop (mkF m 111 #[.val (.int i0), .val (.ref b2_1), .val (.int (6 : Int32)), .val (.int (0 : Int32))] [(.int (0 : Int32))]))
    refine g_iloadN X at_111 (pc' := 112) rfl rfl ?_
    refine g_icN X at_112 (teq (show (0 : Int32) = (0 : Int32) from (by decide))).2 (pc' := 115) rfl ?_
    refine g_iconst X (1 : Int32) at_115 (pc' := 116) rfl rfl ?_
    refine g_goto X at_116 (pc' := 120) (by decide) (by decide) ?_
    refine g_ireturnN X (t := .boolean) (by simp) at_120 hret hlk (by decide) (by decide) ?_
    exact ⟨rfl, N⟩
  · subst hs
    show Go p e below _ (T.setTop (mkF m 85 #[.val (.int i0), .val (.ref b2_1), .val (.int (7 : Int32)), .unset] []))
    refine g_iloadN X at_85 (pc' := 86) rfl rfl ?_
    refine g_iconst X (2 : Int32) at_86 (pc' := 87) rfl rfl ?_
    refine g_icN X at_87 (flt (show ¬ ((7 : Int32) < (2 : Int32)) from (by decide))).1 (pc' := 90) rfl ?_
    refine g_iloadN X at_90 (pc' := 91) rfl rfl ?_
    refine g_iconst X (5 : Int32) at_91 (pc' := 92) rfl rfl ?_
    refine g_icY X at_92 (tlt (show (5 : Int32) < (7 : Int32) from (by decide))).2.2.1 (pc' := 103) (by decide) (by decide) ?_
    refine g_iconst X (0 : Int32) at_103 (pc' := 104) rfl rfl ?_
    refine g_istoreN X at_104 (pc' := 105) (Ls' := #[.val (.int i0), .val (.ref b2_1), .val (.int (7 : Int32)), .val (.int (0 : Int32))]) rfl rfl ?_
    refine g_aloadN X at_105 (pc' := 106) rfl rfl rfl ?_
    refine g_iloadN X at_106 (pc' := 107) rfl rfl ?_
    refine g_aaload X V_b2_1 7 at_107 (pc' := 108) rfl rfl (by decide) (by decide) rfl ?_
    refine g_virtual X (W := 0) (a := eDOUBLE) (C := "com/example/tagwire/tagwire/ec/EcTagType") [] [] E_eDOUBLE (tb hw 27 rfl) (tb hw 28 rfl) (tb hw 30 rfl) (tb hw 29 rfl) (tb hw 3 rfl) (tb hw 31 rfl) (rBDOUBLE l Z aa hw [] eDOUBLE _ E_eDOUBLE F_eDOUBLE_ordinal) at_108 (pc' := 111) rfl (by decide) (by decide) (by decide) rfl rfl rfl (lenOf pd_0 rfl) (Nat.le_refl _) (by decide) (by decide) ?_
    intro v T L X q
    obtain ⟨rfl, X⟩ := pureX X q
    show Go p e below _ (T.setTop (mkF m 111 #[.val (.int i0), .val (.ref b2_1), .val (.int (7 : Int32)), .val (.int (0 : Int32))] [(.int (0 : Int32))]))
    refine g_iloadN X at_111 (pc' := 112) rfl rfl ?_
    refine g_icN X at_112 (teq (show (0 : Int32) = (0 : Int32) from (by decide))).2 (pc' := 115) rfl ?_
    refine g_iconst X (1 : Int32) at_115 (pc' := 116) rfl rfl ?_
    refine g_goto X at_116 (pc' := 120) (by decide) (by decide) ?_
    refine g_ireturnN X (t := .boolean) (by simp) at_120 hret hlk (by decide) (by decide) ?_
    exact ⟨rfl, N⟩
  · subst hs
    show Go p e below _ (T.setTop (mkF m 85 #[.val (.int i0), .val (.ref b2_1), .val (.int (8 : Int32)), .unset] []))
    refine g_iloadN X at_85 (pc' := 86) rfl rfl ?_
    refine g_iconst X (2 : Int32) at_86 (pc' := 87) rfl rfl ?_
    refine g_icN X at_87 (flt (show ¬ ((8 : Int32) < (2 : Int32)) from (by decide))).1 (pc' := 90) rfl ?_
    refine g_iloadN X at_90 (pc' := 91) rfl rfl ?_
    refine g_iconst X (5 : Int32) at_91 (pc' := 92) rfl rfl ?_
    refine g_icY X at_92 (tlt (show (5 : Int32) < (8 : Int32) from (by decide))).2.2.1 (pc' := 103) (by decide) (by decide) ?_
    refine g_iconst X (0 : Int32) at_103 (pc' := 104) rfl rfl ?_
    refine g_istoreN X at_104 (pc' := 105) (Ls' := #[.val (.int i0), .val (.ref b2_1), .val (.int (8 : Int32)), .val (.int (0 : Int32))]) rfl rfl ?_
    refine g_aloadN X at_105 (pc' := 106) rfl rfl rfl ?_
    refine g_iloadN X at_106 (pc' := 107) rfl rfl ?_
    refine g_aaload X V_b2_1 8 at_107 (pc' := 108) rfl rfl (by decide) (by decide) rfl ?_
    refine g_virtual X (W := 0) (a := eIPV4) (C := "com/example/tagwire/tagwire/ec/EcTagType") [] [] E_eIPV4 (tb hw 27 rfl) (tb hw 28 rfl) (tb hw 30 rfl) (tb hw 29 rfl) (tb hw 3 rfl) (tb hw 31 rfl) (rBIPV4 l Z aa hw [] eIPV4 _ E_eIPV4 F_eIPV4_ordinal) at_108 (pc' := 111) rfl (by decide) (by decide) (by decide) rfl rfl rfl (lenOf pd_0 rfl) (Nat.le_refl _) (by decide) (by decide) ?_
    intro v T L X q
    obtain ⟨rfl, X⟩ := pureX X q
    show Go p e below _ (T.setTop (mkF m 111 #[.val (.int i0), .val (.ref b2_1), .val (.int (8 : Int32)), .val (.int (0 : Int32))] [(.int (0 : Int32))]))
    refine g_iloadN X at_111 (pc' := 112) rfl rfl ?_
    refine g_icN X at_112 (teq (show (0 : Int32) = (0 : Int32) from (by decide))).2 (pc' := 115) rfl ?_
    refine g_iconst X (1 : Int32) at_115 (pc' := 116) rfl rfl ?_
    refine g_goto X at_116 (pc' := 120) (by decide) (by decide) ?_
    refine g_ireturnN X (t := .boolean) (by simp) at_120 hret hlk (by decide) (by decide) ?_
    exact ⟨rfl, N⟩
  · subst hs
    show Go p e below _ (T.setTop (mkF m 85 #[.val (.int i0), .val (.ref b2_1), .val (.int (9 : Int32)), .unset] []))
    refine g_iloadN X at_85 (pc' := 86) rfl rfl ?_
    refine g_iconst X (2 : Int32) at_86 (pc' := 87) rfl rfl ?_
    refine g_icN X at_87 (flt (show ¬ ((9 : Int32) < (2 : Int32)) from (by decide))).1 (pc' := 90) rfl ?_
    refine g_iloadN X at_90 (pc' := 91) rfl rfl ?_
    refine g_iconst X (5 : Int32) at_91 (pc' := 92) rfl rfl ?_
    refine g_icY X at_92 (tlt (show (5 : Int32) < (9 : Int32) from (by decide))).2.2.1 (pc' := 103) (by decide) (by decide) ?_
    refine g_iconst X (0 : Int32) at_103 (pc' := 104) rfl rfl ?_
    refine g_istoreN X at_104 (pc' := 105) (Ls' := #[.val (.int i0), .val (.ref b2_1), .val (.int (9 : Int32)), .val (.int (0 : Int32))]) rfl rfl ?_
    refine g_aloadN X at_105 (pc' := 106) rfl rfl rfl ?_
    refine g_iloadN X at_106 (pc' := 107) rfl rfl ?_
    refine g_aaload X V_b2_1 9 at_107 (pc' := 108) rfl rfl (by decide) (by decide) rfl ?_
    refine g_virtual X (W := 0) (a := eHASH16) (C := "com/example/tagwire/tagwire/ec/EcTagType") [] [] E_eHASH16 (tb hw 27 rfl) (tb hw 28 rfl) (tb hw 30 rfl) (tb hw 29 rfl) (tb hw 3 rfl) (tb hw 31 rfl) (rBHASH16 l Z aa hw [] eHASH16 _ E_eHASH16 F_eHASH16_ordinal) at_108 (pc' := 111) rfl (by decide) (by decide) (by decide) rfl rfl rfl (lenOf pd_0 rfl) (Nat.le_refl _) (by decide) (by decide) ?_
    intro v T L X q
    obtain ⟨rfl, X⟩ := pureX X q
    show Go p e below _ (T.setTop (mkF m 111 #[.val (.int i0), .val (.ref b2_1), .val (.int (9 : Int32)), .val (.int (0 : Int32))] [(.int (0 : Int32))]))
    refine g_iloadN X at_111 (pc' := 112) rfl rfl ?_
    refine g_icN X at_112 (teq (show (0 : Int32) = (0 : Int32) from (by decide))).2 (pc' := 115) rfl ?_
    refine g_iconst X (1 : Int32) at_115 (pc' := 116) rfl rfl ?_
    refine g_goto X at_116 (pc' := 120) (by decide) (by decide) ?_
    refine g_ireturnN X (t := .boolean) (by simp) at_120 hret hlk (by decide) (by decide) ?_
    exact ⟨rfl, N⟩
  · subst hs
    show Go p e below _ (T.setTop (mkF m 85 #[.val (.int i0), .val (.ref b2_1), .val (.int (10 : Int32)), .unset] []))
    refine g_iloadN X at_85 (pc' := 86) rfl rfl ?_
    refine g_iconst X (2 : Int32) at_86 (pc' := 87) rfl rfl ?_
    refine g_icN X at_87 (flt (show ¬ ((10 : Int32) < (2 : Int32)) from (by decide))).1 (pc' := 90) rfl ?_
    refine g_iloadN X at_90 (pc' := 91) rfl rfl ?_
    refine g_iconst X (5 : Int32) at_91 (pc' := 92) rfl rfl ?_
    refine g_icY X at_92 (tlt (show (5 : Int32) < (10 : Int32) from (by decide))).2.2.1 (pc' := 103) (by decide) (by decide) ?_
    refine g_iconst X (0 : Int32) at_103 (pc' := 104) rfl rfl ?_
    refine g_istoreN X at_104 (pc' := 105) (Ls' := #[.val (.int i0), .val (.ref b2_1), .val (.int (10 : Int32)), .val (.int (0 : Int32))]) rfl rfl ?_
    refine g_aloadN X at_105 (pc' := 106) rfl rfl rfl ?_
    refine g_iloadN X at_106 (pc' := 107) rfl rfl ?_
    refine g_aaload X V_b2_1 10 at_107 (pc' := 108) rfl rfl (by decide) (by decide) rfl ?_
    refine g_virtual X (W := 0) (a := eUINT128) (C := "com/example/tagwire/tagwire/ec/EcTagType") [] [] E_eUINT128 (tb hw 27 rfl) (tb hw 28 rfl) (tb hw 30 rfl) (tb hw 29 rfl) (tb hw 3 rfl) (tb hw 31 rfl) (rBUINT128 l Z aa hw [] eUINT128 _ E_eUINT128 F_eUINT128_ordinal) at_108 (pc' := 111) rfl (by decide) (by decide) (by decide) rfl rfl rfl (lenOf pd_0 rfl) (Nat.le_refl _) (by decide) (by decide) ?_
    intro v T L X q
    obtain ⟨rfl, X⟩ := pureX X q
    show Go p e below _ (T.setTop (mkF m 111 #[.val (.int i0), .val (.ref b2_1), .val (.int (10 : Int32)), .val (.int (0 : Int32))] [(.int (0 : Int32))]))
    refine g_iloadN X at_111 (pc' := 112) rfl rfl ?_
    refine g_icN X at_112 (teq (show (0 : Int32) = (0 : Int32) from (by decide))).2 (pc' := 115) rfl ?_
    refine g_iconst X (1 : Int32) at_115 (pc' := 116) rfl rfl ?_
    refine g_goto X at_116 (pc' := 120) (by decide) (by decide) ?_
    refine g_ireturnN X (t := .boolean) (by simp) at_120 hret hlk (by decide) (by decide) ?_
    exact ⟨rfl, N⟩
set_option maxRecDepth 65536 in
set_option maxHeartbeats 40000000 in
theorem comes_1 {Post : Tables → Env → Array Value → State → Outcome → State → Prop} (hpost : ∀ tb e args s v u, (limb_1_1.after args s (.returned v) u = true ∧ limb_1_2.after args s (.returned v) u = true ∧ True) → FrameEnd s (.returned v) u (Jvm.fieldLocs frame_1_writes args s ++ Jvm.arrayLocs frame_1_arrays args s ++ Jvm.staticLocs frame_1_statics s) 16 128 → Post tb e args s (.returned v) u) :
    ArmFor flags0 classFile x code maxLocals ret World_1 tables_1 room_1 Calls_1 rest_1 Pre_1 Post := by
  intro l hfl _ _ p e ha hc hk s m args below hf hA hF happ hP
  obtain ⟨hcalls, hrest, hpre⟩ := hP
  obtain ⟨-, -, -, hnamed, -, -, -, hat⟩ := (Spec.applies_iff hf).mp happ
  obtain ⟨hg, hn⟩ := and_e (Cond.before_iff.mp (show (Jvm.Cond.and given_1 narrow_1).before args s = true from hpre))
  obtain ⟨g1, g2⟩ := and_e hg
  obtain ⟨w0, rfl⟩ : ∃ w0 : Value, args = #[w0] := by
    have hs : args.size = 1 := by simpa [Cond.value, given_1] using g1
    obtain ⟨L⟩ := args
    match L, hs with
    | [w0], _ => exact ⟨w0, rfl⟩
  have hw := fun d (hd : d ∈ tables_1) => atoms_spec (ws := Jvm.Cond.code x code maxLocals ret :: tables_1) hat d (List.mem_cons_of_mem _ hd)
  have hfit : Fit s := fun {y c} hc i hi => by
    obtain ⟨ha, rfl⟩ := Array.getElem?_eq_some_iff.mp hc
    have q := List.all_eq_true.mp ((Array.all_eq_true_iff_forall_mem.mp hF) _ (Array.getElem_mem ha)) i (List.mem_range.mpr hi)
    simpa [Array.getElem?_eq_getElem hi] using q
  obtain ⟨i0, ei0⟩ := is_v g2
  obtain rfl : w0 = (.int i0) := Option.some.inj ei0
  rw [narrow_1] at hn
  obtain ⟨n1, n2⟩ := and_e hn
  obtain ⟨n3, n4⟩ := and_e n2
  obtain ⟨n5, n6⟩ := and_e n4
  obtain ⟨n7, n8⟩ := and_e n6
  obtain ⟨n9, n10⟩ := and_e n8
  obtain ⟨n11, n12⟩ := and_e n10
  obtain ⟨n13, n14⟩ := and_e n12
  obtain ⟨n15, n16⟩ := and_e n14
  obtain ⟨n17, n18⟩ := and_e n16
  obtain ⟨n19, n20⟩ := and_e n18
  obtain ⟨n21, n22⟩ := and_e n20
  obtain ⟨n23, n24⟩ := and_e n22
  obtain ⟨n25, n26⟩ := and_e n24
  obtain ⟨n27, n28⟩ := and_e n26
  obtain ⟨n29, n30⟩ := and_e n28
  obtain ⟨n31, n32⟩ := and_e n30
  obtain ⟨n33, n34⟩ := and_e n32
  obtain ⟨n35, n36⟩ := and_e n34
  obtain ⟨n37, n38⟩ := and_e n36
  obtain ⟨n39, n40⟩ := and_e n38
  obtain ⟨n41, n42⟩ := and_e n40
  obtain ⟨eUNKNOWN, v_eUNKNOWN⟩ := exa_v n1
  have E_eUNKNOWN := Exa.start v_eUNKNOWN n1
  have S_UNKNOWN : Sta s s.heap "com/example/tagwire/tagwire/ec/EcTagType" "UNKNOWN" "Lcom/example/tagwire/tagwire/ec/EcTagType;" (.ref eUNKNOWN) := Sta.start v_eUNKNOWN (Or.inr ⟨tb hw 3 rfl, tb hw 4 rfl⟩)
  have F_eUNKNOWN_ordinal : Fld s s.heap eUNKNOWN "java/lang/Enum" "ordinal" "I" (.int (0 : Int32)) := Fld.start ((fld_at v_eUNKNOWN).symm.trans (eqv_i (Term.int_eval _) n23))
  obtain ⟨eCUSTOM, v_eCUSTOM⟩ := exa_v n3
  have E_eCUSTOM := Exa.start v_eCUSTOM n3
  have S_CUSTOM : Sta s s.heap "com/example/tagwire/tagwire/ec/EcTagType" "CUSTOM" "Lcom/example/tagwire/tagwire/ec/EcTagType;" (.ref eCUSTOM) := Sta.start v_eCUSTOM (Or.inr ⟨tb hw 3 rfl, tb hw 7 rfl⟩)
  have F_eCUSTOM_ordinal : Fld s s.heap eCUSTOM "java/lang/Enum" "ordinal" "I" (.int (1 : Int32)) := Fld.start ((fld_at v_eCUSTOM).symm.trans (eqv_i (Term.int_eval _) n35))
  obtain ⟨eUINT8, v_eUINT8⟩ := exa_v n5
  have E_eUINT8 := Exa.start v_eUINT8 n5
  have S_UINT8 : Sta s s.heap "com/example/tagwire/tagwire/ec/EcTagType" "UINT8" "Lcom/example/tagwire/tagwire/ec/EcTagType;" (.ref eUINT8) := Sta.start v_eUINT8 (Or.inr ⟨tb hw 3 rfl, tb hw 9 rfl⟩)
  have F_eUINT8_ordinal : Fld s s.heap eUINT8 "java/lang/Enum" "ordinal" "I" (.int (2 : Int32)) := Fld.start ((fld_at v_eUINT8).symm.trans (eqv_i (Term.int_eval _) n31))
  obtain ⟨eUINT16, v_eUINT16⟩ := exa_v n7
  have E_eUINT16 := Exa.start v_eUINT16 n7
  have S_UINT16 : Sta s s.heap "com/example/tagwire/tagwire/ec/EcTagType" "UINT16" "Lcom/example/tagwire/tagwire/ec/EcTagType;" (.ref eUINT16) := Sta.start v_eUINT16 (Or.inr ⟨tb hw 3 rfl, tb hw 11 rfl⟩)
  have F_eUINT16_ordinal : Fld s s.heap eUINT16 "java/lang/Enum" "ordinal" "I" (.int (3 : Int32)) := Fld.start ((fld_at v_eUINT16).symm.trans (eqv_i (Term.int_eval _) n25))
  obtain ⟨eUINT32, v_eUINT32⟩ := exa_v n9
  have E_eUINT32 := Exa.start v_eUINT32 n9
  have S_UINT32 : Sta s s.heap "com/example/tagwire/tagwire/ec/EcTagType" "UINT32" "Lcom/example/tagwire/tagwire/ec/EcTagType;" (.ref eUINT32) := Sta.start v_eUINT32 (Or.inr ⟨tb hw 3 rfl, tb hw 13 rfl⟩)
  have F_eUINT32_ordinal : Fld s s.heap eUINT32 "java/lang/Enum" "ordinal" "I" (.int (4 : Int32)) := Fld.start ((fld_at v_eUINT32).symm.trans (eqv_i (Term.int_eval _) n42))
  obtain ⟨eUINT64, v_eUINT64⟩ := exa_v n11
  have E_eUINT64 := Exa.start v_eUINT64 n11
  have S_UINT64 : Sta s s.heap "com/example/tagwire/tagwire/ec/EcTagType" "UINT64" "Lcom/example/tagwire/tagwire/ec/EcTagType;" (.ref eUINT64) := Sta.start v_eUINT64 (Or.inr ⟨tb hw 3 rfl, tb hw 15 rfl⟩)
  have F_eUINT64_ordinal : Fld s s.heap eUINT64 "java/lang/Enum" "ordinal" "I" (.int (5 : Int32)) := Fld.start ((fld_at v_eUINT64).symm.trans (eqv_i (Term.int_eval _) n39))
  obtain ⟨eSTRING, v_eSTRING⟩ := exa_v n13
  have E_eSTRING := Exa.start v_eSTRING n13
  have S_STRING : Sta s s.heap "com/example/tagwire/tagwire/ec/EcTagType" "STRING" "Lcom/example/tagwire/tagwire/ec/EcTagType;" (.ref eSTRING) := Sta.start v_eSTRING (Or.inr ⟨tb hw 3 rfl, tb hw 17 rfl⟩)
  have F_eSTRING_ordinal : Fld s s.heap eSTRING "java/lang/Enum" "ordinal" "I" (.int (6 : Int32)) := Fld.start ((fld_at v_eSTRING).symm.trans (eqv_i (Term.int_eval _) n41))
  obtain ⟨eDOUBLE, v_eDOUBLE⟩ := exa_v n15
  have E_eDOUBLE := Exa.start v_eDOUBLE n15
  have S_DOUBLE : Sta s s.heap "com/example/tagwire/tagwire/ec/EcTagType" "DOUBLE" "Lcom/example/tagwire/tagwire/ec/EcTagType;" (.ref eDOUBLE) := Sta.start v_eDOUBLE (Or.inr ⟨tb hw 3 rfl, tb hw 19 rfl⟩)
  have F_eDOUBLE_ordinal : Fld s s.heap eDOUBLE "java/lang/Enum" "ordinal" "I" (.int (7 : Int32)) := Fld.start ((fld_at v_eDOUBLE).symm.trans (eqv_i (Term.int_eval _) n27))
  obtain ⟨eIPV4, v_eIPV4⟩ := exa_v n17
  have E_eIPV4 := Exa.start v_eIPV4 n17
  have S_IPV4 : Sta s s.heap "com/example/tagwire/tagwire/ec/EcTagType" "IPV4" "Lcom/example/tagwire/tagwire/ec/EcTagType;" (.ref eIPV4) := Sta.start v_eIPV4 (Or.inr ⟨tb hw 3 rfl, tb hw 21 rfl⟩)
  have F_eIPV4_ordinal : Fld s s.heap eIPV4 "java/lang/Enum" "ordinal" "I" (.int (8 : Int32)) := Fld.start ((fld_at v_eIPV4).symm.trans (eqv_i (Term.int_eval _) n29))
  obtain ⟨eHASH16, v_eHASH16⟩ := exa_v n19
  have E_eHASH16 := Exa.start v_eHASH16 n19
  have S_HASH16 : Sta s s.heap "com/example/tagwire/tagwire/ec/EcTagType" "HASH16" "Lcom/example/tagwire/tagwire/ec/EcTagType;" (.ref eHASH16) := Sta.start v_eHASH16 (Or.inr ⟨tb hw 3 rfl, tb hw 23 rfl⟩)
  have F_eHASH16_ordinal : Fld s s.heap eHASH16 "java/lang/Enum" "ordinal" "I" (.int (9 : Int32)) := Fld.start ((fld_at v_eHASH16).symm.trans (eqv_i (Term.int_eval _) n37))
  obtain ⟨eUINT128, v_eUINT128⟩ := exa_v n21
  have E_eUINT128 := Exa.start v_eUINT128 n21
  have S_UINT128 : Sta s s.heap "com/example/tagwire/tagwire/ec/EcTagType" "UINT128" "Lcom/example/tagwire/tagwire/ec/EcTagType;" (.ref eUINT128) := Sta.start v_eUINT128 (Or.inr ⟨tb hw 3 rfl, tb hw 25 rfl⟩)
  have F_eUINT128_ordinal : Fld s s.heap eUINT128 "java/lang/Enum" "ordinal" "I" (.int (10 : Int32)) := Fld.start ((fld_at v_eUINT128).symm.trans (eqv_i (Term.int_eval _) n33))
  obtain ⟨n, o, h1, h2, h3, _, L, rfl, ⟨rfl, N⟩, hq⟩ := rLaw l s _ hw tables_1 i0 eUNKNOWN eCUSTOM eUINT8 eUINT16 eUINT32 eUINT64 eSTRING eDOUBLE eIPV4 eHASH16 eUINT128 s.heap s.heap.size (Nat.le_refl _) S_UNKNOWN E_eUNKNOWN F_eUNKNOWN_ordinal S_CUSTOM E_eCUSTOM F_eCUSTOM_ordinal S_UINT8 E_eUINT8 F_eUINT8_ordinal S_UINT16 E_eUINT16 F_eUINT16_ordinal S_UINT32 E_eUINT32 F_eUINT32_ordinal S_UINT64 E_eUINT64 F_eUINT64_ordinal S_STRING E_eSTRING F_eSTRING_ordinal S_DOUBLE E_eDOUBLE F_eDOUBLE_ordinal S_IPV4 E_eIPV4 F_eIPV4_ordinal S_HASH16 E_eHASH16 F_eHASH16_ordinal S_UINT128 E_eUINT128 F_eUINT128_ordinal p e ha hc hk s m _ below hf ((Spec.applies_iff_loose hf).mp happ).1 ⟨rfl, State.Warmed39.refl s, rfl⟩ trivial
  refine ⟨n, _, h1, h2, h3, hpost _ _ _ _ _ _ ⟨Cond.after_iff.mpr rfl, Cond.after_iff.mpr (eq_i res_at (Term.int_eval (1)) rfl), trivial⟩ ⟨hq.1, hq.2.1, (hq.2.2.sift fun y hy => Or.inr (N y hy)).mono (by decide) (by decide)⟩⟩
theorem main_1_1 : Claimed_1_1 := comes_1 fun _ _ _ _ _ _ h hF => ⟨h.1, hF⟩
theorem main_1_2 : Claimed_1_2 := comes_1 fun _ _ _ _ _ _ h hF => ⟨h.2.1, hF⟩
end Jvm.Pilot.@@N@@
namespace Jvm.Pilot.@@N@@
open Jvm Jvm.ClassFile Sem Op Lib Jvm.Free Jvm.Stand Jvm.Pilot.@@N@@.Jvm.D
/-! MADE BY PROGRAM (witnessworld.py) out of the Statement's table words and the real class files: 13 classes; the members and pool entries that the words name. The judged class is class 1, her method 1. -/
namespace start1
open Jvm.ClassFile
def u (s : String) : CpInfo := .utf8 (stringToUtf16 s)
/-- a pool by its gaps: so many unusable entries, then the entry; so many at the end -/
def gap : Nat → List CpInfo → List CpInfo
  | 0, r => r
  | n + 1, r => .unusable :: gap n r
def poolList (es : List (Nat × CpInfo)) (last : Nat) : List CpInfo := es.foldr (fun e r => gap e.1 (e.2 :: r)) (gap last [])
def pool (es : List (Nat × CpInfo)) (last : Nat) : Array CpInfo := ⟨poolList es last⟩
def fileOf (pool : Array CpInfo) (this : Nat) (attrs : Array Attribute := #[]) (ms : Array MethodInfo := #[]) (fl : Nat := 33) (sup : Nat := 0) (ifs : Array Nat := #[]) (fds : Array FieldInfo := #[]) : ClassFile where
  minorVersion := 0
  majorVersion := 65
  constantPool := pool
  accessFlags := fl
  thisClass := this
  superClass := sup
  interfaces := ifs
  fields := fds
  methods := ms
  attributes := attrs
def plain (name : String) (sup : Option ClassId) : Class where
  name := name
  kind := .ordinary
  loader := none
  accessFlags := 33
  super := sup
  interfaces := #[]
  cf := none
  fields := #[]
  methods := #[]
  instanceTypes := #[]
  staticTypes := #[]
  resolved := #[]
  callSites := []
  init := .initialized
  statics := none
  mirror := none

def pool0 : Array CpInfo := pool [(5, u "<init>"), (0, u "()V"), (1, .class_ 10), (1, u "java/lang/Object")] 113

def k0m0 : Method := { name := "<init>", desc := "()V", sig := { parameters := [], returnType := none }, accessFlags := 1, code := none }
/-- java/lang/Object -/
def k0 : Class := { plain "java/lang/Object" none with
  accessFlags := 33
  interfaces := #[]
  cf := some (fileOf pool0 8 #[] #[{ accessFlags := 1, nameIndex := 5, descriptorIndex := 6, attributes := #[] }] 33 0 #[] #[])
  fields := #[]
  methods := #[k0m0]
  instanceTypes := #[]
  staticTypes := #[]
  resolved := Array.replicate 124 none
  statics := none }

def pool1 : Array CpInfo := pool [(2, .class_ 4), (1, u "java/lang/Object"), (0, u "<init>"), (0, u "()V"), (0, .class_ 8), (0, u "com/example/tagwire/tagwire/ec/EcTagType"), (0, .fieldref 7 10), (0, .nameAndType 11 12), (0, u "UNKNOWN"), (0, u "Lcom/example/tagwire/tagwire/ec/EcTagType;"), (0, .fieldref 7 14), (0, .nameAndType 15 12), (0, u "CUSTOM"), (0, .fieldref 7 17), (0, .nameAndType 18 12), (0, u "UINT8"), (0, .fieldref 7 20), (0, .nameAndType 21 12), (0, u "UINT16"), (0, .fieldref 7 23), (0, .nameAndType 24 12), (0, u "UINT32"), (0, .fieldref 7 26), (0, .nameAndType 27 12), (0, u "UINT64"), (0, .fieldref 7 29), (0, .nameAndType 30 12), (0, u "STRING"), (0, .fieldref 7 32), (0, .nameAndType 33 12), (0, u "DOUBLE"), (0, .fieldref 7 35), (0, .nameAndType 36 12), (0, u "IPV4"), (0, .fieldref 7 38), (0, .nameAndType 39 12), (0, u "HASH16"), (0, .fieldref 7 41), (0, .nameAndType 42 12), (0, u "UINT128"), (0, .integer 2147483647), (0, .methodref 7 45), (0, .nameAndType 46 47), (0, u "integerBytes"), (0, u "()I"), (0, .class_ 49), (0, u "com/example/tagwire/tagwire/ec/EcTagTypeIntegerBytesPinLaw"), (2, u "law"), (0, u "(I)Z")] 5

def k1m0 : Method := { name := "<init>", desc := "()V", sig := { parameters := [], returnType := none }, accessFlags := 1, code := none }
def k1c1 : Code := { maxStack := 4, maxLocals := 4, code := code, exceptionTable := #[], attributes := #[] }
def k1m1 : Method := { name := "law", desc := "(I)Z", sig := { parameters := [.int], returnType := some .boolean }, accessFlags := 9, code := some k1c1 }
/-- com/example/tagwire/tagwire/ec/EcTagTypeIntegerBytesPinLaw -/
def k1 : Class := { plain "com/example/tagwire/tagwire/ec/EcTagTypeIntegerBytesPinLaw" (some 0) with
  accessFlags := 49
  interfaces := #[]
  cf := some (fileOf pool1 48 #[] #[{ accessFlags := 1, nameIndex := 5, descriptorIndex := 6, attributes := #[] }, { accessFlags := 9, nameIndex := 52, descriptorIndex := 53, attributes := #[] }] 49 2 #[] #[])
  fields := #[]
  methods := #[k1m0, k1m1]
  instanceTypes := #[]
  staticTypes := #[]
  resolved := Array.replicate 59 none
  statics := none }

def pool2 : Array CpInfo := pool [(1, .class_ 2), (0, u "java/lang/constant/Constable"), (0, .class_ 4), (0, u "java/lang/Object")] 6

/-- java/lang/constant/Constable -/
def k2 : Class := { plain "java/lang/constant/Constable" (some 0) with
  accessFlags := 1537
  interfaces := #[]
  cf := some (fileOf pool2 1 #[] #[] 1537 3 #[] #[])
  fields := #[]
  methods := #[]
  instanceTypes := #[]
  staticTypes := #[]
  resolved := Array.replicate 11 none
  statics := none }

def pool3 : Array CpInfo := pool [(1, .class_ 2), (0, u "java/lang/Comparable"), (0, .class_ 4), (0, u "java/lang/Object")] 7

/-- java/lang/Comparable -/
def k3 : Class := { plain "java/lang/Comparable" (some 0) with
  accessFlags := 1537
  interfaces := #[]
  cf := some (fileOf pool3 1 #[] #[] 1537 3 #[] #[])
  fields := #[]
  methods := #[]
  instanceTypes := #[]
  staticTypes := #[]
  resolved := Array.replicate 12 none
  statics := none }

def pool4 : Array CpInfo := pool [(1, .class_ 2), (0, u "java/io/Serializable"), (0, .class_ 4), (0, u "java/lang/Object")] 2

/-- java/io/Serializable -/
def k4 : Class := { plain "java/io/Serializable" (some 0) with
  accessFlags := 1537
  interfaces := #[]
  cf := some (fileOf pool4 1 #[] #[] 1537 3 #[] #[])
  fields := #[]
  methods := #[]
  instanceTypes := #[]
  staticTypes := #[]
  resolved := Array.replicate 7 none
  statics := none }

def pool5 : Array CpInfo := pool [(2, .class_ 4), (1, u "java/lang/Enum"), (0, u "name"), (0, u "Ljava/lang/String;"), (0, .fieldref 2 8), (0, .nameAndType 9 10), (0, u "ordinal"), (0, u "I"), (1, .class_ 14), (1, u "java/lang/Object"), (4, u "hash"), (86, .class_ 108), (1, u "java/lang/Enum$EnumDesc"), (2, .class_ 112), (0, u "java/lang/constant/Constable"), (0, .class_ 114), (0, u "java/lang/Comparable"), (0, .class_ 116), (0, u "java/io/Serializable"), (9, u "()I")] 77

def k5c0 : Code := { maxStack := 1, maxLocals := 1, code := jdk_37_method_2_code, exceptionTable := #[], attributes := #[] }
def k5m0 : Method := { name := "ordinal", desc := "()I", sig := { parameters := [], returnType := some .int }, accessFlags := 17, code := some k5c0 }
/-- java/lang/Enum -/
def k5 : Class := { plain "java/lang/Enum" (some 0) with
  accessFlags := 1057
  interfaces := #[2, 3, 4]
  cf := some (fileOf pool5 2 #[.nestMembers #[106]] #[{ accessFlags := 17, nameIndex := 9, descriptorIndex := 126, attributes := #[] }] 1057 12 #[111, 113, 115] #[{ accessFlags := 18, nameIndex := 5, descriptorIndex := 6, attributes := #[] }, { accessFlags := 18, nameIndex := 9, descriptorIndex := 10, attributes := #[] }, { accessFlags := 2, nameIndex := 19, descriptorIndex := 10, attributes := #[] }])
  fields := #[{ name := "name", type := (.object "java/lang/String"), accessFlags := 18, slot := 0, constantValue := 0 }, { name := "ordinal", type := .int, accessFlags := 18, slot := 1, constantValue := 0 }, { name := "hash", type := .int, accessFlags := 2, slot := 2, constantValue := 0 }]
  methods := #[k5m0]
  instanceTypes := #[(.object "java/lang/String"), .int, .int]
  staticTypes := #[]
  resolved := Array.replicate 204 none
  statics := none }

def pool6 : Array CpInfo := pool [(1, .class_ 2), (0, u "com/example/tagwire/tagwire/ec/EcTagType"), (2, u "UNKNOWN"), (0, u "Lcom/example/tagwire/tagwire/ec/EcTagType;"), (2, u "CUSTOM"), (2, u "UINT8"), (2, u "UINT16"), (2, u "UINT32"), (2, u "UINT64"), (2, u "STRING"), (2, u "DOUBLE"), (2, u "IPV4"), (2, u "HASH16"), (2, u "UINT128"), (2, u "$VALUES"), (0, u "[Lcom/example/tagwire/tagwire/ec/EcTagType;"), (6, .class_ 49), (1, u "java/lang/Enum"), (8, u "code"), (0, u "I"), (18, u "dumpName"), (0, u "Ljava/lang/String;"), (0, .methodref 1 81), (0, .nameAndType 82 83), (0, u "ordinal"), (0, u "()I"), (2, u "BY_CODE"), (0, u "Lcom/example/tagwire/tagwire/ec/CodeIndex;"), (29, u "BY_DUMP_NAME"), (0, u "Ljava/util/Map;"), (95, u "UNLISTED_PREFIX"), (1, u "MAX_CODE"), (6, u "integerBytes")] 49

def k6c0 : Code := { maxStack := 1, maxLocals := 1, code := prog_53_method_5_code, exceptionTable := #[], attributes := #[] }
def k6m0 : Method := { name := "integerBytes", desc := "()I", sig := { parameters := [], returnType := some .int }, accessFlags := 0, code := some k6c0 }
/-- com/example/tagwire/tagwire/ec/EcTagType -/
def k6 : Class := { plain "com/example/tagwire/tagwire/ec/EcTagType" (some 5) with
  accessFlags := 16433
  interfaces := #[]
  cf := some (fileOf pool6 1 #[] #[{ accessFlags := 0, nameIndex := 223, descriptorIndex := 83, attributes := #[] }] 16433 47 #[] #[{ accessFlags := 16409, nameIndex := 5, descriptorIndex := 6, attributes := #[] }, { accessFlags := 16409, nameIndex := 9, descriptorIndex := 6, attributes := #[] }, { accessFlags := 16409, nameIndex := 12, descriptorIndex := 6, attributes := #[] }, { accessFlags := 16409, nameIndex := 15, descriptorIndex := 6, attributes := #[] }, { accessFlags := 16409, nameIndex := 18, descriptorIndex := 6, attributes := #[] }, { accessFlags := 16409, nameIndex := 21, descriptorIndex := 6, attributes := #[] }, { accessFlags := 16409, nameIndex := 24, descriptorIndex := 6, attributes := #[] }, { accessFlags := 16409, nameIndex := 27, descriptorIndex := 6, attributes := #[] }, { accessFlags := 16409, nameIndex := 30, descriptorIndex := 6, attributes := #[] }, { accessFlags := 16409, nameIndex := 33, descriptorIndex := 6, attributes := #[] }, { accessFlags := 16409, nameIndex := 36, descriptorIndex := 6, attributes := #[] }, { accessFlags := 26, nameIndex := 86, descriptorIndex := 87, attributes := #[] }, { accessFlags := 26, nameIndex := 117, descriptorIndex := 118, attributes := #[] }, { accessFlags := 26, nameIndex := 214, descriptorIndex := 79, attributes := #[] }, { accessFlags := 26, nameIndex := 216, descriptorIndex := 59, attributes := #[] }, { accessFlags := 18, nameIndex := 58, descriptorIndex := 59, attributes := #[] }, { accessFlags := 18, nameIndex := 78, descriptorIndex := 79, attributes := #[] }, { accessFlags := 4122, nameIndex := 39, descriptorIndex := 40, attributes := #[] }])
  fields := #[{ name := "UNKNOWN", type := (.object "com/example/tagwire/tagwire/ec/EcTagType"), accessFlags := 16409, slot := 0, constantValue := 0 }, { name := "CUSTOM", type := (.object "com/example/tagwire/tagwire/ec/EcTagType"), accessFlags := 16409, slot := 1, constantValue := 0 }, { name := "UINT8", type := (.object "com/example/tagwire/tagwire/ec/EcTagType"), accessFlags := 16409, slot := 2, constantValue := 0 }, { name := "UINT16", type := (.object "com/example/tagwire/tagwire/ec/EcTagType"), accessFlags := 16409, slot := 3, constantValue := 0 }, { name := "UINT32", type := (.object "com/example/tagwire/tagwire/ec/EcTagType"), accessFlags := 16409, slot := 4, constantValue := 0 }, { name := "UINT64", type := (.object "com/example/tagwire/tagwire/ec/EcTagType"), accessFlags := 16409, slot := 5, constantValue := 0 }, { name := "STRING", type := (.object "com/example/tagwire/tagwire/ec/EcTagType"), accessFlags := 16409, slot := 6, constantValue := 0 }, { name := "DOUBLE", type := (.object "com/example/tagwire/tagwire/ec/EcTagType"), accessFlags := 16409, slot := 7, constantValue := 0 }, { name := "IPV4", type := (.object "com/example/tagwire/tagwire/ec/EcTagType"), accessFlags := 16409, slot := 8, constantValue := 0 }, { name := "HASH16", type := (.object "com/example/tagwire/tagwire/ec/EcTagType"), accessFlags := 16409, slot := 9, constantValue := 0 }, { name := "UINT128", type := (.object "com/example/tagwire/tagwire/ec/EcTagType"), accessFlags := 16409, slot := 10, constantValue := 0 }, { name := "BY_CODE", type := (.object "com/example/tagwire/tagwire/ec/CodeIndex"), accessFlags := 26, slot := 11, constantValue := 0 }, { name := "BY_DUMP_NAME", type := (.object "java/util/Map"), accessFlags := 26, slot := 12, constantValue := 0 }, { name := "UNLISTED_PREFIX", type := (.object "java/lang/String"), accessFlags := 26, slot := 13, constantValue := 0 }, { name := "MAX_CODE", type := .int, accessFlags := 26, slot := 14, constantValue := 0 }, { name := "code", type := .int, accessFlags := 18, slot := 3, constantValue := 0 }, { name := "dumpName", type := (.object "java/lang/String"), accessFlags := 18, slot := 4, constantValue := 0 }, { name := "$VALUES", type := (.array (.object "com/example/tagwire/tagwire/ec/EcTagType")), accessFlags := 4122, slot := 15, constantValue := 0 }]
  methods := #[k6m0]
  instanceTypes := #[(.object "java/lang/String"), .int, .int, .int, (.object "java/lang/String")]
  staticTypes := #[(.object "com/example/tagwire/tagwire/ec/EcTagType"), (.object "com/example/tagwire/tagwire/ec/EcTagType"), (.object "com/example/tagwire/tagwire/ec/EcTagType"), (.object "com/example/tagwire/tagwire/ec/EcTagType"), (.object "com/example/tagwire/tagwire/ec/EcTagType"), (.object "com/example/tagwire/tagwire/ec/EcTagType"), (.object "com/example/tagwire/tagwire/ec/EcTagType"), (.object "com/example/tagwire/tagwire/ec/EcTagType"), (.object "com/example/tagwire/tagwire/ec/EcTagType"), (.object "com/example/tagwire/tagwire/ec/EcTagType"), (.object "com/example/tagwire/tagwire/ec/EcTagType"), (.object "com/example/tagwire/tagwire/ec/CodeIndex"), (.object "java/util/Map"), (.object "java/lang/String"), .int, (.array (.object "com/example/tagwire/tagwire/ec/EcTagType"))]
  resolved := Array.replicate 273 none
  statics := some 0 }

def pool7 : Array CpInfo := pool [(1, u "java/lang/Cloneable"), (0, .class_ 1), (0, u "java/lang/Object"), (0, .class_ 3)] 3

/-- java/lang/Cloneable -/
def k7 : Class := { plain "java/lang/Cloneable" (some 0) with
  accessFlags := 1537
  interfaces := #[]
  cf := some (fileOf pool7 2 #[] #[] 1537 4 #[] #[])
  fields := #[]
  methods := #[]
  instanceTypes := #[]
  staticTypes := #[]
  resolved := Array.replicate 8 none
  statics := none }

/-- the primitive byte -/
def k8 : Class := { plain "byte" none with kind := .primitive 'B', accessFlags := 0x411 }
/-- [B -/
def k9 : Class := { plain "[B" (some 0) with kind := .array 8 .byte, interfaces := #[7, 4], accessFlags := 1041 }

/-- the primitive int -/
def k10 : Class := { plain "int" none with kind := .primitive 'I', accessFlags := 0x411 }
/-- [I -/
def k11 : Class := { plain "[I" (some 0) with kind := .array 10 .int, interfaces := #[7, 4], accessFlags := 1041 }

/-- [Lcom/example/tagwire/tagwire/ec/EcTagType; -/
def k12 : Class := { plain "[Lcom/example/tagwire/tagwire/ec/EcTagType;" (some 0) with kind := .array 6 (.object "com/example/tagwire/tagwire/ec/EcTagType"), interfaces := #[7, 4], accessFlags := 1041 }

def heap : Heap := #[{ cls := 6, slots := #[.ref 1, .ref 2, .ref 3, .ref 4, .ref 5, .ref 6, .ref 7, .ref 8, .ref 9, .ref 10, .ref 11, .null, .null, .null, .int 0, .null], vm := .statics 6 },
  { cls := 6, slots := #[.null, .int 0, .int 0, .int 0, .null], vm := .none },
  { cls := 6, slots := #[.null, .int 1, .int 0, .int 0, .null], vm := .none },
  { cls := 6, slots := #[.null, .int 2, .int 0, .int 0, .null], vm := .none },
  { cls := 6, slots := #[.null, .int 3, .int 0, .int 0, .null], vm := .none },
  { cls := 6, slots := #[.null, .int 4, .int 0, .int 0, .null], vm := .none },
  { cls := 6, slots := #[.null, .int 5, .int 0, .int 0, .null], vm := .none },
  { cls := 6, slots := #[.null, .int 6, .int 0, .int 0, .null], vm := .none },
  { cls := 6, slots := #[.null, .int 7, .int 0, .int 0, .null], vm := .none },
  { cls := 6, slots := #[.null, .int 8, .int 0, .int 0, .null], vm := .none },
  { cls := 6, slots := #[.null, .int 9, .int 0, .int 0, .null], vm := .none },
  { cls := 6, slots := #[.null, .int 10, .int 0, .int 0, .null], vm := .none }]
def classes : Array Class := #[k0, k1, k2, k3, k4, k5, k6, k7, k8, k9, k10, k11, k12]
def interned : List (Array UInt16 × Addr) := []
def slotsUsed : Nat := 71
def theMethod : MethodId := ⟨1, 1⟩
def args0 : Array Value := #[.int 5]
def aboutOver (below : List Frame) : State where
  vm := { classes := classes, interned := interned.toArray }
  heap := heap
  slotsUsed := slotsUsed
  threads := #[{ frames := .invoking theMethod args0 :: below }]
def below0 : List Frame := [.native { method := ⟨0, 0⟩, args := #[] }]
def about1 : State := aboutOver below0
def p0 : Program := .bare "" "" ""
def e0 : Env := launch0.env 0 0 0
theorem w_frames : about1.frames = Frame.invoking theMethod args0 :: below0 := rfl
set_option maxRecDepth 65536 in
theorem w_args : argsFit about1.vm theMethod args0 = true := by decide +kernel
set_option maxRecDepth 65536 in
theorem w_heap : heapFits about1 = true := by decide +kernel
set_option maxRecDepth 65536 in
theorem w_runnable : about1.curStatus? = some .runnable := by decide +kernel
set_option maxRecDepth 65536 in
theorem w_alone : about1.alone = true := by decide +kernel
set_option maxRecDepth 65536 in
theorem w_named : about1.methodNamed? x = some theMethod := by decide +kernel
set_option maxRecDepth 65536 in
theorem w_hears : about1.hears theMethod below0 = true := by decide +kernel
set_option maxRecDepth 65536 in
theorem w_ripe : about1.ripe theMethod args0 below0 = true := by decide +kernel
theorem w_running : about1.status = .running := rfl
set_option maxRecDepth 65536 in
theorem w_room : about1.hasRoom e0.platform room_1 = true :=
  launch0.hasRoom_least _ room_1 (by decide +kernel) (by decide +kernel) (by decide +kernel) (by decide +kernel) (by decide +kernel) (by decide +kernel)
theorem allAtoms_all (ts : List Jvm.Cond) (a : Array Jvm.Value) (st : Jvm.State) : (allAtoms ts).before a st = ts.all (fun c => c.before a st) := by
  induction ts with
  | nil => rfl
  | cons c t ih =>
    show (Jvm.Cond.and c (allAtoms t)).before a st = _
    rw [Jvm.Cond.before_and, ih, List.all_cons]
def words1 : List Jvm.Cond := Jvm.Cond.code x code maxLocals ret :: tables_1
/-- a 'code' word, met by the world's own term for the bytes: nothing is compared byte by byte -/
theorem code_word {y : MethodName} {bytes : ByteArray} {mx : Nat} {rt : Option FieldType} {a : Array Value} {s : State} {m : MethodId} {meth : Method} {c : Code} (h1 : s.methodNamed? y = some m) (h2 : s.vm.method? m = some meth) (h3 : meth.code = some c) (h4 : c.code = bytes)
    (h5 : (c.maxLocals == mx && c.exceptionTable.isEmpty && decide (c.maxStack ≤ mostOperands) && decide (meth.sig.returnType = rt) && !meth.locks && decide (parseMethodDescriptor y.desc = some meth.sig)) = true) : (Jvm.Cond.code y bytes mx rt).before a s = true := by
  simp only [Bool.and_eq_true, beq_iff_eq, Bool.not_eq_true', decide_eq_true_eq] at h5
  obtain ⟨⟨⟨⟨⟨g1, g2⟩, g3⟩, g4⟩, g5⟩, g6⟩ := h5
  simp [Cond.before, Cond.holds, Cond.value, h1, h2, h3, h4, g1, g2, g3, g4, g5, g6]
def isCode : Jvm.Cond → Bool
  | .code _ _ _ _ => true
  | _ => false
theorem all_split {L : List Jvm.Cond} {P : Jvm.Cond → Bool} (h1 : L.all (fun c => isCode c || P c) = true) (h2 : ∀ c ∈ L.filter isCode, P c = true) : L.all P = true := by
  refine List.all_eq_true.mpr fun c hc => ?_
  have h := List.all_eq_true.mp h1 c hc
  rcases Bool.eq_false_or_eq_true (isCode c) with hi | hi
  · exact h2 c (List.mem_filter.mpr ⟨hc, hi⟩)
  · simpa [hi] using h
set_option maxRecDepth 65536 in
theorem w_c0 : (Jvm.Cond.code x code maxLocals ret).before args0 about1 = true := code_word (m := ⟨1, 1⟩) (meth := k1m1) (c := k1c1) (by decide +kernel) rfl rfl rfl (by decide +kernel)
set_option maxRecDepth 65536 in
theorem w_c1 : (Jvm.Cond.code ({ cls := "com/example/tagwire/tagwire/ec/EcTagType", name := "integerBytes", desc := "()I" } : Jvm.MethodName) prog_53_method_5_code (1 : Nat) (Option.some Jvm.ClassFile.FieldType.int)).before args0 about1 = true := code_word (m := ⟨6, 0⟩) (meth := k6m0) (c := k6c0) (by decide +kernel) rfl rfl rfl (by decide +kernel)
set_option maxRecDepth 65536 in
theorem w_c2 : (Jvm.Cond.code ({ cls := "java/lang/Enum", name := "ordinal", desc := "()I" } : Jvm.MethodName) jdk_37_method_2_code (1 : Nat) (Option.some Jvm.ClassFile.FieldType.int)).before args0 about1 = true := code_word (m := ⟨5, 0⟩) (meth := k5m0) (c := k5c0) (by decide +kernel) rfl rfl rfl (by decide +kernel)
def codes1 : List Jvm.Cond := [Jvm.Cond.code x code maxLocals ret, Jvm.Cond.code ({ cls := "com/example/tagwire/tagwire/ec/EcTagType", name := "integerBytes", desc := "()I" } : Jvm.MethodName) prog_53_method_5_code (1 : Nat) (Option.some Jvm.ClassFile.FieldType.int), Jvm.Cond.code ({ cls := "java/lang/Enum", name := "ordinal", desc := "()I" } : Jvm.MethodName) jdk_37_method_2_code (1 : Nat) (Option.some Jvm.ClassFile.FieldType.int)]
set_option maxRecDepth 65536 in
theorem codes_eq : words1.filter isCode = codes1 := rfl
theorem w_codes : ∀ c ∈ words1.filter isCode, c.before args0 about1 = true := by
  rw [codes_eq]
  intro c hc
  simp only [codes1, List.mem_cons, List.not_mem_nil, or_false] at hc
  rcases hc with rfl | rfl | rfl
  · exact w_c0
  · exact w_c1
  · exact w_c2
set_option maxRecDepth 65536 in
theorem w_t1 : (words1.take 24).all (fun c => isCode c || c.before args0 about1) = true := by decide +kernel
set_option maxRecDepth 65536 in
theorem w_t2 : (words1.drop 24).all (fun c => isCode c || c.before args0 about1) = true := by decide +kernel
theorem w_tables : (allAtoms (Jvm.Cond.code x code maxLocals ret :: tables_1)).before args0 about1 = true := by
  rw [allAtoms_all]
  show words1.all (fun c => c.before args0 about1) = true
  refine all_split ?_ w_codes
  rw [← List.take_append_drop 24 words1, List.all_append, w_t1, w_t2]
  rfl
set_option maxRecDepth 65536 in
theorem w_case : (Jvm.Cond.and given_1 narrow_1).before args0 about1 = true := by decide +kernel
theorem w_applies : (headSpec (Jvm.Cond.code x code maxLocals ret :: tables_1) room_1).applies x e0.platform about1 = true :=
  (Spec.applies_iff w_frames).mpr ⟨w_running, w_runnable, w_alone, w_named, w_hears, w_ripe, w_room, w_tables⟩
theorem atStart : AtStart classFile x code maxLocals ret World_1 tables_1 room_1 Calls_1 rest_1 Pre_1 launch0 p0 e0 about1 theMethod args0 below0 :=
  ⟨lists_1, trivial, launch0.admits_env _ _ _, launch0.least_env, fairChoices_fair.cas, fairChoices_fair.clock, w_frames, w_args, w_heap, w_applies, trivial, trivial, w_case⟩
end start1
theorem witness_1 : WitnessClaimed_1 := ⟨start1.p0, start1.e0, start1.about1, start1.theMethod, start1.args0, start1.below0, start1.atStart⟩
end Jvm.Pilot.@@N@@
