import JvmDerived
import JvmDerived.Pilot.@@N@@Statement
import JvmDerived.Pilot.@@N@@Code
set_option linter.unusedVariables false
set_option linter.unusedSimpArgs false
namespace Jvm.RoadKit
open Sem ClassFile Op Lib Jvm.Stand Jvm.Free Jvm.LawKit
section New
variable {p : Program} {l : Launch} {e : Env} {R : Room} {s : State} {m : MethodId} {args : Array Value} {below : List Frame} {meth : Method} {c : Code} {T : State} {locs : List Loc} {cells slots : Nat}
theorem retI (X : Stand p l e R s m args below meth c T locs cells slots) (hx : p.tables.exec = Jvm.exec) {pc : Nat} {Ls : Array Slot} {z : Int32} {rest : List Value} (hret : meth.sig.returnType = some .int) (hd : decode c.code pc = .ok (.ireturn, 1)) {fs : List Frame}
    (hl : ∀ (f : JFrame) (acts : List Action), f.method = m → f.locked = none → f.entered = [] → (doReturn e (T.setTop f) acts (some (.int z))).1 = T.setFrames fs) : Steps p.tables e below (T.setTop (mkF m pc Ls (.int z :: rest))) (T.setFrames fs) := by
  have hm' : T.vm.method? m = some meth := X.method'
  have hn : narrow .int (.int z) = .int z := rfl
  show Steps p.tables e below (T.setTop { method := m, pc := pc, locals := Ls, stack := _ :: rest, locked := none }) _
  jvm_step X.here [X.here.top, hx, hd, hm', hret, hn]
  first | (intro acts; rw [hl _ acts rfl rfl rfl]) | rw [hl _ _ rfl rfl rfl]
  exact Steps.refl _
theorem retJ (X : Stand p l e R s m args below meth c T locs cells slots) (hx : p.tables.exec = Jvm.exec) {pc : Nat} {Ls : Array Slot} {z : Int64} {rest : List Value} (hret : meth.sig.returnType = some .long) (hd : decode c.code pc = .ok (.lreturn, 1)) {fs : List Frame}
    (hl : ∀ (f : JFrame) (acts : List Action), f.method = m → f.locked = none → f.entered = [] → (doReturn e (T.setTop f) acts (some (.long z))).1 = T.setFrames fs) : Steps p.tables e below (T.setTop (mkF m pc Ls (.long z :: rest))) (T.setFrames fs) := by
  have hm' : T.vm.method? m = some meth := X.method'
  have hn : narrow .long (.long z) = .long z := rfl
  show Steps p.tables e below (T.setTop { method := m, pc := pc, locals := Ls, stack := _ :: rest, locked := none }) _
  jvm_step X.here [X.here.top, hx, hd, hm', hret, hn]
  first | (intro acts; rw [hl _ acts rfl rfl rfl]) | rw [hl _ _ rfl rfl rfl]
  exact Steps.refl _
end New
end Jvm.RoadKit
namespace Jvm.Pilot.@@N@@
open Jvm Jvm.ClassFile Sem Op Lib Jvm.Free Jvm.Stand Jvm.LawKit Jvm.RoadKit Bundle Jvm.Pilot.@@N@@.Jvm.D
/-! THE WALK's GOAL, AND ONE LAW A STEP (each in the form: where the run goes on, it ends well; so it does from here) -/
def Go (p : Program) (e : Env) (below : List Frame) (K : Outcome → State → Prop) (u : State) : Prop := ∃ s₂ o, Steps p.tables e below u s₂ ∧ s₂.status = .running ∧ Ended s₂ below o ∧ K o s₂
theorem Go.step {p : Program} {e : Env} {below : List Frame} {K : Outcome → State → Prop} {u u' : State} (h : ∀ t, Steps p.tables e below u' t → Steps p.tables e below u t) (g : Go p e below K u') : Go p e below K u := by
  obtain ⟨a, o, h1, h2⟩ := g; exact ⟨a, o, h _ h1, h2⟩
def Ends (s : State) (Q : Option Value → Heap → List Loc → Prop) (kc ks : Nat) (o : Outcome) (U : State) : Prop := ∃ v L, o = .returned v ∧ Q v U.heap L ∧ FrameEnd s o U L kc ks
/-- where the run stands, with all that a step asks -/
def Sx (Z : State) (own : String) (bytes : ByteArray) (ml : Nat) (p : Program) (l : Launch) (e : Env) (R : Room) (s : State) (m : MethodId) (args : Array Value) (below : List Frame) (meth : Method) (c : Code) (T : State) (locs : List Loc) (cells slots : Nat) (h : Heap) : Prop :=
  Stand p l e R s m args below meth c T locs cells slots ∧ p.tables.exec = Jvm.exec ∧ c.code = bytes ∧ c.maxLocals = ml ∧ s.vm.findClass own = some m.cls ∧ Z.Warmed39 s.vm ∧ T.heap = h
/-- what a method owes: called at the heap h0 with these arguments it returns, and Q holds -/
abbrev Rm (l : Launch) (Z : State) (y : MethodName) (bytes : ByteArray) (ml : Nat) (ret : Option FieldType) (ws : List Jvm.Cond) (rm : Room) (as' : Array Value) (h0 : Heap) (Q : Option Value → Heap → List Loc → Prop) : Prop :=
  MetFree l y (head1 (Jvm.Cond.code y bytes ml ret :: ws) rm) (fun a U => a = as' ∧ Z.Warmed39 U.vm ∧ U.heap = h0) (fun _ _ _ _ _ => True) (fun _ U o U' => ∃ v L, o = .returned v ∧ Q v U'.heap L ∧ FrameEnd U o U' L rm.cells rm.slots)
theorem Rm.of {l : Launch} {Z : State} {y : MethodName} {bytes : ByteArray} {ml : Nat} {ret : Option FieldType} {ws : List Jvm.Cond} {rm : Room} {as' : Array Value} {h0 : Heap} {Q : Option Value → Heap → List Loc → Prop} (hpl : plainFor y = true)
    (body : ∀ (p : Program) (e : Env) (s : State) (m : MethodId) (below : List Frame) (meth : Method) (c : Code) (T : State), Sx Z y.cls bytes ml p l e rm s m as' below meth c T [] 0 0 h0 → meth.name = y.name → meth.sig.returnType = ret → meth.locks = false → Go p e below (Ends s Q rm.cells rm.slots) (T.setTop (entryFrame m as' ml))) : Rm l Z y bytes ml ret ws rm as' h0 Q := by
  refine MetFree.of_bodySF hpl hisR ?_
  intro p e s m args below meth c s₁ Bd hml0 hP hK
  obtain ⟨rfl, hZ, hh⟩ := hP
  have X0 : Stand p l e rm s m args below meth c s₁ [] 0 0 := Stand.of_body Bd
  exact body p e s m below meth c s₁ ⟨X0, Bd.exec, Bd.bytes, hml0, findClass_of_methodNamed Bd.named, hZ, by rw [← hh, Bd.state]; rfl⟩ (name_of_methodNamed Bd.named Bd.method).1 Bd.returns (BodyLoose.notSynchronized Bd)
theorem Rm.weaken {l : Launch} {Z : State} {y : MethodName} {bytes : ByteArray} {ml : Nat} {ret : Option FieldType} {ws : List Jvm.Cond} {rm : Room} {as' : Array Value} {h0 : Heap} {Q Q' : Option Value → Heap → List Loc → Prop} (M : Rm l Z y bytes ml ret ws rm as' h0 Q) (hq : ∀ v h L, Q v h L → Q' v h L) : Rm l Z y bytes ml ret ws rm as' h0 Q' := by
  intro p e ha hc hk s m args below hf happ hP hK
  obtain ⟨n, o, h1, h2, h3, v, L, e1, q, r⟩ := M p e ha hc hk s m args below hf happ hP hK
  exact ⟨n, o, h1, h2, h3, v, L, e1, hq _ _ _ q, r⟩
/-- a boolean as an int -/
def b2i (b : Bool) : Int32 := if b then 1 else 0
theorem m1_int : (-1 : Int32).toInt = -1 := rfl
theorem b2i_t : b2i true = 1 := rfl
theorem b2i_f : b2i false = 0 := rfl
theorem nar_b2i (b : Bool) : nar .boolean (b2i b) = b2i b := by cases b <;> rfl
theorem bne {b : Bool} (h : b = true) : ¬ b2i b = 0 := by subst h; decide
theorem beq0 {b : Bool} (h : ¬ b = true) : b2i b = 0 := by simp at h; subst h; rfl
theorem Fr.one {k : Nat} {a : Addr} {sl : Nat} (g : k ≤ a) : Fr k [⟨a, sl⟩] := fun y hy => by cases List.mem_singleton.mp hy; exact g
/-- an array and all that it holds -/
def Av (Z : State) (h : Heap) (a : Addr) (ty : FieldType) (vs : List Value) : Prop := ∃ c : Cell, Arr Z h a c ty ∧ c.slots.toList = vs ∧ vs.length < 2147483648
section Facts
variable {Z : State} {h h' : Heap} {a b : Addr} {ty : FieldType} {vs : List Value} {sl : Nat} {v : Value} {ws : List Addr}
theorem Av.lt (F : Av Z h a ty vs) : a < h.size := by obtain ⟨c, A, -⟩ := F; exact A.lt
theorem Av.ext (F : Av Z h a ty vs) (E : Ext h h') : Av Z h' a ty vs := by obtain ⟨c, A, r⟩ := F; exact ⟨c, A.ext E, r⟩
theorem Av.other (F : Av Z h b ty vs) (W : Wr h h' a sl v) (q : b ≠ a) : Av Z h' b ty vs := by obtain ⟨c, A, r⟩ := F; exact ⟨c, A.other W q, r⟩
theorem Av.keep (F : Av Z h a ty vs) (K : Keep h h' ws) (q : a ∉ ws) : Av Z h' a ty vs := by obtain ⟨c, A, r⟩ := F; exact ⟨c, ⟨K.2.1 a c A.1 q, A.2⟩, r⟩
theorem Av.set (F : Av Z h a ty vs) (W : Wr h h' a sl v) : Av Z h' a ty (vs.set sl v) := by
  obtain ⟨c, A, e, r⟩ := F
  refine ⟨_, A.same W, ?_, by simpa using r⟩
  subst e
  simp [Cell.setSlot]
theorem Av.eq {vs' : List Value} (F : Av Z h a ty vs) (e : vs = vs') : Av Z h a ty vs' := e ▸ F
/-- an array of which the length is known alone -/
def AvN (Z : State) (h : Heap) (a : Addr) (ty : FieldType) (z : Int32) : Prop := ∃ vs, Av Z h a ty vs ∧ vs.length.toInt32 = z
theorem AvN.lt {z : Int32} (F : AvN Z h a ty z) : a < h.size := by obtain ⟨vs, A, -⟩ := F; exact A.lt
theorem AvN.ext {z : Int32} (F : AvN Z h a ty z) (E : Ext h h') : AvN Z h' a ty z := by obtain ⟨vs, A, r⟩ := F; exact ⟨vs, A.ext E, r⟩
theorem AvN.other {z : Int32} (F : AvN Z h b ty z) (W : Wr h h' a sl v) (q : b ≠ a) : AvN Z h' b ty z := by obtain ⟨vs, A, r⟩ := F; exact ⟨vs, A.other W q, r⟩
theorem AvN.keep {z : Int32} (F : AvN Z h a ty z) (K : Keep h h' ws) (q : a ∉ ws) : AvN Z h' a ty z := by obtain ⟨vs, A, r⟩ := F; exact ⟨vs, A.keep K q, r⟩
theorem Av.len (F : Av Z h a ty vs) : vs.length.toInt32.toInt = vs.length := by obtain ⟨_, _, _, r⟩ := F; exact len_toInt r
/-- an array over objects of the class C -/
def OvA (Z : State) (h : Heap) (a : Addr) (C : String) : Prop := ∃ cl : Cell, Arr Z h a cl (.object C) ∧ Ovr Z cl.cls C
theorem OvA.lt {C : String} (F : OvA Z h a C) : a < h.size := by obtain ⟨_, A, _⟩ := F; exact A.lt
theorem OvA.ext {C : String} (F : OvA Z h a C) (E : Ext h h') : OvA Z h' a C := by obtain ⟨cl, A, r⟩ := F; exact ⟨cl, A.ext E, r⟩
theorem OvA.keep {C : String} (F : OvA Z h a C) (K : Keep h h' ws) (q : a ∉ ws) : OvA Z h' a C := by obtain ⟨c, A, r⟩ := F; exact ⟨c, ⟨K.2.1 a c A.1 q, A.2⟩, r⟩
theorem OvA.wr {C : String} (F : OvA Z h a C) (W : Wr h h' b sl v) : OvA Z h' a C := by
  obtain ⟨cl, A, r⟩ := F
  by_cases q : a = b
  · subst q; exact ⟨_, A.same W, r⟩
  · exact ⟨cl, A.other W q, r⟩
theorem OvA.sto {C : String} (F : OvA Z h a C) (I : Ins Z h b C true) : Sto Z h a (.ref b) := by obtain ⟨cl, A, r⟩ := F; exact Sto.of A r I
theorem fit0 : ∀ v ∈ ([] : List Value), fits ty v = true := fun _ q => nomatch q
theorem fitS (q : fits ty v = true) (r : ∀ w ∈ vs, fits ty w = true) : ∀ w ∈ v :: vs, fits ty w = true := fun w hw => (List.mem_cons.mp hw).elim (fun e => e ▸ q) (r w)
theorem Sta.keep {C n d : String} (F : Sta Z h C n d v) (K : Keep h h' ws) (q : ∀ x ∈ ws, ∀ c : Cell, h[x]? = some c → c.vm.isStatics = false) : Sta Z h' C n d v := by
  obtain ⟨cf, i, k, f, st, cell, h1, h2, h3, h4, h5, h6, h7⟩ := F
  exact ⟨cf, i, k, f, st, cell, h1, h2, h3, h4, K.2.1 _ _ h5 (fun hm => by rw [q _ hm _ h5] at h6; cases h6), h6, h7⟩
end Facts
section Walk
variable {Z : State} {a0 : Array Value} {own : String} {bytes : ByteArray} {ml : Nat} {p : Program} {l : Launch} {e : Env} {R : Room} {s : State} {m : MethodId} {args : Array Value} {below : List Frame} {meth : Method} {c : Code} {T : State} {locs : List Loc} {cells slots : Nat} {h : Heap} {K : Outcome → State → Prop} {pc pc' : Nat} {Ls Ls' : Array Slot} {st : List Value}
theorem Go.lit32 {x z : Int32} (q : x = z) (k : Go p e below K (T.setTop (mkF m pc Ls (.int z :: st)))) : Go p e below K (T.setTop (mkF m pc Ls (.int x :: st))) := q ▸ k
theorem Go.lit64 {x z : Int64} (q : x = z) (k : Go p e below K (T.setTop (mkF m pc Ls (.long z :: st)))) : Go p e below K (T.setTop (mkF m pc Ls (.long x :: st))) := q ▸ k
theorem Go.at_ {f f' : JFrame} (q : f = f') (k : Go p e below K (T.setTop f')) : Go p e below K (T.setTop f) := q ▸ k
theorem g_iload (X : Sx Z own bytes ml p l e R s m args below meth c T locs cells slots h) {i : Nat} {v : Int32} (hd : decode bytes pc = .ok (.iload i, 2)) (hp : pc + 2 = pc') (hl : Ls[i]? = some (.val (.int v))) (k : Go p e below K (T.setTop (mkF m pc' Ls (.int v :: st)))) : Go p e below K (T.setTop (mkF m pc Ls (st))) := by
  subst hp; exact Go.step (fun t q => XS.iload X.1.here X.2.1 rfl (hb X.2.2.1 hd) hl q) k
theorem g_iloadN (X : Sx Z own bytes ml p l e R s m args below meth c T locs cells slots h) {i : Fin 4} {v : Int32} (hd : decode bytes pc = .ok (.iload_n i, 1)) (hp : pc + 1 = pc') (hl : Ls[i.val]? = some (.val (.int v))) (k : Go p e below K (T.setTop (mkF m pc' Ls (.int v :: st)))) : Go p e below K (T.setTop (mkF m pc Ls (st))) := by
  subst hp; exact Go.step (fun t q => XS.iloadN X.1.here X.2.1 rfl (hb X.2.2.1 hd) hl q) k
theorem g_lload (X : Sx Z own bytes ml p l e R s m args below meth c T locs cells slots h) {i : Nat} {v : Int64} (hd : decode bytes pc = .ok (.lload i, 2)) (hp : pc + 2 = pc') (hl : Ls[i]? = some (.val (.long v))) (k : Go p e below K (T.setTop (mkF m pc' Ls (.long v :: st)))) : Go p e below K (T.setTop (mkF m pc Ls (st))) := by
  subst hp; exact Go.step (fun t q => XS.lload X.1.here X.2.1 rfl (hb X.2.2.1 hd) hl q) k
theorem g_lloadN (X : Sx Z own bytes ml p l e R s m args below meth c T locs cells slots h) {i : Fin 4} {v : Int64} (hd : decode bytes pc = .ok (.lload_n i, 1)) (hp : pc + 1 = pc') (hl : Ls[i.val]? = some (.val (.long v))) (k : Go p e below K (T.setTop (mkF m pc' Ls (.long v :: st)))) : Go p e below K (T.setTop (mkF m pc Ls (st))) := by
  subst hp; exact Go.step (fun t q => XS.lloadN X.1.here X.2.1 rfl (hb X.2.2.1 hd) hl q) k
theorem g_aload (X : Sx Z own bytes ml p l e R s m args below meth c T locs cells slots h) {i : Nat} {v : Value} (hd : decode bytes pc = .ok (.aload i, 2)) (hp : pc + 2 = pc') (hl : Ls[i]? = some (.val v)) (hv : v.isRef = true) (k : Go p e below K (T.setTop (mkF m pc' Ls (v :: st)))) : Go p e below K (T.setTop (mkF m pc Ls (st))) := by
  subst hp; exact Go.step (fun t q => XS.aload X.1.here X.2.1 rfl (hb X.2.2.1 hd) hl hv q) k
theorem g_aloadN (X : Sx Z own bytes ml p l e R s m args below meth c T locs cells slots h) {i : Fin 4} {v : Value} (hd : decode bytes pc = .ok (.aload_n i, 1)) (hp : pc + 1 = pc') (hl : Ls[i.val]? = some (.val v)) (hv : v.isRef = true) (k : Go p e below K (T.setTop (mkF m pc' Ls (v :: st)))) : Go p e below K (T.setTop (mkF m pc Ls (st))) := by
  subst hp; exact Go.step (fun t q => XS.aloadN X.1.here X.2.1 rfl (hb X.2.2.1 hd) hl hv q) k
theorem g_istore (X : Sx Z own bytes ml p l e R s m args below meth c T locs cells slots h) {i : Nat} {v : Int32} (hd : decode bytes pc = .ok (.istore i, 2)) (hp : pc + 2 = pc') (hl : storeLocals Ls i (.int v) = some Ls') (k : Go p e below K (T.setTop (mkF m pc' Ls' (st)))) : Go p e below K (T.setTop (mkF m pc Ls (.int v :: st))) := by
  subst hp; exact Go.step (fun t q => XS.istore X.1.here X.2.1 rfl (hb X.2.2.1 hd) rfl hl q) k
theorem g_istoreN (X : Sx Z own bytes ml p l e R s m args below meth c T locs cells slots h) {i : Fin 4} {v : Int32} (hd : decode bytes pc = .ok (.istore_n i, 1)) (hp : pc + 1 = pc') (hl : storeLocals Ls i.val (.int v) = some Ls') (k : Go p e below K (T.setTop (mkF m pc' Ls' (st)))) : Go p e below K (T.setTop (mkF m pc Ls (.int v :: st))) := by
  subst hp; exact Go.step (fun t q => XS.istoreN X.1.here X.2.1 rfl (hb X.2.2.1 hd) rfl hl q) k
theorem g_lstore (X : Sx Z own bytes ml p l e R s m args below meth c T locs cells slots h) {i : Nat} {v : Int64} (hd : decode bytes pc = .ok (.lstore i, 2)) (hp : pc + 2 = pc') (hl : storeLocals Ls i (.long v) = some Ls') (k : Go p e below K (T.setTop (mkF m pc' Ls' (st)))) : Go p e below K (T.setTop (mkF m pc Ls (.long v :: st))) := by
  subst hp; exact Go.step (fun t q => XS.lstore X.1.here X.2.1 rfl (hb X.2.2.1 hd) rfl hl q) k
theorem g_lstoreN (X : Sx Z own bytes ml p l e R s m args below meth c T locs cells slots h) {i : Fin 4} {v : Int64} (hd : decode bytes pc = .ok (.lstore_n i, 1)) (hp : pc + 1 = pc') (hl : storeLocals Ls i.val (.long v) = some Ls') (k : Go p e below K (T.setTop (mkF m pc' Ls' (st)))) : Go p e below K (T.setTop (mkF m pc Ls (.long v :: st))) := by
  subst hp; exact Go.step (fun t q => XS.lstoreN X.1.here X.2.1 rfl (hb X.2.2.1 hd) rfl hl q) k
theorem g_astore (X : Sx Z own bytes ml p l e R s m args below meth c T locs cells slots h) {i : Nat} {v : Value} (hd : decode bytes pc = .ok (.astore i, 2)) (hp : pc + 2 = pc') (hv : v.isRef = true) (hl : storeLocals Ls i v = some Ls') (k : Go p e below K (T.setTop (mkF m pc' Ls' (st)))) : Go p e below K (T.setTop (mkF m pc Ls (v :: st))) := by
  subst hp; exact Go.step (fun t q => XS.astore X.1.here X.2.1 rfl (hb X.2.2.1 hd) rfl hv hl q) k
theorem g_astoreN (X : Sx Z own bytes ml p l e R s m args below meth c T locs cells slots h) {i : Fin 4} {v : Value} (hd : decode bytes pc = .ok (.astore_n i, 1)) (hp : pc + 1 = pc') (hv : v.isRef = true) (hl : storeLocals Ls i.val v = some Ls') (k : Go p e below K (T.setTop (mkF m pc' Ls' (st)))) : Go p e below K (T.setTop (mkF m pc Ls (v :: st))) := by
  subst hp; exact Go.step (fun t q => XS.astoreN X.1.here X.2.1 rfl (hb X.2.2.1 hd) rfl hv hl q) k
theorem g_iconst (X : Sx Z own bytes ml p l e R s m args below meth c T locs cells slots h) {i : Int} (v : Int32) (hd : decode bytes pc = .ok (.iconst i, 1)) (hp : pc + 1 = pc') (hv : Int32.ofInt i = v) (k : Go p e below K (T.setTop (mkF m pc' Ls (.int v :: st)))) : Go p e below K (T.setTop (mkF m pc Ls (st))) := by
  subst hv; subst hp; exact Go.step (fun t q => XS.iconst X.1.here X.2.1 rfl (hb X.2.2.1 hd)  q) k
theorem g_bipush (X : Sx Z own bytes ml p l e R s m args below meth c T locs cells slots h) {i : Int} (v : Int32) (hd : decode bytes pc = .ok (.bipush i, 2)) (hp : pc + 2 = pc') (hv : (Int8.ofInt i).toInt32 = v) (k : Go p e below K (T.setTop (mkF m pc' Ls (.int v :: st)))) : Go p e below K (T.setTop (mkF m pc Ls (st))) := by
  subst hv; subst hp; exact Go.step (fun t q => XS.bipush X.1.here X.2.1 rfl (hb X.2.2.1 hd)  q) k
theorem g_sipush (X : Sx Z own bytes ml p l e R s m args below meth c T locs cells slots h) {i : Int} (v : Int32) (hd : decode bytes pc = .ok (.sipush i, 3)) (hp : pc + 3 = pc') (hv : (Int16.ofInt i).toInt32 = v) (k : Go p e below K (T.setTop (mkF m pc' Ls (.int v :: st)))) : Go p e below K (T.setTop (mkF m pc Ls (st))) := by
  subst hv; subst hp; exact Go.step (fun t q => XS.sipush X.1.here X.2.1 rfl (hb X.2.2.1 hd)  q) k
theorem g_lconst (X : Sx Z own bytes ml p l e R s m args below meth c T locs cells slots h) {i : Fin 2} (v : Int64) (hd : decode bytes pc = .ok (.lconst i, 1)) (hp : pc + 1 = pc') (hv : Int64.ofNat i = v) (k : Go p e below K (T.setTop (mkF m pc' Ls (.long v :: st)))) : Go p e below K (T.setTop (mkF m pc Ls (st))) := by
  subst hv; subst hp; exact Go.step (fun t q => XS.lconst X.1.here X.2.1 rfl (hb X.2.2.1 hd)  q) k
theorem g_aconst_null (X : Sx Z own bytes ml p l e R s m args below meth c T locs cells slots h) (hd : decode bytes pc = .ok (.aconst_null, 1)) (hp : pc + 1 = pc') (k : Go p e below K (T.setTop (mkF m pc' Ls (.null :: st)))) : Go p e below K (T.setTop (mkF m pc Ls (st))) := by
  subst hp; exact Go.step (fun t q => XS.aconstNull X.1.here X.2.1 rfl (hb X.2.2.1 hd)  q) k
theorem g_ldc (X : Sx Z own bytes ml p l e R s m args below meth c T locs cells slots h) {i : Nat} {v : Int32} (w : (Cond.constant own i v).before a0 Z = true) (hd : decode bytes pc = .ok (.ldc i, 2)) (hp : pc + 2 = pc') (k : Go p e below K (T.setTop (mkF m pc' Ls (.int v :: st)))) : Go p e below K (T.setTop (mkF m pc Ls (st))) := by
  subst hp; exact Go.step (fun t q => X.1.ldcInt X.2.1 X.2.2.2.2.1 (mvT X.2.2.2.2.2.1 w) (g := mkF m pc Ls st) rfl (hb X.2.2.1 hd) _ q) k
theorem g_ldcw (X : Sx Z own bytes ml p l e R s m args below meth c T locs cells slots h) {i : Nat} {v : Int32} (w : (Cond.constant own i v).before a0 Z = true) (hd : decode bytes pc = .ok (.ldc_w i, 3)) (hp : pc + 3 = pc') (k : Go p e below K (T.setTop (mkF m pc' Ls (.int v :: st)))) : Go p e below K (T.setTop (mkF m pc Ls (st))) := by
  subst hp; exact Go.step (fun t q => X.1.ldcwInt X.2.1 X.2.2.2.2.1 (mvT X.2.2.2.2.2.1 w) (g := mkF m pc Ls st) rfl (hb X.2.2.1 hd) _ q) k
theorem g_ldc2 (X : Sx Z own bytes ml p l e R s m args below meth c T locs cells slots h) {i : Nat} {v : Int64} (w : (Cond.constantLong own i v).before a0 Z = true) (hd : decode bytes pc = .ok (.ldc2_w i, 3)) (hp : pc + 3 = pc') (k : Go p e below K (T.setTop (mkF m pc' Ls (.long v :: st)))) : Go p e below K (T.setTop (mkF m pc Ls (st))) := by
  subst hp; exact Go.step (fun t q => X.1.ldc2Long X.2.1 X.2.2.2.2.1 (mvT X.2.2.2.2.2.1 w) (g := mkF m pc Ls st) rfl (hb X.2.2.1 hd) _ q) k
theorem g_iadd (X : Sx Z own bytes ml p l e R s m args below meth c T locs cells slots h) {x y : Int32} (hd : decode bytes pc = .ok (.iadd, 1)) (hp : pc + 1 = pc') (k : Go p e below K (T.setTop (mkF m pc' Ls (.int (x + y) :: st)))) : Go p e below K (T.setTop (mkF m pc Ls (.int y :: .int x :: st))) := by
  subst hp; exact Go.step (fun t q => XS.iadd X.1.here X.2.1 rfl (hb X.2.2.1 hd) rfl q) k
theorem g_isub (X : Sx Z own bytes ml p l e R s m args below meth c T locs cells slots h) {x y : Int32} (hd : decode bytes pc = .ok (.isub, 1)) (hp : pc + 1 = pc') (k : Go p e below K (T.setTop (mkF m pc' Ls (.int (x - y) :: st)))) : Go p e below K (T.setTop (mkF m pc Ls (.int y :: .int x :: st))) := by
  subst hp; exact Go.step (fun t q => XS.isub X.1.here X.2.1 rfl (hb X.2.2.1 hd) rfl q) k
theorem g_imul (X : Sx Z own bytes ml p l e R s m args below meth c T locs cells slots h) {x y : Int32} (hd : decode bytes pc = .ok (.imul, 1)) (hp : pc + 1 = pc') (k : Go p e below K (T.setTop (mkF m pc' Ls (.int (x * y) :: st)))) : Go p e below K (T.setTop (mkF m pc Ls (.int y :: .int x :: st))) := by
  subst hp; exact Go.step (fun t q => XS.imul X.1.here X.2.1 rfl (hb X.2.2.1 hd) rfl q) k
theorem g_iand (X : Sx Z own bytes ml p l e R s m args below meth c T locs cells slots h) {x y : Int32} (hd : decode bytes pc = .ok (.iand, 1)) (hp : pc + 1 = pc') (k : Go p e below K (T.setTop (mkF m pc' Ls (.int (x &&& y) :: st)))) : Go p e below K (T.setTop (mkF m pc Ls (.int y :: .int x :: st))) := by
  subst hp; exact Go.step (fun t q => XS.iand X.1.here X.2.1 rfl (hb X.2.2.1 hd) rfl q) k
theorem g_ior (X : Sx Z own bytes ml p l e R s m args below meth c T locs cells slots h) {x y : Int32} (hd : decode bytes pc = .ok (.ior, 1)) (hp : pc + 1 = pc') (k : Go p e below K (T.setTop (mkF m pc' Ls (.int (x ||| y) :: st)))) : Go p e below K (T.setTop (mkF m pc Ls (.int y :: .int x :: st))) := by
  subst hp; exact Go.step (fun t q => XS.ior X.1.here X.2.1 rfl (hb X.2.2.1 hd) rfl q) k
theorem g_ixor (X : Sx Z own bytes ml p l e R s m args below meth c T locs cells slots h) {x y : Int32} (hd : decode bytes pc = .ok (.ixor, 1)) (hp : pc + 1 = pc') (k : Go p e below K (T.setTop (mkF m pc' Ls (.int (x ^^^ y) :: st)))) : Go p e below K (T.setTop (mkF m pc Ls (.int y :: .int x :: st))) := by
  subst hp; exact Go.step (fun t q => XS.ixor X.1.here X.2.1 rfl (hb X.2.2.1 hd) rfl q) k
theorem g_ishl (X : Sx Z own bytes ml p l e R s m args below meth c T locs cells slots h) {x y : Int32} (hd : decode bytes pc = .ok (.ishl, 1)) (hp : pc + 1 = pc') (k : Go p e below K (T.setTop (mkF m pc' Ls (.int (x <<< (y &&& 31)) :: st)))) : Go p e below K (T.setTop (mkF m pc Ls (.int y :: .int x :: st))) := by
  subst hp; exact Go.step (fun t q => XS.ishl X.1.here X.2.1 rfl (hb X.2.2.1 hd) rfl q) k
theorem g_ishr (X : Sx Z own bytes ml p l e R s m args below meth c T locs cells slots h) {x y : Int32} (hd : decode bytes pc = .ok (.ishr, 1)) (hp : pc + 1 = pc') (k : Go p e below K (T.setTop (mkF m pc' Ls (.int (x >>> (y &&& 31)) :: st)))) : Go p e below K (T.setTop (mkF m pc Ls (.int y :: .int x :: st))) := by
  subst hp; exact Go.step (fun t q => XS.ishr X.1.here X.2.1 rfl (hb X.2.2.1 hd) rfl q) k
theorem g_iushr (X : Sx Z own bytes ml p l e R s m args below meth c T locs cells slots h) {x y : Int32} (hd : decode bytes pc = .ok (.iushr, 1)) (hp : pc + 1 = pc') (k : Go p e below K (T.setTop (mkF m pc' Ls (.int ((x.toUInt32 >>> (y &&& 31).toUInt32).toInt32) :: st)))) : Go p e below K (T.setTop (mkF m pc Ls (.int y :: .int x :: st))) := by
  subst hp; exact Go.step (fun t q => XS.iushr X.1.here X.2.1 rfl (hb X.2.2.1 hd) rfl q) k
theorem g_idiv (X : Sx Z own bytes ml p l e R s m args below meth c T locs cells slots h) {x y : Int32} (hd : decode bytes pc = .ok (.idiv, 1)) (hp : pc + 1 = pc') (hy : y ≠ 0) (k : Go p e below K (T.setTop (mkF m pc' Ls (.int (x / y) :: st)))) : Go p e below K (T.setTop (mkF m pc Ls (.int y :: .int x :: st))) := by
  subst hp; exact Go.step (fun t q => XS.idiv X.1.here X.2.1 rfl (hb X.2.2.1 hd) rfl hy q) k
theorem g_irem (X : Sx Z own bytes ml p l e R s m args below meth c T locs cells slots h) {x y : Int32} (hd : decode bytes pc = .ok (.irem, 1)) (hp : pc + 1 = pc') (hy : y ≠ 0) (k : Go p e below K (T.setTop (mkF m pc' Ls (.int (x % y) :: st)))) : Go p e below K (T.setTop (mkF m pc Ls (.int y :: .int x :: st))) := by
  subst hp; exact Go.step (fun t q => iremM (g := mkF m pc Ls (.int y :: .int x :: st)) X.1 X.2.1 rfl (hb X.2.2.1 hd) rfl hy q) k
theorem g_ladd (X : Sx Z own bytes ml p l e R s m args below meth c T locs cells slots h) {x y : Int64} (hd : decode bytes pc = .ok (.ladd, 1)) (hp : pc + 1 = pc') (k : Go p e below K (T.setTop (mkF m pc' Ls (.long (x + y) :: st)))) : Go p e below K (T.setTop (mkF m pc Ls (.long y :: .long x :: st))) := by
  subst hp; exact Go.step (fun t q => XS.ladd X.1.here X.2.1 rfl (hb X.2.2.1 hd) rfl q) k
theorem g_lsub (X : Sx Z own bytes ml p l e R s m args below meth c T locs cells slots h) {x y : Int64} (hd : decode bytes pc = .ok (.lsub, 1)) (hp : pc + 1 = pc') (k : Go p e below K (T.setTop (mkF m pc' Ls (.long (x - y) :: st)))) : Go p e below K (T.setTop (mkF m pc Ls (.long y :: .long x :: st))) := by
  subst hp; exact Go.step (fun t q => XS.lsub X.1.here X.2.1 rfl (hb X.2.2.1 hd) rfl q) k
theorem g_lmul (X : Sx Z own bytes ml p l e R s m args below meth c T locs cells slots h) {x y : Int64} (hd : decode bytes pc = .ok (.lmul, 1)) (hp : pc + 1 = pc') (k : Go p e below K (T.setTop (mkF m pc' Ls (.long (x * y) :: st)))) : Go p e below K (T.setTop (mkF m pc Ls (.long y :: .long x :: st))) := by
  subst hp; exact Go.step (fun t q => XS.lmul X.1.here X.2.1 rfl (hb X.2.2.1 hd) rfl q) k
theorem g_land (X : Sx Z own bytes ml p l e R s m args below meth c T locs cells slots h) {x y : Int64} (hd : decode bytes pc = .ok (.land, 1)) (hp : pc + 1 = pc') (k : Go p e below K (T.setTop (mkF m pc' Ls (.long (x &&& y) :: st)))) : Go p e below K (T.setTop (mkF m pc Ls (.long y :: .long x :: st))) := by
  subst hp; exact Go.step (fun t q => XS.land X.1.here X.2.1 rfl (hb X.2.2.1 hd) rfl q) k
theorem g_lor (X : Sx Z own bytes ml p l e R s m args below meth c T locs cells slots h) {x y : Int64} (hd : decode bytes pc = .ok (.lor, 1)) (hp : pc + 1 = pc') (k : Go p e below K (T.setTop (mkF m pc' Ls (.long (x ||| y) :: st)))) : Go p e below K (T.setTop (mkF m pc Ls (.long y :: .long x :: st))) := by
  subst hp; exact Go.step (fun t q => XS.lor X.1.here X.2.1 rfl (hb X.2.2.1 hd) rfl q) k
theorem g_lxor (X : Sx Z own bytes ml p l e R s m args below meth c T locs cells slots h) {x y : Int64} (hd : decode bytes pc = .ok (.lxor, 1)) (hp : pc + 1 = pc') (k : Go p e below K (T.setTop (mkF m pc' Ls (.long (x ^^^ y) :: st)))) : Go p e below K (T.setTop (mkF m pc Ls (.long y :: .long x :: st))) := by
  subst hp; exact Go.step (fun t q => XS.lxor X.1.here X.2.1 rfl (hb X.2.2.1 hd) rfl q) k
theorem g_lshl (X : Sx Z own bytes ml p l e R s m args below meth c T locs cells slots h) {x : Int64} {y : Int32} (hd : decode bytes pc = .ok (.lshl, 1)) (hp : pc + 1 = pc') (k : Go p e below K (T.setTop (mkF m pc' Ls (.long (x <<< (y &&& 0x3f).toInt64) :: st)))) : Go p e below K (T.setTop (mkF m pc Ls (.int y :: .long x :: st))) := by
  subst hp; exact Go.step (fun t q => XS.lshl X.1.here X.2.1 rfl (hb X.2.2.1 hd) rfl q) k
theorem g_lshr (X : Sx Z own bytes ml p l e R s m args below meth c T locs cells slots h) {x : Int64} {y : Int32} (hd : decode bytes pc = .ok (.lshr, 1)) (hp : pc + 1 = pc') (k : Go p e below K (T.setTop (mkF m pc' Ls (.long (x >>> (y &&& 0x3f).toInt64) :: st)))) : Go p e below K (T.setTop (mkF m pc Ls (.int y :: .long x :: st))) := by
  subst hp; exact Go.step (fun t q => XS.lshr X.1.here X.2.1 rfl (hb X.2.2.1 hd) rfl q) k
theorem g_lushr (X : Sx Z own bytes ml p l e R s m args below meth c T locs cells slots h) {x : Int64} {y : Int32} (hd : decode bytes pc = .ok (.lushr, 1)) (hp : pc + 1 = pc') (k : Go p e below K (T.setTop (mkF m pc' Ls (.long ((x.toUInt64 >>> (y &&& 0x3f).toInt64.toUInt64).toInt64) :: st)))) : Go p e below K (T.setTop (mkF m pc Ls (.int y :: .long x :: st))) := by
  subst hp; exact Go.step (fun t q => XS.lushr X.1.here X.2.1 rfl (hb X.2.2.1 hd) rfl q) k
theorem g_ldiv (X : Sx Z own bytes ml p l e R s m args below meth c T locs cells slots h) {x y : Int64} (hd : decode bytes pc = .ok (.ldiv, 1)) (hp : pc + 1 = pc') (hy : y ≠ 0) (k : Go p e below K (T.setTop (mkF m pc' Ls (.long (x / y) :: st)))) : Go p e below K (T.setTop (mkF m pc Ls (.long y :: .long x :: st))) := by
  subst hp; exact Go.step (fun t q => XS.ldiv X.1.here X.2.1 rfl (hb X.2.2.1 hd) rfl hy q) k
theorem g_lrem (X : Sx Z own bytes ml p l e R s m args below meth c T locs cells slots h) {x y : Int64} (hd : decode bytes pc = .ok (.lrem, 1)) (hp : pc + 1 = pc') (hy : y ≠ 0) (k : Go p e below K (T.setTop (mkF m pc' Ls (.long (x % y) :: st)))) : Go p e below K (T.setTop (mkF m pc Ls (.long y :: .long x :: st))) := by
  rw [← lrem_mod] at k; subst hp; exact Go.step (fun t q => XS.lrem X.1.here X.2.1 rfl (hb X.2.2.1 hd) rfl hy q) k
theorem g_lcmp (X : Sx Z own bytes ml p l e R s m args below meth c T locs cells slots h) {x y : Int64} (hd : decode bytes pc = .ok (.lcmp, 1)) (hp : pc + 1 = pc') (k : Go p e below K (T.setTop (mkF m pc' Ls (.int (lcmpW x y) :: st)))) : Go p e below K (T.setTop (mkF m pc Ls (.long y :: .long x :: st))) := by
  subst hp; exact Go.step (fun t q => XS.lcmp X.1.here X.2.1 rfl (hb X.2.2.1 hd) rfl q) k
theorem g_ineg (X : Sx Z own bytes ml p l e R s m args below meth c T locs cells slots h) {x : Int32} (hd : decode bytes pc = .ok (.ineg, 1)) (hp : pc + 1 = pc') (k : Go p e below K (T.setTop (mkF m pc' Ls (.int (-x) :: st)))) : Go p e below K (T.setTop (mkF m pc Ls (.int x :: st))) := by
  subst hp; exact Go.step (fun t q => XS.ineg X.1.here X.2.1 rfl (hb X.2.2.1 hd) rfl q) k
theorem g_i2b (X : Sx Z own bytes ml p l e R s m args below meth c T locs cells slots h) {x : Int32} (hd : decode bytes pc = .ok (.i2b, 1)) (hp : pc + 1 = pc') (k : Go p e below K (T.setTop (mkF m pc' Ls (.int (x.toInt8.toInt32) :: st)))) : Go p e below K (T.setTop (mkF m pc Ls (.int x :: st))) := by
  subst hp; exact Go.step (fun t q => XS.i2b X.1.here X.2.1 rfl (hb X.2.2.1 hd) rfl q) k
theorem g_i2c (X : Sx Z own bytes ml p l e R s m args below meth c T locs cells slots h) {x : Int32} (hd : decode bytes pc = .ok (.i2c, 1)) (hp : pc + 1 = pc') (k : Go p e below K (T.setTop (mkF m pc' Ls (.int (x.toUInt32.toUInt16.toUInt32.toInt32) :: st)))) : Go p e below K (T.setTop (mkF m pc Ls (.int x :: st))) := by
  subst hp; exact Go.step (fun t q => XS.i2c X.1.here X.2.1 rfl (hb X.2.2.1 hd) rfl q) k
theorem g_i2s (X : Sx Z own bytes ml p l e R s m args below meth c T locs cells slots h) {x : Int32} (hd : decode bytes pc = .ok (.i2s, 1)) (hp : pc + 1 = pc') (k : Go p e below K (T.setTop (mkF m pc' Ls (.int (x.toInt16.toInt32) :: st)))) : Go p e below K (T.setTop (mkF m pc Ls (.int x :: st))) := by
  subst hp; exact Go.step (fun t q => XS.i2s X.1.here X.2.1 rfl (hb X.2.2.1 hd) rfl q) k
theorem g_i2l (X : Sx Z own bytes ml p l e R s m args below meth c T locs cells slots h) {x : Int32} (hd : decode bytes pc = .ok (.i2l, 1)) (hp : pc + 1 = pc') (k : Go p e below K (T.setTop (mkF m pc' Ls (.long (x.toInt64) :: st)))) : Go p e below K (T.setTop (mkF m pc Ls (.int x :: st))) := by
  subst hp; exact Go.step (fun t q => XS.i2l X.1.here X.2.1 rfl (hb X.2.2.1 hd) rfl q) k
theorem g_l2i (X : Sx Z own bytes ml p l e R s m args below meth c T locs cells slots h) {x : Int64} (hd : decode bytes pc = .ok (.l2i, 1)) (hp : pc + 1 = pc') (k : Go p e below K (T.setTop (mkF m pc' Ls (.int (x.toInt32) :: st)))) : Go p e below K (T.setTop (mkF m pc Ls (.long x :: st))) := by
  subst hp; exact Go.step (fun t q => XS.l2i X.1.here X.2.1 rfl (hb X.2.2.1 hd) rfl q) k
theorem g_lneg (X : Sx Z own bytes ml p l e R s m args below meth c T locs cells slots h) {x : Int64} (hd : decode bytes pc = .ok (.lneg, 1)) (hp : pc + 1 = pc') (k : Go p e below K (T.setTop (mkF m pc' Ls (.long (-x) :: st)))) : Go p e below K (T.setTop (mkF m pc Ls (.long x :: st))) := by
  subst hp; exact Go.step (fun t q => XS.lneg X.1.here X.2.1 rfl (hb X.2.2.1 hd) rfl q) k
theorem g_iinc (X : Sx Z own bytes ml p l e R s m args below meth c T locs cells slots h) {i : Nat} {q x : Int32} {n : Int} (hd : decode bytes pc = .ok (.iinc i n, 3)) (hp : pc + 3 = pc') (hq : Int32.ofInt n = q) (hl : Ls[i]? = some (.val (.int x))) (hl' : storeLocals Ls i (.int (x + q)) = some Ls') (k : Go p e below K (T.setTop (mkF m pc' Ls' (st)))) : Go p e below K (T.setTop (mkF m pc Ls (st))) := by
  subst hq; subst hp; exact Go.step (fun t q => XS.iinc X.1.here X.2.1 rfl (hb X.2.2.1 hd) hl hl' q) k
theorem g_dup (X : Sx Z own bytes ml p l e R s m args below meth c T locs cells slots h) {v : Value} (hd : decode bytes pc = .ok (.dup, 1)) (hp : pc + 1 = pc') (hc : v.category = 1) (k : Go p e below K (T.setTop (mkF m pc' Ls (v :: v :: st)))) : Go p e below K (T.setTop (mkF m pc Ls (v :: st))) := by
  subst hp; exact Go.step (fun t q => XS.dup X.1.here X.2.1 rfl (hb X.2.2.1 hd) rfl hc q) k
theorem g_pop (X : Sx Z own bytes ml p l e R s m args below meth c T locs cells slots h) {v : Value} (hd : decode bytes pc = .ok (.pop, 1)) (hp : pc + 1 = pc') (hc : v.category = 1) (k : Go p e below K (T.setTop (mkF m pc' Ls (st)))) : Go p e below K (T.setTop (mkF m pc Ls (v :: st))) := by
  subst hp; exact Go.step (fun t q => XS.pop X.1.here X.2.1 rfl (hb X.2.2.1 hd) rfl hc q) k
theorem g_dup_x1 (X : Sx Z own bytes ml p l e R s m args below meth c T locs cells slots h) {v w : Value} (hd : decode bytes pc = .ok (.dup_x1, 1)) (hp : pc + 1 = pc') (hc : v.category = 1) (hc' : w.category = 1) (k : Go p e below K (T.setTop (mkF m pc' Ls (v :: w :: v :: st)))) : Go p e below K (T.setTop (mkF m pc Ls (v :: w :: st))) := by
  subst hp; exact Go.step (fun t q => XS.dupX1 X.1.here X.2.1 rfl (hb X.2.2.1 hd) rfl hc hc' q) k
theorem g_dup2 (X : Sx Z own bytes ml p l e R s m args below meth c T locs cells slots h) {v w : Value} (hd : decode bytes pc = .ok (.dup2, 1)) (hp : pc + 1 = pc') (hc : v.category = 1) (hc' : w.category = 1) (k : Go p e below K (T.setTop (mkF m pc' Ls (v :: w :: v :: w :: st)))) : Go p e below K (T.setTop (mkF m pc Ls (v :: w :: st))) := by
  subst hp; exact Go.step (fun t q => Jvm.Free.XT.dup2 X.1.here X.2.1 rfl (hb X.2.2.1 hd) rfl hc hc' q) k
theorem g_dup2L (X : Sx Z own bytes ml p l e R s m args below meth c T locs cells slots h) {v : Int64} (hd : decode bytes pc = .ok (.dup2, 1)) (hp : pc + 1 = pc') (k : Go p e below K (T.setTop (mkF m pc' Ls (.long v :: .long v :: st)))) : Go p e below K (T.setTop (mkF m pc Ls (.long v :: st))) := by
  subst hp; exact Go.step (fun t q => Jvm.Free.XT.dup2L X.1.here X.2.1 rfl (hb X.2.2.1 hd) rfl q) k
theorem g_dload (X : Sx Z own bytes ml p l e R s m args below meth c T locs cells slots h) {i : Nat} {v : UInt64} (hd : decode bytes pc = .ok (.dload i, 2)) (hp : pc + 2 = pc') (hl : Ls[i]? = some (.val (.double v))) (k : Go p e below K (T.setTop (mkF m pc' Ls (.double v :: st)))) : Go p e below K (T.setTop (mkF m pc Ls (st))) := by
  subst hp; exact Go.step (fun t q => XS.dload X.1.here X.2.1 rfl (hb X.2.2.1 hd) hl q) k
theorem g_dloadN (X : Sx Z own bytes ml p l e R s m args below meth c T locs cells slots h) {i : Fin 4} {v : UInt64} (hd : decode bytes pc = .ok (.dload_n i, 1)) (hp : pc + 1 = pc') (hl : Ls[i.val]? = some (.val (.double v))) (k : Go p e below K (T.setTop (mkF m pc' Ls (.double v :: st)))) : Go p e below K (T.setTop (mkF m pc Ls (st))) := by
  subst hp; exact Go.step (fun t q => XS.dloadN X.1.here X.2.1 rfl (hb X.2.2.1 hd) hl q) k
theorem g_i2d (X : Sx Z own bytes ml p l e R s m args below meth c T locs cells slots h) {x : Int32} (hd : decode bytes pc = .ok (.i2d, 1)) (hp : pc + 1 = pc') (k : Go p e below K (T.setTop (mkF m pc' Ls (.double (FP.i2d x) :: st)))) : Go p e below K (T.setTop (mkF m pc Ls (.int x :: st))) := by
  subst hp; exact Go.step (fun t q => XS.i2dS X.1.here X.2.1 rfl (hb X.2.2.1 hd) rfl rfl q) k
theorem g_dcmp (X : Sx Z own bytes ml p l e R s m args below meth c T locs cells slots h) {o : CmpOp} {x y : UInt64} (hd : decode bytes pc = .ok (.dcmp o, 1)) (hp : pc + 1 = pc') (k : ∀ v : Int32, Go p e below K (T.setTop (mkF m pc' Ls (.int v :: st)))) : Go p e below K (T.setTop (mkF m pc Ls (.double y :: .double x :: st))) := by
  subst hp; exact Go.step (fun t q => XS.dcmpS X.1.here X.2.1 rfl (hb X.2.2.1 hd) rfl rfl q) (k _)
theorem g_goto (X : Sx Z own bytes ml p l e R s m args below meth c T locs cells slots h) {o : Int} (hd : decode bytes pc = .ok (.goto o, 3)) (ho : 0 ≤ (pc : Int) + o) (hp : ((pc : Int) + o).toNat = pc') (k : Go p e below K (T.setTop (mkF m pc' Ls (st)))) : Go p e below K (T.setTop (mkF m pc Ls (st))) := by
  exact Go.step (fun t q => XS.goto X.1.here X.2.1 rfl rfl (hb X.2.2.1 hd) ho hp q) k
theorem g_ifY (X : Sx Z own bytes ml p l e R s m args below meth c T locs cells slots h) {cd : ClassFile.Cond} {x : Int32} {o : Int} (hd : decode bytes pc = .ok (.ifCond cd o, 3)) (hc : ifCond.holds cd x = true) (ho : 0 ≤ (pc : Int) + o) (hp : ((pc : Int) + o).toNat = pc') (k : Go p e below K (T.setTop (mkF m pc' Ls (st)))) : Go p e below K (T.setTop (mkF m pc Ls (.int x :: st))) := by
  exact Go.step (fun t q => XS.ifYes X.1.here X.2.1 rfl rfl (hb X.2.2.1 hd) rfl hc ho hp q) k
theorem g_ifN (X : Sx Z own bytes ml p l e R s m args below meth c T locs cells slots h) {cd : ClassFile.Cond} {x : Int32} {o : Int} (hd : decode bytes pc = .ok (.ifCond cd o, 3)) (hc : ifCond.holds cd x = false) (hp : pc + 3 = pc') (k : Go p e below K (T.setTop (mkF m pc' Ls (st)))) : Go p e below K (T.setTop (mkF m pc Ls (.int x :: st))) := by
  subst hp; exact Go.step (fun t q => XS.ifNo X.1.here X.2.1 rfl (hb X.2.2.1 hd) rfl hc q) k
theorem g_icY (X : Sx Z own bytes ml p l e R s m args below meth c T locs cells slots h) {cd : ClassFile.Cond} {x y : Int32} {o : Int} (hd : decode bytes pc = .ok (.if_icmp cd o, 3)) (hc : if_icmp.holds cd x y = true) (ho : 0 ≤ (pc : Int) + o) (hp : ((pc : Int) + o).toNat = pc') (k : Go p e below K (T.setTop (mkF m pc' Ls (st)))) : Go p e below K (T.setTop (mkF m pc Ls (.int y :: .int x :: st))) := by
  exact Go.step (fun t q => XS.icmpYes X.1.here X.2.1 rfl rfl (hb X.2.2.1 hd) rfl hc ho hp q) k
theorem g_icN (X : Sx Z own bytes ml p l e R s m args below meth c T locs cells slots h) {cd : ClassFile.Cond} {x y : Int32} {o : Int} (hd : decode bytes pc = .ok (.if_icmp cd o, 3)) (hc : if_icmp.holds cd x y = false) (hp : pc + 3 = pc') (k : Go p e below K (T.setTop (mkF m pc' Ls (st)))) : Go p e below K (T.setTop (mkF m pc Ls (.int y :: .int x :: st))) := by
  subst hp; exact Go.step (fun t q => XS.icmpNo X.1.here X.2.1 rfl (hb X.2.2.1 hd) rfl hc q) k
theorem g_nullY (X : Sx Z own bytes ml p l e R s m args below meth c T locs cells slots h) {o : Int} (hd : decode bytes pc = .ok (.ifnull o, 3)) (ho : 0 ≤ (pc : Int) + o) (hp : ((pc : Int) + o).toNat = pc') (k : Go p e below K (T.setTop (mkF m pc' Ls (st)))) : Go p e below K (T.setTop (mkF m pc Ls (.null :: st))) := by
  exact Go.step (fun t q => XS.ifnullYes X.1.here X.2.1 rfl rfl (hb X.2.2.1 hd) rfl ho hp q) k
theorem g_nullN (X : Sx Z own bytes ml p l e R s m args below meth c T locs cells slots h) {o : Int} {b : Addr} (hd : decode bytes pc = .ok (.ifnull o, 3)) (hp : pc + 3 = pc') (k : Go p e below K (T.setTop (mkF m pc' Ls (st)))) : Go p e below K (T.setTop (mkF m pc Ls (.ref b :: st))) := by
  subst hp; exact Go.step (fun t q => XS.ifnullNo X.1.here X.2.1 rfl (hb X.2.2.1 hd) rfl q) k
theorem g_nonnullY (X : Sx Z own bytes ml p l e R s m args below meth c T locs cells slots h) {o : Int} {b : Addr} (hd : decode bytes pc = .ok (.ifnonnull o, 3)) (ho : 0 ≤ (pc : Int) + o) (hp : ((pc : Int) + o).toNat = pc') (k : Go p e below K (T.setTop (mkF m pc' Ls (st)))) : Go p e below K (T.setTop (mkF m pc Ls (.ref b :: st))) := by
  exact Go.step (fun t q => XS.ifnonnullYes X.1.here X.2.1 rfl rfl (hb X.2.2.1 hd) rfl ho hp q) k
theorem g_nonnullN (X : Sx Z own bytes ml p l e R s m args below meth c T locs cells slots h) {o : Int} (hd : decode bytes pc = .ok (.ifnonnull o, 3)) (hp : pc + 3 = pc') (k : Go p e below K (T.setTop (mkF m pc' Ls (st)))) : Go p e below K (T.setTop (mkF m pc Ls (.null :: st))) := by
  subst hp; exact Go.step (fun t q => XS.ifnonnullNo X.1.here X.2.1 rfl (hb X.2.2.1 hd) rfl q) k
theorem g_acmp (X : Sx Z own bytes ml p l e R s m args below meth c T locs cells slots h) {cd : ACond} {x y : Value} {o : Int} {same : Bool} (hd : decode bytes pc = .ok (.if_acmp cd o, 3)) (h1 : x.isRef = true) (h2 : y.isRef = true) (hq : decide (x = y) = same) (ho : 0 ≤ (pc : Int) + o) (hp : pc' = if acV cd same = true then ((pc : Int) + o).toNat else pc + 3) (k : Go p e below K (T.setTop (mkF m pc' Ls (st)))) : Go p e below K (T.setTop (mkF m pc Ls (y :: x :: st))) := by
  exact Go.step (fun t q => acmp (g := mkF m pc Ls (y :: x :: st)) X.1 X.2.1 rfl h1 h2 rfl (hb X.2.2.1 hd) rfl hq ho hp q) k
theorem g_tswIn (X : Sx Z own bytes ml p l e R s m args below meth c T locs cells slots h) {dflt low high : Int} {offs : Array Int} {len : Nat} {o : Int} {i : Int32} (hd : decode bytes pc = .ok (.tableswitch dflt low high offs, len)) (hin : ¬ (i.toInt < low ∨ i.toInt > high)) (hoff : offs[(i.toInt - low).toNat]? = some o) (ho : 0 ≤ (pc : Int) + o) (hp : ((pc : Int) + o).toNat = pc') (k : Go p e below K (T.setTop (mkF m pc' Ls (st)))) : Go p e below K (T.setTop (mkF m pc Ls (.int i :: st))) := by
  exact Go.step (fun t q => XS.tswIn X.1.here X.2.1 rfl rfl (hb X.2.2.1 hd) rfl hin hoff ho hp q) k
theorem g_tswOut (X : Sx Z own bytes ml p l e R s m args below meth c T locs cells slots h) {dflt low high : Int} {offs : Array Int} {len : Nat} {i : Int32} (hd : decode bytes pc = .ok (.tableswitch dflt low high offs, len)) (hin : i.toInt < low ∨ i.toInt > high) (ho : 0 ≤ (pc : Int) + dflt) (hp : ((pc : Int) + dflt).toNat = pc') (k : Go p e below K (T.setTop (mkF m pc' Ls (st)))) : Go p e below K (T.setTop (mkF m pc Ls (.int i :: st))) := by
  exact Go.step (fun t q => XS.tswOut X.1.here X.2.1 rfl rfl (hb X.2.2.1 hd) rfl hin ho hp q) k
theorem g_iaload (X : Sx Z own bytes ml p l e R s m args below meth c T locs cells slots h) {a : Addr} {vs : List Value} {j : Int32} {x : Int32} (A : Av Z h a .int vs) (n : Nat) (hd : decode bytes pc = .ok (.iaload, 1)) (hp : pc + 1 = pc') (hj : ¬ j < 0) (hn : j.toNatClampNeg = n) (hv : vs[n]? = some (.int x)) (k : Go p e below K (T.setTop (mkF m pc' Ls (.int x :: st)))) : Go p e below K (T.setTop (mkF m pc Ls (.int j :: .ref a :: st))) := by
  obtain ⟨cl, A, rfl, r⟩ := A; subst hn; subst hp
  have hv' : cl.slots[j.toNatClampNeg]? = some (.int x) := by rw [← Array.getElem?_toList]; exact hv
  exact Go.step (fun t q => X.1.iaload X.2.1 (j := j) (by rw [X.2.2.2.2.2.2]; exact A.1) (State.isArrayOf_alike X.2.2.2.2.2.1.alike A.2.1) A.2.2 (fun hh => hh.elim hj (fun hh => absurd (Array.getElem?_eq_some_iff.mp hv').1 (Nat.not_lt.mpr hh))) hv' (g := mkF m pc Ls (.int j :: .ref a :: st)) rfl rfl (hb X.2.2.1 hd) _ q) k
theorem g_caload (X : Sx Z own bytes ml p l e R s m args below meth c T locs cells slots h) {a : Addr} {vs : List Value} {j : Int32} {x : Int32} (A : Av Z h a .char vs) (n : Nat) (hd : decode bytes pc = .ok (.caload, 1)) (hp : pc + 1 = pc') (hj : ¬ j < 0) (hn : j.toNatClampNeg = n) (hv : vs[n]? = some (.int x)) (k : Go p e below K (T.setTop (mkF m pc' Ls (.int x :: st)))) : Go p e below K (T.setTop (mkF m pc Ls (.int j :: .ref a :: st))) := by
  obtain ⟨cl, A, rfl, r⟩ := A; subst hn; subst hp
  have hv' : cl.slots[j.toNatClampNeg]? = some (.int x) := by rw [← Array.getElem?_toList]; exact hv
  exact Go.step (fun t q => X.1.caload X.2.1 (j := j) (by rw [X.2.2.2.2.2.2]; exact A.1) (State.isArrayOf_alike X.2.2.2.2.2.1.alike A.2.1) A.2.2 (fun hh => hh.elim hj (fun hh => absurd (Array.getElem?_eq_some_iff.mp hv').1 (Nat.not_lt.mpr hh))) hv' (g := mkF m pc Ls (.int j :: .ref a :: st)) rfl rfl (hb X.2.2.1 hd) _ q) k
theorem g_saload (X : Sx Z own bytes ml p l e R s m args below meth c T locs cells slots h) {a : Addr} {vs : List Value} {j : Int32} {x : Int32} (A : Av Z h a .short vs) (n : Nat) (hd : decode bytes pc = .ok (.saload, 1)) (hp : pc + 1 = pc') (hj : ¬ j < 0) (hn : j.toNatClampNeg = n) (hv : vs[n]? = some (.int x)) (k : Go p e below K (T.setTop (mkF m pc' Ls (.int x :: st)))) : Go p e below K (T.setTop (mkF m pc Ls (.int j :: .ref a :: st))) := by
  obtain ⟨cl, A, rfl, r⟩ := A; subst hn; subst hp
  have hv' : cl.slots[j.toNatClampNeg]? = some (.int x) := by rw [← Array.getElem?_toList]; exact hv
  exact Go.step (fun t q => X.1.saload X.2.1 (j := j) (by rw [X.2.2.2.2.2.2]; exact A.1) (State.isArrayOf_alike X.2.2.2.2.2.1.alike A.2.1) A.2.2 (fun hh => hh.elim hj (fun hh => absurd (Array.getElem?_eq_some_iff.mp hv').1 (Nat.not_lt.mpr hh))) hv' (g := mkF m pc Ls (.int j :: .ref a :: st)) rfl rfl (hb X.2.2.1 hd) _ q) k
theorem g_baload (X : Sx Z own bytes ml p l e R s m args below meth c T locs cells slots h) {a : Addr} {vs : List Value} {j : Int32} {x : Int32} (A : Av Z h a .byte vs) (n : Nat) (hd : decode bytes pc = .ok (.baload, 1)) (hp : pc + 1 = pc') (hj : ¬ j < 0) (hn : j.toNatClampNeg = n) (hv : vs[n]? = some (.int x)) (k : Go p e below K (T.setTop (mkF m pc' Ls (.int x :: st)))) : Go p e below K (T.setTop (mkF m pc Ls (.int j :: .ref a :: st))) := by
  obtain ⟨cl, A, rfl, r⟩ := A; subst hn; subst hp
  have hv' : cl.slots[j.toNatClampNeg]? = some (.int x) := by rw [← Array.getElem?_toList]; exact hv
  exact Go.step (fun t q => X.1.baloadBytes X.2.1 (j := j) (by rw [X.2.2.2.2.2.2]; exact A.1) (State.isArrayOf_alike X.2.2.2.2.2.1.alike A.2.1) A.2.2 (fun hh => hh.elim hj (fun hh => absurd (Array.getElem?_eq_some_iff.mp hv').1 (Nat.not_lt.mpr hh))) hv' (g := mkF m pc Ls (.int j :: .ref a :: st)) rfl rfl (hb X.2.2.1 hd) _ q) k
theorem g_laload (X : Sx Z own bytes ml p l e R s m args below meth c T locs cells slots h) {a : Addr} {vs : List Value} {j : Int32} {x : Int64} (A : Av Z h a .long vs) (n : Nat) (hd : decode bytes pc = .ok (.laload, 1)) (hp : pc + 1 = pc') (hj : ¬ j < 0) (hn : j.toNatClampNeg = n) (hv : vs[n]? = some (.long x)) (k : Go p e below K (T.setTop (mkF m pc' Ls (.long x :: st)))) : Go p e below K (T.setTop (mkF m pc Ls (.int j :: .ref a :: st))) := by
  obtain ⟨cl, A, rfl, r⟩ := A; subst hn; subst hp
  have hv' : cl.slots[j.toNatClampNeg]? = some (.long x) := by rw [← Array.getElem?_toList]; exact hv
  exact Go.step (fun t q => X.1.laload X.2.1 (j := j) (by rw [X.2.2.2.2.2.2]; exact A.1) (State.isArrayOf_alike X.2.2.2.2.2.1.alike A.2.1) A.2.2 (fun hh => hh.elim hj (fun hh => absurd (Array.getElem?_eq_some_iff.mp hv').1 (Nat.not_lt.mpr hh))) hv' (g := mkF m pc Ls (.int j :: .ref a :: st)) rfl rfl (hb X.2.2.1 hd) _ q) k
theorem g_aaload (X : Sx Z own bytes ml p l e R s m args below meth c T locs cells slots h) {a : Addr} {vs : List Value} {j : Int32} {v : Value} {ty : FieldType} (A : Av Z h a ty vs) (n : Nat) (hd : decode bytes pc = .ok (.aaload, 1)) (hp : pc + 1 = pc') (hty : ty.isReference = true) (hj : ¬ j < 0) (hn : j.toNatClampNeg = n) (hv : vs[n]? = some v) (k : Go p e below K (T.setTop (mkF m pc' Ls (v :: st)))) : Go p e below K (T.setTop (mkF m pc Ls (.int j :: .ref a :: st))) := by
  obtain ⟨cl, A, rfl, r⟩ := A; subst hn; subst hp
  have hv' : cl.slots[j.toNatClampNeg]? = some v := by rw [← Array.getElem?_toList]; exact hv
  exact Go.step (fun t q => X.1.aaload X.2.1 (j := j) (by rw [X.2.2.2.2.2.2]; exact A.1) (State.isArrayOf_alike X.2.2.2.2.2.1.alike A.2.1) hty A.2.2 (fun hh => hh.elim hj (fun hh => absurd (Array.getElem?_eq_some_iff.mp hv').1 (Nat.not_lt.mpr hh))) hv' (g := mkF m pc Ls (.int j :: .ref a :: st)) rfl rfl (hb X.2.2.1 hd) _ q) k
theorem g_arraylength (X : Sx Z own bytes ml p l e R s m args below meth c T locs cells slots h) {a : Addr} {vs : List Value} {ty : FieldType} (A : Av Z h a ty vs) (hd : decode bytes pc = .ok (.arraylength, 1)) (hp : pc + 1 = pc') {z : Int32} (hz : vs.length.toInt32 = z) (k : Go p e below K (T.setTop (mkF m pc' Ls (.int z :: st)))) : Go p e below K (T.setTop (mkF m pc Ls (.ref a :: st))) := by
  obtain ⟨cl, A, rfl, r⟩ := A; subst hp
  rw [Array.length_toList] at hz; subst hz
  exact Go.step (fun t q => X.1.arraylength X.2.1 (by rw [X.2.2.2.2.2.2]; exact A.1) (State.isArrayOf_alike X.2.2.2.2.2.1.alike A.2.1) (g := mkF m pc Ls (.ref a :: st)) rfl rfl (hb X.2.2.1 hd) _ q) k
theorem g_iastore (X : Sx Z own bytes ml p l e R s m args below meth c T locs cells slots h) {a : Addr} {vs : List Value} {j : Int32} {x : Int32} (A : Av Z h a .int vs) (n : Nat) (hd : decode bytes pc = .ok (.iastore, 1)) (hp : pc + 1 = pc') (hj : ¬ j < 0) (hn : j.toNatClampNeg = n) (hlt : n < vs.length) (k : ∀ T' h', Sx Z own bytes ml p l e R s m args below meth c T' (locs ++ [⟨a, n⟩]) cells slots h' → Wr h h' a n (.int x) → Av Z h' a .int (vs.set n (.int x)) → Go p e below K (T'.setTop (mkF m pc' Ls (st)))) : Go p e below K (T.setTop (mkF m pc Ls (.int x :: .int j :: .ref a :: st))) := by
  obtain ⟨cl, A, rfl, r⟩ := A; subst hn; subst hp
  obtain ⟨T', h', X', e', W, stp⟩ := stI X.1 X.2.1 X.2.2.2.2.2.1 X.2.2.2.2.2.2 A (j := j) (fun hh => hh.elim hj (fun hh => absurd hlt (by simpa using hh))) (g := mkF m pc Ls (.int x :: .int j :: .ref a :: st)) rfl rfl (hb X.2.2.1 hd)
  exact Go.step (fun t q => stp _ q) (k T' h' ⟨X', X.2.1, X.2.2.1, X.2.2.2.1, X.2.2.2.2.1, X.2.2.2.2.2.1, e'⟩ W (Av.set ⟨cl, A, rfl, r⟩ W))
theorem g_lastore (X : Sx Z own bytes ml p l e R s m args below meth c T locs cells slots h) {a : Addr} {vs : List Value} {j : Int32} {x : Int64} (A : Av Z h a .long vs) (n : Nat) (hd : decode bytes pc = .ok (.lastore, 1)) (hp : pc + 1 = pc') (hj : ¬ j < 0) (hn : j.toNatClampNeg = n) (hlt : n < vs.length) (k : ∀ T' h', Sx Z own bytes ml p l e R s m args below meth c T' (locs ++ [⟨a, n⟩]) cells slots h' → Wr h h' a n (.long x) → Av Z h' a .long (vs.set n (.long x)) → Go p e below K (T'.setTop (mkF m pc' Ls (st)))) : Go p e below K (T.setTop (mkF m pc Ls (.long x :: .int j :: .ref a :: st))) := by
  obtain ⟨cl, A, rfl, r⟩ := A; subst hn; subst hp
  obtain ⟨T', h', X', e', W, stp⟩ := stJ X.1 X.2.1 X.2.2.2.2.2.1 X.2.2.2.2.2.2 A (j := j) (fun hh => hh.elim hj (fun hh => absurd hlt (by simpa using hh))) (g := mkF m pc Ls (.long x :: .int j :: .ref a :: st)) rfl rfl (hb X.2.2.1 hd)
  exact Go.step (fun t q => stp _ q) (k T' h' ⟨X', X.2.1, X.2.2.1, X.2.2.2.1, X.2.2.2.2.1, X.2.2.2.2.2.1, e'⟩ W (Av.set ⟨cl, A, rfl, r⟩ W))
theorem g_castore (X : Sx Z own bytes ml p l e R s m args below meth c T locs cells slots h) {a : Addr} {vs : List Value} {j : Int32} {x : Int32} (A : Av Z h a .char vs) (n : Nat) (hd : decode bytes pc = .ok (.castore, 1)) (hp : pc + 1 = pc') (hj : ¬ j < 0) (hn : j.toNatClampNeg = n) (hlt : n < vs.length) (k : ∀ T' h', Sx Z own bytes ml p l e R s m args below meth c T' (locs ++ [⟨a, n⟩]) cells slots h' → Wr h h' a n (.int (nar .char x)) → Av Z h' a .char (vs.set n (.int (nar .char x))) → Go p e below K (T'.setTop (mkF m pc' Ls (st)))) : Go p e below K (T.setTop (mkF m pc Ls (.int x :: .int j :: .ref a :: st))) := by
  obtain ⟨cl, A, rfl, r⟩ := A; subst hn; subst hp
  obtain ⟨T', h', X', e', W, stp⟩ := stC X.1 X.2.1 X.2.2.2.2.2.1 X.2.2.2.2.2.2 A (j := j) (fun hh => hh.elim hj (fun hh => absurd hlt (by simpa using hh))) (g := mkF m pc Ls (.int x :: .int j :: .ref a :: st)) rfl rfl (hb X.2.2.1 hd)
  exact Go.step (fun t q => stp _ q) (k T' h' ⟨X', X.2.1, X.2.2.1, X.2.2.2.1, X.2.2.2.2.1, X.2.2.2.2.2.1, e'⟩ W (Av.set ⟨cl, A, rfl, r⟩ W))
theorem g_sastore (X : Sx Z own bytes ml p l e R s m args below meth c T locs cells slots h) {a : Addr} {vs : List Value} {j : Int32} {x : Int32} (A : Av Z h a .short vs) (n : Nat) (hd : decode bytes pc = .ok (.sastore, 1)) (hp : pc + 1 = pc') (hj : ¬ j < 0) (hn : j.toNatClampNeg = n) (hlt : n < vs.length) (k : ∀ T' h', Sx Z own bytes ml p l e R s m args below meth c T' (locs ++ [⟨a, n⟩]) cells slots h' → Wr h h' a n (.int (nar .short x)) → Av Z h' a .short (vs.set n (.int (nar .short x))) → Go p e below K (T'.setTop (mkF m pc' Ls (st)))) : Go p e below K (T.setTop (mkF m pc Ls (.int x :: .int j :: .ref a :: st))) := by
  obtain ⟨cl, A, rfl, r⟩ := A; subst hn; subst hp
  obtain ⟨T', h', X', e', W, stp⟩ := stS X.1 X.2.1 X.2.2.2.2.2.1 X.2.2.2.2.2.2 A (j := j) (fun hh => hh.elim hj (fun hh => absurd hlt (by simpa using hh))) (g := mkF m pc Ls (.int x :: .int j :: .ref a :: st)) rfl rfl (hb X.2.2.1 hd)
  exact Go.step (fun t q => stp _ q) (k T' h' ⟨X', X.2.1, X.2.2.1, X.2.2.2.1, X.2.2.2.2.1, X.2.2.2.2.2.1, e'⟩ W (Av.set ⟨cl, A, rfl, r⟩ W))
theorem g_bastore (X : Sx Z own bytes ml p l e R s m args below meth c T locs cells slots h) {a : Addr} {vs : List Value} {j : Int32} {x : Int32} (A : Av Z h a .byte vs) (n : Nat) (hd : decode bytes pc = .ok (.bastore, 1)) (hp : pc + 1 = pc') (hj : ¬ j < 0) (hn : j.toNatClampNeg = n) (hlt : n < vs.length) (k : ∀ T' h', Sx Z own bytes ml p l e R s m args below meth c T' (locs ++ [⟨a, n⟩]) cells slots h' → Wr h h' a n (.int (nar .byte x)) → Av Z h' a .byte (vs.set n (.int (nar .byte x))) → Go p e below K (T'.setTop (mkF m pc' Ls (st)))) : Go p e below K (T.setTop (mkF m pc Ls (.int x :: .int j :: .ref a :: st))) := by
  obtain ⟨cl, A, rfl, r⟩ := A; subst hn; subst hp
  obtain ⟨T', h', X', e', W, stp⟩ := stB X.1 X.2.1 X.2.2.2.2.2.1 X.2.2.2.2.2.2 A (j := j) (fun hh => hh.elim hj (fun hh => absurd hlt (by simpa using hh))) (g := mkF m pc Ls (.int x :: .int j :: .ref a :: st)) rfl rfl (hb X.2.2.1 hd)
  exact Go.step (fun t q => stp _ q) (k T' h' ⟨X', X.2.1, X.2.2.1, X.2.2.2.1, X.2.2.2.2.1, X.2.2.2.2.2.1, e'⟩ W (Av.set ⟨cl, A, rfl, r⟩ W))
theorem g_arraylengthN (X : Sx Z own bytes ml p l e R s m args below meth c T locs cells slots h) {a : Addr} {ty : FieldType} {z : Int32} (A : AvN Z h a ty z) (hd : decode bytes pc = .ok (.arraylength, 1)) (hp : pc + 1 = pc') (k : Go p e below K (T.setTop (mkF m pc' Ls (.int z :: st)))) : Go p e below K (T.setTop (mkF m pc Ls (.ref a :: st))) := by
  obtain ⟨vs, A, hz⟩ := A; exact g_arraylength X A hd hp hz k
theorem g_iastoreN (X : Sx Z own bytes ml p l e R s m args below meth c T locs cells slots h) {a : Addr} {j x z : Int32} (A : AvN Z h a .int z) (hd : decode bytes pc = .ok (.iastore, 1)) (hp : pc + 1 = pc') (hj : ¬ j < 0) (hjz : j < z) (k : ∀ T' h', Sx Z own bytes ml p l e R s m args below meth c T' (locs ++ [⟨a, j.toNatClampNeg⟩]) cells slots h' → Wr h h' a j.toNatClampNeg (.int x) → AvN Z h' a .int z → Go p e below K (T'.setTop (mkF m pc' Ls (st)))) : Go p e below K (T.setTop (mkF m pc Ls (.int x :: .int j :: .ref a :: st))) := by
  obtain ⟨vs, A, hz⟩ := A
  have hl := A.len
  refine g_iastore X A _ hd hp hj rfl ?_ (fun T' h' X' W V => k T' h' X' W ⟨_, V, by rw [List.length_set]; exact hz⟩)
  rw [hz] at hl
  rw [Int32.lt_iff_toInt_lt] at hj hjz
  simp only [Int32.toNatClampNeg, Int32.reduceToInt] at hj ⊢
  omega
theorem g_aastore (X : Sx Z own bytes ml p l e R s m args below meth c T locs cells slots h) {a : Addr} {vs : List Value} {j : Int32} {v : Value} {ty : FieldType} (A : Av Z h a ty vs) (S : Sto Z h a v) (n : Nat) (hd : decode bytes pc = .ok (.aastore, 1)) (hp : pc + 1 = pc') (hty : ty.isReference = true) (hj : ¬ j < 0) (hn : j.toNatClampNeg = n) (hlt : n < vs.length) (k : ∀ T' h', Sx Z own bytes ml p l e R s m args below meth c T' (locs ++ [⟨a, n⟩]) cells slots h' → Wr h h' a n v → Av Z h' a ty (vs.set n v) → Go p e below K (T'.setTop (mkF m pc' Ls (st)))) : Go p e below K (T.setTop (mkF m pc Ls (v :: .int j :: .ref a :: st))) := by
  obtain ⟨cl, A, rfl, r⟩ := A; subst hn; subst hp
  obtain ⟨T', h', X', e', W, stp⟩ := stR X.1 X.2.1 X.2.2.2.2.2.1 X.2.2.2.2.2.2 A (j := j) (fun hh => hh.elim hj (fun hh => absurd hlt (by simpa using hh))) hty S (g := mkF m pc Ls (v :: .int j :: .ref a :: st)) rfl rfl (hb X.2.2.1 hd)
  exact Go.step (fun t q => stp _ q) (k T' h' ⟨X', X.2.1, X.2.2.1, X.2.2.2.1, X.2.2.2.2.1, X.2.2.2.2.2.1, e'⟩ W (Av.set ⟨cl, A, rfl, r⟩ W))
theorem g_newarray (X : Sx Z own bytes ml p l e R s m args below meth c T locs cells slots h) {aty : ArrayType} {z : Int32} {vs : List Value} {ad : String} (n : Nat) (w : (Cond.arrayClass (newarray.typeOf aty)).before a0 Z = true) (hd : decode bytes pc = .ok (.newarray aty, 2)) (hp : pc + 2 = pc') (hz : ¬ z < 0) (hn : z.toNatClampNeg = n) (cap : Nat) (hcap : n ≤ cap) (hbig : cap * 8 ≤ 536870912) (hc : cells + 1 ≤ R.cells) (hl : slots + cap ≤ R.slots) (hvs : List.replicate n (defaultValue (newarray.typeOf aty)) = vs) (had : "[" ++ (newarray.typeOf aty).toString = ad) (k : ∀ T' h' (a : Addr), a = h.size → Sx Z own bytes ml p l e R s m args below meth c T' locs (cells + 1) (slots + cap) h' → Ext h h' → Exa Z h' a ad → Av Z h' a (newarray.typeOf aty) vs → Go p e below K (T'.setTop (mkF m pc' Ls (.ref a :: st)))) : Go p e below K (T.setTop (mkF m pc Ls (.int z :: st))) := by
  subst hn; subst hp; subst hvs
  obtain ⟨T', h', cA, X', e', E, A, B, stp⟩ := newPE X.1 X.2.1 X.2.2.2.2.2.1 w X.2.2.2.2.2.2 (g := mkF m pc Ls (.int z :: st)) rfl (hb X.2.2.1 hd) rfl hz hcap hbig hc hl had
  refine Go.step (fun t q => stp _ q) (k T' h' _ rfl ⟨X', X.2.1, X.2.2.1, X.2.2.2.1, X.2.2.2.2.1, X.2.2.2.2.2.1, e'⟩ E B ⟨_, A, by simp [newA], ?_⟩)
  simp only [List.length_replicate]
  exact (back32 hz).2
theorem g_anewarray (X : Sx Z own bytes ml p l e R s m args below meth c T locs cells slots h) {i : Nat} {C : String} {z : Int32} {vs : List Value} {ad : String} (n : Nat) (w1 : (Cond.classLink own i C).before a0 Z = true) (w2 : (Cond.arrayOver (.object C)).before a0 Z = true) (hd : decode bytes pc = .ok (.anewarray i, 3)) (hp : pc + 3 = pc') (hz : ¬ z < 0) (hn : z.toNatClampNeg = n) (cap : Nat) (hcap : n ≤ cap) (hbig : cap * 8 ≤ 536870912) (hc : cells + 1 ≤ R.cells) (hl : slots + cap ≤ R.slots) (hvs : List.replicate n .null = vs) (had : "[" ++ (FieldType.object C).toString = ad) (k : ∀ T' h' (a : Addr), a = h.size → Sx Z own bytes ml p l e R s m args below meth c T' locs (cells + 1) (slots + cap) h' → Ext h h' → Exa Z h' a ad → Av Z h' a (.object C) vs → OvA Z h' a C → Go p e below K (T'.setTop (mkF m pc' Ls (.ref a :: st)))) : Go p e below K (T.setTop (mkF m pc Ls (.int z :: st))) := by
  subst hn; subst hp; subst hvs
  obtain ⟨T', h', cA, X', e', E, A, B, O, stp⟩ := newRE X.1 X.2.1 X.2.2.2.2.2.1 X.2.2.2.2.1 w1 w2 X.2.2.2.2.2.2 (g := mkF m pc Ls (.int z :: st)) rfl (hb X.2.2.1 hd) rfl hz hcap hbig hc hl had
  refine Go.step (fun t q => stp _ q) (k T' h' _ rfl ⟨X', X.2.1, X.2.2.1, X.2.2.2.1, X.2.2.2.2.1, X.2.2.2.2.2.1, e'⟩ E B ⟨_, A, by simp [newA, defaultValue], ?_⟩ ⟨_, A, O⟩)
  simp only [List.length_replicate]
  exact (back32 hz).2
theorem g_new (X : Sx Z own bytes ml p l e R s m args below meth c T locs cells slots h) {i n : Nat} {C : String} (w1 : (Cond.classLink own i C).before a0 Z = true) (w2 : (Cond.instantiable C n).before a0 Z = true) (w3 : (Cond.initialized C).before a0 Z = true) (hd : decode bytes pc = .ok (.new i, 3)) (hp : pc + 3 = pc') (hc : cells + 1 ≤ R.cells) (hl : slots + n ≤ R.slots) (k : ∀ T' h' (a : Addr), a = h.size → Sx Z own bytes ml p l e R s m args below meth c T' locs (cells + 1) (slots + n) h' → Ext h h' → Exa Z h' a C → (∀ {O nm d : String} {ty : FieldType}, Laid Z a0 C O nm d → parseFieldDescriptor d = some ty → Fld Z h' a O nm d (defaultValue ty)) → Go p e below K (T'.setTop (mkF m pc' Ls (.ref a :: st)))) : Go p e below K (T.setTop (mkF m pc Ls (st))) := by
  subst hp
  obtain ⟨T', h', X', e', E, A, D, -, stp⟩ := newO X.1 X.2.1 X.2.2.2.2.2.1 X.2.2.2.2.1 w1 w2 w3 X.2.2.2.2.2.2 (g := mkF m pc Ls st) rfl (hb X.2.2.1 hd) hc hl
  exact Go.step (fun t q => stp _ q) (k T' h' _ rfl ⟨X', X.2.1, X.2.2.1, X.2.2.2.1, X.2.2.2.2.1, X.2.2.2.2.2.1, e'⟩ E A D)
theorem g_getfield (X : Sx Z own bytes ml p l e R s m args below meth c T locs cells slots h) {i : Nat} {R0 O nm d host : String} {a : Addr} {v : Value} (w : (Cond.fieldLink own i R0 nm d).before a0 Z = true ∨ (Cond.fieldLinkNest own i R0 nm d host).before a0 Z = true) (via : Via Z R0 O nm d) (F : Fld Z h a O nm d v) (hd : decode bytes pc = .ok (.getfield i, 3)) (hp : pc + 3 = pc') (k : ∀ T', Sx Z own bytes ml p l e R s m args below meth c T' locs cells slots h → Go p e below K (T'.setTop (mkF m pc' Ls (v :: st)))) : Go p e below K (T.setTop (mkF m pc Ls (.ref a :: st))) := by
  subst hp
  obtain ⟨T', X', e', stp⟩ := getF X.1 X.2.1 X.2.2.2.2.2.1 X.2.2.2.2.1 w via X.2.2.2.2.2.2 F (g := mkF m pc Ls (.ref a :: st)) rfl rfl (hb X.2.2.1 hd)
  exact Go.step (fun t q => stp _ q) (k T' ⟨X', X.2.1, X.2.2.1, X.2.2.2.1, X.2.2.2.2.1, X.2.2.2.2.2.1, e'⟩)
theorem g_getstatic (X : Sx Z own bytes ml p l e R s m args below meth c T locs cells slots h) {i : Nat} {R0 O nm d host : String} {v : Value} (w : (Cond.fieldLink own i R0 nm d).before a0 Z = true ∨ (Cond.fieldLinkNest own i R0 nm d host).before a0 Z = true) (via : Via Z R0 O nm d) (F : Sta Z h O nm d v) (hd : decode bytes pc = .ok (.getstatic i, 3)) (hp : pc + 3 = pc') (k : ∀ T', Sx Z own bytes ml p l e R s m args below meth c T' locs cells slots h → Go p e below K (T'.setTop (mkF m pc' Ls (v :: st)))) : Go p e below K (T.setTop (mkF m pc Ls (st))) := by
  subst hp
  obtain ⟨T', X', e', stp⟩ := getS2 X.1 X.2.1 X.2.2.2.2.2.1 X.2.2.2.2.1 w via X.2.2.2.2.2.2 F (g := mkF m pc Ls st) rfl (hb X.2.2.1 hd)
  exact Go.step (fun t q => stp _ q) (k T' ⟨X', X.2.1, X.2.2.1, X.2.2.2.1, X.2.2.2.2.1, X.2.2.2.2.2.1, e'⟩)
theorem g_putfield (X : Sx Z own bytes ml p l e R s m args below meth c T locs cells slots h) {i kk : Nat} {R0 O nm d host C : String} {a : Addr} {v old : Value} {ty : FieldType} (w : (Cond.fieldLink own i R0 nm d).before a0 Z = true ∨ (Cond.fieldLinkNest own i R0 nm d host).before a0 Z = true) (via : Via Z R0 O nm d) (F : Fld Z h a O nm d old) (E : Exa Z h a C) (L : (Cond.lays C O nm d).before a0 Z = true ∨ ((Cond.laysFinal C O nm d).before a0 Z = true ∧ own = O ∧ meth.name = "<init>")) (wi : (Cond.instantiable C kk).before a0 Z = true) (hty : parseFieldDescriptor d = some ty) (hn : narrow ty v = v) (hf : fits ty v = true) (hd : decode bytes pc = .ok (.putfield i, 3)) (hp : pc + 3 = pc') (k : ∀ T' h', Sx Z own bytes ml p l e R s m args below meth c T' (locs ++ [⟨a, RoadKit.slotOf Z O nm d⟩]) cells slots h' → Wr h h' a (RoadKit.slotOf Z O nm d) v → Go p e below K (T'.setTop (mkF m pc' Ls (st)))) : Go p e below K (T.setTop (mkF m pc Ls (v :: .ref a :: st))) := by
  subst hp
  obtain ⟨T', h', X', e', W, stp⟩ := putF X.1 X.2.1 X.2.2.2.2.2.1 X.2.2.2.2.1 w via X.2.2.2.2.2.2 F E L wi hty hn hf (g := mkF m pc Ls (v :: .ref a :: st)) rfl rfl (hb X.2.2.1 hd)
  exact Go.step (fun t q => stp _ q) (k T' h' ⟨X', X.2.1, X.2.2.1, X.2.2.2.1, X.2.2.2.2.1, X.2.2.2.2.2.1, e'⟩ W)
theorem g_putfieldN (X : Sx Z own bytes ml p l e R s m args below meth c T locs cells slots h) {i kk : Nat} {R0 O nm d C : String} {a : Addr} {v v' old : Value} {ty : FieldType} (w : (Cond.fieldLink own i R0 nm d).before a0 Z = true) (via : Via Z R0 O nm d) (F : Fld Z h a O nm d old) (E : Exa Z h a C) (L : (Cond.lays C O nm d).before a0 Z = true ∨ ((Cond.laysFinal C O nm d).before a0 Z = true ∧ own = O ∧ meth.name = "<init>")) (wi : (Cond.instantiable C kk).before a0 Z = true) (hty : parseFieldDescriptor d = some ty) (hn : narrow ty v = v') (hf : fits ty v' = true) (hd : decode bytes pc = .ok (.putfield i, 3)) (hp : pc + 3 = pc') (k : ∀ T' h', Sx Z own bytes ml p l e R s m args below meth c T' (locs ++ [⟨a, RoadKit.slotOf Z O nm d⟩]) cells slots h' → Wr h h' a (RoadKit.slotOf Z O nm d) v' → Go p e below K (T'.setTop (mkF m pc' Ls (st)))) : Go p e below K (T.setTop (mkF m pc Ls (v :: .ref a :: st))) := by
  subst hp
  obtain ⟨T', h', X', e', W, stp⟩ := putFN X.1 X.2.1 X.2.2.2.2.2.1 X.2.2.2.2.1 w via X.2.2.2.2.2.2 F E L wi hty hn hf (g := mkF m pc Ls (v :: .ref a :: st)) rfl rfl (hb X.2.2.1 hd)
  exact Go.step (fun t q => stp _ q) (k T' h' ⟨X', X.2.1, X.2.2.1, X.2.2.2.1, X.2.2.2.2.1, X.2.2.2.2.2.1, e'⟩ W)
theorem g_initO (X : Sx Z own bytes ml p l e R s m args below meth c T locs cells slots h) {i W : Nat} {a : Addr} (w1 : (Cond.methodLink own i Lib.objectInit).before a0 Z = true) (w2 : (Cond.instanceMethod Lib.objectInit).before a0 Z = true) (w3 : (Cond.code Lib.objectInit ⟨#[0xb1]⟩ 1 none).before a0 Z = true) (hd : decode bytes pc = .ok (.invokespecial i, 3)) (hp : pc + 3 = pc') (hsz : Ls.size = ml) (hf : 1 ≤ R.frames) (hW : (st.map fun v => v.category).sum ≤ W) (hl : W + 12 ≤ R.locals) (k : ∀ T', Sx Z own bytes ml p l e R s m args below meth c T' locs cells slots h → Go p e below K (T'.setTop (mkF m pc' Ls (st)))) : Go p e below K (T.setTop (mkF m pc Ls (.ref a :: st))) := by
  subst hp
  obtain ⟨T', X', e', stp⟩ := initO X.1 X.2.1 X.2.2.2.2.2.1 X.2.2.2.2.1 w1 w2 w3 X.2.2.2.2.2.2 (g := mkF m pc Ls (.ref a :: st)) rfl (by rw [X.2.2.2.1]; exact hsz) rfl (hb X.2.2.1 hd) hf (W := W) (by simpa using hW) hl
  exact Go.step (fun t q => stp _ q) (k T' ⟨X', X.2.1, X.2.2.1, X.2.2.2.1, X.2.2.2.2.1, X.2.2.2.2.2.1, e'⟩)
theorem g_checkcast (X : Sx Z own bytes ml p l e R s m args below meth c T locs cells slots h) {i : Nat} {K0 : String} {a : Addr} (w : (Cond.classLink own i K0).before a0 Z = true) (F : Ins Z h a K0 true) (hd : decode bytes pc = .ok (.checkcast i, 3)) (hp : pc + 3 = pc') (k : ∀ T', Sx Z own bytes ml p l e R s m args below meth c T' locs cells slots h → Go p e below K (T'.setTop (mkF m pc' Ls (.ref a :: st)))) : Go p e below K (T.setTop (mkF m pc Ls (.ref a :: st))) := by
  subst hp
  obtain ⟨T', X', e', stp⟩ := castY X.1 X.2.1 X.2.2.2.2.2.1 X.2.2.2.2.1 w X.2.2.2.2.2.2 F (g := mkF m pc Ls (.ref a :: st)) rfl rfl (hb X.2.2.1 hd)
  exact Go.step (fun t q => stp _ q) (k T' ⟨X', X.2.1, X.2.2.1, X.2.2.2.1, X.2.2.2.2.1, X.2.2.2.2.2.1, e'⟩)
theorem g_clone (X : Sx Z own bytes ml p l e R s m args below meth c T locs cells slots h) {i W : Nat} {ad : String} {a : Addr} {ty : FieldType} {vs : List Value} (w1 : (Cond.methodLink own i ⟨ad, "clone", "()Ljava/lang/Object;"⟩).before a0 Z = true) (w2 : (Cond.sameMethod ad "java/lang/Object" "clone" "()Ljava/lang/Object;").before a0 Z = true) (w3 : (Cond.native ⟨"java/lang/Object", "clone", "()Ljava/lang/Object;"⟩).before a0 Z = true) (w4 : (Cond.instanceMethod ⟨"java/lang/Object", "clone", "()Ljava/lang/Object;"⟩).before a0 Z = true) (w5 : (Cond.selects ad ⟨ad, "clone", "()Ljava/lang/Object;"⟩ ⟨"java/lang/Object", "clone", "()Ljava/lang/Object;"⟩).before a0 Z = true) (w6 : (Cond.castable ad "java/lang/Cloneable").before a0 Z = true) (A : Av Z h a ty vs) (E : Exa Z h a ad) (hfit : ∀ v ∈ vs, fits ty v = true) (hd : decode bytes pc = .ok (.invokevirtual i, 3)) (hp : pc + 3 = pc') (hsz : Ls.size = ml) (hf : 1 ≤ R.frames) (hW : (st.map fun v => v.category).sum ≤ W) (hl : W + 14 ≤ R.locals) (cap : Nat) (hcap : vs.length ≤ cap) (hc : cells + 1 ≤ R.cells) (hs : slots + cap ≤ R.slots) (k : ∀ T' h' (b : Addr), b = h.size → Sx Z own bytes ml p l e R s m args below meth c T' locs (cells + 1) (slots + cap) h' → Ext h h' → Exa Z h' b ad → Av Z h' b ty vs → Go p e below K (T'.setTop (mkF m pc' Ls (.ref b :: st)))) : Go p e below K (T.setTop (mkF m pc Ls (.ref a :: st))) := by
  subst hp
  obtain ⟨cl, A, rfl, r⟩ := A
  have FC : FitC Z cl := fitC_of A fun j hj v hv => hfit v (by rw [← Array.getElem?_toList] at hv; exact List.mem_of_getElem? hv)
  obtain ⟨T', h', X', e', Ex, A', E', stp⟩ := cloneA X.1 X.2.1 X.2.2.2.2.2.1 X.2.2.2.2.1 w1 w2 w3 w4 w5 w6 X.2.2.2.2.2.2 A E FC (g := mkF m pc Ls (.ref a :: st)) rfl (by rw [X.2.2.2.1]; exact hsz) rfl (hb X.2.2.1 hd) hf (W := W) (cap := cap) (by simpa using hW) hl (by simpa using hcap) hc hs
  exact Go.step (fun t q => stp _ q) (k T' h' _ rfl ⟨X', X.2.1, X.2.2.1, X.2.2.2.1, X.2.2.2.2.1, X.2.2.2.2.2.1, e'⟩ Ex E' ⟨_, A', rfl, r⟩)
theorem g_static (X : Sx Z own bytes ml p l e R s m args below meth c T locs cells slots h) {y : MethodName} {yb : ByteArray} {yl : Nat} {yr : Option FieldType} {rm : Room} {as' : Array Value} {Q : Option Value → Heap → List Loc → Prop} {i W : Nat} (argsL rest : List Value) (w1 : (Cond.methodLink own i y).before a0 Z = true) (w2 : (Cond.static y).before a0 Z = true) (w3 : (Cond.initialized y.cls).before a0 Z = true) (w4 : (Cond.code y yb yl yr).before a0 Z = true) (M : Rm l Z y yb yl yr [] rm as' h Q) (hd : decode bytes pc = .ok (.invokestatic i, 3)) (hp : pc + 3 = pc') (hy : y.cls ≠ "java/lang/invoke/MethodHandle" ∧ y.cls ≠ "java/lang/invoke/VarHandle") (hf : rm.frames + 1 ≤ R.frames) (hl : W + (yl + 11) + rm.locals ≤ R.locals) (hsz : Ls.size = ml) (ha : argsL.toArray = as') (hst : st = argsL.reverse ++ rest) (hlen : ∀ sig, parseMethodDescriptor y.desc = some sig → argsL.length = sig.parameters.length) (hW : (rest.map fun v => v.category).sum ≤ W) (hc : cells + rm.cells ≤ R.cells) (hs : slots + rm.slots ≤ R.slots) (k : ∀ v T' L, Sx Z own bytes ml p l e R s m args below meth c T' (locs ++ L) (cells + rm.cells) (slots + rm.slots) T'.heap → Q v T'.heap L → Go p e below K (T'.setTop (mkF m pc' Ls (v.toList ++ rest)))) : Go p e below K (T.setTop (mkF m pc Ls (st))) := by
  subst hp; subst hst
  have hZ := X.2.2.2.2.2.1
  obtain ⟨v, vm1, ⟨T', L', k', n'⟩, -, X', ⟨L, hQ, l1, l2, l3⟩, stp⟩ := Jvm.LawKit.callS X.1 X.2.1 X.2.2.2.2.1 (mvT hZ w1) (mvT hZ w2) (mvT hZ w3) (mvT hZ w4) hy (backOf (W := W) M hZ w4 w3 hf hl) (g := mkF m pc Ls (argsL.reverse ++ rest)) rfl (by rw [X.2.2.2.1]; exact hsz) (argsL := argsL) (rest := rest) hlen rfl (by simpa using hW) (hb X.2.2.1 hd) (fun _ _ => ⟨ha, X.2.2.2.2.2.2, hc, hs⟩)
  dsimp only [Pt.U, Pt.locs, Pt.cells, Pt.slots] at X' l1 l2 l3 stp hQ
  subst l1 l2 l3
  exact Go.step (fun t q => stp _ q) (k v T' L ⟨X', X.2.1, X.2.2.1, X.2.2.2.1, X.2.2.2.2.1, X.2.2.2.2.2.1, rfl⟩ hQ)
theorem g_special (X : Sx Z own bytes ml p l e R s m args below meth c T locs cells slots h) {y : MethodName} {yb : ByteArray} {yl : Nat} {rm : Room} {as' : Array Value} {Q : Option Value → Heap → List Loc → Prop} {i W : Nat} {a : Addr} (argsL rest : List Value) (hi : y.name = "<init>") (w1 : (Cond.methodLink own i y).before a0 Z = true) (w2 : (Cond.instanceMethod y).before a0 Z = true) (w3 : (Cond.initialized y.cls).before a0 Z = true) (w4 : (Cond.code y yb yl none).before a0 Z = true) (M : Rm l Z y yb yl none [] rm as' h Q) (hd : decode bytes pc = .ok (.invokespecial i, 3)) (hp : pc + 3 = pc') (hy : y.cls ≠ "java/lang/invoke/MethodHandle" ∧ y.cls ≠ "java/lang/invoke/VarHandle") (hf : rm.frames + 1 ≤ R.frames) (hl : W + (yl + 11) + rm.locals ≤ R.locals) (hsz : Ls.size = ml) (ha : (.ref a :: argsL).toArray = as') (hst : st = argsL.reverse ++ .ref a :: rest) (hlen : ∀ sig, parseMethodDescriptor y.desc = some sig → argsL.length = sig.parameters.length) (hW : (rest.map fun v => v.category).sum ≤ W) (hc : cells + rm.cells ≤ R.cells) (hs : slots + rm.slots ≤ R.slots) (k : ∀ v T' L, Sx Z own bytes ml p l e R s m args below meth c T' (locs ++ L) (cells + rm.cells) (slots + rm.slots) T'.heap → Q v T'.heap L → Go p e below K (T'.setTop (mkF m pc' Ls (v.toList ++ rest)))) : Go p e below K (T.setTop (mkF m pc Ls (st))) := by
  subst hp; subst hst
  have hZ := X.2.2.2.2.2.1
  obtain ⟨v, vm1, ⟨T', L', k', n'⟩, -, X', ⟨L, hQ, l1, l2, l3⟩, stp⟩ := X.1.specialBack X.2.1 (y := y) hi X.2.2.2.2.1 (mvT hZ w1) (mvT hZ w2) (mvT hZ w4) hy (backOf (W := W) M hZ w4 w3 hf hl) (g := mkF m pc Ls (argsL.reverse ++ .ref a :: rest)) rfl (by rw [X.2.2.2.1]; exact hsz) (Steps.refl _) (a := a) (argsL := argsL) (rest := rest) hlen rfl (by simpa using hW) (hb X.2.2.1 hd) (fun _ _ => ⟨ha, X.2.2.2.2.2.2, hc, hs⟩)
  dsimp only [Pt.U, Pt.locs, Pt.cells, Pt.slots] at X' l1 l2 l3 stp hQ
  subst l1 l2 l3
  exact Go.step (fun t q => stp.trans q) (k v T' L ⟨X', X.2.1, X.2.2.1, X.2.2.2.1, X.2.2.2.2.1, X.2.2.2.2.2.1, rfl⟩ hQ)
theorem g_virtual (X : Sx Z own bytes ml p l e R s m args below meth c T locs cells slots h) {y : MethodName} {yb : ByteArray} {yl : Nat} {yr : Option FieldType} {rm : Room} {as' : Array Value} {Q : Option Value → Heap → List Loc → Prop} {i W : Nat} {a : Addr} {C : String} (argsL rest : List Value) (E : Exa Z h a C) (w1 : (Cond.methodLink own i y).before a0 Z = true) (w2 : (Cond.declares y).before a0 Z = true) (w5 : (Cond.selects C y y).before a0 Z = true) (w6 : (Cond.instanceMethod y).before a0 Z = true) (w3 : (Cond.initialized y.cls).before a0 Z = true) (w4 : (Cond.code y yb yl yr).before a0 Z = true) (M : Rm l Z y yb yl yr [] rm as' h Q) (hd : decode bytes pc = .ok (.invokevirtual i, 3)) (hp : pc + 3 = pc') (hy : y.cls ≠ "java/lang/invoke/MethodHandle" ∧ y.cls ≠ "java/lang/invoke/VarHandle") (hf : rm.frames + 1 ≤ R.frames) (hl : W + (yl + 11) + rm.locals ≤ R.locals) (hsz : Ls.size = ml) (ha : (.ref a :: argsL).toArray = as') (hst : st = argsL.reverse ++ .ref a :: rest) (hlen : ∀ sig, parseMethodDescriptor y.desc = some sig → argsL.length = sig.parameters.length) (hW : (rest.map fun v => v.category).sum ≤ W) (hc : cells + rm.cells ≤ R.cells) (hs : slots + rm.slots ≤ R.slots) (k : ∀ v T' L, Sx Z own bytes ml p l e R s m args below meth c T' (locs ++ L) (cells + rm.cells) (slots + rm.slots) T'.heap → Q v T'.heap L → Go p e below K (T'.setTop (mkF m pc' Ls (v.toList ++ rest)))) : Go p e below K (T.setTop (mkF m pc Ls (st))) := by
  subst hp; subst hst
  have hZ := X.2.2.2.2.2.1
  obtain ⟨cq, kq, qa, qb, qc⟩ := isOf hZ X.2.2.2.2.2.2 E
  obtain ⟨v, vm1, ⟨T', L', k', n'⟩, -, X', ⟨L, hQ, l1, l2, l3⟩, stp⟩ := X.1.virtualBack X.2.1 (y := y) (z := y) X.2.2.2.2.1 (mvT hZ w1) (mvT hZ w2) (notFace_of_selects (args := #[]) (mvT hZ w5)) (mvT hZ w5) (mvT hZ w6) hy (backOf (W := W) M hZ w4 w3 hf hl) qa qc (g := mkF m pc Ls (argsL.reverse ++ .ref a :: rest)) rfl (by rw [X.2.2.2.1]; exact hsz) (Steps.refl _) (argsL := argsL) (rest := rest) hlen rfl (by simpa using hW) (hb X.2.2.1 hd) (fun _ _ => ⟨ha, X.2.2.2.2.2.2, hc, hs⟩)
  dsimp only [Pt.U, Pt.locs, Pt.cells, Pt.slots] at X' l1 l2 l3 stp hQ
  subst l1 l2 l3
  exact Go.step (fun t q => stp.trans q) (k v T' L ⟨X', X.2.1, X.2.2.1, X.2.2.2.1, X.2.2.2.2.1, X.2.2.2.2.2.1, rfl⟩ hQ)
theorem g_virtualUp (X : Sx Z own bytes ml p l e R s m args below meth c T locs cells slots h) {y : MethodName} {yb : ByteArray} {yl : Nat} {yr : Option FieldType} {rm : Room} {as' : Array Value} {Q : Option Value → Heap → List Loc → Prop} {i W : Nat} {a : Addr} {C owner : String} {x : MethodName} (argsL rest : List Value) (E : Exa Z h a C) (w1 : (Cond.methodLink own i x).before a0 Z = true) (w8 : (Cond.sameMethod x.cls owner x.name x.desc).before a0 Z = true) (w2 : (Cond.declares ⟨owner, x.name, x.desc⟩).before a0 Z = true) (w5 : (Cond.selects C x y).before a0 Z = true) (w6 : (Cond.instanceMethod y).before a0 Z = true) (w3 : (Cond.initialized y.cls).before a0 Z = true) (w4 : (Cond.code y yb yl yr).before a0 Z = true) (M : Rm l Z y yb yl yr [] rm as' h Q) (hd : decode bytes pc = .ok (.invokevirtual i, 3)) (hp : pc + 3 = pc') (hy : owner ≠ "java/lang/invoke/MethodHandle" ∧ owner ≠ "java/lang/invoke/VarHandle") (hf : rm.frames + 1 ≤ R.frames) (hl : W + (yl + 11) + rm.locals ≤ R.locals) (hsz : Ls.size = ml) (ha : (.ref a :: argsL).toArray = as') (hst : st = argsL.reverse ++ .ref a :: rest) (hlen : ∀ sig, parseMethodDescriptor x.desc = some sig → argsL.length = sig.parameters.length) (hW : (rest.map fun v => v.category).sum ≤ W) (hc : cells + rm.cells ≤ R.cells) (hs : slots + rm.slots ≤ R.slots) (k : ∀ v T' L, Sx Z own bytes ml p l e R s m args below meth c T' (locs ++ L) (cells + rm.cells) (slots + rm.slots) T'.heap → Q v T'.heap L → Go p e below K (T'.setTop (mkF m pc' Ls (v.toList ++ rest)))) : Go p e below K (T.setTop (mkF m pc Ls (st))) := by
  subst hp; subst hst
  have hZ := X.2.2.2.2.2.1
  obtain ⟨cq, kq, qa, qb, qc⟩ := isOf hZ X.2.2.2.2.2.2 E
  obtain ⟨v, vm1, ⟨T', L', k', n'⟩, -, X', ⟨L, hQ, l1, l2, l3⟩, stp⟩ := X.1.virtualBackUp X.2.1 (x := x) (y := y) X.2.2.2.2.1 (mvT hZ w1) (mvT hZ w8) (mvT hZ w2) hy (mvT hZ w5) (mvT hZ w6) (backOf (W := W) M hZ w4 w3 hf hl) qa qc (g := mkF m pc Ls (argsL.reverse ++ .ref a :: rest)) rfl (by rw [X.2.2.2.1]; exact hsz) (Steps.refl _) (argsL := argsL) (rest := rest) hlen rfl (by simpa using hW) (hb X.2.2.1 hd) (fun _ _ => ⟨ha, X.2.2.2.2.2.2, hc, hs⟩)
  dsimp only [Pt.U, Pt.locs, Pt.cells, Pt.slots] at X' l1 l2 l3 stp hQ
  subst l1 l2 l3
  exact Go.step (fun t q => stp.trans q) (k v T' L ⟨X', X.2.1, X.2.2.1, X.2.2.2.1, X.2.2.2.2.1, X.2.2.2.2.2.1, rfl⟩ hQ)
theorem g_private (X : Sx Z own bytes ml p l e R s m args below meth c T locs cells slots h) {y : MethodName} {yb : ByteArray} {yl : Nat} {yr : Option FieldType} {rm : Room} {as' : Array Value} {Q : Option Value → Heap → List Loc → Prop} {i W : Nat} {a : Addr} (argsL rest : List Value) (E : Exa Z h a y.cls) (w1 : (Cond.methodLink own i y).before a0 Z = true) (w5 : (Cond.selects y.cls y y).before a0 Z = true) (w6 : (Cond.instanceMethod y).before a0 Z = true) (w7 : (Cond.privateMethod y).before a0 Z = true) (w3 : (Cond.initialized y.cls).before a0 Z = true) (w4 : (Cond.code y yb yl yr).before a0 Z = true) (M : Rm l Z y yb yl yr [] rm as' h Q) (hd : decode bytes pc = .ok (.invokevirtual i, 3)) (hp : pc + 3 = pc') (hy : y.cls ≠ "java/lang/invoke/MethodHandle" ∧ y.cls ≠ "java/lang/invoke/VarHandle") (hf : rm.frames + 1 ≤ R.frames) (hl : W + (yl + 11) + rm.locals ≤ R.locals) (hsz : Ls.size = ml) (ha : (.ref a :: argsL).toArray = as') (hst : st = argsL.reverse ++ .ref a :: rest) (hlen : ∀ sig, parseMethodDescriptor y.desc = some sig → argsL.length = sig.parameters.length) (hW : (rest.map fun v => v.category).sum ≤ W) (hc : cells + rm.cells ≤ R.cells) (hs : slots + rm.slots ≤ R.slots) (k : ∀ v T' L, Sx Z own bytes ml p l e R s m args below meth c T' (locs ++ L) (cells + rm.cells) (slots + rm.slots) T'.heap → Q v T'.heap L → Go p e below K (T'.setTop (mkF m pc' Ls (v.toList ++ rest)))) : Go p e below K (T.setTop (mkF m pc Ls (st))) := by
  subst hp; subst hst
  have hZ := X.2.2.2.2.2.1
  obtain ⟨cq, q1, q2⟩ := E.cell
  obtain ⟨v, vm1, ⟨T', L', k', n'⟩, -, X', ⟨L, hQ, l1, l2, l3⟩, stp⟩ := X.1.privateBack X.2.1 (y := y) X.2.2.2.2.1 (mvT hZ w1) (mvT hZ w6) (mvT hZ w5) (Cond.privateMethod_at (mvP hZ w7 (args := #[]))) (mvT hZ w4) hy (backOf (W := W) M hZ w4 w3 hf hl) (g := mkF m pc Ls (argsL.reverse ++ .ref a :: rest)) rfl (by rw [X.2.2.2.1]; exact hsz) (Steps.refl _) (a := a) (by rw [X.2.2.2.2.2.2]; exact q1) q2 (argsL := argsL) (rest := rest) hlen rfl (by simpa using hW) (hb X.2.2.1 hd) (fun _ _ => ⟨ha, X.2.2.2.2.2.2, hc, hs⟩)
  dsimp only [Pt.U, Pt.locs, Pt.cells, Pt.slots] at X' l1 l2 l3 stp hQ
  subst l1 l2 l3
  exact Go.step (fun t q => stp.trans q) (k v T' L ⟨X', X.2.1, X.2.2.1, X.2.2.2.1, X.2.2.2.2.1, X.2.2.2.2.2.1, rfl⟩ hQ)
theorem g_specialB (X : Sx Z own bytes ml p l e R s m args below meth c T locs cells slots h) {y : MethodName} {as' : Array Value} {Q : Option Value → Heap → List Loc → Prop} {i W kc ks : Nat} {a : Addr} {yb : ByteArray} {yl : Nat} (argsL rest : List Value) (hi : y.name = "<init>") (w1 : (Cond.methodLink own i y).before a0 Z = true) (w2 : (Cond.instanceMethod y).before a0 Z = true) (w4 : (Cond.code y yb yl none).before a0 Z = true) (hK : Back l R p e below s args y 3 W (fun A a => a = as' ∧ A.U.heap = h ∧ A.cells + kc ≤ R.cells ∧ A.slots + ks ≤ R.slots) (fun A _ v B => ∃ L, Q v B.U.heap L ∧ B.locs = A.locs ++ L ∧ B.cells = A.cells + kc ∧ B.slots = A.slots + ks)) (hd : decode bytes pc = .ok (.invokespecial i, 3)) (hp : pc + 3 = pc') (hy : y.cls ≠ "java/lang/invoke/MethodHandle" ∧ y.cls ≠ "java/lang/invoke/VarHandle") (hsz : Ls.size = ml) (ha : (.ref a :: argsL).toArray = as') (hst : st = argsL.reverse ++ .ref a :: rest) (hlen : ∀ sig, parseMethodDescriptor y.desc = some sig → argsL.length = sig.parameters.length) (hW : (rest.map fun v => v.category).sum ≤ W) (hc : cells + kc ≤ R.cells) (hs : slots + ks ≤ R.slots) (k : ∀ v T' L, Sx Z own bytes ml p l e R s m args below meth c T' (locs ++ L) (cells + kc) (slots + ks) T'.heap → Q v T'.heap L → Go p e below K (T'.setTop (mkF m pc' Ls (v.toList ++ rest)))) : Go p e below K (T.setTop (mkF m pc Ls (st))) := by
  subst hp; subst hst
  have hZ := X.2.2.2.2.2.1
  obtain ⟨v, vm1, ⟨T', L', k', n'⟩, -, X', ⟨L, hQ, l1, l2, l3⟩, stp⟩ := X.1.specialBack X.2.1 (y := y) hi X.2.2.2.2.1 (mvT hZ w1) (mvT hZ w2) (mvT hZ w4) hy hK (g := mkF m pc Ls (argsL.reverse ++ .ref a :: rest)) rfl (by rw [X.2.2.2.1]; exact hsz) (Steps.refl _) (a := a) (argsL := argsL) (rest := rest) hlen rfl (by simpa using hW) (hb X.2.2.1 hd) (fun _ _ => ⟨ha, X.2.2.2.2.2.2, hc, hs⟩)
  dsimp only [Pt.U, Pt.locs, Pt.cells, Pt.slots] at X' l1 l2 l3 stp hQ
  subst l1 l2 l3
  exact Go.step (fun t q => stp.trans q) (k v T' L ⟨X', X.2.1, X.2.2.1, X.2.2.2.1, X.2.2.2.2.1, X.2.2.2.2.2.1, rfl⟩ hQ)
theorem g_virtualB (X : Sx Z own bytes ml p l e R s m args below meth c T locs cells slots h) {y : MethodName} {as' : Array Value} {Q : Option Value → Heap → List Loc → Prop} {i W kc ks : Nat} {a : Addr} {C : String} (argsL rest : List Value) (E : Exa Z h a C) (w1 : (Cond.methodLink own i y).before a0 Z = true) (w2 : (Cond.declares y).before a0 Z = true) (w5 : (Cond.selects C y y).before a0 Z = true) (w6 : (Cond.instanceMethod y).before a0 Z = true) (hK : Back l R p e below s args y 3 W (fun A a => a = as' ∧ A.U.heap = h ∧ A.cells + kc ≤ R.cells ∧ A.slots + ks ≤ R.slots) (fun A _ v B => ∃ L, Q v B.U.heap L ∧ B.locs = A.locs ++ L ∧ B.cells = A.cells + kc ∧ B.slots = A.slots + ks)) (hd : decode bytes pc = .ok (.invokevirtual i, 3)) (hp : pc + 3 = pc') (hy : y.cls ≠ "java/lang/invoke/MethodHandle" ∧ y.cls ≠ "java/lang/invoke/VarHandle") (hsz : Ls.size = ml) (ha : (.ref a :: argsL).toArray = as') (hst : st = argsL.reverse ++ .ref a :: rest) (hlen : ∀ sig, parseMethodDescriptor y.desc = some sig → argsL.length = sig.parameters.length) (hW : (rest.map fun v => v.category).sum ≤ W) (hc : cells + kc ≤ R.cells) (hs : slots + ks ≤ R.slots) (k : ∀ v T' L, Sx Z own bytes ml p l e R s m args below meth c T' (locs ++ L) (cells + kc) (slots + ks) T'.heap → Q v T'.heap L → Go p e below K (T'.setTop (mkF m pc' Ls (v.toList ++ rest)))) : Go p e below K (T.setTop (mkF m pc Ls (st))) := by
  subst hp; subst hst
  have hZ := X.2.2.2.2.2.1
  obtain ⟨cq, kq, qa, qb, qc⟩ := isOf hZ X.2.2.2.2.2.2 E
  obtain ⟨v, vm1, ⟨T', L', k', n'⟩, -, X', ⟨L, hQ, l1, l2, l3⟩, stp⟩ := X.1.virtualBack X.2.1 (y := y) (z := y) X.2.2.2.2.1 (mvT hZ w1) (mvT hZ w2) (notFace_of_selects (args := #[]) (mvT hZ w5)) (mvT hZ w5) (mvT hZ w6) hy hK qa qc (g := mkF m pc Ls (argsL.reverse ++ .ref a :: rest)) rfl (by rw [X.2.2.2.1]; exact hsz) (Steps.refl _) (argsL := argsL) (rest := rest) hlen rfl (by simpa using hW) (hb X.2.2.1 hd) (fun _ _ => ⟨ha, X.2.2.2.2.2.2, hc, hs⟩)
  dsimp only [Pt.U, Pt.locs, Pt.cells, Pt.slots] at X' l1 l2 l3 stp hQ
  subst l1 l2 l3
  exact Go.step (fun t q => stp.trans q) (k v T' L ⟨X', X.2.1, X.2.2.1, X.2.2.2.1, X.2.2.2.2.1, X.2.2.2.2.2.1, rfl⟩ hQ)
theorem g_ireturn (X : Sx Z own bytes ml p l e R s m args below meth c T locs cells slots h) {Q : Option Value → Heap → List Loc → Prop} {kc ks : Nat} {z : Int32} (hd : decode bytes pc = .ok (.ireturn, 1)) (hret : meth.sig.returnType = some .int) (hlk : meth.locks = false) (hc : cells ≤ kc) (hs : slots ≤ ks) (q : Q (some (.int z)) h locs) : Go p e below (Ends s Q kc ks) (T.setTop (mkF m pc Ls (.int z :: st))) := by
  obtain ⟨fs, hr, hrun, hended, hW, hsame⟩ := X.1.leave (v := (some (.int z))) (fun h => by rw [hret] at h; cases h) hlk
  refine ⟨_, _, retI X.1 X.2.1 hret (hb X.2.2.1 hd) hr, hrun, hended, _, _, rfl, ?_, ⟨_, rfl⟩, hW, hsame.mono hc hs⟩
  show Q _ T.heap _
  rw [X.2.2.2.2.2.2]; exact q
theorem g_lreturn (X : Sx Z own bytes ml p l e R s m args below meth c T locs cells slots h) {Q : Option Value → Heap → List Loc → Prop} {kc ks : Nat} {z : Int64} (hd : decode bytes pc = .ok (.lreturn, 1)) (hret : meth.sig.returnType = some .long) (hlk : meth.locks = false) (hc : cells ≤ kc) (hs : slots ≤ ks) (q : Q (some (.long z)) h locs) : Go p e below (Ends s Q kc ks) (T.setTop (mkF m pc Ls (.long z :: st))) := by
  obtain ⟨fs, hr, hrun, hended, hW, hsame⟩ := X.1.leave (v := (some (.long z))) (fun h => by rw [hret] at h; cases h) hlk
  refine ⟨_, _, retJ X.1 X.2.1 hret (hb X.2.2.1 hd) hr, hrun, hended, _, _, rfl, ?_, ⟨_, rfl⟩, hW, hsame.mono hc hs⟩
  show Q _ T.heap _
  rw [X.2.2.2.2.2.2]; exact q
theorem g_ireturnN (X : Sx Z own bytes ml p l e R s m args below meth c T locs cells slots h) {Q : Option Value → Heap → List Loc → Prop} {kc ks : Nat} {z : Int32} {t : FieldType} (ht : t = .boolean ∨ t = .byte ∨ t = .char ∨ t = .short) (hd : decode bytes pc = .ok (.ireturn, 1)) (hret : meth.sig.returnType = some t) (hlk : meth.locks = false) (hc : cells ≤ kc) (hs : slots ≤ ks) (q : Q (some (.int (nar t z))) h locs) : Go p e below (Ends s Q kc ks) (T.setTop (mkF m pc Ls (.int z :: st))) := by
  obtain ⟨fs, hr, hrun, hended, hW, hsame⟩ := X.1.leave (v := (some (.int (nar t z)))) (fun h => by rw [hret] at h; cases h) hlk
  refine ⟨_, _, retN X.1 X.2.1 hret ht (hb X.2.2.1 hd) hr, hrun, hended, _, _, rfl, ?_, ⟨_, rfl⟩, hW, hsame.mono hc hs⟩
  show Q _ T.heap _
  rw [X.2.2.2.2.2.2]; exact q
theorem g_areturn (X : Sx Z own bytes ml p l e R s m args below meth c T locs cells slots h) {Q : Option Value → Heap → List Loc → Prop} {kc ks : Nat} {w : Value} {t : FieldType} (hw : w.isRef = true) (ht : t.isReference = true) (hd : decode bytes pc = .ok (.areturn, 1)) (hret : meth.sig.returnType = some t) (hlk : meth.locks = false) (hc : cells ≤ kc) (hs : slots ≤ ks) (q : Q (some w) h locs) : Go p e below (Ends s Q kc ks) (T.setTop (mkF m pc Ls ([w]))) := by
  obtain ⟨fs, hr, hrun, hended, hW, hsame⟩ := X.1.leave (v := (some w)) (fun h => by rw [hret] at h; cases h) hlk
  refine ⟨_, _, X.1.areturnOut X.2.1 hw hret ht (hb X.2.2.1 hd) hr, hrun, hended, _, _, rfl, ?_, ⟨_, rfl⟩, hW, hsame.mono hc hs⟩
  show Q _ T.heap _
  rw [X.2.2.2.2.2.2]; exact q
theorem g_return (X : Sx Z own bytes ml p l e R s m args below meth c T locs cells slots h) {Q : Option Value → Heap → List Loc → Prop} {kc ks : Nat} (hd : decode bytes pc = .ok (.return_, 1)) (hret : meth.sig.returnType = none) (hlk : meth.locks = false) (hc : cells ≤ kc) (hs : slots ≤ ks) (q : Q none h locs) : Go p e below (Ends s Q kc ks) (T.setTop (mkF m pc Ls ([]))) := by
  obtain ⟨fs, hr, hrun, hended, hW, hsame⟩ := X.1.leave (v := none) (fun _ => rfl) hlk
  refine ⟨_, _, X.1.returnOut X.2.1 hret (hb X.2.2.1 hd) hr, hrun, hended, _, _, rfl, ?_, ⟨_, rfl⟩, hW, hsame.mono hc hs⟩
  show Q _ T.heap _
  rw [X.2.2.2.2.2.2]; exact q
/-- a loop that writes nothing: F: the frame at its head; I: what holds there; mu: the turns left -/
theorem loopP {α : Type} (X : Sx Z own bytes ml p l e R s m args below meth c T locs cells slots h) (F : α → JFrame) (I : α → Prop) (mu : α → Nat)
    (hstep : ∀ (a : α) (T : State), Sx Z own bytes ml p l e R s m args below meth c T locs cells slots h → I a → (∀ (a' : α) (T' : State), mu a' < mu a → Sx Z own bytes ml p l e R s m args below meth c T' locs cells slots h → I a' → Go p e below K (T'.setTop (F a'))) → Go p e below K (T.setTop (F a))) (b : α) (hI : I b) : Go p e below K (T.setTop (F b)) := by
  have main : ∀ (n : Nat) (a : α) (T : State), mu a < n → Sx Z own bytes ml p l e R s m args below meth c T locs cells slots h → I a → Go p e below K (T.setTop (F a)) := by
    intro n
    induction n with
    | zero => intro a T q; exact absurd q (Nat.not_lt_zero _)
    | succ n ih => intro a T q X hI; exact hstep a T X hI (fun a' T' q' X' hI' => ih a' T' (Nat.lt_of_lt_of_le q' (Nat.le_of_lt_succ q)) X' hI')
  exact main _ b T (Nat.lt_succ_self _) X hI
/-- a loop that writes -/
theorem loopW {α : Type} (X : Sx Z own bytes ml p l e R s m args below meth c T locs cells slots h) (F : α → JFrame) (I : α → Heap → List Loc → Prop) (mu : α → Nat)
    (hstep : ∀ (a : α) (T : State) (h : Heap) (locs : List Loc), Sx Z own bytes ml p l e R s m args below meth c T locs cells slots h → I a h locs → (∀ (a' : α) (T' : State) (h' : Heap) (locs' : List Loc), mu a' < mu a → Sx Z own bytes ml p l e R s m args below meth c T' locs' cells slots h' → I a' h' locs' → Go p e below K (T'.setTop (F a'))) → Go p e below K (T.setTop (F a))) (b : α) (hI : I b h locs) : Go p e below K (T.setTop (F b)) := by
  have main : ∀ (n : Nat) (a : α) (T : State) (h : Heap) (locs : List Loc), mu a < n → Sx Z own bytes ml p l e R s m args below meth c T locs cells slots h → I a h locs → Go p e below K (T.setTop (F a)) := by
    intro n
    induction n with
    | zero => intro a T h locs q; exact absurd q (Nat.not_lt_zero _)
    | succ n ih => intro a T h locs q X hI; exact hstep a T h locs X hI (fun a' T' h' locs' q' X' hI' => ih a' T' h' locs' (Nat.lt_of_lt_of_le q' (Nat.le_of_lt_succ q)) X' hI')
  exact main _ b T h locs (Nat.lt_succ_self _) X hI
/-- two ways that meet again -/
theorem joinA {α : Type} (X : Sx Z own bytes ml p l e R s m args below meth c T locs cells slots h) (F : α → JFrame) (r : α → Prop) {f : JFrame} (k : ∀ (T' : State), Sx Z own bytes ml p l e R s m args below meth c T' locs cells slots h → ∀ v : α, r v → Go p e below K (T'.setTop (F v)))
    (b : (∀ (T' : State), Sx Z own bytes ml p l e R s m args below meth c T' locs cells slots h → ∀ v : α, r v → Go p e below K (T'.setTop (F v))) → Go p e below K (T.setTop f)) : Go p e below K (T.setTop f) := b k
end Walk
theorem narT : nar .boolean (1 : Int32) = b2i true := rfl
theorem narF : nar .boolean (0 : Int32) = b2i false := rfl
/-- the sheet's k-th word -/
theorem tb {a0 : Array Value} {Z : State} (hw : ∀ d ∈ tables_1, d.before a0 Z = true) (k : Nat) {d : Jvm.Cond} (hd : tables_1[k]? = some d) : d.before a0 Z = true := hw d (List.mem_of_getElem? hd)
/-- what a method says that writes and makes nothing: it returns this -/
def Pu (val : Value) (h0 : Heap) (v : Option Value) (h : Heap) (L : List Loc) : Prop := v = some val ∧ L = [] ∧ h = h0
theorem pureX {Z : State} {own : String} {bytes : ByteArray} {ml : Nat} {p : Program} {l : Launch} {e : Env} {R : Room} {s : State} {m : MethodId} {args : Array Value} {below : List Frame} {meth : Method} {c : Code} {T : State} {locs L : List Loc} {cells slots : Nat} {h : Heap} {val : Value} {v : Option Value}
    (X : Sx Z own bytes ml p l e R s m args below meth c T (locs ++ L) (cells + 0) (slots + 0) T.heap) (q : Pu val h v T.heap L) : v = some val ∧ Sx Z own bytes ml p l e R s m args below meth c T locs cells slots h := by
  obtain ⟨q1, rfl, q3⟩ := q
  rw [List.append_nil] at X
  exact ⟨q1, X.1, X.2.1, X.2.2.1, X.2.2.2.1, X.2.2.2.2.1, X.2.2.2.2.2.1, q3⟩
theorem d1_0 : decode jdk_29_method_69_code 0 = .ok (.iload_n 0, 1) := by decide +kernel
theorem d1_1 : decode jdk_29_method_69_code 1 = .ok (.iload_n 1, 1) := by decide +kernel
theorem d1_2 : decode jdk_29_method_69_code 2 = .ok (.if_icmp .gt 7, 3) := by decide +kernel
theorem d1_9 : decode jdk_29_method_69_code 9 = .ok (.iload_n 1, 1) := by decide +kernel
theorem d1_10 : decode jdk_29_method_69_code 10 = .ok (.ireturn, 1) := by decide +kernel
theorem d1_5 : decode jdk_29_method_69_code 5 = .ok (.iload_n 0, 1) := by decide +kernel
theorem d1_6 : decode jdk_29_method_69_code 6 = .ok (.goto 4, 3) := by decide +kernel
def fMin (i0 : Int32) (i1 : Int32) : Int32 := if i1 < i0 then (i1) else (i0)
theorem ef_rMin (m : MethodId) (x0 : Int32) (x1 : Int32) : entryFrame m #[(.int x0), (.int x1)] 2 = mkF m 0 #[.val (.int x0), .val (.int x1)] [] := by first | (simp [entryFrame, mkF, argsToLocals, Value.category]; done) | rfl
set_option maxRecDepth 65536 in
set_option maxHeartbeats 40000000 in
theorem rMin (l : Launch) (Z : State) (aa : Array Value) (hw : ∀ d ∈ tables_1, d.before aa Z = true) (ws : List Jvm.Cond) (i0 : Int32) (i1 : Int32) (h0 : Heap) :
    Rm l Z (⟨"java/lang/Math", "min", "(II)I"⟩ : MethodName) jdk_29_method_69_code 2 (some .int) ws ({ frames := 0, cells := 0, slots := 0, locals := 0 } : Room) #[(.int i0), (.int i1)] h0 (Pu (.int (fMin i0 i1)) h0) := by
  refine Rm.of (Jvm.Free.JP.mathPlain rfl (by decide +kernel)) ?_
  intro p e s m below meth cc T X hnm hret hlk
  refine Go.at_ (ef_rMin m i0 i1) ?_
  refine g_iloadN X d1_0 (pc' := 1) rfl rfl ?_
  refine g_iloadN X d1_1 (pc' := 2) rfl rfl ?_
  by_cases hc2_1 : i1 < i0
  · skip
    refine g_icY X d1_2 (tlt hc2_1).2.2.1 (pc' := 9) (by decide) (by decide) ?_
    refine g_iloadN X d1_9 (pc' := 10) rfl rfl ?_
    refine g_ireturn X d1_10 hret hlk (by decide) (by decide) ?_
    exact ⟨congrArg (fun z => some (Value.int z)) (Eq.symm (show fMin i0 i1 = _ from (Eq.trans (if_pos hc2_1) rfl))), rfl, rfl⟩
  · skip
    refine g_icN X d1_2 (flt hc2_1).2.2.1 (pc' := 5) rfl ?_
    refine g_iloadN X d1_5 (pc' := 6) rfl rfl ?_
    refine g_goto X d1_6 (pc' := 10) (by decide) (by decide) ?_
    refine g_ireturn X d1_10 hret hlk (by decide) (by decide) ?_
    exact ⟨congrArg (fun z => some (Value.int z)) (Eq.symm (show fMin i0 i1 = _ from (Eq.trans (if_neg hc2_1) rfl))), rfl, rfl⟩
theorem d2_0 : decode jdk_29_method_65_code 0 = .ok (.iload_n 0, 1) := by decide +kernel
theorem d2_1 : decode jdk_29_method_65_code 1 = .ok (.iload_n 1, 1) := by decide +kernel
theorem d2_2 : decode jdk_29_method_65_code 2 = .ok (.if_icmp .lt 7, 3) := by decide +kernel
theorem d2_9 : decode jdk_29_method_65_code 9 = .ok (.iload_n 1, 1) := by decide +kernel
theorem d2_10 : decode jdk_29_method_65_code 10 = .ok (.ireturn, 1) := by decide +kernel
theorem d2_5 : decode jdk_29_method_65_code 5 = .ok (.iload_n 0, 1) := by decide +kernel
theorem d2_6 : decode jdk_29_method_65_code 6 = .ok (.goto 4, 3) := by decide +kernel
def fMax (i0 : Int32) (i1 : Int32) : Int32 := if i0 < i1 then (i1) else (i0)
theorem ef_rMax (m : MethodId) (x0 : Int32) (x1 : Int32) : entryFrame m #[(.int x0), (.int x1)] 2 = mkF m 0 #[.val (.int x0), .val (.int x1)] [] := by first | (simp [entryFrame, mkF, argsToLocals, Value.category]; done) | rfl
set_option maxRecDepth 65536 in
set_option maxHeartbeats 40000000 in
theorem rMax (l : Launch) (Z : State) (aa : Array Value) (hw : ∀ d ∈ tables_1, d.before aa Z = true) (ws : List Jvm.Cond) (i0 : Int32) (i1 : Int32) (h0 : Heap) :
    Rm l Z (⟨"java/lang/Math", "max", "(II)I"⟩ : MethodName) jdk_29_method_65_code 2 (some .int) ws ({ frames := 0, cells := 0, slots := 0, locals := 0 } : Room) #[(.int i0), (.int i1)] h0 (Pu (.int (fMax i0 i1)) h0) := by
  refine Rm.of (Jvm.Free.JP.mathPlain rfl (by decide +kernel)) ?_
  intro p e s m below meth cc T X hnm hret hlk
  refine Go.at_ (ef_rMax m i0 i1) ?_
  refine g_iloadN X d2_0 (pc' := 1) rfl rfl ?_
  refine g_iloadN X d2_1 (pc' := 2) rfl rfl ?_
  by_cases hc2_1 : i0 < i1
  · skip
    refine g_icY X d2_2 (tlt hc2_1).1 (pc' := 9) (by decide) (by decide) ?_
    refine g_iloadN X d2_9 (pc' := 10) rfl rfl ?_
    refine g_ireturn X d2_10 hret hlk (by decide) (by decide) ?_
    exact ⟨congrArg (fun z => some (Value.int z)) (Eq.symm (show fMax i0 i1 = _ from (Eq.trans (if_pos hc2_1) rfl))), rfl, rfl⟩
  · skip
    refine g_icN X d2_2 (flt hc2_1).1 (pc' := 5) rfl ?_
    refine g_iloadN X d2_5 (pc' := 6) rfl rfl ?_
    refine g_goto X d2_6 (pc' := 10) (by decide) (by decide) ?_
    refine g_ireturn X d2_10 hret hlk (by decide) (by decide) ?_
    exact ⟨congrArg (fun z => some (Value.int z)) (Eq.symm (show fMax i0 i1 = _ from (Eq.trans (if_neg hc2_1) rfl))), rfl, rfl⟩
theorem pn_0 : plainName "com/example/pathlattice/pathlattice/graph/StringsHashPinLaw" = true := by first | (simp [plainName, overriddenIn]; done) | decide +kernel
theorem d3_0 : decode method_2_code 0 = .ok (.lload_n 0, 1) := by decide +kernel
theorem d3_1 : decode method_2_code 1 = .ok (.iload_n 2, 1) := by decide +kernel
theorem d3_2 : decode method_2_code 2 = .ok (.i2l, 1) := by decide +kernel
theorem d3_3 : decode method_2_code 3 = .ok (.ldc2_w 7, 3) := by decide +kernel
theorem d3_6 : decode method_2_code 6 = .ok (.land, 1) := by decide +kernel
theorem d3_7 : decode method_2_code 7 = .ok (.lxor, 1) := by decide +kernel
theorem d3_8 : decode method_2_code 8 = .ok (.ldc2_w 9, 3) := by decide +kernel
theorem d3_11 : decode method_2_code 11 = .ok (.lmul, 1) := by decide +kernel
theorem d3_12 : decode method_2_code 12 = .ok (.ldc2_w 13, 3) := by decide +kernel
theorem d3_15 : decode method_2_code 15 = .ok (.land, 1) := by decide +kernel
theorem d3_16 : decode method_2_code 16 = .ok (.lreturn, 1) := by decide +kernel
def fStep (j0 : Int64) (i1 : Int32) : Int64 := (((j0 ^^^ ((i1.toInt64) &&& (255 : Int64))) * (16777619 : Int64)) &&& (4294967295 : Int64))
theorem ef_rStep (m : MethodId) (x0 : Int64) (x1 : Int32) : entryFrame m #[(.long x0), (.int x1)] 3 = mkF m 0 #[.val (.long x0), .second, .val (.int x1)] [] := by first | (simp [entryFrame, mkF, argsToLocals, Value.category]; done) | rfl
set_option maxRecDepth 65536 in
set_option maxHeartbeats 40000000 in
theorem rStep (l : Launch) (Z : State) (aa : Array Value) (hw : ∀ d ∈ tables_1, d.before aa Z = true) (ws : List Jvm.Cond) (j0 : Int64) (i1 : Int32) (h0 : Heap) :
    Rm l Z (⟨"com/example/pathlattice/pathlattice/graph/StringsHashPinLaw", "step", "(JB)J"⟩ : MethodName) method_2_code 3 (some .long) ws ({ frames := 0, cells := 0, slots := 0, locals := 0 } : Room) #[(.long j0), (.int i1)] h0 (Pu (.long (fStep j0 i1)) h0) := by
  refine Rm.of (plainFor_of_name pn_0) ?_
  intro p e s m below meth cc T X hnm hret hlk
  refine Go.at_ (ef_rStep m j0 i1) ?_
  refine g_lloadN X d3_0 (pc' := 1) rfl rfl ?_
  refine g_iloadN X d3_1 (pc' := 2) rfl rfl ?_
  refine g_i2l X d3_2 (pc' := 3) rfl ?_
  refine g_ldc2 X (tb hw 14 rfl) d3_3 (pc' := 6) rfl ?_
  refine g_land X d3_6 (pc' := 7) rfl ?_
  refine g_lxor X d3_7 (pc' := 8) rfl ?_
  refine g_ldc2 X (tb hw 15 rfl) d3_8 (pc' := 11) rfl ?_
  refine g_lmul X d3_11 (pc' := 12) rfl ?_
  refine g_ldc2 X (tb hw 16 rfl) d3_12 (pc' := 15) rfl ?_
  refine g_land X d3_15 (pc' := 16) rfl ?_
  refine g_lreturn X d3_16 hret hlk (by decide) (by decide) ?_
  exact ⟨congrArg (fun z => some (Value.long z)) (Eq.symm (show fStep j0 i1 = _ from rfl)), rfl, rfl⟩
theorem d4_0 : decode method_3_code 0 = .ok (.lload_n 0, 1) := by decide +kernel
theorem d4_1 : decode method_3_code 1 = .ok (.lload_n 0, 1) := by decide +kernel
theorem d4_2 : decode method_3_code 2 = .ok (.bipush 16, 2) := by decide +kernel
theorem d4_4 : decode method_3_code 4 = .ok (.lushr, 1) := by decide +kernel
theorem d4_5 : decode method_3_code 5 = .ok (.lxor, 1) := by decide +kernel
theorem d4_6 : decode method_3_code 6 = .ok (.lstore_n 0, 1) := by decide +kernel
theorem d4_7 : decode method_3_code 7 = .ok (.lload_n 0, 1) := by decide +kernel
theorem d4_8 : decode method_3_code 8 = .ok (.ldc2_w 15, 3) := by decide +kernel
theorem d4_11 : decode method_3_code 11 = .ok (.lmul, 1) := by decide +kernel
theorem d4_12 : decode method_3_code 12 = .ok (.ldc2_w 13, 3) := by decide +kernel
theorem d4_15 : decode method_3_code 15 = .ok (.land, 1) := by decide +kernel
theorem d4_16 : decode method_3_code 16 = .ok (.lstore_n 0, 1) := by decide +kernel
theorem d4_17 : decode method_3_code 17 = .ok (.lload_n 0, 1) := by decide +kernel
theorem d4_18 : decode method_3_code 18 = .ok (.lload_n 0, 1) := by decide +kernel
theorem d4_19 : decode method_3_code 19 = .ok (.bipush 13, 2) := by decide +kernel
theorem d4_21 : decode method_3_code 21 = .ok (.lushr, 1) := by decide +kernel
theorem d4_22 : decode method_3_code 22 = .ok (.lxor, 1) := by decide +kernel
theorem d4_23 : decode method_3_code 23 = .ok (.lstore_n 0, 1) := by decide +kernel
theorem d4_24 : decode method_3_code 24 = .ok (.lload_n 0, 1) := by decide +kernel
theorem d4_25 : decode method_3_code 25 = .ok (.ldc2_w 17, 3) := by decide +kernel
theorem d4_28 : decode method_3_code 28 = .ok (.lmul, 1) := by decide +kernel
theorem d4_29 : decode method_3_code 29 = .ok (.ldc2_w 13, 3) := by decide +kernel
theorem d4_32 : decode method_3_code 32 = .ok (.land, 1) := by decide +kernel
theorem d4_33 : decode method_3_code 33 = .ok (.lstore_n 0, 1) := by decide +kernel
theorem d4_34 : decode method_3_code 34 = .ok (.lload_n 0, 1) := by decide +kernel
theorem d4_35 : decode method_3_code 35 = .ok (.lload_n 0, 1) := by decide +kernel
theorem d4_36 : decode method_3_code 36 = .ok (.bipush 16, 2) := by decide +kernel
theorem d4_38 : decode method_3_code 38 = .ok (.lushr, 1) := by decide +kernel
theorem d4_39 : decode method_3_code 39 = .ok (.lxor, 1) := by decide +kernel
theorem d4_40 : decode method_3_code 40 = .ok (.lstore_n 0, 1) := by decide +kernel
theorem d4_41 : decode method_3_code 41 = .ok (.lload_n 0, 1) := by decide +kernel
theorem d4_42 : decode method_3_code 42 = .ok (.l2i, 1) := by decide +kernel
theorem d4_43 : decode method_3_code 43 = .ok (.ireturn, 1) := by decide +kernel
def fMix (j0 : Int64) : Int32 := let v6_1 : Int64 := (j0 ^^^ ((j0.toUInt64 >>> ((16 : Int32) &&& 0x3f).toInt64.toUInt64).toInt64)); let v16_2 : Int64 := ((v6_1 * (2246822507 : Int64)) &&& (4294967295 : Int64)); let v23_3 : Int64 := (v16_2 ^^^ ((v16_2.toUInt64 >>> ((13 : Int32) &&& 0x3f).toInt64.toUInt64).toInt64)); let v33_4 : Int64 := ((v23_3 * (3266489909 : Int64)) &&& (4294967295 : Int64)); let v40_5 : Int64 := (v33_4 ^^^ ((v33_4.toUInt64 >>> ((16 : Int32) &&& 0x3f).toInt64.toUInt64).toInt64)); (v40_5.toInt32)
theorem ef_rMix (m : MethodId) (x0 : Int64) : entryFrame m #[(.long x0)] 2 = mkF m 0 #[.val (.long x0), .second] [] := by first | (simp [entryFrame, mkF, argsToLocals, Value.category]; done) | rfl
set_option maxRecDepth 65536 in
set_option maxHeartbeats 40000000 in
theorem rMix (l : Launch) (Z : State) (aa : Array Value) (hw : ∀ d ∈ tables_1, d.before aa Z = true) (ws : List Jvm.Cond) (j0 : Int64) (h0 : Heap) :
    Rm l Z (⟨"com/example/pathlattice/pathlattice/graph/StringsHashPinLaw", "fmix", "(J)I"⟩ : MethodName) method_3_code 2 (some .int) ws ({ frames := 0, cells := 0, slots := 0, locals := 0 } : Room) #[(.long j0)] h0 (Pu (.int (fMix j0)) h0) := by
  refine Rm.of (plainFor_of_name pn_0) ?_
  intro p e s m below meth cc T X hnm hret hlk
  refine Go.at_ (ef_rMix m j0) ?_
  refine g_lloadN X d4_0 (pc' := 1) rfl rfl ?_
  refine g_lloadN X d4_1 (pc' := 2) rfl rfl ?_
  refine g_bipush X (16 : Int32) d4_2 (pc' := 4) rfl rfl ?_
  refine g_lushr X d4_4 (pc' := 5) rfl ?_
  refine g_lxor X d4_5 (pc' := 6) rfl ?_
  generalize ev6_1 : (j0 ^^^ ((j0.toUInt64 >>> ((16 : Int32) &&& 0x3f).toInt64.toUInt64).toInt64)) = v6_1
  refine g_lstoreN X d4_6 (pc' := 7) (Ls' := #[.val (.long v6_1), .second]) rfl rfl ?_
  refine g_lloadN X d4_7 (pc' := 8) rfl rfl ?_
  refine g_ldc2 X (tb hw 20 rfl) d4_8 (pc' := 11) rfl ?_
  refine g_lmul X d4_11 (pc' := 12) rfl ?_
  refine g_ldc2 X (tb hw 16 rfl) d4_12 (pc' := 15) rfl ?_
  refine g_land X d4_15 (pc' := 16) rfl ?_
  generalize ev16_2 : ((v6_1 * (2246822507 : Int64)) &&& (4294967295 : Int64)) = v16_2
  refine g_lstoreN X d4_16 (pc' := 17) (Ls' := #[.val (.long v16_2), .second]) rfl rfl ?_
  refine g_lloadN X d4_17 (pc' := 18) rfl rfl ?_
  refine g_lloadN X d4_18 (pc' := 19) rfl rfl ?_
  refine g_bipush X (13 : Int32) d4_19 (pc' := 21) rfl rfl ?_
  refine g_lushr X d4_21 (pc' := 22) rfl ?_
  refine g_lxor X d4_22 (pc' := 23) rfl ?_
  generalize ev23_3 : (v16_2 ^^^ ((v16_2.toUInt64 >>> ((13 : Int32) &&& 0x3f).toInt64.toUInt64).toInt64)) = v23_3
  refine g_lstoreN X d4_23 (pc' := 24) (Ls' := #[.val (.long v23_3), .second]) rfl rfl ?_
  refine g_lloadN X d4_24 (pc' := 25) rfl rfl ?_
  refine g_ldc2 X (tb hw 21 rfl) d4_25 (pc' := 28) rfl ?_
  refine g_lmul X d4_28 (pc' := 29) rfl ?_
  refine g_ldc2 X (tb hw 16 rfl) d4_29 (pc' := 32) rfl ?_
  refine g_land X d4_32 (pc' := 33) rfl ?_
  generalize ev33_4 : ((v23_3 * (3266489909 : Int64)) &&& (4294967295 : Int64)) = v33_4
  refine g_lstoreN X d4_33 (pc' := 34) (Ls' := #[.val (.long v33_4), .second]) rfl rfl ?_
  refine g_lloadN X d4_34 (pc' := 35) rfl rfl ?_
  refine g_lloadN X d4_35 (pc' := 36) rfl rfl ?_
  refine g_bipush X (16 : Int32) d4_36 (pc' := 38) rfl rfl ?_
  refine g_lushr X d4_38 (pc' := 39) rfl ?_
  refine g_lxor X d4_39 (pc' := 40) rfl ?_
  generalize ev40_5 : (v33_4 ^^^ ((v33_4.toUInt64 >>> ((16 : Int32) &&& 0x3f).toInt64.toUInt64).toInt64)) = v40_5
  refine g_lstoreN X d4_40 (pc' := 41) (Ls' := #[.val (.long v40_5), .second]) rfl rfl ?_
  refine g_lloadN X d4_41 (pc' := 42) rfl rfl ?_
  refine g_l2i X d4_42 (pc' := 43) rfl ?_
  refine g_ireturn X d4_43 hret hlk (by decide) (by decide) ?_
  subst ev6_1 ev16_2 ev23_3 ev33_4 ev40_5
  exact ⟨congrArg (fun z => some (Value.int z)) (Eq.symm (show fMix j0 = _ from rfl)), rfl, rfl⟩
def stepI (h b : Int32) : Int32 := (h ^^^ (b &&& (255 : Int32))) * (16777619 : Int32)
def runG (st : Int32 → Int32 → Int32) (bt : List Int32) : Nat → Nat → Int32 → Int32
  | _, 0, h => h
  | f, k + 1, h => runG st bt (f + 1) k (st h (bt.getD f 0))
theorem runG_s (st : Int32 → Int32 → Int32) (bt : List Int32) (f k : Nat) (h : Int32) : runG st bt f (k + 1) h = runG st bt (f + 1) k (st h (bt.getD f 0)) := rfl
theorem runG_z (st : Int32 → Int32 → Int32) (bt : List Int32) (f : Nat) (h : Int32) : runG st bt f 0 h = h := rfl
def runI (bt : List Int32) (f k : Nat) (h : Int32) : Int32 := runG stepI bt f k h
def mixI (h0 : Int32) : Int32 :=
  let h1 : Int32 := h0 ^^^ ((h0.toUInt32 >>> ((16 : Int32) &&& 31).toUInt32).toInt32)
  let h2 : Int32 := h1 * (-2048144789 : Int32)
  let h3 : Int32 := h2 ^^^ ((h2.toUInt32 >>> ((13 : Int32) &&& 31).toUInt32).toInt32)
  let h4 : Int32 := h3 * (-1028477387 : Int32)
  h4 ^^^ ((h4.toUInt32 >>> ((16 : Int32) &&& 31).toUInt32).toInt32)
def InvH (bt : List Int32) (to G : Int32) (k : Nat) (h i : Int32) : Prop := 0 ≤ i.toInt ∧ i.toInt + k = to.toInt ∧ to.toInt ≤ bt.length ∧ runI bt i.toInt.toNat k h = G
theorem stepH {bt : List Int32} {to G h h' i : Int32} {k : Nat} (I : InvH bt to G k h i) (q : i < to) (e : (h ^^^ ((bt.getD i.toInt.toNat 0) &&& (255 : Int32))) * (16777619 : Int32) = h') :
    k - 1 < k ∧ ¬ i < 0 ∧ i.toNatClampNeg = i.toInt.toNat ∧ i.toInt.toNat < bt.length ∧ InvH bt to G (k - 1) h' (i + (1 : Int32)) := by
  obtain ⟨q1, q2, q3, q4⟩ := I
  rw [Int32.lt_iff_toInt_lt] at q
  have r := rng32 i; have r2 := rng32 to
  have e1 : (i + (1 : Int32)).toInt = i.toInt + 1 := by rw [Int32.toInt_add]; simp only [Int32.reduceToInt]; exact Int.bmod_eq_of_le (by omega) (by omega)
  refine ⟨by omega, by rw [Int32.lt_iff_toInt_lt]; simp only [Int32.reduceToInt]; omega, rfl, by omega, by omega, by omega, q3, ?_⟩
  obtain ⟨j, rfl⟩ : ∃ j, k = j + 1 := ⟨k - 1, by omega⟩
  rw [e1, show (i.toInt + 1).toNat = i.toInt.toNat + 1 by omega]
  have e' : stepI h (bt.getD i.toInt.toNat 0) = h' := e
  unfold runI at q4 ⊢
  rw [runG_s, e'] at q4
  exact q4
theorem endH {bt : List Int32} {to G h i : Int32} {k : Nat} (I : InvH bt to G k h i) (q : ¬ i < to) : h = G := by
  obtain ⟨q1, q2, q3, q4⟩ := I
  rw [Int32.lt_iff_toInt_lt] at q
  obtain rfl : k = 0 := by omega
  exact q4
theorem lk (bt : List Int32) (n : Nat) (h : n < bt.length) : (bt.map Value.int)[n]? = some (.int (bt.getD n 0)) := by
  rw [List.getElem?_map, List.getD_eq_getElem?_getD, List.getElem?_eq_getElem h]; rfl
theorem pn_1 : plainName "com/example/pathlattice/pathlattice/graph/Strings" = true := by first | (simp [plainName, overriddenIn]; done) | decide +kernel
theorem d5_0 : decode prog_27_method_10_code 0 = .ok (.ldc 130, 2) := by decide +kernel
theorem d5_2 : decode prog_27_method_10_code 2 = .ok (.istore_n 3, 1) := by decide +kernel
theorem d5_3 : decode prog_27_method_10_code 3 = .ok (.iload_n 1, 1) := by decide +kernel
theorem d5_4 : decode prog_27_method_10_code 4 = .ok (.istore 4, 2) := by decide +kernel
theorem d5_6 : decode prog_27_method_10_code 6 = .ok (.iload 4, 2) := by decide +kernel
theorem d5_8 : decode prog_27_method_10_code 8 = .ok (.iload_n 2, 1) := by decide +kernel
theorem d5_9 : decode prog_27_method_10_code 9 = .ok (.if_icmp .ge 23, 3) := by decide +kernel
theorem d5_12 : decode prog_27_method_10_code 12 = .ok (.iload_n 3, 1) := by decide +kernel
theorem d5_13 : decode prog_27_method_10_code 13 = .ok (.aload_n 0, 1) := by decide +kernel
theorem d5_14 : decode prog_27_method_10_code 14 = .ok (.iload 4, 2) := by decide +kernel
theorem d5_16 : decode prog_27_method_10_code 16 = .ok (.baload, 1) := by decide +kernel
theorem d5_17 : decode prog_27_method_10_code 17 = .ok (.sipush 255, 3) := by decide +kernel
theorem d5_20 : decode prog_27_method_10_code 20 = .ok (.iand, 1) := by decide +kernel
theorem d5_21 : decode prog_27_method_10_code 21 = .ok (.ixor, 1) := by decide +kernel
theorem d5_22 : decode prog_27_method_10_code 22 = .ok (.ldc 131, 2) := by decide +kernel
theorem d5_24 : decode prog_27_method_10_code 24 = .ok (.imul, 1) := by decide +kernel
theorem d5_25 : decode prog_27_method_10_code 25 = .ok (.istore_n 3, 1) := by decide +kernel
theorem d5_26 : decode prog_27_method_10_code 26 = .ok (.iinc 4 1, 3) := by decide +kernel
theorem d5_29 : decode prog_27_method_10_code 29 = .ok (.goto (-23), 3) := by decide +kernel
theorem d5_32 : decode prog_27_method_10_code 32 = .ok (.iload_n 3, 1) := by decide +kernel
theorem d5_33 : decode prog_27_method_10_code 33 = .ok (.iload_n 3, 1) := by decide +kernel
theorem d5_34 : decode prog_27_method_10_code 34 = .ok (.bipush 16, 2) := by decide +kernel
theorem d5_36 : decode prog_27_method_10_code 36 = .ok (.iushr, 1) := by decide +kernel
theorem d5_37 : decode prog_27_method_10_code 37 = .ok (.ixor, 1) := by decide +kernel
theorem d5_38 : decode prog_27_method_10_code 38 = .ok (.istore_n 3, 1) := by decide +kernel
theorem d5_39 : decode prog_27_method_10_code 39 = .ok (.iload_n 3, 1) := by decide +kernel
theorem d5_40 : decode prog_27_method_10_code 40 = .ok (.ldc 132, 2) := by decide +kernel
theorem d5_42 : decode prog_27_method_10_code 42 = .ok (.imul, 1) := by decide +kernel
theorem d5_43 : decode prog_27_method_10_code 43 = .ok (.istore_n 3, 1) := by decide +kernel
theorem d5_44 : decode prog_27_method_10_code 44 = .ok (.iload_n 3, 1) := by decide +kernel
theorem d5_45 : decode prog_27_method_10_code 45 = .ok (.iload_n 3, 1) := by decide +kernel
theorem d5_46 : decode prog_27_method_10_code 46 = .ok (.bipush 13, 2) := by decide +kernel
theorem d5_48 : decode prog_27_method_10_code 48 = .ok (.iushr, 1) := by decide +kernel
theorem d5_49 : decode prog_27_method_10_code 49 = .ok (.ixor, 1) := by decide +kernel
theorem d5_50 : decode prog_27_method_10_code 50 = .ok (.istore_n 3, 1) := by decide +kernel
theorem d5_51 : decode prog_27_method_10_code 51 = .ok (.iload_n 3, 1) := by decide +kernel
theorem d5_52 : decode prog_27_method_10_code 52 = .ok (.ldc 133, 2) := by decide +kernel
theorem d5_54 : decode prog_27_method_10_code 54 = .ok (.imul, 1) := by decide +kernel
theorem d5_55 : decode prog_27_method_10_code 55 = .ok (.istore_n 3, 1) := by decide +kernel
theorem d5_56 : decode prog_27_method_10_code 56 = .ok (.iload_n 3, 1) := by decide +kernel
theorem d5_57 : decode prog_27_method_10_code 57 = .ok (.iload_n 3, 1) := by decide +kernel
theorem d5_58 : decode prog_27_method_10_code 58 = .ok (.bipush 16, 2) := by decide +kernel
theorem d5_60 : decode prog_27_method_10_code 60 = .ok (.iushr, 1) := by decide +kernel
theorem d5_61 : decode prog_27_method_10_code 61 = .ok (.ixor, 1) := by decide +kernel
theorem d5_62 : decode prog_27_method_10_code 62 = .ok (.ireturn, 1) := by decide +kernel
theorem ef_rHash (m : MethodId) (x0 : Addr) (x1 : Int32) (x2 : Int32) : entryFrame m #[(.ref x0), (.int x1), (.int x2)] 5 = mkF m 0 #[.val (.ref x0), .val (.int x1), .val (.int x2), .unset, .unset] [] := by first | (simp [entryFrame, mkF, argsToLocals, Value.category]; done) | rfl
set_option maxRecDepth 65536 in
set_option maxHeartbeats 40000000 in
theorem rHash (l : Launch) (Z : State) (aa : Array Value) (hw : ∀ d ∈ tables_1, d.before aa Z = true) (ws : List Jvm.Cond) (a0 : Addr) (i1 : Int32) (i2 : Int32) (bt : List Int32) (k0 : Nat) (h0 : Heap) (V_a0 : Av Z h0 a0 .byte (bt.map Value.int)) (p1 : 0 ≤ i1.toInt) (p2 : i1.toInt + k0 = i2.toInt) (p3 : i2.toInt ≤ bt.length) :
    Rm l Z (⟨"com/example/pathlattice/pathlattice/graph/Strings", "hash", "([BII)I"⟩ : MethodName) prog_27_method_10_code 5 (some .int) ws ({ frames := 0, cells := 0, slots := 0, locals := 0 } : Room) #[(.ref a0), (.int i1), (.int i2)] h0 (Pu (.int (mixI (runI bt i1.toInt.toNat k0 (-2128831035 : Int32)))) h0) := by
  refine Rm.of (plainFor_of_name pn_1) ?_
  intro p e s m below meth cc T X hnm hret hlk
  refine Go.at_ (ef_rHash m a0 i1 i2) ?_
  refine g_ldc X (tb hw 26 rfl) d5_0 (pc' := 2) rfl ?_
  refine g_istoreN X d5_2 (pc' := 3) (Ls' := #[.val (.ref a0), .val (.int i1), .val (.int i2), .val (.int (-2128831035 : Int32)), .unset]) rfl rfl ?_
  refine g_iloadN X d5_3 (pc' := 4) rfl rfl ?_
  refine g_istore X d5_4 (pc' := 6) (Ls' := #[.val (.ref a0), .val (.int i1), .val (.int i2), .val (.int (-2128831035 : Int32)), .val (.int i1)]) rfl rfl ?_
  refine loopP X (α := Nat × Int32 × Int32) (fun a => mkF m 6 #[.val (.ref a0), .val (.int i1), .val (.int i2), .val (.int a.2.1), .val (.int a.2.2)] []) (fun a => InvH bt i2 (runI bt i1.toInt.toNat k0 (-2128831035 : Int32)) a.1 a.2.1 a.2.2) (fun a => a.1) ?_ (k0, (-2128831035 : Int32), i1) ⟨p1, p2, p3, rfl⟩
  clear X
  intro a T X I0 ih
  obtain ⟨k, hh, i⟩ := a
  replace I0 : InvH bt i2 (runI bt i1.toInt.toNat k0 (-2128831035 : Int32)) k hh i := I0
  show Go p e below _ (T.setTop (mkF m 6 #[.val (.ref a0), .val (.int i1), .val (.int i2), .val (.int hh), .val (.int i)] []))
  refine g_iload X d5_6 (pc' := 8) rfl rfl ?_
  refine g_iloadN X d5_8 (pc' := 9) rfl rfl ?_
  by_cases hc9_1 : i < i2
  · skip
    refine g_icN X d5_9 (tlt hc9_1).2.1 (pc' := 12) rfl ?_
    refine g_iloadN X d5_12 (pc' := 13) rfl rfl ?_
    refine g_aloadN X d5_13 (pc' := 14) rfl rfl rfl ?_
    refine g_iload X d5_14 (pc' := 16) rfl rfl ?_
    refine g_baload X V_a0 i.toInt.toNat d5_16 (pc' := 17) rfl (stepH I0 hc9_1 rfl).2.1 rfl (lk bt _ (stepH I0 hc9_1 rfl).2.2.2.1) ?_
    refine g_sipush X (255 : Int32) d5_17 (pc' := 20) rfl rfl ?_
    refine g_iand X d5_20 (pc' := 21) rfl ?_
    refine g_ixor X d5_21 (pc' := 22) rfl ?_
    refine g_ldc X (tb hw 27 rfl) d5_22 (pc' := 24) rfl ?_
    refine g_imul X d5_24 (pc' := 25) rfl ?_
    generalize ev25_2 : ((hh ^^^ ((bt.getD i.toInt.toNat 0) &&& (255 : Int32))) * (16777619 : Int32)) = v25_2
    refine g_istoreN X d5_25 (pc' := 26) (Ls' := #[.val (.ref a0), .val (.int i1), .val (.int i2), .val (.int v25_2), .val (.int i)]) rfl rfl ?_
    refine g_iinc X d5_26 (pc' := 29) (q := (1 : Int32)) (Ls' := #[.val (.ref a0), .val (.int i1), .val (.int i2), .val (.int v25_2), .val (.int (i + (1 : Int32)))]) rfl rfl rfl rfl ?_
    refine g_goto X d5_29 (pc' := 6) (by decide) (by decide) ?_
    have S := stepH I0 hc9_1 ev25_2
    exact ih (k - 1, v25_2, (i + (1 : Int32))) T S.1 X S.2.2.2.2
  · skip
    refine g_icY X d5_9 (flt hc9_1).2.1 (pc' := 32) (by decide) (by decide) ?_
    refine g_iloadN X d5_32 (pc' := 33) rfl rfl ?_
    refine g_iloadN X d5_33 (pc' := 34) rfl rfl ?_
    refine g_bipush X (16 : Int32) d5_34 (pc' := 36) rfl rfl ?_
    refine g_iushr X d5_36 (pc' := 37) rfl ?_
    refine g_ixor X d5_37 (pc' := 38) rfl ?_
    generalize ev38_3 : (hh ^^^ ((hh.toUInt32 >>> ((16 : Int32) &&& 31).toUInt32).toInt32)) = v38_3
    refine g_istoreN X d5_38 (pc' := 39) (Ls' := #[.val (.ref a0), .val (.int i1), .val (.int i2), .val (.int v38_3), .val (.int i)]) rfl rfl ?_
    refine g_iloadN X d5_39 (pc' := 40) rfl rfl ?_
    refine g_ldc X (tb hw 28 rfl) d5_40 (pc' := 42) rfl ?_
    refine g_imul X d5_42 (pc' := 43) rfl ?_
    generalize ev43_4 : (v38_3 * (-2048144789 : Int32)) = v43_4
    refine g_istoreN X d5_43 (pc' := 44) (Ls' := #[.val (.ref a0), .val (.int i1), .val (.int i2), .val (.int v43_4), .val (.int i)]) rfl rfl ?_
    refine g_iloadN X d5_44 (pc' := 45) rfl rfl ?_
    refine g_iloadN X d5_45 (pc' := 46) rfl rfl ?_
    refine g_bipush X (13 : Int32) d5_46 (pc' := 48) rfl rfl ?_
    refine g_iushr X d5_48 (pc' := 49) rfl ?_
    refine g_ixor X d5_49 (pc' := 50) rfl ?_
    generalize ev50_5 : (v43_4 ^^^ ((v43_4.toUInt32 >>> ((13 : Int32) &&& 31).toUInt32).toInt32)) = v50_5
    refine g_istoreN X d5_50 (pc' := 51) (Ls' := #[.val (.ref a0), .val (.int i1), .val (.int i2), .val (.int v50_5), .val (.int i)]) rfl rfl ?_
    refine g_iloadN X d5_51 (pc' := 52) rfl rfl ?_
    refine g_ldc X (tb hw 29 rfl) d5_52 (pc' := 54) rfl ?_
    refine g_imul X d5_54 (pc' := 55) rfl ?_
    generalize ev55_6 : (v50_5 * (-1028477387 : Int32)) = v55_6
    refine g_istoreN X d5_55 (pc' := 56) (Ls' := #[.val (.ref a0), .val (.int i1), .val (.int i2), .val (.int v55_6), .val (.int i)]) rfl rfl ?_
    refine g_iloadN X d5_56 (pc' := 57) rfl rfl ?_
    refine g_iloadN X d5_57 (pc' := 58) rfl rfl ?_
    refine g_bipush X (16 : Int32) d5_58 (pc' := 60) rfl rfl ?_
    refine g_iushr X d5_60 (pc' := 61) rfl ?_
    refine g_ixor X d5_61 (pc' := 62) rfl ?_
    refine g_ireturn X d5_62 hret hlk (by decide) (by decide) ?_
    have q := endH I0 hc9_1
    subst ev38_3 ev43_4 ev50_5 ev55_6
    rw [q]
    exact ⟨rfl, rfl, rfl⟩
theorem and255 (b : Int32) : (b.toInt64 &&& (255 : Int64)).toBitVec.toNat = (b &&& (255 : Int32)).toBitVec.toNat := by
  have p : (b &&& (255 : Int32)).toInt = b.toInt % 256 := c_mask b 255 8 (by decide) (by decide)
  have q := c_maskL b.toInt64 255 8 (by decide) (by decide)
  rw [Int32.toInt_toInt64] at q
  change (b.toInt64 &&& (255 : Int64)).toBitVec.toInt = _ at q
  change (b &&& (255 : Int32)).toBitVec.toInt = _ at p
  have l1 := (b.toInt64 &&& (255 : Int64)).toBitVec.isLt
  have l2 := (b &&& (255 : Int32)).toBitVec.isLt
  rw [BitVec.toInt_eq_toNat_cond] at p q
  simp only [Nat.reducePow] at q p l1 l2
  split at p <;> split at q <;> omega
theorem mulmask (h k : Int32) (H K : Int64) (r : H.toBitVec.toNat = h.toBitVec.toNat) (rk : K.toBitVec.toNat = k.toBitVec.toNat) : ((H * K) &&& (4294967295 : Int64)).toBitVec.toNat = (h * k).toBitVec.toNat := by
  rw [Int64.toBitVec_and, Int64.toBitVec_mul, Int32.toBitVec_mul, BitVec.toNat_and, BitVec.toNat_mul, BitVec.toNat_mul, r, rk]
  show _ &&& (2 ^ 32 - 1) = _
  rw [Nat.and_two_pow_sub_one_eq_mod]
  exact Nat.mod_mod_of_dvd _ (by decide)
theorem R_step {h b : Int32} {H : Int64} (r : H.toBitVec.toNat = h.toBitVec.toNat) : (fStep H b).toBitVec.toNat = (stepI h b).toBitVec.toNat := by
  unfold fStep stepI
  refine mulmask _ _ _ _ ?_ (by decide)
  rw [Int64.toBitVec_xor, Int32.toBitVec_xor, BitVec.toNat_xor, BitVec.toNat_xor, r, and255]
theorem R_sh {h : Int32} {H : Int64} (q : Int32) (n : Nat) (h1 : (q &&& 0x3f).toInt64.toUInt64.toBitVec % 64 = BitVec.ofNat 64 n) (h2 : (q &&& 31).toUInt32.toBitVec % 32 = BitVec.ofNat 32 n) (hn : n < 32) (r : H.toBitVec.toNat = h.toBitVec.toNat) : (H ^^^ ((H.toUInt64 >>> (q &&& 0x3f).toInt64.toUInt64).toInt64)).toBitVec.toNat = (h ^^^ ((h.toUInt32 >>> (q &&& 31).toUInt32).toInt32)).toBitVec.toNat := by
  have a : ((H.toUInt64 >>> (q &&& 0x3f).toInt64.toUInt64).toInt64).toBitVec = H.toBitVec >>> n := by
    show H.toBitVec >>> ((q &&& 0x3f).toInt64.toUInt64.toBitVec % 64) = _
    rw [h1]
    show H.toBitVec >>> (BitVec.ofNat 64 n).toNat = _
    rw [BitVec.toNat_ofNat, Nat.mod_eq_of_lt (by omega)]
  have b : ((h.toUInt32 >>> (q &&& 31).toUInt32).toInt32).toBitVec = h.toBitVec >>> n := by
    show h.toBitVec >>> ((q &&& 31).toUInt32.toBitVec % 32) = _
    rw [h2]
    show h.toBitVec >>> (BitVec.ofNat 32 n).toNat = _
    rw [BitVec.toNat_ofNat, Nat.mod_eq_of_lt (by omega)]
  rw [Int64.toBitVec_xor, Int32.toBitVec_xor, a, b, BitVec.toNat_xor, BitVec.toNat_xor, BitVec.toNat_ushiftRight, BitVec.toNat_ushiftRight, r]
theorem R_mix {h : Int32} {H : Int64} (r : H.toBitVec.toNat = h.toBitVec.toNat) : fMix H = mixI h := by
  apply Int32.toBitVec_inj.mp
  apply BitVec.eq_of_toNat_eq
  have a := R_sh 16 16 (by decide) (by decide) (by decide) r
  have b := mulmask _ (-2048144789 : Int32) _ (2246822507 : Int64) a (by decide)
  have d := R_sh 13 13 (by decide) (by decide) (by decide) b
  have e := mulmask _ (-1028477387 : Int32) _ (3266489909 : Int64) d (by decide)
  have f := R_sh 16 16 (by decide) (by decide) (by decide) e
  unfold fMix mixI
  dsimp only
  rw [Int64.toBitVec_toInt32, BitVec.signExtend_eq_setWidth_of_le _ (by decide), BitVec.toNat_setWidth, f]
  exact Nat.mod_eq_of_lt (BitVec.isLt _)
theorem r7 {x i : Int32} (e : (x &&& 2147483647) % 7 = i) : 0 ≤ i.toInt ∧ i.toInt ≤ 6 := by
  have q : (x &&& 2147483647).toInt = x.toInt % 2147483648 := c_mask x 2147483647 31 (by decide) (by decide)
  have r := (c_irem (x &&& 2147483647) 7 7 rfl).1 (by omega)
  rw [e] at r; omega
theorem span {x y fr to len : Int32} (hx : 0 ≤ x.toInt ∧ x.toInt ≤ 6) (hy : 0 ≤ y.toInt ∧ y.toInt ≤ 6) (e1 : fMin x y = fr) (e2 : fMax x y = to) (e3 : to - fr = len) : 0 ≤ fr.toInt ∧ fr.toInt + len.toInt = to.toInt ∧ to.toInt ≤ 6 ∧ 0 ≤ len.toInt := by
  have k1 : fr.toInt ≤ to.toInt ∧ 0 ≤ fr.toInt ∧ to.toInt ≤ 6 := by
    subst e1; subst e2
    simp only [fMin, fMax, Int32.lt_iff_toInt_lt]
    repeat' split
    all_goals omega
  have e : len.toInt = to.toInt - fr.toInt := by rw [← e3, Int32.toInt_sub]; exact Int.bmod_eq_of_le (by omega) (by omega)
  omega
theorem ltmono {a b x : Int32} (h : ¬ a < x) (q : a.toInt ≤ b.toInt) : ¬ b < x := by
  rw [Int32.lt_iff_toInt_lt] at h ⊢; omega
theorem at_later {fr to len k : Int32} (n : Nat) (B : 0 ≤ fr.toInt ∧ fr.toInt + len.toInt = to.toInt ∧ to.toInt ≤ 6 ∧ 0 ≤ len.toInt) (hk : k.toInt = n) (h : k < len) : ¬ (fr + k) < 0 ∧ (fr + k).toNatClampNeg = fr.toInt.toNat + n ∧ fr.toInt.toNat + n < 6 := by
  rw [Int32.lt_iff_toInt_lt] at h
  have e : (fr + k).toInt = fr.toInt + k.toInt := by rw [Int32.toInt_add]; exact Int.bmod_eq_of_le (by omega) (by omega)
  rw [Int32.lt_iff_toInt_lt]; simp only [Int32.toNatClampNeg, e, Int32.reduceToInt]; omega
theorem at_first {fr to len : Int32} (B : 0 ≤ fr.toInt ∧ fr.toInt + len.toInt = to.toInt ∧ to.toInt ≤ 6 ∧ 0 ≤ len.toInt) (h : 0 < len) : ¬ fr < 0 ∧ fr.toNatClampNeg = fr.toInt.toNat ∧ fr.toInt.toNat < 6 := by
  rw [Int32.lt_iff_toInt_lt] at h ⊢
  simp only [Int32.reduceToInt] at h ⊢
  exact ⟨by omega, rfl, by omega⟩
theorem kk_is {len a b : Int32} {kk n : Nat} (hk : len.toInt = kk) (h1 : a < len) (h2 : ¬ b < len) (ha : a.toInt + 1 = n) (hb : b.toInt = n) : kk = n := by
  rw [Int32.lt_iff_toInt_lt] at h1 h2; omega
theorem R_init : (2166136261 : Int64).toBitVec.toNat = (-2128831035 : Int32).toBitVec.toNat := by decide
theorem pd_0 : parseMethodDescriptor "(II)I" = some ⟨[.int, .int], some .int⟩ := by decide +kernel
theorem pd_1 : parseMethodDescriptor "(JB)J" = some ⟨[.long, .byte], some .long⟩ := by decide +kernel
theorem pd_2 : parseMethodDescriptor "(J)I" = some ⟨[.long], some .int⟩ := by decide +kernel
theorem pd_3 : parseMethodDescriptor "([BII)I" = some ⟨[(.array .byte), .int, .int], some .int⟩ := by decide +kernel
theorem ef_rLaw (m : MethodId) (x0 : Int32) (x1 : Int32) (x2 : Int32) (x3 : Int32) : entryFrame m #[(.int x0), (.int x1), (.int x2), (.int x3)] maxLocals = mkF m 0 #[.val (.int x0), .val (.int x1), .val (.int x2), .val (.int x3), .unset, .unset, .unset, .unset, .unset, .unset, .unset, .unset, .unset] [] := by first | (simp [entryFrame, mkF, argsToLocals, Value.category, maxLocals]; done) | rfl
set_option maxRecDepth 65536 in
set_option maxHeartbeats 40000000 in
theorem rLaw (l : Launch) (Z : State) (aa : Array Value) (hw : ∀ d ∈ tables_1, d.before aa Z = true) (ws : List Jvm.Cond) (i0 : Int32) (i1 : Int32) (i2 : Int32) (i3 : Int32) (h0 : Heap) (n0 : Nat) (Z0 : n0 ≤ h0.size) :
    Rm l Z x code maxLocals ret ws room_1 #[(.int i0), (.int i1), (.int i2), (.int i3)] h0 (fun v h L => v = some (.int 1) ∧ Fr n0 L) := by
  refine Rm.of (plainFor_of_name pn_0) ?_
  intro p e s m below meth cc T X hnm hret hlk
  refine Go.at_ (ef_rLaw m i0 i1 i2 i3) ?_
  have N := Fr.nil n0
  refine g_bipush X (6 : Int32) at_0 (pc' := 2) rfl rfl ?_
  refine g_newarray X 6 (tb hw 0 rfl) at_2 (pc' := 4) rfl (by decide) (by decide) 6 (by decide) (by decide) (by decide) (by decide) (vs := [(.int (0 : Int32)), (.int (0 : Int32)), (.int (0 : Int32)), (.int (0 : Int32)), (.int (0 : Int32)), (.int (0 : Int32))]) rfl (ad := "[B") (by decide) ?_
  intro T h b2_1 s_b2_1 X Ex E_b2_1 V_b2_1
  have g_b2_1 : n0 ≤ b2_1 := by rw [s_b2_1]; exact Z0
  replace Z0 := Nat.le_trans Z0 Ex.1
  refine g_astore X at_4 (pc' := 6) (Ls' := #[.val (.int i0), .val (.int i1), .val (.int i2), .val (.int i3), .val (.ref b2_1), .unset, .unset, .unset, .unset, .unset, .unset, .unset, .unset]) rfl rfl rfl ?_
  refine g_aload X at_6 (pc' := 8) rfl rfl rfl ?_
  refine g_iconst X (0 : Int32) at_8 (pc' := 9) rfl rfl ?_
  refine g_iloadN X at_9 (pc' := 10) rfl rfl ?_
  refine g_i2b X at_10 (pc' := 11) rfl ?_
  generalize ev11_2 : (i0.toInt8.toInt32) = v11_2
  refine g_bastore X V_b2_1 0 at_11 (pc' := 12) rfl (by decide) (by decide) (Nat.le_of_ble_eq_true rfl) ?_
  intro T h X W V_b2_1
  replace V_b2_1 : Av Z h b2_1 .byte [(.int (nar .byte v11_2)), (.int (0 : Int32)), (.int (0 : Int32)), (.int (0 : Int32)), (.int (0 : Int32)), (.int (0 : Int32))] := V_b2_1
  replace E_b2_1 := E_b2_1.wr W
  replace Z0 := Nat.le_trans Z0 (Nat.le_of_eq W.size.symm)
  replace N := Fr.snoc X.1 N g_b2_1
  refine g_aload X at_12 (pc' := 14) rfl rfl rfl ?_
  refine g_iconst X (1 : Int32) at_14 (pc' := 15) rfl rfl ?_
  refine g_iloadN X at_15 (pc' := 16) rfl rfl ?_
  refine g_bipush X (8 : Int32) at_16 (pc' := 18) rfl rfl ?_
  refine g_iushr X at_18 (pc' := 19) rfl ?_
  refine g_i2b X at_19 (pc' := 20) rfl ?_
  generalize ev20_3 : (((i0.toUInt32 >>> ((8 : Int32) &&& 31).toUInt32).toInt32).toInt8.toInt32) = v20_3
  refine g_bastore X V_b2_1 1 at_20 (pc' := 21) rfl (by decide) (by decide) (Nat.le_of_ble_eq_true rfl) ?_
  intro T h X W V_b2_1
  replace V_b2_1 : Av Z h b2_1 .byte [(.int (nar .byte v11_2)), (.int (nar .byte v20_3)), (.int (0 : Int32)), (.int (0 : Int32)), (.int (0 : Int32)), (.int (0 : Int32))] := V_b2_1
  replace E_b2_1 := E_b2_1.wr W
  replace Z0 := Nat.le_trans Z0 (Nat.le_of_eq W.size.symm)
  replace N := Fr.snoc X.1 N g_b2_1
  refine g_aload X at_21 (pc' := 23) rfl rfl rfl ?_
  refine g_iconst X (2 : Int32) at_23 (pc' := 24) rfl rfl ?_
  refine g_iloadN X at_24 (pc' := 25) rfl rfl ?_
  refine g_bipush X (16 : Int32) at_25 (pc' := 27) rfl rfl ?_
  refine g_iushr X at_27 (pc' := 28) rfl ?_
  refine g_i2b X at_28 (pc' := 29) rfl ?_
  generalize ev29_4 : (((i0.toUInt32 >>> ((16 : Int32) &&& 31).toUInt32).toInt32).toInt8.toInt32) = v29_4
  refine g_bastore X V_b2_1 2 at_29 (pc' := 30) rfl (by decide) (by decide) (Nat.le_of_ble_eq_true rfl) ?_
  intro T h X W V_b2_1
  replace V_b2_1 : Av Z h b2_1 .byte [(.int (nar .byte v11_2)), (.int (nar .byte v20_3)), (.int (nar .byte v29_4)), (.int (0 : Int32)), (.int (0 : Int32)), (.int (0 : Int32))] := V_b2_1
  replace E_b2_1 := E_b2_1.wr W
  replace Z0 := Nat.le_trans Z0 (Nat.le_of_eq W.size.symm)
  replace N := Fr.snoc X.1 N g_b2_1
  refine g_aload X at_30 (pc' := 32) rfl rfl rfl ?_
  refine g_iconst X (3 : Int32) at_32 (pc' := 33) rfl rfl ?_
  refine g_iloadN X at_33 (pc' := 34) rfl rfl ?_
  refine g_bipush X (24 : Int32) at_34 (pc' := 36) rfl rfl ?_
  refine g_iushr X at_36 (pc' := 37) rfl ?_
  refine g_i2b X at_37 (pc' := 38) rfl ?_
  generalize ev38_5 : (((i0.toUInt32 >>> ((24 : Int32) &&& 31).toUInt32).toInt32).toInt8.toInt32) = v38_5
  refine g_bastore X V_b2_1 3 at_38 (pc' := 39) rfl (by decide) (by decide) (Nat.le_of_ble_eq_true rfl) ?_
  intro T h X W V_b2_1
  replace V_b2_1 : Av Z h b2_1 .byte [(.int (nar .byte v11_2)), (.int (nar .byte v20_3)), (.int (nar .byte v29_4)), (.int (nar .byte v38_5)), (.int (0 : Int32)), (.int (0 : Int32))] := V_b2_1
  replace E_b2_1 := E_b2_1.wr W
  replace Z0 := Nat.le_trans Z0 (Nat.le_of_eq W.size.symm)
  replace N := Fr.snoc X.1 N g_b2_1
  refine g_aload X at_39 (pc' := 41) rfl rfl rfl ?_
  refine g_iconst X (4 : Int32) at_41 (pc' := 42) rfl rfl ?_
  refine g_iloadN X at_42 (pc' := 43) rfl rfl ?_
  refine g_i2b X at_43 (pc' := 44) rfl ?_
  generalize ev44_6 : (i1.toInt8.toInt32) = v44_6
  refine g_bastore X V_b2_1 4 at_44 (pc' := 45) rfl (by decide) (by decide) (Nat.le_of_ble_eq_true rfl) ?_
  intro T h X W V_b2_1
  replace V_b2_1 : Av Z h b2_1 .byte [(.int (nar .byte v11_2)), (.int (nar .byte v20_3)), (.int (nar .byte v29_4)), (.int (nar .byte v38_5)), (.int (nar .byte v44_6)), (.int (0 : Int32))] := V_b2_1
  replace E_b2_1 := E_b2_1.wr W
  replace Z0 := Nat.le_trans Z0 (Nat.le_of_eq W.size.symm)
  replace N := Fr.snoc X.1 N g_b2_1
  refine g_aload X at_45 (pc' := 47) rfl rfl rfl ?_
  refine g_iconst X (5 : Int32) at_47 (pc' := 48) rfl rfl ?_
  refine g_iloadN X at_48 (pc' := 49) rfl rfl ?_
  refine g_bipush X (8 : Int32) at_49 (pc' := 51) rfl rfl ?_
  refine g_iushr X at_51 (pc' := 52) rfl ?_
  refine g_i2b X at_52 (pc' := 53) rfl ?_
  generalize ev53_7 : (((i1.toUInt32 >>> ((8 : Int32) &&& 31).toUInt32).toInt32).toInt8.toInt32) = v53_7
  refine g_bastore X V_b2_1 5 at_53 (pc' := 54) rfl (by decide) (by decide) (Nat.le_of_ble_eq_true rfl) ?_
  intro T h X W V_b2_1
  replace V_b2_1 : Av Z h b2_1 .byte [(.int (nar .byte v11_2)), (.int (nar .byte v20_3)), (.int (nar .byte v29_4)), (.int (nar .byte v38_5)), (.int (nar .byte v44_6)), (.int (nar .byte v53_7))] := V_b2_1
  replace E_b2_1 := E_b2_1.wr W
  replace Z0 := Nat.le_trans Z0 (Nat.le_of_eq W.size.symm)
  replace N := Fr.snoc X.1 N g_b2_1
  refine g_iloadN X at_54 (pc' := 55) rfl rfl ?_
  refine g_ldc X (tb hw 1 rfl) at_55 (pc' := 57) rfl ?_
  refine g_iand X at_57 (pc' := 58) rfl ?_
  refine g_bipush X (7 : Int32) at_58 (pc' := 60) rfl rfl ?_
  refine g_irem X at_60 (pc' := 61) rfl (by decide) ?_
  generalize ev61_8 : ((i2 &&& (2147483647 : Int32)) % (7 : Int32)) = v61_8
  refine g_istore X at_61 (pc' := 63) (Ls' := #[.val (.int i0), .val (.int i1), .val (.int i2), .val (.int i3), .val (.ref b2_1), .val (.int v61_8), .unset, .unset, .unset, .unset, .unset, .unset, .unset]) rfl rfl ?_
  refine g_iloadN X at_63 (pc' := 64) rfl rfl ?_
  refine g_ldc X (tb hw 1 rfl) at_64 (pc' := 66) rfl ?_
  refine g_iand X at_66 (pc' := 67) rfl ?_
  refine g_bipush X (7 : Int32) at_67 (pc' := 69) rfl rfl ?_
  refine g_irem X at_69 (pc' := 70) rfl (by decide) ?_
  generalize ev70_9 : ((i3 &&& (2147483647 : Int32)) % (7 : Int32)) = v70_9
  refine g_istore X at_70 (pc' := 72) (Ls' := #[.val (.int i0), .val (.int i1), .val (.int i2), .val (.int i3), .val (.ref b2_1), .val (.int v61_8), .val (.int v70_9), .unset, .unset, .unset, .unset, .unset, .unset]) rfl rfl ?_
  refine g_iload X at_72 (pc' := 74) rfl rfl ?_
  refine g_iload X at_74 (pc' := 76) rfl rfl ?_
  refine g_static X (W := 0) [(.int v61_8), (.int v70_9)] [] (tb hw 2 rfl) (tb hw 3 rfl) (tb hw 4 rfl) (tb hw 5 rfl) (rMin l Z aa hw [] v61_8 v70_9 _) at_76 (pc' := 79) rfl (by decide) (by decide) (by decide) rfl rfl rfl (lenOf pd_0 rfl) (Nat.le_refl _) (by decide) (by decide) ?_
  intro v T L X q
  obtain ⟨rfl, X⟩ := pureX X q
  show Go p e below _ (T.setTop (mkF m 79 #[.val (.int i0), .val (.int i1), .val (.int i2), .val (.int i3), .val (.ref b2_1), .val (.int v61_8), .val (.int v70_9), .unset, .unset, .unset, .unset, .unset, .unset] [(.int (fMin v61_8 v70_9))]))
  generalize ev79_10 : (fMin v61_8 v70_9) = v79_10
  refine g_istore X at_79 (pc' := 81) (Ls' := #[.val (.int i0), .val (.int i1), .val (.int i2), .val (.int i3), .val (.ref b2_1), .val (.int v61_8), .val (.int v70_9), .val (.int v79_10), .unset, .unset, .unset, .unset, .unset]) rfl rfl ?_
  refine g_iload X at_81 (pc' := 83) rfl rfl ?_
  refine g_iload X at_83 (pc' := 85) rfl rfl ?_
  refine g_static X (W := 0) [(.int v61_8), (.int v70_9)] [] (tb hw 6 rfl) (tb hw 7 rfl) (tb hw 4 rfl) (tb hw 8 rfl) (rMax l Z aa hw [] v61_8 v70_9 _) at_85 (pc' := 88) rfl (by decide) (by decide) (by decide) rfl rfl rfl (lenOf pd_0 rfl) (Nat.le_refl _) (by decide) (by decide) ?_
  intro v T L X q
  obtain ⟨rfl, X⟩ := pureX X q
  show Go p e below _ (T.setTop (mkF m 88 #[.val (.int i0), .val (.int i1), .val (.int i2), .val (.int i3), .val (.ref b2_1), .val (.int v61_8), .val (.int v70_9), .val (.int v79_10), .unset, .unset, .unset, .unset, .unset] [(.int (fMax v61_8 v70_9))]))
  generalize ev88_11 : (fMax v61_8 v70_9) = v88_11
  refine g_istore X at_88 (pc' := 90) (Ls' := #[.val (.int i0), .val (.int i1), .val (.int i2), .val (.int i3), .val (.ref b2_1), .val (.int v61_8), .val (.int v70_9), .val (.int v79_10), .val (.int v88_11), .unset, .unset, .unset, .unset]) rfl rfl ?_
  refine g_iload X at_90 (pc' := 92) rfl rfl ?_
  refine g_iload X at_92 (pc' := 94) rfl rfl ?_
  refine g_isub X at_94 (pc' := 95) rfl ?_
  generalize ev95_12 : (v88_11 - v79_10) = v95_12
  refine g_istore X at_95 (pc' := 97) (Ls' := #[.val (.int i0), .val (.int i1), .val (.int i2), .val (.int i3), .val (.ref b2_1), .val (.int v61_8), .val (.int v70_9), .val (.int v79_10), .val (.int v88_11), .val (.int v95_12), .unset, .unset, .unset]) rfl rfl ?_
  refine g_ldc2 X (tb hw 9 rfl) at_97 (pc' := 100) rfl ?_
  refine g_lstore X at_100 (pc' := 102) (Ls' := #[.val (.int i0), .val (.int i1), .val (.int i2), .val (.int i3), .val (.ref b2_1), .val (.int v61_8), .val (.int v70_9), .val (.int v79_10), .val (.int v88_11), .val (.int v95_12), .val (.long (2166136261 : Int64)), .second, .unset]) rfl rfl ?_
  have B := span (r7 ev61_8) (r7 ev70_9) ev79_10 ev88_11 ev95_12
  obtain ⟨kk, hkk⟩ : ∃ n : Nat, v95_12.toInt = n := ⟨v95_12.toInt.toNat, by omega⟩
  obtain ⟨bt, ebt⟩ : ∃ bt : List Int32, bt = [(nar .byte v11_2), (nar .byte v20_3), (nar .byte v29_4), (nar .byte v38_5), (nar .byte v44_6), (nar .byte v53_7)] := ⟨_, rfl⟩
  have hbt : bt.length = 6 := by rw [ebt]; rfl
  replace V_b2_1 : Av Z h b2_1 .byte (bt.map Value.int) := by rw [ebt]; exact V_b2_1
  have B1 : 0 ≤ v79_10.toInt := B.1
  have B2 : v79_10.toInt + kk = v88_11.toInt := by omega
  have B3 : v88_11.toInt ≤ bt.length := by rw [hbt]; omega
  refine g_iload X at_102 (pc' := 104) rfl rfl ?_
  by_cases hc104_13 : (0 : Int32) < v95_12
  · skip
    refine g_ifN X at_104 ((if0 _ _).trans (tlt hc104_13).2.2.2) (pc' := 107) rfl ?_
    refine g_lload X at_107 (pc' := 109) rfl rfl ?_
    refine g_aload X at_109 (pc' := 111) rfl rfl rfl ?_
    refine g_iload X at_111 (pc' := 113) rfl rfl ?_
    refine g_baload X V_b2_1 (v79_10.toInt.toNat) at_113 (pc' := 114) rfl (at_first B hc104_13).1 (at_first B hc104_13).2.1 (lk bt _ (by rw [hbt]; exact (at_first B hc104_13).2.2)) ?_
    refine g_static X (W := 0) [(.long (2166136261 : Int64)), (.int (bt.getD (v79_10.toInt.toNat) 0))] [] (tb hw 10 rfl) (tb hw 11 rfl) (tb hw 12 rfl) (tb hw 13 rfl) (rStep l Z aa hw [] (2166136261 : Int64) (bt.getD (v79_10.toInt.toNat) 0) _) at_114 (pc' := 117) rfl (by decide) (by decide) (by decide) rfl rfl rfl (lenOf pd_1 rfl) (Nat.le_refl _) (by decide) (by decide) ?_
    intro v T L X q
    obtain ⟨rfl, X⟩ := pureX X q
    show Go p e below _ (T.setTop (mkF m 117 #[.val (.int i0), .val (.int i1), .val (.int i2), .val (.int i3), .val (.ref b2_1), .val (.int v61_8), .val (.int v70_9), .val (.int v79_10), .val (.int v88_11), .val (.int v95_12), .val (.long (2166136261 : Int64)), .second, .unset] [(.long (fStep (2166136261 : Int64) (bt.getD (v79_10.toInt.toNat) 0)))]))
    generalize ev117_14 : (fStep (2166136261 : Int64) (bt.getD (v79_10.toInt.toNat) 0)) = v117_14
    refine g_lstore X at_117 (pc' := 119) (Ls' := #[.val (.int i0), .val (.int i1), .val (.int i2), .val (.int i3), .val (.ref b2_1), .val (.int v61_8), .val (.int v70_9), .val (.int v79_10), .val (.int v88_11), .val (.int v95_12), .val (.long v117_14), .second, .unset]) rfl rfl ?_
    refine g_iload X at_119 (pc' := 121) rfl rfl ?_
    refine g_iconst X (1 : Int32) at_121 (pc' := 122) rfl rfl ?_
    by_cases hc122_15 : (1 : Int32) < v95_12
    · skip
      refine g_icN X at_122 (tlt hc122_15).2.2.2 (pc' := 125) rfl ?_
      refine g_lload X at_125 (pc' := 127) rfl rfl ?_
      refine g_aload X at_127 (pc' := 129) rfl rfl rfl ?_
      refine g_iload X at_129 (pc' := 131) rfl rfl ?_
      refine g_iconst X (1 : Int32) at_131 (pc' := 132) rfl rfl ?_
      refine g_iadd X at_132 (pc' := 133) rfl ?_
      refine g_baload X V_b2_1 (v79_10.toInt.toNat + 1) at_133 (pc' := 134) rfl (at_later 1 B (by decide) hc122_15).1 (at_later 1 B (by decide) hc122_15).2.1 (lk bt _ (by rw [hbt]; exact (at_later 1 B (by decide) hc122_15).2.2)) ?_
      refine g_static X (W := 0) [(.long v117_14), (.int (bt.getD (v79_10.toInt.toNat + 1) 0))] [] (tb hw 10 rfl) (tb hw 11 rfl) (tb hw 12 rfl) (tb hw 13 rfl) (rStep l Z aa hw [] v117_14 (bt.getD (v79_10.toInt.toNat + 1) 0) _) at_134 (pc' := 137) rfl (by decide) (by decide) (by decide) rfl rfl rfl (lenOf pd_1 rfl) (Nat.le_refl _) (by decide) (by decide) ?_
      intro v T L X q
      obtain ⟨rfl, X⟩ := pureX X q
      show Go p e below _ (T.setTop (mkF m 137 #[.val (.int i0), .val (.int i1), .val (.int i2), .val (.int i3), .val (.ref b2_1), .val (.int v61_8), .val (.int v70_9), .val (.int v79_10), .val (.int v88_11), .val (.int v95_12), .val (.long v117_14), .second, .unset] [(.long (fStep v117_14 (bt.getD (v79_10.toInt.toNat + 1) 0)))]))
      generalize ev137_16 : (fStep v117_14 (bt.getD (v79_10.toInt.toNat + 1) 0)) = v137_16
      refine g_lstore X at_137 (pc' := 139) (Ls' := #[.val (.int i0), .val (.int i1), .val (.int i2), .val (.int i3), .val (.ref b2_1), .val (.int v61_8), .val (.int v70_9), .val (.int v79_10), .val (.int v88_11), .val (.int v95_12), .val (.long v137_16), .second, .unset]) rfl rfl ?_
      refine g_iload X at_139 (pc' := 141) rfl rfl ?_
      refine g_iconst X (2 : Int32) at_141 (pc' := 142) rfl rfl ?_
      by_cases hc142_17 : (2 : Int32) < v95_12
      · skip
        refine g_icN X at_142 (tlt hc142_17).2.2.2 (pc' := 145) rfl ?_
        refine g_lload X at_145 (pc' := 147) rfl rfl ?_
        refine g_aload X at_147 (pc' := 149) rfl rfl rfl ?_
        refine g_iload X at_149 (pc' := 151) rfl rfl ?_
        refine g_iconst X (2 : Int32) at_151 (pc' := 152) rfl rfl ?_
        refine g_iadd X at_152 (pc' := 153) rfl ?_
        refine g_baload X V_b2_1 (v79_10.toInt.toNat + 2) at_153 (pc' := 154) rfl (at_later 2 B (by decide) hc142_17).1 (at_later 2 B (by decide) hc142_17).2.1 (lk bt _ (by rw [hbt]; exact (at_later 2 B (by decide) hc142_17).2.2)) ?_
        refine g_static X (W := 0) [(.long v137_16), (.int (bt.getD (v79_10.toInt.toNat + 2) 0))] [] (tb hw 10 rfl) (tb hw 11 rfl) (tb hw 12 rfl) (tb hw 13 rfl) (rStep l Z aa hw [] v137_16 (bt.getD (v79_10.toInt.toNat + 2) 0) _) at_154 (pc' := 157) rfl (by decide) (by decide) (by decide) rfl rfl rfl (lenOf pd_1 rfl) (Nat.le_refl _) (by decide) (by decide) ?_
        intro v T L X q
        obtain ⟨rfl, X⟩ := pureX X q
        show Go p e below _ (T.setTop (mkF m 157 #[.val (.int i0), .val (.int i1), .val (.int i2), .val (.int i3), .val (.ref b2_1), .val (.int v61_8), .val (.int v70_9), .val (.int v79_10), .val (.int v88_11), .val (.int v95_12), .val (.long v137_16), .second, .unset] [(.long (fStep v137_16 (bt.getD (v79_10.toInt.toNat + 2) 0)))]))
        generalize ev157_18 : (fStep v137_16 (bt.getD (v79_10.toInt.toNat + 2) 0)) = v157_18
        refine g_lstore X at_157 (pc' := 159) (Ls' := #[.val (.int i0), .val (.int i1), .val (.int i2), .val (.int i3), .val (.ref b2_1), .val (.int v61_8), .val (.int v70_9), .val (.int v79_10), .val (.int v88_11), .val (.int v95_12), .val (.long v157_18), .second, .unset]) rfl rfl ?_
        refine g_iload X at_159 (pc' := 161) rfl rfl ?_
        refine g_iconst X (3 : Int32) at_161 (pc' := 162) rfl rfl ?_
        by_cases hc162_19 : (3 : Int32) < v95_12
        · skip
          refine g_icN X at_162 (tlt hc162_19).2.2.2 (pc' := 165) rfl ?_
          refine g_lload X at_165 (pc' := 167) rfl rfl ?_
          refine g_aload X at_167 (pc' := 169) rfl rfl rfl ?_
          refine g_iload X at_169 (pc' := 171) rfl rfl ?_
          refine g_iconst X (3 : Int32) at_171 (pc' := 172) rfl rfl ?_
          refine g_iadd X at_172 (pc' := 173) rfl ?_
          refine g_baload X V_b2_1 (v79_10.toInt.toNat + 3) at_173 (pc' := 174) rfl (at_later 3 B (by decide) hc162_19).1 (at_later 3 B (by decide) hc162_19).2.1 (lk bt _ (by rw [hbt]; exact (at_later 3 B (by decide) hc162_19).2.2)) ?_
          refine g_static X (W := 0) [(.long v157_18), (.int (bt.getD (v79_10.toInt.toNat + 3) 0))] [] (tb hw 10 rfl) (tb hw 11 rfl) (tb hw 12 rfl) (tb hw 13 rfl) (rStep l Z aa hw [] v157_18 (bt.getD (v79_10.toInt.toNat + 3) 0) _) at_174 (pc' := 177) rfl (by decide) (by decide) (by decide) rfl rfl rfl (lenOf pd_1 rfl) (Nat.le_refl _) (by decide) (by decide) ?_
          intro v T L X q
          obtain ⟨rfl, X⟩ := pureX X q
          show Go p e below _ (T.setTop (mkF m 177 #[.val (.int i0), .val (.int i1), .val (.int i2), .val (.int i3), .val (.ref b2_1), .val (.int v61_8), .val (.int v70_9), .val (.int v79_10), .val (.int v88_11), .val (.int v95_12), .val (.long v157_18), .second, .unset] [(.long (fStep v157_18 (bt.getD (v79_10.toInt.toNat + 3) 0)))]))
          generalize ev177_20 : (fStep v157_18 (bt.getD (v79_10.toInt.toNat + 3) 0)) = v177_20
          refine g_lstore X at_177 (pc' := 179) (Ls' := #[.val (.int i0), .val (.int i1), .val (.int i2), .val (.int i3), .val (.ref b2_1), .val (.int v61_8), .val (.int v70_9), .val (.int v79_10), .val (.int v88_11), .val (.int v95_12), .val (.long v177_20), .second, .unset]) rfl rfl ?_
          refine g_iload X at_179 (pc' := 181) rfl rfl ?_
          refine g_iconst X (4 : Int32) at_181 (pc' := 182) rfl rfl ?_
          by_cases hc182_21 : (4 : Int32) < v95_12
          · skip
            refine g_icN X at_182 (tlt hc182_21).2.2.2 (pc' := 185) rfl ?_
            refine g_lload X at_185 (pc' := 187) rfl rfl ?_
            refine g_aload X at_187 (pc' := 189) rfl rfl rfl ?_
            refine g_iload X at_189 (pc' := 191) rfl rfl ?_
            refine g_iconst X (4 : Int32) at_191 (pc' := 192) rfl rfl ?_
            refine g_iadd X at_192 (pc' := 193) rfl ?_
            refine g_baload X V_b2_1 (v79_10.toInt.toNat + 4) at_193 (pc' := 194) rfl (at_later 4 B (by decide) hc182_21).1 (at_later 4 B (by decide) hc182_21).2.1 (lk bt _ (by rw [hbt]; exact (at_later 4 B (by decide) hc182_21).2.2)) ?_
            refine g_static X (W := 0) [(.long v177_20), (.int (bt.getD (v79_10.toInt.toNat + 4) 0))] [] (tb hw 10 rfl) (tb hw 11 rfl) (tb hw 12 rfl) (tb hw 13 rfl) (rStep l Z aa hw [] v177_20 (bt.getD (v79_10.toInt.toNat + 4) 0) _) at_194 (pc' := 197) rfl (by decide) (by decide) (by decide) rfl rfl rfl (lenOf pd_1 rfl) (Nat.le_refl _) (by decide) (by decide) ?_
            intro v T L X q
            obtain ⟨rfl, X⟩ := pureX X q
            show Go p e below _ (T.setTop (mkF m 197 #[.val (.int i0), .val (.int i1), .val (.int i2), .val (.int i3), .val (.ref b2_1), .val (.int v61_8), .val (.int v70_9), .val (.int v79_10), .val (.int v88_11), .val (.int v95_12), .val (.long v177_20), .second, .unset] [(.long (fStep v177_20 (bt.getD (v79_10.toInt.toNat + 4) 0)))]))
            generalize ev197_22 : (fStep v177_20 (bt.getD (v79_10.toInt.toNat + 4) 0)) = v197_22
            refine g_lstore X at_197 (pc' := 199) (Ls' := #[.val (.int i0), .val (.int i1), .val (.int i2), .val (.int i3), .val (.ref b2_1), .val (.int v61_8), .val (.int v70_9), .val (.int v79_10), .val (.int v88_11), .val (.int v95_12), .val (.long v197_22), .second, .unset]) rfl rfl ?_
            refine g_iload X at_199 (pc' := 201) rfl rfl ?_
            refine g_iconst X (5 : Int32) at_201 (pc' := 202) rfl rfl ?_
            by_cases hc202_23 : (5 : Int32) < v95_12
            · skip
              refine g_icN X at_202 (tlt hc202_23).2.2.2 (pc' := 205) rfl ?_
              refine g_lload X at_205 (pc' := 207) rfl rfl ?_
              refine g_aload X at_207 (pc' := 209) rfl rfl rfl ?_
              refine g_iload X at_209 (pc' := 211) rfl rfl ?_
              refine g_iconst X (5 : Int32) at_211 (pc' := 212) rfl rfl ?_
              refine g_iadd X at_212 (pc' := 213) rfl ?_
              refine g_baload X V_b2_1 (v79_10.toInt.toNat + 5) at_213 (pc' := 214) rfl (at_later 5 B (by decide) hc202_23).1 (at_later 5 B (by decide) hc202_23).2.1 (lk bt _ (by rw [hbt]; exact (at_later 5 B (by decide) hc202_23).2.2)) ?_
              refine g_static X (W := 0) [(.long v197_22), (.int (bt.getD (v79_10.toInt.toNat + 5) 0))] [] (tb hw 10 rfl) (tb hw 11 rfl) (tb hw 12 rfl) (tb hw 13 rfl) (rStep l Z aa hw [] v197_22 (bt.getD (v79_10.toInt.toNat + 5) 0) _) at_214 (pc' := 217) rfl (by decide) (by decide) (by decide) rfl rfl rfl (lenOf pd_1 rfl) (Nat.le_refl _) (by decide) (by decide) ?_
              intro v T L X q
              obtain ⟨rfl, X⟩ := pureX X q
              show Go p e below _ (T.setTop (mkF m 217 #[.val (.int i0), .val (.int i1), .val (.int i2), .val (.int i3), .val (.ref b2_1), .val (.int v61_8), .val (.int v70_9), .val (.int v79_10), .val (.int v88_11), .val (.int v95_12), .val (.long v197_22), .second, .unset] [(.long (fStep v197_22 (bt.getD (v79_10.toInt.toNat + 5) 0)))]))
              generalize ev217_24 : (fStep v197_22 (bt.getD (v79_10.toInt.toNat + 5) 0)) = v217_24
              refine g_lstore X at_217 (pc' := 219) (Ls' := #[.val (.int i0), .val (.int i1), .val (.int i2), .val (.int i3), .val (.ref b2_1), .val (.int v61_8), .val (.int v70_9), .val (.int v79_10), .val (.int v88_11), .val (.int v95_12), .val (.long v217_24), .second, .unset]) rfl rfl ?_
              refine g_lload X at_219 (pc' := 221) rfl rfl ?_
              refine g_static X (W := 0) [(.long v217_24)] [] (tb hw 17 rfl) (tb hw 18 rfl) (tb hw 12 rfl) (tb hw 19 rfl) (rMix l Z aa hw [] v217_24 _) at_221 (pc' := 224) rfl (by decide) (by decide) (by decide) rfl rfl rfl (lenOf pd_2 rfl) (Nat.le_refl _) (by decide) (by decide) ?_
              intro v T L X q
              obtain ⟨rfl, X⟩ := pureX X q
              show Go p e below _ (T.setTop (mkF m 224 #[.val (.int i0), .val (.int i1), .val (.int i2), .val (.int i3), .val (.ref b2_1), .val (.int v61_8), .val (.int v70_9), .val (.int v79_10), .val (.int v88_11), .val (.int v95_12), .val (.long v217_24), .second, .unset] [(.int (fMix v217_24))]))
              generalize ev224_25 : (fMix v217_24) = v224_25
              refine g_istore X at_224 (pc' := 226) (Ls' := #[.val (.int i0), .val (.int i1), .val (.int i2), .val (.int i3), .val (.ref b2_1), .val (.int v61_8), .val (.int v70_9), .val (.int v79_10), .val (.int v88_11), .val (.int v95_12), .val (.long v217_24), .second, .val (.int v224_25)]) rfl rfl ?_
              refine g_aload X at_226 (pc' := 228) rfl rfl rfl ?_
              refine g_iload X at_228 (pc' := 230) rfl rfl ?_
              refine g_iload X at_230 (pc' := 232) rfl rfl ?_
              refine g_static X (W := 0) [(.ref b2_1), (.int v79_10), (.int v88_11)] [] (tb hw 22 rfl) (tb hw 23 rfl) (tb hw 24 rfl) (tb hw 25 rfl) (rHash l Z aa hw [] b2_1 v79_10 v88_11 bt kk _ V_b2_1 B1 B2 B3) at_232 (pc' := 235) rfl (by decide) (by decide) (by decide) rfl rfl rfl (lenOf pd_3 rfl) (Nat.le_refl _) (by decide) (by decide) ?_
              intro v T L X q
              obtain ⟨rfl, X⟩ := pureX X q
              show Go p e below _ (T.setTop (mkF m 235 #[.val (.int i0), .val (.int i1), .val (.int i2), .val (.int i3), .val (.ref b2_1), .val (.int v61_8), .val (.int v70_9), .val (.int v79_10), .val (.int v88_11), .val (.int v95_12), .val (.long v217_24), .second, .val (.int v224_25)] [(.int (mixI (runI bt v79_10.toInt.toNat kk (-2128831035 : Int32))))]))
              refine g_iload X at_235 (pc' := 237) rfl rfl ?_
              have hk : kk = 6 := by have q := hc202_23; rw [Int32.lt_iff_toInt_lt] at q; simp only [Int32.reduceToInt] at q; omega
              refine g_icN X at_237 (teq (show (mixI (runI bt v79_10.toInt.toNat kk (-2128831035 : Int32))) = v224_25 from (by rw [hk, show runI bt v79_10.toInt.toNat 6 (-2128831035 : Int32) = (stepI (stepI (stepI (stepI (stepI (stepI (-2128831035 : Int32) (bt.getD (v79_10.toInt.toNat) 0)) (bt.getD (v79_10.toInt.toNat + 1) 0)) (bt.getD (v79_10.toInt.toNat + 2) 0)) (bt.getD (v79_10.toInt.toNat + 3) 0)) (bt.getD (v79_10.toInt.toNat + 4) 0)) (bt.getD (v79_10.toInt.toNat + 5) 0)) from rfl]; subst_vars; exact (R_mix (R_step (R_step (R_step (R_step (R_step (R_step (R_init : (2166136261 : Int64).toBitVec.toNat = (-2128831035 : Int32).toBitVec.toNat)))))))).symm))).2 (pc' := 240) rfl ?_
              refine g_iconst X (1 : Int32) at_240 (pc' := 241) rfl rfl ?_
              refine g_goto X at_241 (pc' := 245) (by decide) (by decide) ?_
              refine g_ireturnN X (t := .boolean) (by simp) at_245 hret hlk (by decide) (by decide) ?_
              exact ⟨rfl, N⟩
            · skip
              refine g_icY X at_202 (flt hc202_23).2.2.2 (pc' := 219) (by decide) (by decide) ?_
              refine g_lload X at_219 (pc' := 221) rfl rfl ?_
              refine g_static X (W := 0) [(.long v197_22)] [] (tb hw 17 rfl) (tb hw 18 rfl) (tb hw 12 rfl) (tb hw 19 rfl) (rMix l Z aa hw [] v197_22 _) at_221 (pc' := 224) rfl (by decide) (by decide) (by decide) rfl rfl rfl (lenOf pd_2 rfl) (Nat.le_refl _) (by decide) (by decide) ?_
              intro v T L X q
              obtain ⟨rfl, X⟩ := pureX X q
              show Go p e below _ (T.setTop (mkF m 224 #[.val (.int i0), .val (.int i1), .val (.int i2), .val (.int i3), .val (.ref b2_1), .val (.int v61_8), .val (.int v70_9), .val (.int v79_10), .val (.int v88_11), .val (.int v95_12), .val (.long v197_22), .second, .unset] [(.int (fMix v197_22))]))
              generalize ev224_26 : (fMix v197_22) = v224_26
              refine g_istore X at_224 (pc' := 226) (Ls' := #[.val (.int i0), .val (.int i1), .val (.int i2), .val (.int i3), .val (.ref b2_1), .val (.int v61_8), .val (.int v70_9), .val (.int v79_10), .val (.int v88_11), .val (.int v95_12), .val (.long v197_22), .second, .val (.int v224_26)]) rfl rfl ?_
              refine g_aload X at_226 (pc' := 228) rfl rfl rfl ?_
              refine g_iload X at_228 (pc' := 230) rfl rfl ?_
              refine g_iload X at_230 (pc' := 232) rfl rfl ?_
              refine g_static X (W := 0) [(.ref b2_1), (.int v79_10), (.int v88_11)] [] (tb hw 22 rfl) (tb hw 23 rfl) (tb hw 24 rfl) (tb hw 25 rfl) (rHash l Z aa hw [] b2_1 v79_10 v88_11 bt kk _ V_b2_1 B1 B2 B3) at_232 (pc' := 235) rfl (by decide) (by decide) (by decide) rfl rfl rfl (lenOf pd_3 rfl) (Nat.le_refl _) (by decide) (by decide) ?_
              intro v T L X q
              obtain ⟨rfl, X⟩ := pureX X q
              show Go p e below _ (T.setTop (mkF m 235 #[.val (.int i0), .val (.int i1), .val (.int i2), .val (.int i3), .val (.ref b2_1), .val (.int v61_8), .val (.int v70_9), .val (.int v79_10), .val (.int v88_11), .val (.int v95_12), .val (.long v197_22), .second, .val (.int v224_26)] [(.int (mixI (runI bt v79_10.toInt.toNat kk (-2128831035 : Int32))))]))
              refine g_iload X at_235 (pc' := 237) rfl rfl ?_
              have hk : kk = 5 := kk_is hkk hc182_21 hc202_23 (by decide) (by decide)
              refine g_icN X at_237 (teq (show (mixI (runI bt v79_10.toInt.toNat kk (-2128831035 : Int32))) = v224_26 from (by rw [hk, show runI bt v79_10.toInt.toNat 5 (-2128831035 : Int32) = (stepI (stepI (stepI (stepI (stepI (-2128831035 : Int32) (bt.getD (v79_10.toInt.toNat) 0)) (bt.getD (v79_10.toInt.toNat + 1) 0)) (bt.getD (v79_10.toInt.toNat + 2) 0)) (bt.getD (v79_10.toInt.toNat + 3) 0)) (bt.getD (v79_10.toInt.toNat + 4) 0)) from rfl]; subst_vars; exact (R_mix (R_step (R_step (R_step (R_step (R_step (R_init : (2166136261 : Int64).toBitVec.toNat = (-2128831035 : Int32).toBitVec.toNat))))))).symm))).2 (pc' := 240) rfl ?_
              refine g_iconst X (1 : Int32) at_240 (pc' := 241) rfl rfl ?_
              refine g_goto X at_241 (pc' := 245) (by decide) (by decide) ?_
              refine g_ireturnN X (t := .boolean) (by simp) at_245 hret hlk (by decide) (by decide) ?_
              exact ⟨rfl, N⟩
          · skip
            refine g_icY X at_182 (flt hc182_21).2.2.2 (pc' := 199) (by decide) (by decide) ?_
            refine g_iload X at_199 (pc' := 201) rfl rfl ?_
            refine g_iconst X (5 : Int32) at_201 (pc' := 202) rfl rfl ?_
            refine g_icY X at_202 (flt (show ¬ ((5 : Int32) < v95_12) from (ltmono hc182_21 (by decide)))).2.2.2 (pc' := 219) (by decide) (by decide) ?_
            refine g_lload X at_219 (pc' := 221) rfl rfl ?_
            refine g_static X (W := 0) [(.long v177_20)] [] (tb hw 17 rfl) (tb hw 18 rfl) (tb hw 12 rfl) (tb hw 19 rfl) (rMix l Z aa hw [] v177_20 _) at_221 (pc' := 224) rfl (by decide) (by decide) (by decide) rfl rfl rfl (lenOf pd_2 rfl) (Nat.le_refl _) (by decide) (by decide) ?_
            intro v T L X q
            obtain ⟨rfl, X⟩ := pureX X q
            show Go p e below _ (T.setTop (mkF m 224 #[.val (.int i0), .val (.int i1), .val (.int i2), .val (.int i3), .val (.ref b2_1), .val (.int v61_8), .val (.int v70_9), .val (.int v79_10), .val (.int v88_11), .val (.int v95_12), .val (.long v177_20), .second, .unset] [(.int (fMix v177_20))]))
            generalize ev224_27 : (fMix v177_20) = v224_27
            refine g_istore X at_224 (pc' := 226) (Ls' := #[.val (.int i0), .val (.int i1), .val (.int i2), .val (.int i3), .val (.ref b2_1), .val (.int v61_8), .val (.int v70_9), .val (.int v79_10), .val (.int v88_11), .val (.int v95_12), .val (.long v177_20), .second, .val (.int v224_27)]) rfl rfl ?_
            refine g_aload X at_226 (pc' := 228) rfl rfl rfl ?_
            refine g_iload X at_228 (pc' := 230) rfl rfl ?_
            refine g_iload X at_230 (pc' := 232) rfl rfl ?_
            refine g_static X (W := 0) [(.ref b2_1), (.int v79_10), (.int v88_11)] [] (tb hw 22 rfl) (tb hw 23 rfl) (tb hw 24 rfl) (tb hw 25 rfl) (rHash l Z aa hw [] b2_1 v79_10 v88_11 bt kk _ V_b2_1 B1 B2 B3) at_232 (pc' := 235) rfl (by decide) (by decide) (by decide) rfl rfl rfl (lenOf pd_3 rfl) (Nat.le_refl _) (by decide) (by decide) ?_
            intro v T L X q
            obtain ⟨rfl, X⟩ := pureX X q
            show Go p e below _ (T.setTop (mkF m 235 #[.val (.int i0), .val (.int i1), .val (.int i2), .val (.int i3), .val (.ref b2_1), .val (.int v61_8), .val (.int v70_9), .val (.int v79_10), .val (.int v88_11), .val (.int v95_12), .val (.long v177_20), .second, .val (.int v224_27)] [(.int (mixI (runI bt v79_10.toInt.toNat kk (-2128831035 : Int32))))]))
            refine g_iload X at_235 (pc' := 237) rfl rfl ?_
            have hk : kk = 4 := kk_is hkk hc162_19 hc182_21 (by decide) (by decide)
            refine g_icN X at_237 (teq (show (mixI (runI bt v79_10.toInt.toNat kk (-2128831035 : Int32))) = v224_27 from (by rw [hk, show runI bt v79_10.toInt.toNat 4 (-2128831035 : Int32) = (stepI (stepI (stepI (stepI (-2128831035 : Int32) (bt.getD (v79_10.toInt.toNat) 0)) (bt.getD (v79_10.toInt.toNat + 1) 0)) (bt.getD (v79_10.toInt.toNat + 2) 0)) (bt.getD (v79_10.toInt.toNat + 3) 0)) from rfl]; subst_vars; exact (R_mix (R_step (R_step (R_step (R_step (R_init : (2166136261 : Int64).toBitVec.toNat = (-2128831035 : Int32).toBitVec.toNat)))))).symm))).2 (pc' := 240) rfl ?_
            refine g_iconst X (1 : Int32) at_240 (pc' := 241) rfl rfl ?_
            refine g_goto X at_241 (pc' := 245) (by decide) (by decide) ?_
            refine g_ireturnN X (t := .boolean) (by simp) at_245 hret hlk (by decide) (by decide) ?_
            exact ⟨rfl, N⟩
        · skip
          refine g_icY X at_162 (flt hc162_19).2.2.2 (pc' := 179) (by decide) (by decide) ?_
          refine g_iload X at_179 (pc' := 181) rfl rfl ?_
          refine g_iconst X (4 : Int32) at_181 (pc' := 182) rfl rfl ?_
          refine g_icY X at_182 (flt (show ¬ ((4 : Int32) < v95_12) from (ltmono hc162_19 (by decide)))).2.2.2 (pc' := 199) (by decide) (by decide) ?_
          refine g_iload X at_199 (pc' := 201) rfl rfl ?_
          refine g_iconst X (5 : Int32) at_201 (pc' := 202) rfl rfl ?_
          refine g_icY X at_202 (flt (show ¬ ((5 : Int32) < v95_12) from (ltmono hc162_19 (by decide)))).2.2.2 (pc' := 219) (by decide) (by decide) ?_
          refine g_lload X at_219 (pc' := 221) rfl rfl ?_
          refine g_static X (W := 0) [(.long v157_18)] [] (tb hw 17 rfl) (tb hw 18 rfl) (tb hw 12 rfl) (tb hw 19 rfl) (rMix l Z aa hw [] v157_18 _) at_221 (pc' := 224) rfl (by decide) (by decide) (by decide) rfl rfl rfl (lenOf pd_2 rfl) (Nat.le_refl _) (by decide) (by decide) ?_
          intro v T L X q
          obtain ⟨rfl, X⟩ := pureX X q
          show Go p e below _ (T.setTop (mkF m 224 #[.val (.int i0), .val (.int i1), .val (.int i2), .val (.int i3), .val (.ref b2_1), .val (.int v61_8), .val (.int v70_9), .val (.int v79_10), .val (.int v88_11), .val (.int v95_12), .val (.long v157_18), .second, .unset] [(.int (fMix v157_18))]))
          generalize ev224_28 : (fMix v157_18) = v224_28
          refine g_istore X at_224 (pc' := 226) (Ls' := #[.val (.int i0), .val (.int i1), .val (.int i2), .val (.int i3), .val (.ref b2_1), .val (.int v61_8), .val (.int v70_9), .val (.int v79_10), .val (.int v88_11), .val (.int v95_12), .val (.long v157_18), .second, .val (.int v224_28)]) rfl rfl ?_
          refine g_aload X at_226 (pc' := 228) rfl rfl rfl ?_
          refine g_iload X at_228 (pc' := 230) rfl rfl ?_
          refine g_iload X at_230 (pc' := 232) rfl rfl ?_
          refine g_static X (W := 0) [(.ref b2_1), (.int v79_10), (.int v88_11)] [] (tb hw 22 rfl) (tb hw 23 rfl) (tb hw 24 rfl) (tb hw 25 rfl) (rHash l Z aa hw [] b2_1 v79_10 v88_11 bt kk _ V_b2_1 B1 B2 B3) at_232 (pc' := 235) rfl (by decide) (by decide) (by decide) rfl rfl rfl (lenOf pd_3 rfl) (Nat.le_refl _) (by decide) (by decide) ?_
          intro v T L X q
          obtain ⟨rfl, X⟩ := pureX X q
          show Go p e below _ (T.setTop (mkF m 235 #[.val (.int i0), .val (.int i1), .val (.int i2), .val (.int i3), .val (.ref b2_1), .val (.int v61_8), .val (.int v70_9), .val (.int v79_10), .val (.int v88_11), .val (.int v95_12), .val (.long v157_18), .second, .val (.int v224_28)] [(.int (mixI (runI bt v79_10.toInt.toNat kk (-2128831035 : Int32))))]))
          refine g_iload X at_235 (pc' := 237) rfl rfl ?_
          have hk : kk = 3 := kk_is hkk hc142_17 hc162_19 (by decide) (by decide)
          refine g_icN X at_237 (teq (show (mixI (runI bt v79_10.toInt.toNat kk (-2128831035 : Int32))) = v224_28 from (by rw [hk, show runI bt v79_10.toInt.toNat 3 (-2128831035 : Int32) = (stepI (stepI (stepI (-2128831035 : Int32) (bt.getD (v79_10.toInt.toNat) 0)) (bt.getD (v79_10.toInt.toNat + 1) 0)) (bt.getD (v79_10.toInt.toNat + 2) 0)) from rfl]; subst_vars; exact (R_mix (R_step (R_step (R_step (R_init : (2166136261 : Int64).toBitVec.toNat = (-2128831035 : Int32).toBitVec.toNat))))).symm))).2 (pc' := 240) rfl ?_
          refine g_iconst X (1 : Int32) at_240 (pc' := 241) rfl rfl ?_
          refine g_goto X at_241 (pc' := 245) (by decide) (by decide) ?_
          refine g_ireturnN X (t := .boolean) (by simp) at_245 hret hlk (by decide) (by decide) ?_
          exact ⟨rfl, N⟩
      · skip
        refine g_icY X at_142 (flt hc142_17).2.2.2 (pc' := 159) (by decide) (by decide) ?_
        refine g_iload X at_159 (pc' := 161) rfl rfl ?_
        refine g_iconst X (3 : Int32) at_161 (pc' := 162) rfl rfl ?_
        refine g_icY X at_162 (flt (show ¬ ((3 : Int32) < v95_12) from (ltmono hc142_17 (by decide)))).2.2.2 (pc' := 179) (by decide) (by decide) ?_
        refine g_iload X at_179 (pc' := 181) rfl rfl ?_
        refine g_iconst X (4 : Int32) at_181 (pc' := 182) rfl rfl ?_
        refine g_icY X at_182 (flt (show ¬ ((4 : Int32) < v95_12) from (ltmono hc142_17 (by decide)))).2.2.2 (pc' := 199) (by decide) (by decide) ?_
        refine g_iload X at_199 (pc' := 201) rfl rfl ?_
        refine g_iconst X (5 : Int32) at_201 (pc' := 202) rfl rfl ?_
        refine g_icY X at_202 (flt (show ¬ ((5 : Int32) < v95_12) from (ltmono hc142_17 (by decide)))).2.2.2 (pc' := 219) (by decide) (by decide) ?_
        refine g_lload X at_219 (pc' := 221) rfl rfl ?_
        refine g_static X (W := 0) [(.long v137_16)] [] (tb hw 17 rfl) (tb hw 18 rfl) (tb hw 12 rfl) (tb hw 19 rfl) (rMix l Z aa hw [] v137_16 _) at_221 (pc' := 224) rfl (by decide) (by decide) (by decide) rfl rfl rfl (lenOf pd_2 rfl) (Nat.le_refl _) (by decide) (by decide) ?_
        intro v T L X q
        obtain ⟨rfl, X⟩ := pureX X q
        show Go p e below _ (T.setTop (mkF m 224 #[.val (.int i0), .val (.int i1), .val (.int i2), .val (.int i3), .val (.ref b2_1), .val (.int v61_8), .val (.int v70_9), .val (.int v79_10), .val (.int v88_11), .val (.int v95_12), .val (.long v137_16), .second, .unset] [(.int (fMix v137_16))]))
        generalize ev224_29 : (fMix v137_16) = v224_29
        refine g_istore X at_224 (pc' := 226) (Ls' := #[.val (.int i0), .val (.int i1), .val (.int i2), .val (.int i3), .val (.ref b2_1), .val (.int v61_8), .val (.int v70_9), .val (.int v79_10), .val (.int v88_11), .val (.int v95_12), .val (.long v137_16), .second, .val (.int v224_29)]) rfl rfl ?_
        refine g_aload X at_226 (pc' := 228) rfl rfl rfl ?_
        refine g_iload X at_228 (pc' := 230) rfl rfl ?_
        refine g_iload X at_230 (pc' := 232) rfl rfl ?_
        refine g_static X (W := 0) [(.ref b2_1), (.int v79_10), (.int v88_11)] [] (tb hw 22 rfl) (tb hw 23 rfl) (tb hw 24 rfl) (tb hw 25 rfl) (rHash l Z aa hw [] b2_1 v79_10 v88_11 bt kk _ V_b2_1 B1 B2 B3) at_232 (pc' := 235) rfl (by decide) (by decide) (by decide) rfl rfl rfl (lenOf pd_3 rfl) (Nat.le_refl _) (by decide) (by decide) ?_
        intro v T L X q
        obtain ⟨rfl, X⟩ := pureX X q
        show Go p e below _ (T.setTop (mkF m 235 #[.val (.int i0), .val (.int i1), .val (.int i2), .val (.int i3), .val (.ref b2_1), .val (.int v61_8), .val (.int v70_9), .val (.int v79_10), .val (.int v88_11), .val (.int v95_12), .val (.long v137_16), .second, .val (.int v224_29)] [(.int (mixI (runI bt v79_10.toInt.toNat kk (-2128831035 : Int32))))]))
        refine g_iload X at_235 (pc' := 237) rfl rfl ?_
        have hk : kk = 2 := kk_is hkk hc122_15 hc142_17 (by decide) (by decide)
        refine g_icN X at_237 (teq (show (mixI (runI bt v79_10.toInt.toNat kk (-2128831035 : Int32))) = v224_29 from (by rw [hk, show runI bt v79_10.toInt.toNat 2 (-2128831035 : Int32) = (stepI (stepI (-2128831035 : Int32) (bt.getD (v79_10.toInt.toNat) 0)) (bt.getD (v79_10.toInt.toNat + 1) 0)) from rfl]; subst_vars; exact (R_mix (R_step (R_step (R_init : (2166136261 : Int64).toBitVec.toNat = (-2128831035 : Int32).toBitVec.toNat)))).symm))).2 (pc' := 240) rfl ?_
        refine g_iconst X (1 : Int32) at_240 (pc' := 241) rfl rfl ?_
        refine g_goto X at_241 (pc' := 245) (by decide) (by decide) ?_
        refine g_ireturnN X (t := .boolean) (by simp) at_245 hret hlk (by decide) (by decide) ?_
        exact ⟨rfl, N⟩
    · skip
      refine g_icY X at_122 (flt hc122_15).2.2.2 (pc' := 139) (by decide) (by decide) ?_
      refine g_iload X at_139 (pc' := 141) rfl rfl ?_
      refine g_iconst X (2 : Int32) at_141 (pc' := 142) rfl rfl ?_
      refine g_icY X at_142 (flt (show ¬ ((2 : Int32) < v95_12) from (ltmono hc122_15 (by decide)))).2.2.2 (pc' := 159) (by decide) (by decide) ?_
      refine g_iload X at_159 (pc' := 161) rfl rfl ?_
      refine g_iconst X (3 : Int32) at_161 (pc' := 162) rfl rfl ?_
      refine g_icY X at_162 (flt (show ¬ ((3 : Int32) < v95_12) from (ltmono hc122_15 (by decide)))).2.2.2 (pc' := 179) (by decide) (by decide) ?_
      refine g_iload X at_179 (pc' := 181) rfl rfl ?_
      refine g_iconst X (4 : Int32) at_181 (pc' := 182) rfl rfl ?_
      refine g_icY X at_182 (flt (show ¬ ((4 : Int32) < v95_12) from (ltmono hc122_15 (by decide)))).2.2.2 (pc' := 199) (by decide) (by decide) ?_
      refine g_iload X at_199 (pc' := 201) rfl rfl ?_
      refine g_iconst X (5 : Int32) at_201 (pc' := 202) rfl rfl ?_
      refine g_icY X at_202 (flt (show ¬ ((5 : Int32) < v95_12) from (ltmono hc122_15 (by decide)))).2.2.2 (pc' := 219) (by decide) (by decide) ?_
      refine g_lload X at_219 (pc' := 221) rfl rfl ?_
      refine g_static X (W := 0) [(.long v117_14)] [] (tb hw 17 rfl) (tb hw 18 rfl) (tb hw 12 rfl) (tb hw 19 rfl) (rMix l Z aa hw [] v117_14 _) at_221 (pc' := 224) rfl (by decide) (by decide) (by decide) rfl rfl rfl (lenOf pd_2 rfl) (Nat.le_refl _) (by decide) (by decide) ?_
      intro v T L X q
      obtain ⟨rfl, X⟩ := pureX X q
      show Go p e below _ (T.setTop (mkF m 224 #[.val (.int i0), .val (.int i1), .val (.int i2), .val (.int i3), .val (.ref b2_1), .val (.int v61_8), .val (.int v70_9), .val (.int v79_10), .val (.int v88_11), .val (.int v95_12), .val (.long v117_14), .second, .unset] [(.int (fMix v117_14))]))
      generalize ev224_30 : (fMix v117_14) = v224_30
      refine g_istore X at_224 (pc' := 226) (Ls' := #[.val (.int i0), .val (.int i1), .val (.int i2), .val (.int i3), .val (.ref b2_1), .val (.int v61_8), .val (.int v70_9), .val (.int v79_10), .val (.int v88_11), .val (.int v95_12), .val (.long v117_14), .second, .val (.int v224_30)]) rfl rfl ?_
      refine g_aload X at_226 (pc' := 228) rfl rfl rfl ?_
      refine g_iload X at_228 (pc' := 230) rfl rfl ?_
      refine g_iload X at_230 (pc' := 232) rfl rfl ?_
      refine g_static X (W := 0) [(.ref b2_1), (.int v79_10), (.int v88_11)] [] (tb hw 22 rfl) (tb hw 23 rfl) (tb hw 24 rfl) (tb hw 25 rfl) (rHash l Z aa hw [] b2_1 v79_10 v88_11 bt kk _ V_b2_1 B1 B2 B3) at_232 (pc' := 235) rfl (by decide) (by decide) (by decide) rfl rfl rfl (lenOf pd_3 rfl) (Nat.le_refl _) (by decide) (by decide) ?_
      intro v T L X q
      obtain ⟨rfl, X⟩ := pureX X q
      show Go p e below _ (T.setTop (mkF m 235 #[.val (.int i0), .val (.int i1), .val (.int i2), .val (.int i3), .val (.ref b2_1), .val (.int v61_8), .val (.int v70_9), .val (.int v79_10), .val (.int v88_11), .val (.int v95_12), .val (.long v117_14), .second, .val (.int v224_30)] [(.int (mixI (runI bt v79_10.toInt.toNat kk (-2128831035 : Int32))))]))
      refine g_iload X at_235 (pc' := 237) rfl rfl ?_
      have hk : kk = 1 := kk_is hkk hc104_13 hc122_15 (by decide) (by decide)
      refine g_icN X at_237 (teq (show (mixI (runI bt v79_10.toInt.toNat kk (-2128831035 : Int32))) = v224_30 from (by rw [hk, show runI bt v79_10.toInt.toNat 1 (-2128831035 : Int32) = (stepI (-2128831035 : Int32) (bt.getD (v79_10.toInt.toNat) 0)) from rfl]; subst_vars; exact (R_mix (R_step (R_init : (2166136261 : Int64).toBitVec.toNat = (-2128831035 : Int32).toBitVec.toNat))).symm))).2 (pc' := 240) rfl ?_
      refine g_iconst X (1 : Int32) at_240 (pc' := 241) rfl rfl ?_
      refine g_goto X at_241 (pc' := 245) (by decide) (by decide) ?_
      refine g_ireturnN X (t := .boolean) (by simp) at_245 hret hlk (by decide) (by decide) ?_
      exact ⟨rfl, N⟩
  · skip
    refine g_ifY X at_104 ((if0 _ _).trans (flt hc104_13).2.2.2) (pc' := 119) (by decide) (by decide) ?_
    refine g_iload X at_119 (pc' := 121) rfl rfl ?_
    refine g_iconst X (1 : Int32) at_121 (pc' := 122) rfl rfl ?_
    refine g_icY X at_122 (flt (show ¬ ((1 : Int32) < v95_12) from (ltmono hc104_13 (by decide)))).2.2.2 (pc' := 139) (by decide) (by decide) ?_
    refine g_iload X at_139 (pc' := 141) rfl rfl ?_
    refine g_iconst X (2 : Int32) at_141 (pc' := 142) rfl rfl ?_
    refine g_icY X at_142 (flt (show ¬ ((2 : Int32) < v95_12) from (ltmono hc104_13 (by decide)))).2.2.2 (pc' := 159) (by decide) (by decide) ?_
    refine g_iload X at_159 (pc' := 161) rfl rfl ?_
    refine g_iconst X (3 : Int32) at_161 (pc' := 162) rfl rfl ?_
    refine g_icY X at_162 (flt (show ¬ ((3 : Int32) < v95_12) from (ltmono hc104_13 (by decide)))).2.2.2 (pc' := 179) (by decide) (by decide) ?_
    refine g_iload X at_179 (pc' := 181) rfl rfl ?_
    refine g_iconst X (4 : Int32) at_181 (pc' := 182) rfl rfl ?_
    refine g_icY X at_182 (flt (show ¬ ((4 : Int32) < v95_12) from (ltmono hc104_13 (by decide)))).2.2.2 (pc' := 199) (by decide) (by decide) ?_
    refine g_iload X at_199 (pc' := 201) rfl rfl ?_
    refine g_iconst X (5 : Int32) at_201 (pc' := 202) rfl rfl ?_
    refine g_icY X at_202 (flt (show ¬ ((5 : Int32) < v95_12) from (ltmono hc104_13 (by decide)))).2.2.2 (pc' := 219) (by decide) (by decide) ?_
    refine g_lload X at_219 (pc' := 221) rfl rfl ?_
    refine g_static X (W := 0) [(.long (2166136261 : Int64))] [] (tb hw 17 rfl) (tb hw 18 rfl) (tb hw 12 rfl) (tb hw 19 rfl) (rMix l Z aa hw [] (2166136261 : Int64) _) at_221 (pc' := 224) rfl (by decide) (by decide) (by decide) rfl rfl rfl (lenOf pd_2 rfl) (Nat.le_refl _) (by decide) (by decide) ?_
    intro v T L X q
    obtain ⟨rfl, X⟩ := pureX X q
    show Go p e below _ (T.setTop (mkF m 224 #[.val (.int i0), .val (.int i1), .val (.int i2), .val (.int i3), .val (.ref b2_1), .val (.int v61_8), .val (.int v70_9), .val (.int v79_10), .val (.int v88_11), .val (.int v95_12), .val (.long (2166136261 : Int64)), .second, .unset] [(.int (fMix (2166136261 : Int64)))]))
    generalize ev224_31 : (fMix (2166136261 : Int64)) = v224_31
    refine g_istore X at_224 (pc' := 226) (Ls' := #[.val (.int i0), .val (.int i1), .val (.int i2), .val (.int i3), .val (.ref b2_1), .val (.int v61_8), .val (.int v70_9), .val (.int v79_10), .val (.int v88_11), .val (.int v95_12), .val (.long (2166136261 : Int64)), .second, .val (.int v224_31)]) rfl rfl ?_
    refine g_aload X at_226 (pc' := 228) rfl rfl rfl ?_
    refine g_iload X at_228 (pc' := 230) rfl rfl ?_
    refine g_iload X at_230 (pc' := 232) rfl rfl ?_
    refine g_static X (W := 0) [(.ref b2_1), (.int v79_10), (.int v88_11)] [] (tb hw 22 rfl) (tb hw 23 rfl) (tb hw 24 rfl) (tb hw 25 rfl) (rHash l Z aa hw [] b2_1 v79_10 v88_11 bt kk _ V_b2_1 B1 B2 B3) at_232 (pc' := 235) rfl (by decide) (by decide) (by decide) rfl rfl rfl (lenOf pd_3 rfl) (Nat.le_refl _) (by decide) (by decide) ?_
    intro v T L X q
    obtain ⟨rfl, X⟩ := pureX X q
    show Go p e below _ (T.setTop (mkF m 235 #[.val (.int i0), .val (.int i1), .val (.int i2), .val (.int i3), .val (.ref b2_1), .val (.int v61_8), .val (.int v70_9), .val (.int v79_10), .val (.int v88_11), .val (.int v95_12), .val (.long (2166136261 : Int64)), .second, .val (.int v224_31)] [(.int (mixI (runI bt v79_10.toInt.toNat kk (-2128831035 : Int32))))]))
    refine g_iload X at_235 (pc' := 237) rfl rfl ?_
    have hk : kk = 0 := by have q := hc104_13; rw [Int32.lt_iff_toInt_lt] at q; simp only [Int32.reduceToInt] at q; omega
    refine g_icN X at_237 (teq (show (mixI (runI bt v79_10.toInt.toNat kk (-2128831035 : Int32))) = v224_31 from (by rw [hk, show runI bt v79_10.toInt.toNat 0 (-2128831035 : Int32) = (-2128831035 : Int32) from rfl]; subst_vars; exact (R_mix (R_init : (2166136261 : Int64).toBitVec.toNat = (-2128831035 : Int32).toBitVec.toNat)).symm))).2 (pc' := 240) rfl ?_
    refine g_iconst X (1 : Int32) at_240 (pc' := 241) rfl rfl ?_
    refine g_goto X at_241 (pc' := 245) (by decide) (by decide) ?_
    refine g_ireturnN X (t := .boolean) (by simp) at_245 hret hlk (by decide) (by decide) ?_
    exact ⟨rfl, N⟩
set_option maxRecDepth 65536 in
set_option maxHeartbeats 40000000 in
theorem comes_1 {Post : Tables → Env → Array Value → State → Outcome → State → Prop} (hpost : ∀ tb e args s v u, (limb_1_1.after args s (.returned v) u = true ∧ limb_1_2.after args s (.returned v) u = true ∧ True) → FrameEnd s (.returned v) u (Jvm.fieldLocs frame_1_writes args s ++ Jvm.arrayLocs frame_1_arrays args s ++ Jvm.staticLocs frame_1_statics s) 16 128 → Post tb e args s (.returned v) u) :
    ArmFor flags0 classFile x code maxLocals ret World_1 tables_1 room_1 Calls_1 rest_1 Pre_1 Post := by
  intro l hfl _ _ p e ha hc hk s m args below hf hA hF happ hP
  obtain ⟨hcalls, hrest, hpre⟩ := hP
  obtain ⟨-, -, -, hnamed, -, -, -, hat⟩ := (Spec.applies_iff hf).mp happ
  obtain ⟨hg, hn⟩ := and_e (Cond.before_iff.mp (show (Jvm.Cond.and given_1 narrow_1).before args s = true from hpre))
  obtain ⟨g1, g2⟩ := and_e hg
  obtain ⟨g3, g4⟩ := and_e g2
  obtain ⟨g5, g6⟩ := and_e g4
  obtain ⟨g7, g8⟩ := and_e g6
  obtain ⟨w0, w1, w2, w3, rfl⟩ : ∃ w0 w1 w2 w3 : Value, args = #[w0, w1, w2, w3] := by
    have hs : args.size = 4 := by simpa [Cond.value, given_1] using g1
    obtain ⟨L⟩ := args
    match L, hs with
    | [w0, w1, w2, w3], _ => exact ⟨w0, w1, w2, w3, rfl⟩
  have hw := fun d (hd : d ∈ tables_1) => atoms_spec (ws := Jvm.Cond.code x code maxLocals ret :: tables_1) hat d (List.mem_cons_of_mem _ hd)
  have hfit : Fit s := fun {y c} hc i hi => by
    obtain ⟨ha, rfl⟩ := Array.getElem?_eq_some_iff.mp hc
    have q := List.all_eq_true.mp ((Array.all_eq_true_iff_forall_mem.mp hF) _ (Array.getElem_mem ha)) i (List.mem_range.mpr hi)
    simpa [Array.getElem?_eq_getElem hi] using q
  obtain ⟨i0, ei0⟩ := is_v g3
  obtain rfl : w0 = (.int i0) := Option.some.inj ei0
  obtain ⟨i1, ei1⟩ := is_v g5
  obtain rfl : w1 = (.int i1) := Option.some.inj ei1
  obtain ⟨i2, ei2⟩ := is_v g7
  obtain rfl : w2 = (.int i2) := Option.some.inj ei2
  obtain ⟨i3, ei3⟩ := is_v g8
  obtain rfl : w3 = (.int i3) := Option.some.inj ei3
  obtain ⟨n, o, h1, h2, h3, _, L, rfl, ⟨rfl, N⟩, hq⟩ := rLaw l s _ hw tables_1 i0 i1 i2 i3 s.heap s.heap.size (Nat.le_refl _) p e ha hc hk s m _ below hf ((Spec.applies_iff_loose hf).mp happ).1 ⟨rfl, State.Warmed39.refl s, rfl⟩ trivial
  refine ⟨n, _, h1, h2, h3, hpost _ _ _ _ _ _ ⟨Cond.after_iff.mpr rfl, Cond.after_iff.mpr (eq_i res_at (Term.int_eval (1)) rfl), trivial⟩ ⟨hq.1, hq.2.1, (hq.2.2.sift fun y hy => Or.inr (N y hy)).mono (by decide) (by decide)⟩⟩
theorem main_1_1 : Claimed_1_1 := comes_1 fun _ _ _ _ _ _ h hF => ⟨h.1, hF⟩
theorem main_1_2 : Claimed_1_2 := comes_1 fun _ _ _ _ _ _ h hF => ⟨h.2.1, hF⟩
end Jvm.Pilot.@@N@@
namespace Jvm.Pilot.@@N@@
open Jvm Jvm.ClassFile Sem Op Lib Jvm.Free Jvm.Stand Jvm.Pilot.@@N@@.Jvm.D
/-! MADE BY PROGRAM (witnessworld.py) out of the Statement's table words and the real class files: 10 classes; the members and pool entries that the words name. The judged class is class 1, her method 3. -/
namespace start1
open Jvm.ClassFile
def u (s : String) : CpInfo := .utf8 (stringToUtf16 s)
/-- a pool by its gaps: so many unusable entries, then the entry; so many at the end -/
def gap : Nat → List CpInfo → List CpInfo
  | 0, r => r
  | n + 1, r => .unusable :: gap n r
def poolList (es : List (Nat × CpInfo)) (last : Nat) : List CpInfo := es.foldr (fun e r => gap e.1 (e.2 :: r)) (gap last [])
def pool (es : List (Nat × CpInfo)) (last : Nat) : Array CpInfo := ⟨poolList es last⟩
def fileOf (pool : Array CpInfo) (this : Nat) (attrs : Array Attribute := #[]) (ms : Array MethodInfo := #[]) (fl : Nat := 33) (sup : Nat := 0) (ifs : Array Nat := #[]) (fds : Array FieldInfo := #[]) : ClassFile where
  minorVersion := 0
  majorVersion := 65
  constantPool := pool
  accessFlags := fl
  thisClass := this
  superClass := sup
  interfaces := ifs
  fields := fds
  methods := ms
  attributes := attrs
def plain (name : String) (sup : Option ClassId) : Class where
  name := name
  kind := .ordinary
  loader := none
  accessFlags := 33
  super := sup
  interfaces := #[]
  cf := none
  fields := #[]
  methods := #[]
  instanceTypes := #[]
  staticTypes := #[]
  resolved := #[]
  callSites := []
  init := .initialized
  statics := none
  mirror := none

def pool0 : Array CpInfo := pool [(5, u "<init>"), (0, u "()V"), (1, .class_ 10), (1, u "java/lang/Object")] 113

def k0m0 : Method := { name := "<init>", desc := "()V", sig := { parameters := [], returnType := none }, accessFlags := 1, code := none }
/-- java/lang/Object -/
def k0 : Class := { plain "java/lang/Object" none with
  accessFlags := 33
  interfaces := #[]
  cf := some (fileOf pool0 8 #[] #[{ accessFlags := 1, nameIndex := 5, descriptorIndex := 6, attributes := #[] }] 33 0 #[] #[])
  fields := #[]
  methods := #[k0m0]
  instanceTypes := #[]
  staticTypes := #[]
  resolved := Array.replicate 124 none
  statics := none }

def pool1 : Array CpInfo := pool [(2, .class_ 4), (1, u "java/lang/Object"), (0, u "<init>"), (0, u "()V"), (0, .long 255), (1, .long 16777619), (1, .class_ 12), (0, u "com/example/pathlattice/pathlattice/graph/StringsHashPinLaw"), (0, .long 4294967295), (1, .long 2246822507), (1, .long 3266489909), (1, .integer 2147483647), (0, .methodref 21 22), (0, .class_ 23), (0, .nameAndType 24 25), (0, u "java/lang/Math"), (0, u "min"), (0, u "(II)I"), (0, .methodref 21 27), (0, .nameAndType 28 25), (0, u "max"), (0, .long 2166136261), (1, .methodref 11 32), (0, .nameAndType 33 34), (0, u "step"), (0, u "(JB)J"), (0, .methodref 11 36), (0, .nameAndType 37 38), (0, u "fmix"), (0, u "(J)I"), (0, .methodref 40 41), (0, .class_ 42), (0, .nameAndType 43 44), (0, u "com/example/pathlattice/pathlattice/graph/Strings"), (0, u "hash"), (0, u "([BII)I"), (0, u "MASK"), (0, u "J"), (3, u "law"), (0, u "(IIII)Z")] 5

def k1m0 : Method := { name := "<init>", desc := "()V", sig := { parameters := [], returnType := none }, accessFlags := 1, code := none }
def k1c1 : Code := { maxStack := 6, maxLocals := 3, code := method_2_code, exceptionTable := #[], attributes := #[] }
def k1m1 : Method := { name := "step", desc := "(JB)J", sig := { parameters := [.long, .byte], returnType := some .long }, accessFlags := 10, code := some k1c1 }
def k1c2 : Code := { maxStack := 5, maxLocals := 2, code := method_3_code, exceptionTable := #[], attributes := #[] }
def k1m2 : Method := { name := "fmix", desc := "(J)I", sig := { parameters := [.long], returnType := some .int }, accessFlags := 10, code := some k1c2 }
def k1c3 : Code := { maxStack := 5, maxLocals := 13, code := code, exceptionTable := #[], attributes := #[] }
def k1m3 : Method := { name := "law", desc := "(IIII)Z", sig := { parameters := [.int, .int, .int, .int], returnType := some .boolean }, accessFlags := 9, code := some k1c3 }
/-- com/example/pathlattice/pathlattice/graph/StringsHashPinLaw -/
def k1 : Class := { plain "com/example/pathlattice/pathlattice/graph/StringsHashPinLaw" (some 0) with
  accessFlags := 49
  interfaces := #[]
  cf := some (fileOf pool1 11 #[] #[{ accessFlags := 1, nameIndex := 5, descriptorIndex := 6, attributes := #[] }, { accessFlags := 10, nameIndex := 33, descriptorIndex := 34, attributes := #[] }, { accessFlags := 10, nameIndex := 37, descriptorIndex := 38, attributes := #[] }, { accessFlags := 9, nameIndex := 50, descriptorIndex := 51, attributes := #[] }] 49 2 #[] #[{ accessFlags := 26, nameIndex := 45, descriptorIndex := 46, attributes := #[] }])
  fields := #[{ name := "MASK", type := .long, accessFlags := 26, slot := 0, constantValue := 0 }]
  methods := #[k1m0, k1m1, k1m2, k1m3]
  instanceTypes := #[]
  staticTypes := #[.long]
  resolved := Array.replicate 57 none
  statics := none }

def pool2 : Array CpInfo := pool [(1, .class_ 2), (0, u "java/lang/Math"), (1, .class_ 6), (1, u "java/lang/Object"), (0, u "<init>"), (0, u "()V"), (89, .class_ 100), (1, u "java/lang/Math$RandomNumberGeneratorHolder"), (71, u "negativeZeroFloatBits"), (0, u "J"), (2, u "negativeZeroDoubleBits"), (21, u "max"), (2, u "min"), (43, u "$assertionsDisabled"), (0, u "Z"), (88, u "(II)I"), (2, u "twoToTheDoubleScaleDown"), (0, u "D"), (4, u "twoToTheDoubleScaleUp"), (9, u "E"), (3, u "PI"), (2, u "TAU"), (2, u "DEGREES_TO_RADIANS"), (0, u "RADIANS_TO_DEGREES")] 94

def k2m0 : Method := { name := "<init>", desc := "()V", sig := { parameters := [], returnType := none }, accessFlags := 2, code := none }
def k2c1 : Code := { maxStack := 2, maxLocals := 2, code := jdk_29_method_65_code, exceptionTable := #[], attributes := #[] }
def k2m1 : Method := { name := "max", desc := "(II)I", sig := { parameters := [.int, .int], returnType := some .int }, accessFlags := 9, code := some k2c1 }
def k2c2 : Code := { maxStack := 2, maxLocals := 2, code := jdk_29_method_69_code, exceptionTable := #[], attributes := #[] }
def k2m2 : Method := { name := "min", desc := "(II)I", sig := { parameters := [.int, .int], returnType := some .int }, accessFlags := 9, code := some k2c2 }
/-- java/lang/Math -/
def k2 : Class := { plain "java/lang/Math" (some 0) with
  accessFlags := 49
  interfaces := #[]
  cf := some (fileOf pool2 1 #[.nestMembers #[98]] #[{ accessFlags := 2, nameIndex := 7, descriptorIndex := 8, attributes := #[] }, { accessFlags := 9, nameIndex := 198, descriptorIndex := 335, attributes := #[] }, { accessFlags := 9, nameIndex := 201, descriptorIndex := 335, attributes := #[] }] 49 4 #[] #[{ accessFlags := 25, nameIndex := 354, descriptorIndex := 339, attributes := #[] }, { accessFlags := 25, nameIndex := 358, descriptorIndex := 339, attributes := #[] }, { accessFlags := 25, nameIndex := 361, descriptorIndex := 339, attributes := #[] }, { accessFlags := 26, nameIndex := 364, descriptorIndex := 339, attributes := #[] }, { accessFlags := 26, nameIndex := 365, descriptorIndex := 339, attributes := #[] }, { accessFlags := 26, nameIndex := 172, descriptorIndex := 173, attributes := #[] }, { accessFlags := 26, nameIndex := 176, descriptorIndex := 173, attributes := #[] }, { accessFlags := 8, nameIndex := 344, descriptorIndex := 339, attributes := #[] }, { accessFlags := 8, nameIndex := 338, descriptorIndex := 339, attributes := #[] }, { accessFlags := 4120, nameIndex := 245, descriptorIndex := 246, attributes := #[] }])
  fields := #[{ name := "E", type := .double, accessFlags := 25, slot := 0, constantValue := 0 }, { name := "PI", type := .double, accessFlags := 25, slot := 1, constantValue := 0 }, { name := "TAU", type := .double, accessFlags := 25, slot := 2, constantValue := 0 }, { name := "DEGREES_TO_RADIANS", type := .double, accessFlags := 26, slot := 3, constantValue := 0 }, { name := "RADIANS_TO_DEGREES", type := .double, accessFlags := 26, slot := 4, constantValue := 0 }, { name := "negativeZeroFloatBits", type := .long, accessFlags := 26, slot := 5, constantValue := 0 }, { name := "negativeZeroDoubleBits", type := .long, accessFlags := 26, slot := 6, constantValue := 0 }, { name := "twoToTheDoubleScaleUp", type := .double, accessFlags := 8, slot := 7, constantValue := 0 }, { name := "twoToTheDoubleScaleDown", type := .double, accessFlags := 8, slot := 8, constantValue := 0 }, { name := "$assertionsDisabled", type := .boolean, accessFlags := 4120, slot := 9, constantValue := 0 }]
  methods := #[k2m0, k2m1, k2m2]
  instanceTypes := #[]
  staticTypes := #[.double, .double, .double, .double, .double, .long, .long, .double, .double, .boolean]
  resolved := Array.replicate 460 none
  statics := none }

def pool3 : Array CpInfo := pool [(2, .class_ 4), (1, u "java/lang/Object"), (13, .class_ 20), (1, u "com/example/pathlattice/pathlattice/graph/Strings"), (0, u "offsets"), (0, u "[I"), (2, u "bytes"), (0, u "[B"), (101, u "hash"), (0, u "([BII)I"), (0, .integer 2166136261), (0, .integer 16777619), (0, .integer 2246822507), (0, .integer 3266489909)] 42

def k3c0 : Code := { maxStack := 3, maxLocals := 5, code := prog_27_method_10_code, exceptionTable := #[], attributes := #[] }
def k3m0 : Method := { name := "hash", desc := "([BII)I", sig := { parameters := [(.array .byte), .int, .int], returnType := some .int }, accessFlags := 8, code := some k3c0 }
/-- com/example/pathlattice/pathlattice/graph/Strings -/
def k3 : Class := { plain "com/example/pathlattice/pathlattice/graph/Strings" (some 0) with
  accessFlags := 49
  interfaces := #[]
  cf := some (fileOf pool3 18 #[] #[{ accessFlags := 8, nameIndex := 128, descriptorIndex := 129, attributes := #[] }] 49 2 #[] #[{ accessFlags := 18, nameIndex := 21, descriptorIndex := 22, attributes := #[] }, { accessFlags := 18, nameIndex := 25, descriptorIndex := 26, attributes := #[] }])
  fields := #[{ name := "offsets", type := (.array .int), accessFlags := 18, slot := 0, constantValue := 0 }, { name := "bytes", type := (.array .byte), accessFlags := 18, slot := 1, constantValue := 0 }]
  methods := #[k3m0]
  instanceTypes := #[(.array .int), (.array .byte)]
  staticTypes := #[]
  resolved := Array.replicate 176 none
  statics := none }

def pool4 : Array CpInfo := pool [(1, u "java/lang/Cloneable"), (0, .class_ 1), (0, u "java/lang/Object"), (0, .class_ 3)] 3

/-- java/lang/Cloneable -/
def k4 : Class := { plain "java/lang/Cloneable" (some 0) with
  accessFlags := 1537
  interfaces := #[]
  cf := some (fileOf pool4 2 #[] #[] 1537 4 #[] #[])
  fields := #[]
  methods := #[]
  instanceTypes := #[]
  staticTypes := #[]
  resolved := Array.replicate 8 none
  statics := none }

def pool5 : Array CpInfo := pool [(1, u "java/io/Serializable"), (0, .class_ 1), (0, u "java/lang/Object"), (0, .class_ 3)] 3

/-- java/io/Serializable -/
def k5 : Class := { plain "java/io/Serializable" (some 0) with
  accessFlags := 1537
  interfaces := #[]
  cf := some (fileOf pool5 2 #[] #[] 1537 4 #[] #[])
  fields := #[]
  methods := #[]
  instanceTypes := #[]
  staticTypes := #[]
  resolved := Array.replicate 8 none
  statics := none }

/-- the primitive byte -/
def k6 : Class := { plain "byte" none with kind := .primitive 'B', accessFlags := 0x411 }
/-- [B -/
def k7 : Class := { plain "[B" (some 0) with kind := .array 6 .byte, interfaces := #[4, 5], accessFlags := 1041 }

/-- the primitive int -/
def k8 : Class := { plain "int" none with kind := .primitive 'I', accessFlags := 0x411 }
/-- [I -/
def k9 : Class := { plain "[I" (some 0) with kind := .array 8 .int, interfaces := #[4, 5], accessFlags := 1041 }

def heap : Heap := #[]
def classes : Array Class := #[k0, k1, k2, k3, k4, k5, k6, k7, k8, k9]
def interned : List (Array UInt16 × Addr) := []
def slotsUsed : Nat := 0
def theMethod : MethodId := ⟨1, 3⟩
def args0 : Array Value := #[.int 5, .int 7, .int 3, .int 9]
def aboutOver (below : List Frame) : State where
  vm := { classes := classes, interned := interned.toArray }
  heap := heap
  slotsUsed := slotsUsed
  threads := #[{ frames := .invoking theMethod args0 :: below }]
def below0 : List Frame := [.native { method := ⟨0, 0⟩, args := #[] }]
def about1 : State := aboutOver below0
def p0 : Program := .bare "" "" ""
def e0 : Env := launch0.env 0 0 0
theorem w_frames : about1.frames = Frame.invoking theMethod args0 :: below0 := rfl
set_option maxRecDepth 65536 in
theorem w_args : argsFit about1.vm theMethod args0 = true := by decide +kernel
set_option maxRecDepth 65536 in
theorem w_heap : heapFits about1 = true := by decide +kernel
set_option maxRecDepth 65536 in
theorem w_runnable : about1.curStatus? = some .runnable := by decide +kernel
set_option maxRecDepth 65536 in
theorem w_alone : about1.alone = true := by decide +kernel
set_option maxRecDepth 65536 in
theorem w_named : about1.methodNamed? x = some theMethod := by decide +kernel
set_option maxRecDepth 65536 in
theorem w_hears : about1.hears theMethod below0 = true := by decide +kernel
set_option maxRecDepth 65536 in
theorem w_ripe : about1.ripe theMethod args0 below0 = true := by decide +kernel
theorem w_running : about1.status = .running := rfl
set_option maxRecDepth 65536 in
theorem w_room : about1.hasRoom e0.platform room_1 = true :=
  launch0.hasRoom_least _ room_1 (by decide +kernel) (by decide +kernel) (by decide +kernel) (by decide +kernel) (by decide +kernel) (by decide +kernel)
theorem allAtoms_all (ts : List Jvm.Cond) (a : Array Jvm.Value) (st : Jvm.State) : (allAtoms ts).before a st = ts.all (fun c => c.before a st) := by
  induction ts with
  | nil => rfl
  | cons c t ih =>
    show (Jvm.Cond.and c (allAtoms t)).before a st = _
    rw [Jvm.Cond.before_and, ih, List.all_cons]
def words1 : List Jvm.Cond := Jvm.Cond.code x code maxLocals ret :: tables_1
/-- a 'code' word, met by the world's own term for the bytes: nothing is compared byte by byte -/
theorem code_word {y : MethodName} {bytes : ByteArray} {mx : Nat} {rt : Option FieldType} {a : Array Value} {s : State} {m : MethodId} {meth : Method} {c : Code} (h1 : s.methodNamed? y = some m) (h2 : s.vm.method? m = some meth) (h3 : meth.code = some c) (h4 : c.code = bytes)
    (h5 : (c.maxLocals == mx && c.exceptionTable.isEmpty && decide (c.maxStack ≤ mostOperands) && decide (meth.sig.returnType = rt) && !meth.locks && decide (parseMethodDescriptor y.desc = some meth.sig)) = true) : (Jvm.Cond.code y bytes mx rt).before a s = true := by
  simp only [Bool.and_eq_true, beq_iff_eq, Bool.not_eq_true', decide_eq_true_eq] at h5
  obtain ⟨⟨⟨⟨⟨g1, g2⟩, g3⟩, g4⟩, g5⟩, g6⟩ := h5
  simp [Cond.before, Cond.holds, Cond.value, h1, h2, h3, h4, g1, g2, g3, g4, g5, g6]
def isCode : Jvm.Cond → Bool
  | .code _ _ _ _ => true
  | _ => false
theorem all_split {L : List Jvm.Cond} {P : Jvm.Cond → Bool} (h1 : L.all (fun c => isCode c || P c) = true) (h2 : ∀ c ∈ L.filter isCode, P c = true) : L.all P = true := by
  refine List.all_eq_true.mpr fun c hc => ?_
  have h := List.all_eq_true.mp h1 c hc
  rcases Bool.eq_false_or_eq_true (isCode c) with hi | hi
  · exact h2 c (List.mem_filter.mpr ⟨hc, hi⟩)
  · simpa [hi] using h
set_option maxRecDepth 65536 in
theorem w_c0 : (Jvm.Cond.code x code maxLocals ret).before args0 about1 = true := code_word (m := ⟨1, 3⟩) (meth := k1m3) (c := k1c3) (by decide +kernel) rfl rfl rfl (by decide +kernel)
set_option maxRecDepth 65536 in
theorem w_c1 : (Jvm.Cond.code ({ cls := "java/lang/Math", name := "min", desc := "(II)I" } : Jvm.MethodName) jdk_29_method_69_code (2 : Nat) (Option.some Jvm.ClassFile.FieldType.int)).before args0 about1 = true := code_word (m := ⟨2, 2⟩) (meth := k2m2) (c := k2c2) (by decide +kernel) rfl rfl rfl (by decide +kernel)
set_option maxRecDepth 65536 in
theorem w_c2 : (Jvm.Cond.code ({ cls := "java/lang/Math", name := "max", desc := "(II)I" } : Jvm.MethodName) jdk_29_method_65_code (2 : Nat) (Option.some Jvm.ClassFile.FieldType.int)).before args0 about1 = true := code_word (m := ⟨2, 1⟩) (meth := k2m1) (c := k2c1) (by decide +kernel) rfl rfl rfl (by decide +kernel)
set_option maxRecDepth 65536 in
theorem w_c3 : (Jvm.Cond.code ({ cls := "com/example/pathlattice/pathlattice/graph/StringsHashPinLaw", name := "step", desc := "(JB)J" } : Jvm.MethodName) method_2_code (3 : Nat) (Option.some Jvm.ClassFile.FieldType.long)).before args0 about1 = true := code_word (m := ⟨1, 1⟩) (meth := k1m1) (c := k1c1) (by decide +kernel) rfl rfl rfl (by decide +kernel)
set_option maxRecDepth 65536 in
theorem w_c4 : (Jvm.Cond.code ({ cls := "com/example/pathlattice/pathlattice/graph/StringsHashPinLaw", name := "fmix", desc := "(J)I" } : Jvm.MethodName) method_3_code (2 : Nat) (Option.some Jvm.ClassFile.FieldType.int)).before args0 about1 = true := code_word (m := ⟨1, 2⟩) (meth := k1m2) (c := k1c2) (by decide +kernel) rfl rfl rfl (by decide +kernel)
set_option maxRecDepth 65536 in
theorem w_c5 : (Jvm.Cond.code ({ cls := "com/example/pathlattice/pathlattice/graph/Strings", name := "hash", desc := "([BII)I" } : Jvm.MethodName) prog_27_method_10_code (5 : Nat) (Option.some Jvm.ClassFile.FieldType.int)).before args0 about1 = true := code_word (m := ⟨3, 0⟩) (meth := k3m0) (c := k3c0) (by decide +kernel) rfl rfl rfl (by decide +kernel)
def codes1 : List Jvm.Cond := [Jvm.Cond.code x code maxLocals ret, Jvm.Cond.code ({ cls := "java/lang/Math", name := "min", desc := "(II)I" } : Jvm.MethodName) jdk_29_method_69_code (2 : Nat) (Option.some Jvm.ClassFile.FieldType.int), Jvm.Cond.code ({ cls := "java/lang/Math", name := "max", desc := "(II)I" } : Jvm.MethodName) jdk_29_method_65_code (2 : Nat) (Option.some Jvm.ClassFile.FieldType.int), Jvm.Cond.code ({ cls := "com/example/pathlattice/pathlattice/graph/StringsHashPinLaw", name := "step", desc := "(JB)J" } : Jvm.MethodName) method_2_code (3 : Nat) (Option.some Jvm.ClassFile.FieldType.long), Jvm.Cond.code ({ cls := "com/example/pathlattice/pathlattice/graph/StringsHashPinLaw", name := "fmix", desc := "(J)I" } : Jvm.MethodName) method_3_code (2 : Nat) (Option.some Jvm.ClassFile.FieldType.int), Jvm.Cond.code ({ cls := "com/example/pathlattice/pathlattice/graph/Strings", name := "hash", desc := "([BII)I" } : Jvm.MethodName) prog_27_method_10_code (5 : Nat) (Option.some Jvm.ClassFile.FieldType.int)]
set_option maxRecDepth 65536 in
theorem codes_eq : words1.filter isCode = codes1 := rfl
theorem w_codes : ∀ c ∈ words1.filter isCode, c.before args0 about1 = true := by
  rw [codes_eq]
  intro c hc
  simp only [codes1, List.mem_cons, List.not_mem_nil, or_false] at hc
  rcases hc with rfl | rfl | rfl | rfl | rfl | rfl
  · exact w_c0
  · exact w_c1
  · exact w_c2
  · exact w_c3
  · exact w_c4
  · exact w_c5
set_option maxRecDepth 65536 in
theorem w_t1 : (words1.take 24).all (fun c => isCode c || c.before args0 about1) = true := by decide +kernel
set_option maxRecDepth 65536 in
theorem w_t2 : (words1.drop 24).all (fun c => isCode c || c.before args0 about1) = true := by decide +kernel
theorem w_tables : (allAtoms (Jvm.Cond.code x code maxLocals ret :: tables_1)).before args0 about1 = true := by
  rw [allAtoms_all]
  show words1.all (fun c => c.before args0 about1) = true
  refine all_split ?_ w_codes
  rw [← List.take_append_drop 24 words1, List.all_append, w_t1, w_t2]
  rfl
set_option maxRecDepth 65536 in
theorem w_case : (Jvm.Cond.and given_1 narrow_1).before args0 about1 = true := by decide +kernel
theorem w_applies : (headSpec (Jvm.Cond.code x code maxLocals ret :: tables_1) room_1).applies x e0.platform about1 = true :=
  (Spec.applies_iff w_frames).mpr ⟨w_running, w_runnable, w_alone, w_named, w_hears, w_ripe, w_room, w_tables⟩
theorem atStart : AtStart classFile x code maxLocals ret World_1 tables_1 room_1 Calls_1 rest_1 Pre_1 launch0 p0 e0 about1 theMethod args0 below0 :=
  ⟨lists_1, trivial, launch0.admits_env _ _ _, launch0.least_env, fairChoices_fair.cas, fairChoices_fair.clock, w_frames, w_args, w_heap, w_applies, trivial, trivial, w_case⟩
end start1
theorem witness_1 : WitnessClaimed_1 := ⟨start1.p0, start1.e0, start1.about1, start1.theMethod, start1.args0, start1.below0, start1.atStart⟩
end Jvm.Pilot.@@N@@
