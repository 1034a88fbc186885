import JvmDerived
import JvmDerived.Pilot.@@N@@Statement
import JvmDerived.Pilot.@@N@@Code
set_option linter.unusedVariables false
set_option linter.unusedSimpArgs false
namespace Jvm.RoadKit
open Sem ClassFile Op Lib Jvm.Stand Jvm.Free Jvm.LawKit
section New
variable {p : Program} {l : Launch} {e : Env} {R : Room} {s : State} {m : MethodId} {args : Array Value} {below : List Frame} {meth : Method} {c : Code} {T : State} {locs : List Loc} {cells slots : Nat}
theorem retI (X : Stand p l e R s m args below meth c T locs cells slots) (hx : p.tables.exec = Jvm.exec) {pc : Nat} {Ls : Array Slot} {z : Int32} {rest : List Value} (hret : meth.sig.returnType = some .int) (hd : decode c.code pc = .ok (.ireturn, 1)) {fs : List Frame}
    (hl : ∀ (f : JFrame) (acts : List Action), f.method = m → f.locked = none → f.entered = [] → (doReturn e (T.setTop f) acts (some (.int z))).1 = T.setFrames fs) : Steps p.tables e below (T.setTop (mkF m pc Ls (.int z :: rest))) (T.setFrames fs) := by
  have hm' : T.vm.method? m = some meth := X.method'
  have hn : narrow .int (.int z) = .int z := rfl
  show Steps p.tables e below (T.setTop { method := m, pc := pc, locals := Ls, stack := _ :: rest, locked := none }) _
  jvm_step X.here [X.here.top, hx, hd, hm', hret, hn]
  first | (intro acts; rw [hl _ acts rfl rfl rfl]) | rw [hl _ _ rfl rfl rfl]
  exact Steps.refl _
theorem retJ (X : Stand p l e R s m args below meth c T locs cells slots) (hx : p.tables.exec = Jvm.exec) {pc : Nat} {Ls : Array Slot} {z : Int64} {rest : List Value} (hret : meth.sig.returnType = some .long) (hd : decode c.code pc = .ok (.lreturn, 1)) {fs : List Frame}
    (hl : ∀ (f : JFrame) (acts : List Action), f.method = m → f.locked = none → f.entered = [] → (doReturn e (T.setTop f) acts (some (.long z))).1 = T.setFrames fs) : Steps p.tables e below (T.setTop (mkF m pc Ls (.long z :: rest))) (T.setFrames fs) := by
  have hm' : T.vm.method? m = some meth := X.method'
  have hn : narrow .long (.long z) = .long z := rfl
  show Steps p.tables e below (T.setTop { method := m, pc := pc, locals := Ls, stack := _ :: rest, locked := none }) _
  jvm_step X.here [X.here.top, hx, hd, hm', hret, hn]
  first | (intro acts; rw [hl _ acts rfl rfl rfl]) | rw [hl _ _ rfl rfl rfl]
  exact Steps.refl _
end New
end Jvm.RoadKit
namespace Jvm.Pilot.@@N@@
open Jvm Jvm.ClassFile Sem Op Lib Jvm.Free Jvm.Stand Jvm.LawKit Jvm.RoadKit Bundle Jvm.Pilot.@@N@@.Jvm.D
/-! THE WALK's GOAL, AND ONE LAW A STEP (each in the form: where the run goes on, it ends well; so it does from here) -/
def Go (p : Program) (e : Env) (below : List Frame) (K : Outcome → State → Prop) (u : State) : Prop := ∃ s₂ o, Steps p.tables e below u s₂ ∧ s₂.status = .running ∧ Ended s₂ below o ∧ K o s₂
theorem Go.step {p : Program} {e : Env} {below : List Frame} {K : Outcome → State → Prop} {u u' : State} (h : ∀ t, Steps p.tables e below u' t → Steps p.tables e below u t) (g : Go p e below K u') : Go p e below K u := by
  obtain ⟨a, o, h1, h2⟩ := g; exact ⟨a, o, h _ h1, h2⟩
def Ends (s : State) (Q : Option Value → Heap → List Loc → Prop) (kc ks : Nat) (o : Outcome) (U : State) : Prop := ∃ v L, o = .returned v ∧ Q v U.heap L ∧ FrameEnd s o U L kc ks
/-- where the run stands, with all that a step asks -/
def Sx (Z : State) (own : String) (bytes : ByteArray) (ml : Nat) (p : Program) (l : Launch) (e : Env) (R : Room) (s : State) (m : MethodId) (args : Array Value) (below : List Frame) (meth : Method) (c : Code) (T : State) (locs : List Loc) (cells slots : Nat) (h : Heap) : Prop :=
  Stand p l e R s m args below meth c T locs cells slots ∧ p.tables.exec = Jvm.exec ∧ c.code = bytes ∧ c.maxLocals = ml ∧ s.vm.findClass own = some m.cls ∧ Z.Warmed39 s.vm ∧ T.heap = h
/-- what a method owes: called at the heap h0 with these arguments it returns, and Q holds -/
abbrev Rm (l : Launch) (Z : State) (y : MethodName) (bytes : ByteArray) (ml : Nat) (ret : Option FieldType) (ws : List Jvm.Cond) (rm : Room) (as' : Array Value) (h0 : Heap) (Q : Option Value → Heap → List Loc → Prop) : Prop :=
  MetFree l y (head1 (Jvm.Cond.code y bytes ml ret :: ws) rm) (fun a U => a = as' ∧ Z.Warmed39 U.vm ∧ U.heap = h0) (fun _ _ _ _ _ => True) (fun _ U o U' => ∃ v L, o = .returned v ∧ Q v U'.heap L ∧ FrameEnd U o U' L rm.cells rm.slots)
theorem Rm.of {l : Launch} {Z : State} {y : MethodName} {bytes : ByteArray} {ml : Nat} {ret : Option FieldType} {ws : List Jvm.Cond} {rm : Room} {as' : Array Value} {h0 : Heap} {Q : Option Value → Heap → List Loc → Prop} (hpl : plainFor y = true)
    (body : ∀ (p : Program) (e : Env) (s : State) (m : MethodId) (below : List Frame) (meth : Method) (c : Code) (T : State), Sx Z y.cls bytes ml p l e rm s m as' below meth c T [] 0 0 h0 → meth.name = y.name → meth.sig.returnType = ret → meth.locks = false → Go p e below (Ends s Q rm.cells rm.slots) (T.setTop (entryFrame m as' ml))) : Rm l Z y bytes ml ret ws rm as' h0 Q := by
  refine MetFree.of_bodySF hpl hisR ?_
  intro p e s m args below meth c s₁ Bd hml0 hP hK
  obtain ⟨rfl, hZ, hh⟩ := hP
  have X0 : Stand p l e rm s m args below meth c s₁ [] 0 0 := Stand.of_body Bd
  exact body p e s m below meth c s₁ ⟨X0, Bd.exec, Bd.bytes, hml0, findClass_of_methodNamed Bd.named, hZ, by rw [← hh, Bd.state]; rfl⟩ (name_of_methodNamed Bd.named Bd.method).1 Bd.returns (BodyLoose.notSynchronized Bd)
theorem Rm.weaken {l : Launch} {Z : State} {y : MethodName} {bytes : ByteArray} {ml : Nat} {ret : Option FieldType} {ws : List Jvm.Cond} {rm : Room} {as' : Array Value} {h0 : Heap} {Q Q' : Option Value → Heap → List Loc → Prop} (M : Rm l Z y bytes ml ret ws rm as' h0 Q) (hq : ∀ v h L, Q v h L → Q' v h L) : Rm l Z y bytes ml ret ws rm as' h0 Q' := by
  intro p e ha hc hk s m args below hf happ hP hK
  obtain ⟨n, o, h1, h2, h3, v, L, e1, q, r⟩ := M p e ha hc hk s m args below hf happ hP hK
  exact ⟨n, o, h1, h2, h3, v, L, e1, hq _ _ _ q, r⟩
/-- a boolean as an int -/
def b2i (b : Bool) : Int32 := if b then 1 else 0
theorem m1_int : (-1 : Int32).toInt = -1 := rfl
theorem b2i_t : b2i true = 1 := rfl
theorem b2i_f : b2i false = 0 := rfl
theorem nar_b2i (b : Bool) : nar .boolean (b2i b) = b2i b := by cases b <;> rfl
theorem bne {b : Bool} (h : b = true) : ¬ b2i b = 0 := by subst h; decide
theorem beq0 {b : Bool} (h : ¬ b = true) : b2i b = 0 := by simp at h; subst h; rfl
theorem Fr.one {k : Nat} {a : Addr} {sl : Nat} (g : k ≤ a) : Fr k [⟨a, sl⟩] := fun y hy => by cases List.mem_singleton.mp hy; exact g
/-- an array and all that it holds -/
def Av (Z : State) (h : Heap) (a : Addr) (ty : FieldType) (vs : List Value) : Prop := ∃ c : Cell, Arr Z h a c ty ∧ c.slots.toList = vs ∧ vs.length < 2147483648
section Facts
variable {Z : State} {h h' : Heap} {a b : Addr} {ty : FieldType} {vs : List Value} {sl : Nat} {v : Value} {ws : List Addr}
theorem Av.lt (F : Av Z h a ty vs) : a < h.size := by obtain ⟨c, A, -⟩ := F; exact A.lt
theorem Av.ext (F : Av Z h a ty vs) (E : Ext h h') : Av Z h' a ty vs := by obtain ⟨c, A, r⟩ := F; exact ⟨c, A.ext E, r⟩
theorem Av.other (F : Av Z h b ty vs) (W : Wr h h' a sl v) (q : b ≠ a) : Av Z h' b ty vs := by obtain ⟨c, A, r⟩ := F; exact ⟨c, A.other W q, r⟩
theorem Av.keep (F : Av Z h a ty vs) (K : Keep h h' ws) (q : a ∉ ws) : Av Z h' a ty vs := by obtain ⟨c, A, r⟩ := F; exact ⟨c, ⟨K.2.1 a c A.1 q, A.2⟩, r⟩
theorem Av.set (F : Av Z h a ty vs) (W : Wr h h' a sl v) : Av Z h' a ty (vs.set sl v) := by
  obtain ⟨c, A, e, r⟩ := F
  refine ⟨_, A.same W, ?_, by simpa using r⟩
  subst e
  simp [Cell.setSlot]
theorem Av.eq {vs' : List Value} (F : Av Z h a ty vs) (e : vs = vs') : Av Z h a ty vs' := e ▸ F
/-- an array of which the length is known alone -/
def AvN (Z : State) (h : Heap) (a : Addr) (ty : FieldType) (z : Int32) : Prop := ∃ vs, Av Z h a ty vs ∧ vs.length.toInt32 = z
theorem AvN.lt {z : Int32} (F : AvN Z h a ty z) : a < h.size := by obtain ⟨vs, A, -⟩ := F; exact A.lt
theorem AvN.ext {z : Int32} (F : AvN Z h a ty z) (E : Ext h h') : AvN Z h' a ty z := by obtain ⟨vs, A, r⟩ := F; exact ⟨vs, A.ext E, r⟩
theorem AvN.other {z : Int32} (F : AvN Z h b ty z) (W : Wr h h' a sl v) (q : b ≠ a) : AvN Z h' b ty z := by obtain ⟨vs, A, r⟩ := F; exact ⟨vs, A.other W q, r⟩
theorem AvN.keep {z : Int32} (F : AvN Z h a ty z) (K : Keep h h' ws) (q : a ∉ ws) : AvN Z h' a ty z := by obtain ⟨vs, A, r⟩ := F; exact ⟨vs, A.keep K q, r⟩
theorem Av.len (F : Av Z h a ty vs) : vs.length.toInt32.toInt = vs.length := by obtain ⟨_, _, _, r⟩ := F; exact len_toInt r
/-- an array over objects of the class C -/
def OvA (Z : State) (h : Heap) (a : Addr) (C : String) : Prop := ∃ cl : Cell, Arr Z h a cl (.object C) ∧ Ovr Z cl.cls C
theorem OvA.lt {C : String} (F : OvA Z h a C) : a < h.size := by obtain ⟨_, A, _⟩ := F; exact A.lt
theorem OvA.ext {C : String} (F : OvA Z h a C) (E : Ext h h') : OvA Z h' a C := by obtain ⟨cl, A, r⟩ := F; exact ⟨cl, A.ext E, r⟩
theorem OvA.keep {C : String} (F : OvA Z h a C) (K : Keep h h' ws) (q : a ∉ ws) : OvA Z h' a C := by obtain ⟨c, A, r⟩ := F; exact ⟨c, ⟨K.2.1 a c A.1 q, A.2⟩, r⟩
theorem OvA.wr {C : String} (F : OvA Z h a C) (W : Wr h h' b sl v) : OvA Z h' a C := by
  obtain ⟨cl, A, r⟩ := F
  by_cases q : a = b
  · subst q; exact ⟨_, A.same W, r⟩
  · exact ⟨cl, A.other W q, r⟩
theorem OvA.sto {C : String} (F : OvA Z h a C) (I : Ins Z h b C true) : Sto Z h a (.ref b) := by obtain ⟨cl, A, r⟩ := F; exact Sto.of A r I
theorem fit0 : ∀ v ∈ ([] : List Value), fits ty v = true := fun _ q => nomatch q
theorem fitS (q : fits ty v = true) (r : ∀ w ∈ vs, fits ty w = true) : ∀ w ∈ v :: vs, fits ty w = true := fun w hw => (List.mem_cons.mp hw).elim (fun e => e ▸ q) (r w)
theorem Sta.keep {C n d : String} (F : Sta Z h C n d v) (K : Keep h h' ws) (q : ∀ x ∈ ws, ∀ c : Cell, h[x]? = some c → c.vm.isStatics = false) : Sta Z h' C n d v := by
  obtain ⟨cf, i, k, f, st, cell, h1, h2, h3, h4, h5, h6, h7⟩ := F
  exact ⟨cf, i, k, f, st, cell, h1, h2, h3, h4, K.2.1 _ _ h5 (fun hm => by rw [q _ hm _ h5] at h6; cases h6), h6, h7⟩
end Facts
section Walk
variable {Z : State} {a0 : Array Value} {own : String} {bytes : ByteArray} {ml : Nat} {p : Program} {l : Launch} {e : Env} {R : Room} {s : State} {m : MethodId} {args : Array Value} {below : List Frame} {meth : Method} {c : Code} {T : State} {locs : List Loc} {cells slots : Nat} {h : Heap} {K : Outcome → State → Prop} {pc pc' : Nat} {Ls Ls' : Array Slot} {st : List Value}
theorem Go.lit32 {x z : Int32} (q : x = z) (k : Go p e below K (T.setTop (mkF m pc Ls (.int z :: st)))) : Go p e below K (T.setTop (mkF m pc Ls (.int x :: st))) := q ▸ k
theorem Go.lit64 {x z : Int64} (q : x = z) (k : Go p e below K (T.setTop (mkF m pc Ls (.long z :: st)))) : Go p e below K (T.setTop (mkF m pc Ls (.long x :: st))) := q ▸ k
theorem Go.at_ {f f' : JFrame} (q : f = f') (k : Go p e below K (T.setTop f')) : Go p e below K (T.setTop f) := q ▸ k
theorem g_iload (X : Sx Z own bytes ml p l e R s m args below meth c T locs cells slots h) {i : Nat} {v : Int32} (hd : decode bytes pc = .ok (.iload i, 2)) (hp : pc + 2 = pc') (hl : Ls[i]? = some (.val (.int v))) (k : Go p e below K (T.setTop (mkF m pc' Ls (.int v :: st)))) : Go p e below K (T.setTop (mkF m pc Ls (st))) := by
  subst hp; exact Go.step (fun t q => XS.iload X.1.here X.2.1 rfl (hb X.2.2.1 hd) hl q) k
theorem g_iloadN (X : Sx Z own bytes ml p l e R s m args below meth c T locs cells slots h) {i : Fin 4} {v : Int32} (hd : decode bytes pc = .ok (.iload_n i, 1)) (hp : pc + 1 = pc') (hl : Ls[i.val]? = some (.val (.int v))) (k : Go p e below K (T.setTop (mkF m pc' Ls (.int v :: st)))) : Go p e below K (T.setTop (mkF m pc Ls (st))) := by
  subst hp; exact Go.step (fun t q => XS.iloadN X.1.here X.2.1 rfl (hb X.2.2.1 hd) hl q) k
theorem g_lload (X : Sx Z own bytes ml p l e R s m args below meth c T locs cells slots h) {i : Nat} {v : Int64} (hd : decode bytes pc = .ok (.lload i, 2)) (hp : pc + 2 = pc') (hl : Ls[i]? = some (.val (.long v))) (k : Go p e below K (T.setTop (mkF m pc' Ls (.long v :: st)))) : Go p e below K (T.setTop (mkF m pc Ls (st))) := by
  subst hp; exact Go.step (fun t q => XS.lload X.1.here X.2.1 rfl (hb X.2.2.1 hd) hl q) k
theorem g_lloadN (X : Sx Z own bytes ml p l e R s m args below meth c T locs cells slots h) {i : Fin 4} {v : Int64} (hd : decode bytes pc = .ok (.lload_n i, 1)) (hp : pc + 1 = pc') (hl : Ls[i.val]? = some (.val (.long v))) (k : Go p e below K (T.setTop (mkF m pc' Ls (.long v :: st)))) : Go p e below K (T.setTop (mkF m pc Ls (st))) := by
  subst hp; exact Go.step (fun t q => XS.lloadN X.1.here X.2.1 rfl (hb X.2.2.1 hd) hl q) k
theorem g_aload (X : Sx Z own bytes ml p l e R s m args below meth c T locs cells slots h) {i : Nat} {v : Value} (hd : decode bytes pc = .ok (.aload i, 2)) (hp : pc + 2 = pc') (hl : Ls[i]? = some (.val v)) (hv : v.isRef = true) (k : Go p e below K (T.setTop (mkF m pc' Ls (v :: st)))) : Go p e below K (T.setTop (mkF m pc Ls (st))) := by
  subst hp; exact Go.step (fun t q => XS.aload X.1.here X.2.1 rfl (hb X.2.2.1 hd) hl hv q) k
theorem g_aloadN (X : Sx Z own bytes ml p l e R s m args below meth c T locs cells slots h) {i : Fin 4} {v : Value} (hd : decode bytes pc = .ok (.aload_n i, 1)) (hp : pc + 1 = pc') (hl : Ls[i.val]? = some (.val v)) (hv : v.isRef = true) (k : Go p e below K (T.setTop (mkF m pc' Ls (v :: st)))) : Go p e below K (T.setTop (mkF m pc Ls (st))) := by
  subst hp; exact Go.step (fun t q => XS.aloadN X.1.here X.2.1 rfl (hb X.2.2.1 hd) hl hv q) k
theorem g_istore (X : Sx Z own bytes ml p l e R s m args below meth c T locs cells slots h) {i : Nat} {v : Int32} (hd : decode bytes pc = .ok (.istore i, 2)) (hp : pc + 2 = pc') (hl : storeLocals Ls i (.int v) = some Ls') (k : Go p e below K (T.setTop (mkF m pc' Ls' (st)))) : Go p e below K (T.setTop (mkF m pc Ls (.int v :: st))) := by
  subst hp; exact Go.step (fun t q => XS.istore X.1.here X.2.1 rfl (hb X.2.2.1 hd) rfl hl q) k
theorem g_istoreN (X : Sx Z own bytes ml p l e R s m args below meth c T locs cells slots h) {i : Fin 4} {v : Int32} (hd : decode bytes pc = .ok (.istore_n i, 1)) (hp : pc + 1 = pc') (hl : storeLocals Ls i.val (.int v) = some Ls') (k : Go p e below K (T.setTop (mkF m pc' Ls' (st)))) : Go p e below K (T.setTop (mkF m pc Ls (.int v :: st))) := by
  subst hp; exact Go.step (fun t q => XS.istoreN X.1.here X.2.1 rfl (hb X.2.2.1 hd) rfl hl q) k
theorem g_lstore (X : Sx Z own bytes ml p l e R s m args below meth c T locs cells slots h) {i : Nat} {v : Int64} (hd : decode bytes pc = .ok (.lstore i, 2)) (hp : pc + 2 = pc') (hl : storeLocals Ls i (.long v) = some Ls') (k : Go p e below K (T.setTop (mkF m pc' Ls' (st)))) : Go p e below K (T.setTop (mkF m pc Ls (.long v :: st))) := by
  subst hp; exact Go.step (fun t q => XS.lstore X.1.here X.2.1 rfl (hb X.2.2.1 hd) rfl hl q) k
theorem g_lstoreN (X : Sx Z own bytes ml p l e R s m args below meth c T locs cells slots h) {i : Fin 4} {v : Int64} (hd : decode bytes pc = .ok (.lstore_n i, 1)) (hp : pc + 1 = pc') (hl : storeLocals Ls i.val (.long v) = some Ls') (k : Go p e below K (T.setTop (mkF m pc' Ls' (st)))) : Go p e below K (T.setTop (mkF m pc Ls (.long v :: st))) := by
  subst hp; exact Go.step (fun t q => XS.lstoreN X.1.here X.2.1 rfl (hb X.2.2.1 hd) rfl hl q) k
theorem g_astore (X : Sx Z own bytes ml p l e R s m args below meth c T locs cells slots h) {i : Nat} {v : Value} (hd : decode bytes pc = .ok (.astore i, 2)) (hp : pc + 2 = pc') (hv : v.isRef = true) (hl : storeLocals Ls i v = some Ls') (k : Go p e below K (T.setTop (mkF m pc' Ls' (st)))) : Go p e below K (T.setTop (mkF m pc Ls (v :: st))) := by
  subst hp; exact Go.step (fun t q => XS.astore X.1.here X.2.1 rfl (hb X.2.2.1 hd) rfl hv hl q) k
theorem g_astoreN (X : Sx Z own bytes ml p l e R s m args below meth c T locs cells slots h) {i : Fin 4} {v : Value} (hd : decode bytes pc = .ok (.astore_n i, 1)) (hp : pc + 1 = pc') (hv : v.isRef = true) (hl : storeLocals Ls i.val v = some Ls') (k : Go p e below K (T.setTop (mkF m pc' Ls' (st)))) : Go p e below K (T.setTop (mkF m pc Ls (v :: st))) := by
  subst hp; exact Go.step (fun t q => XS.astoreN X.1.here X.2.1 rfl (hb X.2.2.1 hd) rfl hv hl q) k
theorem g_iconst (X : Sx Z own bytes ml p l e R s m args below meth c T locs cells slots h) {i : Int} (v : Int32) (hd : decode bytes pc = .ok (.iconst i, 1)) (hp : pc + 1 = pc') (hv : Int32.ofInt i = v) (k : Go p e below K (T.setTop (mkF m pc' Ls (.int v :: st)))) : Go p e below K (T.setTop (mkF m pc Ls (st))) := by
  subst hv; subst hp; exact Go.step (fun t q => XS.iconst X.1.here X.2.1 rfl (hb X.2.2.1 hd)  q) k
theorem g_bipush (X : Sx Z own bytes ml p l e R s m args below meth c T locs cells slots h) {i : Int} (v : Int32) (hd : decode bytes pc = .ok (.bipush i, 2)) (hp : pc + 2 = pc') (hv : (Int8.ofInt i).toInt32 = v) (k : Go p e below K (T.setTop (mkF m pc' Ls (.int v :: st)))) : Go p e below K (T.setTop (mkF m pc Ls (st))) := by
  subst hv; subst hp; exact Go.step (fun t q => XS.bipush X.1.here X.2.1 rfl (hb X.2.2.1 hd)  q) k
theorem g_sipush (X : Sx Z own bytes ml p l e R s m args below meth c T locs cells slots h) {i : Int} (v : Int32) (hd : decode bytes pc = .ok (.sipush i, 3)) (hp : pc + 3 = pc') (hv : (Int16.ofInt i).toInt32 = v) (k : Go p e below K (T.setTop (mkF m pc' Ls (.int v :: st)))) : Go p e below K (T.setTop (mkF m pc Ls (st))) := by
  subst hv; subst hp; exact Go.step (fun t q => XS.sipush X.1.here X.2.1 rfl (hb X.2.2.1 hd)  q) k
theorem g_lconst (X : Sx Z own bytes ml p l e R s m args below meth c T locs cells slots h) {i : Fin 2} (v : Int64) (hd : decode bytes pc = .ok (.lconst i, 1)) (hp : pc + 1 = pc') (hv : Int64.ofNat i = v) (k : Go p e below K (T.setTop (mkF m pc' Ls (.long v :: st)))) : Go p e below K (T.setTop (mkF m pc Ls (st))) := by
  subst hv; subst hp; exact Go.step (fun t q => XS.lconst X.1.here X.2.1 rfl (hb X.2.2.1 hd)  q) k
theorem g_aconst_null (X : Sx Z own bytes ml p l e R s m args below meth c T locs cells slots h) (hd : decode bytes pc = .ok (.aconst_null, 1)) (hp : pc + 1 = pc') (k : Go p e below K (T.setTop (mkF m pc' Ls (.null :: st)))) : Go p e below K (T.setTop (mkF m pc Ls (st))) := by
  subst hp; exact Go.step (fun t q => XS.aconstNull X.1.here X.2.1 rfl (hb X.2.2.1 hd)  q) k
theorem g_ldc (X : Sx Z own bytes ml p l e R s m args below meth c T locs cells slots h) {i : Nat} {v : Int32} (w : (Cond.constant own i v).before a0 Z = true) (hd : decode bytes pc = .ok (.ldc i, 2)) (hp : pc + 2 = pc') (k : Go p e below K (T.setTop (mkF m pc' Ls (.int v :: st)))) : Go p e below K (T.setTop (mkF m pc Ls (st))) := by
  subst hp; exact Go.step (fun t q => X.1.ldcInt X.2.1 X.2.2.2.2.1 (mvT X.2.2.2.2.2.1 w) (g := mkF m pc Ls st) rfl (hb X.2.2.1 hd) _ q) k
theorem g_ldcw (X : Sx Z own bytes ml p l e R s m args below meth c T locs cells slots h) {i : Nat} {v : Int32} (w : (Cond.constant own i v).before a0 Z = true) (hd : decode bytes pc = .ok (.ldc_w i, 3)) (hp : pc + 3 = pc') (k : Go p e below K (T.setTop (mkF m pc' Ls (.int v :: st)))) : Go p e below K (T.setTop (mkF m pc Ls (st))) := by
  subst hp; exact Go.step (fun t q => X.1.ldcwInt X.2.1 X.2.2.2.2.1 (mvT X.2.2.2.2.2.1 w) (g := mkF m pc Ls st) rfl (hb X.2.2.1 hd) _ q) k
theorem g_ldc2 (X : Sx Z own bytes ml p l e R s m args below meth c T locs cells slots h) {i : Nat} {v : Int64} (w : (Cond.constantLong own i v).before a0 Z = true) (hd : decode bytes pc = .ok (.ldc2_w i, 3)) (hp : pc + 3 = pc') (k : Go p e below K (T.setTop (mkF m pc' Ls (.long v :: st)))) : Go p e below K (T.setTop (mkF m pc Ls (st))) := by
  subst hp; exact Go.step (fun t q => X.1.ldc2Long X.2.1 X.2.2.2.2.1 (mvT X.2.2.2.2.2.1 w) (g := mkF m pc Ls st) rfl (hb X.2.2.1 hd) _ q) k
theorem g_iadd (X : Sx Z own bytes ml p l e R s m args below meth c T locs cells slots h) {x y : Int32} (hd : decode bytes pc = .ok (.iadd, 1)) (hp : pc + 1 = pc') (k : Go p e below K (T.setTop (mkF m pc' Ls (.int (x + y) :: st)))) : Go p e below K (T.setTop (mkF m pc Ls (.int y :: .int x :: st))) := by
  subst hp; exact Go.step (fun t q => XS.iadd X.1.here X.2.1 rfl (hb X.2.2.1 hd) rfl q) k
theorem g_isub (X : Sx Z own bytes ml p l e R s m args below meth c T locs cells slots h) {x y : Int32} (hd : decode bytes pc = .ok (.isub, 1)) (hp : pc + 1 = pc') (k : Go p e below K (T.setTop (mkF m pc' Ls (.int (x - y) :: st)))) : Go p e below K (T.setTop (mkF m pc Ls (.int y :: .int x :: st))) := by
  subst hp; exact Go.step (fun t q => XS.isub X.1.here X.2.1 rfl (hb X.2.2.1 hd) rfl q) k
theorem g_imul (X : Sx Z own bytes ml p l e R s m args below meth c T locs cells slots h) {x y : Int32} (hd : decode bytes pc = .ok (.imul, 1)) (hp : pc + 1 = pc') (k : Go p e below K (T.setTop (mkF m pc' Ls (.int (x * y) :: st)))) : Go p e below K (T.setTop (mkF m pc Ls (.int y :: .int x :: st))) := by
  subst hp; exact Go.step (fun t q => XS.imul X.1.here X.2.1 rfl (hb X.2.2.1 hd) rfl q) k
theorem g_iand (X : Sx Z own bytes ml p l e R s m args below meth c T locs cells slots h) {x y : Int32} (hd : decode bytes pc = .ok (.iand, 1)) (hp : pc + 1 = pc') (k : Go p e below K (T.setTop (mkF m pc' Ls (.int (x &&& y) :: st)))) : Go p e below K (T.setTop (mkF m pc Ls (.int y :: .int x :: st))) := by
  subst hp; exact Go.step (fun t q => XS.iand X.1.here X.2.1 rfl (hb X.2.2.1 hd) rfl q) k
theorem g_ior (X : Sx Z own bytes ml p l e R s m args below meth c T locs cells slots h) {x y : Int32} (hd : decode bytes pc = .ok (.ior, 1)) (hp : pc + 1 = pc') (k : Go p e below K (T.setTop (mkF m pc' Ls (.int (x ||| y) :: st)))) : Go p e below K (T.setTop (mkF m pc Ls (.int y :: .int x :: st))) := by
  subst hp; exact Go.step (fun t q => XS.ior X.1.here X.2.1 rfl (hb X.2.2.1 hd) rfl q) k
theorem g_ixor (X : Sx Z own bytes ml p l e R s m args below meth c T locs cells slots h) {x y : Int32} (hd : decode bytes pc = .ok (.ixor, 1)) (hp : pc + 1 = pc') (k : Go p e below K (T.setTop (mkF m pc' Ls (.int (x ^^^ y) :: st)))) : Go p e below K (T.setTop (mkF m pc Ls (.int y :: .int x :: st))) := by
  subst hp; exact Go.step (fun t q => XS.ixor X.1.here X.2.1 rfl (hb X.2.2.1 hd) rfl q) k
theorem g_ishl (X : Sx Z own bytes ml p l e R s m args below meth c T locs cells slots h) {x y : Int32} (hd : decode bytes pc = .ok (.ishl, 1)) (hp : pc + 1 = pc') (k : Go p e below K (T.setTop (mkF m pc' Ls (.int (x <<< (y &&& 31)) :: st)))) : Go p e below K (T.setTop (mkF m pc Ls (.int y :: .int x :: st))) := by
  subst hp; exact Go.step (fun t q => XS.ishl X.1.here X.2.1 rfl (hb X.2.2.1 hd) rfl q) k
theorem g_ishr (X : Sx Z own bytes ml p l e R s m args below meth c T locs cells slots h) {x y : Int32} (hd : decode bytes pc = .ok (.ishr, 1)) (hp : pc + 1 = pc') (k : Go p e below K (T.setTop (mkF m pc' Ls (.int (x >>> (y &&& 31)) :: st)))) : Go p e below K (T.setTop (mkF m pc Ls (.int y :: .int x :: st))) := by
  subst hp; exact Go.step (fun t q => XS.ishr X.1.here X.2.1 rfl (hb X.2.2.1 hd) rfl q) k
theorem g_iushr (X : Sx Z own bytes ml p l e R s m args below meth c T locs cells slots h) {x y : Int32} (hd : decode bytes pc = .ok (.iushr, 1)) (hp : pc + 1 = pc') (k : Go p e below K (T.setTop (mkF m pc' Ls (.int ((x.toUInt32 >>> (y &&& 31).toUInt32).toInt32) :: st)))) : Go p e below K (T.setTop (mkF m pc Ls (.int y :: .int x :: st))) := by
  subst hp; exact Go.step (fun t q => XS.iushr X.1.here X.2.1 rfl (hb X.2.2.1 hd) rfl q) k
theorem g_idiv (X : Sx Z own bytes ml p l e R s m args below meth c T locs cells slots h) {x y : Int32} (hd : decode bytes pc = .ok (.idiv, 1)) (hp : pc + 1 = pc') (hy : y ≠ 0) (k : Go p e below K (T.setTop (mkF m pc' Ls (.int (x / y) :: st)))) : Go p e below K (T.setTop (mkF m pc Ls (.int y :: .int x :: st))) := by
  subst hp; exact Go.step (fun t q => XS.idiv X.1.here X.2.1 rfl (hb X.2.2.1 hd) rfl hy q) k
theorem g_irem (X : Sx Z own bytes ml p l e R s m args below meth c T locs cells slots h) {x y : Int32} (hd : decode bytes pc = .ok (.irem, 1)) (hp : pc + 1 = pc') (hy : y ≠ 0) (k : Go p e below K (T.setTop (mkF m pc' Ls (.int (x % y) :: st)))) : Go p e below K (T.setTop (mkF m pc Ls (.int y :: .int x :: st))) := by
  subst hp; exact Go.step (fun t q => iremM (g := mkF m pc Ls (.int y :: .int x :: st)) X.1 X.2.1 rfl (hb X.2.2.1 hd) rfl hy q) k
theorem g_ladd (X : Sx Z own bytes ml p l e R s m args below meth c T locs cells slots h) {x y : Int64} (hd : decode bytes pc = .ok (.ladd, 1)) (hp : pc + 1 = pc') (k : Go p e below K (T.setTop (mkF m pc' Ls (.long (x + y) :: st)))) : Go p e below K (T.setTop (mkF m pc Ls (.long y :: .long x :: st))) := by
  subst hp; exact Go.step (fun t q => XS.ladd X.1.here X.2.1 rfl (hb X.2.2.1 hd) rfl q) k
theorem g_lsub (X : Sx Z own bytes ml p l e R s m args below meth c T locs cells slots h) {x y : Int64} (hd : decode bytes pc = .ok (.lsub, 1)) (hp : pc + 1 = pc') (k : Go p e below K (T.setTop (mkF m pc' Ls (.long (x - y) :: st)))) : Go p e below K (T.setTop (mkF m pc Ls (.long y :: .long x :: st))) := by
  subst hp; exact Go.step (fun t q => XS.lsub X.1.here X.2.1 rfl (hb X.2.2.1 hd) rfl q) k
theorem g_lmul (X : Sx Z own bytes ml p l e R s m args below meth c T locs cells slots h) {x y : Int64} (hd : decode bytes pc = .ok (.lmul, 1)) (hp : pc + 1 = pc') (k : Go p e below K (T.setTop (mkF m pc' Ls (.long (x * y) :: st)))) : Go p e below K (T.setTop (mkF m pc Ls (.long y :: .long x :: st))) := by
  subst hp; exact Go.step (fun t q => XS.lmul X.1.here X.2.1 rfl (hb X.2.2.1 hd) rfl q) k
theorem g_land (X : Sx Z own bytes ml p l e R s m args below meth c T locs cells slots h) {x y : Int64} (hd : decode bytes pc = .ok (.land, 1)) (hp : pc + 1 = pc') (k : Go p e below K (T.setTop (mkF m pc' Ls (.long (x &&& y) :: st)))) : Go p e below K (T.setTop (mkF m pc Ls (.long y :: .long x :: st))) := by
  subst hp; exact Go.step (fun t q => XS.land X.1.here X.2.1 rfl (hb X.2.2.1 hd) rfl q) k
theorem g_lor (X : Sx Z own bytes ml p l e R s m args below meth c T locs cells slots h) {x y : Int64} (hd : decode bytes pc = .ok (.lor, 1)) (hp : pc + 1 = pc') (k : Go p e below K (T.setTop (mkF m pc' Ls (.long (x ||| y) :: st)))) : Go p e below K (T.setTop (mkF m pc Ls (.long y :: .long x :: st))) := by
  subst hp; exact Go.step (fun t q => XS.lor X.1.here X.2.1 rfl (hb X.2.2.1 hd) rfl q) k
theorem g_lxor (X : Sx Z own bytes ml p l e R s m args below meth c T locs cells slots h) {x y : Int64} (hd : decode bytes pc = .ok (.lxor, 1)) (hp : pc + 1 = pc') (k : Go p e below K (T.setTop (mkF m pc' Ls (.long (x ^^^ y) :: st)))) : Go p e below K (T.setTop (mkF m pc Ls (.long y :: .long x :: st))) := by
  subst hp; exact Go.step (fun t q => XS.lxor X.1.here X.2.1 rfl (hb X.2.2.1 hd) rfl q) k
theorem g_lshl (X : Sx Z own bytes ml p l e R s m args below meth c T locs cells slots h) {x : Int64} {y : Int32} (hd : decode bytes pc = .ok (.lshl, 1)) (hp : pc + 1 = pc') (k : Go p e below K (T.setTop (mkF m pc' Ls (.long (x <<< (y &&& 0x3f).toInt64) :: st)))) : Go p e below K (T.setTop (mkF m pc Ls (.int y :: .long x :: st))) := by
  subst hp; exact Go.step (fun t q => XS.lshl X.1.here X.2.1 rfl (hb X.2.2.1 hd) rfl q) k
theorem g_lshr (X : Sx Z own bytes ml p l e R s m args below meth c T locs cells slots h) {x : Int64} {y : Int32} (hd : decode bytes pc = .ok (.lshr, 1)) (hp : pc + 1 = pc') (k : Go p e below K (T.setTop (mkF m pc' Ls (.long (x >>> (y &&& 0x3f).toInt64) :: st)))) : Go p e below K (T.setTop (mkF m pc Ls (.int y :: .long x :: st))) := by
  subst hp; exact Go.step (fun t q => XS.lshr X.1.here X.2.1 rfl (hb X.2.2.1 hd) rfl q) k
theorem g_lushr (X : Sx Z own bytes ml p l e R s m args below meth c T locs cells slots h) {x : Int64} {y : Int32} (hd : decode bytes pc = .ok (.lushr, 1)) (hp : pc + 1 = pc') (k : Go p e below K (T.setTop (mkF m pc' Ls (.long ((x.toUInt64 >>> (y &&& 0x3f).toInt64.toUInt64).toInt64) :: st)))) : Go p e below K (T.setTop (mkF m pc Ls (.int y :: .long x :: st))) := by
  subst hp; exact Go.step (fun t q => XS.lushr X.1.here X.2.1 rfl (hb X.2.2.1 hd) rfl q) k
theorem g_ldiv (X : Sx Z own bytes ml p l e R s m args below meth c T locs cells slots h) {x y : Int64} (hd : decode bytes pc = .ok (.ldiv, 1)) (hp : pc + 1 = pc') (hy : y ≠ 0) (k : Go p e below K (T.setTop (mkF m pc' Ls (.long (x / y) :: st)))) : Go p e below K (T.setTop (mkF m pc Ls (.long y :: .long x :: st))) := by
  subst hp; exact Go.step (fun t q => XS.ldiv X.1.here X.2.1 rfl (hb X.2.2.1 hd) rfl hy q) k
theorem g_lrem (X : Sx Z own bytes ml p l e R s m args below meth c T locs cells slots h) {x y : Int64} (hd : decode bytes pc = .ok (.lrem, 1)) (hp : pc + 1 = pc') (hy : y ≠ 0) (k : Go p e below K (T.setTop (mkF m pc' Ls (.long (x % y) :: st)))) : Go p e below K (T.setTop (mkF m pc Ls (.long y :: .long x :: st))) := by
  rw [← lrem_mod] at k; subst hp; exact Go.step (fun t q => XS.lrem X.1.here X.2.1 rfl (hb X.2.2.1 hd) rfl hy q) k
theorem g_lcmp (X : Sx Z own bytes ml p l e R s m args below meth c T locs cells slots h) {x y : Int64} (hd : decode bytes pc = .ok (.lcmp, 1)) (hp : pc + 1 = pc') (k : Go p e below K (T.setTop (mkF m pc' Ls (.int (lcmpW x y) :: st)))) : Go p e below K (T.setTop (mkF m pc Ls (.long y :: .long x :: st))) := by
  subst hp; exact Go.step (fun t q => XS.lcmp X.1.here X.2.1 rfl (hb X.2.2.1 hd) rfl q) k
theorem g_ineg (X : Sx Z own bytes ml p l e R s m args below meth c T locs cells slots h) {x : Int32} (hd : decode bytes pc = .ok (.ineg, 1)) (hp : pc + 1 = pc') (k : Go p e below K (T.setTop (mkF m pc' Ls (.int (-x) :: st)))) : Go p e below K (T.setTop (mkF m pc Ls (.int x :: st))) := by
  subst hp; exact Go.step (fun t q => XS.ineg X.1.here X.2.1 rfl (hb X.2.2.1 hd) rfl q) k
theorem g_i2b (X : Sx Z own bytes ml p l e R s m args below meth c T locs cells slots h) {x : Int32} (hd : decode bytes pc = .ok (.i2b, 1)) (hp : pc + 1 = pc') (k : Go p e below K (T.setTop (mkF m pc' Ls (.int (x.toInt8.toInt32) :: st)))) : Go p e below K (T.setTop (mkF m pc Ls (.int x :: st))) := by
  subst hp; exact Go.step (fun t q => XS.i2b X.1.here X.2.1 rfl (hb X.2.2.1 hd) rfl q) k
theorem g_i2c (X : Sx Z own bytes ml p l e R s m args below meth c T locs cells slots h) {x : Int32} (hd : decode bytes pc = .ok (.i2c, 1)) (hp : pc + 1 = pc') (k : Go p e below K (T.setTop (mkF m pc' Ls (.int (x.toUInt32.toUInt16.toUInt32.toInt32) :: st)))) : Go p e below K (T.setTop (mkF m pc Ls (.int x :: st))) := by
  subst hp; exact Go.step (fun t q => XS.i2c X.1.here X.2.1 rfl (hb X.2.2.1 hd) rfl q) k
theorem g_i2s (X : Sx Z own bytes ml p l e R s m args below meth c T locs cells slots h) {x : Int32} (hd : decode bytes pc = .ok (.i2s, 1)) (hp : pc + 1 = pc') (k : Go p e below K (T.setTop (mkF m pc' Ls (.int (x.toInt16.toInt32) :: st)))) : Go p e below K (T.setTop (mkF m pc Ls (.int x :: st))) := by
  subst hp; exact Go.step (fun t q => XS.i2s X.1.here X.2.1 rfl (hb X.2.2.1 hd) rfl q) k
theorem g_i2l (X : Sx Z own bytes ml p l e R s m args below meth c T locs cells slots h) {x : Int32} (hd : decode bytes pc = .ok (.i2l, 1)) (hp : pc + 1 = pc') (k : Go p e below K (T.setTop (mkF m pc' Ls (.long (x.toInt64) :: st)))) : Go p e below K (T.setTop (mkF m pc Ls (.int x :: st))) := by
  subst hp; exact Go.step (fun t q => XS.i2l X.1.here X.2.1 rfl (hb X.2.2.1 hd) rfl q) k
theorem g_l2i (X : Sx Z own bytes ml p l e R s m args below meth c T locs cells slots h) {x : Int64} (hd : decode bytes pc = .ok (.l2i, 1)) (hp : pc + 1 = pc') (k : Go p e below K (T.setTop (mkF m pc' Ls (.int (x.toInt32) :: st)))) : Go p e below K (T.setTop (mkF m pc Ls (.long x :: st))) := by
  subst hp; exact Go.step (fun t q => XS.l2i X.1.here X.2.1 rfl (hb X.2.2.1 hd) rfl q) k
theorem g_lneg (X : Sx Z own bytes ml p l e R s m args below meth c T locs cells slots h) {x : Int64} (hd : decode bytes pc = .ok (.lneg, 1)) (hp : pc + 1 = pc') (k : Go p e below K (T.setTop (mkF m pc' Ls (.long (-x) :: st)))) : Go p e below K (T.setTop (mkF m pc Ls (.long x :: st))) := by
  subst hp; exact Go.step (fun t q => XS.lneg X.1.here X.2.1 rfl (hb X.2.2.1 hd) rfl q) k
theorem g_iinc (X : Sx Z own bytes ml p l e R s m args below meth c T locs cells slots h) {i : Nat} {q x : Int32} {n : Int} (hd : decode bytes pc = .ok (.iinc i n, 3)) (hp : pc + 3 = pc') (hq : Int32.ofInt n = q) (hl : Ls[i]? = some (.val (.int x))) (hl' : storeLocals Ls i (.int (x + q)) = some Ls') (k : Go p e below K (T.setTop (mkF m pc' Ls' (st)))) : Go p e below K (T.setTop (mkF m pc Ls (st))) := by
  subst hq; subst hp; exact Go.step (fun t q => XS.iinc X.1.here X.2.1 rfl (hb X.2.2.1 hd) hl hl' q) k
theorem g_dup (X : Sx Z own bytes ml p l e R s m args below meth c T locs cells slots h) {v : Value} (hd : decode bytes pc = .ok (.dup, 1)) (hp : pc + 1 = pc') (hc : v.category = 1) (k : Go p e below K (T.setTop (mkF m pc' Ls (v :: v :: st)))) : Go p e below K (T.setTop (mkF m pc Ls (v :: st))) := by
  subst hp; exact Go.step (fun t q => XS.dup X.1.here X.2.1 rfl (hb X.2.2.1 hd) rfl hc q) k
theorem g_pop (X : Sx Z own bytes ml p l e R s m args below meth c T locs cells slots h) {v : Value} (hd : decode bytes pc = .ok (.pop, 1)) (hp : pc + 1 = pc') (hc : v.category = 1) (k : Go p e below K (T.setTop (mkF m pc' Ls (st)))) : Go p e below K (T.setTop (mkF m pc Ls (v :: st))) := by
  subst hp; exact Go.step (fun t q => XS.pop X.1.here X.2.1 rfl (hb X.2.2.1 hd) rfl hc q) k
theorem g_dup_x1 (X : Sx Z own bytes ml p l e R s m args below meth c T locs cells slots h) {v w : Value} (hd : decode bytes pc = .ok (.dup_x1, 1)) (hp : pc + 1 = pc') (hc : v.category = 1) (hc' : w.category = 1) (k : Go p e below K (T.setTop (mkF m pc' Ls (v :: w :: v :: st)))) : Go p e below K (T.setTop (mkF m pc Ls (v :: w :: st))) := by
  subst hp; exact Go.step (fun t q => XS.dupX1 X.1.here X.2.1 rfl (hb X.2.2.1 hd) rfl hc hc' q) k
theorem g_dup2 (X : Sx Z own bytes ml p l e R s m args below meth c T locs cells slots h) {v w : Value} (hd : decode bytes pc = .ok (.dup2, 1)) (hp : pc + 1 = pc') (hc : v.category = 1) (hc' : w.category = 1) (k : Go p e below K (T.setTop (mkF m pc' Ls (v :: w :: v :: w :: st)))) : Go p e below K (T.setTop (mkF m pc Ls (v :: w :: st))) := by
  subst hp; exact Go.step (fun t q => Jvm.Free.XT.dup2 X.1.here X.2.1 rfl (hb X.2.2.1 hd) rfl hc hc' q) k
theorem g_dup2L (X : Sx Z own bytes ml p l e R s m args below meth c T locs cells slots h) {v : Int64} (hd : decode bytes pc = .ok (.dup2, 1)) (hp : pc + 1 = pc') (k : Go p e below K (T.setTop (mkF m pc' Ls (.long v :: .long v :: st)))) : Go p e below K (T.setTop (mkF m pc Ls (.long v :: st))) := by
  subst hp; exact Go.step (fun t q => Jvm.Free.XT.dup2L X.1.here X.2.1 rfl (hb X.2.2.1 hd) rfl q) k
theorem g_dload (X : Sx Z own bytes ml p l e R s m args below meth c T locs cells slots h) {i : Nat} {v : UInt64} (hd : decode bytes pc = .ok (.dload i, 2)) (hp : pc + 2 = pc') (hl : Ls[i]? = some (.val (.double v))) (k : Go p e below K (T.setTop (mkF m pc' Ls (.double v :: st)))) : Go p e below K (T.setTop (mkF m pc Ls (st))) := by
  subst hp; exact Go.step (fun t q => XS.dload X.1.here X.2.1 rfl (hb X.2.2.1 hd) hl q) k
theorem g_dloadN (X : Sx Z own bytes ml p l e R s m args below meth c T locs cells slots h) {i : Fin 4} {v : UInt64} (hd : decode bytes pc = .ok (.dload_n i, 1)) (hp : pc + 1 = pc') (hl : Ls[i.val]? = some (.val (.double v))) (k : Go p e below K (T.setTop (mkF m pc' Ls (.double v :: st)))) : Go p e below K (T.setTop (mkF m pc Ls (st))) := by
  subst hp; exact Go.step (fun t q => XS.dloadN X.1.here X.2.1 rfl (hb X.2.2.1 hd) hl q) k
theorem g_i2d (X : Sx Z own bytes ml p l e R s m args below meth c T locs cells slots h) {x : Int32} (hd : decode bytes pc = .ok (.i2d, 1)) (hp : pc + 1 = pc') (k : Go p e below K (T.setTop (mkF m pc' Ls (.double (FP.i2d x) :: st)))) : Go p e below K (T.setTop (mkF m pc Ls (.int x :: st))) := by
  subst hp; exact Go.step (fun t q => XS.i2dS X.1.here X.2.1 rfl (hb X.2.2.1 hd) rfl rfl q) k
theorem g_dcmp (X : Sx Z own bytes ml p l e R s m args below meth c T locs cells slots h) {o : CmpOp} {x y : UInt64} (hd : decode bytes pc = .ok (.dcmp o, 1)) (hp : pc + 1 = pc') (k : ∀ v : Int32, Go p e below K (T.setTop (mkF m pc' Ls (.int v :: st)))) : Go p e below K (T.setTop (mkF m pc Ls (.double y :: .double x :: st))) := by
  subst hp; exact Go.step (fun t q => XS.dcmpS X.1.here X.2.1 rfl (hb X.2.2.1 hd) rfl rfl q) (k _)
theorem g_goto (X : Sx Z own bytes ml p l e R s m args below meth c T locs cells slots h) {o : Int} (hd : decode bytes pc = .ok (.goto o, 3)) (ho : 0 ≤ (pc : Int) + o) (hp : ((pc : Int) + o).toNat = pc') (k : Go p e below K (T.setTop (mkF m pc' Ls (st)))) : Go p e below K (T.setTop (mkF m pc Ls (st))) := by
  exact Go.step (fun t q => XS.goto X.1.here X.2.1 rfl rfl (hb X.2.2.1 hd) ho hp q) k
theorem g_ifY (X : Sx Z own bytes ml p l e R s m args below meth c T locs cells slots h) {cd : ClassFile.Cond} {x : Int32} {o : Int} (hd : decode bytes pc = .ok (.ifCond cd o, 3)) (hc : ifCond.holds cd x = true) (ho : 0 ≤ (pc : Int) + o) (hp : ((pc : Int) + o).toNat = pc') (k : Go p e below K (T.setTop (mkF m pc' Ls (st)))) : Go p e below K (T.setTop (mkF m pc Ls (.int x :: st))) := by
  exact Go.step (fun t q => XS.ifYes X.1.here X.2.1 rfl rfl (hb X.2.2.1 hd) rfl hc ho hp q) k
theorem g_ifN (X : Sx Z own bytes ml p l e R s m args below meth c T locs cells slots h) {cd : ClassFile.Cond} {x : Int32} {o : Int} (hd : decode bytes pc = .ok (.ifCond cd o, 3)) (hc : ifCond.holds cd x = false) (hp : pc + 3 = pc') (k : Go p e below K (T.setTop (mkF m pc' Ls (st)))) : Go p e below K (T.setTop (mkF m pc Ls (.int x :: st))) := by
  subst hp; exact Go.step (fun t q => XS.ifNo X.1.here X.2.1 rfl (hb X.2.2.1 hd) rfl hc q) k
theorem g_icY (X : Sx Z own bytes ml p l e R s m args below meth c T locs cells slots h) {cd : ClassFile.Cond} {x y : Int32} {o : Int} (hd : decode bytes pc = .ok (.if_icmp cd o, 3)) (hc : if_icmp.holds cd x y = true) (ho : 0 ≤ (pc : Int) + o) (hp : ((pc : Int) + o).toNat = pc') (k : Go p e below K (T.setTop (mkF m pc' Ls (st)))) : Go p e below K (T.setTop (mkF m pc Ls (.int y :: .int x :: st))) := by
  exact Go.step (fun t q => XS.icmpYes X.1.here X.2.1 rfl rfl (hb X.2.2.1 hd) rfl hc ho hp q) k
theorem g_icN (X : Sx Z own bytes ml p l e R s m args below meth c T locs cells slots h) {cd : ClassFile.Cond} {x y : Int32} {o : Int} (hd : decode bytes pc = .ok (.if_icmp cd o, 3)) (hc : if_icmp.holds cd x y = false) (hp : pc + 3 = pc') (k : Go p e below K (T.setTop (mkF m pc' Ls (st)))) : Go p e below K (T.setTop (mkF m pc Ls (.int y :: .int x :: st))) := by
  subst hp; exact Go.step (fun t q => XS.icmpNo X.1.here X.2.1 rfl (hb X.2.2.1 hd) rfl hc q) k
theorem g_nullY (X : Sx Z own bytes ml p l e R s m args below meth c T locs cells slots h) {o : Int} (hd : decode bytes pc = .ok (.ifnull o, 3)) (ho : 0 ≤ (pc : Int) + o) (hp : ((pc : Int) + o).toNat = pc') (k : Go p e below K (T.setTop (mkF m pc' Ls (st)))) : Go p e below K (T.setTop (mkF m pc Ls (.null :: st))) := by
  exact Go.step (fun t q => XS.ifnullYes X.1.here X.2.1 rfl rfl (hb X.2.2.1 hd) rfl ho hp q) k
theorem g_nullN (X : Sx Z own bytes ml p l e R s m args below meth c T locs cells slots h) {o : Int} {b : Addr} (hd : decode bytes pc = .ok (.ifnull o, 3)) (hp : pc + 3 = pc') (k : Go p e below K (T.setTop (mkF m pc' Ls (st)))) : Go p e below K (T.setTop (mkF m pc Ls (.ref b :: st))) := by
  subst hp; exact Go.step (fun t q => XS.ifnullNo X.1.here X.2.1 rfl (hb X.2.2.1 hd) rfl q) k
theorem g_nonnullY (X : Sx Z own bytes ml p l e R s m args below meth c T locs cells slots h) {o : Int} {b : Addr} (hd : decode bytes pc = .ok (.ifnonnull o, 3)) (ho : 0 ≤ (pc : Int) + o) (hp : ((pc : Int) + o).toNat = pc') (k : Go p e below K (T.setTop (mkF m pc' Ls (st)))) : Go p e below K (T.setTop (mkF m pc Ls (.ref b :: st))) := by
  exact Go.step (fun t q => XS.ifnonnullYes X.1.here X.2.1 rfl rfl (hb X.2.2.1 hd) rfl ho hp q) k
theorem g_nonnullN (X : Sx Z own bytes ml p l e R s m args below meth c T locs cells slots h) {o : Int} (hd : decode bytes pc = .ok (.ifnonnull o, 3)) (hp : pc + 3 = pc') (k : Go p e below K (T.setTop (mkF m pc' Ls (st)))) : Go p e below K (T.setTop (mkF m pc Ls (.null :: st))) := by
  subst hp; exact Go.step (fun t q => XS.ifnonnullNo X.1.here X.2.1 rfl (hb X.2.2.1 hd) rfl q) k
theorem g_acmp (X : Sx Z own bytes ml p l e R s m args below meth c T locs cells slots h) {cd : ACond} {x y : Value} {o : Int} {same : Bool} (hd : decode bytes pc = .ok (.if_acmp cd o, 3)) (h1 : x.isRef = true) (h2 : y.isRef = true) (hq : decide (x = y) = same) (ho : 0 ≤ (pc : Int) + o) (hp : pc' = if acV cd same = true then ((pc : Int) + o).toNat else pc + 3) (k : Go p e below K (T.setTop (mkF m pc' Ls (st)))) : Go p e below K (T.setTop (mkF m pc Ls (y :: x :: st))) := by
  exact Go.step (fun t q => acmp (g := mkF m pc Ls (y :: x :: st)) X.1 X.2.1 rfl h1 h2 rfl (hb X.2.2.1 hd) rfl hq ho hp q) k
theorem g_tswIn (X : Sx Z own bytes ml p l e R s m args below meth c T locs cells slots h) {dflt low high : Int} {offs : Array Int} {len : Nat} {o : Int} {i : Int32} (hd : decode bytes pc = .ok (.tableswitch dflt low high offs, len)) (hin : ¬ (i.toInt < low ∨ i.toInt > high)) (hoff : offs[(i.toInt - low).toNat]? = some o) (ho : 0 ≤ (pc : Int) + o) (hp : ((pc : Int) + o).toNat = pc') (k : Go p e below K (T.setTop (mkF m pc' Ls (st)))) : Go p e below K (T.setTop (mkF m pc Ls (.int i :: st))) := by
  exact Go.step (fun t q => XS.tswIn X.1.here X.2.1 rfl rfl (hb X.2.2.1 hd) rfl hin hoff ho hp q) k
theorem g_tswOut (X : Sx Z own bytes ml p l e R s m args below meth c T locs cells slots h) {dflt low high : Int} {offs : Array Int} {len : Nat} {i : Int32} (hd : decode bytes pc = .ok (.tableswitch dflt low high offs, len)) (hin : i.toInt < low ∨ i.toInt > high) (ho : 0 ≤ (pc : Int) + dflt) (hp : ((pc : Int) + dflt).toNat = pc') (k : Go p e below K (T.setTop (mkF m pc' Ls (st)))) : Go p e below K (T.setTop (mkF m pc Ls (.int i :: st))) := by
  exact Go.step (fun t q => XS.tswOut X.1.here X.2.1 rfl rfl (hb X.2.2.1 hd) rfl hin ho hp q) k
theorem g_iaload (X : Sx Z own bytes ml p l e R s m args below meth c T locs cells slots h) {a : Addr} {vs : List Value} {j : Int32} {x : Int32} (A : Av Z h a .int vs) (n : Nat) (hd : decode bytes pc = .ok (.iaload, 1)) (hp : pc + 1 = pc') (hj : ¬ j < 0) (hn : j.toNatClampNeg = n) (hv : vs[n]? = some (.int x)) (k : Go p e below K (T.setTop (mkF m pc' Ls (.int x :: st)))) : Go p e below K (T.setTop (mkF m pc Ls (.int j :: .ref a :: st))) := by
  obtain ⟨cl, A, rfl, r⟩ := A; subst hn; subst hp
  have hv' : cl.slots[j.toNatClampNeg]? = some (.int x) := by rw [← Array.getElem?_toList]; exact hv
  exact Go.step (fun t q => X.1.iaload X.2.1 (j := j) (by rw [X.2.2.2.2.2.2]; exact A.1) (State.isArrayOf_alike X.2.2.2.2.2.1.alike A.2.1) A.2.2 (fun hh => hh.elim hj (fun hh => absurd (Array.getElem?_eq_some_iff.mp hv').1 (Nat.not_lt.mpr hh))) hv' (g := mkF m pc Ls (.int j :: .ref a :: st)) rfl rfl (hb X.2.2.1 hd) _ q) k
theorem g_caload (X : Sx Z own bytes ml p l e R s m args below meth c T locs cells slots h) {a : Addr} {vs : List Value} {j : Int32} {x : Int32} (A : Av Z h a .char vs) (n : Nat) (hd : decode bytes pc = .ok (.caload, 1)) (hp : pc + 1 = pc') (hj : ¬ j < 0) (hn : j.toNatClampNeg = n) (hv : vs[n]? = some (.int x)) (k : Go p e below K (T.setTop (mkF m pc' Ls (.int x :: st)))) : Go p e below K (T.setTop (mkF m pc Ls (.int j :: .ref a :: st))) := by
  obtain ⟨cl, A, rfl, r⟩ := A; subst hn; subst hp
  have hv' : cl.slots[j.toNatClampNeg]? = some (.int x) := by rw [← Array.getElem?_toList]; exact hv
  exact Go.step (fun t q => X.1.caload X.2.1 (j := j) (by rw [X.2.2.2.2.2.2]; exact A.1) (State.isArrayOf_alike X.2.2.2.2.2.1.alike A.2.1) A.2.2 (fun hh => hh.elim hj (fun hh => absurd (Array.getElem?_eq_some_iff.mp hv').1 (Nat.not_lt.mpr hh))) hv' (g := mkF m pc Ls (.int j :: .ref a :: st)) rfl rfl (hb X.2.2.1 hd) _ q) k
theorem g_saload (X : Sx Z own bytes ml p l e R s m args below meth c T locs cells slots h) {a : Addr} {vs : List Value} {j : Int32} {x : Int32} (A : Av Z h a .short vs) (n : Nat) (hd : decode bytes pc = .ok (.saload, 1)) (hp : pc + 1 = pc') (hj : ¬ j < 0) (hn : j.toNatClampNeg = n) (hv : vs[n]? = some (.int x)) (k : Go p e below K (T.setTop (mkF m pc' Ls (.int x :: st)))) : Go p e below K (T.setTop (mkF m pc Ls (.int j :: .ref a :: st))) := by
  obtain ⟨cl, A, rfl, r⟩ := A; subst hn; subst hp
  have hv' : cl.slots[j.toNatClampNeg]? = some (.int x) := by rw [← Array.getElem?_toList]; exact hv
  exact Go.step (fun t q => X.1.saload X.2.1 (j := j) (by rw [X.2.2.2.2.2.2]; exact A.1) (State.isArrayOf_alike X.2.2.2.2.2.1.alike A.2.1) A.2.2 (fun hh => hh.elim hj (fun hh => absurd (Array.getElem?_eq_some_iff.mp hv').1 (Nat.not_lt.mpr hh))) hv' (g := mkF m pc Ls (.int j :: .ref a :: st)) rfl rfl (hb X.2.2.1 hd) _ q) k
theorem g_baload (X : Sx Z own bytes ml p l e R s m args below meth c T locs cells slots h) {a : Addr} {vs : List Value} {j : Int32} {x : Int32} (A : Av Z h a .byte vs) (n : Nat) (hd : decode bytes pc = .ok (.baload, 1)) (hp : pc + 1 = pc') (hj : ¬ j < 0) (hn : j.toNatClampNeg = n) (hv : vs[n]? = some (.int x)) (k : Go p e below K (T.setTop (mkF m pc' Ls (.int x :: st)))) : Go p e below K (T.setTop (mkF m pc Ls (.int j :: .ref a :: st))) := by
  obtain ⟨cl, A, rfl, r⟩ := A; subst hn; subst hp
  have hv' : cl.slots[j.toNatClampNeg]? = some (.int x) := by rw [← Array.getElem?_toList]; exact hv
  exact Go.step (fun t q => X.1.baloadBytes X.2.1 (j := j) (by rw [X.2.2.2.2.2.2]; exact A.1) (State.isArrayOf_alike X.2.2.2.2.2.1.alike A.2.1) A.2.2 (fun hh => hh.elim hj (fun hh => absurd (Array.getElem?_eq_some_iff.mp hv').1 (Nat.not_lt.mpr hh))) hv' (g := mkF m pc Ls (.int j :: .ref a :: st)) rfl rfl (hb X.2.2.1 hd) _ q) k
theorem g_laload (X : Sx Z own bytes ml p l e R s m args below meth c T locs cells slots h) {a : Addr} {vs : List Value} {j : Int32} {x : Int64} (A : Av Z h a .long vs) (n : Nat) (hd : decode bytes pc = .ok (.laload, 1)) (hp : pc + 1 = pc') (hj : ¬ j < 0) (hn : j.toNatClampNeg = n) (hv : vs[n]? = some (.long x)) (k : Go p e below K (T.setTop (mkF m pc' Ls (.long x :: st)))) : Go p e below K (T.setTop (mkF m pc Ls (.int j :: .ref a :: st))) := by
  obtain ⟨cl, A, rfl, r⟩ := A; subst hn; subst hp
  have hv' : cl.slots[j.toNatClampNeg]? = some (.long x) := by rw [← Array.getElem?_toList]; exact hv
  exact Go.step (fun t q => X.1.laload X.2.1 (j := j) (by rw [X.2.2.2.2.2.2]; exact A.1) (State.isArrayOf_alike X.2.2.2.2.2.1.alike A.2.1) A.2.2 (fun hh => hh.elim hj (fun hh => absurd (Array.getElem?_eq_some_iff.mp hv').1 (Nat.not_lt.mpr hh))) hv' (g := mkF m pc Ls (.int j :: .ref a :: st)) rfl rfl (hb X.2.2.1 hd) _ q) k
theorem g_aaload (X : Sx Z own bytes ml p l e R s m args below meth c T locs cells slots h) {a : Addr} {vs : List Value} {j : Int32} {v : Value} {ty : FieldType} (A : Av Z h a ty vs) (n : Nat) (hd : decode bytes pc = .ok (.aaload, 1)) (hp : pc + 1 = pc') (hty : ty.isReference = true) (hj : ¬ j < 0) (hn : j.toNatClampNeg = n) (hv : vs[n]? = some v) (k : Go p e below K (T.setTop (mkF m pc' Ls (v :: st)))) : Go p e below K (T.setTop (mkF m pc Ls (.int j :: .ref a :: st))) := by
  obtain ⟨cl, A, rfl, r⟩ := A; subst hn; subst hp
  have hv' : cl.slots[j.toNatClampNeg]? = some v := by rw [← Array.getElem?_toList]; exact hv
  exact Go.step (fun t q => X.1.aaload X.2.1 (j := j) (by rw [X.2.2.2.2.2.2]; exact A.1) (State.isArrayOf_alike X.2.2.2.2.2.1.alike A.2.1) hty A.2.2 (fun hh => hh.elim hj (fun hh => absurd (Array.getElem?_eq_some_iff.mp hv').1 (Nat.not_lt.mpr hh))) hv' (g := mkF m pc Ls (.int j :: .ref a :: st)) rfl rfl (hb X.2.2.1 hd) _ q) k
theorem g_arraylength (X : Sx Z own bytes ml p l e R s m args below meth c T locs cells slots h) {a : Addr} {vs : List Value} {ty : FieldType} (A : Av Z h a ty vs) (hd : decode bytes pc = .ok (.arraylength, 1)) (hp : pc + 1 = pc') {z : Int32} (hz : vs.length.toInt32 = z) (k : Go p e below K (T.setTop (mkF m pc' Ls (.int z :: st)))) : Go p e below K (T.setTop (mkF m pc Ls (.ref a :: st))) := by
  obtain ⟨cl, A, rfl, r⟩ := A; subst hp
  rw [Array.length_toList] at hz; subst hz
  exact Go.step (fun t q => X.1.arraylength X.2.1 (by rw [X.2.2.2.2.2.2]; exact A.1) (State.isArrayOf_alike X.2.2.2.2.2.1.alike A.2.1) (g := mkF m pc Ls (.ref a :: st)) rfl rfl (hb X.2.2.1 hd) _ q) k
theorem g_iastore (X : Sx Z own bytes ml p l e R s m args below meth c T locs cells slots h) {a : Addr} {vs : List Value} {j : Int32} {x : Int32} (A : Av Z h a .int vs) (n : Nat) (hd : decode bytes pc = .ok (.iastore, 1)) (hp : pc + 1 = pc') (hj : ¬ j < 0) (hn : j.toNatClampNeg = n) (hlt : n < vs.length) (k : ∀ T' h', Sx Z own bytes ml p l e R s m args below meth c T' (locs ++ [⟨a, n⟩]) cells slots h' → Wr h h' a n (.int x) → Av Z h' a .int (vs.set n (.int x)) → Go p e below K (T'.setTop (mkF m pc' Ls (st)))) : Go p e below K (T.setTop (mkF m pc Ls (.int x :: .int j :: .ref a :: st))) := by
  obtain ⟨cl, A, rfl, r⟩ := A; subst hn; subst hp
  obtain ⟨T', h', X', e', W, stp⟩ := stI X.1 X.2.1 X.2.2.2.2.2.1 X.2.2.2.2.2.2 A (j := j) (fun hh => hh.elim hj (fun hh => absurd hlt (by simpa using hh))) (g := mkF m pc Ls (.int x :: .int j :: .ref a :: st)) rfl rfl (hb X.2.2.1 hd)
  exact Go.step (fun t q => stp _ q) (k T' h' ⟨X', X.2.1, X.2.2.1, X.2.2.2.1, X.2.2.2.2.1, X.2.2.2.2.2.1, e'⟩ W (Av.set ⟨cl, A, rfl, r⟩ W))
theorem g_lastore (X : Sx Z own bytes ml p l e R s m args below meth c T locs cells slots h) {a : Addr} {vs : List Value} {j : Int32} {x : Int64} (A : Av Z h a .long vs) (n : Nat) (hd : decode bytes pc = .ok (.lastore, 1)) (hp : pc + 1 = pc') (hj : ¬ j < 0) (hn : j.toNatClampNeg = n) (hlt : n < vs.length) (k : ∀ T' h', Sx Z own bytes ml p l e R s m args below meth c T' (locs ++ [⟨a, n⟩]) cells slots h' → Wr h h' a n (.long x) → Av Z h' a .long (vs.set n (.long x)) → Go p e below K (T'.setTop (mkF m pc' Ls (st)))) : Go p e below K (T.setTop (mkF m pc Ls (.long x :: .int j :: .ref a :: st))) := by
  obtain ⟨cl, A, rfl, r⟩ := A; subst hn; subst hp
  obtain ⟨T', h', X', e', W, stp⟩ := stJ X.1 X.2.1 X.2.2.2.2.2.1 X.2.2.2.2.2.2 A (j := j) (fun hh => hh.elim hj (fun hh => absurd hlt (by simpa using hh))) (g := mkF m pc Ls (.long x :: .int j :: .ref a :: st)) rfl rfl (hb X.2.2.1 hd)
  exact Go.step (fun t q => stp _ q) (k T' h' ⟨X', X.2.1, X.2.2.1, X.2.2.2.1, X.2.2.2.2.1, X.2.2.2.2.2.1, e'⟩ W (Av.set ⟨cl, A, rfl, r⟩ W))
theorem g_castore (X : Sx Z own bytes ml p l e R s m args below meth c T locs cells slots h) {a : Addr} {vs : List Value} {j : Int32} {x : Int32} (A : Av Z h a .char vs) (n : Nat) (hd : decode bytes pc = .ok (.castore, 1)) (hp : pc + 1 = pc') (hj : ¬ j < 0) (hn : j.toNatClampNeg = n) (hlt : n < vs.length) (k : ∀ T' h', Sx Z own bytes ml p l e R s m args below meth c T' (locs ++ [⟨a, n⟩]) cells slots h' → Wr h h' a n (.int (nar .char x)) → Av Z h' a .char (vs.set n (.int (nar .char x))) → Go p e below K (T'.setTop (mkF m pc' Ls (st)))) : Go p e below K (T.setTop (mkF m pc Ls (.int x :: .int j :: .ref a :: st))) := by
  obtain ⟨cl, A, rfl, r⟩ := A; subst hn; subst hp
  obtain ⟨T', h', X', e', W, stp⟩ := stC X.1 X.2.1 X.2.2.2.2.2.1 X.2.2.2.2.2.2 A (j := j) (fun hh => hh.elim hj (fun hh => absurd hlt (by simpa using hh))) (g := mkF m pc Ls (.int x :: .int j :: .ref a :: st)) rfl rfl (hb X.2.2.1 hd)
  exact Go.step (fun t q => stp _ q) (k T' h' ⟨X', X.2.1, X.2.2.1, X.2.2.2.1, X.2.2.2.2.1, X.2.2.2.2.2.1, e'⟩ W (Av.set ⟨cl, A, rfl, r⟩ W))
theorem g_sastore (X : Sx Z own bytes ml p l e R s m args below meth c T locs cells slots h) {a : Addr} {vs : List Value} {j : Int32} {x : Int32} (A : Av Z h a .short vs) (n : Nat) (hd : decode bytes pc = .ok (.sastore, 1)) (hp : pc + 1 = pc') (hj : ¬ j < 0) (hn : j.toNatClampNeg = n) (hlt : n < vs.length) (k : ∀ T' h', Sx Z own bytes ml p l e R s m args below meth c T' (locs ++ [⟨a, n⟩]) cells slots h' → Wr h h' a n (.int (nar .short x)) → Av Z h' a .short (vs.set n (.int (nar .short x))) → Go p e below K (T'.setTop (mkF m pc' Ls (st)))) : Go p e below K (T.setTop (mkF m pc Ls (.int x :: .int j :: .ref a :: st))) := by
  obtain ⟨cl, A, rfl, r⟩ := A; subst hn; subst hp
  obtain ⟨T', h', X', e', W, stp⟩ := stS X.1 X.2.1 X.2.2.2.2.2.1 X.2.2.2.2.2.2 A (j := j) (fun hh => hh.elim hj (fun hh => absurd hlt (by simpa using hh))) (g := mkF m pc Ls (.int x :: .int j :: .ref a :: st)) rfl rfl (hb X.2.2.1 hd)
  exact Go.step (fun t q => stp _ q) (k T' h' ⟨X', X.2.1, X.2.2.1, X.2.2.2.1, X.2.2.2.2.1, X.2.2.2.2.2.1, e'⟩ W (Av.set ⟨cl, A, rfl, r⟩ W))
theorem g_bastore (X : Sx Z own bytes ml p l e R s m args below meth c T locs cells slots h) {a : Addr} {vs : List Value} {j : Int32} {x : Int32} (A : Av Z h a .byte vs) (n : Nat) (hd : decode bytes pc = .ok (.bastore, 1)) (hp : pc + 1 = pc') (hj : ¬ j < 0) (hn : j.toNatClampNeg = n) (hlt : n < vs.length) (k : ∀ T' h', Sx Z own bytes ml p l e R s m args below meth c T' (locs ++ [⟨a, n⟩]) cells slots h' → Wr h h' a n (.int (nar .byte x)) → Av Z h' a .byte (vs.set n (.int (nar .byte x))) → Go p e below K (T'.setTop (mkF m pc' Ls (st)))) : Go p e below K (T.setTop (mkF m pc Ls (.int x :: .int j :: .ref a :: st))) := by
  obtain ⟨cl, A, rfl, r⟩ := A; subst hn; subst hp
  obtain ⟨T', h', X', e', W, stp⟩ := stB X.1 X.2.1 X.2.2.2.2.2.1 X.2.2.2.2.2.2 A (j := j) (fun hh => hh.elim hj (fun hh => absurd hlt (by simpa using hh))) (g := mkF m pc Ls (.int x :: .int j :: .ref a :: st)) rfl rfl (hb X.2.2.1 hd)
  exact Go.step (fun t q => stp _ q) (k T' h' ⟨X', X.2.1, X.2.2.1, X.2.2.2.1, X.2.2.2.2.1, X.2.2.2.2.2.1, e'⟩ W (Av.set ⟨cl, A, rfl, r⟩ W))
theorem g_arraylengthN (X : Sx Z own bytes ml p l e R s m args below meth c T locs cells slots h) {a : Addr} {ty : FieldType} {z : Int32} (A : AvN Z h a ty z) (hd : decode bytes pc = .ok (.arraylength, 1)) (hp : pc + 1 = pc') (k : Go p e below K (T.setTop (mkF m pc' Ls (.int z :: st)))) : Go p e below K (T.setTop (mkF m pc Ls (.ref a :: st))) := by
  obtain ⟨vs, A, hz⟩ := A; exact g_arraylength X A hd hp hz k
theorem g_iastoreN (X : Sx Z own bytes ml p l e R s m args below meth c T locs cells slots h) {a : Addr} {j x z : Int32} (A : AvN Z h a .int z) (hd : decode bytes pc = .ok (.iastore, 1)) (hp : pc + 1 = pc') (hj : ¬ j < 0) (hjz : j < z) (k : ∀ T' h', Sx Z own bytes ml p l e R s m args below meth c T' (locs ++ [⟨a, j.toNatClampNeg⟩]) cells slots h' → Wr h h' a j.toNatClampNeg (.int x) → AvN Z h' a .int z → Go p e below K (T'.setTop (mkF m pc' Ls (st)))) : Go p e below K (T.setTop (mkF m pc Ls (.int x :: .int j :: .ref a :: st))) := by
  obtain ⟨vs, A, hz⟩ := A
  have hl := A.len
  refine g_iastore X A _ hd hp hj rfl ?_ (fun T' h' X' W V => k T' h' X' W ⟨_, V, by rw [List.length_set]; exact hz⟩)
  rw [hz] at hl
  rw [Int32.lt_iff_toInt_lt] at hj hjz
  simp only [Int32.toNatClampNeg, Int32.reduceToInt] at hj ⊢
  omega
theorem g_aastore (X : Sx Z own bytes ml p l e R s m args below meth c T locs cells slots h) {a : Addr} {vs : List Value} {j : Int32} {v : Value} {ty : FieldType} (A : Av Z h a ty vs) (S : Sto Z h a v) (n : Nat) (hd : decode bytes pc = .ok (.aastore, 1)) (hp : pc + 1 = pc') (hty : ty.isReference = true) (hj : ¬ j < 0) (hn : j.toNatClampNeg = n) (hlt : n < vs.length) (k : ∀ T' h', Sx Z own bytes ml p l e R s m args below meth c T' (locs ++ [⟨a, n⟩]) cells slots h' → Wr h h' a n v → Av Z h' a ty (vs.set n v) → Go p e below K (T'.setTop (mkF m pc' Ls (st)))) : Go p e below K (T.setTop (mkF m pc Ls (v :: .int j :: .ref a :: st))) := by
  obtain ⟨cl, A, rfl, r⟩ := A; subst hn; subst hp
  obtain ⟨T', h', X', e', W, stp⟩ := stR X.1 X.2.1 X.2.2.2.2.2.1 X.2.2.2.2.2.2 A (j := j) (fun hh => hh.elim hj (fun hh => absurd hlt (by simpa using hh))) hty S (g := mkF m pc Ls (v :: .int j :: .ref a :: st)) rfl rfl (hb X.2.2.1 hd)
  exact Go.step (fun t q => stp _ q) (k T' h' ⟨X', X.2.1, X.2.2.1, X.2.2.2.1, X.2.2.2.2.1, X.2.2.2.2.2.1, e'⟩ W (Av.set ⟨cl, A, rfl, r⟩ W))
theorem g_newarray (X : Sx Z own bytes ml p l e R s m args below meth c T locs cells slots h) {aty : ArrayType} {z : Int32} {vs : List Value} {ad : String} (n : Nat) (w : (Cond.arrayClass (newarray.typeOf aty)).before a0 Z = true) (hd : decode bytes pc = .ok (.newarray aty, 2)) (hp : pc + 2 = pc') (hz : ¬ z < 0) (hn : z.toNatClampNeg = n) (cap : Nat) (hcap : n ≤ cap) (hbig : cap * 8 ≤ 536870912) (hc : cells + 1 ≤ R.cells) (hl : slots + cap ≤ R.slots) (hvs : List.replicate n (defaultValue (newarray.typeOf aty)) = vs) (had : "[" ++ (newarray.typeOf aty).toString = ad) (k : ∀ T' h' (a : Addr), a = h.size → Sx Z own bytes ml p l e R s m args below meth c T' locs (cells + 1) (slots + cap) h' → Ext h h' → Exa Z h' a ad → Av Z h' a (newarray.typeOf aty) vs → Go p e below K (T'.setTop (mkF m pc' Ls (.ref a :: st)))) : Go p e below K (T.setTop (mkF m pc Ls (.int z :: st))) := by
  subst hn; subst hp; subst hvs
  obtain ⟨T', h', cA, X', e', E, A, B, stp⟩ := newPE X.1 X.2.1 X.2.2.2.2.2.1 w X.2.2.2.2.2.2 (g := mkF m pc Ls (.int z :: st)) rfl (hb X.2.2.1 hd) rfl hz hcap hbig hc hl had
  refine Go.step (fun t q => stp _ q) (k T' h' _ rfl ⟨X', X.2.1, X.2.2.1, X.2.2.2.1, X.2.2.2.2.1, X.2.2.2.2.2.1, e'⟩ E B ⟨_, A, by simp [newA], ?_⟩)
  simp only [List.length_replicate]
  exact (back32 hz).2
theorem g_anewarray (X : Sx Z own bytes ml p l e R s m args below meth c T locs cells slots h) {i : Nat} {C : String} {z : Int32} {vs : List Value} {ad : String} (n : Nat) (w1 : (Cond.classLink own i C).before a0 Z = true) (w2 : (Cond.arrayOver (.object C)).before a0 Z = true) (hd : decode bytes pc = .ok (.anewarray i, 3)) (hp : pc + 3 = pc') (hz : ¬ z < 0) (hn : z.toNatClampNeg = n) (cap : Nat) (hcap : n ≤ cap) (hbig : cap * 8 ≤ 536870912) (hc : cells + 1 ≤ R.cells) (hl : slots + cap ≤ R.slots) (hvs : List.replicate n .null = vs) (had : "[" ++ (FieldType.object C).toString = ad) (k : ∀ T' h' (a : Addr), a = h.size → Sx Z own bytes ml p l e R s m args below meth c T' locs (cells + 1) (slots + cap) h' → Ext h h' → Exa Z h' a ad → Av Z h' a (.object C) vs → OvA Z h' a C → Go p e below K (T'.setTop (mkF m pc' Ls (.ref a :: st)))) : Go p e below K (T.setTop (mkF m pc Ls (.int z :: st))) := by
  subst hn; subst hp; subst hvs
  obtain ⟨T', h', cA, X', e', E, A, B, O, stp⟩ := newRE X.1 X.2.1 X.2.2.2.2.2.1 X.2.2.2.2.1 w1 w2 X.2.2.2.2.2.2 (g := mkF m pc Ls (.int z :: st)) rfl (hb X.2.2.1 hd) rfl hz hcap hbig hc hl had
  refine Go.step (fun t q => stp _ q) (k T' h' _ rfl ⟨X', X.2.1, X.2.2.1, X.2.2.2.1, X.2.2.2.2.1, X.2.2.2.2.2.1, e'⟩ E B ⟨_, A, by simp [newA, defaultValue], ?_⟩ ⟨_, A, O⟩)
  simp only [List.length_replicate]
  exact (back32 hz).2
theorem g_new (X : Sx Z own bytes ml p l e R s m args below meth c T locs cells slots h) {i n : Nat} {C : String} (w1 : (Cond.classLink own i C).before a0 Z = true) (w2 : (Cond.instantiable C n).before a0 Z = true) (w3 : (Cond.initialized C).before a0 Z = true) (hd : decode bytes pc = .ok (.new i, 3)) (hp : pc + 3 = pc') (hc : cells + 1 ≤ R.cells) (hl : slots + n ≤ R.slots) (k : ∀ T' h' (a : Addr), a = h.size → Sx Z own bytes ml p l e R s m args below meth c T' locs (cells + 1) (slots + n) h' → Ext h h' → Exa Z h' a C → (∀ {O nm d : String} {ty : FieldType}, Laid Z a0 C O nm d → parseFieldDescriptor d = some ty → Fld Z h' a O nm d (defaultValue ty)) → Go p e below K (T'.setTop (mkF m pc' Ls (.ref a :: st)))) : Go p e below K (T.setTop (mkF m pc Ls (st))) := by
  subst hp
  obtain ⟨T', h', X', e', E, A, D, -, stp⟩ := newO X.1 X.2.1 X.2.2.2.2.2.1 X.2.2.2.2.1 w1 w2 w3 X.2.2.2.2.2.2 (g := mkF m pc Ls st) rfl (hb X.2.2.1 hd) hc hl
  exact Go.step (fun t q => stp _ q) (k T' h' _ rfl ⟨X', X.2.1, X.2.2.1, X.2.2.2.1, X.2.2.2.2.1, X.2.2.2.2.2.1, e'⟩ E A D)
theorem g_getfield (X : Sx Z own bytes ml p l e R s m args below meth c T locs cells slots h) {i : Nat} {R0 O nm d host : String} {a : Addr} {v : Value} (w : (Cond.fieldLink own i R0 nm d).before a0 Z = true ∨ (Cond.fieldLinkNest own i R0 nm d host).before a0 Z = true) (via : Via Z R0 O nm d) (F : Fld Z h a O nm d v) (hd : decode bytes pc = .ok (.getfield i, 3)) (hp : pc + 3 = pc') (k : ∀ T', Sx Z own bytes ml p l e R s m args below meth c T' locs cells slots h → Go p e below K (T'.setTop (mkF m pc' Ls (v :: st)))) : Go p e below K (T.setTop (mkF m pc Ls (.ref a :: st))) := by
  subst hp
  obtain ⟨T', X', e', stp⟩ := getF X.1 X.2.1 X.2.2.2.2.2.1 X.2.2.2.2.1 w via X.2.2.2.2.2.2 F (g := mkF m pc Ls (.ref a :: st)) rfl rfl (hb X.2.2.1 hd)
  exact Go.step (fun t q => stp _ q) (k T' ⟨X', X.2.1, X.2.2.1, X.2.2.2.1, X.2.2.2.2.1, X.2.2.2.2.2.1, e'⟩)
theorem g_getstatic (X : Sx Z own bytes ml p l e R s m args below meth c T locs cells slots h) {i : Nat} {R0 O nm d host : String} {v : Value} (w : (Cond.fieldLink own i R0 nm d).before a0 Z = true ∨ (Cond.fieldLinkNest own i R0 nm d host).before a0 Z = true) (via : Via Z R0 O nm d) (F : Sta Z h O nm d v) (hd : decode bytes pc = .ok (.getstatic i, 3)) (hp : pc + 3 = pc') (k : ∀ T', Sx Z own bytes ml p l e R s m args below meth c T' locs cells slots h → Go p e below K (T'.setTop (mkF m pc' Ls (v :: st)))) : Go p e below K (T.setTop (mkF m pc Ls (st))) := by
  subst hp
  obtain ⟨T', X', e', stp⟩ := getS2 X.1 X.2.1 X.2.2.2.2.2.1 X.2.2.2.2.1 w via X.2.2.2.2.2.2 F (g := mkF m pc Ls st) rfl (hb X.2.2.1 hd)
  exact Go.step (fun t q => stp _ q) (k T' ⟨X', X.2.1, X.2.2.1, X.2.2.2.1, X.2.2.2.2.1, X.2.2.2.2.2.1, e'⟩)
theorem g_putfield (X : Sx Z own bytes ml p l e R s m args below meth c T locs cells slots h) {i kk : Nat} {R0 O nm d host C : String} {a : Addr} {v old : Value} {ty : FieldType} (w : (Cond.fieldLink own i R0 nm d).before a0 Z = true ∨ (Cond.fieldLinkNest own i R0 nm d host).before a0 Z = true) (via : Via Z R0 O nm d) (F : Fld Z h a O nm d old) (E : Exa Z h a C) (L : (Cond.lays C O nm d).before a0 Z = true ∨ ((Cond.laysFinal C O nm d).before a0 Z = true ∧ own = O ∧ meth.name = "<init>")) (wi : (Cond.instantiable C kk).before a0 Z = true) (hty : parseFieldDescriptor d = some ty) (hn : narrow ty v = v) (hf : fits ty v = true) (hd : decode bytes pc = .ok (.putfield i, 3)) (hp : pc + 3 = pc') (k : ∀ T' h', Sx Z own bytes ml p l e R s m args below meth c T' (locs ++ [⟨a, RoadKit.slotOf Z O nm d⟩]) cells slots h' → Wr h h' a (RoadKit.slotOf Z O nm d) v → Go p e below K (T'.setTop (mkF m pc' Ls (st)))) : Go p e below K (T.setTop (mkF m pc Ls (v :: .ref a :: st))) := by
  subst hp
  obtain ⟨T', h', X', e', W, stp⟩ := putF X.1 X.2.1 X.2.2.2.2.2.1 X.2.2.2.2.1 w via X.2.2.2.2.2.2 F E L wi hty hn hf (g := mkF m pc Ls (v :: .ref a :: st)) rfl rfl (hb X.2.2.1 hd)
  exact Go.step (fun t q => stp _ q) (k T' h' ⟨X', X.2.1, X.2.2.1, X.2.2.2.1, X.2.2.2.2.1, X.2.2.2.2.2.1, e'⟩ W)
theorem g_putfieldN (X : Sx Z own bytes ml p l e R s m args below meth c T locs cells slots h) {i kk : Nat} {R0 O nm d C : String} {a : Addr} {v v' old : Value} {ty : FieldType} (w : (Cond.fieldLink own i R0 nm d).before a0 Z = true) (via : Via Z R0 O nm d) (F : Fld Z h a O nm d old) (E : Exa Z h a C) (L : (Cond.lays C O nm d).before a0 Z = true ∨ ((Cond.laysFinal C O nm d).before a0 Z = true ∧ own = O ∧ meth.name = "<init>")) (wi : (Cond.instantiable C kk).before a0 Z = true) (hty : parseFieldDescriptor d = some ty) (hn : narrow ty v = v') (hf : fits ty v' = true) (hd : decode bytes pc = .ok (.putfield i, 3)) (hp : pc + 3 = pc') (k : ∀ T' h', Sx Z own bytes ml p l e R s m args below meth c T' (locs ++ [⟨a, RoadKit.slotOf Z O nm d⟩]) cells slots h' → Wr h h' a (RoadKit.slotOf Z O nm d) v' → Go p e below K (T'.setTop (mkF m pc' Ls (st)))) : Go p e below K (T.setTop (mkF m pc Ls (v :: .ref a :: st))) := by
  subst hp
  obtain ⟨T', h', X', e', W, stp⟩ := putFN X.1 X.2.1 X.2.2.2.2.2.1 X.2.2.2.2.1 w via X.2.2.2.2.2.2 F E L wi hty hn hf (g := mkF m pc Ls (v :: .ref a :: st)) rfl rfl (hb X.2.2.1 hd)
  exact Go.step (fun t q => stp _ q) (k T' h' ⟨X', X.2.1, X.2.2.1, X.2.2.2.1, X.2.2.2.2.1, X.2.2.2.2.2.1, e'⟩ W)
theorem g_initO (X : Sx Z own bytes ml p l e R s m args below meth c T locs cells slots h) {i W : Nat} {a : Addr} (w1 : (Cond.methodLink own i Lib.objectInit).before a0 Z = true) (w2 : (Cond.instanceMethod Lib.objectInit).before a0 Z = true) (w3 : (Cond.code Lib.objectInit ⟨#[0xb1]⟩ 1 none).before a0 Z = true) (hd : decode bytes pc = .ok (.invokespecial i, 3)) (hp : pc + 3 = pc') (hsz : Ls.size = ml) (hf : 1 ≤ R.frames) (hW : (st.map fun v => v.category).sum ≤ W) (hl : W + 12 ≤ R.locals) (k : ∀ T', Sx Z own bytes ml p l e R s m args below meth c T' locs cells slots h → Go p e below K (T'.setTop (mkF m pc' Ls (st)))) : Go p e below K (T.setTop (mkF m pc Ls (.ref a :: st))) := by
  subst hp
  obtain ⟨T', X', e', stp⟩ := initO X.1 X.2.1 X.2.2.2.2.2.1 X.2.2.2.2.1 w1 w2 w3 X.2.2.2.2.2.2 (g := mkF m pc Ls (.ref a :: st)) rfl (by rw [X.2.2.2.1]; exact hsz) rfl (hb X.2.2.1 hd) hf (W := W) (by simpa using hW) hl
  exact Go.step (fun t q => stp _ q) (k T' ⟨X', X.2.1, X.2.2.1, X.2.2.2.1, X.2.2.2.2.1, X.2.2.2.2.2.1, e'⟩)
theorem g_checkcast (X : Sx Z own bytes ml p l e R s m args below meth c T locs cells slots h) {i : Nat} {K0 : String} {a : Addr} (w : (Cond.classLink own i K0).before a0 Z = true) (F : Ins Z h a K0 true) (hd : decode bytes pc = .ok (.checkcast i, 3)) (hp : pc + 3 = pc') (k : ∀ T', Sx Z own bytes ml p l e R s m args below meth c T' locs cells slots h → Go p e below K (T'.setTop (mkF m pc' Ls (.ref a :: st)))) : Go p e below K (T.setTop (mkF m pc Ls (.ref a :: st))) := by
  subst hp
  obtain ⟨T', X', e', stp⟩ := castY X.1 X.2.1 X.2.2.2.2.2.1 X.2.2.2.2.1 w X.2.2.2.2.2.2 F (g := mkF m pc Ls (.ref a :: st)) rfl rfl (hb X.2.2.1 hd)
  exact Go.step (fun t q => stp _ q) (k T' ⟨X', X.2.1, X.2.2.1, X.2.2.2.1, X.2.2.2.2.1, X.2.2.2.2.2.1, e'⟩)
theorem g_clone (X : Sx Z own bytes ml p l e R s m args below meth c T locs cells slots h) {i W : Nat} {ad : String} {a : Addr} {ty : FieldType} {vs : List Value} (w1 : (Cond.methodLink own i ⟨ad, "clone", "()Ljava/lang/Object;"⟩).before a0 Z = true) (w2 : (Cond.sameMethod ad "java/lang/Object" "clone" "()Ljava/lang/Object;").before a0 Z = true) (w3 : (Cond.native ⟨"java/lang/Object", "clone", "()Ljava/lang/Object;"⟩).before a0 Z = true) (w4 : (Cond.instanceMethod ⟨"java/lang/Object", "clone", "()Ljava/lang/Object;"⟩).before a0 Z = true) (w5 : (Cond.selects ad ⟨ad, "clone", "()Ljava/lang/Object;"⟩ ⟨"java/lang/Object", "clone", "()Ljava/lang/Object;"⟩).before a0 Z = true) (w6 : (Cond.castable ad "java/lang/Cloneable").before a0 Z = true) (A : Av Z h a ty vs) (E : Exa Z h a ad) (hfit : ∀ v ∈ vs, fits ty v = true) (hd : decode bytes pc = .ok (.invokevirtual i, 3)) (hp : pc + 3 = pc') (hsz : Ls.size = ml) (hf : 1 ≤ R.frames) (hW : (st.map fun v => v.category).sum ≤ W) (hl : W + 14 ≤ R.locals) (cap : Nat) (hcap : vs.length ≤ cap) (hc : cells + 1 ≤ R.cells) (hs : slots + cap ≤ R.slots) (k : ∀ T' h' (b : Addr), b = h.size → Sx Z own bytes ml p l e R s m args below meth c T' locs (cells + 1) (slots + cap) h' → Ext h h' → Exa Z h' b ad → Av Z h' b ty vs → Go p e below K (T'.setTop (mkF m pc' Ls (.ref b :: st)))) : Go p e below K (T.setTop (mkF m pc Ls (.ref a :: st))) := by
  subst hp
  obtain ⟨cl, A, rfl, r⟩ := A
  have FC : FitC Z cl := fitC_of A fun j hj v hv => hfit v (by rw [← Array.getElem?_toList] at hv; exact List.mem_of_getElem? hv)
  obtain ⟨T', h', X', e', Ex, A', E', stp⟩ := cloneA X.1 X.2.1 X.2.2.2.2.2.1 X.2.2.2.2.1 w1 w2 w3 w4 w5 w6 X.2.2.2.2.2.2 A E FC (g := mkF m pc Ls (.ref a :: st)) rfl (by rw [X.2.2.2.1]; exact hsz) rfl (hb X.2.2.1 hd) hf (W := W) (cap := cap) (by simpa using hW) hl (by simpa using hcap) hc hs
  exact Go.step (fun t q => stp _ q) (k T' h' _ rfl ⟨X', X.2.1, X.2.2.1, X.2.2.2.1, X.2.2.2.2.1, X.2.2.2.2.2.1, e'⟩ Ex E' ⟨_, A', rfl, r⟩)
theorem g_static (X : Sx Z own bytes ml p l e R s m args below meth c T locs cells slots h) {y : MethodName} {yb : ByteArray} {yl : Nat} {yr : Option FieldType} {rm : Room} {as' : Array Value} {Q : Option Value → Heap → List Loc → Prop} {i W : Nat} (argsL rest : List Value) (w1 : (Cond.methodLink own i y).before a0 Z = true) (w2 : (Cond.static y).before a0 Z = true) (w3 : (Cond.initialized y.cls).before a0 Z = true) (w4 : (Cond.code y yb yl yr).before a0 Z = true) (M : Rm l Z y yb yl yr [] rm as' h Q) (hd : decode bytes pc = .ok (.invokestatic i, 3)) (hp : pc + 3 = pc') (hy : y.cls ≠ "java/lang/invoke/MethodHandle" ∧ y.cls ≠ "java/lang/invoke/VarHandle") (hf : rm.frames + 1 ≤ R.frames) (hl : W + (yl + 11) + rm.locals ≤ R.locals) (hsz : Ls.size = ml) (ha : argsL.toArray = as') (hst : st = argsL.reverse ++ rest) (hlen : ∀ sig, parseMethodDescriptor y.desc = some sig → argsL.length = sig.parameters.length) (hW : (rest.map fun v => v.category).sum ≤ W) (hc : cells + rm.cells ≤ R.cells) (hs : slots + rm.slots ≤ R.slots) (k : ∀ v T' L, Sx Z own bytes ml p l e R s m args below meth c T' (locs ++ L) (cells + rm.cells) (slots + rm.slots) T'.heap → Q v T'.heap L → Go p e below K (T'.setTop (mkF m pc' Ls (v.toList ++ rest)))) : Go p e below K (T.setTop (mkF m pc Ls (st))) := by
  subst hp; subst hst
  have hZ := X.2.2.2.2.2.1
  obtain ⟨v, vm1, ⟨T', L', k', n'⟩, -, X', ⟨L, hQ, l1, l2, l3⟩, stp⟩ := Jvm.LawKit.callS X.1 X.2.1 X.2.2.2.2.1 (mvT hZ w1) (mvT hZ w2) (mvT hZ w3) (mvT hZ w4) hy (backOf (W := W) M hZ w4 w3 hf hl) (g := mkF m pc Ls (argsL.reverse ++ rest)) rfl (by rw [X.2.2.2.1]; exact hsz) (argsL := argsL) (rest := rest) hlen rfl (by simpa using hW) (hb X.2.2.1 hd) (fun _ _ => ⟨ha, X.2.2.2.2.2.2, hc, hs⟩)
  dsimp only [Pt.U, Pt.locs, Pt.cells, Pt.slots] at X' l1 l2 l3 stp hQ
  subst l1 l2 l3
  exact Go.step (fun t q => stp _ q) (k v T' L ⟨X', X.2.1, X.2.2.1, X.2.2.2.1, X.2.2.2.2.1, X.2.2.2.2.2.1, rfl⟩ hQ)
theorem g_special (X : Sx Z own bytes ml p l e R s m args below meth c T locs cells slots h) {y : MethodName} {yb : ByteArray} {yl : Nat} {rm : Room} {as' : Array Value} {Q : Option Value → Heap → List Loc → Prop} {i W : Nat} {a : Addr} (argsL rest : List Value) (hi : y.name = "<init>") (w1 : (Cond.methodLink own i y).before a0 Z = true) (w2 : (Cond.instanceMethod y).before a0 Z = true) (w3 : (Cond.initialized y.cls).before a0 Z = true) (w4 : (Cond.code y yb yl none).before a0 Z = true) (M : Rm l Z y yb yl none [] rm as' h Q) (hd : decode bytes pc = .ok (.invokespecial i, 3)) (hp : pc + 3 = pc') (hy : y.cls ≠ "java/lang/invoke/MethodHandle" ∧ y.cls ≠ "java/lang/invoke/VarHandle") (hf : rm.frames + 1 ≤ R.frames) (hl : W + (yl + 11) + rm.locals ≤ R.locals) (hsz : Ls.size = ml) (ha : (.ref a :: argsL).toArray = as') (hst : st = argsL.reverse ++ .ref a :: rest) (hlen : ∀ sig, parseMethodDescriptor y.desc = some sig → argsL.length = sig.parameters.length) (hW : (rest.map fun v => v.category).sum ≤ W) (hc : cells + rm.cells ≤ R.cells) (hs : slots + rm.slots ≤ R.slots) (k : ∀ v T' L, Sx Z own bytes ml p l e R s m args below meth c T' (locs ++ L) (cells + rm.cells) (slots + rm.slots) T'.heap → Q v T'.heap L → Go p e below K (T'.setTop (mkF m pc' Ls (v.toList ++ rest)))) : Go p e below K (T.setTop (mkF m pc Ls (st))) := by
  subst hp; subst hst
  have hZ := X.2.2.2.2.2.1
  obtain ⟨v, vm1, ⟨T', L', k', n'⟩, -, X', ⟨L, hQ, l1, l2, l3⟩, stp⟩ := X.1.specialBack X.2.1 (y := y) hi X.2.2.2.2.1 (mvT hZ w1) (mvT hZ w2) (mvT hZ w4) hy (backOf (W := W) M hZ w4 w3 hf hl) (g := mkF m pc Ls (argsL.reverse ++ .ref a :: rest)) rfl (by rw [X.2.2.2.1]; exact hsz) (Steps.refl _) (a := a) (argsL := argsL) (rest := rest) hlen rfl (by simpa using hW) (hb X.2.2.1 hd) (fun _ _ => ⟨ha, X.2.2.2.2.2.2, hc, hs⟩)
  dsimp only [Pt.U, Pt.locs, Pt.cells, Pt.slots] at X' l1 l2 l3 stp hQ
  subst l1 l2 l3
  exact Go.step (fun t q => stp.trans q) (k v T' L ⟨X', X.2.1, X.2.2.1, X.2.2.2.1, X.2.2.2.2.1, X.2.2.2.2.2.1, rfl⟩ hQ)
theorem g_virtual (X : Sx Z own bytes ml p l e R s m args below meth c T locs cells slots h) {y : MethodName} {yb : ByteArray} {yl : Nat} {yr : Option FieldType} {rm : Room} {as' : Array Value} {Q : Option Value → Heap → List Loc → Prop} {i W : Nat} {a : Addr} {C : String} (argsL rest : List Value) (E : Exa Z h a C) (w1 : (Cond.methodLink own i y).before a0 Z = true) (w2 : (Cond.declares y).before a0 Z = true) (w5 : (Cond.selects C y y).before a0 Z = true) (w6 : (Cond.instanceMethod y).before a0 Z = true) (w3 : (Cond.initialized y.cls).before a0 Z = true) (w4 : (Cond.code y yb yl yr).before a0 Z = true) (M : Rm l Z y yb yl yr [] rm as' h Q) (hd : decode bytes pc = .ok (.invokevirtual i, 3)) (hp : pc + 3 = pc') (hy : y.cls ≠ "java/lang/invoke/MethodHandle" ∧ y.cls ≠ "java/lang/invoke/VarHandle") (hf : rm.frames + 1 ≤ R.frames) (hl : W + (yl + 11) + rm.locals ≤ R.locals) (hsz : Ls.size = ml) (ha : (.ref a :: argsL).toArray = as') (hst : st = argsL.reverse ++ .ref a :: rest) (hlen : ∀ sig, parseMethodDescriptor y.desc = some sig → argsL.length = sig.parameters.length) (hW : (rest.map fun v => v.category).sum ≤ W) (hc : cells + rm.cells ≤ R.cells) (hs : slots + rm.slots ≤ R.slots) (k : ∀ v T' L, Sx Z own bytes ml p l e R s m args below meth c T' (locs ++ L) (cells + rm.cells) (slots + rm.slots) T'.heap → Q v T'.heap L → Go p e below K (T'.setTop (mkF m pc' Ls (v.toList ++ rest)))) : Go p e below K (T.setTop (mkF m pc Ls (st))) := by
  subst hp; subst hst
  have hZ := X.2.2.2.2.2.1
  obtain ⟨cq, kq, qa, qb, qc⟩ := isOf hZ X.2.2.2.2.2.2 E
  obtain ⟨v, vm1, ⟨T', L', k', n'⟩, -, X', ⟨L, hQ, l1, l2, l3⟩, stp⟩ := X.1.virtualBack X.2.1 (y := y) (z := y) X.2.2.2.2.1 (mvT hZ w1) (mvT hZ w2) (notFace_of_selects (args := #[]) (mvT hZ w5)) (mvT hZ w5) (mvT hZ w6) hy (backOf (W := W) M hZ w4 w3 hf hl) qa qc (g := mkF m pc Ls (argsL.reverse ++ .ref a :: rest)) rfl (by rw [X.2.2.2.1]; exact hsz) (Steps.refl _) (argsL := argsL) (rest := rest) hlen rfl (by simpa using hW) (hb X.2.2.1 hd) (fun _ _ => ⟨ha, X.2.2.2.2.2.2, hc, hs⟩)
  dsimp only [Pt.U, Pt.locs, Pt.cells, Pt.slots] at X' l1 l2 l3 stp hQ
  subst l1 l2 l3
  exact Go.step (fun t q => stp.trans q) (k v T' L ⟨X', X.2.1, X.2.2.1, X.2.2.2.1, X.2.2.2.2.1, X.2.2.2.2.2.1, rfl⟩ hQ)
theorem g_virtualUp (X : Sx Z own bytes ml p l e R s m args below meth c T locs cells slots h) {y : MethodName} {yb : ByteArray} {yl : Nat} {yr : Option FieldType} {rm : Room} {as' : Array Value} {Q : Option Value → Heap → List Loc → Prop} {i W : Nat} {a : Addr} {C owner : String} {x : MethodName} (argsL rest : List Value) (E : Exa Z h a C) (w1 : (Cond.methodLink own i x).before a0 Z = true) (w8 : (Cond.sameMethod x.cls owner x.name x.desc).before a0 Z = true) (w2 : (Cond.declares ⟨owner, x.name, x.desc⟩).before a0 Z = true) (w5 : (Cond.selects C x y).before a0 Z = true) (w6 : (Cond.instanceMethod y).before a0 Z = true) (w3 : (Cond.initialized y.cls).before a0 Z = true) (w4 : (Cond.code y yb yl yr).before a0 Z = true) (M : Rm l Z y yb yl yr [] rm as' h Q) (hd : decode bytes pc = .ok (.invokevirtual i, 3)) (hp : pc + 3 = pc') (hy : owner ≠ "java/lang/invoke/MethodHandle" ∧ owner ≠ "java/lang/invoke/VarHandle") (hf : rm.frames + 1 ≤ R.frames) (hl : W + (yl + 11) + rm.locals ≤ R.locals) (hsz : Ls.size = ml) (ha : (.ref a :: argsL).toArray = as') (hst : st = argsL.reverse ++ .ref a :: rest) (hlen : ∀ sig, parseMethodDescriptor x.desc = some sig → argsL.length = sig.parameters.length) (hW : (rest.map fun v => v.category).sum ≤ W) (hc : cells + rm.cells ≤ R.cells) (hs : slots + rm.slots ≤ R.slots) (k : ∀ v T' L, Sx Z own bytes ml p l e R s m args below meth c T' (locs ++ L) (cells + rm.cells) (slots + rm.slots) T'.heap → Q v T'.heap L → Go p e below K (T'.setTop (mkF m pc' Ls (v.toList ++ rest)))) : Go p e below K (T.setTop (mkF m pc Ls (st))) := by
  subst hp; subst hst
  have hZ := X.2.2.2.2.2.1
  obtain ⟨cq, kq, qa, qb, qc⟩ := isOf hZ X.2.2.2.2.2.2 E
  obtain ⟨v, vm1, ⟨T', L', k', n'⟩, -, X', ⟨L, hQ, l1, l2, l3⟩, stp⟩ := X.1.virtualBackUp X.2.1 (x := x) (y := y) X.2.2.2.2.1 (mvT hZ w1) (mvT hZ w8) (mvT hZ w2) hy (mvT hZ w5) (mvT hZ w6) (backOf (W := W) M hZ w4 w3 hf hl) qa qc (g := mkF m pc Ls (argsL.reverse ++ .ref a :: rest)) rfl (by rw [X.2.2.2.1]; exact hsz) (Steps.refl _) (argsL := argsL) (rest := rest) hlen rfl (by simpa using hW) (hb X.2.2.1 hd) (fun _ _ => ⟨ha, X.2.2.2.2.2.2, hc, hs⟩)
  dsimp only [Pt.U, Pt.locs, Pt.cells, Pt.slots] at X' l1 l2 l3 stp hQ
  subst l1 l2 l3
  exact Go.step (fun t q => stp.trans q) (k v T' L ⟨X', X.2.1, X.2.2.1, X.2.2.2.1, X.2.2.2.2.1, X.2.2.2.2.2.1, rfl⟩ hQ)
theorem g_private (X : Sx Z own bytes ml p l e R s m args below meth c T locs cells slots h) {y : MethodName} {yb : ByteArray} {yl : Nat} {yr : Option FieldType} {rm : Room} {as' : Array Value} {Q : Option Value → Heap → List Loc → Prop} {i W : Nat} {a : Addr} (argsL rest : List Value) (E : Exa Z h a y.cls) (w1 : (Cond.methodLink own i y).before a0 Z = true) (w5 : (Cond.selects y.cls y y).before a0 Z = true) (w6 : (Cond.instanceMethod y).before a0 Z = true) (w7 : (Cond.privateMethod y).before a0 Z = true) (w3 : (Cond.initialized y.cls).before a0 Z = true) (w4 : (Cond.code y yb yl yr).before a0 Z = true) (M : Rm l Z y yb yl yr [] rm as' h Q) (hd : decode bytes pc = .ok (.invokevirtual i, 3)) (hp : pc + 3 = pc') (hy : y.cls ≠ "java/lang/invoke/MethodHandle" ∧ y.cls ≠ "java/lang/invoke/VarHandle") (hf : rm.frames + 1 ≤ R.frames) (hl : W + (yl + 11) + rm.locals ≤ R.locals) (hsz : Ls.size = ml) (ha : (.ref a :: argsL).toArray = as') (hst : st = argsL.reverse ++ .ref a :: rest) (hlen : ∀ sig, parseMethodDescriptor y.desc = some sig → argsL.length = sig.parameters.length) (hW : (rest.map fun v => v.category).sum ≤ W) (hc : cells + rm.cells ≤ R.cells) (hs : slots + rm.slots ≤ R.slots) (k : ∀ v T' L, Sx Z own bytes ml p l e R s m args below meth c T' (locs ++ L) (cells + rm.cells) (slots + rm.slots) T'.heap → Q v T'.heap L → Go p e below K (T'.setTop (mkF m pc' Ls (v.toList ++ rest)))) : Go p e below K (T.setTop (mkF m pc Ls (st))) := by
  subst hp; subst hst
  have hZ := X.2.2.2.2.2.1
  obtain ⟨cq, q1, q2⟩ := E.cell
  obtain ⟨v, vm1, ⟨T', L', k', n'⟩, -, X', ⟨L, hQ, l1, l2, l3⟩, stp⟩ := X.1.privateBack X.2.1 (y := y) X.2.2.2.2.1 (mvT hZ w1) (mvT hZ w6) (mvT hZ w5) (Cond.privateMethod_at (mvP hZ w7 (args := #[]))) (mvT hZ w4) hy (backOf (W := W) M hZ w4 w3 hf hl) (g := mkF m pc Ls (argsL.reverse ++ .ref a :: rest)) rfl (by rw [X.2.2.2.1]; exact hsz) (Steps.refl _) (a := a) (by rw [X.2.2.2.2.2.2]; exact q1) q2 (argsL := argsL) (rest := rest) hlen rfl (by simpa using hW) (hb X.2.2.1 hd) (fun _ _ => ⟨ha, X.2.2.2.2.2.2, hc, hs⟩)
  dsimp only [Pt.U, Pt.locs, Pt.cells, Pt.slots] at X' l1 l2 l3 stp hQ
  subst l1 l2 l3
  exact Go.step (fun t q => stp.trans q) (k v T' L ⟨X', X.2.1, X.2.2.1, X.2.2.2.1, X.2.2.2.2.1, X.2.2.2.2.2.1, rfl⟩ hQ)
theorem g_specialB (X : Sx Z own bytes ml p l e R s m args below meth c T locs cells slots h) {y : MethodName} {as' : Array Value} {Q : Option Value → Heap → List Loc → Prop} {i W kc ks : Nat} {a : Addr} {yb : ByteArray} {yl : Nat} (argsL rest : List Value) (hi : y.name = "<init>") (w1 : (Cond.methodLink own i y).before a0 Z = true) (w2 : (Cond.instanceMethod y).before a0 Z = true) (w4 : (Cond.code y yb yl none).before a0 Z = true) (hK : Back l R p e below s args y 3 W (fun A a => a = as' ∧ A.U.heap = h ∧ A.cells + kc ≤ R.cells ∧ A.slots + ks ≤ R.slots) (fun A _ v B => ∃ L, Q v B.U.heap L ∧ B.locs = A.locs ++ L ∧ B.cells = A.cells + kc ∧ B.slots = A.slots + ks)) (hd : decode bytes pc = .ok (.invokespecial i, 3)) (hp : pc + 3 = pc') (hy : y.cls ≠ "java/lang/invoke/MethodHandle" ∧ y.cls ≠ "java/lang/invoke/VarHandle") (hsz : Ls.size = ml) (ha : (.ref a :: argsL).toArray = as') (hst : st = argsL.reverse ++ .ref a :: rest) (hlen : ∀ sig, parseMethodDescriptor y.desc = some sig → argsL.length = sig.parameters.length) (hW : (rest.map fun v => v.category).sum ≤ W) (hc : cells + kc ≤ R.cells) (hs : slots + ks ≤ R.slots) (k : ∀ v T' L, Sx Z own bytes ml p l e R s m args below meth c T' (locs ++ L) (cells + kc) (slots + ks) T'.heap → Q v T'.heap L → Go p e below K (T'.setTop (mkF m pc' Ls (v.toList ++ rest)))) : Go p e below K (T.setTop (mkF m pc Ls (st))) := by
  subst hp; subst hst
  have hZ := X.2.2.2.2.2.1
  obtain ⟨v, vm1, ⟨T', L', k', n'⟩, -, X', ⟨L, hQ, l1, l2, l3⟩, stp⟩ := X.1.specialBack X.2.1 (y := y) hi X.2.2.2.2.1 (mvT hZ w1) (mvT hZ w2) (mvT hZ w4) hy hK (g := mkF m pc Ls (argsL.reverse ++ .ref a :: rest)) rfl (by rw [X.2.2.2.1]; exact hsz) (Steps.refl _) (a := a) (argsL := argsL) (rest := rest) hlen rfl (by simpa using hW) (hb X.2.2.1 hd) (fun _ _ => ⟨ha, X.2.2.2.2.2.2, hc, hs⟩)
  dsimp only [Pt.U, Pt.locs, Pt.cells, Pt.slots] at X' l1 l2 l3 stp hQ
  subst l1 l2 l3
  exact Go.step (fun t q => stp.trans q) (k v T' L ⟨X', X.2.1, X.2.2.1, X.2.2.2.1, X.2.2.2.2.1, X.2.2.2.2.2.1, rfl⟩ hQ)
theorem g_virtualB (X : Sx Z own bytes ml p l e R s m args below meth c T locs cells slots h) {y : MethodName} {as' : Array Value} {Q : Option Value → Heap → List Loc → Prop} {i W kc ks : Nat} {a : Addr} {C : String} (argsL rest : List Value) (E : Exa Z h a C) (w1 : (Cond.methodLink own i y).before a0 Z = true) (w2 : (Cond.declares y).before a0 Z = true) (w5 : (Cond.selects C y y).before a0 Z = true) (w6 : (Cond.instanceMethod y).before a0 Z = true) (hK : Back l R p e below s args y 3 W (fun A a => a = as' ∧ A.U.heap = h ∧ A.cells + kc ≤ R.cells ∧ A.slots + ks ≤ R.slots) (fun A _ v B => ∃ L, Q v B.U.heap L ∧ B.locs = A.locs ++ L ∧ B.cells = A.cells + kc ∧ B.slots = A.slots + ks)) (hd : decode bytes pc = .ok (.invokevirtual i, 3)) (hp : pc + 3 = pc') (hy : y.cls ≠ "java/lang/invoke/MethodHandle" ∧ y.cls ≠ "java/lang/invoke/VarHandle") (hsz : Ls.size = ml) (ha : (.ref a :: argsL).toArray = as') (hst : st = argsL.reverse ++ .ref a :: rest) (hlen : ∀ sig, parseMethodDescriptor y.desc = some sig → argsL.length = sig.parameters.length) (hW : (rest.map fun v => v.category).sum ≤ W) (hc : cells + kc ≤ R.cells) (hs : slots + ks ≤ R.slots) (k : ∀ v T' L, Sx Z own bytes ml p l e R s m args below meth c T' (locs ++ L) (cells + kc) (slots + ks) T'.heap → Q v T'.heap L → Go p e below K (T'.setTop (mkF m pc' Ls (v.toList ++ rest)))) : Go p e below K (T.setTop (mkF m pc Ls (st))) := by
  subst hp; subst hst
  have hZ := X.2.2.2.2.2.1
  obtain ⟨cq, kq, qa, qb, qc⟩ := isOf hZ X.2.2.2.2.2.2 E
  obtain ⟨v, vm1, ⟨T', L', k', n'⟩, -, X', ⟨L, hQ, l1, l2, l3⟩, stp⟩ := X.1.virtualBack X.2.1 (y := y) (z := y) X.2.2.2.2.1 (mvT hZ w1) (mvT hZ w2) (notFace_of_selects (args := #[]) (mvT hZ w5)) (mvT hZ w5) (mvT hZ w6) hy hK qa qc (g := mkF m pc Ls (argsL.reverse ++ .ref a :: rest)) rfl (by rw [X.2.2.2.1]; exact hsz) (Steps.refl _) (argsL := argsL) (rest := rest) hlen rfl (by simpa using hW) (hb X.2.2.1 hd) (fun _ _ => ⟨ha, X.2.2.2.2.2.2, hc, hs⟩)
  dsimp only [Pt.U, Pt.locs, Pt.cells, Pt.slots] at X' l1 l2 l3 stp hQ
  subst l1 l2 l3
  exact Go.step (fun t q => stp.trans q) (k v T' L ⟨X', X.2.1, X.2.2.1, X.2.2.2.1, X.2.2.2.2.1, X.2.2.2.2.2.1, rfl⟩ hQ)
theorem g_ireturn (X : Sx Z own bytes ml p l e R s m args below meth c T locs cells slots h) {Q : Option Value → Heap → List Loc → Prop} {kc ks : Nat} {z : Int32} (hd : decode bytes pc = .ok (.ireturn, 1)) (hret : meth.sig.returnType = some .int) (hlk : meth.locks = false) (hc : cells ≤ kc) (hs : slots ≤ ks) (q : Q (some (.int z)) h locs) : Go p e below (Ends s Q kc ks) (T.setTop (mkF m pc Ls (.int z :: st))) := by
  obtain ⟨fs, hr, hrun, hended, hW, hsame⟩ := X.1.leave (v := (some (.int z))) (fun h => by rw [hret] at h; cases h) hlk
  refine ⟨_, _, retI X.1 X.2.1 hret (hb X.2.2.1 hd) hr, hrun, hended, _, _, rfl, ?_, ⟨_, rfl⟩, hW, hsame.mono hc hs⟩
  show Q _ T.heap _
  rw [X.2.2.2.2.2.2]; exact q
theorem g_lreturn (X : Sx Z own bytes ml p l e R s m args below meth c T locs cells slots h) {Q : Option Value → Heap → List Loc → Prop} {kc ks : Nat} {z : Int64} (hd : decode bytes pc = .ok (.lreturn, 1)) (hret : meth.sig.returnType = some .long) (hlk : meth.locks = false) (hc : cells ≤ kc) (hs : slots ≤ ks) (q : Q (some (.long z)) h locs) : Go p e below (Ends s Q kc ks) (T.setTop (mkF m pc Ls (.long z :: st))) := by
  obtain ⟨fs, hr, hrun, hended, hW, hsame⟩ := X.1.leave (v := (some (.long z))) (fun h => by rw [hret] at h; cases h) hlk
  refine ⟨_, _, retJ X.1 X.2.1 hret (hb X.2.2.1 hd) hr, hrun, hended, _, _, rfl, ?_, ⟨_, rfl⟩, hW, hsame.mono hc hs⟩
  show Q _ T.heap _
  rw [X.2.2.2.2.2.2]; exact q
theorem g_ireturnN (X : Sx Z own bytes ml p l e R s m args below meth c T locs cells slots h) {Q : Option Value → Heap → List Loc → Prop} {kc ks : Nat} {z : Int32} {t : FieldType} (ht : t = .boolean ∨ t = .byte ∨ t = .char ∨ t = .short) (hd : decode bytes pc = .ok (.ireturn, 1)) (hret : meth.sig.returnType = some t) (hlk : meth.locks = false) (hc : cells ≤ kc) (hs : slots ≤ ks) (q : Q (some (.int (nar t z))) h locs) : Go p e below (Ends s Q kc ks) (T.setTop (mkF m pc Ls (.int z :: st))) := by
  obtain ⟨fs, hr, hrun, hended, hW, hsame⟩ := X.1.leave (v := (some (.int (nar t z)))) (fun h => by rw [hret] at h; cases h) hlk
  refine ⟨_, _, retN X.1 X.2.1 hret ht (hb X.2.2.1 hd) hr, hrun, hended, _, _, rfl, ?_, ⟨_, rfl⟩, hW, hsame.mono hc hs⟩
  show Q _ T.heap _
  rw [X.2.2.2.2.2.2]; exact q
theorem g_areturn (X : Sx Z own bytes ml p l e R s m args below meth c T locs cells slots h) {Q : Option Value → Heap → List Loc → Prop} {kc ks : Nat} {w : Value} {t : FieldType} (hw : w.isRef = true) (ht : t.isReference = true) (hd : decode bytes pc = .ok (.areturn, 1)) (hret : meth.sig.returnType = some t) (hlk : meth.locks = false) (hc : cells ≤ kc) (hs : slots ≤ ks) (q : Q (some w) h locs) : Go p e below (Ends s Q kc ks) (T.setTop (mkF m pc Ls ([w]))) := by
  obtain ⟨fs, hr, hrun, hended, hW, hsame⟩ := X.1.leave (v := (some w)) (fun h => by rw [hret] at h; cases h) hlk
  refine ⟨_, _, X.1.areturnOut X.2.1 hw hret ht (hb X.2.2.1 hd) hr, hrun, hended, _, _, rfl, ?_, ⟨_, rfl⟩, hW, hsame.mono hc hs⟩
  show Q _ T.heap _
  rw [X.2.2.2.2.2.2]; exact q
theorem g_return (X : Sx Z own bytes ml p l e R s m args below meth c T locs cells slots h) {Q : Option Value → Heap → List Loc → Prop} {kc ks : Nat} (hd : decode bytes pc = .ok (.return_, 1)) (hret : meth.sig.returnType = none) (hlk : meth.locks = false) (hc : cells ≤ kc) (hs : slots ≤ ks) (q : Q none h locs) : Go p e below (Ends s Q kc ks) (T.setTop (mkF m pc Ls ([]))) := by
  obtain ⟨fs, hr, hrun, hended, hW, hsame⟩ := X.1.leave (v := none) (fun _ => rfl) hlk
  refine ⟨_, _, X.1.returnOut X.2.1 hret (hb X.2.2.1 hd) hr, hrun, hended, _, _, rfl, ?_, ⟨_, rfl⟩, hW, hsame.mono hc hs⟩
  show Q _ T.heap _
  rw [X.2.2.2.2.2.2]; exact q
/-- a loop that writes nothing: F: the frame at its head; I: what holds there; mu: the turns left -/
theorem loopP {α : Type} (X : Sx Z own bytes ml p l e R s m args below meth c T locs cells slots h) (F : α → JFrame) (I : α → Prop) (mu : α → Nat)
    (hstep : ∀ (a : α) (T : State), Sx Z own bytes ml p l e R s m args below meth c T locs cells slots h → I a → (∀ (a' : α) (T' : State), mu a' < mu a → Sx Z own bytes ml p l e R s m args below meth c T' locs cells slots h → I a' → Go p e below K (T'.setTop (F a'))) → Go p e below K (T.setTop (F a))) (b : α) (hI : I b) : Go p e below K (T.setTop (F b)) := by
  have main : ∀ (n : Nat) (a : α) (T : State), mu a < n → Sx Z own bytes ml p l e R s m args below meth c T locs cells slots h → I a → Go p e below K (T.setTop (F a)) := by
    intro n
    induction n with
    | zero => intro a T q; exact absurd q (Nat.not_lt_zero _)
    | succ n ih => intro a T q X hI; exact hstep a T X hI (fun a' T' q' X' hI' => ih a' T' (Nat.lt_of_lt_of_le q' (Nat.le_of_lt_succ q)) X' hI')
  exact main _ b T (Nat.lt_succ_self _) X hI
/-- a loop that writes -/
theorem loopW {α : Type} (X : Sx Z own bytes ml p l e R s m args below meth c T locs cells slots h) (F : α → JFrame) (I : α → Heap → List Loc → Prop) (mu : α → Nat)
    (hstep : ∀ (a : α) (T : State) (h : Heap) (locs : List Loc), Sx Z own bytes ml p l e R s m args below meth c T locs cells slots h → I a h locs → (∀ (a' : α) (T' : State) (h' : Heap) (locs' : List Loc), mu a' < mu a → Sx Z own bytes ml p l e R s m args below meth c T' locs' cells slots h' → I a' h' locs' → Go p e below K (T'.setTop (F a'))) → Go p e below K (T.setTop (F a))) (b : α) (hI : I b h locs) : Go p e below K (T.setTop (F b)) := by
  have main : ∀ (n : Nat) (a : α) (T : State) (h : Heap) (locs : List Loc), mu a < n → Sx Z own bytes ml p l e R s m args below meth c T locs cells slots h → I a h locs → Go p e below K (T.setTop (F a)) := by
    intro n
    induction n with
    | zero => intro a T h locs q; exact absurd q (Nat.not_lt_zero _)
    | succ n ih => intro a T h locs q X hI; exact hstep a T h locs X hI (fun a' T' h' locs' q' X' hI' => ih a' T' h' locs' (Nat.lt_of_lt_of_le q' (Nat.le_of_lt_succ q)) X' hI')
  exact main _ b T h locs (Nat.lt_succ_self _) X hI
/-- two ways that meet again -/
theorem joinA {α : Type} (X : Sx Z own bytes ml p l e R s m args below meth c T locs cells slots h) (F : α → JFrame) (r : α → Prop) {f : JFrame} (k : ∀ (T' : State), Sx Z own bytes ml p l e R s m args below meth c T' locs cells slots h → ∀ v : α, r v → Go p e below K (T'.setTop (F v)))
    (b : (∀ (T' : State), Sx Z own bytes ml p l e R s m args below meth c T' locs cells slots h → ∀ v : α, r v → Go p e below K (T'.setTop (F v))) → Go p e below K (T.setTop f)) : Go p e below K (T.setTop f) := b k
end Walk
theorem narT : nar .boolean (1 : Int32) = b2i true := rfl
theorem narF : nar .boolean (0 : Int32) = b2i false := rfl
/-- the sheet's k-th word -/
theorem tb {a0 : Array Value} {Z : State} (hw : ∀ d ∈ tables_1, d.before a0 Z = true) (k : Nat) {d : Jvm.Cond} (hd : tables_1[k]? = some d) : d.before a0 Z = true := hw d (List.mem_of_getElem? hd)
/-- what a method says that writes and makes nothing: it returns this -/
def Pu (val : Value) (h0 : Heap) (v : Option Value) (h : Heap) (L : List Loc) : Prop := v = some val ∧ L = [] ∧ h = h0
theorem pureX {Z : State} {own : String} {bytes : ByteArray} {ml : Nat} {p : Program} {l : Launch} {e : Env} {R : Room} {s : State} {m : MethodId} {args : Array Value} {below : List Frame} {meth : Method} {c : Code} {T : State} {locs L : List Loc} {cells slots : Nat} {h : Heap} {val : Value} {v : Option Value}
    (X : Sx Z own bytes ml p l e R s m args below meth c T (locs ++ L) (cells + 0) (slots + 0) T.heap) (q : Pu val h v T.heap L) : v = some val ∧ Sx Z own bytes ml p l e R s m args below meth c T locs cells slots h := by
  obtain ⟨q1, rfl, q3⟩ := q
  rw [List.append_nil] at X
  exact ⟨q1, X.1, X.2.1, X.2.2.1, X.2.2.2.1, X.2.2.2.2.1, X.2.2.2.2.2.1, q3⟩
theorem pn_0 : plainName "com/example/pathlattice/pathlattice/graph/ComponentsSizePinLaw" = true := by first | (simp [plainName, overriddenIn]; done) | decide +kernel
theorem d1_0 : decode method_3_code 0 = .ok (.iload_n 0, 1) := by decide +kernel
theorem d1_1 : decode method_3_code 1 = .ok (.iload_n 1, 1) := by decide +kernel
theorem d1_2 : decode method_3_code 2 = .ok (.if_icmp .ge 5, 3) := by decide +kernel
theorem d1_5 : decode method_3_code 5 = .ok (.iconst 0, 1) := by decide +kernel
theorem d1_6 : decode method_3_code 6 = .ok (.ireturn, 1) := by decide +kernel
theorem d1_7 : decode method_3_code 7 = .ok (.iload_n 0, 1) := by decide +kernel
theorem d1_8 : decode method_3_code 8 = .ok (.iload_n 2, 1) := by decide +kernel
theorem d1_9 : decode method_3_code 9 = .ok (.if_icmp .ge 5, 3) := by decide +kernel
theorem d1_12 : decode method_3_code 12 = .ok (.iconst 1, 1) := by decide +kernel
theorem d1_13 : decode method_3_code 13 = .ok (.ireturn, 1) := by decide +kernel
theorem d1_14 : decode method_3_code 14 = .ok (.iconst 2, 1) := by decide +kernel
theorem d1_15 : decode method_3_code 15 = .ok (.ireturn, 1) := by decide +kernel
def fComp (i0 : Int32) (i1 : Int32) (i2 : Int32) : Int32 := if i0 < i1 then ((0 : Int32)) else (if i0 < i2 then ((1 : Int32)) else ((2 : Int32)))
theorem ef_rComp (m : MethodId) (x0 : Int32) (x1 : Int32) (x2 : Int32) : entryFrame m #[(.int x0), (.int x1), (.int x2)] 3 = mkF m 0 #[.val (.int x0), .val (.int x1), .val (.int x2)] [] := by first | (simp [entryFrame, mkF, argsToLocals, Value.category]; done) | rfl
set_option maxRecDepth 65536 in
set_option maxHeartbeats 40000000 in
theorem rComp (l : Launch) (Z : State) (aa : Array Value) (hw : ∀ d ∈ tables_1, d.before aa Z = true) (ws : List Jvm.Cond) (i0 : Int32) (i1 : Int32) (i2 : Int32) (h0 : Heap) :
    Rm l Z (⟨"com/example/pathlattice/pathlattice/graph/ComponentsSizePinLaw", "comp", "(III)I"⟩ : MethodName) method_3_code 3 (some .int) ws ({ frames := 0, cells := 0, slots := 0, locals := 0 } : Room) #[(.int i0), (.int i1), (.int i2)] h0 (Pu (.int (fComp i0 i1 i2)) h0) := by
  refine Rm.of (plainFor_of_name pn_0) ?_
  intro p e s m below meth cc T X hnm hret hlk
  refine Go.at_ (ef_rComp m i0 i1 i2) ?_
  refine g_iloadN X d1_0 (pc' := 1) rfl rfl ?_
  refine g_iloadN X d1_1 (pc' := 2) rfl rfl ?_
  by_cases hc2_1 : i0 < i1
  · skip
    refine g_icN X d1_2 (tlt hc2_1).2.1 (pc' := 5) rfl ?_
    refine g_iconst X (0 : Int32) d1_5 (pc' := 6) rfl rfl ?_
    refine g_ireturn X d1_6 hret hlk (by decide) (by decide) ?_
    exact ⟨congrArg (fun z => some (Value.int z)) (Eq.symm (show fComp i0 i1 i2 = _ from (Eq.trans (if_pos hc2_1) rfl))), rfl, rfl⟩
  · skip
    refine g_icY X d1_2 (flt hc2_1).2.1 (pc' := 7) (by decide) (by decide) ?_
    refine g_iloadN X d1_7 (pc' := 8) rfl rfl ?_
    refine g_iloadN X d1_8 (pc' := 9) rfl rfl ?_
    by_cases hc9_2 : i0 < i2
    · skip
      refine g_icN X d1_9 (tlt hc9_2).2.1 (pc' := 12) rfl ?_
      refine g_iconst X (1 : Int32) d1_12 (pc' := 13) rfl rfl ?_
      refine g_ireturn X d1_13 hret hlk (by decide) (by decide) ?_
      exact ⟨congrArg (fun z => some (Value.int z)) (Eq.symm (show fComp i0 i1 i2 = _ from (Eq.trans (if_neg hc2_1) (Eq.trans (if_pos hc9_2) rfl)))), rfl, rfl⟩
    · skip
      refine g_icY X d1_9 (flt hc9_2).2.1 (pc' := 14) (by decide) (by decide) ?_
      refine g_iconst X (2 : Int32) d1_14 (pc' := 15) rfl rfl ?_
      refine g_ireturn X d1_15 hret hlk (by decide) (by decide) ?_
      exact ⟨congrArg (fun z => some (Value.int z)) (Eq.symm (show fComp i0 i1 i2 = _ from (Eq.trans (if_neg hc2_1) (Eq.trans (if_neg hc9_2) rfl)))), rfl, rfl⟩
theorem d5_0 : decode method_2_code 0 = .ok (.iload_n 0, 1) := by decide +kernel
theorem d5_1 : decode method_2_code 1 = .ok (.iload_n 1, 1) := by decide +kernel
theorem d5_2 : decode method_2_code 2 = .ok (.if_icmp .ne 7, 3) := by decide +kernel
theorem d5_5 : decode method_2_code 5 = .ok (.iconst 1, 1) := by decide +kernel
theorem d5_6 : decode method_2_code 6 = .ok (.goto 4, 3) := by decide +kernel
theorem d5_10 : decode method_2_code 10 = .ok (.ireturn, 1) := by decide +kernel
theorem d5_9 : decode method_2_code 9 = .ok (.iconst 0, 1) := by decide +kernel
def fEq (i0 : Int32) (i1 : Int32) : Int32 := if i0 = i1 then ((1 : Int32)) else ((0 : Int32))
theorem ef_rEq (m : MethodId) (x0 : Int32) (x1 : Int32) : entryFrame m #[(.int x0), (.int x1)] 2 = mkF m 0 #[.val (.int x0), .val (.int x1)] [] := by first | (simp [entryFrame, mkF, argsToLocals, Value.category]; done) | rfl
set_option maxRecDepth 65536 in
set_option maxHeartbeats 40000000 in
theorem rEq (l : Launch) (Z : State) (aa : Array Value) (hw : ∀ d ∈ tables_1, d.before aa Z = true) (ws : List Jvm.Cond) (i0 : Int32) (i1 : Int32) (h0 : Heap) :
    Rm l Z (⟨"com/example/pathlattice/pathlattice/graph/ComponentsSizePinLaw", "eq", "(II)I"⟩ : MethodName) method_2_code 2 (some .int) ws ({ frames := 0, cells := 0, slots := 0, locals := 0 } : Room) #[(.int i0), (.int i1)] h0 (Pu (.int (fEq i0 i1)) h0) := by
  refine Rm.of (plainFor_of_name pn_0) ?_
  intro p e s m below meth cc T X hnm hret hlk
  refine Go.at_ (ef_rEq m i0 i1) ?_
  refine g_iloadN X d5_0 (pc' := 1) rfl rfl ?_
  refine g_iloadN X d5_1 (pc' := 2) rfl rfl ?_
  by_cases hc2_1 : i0 = i1
  · skip
    refine g_icN X d5_2 (teq hc2_1).2 (pc' := 5) rfl ?_
    refine g_iconst X (1 : Int32) d5_5 (pc' := 6) rfl rfl ?_
    refine g_goto X d5_6 (pc' := 10) (by decide) (by decide) ?_
    refine g_ireturn X d5_10 hret hlk (by decide) (by decide) ?_
    exact ⟨congrArg (fun z => some (Value.int z)) (Eq.symm (show fEq i0 i1 = _ from (Eq.trans (if_pos hc2_1) rfl))), rfl, rfl⟩
  · skip
    refine g_icY X d5_2 (feq hc2_1).2 (pc' := 9) (by decide) (by decide) ?_
    refine g_iconst X (0 : Int32) d5_9 (pc' := 10) rfl rfl ?_
    refine g_ireturn X d5_10 hret hlk (by decide) (by decide) ?_
    exact ⟨congrArg (fun z => some (Value.int z)) (Eq.symm (show fEq i0 i1 = _ from (Eq.trans (if_neg hc2_1) rfl))), rfl, rfl⟩
theorem pn_1 : plainName "com/example/pathlattice/pathlattice/graph/Components" = true := by first | (simp [plainName, overriddenIn]; done) | decide +kernel
theorem d2_0 : decode prog_17_method_1_code 0 = .ok (.aload_n 0, 1) := by decide +kernel
theorem d2_1 : decode prog_17_method_1_code 1 = .ok (.invokespecial 1, 3) := by decide +kernel
theorem d2_4 : decode prog_17_method_1_code 4 = .ok (.aload_n 0, 1) := by decide +kernel
theorem d2_5 : decode prog_17_method_1_code 5 = .ok (.aload_n 1, 1) := by decide +kernel
theorem d2_6 : decode prog_17_method_1_code 6 = .ok (.putfield 7, 3) := by decide +kernel
theorem d2_9 : decode prog_17_method_1_code 9 = .ok (.aload_n 0, 1) := by decide +kernel
theorem d2_10 : decode prog_17_method_1_code 10 = .ok (.aload_n 2, 1) := by decide +kernel
theorem d2_11 : decode prog_17_method_1_code 11 = .ok (.putfield 13, 3) := by decide +kernel
theorem d2_14 : decode prog_17_method_1_code 14 = .ok (.aload_n 0, 1) := by decide +kernel
theorem d2_15 : decode prog_17_method_1_code 15 = .ok (.aload_n 3, 1) := by decide +kernel
theorem d2_16 : decode prog_17_method_1_code 16 = .ok (.putfield 16, 3) := by decide +kernel
theorem d2_19 : decode prog_17_method_1_code 19 = .ok (.aload_n 0, 1) := by decide +kernel
theorem d2_20 : decode prog_17_method_1_code 20 = .ok (.aload 4, 2) := by decide +kernel
theorem d2_22 : decode prog_17_method_1_code 22 = .ok (.putfield 19, 3) := by decide +kernel
theorem d2_25 : decode prog_17_method_1_code 25 = .ok (.aload_n 0, 1) := by decide +kernel
theorem d2_26 : decode prog_17_method_1_code 26 = .ok (.aload 5, 2) := by decide +kernel
theorem d2_28 : decode prog_17_method_1_code 28 = .ok (.putfield 22, 3) := by decide +kernel
theorem d2_31 : decode prog_17_method_1_code 31 = .ok (.return_, 1) := by decide +kernel
theorem ef_rInit (m : MethodId) (x0 : Addr) (x1 : Addr) (x2 : Addr) (x3 : Addr) (x4 : Addr) (x5 : Addr) : entryFrame m #[(.ref x0), (.ref x1), (.ref x2), (.ref x3), (.ref x4), (.ref x5)] 6 = mkF m 0 #[.val (.ref x0), .val (.ref x1), .val (.ref x2), .val (.ref x3), .val (.ref x4), .val (.ref x5)] [] := by first | (simp [entryFrame, mkF, argsToLocals, Value.category]; done) | rfl
set_option maxRecDepth 65536 in
set_option maxHeartbeats 40000000 in
theorem rInit (l : Launch) (Z : State) (aa : Array Value) (hw : ∀ d ∈ tables_1, d.before aa Z = true) (ws : List Jvm.Cond) (a0 : Addr) (a1 : Addr) (a2 : Addr) (a3 : Addr) (a4 : Addr) (a5 : Addr) (h0 : Heap) (n0 : Nat) (Z0 : n0 ≤ h0.size) (E_a0 : Exa Z h0 a0 "com/example/pathlattice/pathlattice/graph/Components") (F_a0_component : Fld Z h0 a0 "com/example/pathlattice/pathlattice/graph/Components" "component" "[I" .null) (F_a0_memberOffsets : Fld Z h0 a0 "com/example/pathlattice/pathlattice/graph/Components" "memberOffsets" "[I" .null) (F_a0_members : Fld Z h0 a0 "com/example/pathlattice/pathlattice/graph/Components" "members" "[I" .null) (F_a0_predecessorOffsets : Fld Z h0 a0 "com/example/pathlattice/pathlattice/graph/Components" "predecessorOffsets" "[I" .null) (F_a0_predecessors : Fld Z h0 a0 "com/example/pathlattice/pathlattice/graph/Components" "predecessors" "[I" .null) (g_a0 : n0 ≤ a0) :
    Rm l Z (⟨"com/example/pathlattice/pathlattice/graph/Components", "<init>", "([I[I[I[I[I)V"⟩ : MethodName) prog_17_method_1_code 6 none ws ({ frames := 1, cells := 0, slots := 0, locals := 12 } : Room) #[(.ref a0), (.ref a1), (.ref a2), (.ref a3), (.ref a4), (.ref a5)] h0 (fun v h L => v = none ∧ Fr n0 L ∧ Keep h0 h [a0] ∧ Exa Z h a0 "com/example/pathlattice/pathlattice/graph/Components" ∧ Fld Z h a0 "com/example/pathlattice/pathlattice/graph/Components" "component" "[I" (.ref a1) ∧ Fld Z h a0 "com/example/pathlattice/pathlattice/graph/Components" "memberOffsets" "[I" (.ref a2) ∧ Fld Z h a0 "com/example/pathlattice/pathlattice/graph/Components" "members" "[I" (.ref a3) ∧ Fld Z h a0 "com/example/pathlattice/pathlattice/graph/Components" "predecessorOffsets" "[I" (.ref a4) ∧ Fld Z h a0 "com/example/pathlattice/pathlattice/graph/Components" "predecessors" "[I" (.ref a5)) := by
  refine Rm.of (plainFor_of_name pn_1) ?_
  intro p e s m below meth cc T X hnm hret hlk
  refine Go.at_ (ef_rInit m a0 a1 a2 a3 a4 a5) ?_
  have N := Fr.nil n0
  have Kp := Keep.refl h0 [a0]
  refine g_aloadN X d2_0 (pc' := 1) rfl rfl rfl ?_
  refine g_initO X (W := 0) (tb hw 12 rfl) (tb hw 13 rfl) (tb hw 14 rfl) d2_1 (pc' := 4) rfl rfl (by decide) (Nat.le_refl _) (by decide) ?_
  intro T X
  refine g_aloadN X d2_4 (pc' := 5) rfl rfl rfl ?_
  refine g_aloadN X d2_5 (pc' := 6) rfl rfl rfl ?_
  refine g_putfield X (host := "") (Or.inl (tb hw 15 rfl)) Via.refl F_a0_component E_a0 (Or.inr ⟨(tb hw 16 rfl), rfl, hnm⟩) (tb hw 7 rfl) (ty := (.array .int)) (by decide) rfl rfl d2_6 (pc' := 9) rfl ?_
  intro T h X W
  replace E_a0 := E_a0.wr W
  replace F_a0_component := F_a0_component.same W
  replace F_a0_memberOffsets := F_a0_memberOffsets.other W (Or.inr (slot_ne (Or.inr (tb hw 18 rfl)) (Or.inr (tb hw 16 rfl)) (by decide) (t := (.array .int)) (t' := (.array .int)) (by decide) (by decide)))
  replace F_a0_members := F_a0_members.other W (Or.inr (slot_ne (Or.inr (tb hw 20 rfl)) (Or.inr (tb hw 16 rfl)) (by decide) (t := (.array .int)) (t' := (.array .int)) (by decide) (by decide)))
  replace F_a0_predecessorOffsets := F_a0_predecessorOffsets.other W (Or.inr (slot_ne (Or.inr (tb hw 22 rfl)) (Or.inr (tb hw 16 rfl)) (by decide) (t := (.array .int)) (t' := (.array .int)) (by decide) (by decide)))
  replace F_a0_predecessors := F_a0_predecessors.other W (Or.inr (slot_ne (Or.inr (tb hw 24 rfl)) (Or.inr (tb hw 16 rfl)) (by decide) (t := (.array .int)) (t' := (.array .int)) (by decide) (by decide)))
  replace Z0 := Nat.le_trans Z0 (Nat.le_of_eq W.size.symm)
  replace N := Fr.snoc X.1 N g_a0
  replace Kp := Kp.wr W (Or.inl (List.mem_of_getElem? (i := 0) rfl))
  refine g_aloadN X d2_9 (pc' := 10) rfl rfl rfl ?_
  refine g_aloadN X d2_10 (pc' := 11) rfl rfl rfl ?_
  refine g_putfield X (host := "") (Or.inl (tb hw 17 rfl)) Via.refl F_a0_memberOffsets E_a0 (Or.inr ⟨(tb hw 18 rfl), rfl, hnm⟩) (tb hw 7 rfl) (ty := (.array .int)) (by decide) rfl rfl d2_11 (pc' := 14) rfl ?_
  intro T h X W
  replace E_a0 := E_a0.wr W
  replace F_a0_component := F_a0_component.other W (Or.inr (slot_ne (Or.inr (tb hw 16 rfl)) (Or.inr (tb hw 18 rfl)) (by decide) (t := (.array .int)) (t' := (.array .int)) (by decide) (by decide)))
  replace F_a0_memberOffsets := F_a0_memberOffsets.same W
  replace F_a0_members := F_a0_members.other W (Or.inr (slot_ne (Or.inr (tb hw 20 rfl)) (Or.inr (tb hw 18 rfl)) (by decide) (t := (.array .int)) (t' := (.array .int)) (by decide) (by decide)))
  replace F_a0_predecessorOffsets := F_a0_predecessorOffsets.other W (Or.inr (slot_ne (Or.inr (tb hw 22 rfl)) (Or.inr (tb hw 18 rfl)) (by decide) (t := (.array .int)) (t' := (.array .int)) (by decide) (by decide)))
  replace F_a0_predecessors := F_a0_predecessors.other W (Or.inr (slot_ne (Or.inr (tb hw 24 rfl)) (Or.inr (tb hw 18 rfl)) (by decide) (t := (.array .int)) (t' := (.array .int)) (by decide) (by decide)))
  replace Z0 := Nat.le_trans Z0 (Nat.le_of_eq W.size.symm)
  replace N := Fr.snoc X.1 N g_a0
  replace Kp := Kp.wr W (Or.inl (List.mem_of_getElem? (i := 0) rfl))
  refine g_aloadN X d2_14 (pc' := 15) rfl rfl rfl ?_
  refine g_aloadN X d2_15 (pc' := 16) rfl rfl rfl ?_
  refine g_putfield X (host := "") (Or.inl (tb hw 19 rfl)) Via.refl F_a0_members E_a0 (Or.inr ⟨(tb hw 20 rfl), rfl, hnm⟩) (tb hw 7 rfl) (ty := (.array .int)) (by decide) rfl rfl d2_16 (pc' := 19) rfl ?_
  intro T h X W
  replace E_a0 := E_a0.wr W
  replace F_a0_component := F_a0_component.other W (Or.inr (slot_ne (Or.inr (tb hw 16 rfl)) (Or.inr (tb hw 20 rfl)) (by decide) (t := (.array .int)) (t' := (.array .int)) (by decide) (by decide)))
  replace F_a0_memberOffsets := F_a0_memberOffsets.other W (Or.inr (slot_ne (Or.inr (tb hw 18 rfl)) (Or.inr (tb hw 20 rfl)) (by decide) (t := (.array .int)) (t' := (.array .int)) (by decide) (by decide)))
  replace F_a0_members := F_a0_members.same W
  replace F_a0_predecessorOffsets := F_a0_predecessorOffsets.other W (Or.inr (slot_ne (Or.inr (tb hw 22 rfl)) (Or.inr (tb hw 20 rfl)) (by decide) (t := (.array .int)) (t' := (.array .int)) (by decide) (by decide)))
  replace F_a0_predecessors := F_a0_predecessors.other W (Or.inr (slot_ne (Or.inr (tb hw 24 rfl)) (Or.inr (tb hw 20 rfl)) (by decide) (t := (.array .int)) (t' := (.array .int)) (by decide) (by decide)))
  replace Z0 := Nat.le_trans Z0 (Nat.le_of_eq W.size.symm)
  replace N := Fr.snoc X.1 N g_a0
  replace Kp := Kp.wr W (Or.inl (List.mem_of_getElem? (i := 0) rfl))
  refine g_aloadN X d2_19 (pc' := 20) rfl rfl rfl ?_
  refine g_aload X d2_20 (pc' := 22) rfl rfl rfl ?_
  refine g_putfield X (host := "") (Or.inl (tb hw 21 rfl)) Via.refl F_a0_predecessorOffsets E_a0 (Or.inr ⟨(tb hw 22 rfl), rfl, hnm⟩) (tb hw 7 rfl) (ty := (.array .int)) (by decide) rfl rfl d2_22 (pc' := 25) rfl ?_
  intro T h X W
  replace E_a0 := E_a0.wr W
  replace F_a0_component := F_a0_component.other W (Or.inr (slot_ne (Or.inr (tb hw 16 rfl)) (Or.inr (tb hw 22 rfl)) (by decide) (t := (.array .int)) (t' := (.array .int)) (by decide) (by decide)))
  replace F_a0_memberOffsets := F_a0_memberOffsets.other W (Or.inr (slot_ne (Or.inr (tb hw 18 rfl)) (Or.inr (tb hw 22 rfl)) (by decide) (t := (.array .int)) (t' := (.array .int)) (by decide) (by decide)))
  replace F_a0_members := F_a0_members.other W (Or.inr (slot_ne (Or.inr (tb hw 20 rfl)) (Or.inr (tb hw 22 rfl)) (by decide) (t := (.array .int)) (t' := (.array .int)) (by decide) (by decide)))
  replace F_a0_predecessorOffsets := F_a0_predecessorOffsets.same W
  replace F_a0_predecessors := F_a0_predecessors.other W (Or.inr (slot_ne (Or.inr (tb hw 24 rfl)) (Or.inr (tb hw 22 rfl)) (by decide) (t := (.array .int)) (t' := (.array .int)) (by decide) (by decide)))
  replace Z0 := Nat.le_trans Z0 (Nat.le_of_eq W.size.symm)
  replace N := Fr.snoc X.1 N g_a0
  replace Kp := Kp.wr W (Or.inl (List.mem_of_getElem? (i := 0) rfl))
  refine g_aloadN X d2_25 (pc' := 26) rfl rfl rfl ?_
  refine g_aload X d2_26 (pc' := 28) rfl rfl rfl ?_
  refine g_putfield X (host := "") (Or.inl (tb hw 23 rfl)) Via.refl F_a0_predecessors E_a0 (Or.inr ⟨(tb hw 24 rfl), rfl, hnm⟩) (tb hw 7 rfl) (ty := (.array .int)) (by decide) rfl rfl d2_28 (pc' := 31) rfl ?_
  intro T h X W
  replace E_a0 := E_a0.wr W
  replace F_a0_component := F_a0_component.other W (Or.inr (slot_ne (Or.inr (tb hw 16 rfl)) (Or.inr (tb hw 24 rfl)) (by decide) (t := (.array .int)) (t' := (.array .int)) (by decide) (by decide)))
  replace F_a0_memberOffsets := F_a0_memberOffsets.other W (Or.inr (slot_ne (Or.inr (tb hw 18 rfl)) (Or.inr (tb hw 24 rfl)) (by decide) (t := (.array .int)) (t' := (.array .int)) (by decide) (by decide)))
  replace F_a0_members := F_a0_members.other W (Or.inr (slot_ne (Or.inr (tb hw 20 rfl)) (Or.inr (tb hw 24 rfl)) (by decide) (t := (.array .int)) (t' := (.array .int)) (by decide) (by decide)))
  replace F_a0_predecessorOffsets := F_a0_predecessorOffsets.other W (Or.inr (slot_ne (Or.inr (tb hw 22 rfl)) (Or.inr (tb hw 24 rfl)) (by decide) (t := (.array .int)) (t' := (.array .int)) (by decide) (by decide)))
  replace F_a0_predecessors := F_a0_predecessors.same W
  replace Z0 := Nat.le_trans Z0 (Nat.le_of_eq W.size.symm)
  replace N := Fr.snoc X.1 N g_a0
  replace Kp := Kp.wr W (Or.inl (List.mem_of_getElem? (i := 0) rfl))
  refine g_return X d2_31 hret hlk (by decide) (by decide) ?_
  exact ⟨rfl, N, Kp, E_a0, F_a0_component, F_a0_memberOffsets, F_a0_members, F_a0_predecessorOffsets, F_a0_predecessors⟩
theorem d4_0 : decode prog_17_method_3_code 0 = .ok (.aload_n 0, 1) := by decide +kernel
theorem d4_1 : decode prog_17_method_3_code 1 = .ok (.getfield 7, 3) := by decide +kernel
theorem d4_4 : decode prog_17_method_3_code 4 = .ok (.iload_n 1, 1) := by decide +kernel
theorem d4_5 : decode prog_17_method_3_code 5 = .ok (.iaload, 1) := by decide +kernel
theorem d4_6 : decode prog_17_method_3_code 6 = .ok (.ireturn, 1) := by decide +kernel
def fOf0 (u0 : Int32) (u1 : Int32) (u2 : Int32) (u3 : Int32) (u4 : Int32) (u5 : Int32) : Int32 := u0
theorem ef_rOf0 (m : MethodId) (x0 : Addr) (x1 : Int32) : entryFrame m #[(.ref x0), (.int x1)] 2 = mkF m 0 #[.val (.ref x0), .val (.int x1)] [] := by first | (simp [entryFrame, mkF, argsToLocals, Value.category]; done) | rfl
set_option maxRecDepth 65536 in
set_option maxHeartbeats 40000000 in
theorem rOf0 (l : Launch) (Z : State) (aa : Array Value) (hw : ∀ d ∈ tables_1, d.before aa Z = true) (ws : List Jvm.Cond) (a0 : Addr) (w1 : Addr) (u0 : Int32) (u1 : Int32) (u2 : Int32) (u3 : Int32) (u4 : Int32) (u5 : Int32) (h0 : Heap) (E_a0 : Exa Z h0 a0 "com/example/pathlattice/pathlattice/graph/Components") (F_a0_component : Fld Z h0 a0 "com/example/pathlattice/pathlattice/graph/Components" "component" "[I" (.ref w1)) (V_w1 : Av Z h0 w1 .int [(.int u0), (.int u1), (.int u2), (.int u3), (.int u4), (.int u5)]) :
    Rm l Z (⟨"com/example/pathlattice/pathlattice/graph/Components", "of", "(I)I"⟩ : MethodName) prog_17_method_3_code 2 (some .int) ws ({ frames := 0, cells := 0, slots := 0, locals := 0 } : Room) #[(.ref a0), (.int (0 : Int32))] h0 (Pu (.int (fOf0 u0 u1 u2 u3 u4 u5)) h0) := by
  refine Rm.of (plainFor_of_name pn_1) ?_
  intro p e s m below meth cc T X hnm hret hlk
  refine Go.at_ (ef_rOf0 m a0 (0 : Int32)) ?_
  refine g_aloadN X d4_0 (pc' := 1) rfl rfl rfl ?_
  refine g_getfield X (host := "") (Or.inl (tb hw 15 rfl)) Via.refl F_a0_component d4_1 (pc' := 4) rfl ?_
  intro T X
  refine g_iloadN X d4_4 (pc' := 5) rfl rfl ?_
  refine g_iaload X V_w1 0 d4_5 (pc' := 6) rfl (by decide) (by decide) rfl ?_
  refine g_ireturn X d4_6 hret hlk (by decide) (by decide) ?_
  exact ⟨congrArg (fun z => some (Value.int z)) (Eq.symm (show fOf0 u0 u1 u2 u3 u4 u5 = _ from rfl)), rfl, rfl⟩
def fOf1 (u0 : Int32) (u1 : Int32) (u2 : Int32) (u3 : Int32) (u4 : Int32) (u5 : Int32) : Int32 := u1
theorem ef_rOf1 (m : MethodId) (x0 : Addr) (x1 : Int32) : entryFrame m #[(.ref x0), (.int x1)] 2 = mkF m 0 #[.val (.ref x0), .val (.int x1)] [] := by first | (simp [entryFrame, mkF, argsToLocals, Value.category]; done) | rfl
set_option maxRecDepth 65536 in
set_option maxHeartbeats 40000000 in
theorem rOf1 (l : Launch) (Z : State) (aa : Array Value) (hw : ∀ d ∈ tables_1, d.before aa Z = true) (ws : List Jvm.Cond) (a0 : Addr) (w1 : Addr) (u0 : Int32) (u1 : Int32) (u2 : Int32) (u3 : Int32) (u4 : Int32) (u5 : Int32) (h0 : Heap) (E_a0 : Exa Z h0 a0 "com/example/pathlattice/pathlattice/graph/Components") (F_a0_component : Fld Z h0 a0 "com/example/pathlattice/pathlattice/graph/Components" "component" "[I" (.ref w1)) (V_w1 : Av Z h0 w1 .int [(.int u0), (.int u1), (.int u2), (.int u3), (.int u4), (.int u5)]) :
    Rm l Z (⟨"com/example/pathlattice/pathlattice/graph/Components", "of", "(I)I"⟩ : MethodName) prog_17_method_3_code 2 (some .int) ws ({ frames := 0, cells := 0, slots := 0, locals := 0 } : Room) #[(.ref a0), (.int (1 : Int32))] h0 (Pu (.int (fOf1 u0 u1 u2 u3 u4 u5)) h0) := by
  refine Rm.of (plainFor_of_name pn_1) ?_
  intro p e s m below meth cc T X hnm hret hlk
  refine Go.at_ (ef_rOf1 m a0 (1 : Int32)) ?_
  refine g_aloadN X d4_0 (pc' := 1) rfl rfl rfl ?_
  refine g_getfield X (host := "") (Or.inl (tb hw 15 rfl)) Via.refl F_a0_component d4_1 (pc' := 4) rfl ?_
  intro T X
  refine g_iloadN X d4_4 (pc' := 5) rfl rfl ?_
  refine g_iaload X V_w1 1 d4_5 (pc' := 6) rfl (by decide) (by decide) rfl ?_
  refine g_ireturn X d4_6 hret hlk (by decide) (by decide) ?_
  exact ⟨congrArg (fun z => some (Value.int z)) (Eq.symm (show fOf1 u0 u1 u2 u3 u4 u5 = _ from rfl)), rfl, rfl⟩
def fOf2 (u0 : Int32) (u1 : Int32) (u2 : Int32) (u3 : Int32) (u4 : Int32) (u5 : Int32) : Int32 := u2
theorem ef_rOf2 (m : MethodId) (x0 : Addr) (x1 : Int32) : entryFrame m #[(.ref x0), (.int x1)] 2 = mkF m 0 #[.val (.ref x0), .val (.int x1)] [] := by first | (simp [entryFrame, mkF, argsToLocals, Value.category]; done) | rfl
set_option maxRecDepth 65536 in
set_option maxHeartbeats 40000000 in
theorem rOf2 (l : Launch) (Z : State) (aa : Array Value) (hw : ∀ d ∈ tables_1, d.before aa Z = true) (ws : List Jvm.Cond) (a0 : Addr) (w1 : Addr) (u0 : Int32) (u1 : Int32) (u2 : Int32) (u3 : Int32) (u4 : Int32) (u5 : Int32) (h0 : Heap) (E_a0 : Exa Z h0 a0 "com/example/pathlattice/pathlattice/graph/Components") (F_a0_component : Fld Z h0 a0 "com/example/pathlattice/pathlattice/graph/Components" "component" "[I" (.ref w1)) (V_w1 : Av Z h0 w1 .int [(.int u0), (.int u1), (.int u2), (.int u3), (.int u4), (.int u5)]) :
    Rm l Z (⟨"com/example/pathlattice/pathlattice/graph/Components", "of", "(I)I"⟩ : MethodName) prog_17_method_3_code 2 (some .int) ws ({ frames := 0, cells := 0, slots := 0, locals := 0 } : Room) #[(.ref a0), (.int (2 : Int32))] h0 (Pu (.int (fOf2 u0 u1 u2 u3 u4 u5)) h0) := by
  refine Rm.of (plainFor_of_name pn_1) ?_
  intro p e s m below meth cc T X hnm hret hlk
  refine Go.at_ (ef_rOf2 m a0 (2 : Int32)) ?_
  refine g_aloadN X d4_0 (pc' := 1) rfl rfl rfl ?_
  refine g_getfield X (host := "") (Or.inl (tb hw 15 rfl)) Via.refl F_a0_component d4_1 (pc' := 4) rfl ?_
  intro T X
  refine g_iloadN X d4_4 (pc' := 5) rfl rfl ?_
  refine g_iaload X V_w1 2 d4_5 (pc' := 6) rfl (by decide) (by decide) rfl ?_
  refine g_ireturn X d4_6 hret hlk (by decide) (by decide) ?_
  exact ⟨congrArg (fun z => some (Value.int z)) (Eq.symm (show fOf2 u0 u1 u2 u3 u4 u5 = _ from rfl)), rfl, rfl⟩
def fOf3 (u0 : Int32) (u1 : Int32) (u2 : Int32) (u3 : Int32) (u4 : Int32) (u5 : Int32) : Int32 := u3
theorem ef_rOf3 (m : MethodId) (x0 : Addr) (x1 : Int32) : entryFrame m #[(.ref x0), (.int x1)] 2 = mkF m 0 #[.val (.ref x0), .val (.int x1)] [] := by first | (simp [entryFrame, mkF, argsToLocals, Value.category]; done) | rfl
set_option maxRecDepth 65536 in
set_option maxHeartbeats 40000000 in
theorem rOf3 (l : Launch) (Z : State) (aa : Array Value) (hw : ∀ d ∈ tables_1, d.before aa Z = true) (ws : List Jvm.Cond) (a0 : Addr) (w1 : Addr) (u0 : Int32) (u1 : Int32) (u2 : Int32) (u3 : Int32) (u4 : Int32) (u5 : Int32) (h0 : Heap) (E_a0 : Exa Z h0 a0 "com/example/pathlattice/pathlattice/graph/Components") (F_a0_component : Fld Z h0 a0 "com/example/pathlattice/pathlattice/graph/Components" "component" "[I" (.ref w1)) (V_w1 : Av Z h0 w1 .int [(.int u0), (.int u1), (.int u2), (.int u3), (.int u4), (.int u5)]) :
    Rm l Z (⟨"com/example/pathlattice/pathlattice/graph/Components", "of", "(I)I"⟩ : MethodName) prog_17_method_3_code 2 (some .int) ws ({ frames := 0, cells := 0, slots := 0, locals := 0 } : Room) #[(.ref a0), (.int (3 : Int32))] h0 (Pu (.int (fOf3 u0 u1 u2 u3 u4 u5)) h0) := by
  refine Rm.of (plainFor_of_name pn_1) ?_
  intro p e s m below meth cc T X hnm hret hlk
  refine Go.at_ (ef_rOf3 m a0 (3 : Int32)) ?_
  refine g_aloadN X d4_0 (pc' := 1) rfl rfl rfl ?_
  refine g_getfield X (host := "") (Or.inl (tb hw 15 rfl)) Via.refl F_a0_component d4_1 (pc' := 4) rfl ?_
  intro T X
  refine g_iloadN X d4_4 (pc' := 5) rfl rfl ?_
  refine g_iaload X V_w1 3 d4_5 (pc' := 6) rfl (by decide) (by decide) rfl ?_
  refine g_ireturn X d4_6 hret hlk (by decide) (by decide) ?_
  exact ⟨congrArg (fun z => some (Value.int z)) (Eq.symm (show fOf3 u0 u1 u2 u3 u4 u5 = _ from rfl)), rfl, rfl⟩
def fOf4 (u0 : Int32) (u1 : Int32) (u2 : Int32) (u3 : Int32) (u4 : Int32) (u5 : Int32) : Int32 := u4
theorem ef_rOf4 (m : MethodId) (x0 : Addr) (x1 : Int32) : entryFrame m #[(.ref x0), (.int x1)] 2 = mkF m 0 #[.val (.ref x0), .val (.int x1)] [] := by first | (simp [entryFrame, mkF, argsToLocals, Value.category]; done) | rfl
set_option maxRecDepth 65536 in
set_option maxHeartbeats 40000000 in
theorem rOf4 (l : Launch) (Z : State) (aa : Array Value) (hw : ∀ d ∈ tables_1, d.before aa Z = true) (ws : List Jvm.Cond) (a0 : Addr) (w1 : Addr) (u0 : Int32) (u1 : Int32) (u2 : Int32) (u3 : Int32) (u4 : Int32) (u5 : Int32) (h0 : Heap) (E_a0 : Exa Z h0 a0 "com/example/pathlattice/pathlattice/graph/Components") (F_a0_component : Fld Z h0 a0 "com/example/pathlattice/pathlattice/graph/Components" "component" "[I" (.ref w1)) (V_w1 : Av Z h0 w1 .int [(.int u0), (.int u1), (.int u2), (.int u3), (.int u4), (.int u5)]) :
    Rm l Z (⟨"com/example/pathlattice/pathlattice/graph/Components", "of", "(I)I"⟩ : MethodName) prog_17_method_3_code 2 (some .int) ws ({ frames := 0, cells := 0, slots := 0, locals := 0 } : Room) #[(.ref a0), (.int (4 : Int32))] h0 (Pu (.int (fOf4 u0 u1 u2 u3 u4 u5)) h0) := by
  refine Rm.of (plainFor_of_name pn_1) ?_
  intro p e s m below meth cc T X hnm hret hlk
  refine Go.at_ (ef_rOf4 m a0 (4 : Int32)) ?_
  refine g_aloadN X d4_0 (pc' := 1) rfl rfl rfl ?_
  refine g_getfield X (host := "") (Or.inl (tb hw 15 rfl)) Via.refl F_a0_component d4_1 (pc' := 4) rfl ?_
  intro T X
  refine g_iloadN X d4_4 (pc' := 5) rfl rfl ?_
  refine g_iaload X V_w1 4 d4_5 (pc' := 6) rfl (by decide) (by decide) rfl ?_
  refine g_ireturn X d4_6 hret hlk (by decide) (by decide) ?_
  exact ⟨congrArg (fun z => some (Value.int z)) (Eq.symm (show fOf4 u0 u1 u2 u3 u4 u5 = _ from rfl)), rfl, rfl⟩
def fOf5 (u0 : Int32) (u1 : Int32) (u2 : Int32) (u3 : Int32) (u4 : Int32) (u5 : Int32) : Int32 := u5
theorem ef_rOf5 (m : MethodId) (x0 : Addr) (x1 : Int32) : entryFrame m #[(.ref x0), (.int x1)] 2 = mkF m 0 #[.val (.ref x0), .val (.int x1)] [] := by first | (simp [entryFrame, mkF, argsToLocals, Value.category]; done) | rfl
set_option maxRecDepth 65536 in
set_option maxHeartbeats 40000000 in
theorem rOf5 (l : Launch) (Z : State) (aa : Array Value) (hw : ∀ d ∈ tables_1, d.before aa Z = true) (ws : List Jvm.Cond) (a0 : Addr) (w1 : Addr) (u0 : Int32) (u1 : Int32) (u2 : Int32) (u3 : Int32) (u4 : Int32) (u5 : Int32) (h0 : Heap) (E_a0 : Exa Z h0 a0 "com/example/pathlattice/pathlattice/graph/Components") (F_a0_component : Fld Z h0 a0 "com/example/pathlattice/pathlattice/graph/Components" "component" "[I" (.ref w1)) (V_w1 : Av Z h0 w1 .int [(.int u0), (.int u1), (.int u2), (.int u3), (.int u4), (.int u5)]) :
    Rm l Z (⟨"com/example/pathlattice/pathlattice/graph/Components", "of", "(I)I"⟩ : MethodName) prog_17_method_3_code 2 (some .int) ws ({ frames := 0, cells := 0, slots := 0, locals := 0 } : Room) #[(.ref a0), (.int (5 : Int32))] h0 (Pu (.int (fOf5 u0 u1 u2 u3 u4 u5)) h0) := by
  refine Rm.of (plainFor_of_name pn_1) ?_
  intro p e s m below meth cc T X hnm hret hlk
  refine Go.at_ (ef_rOf5 m a0 (5 : Int32)) ?_
  refine g_aloadN X d4_0 (pc' := 1) rfl rfl rfl ?_
  refine g_getfield X (host := "") (Or.inl (tb hw 15 rfl)) Via.refl F_a0_component d4_1 (pc' := 4) rfl ?_
  intro T X
  refine g_iloadN X d4_4 (pc' := 5) rfl rfl ?_
  refine g_iaload X V_w1 5 d4_5 (pc' := 6) rfl (by decide) (by decide) rfl ?_
  refine g_ireturn X d4_6 hret hlk (by decide) (by decide) ?_
  exact ⟨congrArg (fun z => some (Value.int z)) (Eq.symm (show fOf5 u0 u1 u2 u3 u4 u5 = _ from rfl)), rfl, rfl⟩
theorem d6_0 : decode prog_17_method_4_code 0 = .ok (.aload_n 0, 1) := by decide +kernel
theorem d6_1 : decode prog_17_method_4_code 1 = .ok (.getfield 13, 3) := by decide +kernel
theorem d6_4 : decode prog_17_method_4_code 4 = .ok (.iload_n 1, 1) := by decide +kernel
theorem d6_5 : decode prog_17_method_4_code 5 = .ok (.iconst 1, 1) := by decide +kernel
theorem d6_6 : decode prog_17_method_4_code 6 = .ok (.iadd, 1) := by decide +kernel
theorem d6_7 : decode prog_17_method_4_code 7 = .ok (.iaload, 1) := by decide +kernel
theorem d6_8 : decode prog_17_method_4_code 8 = .ok (.aload_n 0, 1) := by decide +kernel
theorem d6_9 : decode prog_17_method_4_code 9 = .ok (.getfield 13, 3) := by decide +kernel
theorem d6_12 : decode prog_17_method_4_code 12 = .ok (.iload_n 1, 1) := by decide +kernel
theorem d6_13 : decode prog_17_method_4_code 13 = .ok (.iaload, 1) := by decide +kernel
theorem d6_14 : decode prog_17_method_4_code 14 = .ok (.isub, 1) := by decide +kernel
theorem d6_15 : decode prog_17_method_4_code 15 = .ok (.ireturn, 1) := by decide +kernel
def fSz0 (u0 : Int32) (u1 : Int32) (u2 : Int32) (u3 : Int32) : Int32 := (u1 - u0)
theorem ef_rSz0 (m : MethodId) (x0 : Addr) (x1 : Int32) : entryFrame m #[(.ref x0), (.int x1)] 2 = mkF m 0 #[.val (.ref x0), .val (.int x1)] [] := by first | (simp [entryFrame, mkF, argsToLocals, Value.category]; done) | rfl
set_option maxRecDepth 65536 in
set_option maxHeartbeats 40000000 in
theorem rSz0 (l : Launch) (Z : State) (aa : Array Value) (hw : ∀ d ∈ tables_1, d.before aa Z = true) (ws : List Jvm.Cond) (a0 : Addr) (w1 : Addr) (u0 : Int32) (u1 : Int32) (u2 : Int32) (u3 : Int32) (h0 : Heap) (E_a0 : Exa Z h0 a0 "com/example/pathlattice/pathlattice/graph/Components") (F_a0_memberOffsets : Fld Z h0 a0 "com/example/pathlattice/pathlattice/graph/Components" "memberOffsets" "[I" (.ref w1)) (V_w1 : Av Z h0 w1 .int [(.int u0), (.int u1), (.int u2), (.int u3)]) :
    Rm l Z (⟨"com/example/pathlattice/pathlattice/graph/Components", "size", "(I)I"⟩ : MethodName) prog_17_method_4_code 2 (some .int) ws ({ frames := 0, cells := 0, slots := 0, locals := 0 } : Room) #[(.ref a0), (.int (0 : Int32))] h0 (Pu (.int (fSz0 u0 u1 u2 u3)) h0) := by
  refine Rm.of (plainFor_of_name pn_1) ?_
  intro p e s m below meth cc T X hnm hret hlk
  refine Go.at_ (ef_rSz0 m a0 (0 : Int32)) ?_
  refine g_aloadN X d6_0 (pc' := 1) rfl rfl rfl ?_
  refine g_getfield X (host := "") (Or.inl (tb hw 17 rfl)) Via.refl F_a0_memberOffsets d6_1 (pc' := 4) rfl ?_
  intro T X
  refine g_iloadN X d6_4 (pc' := 5) rfl rfl ?_
  refine g_iconst X (1 : Int32) d6_5 (pc' := 6) rfl rfl ?_
  refine g_iadd X d6_6 (pc' := 7) rfl ?_
  refine Go.lit32 (z := (1 : Int32)) (by decide) ?_
  refine g_iaload X V_w1 1 d6_7 (pc' := 8) rfl (by decide) (by decide) rfl ?_
  refine g_aloadN X d6_8 (pc' := 9) rfl rfl rfl ?_
  refine g_getfield X (host := "") (Or.inl (tb hw 17 rfl)) Via.refl F_a0_memberOffsets d6_9 (pc' := 12) rfl ?_
  intro T X
  refine g_iloadN X d6_12 (pc' := 13) rfl rfl ?_
  refine g_iaload X V_w1 0 d6_13 (pc' := 14) rfl (by decide) (by decide) rfl ?_
  refine g_isub X d6_14 (pc' := 15) rfl ?_
  refine g_ireturn X d6_15 hret hlk (by decide) (by decide) ?_
  exact ⟨congrArg (fun z => some (Value.int z)) (Eq.symm (show fSz0 u0 u1 u2 u3 = _ from rfl)), rfl, rfl⟩
def fSz1 (u0 : Int32) (u1 : Int32) (u2 : Int32) (u3 : Int32) : Int32 := (u2 - u1)
theorem ef_rSz1 (m : MethodId) (x0 : Addr) (x1 : Int32) : entryFrame m #[(.ref x0), (.int x1)] 2 = mkF m 0 #[.val (.ref x0), .val (.int x1)] [] := by first | (simp [entryFrame, mkF, argsToLocals, Value.category]; done) | rfl
set_option maxRecDepth 65536 in
set_option maxHeartbeats 40000000 in
theorem rSz1 (l : Launch) (Z : State) (aa : Array Value) (hw : ∀ d ∈ tables_1, d.before aa Z = true) (ws : List Jvm.Cond) (a0 : Addr) (w1 : Addr) (u0 : Int32) (u1 : Int32) (u2 : Int32) (u3 : Int32) (h0 : Heap) (E_a0 : Exa Z h0 a0 "com/example/pathlattice/pathlattice/graph/Components") (F_a0_memberOffsets : Fld Z h0 a0 "com/example/pathlattice/pathlattice/graph/Components" "memberOffsets" "[I" (.ref w1)) (V_w1 : Av Z h0 w1 .int [(.int u0), (.int u1), (.int u2), (.int u3)]) :
    Rm l Z (⟨"com/example/pathlattice/pathlattice/graph/Components", "size", "(I)I"⟩ : MethodName) prog_17_method_4_code 2 (some .int) ws ({ frames := 0, cells := 0, slots := 0, locals := 0 } : Room) #[(.ref a0), (.int (1 : Int32))] h0 (Pu (.int (fSz1 u0 u1 u2 u3)) h0) := by
  refine Rm.of (plainFor_of_name pn_1) ?_
  intro p e s m below meth cc T X hnm hret hlk
  refine Go.at_ (ef_rSz1 m a0 (1 : Int32)) ?_
  refine g_aloadN X d6_0 (pc' := 1) rfl rfl rfl ?_
  refine g_getfield X (host := "") (Or.inl (tb hw 17 rfl)) Via.refl F_a0_memberOffsets d6_1 (pc' := 4) rfl ?_
  intro T X
  refine g_iloadN X d6_4 (pc' := 5) rfl rfl ?_
  refine g_iconst X (1 : Int32) d6_5 (pc' := 6) rfl rfl ?_
  refine g_iadd X d6_6 (pc' := 7) rfl ?_
  refine Go.lit32 (z := (2 : Int32)) (by decide) ?_
  refine g_iaload X V_w1 2 d6_7 (pc' := 8) rfl (by decide) (by decide) rfl ?_
  refine g_aloadN X d6_8 (pc' := 9) rfl rfl rfl ?_
  refine g_getfield X (host := "") (Or.inl (tb hw 17 rfl)) Via.refl F_a0_memberOffsets d6_9 (pc' := 12) rfl ?_
  intro T X
  refine g_iloadN X d6_12 (pc' := 13) rfl rfl ?_
  refine g_iaload X V_w1 1 d6_13 (pc' := 14) rfl (by decide) (by decide) rfl ?_
  refine g_isub X d6_14 (pc' := 15) rfl ?_
  refine g_ireturn X d6_15 hret hlk (by decide) (by decide) ?_
  exact ⟨congrArg (fun z => some (Value.int z)) (Eq.symm (show fSz1 u0 u1 u2 u3 = _ from rfl)), rfl, rfl⟩
def fSz2 (u0 : Int32) (u1 : Int32) (u2 : Int32) (u3 : Int32) : Int32 := (u3 - u2)
theorem ef_rSz2 (m : MethodId) (x0 : Addr) (x1 : Int32) : entryFrame m #[(.ref x0), (.int x1)] 2 = mkF m 0 #[.val (.ref x0), .val (.int x1)] [] := by first | (simp [entryFrame, mkF, argsToLocals, Value.category]; done) | rfl
set_option maxRecDepth 65536 in
set_option maxHeartbeats 40000000 in
theorem rSz2 (l : Launch) (Z : State) (aa : Array Value) (hw : ∀ d ∈ tables_1, d.before aa Z = true) (ws : List Jvm.Cond) (a0 : Addr) (w1 : Addr) (u0 : Int32) (u1 : Int32) (u2 : Int32) (u3 : Int32) (h0 : Heap) (E_a0 : Exa Z h0 a0 "com/example/pathlattice/pathlattice/graph/Components") (F_a0_memberOffsets : Fld Z h0 a0 "com/example/pathlattice/pathlattice/graph/Components" "memberOffsets" "[I" (.ref w1)) (V_w1 : Av Z h0 w1 .int [(.int u0), (.int u1), (.int u2), (.int u3)]) :
    Rm l Z (⟨"com/example/pathlattice/pathlattice/graph/Components", "size", "(I)I"⟩ : MethodName) prog_17_method_4_code 2 (some .int) ws ({ frames := 0, cells := 0, slots := 0, locals := 0 } : Room) #[(.ref a0), (.int (2 : Int32))] h0 (Pu (.int (fSz2 u0 u1 u2 u3)) h0) := by
  refine Rm.of (plainFor_of_name pn_1) ?_
  intro p e s m below meth cc T X hnm hret hlk
  refine Go.at_ (ef_rSz2 m a0 (2 : Int32)) ?_
  refine g_aloadN X d6_0 (pc' := 1) rfl rfl rfl ?_
  refine g_getfield X (host := "") (Or.inl (tb hw 17 rfl)) Via.refl F_a0_memberOffsets d6_1 (pc' := 4) rfl ?_
  intro T X
  refine g_iloadN X d6_4 (pc' := 5) rfl rfl ?_
  refine g_iconst X (1 : Int32) d6_5 (pc' := 6) rfl rfl ?_
  refine g_iadd X d6_6 (pc' := 7) rfl ?_
  refine Go.lit32 (z := (3 : Int32)) (by decide) ?_
  refine g_iaload X V_w1 3 d6_7 (pc' := 8) rfl (by decide) (by decide) rfl ?_
  refine g_aloadN X d6_8 (pc' := 9) rfl rfl rfl ?_
  refine g_getfield X (host := "") (Or.inl (tb hw 17 rfl)) Via.refl F_a0_memberOffsets d6_9 (pc' := 12) rfl ?_
  intro T X
  refine g_iloadN X d6_12 (pc' := 13) rfl rfl ?_
  refine g_iaload X V_w1 2 d6_13 (pc' := 14) rfl (by decide) (by decide) rfl ?_
  refine g_isub X d6_14 (pc' := 15) rfl ?_
  refine g_ireturn X d6_15 hret hlk (by decide) (by decide) ?_
  exact ⟨congrArg (fun z => some (Value.int z)) (Eq.symm (show fSz2 u0 u1 u2 u3 = _ from rfl)), rfl, rfl⟩
def Tally (i j c : Int32) : Int32 := (((((fEq (fComp 0 i j) c) + (fEq (fComp 1 i j) c)) + (fEq (fComp 2 i j) c)) + (fEq (fComp 3 i j) c)) + (fEq (fComp 4 i j) c)) + (fEq (fComp 5 i j) c)
def Pairs (i j : Int32) : Prop := (i = 1 ∧ (j = 2 ∨ j = 3 ∨ j = 4 ∨ j = 5)) ∨ (i = 2 ∧ (j = 3 ∨ j = 4 ∨ j = 5)) ∨ (i = 3 ∧ (j = 4 ∨ j = 5)) ∨ (i = 4 ∧ j = 5)
theorem tally {i j : Int32} (h : Pairs i j) : Tally i j 0 = i - 0 ∧ Tally i j 1 = j - i ∧ Tally i j 2 = 6 - j := by
  rcases h with ⟨rfl, rfl | rfl | rfl | rfl⟩ | ⟨rfl, rfl | rfl | rfl⟩ | ⟨rfl, rfl | rfl⟩ | ⟨rfl, rfl⟩ <;> decide +kernel
theorem masked (x : Int32) : 0 ≤ (x &&& 2147483647).toInt := by
  have q : (x &&& 2147483647).toInt = x.toInt % 2147483648 := c_mask x 2147483647 31 (by decide) (by decide)
  omega
theorem i4 {p i : Int32} (e : 1 + (p &&& 2147483647) % 4 = i) : i = 1 ∨ i = 2 ∨ i = 3 ∨ i = 4 := by
  have q := (c_irem (p &&& 2147483647) 4 4 rfl).1 (masked p)
  have r : i.toInt = 1 + ((p &&& 2147483647) % 4).toInt := by rw [← e, Int32.toInt_add]; simp only [Int32.reduceToInt]; exact Int.bmod_eq_of_le (by omega) (by omega)
  simp only [← Int32.toInt_inj, Int32.reduceToInt]; omega
theorem c3 {p i : Int32} (e : (p &&& 2147483647) % 3 = i) : i = 0 ∨ i = 1 ∨ i = 2 := by
  have q := (c_irem (p &&& 2147483647) 3 3 rfl).1 (masked p)
  rw [e] at q
  simp only [← Int32.toInt_inj, Int32.reduceToInt]; omega
theorem five {i : Int32} (h : i = 1 ∨ i = 2 ∨ i = 3 ∨ i = 4) : ¬ (5 - i) = 0 := by rcases h with rfl | rfl | rfl | rfl <;> decide
theorem pairs {i j q : Int32} (h : i = 1 ∨ i = 2 ∨ i = 3 ∨ i = 4) (e : i + 1 + (q &&& 2147483647) % (5 - i) = j) : Pairs i j := by
  have m := masked q
  unfold Pairs
  rcases h with rfl | rfl | rfl | rfl
  · have k := (c_irem (q &&& 2147483647) (5 - 1) 4 rfl).1 m
    have r : j.toInt = 2 + ((q &&& 2147483647) % (5 - 1)).toInt := by rw [← e, Int32.toInt_add]; exact Int.bmod_eq_of_le (by simp only [Int32.reduceToInt, Int32.reduceAdd]; omega) (by simp only [Int32.reduceToInt, Int32.reduceAdd]; omega)
    refine Or.inl ⟨rfl, ?_⟩; simp only [← Int32.toInt_inj, Int32.reduceToInt]; omega
  · have k := (c_irem (q &&& 2147483647) (5 - 2) 3 rfl).1 m
    have r : j.toInt = 3 + ((q &&& 2147483647) % (5 - 2)).toInt := by rw [← e, Int32.toInt_add]; exact Int.bmod_eq_of_le (by simp only [Int32.reduceToInt, Int32.reduceAdd]; omega) (by simp only [Int32.reduceToInt, Int32.reduceAdd]; omega)
    refine Or.inr (Or.inl ⟨rfl, ?_⟩); simp only [← Int32.toInt_inj, Int32.reduceToInt]; omega
  · have k := (c_irem (q &&& 2147483647) (5 - 3) 2 rfl).1 m
    have r : j.toInt = 4 + ((q &&& 2147483647) % (5 - 3)).toInt := by rw [← e, Int32.toInt_add]; exact Int.bmod_eq_of_le (by simp only [Int32.reduceToInt, Int32.reduceAdd]; omega) (by simp only [Int32.reduceToInt, Int32.reduceAdd]; omega)
    refine Or.inr (Or.inr (Or.inl ⟨rfl, ?_⟩)); simp only [← Int32.toInt_inj, Int32.reduceToInt]; omega
  · have k := (c_irem (q &&& 2147483647) (5 - 4) 1 rfl).1 m
    have r : j.toInt = 5 + ((q &&& 2147483647) % (5 - 4)).toInt := by rw [← e, Int32.toInt_add]; exact Int.bmod_eq_of_le (by simp only [Int32.reduceToInt, Int32.reduceAdd]; omega) (by simp only [Int32.reduceToInt, Int32.reduceAdd]; omega)
    refine Or.inr (Or.inr (Or.inr ⟨rfl, ?_⟩)); simp only [← Int32.toInt_inj, Int32.reduceToInt]; omega
theorem pd_0 : parseMethodDescriptor "(III)I" = some ⟨[.int, .int, .int], some .int⟩ := by decide +kernel
theorem pd_1 : parseMethodDescriptor "([I[I[I[I[I)V" = some ⟨[(.array .int), (.array .int), (.array .int), (.array .int), (.array .int)], none⟩ := by decide +kernel
theorem pd_2 : parseMethodDescriptor "(I)I" = some ⟨[.int], some .int⟩ := by decide +kernel
theorem pd_3 : parseMethodDescriptor "(II)I" = some ⟨[.int, .int], some .int⟩ := by decide +kernel
theorem ef_rLaw (m : MethodId) (x0 : Int32) (x1 : Int32) (x2 : Int32) : entryFrame m #[(.int x0), (.int x1), (.int x2)] maxLocals = mkF m 0 #[.val (.int x0), .val (.int x1), .val (.int x2), .unset, .unset, .unset, .unset, .unset, .unset, .unset, .unset, .unset, .unset] [] := by first | (simp [entryFrame, mkF, argsToLocals, Value.category, maxLocals]; done) | rfl
set_option maxRecDepth 65536 in
set_option maxHeartbeats 40000000 in
theorem rLaw (l : Launch) (Z : State) (aa : Array Value) (hw : ∀ d ∈ tables_1, d.before aa Z = true) (ws : List Jvm.Cond) (i0 : Int32) (i1 : Int32) (i2 : Int32) (h0 : Heap) (n0 : Nat) (Z0 : n0 ≤ h0.size) :
    Rm l Z x code maxLocals ret ws room_1 #[(.int i0), (.int i1), (.int i2)] h0 (fun v h L => v = some (.int 1) ∧ Fr n0 L) := by
  refine Rm.of (plainFor_of_name pn_0) ?_
  intro p e s m below meth cc T X hnm hret hlk
  refine Go.at_ (ef_rLaw m i0 i1 i2) ?_
  have N := Fr.nil n0
  refine g_iconst X (1 : Int32) at_0 (pc' := 1) rfl rfl ?_
  refine g_iloadN X at_1 (pc' := 2) rfl rfl ?_
  refine g_ldc X (tb hw 0 rfl) at_2 (pc' := 4) rfl ?_
  refine g_iand X at_4 (pc' := 5) rfl ?_
  refine g_iconst X (4 : Int32) at_5 (pc' := 6) rfl rfl ?_
  refine g_irem X at_6 (pc' := 7) rfl (by decide) ?_
  refine g_iadd X at_7 (pc' := 8) rfl ?_
  generalize ev8_1 : ((1 : Int32) + ((i0 &&& (2147483647 : Int32)) % (4 : Int32))) = v8_1
  refine g_istoreN X at_8 (pc' := 9) (Ls' := #[.val (.int i0), .val (.int i1), .val (.int i2), .val (.int v8_1), .unset, .unset, .unset, .unset, .unset, .unset, .unset, .unset, .unset]) rfl rfl ?_
  refine g_iloadN X at_9 (pc' := 10) rfl rfl ?_
  refine g_iconst X (1 : Int32) at_10 (pc' := 11) rfl rfl ?_
  refine g_iadd X at_11 (pc' := 12) rfl ?_
  refine g_iloadN X at_12 (pc' := 13) rfl rfl ?_
  refine g_ldc X (tb hw 0 rfl) at_13 (pc' := 15) rfl ?_
  refine g_iand X at_15 (pc' := 16) rfl ?_
  refine g_iconst X (5 : Int32) at_16 (pc' := 17) rfl rfl ?_
  refine g_iloadN X at_17 (pc' := 18) rfl rfl ?_
  refine g_isub X at_18 (pc' := 19) rfl ?_
  refine g_irem X at_19 (pc' := 20) rfl (five (i4 ev8_1)) ?_
  refine g_iadd X at_20 (pc' := 21) rfl ?_
  generalize ev21_2 : ((v8_1 + (1 : Int32)) + ((i1 &&& (2147483647 : Int32)) % ((5 : Int32) - v8_1))) = v21_2
  refine g_istore X at_21 (pc' := 23) (Ls' := #[.val (.int i0), .val (.int i1), .val (.int i2), .val (.int v8_1), .val (.int v21_2), .unset, .unset, .unset, .unset, .unset, .unset, .unset, .unset]) rfl rfl ?_
  refine g_iloadN X at_23 (pc' := 24) rfl rfl ?_
  refine g_ldc X (tb hw 0 rfl) at_24 (pc' := 26) rfl ?_
  refine g_iand X at_26 (pc' := 27) rfl ?_
  refine g_iconst X (3 : Int32) at_27 (pc' := 28) rfl rfl ?_
  refine g_irem X at_28 (pc' := 29) rfl (by decide) ?_
  generalize ev29_3 : ((i2 &&& (2147483647 : Int32)) % (3 : Int32)) = v29_3
  refine g_istore X at_29 (pc' := 31) (Ls' := #[.val (.int i0), .val (.int i1), .val (.int i2), .val (.int v8_1), .val (.int v21_2), .val (.int v29_3), .unset, .unset, .unset, .unset, .unset, .unset, .unset]) rfl rfl ?_
  have Pr := pairs (i4 ev8_1) ev21_2
  rcases (c3 ev29_3 : v29_3 = (0 : Int32) ∨ v29_3 = (1 : Int32) ∨ v29_3 = (2 : Int32)) with hs | hs | hs
  · subst hs
    show Go p e below _ (T.setTop (mkF m 31 #[.val (.int i0), .val (.int i1), .val (.int i2), .val (.int v8_1), .val (.int v21_2), .val (.int (0 : Int32)), .unset, .unset, .unset, .unset, .unset, .unset, .unset] []))
    refine g_bipush X (6 : Int32) at_31 (pc' := 33) rfl rfl ?_
    refine g_newarray X 6 (tb hw 1 rfl) at_33 (pc' := 35) rfl (by decide) (by decide) 6 (by decide) (by decide) (by decide) (by decide) (vs := [(.int (0 : Int32)), (.int (0 : Int32)), (.int (0 : Int32)), (.int (0 : Int32)), (.int (0 : Int32)), (.int (0 : Int32))]) rfl (ad := "[I") (by decide) ?_
    intro T h b33_4 s_b33_4 X Ex E_b33_4 V_b33_4
    have g_b33_4 : n0 ≤ b33_4 := by rw [s_b33_4]; exact Z0
    replace Z0 := Nat.le_trans Z0 Ex.1
    refine g_dup X at_35 (pc' := 36) rfl rfl ?_
    refine g_iconst X (0 : Int32) at_36 (pc' := 37) rfl rfl ?_
    refine g_iconst X (0 : Int32) at_37 (pc' := 38) rfl rfl ?_
    refine g_iloadN X at_38 (pc' := 39) rfl rfl ?_
    refine g_iload X at_39 (pc' := 41) rfl rfl ?_
    refine g_static X (W := 3) [(.int (0 : Int32)), (.int v8_1), (.int v21_2)] [(.int (0 : Int32)), (.ref b33_4), (.ref b33_4)] (tb hw 2 rfl) (tb hw 3 rfl) (tb hw 4 rfl) (tb hw 5 rfl) (rComp l Z aa hw [] (0 : Int32) v8_1 v21_2 _) at_41 (pc' := 44) rfl (by decide) (by decide) (by decide) rfl rfl rfl (lenOf pd_0 rfl) (Nat.le_refl _) (by decide) (by decide) ?_
    intro v T L X q
    obtain ⟨rfl, X⟩ := pureX X q
    show Go p e below _ (T.setTop (mkF m 44 #[.val (.int i0), .val (.int i1), .val (.int i2), .val (.int v8_1), .val (.int v21_2), .val (.int (0 : Int32)), .unset, .unset, .unset, .unset, .unset, .unset, .unset] [(.int (fComp (0 : Int32) v8_1 v21_2)), (.int (0 : Int32)), (.ref b33_4), (.ref b33_4)]))
    generalize ev44_5 : (fComp (0 : Int32) v8_1 v21_2) = v44_5
    refine g_iastore X V_b33_4 0 at_44 (pc' := 45) rfl (by decide) (by decide) (Nat.le_of_ble_eq_true rfl) ?_
    intro T h X W V_b33_4
    replace V_b33_4 : Av Z h b33_4 .int [(.int v44_5), (.int (0 : Int32)), (.int (0 : Int32)), (.int (0 : Int32)), (.int (0 : Int32)), (.int (0 : Int32))] := V_b33_4
    replace E_b33_4 := E_b33_4.wr W
    replace Z0 := Nat.le_trans Z0 (Nat.le_of_eq W.size.symm)
    replace N := Fr.snoc X.1 N g_b33_4
    refine g_dup X at_45 (pc' := 46) rfl rfl ?_
    refine g_iconst X (1 : Int32) at_46 (pc' := 47) rfl rfl ?_
    refine g_iconst X (1 : Int32) at_47 (pc' := 48) rfl rfl ?_
    refine g_iloadN X at_48 (pc' := 49) rfl rfl ?_
    refine g_iload X at_49 (pc' := 51) rfl rfl ?_
    refine g_static X (W := 3) [(.int (1 : Int32)), (.int v8_1), (.int v21_2)] [(.int (1 : Int32)), (.ref b33_4), (.ref b33_4)] (tb hw 2 rfl) (tb hw 3 rfl) (tb hw 4 rfl) (tb hw 5 rfl) (rComp l Z aa hw [] (1 : Int32) v8_1 v21_2 _) at_51 (pc' := 54) rfl (by decide) (by decide) (by decide) rfl rfl rfl (lenOf pd_0 rfl) (Nat.le_refl _) (by decide) (by decide) ?_
    intro v T L X q
    obtain ⟨rfl, X⟩ := pureX X q
    show Go p e below _ (T.setTop (mkF m 54 #[.val (.int i0), .val (.int i1), .val (.int i2), .val (.int v8_1), .val (.int v21_2), .val (.int (0 : Int32)), .unset, .unset, .unset, .unset, .unset, .unset, .unset] [(.int (fComp (1 : Int32) v8_1 v21_2)), (.int (1 : Int32)), (.ref b33_4), (.ref b33_4)]))
    generalize ev54_6 : (fComp (1 : Int32) v8_1 v21_2) = v54_6
    refine g_iastore X V_b33_4 1 at_54 (pc' := 55) rfl (by decide) (by decide) (Nat.le_of_ble_eq_true rfl) ?_
    intro T h X W V_b33_4
    replace V_b33_4 : Av Z h b33_4 .int [(.int v44_5), (.int v54_6), (.int (0 : Int32)), (.int (0 : Int32)), (.int (0 : Int32)), (.int (0 : Int32))] := V_b33_4
    replace E_b33_4 := E_b33_4.wr W
    replace Z0 := Nat.le_trans Z0 (Nat.le_of_eq W.size.symm)
    replace N := Fr.snoc X.1 N g_b33_4
    refine g_dup X at_55 (pc' := 56) rfl rfl ?_
    refine g_iconst X (2 : Int32) at_56 (pc' := 57) rfl rfl ?_
    refine g_iconst X (2 : Int32) at_57 (pc' := 58) rfl rfl ?_
    refine g_iloadN X at_58 (pc' := 59) rfl rfl ?_
    refine g_iload X at_59 (pc' := 61) rfl rfl ?_
    refine g_static X (W := 3) [(.int (2 : Int32)), (.int v8_1), (.int v21_2)] [(.int (2 : Int32)), (.ref b33_4), (.ref b33_4)] (tb hw 2 rfl) (tb hw 3 rfl) (tb hw 4 rfl) (tb hw 5 rfl) (rComp l Z aa hw [] (2 : Int32) v8_1 v21_2 _) at_61 (pc' := 64) rfl (by decide) (by decide) (by decide) rfl rfl rfl (lenOf pd_0 rfl) (Nat.le_refl _) (by decide) (by decide) ?_
    intro v T L X q
    obtain ⟨rfl, X⟩ := pureX X q
    show Go p e below _ (T.setTop (mkF m 64 #[.val (.int i0), .val (.int i1), .val (.int i2), .val (.int v8_1), .val (.int v21_2), .val (.int (0 : Int32)), .unset, .unset, .unset, .unset, .unset, .unset, .unset] [(.int (fComp (2 : Int32) v8_1 v21_2)), (.int (2 : Int32)), (.ref b33_4), (.ref b33_4)]))
    generalize ev64_7 : (fComp (2 : Int32) v8_1 v21_2) = v64_7
    refine g_iastore X V_b33_4 2 at_64 (pc' := 65) rfl (by decide) (by decide) (Nat.le_of_ble_eq_true rfl) ?_
    intro T h X W V_b33_4
    replace V_b33_4 : Av Z h b33_4 .int [(.int v44_5), (.int v54_6), (.int v64_7), (.int (0 : Int32)), (.int (0 : Int32)), (.int (0 : Int32))] := V_b33_4
    replace E_b33_4 := E_b33_4.wr W
    replace Z0 := Nat.le_trans Z0 (Nat.le_of_eq W.size.symm)
    replace N := Fr.snoc X.1 N g_b33_4
    refine g_dup X at_65 (pc' := 66) rfl rfl ?_
    refine g_iconst X (3 : Int32) at_66 (pc' := 67) rfl rfl ?_
    refine g_iconst X (3 : Int32) at_67 (pc' := 68) rfl rfl ?_
    refine g_iloadN X at_68 (pc' := 69) rfl rfl ?_
    refine g_iload X at_69 (pc' := 71) rfl rfl ?_
    refine g_static X (W := 3) [(.int (3 : Int32)), (.int v8_1), (.int v21_2)] [(.int (3 : Int32)), (.ref b33_4), (.ref b33_4)] (tb hw 2 rfl) (tb hw 3 rfl) (tb hw 4 rfl) (tb hw 5 rfl) (rComp l Z aa hw [] (3 : Int32) v8_1 v21_2 _) at_71 (pc' := 74) rfl (by decide) (by decide) (by decide) rfl rfl rfl (lenOf pd_0 rfl) (Nat.le_refl _) (by decide) (by decide) ?_
    intro v T L X q
    obtain ⟨rfl, X⟩ := pureX X q
    show Go p e below _ (T.setTop (mkF m 74 #[.val (.int i0), .val (.int i1), .val (.int i2), .val (.int v8_1), .val (.int v21_2), .val (.int (0 : Int32)), .unset, .unset, .unset, .unset, .unset, .unset, .unset] [(.int (fComp (3 : Int32) v8_1 v21_2)), (.int (3 : Int32)), (.ref b33_4), (.ref b33_4)]))
    generalize ev74_8 : (fComp (3 : Int32) v8_1 v21_2) = v74_8
    refine g_iastore X V_b33_4 3 at_74 (pc' := 75) rfl (by decide) (by decide) (Nat.le_of_ble_eq_true rfl) ?_
    intro T h X W V_b33_4
    replace V_b33_4 : Av Z h b33_4 .int [(.int v44_5), (.int v54_6), (.int v64_7), (.int v74_8), (.int (0 : Int32)), (.int (0 : Int32))] := V_b33_4
    replace E_b33_4 := E_b33_4.wr W
    replace Z0 := Nat.le_trans Z0 (Nat.le_of_eq W.size.symm)
    replace N := Fr.snoc X.1 N g_b33_4
    refine g_dup X at_75 (pc' := 76) rfl rfl ?_
    refine g_iconst X (4 : Int32) at_76 (pc' := 77) rfl rfl ?_
    refine g_iconst X (4 : Int32) at_77 (pc' := 78) rfl rfl ?_
    refine g_iloadN X at_78 (pc' := 79) rfl rfl ?_
    refine g_iload X at_79 (pc' := 81) rfl rfl ?_
    refine g_static X (W := 3) [(.int (4 : Int32)), (.int v8_1), (.int v21_2)] [(.int (4 : Int32)), (.ref b33_4), (.ref b33_4)] (tb hw 2 rfl) (tb hw 3 rfl) (tb hw 4 rfl) (tb hw 5 rfl) (rComp l Z aa hw [] (4 : Int32) v8_1 v21_2 _) at_81 (pc' := 84) rfl (by decide) (by decide) (by decide) rfl rfl rfl (lenOf pd_0 rfl) (Nat.le_refl _) (by decide) (by decide) ?_
    intro v T L X q
    obtain ⟨rfl, X⟩ := pureX X q
    show Go p e below _ (T.setTop (mkF m 84 #[.val (.int i0), .val (.int i1), .val (.int i2), .val (.int v8_1), .val (.int v21_2), .val (.int (0 : Int32)), .unset, .unset, .unset, .unset, .unset, .unset, .unset] [(.int (fComp (4 : Int32) v8_1 v21_2)), (.int (4 : Int32)), (.ref b33_4), (.ref b33_4)]))
    generalize ev84_9 : (fComp (4 : Int32) v8_1 v21_2) = v84_9
    refine g_iastore X V_b33_4 4 at_84 (pc' := 85) rfl (by decide) (by decide) (Nat.le_of_ble_eq_true rfl) ?_
    intro T h X W V_b33_4
    replace V_b33_4 : Av Z h b33_4 .int [(.int v44_5), (.int v54_6), (.int v64_7), (.int v74_8), (.int v84_9), (.int (0 : Int32))] := V_b33_4
    replace E_b33_4 := E_b33_4.wr W
    replace Z0 := Nat.le_trans Z0 (Nat.le_of_eq W.size.symm)
    replace N := Fr.snoc X.1 N g_b33_4
    refine g_dup X at_85 (pc' := 86) rfl rfl ?_
    refine g_iconst X (5 : Int32) at_86 (pc' := 87) rfl rfl ?_
    refine g_iconst X (5 : Int32) at_87 (pc' := 88) rfl rfl ?_
    refine g_iloadN X at_88 (pc' := 89) rfl rfl ?_
    refine g_iload X at_89 (pc' := 91) rfl rfl ?_
    refine g_static X (W := 3) [(.int (5 : Int32)), (.int v8_1), (.int v21_2)] [(.int (5 : Int32)), (.ref b33_4), (.ref b33_4)] (tb hw 2 rfl) (tb hw 3 rfl) (tb hw 4 rfl) (tb hw 5 rfl) (rComp l Z aa hw [] (5 : Int32) v8_1 v21_2 _) at_91 (pc' := 94) rfl (by decide) (by decide) (by decide) rfl rfl rfl (lenOf pd_0 rfl) (Nat.le_refl _) (by decide) (by decide) ?_
    intro v T L X q
    obtain ⟨rfl, X⟩ := pureX X q
    show Go p e below _ (T.setTop (mkF m 94 #[.val (.int i0), .val (.int i1), .val (.int i2), .val (.int v8_1), .val (.int v21_2), .val (.int (0 : Int32)), .unset, .unset, .unset, .unset, .unset, .unset, .unset] [(.int (fComp (5 : Int32) v8_1 v21_2)), (.int (5 : Int32)), (.ref b33_4), (.ref b33_4)]))
    generalize ev94_10 : (fComp (5 : Int32) v8_1 v21_2) = v94_10
    refine g_iastore X V_b33_4 5 at_94 (pc' := 95) rfl (by decide) (by decide) (Nat.le_of_ble_eq_true rfl) ?_
    intro T h X W V_b33_4
    replace V_b33_4 : Av Z h b33_4 .int [(.int v44_5), (.int v54_6), (.int v64_7), (.int v74_8), (.int v84_9), (.int v94_10)] := V_b33_4
    replace E_b33_4 := E_b33_4.wr W
    replace Z0 := Nat.le_trans Z0 (Nat.le_of_eq W.size.symm)
    replace N := Fr.snoc X.1 N g_b33_4
    refine g_astore X at_95 (pc' := 97) (Ls' := #[.val (.int i0), .val (.int i1), .val (.int i2), .val (.int v8_1), .val (.int v21_2), .val (.int (0 : Int32)), .val (.ref b33_4), .unset, .unset, .unset, .unset, .unset, .unset]) rfl rfl rfl ?_
    refine g_iconst X (4 : Int32) at_97 (pc' := 98) rfl rfl ?_
    refine g_newarray X 4 (tb hw 1 rfl) at_98 (pc' := 100) rfl (by decide) (by decide) 4 (by decide) (by decide) (by decide) (by decide) (vs := [(.int (0 : Int32)), (.int (0 : Int32)), (.int (0 : Int32)), (.int (0 : Int32))]) rfl (ad := "[I") (by decide) ?_
    intro T h b98_11 s_b98_11 X Ex E_b98_11 V_b98_11
    have ne_b33_4_b98_11 : b33_4 ≠ b98_11 := Nat.ne_of_lt (by rw [s_b98_11]; exact E_b33_4.lt)
    have g_b98_11 : n0 ≤ b98_11 := by rw [s_b98_11]; exact Z0
    replace E_b33_4 := E_b33_4.ext Ex
    replace V_b33_4 := V_b33_4.ext Ex
    replace Z0 := Nat.le_trans Z0 Ex.1
    refine g_dup X at_100 (pc' := 101) rfl rfl ?_
    refine g_iconst X (0 : Int32) at_101 (pc' := 102) rfl rfl ?_
    refine g_iconst X (0 : Int32) at_102 (pc' := 103) rfl rfl ?_
    refine g_iastore X V_b98_11 0 at_103 (pc' := 104) rfl (by decide) (by decide) (Nat.le_of_ble_eq_true rfl) ?_
    intro T h X W V_b98_11
    replace V_b98_11 : Av Z h b98_11 .int [(.int (0 : Int32)), (.int (0 : Int32)), (.int (0 : Int32)), (.int (0 : Int32))] := V_b98_11
    replace E_b33_4 := E_b33_4.wr W
    replace V_b33_4 := V_b33_4.other W ne_b33_4_b98_11
    replace E_b98_11 := E_b98_11.wr W
    replace Z0 := Nat.le_trans Z0 (Nat.le_of_eq W.size.symm)
    replace N := Fr.snoc X.1 N g_b98_11
    refine g_dup X at_104 (pc' := 105) rfl rfl ?_
    refine g_iconst X (1 : Int32) at_105 (pc' := 106) rfl rfl ?_
    refine g_iloadN X at_106 (pc' := 107) rfl rfl ?_
    refine g_iastore X V_b98_11 1 at_107 (pc' := 108) rfl (by decide) (by decide) (Nat.le_of_ble_eq_true rfl) ?_
    intro T h X W V_b98_11
    replace V_b98_11 : Av Z h b98_11 .int [(.int (0 : Int32)), (.int v8_1), (.int (0 : Int32)), (.int (0 : Int32))] := V_b98_11
    replace E_b33_4 := E_b33_4.wr W
    replace V_b33_4 := V_b33_4.other W ne_b33_4_b98_11
    replace E_b98_11 := E_b98_11.wr W
    replace Z0 := Nat.le_trans Z0 (Nat.le_of_eq W.size.symm)
    replace N := Fr.snoc X.1 N g_b98_11
    refine g_dup X at_108 (pc' := 109) rfl rfl ?_
    refine g_iconst X (2 : Int32) at_109 (pc' := 110) rfl rfl ?_
    refine g_iload X at_110 (pc' := 112) rfl rfl ?_
    refine g_iastore X V_b98_11 2 at_112 (pc' := 113) rfl (by decide) (by decide) (Nat.le_of_ble_eq_true rfl) ?_
    intro T h X W V_b98_11
    replace V_b98_11 : Av Z h b98_11 .int [(.int (0 : Int32)), (.int v8_1), (.int v21_2), (.int (0 : Int32))] := V_b98_11
    replace E_b33_4 := E_b33_4.wr W
    replace V_b33_4 := V_b33_4.other W ne_b33_4_b98_11
    replace E_b98_11 := E_b98_11.wr W
    replace Z0 := Nat.le_trans Z0 (Nat.le_of_eq W.size.symm)
    replace N := Fr.snoc X.1 N g_b98_11
    refine g_dup X at_113 (pc' := 114) rfl rfl ?_
    refine g_iconst X (3 : Int32) at_114 (pc' := 115) rfl rfl ?_
    refine g_bipush X (6 : Int32) at_115 (pc' := 117) rfl rfl ?_
    refine g_iastore X V_b98_11 3 at_117 (pc' := 118) rfl (by decide) (by decide) (Nat.le_of_ble_eq_true rfl) ?_
    intro T h X W V_b98_11
    replace V_b98_11 : Av Z h b98_11 .int [(.int (0 : Int32)), (.int v8_1), (.int v21_2), (.int (6 : Int32))] := V_b98_11
    replace E_b33_4 := E_b33_4.wr W
    replace V_b33_4 := V_b33_4.other W ne_b33_4_b98_11
    replace E_b98_11 := E_b98_11.wr W
    replace Z0 := Nat.le_trans Z0 (Nat.le_of_eq W.size.symm)
    replace N := Fr.snoc X.1 N g_b98_11
    refine g_astore X at_118 (pc' := 120) (Ls' := #[.val (.int i0), .val (.int i1), .val (.int i2), .val (.int v8_1), .val (.int v21_2), .val (.int (0 : Int32)), .val (.ref b33_4), .val (.ref b98_11), .unset, .unset, .unset, .unset, .unset]) rfl rfl rfl ?_
    refine g_bipush X (6 : Int32) at_120 (pc' := 122) rfl rfl ?_
    refine g_newarray X 6 (tb hw 1 rfl) at_122 (pc' := 124) rfl (by decide) (by decide) 6 (by decide) (by decide) (by decide) (by decide) (vs := [(.int (0 : Int32)), (.int (0 : Int32)), (.int (0 : Int32)), (.int (0 : Int32)), (.int (0 : Int32)), (.int (0 : Int32))]) rfl (ad := "[I") (by decide) ?_
    intro T h b122_12 s_b122_12 X Ex E_b122_12 V_b122_12
    have ne_b33_4_b122_12 : b33_4 ≠ b122_12 := Nat.ne_of_lt (by rw [s_b122_12]; exact E_b33_4.lt)
    have ne_b98_11_b122_12 : b98_11 ≠ b122_12 := Nat.ne_of_lt (by rw [s_b122_12]; exact E_b98_11.lt)
    have g_b122_12 : n0 ≤ b122_12 := by rw [s_b122_12]; exact Z0
    replace E_b33_4 := E_b33_4.ext Ex
    replace V_b33_4 := V_b33_4.ext Ex
    replace E_b98_11 := E_b98_11.ext Ex
    replace V_b98_11 := V_b98_11.ext Ex
    replace Z0 := Nat.le_trans Z0 Ex.1
    refine g_dup X at_124 (pc' := 125) rfl rfl ?_
    refine g_iconst X (0 : Int32) at_125 (pc' := 126) rfl rfl ?_
    refine g_iconst X (0 : Int32) at_126 (pc' := 127) rfl rfl ?_
    refine g_iastore X V_b122_12 0 at_127 (pc' := 128) rfl (by decide) (by decide) (Nat.le_of_ble_eq_true rfl) ?_
    intro T h X W V_b122_12
    replace V_b122_12 : Av Z h b122_12 .int [(.int (0 : Int32)), (.int (0 : Int32)), (.int (0 : Int32)), (.int (0 : Int32)), (.int (0 : Int32)), (.int (0 : Int32))] := V_b122_12
    replace E_b33_4 := E_b33_4.wr W
    replace V_b33_4 := V_b33_4.other W ne_b33_4_b122_12
    replace E_b98_11 := E_b98_11.wr W
    replace V_b98_11 := V_b98_11.other W ne_b98_11_b122_12
    replace E_b122_12 := E_b122_12.wr W
    replace Z0 := Nat.le_trans Z0 (Nat.le_of_eq W.size.symm)
    replace N := Fr.snoc X.1 N g_b122_12
    refine g_dup X at_128 (pc' := 129) rfl rfl ?_
    refine g_iconst X (1 : Int32) at_129 (pc' := 130) rfl rfl ?_
    refine g_iconst X (1 : Int32) at_130 (pc' := 131) rfl rfl ?_
    refine g_iastore X V_b122_12 1 at_131 (pc' := 132) rfl (by decide) (by decide) (Nat.le_of_ble_eq_true rfl) ?_
    intro T h X W V_b122_12
    replace V_b122_12 : Av Z h b122_12 .int [(.int (0 : Int32)), (.int (1 : Int32)), (.int (0 : Int32)), (.int (0 : Int32)), (.int (0 : Int32)), (.int (0 : Int32))] := V_b122_12
    replace E_b33_4 := E_b33_4.wr W
    replace V_b33_4 := V_b33_4.other W ne_b33_4_b122_12
    replace E_b98_11 := E_b98_11.wr W
    replace V_b98_11 := V_b98_11.other W ne_b98_11_b122_12
    replace E_b122_12 := E_b122_12.wr W
    replace Z0 := Nat.le_trans Z0 (Nat.le_of_eq W.size.symm)
    replace N := Fr.snoc X.1 N g_b122_12
    refine g_dup X at_132 (pc' := 133) rfl rfl ?_
    refine g_iconst X (2 : Int32) at_133 (pc' := 134) rfl rfl ?_
    refine g_iconst X (2 : Int32) at_134 (pc' := 135) rfl rfl ?_
    refine g_iastore X V_b122_12 2 at_135 (pc' := 136) rfl (by decide) (by decide) (Nat.le_of_ble_eq_true rfl) ?_
    intro T h X W V_b122_12
    replace V_b122_12 : Av Z h b122_12 .int [(.int (0 : Int32)), (.int (1 : Int32)), (.int (2 : Int32)), (.int (0 : Int32)), (.int (0 : Int32)), (.int (0 : Int32))] := V_b122_12
    replace E_b33_4 := E_b33_4.wr W
    replace V_b33_4 := V_b33_4.other W ne_b33_4_b122_12
    replace E_b98_11 := E_b98_11.wr W
    replace V_b98_11 := V_b98_11.other W ne_b98_11_b122_12
    replace E_b122_12 := E_b122_12.wr W
    replace Z0 := Nat.le_trans Z0 (Nat.le_of_eq W.size.symm)
    replace N := Fr.snoc X.1 N g_b122_12
    refine g_dup X at_136 (pc' := 137) rfl rfl ?_
    refine g_iconst X (3 : Int32) at_137 (pc' := 138) rfl rfl ?_
    refine g_iconst X (3 : Int32) at_138 (pc' := 139) rfl rfl ?_
    refine g_iastore X V_b122_12 3 at_139 (pc' := 140) rfl (by decide) (by decide) (Nat.le_of_ble_eq_true rfl) ?_
    intro T h X W V_b122_12
    replace V_b122_12 : Av Z h b122_12 .int [(.int (0 : Int32)), (.int (1 : Int32)), (.int (2 : Int32)), (.int (3 : Int32)), (.int (0 : Int32)), (.int (0 : Int32))] := V_b122_12
    replace E_b33_4 := E_b33_4.wr W
    replace V_b33_4 := V_b33_4.other W ne_b33_4_b122_12
    replace E_b98_11 := E_b98_11.wr W
    replace V_b98_11 := V_b98_11.other W ne_b98_11_b122_12
    replace E_b122_12 := E_b122_12.wr W
    replace Z0 := Nat.le_trans Z0 (Nat.le_of_eq W.size.symm)
    replace N := Fr.snoc X.1 N g_b122_12
    refine g_dup X at_140 (pc' := 141) rfl rfl ?_
    refine g_iconst X (4 : Int32) at_141 (pc' := 142) rfl rfl ?_
    refine g_iconst X (4 : Int32) at_142 (pc' := 143) rfl rfl ?_
    refine g_iastore X V_b122_12 4 at_143 (pc' := 144) rfl (by decide) (by decide) (Nat.le_of_ble_eq_true rfl) ?_
    intro T h X W V_b122_12
    replace V_b122_12 : Av Z h b122_12 .int [(.int (0 : Int32)), (.int (1 : Int32)), (.int (2 : Int32)), (.int (3 : Int32)), (.int (4 : Int32)), (.int (0 : Int32))] := V_b122_12
    replace E_b33_4 := E_b33_4.wr W
    replace V_b33_4 := V_b33_4.other W ne_b33_4_b122_12
    replace E_b98_11 := E_b98_11.wr W
    replace V_b98_11 := V_b98_11.other W ne_b98_11_b122_12
    replace E_b122_12 := E_b122_12.wr W
    replace Z0 := Nat.le_trans Z0 (Nat.le_of_eq W.size.symm)
    replace N := Fr.snoc X.1 N g_b122_12
    refine g_dup X at_144 (pc' := 145) rfl rfl ?_
    refine g_iconst X (5 : Int32) at_145 (pc' := 146) rfl rfl ?_
    refine g_iconst X (5 : Int32) at_146 (pc' := 147) rfl rfl ?_
    refine g_iastore X V_b122_12 5 at_147 (pc' := 148) rfl (by decide) (by decide) (Nat.le_of_ble_eq_true rfl) ?_
    intro T h X W V_b122_12
    replace V_b122_12 : Av Z h b122_12 .int [(.int (0 : Int32)), (.int (1 : Int32)), (.int (2 : Int32)), (.int (3 : Int32)), (.int (4 : Int32)), (.int (5 : Int32))] := V_b122_12
    replace E_b33_4 := E_b33_4.wr W
    replace V_b33_4 := V_b33_4.other W ne_b33_4_b122_12
    replace E_b98_11 := E_b98_11.wr W
    replace V_b98_11 := V_b98_11.other W ne_b98_11_b122_12
    replace E_b122_12 := E_b122_12.wr W
    replace Z0 := Nat.le_trans Z0 (Nat.le_of_eq W.size.symm)
    replace N := Fr.snoc X.1 N g_b122_12
    refine g_astore X at_148 (pc' := 150) (Ls' := #[.val (.int i0), .val (.int i1), .val (.int i2), .val (.int v8_1), .val (.int v21_2), .val (.int (0 : Int32)), .val (.ref b33_4), .val (.ref b98_11), .val (.ref b122_12), .unset, .unset, .unset, .unset]) rfl rfl rfl ?_
    refine g_iconst X (4 : Int32) at_150 (pc' := 151) rfl rfl ?_
    refine g_newarray X 4 (tb hw 1 rfl) at_151 (pc' := 153) rfl (by decide) (by decide) 4 (by decide) (by decide) (by decide) (by decide) (vs := [(.int (0 : Int32)), (.int (0 : Int32)), (.int (0 : Int32)), (.int (0 : Int32))]) rfl (ad := "[I") (by decide) ?_
    intro T h b151_13 s_b151_13 X Ex E_b151_13 V_b151_13
    have ne_b33_4_b151_13 : b33_4 ≠ b151_13 := Nat.ne_of_lt (by rw [s_b151_13]; exact E_b33_4.lt)
    have ne_b98_11_b151_13 : b98_11 ≠ b151_13 := Nat.ne_of_lt (by rw [s_b151_13]; exact E_b98_11.lt)
    have ne_b122_12_b151_13 : b122_12 ≠ b151_13 := Nat.ne_of_lt (by rw [s_b151_13]; exact E_b122_12.lt)
    have g_b151_13 : n0 ≤ b151_13 := by rw [s_b151_13]; exact Z0
    replace E_b33_4 := E_b33_4.ext Ex
    replace V_b33_4 := V_b33_4.ext Ex
    replace E_b98_11 := E_b98_11.ext Ex
    replace V_b98_11 := V_b98_11.ext Ex
    replace E_b122_12 := E_b122_12.ext Ex
    replace V_b122_12 := V_b122_12.ext Ex
    replace Z0 := Nat.le_trans Z0 Ex.1
    refine g_dup X at_153 (pc' := 154) rfl rfl ?_
    refine g_iconst X (0 : Int32) at_154 (pc' := 155) rfl rfl ?_
    refine g_iconst X (0 : Int32) at_155 (pc' := 156) rfl rfl ?_
    refine g_iastore X V_b151_13 0 at_156 (pc' := 157) rfl (by decide) (by decide) (Nat.le_of_ble_eq_true rfl) ?_
    intro T h X W V_b151_13
    replace V_b151_13 : Av Z h b151_13 .int [(.int (0 : Int32)), (.int (0 : Int32)), (.int (0 : Int32)), (.int (0 : Int32))] := V_b151_13
    replace E_b33_4 := E_b33_4.wr W
    replace V_b33_4 := V_b33_4.other W ne_b33_4_b151_13
    replace E_b98_11 := E_b98_11.wr W
    replace V_b98_11 := V_b98_11.other W ne_b98_11_b151_13
    replace E_b122_12 := E_b122_12.wr W
    replace V_b122_12 := V_b122_12.other W ne_b122_12_b151_13
    replace E_b151_13 := E_b151_13.wr W
    replace Z0 := Nat.le_trans Z0 (Nat.le_of_eq W.size.symm)
    replace N := Fr.snoc X.1 N g_b151_13
    refine g_dup X at_157 (pc' := 158) rfl rfl ?_
    refine g_iconst X (1 : Int32) at_158 (pc' := 159) rfl rfl ?_
    refine g_iconst X (0 : Int32) at_159 (pc' := 160) rfl rfl ?_
    refine g_iastore X V_b151_13 1 at_160 (pc' := 161) rfl (by decide) (by decide) (Nat.le_of_ble_eq_true rfl) ?_
    intro T h X W V_b151_13
    replace V_b151_13 : Av Z h b151_13 .int [(.int (0 : Int32)), (.int (0 : Int32)), (.int (0 : Int32)), (.int (0 : Int32))] := V_b151_13
    replace E_b33_4 := E_b33_4.wr W
    replace V_b33_4 := V_b33_4.other W ne_b33_4_b151_13
    replace E_b98_11 := E_b98_11.wr W
    replace V_b98_11 := V_b98_11.other W ne_b98_11_b151_13
    replace E_b122_12 := E_b122_12.wr W
    replace V_b122_12 := V_b122_12.other W ne_b122_12_b151_13
    replace E_b151_13 := E_b151_13.wr W
    replace Z0 := Nat.le_trans Z0 (Nat.le_of_eq W.size.symm)
    replace N := Fr.snoc X.1 N g_b151_13
    refine g_dup X at_161 (pc' := 162) rfl rfl ?_
    refine g_iconst X (2 : Int32) at_162 (pc' := 163) rfl rfl ?_
    refine g_iconst X (0 : Int32) at_163 (pc' := 164) rfl rfl ?_
    refine g_iastore X V_b151_13 2 at_164 (pc' := 165) rfl (by decide) (by decide) (Nat.le_of_ble_eq_true rfl) ?_
    intro T h X W V_b151_13
    replace V_b151_13 : Av Z h b151_13 .int [(.int (0 : Int32)), (.int (0 : Int32)), (.int (0 : Int32)), (.int (0 : Int32))] := V_b151_13
    replace E_b33_4 := E_b33_4.wr W
    replace V_b33_4 := V_b33_4.other W ne_b33_4_b151_13
    replace E_b98_11 := E_b98_11.wr W
    replace V_b98_11 := V_b98_11.other W ne_b98_11_b151_13
    replace E_b122_12 := E_b122_12.wr W
    replace V_b122_12 := V_b122_12.other W ne_b122_12_b151_13
    replace E_b151_13 := E_b151_13.wr W
    replace Z0 := Nat.le_trans Z0 (Nat.le_of_eq W.size.symm)
    replace N := Fr.snoc X.1 N g_b151_13
    refine g_dup X at_165 (pc' := 166) rfl rfl ?_
    refine g_iconst X (3 : Int32) at_166 (pc' := 167) rfl rfl ?_
    refine g_iconst X (0 : Int32) at_167 (pc' := 168) rfl rfl ?_
    refine g_iastore X V_b151_13 3 at_168 (pc' := 169) rfl (by decide) (by decide) (Nat.le_of_ble_eq_true rfl) ?_
    intro T h X W V_b151_13
    replace V_b151_13 : Av Z h b151_13 .int [(.int (0 : Int32)), (.int (0 : Int32)), (.int (0 : Int32)), (.int (0 : Int32))] := V_b151_13
    replace E_b33_4 := E_b33_4.wr W
    replace V_b33_4 := V_b33_4.other W ne_b33_4_b151_13
    replace E_b98_11 := E_b98_11.wr W
    replace V_b98_11 := V_b98_11.other W ne_b98_11_b151_13
    replace E_b122_12 := E_b122_12.wr W
    replace V_b122_12 := V_b122_12.other W ne_b122_12_b151_13
    replace E_b151_13 := E_b151_13.wr W
    replace Z0 := Nat.le_trans Z0 (Nat.le_of_eq W.size.symm)
    replace N := Fr.snoc X.1 N g_b151_13
    refine g_astore X at_169 (pc' := 171) (Ls' := #[.val (.int i0), .val (.int i1), .val (.int i2), .val (.int v8_1), .val (.int v21_2), .val (.int (0 : Int32)), .val (.ref b33_4), .val (.ref b98_11), .val (.ref b122_12), .val (.ref b151_13), .unset, .unset, .unset]) rfl rfl rfl ?_
    refine g_iconst X (0 : Int32) at_171 (pc' := 172) rfl rfl ?_
    refine g_newarray X 0 (tb hw 1 rfl) at_172 (pc' := 174) rfl (by decide) (by decide) 0 (by decide) (by decide) (by decide) (by decide) (vs := []) rfl (ad := "[I") (by decide) ?_
    intro T h b172_14 s_b172_14 X Ex E_b172_14 V_b172_14
    have ne_b33_4_b172_14 : b33_4 ≠ b172_14 := Nat.ne_of_lt (by rw [s_b172_14]; exact E_b33_4.lt)
    have ne_b98_11_b172_14 : b98_11 ≠ b172_14 := Nat.ne_of_lt (by rw [s_b172_14]; exact E_b98_11.lt)
    have ne_b122_12_b172_14 : b122_12 ≠ b172_14 := Nat.ne_of_lt (by rw [s_b172_14]; exact E_b122_12.lt)
    have ne_b151_13_b172_14 : b151_13 ≠ b172_14 := Nat.ne_of_lt (by rw [s_b172_14]; exact E_b151_13.lt)
    have g_b172_14 : n0 ≤ b172_14 := by rw [s_b172_14]; exact Z0
    replace E_b33_4 := E_b33_4.ext Ex
    replace V_b33_4 := V_b33_4.ext Ex
    replace E_b98_11 := E_b98_11.ext Ex
    replace V_b98_11 := V_b98_11.ext Ex
    replace E_b122_12 := E_b122_12.ext Ex
    replace V_b122_12 := V_b122_12.ext Ex
    replace E_b151_13 := E_b151_13.ext Ex
    replace V_b151_13 := V_b151_13.ext Ex
    replace Z0 := Nat.le_trans Z0 Ex.1
    refine g_astore X at_174 (pc' := 176) (Ls' := #[.val (.int i0), .val (.int i1), .val (.int i2), .val (.int v8_1), .val (.int v21_2), .val (.int (0 : Int32)), .val (.ref b33_4), .val (.ref b98_11), .val (.ref b122_12), .val (.ref b151_13), .val (.ref b172_14), .unset, .unset]) rfl rfl rfl ?_
    refine g_new X (tb hw 6 rfl) (tb hw 7 rfl) (tb hw 8 rfl) at_176 (pc' := 179) rfl (by decide) (by decide) ?_
    intro T h b176_15 s_b176_15 X Ex E_b176_15 D_b176_15
    have ne_b33_4_b176_15 : b33_4 ≠ b176_15 := Nat.ne_of_lt (by rw [s_b176_15]; exact E_b33_4.lt)
    have ne_b98_11_b176_15 : b98_11 ≠ b176_15 := Nat.ne_of_lt (by rw [s_b176_15]; exact E_b98_11.lt)
    have ne_b122_12_b176_15 : b122_12 ≠ b176_15 := Nat.ne_of_lt (by rw [s_b176_15]; exact E_b122_12.lt)
    have ne_b151_13_b176_15 : b151_13 ≠ b176_15 := Nat.ne_of_lt (by rw [s_b176_15]; exact E_b151_13.lt)
    have ne_b172_14_b176_15 : b172_14 ≠ b176_15 := Nat.ne_of_lt (by rw [s_b176_15]; exact E_b172_14.lt)
    have g_b176_15 : n0 ≤ b176_15 := by rw [s_b176_15]; exact Z0
    replace E_b33_4 := E_b33_4.ext Ex
    replace V_b33_4 := V_b33_4.ext Ex
    replace E_b98_11 := E_b98_11.ext Ex
    replace V_b98_11 := V_b98_11.ext Ex
    replace E_b122_12 := E_b122_12.ext Ex
    replace V_b122_12 := V_b122_12.ext Ex
    replace E_b151_13 := E_b151_13.ext Ex
    replace V_b151_13 := V_b151_13.ext Ex
    replace E_b172_14 := E_b172_14.ext Ex
    replace V_b172_14 := V_b172_14.ext Ex
    replace Z0 := Nat.le_trans Z0 Ex.1
    have F_b176_15_component : Fld Z h b176_15 "com/example/pathlattice/pathlattice/graph/Components" "component" "[I" .null := D_b176_15 (Or.inr (tb hw 16 rfl)) (ty := (.array .int)) (by decide)
    have F_b176_15_memberOffsets : Fld Z h b176_15 "com/example/pathlattice/pathlattice/graph/Components" "memberOffsets" "[I" .null := D_b176_15 (Or.inr (tb hw 18 rfl)) (ty := (.array .int)) (by decide)
    have F_b176_15_members : Fld Z h b176_15 "com/example/pathlattice/pathlattice/graph/Components" "members" "[I" .null := D_b176_15 (Or.inr (tb hw 20 rfl)) (ty := (.array .int)) (by decide)
    have F_b176_15_predecessorOffsets : Fld Z h b176_15 "com/example/pathlattice/pathlattice/graph/Components" "predecessorOffsets" "[I" .null := D_b176_15 (Or.inr (tb hw 22 rfl)) (ty := (.array .int)) (by decide)
    have F_b176_15_predecessors : Fld Z h b176_15 "com/example/pathlattice/pathlattice/graph/Components" "predecessors" "[I" .null := D_b176_15 (Or.inr (tb hw 24 rfl)) (ty := (.array .int)) (by decide)
    refine g_dup X at_179 (pc' := 180) rfl rfl ?_
    refine g_aload X at_180 (pc' := 182) rfl rfl rfl ?_
    refine g_aload X at_182 (pc' := 184) rfl rfl rfl ?_
    refine g_aload X at_184 (pc' := 186) rfl rfl rfl ?_
    refine g_aload X at_186 (pc' := 188) rfl rfl rfl ?_
    refine g_aload X at_188 (pc' := 190) rfl rfl rfl ?_
    refine g_special X (W := 1) (a := b176_15) [(.ref b33_4), (.ref b98_11), (.ref b122_12), (.ref b151_13), (.ref b172_14)] [(.ref b176_15)] rfl (tb hw 9 rfl) (tb hw 10 rfl) (tb hw 8 rfl) (tb hw 11 rfl) (rInit l Z aa hw [] b176_15 b33_4 b98_11 b122_12 b151_13 b172_14 _ n0 Z0 E_b176_15 F_b176_15_component F_b176_15_memberOffsets F_b176_15_members F_b176_15_predecessorOffsets F_b176_15_predecessors g_b176_15) at_190 (pc' := 193) rfl (by decide) (by decide) (by decide) rfl rfl rfl (lenOf pd_1 rfl) (Nat.le_refl _) (by decide) (by decide) ?_
    intro v T L X q
    obtain ⟨rfl, Nq, Kq, E_b176_15', F_b176_15_component', F_b176_15_memberOffsets', F_b176_15_members', F_b176_15_predecessorOffsets', F_b176_15_predecessors'⟩ := q
    replace N := N.app Nq
    replace E_b33_4 := E_b33_4.keep Kq
    replace V_b33_4 := V_b33_4.keep Kq (ninS ne_b33_4_b176_15 nin0)
    replace E_b98_11 := E_b98_11.keep Kq
    replace V_b98_11 := V_b98_11.keep Kq (ninS ne_b98_11_b176_15 nin0)
    replace E_b122_12 := E_b122_12.keep Kq
    replace V_b122_12 := V_b122_12.keep Kq (ninS ne_b122_12_b176_15 nin0)
    replace E_b151_13 := E_b151_13.keep Kq
    replace V_b151_13 := V_b151_13.keep Kq (ninS ne_b151_13_b176_15 nin0)
    replace E_b172_14 := E_b172_14.keep Kq
    replace V_b172_14 := V_b172_14.keep Kq (ninS ne_b172_14_b176_15 nin0)
    replace Z0 := Nat.le_trans Z0 Kq.1
    replace E_b176_15 := E_b176_15'
    replace F_b176_15_component := F_b176_15_component'
    replace F_b176_15_memberOffsets := F_b176_15_memberOffsets'
    replace F_b176_15_members := F_b176_15_members'
    replace F_b176_15_predecessorOffsets := F_b176_15_predecessorOffsets'
    replace F_b176_15_predecessors := F_b176_15_predecessors'
    show Go p e below _ (T.setTop (mkF m 193 #[.val (.int i0), .val (.int i1), .val (.int i2), .val (.int v8_1), .val (.int v21_2), .val (.int (0 : Int32)), .val (.ref b33_4), .val (.ref b98_11), .val (.ref b122_12), .val (.ref b151_13), .val (.ref b172_14), .unset, .unset] [(.ref b176_15)]))
    refine g_astore X at_193 (pc' := 195) (Ls' := #[.val (.int i0), .val (.int i1), .val (.int i2), .val (.int v8_1), .val (.int v21_2), .val (.int (0 : Int32)), .val (.ref b33_4), .val (.ref b98_11), .val (.ref b122_12), .val (.ref b151_13), .val (.ref b172_14), .val (.ref b176_15), .unset]) rfl rfl rfl ?_
    refine g_aload X at_195 (pc' := 197) rfl rfl rfl ?_
    refine g_iconst X (0 : Int32) at_197 (pc' := 198) rfl rfl ?_
    refine g_virtual X (W := 0) (a := b176_15) (C := "com/example/pathlattice/pathlattice/graph/Components") [(.int (0 : Int32))] [] E_b176_15 (tb hw 25 rfl) (tb hw 26 rfl) (tb hw 28 rfl) (tb hw 27 rfl) (tb hw 8 rfl) (tb hw 29 rfl) (rOf0 l Z aa hw [] b176_15 b33_4 v44_5 v54_6 v64_7 v74_8 v84_9 v94_10 _ E_b176_15 F_b176_15_component V_b33_4) at_198 (pc' := 201) rfl (by decide) (by decide) (by decide) rfl rfl rfl (lenOf pd_2 rfl) (Nat.le_refl _) (by decide) (by decide) ?_
    intro v T L X q
    obtain ⟨rfl, X⟩ := pureX X q
    show Go p e below _ (T.setTop (mkF m 201 #[.val (.int i0), .val (.int i1), .val (.int i2), .val (.int v8_1), .val (.int v21_2), .val (.int (0 : Int32)), .val (.ref b33_4), .val (.ref b98_11), .val (.ref b122_12), .val (.ref b151_13), .val (.ref b172_14), .val (.ref b176_15), .unset] [(.int (fOf0 v44_5 v54_6 v64_7 v74_8 v84_9 v94_10))]))
    refine g_iload X at_201 (pc' := 203) rfl rfl ?_
    refine g_static X (W := 0) [(.int (fOf0 v44_5 v54_6 v64_7 v74_8 v84_9 v94_10)), (.int (0 : Int32))] [] (tb hw 30 rfl) (tb hw 31 rfl) (tb hw 4 rfl) (tb hw 32 rfl) (rEq l Z aa hw [] (fOf0 v44_5 v54_6 v64_7 v74_8 v84_9 v94_10) (0 : Int32) _) at_203 (pc' := 206) rfl (by decide) (by decide) (by decide) rfl rfl rfl (lenOf pd_3 rfl) (Nat.le_refl _) (by decide) (by decide) ?_
    intro v T L X q
    obtain ⟨rfl, X⟩ := pureX X q
    show Go p e below _ (T.setTop (mkF m 206 #[.val (.int i0), .val (.int i1), .val (.int i2), .val (.int v8_1), .val (.int v21_2), .val (.int (0 : Int32)), .val (.ref b33_4), .val (.ref b98_11), .val (.ref b122_12), .val (.ref b151_13), .val (.ref b172_14), .val (.ref b176_15), .unset] [(.int (fEq (fOf0 v44_5 v54_6 v64_7 v74_8 v84_9 v94_10) (0 : Int32)))]))
    refine g_aload X at_206 (pc' := 208) rfl rfl rfl ?_
    refine g_iconst X (1 : Int32) at_208 (pc' := 209) rfl rfl ?_
    refine g_virtual X (W := 1) (a := b176_15) (C := "com/example/pathlattice/pathlattice/graph/Components") [(.int (1 : Int32))] [(.int (fEq (fOf0 v44_5 v54_6 v64_7 v74_8 v84_9 v94_10) (0 : Int32)))] E_b176_15 (tb hw 25 rfl) (tb hw 26 rfl) (tb hw 28 rfl) (tb hw 27 rfl) (tb hw 8 rfl) (tb hw 29 rfl) (rOf1 l Z aa hw [] b176_15 b33_4 v44_5 v54_6 v64_7 v74_8 v84_9 v94_10 _ E_b176_15 F_b176_15_component V_b33_4) at_209 (pc' := 212) rfl (by decide) (by decide) (by decide) rfl rfl rfl (lenOf pd_2 rfl) (Nat.le_refl _) (by decide) (by decide) ?_
    intro v T L X q
    obtain ⟨rfl, X⟩ := pureX X q
    show Go p e below _ (T.setTop (mkF m 212 #[.val (.int i0), .val (.int i1), .val (.int i2), .val (.int v8_1), .val (.int v21_2), .val (.int (0 : Int32)), .val (.ref b33_4), .val (.ref b98_11), .val (.ref b122_12), .val (.ref b151_13), .val (.ref b172_14), .val (.ref b176_15), .unset] [(.int (fOf1 v44_5 v54_6 v64_7 v74_8 v84_9 v94_10)), (.int (fEq (fOf0 v44_5 v54_6 v64_7 v74_8 v84_9 v94_10) (0 : Int32)))]))
    refine g_iload X at_212 (pc' := 214) rfl rfl ?_
    refine g_static X (W := 1) [(.int (fOf1 v44_5 v54_6 v64_7 v74_8 v84_9 v94_10)), (.int (0 : Int32))] [(.int (fEq (fOf0 v44_5 v54_6 v64_7 v74_8 v84_9 v94_10) (0 : Int32)))] (tb hw 30 rfl) (tb hw 31 rfl) (tb hw 4 rfl) (tb hw 32 rfl) (rEq l Z aa hw [] (fOf1 v44_5 v54_6 v64_7 v74_8 v84_9 v94_10) (0 : Int32) _) at_214 (pc' := 217) rfl (by decide) (by decide) (by decide) rfl rfl rfl (lenOf pd_3 rfl) (Nat.le_refl _) (by decide) (by decide) ?_
    intro v T L X q
    obtain ⟨rfl, X⟩ := pureX X q
    show Go p e below _ (T.setTop (mkF m 217 #[.val (.int i0), .val (.int i1), .val (.int i2), .val (.int v8_1), .val (.int v21_2), .val (.int (0 : Int32)), .val (.ref b33_4), .val (.ref b98_11), .val (.ref b122_12), .val (.ref b151_13), .val (.ref b172_14), .val (.ref b176_15), .unset] [(.int (fEq (fOf1 v44_5 v54_6 v64_7 v74_8 v84_9 v94_10) (0 : Int32))), (.int (fEq (fOf0 v44_5 v54_6 v64_7 v74_8 v84_9 v94_10) (0 : Int32)))]))
    refine g_iadd X at_217 (pc' := 218) rfl ?_
    refine g_aload X at_218 (pc' := 220) rfl rfl rfl ?_
    refine g_iconst X (2 : Int32) at_220 (pc' := 221) rfl rfl ?_
    refine g_virtual X (W := 1) (a := b176_15) (C := "com/example/pathlattice/pathlattice/graph/Components") [(.int (2 : Int32))] [(.int ((fEq (fOf0 v44_5 v54_6 v64_7 v74_8 v84_9 v94_10) (0 : Int32)) + (fEq (fOf1 v44_5 v54_6 v64_7 v74_8 v84_9 v94_10) (0 : Int32))))] E_b176_15 (tb hw 25 rfl) (tb hw 26 rfl) (tb hw 28 rfl) (tb hw 27 rfl) (tb hw 8 rfl) (tb hw 29 rfl) (rOf2 l Z aa hw [] b176_15 b33_4 v44_5 v54_6 v64_7 v74_8 v84_9 v94_10 _ E_b176_15 F_b176_15_component V_b33_4) at_221 (pc' := 224) rfl (by decide) (by decide) (by decide) rfl rfl rfl (lenOf pd_2 rfl) (Nat.le_refl _) (by decide) (by decide) ?_
    intro v T L X q
    obtain ⟨rfl, X⟩ := pureX X q
    show Go p e below _ (T.setTop (mkF m 224 #[.val (.int i0), .val (.int i1), .val (.int i2), .val (.int v8_1), .val (.int v21_2), .val (.int (0 : Int32)), .val (.ref b33_4), .val (.ref b98_11), .val (.ref b122_12), .val (.ref b151_13), .val (.ref b172_14), .val (.ref b176_15), .unset] [(.int (fOf2 v44_5 v54_6 v64_7 v74_8 v84_9 v94_10)), (.int ((fEq (fOf0 v44_5 v54_6 v64_7 v74_8 v84_9 v94_10) (0 : Int32)) + (fEq (fOf1 v44_5 v54_6 v64_7 v74_8 v84_9 v94_10) (0 : Int32))))]))
    refine g_iload X at_224 (pc' := 226) rfl rfl ?_
    refine g_static X (W := 1) [(.int (fOf2 v44_5 v54_6 v64_7 v74_8 v84_9 v94_10)), (.int (0 : Int32))] [(.int ((fEq (fOf0 v44_5 v54_6 v64_7 v74_8 v84_9 v94_10) (0 : Int32)) + (fEq (fOf1 v44_5 v54_6 v64_7 v74_8 v84_9 v94_10) (0 : Int32))))] (tb hw 30 rfl) (tb hw 31 rfl) (tb hw 4 rfl) (tb hw 32 rfl) (rEq l Z aa hw [] (fOf2 v44_5 v54_6 v64_7 v74_8 v84_9 v94_10) (0 : Int32) _) at_226 (pc' := 229) rfl (by decide) (by decide) (by decide) rfl rfl rfl (lenOf pd_3 rfl) (Nat.le_refl _) (by decide) (by decide) ?_
    intro v T L X q
    obtain ⟨rfl, X⟩ := pureX X q
    show Go p e below _ (T.setTop (mkF m 229 #[.val (.int i0), .val (.int i1), .val (.int i2), .val (.int v8_1), .val (.int v21_2), .val (.int (0 : Int32)), .val (.ref b33_4), .val (.ref b98_11), .val (.ref b122_12), .val (.ref b151_13), .val (.ref b172_14), .val (.ref b176_15), .unset] [(.int (fEq (fOf2 v44_5 v54_6 v64_7 v74_8 v84_9 v94_10) (0 : Int32))), (.int ((fEq (fOf0 v44_5 v54_6 v64_7 v74_8 v84_9 v94_10) (0 : Int32)) + (fEq (fOf1 v44_5 v54_6 v64_7 v74_8 v84_9 v94_10) (0 : Int32))))]))
    refine g_iadd X at_229 (pc' := 230) rfl ?_
    refine g_aload X at_230 (pc' := 232) rfl rfl rfl ?_
    refine g_iconst X (3 : Int32) at_232 (pc' := 233) rfl rfl ?_
    refine g_virtual X (W := 1) (a := b176_15) (C := "com/example/pathlattice/pathlattice/graph/Components") [(.int (3 : Int32))] [(.int (((fEq (fOf0 v44_5 v54_6 v64_7 v74_8 v84_9 v94_10) (0 : Int32)) + (fEq (fOf1 v44_5 v54_6 v64_7 v74_8 v84_9 v94_10) (0 : Int32))) + (fEq (fOf2 v44_5 v54_6 v64_7 v74_8 v84_9 v94_10) (0 : Int32))))] E_b176_15 (tb hw 25 rfl) (tb hw 26 rfl) (tb hw 28 rfl) (tb hw 27 rfl) (tb hw 8 rfl) (tb hw 29 rfl) (rOf3 l Z aa hw [] b176_15 b33_4 v44_5 v54_6 v64_7 v74_8 v84_9 v94_10 _ E_b176_15 F_b176_15_component V_b33_4) at_233 (pc' := 236) rfl (by decide) (by decide) (by decide) rfl rfl rfl (lenOf pd_2 rfl) (Nat.le_refl _) (by decide) (by decide) ?_
    intro v T L X q
    obtain ⟨rfl, X⟩ := pureX X q
    show Go p e below _ (T.setTop (mkF m 236 #[.val (.int i0), .val (.int i1), .val (.int i2), .val (.int v8_1), .val (.int v21_2), .val (.int (0 : Int32)), .val (.ref b33_4), .val (.ref b98_11), .val (.ref b122_12), .val (.ref b151_13), .val (.ref b172_14), .val (.ref b176_15), .unset] [(.int (fOf3 v44_5 v54_6 v64_7 v74_8 v84_9 v94_10)), (.int (((fEq (fOf0 v44_5 v54_6 v64_7 v74_8 v84_9 v94_10) (0 : Int32)) + (fEq (fOf1 v44_5 v54_6 v64_7 v74_8 v84_9 v94_10) (0 : Int32))) + (fEq (fOf2 v44_5 v54_6 v64_7 v74_8 v84_9 v94_10) (0 : Int32))))]))
    refine g_iload X at_236 (pc' := 238) rfl rfl ?_
    refine g_static X (W := 1) [(.int (fOf3 v44_5 v54_6 v64_7 v74_8 v84_9 v94_10)), (.int (0 : Int32))] [(.int (((fEq (fOf0 v44_5 v54_6 v64_7 v74_8 v84_9 v94_10) (0 : Int32)) + (fEq (fOf1 v44_5 v54_6 v64_7 v74_8 v84_9 v94_10) (0 : Int32))) + (fEq (fOf2 v44_5 v54_6 v64_7 v74_8 v84_9 v94_10) (0 : Int32))))] (tb hw 30 rfl) (tb hw 31 rfl) (tb hw 4 rfl) (tb hw 32 rfl) (rEq l Z aa hw [] (fOf3 v44_5 v54_6 v64_7 v74_8 v84_9 v94_10) (0 : Int32) _) at_238 (pc' := 241) rfl (by decide) (by decide) (by decide) rfl rfl rfl (lenOf pd_3 rfl) (Nat.le_refl _) (by decide) (by decide) ?_
    intro v T L X q
    obtain ⟨rfl, X⟩ := pureX X q
    show Go p e below _ (T.setTop (mkF m 241 #[.val (.int i0), .val (.int i1), .val (.int i2), .val (.int v8_1), .val (.int v21_2), .val (.int (0 : Int32)), .val (.ref b33_4), .val (.ref b98_11), .val (.ref b122_12), .val (.ref b151_13), .val (.ref b172_14), .val (.ref b176_15), .unset] [(.int (fEq (fOf3 v44_5 v54_6 v64_7 v74_8 v84_9 v94_10) (0 : Int32))), (.int (((fEq (fOf0 v44_5 v54_6 v64_7 v74_8 v84_9 v94_10) (0 : Int32)) + (fEq (fOf1 v44_5 v54_6 v64_7 v74_8 v84_9 v94_10) (0 : Int32))) + (fEq (fOf2 v44_5 v54_6 v64_7 v74_8 v84_9 v94_10) (0 : Int32))))]))
    refine g_iadd X at_241 (pc' := 242) rfl ?_
    refine g_aload X at_242 (pc' := 244) rfl rfl rfl ?_
    refine g_iconst X (4 : Int32) at_244 (pc' := 245) rfl rfl ?_
    refine g_virtual X (W := 1) (a := b176_15) (C := "com/example/pathlattice/pathlattice/graph/Components") [(.int (4 : Int32))] [(.int ((((fEq (fOf0 v44_5 v54_6 v64_7 v74_8 v84_9 v94_10) (0 : Int32)) + (fEq (fOf1 v44_5 v54_6 v64_7 v74_8 v84_9 v94_10) (0 : Int32))) + (fEq (fOf2 v44_5 v54_6 v64_7 v74_8 v84_9 v94_10) (0 : Int32))) + (fEq (fOf3 v44_5 v54_6 v64_7 v74_8 v84_9 v94_10) (0 : Int32))))] E_b176_15 (tb hw 25 rfl) (tb hw 26 rfl) (tb hw 28 rfl) (tb hw 27 rfl) (tb hw 8 rfl) (tb hw 29 rfl) (rOf4 l Z aa hw [] b176_15 b33_4 v44_5 v54_6 v64_7 v74_8 v84_9 v94_10 _ E_b176_15 F_b176_15_component V_b33_4) at_245 (pc' := 248) rfl (by decide) (by decide) (by decide) rfl rfl rfl (lenOf pd_2 rfl) (Nat.le_refl _) (by decide) (by decide) ?_
    intro v T L X q
    obtain ⟨rfl, X⟩ := pureX X q
    show Go p e below _ (T.setTop (mkF m 248 #[.val (.int i0), .val (.int i1), .val (.int i2), .val (.int v8_1), .val (.int v21_2), .val (.int (0 : Int32)), .val (.ref b33_4), .val (.ref b98_11), .val (.ref b122_12), .val (.ref b151_13), .val (.ref b172_14), .val (.ref b176_15), .unset] [(.int (fOf4 v44_5 v54_6 v64_7 v74_8 v84_9 v94_10)), (.int ((((fEq (fOf0 v44_5 v54_6 v64_7 v74_8 v84_9 v94_10) (0 : Int32)) + (fEq (fOf1 v44_5 v54_6 v64_7 v74_8 v84_9 v94_10) (0 : Int32))) + (fEq (fOf2 v44_5 v54_6 v64_7 v74_8 v84_9 v94_10) (0 : Int32))) + (fEq (fOf3 v44_5 v54_6 v64_7 v74_8 v84_9 v94_10) (0 : Int32))))]))
    refine g_iload X at_248 (pc' := 250) rfl rfl ?_
    refine g_static X (W := 1) [(.int (fOf4 v44_5 v54_6 v64_7 v74_8 v84_9 v94_10)), (.int (0 : Int32))] [(.int ((((fEq (fOf0 v44_5 v54_6 v64_7 v74_8 v84_9 v94_10) (0 : Int32)) + (fEq (fOf1 v44_5 v54_6 v64_7 v74_8 v84_9 v94_10) (0 : Int32))) + (fEq (fOf2 v44_5 v54_6 v64_7 v74_8 v84_9 v94_10) (0 : Int32))) + (fEq (fOf3 v44_5 v54_6 v64_7 v74_8 v84_9 v94_10) (0 : Int32))))] (tb hw 30 rfl) (tb hw 31 rfl) (tb hw 4 rfl) (tb hw 32 rfl) (rEq l Z aa hw [] (fOf4 v44_5 v54_6 v64_7 v74_8 v84_9 v94_10) (0 : Int32) _) at_250 (pc' := 253) rfl (by decide) (by decide) (by decide) rfl rfl rfl (lenOf pd_3 rfl) (Nat.le_refl _) (by decide) (by decide) ?_
    intro v T L X q
    obtain ⟨rfl, X⟩ := pureX X q
    show Go p e below _ (T.setTop (mkF m 253 #[.val (.int i0), .val (.int i1), .val (.int i2), .val (.int v8_1), .val (.int v21_2), .val (.int (0 : Int32)), .val (.ref b33_4), .val (.ref b98_11), .val (.ref b122_12), .val (.ref b151_13), .val (.ref b172_14), .val (.ref b176_15), .unset] [(.int (fEq (fOf4 v44_5 v54_6 v64_7 v74_8 v84_9 v94_10) (0 : Int32))), (.int ((((fEq (fOf0 v44_5 v54_6 v64_7 v74_8 v84_9 v94_10) (0 : Int32)) + (fEq (fOf1 v44_5 v54_6 v64_7 v74_8 v84_9 v94_10) (0 : Int32))) + (fEq (fOf2 v44_5 v54_6 v64_7 v74_8 v84_9 v94_10) (0 : Int32))) + (fEq (fOf3 v44_5 v54_6 v64_7 v74_8 v84_9 v94_10) (0 : Int32))))]))
    refine g_iadd X at_253 (pc' := 254) rfl ?_
    refine g_aload X at_254 (pc' := 256) rfl rfl rfl ?_
    refine g_iconst X (5 : Int32) at_256 (pc' := 257) rfl rfl ?_
    refine g_virtual X (W := 1) (a := b176_15) (C := "com/example/pathlattice/pathlattice/graph/Components") [(.int (5 : Int32))] [(.int (((((fEq (fOf0 v44_5 v54_6 v64_7 v74_8 v84_9 v94_10) (0 : Int32)) + (fEq (fOf1 v44_5 v54_6 v64_7 v74_8 v84_9 v94_10) (0 : Int32))) + (fEq (fOf2 v44_5 v54_6 v64_7 v74_8 v84_9 v94_10) (0 : Int32))) + (fEq (fOf3 v44_5 v54_6 v64_7 v74_8 v84_9 v94_10) (0 : Int32))) + (fEq (fOf4 v44_5 v54_6 v64_7 v74_8 v84_9 v94_10) (0 : Int32))))] E_b176_15 (tb hw 25 rfl) (tb hw 26 rfl) (tb hw 28 rfl) (tb hw 27 rfl) (tb hw 8 rfl) (tb hw 29 rfl) (rOf5 l Z aa hw [] b176_15 b33_4 v44_5 v54_6 v64_7 v74_8 v84_9 v94_10 _ E_b176_15 F_b176_15_component V_b33_4) at_257 (pc' := 260) rfl (by decide) (by decide) (by decide) rfl rfl rfl (lenOf pd_2 rfl) (Nat.le_refl _) (by decide) (by decide) ?_
    intro v T L X q
    obtain ⟨rfl, X⟩ := pureX X q
    show Go p e below _ (T.setTop (mkF m 260 #[.val (.int i0), .val (.int i1), .val (.int i2), .val (.int v8_1), .val (.int v21_2), .val (.int (0 : Int32)), .val (.ref b33_4), .val (.ref b98_11), .val (.ref b122_12), .val (.ref b151_13), .val (.ref b172_14), .val (.ref b176_15), .unset] [(.int (fOf5 v44_5 v54_6 v64_7 v74_8 v84_9 v94_10)), (.int (((((fEq (fOf0 v44_5 v54_6 v64_7 v74_8 v84_9 v94_10) (0 : Int32)) + (fEq (fOf1 v44_5 v54_6 v64_7 v74_8 v84_9 v94_10) (0 : Int32))) + (fEq (fOf2 v44_5 v54_6 v64_7 v74_8 v84_9 v94_10) (0 : Int32))) + (fEq (fOf3 v44_5 v54_6 v64_7 v74_8 v84_9 v94_10) (0 : Int32))) + (fEq (fOf4 v44_5 v54_6 v64_7 v74_8 v84_9 v94_10) (0 : Int32))))]))
    refine g_iload X at_260 (pc' := 262) rfl rfl ?_
    refine g_static X (W := 1) [(.int (fOf5 v44_5 v54_6 v64_7 v74_8 v84_9 v94_10)), (.int (0 : Int32))] [(.int (((((fEq (fOf0 v44_5 v54_6 v64_7 v74_8 v84_9 v94_10) (0 : Int32)) + (fEq (fOf1 v44_5 v54_6 v64_7 v74_8 v84_9 v94_10) (0 : Int32))) + (fEq (fOf2 v44_5 v54_6 v64_7 v74_8 v84_9 v94_10) (0 : Int32))) + (fEq (fOf3 v44_5 v54_6 v64_7 v74_8 v84_9 v94_10) (0 : Int32))) + (fEq (fOf4 v44_5 v54_6 v64_7 v74_8 v84_9 v94_10) (0 : Int32))))] (tb hw 30 rfl) (tb hw 31 rfl) (tb hw 4 rfl) (tb hw 32 rfl) (rEq l Z aa hw [] (fOf5 v44_5 v54_6 v64_7 v74_8 v84_9 v94_10) (0 : Int32) _) at_262 (pc' := 265) rfl (by decide) (by decide) (by decide) rfl rfl rfl (lenOf pd_3 rfl) (Nat.le_refl _) (by decide) (by decide) ?_
    intro v T L X q
    obtain ⟨rfl, X⟩ := pureX X q
    show Go p e below _ (T.setTop (mkF m 265 #[.val (.int i0), .val (.int i1), .val (.int i2), .val (.int v8_1), .val (.int v21_2), .val (.int (0 : Int32)), .val (.ref b33_4), .val (.ref b98_11), .val (.ref b122_12), .val (.ref b151_13), .val (.ref b172_14), .val (.ref b176_15), .unset] [(.int (fEq (fOf5 v44_5 v54_6 v64_7 v74_8 v84_9 v94_10) (0 : Int32))), (.int (((((fEq (fOf0 v44_5 v54_6 v64_7 v74_8 v84_9 v94_10) (0 : Int32)) + (fEq (fOf1 v44_5 v54_6 v64_7 v74_8 v84_9 v94_10) (0 : Int32))) + (fEq (fOf2 v44_5 v54_6 v64_7 v74_8 v84_9 v94_10) (0 : Int32))) + (fEq (fOf3 v44_5 v54_6 v64_7 v74_8 v84_9 v94_10) (0 : Int32))) + (fEq (fOf4 v44_5 v54_6 v64_7 v74_8 v84_9 v94_10) (0 : Int32))))]))
    refine g_iadd X at_265 (pc' := 266) rfl ?_
    generalize ev266_16 : ((((((fEq (fOf0 v44_5 v54_6 v64_7 v74_8 v84_9 v94_10) (0 : Int32)) + (fEq (fOf1 v44_5 v54_6 v64_7 v74_8 v84_9 v94_10) (0 : Int32))) + (fEq (fOf2 v44_5 v54_6 v64_7 v74_8 v84_9 v94_10) (0 : Int32))) + (fEq (fOf3 v44_5 v54_6 v64_7 v74_8 v84_9 v94_10) (0 : Int32))) + (fEq (fOf4 v44_5 v54_6 v64_7 v74_8 v84_9 v94_10) (0 : Int32))) + (fEq (fOf5 v44_5 v54_6 v64_7 v74_8 v84_9 v94_10) (0 : Int32))) = v266_16
    refine g_istore X at_266 (pc' := 268) (Ls' := #[.val (.int i0), .val (.int i1), .val (.int i2), .val (.int v8_1), .val (.int v21_2), .val (.int (0 : Int32)), .val (.ref b33_4), .val (.ref b98_11), .val (.ref b122_12), .val (.ref b151_13), .val (.ref b172_14), .val (.ref b176_15), .val (.int v266_16)]) rfl rfl ?_
    refine g_aload X at_268 (pc' := 270) rfl rfl rfl ?_
    refine g_iload X at_270 (pc' := 272) rfl rfl ?_
    refine g_virtual X (W := 0) (a := b176_15) (C := "com/example/pathlattice/pathlattice/graph/Components") [(.int (0 : Int32))] [] E_b176_15 (tb hw 33 rfl) (tb hw 34 rfl) (tb hw 36 rfl) (tb hw 35 rfl) (tb hw 8 rfl) (tb hw 37 rfl) (rSz0 l Z aa hw [] b176_15 b98_11 (0 : Int32) v8_1 v21_2 (6 : Int32) _ E_b176_15 F_b176_15_memberOffsets V_b98_11) at_272 (pc' := 275) rfl (by decide) (by decide) (by decide) rfl rfl rfl (lenOf pd_2 rfl) (Nat.le_refl _) (by decide) (by decide) ?_
    intro v T L X q
    obtain ⟨rfl, X⟩ := pureX X q
    show Go p e below _ (T.setTop (mkF m 275 #[.val (.int i0), .val (.int i1), .val (.int i2), .val (.int v8_1), .val (.int v21_2), .val (.int (0 : Int32)), .val (.ref b33_4), .val (.ref b98_11), .val (.ref b122_12), .val (.ref b151_13), .val (.ref b172_14), .val (.ref b176_15), .val (.int v266_16)] [(.int (fSz0 (0 : Int32) v8_1 v21_2 (6 : Int32)))]))
    refine g_iload X at_275 (pc' := 277) rfl rfl ?_
    refine g_icN X at_277 (teq (show (fSz0 (0 : Int32) v8_1 v21_2 (6 : Int32)) = v266_16 from (by subst_vars; exact (tally Pr).1.symm))).2 (pc' := 280) rfl ?_
    refine g_iconst X (1 : Int32) at_280 (pc' := 281) rfl rfl ?_
    refine g_goto X at_281 (pc' := 285) (by decide) (by decide) ?_
    refine g_ireturnN X (t := .boolean) (by simp) at_285 hret hlk (by decide) (by decide) ?_
    exact ⟨rfl, N⟩
  · subst hs
    show Go p e below _ (T.setTop (mkF m 31 #[.val (.int i0), .val (.int i1), .val (.int i2), .val (.int v8_1), .val (.int v21_2), .val (.int (1 : Int32)), .unset, .unset, .unset, .unset, .unset, .unset, .unset] []))
    refine g_bipush X (6 : Int32) at_31 (pc' := 33) rfl rfl ?_
    refine g_newarray X 6 (tb hw 1 rfl) at_33 (pc' := 35) rfl (by decide) (by decide) 6 (by decide) (by decide) (by decide) (by decide) (vs := [(.int (0 : Int32)), (.int (0 : Int32)), (.int (0 : Int32)), (.int (0 : Int32)), (.int (0 : Int32)), (.int (0 : Int32))]) rfl (ad := "[I") (by decide) ?_
    intro T h b33_17 s_b33_17 X Ex E_b33_17 V_b33_17
    have g_b33_17 : n0 ≤ b33_17 := by rw [s_b33_17]; exact Z0
    replace Z0 := Nat.le_trans Z0 Ex.1
    refine g_dup X at_35 (pc' := 36) rfl rfl ?_
    refine g_iconst X (0 : Int32) at_36 (pc' := 37) rfl rfl ?_
    refine g_iconst X (0 : Int32) at_37 (pc' := 38) rfl rfl ?_
    refine g_iloadN X at_38 (pc' := 39) rfl rfl ?_
    refine g_iload X at_39 (pc' := 41) rfl rfl ?_
    refine g_static X (W := 3) [(.int (0 : Int32)), (.int v8_1), (.int v21_2)] [(.int (0 : Int32)), (.ref b33_17), (.ref b33_17)] (tb hw 2 rfl) (tb hw 3 rfl) (tb hw 4 rfl) (tb hw 5 rfl) (rComp l Z aa hw [] (0 : Int32) v8_1 v21_2 _) at_41 (pc' := 44) rfl (by decide) (by decide) (by decide) rfl rfl rfl (lenOf pd_0 rfl) (Nat.le_refl _) (by decide) (by decide) ?_
    intro v T L X q
    obtain ⟨rfl, X⟩ := pureX X q
    show Go p e below _ (T.setTop (mkF m 44 #[.val (.int i0), .val (.int i1), .val (.int i2), .val (.int v8_1), .val (.int v21_2), .val (.int (1 : Int32)), .unset, .unset, .unset, .unset, .unset, .unset, .unset] [(.int (fComp (0 : Int32) v8_1 v21_2)), (.int (0 : Int32)), (.ref b33_17), (.ref b33_17)]))
    generalize ev44_18 : (fComp (0 : Int32) v8_1 v21_2) = v44_18
    refine g_iastore X V_b33_17 0 at_44 (pc' := 45) rfl (by decide) (by decide) (Nat.le_of_ble_eq_true rfl) ?_
    intro T h X W V_b33_17
    replace V_b33_17 : Av Z h b33_17 .int [(.int v44_18), (.int (0 : Int32)), (.int (0 : Int32)), (.int (0 : Int32)), (.int (0 : Int32)), (.int (0 : Int32))] := V_b33_17
    replace E_b33_17 := E_b33_17.wr W
    replace Z0 := Nat.le_trans Z0 (Nat.le_of_eq W.size.symm)
    replace N := Fr.snoc X.1 N g_b33_17
    refine g_dup X at_45 (pc' := 46) rfl rfl ?_
    refine g_iconst X (1 : Int32) at_46 (pc' := 47) rfl rfl ?_
    refine g_iconst X (1 : Int32) at_47 (pc' := 48) rfl rfl ?_
    refine g_iloadN X at_48 (pc' := 49) rfl rfl ?_
    refine g_iload X at_49 (pc' := 51) rfl rfl ?_
    refine g_static X (W := 3) [(.int (1 : Int32)), (.int v8_1), (.int v21_2)] [(.int (1 : Int32)), (.ref b33_17), (.ref b33_17)] (tb hw 2 rfl) (tb hw 3 rfl) (tb hw 4 rfl) (tb hw 5 rfl) (rComp l Z aa hw [] (1 : Int32) v8_1 v21_2 _) at_51 (pc' := 54) rfl (by decide) (by decide) (by decide) rfl rfl rfl (lenOf pd_0 rfl) (Nat.le_refl _) (by decide) (by decide) ?_
    intro v T L X q
    obtain ⟨rfl, X⟩ := pureX X q
    show Go p e below _ (T.setTop (mkF m 54 #[.val (.int i0), .val (.int i1), .val (.int i2), .val (.int v8_1), .val (.int v21_2), .val (.int (1 : Int32)), .unset, .unset, .unset, .unset, .unset, .unset, .unset] [(.int (fComp (1 : Int32) v8_1 v21_2)), (.int (1 : Int32)), (.ref b33_17), (.ref b33_17)]))
    generalize ev54_19 : (fComp (1 : Int32) v8_1 v21_2) = v54_19
    refine g_iastore X V_b33_17 1 at_54 (pc' := 55) rfl (by decide) (by decide) (Nat.le_of_ble_eq_true rfl) ?_
    intro T h X W V_b33_17
    replace V_b33_17 : Av Z h b33_17 .int [(.int v44_18), (.int v54_19), (.int (0 : Int32)), (.int (0 : Int32)), (.int (0 : Int32)), (.int (0 : Int32))] := V_b33_17
    replace E_b33_17 := E_b33_17.wr W
    replace Z0 := Nat.le_trans Z0 (Nat.le_of_eq W.size.symm)
    replace N := Fr.snoc X.1 N g_b33_17
    refine g_dup X at_55 (pc' := 56) rfl rfl ?_
    refine g_iconst X (2 : Int32) at_56 (pc' := 57) rfl rfl ?_
    refine g_iconst X (2 : Int32) at_57 (pc' := 58) rfl rfl ?_
    refine g_iloadN X at_58 (pc' := 59) rfl rfl ?_
    refine g_iload X at_59 (pc' := 61) rfl rfl ?_
    refine g_static X (W := 3) [(.int (2 : Int32)), (.int v8_1), (.int v21_2)] [(.int (2 : Int32)), (.ref b33_17), (.ref b33_17)] (tb hw 2 rfl) (tb hw 3 rfl) (tb hw 4 rfl) (tb hw 5 rfl) (rComp l Z aa hw [] (2 : Int32) v8_1 v21_2 _) at_61 (pc' := 64) rfl (by decide) (by decide) (by decide) rfl rfl rfl (lenOf pd_0 rfl) (Nat.le_refl _) (by decide) (by decide) ?_
    intro v T L X q
    obtain ⟨rfl, X⟩ := pureX X q
    show Go p e below _ (T.setTop (mkF m 64 #[.val (.int i0), .val (.int i1), .val (.int i2), .val (.int v8_1), .val (.int v21_2), .val (.int (1 : Int32)), .unset, .unset, .unset, .unset, .unset, .unset, .unset] [(.int (fComp (2 : Int32) v8_1 v21_2)), (.int (2 : Int32)), (.ref b33_17), (.ref b33_17)]))
    generalize ev64_20 : (fComp (2 : Int32) v8_1 v21_2) = v64_20
    refine g_iastore X V_b33_17 2 at_64 (pc' := 65) rfl (by decide) (by decide) (Nat.le_of_ble_eq_true rfl) ?_
    intro T h X W V_b33_17
    replace V_b33_17 : Av Z h b33_17 .int [(.int v44_18), (.int v54_19), (.int v64_20), (.int (0 : Int32)), (.int (0 : Int32)), (.int (0 : Int32))] := V_b33_17
    replace E_b33_17 := E_b33_17.wr W
    replace Z0 := Nat.le_trans Z0 (Nat.le_of_eq W.size.symm)
    replace N := Fr.snoc X.1 N g_b33_17
    refine g_dup X at_65 (pc' := 66) rfl rfl ?_
    refine g_iconst X (3 : Int32) at_66 (pc' := 67) rfl rfl ?_
    refine g_iconst X (3 : Int32) at_67 (pc' := 68) rfl rfl ?_
    refine g_iloadN X at_68 (pc' := 69) rfl rfl ?_
    refine g_iload X at_69 (pc' := 71) rfl rfl ?_
    refine g_static X (W := 3) [(.int (3 : Int32)), (.int v8_1), (.int v21_2)] [(.int (3 : Int32)), (.ref b33_17), (.ref b33_17)] (tb hw 2 rfl) (tb hw 3 rfl) (tb hw 4 rfl) (tb hw 5 rfl) (rComp l Z aa hw [] (3 : Int32) v8_1 v21_2 _) at_71 (pc' := 74) rfl (by decide) (by decide) (by decide) rfl rfl rfl (lenOf pd_0 rfl) (Nat.le_refl _) (by decide) (by decide) ?_
    intro v T L X q
    obtain ⟨rfl, X⟩ := pureX X q
    show Go p e below _ (T.setTop (mkF m 74 #[.val (.int i0), .val (.int i1), .val (.int i2), .val (.int v8_1), .val (.int v21_2), .val (.int (1 : Int32)), .unset, .unset, .unset, .unset, .unset, .unset, .unset] [(.int (fComp (3 : Int32) v8_1 v21_2)), (.int (3 : Int32)), (.ref b33_17), (.ref b33_17)]))
    generalize ev74_21 : (fComp (3 : Int32) v8_1 v21_2) = v74_21
    refine g_iastore X V_b33_17 3 at_74 (pc' := 75) rfl (by decide) (by decide) (Nat.le_of_ble_eq_true rfl) ?_
    intro T h X W V_b33_17
    replace V_b33_17 : Av Z h b33_17 .int [(.int v44_18), (.int v54_19), (.int v64_20), (.int v74_21), (.int (0 : Int32)), (.int (0 : Int32))] := V_b33_17
    replace E_b33_17 := E_b33_17.wr W
    replace Z0 := Nat.le_trans Z0 (Nat.le_of_eq W.size.symm)
    replace N := Fr.snoc X.1 N g_b33_17
    refine g_dup X at_75 (pc' := 76) rfl rfl ?_
    refine g_iconst X (4 : Int32) at_76 (pc' := 77) rfl rfl ?_
    refine g_iconst X (4 : Int32) at_77 (pc' := 78) rfl rfl ?_
    refine g_iloadN X at_78 (pc' := 79) rfl rfl ?_
    refine g_iload X at_79 (pc' := 81) rfl rfl ?_
    refine g_static X (W := 3) [(.int (4 : Int32)), (.int v8_1), (.int v21_2)] [(.int (4 : Int32)), (.ref b33_17), (.ref b33_17)] (tb hw 2 rfl) (tb hw 3 rfl) (tb hw 4 rfl) (tb hw 5 rfl) (rComp l Z aa hw [] (4 : Int32) v8_1 v21_2 _) at_81 (pc' := 84) rfl (by decide) (by decide) (by decide) rfl rfl rfl (lenOf pd_0 rfl) (Nat.le_refl _) (by decide) (by decide) ?_
    intro v T L X q
    obtain ⟨rfl, X⟩ := pureX X q
    show Go p e below _ (T.setTop (mkF m 84 #[.val (.int i0), .val (.int i1), .val (.int i2), .val (.int v8_1), .val (.int v21_2), .val (.int (1 : Int32)), .unset, .unset, .unset, .unset, .unset, .unset, .unset] [(.int (fComp (4 : Int32) v8_1 v21_2)), (.int (4 : Int32)), (.ref b33_17), (.ref b33_17)]))
    generalize ev84_22 : (fComp (4 : Int32) v8_1 v21_2) = v84_22
    refine g_iastore X V_b33_17 4 at_84 (pc' := 85) rfl (by decide) (by decide) (Nat.le_of_ble_eq_true rfl) ?_
    intro T h X W V_b33_17
    replace V_b33_17 : Av Z h b33_17 .int [(.int v44_18), (.int v54_19), (.int v64_20), (.int v74_21), (.int v84_22), (.int (0 : Int32))] := V_b33_17
    replace E_b33_17 := E_b33_17.wr W
    replace Z0 := Nat.le_trans Z0 (Nat.le_of_eq W.size.symm)
    replace N := Fr.snoc X.1 N g_b33_17
    refine g_dup X at_85 (pc' := 86) rfl rfl ?_
    refine g_iconst X (5 : Int32) at_86 (pc' := 87) rfl rfl ?_
    refine g_iconst X (5 : Int32) at_87 (pc' := 88) rfl rfl ?_
    refine g_iloadN X at_88 (pc' := 89) rfl rfl ?_
    refine g_iload X at_89 (pc' := 91) rfl rfl ?_
    refine g_static X (W := 3) [(.int (5 : Int32)), (.int v8_1), (.int v21_2)] [(.int (5 : Int32)), (.ref b33_17), (.ref b33_17)] (tb hw 2 rfl) (tb hw 3 rfl) (tb hw 4 rfl) (tb hw 5 rfl) (rComp l Z aa hw [] (5 : Int32) v8_1 v21_2 _) at_91 (pc' := 94) rfl (by decide) (by decide) (by decide) rfl rfl rfl (lenOf pd_0 rfl) (Nat.le_refl _) (by decide) (by decide) ?_
    intro v T L X q
    obtain ⟨rfl, X⟩ := pureX X q
    show Go p e below _ (T.setTop (mkF m 94 #[.val (.int i0), .val (.int i1), .val (.int i2), .val (.int v8_1), .val (.int v21_2), .val (.int (1 : Int32)), .unset, .unset, .unset, .unset, .unset, .unset, .unset] [(.int (fComp (5 : Int32) v8_1 v21_2)), (.int (5 : Int32)), (.ref b33_17), (.ref b33_17)]))
    generalize ev94_23 : (fComp (5 : Int32) v8_1 v21_2) = v94_23
    refine g_iastore X V_b33_17 5 at_94 (pc' := 95) rfl (by decide) (by decide) (Nat.le_of_ble_eq_true rfl) ?_
    intro T h X W V_b33_17
    replace V_b33_17 : Av Z h b33_17 .int [(.int v44_18), (.int v54_19), (.int v64_20), (.int v74_21), (.int v84_22), (.int v94_23)] := V_b33_17
    replace E_b33_17 := E_b33_17.wr W
    replace Z0 := Nat.le_trans Z0 (Nat.le_of_eq W.size.symm)
    replace N := Fr.snoc X.1 N g_b33_17
    refine g_astore X at_95 (pc' := 97) (Ls' := #[.val (.int i0), .val (.int i1), .val (.int i2), .val (.int v8_1), .val (.int v21_2), .val (.int (1 : Int32)), .val (.ref b33_17), .unset, .unset, .unset, .unset, .unset, .unset]) rfl rfl rfl ?_
    refine g_iconst X (4 : Int32) at_97 (pc' := 98) rfl rfl ?_
    refine g_newarray X 4 (tb hw 1 rfl) at_98 (pc' := 100) rfl (by decide) (by decide) 4 (by decide) (by decide) (by decide) (by decide) (vs := [(.int (0 : Int32)), (.int (0 : Int32)), (.int (0 : Int32)), (.int (0 : Int32))]) rfl (ad := "[I") (by decide) ?_
    intro T h b98_24 s_b98_24 X Ex E_b98_24 V_b98_24
    have ne_b33_17_b98_24 : b33_17 ≠ b98_24 := Nat.ne_of_lt (by rw [s_b98_24]; exact E_b33_17.lt)
    have g_b98_24 : n0 ≤ b98_24 := by rw [s_b98_24]; exact Z0
    replace E_b33_17 := E_b33_17.ext Ex
    replace V_b33_17 := V_b33_17.ext Ex
    replace Z0 := Nat.le_trans Z0 Ex.1
    refine g_dup X at_100 (pc' := 101) rfl rfl ?_
    refine g_iconst X (0 : Int32) at_101 (pc' := 102) rfl rfl ?_
    refine g_iconst X (0 : Int32) at_102 (pc' := 103) rfl rfl ?_
    refine g_iastore X V_b98_24 0 at_103 (pc' := 104) rfl (by decide) (by decide) (Nat.le_of_ble_eq_true rfl) ?_
    intro T h X W V_b98_24
    replace V_b98_24 : Av Z h b98_24 .int [(.int (0 : Int32)), (.int (0 : Int32)), (.int (0 : Int32)), (.int (0 : Int32))] := V_b98_24
    replace E_b33_17 := E_b33_17.wr W
    replace V_b33_17 := V_b33_17.other W ne_b33_17_b98_24
    replace E_b98_24 := E_b98_24.wr W
    replace Z0 := Nat.le_trans Z0 (Nat.le_of_eq W.size.symm)
    replace N := Fr.snoc X.1 N g_b98_24
    refine g_dup X at_104 (pc' := 105) rfl rfl ?_
    refine g_iconst X (1 : Int32) at_105 (pc' := 106) rfl rfl ?_
    refine g_iloadN X at_106 (pc' := 107) rfl rfl ?_
    refine g_iastore X V_b98_24 1 at_107 (pc' := 108) rfl (by decide) (by decide) (Nat.le_of_ble_eq_true rfl) ?_
    intro T h X W V_b98_24
    replace V_b98_24 : Av Z h b98_24 .int [(.int (0 : Int32)), (.int v8_1), (.int (0 : Int32)), (.int (0 : Int32))] := V_b98_24
    replace E_b33_17 := E_b33_17.wr W
    replace V_b33_17 := V_b33_17.other W ne_b33_17_b98_24
    replace E_b98_24 := E_b98_24.wr W
    replace Z0 := Nat.le_trans Z0 (Nat.le_of_eq W.size.symm)
    replace N := Fr.snoc X.1 N g_b98_24
    refine g_dup X at_108 (pc' := 109) rfl rfl ?_
    refine g_iconst X (2 : Int32) at_109 (pc' := 110) rfl rfl ?_
    refine g_iload X at_110 (pc' := 112) rfl rfl ?_
    refine g_iastore X V_b98_24 2 at_112 (pc' := 113) rfl (by decide) (by decide) (Nat.le_of_ble_eq_true rfl) ?_
    intro T h X W V_b98_24
    replace V_b98_24 : Av Z h b98_24 .int [(.int (0 : Int32)), (.int v8_1), (.int v21_2), (.int (0 : Int32))] := V_b98_24
    replace E_b33_17 := E_b33_17.wr W
    replace V_b33_17 := V_b33_17.other W ne_b33_17_b98_24
    replace E_b98_24 := E_b98_24.wr W
    replace Z0 := Nat.le_trans Z0 (Nat.le_of_eq W.size.symm)
    replace N := Fr.snoc X.1 N g_b98_24
    refine g_dup X at_113 (pc' := 114) rfl rfl ?_
    refine g_iconst X (3 : Int32) at_114 (pc' := 115) rfl rfl ?_
    refine g_bipush X (6 : Int32) at_115 (pc' := 117) rfl rfl ?_
    refine g_iastore X V_b98_24 3 at_117 (pc' := 118) rfl (by decide) (by decide) (Nat.le_of_ble_eq_true rfl) ?_
    intro T h X W V_b98_24
    replace V_b98_24 : Av Z h b98_24 .int [(.int (0 : Int32)), (.int v8_1), (.int v21_2), (.int (6 : Int32))] := V_b98_24
    replace E_b33_17 := E_b33_17.wr W
    replace V_b33_17 := V_b33_17.other W ne_b33_17_b98_24
    replace E_b98_24 := E_b98_24.wr W
    replace Z0 := Nat.le_trans Z0 (Nat.le_of_eq W.size.symm)
    replace N := Fr.snoc X.1 N g_b98_24
    refine g_astore X at_118 (pc' := 120) (Ls' := #[.val (.int i0), .val (.int i1), .val (.int i2), .val (.int v8_1), .val (.int v21_2), .val (.int (1 : Int32)), .val (.ref b33_17), .val (.ref b98_24), .unset, .unset, .unset, .unset, .unset]) rfl rfl rfl ?_
    refine g_bipush X (6 : Int32) at_120 (pc' := 122) rfl rfl ?_
    refine g_newarray X 6 (tb hw 1 rfl) at_122 (pc' := 124) rfl (by decide) (by decide) 6 (by decide) (by decide) (by decide) (by decide) (vs := [(.int (0 : Int32)), (.int (0 : Int32)), (.int (0 : Int32)), (.int (0 : Int32)), (.int (0 : Int32)), (.int (0 : Int32))]) rfl (ad := "[I") (by decide) ?_
    intro T h b122_25 s_b122_25 X Ex E_b122_25 V_b122_25
    have ne_b33_17_b122_25 : b33_17 ≠ b122_25 := Nat.ne_of_lt (by rw [s_b122_25]; exact E_b33_17.lt)
    have ne_b98_24_b122_25 : b98_24 ≠ b122_25 := Nat.ne_of_lt (by rw [s_b122_25]; exact E_b98_24.lt)
    have g_b122_25 : n0 ≤ b122_25 := by rw [s_b122_25]; exact Z0
    replace E_b33_17 := E_b33_17.ext Ex
    replace V_b33_17 := V_b33_17.ext Ex
    replace E_b98_24 := E_b98_24.ext Ex
    replace V_b98_24 := V_b98_24.ext Ex
    replace Z0 := Nat.le_trans Z0 Ex.1
    refine g_dup X at_124 (pc' := 125) rfl rfl ?_
    refine g_iconst X (0 : Int32) at_125 (pc' := 126) rfl rfl ?_
    refine g_iconst X (0 : Int32) at_126 (pc' := 127) rfl rfl ?_
    refine g_iastore X V_b122_25 0 at_127 (pc' := 128) rfl (by decide) (by decide) (Nat.le_of_ble_eq_true rfl) ?_
    intro T h X W V_b122_25
    replace V_b122_25 : Av Z h b122_25 .int [(.int (0 : Int32)), (.int (0 : Int32)), (.int (0 : Int32)), (.int (0 : Int32)), (.int (0 : Int32)), (.int (0 : Int32))] := V_b122_25
    replace E_b33_17 := E_b33_17.wr W
    replace V_b33_17 := V_b33_17.other W ne_b33_17_b122_25
    replace E_b98_24 := E_b98_24.wr W
    replace V_b98_24 := V_b98_24.other W ne_b98_24_b122_25
    replace E_b122_25 := E_b122_25.wr W
    replace Z0 := Nat.le_trans Z0 (Nat.le_of_eq W.size.symm)
    replace N := Fr.snoc X.1 N g_b122_25
    refine g_dup X at_128 (pc' := 129) rfl rfl ?_
    refine g_iconst X (1 : Int32) at_129 (pc' := 130) rfl rfl ?_
    refine g_iconst X (1 : Int32) at_130 (pc' := 131) rfl rfl ?_
    refine g_iastore X V_b122_25 1 at_131 (pc' := 132) rfl (by decide) (by decide) (Nat.le_of_ble_eq_true rfl) ?_
    intro T h X W V_b122_25
    replace V_b122_25 : Av Z h b122_25 .int [(.int (0 : Int32)), (.int (1 : Int32)), (.int (0 : Int32)), (.int (0 : Int32)), (.int (0 : Int32)), (.int (0 : Int32))] := V_b122_25
    replace E_b33_17 := E_b33_17.wr W
    replace V_b33_17 := V_b33_17.other W ne_b33_17_b122_25
    replace E_b98_24 := E_b98_24.wr W
    replace V_b98_24 := V_b98_24.other W ne_b98_24_b122_25
    replace E_b122_25 := E_b122_25.wr W
    replace Z0 := Nat.le_trans Z0 (Nat.le_of_eq W.size.symm)
    replace N := Fr.snoc X.1 N g_b122_25
    refine g_dup X at_132 (pc' := 133) rfl rfl ?_
    refine g_iconst X (2 : Int32) at_133 (pc' := 134) rfl rfl ?_
    refine g_iconst X (2 : Int32) at_134 (pc' := 135) rfl rfl ?_
    refine g_iastore X V_b122_25 2 at_135 (pc' := 136) rfl (by decide) (by decide) (Nat.le_of_ble_eq_true rfl) ?_
    intro T h X W V_b122_25
    replace V_b122_25 : Av Z h b122_25 .int [(.int (0 : Int32)), (.int (1 : Int32)), (.int (2 : Int32)), (.int (0 : Int32)), (.int (0 : Int32)), (.int (0 : Int32))] := V_b122_25
    replace E_b33_17 := E_b33_17.wr W
    replace V_b33_17 := V_b33_17.other W ne_b33_17_b122_25
    replace E_b98_24 := E_b98_24.wr W
    replace V_b98_24 := V_b98_24.other W ne_b98_24_b122_25
    replace E_b122_25 := E_b122_25.wr W
    replace Z0 := Nat.le_trans Z0 (Nat.le_of_eq W.size.symm)
    replace N := Fr.snoc X.1 N g_b122_25
    refine g_dup X at_136 (pc' := 137) rfl rfl ?_
    refine g_iconst X (3 : Int32) at_137 (pc' := 138) rfl rfl ?_
    refine g_iconst X (3 : Int32) at_138 (pc' := 139) rfl rfl ?_
    refine g_iastore X V_b122_25 3 at_139 (pc' := 140) rfl (by decide) (by decide) (Nat.le_of_ble_eq_true rfl) ?_
    intro T h X W V_b122_25
    replace V_b122_25 : Av Z h b122_25 .int [(.int (0 : Int32)), (.int (1 : Int32)), (.int (2 : Int32)), (.int (3 : Int32)), (.int (0 : Int32)), (.int (0 : Int32))] := V_b122_25
    replace E_b33_17 := E_b33_17.wr W
    replace V_b33_17 := V_b33_17.other W ne_b33_17_b122_25
    replace E_b98_24 := E_b98_24.wr W
    replace V_b98_24 := V_b98_24.other W ne_b98_24_b122_25
    replace E_b122_25 := E_b122_25.wr W
    replace Z0 := Nat.le_trans Z0 (Nat.le_of_eq W.size.symm)
    replace N := Fr.snoc X.1 N g_b122_25
    refine g_dup X at_140 (pc' := 141) rfl rfl ?_
    refine g_iconst X (4 : Int32) at_141 (pc' := 142) rfl rfl ?_
    refine g_iconst X (4 : Int32) at_142 (pc' := 143) rfl rfl ?_
    refine g_iastore X V_b122_25 4 at_143 (pc' := 144) rfl (by decide) (by decide) (Nat.le_of_ble_eq_true rfl) ?_
    intro T h X W V_b122_25
    replace V_b122_25 : Av Z h b122_25 .int [(.int (0 : Int32)), (.int (1 : Int32)), (.int (2 : Int32)), (.int (3 : Int32)), (.int (4 : Int32)), (.int (0 : Int32))] := V_b122_25
    replace E_b33_17 := E_b33_17.wr W
    replace V_b33_17 := V_b33_17.other W ne_b33_17_b122_25
    replace E_b98_24 := E_b98_24.wr W
    replace V_b98_24 := V_b98_24.other W ne_b98_24_b122_25
    replace E_b122_25 := E_b122_25.wr W
    replace Z0 := Nat.le_trans Z0 (Nat.le_of_eq W.size.symm)
    replace N := Fr.snoc X.1 N g_b122_25
    refine g_dup X at_144 (pc' := 145) rfl rfl ?_
    refine g_iconst X (5 : Int32) at_145 (pc' := 146) rfl rfl ?_
    refine g_iconst X (5 : Int32) at_146 (pc' := 147) rfl rfl ?_
    refine g_iastore X V_b122_25 5 at_147 (pc' := 148) rfl (by decide) (by decide) (Nat.le_of_ble_eq_true rfl) ?_
    intro T h X W V_b122_25
    replace V_b122_25 : Av Z h b122_25 .int [(.int (0 : Int32)), (.int (1 : Int32)), (.int (2 : Int32)), (.int (3 : Int32)), (.int (4 : Int32)), (.int (5 : Int32))] := V_b122_25
    replace E_b33_17 := E_b33_17.wr W
    replace V_b33_17 := V_b33_17.other W ne_b33_17_b122_25
    replace E_b98_24 := E_b98_24.wr W
    replace V_b98_24 := V_b98_24.other W ne_b98_24_b122_25
    replace E_b122_25 := E_b122_25.wr W
    replace Z0 := Nat.le_trans Z0 (Nat.le_of_eq W.size.symm)
    replace N := Fr.snoc X.1 N g_b122_25
    refine g_astore X at_148 (pc' := 150) (Ls' := #[.val (.int i0), .val (.int i1), .val (.int i2), .val (.int v8_1), .val (.int v21_2), .val (.int (1 : Int32)), .val (.ref b33_17), .val (.ref b98_24), .val (.ref b122_25), .unset, .unset, .unset, .unset]) rfl rfl rfl ?_
    refine g_iconst X (4 : Int32) at_150 (pc' := 151) rfl rfl ?_
    refine g_newarray X 4 (tb hw 1 rfl) at_151 (pc' := 153) rfl (by decide) (by decide) 4 (by decide) (by decide) (by decide) (by decide) (vs := [(.int (0 : Int32)), (.int (0 : Int32)), (.int (0 : Int32)), (.int (0 : Int32))]) rfl (ad := "[I") (by decide) ?_
    intro T h b151_26 s_b151_26 X Ex E_b151_26 V_b151_26
    have ne_b33_17_b151_26 : b33_17 ≠ b151_26 := Nat.ne_of_lt (by rw [s_b151_26]; exact E_b33_17.lt)
    have ne_b98_24_b151_26 : b98_24 ≠ b151_26 := Nat.ne_of_lt (by rw [s_b151_26]; exact E_b98_24.lt)
    have ne_b122_25_b151_26 : b122_25 ≠ b151_26 := Nat.ne_of_lt (by rw [s_b151_26]; exact E_b122_25.lt)
    have g_b151_26 : n0 ≤ b151_26 := by rw [s_b151_26]; exact Z0
    replace E_b33_17 := E_b33_17.ext Ex
    replace V_b33_17 := V_b33_17.ext Ex
    replace E_b98_24 := E_b98_24.ext Ex
    replace V_b98_24 := V_b98_24.ext Ex
    replace E_b122_25 := E_b122_25.ext Ex
    replace V_b122_25 := V_b122_25.ext Ex
    replace Z0 := Nat.le_trans Z0 Ex.1
    refine g_dup X at_153 (pc' := 154) rfl rfl ?_
    refine g_iconst X (0 : Int32) at_154 (pc' := 155) rfl rfl ?_
    refine g_iconst X (0 : Int32) at_155 (pc' := 156) rfl rfl ?_
    refine g_iastore X V_b151_26 0 at_156 (pc' := 157) rfl (by decide) (by decide) (Nat.le_of_ble_eq_true rfl) ?_
    intro T h X W V_b151_26
    replace V_b151_26 : Av Z h b151_26 .int [(.int (0 : Int32)), (.int (0 : Int32)), (.int (0 : Int32)), (.int (0 : Int32))] := V_b151_26
    replace E_b33_17 := E_b33_17.wr W
    replace V_b33_17 := V_b33_17.other W ne_b33_17_b151_26
    replace E_b98_24 := E_b98_24.wr W
    replace V_b98_24 := V_b98_24.other W ne_b98_24_b151_26
    replace E_b122_25 := E_b122_25.wr W
    replace V_b122_25 := V_b122_25.other W ne_b122_25_b151_26
    replace E_b151_26 := E_b151_26.wr W
    replace Z0 := Nat.le_trans Z0 (Nat.le_of_eq W.size.symm)
    replace N := Fr.snoc X.1 N g_b151_26
    refine g_dup X at_157 (pc' := 158) rfl rfl ?_
    refine g_iconst X (1 : Int32) at_158 (pc' := 159) rfl rfl ?_
    refine g_iconst X (0 : Int32) at_159 (pc' := 160) rfl rfl ?_
    refine g_iastore X V_b151_26 1 at_160 (pc' := 161) rfl (by decide) (by decide) (Nat.le_of_ble_eq_true rfl) ?_
    intro T h X W V_b151_26
    replace V_b151_26 : Av Z h b151_26 .int [(.int (0 : Int32)), (.int (0 : Int32)), (.int (0 : Int32)), (.int (0 : Int32))] := V_b151_26
    replace E_b33_17 := E_b33_17.wr W
    replace V_b33_17 := V_b33_17.other W ne_b33_17_b151_26
    replace E_b98_24 := E_b98_24.wr W
    replace V_b98_24 := V_b98_24.other W ne_b98_24_b151_26
    replace E_b122_25 := E_b122_25.wr W
    replace V_b122_25 := V_b122_25.other W ne_b122_25_b151_26
    replace E_b151_26 := E_b151_26.wr W
    replace Z0 := Nat.le_trans Z0 (Nat.le_of_eq W.size.symm)
    replace N := Fr.snoc X.1 N g_b151_26
    refine g_dup X at_161 (pc' := 162) rfl rfl ?_
    refine g_iconst X (2 : Int32) at_162 (pc' := 163) rfl rfl ?_
    refine g_iconst X (0 : Int32) at_163 (pc' := 164) rfl rfl ?_
    refine g_iastore X V_b151_26 2 at_164 (pc' := 165) rfl (by decide) (by decide) (Nat.le_of_ble_eq_true rfl) ?_
    intro T h X W V_b151_26
    replace V_b151_26 : Av Z h b151_26 .int [(.int (0 : Int32)), (.int (0 : Int32)), (.int (0 : Int32)), (.int (0 : Int32))] := V_b151_26
    replace E_b33_17 := E_b33_17.wr W
    replace V_b33_17 := V_b33_17.other W ne_b33_17_b151_26
    replace E_b98_24 := E_b98_24.wr W
    replace V_b98_24 := V_b98_24.other W ne_b98_24_b151_26
    replace E_b122_25 := E_b122_25.wr W
    replace V_b122_25 := V_b122_25.other W ne_b122_25_b151_26
    replace E_b151_26 := E_b151_26.wr W
    replace Z0 := Nat.le_trans Z0 (Nat.le_of_eq W.size.symm)
    replace N := Fr.snoc X.1 N g_b151_26
    refine g_dup X at_165 (pc' := 166) rfl rfl ?_
    refine g_iconst X (3 : Int32) at_166 (pc' := 167) rfl rfl ?_
    refine g_iconst X (0 : Int32) at_167 (pc' := 168) rfl rfl ?_
    refine g_iastore X V_b151_26 3 at_168 (pc' := 169) rfl (by decide) (by decide) (Nat.le_of_ble_eq_true rfl) ?_
    intro T h X W V_b151_26
    replace V_b151_26 : Av Z h b151_26 .int [(.int (0 : Int32)), (.int (0 : Int32)), (.int (0 : Int32)), (.int (0 : Int32))] := V_b151_26
    replace E_b33_17 := E_b33_17.wr W
    replace V_b33_17 := V_b33_17.other W ne_b33_17_b151_26
    replace E_b98_24 := E_b98_24.wr W
    replace V_b98_24 := V_b98_24.other W ne_b98_24_b151_26
    replace E_b122_25 := E_b122_25.wr W
    replace V_b122_25 := V_b122_25.other W ne_b122_25_b151_26
    replace E_b151_26 := E_b151_26.wr W
    replace Z0 := Nat.le_trans Z0 (Nat.le_of_eq W.size.symm)
    replace N := Fr.snoc X.1 N g_b151_26
    refine g_astore X at_169 (pc' := 171) (Ls' := #[.val (.int i0), .val (.int i1), .val (.int i2), .val (.int v8_1), .val (.int v21_2), .val (.int (1 : Int32)), .val (.ref b33_17), .val (.ref b98_24), .val (.ref b122_25), .val (.ref b151_26), .unset, .unset, .unset]) rfl rfl rfl ?_
    refine g_iconst X (0 : Int32) at_171 (pc' := 172) rfl rfl ?_
    refine g_newarray X 0 (tb hw 1 rfl) at_172 (pc' := 174) rfl (by decide) (by decide) 0 (by decide) (by decide) (by decide) (by decide) (vs := []) rfl (ad := "[I") (by decide) ?_
    intro T h b172_27 s_b172_27 X Ex E_b172_27 V_b172_27
    have ne_b33_17_b172_27 : b33_17 ≠ b172_27 := Nat.ne_of_lt (by rw [s_b172_27]; exact E_b33_17.lt)
    have ne_b98_24_b172_27 : b98_24 ≠ b172_27 := Nat.ne_of_lt (by rw [s_b172_27]; exact E_b98_24.lt)
    have ne_b122_25_b172_27 : b122_25 ≠ b172_27 := Nat.ne_of_lt (by rw [s_b172_27]; exact E_b122_25.lt)
    have ne_b151_26_b172_27 : b151_26 ≠ b172_27 := Nat.ne_of_lt (by rw [s_b172_27]; exact E_b151_26.lt)
    have g_b172_27 : n0 ≤ b172_27 := by rw [s_b172_27]; exact Z0
    replace E_b33_17 := E_b33_17.ext Ex
    replace V_b33_17 := V_b33_17.ext Ex
    replace E_b98_24 := E_b98_24.ext Ex
    replace V_b98_24 := V_b98_24.ext Ex
    replace E_b122_25 := E_b122_25.ext Ex
    replace V_b122_25 := V_b122_25.ext Ex
    replace E_b151_26 := E_b151_26.ext Ex
    replace V_b151_26 := V_b151_26.ext Ex
    replace Z0 := Nat.le_trans Z0 Ex.1
    refine g_astore X at_174 (pc' := 176) (Ls' := #[.val (.int i0), .val (.int i1), .val (.int i2), .val (.int v8_1), .val (.int v21_2), .val (.int (1 : Int32)), .val (.ref b33_17), .val (.ref b98_24), .val (.ref b122_25), .val (.ref b151_26), .val (.ref b172_27), .unset, .unset]) rfl rfl rfl ?_
    refine g_new X (tb hw 6 rfl) (tb hw 7 rfl) (tb hw 8 rfl) at_176 (pc' := 179) rfl (by decide) (by decide) ?_
    intro T h b176_28 s_b176_28 X Ex E_b176_28 D_b176_28
    have ne_b33_17_b176_28 : b33_17 ≠ b176_28 := Nat.ne_of_lt (by rw [s_b176_28]; exact E_b33_17.lt)
    have ne_b98_24_b176_28 : b98_24 ≠ b176_28 := Nat.ne_of_lt (by rw [s_b176_28]; exact E_b98_24.lt)
    have ne_b122_25_b176_28 : b122_25 ≠ b176_28 := Nat.ne_of_lt (by rw [s_b176_28]; exact E_b122_25.lt)
    have ne_b151_26_b176_28 : b151_26 ≠ b176_28 := Nat.ne_of_lt (by rw [s_b176_28]; exact E_b151_26.lt)
    have ne_b172_27_b176_28 : b172_27 ≠ b176_28 := Nat.ne_of_lt (by rw [s_b176_28]; exact E_b172_27.lt)
    have g_b176_28 : n0 ≤ b176_28 := by rw [s_b176_28]; exact Z0
    replace E_b33_17 := E_b33_17.ext Ex
    replace V_b33_17 := V_b33_17.ext Ex
    replace E_b98_24 := E_b98_24.ext Ex
    replace V_b98_24 := V_b98_24.ext Ex
    replace E_b122_25 := E_b122_25.ext Ex
    replace V_b122_25 := V_b122_25.ext Ex
    replace E_b151_26 := E_b151_26.ext Ex
    replace V_b151_26 := V_b151_26.ext Ex
    replace E_b172_27 := E_b172_27.ext Ex
    replace V_b172_27 := V_b172_27.ext Ex
    replace Z0 := Nat.le_trans Z0 Ex.1
    have F_b176_28_component : Fld Z h b176_28 "com/example/pathlattice/pathlattice/graph/Components" "component" "[I" .null := D_b176_28 (Or.inr (tb hw 16 rfl)) (ty := (.array .int)) (by decide)
    have F_b176_28_memberOffsets : Fld Z h b176_28 "com/example/pathlattice/pathlattice/graph/Components" "memberOffsets" "[I" .null := D_b176_28 (Or.inr (tb hw 18 rfl)) (ty := (.array .int)) (by decide)
    have F_b176_28_members : Fld Z h b176_28 "com/example/pathlattice/pathlattice/graph/Components" "members" "[I" .null := D_b176_28 (Or.inr (tb hw 20 rfl)) (ty := (.array .int)) (by decide)
    have F_b176_28_predecessorOffsets : Fld Z h b176_28 "com/example/pathlattice/pathlattice/graph/Components" "predecessorOffsets" "[I" .null := D_b176_28 (Or.inr (tb hw 22 rfl)) (ty := (.array .int)) (by decide)
    have F_b176_28_predecessors : Fld Z h b176_28 "com/example/pathlattice/pathlattice/graph/Components" "predecessors" "[I" .null := D_b176_28 (Or.inr (tb hw 24 rfl)) (ty := (.array .int)) (by decide)
    refine g_dup X at_179 (pc' := 180) rfl rfl ?_
    refine g_aload X at_180 (pc' := 182) rfl rfl rfl ?_
    refine g_aload X at_182 (pc' := 184) rfl rfl rfl ?_
    refine g_aload X at_184 (pc' := 186) rfl rfl rfl ?_
    refine g_aload X at_186 (pc' := 188) rfl rfl rfl ?_
    refine g_aload X at_188 (pc' := 190) rfl rfl rfl ?_
    refine g_special X (W := 1) (a := b176_28) [(.ref b33_17), (.ref b98_24), (.ref b122_25), (.ref b151_26), (.ref b172_27)] [(.ref b176_28)] rfl (tb hw 9 rfl) (tb hw 10 rfl) (tb hw 8 rfl) (tb hw 11 rfl) (rInit l Z aa hw [] b176_28 b33_17 b98_24 b122_25 b151_26 b172_27 _ n0 Z0 E_b176_28 F_b176_28_component F_b176_28_memberOffsets F_b176_28_members F_b176_28_predecessorOffsets F_b176_28_predecessors g_b176_28) at_190 (pc' := 193) rfl (by decide) (by decide) (by decide) rfl rfl rfl (lenOf pd_1 rfl) (Nat.le_refl _) (by decide) (by decide) ?_
    intro v T L X q
    obtain ⟨rfl, Nq, Kq, E_b176_28', F_b176_28_component', F_b176_28_memberOffsets', F_b176_28_members', F_b176_28_predecessorOffsets', F_b176_28_predecessors'⟩ := q
    replace N := N.app Nq
    replace E_b33_17 := E_b33_17.keep Kq
    replace V_b33_17 := V_b33_17.keep Kq (ninS ne_b33_17_b176_28 nin0)
    replace E_b98_24 := E_b98_24.keep Kq
    replace V_b98_24 := V_b98_24.keep Kq (ninS ne_b98_24_b176_28 nin0)
    replace E_b122_25 := E_b122_25.keep Kq
    replace V_b122_25 := V_b122_25.keep Kq (ninS ne_b122_25_b176_28 nin0)
    replace E_b151_26 := E_b151_26.keep Kq
    replace V_b151_26 := V_b151_26.keep Kq (ninS ne_b151_26_b176_28 nin0)
    replace E_b172_27 := E_b172_27.keep Kq
    replace V_b172_27 := V_b172_27.keep Kq (ninS ne_b172_27_b176_28 nin0)
    replace Z0 := Nat.le_trans Z0 Kq.1
    replace E_b176_28 := E_b176_28'
    replace F_b176_28_component := F_b176_28_component'
    replace F_b176_28_memberOffsets := F_b176_28_memberOffsets'
    replace F_b176_28_members := F_b176_28_members'
    replace F_b176_28_predecessorOffsets := F_b176_28_predecessorOffsets'
    replace F_b176_28_predecessors := F_b176_28_predecessors'
    show Go p e below _ (T.setTop (mkF m 193 #[.val (.int i0), .val (.int i1), .val (.int i2), .val (.int v8_1), .val (.int v21_2), .val (.int (1 : Int32)), .val (.ref b33_17), .val (.ref b98_24), .val (.ref b122_25), .val (.ref b151_26), .val (.ref b172_27), .unset, .unset] [(.ref b176_28)]))
    refine g_astore X at_193 (pc' := 195) (Ls' := #[.val (.int i0), .val (.int i1), .val (.int i2), .val (.int v8_1), .val (.int v21_2), .val (.int (1 : Int32)), .val (.ref b33_17), .val (.ref b98_24), .val (.ref b122_25), .val (.ref b151_26), .val (.ref b172_27), .val (.ref b176_28), .unset]) rfl rfl rfl ?_
    refine g_aload X at_195 (pc' := 197) rfl rfl rfl ?_
    refine g_iconst X (0 : Int32) at_197 (pc' := 198) rfl rfl ?_
    refine g_virtual X (W := 0) (a := b176_28) (C := "com/example/pathlattice/pathlattice/graph/Components") [(.int (0 : Int32))] [] E_b176_28 (tb hw 25 rfl) (tb hw 26 rfl) (tb hw 28 rfl) (tb hw 27 rfl) (tb hw 8 rfl) (tb hw 29 rfl) (rOf0 l Z aa hw [] b176_28 b33_17 v44_18 v54_19 v64_20 v74_21 v84_22 v94_23 _ E_b176_28 F_b176_28_component V_b33_17) at_198 (pc' := 201) rfl (by decide) (by decide) (by decide) rfl rfl rfl (lenOf pd_2 rfl) (Nat.le_refl _) (by decide) (by decide) ?_
    intro v T L X q
    obtain ⟨rfl, X⟩ := pureX X q
    show Go p e below _ (T.setTop (mkF m 201 #[.val (.int i0), .val (.int i1), .val (.int i2), .val (.int v8_1), .val (.int v21_2), .val (.int (1 : Int32)), .val (.ref b33_17), .val (.ref b98_24), .val (.ref b122_25), .val (.ref b151_26), .val (.ref b172_27), .val (.ref b176_28), .unset] [(.int (fOf0 v44_18 v54_19 v64_20 v74_21 v84_22 v94_23))]))
    refine g_iload X at_201 (pc' := 203) rfl rfl ?_
    refine g_static X (W := 0) [(.int (fOf0 v44_18 v54_19 v64_20 v74_21 v84_22 v94_23)), (.int (1 : Int32))] [] (tb hw 30 rfl) (tb hw 31 rfl) (tb hw 4 rfl) (tb hw 32 rfl) (rEq l Z aa hw [] (fOf0 v44_18 v54_19 v64_20 v74_21 v84_22 v94_23) (1 : Int32) _) at_203 (pc' := 206) rfl (by decide) (by decide) (by decide) rfl rfl rfl (lenOf pd_3 rfl) (Nat.le_refl _) (by decide) (by decide) ?_
    intro v T L X q
    obtain ⟨rfl, X⟩ := pureX X q
    show Go p e below _ (T.setTop (mkF m 206 #[.val (.int i0), .val (.int i1), .val (.int i2), .val (.int v8_1), .val (.int v21_2), .val (.int (1 : Int32)), .val (.ref b33_17), .val (.ref b98_24), .val (.ref b122_25), .val (.ref b151_26), .val (.ref b172_27), .val (.ref b176_28), .unset] [(.int (fEq (fOf0 v44_18 v54_19 v64_20 v74_21 v84_22 v94_23) (1 : Int32)))]))
    refine g_aload X at_206 (pc' := 208) rfl rfl rfl ?_
    refine g_iconst X (1 : Int32) at_208 (pc' := 209) rfl rfl ?_
    refine g_virtual X (W := 1) (a := b176_28) (C := "com/example/pathlattice/pathlattice/graph/Components") [(.int (1 : Int32))] [(.int (fEq (fOf0 v44_18 v54_19 v64_20 v74_21 v84_22 v94_23) (1 : Int32)))] E_b176_28 (tb hw 25 rfl) (tb hw 26 rfl) (tb hw 28 rfl) (tb hw 27 rfl) (tb hw 8 rfl) (tb hw 29 rfl) (rOf1 l Z aa hw [] b176_28 b33_17 v44_18 v54_19 v64_20 v74_21 v84_22 v94_23 _ E_b176_28 F_b176_28_component V_b33_17) at_209 (pc' := 212) rfl (by decide) (by decide) (by decide) rfl rfl rfl (lenOf pd_2 rfl) (Nat.le_refl _) (by decide) (by decide) ?_
    intro v T L X q
    obtain ⟨rfl, X⟩ := pureX X q
    show Go p e below _ (T.setTop (mkF m 212 #[.val (.int i0), .val (.int i1), .val (.int i2), .val (.int v8_1), .val (.int v21_2), .val (.int (1 : Int32)), .val (.ref b33_17), .val (.ref b98_24), .val (.ref b122_25), .val (.ref b151_26), .val (.ref b172_27), .val (.ref b176_28), .unset] [(.int (fOf1 v44_18 v54_19 v64_20 v74_21 v84_22 v94_23)), (.int (fEq (fOf0 v44_18 v54_19 v64_20 v74_21 v84_22 v94_23) (1 : Int32)))]))
    refine g_iload X at_212 (pc' := 214) rfl rfl ?_
    refine g_static X (W := 1) [(.int (fOf1 v44_18 v54_19 v64_20 v74_21 v84_22 v94_23)), (.int (1 : Int32))] [(.int (fEq (fOf0 v44_18 v54_19 v64_20 v74_21 v84_22 v94_23) (1 : Int32)))] (tb hw 30 rfl) (tb hw 31 rfl) (tb hw 4 rfl) (tb hw 32 rfl) (rEq l Z aa hw [] (fOf1 v44_18 v54_19 v64_20 v74_21 v84_22 v94_23) (1 : Int32) _) at_214 (pc' := 217) rfl (by decide) (by decide) (by decide) rfl rfl rfl (lenOf pd_3 rfl) (Nat.le_refl _) (by decide) (by decide) ?_
    intro v T L X q
    obtain ⟨rfl, X⟩ := pureX X q
    show Go p e below _ (T.setTop (mkF m 217 #[.val (.int i0), .val (.int i1), .val (.int i2), .val (.int v8_1), .val (.int v21_2), .val (.int (1 : Int32)), .val (.ref b33_17), .val (.ref b98_24), .val (.ref b122_25), .val (.ref b151_26), .val (.ref b172_27), .val (.ref b176_28), .unset] [(.int (fEq (fOf1 v44_18 v54_19 v64_20 v74_21 v84_22 v94_23) (1 : Int32))), (.int (fEq (fOf0 v44_18 v54_19 v64_20 v74_21 v84_22 v94_23) (1 : Int32)))]))
    refine g_iadd X at_217 (pc' := 218) rfl ?_
    refine g_aload X at_218 (pc' := 220) rfl rfl rfl ?_
    refine g_iconst X (2 : Int32) at_220 (pc' := 221) rfl rfl ?_
    refine g_virtual X (W := 1) (a := b176_28) (C := "com/example/pathlattice/pathlattice/graph/Components") [(.int (2 : Int32))] [(.int ((fEq (fOf0 v44_18 v54_19 v64_20 v74_21 v84_22 v94_23) (1 : Int32)) + (fEq (fOf1 v44_18 v54_19 v64_20 v74_21 v84_22 v94_23) (1 : Int32))))] E_b176_28 (tb hw 25 rfl) (tb hw 26 rfl) (tb hw 28 rfl) (tb hw 27 rfl) (tb hw 8 rfl) (tb hw 29 rfl) (rOf2 l Z aa hw [] b176_28 b33_17 v44_18 v54_19 v64_20 v74_21 v84_22 v94_23 _ E_b176_28 F_b176_28_component V_b33_17) at_221 (pc' := 224) rfl (by decide) (by decide) (by decide) rfl rfl rfl (lenOf pd_2 rfl) (Nat.le_refl _) (by decide) (by decide) ?_
    intro v T L X q
    obtain ⟨rfl, X⟩ := pureX X q
    show Go p e below _ (T.setTop (mkF m 224 #[.val (.int i0), .val (.int i1), .val (.int i2), .val (.int v8_1), .val (.int v21_2), .val (.int (1 : Int32)), .val (.ref b33_17), .val (.ref b98_24), .val (.ref b122_25), .val (.ref b151_26), .val (.ref b172_27), .val (.ref b176_28), .unset] [(.int (fOf2 v44_18 v54_19 v64_20 v74_21 v84_22 v94_23)), (.int ((fEq (fOf0 v44_18 v54_19 v64_20 v74_21 v84_22 v94_23) (1 : Int32)) + (fEq (fOf1 v44_18 v54_19 v64_20 v74_21 v84_22 v94_23) (1 : Int32))))]))
    refine g_iload X at_224 (pc' := 226) rfl rfl ?_
    refine g_static X (W := 1) [(.int (fOf2 v44_18 v54_19 v64_20 v74_21 v84_22 v94_23)), (.int (1 : Int32))] [(.int ((fEq (fOf0 v44_18 v54_19 v64_20 v74_21 v84_22 v94_23) (1 : Int32)) + (fEq (fOf1 v44_18 v54_19 v64_20 v74_21 v84_22 v94_23) (1 : Int32))))] (tb hw 30 rfl) (tb hw 31 rfl) (tb hw 4 rfl) (tb hw 32 rfl) (rEq l Z aa hw [] (fOf2 v44_18 v54_19 v64_20 v74_21 v84_22 v94_23) (1 : Int32) _) at_226 (pc' := 229) rfl (by decide) (by decide) (by decide) rfl rfl rfl (lenOf pd_3 rfl) (Nat.le_refl _) (by decide) (by decide) ?_
    intro v T L X q
    obtain ⟨rfl, X⟩ := pureX X q
    show Go p e below _ (T.setTop (mkF m 229 #[.val (.int i0), .val (.int i1), .val (.int i2), .val (.int v8_1), .val (.int v21_2), .val (.int (1 : Int32)), .val (.ref b33_17), .val (.ref b98_24), .val (.ref b122_25), .val (.ref b151_26), .val (.ref b172_27), .val (.ref b176_28), .unset] [(.int (fEq (fOf2 v44_18 v54_19 v64_20 v74_21 v84_22 v94_23) (1 : Int32))), (.int ((fEq (fOf0 v44_18 v54_19 v64_20 v74_21 v84_22 v94_23) (1 : Int32)) + (fEq (fOf1 v44_18 v54_19 v64_20 v74_21 v84_22 v94_23) (1 : Int32))))]))
    refine g_iadd X at_229 (pc' := 230) rfl ?_
    refine g_aload X at_230 (pc' := 232) rfl rfl rfl ?_
    refine g_iconst X (3 : Int32) at_232 (pc' := 233) rfl rfl ?_
    refine g_virtual X (W := 1) (a := b176_28) (C := "com/example/pathlattice/pathlattice/graph/Components") [(.int (3 : Int32))] [(.int (((fEq (fOf0 v44_18 v54_19 v64_20 v74_21 v84_22 v94_23) (1 : Int32)) + (fEq (fOf1 v44_18 v54_19 v64_20 v74_21 v84_22 v94_23) (1 : Int32))) + (fEq (fOf2 v44_18 v54_19 v64_20 v74_21 v84_22 v94_23) (1 : Int32))))] E_b176_28 (tb hw 25 rfl) (tb hw 26 rfl) (tb hw 28 rfl) (tb hw 27 rfl) (tb hw 8 rfl) (tb hw 29 rfl) (rOf3 l Z aa hw [] b176_28 b33_17 v44_18 v54_19 v64_20 v74_21 v84_22 v94_23 _ E_b176_28 F_b176_28_component V_b33_17) at_233 (pc' := 236) rfl (by decide) (by decide) (by decide) rfl rfl rfl (lenOf pd_2 rfl) (Nat.le_refl _) (by decide) (by decide) ?_
    intro v T L X q
    obtain ⟨rfl, X⟩ := pureX X q
    show Go p e below _ (T.setTop (mkF m 236 #[.val (.int i0), .val (.int i1), .val (.int i2), .val (.int v8_1), .val (.int v21_2), .val (.int (1 : Int32)), .val (.ref b33_17), .val (.ref b98_24), .val (.ref b122_25), .val (.ref b151_26), .val (.ref b172_27), .val (.ref b176_28), .unset] [(.int (fOf3 v44_18 v54_19 v64_20 v74_21 v84_22 v94_23)), (.int (((fEq (fOf0 v44_18 v54_19 v64_20 v74_21 v84_22 v94_23) (1 : Int32)) + (fEq (fOf1 v44_18 v54_19 v64_20 v74_21 v84_22 v94_23) (1 : Int32))) + (fEq (fOf2 v44_18 v54_19 v64_20 v74_21 v84_22 v94_23) (1 : Int32))))]))
    refine g_iload X at_236 (pc' := 238) rfl rfl ?_
    refine g_static X (W := 1) [(.int (fOf3 v44_18 v54_19 v64_20 v74_21 v84_22 v94_23)), (.int (1 : Int32))] [(.int (((fEq (fOf0 v44_18 v54_19 v64_20 v74_21 v84_22 v94_23) (1 : Int32)) + (fEq (fOf1 v44_18 v54_19 v64_20 v74_21 v84_22 v94_23) (1 : Int32))) + (fEq (fOf2 v44_18 v54_19 v64_20 v74_21 v84_22 v94_23) (1 : Int32))))] (tb hw 30 rfl) (tb hw 31 rfl) (tb hw 4 rfl) (tb hw 32 rfl) (rEq l Z aa hw [] (fOf3 v44_18 v54_19 v64_20 v74_21 v84_22 v94_23) (1 : Int32) _) at_238 (pc' := 241) rfl (by decide) (by decide) (by decide) rfl rfl rfl (lenOf pd_3 rfl) (Nat.le_refl _) (by decide) (by decide) ?_
    intro v T L X q
    obtain ⟨rfl, X⟩ := pureX X q
    show Go p e below _ (T.setTop (mkF m 241 #[.val (.int i0), .val (.int i1), .val (.int i2), .val (.int v8_1), .val (.int v21_2), .val (.int (1 : Int32)), .val (.ref b33_17), .val (.ref b98_24), .val (.ref b122_25), .val (.ref b151_26), .val (.ref b172_27), .val (.ref b176_28), .unset] [(.int (fEq (fOf3 v44_18 v54_19 v64_20 v74_21 v84_22 v94_23) (1 : Int32))), (.int (((fEq (fOf0 v44_18 v54_19 v64_20 v74_21 v84_22 v94_23) (1 : Int32)) + (fEq (fOf1 v44_18 v54_19 v64_20 v74_21 v84_22 v94_23) (1 : Int32))) + (fEq (fOf2 v44_18 v54_19 v64_20 v74_21 v84_22 v94_23) (1 : Int32))))]))
    refine g_iadd X at_241 (pc' := 242) rfl ?_
    refine g_aload X at_242 (pc' := 244) rfl rfl rfl ?_
    refine g_iconst X (4 : Int32) at_244 (pc' := 245) rfl rfl ?_
    refine g_virtual X (W := 1) (a := b176_28) (C := "com/example/pathlattice/pathlattice/graph/Components") [(.int (4 : Int32))] [(.int ((((fEq (fOf0 v44_18 v54_19 v64_20 v74_21 v84_22 v94_23) (1 : Int32)) + (fEq (fOf1 v44_18 v54_19 v64_20 v74_21 v84_22 v94_23) (1 : Int32))) + (fEq (fOf2 v44_18 v54_19 v64_20 v74_21 v84_22 v94_23) (1 : Int32))) + (fEq (fOf3 v44_18 v54_19 v64_20 v74_21 v84_22 v94_23) (1 : Int32))))] E_b176_28 (tb hw 25 rfl) (tb hw 26 rfl) (tb hw 28 rfl) (tb hw 27 rfl) (tb hw 8 rfl) (tb hw 29 rfl) (rOf4 l Z aa hw [] b176_28 b33_17 v44_18 v54_19 v64_20 v74_21 v84_22 v94_23 _ E_b176_28 F_b176_28_component V_b33_17) at_245 (pc' := 248) rfl (by decide) (by decide) (by decide) rfl rfl rfl (lenOf pd_2 rfl) (Nat.le_refl _) (by decide) (by decide) ?_
    intro v T L X q
    obtain ⟨rfl, X⟩ := pureX X q
    show Go p e below _ (T.setTop (mkF m 248 #[.val (.int i0), .val (.int i1), .val (.int i2), .val (.int v8_1), .val (.int v21_2), .val (.int (1 : Int32)), .val (.ref b33_17), .val (.ref b98_24), .val (.ref b122_25), .val (.ref b151_26), .val (.ref b172_27), .val (.ref b176_28), .unset] [(.int (fOf4 v44_18 v54_19 v64_20 v74_21 v84_22 v94_23)), (.int ((((fEq (fOf0 v44_18 v54_19 v64_20 v74_21 v84_22 v94_23) (1 : Int32)) + (fEq (fOf1 v44_18 v54_19 v64_20 v74_21 v84_22 v94_23) (1 : Int32))) + (fEq (fOf2 v44_18 v54_19 v64_20 v74_21 v84_22 v94_23) (1 : Int32))) + (fEq (fOf3 v44_18 v54_19 v64_20 v74_21 v84_22 v94_23) (1 : Int32))))]))
    refine g_iload X at_248 (pc' := 250) rfl rfl ?_
    refine g_static X (W := 1) [(.int (fOf4 v44_18 v54_19 v64_20 v74_21 v84_22 v94_23)), (.int (1 : Int32))] [(.int ((((fEq (fOf0 v44_18 v54_19 v64_20 v74_21 v84_22 v94_23) (1 : Int32)) + (fEq (fOf1 v44_18 v54_19 v64_20 v74_21 v84_22 v94_23) (1 : Int32))) + (fEq (fOf2 v44_18 v54_19 v64_20 v74_21 v84_22 v94_23) (1 : Int32))) + (fEq (fOf3 v44_18 v54_19 v64_20 v74_21 v84_22 v94_23) (1 : Int32))))] (tb hw 30 rfl) (tb hw 31 rfl) (tb hw 4 rfl) (tb hw 32 rfl) (rEq l Z aa hw [] (fOf4 v44_18 v54_19 v64_20 v74_21 v84_22 v94_23) (1 : Int32) _) at_250 (pc' := 253) rfl (by decide) (by decide) (by decide) rfl rfl rfl (lenOf pd_3 rfl) (Nat.le_refl _) (by decide) (by decide) ?_
    intro v T L X q
    obtain ⟨rfl, X⟩ := pureX X q
    show Go p e below _ (T.setTop (mkF m 253 #[.val (.int i0), .val (.int i1), .val (.int i2), .val (.int v8_1), .val (.int v21_2), .val (.int (1 : Int32)), .val (.ref b33_17), .val (.ref b98_24), .val (.ref b122_25), .val (.ref b151_26), .val (.ref b172_27), .val (.ref b176_28), .unset] [(.int (fEq (fOf4 v44_18 v54_19 v64_20 v74_21 v84_22 v94_23) (1 : Int32))), (.int ((((fEq (fOf0 v44_18 v54_19 v64_20 v74_21 v84_22 v94_23) (1 : Int32)) + (fEq (fOf1 v44_18 v54_19 v64_20 v74_21 v84_22 v94_23) (1 : Int32))) + (fEq (fOf2 v44_18 v54_19 v64_20 v74_21 v84_22 v94_23) (1 : Int32))) + (fEq (fOf3 v44_18 v54_19 v64_20 v74_21 v84_22 v94_23) (1 : Int32))))]))
    refine g_iadd X at_253 (pc' := 254) rfl ?_
    refine g_aload X at_254 (pc' := 256) rfl rfl rfl ?_
    refine g_iconst X (5 : Int32) at_256 (pc' := 257) rfl rfl ?_
    refine g_virtual X (W := 1) (a := b176_28) (C := "com/example/pathlattice/pathlattice/graph/Components") [(.int (5 : Int32))] [(.int (((((fEq (fOf0 v44_18 v54_19 v64_20 v74_21 v84_22 v94_23) (1 : Int32)) + (fEq (fOf1 v44_18 v54_19 v64_20 v74_21 v84_22 v94_23) (1 : Int32))) + (fEq (fOf2 v44_18 v54_19 v64_20 v74_21 v84_22 v94_23) (1 : Int32))) + (fEq (fOf3 v44_18 v54_19 v64_20 v74_21 v84_22 v94_23) (1 : Int32))) + (fEq (fOf4 v44_18 v54_19 v64_20 v74_21 v84_22 v94_23) (1 : Int32))))] E_b176_28 (tb hw 25 rfl) (tb hw 26 rfl) (tb hw 28 rfl) (tb hw 27 rfl) (tb hw 8 rfl) (tb hw 29 rfl) (rOf5 l Z aa hw [] b176_28 b33_17 v44_18 v54_19 v64_20 v74_21 v84_22 v94_23 _ E_b176_28 F_b176_28_component V_b33_17) at_257 (pc' := 260) rfl (by decide) (by decide) (by decide) rfl rfl rfl (lenOf pd_2 rfl) (Nat.le_refl _) (by decide) (by decide) ?_
    intro v T L X q
    obtain ⟨rfl, X⟩ := pureX X q
    show Go p e below _ (T.setTop (mkF m 260 #[.val (.int i0), .val (.int i1), .val (.int i2), .val (.int v8_1), .val (.int v21_2), .val (.int (1 : Int32)), .val (.ref b33_17), .val (.ref b98_24), .val (.ref b122_25), .val (.ref b151_26), .val (.ref b172_27), .val (.ref b176_28), .unset] [(.int (fOf5 v44_18 v54_19 v64_20 v74_21 v84_22 v94_23)), (.int (((((fEq (fOf0 v44_18 v54_19 v64_20 v74_21 v84_22 v94_23) (1 : Int32)) + (fEq (fOf1 v44_18 v54_19 v64_20 v74_21 v84_22 v94_23) (1 : Int32))) + (fEq (fOf2 v44_18 v54_19 v64_20 v74_21 v84_22 v94_23) (1 : Int32))) + (fEq (fOf3 v44_18 v54_19 v64_20 v74_21 v84_22 v94_23) (1 : Int32))) + (fEq (fOf4 v44_18 v54_19 v64_20 v74_21 v84_22 v94_23) (1 : Int32))))]))
    refine g_iload X at_260 (pc' := 262) rfl rfl ?_
    refine g_static X (W := 1) [(.int (fOf5 v44_18 v54_19 v64_20 v74_21 v84_22 v94_23)), (.int (1 : Int32))] [(.int (((((fEq (fOf0 v44_18 v54_19 v64_20 v74_21 v84_22 v94_23) (1 : Int32)) + (fEq (fOf1 v44_18 v54_19 v64_20 v74_21 v84_22 v94_23) (1 : Int32))) + (fEq (fOf2 v44_18 v54_19 v64_20 v74_21 v84_22 v94_23) (1 : Int32))) + (fEq (fOf3 v44_18 v54_19 v64_20 v74_21 v84_22 v94_23) (1 : Int32))) + (fEq (fOf4 v44_18 v54_19 v64_20 v74_21 v84_22 v94_23) (1 : Int32))))] (tb hw 30 rfl) (tb hw 31 rfl) (tb hw 4 rfl) (tb hw 32 rfl) (rEq l Z aa hw [] (fOf5 v44_18 v54_19 v64_20 v74_21 v84_22 v94_23) (1 : Int32) _) at_262 (pc' := 265) rfl (by decide) (by decide) (by decide) rfl rfl rfl (lenOf pd_3 rfl) (Nat.le_refl _) (by decide) (by decide) ?_
    intro v T L X q
    obtain ⟨rfl, X⟩ := pureX X q
    show Go p e below _ (T.setTop (mkF m 265 #[.val (.int i0), .val (.int i1), .val (.int i2), .val (.int v8_1), .val (.int v21_2), .val (.int (1 : Int32)), .val (.ref b33_17), .val (.ref b98_24), .val (.ref b122_25), .val (.ref b151_26), .val (.ref b172_27), .val (.ref b176_28), .unset] [(.int (fEq (fOf5 v44_18 v54_19 v64_20 v74_21 v84_22 v94_23) (1 : Int32))), (.int (((((fEq (fOf0 v44_18 v54_19 v64_20 v74_21 v84_22 v94_23) (1 : Int32)) + (fEq (fOf1 v44_18 v54_19 v64_20 v74_21 v84_22 v94_23) (1 : Int32))) + (fEq (fOf2 v44_18 v54_19 v64_20 v74_21 v84_22 v94_23) (1 : Int32))) + (fEq (fOf3 v44_18 v54_19 v64_20 v74_21 v84_22 v94_23) (1 : Int32))) + (fEq (fOf4 v44_18 v54_19 v64_20 v74_21 v84_22 v94_23) (1 : Int32))))]))
    refine g_iadd X at_265 (pc' := 266) rfl ?_
    generalize ev266_29 : ((((((fEq (fOf0 v44_18 v54_19 v64_20 v74_21 v84_22 v94_23) (1 : Int32)) + (fEq (fOf1 v44_18 v54_19 v64_20 v74_21 v84_22 v94_23) (1 : Int32))) + (fEq (fOf2 v44_18 v54_19 v64_20 v74_21 v84_22 v94_23) (1 : Int32))) + (fEq (fOf3 v44_18 v54_19 v64_20 v74_21 v84_22 v94_23) (1 : Int32))) + (fEq (fOf4 v44_18 v54_19 v64_20 v74_21 v84_22 v94_23) (1 : Int32))) + (fEq (fOf5 v44_18 v54_19 v64_20 v74_21 v84_22 v94_23) (1 : Int32))) = v266_29
    refine g_istore X at_266 (pc' := 268) (Ls' := #[.val (.int i0), .val (.int i1), .val (.int i2), .val (.int v8_1), .val (.int v21_2), .val (.int (1 : Int32)), .val (.ref b33_17), .val (.ref b98_24), .val (.ref b122_25), .val (.ref b151_26), .val (.ref b172_27), .val (.ref b176_28), .val (.int v266_29)]) rfl rfl ?_
    refine g_aload X at_268 (pc' := 270) rfl rfl rfl ?_
    refine g_iload X at_270 (pc' := 272) rfl rfl ?_
    refine g_virtual X (W := 0) (a := b176_28) (C := "com/example/pathlattice/pathlattice/graph/Components") [(.int (1 : Int32))] [] E_b176_28 (tb hw 33 rfl) (tb hw 34 rfl) (tb hw 36 rfl) (tb hw 35 rfl) (tb hw 8 rfl) (tb hw 37 rfl) (rSz1 l Z aa hw [] b176_28 b98_24 (0 : Int32) v8_1 v21_2 (6 : Int32) _ E_b176_28 F_b176_28_memberOffsets V_b98_24) at_272 (pc' := 275) rfl (by decide) (by decide) (by decide) rfl rfl rfl (lenOf pd_2 rfl) (Nat.le_refl _) (by decide) (by decide) ?_
    intro v T L X q
    obtain ⟨rfl, X⟩ := pureX X q
    show Go p e below _ (T.setTop (mkF m 275 #[.val (.int i0), .val (.int i1), .val (.int i2), .val (.int v8_1), .val (.int v21_2), .val (.int (1 : Int32)), .val (.ref b33_17), .val (.ref b98_24), .val (.ref b122_25), .val (.ref b151_26), .val (.ref b172_27), .val (.ref b176_28), .val (.int v266_29)] [(.int (fSz1 (0 : Int32) v8_1 v21_2 (6 : Int32)))]))
    refine g_iload X at_275 (pc' := 277) rfl rfl ?_
    refine g_icN X at_277 (teq (show (fSz1 (0 : Int32) v8_1 v21_2 (6 : Int32)) = v266_29 from (by subst_vars; exact (tally Pr).2.1.symm))).2 (pc' := 280) rfl ?_
    refine g_iconst X (1 : Int32) at_280 (pc' := 281) rfl rfl ?_
    refine g_goto X at_281 (pc' := 285) (by decide) (by decide) ?_
    refine g_ireturnN X (t := .boolean) (by simp) at_285 hret hlk (by decide) (by decide) ?_
    exact ⟨rfl, N⟩
  · subst hs
    show Go p e below _ (T.setTop (mkF m 31 #[.val (.int i0), .val (.int i1), .val (.int i2), .val (.int v8_1), .val (.int v21_2), .val (.int (2 : Int32)), .unset, .unset, .unset, .unset, .unset, .unset, .unset] []))
    refine g_bipush X (6 : Int32) at_31 (pc' := 33) rfl rfl ?_
    refine g_newarray X 6 (tb hw 1 rfl) at_33 (pc' := 35) rfl (by decide) (by decide) 6 (by decide) (by decide) (by decide) (by decide) (vs := [(.int (0 : Int32)), (.int (0 : Int32)), (.int (0 : Int32)), (.int (0 : Int32)), (.int (0 : Int32)), (.int (0 : Int32))]) rfl (ad := "[I") (by decide) ?_
    intro T h b33_30 s_b33_30 X Ex E_b33_30 V_b33_30
    have g_b33_30 : n0 ≤ b33_30 := by rw [s_b33_30]; exact Z0
    replace Z0 := Nat.le_trans Z0 Ex.1
    refine g_dup X at_35 (pc' := 36) rfl rfl ?_
    refine g_iconst X (0 : Int32) at_36 (pc' := 37) rfl rfl ?_
    refine g_iconst X (0 : Int32) at_37 (pc' := 38) rfl rfl ?_
    refine g_iloadN X at_38 (pc' := 39) rfl rfl ?_
    refine g_iload X at_39 (pc' := 41) rfl rfl ?_
    refine g_static X (W := 3) [(.int (0 : Int32)), (.int v8_1), (.int v21_2)] [(.int (0 : Int32)), (.ref b33_30), (.ref b33_30)] (tb hw 2 rfl) (tb hw 3 rfl) (tb hw 4 rfl) (tb hw 5 rfl) (rComp l Z aa hw [] (0 : Int32) v8_1 v21_2 _) at_41 (pc' := 44) rfl (by decide) (by decide) (by decide) rfl rfl rfl (lenOf pd_0 rfl) (Nat.le_refl _) (by decide) (by decide) ?_
    intro v T L X q
    obtain ⟨rfl, X⟩ := pureX X q
    show Go p e below _ (T.setTop (mkF m 44 #[.val (.int i0), .val (.int i1), .val (.int i2), .val (.int v8_1), .val (.int v21_2), .val (.int (2 : Int32)), .unset, .unset, .unset, .unset, .unset, .unset, .unset] [(.int (fComp (0 : Int32) v8_1 v21_2)), (.int (0 : Int32)), (.ref b33_30), (.ref b33_30)]))
    generalize ev44_31 : (fComp (0 : Int32) v8_1 v21_2) = v44_31
    refine g_iastore X V_b33_30 0 at_44 (pc' := 45) rfl (by decide) (by decide) (Nat.le_of_ble_eq_true rfl) ?_
    intro T h X W V_b33_30
    replace V_b33_30 : Av Z h b33_30 .int [(.int v44_31), (.int (0 : Int32)), (.int (0 : Int32)), (.int (0 : Int32)), (.int (0 : Int32)), (.int (0 : Int32))] := V_b33_30
    replace E_b33_30 := E_b33_30.wr W
    replace Z0 := Nat.le_trans Z0 (Nat.le_of_eq W.size.symm)
    replace N := Fr.snoc X.1 N g_b33_30
    refine g_dup X at_45 (pc' := 46) rfl rfl ?_
    refine g_iconst X (1 : Int32) at_46 (pc' := 47) rfl rfl ?_
    refine g_iconst X (1 : Int32) at_47 (pc' := 48) rfl rfl ?_
    refine g_iloadN X at_48 (pc' := 49) rfl rfl ?_
    refine g_iload X at_49 (pc' := 51) rfl rfl ?_
    refine g_static X (W := 3) [(.int (1 : Int32)), (.int v8_1), (.int v21_2)] [(.int (1 : Int32)), (.ref b33_30), (.ref b33_30)] (tb hw 2 rfl) (tb hw 3 rfl) (tb hw 4 rfl) (tb hw 5 rfl) (rComp l Z aa hw [] (1 : Int32) v8_1 v21_2 _) at_51 (pc' := 54) rfl (by decide) (by decide) (by decide) rfl rfl rfl (lenOf pd_0 rfl) (Nat.le_refl _) (by decide) (by decide) ?_
    intro v T L X q
    obtain ⟨rfl, X⟩ := pureX X q
    show Go p e below _ (T.setTop (mkF m 54 #[.val (.int i0), .val (.int i1), .val (.int i2), .val (.int v8_1), .val (.int v21_2), .val (.int (2 : Int32)), .unset, .unset, .unset, .unset, .unset, .unset, .unset] [(.int (fComp (1 : Int32) v8_1 v21_2)), (.int (1 : Int32)), (.ref b33_30), (.ref b33_30)]))
    generalize ev54_32 : (fComp (1 : Int32) v8_1 v21_2) = v54_32
    refine g_iastore X V_b33_30 1 at_54 (pc' := 55) rfl (by decide) (by decide) (Nat.le_of_ble_eq_true rfl) ?_
    intro T h X W V_b33_30
    replace V_b33_30 : Av Z h b33_30 .int [(.int v44_31), (.int v54_32), (.int (0 : Int32)), (.int (0 : Int32)), (.int (0 : Int32)), (.int (0 : Int32))] := V_b33_30
    replace E_b33_30 := E_b33_30.wr W
    replace Z0 := Nat.le_trans Z0 (Nat.le_of_eq W.size.symm)
    replace N := Fr.snoc X.1 N g_b33_30
    refine g_dup X at_55 (pc' := 56) rfl rfl ?_
    refine g_iconst X (2 : Int32) at_56 (pc' := 57) rfl rfl ?_
    refine g_iconst X (2 : Int32) at_57 (pc' := 58) rfl rfl ?_
    refine g_iloadN X at_58 (pc' := 59) rfl rfl ?_
    refine g_iload X at_59 (pc' := 61) rfl rfl ?_
    refine g_static X (W := 3) [(.int (2 : Int32)), (.int v8_1), (.int v21_2)] [(.int (2 : Int32)), (.ref b33_30), (.ref b33_30)] (tb hw 2 rfl) (tb hw 3 rfl) (tb hw 4 rfl) (tb hw 5 rfl) (rComp l Z aa hw [] (2 : Int32) v8_1 v21_2 _) at_61 (pc' := 64) rfl (by decide) (by decide) (by decide) rfl rfl rfl (lenOf pd_0 rfl) (Nat.le_refl _) (by decide) (by decide) ?_
    intro v T L X q
    obtain ⟨rfl, X⟩ := pureX X q
    show Go p e below _ (T.setTop (mkF m 64 #[.val (.int i0), .val (.int i1), .val (.int i2), .val (.int v8_1), .val (.int v21_2), .val (.int (2 : Int32)), .unset, .unset, .unset, .unset, .unset, .unset, .unset] [(.int (fComp (2 : Int32) v8_1 v21_2)), (.int (2 : Int32)), (.ref b33_30), (.ref b33_30)]))
    generalize ev64_33 : (fComp (2 : Int32) v8_1 v21_2) = v64_33
    refine g_iastore X V_b33_30 2 at_64 (pc' := 65) rfl (by decide) (by decide) (Nat.le_of_ble_eq_true rfl) ?_
    intro T h X W V_b33_30
    replace V_b33_30 : Av Z h b33_30 .int [(.int v44_31), (.int v54_32), (.int v64_33), (.int (0 : Int32)), (.int (0 : Int32)), (.int (0 : Int32))] := V_b33_30
    replace E_b33_30 := E_b33_30.wr W
    replace Z0 := Nat.le_trans Z0 (Nat.le_of_eq W.size.symm)
    replace N := Fr.snoc X.1 N g_b33_30
    refine g_dup X at_65 (pc' := 66) rfl rfl ?_
    refine g_iconst X (3 : Int32) at_66 (pc' := 67) rfl rfl ?_
    refine g_iconst X (3 : Int32) at_67 (pc' := 68) rfl rfl ?_
    refine g_iloadN X at_68 (pc' := 69) rfl rfl ?_
    refine g_iload X at_69 (pc' := 71) rfl rfl ?_
    refine g_static X (W := 3) [(.int (3 : Int32)), (.int v8_1), (.int v21_2)] [(.int (3 : Int32)), (.ref b33_30), (.ref b33_30)] (tb hw 2 rfl) (tb hw 3 rfl) (tb hw 4 rfl) (tb hw 5 rfl) (rComp l Z aa hw [] (3 : Int32) v8_1 v21_2 _) at_71 (pc' := 74) rfl (by decide) (by decide) (by decide) rfl rfl rfl (lenOf pd_0 rfl) (Nat.le_refl _) (by decide) (by decide) ?_
    intro v T L X q
    obtain ⟨rfl, X⟩ := pureX X q
    show Go p e below _ (T.setTop (mkF m 74 #[.val (.int i0), .val (.int i1), .val (.int i2), .val (.int v8_1), .val (.int v21_2), .val (.int (2 : Int32)), .unset, .unset, .unset, .unset, .unset, .unset, .unset] [(.int (fComp (3 : Int32) v8_1 v21_2)), (.int (3 : Int32)), (.ref b33_30), (.ref b33_30)]))
    generalize ev74_34 : (fComp (3 : Int32) v8_1 v21_2) = v74_34
    refine g_iastore X V_b33_30 3 at_74 (pc' := 75) rfl (by decide) (by decide) (Nat.le_of_ble_eq_true rfl) ?_
    intro T h X W V_b33_30
    replace V_b33_30 : Av Z h b33_30 .int [(.int v44_31), (.int v54_32), (.int v64_33), (.int v74_34), (.int (0 : Int32)), (.int (0 : Int32))] := V_b33_30
    replace E_b33_30 := E_b33_30.wr W
    replace Z0 := Nat.le_trans Z0 (Nat.le_of_eq W.size.symm)
    replace N := Fr.snoc X.1 N g_b33_30
    refine g_dup X at_75 (pc' := 76) rfl rfl ?_
    refine g_iconst X (4 : Int32) at_76 (pc' := 77) rfl rfl ?_
    refine g_iconst X (4 : Int32) at_77 (pc' := 78) rfl rfl ?_
    refine g_iloadN X at_78 (pc' := 79) rfl rfl ?_
    refine g_iload X at_79 (pc' := 81) rfl rfl ?_
    refine g_static X (W := 3) [(.int (4 : Int32)), (.int v8_1), (.int v21_2)] [(.int (4 : Int32)), (.ref b33_30), (.ref b33_30)] (tb hw 2 rfl) (tb hw 3 rfl) (tb hw 4 rfl) (tb hw 5 rfl) (rComp l Z aa hw [] (4 : Int32) v8_1 v21_2 _) at_81 (pc' := 84) rfl (by decide) (by decide) (by decide) rfl rfl rfl (lenOf pd_0 rfl) (Nat.le_refl _) (by decide) (by decide) ?_
    intro v T L X q
    obtain ⟨rfl, X⟩ := pureX X q
    show Go p e below _ (T.setTop (mkF m 84 #[.val (.int i0), .val (.int i1), .val (.int i2), .val (.int v8_1), .val (.int v21_2), .val (.int (2 : Int32)), .unset, .unset, .unset, .unset, .unset, .unset, .unset] [(.int (fComp (4 : Int32) v8_1 v21_2)), (.int (4 : Int32)), (.ref b33_30), (.ref b33_30)]))
    generalize ev84_35 : (fComp (4 : Int32) v8_1 v21_2) = v84_35
    refine g_iastore X V_b33_30 4 at_84 (pc' := 85) rfl (by decide) (by decide) (Nat.le_of_ble_eq_true rfl) ?_
    intro T h X W V_b33_30
    replace V_b33_30 : Av Z h b33_30 .int [(.int v44_31), (.int v54_32), (.int v64_33), (.int v74_34), (.int v84_35), (.int (0 : Int32))] := V_b33_30
    replace E_b33_30 := E_b33_30.wr W
    replace Z0 := Nat.le_trans Z0 (Nat.le_of_eq W.size.symm)
    replace N := Fr.snoc X.1 N g_b33_30
    refine g_dup X at_85 (pc' := 86) rfl rfl ?_
    refine g_iconst X (5 : Int32) at_86 (pc' := 87) rfl rfl ?_
    refine g_iconst X (5 : Int32) at_87 (pc' := 88) rfl rfl ?_
    refine g_iloadN X at_88 (pc' := 89) rfl rfl ?_
    refine g_iload X at_89 (pc' := 91) rfl rfl ?_
    refine g_static X (W := 3) [(.int (5 : Int32)), (.int v8_1), (.int v21_2)] [(.int (5 : Int32)), (.ref b33_30), (.ref b33_30)] (tb hw 2 rfl) (tb hw 3 rfl) (tb hw 4 rfl) (tb hw 5 rfl) (rComp l Z aa hw [] (5 : Int32) v8_1 v21_2 _) at_91 (pc' := 94) rfl (by decide) (by decide) (by decide) rfl rfl rfl (lenOf pd_0 rfl) (Nat.le_refl _) (by decide) (by decide) ?_
    intro v T L X q
    obtain ⟨rfl, X⟩ := pureX X q
    show Go p e below _ (T.setTop (mkF m 94 #[.val (.int i0), .val (.int i1), .val (.int i2), .val (.int v8_1), .val (.int v21_2), .val (.int (2 : Int32)), .unset, .unset, .unset, .unset, .unset, .unset, .unset] [(.int (fComp (5 : Int32) v8_1 v21_2)), (.int (5 : Int32)), (.ref b33_30), (.ref b33_30)]))
    generalize ev94_36 : (fComp (5 : Int32) v8_1 v21_2) = v94_36
    refine g_iastore X V_b33_30 5 at_94 (pc' := 95) rfl (by decide) (by decide) (Nat.le_of_ble_eq_true rfl) ?_
    intro T h X W V_b33_30
    replace V_b33_30 : Av Z h b33_30 .int [(.int v44_31), (.int v54_32), (.int v64_33), (.int v74_34), (.int v84_35), (.int v94_36)] := V_b33_30
    replace E_b33_30 := E_b33_30.wr W
    replace Z0 := Nat.le_trans Z0 (Nat.le_of_eq W.size.symm)
    replace N := Fr.snoc X.1 N g_b33_30
    refine g_astore X at_95 (pc' := 97) (Ls' := #[.val (.int i0), .val (.int i1), .val (.int i2), .val (.int v8_1), .val (.int v21_2), .val (.int (2 : Int32)), .val (.ref b33_30), .unset, .unset, .unset, .unset, .unset, .unset]) rfl rfl rfl ?_
    refine g_iconst X (4 : Int32) at_97 (pc' := 98) rfl rfl ?_
    refine g_newarray X 4 (tb hw 1 rfl) at_98 (pc' := 100) rfl (by decide) (by decide) 4 (by decide) (by decide) (by decide) (by decide) (vs := [(.int (0 : Int32)), (.int (0 : Int32)), (.int (0 : Int32)), (.int (0 : Int32))]) rfl (ad := "[I") (by decide) ?_
    intro T h b98_37 s_b98_37 X Ex E_b98_37 V_b98_37
    have ne_b33_30_b98_37 : b33_30 ≠ b98_37 := Nat.ne_of_lt (by rw [s_b98_37]; exact E_b33_30.lt)
    have g_b98_37 : n0 ≤ b98_37 := by rw [s_b98_37]; exact Z0
    replace E_b33_30 := E_b33_30.ext Ex
    replace V_b33_30 := V_b33_30.ext Ex
    replace Z0 := Nat.le_trans Z0 Ex.1
    refine g_dup X at_100 (pc' := 101) rfl rfl ?_
    refine g_iconst X (0 : Int32) at_101 (pc' := 102) rfl rfl ?_
    refine g_iconst X (0 : Int32) at_102 (pc' := 103) rfl rfl ?_
    refine g_iastore X V_b98_37 0 at_103 (pc' := 104) rfl (by decide) (by decide) (Nat.le_of_ble_eq_true rfl) ?_
    intro T h X W V_b98_37
    replace V_b98_37 : Av Z h b98_37 .int [(.int (0 : Int32)), (.int (0 : Int32)), (.int (0 : Int32)), (.int (0 : Int32))] := V_b98_37
    replace E_b33_30 := E_b33_30.wr W
    replace V_b33_30 := V_b33_30.other W ne_b33_30_b98_37
    replace E_b98_37 := E_b98_37.wr W
    replace Z0 := Nat.le_trans Z0 (Nat.le_of_eq W.size.symm)
    replace N := Fr.snoc X.1 N g_b98_37
    refine g_dup X at_104 (pc' := 105) rfl rfl ?_
    refine g_iconst X (1 : Int32) at_105 (pc' := 106) rfl rfl ?_
    refine g_iloadN X at_106 (pc' := 107) rfl rfl ?_
    refine g_iastore X V_b98_37 1 at_107 (pc' := 108) rfl (by decide) (by decide) (Nat.le_of_ble_eq_true rfl) ?_
    intro T h X W V_b98_37
    replace V_b98_37 : Av Z h b98_37 .int [(.int (0 : Int32)), (.int v8_1), (.int (0 : Int32)), (.int (0 : Int32))] := V_b98_37
    replace E_b33_30 := E_b33_30.wr W
    replace V_b33_30 := V_b33_30.other W ne_b33_30_b98_37
    replace E_b98_37 := E_b98_37.wr W
    replace Z0 := Nat.le_trans Z0 (Nat.le_of_eq W.size.symm)
    replace N := Fr.snoc X.1 N g_b98_37
    refine g_dup X at_108 (pc' := 109) rfl rfl ?_
    refine g_iconst X (2 : Int32) at_109 (pc' := 110) rfl rfl ?_
    refine g_iload X at_110 (pc' := 112) rfl rfl ?_
    refine g_iastore X V_b98_37 2 at_112 (pc' := 113) rfl (by decide) (by decide) (Nat.le_of_ble_eq_true rfl) ?_
    intro T h X W V_b98_37
    replace V_b98_37 : Av Z h b98_37 .int [(.int (0 : Int32)), (.int v8_1), (.int v21_2), (.int (0 : Int32))] := V_b98_37
    replace E_b33_30 := E_b33_30.wr W
    replace V_b33_30 := V_b33_30.other W ne_b33_30_b98_37
    replace E_b98_37 := E_b98_37.wr W
    replace Z0 := Nat.le_trans Z0 (Nat.le_of_eq W.size.symm)
    replace N := Fr.snoc X.1 N g_b98_37
    refine g_dup X at_113 (pc' := 114) rfl rfl ?_
    refine g_iconst X (3 : Int32) at_114 (pc' := 115) rfl rfl ?_
    refine g_bipush X (6 : Int32) at_115 (pc' := 117) rfl rfl ?_
    refine g_iastore X V_b98_37 3 at_117 (pc' := 118) rfl (by decide) (by decide) (Nat.le_of_ble_eq_true rfl) ?_
    intro T h X W V_b98_37
    replace V_b98_37 : Av Z h b98_37 .int [(.int (0 : Int32)), (.int v8_1), (.int v21_2), (.int (6 : Int32))] := V_b98_37
    replace E_b33_30 := E_b33_30.wr W
    replace V_b33_30 := V_b33_30.other W ne_b33_30_b98_37
    replace E_b98_37 := E_b98_37.wr W
    replace Z0 := Nat.le_trans Z0 (Nat.le_of_eq W.size.symm)
    replace N := Fr.snoc X.1 N g_b98_37
    refine g_astore X at_118 (pc' := 120) (Ls' := #[.val (.int i0), .val (.int i1), .val (.int i2), .val (.int v8_1), .val (.int v21_2), .val (.int (2 : Int32)), .val (.ref b33_30), .val (.ref b98_37), .unset, .unset, .unset, .unset, .unset]) rfl rfl rfl ?_
    refine g_bipush X (6 : Int32) at_120 (pc' := 122) rfl rfl ?_
    refine g_newarray X 6 (tb hw 1 rfl) at_122 (pc' := 124) rfl (by decide) (by decide) 6 (by decide) (by decide) (by decide) (by decide) (vs := [(.int (0 : Int32)), (.int (0 : Int32)), (.int (0 : Int32)), (.int (0 : Int32)), (.int (0 : Int32)), (.int (0 : Int32))]) rfl (ad := "[I") (by decide) ?_
    intro T h b122_38 s_b122_38 X Ex E_b122_38 V_b122_38
    have ne_b33_30_b122_38 : b33_30 ≠ b122_38 := Nat.ne_of_lt (by rw [s_b122_38]; exact E_b33_30.lt)
    have ne_b98_37_b122_38 : b98_37 ≠ b122_38 := Nat.ne_of_lt (by rw [s_b122_38]; exact E_b98_37.lt)
    have g_b122_38 : n0 ≤ b122_38 := by rw [s_b122_38]; exact Z0
    replace E_b33_30 := E_b33_30.ext Ex
    replace V_b33_30 := V_b33_30.ext Ex
    replace E_b98_37 := E_b98_37.ext Ex
    replace V_b98_37 := V_b98_37.ext Ex
    replace Z0 := Nat.le_trans Z0 Ex.1
    refine g_dup X at_124 (pc' := 125) rfl rfl ?_
    refine g_iconst X (0 : Int32) at_125 (pc' := 126) rfl rfl ?_
    refine g_iconst X (0 : Int32) at_126 (pc' := 127) rfl rfl ?_
    refine g_iastore X V_b122_38 0 at_127 (pc' := 128) rfl (by decide) (by decide) (Nat.le_of_ble_eq_true rfl) ?_
    intro T h X W V_b122_38
    replace V_b122_38 : Av Z h b122_38 .int [(.int (0 : Int32)), (.int (0 : Int32)), (.int (0 : Int32)), (.int (0 : Int32)), (.int (0 : Int32)), (.int (0 : Int32))] := V_b122_38
    replace E_b33_30 := E_b33_30.wr W
    replace V_b33_30 := V_b33_30.other W ne_b33_30_b122_38
    replace E_b98_37 := E_b98_37.wr W
    replace V_b98_37 := V_b98_37.other W ne_b98_37_b122_38
    replace E_b122_38 := E_b122_38.wr W
    replace Z0 := Nat.le_trans Z0 (Nat.le_of_eq W.size.symm)
    replace N := Fr.snoc X.1 N g_b122_38
    refine g_dup X at_128 (pc' := 129) rfl rfl ?_
    refine g_iconst X (1 : Int32) at_129 (pc' := 130) rfl rfl ?_
    refine g_iconst X (1 : Int32) at_130 (pc' := 131) rfl rfl ?_
    refine g_iastore X V_b122_38 1 at_131 (pc' := 132) rfl (by decide) (by decide) (Nat.le_of_ble_eq_true rfl) ?_
    intro T h X W V_b122_38
    replace V_b122_38 : Av Z h b122_38 .int [(.int (0 : Int32)), (.int (1 : Int32)), (.int (0 : Int32)), (.int (0 : Int32)), (.int (0 : Int32)), (.int (0 : Int32))] := V_b122_38
    replace E_b33_30 := E_b33_30.wr W
    replace V_b33_30 := V_b33_30.other W ne_b33_30_b122_38
    replace E_b98_37 := E_b98_37.wr W
    replace V_b98_37 := V_b98_37.other W ne_b98_37_b122_38
    replace E_b122_38 := E_b122_38.wr W
    replace Z0 := Nat.le_trans Z0 (Nat.le_of_eq W.size.symm)
    replace N := Fr.snoc X.1 N g_b122_38
    refine g_dup X at_132 (pc' := 133) rfl rfl ?_
    refine g_iconst X (2 : Int32) at_133 (pc' := 134) rfl rfl ?_
    refine g_iconst X (2 : Int32) at_134 (pc' := 135) rfl rfl ?_
    refine g_iastore X V_b122_38 2 at_135 (pc' := 136) rfl (by decide) (by decide) (Nat.le_of_ble_eq_true rfl) ?_
    intro T h X W V_b122_38
    replace V_b122_38 : Av Z h b122_38 .int [(.int (0 : Int32)), (.int (1 : Int32)), (.int (2 : Int32)), (.int (0 : Int32)), (.int (0 : Int32)), (.int (0 : Int32))] := V_b122_38
    replace E_b33_30 := E_b33_30.wr W
    replace V_b33_30 := V_b33_30.other W ne_b33_30_b122_38
    replace E_b98_37 := E_b98_37.wr W
    replace V_b98_37 := V_b98_37.other W ne_b98_37_b122_38
    replace E_b122_38 := E_b122_38.wr W
    replace Z0 := Nat.le_trans Z0 (Nat.le_of_eq W.size.symm)
    replace N := Fr.snoc X.1 N g_b122_38
    refine g_dup X at_136 (pc' := 137) rfl rfl ?_
    refine g_iconst X (3 : Int32) at_137 (pc' := 138) rfl rfl ?_
    refine g_iconst X (3 : Int32) at_138 (pc' := 139) rfl rfl ?_
    refine g_iastore X V_b122_38 3 at_139 (pc' := 140) rfl (by decide) (by decide) (Nat.le_of_ble_eq_true rfl) ?_
    intro T h X W V_b122_38
    replace V_b122_38 : Av Z h b122_38 .int [(.int (0 : Int32)), (.int (1 : Int32)), (.int (2 : Int32)), (.int (3 : Int32)), (.int (0 : Int32)), (.int (0 : Int32))] := V_b122_38
    replace E_b33_30 := E_b33_30.wr W
    replace V_b33_30 := V_b33_30.other W ne_b33_30_b122_38
    replace E_b98_37 := E_b98_37.wr W
    replace V_b98_37 := V_b98_37.other W ne_b98_37_b122_38
    replace E_b122_38 := E_b122_38.wr W
    replace Z0 := Nat.le_trans Z0 (Nat.le_of_eq W.size.symm)
    replace N := Fr.snoc X.1 N g_b122_38
    refine g_dup X at_140 (pc' := 141) rfl rfl ?_
    refine g_iconst X (4 : Int32) at_141 (pc' := 142) rfl rfl ?_
    refine g_iconst X (4 : Int32) at_142 (pc' := 143) rfl rfl ?_
    refine g_iastore X V_b122_38 4 at_143 (pc' := 144) rfl (by decide) (by decide) (Nat.le_of_ble_eq_true rfl) ?_
    intro T h X W V_b122_38
    replace V_b122_38 : Av Z h b122_38 .int [(.int (0 : Int32)), (.int (1 : Int32)), (.int (2 : Int32)), (.int (3 : Int32)), (.int (4 : Int32)), (.int (0 : Int32))] := V_b122_38
    replace E_b33_30 := E_b33_30.wr W
    replace V_b33_30 := V_b33_30.other W ne_b33_30_b122_38
    replace E_b98_37 := E_b98_37.wr W
    replace V_b98_37 := V_b98_37.other W ne_b98_37_b122_38
    replace E_b122_38 := E_b122_38.wr W
    replace Z0 := Nat.le_trans Z0 (Nat.le_of_eq W.size.symm)
    replace N := Fr.snoc X.1 N g_b122_38
    refine g_dup X at_144 (pc' := 145) rfl rfl ?_
    refine g_iconst X (5 : Int32) at_145 (pc' := 146) rfl rfl ?_
    refine g_iconst X (5 : Int32) at_146 (pc' := 147) rfl rfl ?_
    refine g_iastore X V_b122_38 5 at_147 (pc' := 148) rfl (by decide) (by decide) (Nat.le_of_ble_eq_true rfl) ?_
    intro T h X W V_b122_38
    replace V_b122_38 : Av Z h b122_38 .int [(.int (0 : Int32)), (.int (1 : Int32)), (.int (2 : Int32)), (.int (3 : Int32)), (.int (4 : Int32)), (.int (5 : Int32))] := V_b122_38
    replace E_b33_30 := E_b33_30.wr W
    replace V_b33_30 := V_b33_30.other W ne_b33_30_b122_38
    replace E_b98_37 := E_b98_37.wr W
    replace V_b98_37 := V_b98_37.other W ne_b98_37_b122_38
    replace E_b122_38 := E_b122_38.wr W
    replace Z0 := Nat.le_trans Z0 (Nat.le_of_eq W.size.symm)
    replace N := Fr.snoc X.1 N g_b122_38
    refine g_astore X at_148 (pc' := 150) (Ls' := #[.val (.int i0), .val (.int i1), .val (.int i2), .val (.int v8_1), .val (.int v21_2), .val (.int (2 : Int32)), .val (.ref b33_30), .val (.ref b98_37), .val (.ref b122_38), .unset, .unset, .unset, .unset]) rfl rfl rfl ?_
    refine g_iconst X (4 : Int32) at_150 (pc' := 151) rfl rfl ?_
    refine g_newarray X 4 (tb hw 1 rfl) at_151 (pc' := 153) rfl (by decide) (by decide) 4 (by decide) (by decide) (by decide) (by decide) (vs := [(.int (0 : Int32)), (.int (0 : Int32)), (.int (0 : Int32)), (.int (0 : Int32))]) rfl (ad := "[I") (by decide) ?_
    intro T h b151_39 s_b151_39 X Ex E_b151_39 V_b151_39
    have ne_b33_30_b151_39 : b33_30 ≠ b151_39 := Nat.ne_of_lt (by rw [s_b151_39]; exact E_b33_30.lt)
    have ne_b98_37_b151_39 : b98_37 ≠ b151_39 := Nat.ne_of_lt (by rw [s_b151_39]; exact E_b98_37.lt)
    have ne_b122_38_b151_39 : b122_38 ≠ b151_39 := Nat.ne_of_lt (by rw [s_b151_39]; exact E_b122_38.lt)
    have g_b151_39 : n0 ≤ b151_39 := by rw [s_b151_39]; exact Z0
    replace E_b33_30 := E_b33_30.ext Ex
    replace V_b33_30 := V_b33_30.ext Ex
    replace E_b98_37 := E_b98_37.ext Ex
    replace V_b98_37 := V_b98_37.ext Ex
    replace E_b122_38 := E_b122_38.ext Ex
    replace V_b122_38 := V_b122_38.ext Ex
    replace Z0 := Nat.le_trans Z0 Ex.1
    refine g_dup X at_153 (pc' := 154) rfl rfl ?_
    refine g_iconst X (0 : Int32) at_154 (pc' := 155) rfl rfl ?_
    refine g_iconst X (0 : Int32) at_155 (pc' := 156) rfl rfl ?_
    refine g_iastore X V_b151_39 0 at_156 (pc' := 157) rfl (by decide) (by decide) (Nat.le_of_ble_eq_true rfl) ?_
    intro T h X W V_b151_39
    replace V_b151_39 : Av Z h b151_39 .int [(.int (0 : Int32)), (.int (0 : Int32)), (.int (0 : Int32)), (.int (0 : Int32))] := V_b151_39
    replace E_b33_30 := E_b33_30.wr W
    replace V_b33_30 := V_b33_30.other W ne_b33_30_b151_39
    replace E_b98_37 := E_b98_37.wr W
    replace V_b98_37 := V_b98_37.other W ne_b98_37_b151_39
    replace E_b122_38 := E_b122_38.wr W
    replace V_b122_38 := V_b122_38.other W ne_b122_38_b151_39
    replace E_b151_39 := E_b151_39.wr W
    replace Z0 := Nat.le_trans Z0 (Nat.le_of_eq W.size.symm)
    replace N := Fr.snoc X.1 N g_b151_39
    refine g_dup X at_157 (pc' := 158) rfl rfl ?_
    refine g_iconst X (1 : Int32) at_158 (pc' := 159) rfl rfl ?_
    refine g_iconst X (0 : Int32) at_159 (pc' := 160) rfl rfl ?_
    refine g_iastore X V_b151_39 1 at_160 (pc' := 161) rfl (by decide) (by decide) (Nat.le_of_ble_eq_true rfl) ?_
    intro T h X W V_b151_39
    replace V_b151_39 : Av Z h b151_39 .int [(.int (0 : Int32)), (.int (0 : Int32)), (.int (0 : Int32)), (.int (0 : Int32))] := V_b151_39
    replace E_b33_30 := E_b33_30.wr W
    replace V_b33_30 := V_b33_30.other W ne_b33_30_b151_39
    replace E_b98_37 := E_b98_37.wr W
    replace V_b98_37 := V_b98_37.other W ne_b98_37_b151_39
    replace E_b122_38 := E_b122_38.wr W
    replace V_b122_38 := V_b122_38.other W ne_b122_38_b151_39
    replace E_b151_39 := E_b151_39.wr W
    replace Z0 := Nat.le_trans Z0 (Nat.le_of_eq W.size.symm)
    replace N := Fr.snoc X.1 N g_b151_39
    refine g_dup X at_161 (pc' := 162) rfl rfl ?_
    refine g_iconst X (2 : Int32) at_162 (pc' := 163) rfl rfl ?_
    refine g_iconst X (0 : Int32) at_163 (pc' := 164) rfl rfl ?_
    refine g_iastore X V_b151_39 2 at_164 (pc' := 165) rfl (by decide) (by decide) (Nat.le_of_ble_eq_true rfl) ?_
    intro T h X W V_b151_39
    replace V_b151_39 : Av Z h b151_39 .int [(.int (0 : Int32)), (.int (0 : Int32)), (.int (0 : Int32)), (.int (0 : Int32))] := V_b151_39
    replace E_b33_30 := E_b33_30.wr W
    replace V_b33_30 := V_b33_30.other W ne_b33_30_b151_39
    replace E_b98_37 := E_b98_37.wr W
    replace V_b98_37 := V_b98_37.other W ne_b98_37_b151_39
    replace E_b122_38 := E_b122_38.wr W
    replace V_b122_38 := V_b122_38.other W ne_b122_38_b151_39
    replace E_b151_39 := E_b151_39.wr W
    replace Z0 := Nat.le_trans Z0 (Nat.le_of_eq W.size.symm)
    replace N := Fr.snoc X.1 N g_b151_39
    refine g_dup X at_165 (pc' := 166) rfl rfl ?_
    refine g_iconst X (3 : Int32) at_166 (pc' := 167) rfl rfl ?_
    refine g_iconst X (0 : Int32) at_167 (pc' := 168) rfl rfl ?_
    refine g_iastore X V_b151_39 3 at_168 (pc' := 169) rfl (by decide) (by decide) (Nat.le_of_ble_eq_true rfl) ?_
    intro T h X W V_b151_39
    replace V_b151_39 : Av Z h b151_39 .int [(.int (0 : Int32)), (.int (0 : Int32)), (.int (0 : Int32)), (.int (0 : Int32))] := V_b151_39
    replace E_b33_30 := E_b33_30.wr W
    replace V_b33_30 := V_b33_30.other W ne_b33_30_b151_39
    replace E_b98_37 := E_b98_37.wr W
    replace V_b98_37 := V_b98_37.other W ne_b98_37_b151_39
    replace E_b122_38 := E_b122_38.wr W
    replace V_b122_38 := V_b122_38.other W ne_b122_38_b151_39
    replace E_b151_39 := E_b151_39.wr W
    replace Z0 := Nat.le_trans Z0 (Nat.le_of_eq W.size.symm)
    replace N := Fr.snoc X.1 N g_b151_39
    refine g_astore X at_169 (pc' := 171) (Ls' := #[.val (.int i0), .val (.int i1), .val (.int i2), .val (.int v8_1), .val (.int v21_2), .val (.int (2 : Int32)), .val (.ref b33_30), .val (.ref b98_37), .val (.ref b122_38), .val (.ref b151_39), .unset, .unset, .unset]) rfl rfl rfl ?_
    refine g_iconst X (0 : Int32) at_171 (pc' := 172) rfl rfl ?_
    refine g_newarray X 0 (tb hw 1 rfl) at_172 (pc' := 174) rfl (by decide) (by decide) 0 (by decide) (by decide) (by decide) (by decide) (vs := []) rfl (ad := "[I") (by decide) ?_
    intro T h b172_40 s_b172_40 X Ex E_b172_40 V_b172_40
    have ne_b33_30_b172_40 : b33_30 ≠ b172_40 := Nat.ne_of_lt (by rw [s_b172_40]; exact E_b33_30.lt)
    have ne_b98_37_b172_40 : b98_37 ≠ b172_40 := Nat.ne_of_lt (by rw [s_b172_40]; exact E_b98_37.lt)
    have ne_b122_38_b172_40 : b122_38 ≠ b172_40 := Nat.ne_of_lt (by rw [s_b172_40]; exact E_b122_38.lt)
    have ne_b151_39_b172_40 : b151_39 ≠ b172_40 := Nat.ne_of_lt (by rw [s_b172_40]; exact E_b151_39.lt)
    have g_b172_40 : n0 ≤ b172_40 := by rw [s_b172_40]; exact Z0
    replace E_b33_30 := E_b33_30.ext Ex
    replace V_b33_30 := V_b33_30.ext Ex
    replace E_b98_37 := E_b98_37.ext Ex
    replace V_b98_37 := V_b98_37.ext Ex
    replace E_b122_38 := E_b122_38.ext Ex
    replace V_b122_38 := V_b122_38.ext Ex
    replace E_b151_39 := E_b151_39.ext Ex
    replace V_b151_39 := V_b151_39.ext Ex
    replace Z0 := Nat.le_trans Z0 Ex.1
    refine g_astore X at_174 (pc' := 176) (Ls' := #[.val (.int i0), .val (.int i1), .val (.int i2), .val (.int v8_1), .val (.int v21_2), .val (.int (2 : Int32)), .val (.ref b33_30), .val (.ref b98_37), .val (.ref b122_38), .val (.ref b151_39), .val (.ref b172_40), .unset, .unset]) rfl rfl rfl ?_
    refine g_new X (tb hw 6 rfl) (tb hw 7 rfl) (tb hw 8 rfl) at_176 (pc' := 179) rfl (by decide) (by decide) ?_
    intro T h b176_41 s_b176_41 X Ex E_b176_41 D_b176_41
    have ne_b33_30_b176_41 : b33_30 ≠ b176_41 := Nat.ne_of_lt (by rw [s_b176_41]; exact E_b33_30.lt)
    have ne_b98_37_b176_41 : b98_37 ≠ b176_41 := Nat.ne_of_lt (by rw [s_b176_41]; exact E_b98_37.lt)
    have ne_b122_38_b176_41 : b122_38 ≠ b176_41 := Nat.ne_of_lt (by rw [s_b176_41]; exact E_b122_38.lt)
    have ne_b151_39_b176_41 : b151_39 ≠ b176_41 := Nat.ne_of_lt (by rw [s_b176_41]; exact E_b151_39.lt)
    have ne_b172_40_b176_41 : b172_40 ≠ b176_41 := Nat.ne_of_lt (by rw [s_b176_41]; exact E_b172_40.lt)
    have g_b176_41 : n0 ≤ b176_41 := by rw [s_b176_41]; exact Z0
    replace E_b33_30 := E_b33_30.ext Ex
    replace V_b33_30 := V_b33_30.ext Ex
    replace E_b98_37 := E_b98_37.ext Ex
    replace V_b98_37 := V_b98_37.ext Ex
    replace E_b122_38 := E_b122_38.ext Ex
    replace V_b122_38 := V_b122_38.ext Ex
    replace E_b151_39 := E_b151_39.ext Ex
    replace V_b151_39 := V_b151_39.ext Ex
    replace E_b172_40 := E_b172_40.ext Ex
    replace V_b172_40 := V_b172_40.ext Ex
    replace Z0 := Nat.le_trans Z0 Ex.1
    have F_b176_41_component : Fld Z h b176_41 "com/example/pathlattice/pathlattice/graph/Components" "component" "[I" .null := D_b176_41 (Or.inr (tb hw 16 rfl)) (ty := (.array .int)) (by decide)
    have F_b176_41_memberOffsets : Fld Z h b176_41 "com/example/pathlattice/pathlattice/graph/Components" "memberOffsets" "[I" .null := D_b176_41 (Or.inr (tb hw 18 rfl)) (ty := (.array .int)) (by decide)
    have F_b176_41_members : Fld Z h b176_41 "com/example/pathlattice/pathlattice/graph/Components" "members" "[I" .null := D_b176_41 (Or.inr (tb hw 20 rfl)) (ty := (.array .int)) (by decide)
    have F_b176_41_predecessorOffsets : Fld Z h b176_41 "com/example/pathlattice/pathlattice/graph/Components" "predecessorOffsets" "[I" .null := D_b176_41 (Or.inr (tb hw 22 rfl)) (ty := (.array .int)) (by decide)
    have F_b176_41_predecessors : Fld Z h b176_41 "com/example/pathlattice/pathlattice/graph/Components" "predecessors" "[I" .null := D_b176_41 (Or.inr (tb hw 24 rfl)) (ty := (.array .int)) (by decide)
    refine g_dup X at_179 (pc' := 180) rfl rfl ?_
    refine g_aload X at_180 (pc' := 182) rfl rfl rfl ?_
    refine g_aload X at_182 (pc' := 184) rfl rfl rfl ?_
    refine g_aload X at_184 (pc' := 186) rfl rfl rfl ?_
    refine g_aload X at_186 (pc' := 188) rfl rfl rfl ?_
    refine g_aload X at_188 (pc' := 190) rfl rfl rfl ?_
    refine g_special X (W := 1) (a := b176_41) [(.ref b33_30), (.ref b98_37), (.ref b122_38), (.ref b151_39), (.ref b172_40)] [(.ref b176_41)] rfl (tb hw 9 rfl) (tb hw 10 rfl) (tb hw 8 rfl) (tb hw 11 rfl) (rInit l Z aa hw [] b176_41 b33_30 b98_37 b122_38 b151_39 b172_40 _ n0 Z0 E_b176_41 F_b176_41_component F_b176_41_memberOffsets F_b176_41_members F_b176_41_predecessorOffsets F_b176_41_predecessors g_b176_41) at_190 (pc' := 193) rfl (by decide) (by decide) (by decide) rfl rfl rfl (lenOf pd_1 rfl) (Nat.le_refl _) (by decide) (by decide) ?_
    intro v T L X q
    obtain ⟨rfl, Nq, Kq, E_b176_41', F_b176_41_component', F_b176_41_memberOffsets', F_b176_41_members', F_b176_41_predecessorOffsets', F_b176_41_predecessors'⟩ := q
    replace N := N.app Nq
    replace E_b33_30 := E_b33_30.keep Kq
    replace V_b33_30 := V_b33_30.keep Kq (ninS ne_b33_30_b176_41 nin0)
    replace E_b98_37 := E_b98_37.keep Kq
    replace V_b98_37 := V_b98_37.keep Kq (ninS ne_b98_37_b176_41 nin0)
    replace E_b122_38 := E_b122_38.keep Kq
    replace V_b122_38 := V_b122_38.keep Kq (ninS ne_b122_38_b176_41 nin0)
    replace E_b151_39 := E_b151_39.keep Kq
    replace V_b151_39 := V_b151_39.keep Kq (ninS ne_b151_39_b176_41 nin0)
    replace E_b172_40 := E_b172_40.keep Kq
    replace V_b172_40 := V_b172_40.keep Kq (ninS ne_b172_40_b176_41 nin0)
    replace Z0 := Nat.le_trans Z0 Kq.1
    replace E_b176_41 := E_b176_41'
    replace F_b176_41_component := F_b176_41_component'
    replace F_b176_41_memberOffsets := F_b176_41_memberOffsets'
    replace F_b176_41_members := F_b176_41_members'
    replace F_b176_41_predecessorOffsets := F_b176_41_predecessorOffsets'
    replace F_b176_41_predecessors := F_b176_41_predecessors'
    show Go p e below _ (T.setTop (mkF m 193 #[.val (.int i0), .val (.int i1), .val (.int i2), .val (.int v8_1), .val (.int v21_2), .val (.int (2 : Int32)), .val (.ref b33_30), .val (.ref b98_37), .val (.ref b122_38), .val (.ref b151_39), .val (.ref b172_40), .unset, .unset] [(.ref b176_41)]))
    refine g_astore X at_193 (pc' := 195) (Ls' := #[.val (.int i0), .val (.int i1), .val (.int i2), .val (.int v8_1), .val (.int v21_2), .val (.int (2 : Int32)), .val (.ref b33_30), .val (.ref b98_37), .val (.ref b122_38), .val (.ref b151_39), .val (.ref b172_40), .val (.ref b176_41), .unset]) rfl rfl rfl ?_
    refine g_aload X at_195 (pc' := 197) rfl rfl rfl ?_
    refine g_iconst X (0 : Int32) at_197 (pc' := 198) rfl rfl ?_
    refine g_virtual X (W := 0) (a := b176_41) (C := "com/example/pathlattice/pathlattice/graph/Components") [(.int (0 : Int32))] [] E_b176_41 (tb hw 25 rfl) (tb hw 26 rfl) (tb hw 28 rfl) (tb hw 27 rfl) (tb hw 8 rfl) (tb hw 29 rfl) (rOf0 l Z aa hw [] b176_41 b33_30 v44_31 v54_32 v64_33 v74_34 v84_35 v94_36 _ E_b176_41 F_b176_41_component V_b33_30) at_198 (pc' := 201) rfl (by decide) (by decide) (by decide) rfl rfl rfl (lenOf pd_2 rfl) (Nat.le_refl _) (by decide) (by decide) ?_
    intro v T L X q
    obtain ⟨rfl, X⟩ := pureX X q
    show Go p e below _ (T.setTop (mkF m 201 #[.val (.int i0), .val (.int i1), .val (.int i2), .val (.int v8_1), .val (.int v21_2), .val (.int (2 : Int32)), .val (.ref b33_30), .val (.ref b98_37), .val (.ref b122_38), .val (.ref b151_39), .val (.ref b172_40), .val (.ref b176_41), .unset] [(.int (fOf0 v44_31 v54_32 v64_33 v74_34 v84_35 v94_36))]))
    refine g_iload X at_201 (pc' := 203) rfl rfl ?_
    refine g_static X (W := 0) [(.int (fOf0 v44_31 v54_32 v64_33 v74_34 v84_35 v94_36)), (.int (2 : Int32))] [] (tb hw 30 rfl) (tb hw 31 rfl) (tb hw 4 rfl) (tb hw 32 rfl) (rEq l Z aa hw [] (fOf0 v44_31 v54_32 v64_33 v74_34 v84_35 v94_36) (2 : Int32) _) at_203 (pc' := 206) rfl (by decide) (by decide) (by decide) rfl rfl rfl (lenOf pd_3 rfl) (Nat.le_refl _) (by decide) (by decide) ?_
    intro v T L X q
    obtain ⟨rfl, X⟩ := pureX X q
    show Go p e below _ (T.setTop (mkF m 206 #[.val (.int i0), .val (.int i1), .val (.int i2), .val (.int v8_1), .val (.int v21_2), .val (.int (2 : Int32)), .val (.ref b33_30), .val (.ref b98_37), .val (.ref b122_38), .val (.ref b151_39), .val (.ref b172_40), .val (.ref b176_41), .unset] [(.int (fEq (fOf0 v44_31 v54_32 v64_33 v74_34 v84_35 v94_36) (2 : Int32)))]))
    refine g_aload X at_206 (pc' := 208) rfl rfl rfl ?_
    refine g_iconst X (1 : Int32) at_208 (pc' := 209) rfl rfl ?_
    refine g_virtual X (W := 1) (a := b176_41) (C := "com/example/pathlattice/pathlattice/graph/Components") [(.int (1 : Int32))] [(.int (fEq (fOf0 v44_31 v54_32 v64_33 v74_34 v84_35 v94_36) (2 : Int32)))] E_b176_41 (tb hw 25 rfl) (tb hw 26 rfl) (tb hw 28 rfl) (tb hw 27 rfl) (tb hw 8 rfl) (tb hw 29 rfl) (rOf1 l Z aa hw [] b176_41 b33_30 v44_31 v54_32 v64_33 v74_34 v84_35 v94_36 _ E_b176_41 F_b176_41_component V_b33_30) at_209 (pc' := 212) rfl (by decide) (by decide) (by decide) rfl rfl rfl (lenOf pd_2 rfl) (Nat.le_refl _) (by decide) (by decide) ?_
    intro v T L X q
    obtain ⟨rfl, X⟩ := pureX X q
    show Go p e below _ (T.setTop (mkF m 212 #[.val (.int i0), .val (.int i1), .val (.int i2), .val (.int v8_1), .val (.int v21_2), .val (.int (2 : Int32)), .val (.ref b33_30), .val (.ref b98_37), .val (.ref b122_38), .val (.ref b151_39), .val (.ref b172_40), .val (.ref b176_41), .unset] [(.int (fOf1 v44_31 v54_32 v64_33 v74_34 v84_35 v94_36)), (.int (fEq (fOf0 v44_31 v54_32 v64_33 v74_34 v84_35 v94_36) (2 : Int32)))]))
    refine g_iload X at_212 (pc' := 214) rfl rfl ?_
    refine g_static X (W := 1) [(.int (fOf1 v44_31 v54_32 v64_33 v74_34 v84_35 v94_36)), (.int (2 : Int32))] [(.int (fEq (fOf0 v44_31 v54_32 v64_33 v74_34 v84_35 v94_36) (2 : Int32)))] (tb hw 30 rfl) (tb hw 31 rfl) (tb hw 4 rfl) (tb hw 32 rfl) (rEq l Z aa hw [] (fOf1 v44_31 v54_32 v64_33 v74_34 v84_35 v94_36) (2 : Int32) _) at_214 (pc' := 217) rfl (by decide) (by decide) (by decide) rfl rfl rfl (lenOf pd_3 rfl) (Nat.le_refl _) (by decide) (by decide) ?_
    intro v T L X q
    obtain ⟨rfl, X⟩ := pureX X q
    show Go p e below _ (T.setTop (mkF m 217 #[.val (.int i0), .val (.int i1), .val (.int i2), .val (.int v8_1), .val (.int v21_2), .val (.int (2 : Int32)), .val (.ref b33_30), .val (.ref b98_37), .val (.ref b122_38), .val (.ref b151_39), .val (.ref b172_40), .val (.ref b176_41), .unset] [(.int (fEq (fOf1 v44_31 v54_32 v64_33 v74_34 v84_35 v94_36) (2 : Int32))), (.int (fEq (fOf0 v44_31 v54_32 v64_33 v74_34 v84_35 v94_36) (2 : Int32)))]))
    refine g_iadd X at_217 (pc' := 218) rfl ?_
    refine g_aload X at_218 (pc' := 220) rfl rfl rfl ?_
    refine g_iconst X (2 : Int32) at_220 (pc' := 221) rfl rfl ?_
    refine g_virtual X (W := 1) (a := b176_41) (C := "com/example/pathlattice/pathlattice/graph/Components") [(.int (2 : Int32))] [(.int ((fEq (fOf0 v44_31 v54_32 v64_33 v74_34 v84_35 v94_36) (2 : Int32)) + (fEq (fOf1 v44_31 v54_32 v64_33 v74_34 v84_35 v94_36) (2 : Int32))))] E_b176_41 (tb hw 25 rfl) (tb hw 26 rfl) (tb hw 28 rfl) (tb hw 27 rfl) (tb hw 8 rfl) (tb hw 29 rfl) (rOf2 l Z aa hw [] b176_41 b33_30 v44_31 v54_32 v64_33 v74_34 v84_35 v94_36 _ E_b176_41 F_b176_41_component V_b33_30) at_221 (pc' := 224) rfl (by decide) (by decide) (by decide) rfl rfl rfl (lenOf pd_2 rfl) (Nat.le_refl _) (by decide) (by decide) ?_
    intro v T L X q
    obtain ⟨rfl, X⟩ := pureX X q
    show Go p e below _ (T.setTop (mkF m 224 #[.val (.int i0), .val (.int i1), .val (.int i2), .val (.int v8_1), .val (.int v21_2), .val (.int (2 : Int32)), .val (.ref b33_30), .val (.ref b98_37), .val (.ref b122_38), .val (.ref b151_39), .val (.ref b172_40), .val (.ref b176_41), .unset] [(.int (fOf2 v44_31 v54_32 v64_33 v74_34 v84_35 v94_36)), (.int ((fEq (fOf0 v44_31 v54_32 v64_33 v74_34 v84_35 v94_36) (2 : Int32)) + (fEq (fOf1 v44_31 v54_32 v64_33 v74_34 v84_35 v94_36) (2 : Int32))))]))
    refine g_iload X at_224 (pc' := 226) rfl rfl ?_
    refine g_static X (W := 1) [(.int (fOf2 v44_31 v54_32 v64_33 v74_34 v84_35 v94_36)), (.int (2 : Int32))] [(.int ((fEq (fOf0 v44_31 v54_32 v64_33 v74_34 v84_35 v94_36) (2 : Int32)) + (fEq (fOf1 v44_31 v54_32 v64_33 v74_34 v84_35 v94_36) (2 : Int32))))] (tb hw 30 rfl) (tb hw 31 rfl) (tb hw 4 rfl) (tb hw 32 rfl) (rEq l Z aa hw [] (fOf2 v44_31 v54_32 v64_33 v74_34 v84_35 v94_36) (2 : Int32) _) at_226 (pc' := 229) rfl (by decide) (by decide) (by decide) rfl rfl rfl (lenOf pd_3 rfl) (Nat.le_refl _) (by decide) (by decide) ?_
    intro v T L X q
    obtain ⟨rfl, X⟩ := pureX X q
    show Go p e below _ (T.setTop (mkF m 229 #[.val (.int i0), .val (.int i1), .val (.int i2), .val (.int v8_1), .val (.int v21_2), .val (.int (2 : Int32)), .val (.ref b33_30), .val (.ref b98_37), .val (.ref b122_38), .val (.ref b151_39), .val (.ref b172_40), .val (.ref b176_41), .unset] [(.int (fEq (fOf2 v44_31 v54_32 v64_33 v74_34 v84_35 v94_36) (2 : Int32))), (.int ((fEq (fOf0 v44_31 v54_32 v64_33 v74_34 v84_35 v94_36) (2 : Int32)) + (fEq (fOf1 v44_31 v54_32 v64_33 v74_34 v84_35 v94_36) (2 : Int32))))]))
    refine g_iadd X at_229 (pc' := 230) rfl ?_
    refine g_aload X at_230 (pc' := 232) rfl rfl rfl ?_
    refine g_iconst X (3 : Int32) at_232 (pc' := 233) rfl rfl ?_
    refine g_virtual X (W := 1) (a := b176_41) (C := "com/example/pathlattice/pathlattice/graph/Components") [(.int (3 : Int32))] [(.int (((fEq (fOf0 v44_31 v54_32 v64_33 v74_34 v84_35 v94_36) (2 : Int32)) + (fEq (fOf1 v44_31 v54_32 v64_33 v74_34 v84_35 v94_36) (2 : Int32))) + (fEq (fOf2 v44_31 v54_32 v64_33 v74_34 v84_35 v94_36) (2 : Int32))))] E_b176_41 (tb hw 25 rfl) (tb hw 26 rfl) (tb hw 28 rfl) (tb hw 27 rfl) (tb hw 8 rfl) (tb hw 29 rfl) (rOf3 l Z aa hw [] b176_41 b33_30 v44_31 v54_32 v64_33 v74_34 v84_35 v94_36 _ E_b176_41 F_b176_41_component V_b33_30) at_233 (pc' := 236) rfl (by decide) (by decide) (by decide) rfl rfl rfl (lenOf pd_2 rfl) (Nat.le_refl _) (by decide) (by decide) ?_
    intro v T L X q
    obtain ⟨rfl, X⟩ := pureX X q
    show Go p e below _ (T.setTop (mkF m 236 #[.val (.int i0), .val (.int i1), .val (.int i2), .val (.int v8_1), .val (.int v21_2), .val (.int (2 : Int32)), .val (.ref b33_30), .val (.ref b98_37), .val (.ref b122_38), .val (.ref b151_39), .val (.ref b172_40), .val (.ref b176_41), .unset] [(.int (fOf3 v44_31 v54_32 v64_33 v74_34 v84_35 v94_36)), (.int (((fEq (fOf0 v44_31 v54_32 v64_33 v74_34 v84_35 v94_36) (2 : Int32)) + (fEq (fOf1 v44_31 v54_32 v64_33 v74_34 v84_35 v94_36) (2 : Int32))) + (fEq (fOf2 v44_31 v54_32 v64_33 v74_34 v84_35 v94_36) (2 : Int32))))]))
    refine g_iload X at_236 (pc' := 238) rfl rfl ?_
    refine g_static X (W := 1) [(.int (fOf3 v44_31 v54_32 v64_33 v74_34 v84_35 v94_36)), (.int (2 : Int32))] [(.int (((fEq (fOf0 v44_31 v54_32 v64_33 v74_34 v84_35 v94_36) (2 : Int32)) + (fEq (fOf1 v44_31 v54_32 v64_33 v74_34 v84_35 v94_36) (2 : Int32))) + (fEq (fOf2 v44_31 v54_32 v64_33 v74_34 v84_35 v94_36) (2 : Int32))))] (tb hw 30 rfl) (tb hw 31 rfl) (tb hw 4 rfl) (tb hw 32 rfl) (rEq l Z aa hw [] (fOf3 v44_31 v54_32 v64_33 v74_34 v84_35 v94_36) (2 : Int32) _) at_238 (pc' := 241) rfl (by decide) (by decide) (by decide) rfl rfl rfl (lenOf pd_3 rfl) (Nat.le_refl _) (by decide) (by decide) ?_
    intro v T L X q
    obtain ⟨rfl, X⟩ := pureX X q
    show Go p e below _ (T.setTop (mkF m 241 #[.val (.int i0), .val (.int i1), .val (.int i2), .val (.int v8_1), .val (.int v21_2), .val (.int (2 : Int32)), .val (.ref b33_30), .val (.ref b98_37), .val (.ref b122_38), .val (.ref b151_39), .val (.ref b172_40), .val (.ref b176_41), .unset] [(.int (fEq (fOf3 v44_31 v54_32 v64_33 v74_34 v84_35 v94_36) (2 : Int32))), (.int (((fEq (fOf0 v44_31 v54_32 v64_33 v74_34 v84_35 v94_36) (2 : Int32)) + (fEq (fOf1 v44_31 v54_32 v64_33 v74_34 v84_35 v94_36) (2 : Int32))) + (fEq (fOf2 v44_31 v54_32 v64_33 v74_34 v84_35 v94_36) (2 : Int32))))]))
    refine g_iadd X at_241 (pc' := 242) rfl ?_
    refine g_aload X at_242 (pc' := 244) rfl rfl rfl ?_
    refine g_iconst X (4 : Int32) at_244 (pc' := 245) rfl rfl ?_
    refine g_virtual X (W := 1) (a := b176_41) (C := "com/example/pathlattice/pathlattice/graph/Components") [(.int (4 : Int32))] [(.int ((((fEq (fOf0 v44_31 v54_32 v64_33 v74_34 v84_35 v94_36) (2 : Int32)) + (fEq (fOf1 v44_31 v54_32 v64_33 v74_34 v84_35 v94_36) (2 : Int32))) + (fEq (fOf2 v44_31 v54_32 v64_33 v74_34 v84_35 v94_36) (2 : Int32))) + (fEq (fOf3 v44_31 v54_32 v64_33 v74_34 v84_35 v94_36) (2 : Int32))))] E_b176_41 (tb hw 25 rfl) (tb hw 26 rfl) (tb hw 28 rfl) (tb hw 27 rfl) (tb hw 8 rfl) (tb hw 29 rfl) (rOf4 l Z aa hw [] b176_41 b33_30 v44_31 v54_32 v64_33 v74_34 v84_35 v94_36 _ E_b176_41 F_b176_41_component V_b33_30) at_245 (pc' := 248) rfl (by decide) (by decide) (by decide) rfl rfl rfl (lenOf pd_2 rfl) (Nat.le_refl _) (by decide) (by decide) ?_
    intro v T L X q
    obtain ⟨rfl, X⟩ := pureX X q
    show Go p e below _ (T.setTop (mkF m 248 #[.val (.int i0), .val (.int i1), .val (.int i2), .val (.int v8_1), .val (.int v21_2), .val (.int (2 : Int32)), .val (.ref b33_30), .val (.ref b98_37), .val (.ref b122_38), .val (.ref b151_39), .val (.ref b172_40), .val (.ref b176_41), .unset] [(.int (fOf4 v44_31 v54_32 v64_33 v74_34 v84_35 v94_36)), (.int ((((fEq (fOf0 v44_31 v54_32 v64_33 v74_34 v84_35 v94_36) (2 : Int32)) + (fEq (fOf1 v44_31 v54_32 v64_33 v74_34 v84_35 v94_36) (2 : Int32))) + (fEq (fOf2 v44_31 v54_32 v64_33 v74_34 v84_35 v94_36) (2 : Int32))) + (fEq (fOf3 v44_31 v54_32 v64_33 v74_34 v84_35 v94_36) (2 : Int32))))]))
    refine g_iload X at_248 (pc' := 250) rfl rfl ?_
    refine g_static X (W := 1) [(.int (fOf4 v44_31 v54_32 v64_33 v74_34 v84_35 v94_36)), (.int (2 : Int32))] [(.int ((((fEq (fOf0 v44_31 v54_32 v64_33 v74_34 v84_35 v94_36) (2 : Int32)) + (fEq (fOf1 v44_31 v54_32 v64_33 v74_34 v84_35 v94_36) (2 : Int32))) + (fEq (fOf2 v44_31 v54_32 v64_33 v74_34 v84_35 v94_36) (2 : Int32))) + (fEq (fOf3 v44_31 v54_32 v64_33 v74_34 v84_35 v94_36) (2 : Int32))))] (tb hw 30 rfl) (tb hw 31 rfl) (tb hw 4 rfl) (tb hw 32 rfl) (rEq l Z aa hw [] (fOf4 v44_31 v54_32 v64_33 v74_34 v84_35 v94_36) (2 : Int32) _) at_250 (pc' := 253) rfl (by decide) (by decide) (by decide) rfl rfl rfl (lenOf pd_3 rfl) (Nat.le_refl _) (by decide) (by decide) ?_
    intro v T L X q
    obtain ⟨rfl, X⟩ := pureX X q
    show Go p e below _ (T.setTop (mkF m 253 #[.val (.int i0), .val (.int i1), .val (.int i2), .val (.int v8_1), .val (.int v21_2), .val (.int (2 : Int32)), .val (.ref b33_30), .val (.ref b98_37), .val (.ref b122_38), .val (.ref b151_39), .val (.ref b172_40), .val (.ref b176_41), .unset] [(.int (fEq (fOf4 v44_31 v54_32 v64_33 v74_34 v84_35 v94_36) (2 : Int32))), (.int ((((fEq (fOf0 v44_31 v54_32 v64_33 v74_34 v84_35 v94_36) (2 : Int32)) + (fEq (fOf1 v44_31 v54_32 v64_33 v74_34 v84_35 v94_36) (2 : Int32))) + (fEq (fOf2 v44_31 v54_32 v64_33 v74_34 v84_35 v94_36) (2 : Int32))) + (fEq (fOf3 v44_31 v54_32 v64_33 v74_34 v84_35 v94_36) (2 : Int32))))]))
    refine g_iadd X at_253 (pc' := 254) rfl ?_
    refine g_aload X at_254 (pc' := 256) rfl rfl rfl ?_
    refine g_iconst X (5 : Int32) at_256 (pc' := 257) rfl rfl ?_
    refine g_virtual X (W := 1) (a := b176_41) (C := "com/example/pathlattice/pathlattice/graph/Components") [(.int (5 : Int32))] [(.int (((((fEq (fOf0 v44_31 v54_32 v64_33 v74_34 v84_35 v94_36) (2 : Int32)) + (fEq (fOf1 v44_31 v54_32 v64_33 v74_34 v84_35 v94_36) (2 : Int32))) + (fEq (fOf2 v44_31 v54_32 v64_33 v74_34 v84_35 v94_36) (2 : Int32))) + (fEq (fOf3 v44_31 v54_32 v64_33 v74_34 v84_35 v94_36) (2 : Int32))) + (fEq (fOf4 v44_31 v54_32 v64_33 v74_34 v84_35 v94_36) (2 : Int32))))] E_b176_41 (tb hw 25 rfl) (tb hw 26 rfl) (tb hw 28 rfl) (tb hw 27 rfl) (tb hw 8 rfl) (tb hw 29 rfl) (rOf5 l Z aa hw [] b176_41 b33_30 v44_31 v54_32 v64_33 v74_34 v84_35 v94_36 _ E_b176_41 F_b176_41_component V_b33_30) at_257 (pc' := 260) rfl (by decide) (by decide) (by decide) rfl rfl rfl (lenOf pd_2 rfl) (Nat.le_refl _) (by decide) (by decide) ?_
    intro v T L X q
    obtain ⟨rfl, X⟩ := pureX X q
    show Go p e below _ (T.setTop (mkF m 260 #[.val (.int i0), .val (.int i1), .val (.int i2), .val (.int v8_1), .val (.int v21_2), .val (.int (2 : Int32)), .val (.ref b33_30), .val (.ref b98_37), .val (.ref b122_38), .val (.ref b151_39), .val (.ref b172_40), .val (.ref b176_41), .unset] [(.int (fOf5 v44_31 v54_32 v64_33 v74_34 v84_35 v94_36)), (.int (((((fEq (fOf0 v44_31 v54_32 v64_33 v74_34 v84_35 v94_36) (2 : Int32)) + (fEq (fOf1 v44_31 v54_32 v64_33 v74_34 v84_35 v94_36) (2 : Int32))) + (fEq (fOf2 v44_31 v54_32 v64_33 v74_34 v84_35 v94_36) (2 : Int32))) + (fEq (fOf3 v44_31 v54_32 v64_33 v74_34 v84_35 v94_36) (2 : Int32))) + (fEq (fOf4 v44_31 v54_32 v64_33 v74_34 v84_35 v94_36) (2 : Int32))))]))
    refine g_iload X at_260 (pc' := 262) rfl rfl ?_
    refine g_static X (W := 1) [(.int (fOf5 v44_31 v54_32 v64_33 v74_34 v84_35 v94_36)), (.int (2 : Int32))] [(.int (((((fEq (fOf0 v44_31 v54_32 v64_33 v74_34 v84_35 v94_36) (2 : Int32)) + (fEq (fOf1 v44_31 v54_32 v64_33 v74_34 v84_35 v94_36) (2 : Int32))) + (fEq (fOf2 v44_31 v54_32 v64_33 v74_34 v84_35 v94_36) (2 : Int32))) + (fEq (fOf3 v44_31 v54_32 v64_33 v74_34 v84_35 v94_36) (2 : Int32))) + (fEq (fOf4 v44_31 v54_32 v64_33 v74_34 v84_35 v94_36) (2 : Int32))))] (tb hw 30 rfl) (tb hw 31 rfl) (tb hw 4 rfl) (tb hw 32 rfl) (rEq l Z aa hw [] (fOf5 v44_31 v54_32 v64_33 v74_34 v84_35 v94_36) (2 : Int32) _) at_262 (pc' := 265) rfl (by decide) (by decide) (by decide) rfl rfl rfl (lenOf pd_3 rfl) (Nat.le_refl _) (by decide) (by decide) ?_
    intro v T L X q
    obtain ⟨rfl, X⟩ := pureX X q
    show Go p e below _ (T.setTop (mkF m 265 #[.val (.int i0), .val (.int i1), .val (.int i2), .val (.int v8_1), .val (.int v21_2), .val (.int (2 : Int32)), .val (.ref b33_30), .val (.ref b98_37), .val (.ref b122_38), .val (.ref b151_39), .val (.ref b172_40), .val (.ref b176_41), .unset] [(.int (fEq (fOf5 v44_31 v54_32 v64_33 v74_34 v84_35 v94_36) (2 : Int32))), (.int (((((fEq (fOf0 v44_31 v54_32 v64_33 v74_34 v84_35 v94_36) (2 : Int32)) + (fEq (fOf1 v44_31 v54_32 v64_33 v74_34 v84_35 v94_36) (2 : Int32))) + (fEq (fOf2 v44_31 v54_32 v64_33 v74_34 v84_35 v94_36) (2 : Int32))) + (fEq (fOf3 v44_31 v54_32 v64_33 v74_34 v84_35 v94_36) (2 : Int32))) + (fEq (fOf4 v44_31 v54_32 v64_33 v74_34 v84_35 v94_36) (2 : Int32))))]))
    refine g_iadd X at_265 (pc' := 266) rfl ?_
    generalize ev266_42 : ((((((fEq (fOf0 v44_31 v54_32 v64_33 v74_34 v84_35 v94_36) (2 : Int32)) + (fEq (fOf1 v44_31 v54_32 v64_33 v74_34 v84_35 v94_36) (2 : Int32))) + (fEq (fOf2 v44_31 v54_32 v64_33 v74_34 v84_35 v94_36) (2 : Int32))) + (fEq (fOf3 v44_31 v54_32 v64_33 v74_34 v84_35 v94_36) (2 : Int32))) + (fEq (fOf4 v44_31 v54_32 v64_33 v74_34 v84_35 v94_36) (2 : Int32))) + (fEq (fOf5 v44_31 v54_32 v64_33 v74_34 v84_35 v94_36) (2 : Int32))) = v266_42
    refine g_istore X at_266 (pc' := 268) (Ls' := #[.val (.int i0), .val (.int i1), .val (.int i2), .val (.int v8_1), .val (.int v21_2), .val (.int (2 : Int32)), .val (.ref b33_30), .val (.ref b98_37), .val (.ref b122_38), .val (.ref b151_39), .val (.ref b172_40), .val (.ref b176_41), .val (.int v266_42)]) rfl rfl ?_
    refine g_aload X at_268 (pc' := 270) rfl rfl rfl ?_
    refine g_iload X at_270 (pc' := 272) rfl rfl ?_
    refine g_virtual X (W := 0) (a := b176_41) (C := "com/example/pathlattice/pathlattice/graph/Components") [(.int (2 : Int32))] [] E_b176_41 (tb hw 33 rfl) (tb hw 34 rfl) (tb hw 36 rfl) (tb hw 35 rfl) (tb hw 8 rfl) (tb hw 37 rfl) (rSz2 l Z aa hw [] b176_41 b98_37 (0 : Int32) v8_1 v21_2 (6 : Int32) _ E_b176_41 F_b176_41_memberOffsets V_b98_37) at_272 (pc' := 275) rfl (by decide) (by decide) (by decide) rfl rfl rfl (lenOf pd_2 rfl) (Nat.le_refl _) (by decide) (by decide) ?_
    intro v T L X q
    obtain ⟨rfl, X⟩ := pureX X q
    show Go p e below _ (T.setTop (mkF m 275 #[.val (.int i0), .val (.int i1), .val (.int i2), .val (.int v8_1), .val (.int v21_2), .val (.int (2 : Int32)), .val (.ref b33_30), .val (.ref b98_37), .val (.ref b122_38), .val (.ref b151_39), .val (.ref b172_40), .val (.ref b176_41), .val (.int v266_42)] [(.int (fSz2 (0 : Int32) v8_1 v21_2 (6 : Int32)))]))
    refine g_iload X at_275 (pc' := 277) rfl rfl ?_
    refine g_icN X at_277 (teq (show (fSz2 (0 : Int32) v8_1 v21_2 (6 : Int32)) = v266_42 from (by subst_vars; exact (tally Pr).2.2.symm))).2 (pc' := 280) rfl ?_
    refine g_iconst X (1 : Int32) at_280 (pc' := 281) rfl rfl ?_
    refine g_goto X at_281 (pc' := 285) (by decide) (by decide) ?_
    refine g_ireturnN X (t := .boolean) (by simp) at_285 hret hlk (by decide) (by decide) ?_
    exact ⟨rfl, N⟩
set_option maxRecDepth 65536 in
set_option maxHeartbeats 40000000 in
theorem comes_1 {Post : Tables → Env → Array Value → State → Outcome → State → Prop} (hpost : ∀ tb e args s v u, (limb_1_1.after args s (.returned v) u = true ∧ limb_1_2.after args s (.returned v) u = true ∧ True) → FrameEnd s (.returned v) u (Jvm.fieldLocs frame_1_writes args s ++ Jvm.arrayLocs frame_1_arrays args s ++ Jvm.staticLocs frame_1_statics s) 24 128 → Post tb e args s (.returned v) u) :
    ArmFor flags0 classFile x code maxLocals ret World_1 tables_1 room_1 Calls_1 rest_1 Pre_1 Post := by
  intro l hfl _ _ p e ha hc hk s m args below hf hA hF happ hP
  obtain ⟨hcalls, hrest, hpre⟩ := hP
  obtain ⟨-, -, -, hnamed, -, -, -, hat⟩ := (Spec.applies_iff hf).mp happ
  obtain ⟨hg, hn⟩ := and_e (Cond.before_iff.mp (show (Jvm.Cond.and given_1 narrow_1).before args s = true from hpre))
  obtain ⟨g1, g2⟩ := and_e hg
  obtain ⟨g3, g4⟩ := and_e g2
  obtain ⟨g5, g6⟩ := and_e g4
  obtain ⟨w0, w1, w2, rfl⟩ : ∃ w0 w1 w2 : Value, args = #[w0, w1, w2] := by
    have hs : args.size = 3 := by simpa [Cond.value, given_1] using g1
    obtain ⟨L⟩ := args
    match L, hs with
    | [w0, w1, w2], _ => exact ⟨w0, w1, w2, rfl⟩
  have hw := fun d (hd : d ∈ tables_1) => atoms_spec (ws := Jvm.Cond.code x code maxLocals ret :: tables_1) hat d (List.mem_cons_of_mem _ hd)
  have hfit : Fit s := fun {y c} hc i hi => by
    obtain ⟨ha, rfl⟩ := Array.getElem?_eq_some_iff.mp hc
    have q := List.all_eq_true.mp ((Array.all_eq_true_iff_forall_mem.mp hF) _ (Array.getElem_mem ha)) i (List.mem_range.mpr hi)
    simpa [Array.getElem?_eq_getElem hi] using q
  obtain ⟨i0, ei0⟩ := is_v g3
  obtain rfl : w0 = (.int i0) := Option.some.inj ei0
  obtain ⟨i1, ei1⟩ := is_v g5
  obtain rfl : w1 = (.int i1) := Option.some.inj ei1
  obtain ⟨i2, ei2⟩ := is_v g6
  obtain rfl : w2 = (.int i2) := Option.some.inj ei2
  obtain ⟨n, o, h1, h2, h3, _, L, rfl, ⟨rfl, N⟩, hq⟩ := rLaw l s _ hw tables_1 i0 i1 i2 s.heap s.heap.size (Nat.le_refl _) p e ha hc hk s m _ below hf ((Spec.applies_iff_loose hf).mp happ).1 ⟨rfl, State.Warmed39.refl s, rfl⟩ trivial
  refine ⟨n, _, h1, h2, h3, hpost _ _ _ _ _ _ ⟨Cond.after_iff.mpr rfl, Cond.after_iff.mpr (eq_i res_at (Term.int_eval (1)) rfl), trivial⟩ ⟨hq.1, hq.2.1, (hq.2.2.sift fun y hy => Or.inr (N y hy)).mono (by decide) (by decide)⟩⟩
theorem main_1_1 : Claimed_1_1 := comes_1 fun _ _ _ _ _ _ h hF => ⟨h.1, hF⟩
theorem main_1_2 : Claimed_1_2 := comes_1 fun _ _ _ _ _ _ h hF => ⟨h.2.1, hF⟩
end Jvm.Pilot.@@N@@
namespace Jvm.Pilot.@@N@@
open Jvm Jvm.ClassFile Sem Op Lib Jvm.Free Jvm.Stand Jvm.Pilot.@@N@@.Jvm.D
/-! MADE BY PROGRAM (witnessworld.py) out of the Statement's table words and the real class files: 9 classes; the members and pool entries that the words name. The judged class is class 1, her method 3. -/
namespace start1
open Jvm.ClassFile
def u (s : String) : CpInfo := .utf8 (stringToUtf16 s)
/-- a pool by its gaps: so many unusable entries, then the entry; so many at the end -/
def gap : Nat → List CpInfo → List CpInfo
  | 0, r => r
  | n + 1, r => .unusable :: gap n r
def poolList (es : List (Nat × CpInfo)) (last : Nat) : List CpInfo := es.foldr (fun e r => gap e.1 (e.2 :: r)) (gap last [])
def pool (es : List (Nat × CpInfo)) (last : Nat) : Array CpInfo := ⟨poolList es last⟩
def fileOf (pool : Array CpInfo) (this : Nat) (attrs : Array Attribute := #[]) (ms : Array MethodInfo := #[]) (fl : Nat := 33) (sup : Nat := 0) (ifs : Array Nat := #[]) (fds : Array FieldInfo := #[]) : ClassFile where
  minorVersion := 0
  majorVersion := 65
  constantPool := pool
  accessFlags := fl
  thisClass := this
  superClass := sup
  interfaces := ifs
  fields := fds
  methods := ms
  attributes := attrs
def plain (name : String) (sup : Option ClassId) : Class where
  name := name
  kind := .ordinary
  loader := none
  accessFlags := 33
  super := sup
  interfaces := #[]
  cf := none
  fields := #[]
  methods := #[]
  instanceTypes := #[]
  staticTypes := #[]
  resolved := #[]
  callSites := []
  init := .initialized
  statics := none
  mirror := none

def pool0 : Array CpInfo := pool [(5, u "<init>"), (0, u "()V"), (1, .class_ 10), (1, u "java/lang/Object")] 113

def k0c0 : Code := { maxStack := 0, maxLocals := 1, code := object_method_1_code, exceptionTable := #[], attributes := #[] }
def k0m0 : Method := { name := "<init>", desc := "()V", sig := { parameters := [], returnType := none }, accessFlags := 1, code := some k0c0 }
/-- java/lang/Object -/
def k0 : Class := { plain "java/lang/Object" none with
  accessFlags := 33
  interfaces := #[]
  cf := some (fileOf pool0 8 #[] #[{ accessFlags := 1, nameIndex := 5, descriptorIndex := 6, attributes := #[] }] 33 0 #[] #[])
  fields := #[]
  methods := #[k0m0]
  instanceTypes := #[]
  staticTypes := #[]
  resolved := Array.replicate 124 none
  statics := none }

def pool1 : Array CpInfo := pool [(2, .class_ 4), (1, u "java/lang/Object"), (0, u "<init>"), (0, u "()V"), (0, .integer 2147483647), (0, .methodref 9 10), (0, .class_ 11), (0, .nameAndType 12 13), (0, u "com/example/pathlattice/pathlattice/graph/ComponentsSizePinLaw"), (0, u "comp"), (0, u "(III)I"), (0, .class_ 15), (0, u "com/example/pathlattice/pathlattice/graph/Components"), (0, .methodref 14 17), (0, .nameAndType 5 18), (0, u "([I[I[I[I[I)V"), (0, .methodref 14 20), (0, .nameAndType 21 22), (0, u "of"), (0, u "(I)I"), (0, .methodref 9 24), (0, .nameAndType 25 26), (0, u "eq"), (0, u "(II)I"), (0, .methodref 14 28), (0, .nameAndType 29 22), (0, u "size"), (3, u "law"), (0, u "(III)Z")] 4

def k1m0 : Method := { name := "<init>", desc := "()V", sig := { parameters := [], returnType := none }, accessFlags := 1, code := none }
def k1c1 : Code := { maxStack := 2, maxLocals := 2, code := method_2_code, exceptionTable := #[], attributes := #[] }
def k1m1 : Method := { name := "eq", desc := "(II)I", sig := { parameters := [.int, .int], returnType := some .int }, accessFlags := 10, code := some k1c1 }
def k1c2 : Code := { maxStack := 2, maxLocals := 3, code := method_3_code, exceptionTable := #[], attributes := #[] }
def k1m2 : Method := { name := "comp", desc := "(III)I", sig := { parameters := [.int, .int, .int], returnType := some .int }, accessFlags := 10, code := some k1c2 }
def k1c3 : Code := { maxStack := 7, maxLocals := 13, code := code, exceptionTable := #[], attributes := #[] }
def k1m3 : Method := { name := "law", desc := "(III)Z", sig := { parameters := [.int, .int, .int], returnType := some .boolean }, accessFlags := 9, code := some k1c3 }
/-- com/example/pathlattice/pathlattice/graph/ComponentsSizePinLaw -/
def k1 : Class := { plain "com/example/pathlattice/pathlattice/graph/ComponentsSizePinLaw" (some 0) with
  accessFlags := 49
  interfaces := #[]
  cf := some (fileOf pool1 9 #[] #[{ accessFlags := 1, nameIndex := 5, descriptorIndex := 6, attributes := #[] }, { accessFlags := 10, nameIndex := 25, descriptorIndex := 26, attributes := #[] }, { accessFlags := 10, nameIndex := 12, descriptorIndex := 13, attributes := #[] }, { accessFlags := 9, nameIndex := 33, descriptorIndex := 34, attributes := #[] }] 49 2 #[] #[])
  fields := #[]
  methods := #[k1m0, k1m1, k1m2, k1m3]
  instanceTypes := #[]
  staticTypes := #[]
  resolved := Array.replicate 39 none
  statics := none }

def pool2 : Array CpInfo := pool [(1, .methodref 2 3), (0, .class_ 4), (0, .nameAndType 5 6), (0, u "java/lang/Object"), (0, u "<init>"), (0, u "()V"), (0, .fieldref 8 9), (0, .class_ 10), (0, .nameAndType 11 12), (0, u "com/example/pathlattice/pathlattice/graph/Components"), (0, u "component"), (0, u "[I"), (0, .fieldref 8 14), (0, .nameAndType 15 12), (0, u "memberOffsets"), (0, .fieldref 8 17), (0, .nameAndType 18 12), (0, u "members"), (0, .fieldref 8 20), (0, .nameAndType 21 12), (0, u "predecessorOffsets"), (0, .fieldref 8 23), (0, .nameAndType 24 12), (0, u "predecessors"), (6, u "([I[I[I[I[I)V"), (4, u "of"), (0, u "(I)I"), (0, u "size")] 3

def k2c0 : Code := { maxStack := 2, maxLocals := 6, code := prog_17_method_1_code, exceptionTable := #[], attributes := #[] }
def k2m0 : Method := { name := "<init>", desc := "([I[I[I[I[I)V", sig := { parameters := [(.array .int), (.array .int), (.array .int), (.array .int), (.array .int)], returnType := none }, accessFlags := 0, code := some k2c0 }
def k2c1 : Code := { maxStack := 2, maxLocals := 2, code := prog_17_method_3_code, exceptionTable := #[], attributes := #[] }
def k2m1 : Method := { name := "of", desc := "(I)I", sig := { parameters := [.int], returnType := some .int }, accessFlags := 1, code := some k2c1 }
def k2c2 : Code := { maxStack := 3, maxLocals := 2, code := prog_17_method_4_code, exceptionTable := #[], attributes := #[] }
def k2m2 : Method := { name := "size", desc := "(I)I", sig := { parameters := [.int], returnType := some .int }, accessFlags := 1, code := some k2c2 }
/-- com/example/pathlattice/pathlattice/graph/Components -/
def k2 : Class := { plain "com/example/pathlattice/pathlattice/graph/Components" (some 0) with
  accessFlags := 49
  interfaces := #[]
  cf := some (fileOf pool2 8 #[] #[{ accessFlags := 0, nameIndex := 5, descriptorIndex := 31, attributes := #[] }, { accessFlags := 1, nameIndex := 36, descriptorIndex := 37, attributes := #[] }, { accessFlags := 1, nameIndex := 38, descriptorIndex := 37, attributes := #[] }] 49 2 #[] #[{ accessFlags := 18, nameIndex := 11, descriptorIndex := 12, attributes := #[] }, { accessFlags := 18, nameIndex := 15, descriptorIndex := 12, attributes := #[] }, { accessFlags := 18, nameIndex := 18, descriptorIndex := 12, attributes := #[] }, { accessFlags := 18, nameIndex := 21, descriptorIndex := 12, attributes := #[] }, { accessFlags := 18, nameIndex := 24, descriptorIndex := 12, attributes := #[] }])
  fields := #[{ name := "component", type := (.array .int), accessFlags := 18, slot := 0, constantValue := 0 }, { name := "memberOffsets", type := (.array .int), accessFlags := 18, slot := 1, constantValue := 0 }, { name := "members", type := (.array .int), accessFlags := 18, slot := 2, constantValue := 0 }, { name := "predecessorOffsets", type := (.array .int), accessFlags := 18, slot := 3, constantValue := 0 }, { name := "predecessors", type := (.array .int), accessFlags := 18, slot := 4, constantValue := 0 }]
  methods := #[k2m0, k2m1, k2m2]
  instanceTypes := #[(.array .int), (.array .int), (.array .int), (.array .int), (.array .int)]
  staticTypes := #[]
  resolved := Array.replicate 42 none
  statics := none }

def pool3 : Array CpInfo := pool [(1, u "java/lang/Cloneable"), (0, .class_ 1), (0, u "java/lang/Object"), (0, .class_ 3)] 3

/-- java/lang/Cloneable -/
def k3 : Class := { plain "java/lang/Cloneable" (some 0) with
  accessFlags := 1537
  interfaces := #[]
  cf := some (fileOf pool3 2 #[] #[] 1537 4 #[] #[])
  fields := #[]
  methods := #[]
  instanceTypes := #[]
  staticTypes := #[]
  resolved := Array.replicate 8 none
  statics := none }

def pool4 : Array CpInfo := pool [(1, u "java/io/Serializable"), (0, .class_ 1), (0, u "java/lang/Object"), (0, .class_ 3)] 3

/-- java/io/Serializable -/
def k4 : Class := { plain "java/io/Serializable" (some 0) with
  accessFlags := 1537
  interfaces := #[]
  cf := some (fileOf pool4 2 #[] #[] 1537 4 #[] #[])
  fields := #[]
  methods := #[]
  instanceTypes := #[]
  staticTypes := #[]
  resolved := Array.replicate 8 none
  statics := none }

/-- the primitive byte -/
def k5 : Class := { plain "byte" none with kind := .primitive 'B', accessFlags := 0x411 }
/-- [B -/
def k6 : Class := { plain "[B" (some 0) with kind := .array 5 .byte, interfaces := #[3, 4], accessFlags := 1041 }

/-- the primitive int -/
def k7 : Class := { plain "int" none with kind := .primitive 'I', accessFlags := 0x411 }
/-- [I -/
def k8 : Class := { plain "[I" (some 0) with kind := .array 7 .int, interfaces := #[3, 4], accessFlags := 1041 }

def heap : Heap := #[]
def classes : Array Class := #[k0, k1, k2, k3, k4, k5, k6, k7, k8]
def interned : List (Array UInt16 × Addr) := []
def slotsUsed : Nat := 0
def theMethod : MethodId := ⟨1, 3⟩
def args0 : Array Value := #[.int 5, .int 7, .int 3]
def aboutOver (below : List Frame) : State where
  vm := { classes := classes, interned := interned.toArray }
  heap := heap
  slotsUsed := slotsUsed
  threads := #[{ frames := .invoking theMethod args0 :: below }]
def below0 : List Frame := [.native { method := ⟨0, 0⟩, args := #[] }]
def about1 : State := aboutOver below0
def p0 : Program := .bare "" "" ""
def e0 : Env := launch0.env 0 0 0
theorem w_frames : about1.frames = Frame.invoking theMethod args0 :: below0 := rfl
set_option maxRecDepth 65536 in
theorem w_args : argsFit about1.vm theMethod args0 = true := by decide +kernel
set_option maxRecDepth 65536 in
theorem w_heap : heapFits about1 = true := by decide +kernel
set_option maxRecDepth 65536 in
theorem w_runnable : about1.curStatus? = some .runnable := by decide +kernel
set_option maxRecDepth 65536 in
theorem w_alone : about1.alone = true := by decide +kernel
set_option maxRecDepth 65536 in
theorem w_named : about1.methodNamed? x = some theMethod := by decide +kernel
set_option maxRecDepth 65536 in
theorem w_hears : about1.hears theMethod below0 = true := by decide +kernel
set_option maxRecDepth 65536 in
theorem w_ripe : about1.ripe theMethod args0 below0 = true := by decide +kernel
theorem w_running : about1.status = .running := rfl
set_option maxRecDepth 65536 in
theorem w_room : about1.hasRoom e0.platform room_1 = true :=
  launch0.hasRoom_least _ room_1 (by decide +kernel) (by decide +kernel) (by decide +kernel) (by decide +kernel) (by decide +kernel) (by decide +kernel)
theorem allAtoms_all (ts : List Jvm.Cond) (a : Array Jvm.Value) (st : Jvm.State) : (allAtoms ts).before a st = ts.all (fun c => c.before a st) := by
  induction ts with
  | nil => rfl
  | cons c t ih =>
    show (Jvm.Cond.and c (allAtoms t)).before a st = _
    rw [Jvm.Cond.before_and, ih, List.all_cons]
def words1 : List Jvm.Cond := Jvm.Cond.code x code maxLocals ret :: tables_1
/-- a 'code' word, met by the world's own term for the bytes: nothing is compared byte by byte -/
theorem code_word {y : MethodName} {bytes : ByteArray} {mx : Nat} {rt : Option FieldType} {a : Array Value} {s : State} {m : MethodId} {meth : Method} {c : Code} (h1 : s.methodNamed? y = some m) (h2 : s.vm.method? m = some meth) (h3 : meth.code = some c) (h4 : c.code = bytes)
    (h5 : (c.maxLocals == mx && c.exceptionTable.isEmpty && decide (c.maxStack ≤ mostOperands) && decide (meth.sig.returnType = rt) && !meth.locks && decide (parseMethodDescriptor y.desc = some meth.sig)) = true) : (Jvm.Cond.code y bytes mx rt).before a s = true := by
  simp only [Bool.and_eq_true, beq_iff_eq, Bool.not_eq_true', decide_eq_true_eq] at h5
  obtain ⟨⟨⟨⟨⟨g1, g2⟩, g3⟩, g4⟩, g5⟩, g6⟩ := h5
  simp [Cond.before, Cond.holds, Cond.value, h1, h2, h3, h4, g1, g2, g3, g4, g5, g6]
def isCode : Jvm.Cond → Bool
  | .code _ _ _ _ => true
  | _ => false
theorem all_split {L : List Jvm.Cond} {P : Jvm.Cond → Bool} (h1 : L.all (fun c => isCode c || P c) = true) (h2 : ∀ c ∈ L.filter isCode, P c = true) : L.all P = true := by
  refine List.all_eq_true.mpr fun c hc => ?_
  have h := List.all_eq_true.mp h1 c hc
  rcases Bool.eq_false_or_eq_true (isCode c) with hi | hi
  · exact h2 c (List.mem_filter.mpr ⟨hc, hi⟩)
  · simpa [hi] using h
set_option maxRecDepth 65536 in
theorem w_c0 : (Jvm.Cond.code x code maxLocals ret).before args0 about1 = true := code_word (m := ⟨1, 3⟩) (meth := k1m3) (c := k1c3) (by decide +kernel) rfl rfl rfl (by decide +kernel)
set_option maxRecDepth 65536 in
theorem w_c1 : (Jvm.Cond.code ({ cls := "com/example/pathlattice/pathlattice/graph/ComponentsSizePinLaw", name := "comp", desc := "(III)I" } : Jvm.MethodName) method_3_code (3 : Nat) (Option.some Jvm.ClassFile.FieldType.int)).before args0 about1 = true := code_word (m := ⟨1, 2⟩) (meth := k1m2) (c := k1c2) (by decide +kernel) rfl rfl rfl (by decide +kernel)
set_option maxRecDepth 65536 in
theorem w_c2 : (Jvm.Cond.code ({ cls := "com/example/pathlattice/pathlattice/graph/Components", name := "<init>", desc := "([I[I[I[I[I)V" } : Jvm.MethodName) prog_17_method_1_code (6 : Nat) (Option.none : Option Jvm.ClassFile.FieldType)).before args0 about1 = true := code_word (m := ⟨2, 0⟩) (meth := k2m0) (c := k2c0) (by decide +kernel) rfl rfl rfl (by decide +kernel)
set_option maxRecDepth 65536 in
theorem w_c3 : (Jvm.Cond.code ({ cls := "java/lang/Object", name := "<init>", desc := "()V" } : Jvm.MethodName) object_method_1_code (1 : Nat) (Option.none : Option Jvm.ClassFile.FieldType)).before args0 about1 = true := code_word (m := ⟨0, 0⟩) (meth := k0m0) (c := k0c0) (by decide +kernel) rfl rfl rfl (by decide +kernel)
set_option maxRecDepth 65536 in
theorem w_c4 : (Jvm.Cond.code ({ cls := "com/example/pathlattice/pathlattice/graph/Components", name := "of", desc := "(I)I" } : Jvm.MethodName) prog_17_method_3_code (2 : Nat) (Option.some Jvm.ClassFile.FieldType.int)).before args0 about1 = true := code_word (m := ⟨2, 1⟩) (meth := k2m1) (c := k2c1) (by decide +kernel) rfl rfl rfl (by decide +kernel)
set_option maxRecDepth 65536 in
theorem w_c5 : (Jvm.Cond.code ({ cls := "com/example/pathlattice/pathlattice/graph/ComponentsSizePinLaw", name := "eq", desc := "(II)I" } : Jvm.MethodName) method_2_code (2 : Nat) (Option.some Jvm.ClassFile.FieldType.int)).before args0 about1 = true := code_word (m := ⟨1, 1⟩) (meth := k1m1) (c := k1c1) (by decide +kernel) rfl rfl rfl (by decide +kernel)
set_option maxRecDepth 65536 in
theorem w_c6 : (Jvm.Cond.code ({ cls := "com/example/pathlattice/pathlattice/graph/Components", name := "size", desc := "(I)I" } : Jvm.MethodName) prog_17_method_4_code (2 : Nat) (Option.some Jvm.ClassFile.FieldType.int)).before args0 about1 = true := code_word (m := ⟨2, 2⟩) (meth := k2m2) (c := k2c2) (by decide +kernel) rfl rfl rfl (by decide +kernel)
def codes1 : List Jvm.Cond := [Jvm.Cond.code x code maxLocals ret, Jvm.Cond.code ({ cls := "com/example/pathlattice/pathlattice/graph/ComponentsSizePinLaw", name := "comp", desc := "(III)I" } : Jvm.MethodName) method_3_code (3 : Nat) (Option.some Jvm.ClassFile.FieldType.int), Jvm.Cond.code ({ cls := "com/example/pathlattice/pathlattice/graph/Components", name := "<init>", desc := "([I[I[I[I[I)V" } : Jvm.MethodName) prog_17_method_1_code (6 : Nat) (Option.none : Option Jvm.ClassFile.FieldType), Jvm.Cond.code ({ cls := "java/lang/Object", name := "<init>", desc := "()V" } : Jvm.MethodName) object_method_1_code (1 : Nat) (Option.none : Option Jvm.ClassFile.FieldType), Jvm.Cond.code ({ cls := "com/example/pathlattice/pathlattice/graph/Components", name := "of", desc := "(I)I" } : Jvm.MethodName) prog_17_method_3_code (2 : Nat) (Option.some Jvm.ClassFile.FieldType.int), Jvm.Cond.code ({ cls := "com/example/pathlattice/pathlattice/graph/ComponentsSizePinLaw", name := "eq", desc := "(II)I" } : Jvm.MethodName) method_2_code (2 : Nat) (Option.some Jvm.ClassFile.FieldType.int), Jvm.Cond.code ({ cls := "com/example/pathlattice/pathlattice/graph/Components", name := "size", desc := "(I)I" } : Jvm.MethodName) prog_17_method_4_code (2 : Nat) (Option.some Jvm.ClassFile.FieldType.int)]
set_option maxRecDepth 65536 in
theorem codes_eq : words1.filter isCode = codes1 := rfl
theorem w_codes : ∀ c ∈ words1.filter isCode, c.before args0 about1 = true := by
  rw [codes_eq]
  intro c hc
  simp only [codes1, List.mem_cons, List.not_mem_nil, or_false] at hc
  rcases hc with rfl | rfl | rfl | rfl | rfl | rfl | rfl
  · exact w_c0
  · exact w_c1
  · exact w_c2
  · exact w_c3
  · exact w_c4
  · exact w_c5
  · exact w_c6
set_option maxRecDepth 65536 in
theorem w_t1 : (words1.take 24).all (fun c => isCode c || c.before args0 about1) = true := by decide +kernel
set_option maxRecDepth 65536 in
theorem w_t2 : (words1.drop 24).all (fun c => isCode c || c.before args0 about1) = true := by decide +kernel
theorem w_tables : (allAtoms (Jvm.Cond.code x code maxLocals ret :: tables_1)).before args0 about1 = true := by
  rw [allAtoms_all]
  show words1.all (fun c => c.before args0 about1) = true
  refine all_split ?_ w_codes
  rw [← List.take_append_drop 24 words1, List.all_append, w_t1, w_t2]
  rfl
set_option maxRecDepth 65536 in
theorem w_case : (Jvm.Cond.and given_1 narrow_1).before args0 about1 = true := by decide +kernel
theorem w_applies : (headSpec (Jvm.Cond.code x code maxLocals ret :: tables_1) room_1).applies x e0.platform about1 = true :=
  (Spec.applies_iff w_frames).mpr ⟨w_running, w_runnable, w_alone, w_named, w_hears, w_ripe, w_room, w_tables⟩
theorem atStart : AtStart classFile x code maxLocals ret World_1 tables_1 room_1 Calls_1 rest_1 Pre_1 launch0 p0 e0 about1 theMethod args0 below0 :=
  ⟨lists_1, trivial, launch0.admits_env _ _ _, launch0.least_env, fairChoices_fair.cas, fairChoices_fair.clock, w_frames, w_args, w_heap, w_applies, trivial, trivial, w_case⟩
end start1
theorem witness_1 : WitnessClaimed_1 := ⟨start1.p0, start1.e0, start1.about1, start1.theMethod, start1.args0, start1.below0, start1.atStart⟩
end Jvm.Pilot.@@N@@
