import JvmDerived
import JvmDerived.Pilot.@@N@@Statement
import JvmDerived.Pilot.@@N@@Code
set_option linter.unusedVariables false
set_option linter.unusedSimpArgs false
namespace Jvm.RoadKit
open Sem ClassFile Op Lib Jvm.Stand Jvm.Free Jvm.LawKit
section New
variable {p : Program} {l : Launch} {e : Env} {R : Room} {s : State} {m : MethodId} {args : Array Value} {below : List Frame} {meth : Method} {c : Code} {T : State} {locs : List Loc} {cells slots : Nat}
theorem retI (X : Stand p l e R s m args below meth c T locs cells slots) (hx : p.tables.exec = Jvm.exec) {pc : Nat} {Ls : Array Slot} {z : Int32} {rest : List Value} (hret : meth.sig.returnType = some .int) (hd : decode c.code pc = .ok (.ireturn, 1)) {fs : List Frame}
    (hl : ∀ (f : JFrame) (acts : List Action), f.method = m → f.locked = none → f.entered = [] → (doReturn e (T.setTop f) acts (some (.int z))).1 = T.setFrames fs) : Steps p.tables e below (T.setTop (mkF m pc Ls (.int z :: rest))) (T.setFrames fs) := by
  have hm' : T.vm.method? m = some meth := X.method'
  have hn : narrow .int (.int z) = .int z := rfl
  show Steps p.tables e below (T.setTop { method := m, pc := pc, locals := Ls, stack := _ :: rest, locked := none }) _
  jvm_step X.here [X.here.top, hx, hd, hm', hret, hn]
  first | (intro acts; rw [hl _ acts rfl rfl rfl]) | rw [hl _ _ rfl rfl rfl]
  exact Steps.refl _
theorem retJ (X : Stand p l e R s m args below meth c T locs cells slots) (hx : p.tables.exec = Jvm.exec) {pc : Nat} {Ls : Array Slot} {z : Int64} {rest : List Value} (hret : meth.sig.returnType = some .long) (hd : decode c.code pc = .ok (.lreturn, 1)) {fs : List Frame}
    (hl : ∀ (f : JFrame) (acts : List Action), f.method = m → f.locked = none → f.entered = [] → (doReturn e (T.setTop f) acts (some (.long z))).1 = T.setFrames fs) : Steps p.tables e below (T.setTop (mkF m pc Ls (.long z :: rest))) (T.setFrames fs) := by
  have hm' : T.vm.method? m = some meth := X.method'
  have hn : narrow .long (.long z) = .long z := rfl
  show Steps p.tables e below (T.setTop { method := m, pc := pc, locals := Ls, stack := _ :: rest, locked := none }) _
  jvm_step X.here [X.here.top, hx, hd, hm', hret, hn]
  first | (intro acts; rw [hl _ acts rfl rfl rfl]) | rw [hl _ _ rfl rfl rfl]
  exact Steps.refl _
end New
end Jvm.RoadKit
/- laws to paste: Road.backV, Road.lenW, Road.chN, Road.empW, Road.codOf (cut by pick.py; bodies as the Statement names them) -/
namespace Jvm.Pilot.@@N@@
namespace StrChars
open Jvm Sem ClassFile Op Lib Jvm.Stand Jvm.Free.XT Jvm.Free.ALB Jvm.Free.JM Jvm.Free
open Jvm.Lib.Cold (StaticIs)
/-- a char array whose places are chars -/
def Ch (a : Addr) (A : Cell) (U : State) : Prop := Arr .char a A U ∧ Typed .char A
theorem Ch.mv {a : Addr} {A : Cell} {U U' : State} (h : Ch a A U) (hal : U.vm.Alike U'.vm) (hh : U'.heap = U.heap) : Ch a A U' := ⟨h.1.mv hal hh, h.2⟩
theorem Ch.keep {a : Addr} {A : Cell} {U U' : State} (h : Ch a A U) (hal : U.vm.Alike U'.vm) (hk : U'.heap[a]? = some A) : Ch a A U' := ⟨h.1.keep hal hk, h.2⟩
/-- what place i of a char[]'s cell holds -/
def cv (A : Cell) (i : Nat) : Int32 := match A.slots[i]? with | some (.int x) => x | _ => 0
theorem Ch.get {a : Addr} {A : Cell} {U : State} (h : Ch a A U) {i : Nat} (hi : i < A.slots.size) : A.slots[i]? = some (.int (cv A i)) := by
  have e := Array.getElem?_eq_getElem hi
  have f := h.2 i _ e
  unfold cv; rw [e]
  generalize A.slots[i] = v at f
  cases v <;> simp [fits] at f ⊢
/-- the byte that i2b leaves of a char -/
def lo8 (x : Int32) : Int32 := x.toInt8.toInt32
theorem fits_lo8 (y : Int32) : fits .byte (.int (lo8 y)) = true := by
  have h1 := y.toInt8.le_toInt
  have h2 := y.toInt8.toInt_lt
  simp only [lo8, fits, Bool.and_eq_true, decide_eq_true_eq, Int32.le_iff_toInt_le, Int8.toInt_toInt32, show (-128 : Int32).toInt = -128 from by decide, show (127 : Int32).toInt = 127 from by decide]
  omega
/-- A' is A but that each place j of lo .. hi - 1 holds f j -/
def Laid (A A' : Cell) (lo hi : Nat) (f : Nat → Value) : Prop := A'.cls = A.cls ∧ A'.vm = A.vm ∧ A'.slots.size = A.slots.size ∧ ∀ i, A'.slots[i]? = if lo ≤ i ∧ i < hi then some (f i) else A.slots[i]?
theorem Laid.zero (A : Cell) (lo : Nat) (f : Nat → Value) : Laid A A lo (lo + 0) f := ⟨rfl, rfl, rfl, fun i => by rw [if_neg (by omega)]⟩
theorem Laid.step {A Ak : Cell} {lo k : Nat} {f : Nat → Value} {v : Value} (h : Laid A Ak lo k f) (hlo : lo ≤ k) (hk : k < Ak.slots.size) (hv : v = f k) : Laid A (Ak.setSlot k v) lo (k + 1) f := by
  refine ⟨h.1, h.2.1, by simpa [Cell.setSlot] using h.2.2.1, fun i => ?_⟩
  by_cases e : k = i
  · subst e; rw [Cell.slots_setSlot_self v hk, if_pos (by omega), hv]
  · rw [Cell.slots_setSlot_ne v e, h.2.2.2 i]
    by_cases q : lo ≤ i ∧ i < k
    · rw [if_pos q, if_pos (by omega)]
    · rw [if_neg q, if_neg (by omega)]
def U16 : String := "java/lang/StringUTF16"
namespace Cmp5
def yN : MethodName := ⟨"java/lang/StringUTF16", "compress", "([CI[BII)I"⟩
abbrev yB : ByteArray := jdk_52_method_21_code
theorem d0 : decode yB 0 = .ok (.iconst 0, 1) := by decide +kernel
theorem d1 : decode yB 1 = .ok (.istore 5, 2) := by decide +kernel
theorem d3 : decode yB 3 = .ok (.iload 5, 2) := by decide +kernel
theorem d5 : decode yB 5 = .ok (.iload 4, 2) := by decide +kernel
theorem d7 : decode yB 7 = .ok (.if_icmp (.ge) 37, 3) := by decide +kernel
theorem d10 : decode yB 10 = .ok (.aload_n 0, 1) := by decide +kernel
theorem d11 : decode yB 11 = .ok (.iload_n 1, 1) := by decide +kernel
theorem d12 : decode yB 12 = .ok (.caload, 1) := by decide +kernel
theorem d13 : decode yB 13 = .ok (.istore 6, 2) := by decide +kernel
theorem d15 : decode yB 15 = .ok (.iload 6, 2) := by decide +kernel
theorem d17 : decode yB 17 = .ok (.sipush 255, 3) := by decide +kernel
theorem d20 : decode yB 20 = .ok (.if_icmp (.le) 6, 3) := by decide +kernel
theorem d26 : decode yB 26 = .ok (.aload_n 2, 1) := by decide +kernel
theorem d27 : decode yB 27 = .ok (.iload_n 3, 1) := by decide +kernel
theorem d28 : decode yB 28 = .ok (.iload 6, 2) := by decide +kernel
theorem d30 : decode yB 30 = .ok (.i2b, 1) := by decide +kernel
theorem d31 : decode yB 31 = .ok (.bastore, 1) := by decide +kernel
theorem d32 : decode yB 32 = .ok (.iinc 1 1, 3) := by decide +kernel
theorem d35 : decode yB 35 = .ok (.iinc 3 1, 3) := by decide +kernel
theorem d38 : decode yB 38 = .ok (.iinc 5 1, 3) := by decide +kernel
theorem d41 : decode yB 41 = .ok (.goto (-38), 3) := by decide +kernel
theorem d44 : decode yB 44 = .ok (.iload 4, 2) := by decide +kernel
theorem d46 : decode yB 46 = .ok (.ireturn, 1) := by decide +kernel
def site : List Cond := []
def tab : Cond := tabOf yN yB 7 (some .int) site
def P (b : Addr) (A : Cell) (d : Addr) (B : Cell) (o q len : Nat) (args : Array Value) (s : State) : Prop := args = #[.ref b, .int (Int32.ofNat o), .ref d, .int (Int32.ofNat q), .int (Int32.ofNat len)] ∧ Ch b A s ∧ Arr .byte d B s ∧ b ≠ d ∧ o + len ≤ A.slots.size ∧ q + len ≤ B.slots.size ∧ ∀ i, i < len → ¬ 255 < cv A (o + i)
def E (b : Addr) (A : Cell) (d : Addr) (B : Cell) (o q len : Nat) (r : Option Value) (s u : State) : Prop := r = some (.int (Int32.ofNat len)) ∧ ∃ B', Put d B' s u ∧ Laid B B' q (q + len) (fun j => Value.int (lo8 (cv A (o + (j - q)))))
/-- no char of the range above 255: len; the places written hold each char's low byte -/
theorem law (l : Launch) (b : Addr) (A : Cell) (d : Addr) (B : Cell) (o q len : Nat) : Law l yN 5 5 0 0 yB 7 (some .int) site (P b A d B o q len) (E b A d B o q len) (copyLocs d q len) 0 0 := by
  refine Law.of_walk (plainFor_of_name (by decide +kernel)) (by decide +kernel) (by decide +kernel) (by decide) (fun _ _ h => by rw [h.1]; rfl) (fun _ U U' hal hh h => ⟨h.1, h.2.1.mv hal hh, h.2.2.1.mv hal hh, h.2.2.2⟩) (fun r U U' V V' h1 hal h2 h => ⟨h.1, h.2.elim fun B' q => ⟨B', q.1.mv h1 h2, q.2⟩⟩) ?_
  intro p e s m args below meth c s₁ X0 hexec hbytes hml hret hlk hnm hown hh0 W hP
  obtain ⟨rfl, hA, hB, hne, l1, l2, hp⟩ := hP
  have c1 : Steps p.tables e below (s₁.setTop (entryFrame m #[.ref b, .int (Int32.ofNat o), .ref d, .int (Int32.ofNat q), .int (Int32.ofNat len)] 7)) (s₁.setTop (mkF m 0 #[.val (.ref b), .val (.int (Int32.ofNat o)), .val (.ref d), .val (.int (Int32.ofNat q)), .val (.int (Int32.ofNat len)), .unset, .unset] [])) := entry rfl
  have hA0 := hA.1.mv X0.warmed.alike hh0
  have hB0 := hB.mv X0.warmed.alike hh0
  have a31 := hA.1.2.2.2
  have c2 : Steps p.tables e below (s₁.setTop (entryFrame m #[.ref b, .int (Int32.ofNat o), .ref d, .int (Int32.ofNat q), .int (Int32.ofNat len)] 7)) (s₁.setTop (mkF m 3 #[.val (.ref b), .val (.int (Int32.ofNat o)), .val (.ref d), .val (.int (Int32.ofNat q)), .val (.int (Int32.ofNat len)), .val (.int 0), .unset] [])) := c1.trans (by
    refine iconstV X0.here hexec rfl 0 (hb hbytes d0) (by decide) ?_
    refine XS.istore X0.here hexec rfl (hb hbytes d1) rfl rfl ?_
    exact Steps.refl _)
  have loop : ∀ (r i : Nat), i + r = len → ∀ (z : Slot), (z = .unset ∨ ∃ w, z = .val w ∧ w.category = 1) → ∀ (Tl : State) (Bk : Cell), Stand p l e { frames := 0, locals := 0, cells := 0, slots := 0 } s m #[.ref b, .int (Int32.ofNat o), .ref d, .int (Int32.ofNat q), .int (Int32.ofNat len)] below meth c Tl ([] ++ copyLocs d q i) 0 0 → Put d Bk s₁ Tl → Laid B Bk q (q + i) (fun j => Value.int (lo8 (cv A (o + (j - q))))) →
      Steps p.tables e below (s₁.setTop (entryFrame m #[.ref b, .int (Int32.ofNat o), .ref d, .int (Int32.ofNat q), .int (Int32.ofNat len)] 7)) (Tl.setTop (mkF m 3 #[.val (.ref b), .val (.int (Int32.ofNat (o + i))), .val (.ref d), .val (.int (Int32.ofNat (q + i))), .val (.int (Int32.ofNat len)), .val (.int (Int32.ofNat i)), z] [])) → ∃ (T' : State) (B' : Cell) (z' : Slot), Stand p l e { frames := 0, locals := 0, cells := 0, slots := 0 } s m #[.ref b, .int (Int32.ofNat o), .ref d, .int (Int32.ofNat q), .int (Int32.ofNat len)] below meth c T' ([] ++ copyLocs d q len) 0 0 ∧ Put d B' s₁ T' ∧ Laid B B' q (q + len) (fun j => Value.int (lo8 (cv A (o + (j - q))))) ∧
      Steps p.tables e below (s₁.setTop (entryFrame m #[.ref b, .int (Int32.ofNat o), .ref d, .int (Int32.ofNat q), .int (Int32.ofNat len)] 7)) (T'.setTop (mkF m 3 #[.val (.ref b), .val (.int (Int32.ofNat (o + len))), .val (.ref d), .val (.int (Int32.ofNat (q + len))), .val (.int (Int32.ofNat len)), .val (.int (Int32.ofNat len)), z'] [])) := by
    intro r
    induction r with
    | zero =>
      intro i hi z hz Tl Bk Xl pl fl cl
      have hil : i = len := by omega
      rw [hil] at Xl fl cl
      exact ⟨Tl, Bk, z, Xl, pl, fl, cl⟩
    | succ r ih =>
      intro i hi z hz Tl Bk Xl pl fl cl
      have all := X0.warmed.alike.symm.trans Xl.warmed.alike
      have hAl := hA0.keep all (pl.other hne hA0.1)
      have hBk := hB0.like all pl.1 fl.1 fl.2.1 fl.2.2.1
      have hlt : q + i < Bk.slots.size := by rw [fl.2.2.1]; omega
      have c3 : Steps p.tables e below (s₁.setTop (entryFrame m #[.ref b, .int (Int32.ofNat o), .ref d, .int (Int32.ofNat q), .int (Int32.ofNat len)] 7)) (Tl.setTop (mkF m 12 #[.val (.ref b), .val (.int (Int32.ofNat (o + i))), .val (.ref d), .val (.int (Int32.ofNat (q + i))), .val (.int (Int32.ofNat len)), .val (.int (Int32.ofNat i)), z] [.int (Int32.ofNat (o + i)), .ref b])) := cl.trans (by
        refine XS.iload Xl.here hexec rfl (hb hbytes d3) rfl ?_
        refine XS.iload Xl.here hexec rfl (hb hbytes d5) rfl ?_
        refine XS.icmpNo Xl.here hexec rfl (hb hbytes d7) rfl (ii_ge_f (lt32 (by omega) (by omega))) ?_
        refine XS.aloadN Xl.here hexec rfl (hb hbytes d10) rfl rfl ?_
        refine XS.iloadN Xl.here hexec rfl (hb hbytes d11) rfl ?_
        exact Steps.refl _)
      have c4 : Steps p.tables e below (s₁.setTop (entryFrame m #[.ref b, .int (Int32.ofNat o), .ref d, .int (Int32.ofNat q), .int (Int32.ofNat len)] 7)) (Tl.setTop (mkF m 13 #[.val (.ref b), .val (.int (Int32.ofNat (o + i))), .val (.ref d), .val (.int (Int32.ofNat (q + i))), .val (.int (Int32.ofNat len)), .val (.int (Int32.ofNat i)), z] [.int (cv A (o + i))])) := c3.trans (by
        refine Xl.aget hexec hAl rfl (hA.get (i := o + i) (by omega)) rfl rfl (hb hbytes d12) ?_
        exact Steps.refl _)
      have c5 : Steps p.tables e below (s₁.setTop (entryFrame m #[.ref b, .int (Int32.ofNat o), .ref d, .int (Int32.ofNat q), .int (Int32.ofNat len)] 7)) (Tl.setTop (mkF m 15 #[.val (.ref b), .val (.int (Int32.ofNat (o + i))), .val (.ref d), .val (.int (Int32.ofNat (q + i))), .val (.int (Int32.ofNat len)), .val (.int (Int32.ofNat i)), .val (.int (cv A (o + i)))] [])) := c4.trans (by
        refine XS.istoreS Xl.here hexec rfl (hb hbytes d13) rfl rfl hz ?_
        exact Steps.refl _)
      have c6 : Steps p.tables e below (s₁.setTop (entryFrame m #[.ref b, .int (Int32.ofNat o), .ref d, .int (Int32.ofNat q), .int (Int32.ofNat len)] 7)) (Tl.setTop (mkF m 31 #[.val (.ref b), .val (.int (Int32.ofNat (o + i))), .val (.ref d), .val (.int (Int32.ofNat (q + i))), .val (.int (Int32.ofNat len)), .val (.int (Int32.ofNat i)), .val (.int (cv A (o + i)))] [.int (lo8 (cv A (o + i))), .int (Int32.ofNat (q + i)), .ref d])) := c5.trans (by
        refine XS.iload Xl.here hexec rfl (hb hbytes d15) rfl ?_
        refine sipushV Xl.here hexec rfl 255 (hb hbytes d17) (by decide) ?_
        refine XS.icmpYes Xl.here hexec rfl (pc0 := 20) rfl (hb hbytes d20) rfl (ii_le_t (hp i (by omega))) (by decide) rfl ?_
        refine XS.aloadN Xl.here hexec rfl (hb hbytes d26) rfl rfl ?_
        refine XS.iloadN Xl.here hexec rfl (hb hbytes d27) rfl ?_
        refine XS.iload Xl.here hexec rfl (hb hbytes d28) rfl ?_
        refine i2b Xl.here hexec rfl (hb hbytes d30) rfl ?_
        exact Steps.refl _)
      obtain ⟨T7, X7, p7, st7⟩ := Xl.aput hexec hBk rfl hlt rfl (fits_lo8 (cv A (o + i))) (g := (mkF m 31 #[.val (.ref b), .val (.int (Int32.ofNat (o + i))), .val (.ref d), .val (.int (Int32.ofNat (q + i))), .val (.int (Int32.ofNat len)), .val (.int (Int32.ofNat i)), .val (.int (cv A (o + i)))] [.int (lo8 (cv A (o + i))), .int (Int32.ofNat (q + i)), .ref d])) rfl (rest := []) rfl (hb hbytes d31)
      have c8 : Steps p.tables e below (s₁.setTop (entryFrame m #[.ref b, .int (Int32.ofNat o), .ref d, .int (Int32.ofNat q), .int (Int32.ofNat len)] 7)) (T7.setTop (mkF m 32 #[.val (.ref b), .val (.int (Int32.ofNat (o + i))), .val (.ref d), .val (.int (Int32.ofNat (q + i))), .val (.int (Int32.ofNat len)), .val (.int (Int32.ofNat i)), .val (.int (cv A (o + i)))] [])) := c6.trans (st7 _ (Steps.refl _))
      have c9 : Steps p.tables e below (s₁.setTop (entryFrame m #[.ref b, .int (Int32.ofNat o), .ref d, .int (Int32.ofNat q), .int (Int32.ofNat len)] 7)) (T7.setTop (mkF m 3 #[.val (.ref b), .val (.int (Int32.ofNat (o + i) + 1)), .val (.ref d), .val (.int (Int32.ofNat (q + i) + 1)), .val (.int (Int32.ofNat len)), .val (.int (Int32.ofNat i + 1)), .val (.int (cv A (o + i)))] [])) := c8.trans (by
        refine iincV X7.here hexec rfl 1 (hb hbytes d32) (by decide) rfl rfl ?_
        refine iincV X7.here hexec rfl 1 (hb hbytes d35) (by decide) rfl rfl ?_
        refine iincV X7.here hexec rfl 1 (hb hbytes d38) (by decide) rfl rfl ?_
        refine XS.goto X7.here hexec rfl (pc0 := 41) rfl (hb hbytes d41) (by decide) rfl ?_
        exact Steps.refl _)
      have c10 : Steps p.tables e below (s₁.setTop (entryFrame m #[.ref b, .int (Int32.ofNat o), .ref d, .int (Int32.ofNat q), .int (Int32.ofNat len)] 7)) (T7.setTop (mkF m 3 #[.val (.ref b), .val (.int (Int32.ofNat (o + (i + 1)))), .val (.ref d), .val (.int (Int32.ofNat (q + (i + 1)))), .val (.int (Int32.ofNat len)), .val (.int (Int32.ofNat (i + 1))), .val (.int (cv A (o + i)))] [])) := by
        have := c9
        rw [succ32, succ32, succ32] at this
        exact this
      exact ih (i + 1) (by omega) _ (Or.inr ⟨_, rfl, rfl⟩) T7 _ (by rw [copyLocs_step, ← List.append_assoc]; exact X7) (pl.trans p7) (fl.step (by omega) hlt (by simp)) c10
  obtain ⟨T9, B9, z9, X9, p9, f9, g9⟩ := loop len 0 (by omega) .unset (Or.inl rfl) s₁ B (by simpa [copyLocs] using X0) ⟨hB0.1, fun _ _ => rfl, rfl⟩ (Laid.zero _ _ _) c2
  have c11 : Steps p.tables e below (s₁.setTop (entryFrame m #[.ref b, .int (Int32.ofNat o), .ref d, .int (Int32.ofNat q), .int (Int32.ofNat len)] 7)) (T9.setTop (mkF m 46 #[.val (.ref b), .val (.int (Int32.ofNat (o + len))), .val (.ref d), .val (.int (Int32.ofNat (q + len))), .val (.int (Int32.ofNat len)), .val (.int (Int32.ofNat len)), z9] [.int (Int32.ofNat len)])) := g9.trans (by
    refine XS.iload X9.here hexec rfl (hb hbytes d3) rfl ?_
    refine XS.iload X9.here hexec rfl (hb hbytes d5) rfl ?_
    refine XS.icmpYes X9.here hexec rfl (pc0 := 7) rfl (hb hbytes d7) rfl (ii_ge_t (nlt32 (by omega) (Nat.le_refl _))) (by decide) rfl ?_
    refine XS.iload X9.here hexec rfl (hb hbytes d44) rfl ?_
    exact Steps.refl _)
  exact ⟨T9, some (.int (Int32.ofNat len)), _, _, _, X9, by simp, rfl, rfl, (fun h => by cases h), ⟨rfl, B9, p9.from hh0, f9⟩, fun fs hl => c11.trans (X9.ireturnOut hexec hret rfl (Or.inl rfl) (hb hbytes d46) hl)⟩
end Cmp5
namespace Cmp3
def yN : MethodName := ⟨"java/lang/StringUTF16", "compress", "([CII)[B"⟩
abbrev yB : ByteArray := jdk_52_method_16_code
theorem d0 : decode yB 0 = .ok (.iload_n 2, 1) := by decide +kernel
theorem d1 : decode yB 1 = .ok (.newarray .byte, 2) := by decide +kernel
theorem d3 : decode yB 3 = .ok (.astore_n 3, 1) := by decide +kernel
theorem d4 : decode yB 4 = .ok (.aload_n 0, 1) := by decide +kernel
theorem d5 : decode yB 5 = .ok (.iload_n 1, 1) := by decide +kernel
theorem d6 : decode yB 6 = .ok (.aload_n 3, 1) := by decide +kernel
theorem d7 : decode yB 7 = .ok (.iconst 0, 1) := by decide +kernel
theorem d8 : decode yB 8 = .ok (.iload_n 2, 1) := by decide +kernel
theorem d9 : decode yB 9 = .ok (.invokestatic 115, 3) := by decide +kernel
theorem d12 : decode yB 12 = .ok (.istore 4, 2) := by decide +kernel
theorem d14 : decode yB 14 = .ok (.iload 4, 2) := by decide +kernel
theorem d16 : decode yB 16 = .ok (.iload_n 2, 1) := by decide +kernel
theorem d17 : decode yB 17 = .ok (.if_icmp (.eq) 40, 3) := by decide +kernel
theorem d57 : decode yB 57 = .ok (.aload_n 3, 1) := by decide +kernel
theorem d58 : decode yB 58 = .ok (.areturn, 1) := by decide +kernel
def site : List Cond := [.arrayClass .byte, Cmp5.tab] ++ staticW U16 115 Cmp5.yN
def tab : Cond := tabOf yN yB 6 (some (.array .byte)) site
def P (b : Addr) (A : Cell) (o len : Nat) (args : Array Value) (s : State) : Prop := args = #[.ref b, .int (Int32.ofNat o), .int (Int32.ofNat len)] ∧ Ch b A s ∧ o + len ≤ A.slots.size ∧ len ≤ 536870912 ∧ ∀ i, i < len → ¬ 255 < cv A (o + i)
def E (b : Addr) (A : Cell) (o len : Nat) (r : Option Value) (s u : State) : Prop := NewArr .byte "[B" len (fun j => .int (lo8 (cv A (o + j)))) r s u ∧ u.heap.size = s.heap.size + 1
/-- no char of the range above 255: a new byte[] of their low bytes -/
theorem law (l : Launch) (b : Addr) (A : Cell) (o len : Nat) : Law l yN 3 3 1 18 yB 6 (some (.array .byte)) site (P b A o len) (E b A o len) [] 1 len := by
  refine Law.of_walk (plainFor_of_name (by decide +kernel)) (by decide +kernel) (by decide +kernel) (by decide) (fun _ _ h => by rw [h.1]; rfl) (fun _ U U' hal hh h => ⟨h.1, h.2.1.mv hal hh, h.2.2⟩) (fun r U U' V V' h1 hal h2 h => ⟨NewArr.mv r U U' V V' h1 hal h2 h.1, by rw [h1, h2]; exact h.2⟩) ?_
  intro p e s m args below meth c s₁ X0 hexec hbytes hml hret hlk hnm hown hh0 W hP
  obtain ⟨rfl, hA, l1, l2, hp⟩ := hP
  have a31 := hA.1.2.2.2
  have c1 : Steps p.tables e below (s₁.setTop (entryFrame m #[.ref b, .int (Int32.ofNat o), .int (Int32.ofNat len)] 6)) (s₁.setTop (mkF m 0 #[.val (.ref b), .val (.int (Int32.ofNat o)), .val (.int (Int32.ofNat len)), .unset, .unset, .unset] [])) := entry rfl
  have c2 : Steps p.tables e below (s₁.setTop (entryFrame m #[.ref b, .int (Int32.ofNat o), .int (Int32.ofNat len)] 6)) (s₁.setTop (mkF m 1 #[.val (.ref b), .val (.int (Int32.ofNat o)), .val (.int (Int32.ofNat len)), .unset, .unset, .unset] [.int (Int32.ofNat len)])) := c1.trans (by
    refine XS.iloadN X0.here hexec rfl (hb hbytes d0) rfl ?_
    exact Steps.refl _)
  obtain ⟨T3, B3, X3, ba3, bs3, bv3, bh3, bf3, st3⟩ := X0.anew hexec (atype := .byte) (wk W (.arrayClass .byte)) rfl (by show len * 1 ≤ _; omega) (by omega) (g := (mkF m 1 #[.val (.ref b), .val (.int (Int32.ofNat o)), .val (.int (Int32.ofNat len)), .unset, .unset, .unset] [.int (Int32.ofNat len)])) rfl (hb hbytes d1) (rest := []) rfl (Nat.le_refl _) (by show 0 + len ≤ len; omega)
  rw [hh0] at ba3 st3
  have kp3 : XT.Kept s T3 := (XT.Kept.of_eq hh0).push bh3
  have hA3 := hA.keep X3.warmed.alike (kp3 _ _ hA.1.1)
  have hne : b ≠ s.heap.size := hA.1.ne
  have c4 : Steps p.tables e below (s₁.setTop (entryFrame m #[.ref b, .int (Int32.ofNat o), .int (Int32.ofNat len)] 6)) (T3.setTop (mkF m 3 #[.val (.ref b), .val (.int (Int32.ofNat o)), .val (.int (Int32.ofNat len)), .unset, .unset, .unset] [.ref s.heap.size])) := c2.trans (st3 _ (Steps.refl _))
  have c5 : Steps p.tables e below (s₁.setTop (entryFrame m #[.ref b, .int (Int32.ofNat o), .int (Int32.ofNat len)] 6)) (T3.setTop (mkF m 9 #[.val (.ref b), .val (.int (Int32.ofNat o)), .val (.int (Int32.ofNat len)), .val (.ref s.heap.size), .unset, .unset] [.int (Int32.ofNat len), .int 0, .ref s.heap.size, .int (Int32.ofNat o), .ref b])) := c4.trans (by
    refine XS.astoreN X3.here hexec rfl (hb hbytes d3) rfl rfl rfl ?_
    refine XS.aloadN X3.here hexec rfl (hb hbytes d4) rfl rfl ?_
    refine XS.iloadN X3.here hexec rfl (hb hbytes d5) rfl ?_
    refine XS.aloadN X3.here hexec rfl (hb hbytes d6) rfl rfl ?_
    refine iconstV X3.here hexec rfl 0 (hb hbytes d7) (by decide) ?_
    refine XS.iloadN X3.here hexec rfl (hb hbytes d8) rfl ?_
    exact Steps.refl _)
  obtain ⟨v6, T6, X6, E6, g6⟩ := X3.callS hexec (Cmp5.law l b A s.heap.size B3 o 0 len) hown (wks W (staticW U16 115 Cmp5.yN)) (wk W Cmp5.tab) (W := 0) (Nat.le_of_ble_eq_true rfl) (Nat.le_of_ble_eq_true rfl) (Nat.le_refl _) (by show 0 + len + 0 ≤ len; omega) (g := (mkF m 9 #[.val (.ref b), .val (.int (Int32.ofNat o)), .val (.int (Int32.ofNat len)), .val (.ref s.heap.size), .unset, .unset] [.int (Int32.ofNat len), .int (Int32.ofNat 0), .ref s.heap.size, .int (Int32.ofNat o), .ref b])) rfl (by rw [hml]; rfl) c5 (argsL := [.ref b, .int (Int32.ofNat o), .ref s.heap.size, .int (Int32.ofNat 0), .int (Int32.ofNat len)]) (rest := []) rfl rfl (by show 2 * 0 + 0 ≤ _; decide) (hb hbytes d9) (⟨rfl, hA3, ba3, hne, l1, by rw [bs3]; simp, hp⟩)
  obtain ⟨rfl, B6, p6, f6⟩ := E6
  have c7 : Steps p.tables e below (s₁.setTop (entryFrame m #[.ref b, .int (Int32.ofNat o), .int (Int32.ofNat len)] 6)) (T6.setTop (mkF m 12 #[.val (.ref b), .val (.int (Int32.ofNat o)), .val (.int (Int32.ofNat len)), .val (.ref s.heap.size), .unset, .unset] [.int (Int32.ofNat len)])) := g6
  have c8 : Steps p.tables e below (s₁.setTop (entryFrame m #[.ref b, .int (Int32.ofNat o), .int (Int32.ofNat len)] 6)) (T6.setTop (mkF m 58 #[.val (.ref b), .val (.int (Int32.ofNat o)), .val (.int (Int32.ofNat len)), .val (.ref s.heap.size), .val (.int (Int32.ofNat len)), .unset] [.ref s.heap.size])) := c7.trans (by
    refine XS.istore X6.here hexec rfl (hb hbytes d12) rfl rfl ?_
    refine XS.iload X6.here hexec rfl (hb hbytes d14) rfl ?_
    refine XS.iloadN X6.here hexec rfl (hb hbytes d16) rfl ?_
    refine XS.icmpYes X6.here hexec rfl (pc0 := 17) rfl (hb hbytes d17) rfl (ii_eq_t rfl) (by decide) rfl ?_
    refine XS.aloadN X6.here hexec rfl (hb hbytes d57) rfl rfl ?_
    exact Steps.refl _)
  have X8 := X6.wide (L' := []) (cells' := 1) (slots' := len) (fun x hx hlt => by
    simp only [List.nil_append, copyLocs, List.mem_map, List.mem_range] at hx
    obtain ⟨i, -, rfl⟩ := hx
    exact absurd hlt (Nat.lt_irrefl _)) (Nat.le_refl _) (by omega)
  exact ⟨T6, some (.ref s.heap.size), _, _, _, X8, rfl, rfl, rfl, (fun h => by cases h), ⟨⟨rfl, B6, ba3.like (X3.warmed.alike.symm.trans X6.warmed.alike) p6.1 f6.1 f6.2.1 f6.2.2.1, f6.2.1.trans bv3, by rw [X6.warmed.alike.findClass, f6.1]; exact bf3, by rw [f6.2.2.1, bs3]; simp, fun j hj => by rw [f6.2.2.2 j, if_pos (by omega)]; rfl, kp3.put p6 (Nat.le_refl _)⟩, by rw [p6.2.2, bh3, hh0]; simp⟩, fun fs hl => c8.trans (X8.areturnOut hexec rfl hret rfl (hb hbytes d58) hl)⟩
end Cmp3
namespace CodL
def yN : MethodName := ⟨"java/lang/StringUTF16", "coderFromArrayLen", "([BI)B"⟩
abbrev yB : ByteArray := jdk_52_method_15_code
theorem d0 : decode yB 0 = .ok (.iload_n 1, 1) := by decide +kernel
theorem d1 : decode yB 1 = .ok (.aload_n 0, 1) := by decide +kernel
theorem d2 : decode yB 2 = .ok (.arraylength, 1) := by decide +kernel
theorem d3 : decode yB 3 = .ok (.isub, 1) := by decide +kernel
theorem d4 : decode yB 4 = .ok (.bipush 31, 2) := by decide +kernel
theorem d6 : decode yB 6 = .ok (.iushr, 1) := by decide +kernel
theorem d7 : decode yB 7 = .ok (.i2b, 1) := by decide +kernel
theorem d8 : decode yB 8 = .ok (.ireturn, 1) := by decide +kernel
def site : List Cond := []
def tab : Cond := tabOf yN yB 2 (some .byte) site
def P (d : Addr) (B : Cell) (args : Array Value) (s : State) : Prop := args = #[.ref d, .int (Int32.ofNat B.slots.size)] ∧ Arr .byte d B s
def E (r : Option Value) (s u : State) : Prop := XT.PureE (some (.int 0)) r s u
/-- an array as long as the number of chars: LATIN1 -/
theorem law (l : Launch) (d : Addr) (B : Cell) : Law l yN 2 2 0 0 yB 2 (some .byte) site (P d B) E [] 0 0 := by
  refine Law.of_walk (plainFor_of_name (by decide +kernel)) (by decide +kernel) (by decide +kernel) (by decide) (fun _ _ h => by rw [h.1]; rfl) (fun _ U U' hal hh h => ⟨h.1, h.2.mv hal hh⟩) (fun r U U' V V' h1 hal h2 h => XT.PureE.mv r U U' V V' h1 hal h2 h) ?_
  intro p e s m args below meth c s₁ X0 hexec hbytes hml hret hlk hnm hown hh0 W hP
  obtain ⟨rfl, hB⟩ := hP
  have hB0 := hB.mv X0.warmed.alike hh0
  have c1 : Steps p.tables e below (s₁.setTop (entryFrame m #[.ref d, .int (Int32.ofNat B.slots.size)] 2)) (s₁.setTop (mkF m 0 #[.val (.ref d), .val (.int (Int32.ofNat B.slots.size))] [])) := entry rfl
  have c2 : Steps p.tables e below (s₁.setTop (entryFrame m #[.ref d, .int (Int32.ofNat B.slots.size)] 2)) (s₁.setTop (mkF m 2 #[.val (.ref d), .val (.int (Int32.ofNat B.slots.size))] [.ref d, .int (Int32.ofNat B.slots.size)])) := c1.trans (by
    refine XS.iloadN X0.here hexec rfl (hb hbytes d0) rfl ?_
    refine XS.aloadN X0.here hexec rfl (hb hbytes d1) rfl rfl ?_
    exact Steps.refl _)
  have c3 : Steps p.tables e below (s₁.setTop (entryFrame m #[.ref d, .int (Int32.ofNat B.slots.size)] 2)) (s₁.setTop (mkF m 8 #[.val (.ref d), .val (.int (Int32.ofNat B.slots.size))] [.int (lo8 (ushr (Int32.ofNat B.slots.size - Int32.ofNat B.slots.size) 31))])) := c2.trans (by
    refine X0.alen hexec hB0 rfl rfl (hb hbytes d2) ?_
    refine XS.isub X0.here hexec rfl (hb hbytes d3) rfl ?_
    refine bipushV X0.here hexec rfl 31 (hb hbytes d4) (by decide) ?_
    refine iushr X0.here hexec rfl (hb hbytes d6) rfl ?_
    refine i2b X0.here hexec rfl (hb hbytes d7) rfl ?_
    exact Steps.refl _)
  have e0 : lo8 (ushr (Int32.ofNat B.slots.size - Int32.ofNat B.slots.size) 31) = 0 := by rw [Int32.sub_self]; decide
  rw [e0] at c3
  exact ⟨s₁, some (.int 0), _, _, _, X0, rfl, rfl, rfl, (fun h => by cases h), ⟨rfl, hh0⟩, fun fs hl => c3.trans (X0.ireturnOut hexec hret rfl (Or.inr (Or.inr (Or.inl rfl))) (hb hbytes d8) hl)⟩
end CodL
/-- the String at a is Latin-1 over a new byte[] (the heap's one new cell): the low bytes of the len chars of A from o on; every cell but a is kept -/
def Got (a : Addr) (D : Cell) (fV fC : Field) (A : Cell) (o len : Nat) (r : Option Value) (s u : State) : Prop := r = none ∧ ∃ D' V : Cell, Blank "java/lang/String" a D' u ∧ Same D D' [fV.slot, fC.slot] ∧ D'.slots[fV.slot]? = some (.ref s.heap.size) ∧ D'.slots[fC.slot]? = some (.int 0) ∧ Arr .byte s.heap.size V u ∧ V.vm = .none ∧ u.vm.findClass "[B" = some V.cls ∧ V.slots.size = len ∧ (∀ j, j < len → V.slots[j]? = some (.int (lo8 (cv A (o + j))))) ∧ (∀ (y : Addr) (c : Cell), y ≠ a → s.heap[y]? = some c → u.heap[y]? = some c) ∧ u.heap.size = s.heap.size + 1
theorem Got.mv {a : Addr} {D A : Cell} {fV fC : Field} {o len : Nat} : ∀ r (U U' V V' : State), U'.heap = U.heap → V.vm.Alike V'.vm → V'.heap = V.heap → Got a D fV fC A o len r U V → Got a D fV fC A o len r U' V' :=
  fun r U U' V V' h1 hal h2 ⟨e0, D', X, a1, a2, a3, a4, a5, a6, a7, a8, a9, a10, a11⟩ => ⟨e0, D', X, a1.mv hal h2, a2, by rw [h1]; exact a3, a4, by rw [h1]; exact a5.mv hal h2, a6, by rw [hal.findClass]; exact a7, a8, a9, by rw [h1, h2]; exact a10, by rw [h1, h2]; exact a11⟩
namespace New4
def yN : MethodName := ⟨"java/lang/String", "<init>", "([CIILjava/lang/Void;)V"⟩
abbrev yB : ByteArray := jdk_42_method_149_code
theorem d0 : decode yB 0 = .ok (.aload_n 0, 1) := by decide +kernel
theorem d1 : decode yB 1 = .ok (.invokespecial 1, 3) := by decide +kernel
theorem d4 : decode yB 4 = .ok (.iload_n 3, 1) := by decide +kernel
theorem d5 : decode yB 5 = .ok (.ifCond (.ne) 22, 3) := by decide +kernel
theorem d27 : decode yB 27 = .ok (.getstatic 38, 3) := by decide +kernel
theorem d30 : decode yB 30 = .ok (.ifCond (.eq) 28, 3) := by decide +kernel
theorem d33 : decode yB 33 = .ok (.aload_n 1, 1) := by decide +kernel
theorem d34 : decode yB 34 = .ok (.iload_n 2, 1) := by decide +kernel
theorem d35 : decode yB 35 = .ok (.iload_n 3, 1) := by decide +kernel
theorem d36 : decode yB 36 = .ok (.invokestatic 177, 3) := by decide +kernel
theorem d39 : decode yB 39 = .ok (.astore 5, 2) := by decide +kernel
theorem d41 : decode yB 41 = .ok (.aload_n 0, 1) := by decide +kernel
theorem d42 : decode yB 42 = .ok (.aload 5, 2) := by decide +kernel
theorem d44 : decode yB 44 = .ok (.iload_n 3, 1) := by decide +kernel
theorem d45 : decode yB 45 = .ok (.invokestatic 47, 3) := by decide +kernel
theorem d48 : decode yB 48 = .ok (.putfield 15, 3) := by decide +kernel
theorem d51 : decode yB 51 = .ok (.aload_n 0, 1) := by decide +kernel
theorem d52 : decode yB 52 = .ok (.aload 5, 2) := by decide +kernel
theorem d54 : decode yB 54 = .ok (.putfield 9, 3) := by decide +kernel
theorem d57 : decode yB 57 = .ok (.return_, 1) := by decide +kernel
def site : List Cond := [.fieldLink "java/lang/String" 38 "java/lang/String" "COMPACT_STRINGS" "Z", Cmp3.tab, CodL.tab, .laysFinal "java/lang/String" "java/lang/String" "value" "[B", .fieldLink "java/lang/String" 9 "java/lang/String" "value" "[B", .laysFinal "java/lang/String" "java/lang/String" "coder" "B", .fieldLink "java/lang/String" 15 "java/lang/String" "coder" "B"] ++ objW "java/lang/String" 1 ++ staticW "java/lang/String" 177 Cmp3.yN ++ staticW "java/lang/String" 47 CodL.yN
def tab : Cond := tabOf yN yB 6 none site
def P (a : Addr) (D : Cell) (fV fC : Field) (b : Addr) (A : Cell) (z : Int32) (o len : Nat) (args : Array Value) (s : State) : Prop := args = #[.ref a, .ref b, .int (Int32.ofNat o), .int (Int32.ofNat len), .null] ∧ Blank "java/lang/String" a D s ∧ Found "java/lang/String" "value" "[B" fV s ∧ Found "java/lang/String" "coder" "B" fC s ∧ Ch b A s ∧ StaticIs s "java/lang/String" "COMPACT_STRINGS" "Z" (.int z) ∧ ¬ z = 0 ∧ 0 < len ∧ o + len ≤ A.slots.size ∧ len ≤ 536870912 ∧ ∀ i, i < len → ¬ 255 < cv A (o + i)
def E (a : Addr) (D : Cell) (fV fC : Field) (A : Cell) (o len : Nat) (r : Option Value) (s u : State) : Prop := Got a D fV fC A o len r s u
/-- len > 0, no char of the range above 255: a Latin-1 String of their low bytes -/
theorem law (l : Launch) (a : Addr) (D : Cell) (fV fC : Field) (b : Addr) (A : Cell) (z : Int32) (o len : Nat) : Law l yN 5 4 2 35 yB 6 none site (P a D fV fC b A z o len) (E a D fV fC A o len) [⟨a, fC.slot⟩, ⟨a, fV.slot⟩] 1 len := by
  refine Law.of_walk (plainFor_of_name (by decide +kernel)) (by decide +kernel) (by decide +kernel) (by decide) (fun _ _ h => by rw [h.1]; rfl) (fun _ U U' hal hh h => ⟨h.1, h.2.1.mv hal hh, h.2.2.1.al hal, h.2.2.2.1.al hal, h.2.2.2.2.1.mv hal hh, h.2.2.2.2.2.1.there hal hh, h.2.2.2.2.2.2⟩) (fun r U U' V V' h1 hal h2 h => Got.mv r U U' V V' h1 hal h2 h) ?_
  intro p e s m args below meth c s₁ X0 hexec hbytes hml hret hlk hnm hown hh0 W hP
  obtain ⟨rfl, hB, f1, f2, hA, s1, hz, l0, l1, l2, hp⟩ := hP
  have a31 := hA.1.2.2.2
  have c1 : Steps p.tables e below (s₁.setTop (entryFrame m #[.ref a, .ref b, .int (Int32.ofNat o), .int (Int32.ofNat len), .null] 6)) (s₁.setTop (mkF m 0 #[.val (.ref a), .val (.ref b), .val (.int (Int32.ofNat o)), .val (.int (Int32.ofNat len)), .val .null, .unset] [])) := entry rfl
  have c2 : Steps p.tables e below (s₁.setTop (entryFrame m #[.ref a, .ref b, .int (Int32.ofNat o), .int (Int32.ofNat len), .null] 6)) (s₁.setTop (mkF m 1 #[.val (.ref a), .val (.ref b), .val (.int (Int32.ofNat o)), .val (.int (Int32.ofNat len)), .val .null, .unset] [.ref a])) := c1.trans (by
    refine XS.aloadN X0.here hexec rfl (hb hbytes d0) rfl rfl ?_
    exact Steps.refl _)
  obtain ⟨T3, X3, q3, st3⟩ := X0.oinit hexec hown (wks W (objW "java/lang/String" 1)) (g := (mkF m 1 #[.val (.ref a), .val (.ref b), .val (.int (Int32.ofNat o)), .val (.int (Int32.ofNat len)), .val .null, .unset] [.ref a])) rfl (by rw [hml]; rfl) (rest := []) rfl (hb hbytes d1) (W := 0) (by show 2 * 0 + 0 ≤ _; decide) (Nat.le_of_ble_eq_true rfl) (Nat.le_of_ble_eq_true rfl)
  have hh3 := q3.trans hh0
  have c4 : Steps p.tables e below (s₁.setTop (entryFrame m #[.ref a, .ref b, .int (Int32.ofNat o), .int (Int32.ofNat len), .null] 6)) (T3.setTop (mkF m 27 #[.val (.ref a), .val (.ref b), .val (.int (Int32.ofNat o)), .val (.int (Int32.ofNat len)), .val .null, .unset] [])) := (c2.trans (st3 _ (Steps.refl _))).trans (by
    refine XS.iloadN X3.here hexec rfl (hb hbytes d4) rfl ?_
    refine XS.ifYes X3.here hexec rfl (pc0 := 5) rfl (hb hbytes d5) rfl (i0_ne_t (nz32 (by omega) l0)) (by decide) rfl ?_
    exact Steps.refl _)
  obtain ⟨T5, X5, q5, st5⟩ := X3.sget hexec hown (wk W (.fieldLink "java/lang/String" 38 "java/lang/String" "COMPACT_STRINGS" "Z")) s1 (fun _ _ h => by rw [hh3]; exact h) (g := (mkF m 27 #[.val (.ref a), .val (.ref b), .val (.int (Int32.ofNat o)), .val (.int (Int32.ofNat len)), .val .null, .unset] [])) rfl (hb hbytes d27)
  have hh5 := q5.trans hh3
  have c6 : Steps p.tables e below (s₁.setTop (entryFrame m #[.ref a, .ref b, .int (Int32.ofNat o), .int (Int32.ofNat len), .null] 6)) (T5.setTop (mkF m 30 #[.val (.ref a), .val (.ref b), .val (.int (Int32.ofNat o)), .val (.int (Int32.ofNat len)), .val .null, .unset] [.int z])) := c4.trans (st5 _ (Steps.refl _))
  have c7 : Steps p.tables e below (s₁.setTop (entryFrame m #[.ref a, .ref b, .int (Int32.ofNat o), .int (Int32.ofNat len), .null] 6)) (T5.setTop (mkF m 36 #[.val (.ref a), .val (.ref b), .val (.int (Int32.ofNat o)), .val (.int (Int32.ofNat len)), .val .null, .unset] [.int (Int32.ofNat len), .int (Int32.ofNat o), .ref b])) := c6.trans (by
    refine XS.ifNo X5.here hexec rfl (hb hbytes d30) rfl (i0_eq_f hz) ?_
    refine XS.aloadN X5.here hexec rfl (hb hbytes d33) rfl rfl ?_
    refine XS.iloadN X5.here hexec rfl (hb hbytes d34) rfl ?_
    refine XS.iloadN X5.here hexec rfl (hb hbytes d35) rfl ?_
    exact Steps.refl _)
  obtain ⟨v8, T8, X8, E8, g8⟩ := X5.callS hexec (Cmp3.law l b A o len) hown (wks W (staticW "java/lang/String" 177 Cmp3.yN)) (wk W Cmp3.tab) (W := 0) (Nat.le_of_ble_eq_true rfl) (Nat.le_of_ble_eq_true rfl) (Nat.le_refl _) (by show 0 + len ≤ len; omega) (g := (mkF m 36 #[.val (.ref a), .val (.ref b), .val (.int (Int32.ofNat o)), .val (.int (Int32.ofNat len)), .val .null, .unset] [.int (Int32.ofNat len), .int (Int32.ofNat o), .ref b])) rfl (by rw [hml]; rfl) c7 (argsL := [.ref b, .int (Int32.ofNat o), .int (Int32.ofNat len)]) (rest := []) rfl rfl (by show 2 * 0 + 0 ≤ _; decide) (hb hbytes d36) (⟨rfl, hA.mv X5.warmed.alike hh5, l1, l2, hp⟩)
  obtain ⟨e8, z8⟩ := E8
  obtain ⟨rfl, N, n1, n2, n3, n4, n5, n6⟩ := NewArr.mv _ T5 s _ _ hh5.symm (Vm.Alike.refl _) rfl e8
  rw [hh5] at z8
  have hB1 := hB.keep X8.warmed.alike (n6 _ _ hB.1)
  have hne : s.heap.size ≠ a := (Nat.ne_of_lt (Array.getElem?_eq_some_iff.mp hB.1).1).symm
  have c9 : Steps p.tables e below (s₁.setTop (entryFrame m #[.ref a, .ref b, .int (Int32.ofNat o), .int (Int32.ofNat len), .null] 6)) (T8.setTop (mkF m 39 #[.val (.ref a), .val (.ref b), .val (.int (Int32.ofNat o)), .val (.int (Int32.ofNat len)), .val .null, .unset] [.ref s.heap.size])) := g8
  have c10 : Steps p.tables e below (s₁.setTop (entryFrame m #[.ref a, .ref b, .int (Int32.ofNat o), .int (Int32.ofNat len), .null] 6)) (T8.setTop (mkF m 45 #[.val (.ref a), .val (.ref b), .val (.int (Int32.ofNat o)), .val (.int (Int32.ofNat len)), .val .null, .val (.ref s.heap.size)] [.int (Int32.ofNat N.slots.size), .ref s.heap.size, .ref a])) := by
    have hc : Steps p.tables e below (s₁.setTop (entryFrame m #[.ref a, .ref b, .int (Int32.ofNat o), .int (Int32.ofNat len), .null] 6)) (T8.setTop (mkF m 45 #[.val (.ref a), .val (.ref b), .val (.int (Int32.ofNat o)), .val (.int (Int32.ofNat len)), .val .null, .val (.ref s.heap.size)] [.int (Int32.ofNat len), .ref s.heap.size, .ref a])) := c9.trans (by
      refine XS.astore X8.here hexec rfl (hb hbytes d39) rfl rfl rfl ?_
      refine XS.aloadN X8.here hexec rfl (hb hbytes d41) rfl rfl ?_
      refine XS.aload X8.here hexec rfl (hb hbytes d42) rfl rfl ?_
      refine XS.iloadN X8.here hexec rfl (hb hbytes d44) rfl ?_
      exact Steps.refl _)
    rw [n4]; exact hc
  obtain ⟨v11, T11, X11, E11, g11⟩ := X8.callS hexec (CodL.law l s.heap.size N) hown (wks W (staticW "java/lang/String" 47 CodL.yN)) (wk W CodL.tab) (W := 1) (Nat.le_of_ble_eq_true rfl) (Nat.le_of_ble_eq_true rfl) (Nat.le_refl _) (by show 0 + len + 0 ≤ len; omega) (g := (mkF m 45 #[.val (.ref a), .val (.ref b), .val (.int (Int32.ofNat o)), .val (.int (Int32.ofNat len)), .val .null, .val (.ref s.heap.size)] [.int (Int32.ofNat N.slots.size), .ref s.heap.size, .ref a])) rfl (by rw [hml]; rfl) c10 (argsL := [.ref s.heap.size, .int (Int32.ofNat N.slots.size)]) (rest := [.ref a]) rfl rfl (by show 2 * 0 + (1 + 0) ≤ _; decide) (hb hbytes d45) (⟨rfl, n1⟩)
  obtain ⟨rfl, q11⟩ := E11
  have hB11 := hB1.mv (X8.warmed.alike.symm.trans X11.warmed.alike) q11
  have c12 : Steps p.tables e below (s₁.setTop (entryFrame m #[.ref a, .ref b, .int (Int32.ofNat o), .int (Int32.ofNat len), .null] 6)) (T11.setTop (mkF m 48 #[.val (.ref a), .val (.ref b), .val (.int (Int32.ofNat o)), .val (.int (Int32.ofNat len)), .val .null, .val (.ref s.heap.size)] [.int 0, .ref a])) := g11
  obtain ⟨T13, X13, p13, bl13, sl13, st13⟩ := X11.finit hexec hown (wk W (.fieldLink "java/lang/String" 15 "java/lang/String" "coder" "B")) (Or.inr ⟨_, (wk W (.laysFinal "java/lang/String" "java/lang/String" "coder" "B"))⟩) (Or.inl ⟨rfl, hnm⟩) f2 (Or.inl rfl) hB11 (t := .byte) (by decide +kernel) rfl (g := (mkF m 48 #[.val (.ref a), .val (.ref b), .val (.int (Int32.ofNat o)), .val (.int (Int32.ofNat len)), .val .null, .val (.ref s.heap.size)] [.int 0, .ref a])) rfl (rest := []) rfl (hb hbytes d48)
  have c14 : Steps p.tables e below (s₁.setTop (entryFrame m #[.ref a, .ref b, .int (Int32.ofNat o), .int (Int32.ofNat len), .null] 6)) (T13.setTop (mkF m 54 #[.val (.ref a), .val (.ref b), .val (.int (Int32.ofNat o)), .val (.int (Int32.ofNat len)), .val .null, .val (.ref s.heap.size)] [.ref s.heap.size, .ref a])) := (c12.trans (st13 _ (Steps.refl _))).trans (by
    refine XS.aloadN X13.here hexec rfl (hb hbytes d51) rfl rfl ?_
    refine XS.aload X13.here hexec rfl (hb hbytes d52) rfl rfl ?_
    exact Steps.refl _)
  obtain ⟨T15, X15, p15, bl15, sl15, st15⟩ := X13.finit hexec hown (wk W (.fieldLink "java/lang/String" 9 "java/lang/String" "value" "[B")) (Or.inr ⟨_, (wk W (.laysFinal "java/lang/String" "java/lang/String" "value" "[B"))⟩) (Or.inl ⟨rfl, hnm⟩) f1 (Or.inl rfl) bl13 (t := (.array .byte)) (by decide +kernel) rfl (g := (mkF m 54 #[.val (.ref a), .val (.ref b), .val (.int (Int32.ofNat o)), .val (.int (Int32.ofNat len)), .val .null, .val (.ref s.heap.size)] [.ref s.heap.size, .ref a])) rfl (rest := []) rfl (hb hbytes d54)
  have c16 : Steps p.tables e below (s₁.setTop (entryFrame m #[.ref a, .ref b, .int (Int32.ofNat o), .int (Int32.ofNat len), .null] 6)) (T15.setTop (mkF m 57 #[.val (.ref a), .val (.ref b), .val (.int (Int32.ofNat o)), .val (.int (Int32.ofNat len)), .val .null, .val (.ref s.heap.size)] [])) := c14.trans (st15 _ (Steps.refl _))
  have ap := apart (Or.inr ⟨_, (wk W (.laysFinal "java/lang/String" "java/lang/String" "value" "[B"))⟩) (Or.inr ⟨_, (wk W (.laysFinal "java/lang/String" "java/lang/String" "coder" "B"))⟩) f1 f2 (t₁ := .array .byte) (t₂ := .byte) (by decide +kernel) (by decide +kernel) (by decide)
  have al := X8.warmed.alike.symm.trans X15.warmed.alike
  have n7 : T11.heap[s.heap.size]? = some N := by rw [q11]; exact n1.1
  exact ⟨T15, none, _, _, _, X15, by simp, rfl, by omega, (fun _ => rfl), ⟨rfl, _, N, bl15, ((Same.refl D _).set _ (by simp)).set _ (by simp), sl15, (Cell.slots_setSlot_ne _ ap).trans sl13, n1.keep al (p15.other hne (p13.other hne n7)), n2, by rw [al.findClass]; exact n3, n4, n5, fun y c h1 h2 => p15.other h1 (p13.other h1 (by rw [q11]; exact n6 y c h2)), by rw [p15.2.2, p13.2.2, q11]; exact z8⟩, fun fs hl => c16.trans (X15.returnOut hexec hret (hb hbytes d57) hl)⟩
end New4
namespace New1
def yN : MethodName := ⟨"java/lang/String", "<init>", "([C)V"⟩
abbrev yB : ByteArray := jdk_42_method_3_code
theorem d0 : decode yB 0 = .ok (.aload_n 0, 1) := by decide +kernel
theorem d1 : decode yB 1 = .ok (.aload_n 1, 1) := by decide +kernel
theorem d2 : decode yB 2 = .ok (.iconst 0, 1) := by decide +kernel
theorem d3 : decode yB 3 = .ok (.aload_n 1, 1) := by decide +kernel
theorem d4 : decode yB 4 = .ok (.arraylength, 1) := by decide +kernel
theorem d5 : decode yB 5 = .ok (.aconst_null, 1) := by decide +kernel
theorem d6 : decode yB 6 = .ok (.invokespecial 27, 3) := by decide +kernel
theorem d9 : decode yB 9 = .ok (.return_, 1) := by decide +kernel
def site : List Cond := [New4.tab] ++ initW "java/lang/String" 27 New4.yN
def tab : Cond := tabOf yN yB 2 none site
def P (a : Addr) (D : Cell) (fV fC : Field) (b : Addr) (A : Cell) (z : Int32) (args : Array Value) (s : State) : Prop := args = #[.ref a, .ref b] ∧ Blank "java/lang/String" a D s ∧ Found "java/lang/String" "value" "[B" fV s ∧ Found "java/lang/String" "coder" "B" fC s ∧ Ch b A s ∧ StaticIs s "java/lang/String" "COMPACT_STRINGS" "Z" (.int z) ∧ ¬ z = 0 ∧ 0 < A.slots.size ∧ A.slots.size ≤ 536870912 ∧ ∀ i, i < A.slots.size → ¬ 255 < cv A i
def E (a : Addr) (D : Cell) (fV fC : Field) (A : Cell) (r : Option Value) (s u : State) : Prop := Got a D fV fC A 0 A.slots.size r s u
/-- new String(chars), not empty, no char above 255: a Latin-1 String of their low bytes -/
theorem law (l : Launch) (a : Addr) (D : Cell) (fV fC : Field) (b : Addr) (A : Cell) (z : Int32) : Law l yN 2 1 3 52 yB 2 none site (P a D fV fC b A z) (E a D fV fC A) [⟨a, fC.slot⟩, ⟨a, fV.slot⟩] 1 A.slots.size := by
  refine Law.of_walk (plainFor_of_name (by decide +kernel)) (by decide +kernel) (by decide +kernel) (by decide) (fun _ _ h => by rw [h.1]; rfl) (fun _ U U' hal hh h => ⟨h.1, h.2.1.mv hal hh, h.2.2.1.al hal, h.2.2.2.1.al hal, h.2.2.2.2.1.mv hal hh, h.2.2.2.2.2.1.there hal hh, h.2.2.2.2.2.2⟩) (fun r U U' V V' h1 hal h2 h => Got.mv r U U' V V' h1 hal h2 h) ?_
  intro p e s m args below meth c s₁ X0 hexec hbytes hml hret hlk hnm hown hh0 W hP
  obtain ⟨rfl, hB, f1, f2, hA, s1, hz, l0, l2, hp⟩ := hP
  have c1 : Steps p.tables e below (s₁.setTop (entryFrame m #[.ref a, .ref b] 2)) (s₁.setTop (mkF m 0 #[.val (.ref a), .val (.ref b)] [])) := entry rfl
  have c2 : Steps p.tables e below (s₁.setTop (entryFrame m #[.ref a, .ref b] 2)) (s₁.setTop (mkF m 6 #[.val (.ref a), .val (.ref b)] [.null, .int (Int32.ofNat A.slots.size), .int 0, .ref b, .ref a])) := c1.trans (by
    refine XS.aloadN X0.here hexec rfl (hb hbytes d0) rfl rfl ?_
    refine XS.aloadN X0.here hexec rfl (hb hbytes d1) rfl rfl ?_
    refine iconstV X0.here hexec rfl 0 (hb hbytes d2) (by decide) ?_
    refine XS.aloadN X0.here hexec rfl (hb hbytes d3) rfl rfl ?_
    refine X0.alen hexec (hA.1.mv X0.warmed.alike hh0) rfl rfl (hb hbytes d4) ?_
    refine XS.aconstNull X0.here hexec rfl (hb hbytes d5) ?_
    exact Steps.refl _)
  obtain ⟨v3, T3, X3, E3, g3⟩ := X0.callN hexec (New4.law l a D fV fC b A z 0 A.slots.size) rfl hown (wks W (initW "java/lang/String" 27 New4.yN)) (W New4.tab (by simp only [site, List.mem_cons, List.mem_append, true_or, or_true])) (W := 0) (Nat.le_of_ble_eq_true rfl) (Nat.le_of_ble_eq_true rfl) (Nat.le_refl _) (by show 0 + A.slots.size ≤ A.slots.size; omega) (g := (mkF m 6 #[.val (.ref a), .val (.ref b)] [.null, .int (Int32.ofNat A.slots.size), .int (Int32.ofNat 0), .ref b, .ref a])) rfl (by rw [hml]; rfl) c2 (argsL := [.ref b, .int (Int32.ofNat 0), .int (Int32.ofNat A.slots.size), .null]) (rest := []) rfl rfl (by show 2 * 0 + 0 ≤ _; decide) (hb hbytes d6) (⟨rfl, hB.mv X0.warmed.alike hh0, f1.al X0.warmed.alike, f2.al X0.warmed.alike, hA.mv X0.warmed.alike hh0, s1.there X0.warmed.alike hh0, hz, l0, by omega, l2, fun i hi => by rw [Nat.zero_add]; exact hp i hi⟩)
  have e0 := Got.mv _ s₁ s _ _ hh0.symm (Vm.Alike.refl _) rfl E3
  obtain rfl := e0.1
  have c4 : Steps p.tables e below (s₁.setTop (entryFrame m #[.ref a, .ref b] 2)) (T3.setTop (mkF m 9 #[.val (.ref a), .val (.ref b)] [])) := g3
  exact ⟨T3, none, _, _, _, X3, by simp, rfl, by omega, (fun _ => rfl), e0, fun fs hl => c4.trans (X3.returnOut hexec hret (hb hbytes d9) hl)⟩
theorem pays {l : Launch} {R : Room} {p : Program} {e : Env} {below : List Frame} {s : State} {sargs : Array Value} {len W : Nat} (a : Addr) (D : Cell) (fV fC : Field) (b : Addr) (A : Cell) (z : Int32) (htab : tab.before sargs s = true) (hfr : 4 ≤ R.frames) (hlo : W + 65 ≤ R.locals) :
    Back l R p e below s sargs yN len W (fun A₁ a₁ => A₁.cells + 1 ≤ R.cells ∧ A₁.slots + A.slots.size ≤ R.slots ∧ P a D fV fC b A z a₁ A₁.U) (fun A₁ _ v₁ B₁ => E a D fV fC A v₁ A₁.U B₁.U ∧ B₁.locs = A₁.locs ++ [⟨a, fC.slot⟩, ⟨a, fV.slot⟩] ∧ B₁.cells = A₁.cells + 1 ∧ B₁.slots = A₁.slots + A.slots.size) :=
  (law l a D fV fC b A z).pays htab hfr (by omega)
end New1
/-- the byte, read back as charAt reads it, is the char -/
theorem lo8_mask {x : Int32} (h0 : ¬ x < 0) (h1 : ¬ 255 < x) : lo8 x &&& 255 = x := by
  have t : ∀ k : Fin 256, lo8 (Int32.ofNat k.val) &&& 255 = Int32.ofNat k.val := by decide +kernel
  rw [Int32.lt_iff_toInt_lt] at h0 h1
  have e0 : (0 : Int32).toInt = 0 := rfl
  have e1 : (255 : Int32).toInt = 255 := rfl
  obtain ⟨k, hk⟩ : ∃ k : Nat, x.toInt = k := ⟨x.toInt.toNat, by omega⟩
  have hx : x = Int32.ofNat k := Int32.toInt_inj.mp (by rw [hk, Int32.toInt_ofNat_small (by omega)])
  rw [hx]
  exact t ⟨k, by omega⟩
end StrChars
namespace StrChars.Road
open Jvm Sem ClassFile Op Lib Jvm.Stand Jvm.Free Jvm.Free.XT
open Jvm.Lib.Cold (StaticIs)
abbrev ST : String := "java/lang/String"
/-- every table word that New1's law asks, flat -/
abbrev words : List Jvm.Cond := [.code New1.yN New1.yB 2 none, .initialized ST, .methodLink ST 27 New4.yN, .instanceMethod New4.yN,
  .code New4.yN New4.yB 6 none, .fieldLink ST 38 ST "COMPACT_STRINGS" "Z", .laysFinal ST ST "value" "[B", .fieldLink ST 9 ST "value" "[B", .laysFinal ST ST "coder" "B", .fieldLink ST 15 ST "coder" "B",
  .methodLink ST 1 Lib.objectInit, .instanceMethod Lib.objectInit, .code Lib.objectInit ⟨#[0xb1]⟩ 1 none, .methodLink ST 177 Cmp3.yN, .static Cmp3.yN, .methodLink ST 47 CodL.yN, .static CodL.yN,
  .code Cmp3.yN Cmp3.yB 6 (some (.array .byte)), .initialized U16, .arrayClass .byte, .methodLink U16 115 Cmp5.yN, .static Cmp5.yN, .code Cmp5.yN Cmp5.yB 7 (some .int), .code CodL.yN CodL.yB 2 (some .byte)]
theorem tab_of {a : Array Value} {s : State} (h : ∀ w ∈ words, w.before a s = true) : New1.tab.before a s = true := by
  have h5 : Cmp5.tab.before a s = true := unparts (wk h (.code Cmp5.yN Cmp5.yB 7 (some .int))) (wks h (.initialized Cmp5.yN.cls :: Cmp5.site))
  have hc : CodL.tab.before a s = true := unparts (wk h (.code CodL.yN CodL.yB 2 (some .byte))) (wks h (.initialized CodL.yN.cls :: CodL.site))
  have q5 : ∀ w ∈ Cmp5.tab :: words, w.before a s = true := fun w hw => (List.mem_cons.mp hw).elim (fun e => e ▸ h5) (h w)
  have h3 : Cmp3.tab.before a s = true := unparts (wk q5 (.code Cmp3.yN Cmp3.yB 6 (some (.array .byte)))) (wks q5 (.initialized Cmp3.yN.cls :: Cmp3.site))
  have q3 : ∀ w ∈ Cmp3.tab :: CodL.tab :: words, w.before a s = true := fun w hw => (List.mem_cons.mp hw).elim (fun e => e ▸ h3) fun hw => (List.mem_cons.mp hw).elim (fun e => e ▸ hc) (h w)
  have h4 : New4.tab.before a s = true := unparts (wk q3 (.code New4.yN New4.yB 6 none)) (wks q3 (.initialized New4.yN.cls :: New4.site))
  have q4 : ∀ w ∈ New4.tab :: words, w.before a s = true := fun w hw => (List.mem_cons.mp hw).elim (fun e => e ▸ h4) (h w)
  exact unparts (wk q4 (.code New1.yN New1.yB 2 none)) (wks q4 (.initialized New1.yN.cls :: New1.site))
/-- the words ride from the start Z to the walk's own state -/
theorem moved {Z s : State} {a0 args : Array Value} (hZ : Z.Warmed39 s.vm) (hw : ∀ d ∈ words, d.before a0 Z = true) : ∀ d ∈ words, d.before args s = true := fun d hd => by
  have q := hw d hd
  have t : ∀ d ∈ words, d = .arrayClass .byte ∨ (d.onTables && d.keepsFace) = true := by decide +kernel
  rcases t d hd with rfl | t
  · exact RoadKit.mvA hZ q
  · exact RoadKit.mv hZ q t
/-- WHAT COMES BACK, over the tables of the start Z: h the heap at the call, h' behind it -/
def Q (Z : State) (x : Addr) (A : Cell) (h : Heap) (v : Option Value) (h' : Heap) (L : List Loc) : Prop := v = none ∧ (∀ y ∈ L, y.base = x) ∧ RoadKit.Keep h h' [x] ∧ h'.size = h.size + 1 ∧ RoadKit.Exa Z h' x ST ∧ RoadKit.Fld Z h' x ST "value" "[B" (.ref h.size) ∧ RoadKit.Fld Z h' x ST "coder" "B" (.int 0) ∧
  (∃ V : Cell, RoadKit.Arr Z h' h.size V .byte ∧ V.vm = .none ∧ Z.vm.findClass "[B" = some V.cls ∧ V.slots.size = A.slots.size ∧ ∀ j, j < A.slots.size → V.slots[j]? = some (.int (lo8 (cv A j)))) ∧
  ∀ (O n d : String) (w : Value), RoadKit.Fld Z h x O n d w → RoadKit.slotOf Z O n d ≠ RoadKit.slotOf Z ST "value" "[B" → RoadKit.slotOf Z O n d ≠ RoadKit.slotOf Z ST "coder" "B" → RoadKit.Fld Z h' x O n d w
/-- **new String(chars) AT A CALL, IN THE ROAD'S FORM**: for specialBack behind newO: x the fresh String, b the char[] with the cell A -/
theorem back {p : Program} {l : Launch} {e : Env} {R : Room} {s : State} {args : Array Value} {below : List Frame} {len W : Nat} {Z : State} {a0 : Array Value} {h : Heap} (hZ : Z.Warmed39 s.vm) (hw : ∀ d ∈ words, d.before a0 Z = true) {kI : Nat} (wi : (Jvm.Cond.instantiable ST kI).before a0 Z = true)
    {x b : Addr} {A : Cell} {z : Int32} {v0 c0 : Value} (E : RoadKit.Exa Z h x ST) (V : RoadKit.Fld Z h x ST "value" "[B" v0) (C : RoadKit.Fld Z h x ST "coder" "B" c0) (K : RoadKit.Arr Z h b A .char) (hty : Typed .char A) (S : RoadKit.Sta Z h ST "COMPACT_STRINGS" "Z" (.int z)) (hz : ¬ z = 0)
    (l0 : 0 < A.slots.size) (l2 : A.slots.size ≤ 536870912) (hp : ∀ i, i < A.slots.size → ¬ 255 < cv A i) (hfr : 4 ≤ R.frames) (hlo : W + 65 ≤ R.locals) :
    Back l R p e below s args New1.yN len W (fun P a => a = #[.ref x, .ref b] ∧ P.U.heap = h ∧ P.cells + 1 ≤ R.cells ∧ P.slots + A.slots.size ≤ R.slots)
      (fun P _ v B => ∃ L, Q Z x A h v B.U.heap L ∧ B.locs = P.locs ++ L ∧ B.cells = P.cells + 1 ∧ B.slots = P.slots + A.slots.size) := by
  intro m meth c P g ig mk a X hg hsize hdg hW hn hp'
  obtain ⟨rfl, rfl, r1, r2⟩ := hp'
  have al : Z.vm.Alike P.U.vm := hZ.alike.trans X.warmed.alike
  obtain ⟨D, cfV, kV, iV, fV, hD, gV, stV, knV, obV, asV, slV⟩ := id V
  obtain ⟨D', cfC, kC, iC, fC, hD', gC, stC, -, -, asC, slC⟩ := id C
  cases hD.symm.trans hD'
  obtain ⟨D2, kD, e1, e2, e3, e4, e5⟩ := id E
  cases hD.symm.trans e1
  obtain ⟨c2, k2, i1, i2, i3, -⟩ := Cond.instantiable_spec wi
  cases e2.symm.trans i1
  cases e3.symm.trans i2
  obtain ⟨kU, u1, u2⟩ := al.2.2 _ _ e3
  have hB : Blank ST x D P.U := ⟨hD, ⟨knV, fun q hq => by rw [hq] at obV; cases obV⟩, by rw [al.findClass]; exact e2, kU, u1, by rw [u2]; exact i3, by rw [u2]; exact e5 i3⟩
  have F1 : Found ST "value" "[B" fV P.U := ⟨SBG.found_only al ⟨cfV, kV, iV, gV⟩, stV⟩
  have F2 : Found ST "coder" "B" fC P.U := ⟨SBG.found_only al ⟨cfC, kC, iC, gC⟩, stC⟩
  have hA : Ch b A P.U := ⟨⟨K.1, State.isArrayOf_alike al K.2.1, K.2.2, by omega⟩, hty⟩
  have hS : StaticIs P.U ST "COMPACT_STRINGS" "Z" (.int z) := by
    obtain ⟨cfS, iS, kS, fS, st, cS, t1, t2, t3, t4, t5, t6, t7⟩ := S
    exact StaticIs.there (s := { Z with heap := P.U.heap }) ⟨cfS, iS, kS, fS, st, cS, t1, t2, t3, t4, t5, (fun q => by rw [q] at t6; cases t6), t7⟩ al rfl
  obtain ⟨v, B, X', ⟨⟨hv, E', V', q1, q2, q3, q4, q5, q6, q7, q8, q9, q10, q11⟩, hl, hc, hs⟩, st⟩ := New1.pays x D fV fC b A z (tab_of (moved hZ hw)) hfr hlo m meth c P g ig mk _ X hg hsize hdg hW hn ⟨r1, r2, rfl, hB, F1, F2, hA, hS, hz, l0, l2, hp⟩
  have al' : Z.vm.Alike B.U.vm := hZ.alike.trans X'.warmed.alike
  have hsz : E'.slots.size = D.slots.size := by
    obtain ⟨-, -, -, kB, w1, w2, w3⟩ := q1
    obtain ⟨kB', y1, y2⟩ := al'.2.2 _ _ e3
    rw [q2.2.1] at w1
    cases w1.symm.trans y1
    rw [w3, e5 i3, y2]
  refine ⟨v, B, X', ⟨_, ⟨hv, ?_, ⟨by omega, fun y cy hy hn' => q10 y cy (by simpa using hn') hy, fun y cy hy => ?_⟩, q11, ⟨E', _, q1.1, by rw [q2.2.1]; exact e2, by rw [q2.2.1]; exact e3, by rw [q2.1]; exact obV, fun _ => by rw [hsz]; exact e5 i3⟩,
    ⟨E', cfV, kV, iV, fV, q1.1, gV, stV, by rw [q2.1]; exact knV, by rw [q2.1]; exact obV, by rw [q2.2.1]; exact asV, q3⟩, ⟨E', cfC, kC, iC, fC, q1.1, gC, stC, by rw [q2.1]; exact knV, by rw [q2.1]; exact obV, by rw [q2.2.1]; exact asC, q4⟩,
    ⟨V', ⟨q5.1, State.isArrayOf_alike al'.symm q5.2.1, q5.2.2.1⟩, q6, by rw [← al'.findClass]; exact q7, q8, fun j hj => by have := q9 j hj; rwa [Nat.zero_add] at this⟩, fun O n d w F n1 n2 => ?_⟩, hl, hc, hs⟩, st⟩
  · intro y hy
    simp only [List.mem_cons, List.not_mem_nil, or_false] at hy
    rcases hy with rfl | rfl <;> rfl
  · by_cases q : y = x
    · subst q
      cases hD.symm.trans hy
      exact ⟨E', q1.1, q2.2.1, q2.1, hsz⟩
    · exact ⟨cy, q10 y cy q hy, rfl, rfl, rfl⟩
  · obtain ⟨D3, cf, k, i, f, g1, g2, g3, g4, g5, g6, g7⟩ := F
    cases hD.symm.trans g1
    simp only [RoadKit.slotOf, g2, gV, gC, Option.map_some, Option.getD_some] at n1 n2
    exact ⟨E', cf, k, i, f, q1.1, g2, g3, by rw [q2.1]; exact g4, by rw [q2.1]; exact g5, by rw [q2.2.1]; exact g6, by rw [q2.2.2 f.slot (by simp [n1, n2])]; exact g7⟩
end StrChars.Road
namespace StrChars.Road
open Jvm Sem ClassFile Op Lib Jvm.Stand Jvm.Free Jvm.Free.XT
/-- WHAT COMES BACK, the byte[] as a list of values -/
def QA (Z : State) (x : Addr) (zn : Int32) (cs : List Int32) (h : Heap) (v : Option Value) (h' : Heap) (L : List Loc) : Prop := v = none ∧ (∀ y ∈ L, y.base = x) ∧ RoadKit.Keep h h' [x] ∧ h'.size = h.size + 1 ∧ RoadKit.Exa Z h' x ST ∧ RoadKit.Fld Z h' x ST "value" "[B" (.ref h.size) ∧ RoadKit.Fld Z h' x ST "coder" "B" (.int 0) ∧
  (∃ kb, Z.vm.findClass "[B" = some kb ∧ RoadKit.Arv Z h' h.size kb .byte zn (cs.map fun c => .int (lo8 c)) (.int 0)) ∧
  ∀ (O n d : String) (w : Value), RoadKit.Fld Z h x O n d w → RoadKit.slotOf Z O n d ≠ RoadKit.slotOf Z ST "value" "[B" → RoadKit.slotOf Z O n d ≠ RoadKit.slotOf Z ST "coder" "B" → RoadKit.Fld Z h' x O n d w
/-- **new String(chars) AT A CALL, THE ARRAYS AS LISTS**: the char[] at b holds cs, not empty, no char above 255 -/
theorem backArv {p : Program} {l : Launch} {e : Env} {R : Room} {s : State} {args : Array Value} {below : List Frame} {len W : Nat} {Z : State} {a0 : Array Value} {h : Heap} (hZ : Z.Warmed39 s.vm) (hw : ∀ d ∈ words, d.before a0 Z = true) {kI : Nat} (wi : (Jvm.Cond.instantiable ST kI).before a0 Z = true)
    {x b : Addr} {k : ClassId} {zn z : Int32} {cs : List Int32} {dv v0 c0 : Value} (E : RoadKit.Exa Z h x ST) (V : RoadKit.Fld Z h x ST "value" "[B" v0) (C : RoadKit.Fld Z h x ST "coder" "B" c0) (K : RoadKit.Arv Z h b k .char zn (cs.map Value.int) dv) (S : RoadKit.Sta Z h ST "COMPACT_STRINGS" "Z" (.int z)) (hz : ¬ z = 0)
    (hlen : zn.toNatClampNeg = cs.length) (h0 : 0 < cs.length) (hbig : cs.length ≤ 536870912) (hall : ∀ c ∈ cs, ¬ 255 < c) (hfr : 4 ≤ R.frames) (hlo : W + 65 ≤ R.locals) :
    Back l R p e below s args New1.yN len W (fun P a => a = #[.ref x, .ref b] ∧ P.U.heap = h ∧ P.cells + 1 ≤ R.cells ∧ P.slots + cs.length ≤ R.slots)
      (fun P _ v B => ∃ L, QA Z x zn cs h v B.U.heap L ∧ B.locs = P.locs ++ L ∧ B.cells = P.cells + 1 ∧ B.slots = P.slots + cs.length) := by
  obtain ⟨A, K1, K2, K3, K4, K5, K6⟩ := K
  have e : A.slots.size = cs.length := K3.trans hlen
  have hat : ∀ (i : Nat) (hi : i < cs.length), A.slots[i]? = some (.int cs[i]) := fun i hi => by rw [K5 i (by omega)]; simp [List.getD_eq_getElem?_getD, hi]
  have hcv : ∀ (i : Nat) (hi : i < cs.length), cv A i = cs[i] := fun i hi => by unfold cv; rw [hat i hi]
  have hty : Typed .char A := fun i v hv => by
    have hi : i < A.slots.size := (Array.getElem?_eq_some_iff.mp hv).1
    have q := K5 i hi
    rw [hv] at q
    rw [Option.some.inj q]
    exact K6 i hi
  refine Back.mono (back hZ hw wi E V C K1 hty S hz (by omega) (by omega) (fun i hi => by rw [hcv i (by omega)]; exact hall _ (List.getElem_mem _)) hfr hlo) (fun P a hp => ⟨hp.1, hp.2.1, hp.2.2.1, by rw [e]; exact hp.2.2.2⟩) (fun P a v B hp hq => ?_)
  obtain ⟨L, ⟨q1, q2, q3, q4, q5, q6, q7, ⟨V', v1, v2, v3, v4, v5⟩, q9⟩, hl, hc, hs⟩ := hq
  refine ⟨L, ⟨q1, q2, q3, q4, q5, q6, q7, ⟨V'.cls, v3, V', v1, rfl, by rw [v4, e, hlen], K4, fun i hi => ?_, fun i hi => ?_⟩, q9⟩, hl, hc, by rw [hs, e]⟩
  · have hi' : i < cs.length := by omega
    rw [v5 i (by omega), hcv i hi']; simp [List.getD_eq_getElem?_getD, hi']
  · have hi' : i < cs.length := by omega
    simp only [List.getD_eq_getElem?_getD, List.getElem?_map, List.getElem?_eq_getElem hi', Option.map_some, Option.getD_some]
    exact fits_lo8 _
end StrChars.Road
namespace StrChars.Road
open Jvm Sem ClassFile Op Lib Jvm.Stand Jvm.Free Jvm.Free.XT
/-- WHAT COMES BACK, in the writer's own shape -/
def QV (Z : State) (x : Addr) (N : Int32) (bs : List Int32) (h : Heap) (n0 : Nat) (v : Option Value) (h' : Heap) (L : List Loc) : Prop := v = none ∧ RoadKit.Fr n0 L ∧ RoadKit.Keep h h' [x] ∧ RoadKit.Exa Z h' x ST ∧ RoadKit.Fld Z h' x ST "coder" "B" (.int 0) ∧
  ∃ (t : Addr) (kb : ClassId), n0 ≤ t ∧ h.size ≤ t ∧ ¬ t = x ∧ RoadKit.Fld Z h' x ST "value" "[B" (.ref t) ∧ RoadKit.Arv Z h' t kb .byte N (bs.map Value.int) (.int 0)
/-- **new String(chars) AT A CALL, FOR THE WRITER**: a char[] of n known ints, each 0 to 255 -/
theorem backV {p : Program} {l : Launch} {e : Env} {R : Room} {s : State} {args : Array Value} {below : List Frame} {len W : Nat} {Z : State} {a0 : Array Value} {h : Heap} (hZ : Z.Warmed39 s.vm) (hw : ∀ d ∈ words, d.before a0 Z = true) {kI : Nat} (wi : (Jvm.Cond.instantiable ST kI).before a0 Z = true)
    {x b : Addr} {kC : ClassId} {cs bs : List Int32} {d v0 c0 : Value} {z N : Int32} {n n0 : Nat} (hx0 : n0 ≤ x) (hh0 : n0 ≤ h.size) (E : RoadKit.Exa Z h x ST) (V : RoadKit.Fld Z h x ST "value" "[B" v0) (C : RoadKit.Fld Z h x ST "coder" "B" c0) (K : RoadKit.Arv Z h b kC .char N (cs.map Value.int) d) (S : RoadKit.Sta Z h ST "COMPACT_STRINGS" "Z" (.int z)) (hz : ¬ z = 0)
    (hn : cs.length = n) (hN : N = Int32.ofNat n) (l0 : 0 < n) (l2 : n ≤ 4000) (hp : ∀ c ∈ cs, ¬ c < 0 ∧ ¬ (255 : Int32) < c) (hb : bs = cs.map (fun c => c.toInt8.toInt32)) (hfr : 4 ≤ R.frames) (hlo : W + 65 ≤ R.locals) :
    Back l R p e below s args (⟨"java/lang/String", "<init>", "([C)V"⟩ : MethodName) len W (fun P a => a = #[.ref x, .ref b] ∧ P.U.heap = h ∧ P.cells + 1 ≤ R.cells ∧ P.slots + n ≤ R.slots)
      (fun P _ v B => ∃ L, QV Z x N bs h n0 v B.U.heap L ∧ B.locs = P.locs ++ L ∧ B.cells = P.cells + 1 ∧ B.slots = P.slots + n) := by
  subst hn hN hb
  refine Back.mono (backArv hZ hw wi E V C K S hz (n32 (by omega)) l0 (by omega) (fun c hc => (hp c hc).2) hfr hlo) (fun P a hp => hp) (fun P a v B hp hq => ?_)
  obtain ⟨L, ⟨q1, q2, q3, q4, q5, q6, q7, ⟨kb, v1, v2⟩, q9⟩, hl, hc, hs⟩ := hq
  exact ⟨L, ⟨q1, fun y hy => by rw [q2 y hy]; exact hx0, q3, q5, q7, h.size, kb, hh0, Nat.le_refl _, Nat.ne_of_gt E.lt, q6, by rw [List.map_map]; exact v2⟩, hl, hc, hs⟩
end StrChars.Road
namespace StrChars
open Jvm Sem ClassFile Op Lib Jvm.Stand Jvm.Free.XT Jvm.Free.ALB Jvm.Free.JM Jvm.Free
open Jvm.Lib.Cold (StaticIs)
def hi8 (x : Int32) : Int32 := lo8 (x >>> ((8 : Int32) &&& 31))
/-- what StringUTF16.getChar makes of two bytes -/
def pairCh (u v : Int32) : Int32 := (((u &&& 255) <<< ((0 : Int32) &&& 31)) ||| ((v &&& 255) <<< ((8 : Int32) &&& 31))).toUInt32.toUInt16.toUInt32.toInt32
theorem shr0 (c : Int32) : c >>> ((0 : Int32) &&& 31) = c := by
  have e : ((0 : Int32) &&& 31) = 0 := by decide
  rw [e]
  apply Int32.toBitVec_inj.mp
  rw [Int32.toBitVec_shiftRight]
  have e1 : ((0 : Int32).toBitVec.smod 32) = 0#32 := by decide
  rw [e1, BitVec.sshiftRight_eq']
  exact BitVec.sshiftRight_zero
theorem lo8_and (x : Int32) : (lo8 x &&& 255).toBitVec.toNat = x.toBitVec.toNat % 256 := by
  have h : (lo8 x).toBitVec = (x.toBitVec.signExtend 8).signExtend 32 := by rw [lo8, Int8.toBitVec_toInt32, Int32.toBitVec_toInt8]
  rw [Int32.toBitVec_and, BitVec.toNat_and, h]
  have e : ((x.toBitVec.signExtend 8).signExtend 32).toNat % 256 = x.toBitVec.toNat % 256 := by
    rw [BitVec.toNat_signExtend]
    have hlt := x.toBitVec.isLt
    simp only [BitVec.toNat_setWidth, BitVec.toNat_signExtend]
    split <;> split <;> omega
  rw [← e]
  exact Nat.and_two_pow_sub_one_eq_mod _ 8
theorem pair_says {c : Int32} (h0 : ¬ c < 0) (h1 : ¬ 65535 < c) : pairCh (lo8 c) (hi8 c) = c := by
  rw [Int32.lt_iff_toInt_lt] at h0 h1
  have e0 : (0 : Int32).toInt = 0 := rfl
  have e1 : (65535 : Int32).toInt = 65535 := rfl
  have hc : c.toInt = c.toBitVec.toNat := by
    have := c.toBitVec.isLt
    have e : c.toInt = c.toBitVec.toInt := rfl
    rw [e] at h0 h1
    rw [e]
    rw [BitVec.toInt_eq_toNat_cond] at h0 h1 ⊢
    split at h0 <;> split <;> omega
  have hn : c.toBitVec.toNat < 65536 := by omega
  have a1 := lo8_and c
  have a2 : (hi8 c &&& 255).toBitVec.toNat = c.toBitVec.toNat / 256 := by
    rw [hi8, lo8_and]
    have e : ((8 : Int32) &&& 31) = 8 := by decide
    rw [e, Int32.toBitVec_shiftRight]
    have e2 : ((8 : Int32).toBitVec.smod 32) = 8#32 := by decide
    rw [e2, BitVec.sshiftRight_eq', BitVec.toNat_sshiftRight_of_msb_false (by rw [BitVec.msb_eq_false_iff_two_mul_lt]; omega)]
    show c.toBitVec.toNat >>> 8 % 256 = _
    rw [Nat.shiftRight_eq_div_pow]
    omega
  unfold pairCh
  apply Int32.toBitVec_inj.mp
  apply BitVec.eq_of_toNat_eq
  have f0 : ((0 : Int32) &&& 31) = 0 := by decide
  have f8 : ((8 : Int32) &&& 31) = 8 := by decide
  rw [f0, f8]
  have g : (((lo8 c &&& 255) <<< (0 : Int32)) ||| ((hi8 c &&& 255) <<< (8 : Int32))).toBitVec.toNat = c.toBitVec.toNat := by
    rw [Int32.toBitVec_or, Int32.toBitVec_shiftLeft, Int32.toBitVec_shiftLeft]
    have s0 : ((0 : Int32).toBitVec.smod 32) = 0#32 := by decide
    have s8 : ((8 : Int32).toBitVec.smod 32) = 8#32 := by decide
    rw [s0, s8, BitVec.toNat_or]
    simp only [BitVec.shiftLeft_eq', BitVec.toNat_shiftLeft, a1, a2]
    show (c.toBitVec.toNat % 256) <<< 0 % 2 ^ 32 ||| (c.toBitVec.toNat / 256) <<< 8 % 2 ^ 32 = _
    rw [Nat.shiftLeft_zero, Nat.mod_eq_of_lt (show c.toBitVec.toNat % 256 < 2 ^ 32 by omega), Nat.mod_eq_of_lt (show (c.toBitVec.toNat / 256) <<< 8 < 2 ^ 32 by rw [Nat.shiftLeft_eq]; omega), Nat.or_comm, ← Nat.shiftLeft_add_eq_or_of_lt (by omega), Nat.shiftLeft_eq]
    omega
  show BitVec.toNat (((((lo8 c &&& 255) <<< (0 : Int32)) ||| ((hi8 c &&& 255) <<< (8 : Int32))).toBitVec.setWidth 16).setWidth 32) = _
  rw [BitVec.toNat_setWidth, BitVec.toNat_setWidth, g]
  omega
end StrChars
namespace StrChars
open Jvm Sem ClassFile Op Lib Jvm.Stand Jvm.Free.XT Jvm.Free.ALB Jvm.Free.JM Jvm.Free
open Jvm.Lib.Cold (StaticIs)
theorem shr1 {n : Nat} (h : 2 * n < 2 ^ 31) : Int32.ofNat (2 * n) >>> ((1 : Int32) &&& 31) = Int32.ofNat n := by
  have e : ((1 : Int32) &&& 31) = 1 := by decide
  rw [e]
  apply Int32.toBitVec_inj.mp
  rw [Int32.toBitVec_shiftRight]
  have e1 : ((1 : Int32).toBitVec.smod 32) = 1#32 := by decide
  have hm : (BitVec.ofNat 32 (2 * n)).toNat = 2 * n := by rw [BitVec.toNat_ofNat, Nat.mod_eq_of_lt (by omega)]
  rw [e1, BitVec.sshiftRight_eq']
  apply BitVec.eq_of_toNat_eq
  show ((BitVec.ofNat 32 (2 * n)).sshiftRight 1).toNat = (BitVec.ofNat 32 n).toNat
  rw [BitVec.toNat_sshiftRight_of_msb_false (by rw [BitVec.msb_eq_false_iff_two_mul_lt, hm]; omega), hm, BitVec.toNat_ofNat, Nat.shiftRight_eq_div_pow]
  omega
/-- charAt's cast of a byte read back -/
def chr8 (u : Int32) : Int32 := (u &&& 255).toUInt32.toUInt16.toUInt32.toInt32
theorem chr8_lo8 {c : Int32} (h0 : ¬ c < 0) (h1 : ¬ 255 < c) : chr8 (lo8 c) = c := by
  have t : ∀ k : Fin 256, (Int32.ofNat k.val).toUInt32.toUInt16.toUInt32.toInt32 = Int32.ofNat k.val := by decide +kernel
  unfold chr8
  rw [lo8_mask h0 h1]
  rw [Int32.lt_iff_toInt_lt] at h0 h1
  have e0 : (0 : Int32).toInt = 0 := rfl
  have e1 : (255 : Int32).toInt = 255 := rfl
  obtain ⟨k, hk⟩ : ∃ k : Nat, c.toInt = k := ⟨c.toInt.toNat, by omega⟩
  have hx : c = Int32.ofNat k := Int32.toInt_inj.mp (by rw [hk, Int32.toInt_ofNat_small (by omega)])
  rw [hx]
  exact t ⟨k, by omega⟩
theorem narrow_ch {c : Int32} (h0 : ¬ c < 0) (h1 : ¬ 65535 < c) : narrow .char (.int c) = .int c := by
  have q : narrow .char (.int (pairCh (lo8 c) (hi8 c))) = .int (pairCh (lo8 c) (hi8 c)) := narrow_c _
  rwa [pair_says h0 h1] at q
/-- the array's cell V codes the n chars f 0 .. f (n - 1) by the coder cd, as the JDK does: coder 1 just where some char is above 255 -/
def Cod (cd : Int32) (n : Nat) (f : Nat → Int32) (V : Cell) : Prop := (cd = 0 ∧ V.slots.size = n ∧ ∀ j, j < n → V.slots[j]? = some (.int (lo8 (f j))) ∧ ¬ 255 < f j) ∨ (cd = 1 ∧ V.slots.size = 2 * n ∧ (∀ j, j < n → V.slots[2 * j]? = some (.int (lo8 (f j))) ∧ V.slots[2 * j + 1]? = some (.int (hi8 (f j)))) ∧ ∃ j, j < n ∧ 255 < f j)
theorem Cod.cd {cd : Int32} {n : Nat} {f : Nat → Int32} {V : Cell} (h : Cod cd n f V) : cd = 0 ∨ cd = 1 := h.imp (fun q => q.1) fun q => q.1
theorem Cod.len {cd : Int32} {n : Nat} {f : Nat → Int32} {V : Cell} (h : Cod cd n f V) (hs : V.slots.size < 2 ^ 31) : Int32.ofNat V.slots.size >>> (cd &&& 31) = Int32.ofNat n := by
  rcases h with ⟨rfl, h, -⟩ | ⟨rfl, h, -⟩
  · rw [shr0, h]
  · rw [h, shr1 (by omega)]
/-- **x is a String of the n chars f 0 .. f (n - 1)**, Latin-1 or UTF-16; its array at t has the cell V -/
def Txt (x t : Addr) (V : Cell) (cd : Int32) (n : Nat) (f : Nat → Int32) (U : State) : Prop := Exact "java/lang/String" x U ∧ Has x "java/lang/String" "value" "[B" (.ref t) U ∧ Has x "java/lang/String" "coder" "B" (.int cd) U ∧ XT.Arr .byte t V U ∧ Cod cd n f V ∧ ∀ j, j < n → ¬ f j < 0 ∧ ¬ 65535 < f j
theorem Txt.mv {x t : Addr} {V : Cell} {cd : Int32} {n : Nat} {f : Nat → Int32} {U U' : State} (h : Txt x t V cd n f U) (hal : U.vm.Alike U'.vm) (hh : U'.heap = U.heap) : Txt x t V cd n f U' := ⟨h.1.mv hal hh, h.2.1.mv hal hh, h.2.2.1.mv hal hh, h.2.2.2.1.mv hal hh, h.2.2.2.2⟩
namespace Cdr
def yN : MethodName := ⟨"java/lang/String", "coder", "()B"⟩
abbrev yB : ByteArray := jdk_42_method_152_code
theorem d0 : decode yB 0 = .ok (.getstatic 38, 3) := by decide +kernel
theorem d3 : decode yB 3 = .ok (.ifCond (.eq) 10, 3) := by decide +kernel
theorem d6 : decode yB 6 = .ok (.aload_n 0, 1) := by decide +kernel
theorem d7 : decode yB 7 = .ok (.getfield 15, 3) := by decide +kernel
theorem d10 : decode yB 10 = .ok (.goto 4, 3) := by decide +kernel
theorem d14 : decode yB 14 = .ok (.ireturn, 1) := by decide +kernel
def site : List Cond := [.fieldLink "java/lang/String" 38 "java/lang/String" "COMPACT_STRINGS" "Z", .fieldLink "java/lang/String" 15 "java/lang/String" "coder" "B"]
def tab : Cond := tabOf yN yB 1 (some .byte) site
def P (x : Addr) (cd z : Int32) (args : Array Value) (s : State) : Prop := args = #[.ref x] ∧ Has x "java/lang/String" "coder" "B" (.int cd) s ∧ (cd = 0 ∨ cd = 1) ∧ StaticIs s "java/lang/String" "COMPACT_STRINGS" "Z" (.int z) ∧ ¬ z = 0
def E (cd : Int32) (r : Option Value) (s u : State) : Prop := XT.PureE (some (.int cd)) r s u
theorem law (l : Launch) (x : Addr) (cd z : Int32) : Law l yN 1 0 0 0 yB 1 (some .byte) site (P x cd z) (E cd) [] 0 0 := by
  refine Law.of_walk (plainFor_of_name (by decide +kernel)) (by decide +kernel) (by decide +kernel) (by decide) (fun _ _ h => by rw [h.1]; rfl) (fun _ U U' hal hh h => ⟨h.1, h.2.1.mv hal hh, h.2.2.1, h.2.2.2.1.there hal hh, h.2.2.2.2⟩) (fun r U U' V V' h1 hal h2 h => XT.PureE.mv r U U' V V' h1 hal h2 h) ?_
  intro p e s m args below meth c s₁ X0 hexec hbytes hml hret hlk hnm hown hh0 W hP
  obtain ⟨rfl, hx, hc, s1, hz⟩ := hP
  have c1 : Steps p.tables e below (s₁.setTop (entryFrame m #[.ref x] 1)) (s₁.setTop (mkF m 0 #[.val (.ref x)] [])) := entry rfl
  obtain ⟨T2, X2, q2, st2⟩ := X0.sget hexec hown (wk W (.fieldLink "java/lang/String" 38 "java/lang/String" "COMPACT_STRINGS" "Z")) s1 (fun _ _ h => by rw [hh0]; exact h) (g := (mkF m 0 #[.val (.ref x)] [])) rfl (hb hbytes d0)
  have hh2 := q2.trans hh0
  have c3 : Steps p.tables e below (s₁.setTop (entryFrame m #[.ref x] 1)) (T2.setTop (mkF m 7 #[.val (.ref x)] [.ref x])) := (c1.trans (st2 _ (Steps.refl _))).trans (by
    refine XS.ifNo X2.here hexec rfl (hb hbytes d3) rfl (i0_eq_f hz) ?_
    refine XS.aloadN X2.here hexec rfl (hb hbytes d6) rfl rfl ?_
    exact Steps.refl _)
  obtain ⟨T4, X4, q4, st4⟩ := X2.hget hexec hown (wk W (.fieldLink "java/lang/String" 15 "java/lang/String" "coder" "B")) (hx.mv X2.warmed.alike hh2) (g := (mkF m 7 #[.val (.ref x)] [.ref x])) rfl (rest := []) rfl (hb hbytes d7)
  have c5 : Steps p.tables e below (s₁.setTop (entryFrame m #[.ref x] 1)) (T4.setTop (mkF m 14 #[.val (.ref x)] [.int cd])) := (c3.trans (st4 _ (Steps.refl _))).trans (by
    refine XS.goto X4.here hexec rfl (pc0 := 10) rfl (hb hbytes d10) (by decide) rfl ?_
    exact Steps.refl _)
  exact ⟨T4, some (.int cd), _, _, _, X4, rfl, rfl, rfl, (fun h => by cases h), ⟨rfl, q4.trans hh2⟩, fun fs hl => c5.trans (X4.ireturnOut hexec hret (by rcases hc with rfl | rfl <;> rfl) (Or.inr (Or.inr (Or.inl rfl))) (hb hbytes d14) hl)⟩
end Cdr
namespace Len
def yN : MethodName := ⟨"java/lang/String", "length", "()I"⟩
abbrev yB : ByteArray := jdk_42_method_54_code
theorem d0 : decode yB 0 = .ok (.aload_n 0, 1) := by decide +kernel
theorem d1 : decode yB 1 = .ok (.getfield 9, 3) := by decide +kernel
theorem d4 : decode yB 4 = .ok (.arraylength, 1) := by decide +kernel
theorem d5 : decode yB 5 = .ok (.aload_n 0, 1) := by decide +kernel
theorem d6 : decode yB 6 = .ok (.invokevirtual 335, 3) := by decide +kernel
theorem d9 : decode yB 9 = .ok (.ishr, 1) := by decide +kernel
theorem d10 : decode yB 10 = .ok (.ireturn, 1) := by decide +kernel
def site : List Cond := [.fieldLink "java/lang/String" 9 "java/lang/String" "value" "[B", Cdr.tab] ++ virtW "java/lang/String" 335 "java/lang/String" Cdr.yN Cdr.yN
def tab : Cond := tabOf yN yB 1 (some .int) site
def P (x t : Addr) (V : Cell) (cd : Int32) (n : Nat) (f : Nat → Int32) (z : Int32) (args : Array Value) (s : State) : Prop := args = #[.ref x] ∧ Txt x t V cd n f s ∧ StaticIs s "java/lang/String" "COMPACT_STRINGS" "Z" (.int z) ∧ ¬ z = 0
def E (n : Nat) (r : Option Value) (s u : State) : Prop := XT.PureE (some (.int (Int32.ofNat n))) r s u
/-- length() of a String of n chars, in either coding -/
theorem law (l : Launch) (x t : Addr) (V : Cell) (cd : Int32) (n : Nat) (f : Nat → Int32) (z : Int32) : Law l yN 1 0 1 13 yB 1 (some .int) site (P x t V cd n f z) (E n) [] 0 0 := by
  refine Law.of_walk (plainFor_of_name (by decide +kernel)) (by decide +kernel) (by decide +kernel) (by decide) (fun _ _ h => by rw [h.1]; rfl) (fun _ U U' hal hh h => ⟨h.1, h.2.1.mv hal hh, h.2.2.1.there hal hh, h.2.2.2⟩) (fun r U U' V V' h1 hal h2 h => XT.PureE.mv r U U' V V' h1 hal h2 h) ?_
  intro p e s m args below meth c s₁ X0 hexec hbytes hml hret hlk hnm hown hh0 W hP
  obtain ⟨rfl, hx, s1, hz⟩ := hP
  have v31 := hx.2.2.2.1.2.2.2
  have c1 : Steps p.tables e below (s₁.setTop (entryFrame m #[.ref x] 1)) (s₁.setTop (mkF m 1 #[.val (.ref x)] [.ref x])) := Steps.trans (entry rfl) (by
    show Steps p.tables e below (s₁.setTop (mkF m 0 #[.val (.ref x)] [])) _
    refine XS.aloadN X0.here hexec rfl (hb hbytes d0) rfl rfl ?_
    exact Steps.refl _)
  obtain ⟨T2, X2, q2, st2⟩ := X0.hget hexec hown (wk W (.fieldLink "java/lang/String" 9 "java/lang/String" "value" "[B")) (hx.mv X0.warmed.alike hh0).2.1 (g := (mkF m 1 #[.val (.ref x)] [.ref x])) rfl (rest := []) rfl (hb hbytes d1)
  have hh2 := q2.trans hh0
  have hx2 := hx.mv X2.warmed.alike hh2
  have c3 : Steps p.tables e below (s₁.setTop (entryFrame m #[.ref x] 1)) (T2.setTop (mkF m 6 #[.val (.ref x)] [.ref x, .int (Int32.ofNat V.slots.size)])) := (c1.trans (st2 _ (Steps.refl _))).trans (by
    refine X2.alen hexec hx2.2.2.2.1 rfl rfl (hb hbytes d4) ?_
    refine XS.aloadN X2.here hexec rfl (hb hbytes d5) rfl rfl ?_
    exact Steps.refl _)
  obtain ⟨v4, T4, X4, E4, g4⟩ := X2.callV hexec (Cdr.law l x cd z) hown (wks W (virtW "java/lang/String" 335 "java/lang/String" Cdr.yN Cdr.yN)) rfl (by decide) (wk W Cdr.tab) (W := 1) (Nat.le_of_ble_eq_true rfl) (Nat.le_of_ble_eq_true rfl) (Nat.le_refl _) (Nat.le_refl _) (hx2.1.fc X2.warmed.alike) hx2.1.is (g := (mkF m 6 #[.val (.ref x)] [.ref x, .int (Int32.ofNat V.slots.size)])) rfl (by rw [hml]; rfl) c3 (argsL := []) (rest := [.int (Int32.ofNat V.slots.size)]) rfl rfl (by show 2 * 0 + (1 + 0) ≤ _; decide) (hb hbytes d6) (⟨rfl, hx2.2.2.1, hx.2.2.2.2.1.cd, s1.there X2.warmed.alike hh2, hz⟩)
  obtain ⟨rfl, q4⟩ := E4
  have c5 : Steps p.tables e below (s₁.setTop (entryFrame m #[.ref x] 1)) (T4.setTop (mkF m 10 #[.val (.ref x)] [.int (Int32.ofNat V.slots.size >>> (cd &&& 31))])) := Steps.trans g4 (by
    refine ishr X4.here hexec rfl (hb hbytes d9) rfl ?_
    exact Steps.refl _)
  rw [hx.2.2.2.2.1.len v31] at c5
  exact ⟨T4, some (.int (Int32.ofNat n)), _, _, _, X4, rfl, rfl, rfl, (fun h => by cases h), ⟨rfl, q4.trans hh2⟩, fun fs hl => c5.trans (X4.ireturnOut hexec hret rfl (Or.inl rfl) (hb hbytes d10) hl)⟩
theorem pays {l : Launch} {R : Room} {p : Program} {e : Env} {below : List Frame} {s : State} {sargs : Array Value} {len W : Nat} (x t : Addr) (V : Cell) (cd : Int32) (n : Nat) (f : Nat → Int32) (z : Int32) (htab : tab.before sargs s = true) (hfr : 2 ≤ R.frames) (hlo : W + 25 ≤ R.locals) :
    Back l R p e below s sargs yN len W (fun A₁ a₁ => A₁.cells + 0 ≤ R.cells ∧ A₁.slots + 0 ≤ R.slots ∧ P x t V cd n f z a₁ A₁.U) (fun A₁ _ v₁ B₁ => E n v₁ A₁.U B₁.U ∧ B₁.locs = A₁.locs ++ [] ∧ B₁.cells = A₁.cells + 0 ∧ B₁.slots = A₁.slots + 0) :=
  (law l x t V cd n f z).pays htab hfr (by omega)
end Len
namespace IsL
def yN : MethodName := ⟨"java/lang/String", "isLatin1", "()Z"⟩
abbrev yB : ByteArray := jdk_42_method_154_code
theorem d0 : decode yB 0 = .ok (.getstatic 38, 3) := by decide +kernel
theorem d3 : decode yB 3 = .ok (.ifCond (.eq) 14, 3) := by decide +kernel
theorem d6 : decode yB 6 = .ok (.aload_n 0, 1) := by decide +kernel
theorem d7 : decode yB 7 = .ok (.getfield 15, 3) := by decide +kernel
theorem d10 : decode yB 10 = .ok (.ifCond (.ne) 7, 3) := by decide +kernel
theorem d13 : decode yB 13 = .ok (.iconst 1, 1) := by decide +kernel
theorem d14 : decode yB 14 = .ok (.goto 4, 3) := by decide +kernel
theorem d17 : decode yB 17 = .ok (.iconst 0, 1) := by decide +kernel
theorem d18 : decode yB 18 = .ok (.ireturn, 1) := by decide +kernel
def site : List Cond := [.fieldLink "java/lang/String" 38 "java/lang/String" "COMPACT_STRINGS" "Z", .fieldLink "java/lang/String" 15 "java/lang/String" "coder" "B"]
def tab : Cond := tabOf yN yB 1 (some .boolean) site
def P (x : Addr) (cd z : Int32) (args : Array Value) (s : State) : Prop := args = #[.ref x] ∧ Has x "java/lang/String" "coder" "B" (.int cd) s ∧ (cd = 0 ∨ cd = 1) ∧ StaticIs s "java/lang/String" "COMPACT_STRINGS" "Z" (.int z) ∧ ¬ z = 0
def E (cd : Int32) (r : Option Value) (s u : State) : Prop := XT.PureE (some (.int (1 - cd))) r s u
theorem law (l : Launch) (x : Addr) (cd z : Int32) : Law l yN 1 0 0 0 yB 1 (some .boolean) site (P x cd z) (E cd) [] 0 0 := by
  refine Law.of_walk (plainFor_of_name (by decide +kernel)) (by decide +kernel) (by decide +kernel) (by decide) (fun _ _ h => by rw [h.1]; rfl) (fun _ U U' hal hh h => ⟨h.1, h.2.1.mv hal hh, h.2.2.1, h.2.2.2.1.there hal hh, h.2.2.2.2⟩) (fun r U U' V V' h1 hal h2 h => XT.PureE.mv r U U' V V' h1 hal h2 h) ?_
  intro p e s m args below meth c s₁ X0 hexec hbytes hml hret hlk hnm hown hh0 W hP
  obtain ⟨rfl, hx, hc, s1, hz⟩ := hP
  have c1 : Steps p.tables e below (s₁.setTop (entryFrame m #[.ref x] 1)) (s₁.setTop (mkF m 0 #[.val (.ref x)] [])) := entry rfl
  obtain ⟨T2, X2, q2, st2⟩ := X0.sget hexec hown (wk W (.fieldLink "java/lang/String" 38 "java/lang/String" "COMPACT_STRINGS" "Z")) s1 (fun _ _ h => by rw [hh0]; exact h) (g := (mkF m 0 #[.val (.ref x)] [])) rfl (hb hbytes d0)
  have hh2 := q2.trans hh0
  have c3 : Steps p.tables e below (s₁.setTop (entryFrame m #[.ref x] 1)) (T2.setTop (mkF m 7 #[.val (.ref x)] [.ref x])) := (c1.trans (st2 _ (Steps.refl _))).trans (by
    refine XS.ifNo X2.here hexec rfl (hb hbytes d3) rfl (i0_eq_f hz) ?_
    refine XS.aloadN X2.here hexec rfl (hb hbytes d6) rfl rfl ?_
    exact Steps.refl _)
  obtain ⟨T4, X4, q4, st4⟩ := X2.hget hexec hown (wk W (.fieldLink "java/lang/String" 15 "java/lang/String" "coder" "B")) (hx.mv X2.warmed.alike hh2) (g := (mkF m 7 #[.val (.ref x)] [.ref x])) rfl (rest := []) rfl (hb hbytes d7)
  have c5 : Steps p.tables e below (s₁.setTop (entryFrame m #[.ref x] 1)) (T4.setTop (mkF m 10 #[.val (.ref x)] [.int cd])) := c3.trans (st4 _ (Steps.refl _))
  have c6 : Steps p.tables e below (s₁.setTop (entryFrame m #[.ref x] 1)) (T4.setTop (mkF m 18 #[.val (.ref x)] [.int (1 - cd)])) := by
    rcases hc with rfl | rfl
    · exact c5.trans (by
        refine XS.ifNo X4.here hexec rfl (hb hbytes d10) rfl (i0_ne_f rfl) ?_
        refine iconstV X4.here hexec rfl 1 (hb hbytes d13) (by decide) ?_
        refine XS.goto X4.here hexec rfl (pc0 := 14) rfl (hb hbytes d14) (by decide) rfl ?_
        exact Steps.refl _)
    · exact c5.trans (by
        refine XS.ifYes X4.here hexec rfl (pc0 := 10) rfl (hb hbytes d10) rfl (i0_ne_t (by decide)) (by decide) rfl ?_
        refine iconstV X4.here hexec rfl 0 (hb hbytes d17) (by decide) ?_
        exact Steps.refl _)
  exact ⟨T4, some (.int (1 - cd)), _, _, _, X4, rfl, rfl, rfl, (fun h => by cases h), ⟨rfl, q4.trans hh2⟩, fun fs hl => c6.trans (X4.ireturnOut hexec hret (by rcases hc with rfl | rfl <;> rfl) (Or.inr (Or.inl rfl)) (hb hbytes d18) hl)⟩
end IsL
namespace LChA
def yN : MethodName := ⟨"java/lang/StringLatin1", "charAt", "([BI)C"⟩
abbrev yB : ByteArray := jdk_43_method_2_code
theorem d0 : decode yB 0 = .ok (.iload_n 1, 1) := by decide +kernel
theorem d1 : decode yB 1 = .ok (.aload_n 0, 1) := by decide +kernel
theorem d2 : decode yB 2 = .ok (.arraylength, 1) := by decide +kernel
theorem d3 : decode yB 3 = .ok (.invokestatic 9, 3) := by decide +kernel
theorem d6 : decode yB 6 = .ok (.aload_n 0, 1) := by decide +kernel
theorem d7 : decode yB 7 = .ok (.iload_n 1, 1) := by decide +kernel
theorem d8 : decode yB 8 = .ok (.baload, 1) := by decide +kernel
theorem d9 : decode yB 9 = .ok (.sipush 255, 3) := by decide +kernel
theorem d12 : decode yB 12 = .ok (.iand, 1) := by decide +kernel
theorem d13 : decode yB 13 = .ok (.i2c, 1) := by decide +kernel
theorem d14 : decode yB 14 = .ok (.ireturn, 1) := by decide +kernel
def site : List Cond := [JO.Str_checkIndex.tab] ++ staticW "java/lang/StringLatin1" 9 JO.Str_checkIndex.yN
def tab : Cond := tabOf yN yB 2 (some .char) site
def P (t : Addr) (V : Cell) (i : Nat) (u : Int32) (fm : Value) (args : Array Value) (s : State) : Prop := args = #[.ref t, .int (Int32.ofNat i)] ∧ XT.Arr .byte t V s ∧ V.slots[i]? = some (.int u) ∧ (StaticIs s "jdk/internal/util/Preconditions" "SIOOBE_FORMATTER" "Ljava/util/function/BiFunction;" fm ∧ fm.isRef = true)
def E (u : Int32) (r : Option Value) (s w : State) : Prop := XT.PureE (some (.int (chr8 u))) r s w
theorem law (l : Launch) (t : Addr) (V : Cell) (i : Nat) (u : Int32) (fm : Value) : Law l yN 2 2 2 27 yB 2 (some .char) site (P t V i u fm) (E u) [] 0 0 := by
  refine Law.of_walk (plainFor_of_name (by decide +kernel)) (by decide +kernel) (by decide +kernel) (by decide) (fun _ _ h => by rw [h.1]; rfl) (fun _ U U' hal hh h => ⟨h.1, h.2.1.mv hal hh, h.2.2.1, h.2.2.2.1.there hal hh, h.2.2.2.2⟩) (fun r U U' V V' h1 hal h2 h => XT.PureE.mv r U U' V V' h1 hal h2 h) ?_
  intro p e s m args below meth c s₁ X0 hexec hbytes hml hret hlk hnm hown hh0 W hP
  obtain ⟨rfl, hV, hu, s1, rf⟩ := hP
  have v31 := hV.2.2.2
  have hi : i < V.slots.size := (Array.getElem?_eq_some_iff.mp hu).1
  have c1 : Steps p.tables e below (s₁.setTop (entryFrame m #[.ref t, .int (Int32.ofNat i)] 2)) (s₁.setTop (mkF m 0 #[.val (.ref t), .val (.int (Int32.ofNat i))] [])) := entry rfl
  have c2 : Steps p.tables e below (s₁.setTop (entryFrame m #[.ref t, .int (Int32.ofNat i)] 2)) (s₁.setTop (mkF m 3 #[.val (.ref t), .val (.int (Int32.ofNat i))] [.int (Int32.ofNat V.slots.size), .int (Int32.ofNat i)])) := c1.trans (by
    refine XS.iloadN X0.here hexec rfl (hb hbytes d0) rfl ?_
    refine XS.aloadN X0.here hexec rfl (hb hbytes d1) rfl rfl ?_
    refine X0.alen hexec (hV.mv X0.warmed.alike hh0) rfl rfl (hb hbytes d2) ?_
    exact Steps.refl _)
  obtain ⟨v3, T3, X3, E3, g3⟩ := X0.callS hexec (JO.Str_checkIndex.law l (Int32.ofNat i) (Int32.ofNat V.slots.size) fm) hown (wks W (staticW "java/lang/StringLatin1" 9 JO.Str_checkIndex.yN)) (wk W JO.Str_checkIndex.tab) (W := 0) (Nat.le_of_ble_eq_true rfl) (Nat.le_of_ble_eq_true rfl) (Nat.le_refl _) (Nat.le_refl _) (g := (mkF m 3 #[.val (.ref t), .val (.int (Int32.ofNat i))] [.int (Int32.ofNat V.slots.size), .int (Int32.ofNat i)])) rfl (by rw [hml]; rfl) c2 (argsL := [.int (Int32.ofNat i), .int (Int32.ofNat V.slots.size)]) (rest := []) rfl rfl (by show 2 * 0 + 0 ≤ _; decide) (hb hbytes d3) (⟨rfl, rf, s1.there X0.warmed.alike hh0, Int32.ofNat_not_neg (by omega), lt32 v31 hi⟩)
  obtain ⟨rfl, q3⟩ := E3
  have hh3 := q3.trans hh0
  have c4 : Steps p.tables e below (s₁.setTop (entryFrame m #[.ref t, .int (Int32.ofNat i)] 2)) (T3.setTop (mkF m 14 #[.val (.ref t), .val (.int (Int32.ofNat i))] [.int (chr8 u)])) := Steps.trans g3 (by
    refine XS.aloadN X3.here hexec rfl (hb hbytes d6) rfl rfl ?_
    refine XS.iloadN X3.here hexec rfl (hb hbytes d7) rfl ?_
    refine X3.aget hexec (hV.mv X3.warmed.alike hh3) rfl hu rfl rfl (hb hbytes d8) ?_
    refine sipushV X3.here hexec rfl 255 (hb hbytes d9) (by decide) ?_
    refine XS.iand X3.here hexec rfl (hb hbytes d12) rfl ?_
    refine i2c X3.here hexec rfl (hb hbytes d13) rfl ?_
    exact Steps.refl _)
  exact ⟨T3, some (.int (chr8 u)), _, _, _, X3, rfl, rfl, rfl, (fun h => by cases h), ⟨rfl, hh3⟩, fun fs hl => c4.trans (X3.ireturnOut hexec hret (narrow_c _) (Or.inr (Or.inr (Or.inr (Or.inl rfl)))) (hb hbytes d14) hl)⟩
end LChA
end StrChars
namespace StrChars.Road
open Jvm Sem ClassFile Op Lib Jvm.Stand Jvm.Free Jvm.Free.XT
open Jvm.Lib.Cold (StaticIs)
theorem consq {a : Array Value} {s : State} {c : Jvm.Cond} {L : List Jvm.Cond} (h0 : c.before a s = true) (h : ∀ w ∈ L, w.before a s = true) : ∀ w ∈ c :: L, w.before a s = true := fun w hw => (List.mem_cons.mp hw).elim (fun e => e ▸ h0) (h w)
/-- the words of String.length(), either coding -/
abbrev wordsLen : List Jvm.Cond := [.code Len.yN Len.yB 1 (some .int), .initialized ST, .fieldLink ST 9 ST "value" "[B", .fieldLink ST 38 ST "COMPACT_STRINGS" "Z", .fieldLink ST 15 ST "coder" "B", .code Cdr.yN Cdr.yB 1 (some .byte), .methodLink ST 335 Cdr.yN, .declares Cdr.yN, .selects ST Cdr.yN Cdr.yN, .instanceMethod Cdr.yN]
theorem tabLen_of {a : Array Value} {s : State} (h : ∀ w ∈ wordsLen, w.before a s = true) : Len.tab.before a s = true := by
  have hc : Cdr.tab.before a s = true := unparts (wk h (.code Cdr.yN Cdr.yB 1 (some .byte))) (wks h (.initialized Cdr.yN.cls :: Cdr.site))
  have q := consq hc h
  exact unparts (wk q (.code Len.yN Len.yB 1 (some .int))) (wks q (.initialized Len.yN.cls :: Len.site))
theorem movedLen {Z s : State} {a0 args : Array Value} (hZ : Z.Warmed39 s.vm) (hw : ∀ d ∈ wordsLen, d.before a0 Z = true) : ∀ d ∈ wordsLen, d.before args s = true := fun d hd => by
  have q := hw d hd
  have t : ∀ d ∈ wordsLen, d = .arrayClass .byte ∨ (d.onTables && d.keepsFace) = true := by decide +kernel
  rcases t d hd with rfl | t
  · exact RoadKit.mvA hZ q
  · exact RoadKit.mv hZ q t
/-- the bytes of the chars cs, low before high -/
def wideBytes : List Int32 → List Value
  | [] => []
  | c :: cs => .int (lo8 c) :: .int (hi8 c) :: wideBytes cs
theorem wide_lo (d : Value) : ∀ (cs : List Int32) (j : Nat), j < cs.length → (wideBytes cs).getD (2 * j) d = .int (lo8 (cs.getD j 0))
  | [], j, h => absurd h (Nat.not_lt_zero j)
  | c :: cs, 0, _ => rfl
  | c :: cs, j + 1, h => by
    have q := wide_lo d cs j (by simpa using h)
    rw [show 2 * (j + 1) = 2 * j + 1 + 1 from by omega]
    simpa [wideBytes] using q
theorem wide_hi (d : Value) : ∀ (cs : List Int32) (j : Nat), j < cs.length → (wideBytes cs).getD (2 * j + 1) d = .int (hi8 (cs.getD j 0))
  | [], j, h => absurd h (Nat.not_lt_zero j)
  | c :: cs, 0, _ => rfl
  | c :: cs, j + 1, h => by
    have q := wide_hi d cs j (by simpa using h)
    rw [show 2 * (j + 1) + 1 = 2 * j + 1 + 1 + 1 from by omega]
    simpa [wideBytes] using q
theorem low_at (d : Value) (cs : List Int32) (j : Nat) (h : j < cs.length) : (cs.map fun c => Value.int (lo8 c)).getD j d = .int (lo8 (cs.getD j 0)) := by
  simp [List.getD_eq_getElem?_getD, h]
/-- an array of N2 bytes vs codes the chars cs by the coder cd -/
def CodA (cs : List Int32) (cd N2 : Int32) (vs : List Value) : Prop := (cd = 0 ∧ N2 = Int32.ofNat cs.length ∧ vs = (cs.map fun c => Value.int (lo8 c)) ∧ ∀ c ∈ cs, ¬ 255 < c) ∨ (cd = 1 ∧ N2 = Int32.ofNat (2 * cs.length) ∧ vs = wideBytes cs ∧ ∃ c ∈ cs, 255 < c)
theorem CodA.cod {cs : List Int32} {cd N2 : Int32} {vs : List Value} {V : Cell} (h : CodA cs cd N2 vs) (hn : 2 * cs.length < 2 ^ 31) (hs : V.slots.size = N2.toNatClampNeg) (hv : RoadKit.Has V vs (.int 0)) : Cod cd cs.length (fun j => cs.getD j 0) V := by
  rcases h with ⟨rfl, rfl, rfl, h⟩ | ⟨rfl, rfl, rfl, c, hc, hw⟩
  · rw [n32 (by omega)] at hs
    exact Or.inl ⟨rfl, hs, fun j hj => ⟨by rw [hv j (by omega), low_at _ _ _ hj], by
      have e : cs.getD j 0 = cs[j] := by simp [List.getD_eq_getElem?_getD, hj]
      show ¬ 255 < cs.getD j 0
      rw [e]; exact h _ (List.getElem_mem _)⟩⟩
  · rw [n32 (by omega)] at hs
    obtain ⟨j, hj, rfl⟩ := List.getElem_of_mem hc
    exact Or.inr ⟨rfl, hs, fun j hj => ⟨by rw [hv _ (by omega), wide_lo _ _ _ hj], by rw [hv _ (by omega), wide_hi _ _ _ hj]⟩, j, hj, by
      have e : cs.getD j 0 = cs[j] := by simp [List.getD_eq_getElem?_getD, hj]
      show 255 < cs.getD j 0
      rw [e]; exact hw⟩
/-- an object of exactly java/lang/String, its two fields found: as the laws ask it -/
theorem strObj {Z U : State} {a0 : Array Value} {kI : Nat} (wi : (Jvm.Cond.instantiable ST kI).before a0 Z = true) (al : Z.vm.Alike U.vm) {x : Addr} {v0 c0 : Value} (E : RoadKit.Exa Z U.heap x ST) (V : RoadKit.Fld Z U.heap x ST "value" "[B" v0) (C : RoadKit.Fld Z U.heap x ST "coder" "B" c0) :
    ∃ (D : Cell) (fV fC : Field), Blank ST x D U ∧ Found ST "value" "[B" fV U ∧ Found ST "coder" "B" fC U ∧ D.slots[fV.slot]? = some v0 ∧ D.slots[fC.slot]? = some c0 ∧ RoadKit.slotOf Z ST "value" "[B" = fV.slot ∧ RoadKit.slotOf Z ST "coder" "B" = fC.slot := by
  obtain ⟨D, cfV, kV, iV, fV, hD, gV, stV, knV, obV, asV, slV⟩ := V
  obtain ⟨D', cfC, kC, iC, fC, hD', gC, stC, -, -, asC, slC⟩ := C
  cases hD.symm.trans hD'
  obtain ⟨D2, kD, e1, e2, e3, e4, e5⟩ := E
  cases hD.symm.trans e1
  obtain ⟨c2, k2, i1, i2, i3, -⟩ := Cond.instantiable_spec wi
  cases e2.symm.trans i1
  cases e3.symm.trans i2
  obtain ⟨kU, u1, u2⟩ := al.2.2 _ _ e3
  exact ⟨D, fV, fC, ⟨hD, ⟨knV, fun q hq => by rw [hq] at obV; cases obV⟩, by rw [al.findClass]; exact e2, kU, u1, by rw [u2]; exact i3, by rw [u2]; exact e5 i3⟩, ⟨SBG.found_only al ⟨cfV, kV, iV, gV⟩, stV⟩, ⟨SBG.found_only al ⟨cfC, kC, iC, gC⟩, stC⟩, slV, slC, by simp [RoadKit.slotOf, gV], by simp [RoadKit.slotOf, gC]⟩
theorem sta_is {Z U : State} (al : Z.vm.Alike U.vm) {C n d : String} {v : Value} (S : RoadKit.Sta Z U.heap C n d v) : StaticIs U C n d v := by
  obtain ⟨cfS, iS, kS, fS, st, cS, t1, t2, t3, t4, t5, t6, t7⟩ := S
  exact StaticIs.there (s := { Z with heap := U.heap }) ⟨cfS, iS, kS, fS, st, cS, t1, t2, t3, t4, t5, (fun q => by rw [q] at t6; cases t6), t7⟩ al rfl
/-- **length() OF SUCH A STRING** -/
theorem lenW {p : Program} {l : Launch} {e : Env} {R : Room} {s : State} {args : Array Value} {below : List Frame} {len W : Nat} {Z : State} {a0 : Array Value} {h : Heap} (hZ : Z.Warmed39 s.vm) (hw : ∀ d ∈ wordsLen, d.before a0 Z = true) {kI : Nat} (wi : (Jvm.Cond.instantiable ST kI).before a0 Z = true)
    {x t : Addr} {kb : ClassId} {cs : List Int32} {cd N2 z : Int32} {vs : List Value} (E : RoadKit.Exa Z h x ST) (V : RoadKit.Fld Z h x ST "value" "[B" (.ref t)) (C : RoadKit.Fld Z h x ST "coder" "B" (.int cd)) (K : RoadKit.Arv Z h t kb .byte N2 vs (.int 0)) (hc : CodA cs cd N2 vs) (hb : ∀ c ∈ cs, ¬ c < 0 ∧ ¬ (65535 : Int32) < c)
    (S : RoadKit.Sta Z h ST "COMPACT_STRINGS" "Z" (.int z)) (hz : ¬ z = 0) (l2 : cs.length ≤ 4000) (hfr : 2 ≤ R.frames) (hlo : W + 25 ≤ R.locals) :
    Back l R p e below s args (⟨"java/lang/String", "length", "()I"⟩ : MethodName) len W (fun P a => a = #[.ref x] ∧ P.U.heap = h ∧ P.cells + 0 ≤ R.cells ∧ P.slots + 0 ≤ R.slots)
      (fun P _ v B => ∃ L, (v = some (.int (Int32.ofNat cs.length)) ∧ L = [] ∧ B.U.heap = h) ∧ B.locs = P.locs ++ L ∧ B.cells = P.cells + 0 ∧ B.slots = P.slots + 0) := by
  obtain ⟨A, K1, K2, K3, K4, K5, K6⟩ := K
  have hcod := hc.cod (by omega) K3 K5
  intro m meth c P g ig mk a X hg hsize hdg hW hn hp'
  obtain ⟨rfl, rfl, r1, r2⟩ := hp'
  have al : Z.vm.Alike P.U.vm := hZ.alike.trans X.warmed.alike
  obtain ⟨D, fV, fC, hB, F1, F2, g1, g2, -, -⟩ := strObj wi al E V C
  have hx : Txt x t A cd cs.length (fun j => cs.getD j 0) P.U := ⟨⟨_, hB.2.2.1, D, hB.1, rfl, by cases q : D.vm <;> first | rfl | exact absurd q (hB.2.1.2 _)⟩, Has.of hB F1 g1, Has.of hB F2 g2, ⟨K1.1, State.isArrayOf_alike al K1.2.1, K1.2.2, by rcases hcod with ⟨-, q, -⟩ | ⟨-, q, -⟩ <;> omega⟩, hcod, fun j hj => by
    have e : cs.getD j 0 = cs[j] := by simp [List.getD_eq_getElem?_getD, hj]
    show ¬ cs.getD j 0 < 0 ∧ ¬ 65535 < cs.getD j 0
    rw [e]; exact hb _ (List.getElem_mem _)⟩
  obtain ⟨v, B, X', ⟨⟨hv, hh⟩, hl, hk, hs⟩, st⟩ := Len.pays x t A cd cs.length (fun j => cs.getD j 0) z (tabLen_of (movedLen hZ hw)) hfr hlo m meth c P g ig mk _ X hg hsize hdg hW hn ⟨r1, r2, rfl, hx, sta_is al S, hz⟩
  exact ⟨v, B, X', ⟨[], ⟨hv, rfl, hh⟩, hl, hk, hs⟩, st⟩
end StrChars.Road
namespace StrChars
open Jvm Sem ClassFile Op Lib Jvm.Stand Jvm.Free.XT Jvm.Free.ALB Jvm.Free.JM Jvm.Free
open Jvm.Lib.Cold (StaticIs)
namespace Emp
def yN : MethodName := ⟨"java/lang/String", "isEmpty", "()Z"⟩
abbrev yB : ByteArray := jdk_42_method_55_code
theorem d0 : decode yB 0 = .ok (.aload_n 0, 1) := by decide +kernel
theorem d1 : decode yB 1 = .ok (.getfield 9, 3) := by decide +kernel
theorem d4 : decode yB 4 = .ok (.arraylength, 1) := by decide +kernel
theorem d5 : decode yB 5 = .ok (.ifCond (.ne) 7, 3) := by decide +kernel
theorem d8 : decode yB 8 = .ok (.iconst 1, 1) := by decide +kernel
theorem d9 : decode yB 9 = .ok (.goto 4, 3) := by decide +kernel
theorem d12 : decode yB 12 = .ok (.iconst 0, 1) := by decide +kernel
theorem d13 : decode yB 13 = .ok (.ireturn, 1) := by decide +kernel
def site : List Cond := [.fieldLink "java/lang/String" 9 "java/lang/String" "value" "[B"]
def tab : Cond := tabOf yN yB 1 (some .boolean) site
def P (x t : Addr) (V : Cell) (cd : Int32) (n : Nat) (f : Nat → Int32) (args : Array Value) (s : State) : Prop := args = #[.ref x] ∧ Txt x t V cd n f s
def E (n : Nat) (r : Option Value) (s u : State) : Prop := XT.PureE (some (.int (if n = 0 then 1 else 0))) r s u
/-- isEmpty() of a String of n chars -/
theorem law (l : Launch) (x t : Addr) (V : Cell) (cd : Int32) (n : Nat) (f : Nat → Int32) : Law l yN 1 0 0 0 yB 1 (some .boolean) site (P x t V cd n f) (E n) [] 0 0 := by
  refine Law.of_walk (plainFor_of_name (by decide +kernel)) (by decide +kernel) (by decide +kernel) (by decide) (fun _ _ h => by rw [h.1]; rfl) (fun _ U U' hal hh h => ⟨h.1, h.2.mv hal hh⟩) (fun r U U' V V' h1 hal h2 h => XT.PureE.mv r U U' V V' h1 hal h2 h) ?_
  intro p e s m args below meth c s₁ X0 hexec hbytes hml hret hlk hnm hown hh0 W hP
  obtain ⟨rfl, hx⟩ := hP
  have v31 := hx.2.2.2.1.2.2.2
  have c1 : Steps p.tables e below (s₁.setTop (entryFrame m #[.ref x] 1)) (s₁.setTop (mkF m 1 #[.val (.ref x)] [.ref x])) := Steps.trans (entry rfl) (by
    show Steps p.tables e below (s₁.setTop (mkF m 0 #[.val (.ref x)] [])) _
    refine XS.aloadN X0.here hexec rfl (hb hbytes d0) rfl rfl ?_
    exact Steps.refl _)
  obtain ⟨T2, X2, q2, st2⟩ := X0.hget hexec hown (wk W (.fieldLink "java/lang/String" 9 "java/lang/String" "value" "[B")) (hx.mv X0.warmed.alike hh0).2.1 (g := (mkF m 1 #[.val (.ref x)] [.ref x])) rfl (rest := []) rfl (hb hbytes d1)
  have hh2 := q2.trans hh0
  have hx2 := hx.mv X2.warmed.alike hh2
  have c3 : Steps p.tables e below (s₁.setTop (entryFrame m #[.ref x] 1)) (T2.setTop (mkF m 5 #[.val (.ref x)] [.int (Int32.ofNat V.slots.size)])) := (c1.trans (st2 _ (Steps.refl _))).trans (by
    refine X2.alen hexec hx2.2.2.2.1 rfl rfl (hb hbytes d4) ?_
    exact Steps.refl _)
  have hz : V.slots.size = 0 ↔ n = 0 := by
    rcases hx.2.2.2.2.1 with ⟨-, q, -⟩ | ⟨-, q, -⟩ <;> omega
  by_cases h0 : n = 0
  · have c4 : Steps p.tables e below (s₁.setTop (entryFrame m #[.ref x] 1)) (T2.setTop (mkF m 13 #[.val (.ref x)] [.int 1])) := c3.trans (by
      refine XS.ifNo X2.here hexec rfl (hb hbytes d5) rfl (i0_ne_f (by rw [hz.mpr h0]; rfl)) ?_
      refine iconstV X2.here hexec rfl 1 (hb hbytes d8) (by decide) ?_
      refine XS.goto X2.here hexec rfl (pc0 := 9) rfl (hb hbytes d9) (by decide) rfl ?_
      exact Steps.refl _)
    exact ⟨T2, some (.int 1), _, _, _, X2, rfl, rfl, rfl, (fun h => by cases h), ⟨by rw [if_pos h0], hh2⟩, fun fs hl => c4.trans (X2.ireturnOut hexec hret rfl (Or.inr (Or.inl rfl)) (hb hbytes d13) hl)⟩
  · have c4 : Steps p.tables e below (s₁.setTop (entryFrame m #[.ref x] 1)) (T2.setTop (mkF m 13 #[.val (.ref x)] [.int 0])) := c3.trans (by
      refine XS.ifYes X2.here hexec rfl (pc0 := 5) rfl (hb hbytes d5) rfl (i0_ne_t (nz32 v31 (by omega))) (by decide) rfl ?_
      refine iconstV X2.here hexec rfl 0 (hb hbytes d12) (by decide) ?_
      exact Steps.refl _)
    exact ⟨T2, some (.int 0), _, _, _, X2, rfl, rfl, rfl, (fun h => by cases h), ⟨by rw [if_neg h0], hh2⟩, fun fs hl => c4.trans (X2.ireturnOut hexec hret rfl (Or.inr (Or.inl rfl)) (hb hbytes d13) hl)⟩
theorem pays {l : Launch} {R : Room} {p : Program} {e : Env} {below : List Frame} {s : State} {sargs : Array Value} {len W : Nat} (x t : Addr) (V : Cell) (cd : Int32) (n : Nat) (f : Nat → Int32) (htab : tab.before sargs s = true) (hfr : 1 ≤ R.frames) (hlo : W + 12 ≤ R.locals) :
    Back l R p e below s sargs yN len W (fun A₁ a₁ => A₁.cells + 0 ≤ R.cells ∧ A₁.slots + 0 ≤ R.slots ∧ P x t V cd n f a₁ A₁.U) (fun A₁ _ v₁ B₁ => E n v₁ A₁.U B₁.U ∧ B₁.locs = A₁.locs ++ [] ∧ B₁.cells = A₁.cells + 0 ∧ B₁.slots = A₁.slots + 0) :=
  (law l x t V cd n f).pays htab hfr (by omega)
end Emp
end StrChars
namespace StrChars.Road
open Jvm Sem ClassFile Op Lib Jvm.Stand Jvm.Free Jvm.Free.XT
open Jvm.Lib.Cold (StaticIs)
/-- the words of String.isEmpty() -/
abbrev wordsEmp : List Jvm.Cond := [.code Emp.yN Emp.yB 1 (some .boolean), .initialized ST, .fieldLink ST 9 ST "value" "[B"]
theorem tabEmp_of {a : Array Value} {s : State} (h : ∀ w ∈ wordsEmp, w.before a s = true) : Emp.tab.before a s = true := unparts (wk h (.code Emp.yN Emp.yB 1 (some .boolean))) (wks h (.initialized Emp.yN.cls :: Emp.site))
theorem movedEmp {Z s : State} {a0 args : Array Value} (hZ : Z.Warmed39 s.vm) (hw : ∀ d ∈ wordsEmp, d.before a0 Z = true) : ∀ d ∈ wordsEmp, d.before args s = true := fun d hd => by
  have t : ∀ d ∈ wordsEmp, (d.onTables && d.keepsFace) = true := by decide +kernel
  exact RoadKit.mv hZ (hw d hd) (t d hd)
/-- the road's facts of a String, as the laws ask it -/
theorem txt_of {Z U : State} {a0 : Array Value} {kI : Nat} (wi : (Jvm.Cond.instantiable ST kI).before a0 Z = true) (al : Z.vm.Alike U.vm) {x t : Addr} {kb : ClassId} {cs : List Int32} {cd N2 : Int32} {vs : List Value} (E : RoadKit.Exa Z U.heap x ST) (V : RoadKit.Fld Z U.heap x ST "value" "[B" (.ref t)) (C : RoadKit.Fld Z U.heap x ST "coder" "B" (.int cd)) (K : RoadKit.Arv Z U.heap t kb .byte N2 vs (.int 0)) (hc : CodA cs cd N2 vs) (hb : ∀ c ∈ cs, ¬ c < 0 ∧ ¬ (65535 : Int32) < c) (l2 : cs.length ≤ 4000) :
    ∃ A, Txt x t A cd cs.length (fun j => cs.getD j 0) U := by
  obtain ⟨A, K1, K2, K3, K4, K5, K6⟩ := K
  have hcod := hc.cod (by omega) K3 K5
  obtain ⟨D, fV, fC, hB, F1, F2, g1, g2, -, -⟩ := strObj wi al E V C
  exact ⟨A, ⟨_, hB.2.2.1, D, hB.1, rfl, by cases q : D.vm <;> first | rfl | exact absurd q (hB.2.1.2 _)⟩, Has.of hB F1 g1, Has.of hB F2 g2, ⟨K1.1, State.isArrayOf_alike al K1.2.1, K1.2.2, by rcases hcod with ⟨-, q, -⟩ | ⟨-, q, -⟩ <;> omega⟩, hcod, fun j hj => by
    have e : cs.getD j 0 = cs[j] := by simp [List.getD_eq_getElem?_getD, hj]
    show ¬ cs.getD j 0 < 0 ∧ ¬ 65535 < cs.getD j 0
    rw [e]; exact hb _ (List.getElem_mem _)⟩
/-- **isEmpty() OF SUCH A STRING** -/
theorem empW {p : Program} {l : Launch} {e : Env} {R : Room} {s : State} {args : Array Value} {below : List Frame} {len W : Nat} {Z : State} {a0 : Array Value} {h : Heap} (hZ : Z.Warmed39 s.vm) (hw : ∀ d ∈ wordsEmp, d.before a0 Z = true) {kI : Nat} (wi : (Jvm.Cond.instantiable ST kI).before a0 Z = true)
    {x t : Addr} {kb : ClassId} {cs : List Int32} {cd N2 : Int32} {vs : List Value} (E : RoadKit.Exa Z h x ST) (V : RoadKit.Fld Z h x ST "value" "[B" (.ref t)) (C : RoadKit.Fld Z h x ST "coder" "B" (.int cd)) (K : RoadKit.Arv Z h t kb .byte N2 vs (.int 0)) (hc : CodA cs cd N2 vs) (hb : ∀ c ∈ cs, ¬ c < 0 ∧ ¬ (65535 : Int32) < c) (l2 : cs.length ≤ 4000) (hfr : 1 ≤ R.frames) (hlo : W + 12 ≤ R.locals) :
    Back l R p e below s args (⟨"java/lang/String", "isEmpty", "()Z"⟩ : MethodName) len W (fun P a => a = #[.ref x] ∧ P.U.heap = h ∧ P.cells + 0 ≤ R.cells ∧ P.slots + 0 ≤ R.slots)
      (fun P _ v B => ∃ L, (v = some (.int (if cs.length = 0 then 1 else 0)) ∧ L = [] ∧ B.U.heap = h) ∧ B.locs = P.locs ++ L ∧ B.cells = P.cells + 0 ∧ B.slots = P.slots + 0) := by
  intro m meth c P g ig mk a X hg hsize hdg hW hn hp'
  obtain ⟨rfl, rfl, r1, r2⟩ := hp'
  have al : Z.vm.Alike P.U.vm := hZ.alike.trans X.warmed.alike
  obtain ⟨A, hx⟩ := txt_of wi al E V C K hc hb l2
  obtain ⟨v, B, X', ⟨⟨hv, hh⟩, hl, hk, hs⟩, st⟩ := Emp.pays x t A cd cs.length (fun j => cs.getD j 0) (tabEmp_of (movedEmp hZ hw)) hfr hlo m meth c P g ig mk _ X hg hsize hdg hW hn ⟨r1, r2, rfl, hx⟩
  exact ⟨v, B, X', ⟨[], ⟨hv, rfl, hh⟩, hl, hk, hs⟩, st⟩
end StrChars.Road
namespace StrChars
open Jvm Sem ClassFile Op Lib Jvm.Stand Jvm.Free.XT Jvm.Free.ALB Jvm.Free.JM Jvm.Free
open Jvm.Lib.Cold (StaticIs)
namespace ChN
def yN : MethodName := ⟨"java/lang/String", "charAt", "(I)C"⟩
abbrev yB : ByteArray := jdk_42_method_56_code
theorem d0 : decode yB 0 = .ok (.aload_n 0, 1) := by decide +kernel
theorem d1 : decode yB 1 = .ok (.invokevirtual 492, 3) := by decide +kernel
theorem d4 : decode yB 4 = .ok (.ifCond (.eq) 12, 3) := by decide +kernel
theorem d7 : decode yB 7 = .ok (.aload_n 0, 1) := by decide +kernel
theorem d8 : decode yB 8 = .ok (.getfield 9, 3) := by decide +kernel
theorem d11 : decode yB 11 = .ok (.iload_n 1, 1) := by decide +kernel
theorem d12 : decode yB 12 = .ok (.invokestatic 495, 3) := by decide +kernel
theorem d15 : decode yB 15 = .ok (.ireturn, 1) := by decide +kernel
def site : List Cond := [.fieldLink "java/lang/String" 9 "java/lang/String" "value" "[B", IsL.tab, LChA.tab] ++ virtW "java/lang/String" 492 "java/lang/String" IsL.yN IsL.yN ++ staticW "java/lang/String" 495 LChA.yN
def tab : Cond := tabOf yN yB 2 (some .char) site
def P (x t : Addr) (V : Cell) (n : Nat) (f : Nat → Int32) (z : Int32) (fm : Value) (i : Nat) (args : Array Value) (s : State) : Prop := args = #[.ref x, .int (Int32.ofNat i)] ∧ Txt x t V 0 n f s ∧ i < n ∧ StaticIs s "java/lang/String" "COMPACT_STRINGS" "Z" (.int z) ∧ ¬ z = 0 ∧ StaticIs s "jdk/internal/util/Preconditions" "SIOOBE_FORMATTER" "Ljava/util/function/BiFunction;" fm ∧ fm.isRef = true
def E (f : Nat → Int32) (i : Nat) (r : Option Value) (s u : State) : Prop := XT.PureE (some (.int (f i))) r s u
/-- charAt(i) of a Latin-1 String of n chars, i < n: f i -/
theorem law (l : Launch) (x t : Addr) (V : Cell) (n : Nat) (f : Nat → Int32) (z : Int32) (fm : Value) (i : Nat) : Law l yN 2 1 3 40 yB 2 (some .char) site (P x t V n f z fm i) (E f i) [] 0 0 := by
  refine Law.of_walk (plainFor_of_name (by decide +kernel)) (by decide +kernel) (by decide +kernel) (by decide) (fun _ _ h => by rw [h.1]; rfl) (fun _ U U' hal hh h => ⟨h.1, h.2.1.mv hal hh, h.2.2.1, h.2.2.2.1.there hal hh, h.2.2.2.2.1, h.2.2.2.2.2.1.there hal hh, h.2.2.2.2.2.2⟩) (fun r U U' V V' h1 hal h2 h => XT.PureE.mv r U U' V V' h1 hal h2 h) ?_
  intro p e s m args below meth c s₁ X0 hexec hbytes hml hret hlk hnm hown hh0 W hP
  obtain ⟨rfl, hx, hi, s1, hz, s3, rf⟩ := hP
  have v31 := hx.2.2.2.1.2.2.2
  have hr := hx.2.2.2.2.2 i hi
  have hx0 := hx.mv X0.warmed.alike hh0
  have c1 : Steps p.tables e below (s₁.setTop (entryFrame m #[.ref x, .int (Int32.ofNat i)] 2)) (s₁.setTop (mkF m 1 #[.val (.ref x), .val (.int (Int32.ofNat i))] [.ref x])) := Steps.trans (entry rfl) (by
    show Steps p.tables e below (s₁.setTop (mkF m 0 #[.val (.ref x), .val (.int (Int32.ofNat i))] [])) _
    refine XS.aloadN X0.here hexec rfl (hb hbytes d0) rfl rfl ?_
    exact Steps.refl _)
  obtain ⟨v2, T2, X2, E2, g2⟩ := X0.callV hexec (IsL.law l x 0 z) hown (wks W (virtW "java/lang/String" 492 "java/lang/String" IsL.yN IsL.yN)) rfl (by decide) (wk W IsL.tab) (W := 0) (Nat.le_of_ble_eq_true rfl) (Nat.le_of_ble_eq_true rfl) (Nat.le_refl _) (Nat.le_refl _) (hx0.1.fc X0.warmed.alike) hx0.1.is (g := (mkF m 1 #[.val (.ref x), .val (.int (Int32.ofNat i))] [.ref x])) rfl (by rw [hml]; rfl) c1 (argsL := []) (rest := []) rfl rfl (by show 2 * 0 + 0 ≤ _; decide) (hb hbytes d1) (⟨rfl, hx0.2.2.1, hx.2.2.2.2.1.cd, s1.there X0.warmed.alike hh0, hz⟩)
  obtain ⟨rfl, q2⟩ := E2
  have hh2 := q2.trans hh0
  have hx2 := hx.mv X2.warmed.alike hh2
  obtain ⟨-, k1, k2⟩ | ⟨k0, -⟩ := hx.2.2.2.2.1
  · have c3 : Steps p.tables e below (s₁.setTop (entryFrame m #[.ref x, .int (Int32.ofNat i)] 2)) (T2.setTop (mkF m 8 #[.val (.ref x), .val (.int (Int32.ofNat i))] [.ref x])) := Steps.trans g2 (by
      refine XS.ifNo X2.here hexec rfl (hb hbytes d4) rfl (i0_eq_f (by decide)) ?_
      refine XS.aloadN X2.here hexec rfl (hb hbytes d7) rfl rfl ?_
      exact Steps.refl _)
    obtain ⟨T4, X4, q4, st4⟩ := X2.hget hexec hown (wk W (.fieldLink "java/lang/String" 9 "java/lang/String" "value" "[B")) hx2.2.1 (g := (mkF m 8 #[.val (.ref x), .val (.int (Int32.ofNat i))] [.ref x])) rfl (rest := []) rfl (hb hbytes d8)
    have hh4 := q4.trans hh2
    have c5 : Steps p.tables e below (s₁.setTop (entryFrame m #[.ref x, .int (Int32.ofNat i)] 2)) (T4.setTop (mkF m 12 #[.val (.ref x), .val (.int (Int32.ofNat i))] [.int (Int32.ofNat i), .ref t])) := (c3.trans (st4 _ (Steps.refl _))).trans (by
      refine XS.iloadN X4.here hexec rfl (hb hbytes d11) rfl ?_
      exact Steps.refl _)
    obtain ⟨v6, T6, X6, E6, g6⟩ := X4.callS hexec (LChA.law l t V i (lo8 (f i)) fm) hown (wks W (staticW "java/lang/String" 495 LChA.yN)) (wk W LChA.tab) (W := 0) (Nat.le_of_ble_eq_true rfl) (Nat.le_of_ble_eq_true rfl) (Nat.le_refl _) (Nat.le_refl _) (g := (mkF m 12 #[.val (.ref x), .val (.int (Int32.ofNat i))] [.int (Int32.ofNat i), .ref t])) rfl (by rw [hml]; rfl) c5 (argsL := [.ref t, .int (Int32.ofNat i)]) (rest := []) rfl rfl (by show 2 * 0 + 0 ≤ _; decide) (hb hbytes d12) (⟨rfl, hx.2.2.2.1.mv X4.warmed.alike hh4, (k2 i hi).1, s3.there X4.warmed.alike hh4, rf⟩)
    obtain ⟨rfl, q6⟩ := E6
    rw [chr8_lo8 hr.1 (k2 i hi).2] at g6
    exact ⟨T6, some (.int (f i)), _, _, _, X6, rfl, rfl, rfl, (fun h => by cases h), ⟨rfl, q6.trans hh4⟩, fun fs hl => Steps.trans g6 (X6.ireturnOut hexec hret (narrow_ch hr.1 hr.2) (Or.inr (Or.inr (Or.inr (Or.inl rfl)))) (hb hbytes d15) hl)⟩
  · exact absurd k0 (by decide)
theorem pays {l : Launch} {R : Room} {p : Program} {e : Env} {below : List Frame} {s : State} {sargs : Array Value} {len W : Nat} (x t : Addr) (V : Cell) (n : Nat) (f : Nat → Int32) (z : Int32) (fm : Value) (i : Nat) (htab : tab.before sargs s = true) (hfr : 4 ≤ R.frames) (hlo : W + 53 ≤ R.locals) :
    Back l R p e below s sargs yN len W (fun A₁ a₁ => A₁.cells + 0 ≤ R.cells ∧ A₁.slots + 0 ≤ R.slots ∧ P x t V n f z fm i a₁ A₁.U) (fun A₁ _ v₁ B₁ => E f i v₁ A₁.U B₁.U ∧ B₁.locs = A₁.locs ++ [] ∧ B₁.cells = A₁.cells + 0 ∧ B₁.slots = A₁.slots + 0) :=
  (law l x t V n f z fm i).pays htab hfr (by omega)
end ChN
end StrChars
namespace StrChars.Road
open Jvm Sem ClassFile Op Lib Jvm.Stand Jvm.Free Jvm.Free.XT
open Jvm.Lib.Cold (StaticIs)
/-- the words of String.charAt(int), the Latin-1 road alone -/
abbrev wordsChN : List Jvm.Cond := [.code ChN.yN ChN.yB 2 (some .char), .initialized ST, .fieldLink ST 9 ST "value" "[B", .fieldLink ST 38 ST "COMPACT_STRINGS" "Z", .fieldLink ST 15 ST "coder" "B", .code IsL.yN IsL.yB 1 (some .boolean), .methodLink ST 492 IsL.yN, .declares IsL.yN, .selects ST IsL.yN IsL.yN, .instanceMethod IsL.yN,
  .methodLink ST 495 LChA.yN, .static LChA.yN, .code LChA.yN LChA.yB 2 (some .char), .initialized "java/lang/StringLatin1", .methodLink "java/lang/StringLatin1" 9 JO.Str_checkIndex.yN, .static JO.Str_checkIndex.yN, .code JO.Str_checkIndex.yN JO.Str_checkIndex.yB 2 none,
  .fieldLink ST 1053 "jdk/internal/util/Preconditions" "SIOOBE_FORMATTER" "Ljava/util/function/BiFunction;", .methodLink ST 1059 JC.PreCheck.yN, .static JC.PreCheck.yN, .code JC.PreCheck.yN JC.PreCheck.yB 3 (some .int), .initialized "jdk/internal/util/Preconditions"]
theorem tabChN_of {a : Array Value} {s : State} (h : ∀ w ∈ wordsChN, w.before a s = true) : ChN.tab.before a s = true := by
  have hp : JC.PreCheck.tab.before a s = true := unparts (wk h (.code JC.PreCheck.yN JC.PreCheck.yB 3 (some .int))) (wks h (.initialized JC.PreCheck.yN.cls :: JC.PreCheck.site))
  have qk := consq hp h
  have hk : JO.Str_checkIndex.tab.before a s = true := unparts (wk qk (.code JO.Str_checkIndex.yN JO.Str_checkIndex.yB 2 none)) (wks qk (.initialized JO.Str_checkIndex.yN.cls :: JO.Str_checkIndex.site))
  have ql := consq hk h
  have hl : LChA.tab.before a s = true := unparts (wk ql (.code LChA.yN LChA.yB 2 (some .char))) (wks ql (.initialized LChA.yN.cls :: LChA.site))
  have hi : IsL.tab.before a s = true := unparts (wk h (.code IsL.yN IsL.yB 1 (some .boolean))) (wks h (.initialized IsL.yN.cls :: IsL.site))
  have q := consq hi (consq hl h)
  exact unparts (wk q (.code ChN.yN ChN.yB 2 (some .char))) (wks q (.initialized ChN.yN.cls :: ChN.site))
theorem movedChN {Z s : State} {a0 args : Array Value} (hZ : Z.Warmed39 s.vm) (hw : ∀ d ∈ wordsChN, d.before a0 Z = true) : ∀ d ∈ wordsChN, d.before args s = true := fun d hd => by
  have t : ∀ d ∈ wordsChN, (d.onTables && d.keepsFace) = true := by decide +kernel
  exact RoadKit.mv hZ (hw d hd) (t d hd)
/-- **charAt(i) OF A LATIN-1 STRING**, i < n: the char -/
theorem chN {p : Program} {l : Launch} {e : Env} {R : Room} {s : State} {args : Array Value} {below : List Frame} {len W : Nat} {Z : State} {a0 : Array Value} {h : Heap} (hZ : Z.Warmed39 s.vm) (hw : ∀ d ∈ wordsChN, d.before a0 Z = true) {kI : Nat} (wi : (Jvm.Cond.instantiable ST kI).before a0 Z = true)
    {x t : Addr} {kb : ClassId} {cs : List Int32} {N2 z : Int32} {vs : List Value} {fm : Value} {i : Nat} {j : Int32} (E : RoadKit.Exa Z h x ST) (V : RoadKit.Fld Z h x ST "value" "[B" (.ref t)) (C : RoadKit.Fld Z h x ST "coder" "B" (.int 0)) (K : RoadKit.Arv Z h t kb .byte N2 vs (.int 0)) (hc : CodA cs 0 N2 vs) (hb : ∀ c ∈ cs, ¬ c < 0 ∧ ¬ (65535 : Int32) < c)
    (S : RoadKit.Sta Z h ST "COMPACT_STRINGS" "Z" (.int z)) (hz : ¬ z = 0) (F : RoadKit.Sta Z h "jdk/internal/util/Preconditions" "SIOOBE_FORMATTER" "Ljava/util/function/BiFunction;" fm) (rf : fm.isRef = true) (l2 : cs.length ≤ 4000) (hi : i < cs.length) (hj : j = Int32.ofNat i) (hfr : 4 ≤ R.frames) (hlo : W + 53 ≤ R.locals) :
    Back l R p e below s args (⟨"java/lang/String", "charAt", "(I)C"⟩ : MethodName) len W (fun P a => a = #[.ref x, .int j] ∧ P.U.heap = h ∧ P.cells + 0 ≤ R.cells ∧ P.slots + 0 ≤ R.slots)
      (fun P _ v B => ∃ L, (v = some (.int (cs.getD i 0)) ∧ L = [] ∧ B.U.heap = h) ∧ B.locs = P.locs ++ L ∧ B.cells = P.cells + 0 ∧ B.slots = P.slots + 0) := by
  subst hj
  intro m meth c P g ig mk a X hg hsize hdg hW hn hp'
  obtain ⟨rfl, rfl, r1, r2⟩ := hp'
  have al : Z.vm.Alike P.U.vm := hZ.alike.trans X.warmed.alike
  obtain ⟨A, hx⟩ := txt_of wi al E V C K hc hb l2
  obtain ⟨v, B, X', ⟨⟨hv, hh⟩, hl, hk, hs⟩, st⟩ := ChN.pays x t A cs.length (fun j => cs.getD j 0) z fm i (tabChN_of (movedChN hZ hw)) hfr hlo m meth c P g ig mk _ X hg hsize hdg hW hn ⟨r1, r2, rfl, hx, hi, sta_is al S, hz, sta_is al F, rf⟩
  exact ⟨v, B, X', ⟨[], ⟨hv, rfl, hh⟩, hl, hk, hs⟩, st⟩
/-- what backV says of its String, as the contracts of this text ask it: cs's low bytes, coder 0 -/
theorem codOf {cs : List Int32} {n : Nat} (hn : cs.length = n) (hb : ∀ c ∈ cs, ¬ 255 < c) : CodA cs 0 (Int32.ofNat n) ((cs.map lo8).map Value.int) := Or.inl ⟨rfl, by rw [hn], by simp [List.map_map, Function.comp_def], hb⟩
end StrChars.Road
end Jvm.Pilot.@@N@@
namespace Jvm.Pilot.@@N@@
open Jvm Jvm.ClassFile Sem Op Lib Jvm.Free Jvm.Stand Jvm.LawKit Jvm.RoadKit Bundle Jvm.Pilot.@@N@@.Jvm.D
/-! THE WALK's GOAL, AND ONE LAW A STEP (each in the form: where the run goes on, it ends well; so it does from here) -/
def Go (p : Program) (e : Env) (below : List Frame) (K : Outcome → State → Prop) (u : State) : Prop := ∃ s₂ o, Steps p.tables e below u s₂ ∧ s₂.status = .running ∧ Ended s₂ below o ∧ K o s₂
theorem Go.step {p : Program} {e : Env} {below : List Frame} {K : Outcome → State → Prop} {u u' : State} (h : ∀ t, Steps p.tables e below u' t → Steps p.tables e below u t) (g : Go p e below K u') : Go p e below K u := by
  obtain ⟨a, o, h1, h2⟩ := g; exact ⟨a, o, h _ h1, h2⟩
def Ends (s : State) (Q : Option Value → Heap → List Loc → Prop) (kc ks : Nat) (o : Outcome) (U : State) : Prop := ∃ v L, o = .returned v ∧ Q v U.heap L ∧ FrameEnd s o U L kc ks
/-- where the run stands, with all that a step asks -/
def Sx (Z : State) (own : String) (bytes : ByteArray) (ml : Nat) (p : Program) (l : Launch) (e : Env) (R : Room) (s : State) (m : MethodId) (args : Array Value) (below : List Frame) (meth : Method) (c : Code) (T : State) (locs : List Loc) (cells slots : Nat) (h : Heap) : Prop :=
  Stand p l e R s m args below meth c T locs cells slots ∧ p.tables.exec = Jvm.exec ∧ c.code = bytes ∧ c.maxLocals = ml ∧ s.vm.findClass own = some m.cls ∧ Z.Warmed39 s.vm ∧ T.heap = h
/-- what a method owes: called at the heap h0 with these arguments it returns, and Q holds -/
abbrev Rm (l : Launch) (Z : State) (y : MethodName) (bytes : ByteArray) (ml : Nat) (ret : Option FieldType) (ws : List Jvm.Cond) (rm : Room) (as' : Array Value) (h0 : Heap) (Q : Option Value → Heap → List Loc → Prop) : Prop :=
  MetFree l y (head1 (Jvm.Cond.code y bytes ml ret :: ws) rm) (fun a U => a = as' ∧ Z.Warmed39 U.vm ∧ U.heap = h0) (fun _ _ _ _ _ => True) (fun _ U o U' => ∃ v L, o = .returned v ∧ Q v U'.heap L ∧ FrameEnd U o U' L rm.cells rm.slots)
theorem Rm.of {l : Launch} {Z : State} {y : MethodName} {bytes : ByteArray} {ml : Nat} {ret : Option FieldType} {ws : List Jvm.Cond} {rm : Room} {as' : Array Value} {h0 : Heap} {Q : Option Value → Heap → List Loc → Prop} (hpl : plainFor y = true)
    (body : ∀ (p : Program) (e : Env) (s : State) (m : MethodId) (below : List Frame) (meth : Method) (c : Code) (T : State), Sx Z y.cls bytes ml p l e rm s m as' below meth c T [] 0 0 h0 → meth.name = y.name → meth.sig.returnType = ret → meth.locks = false → Go p e below (Ends s Q rm.cells rm.slots) (T.setTop (entryFrame m as' ml))) : Rm l Z y bytes ml ret ws rm as' h0 Q := by
  refine MetFree.of_bodySF hpl hisR ?_
  intro p e s m args below meth c s₁ Bd hml0 hP hK
  obtain ⟨rfl, hZ, hh⟩ := hP
  have X0 : Stand p l e rm s m args below meth c s₁ [] 0 0 := Stand.of_body Bd
  exact body p e s m below meth c s₁ ⟨X0, Bd.exec, Bd.bytes, hml0, findClass_of_methodNamed Bd.named, hZ, by rw [← hh, Bd.state]; rfl⟩ (name_of_methodNamed Bd.named Bd.method).1 Bd.returns (BodyLoose.notSynchronized Bd)
theorem Rm.weaken {l : Launch} {Z : State} {y : MethodName} {bytes : ByteArray} {ml : Nat} {ret : Option FieldType} {ws : List Jvm.Cond} {rm : Room} {as' : Array Value} {h0 : Heap} {Q Q' : Option Value → Heap → List Loc → Prop} (M : Rm l Z y bytes ml ret ws rm as' h0 Q) (hq : ∀ v h L, Q v h L → Q' v h L) : Rm l Z y bytes ml ret ws rm as' h0 Q' := by
  intro p e ha hc hk s m args below hf happ hP hK
  obtain ⟨n, o, h1, h2, h3, v, L, e1, q, r⟩ := M p e ha hc hk s m args below hf happ hP hK
  exact ⟨n, o, h1, h2, h3, v, L, e1, hq _ _ _ q, r⟩
/-- a boolean as an int -/
def b2i (b : Bool) : Int32 := if b then 1 else 0
theorem m1_int : (-1 : Int32).toInt = -1 := rfl
theorem b2i_t : b2i true = 1 := rfl
theorem b2i_f : b2i false = 0 := rfl
theorem nar_b2i (b : Bool) : nar .boolean (b2i b) = b2i b := by cases b <;> rfl
theorem bne {b : Bool} (h : b = true) : ¬ b2i b = 0 := by subst h; decide
theorem beq0 {b : Bool} (h : ¬ b = true) : b2i b = 0 := by simp at h; subst h; rfl
theorem Fr.one {k : Nat} {a : Addr} {sl : Nat} (g : k ≤ a) : Fr k [⟨a, sl⟩] := fun y hy => by cases List.mem_singleton.mp hy; exact g
/-- an array and all that it holds -/
def Av (Z : State) (h : Heap) (a : Addr) (ty : FieldType) (vs : List Value) : Prop := ∃ c : Cell, Arr Z h a c ty ∧ c.slots.toList = vs ∧ vs.length < 2147483648
section Facts
variable {Z : State} {h h' : Heap} {a b : Addr} {ty : FieldType} {vs : List Value} {sl : Nat} {v : Value} {ws : List Addr}
theorem Av.lt (F : Av Z h a ty vs) : a < h.size := by obtain ⟨c, A, -⟩ := F; exact A.lt
theorem Av.ext (F : Av Z h a ty vs) (E : Ext h h') : Av Z h' a ty vs := by obtain ⟨c, A, r⟩ := F; exact ⟨c, A.ext E, r⟩
theorem Av.other (F : Av Z h b ty vs) (W : Wr h h' a sl v) (q : b ≠ a) : Av Z h' b ty vs := by obtain ⟨c, A, r⟩ := F; exact ⟨c, A.other W q, r⟩
theorem Av.keep (F : Av Z h a ty vs) (K : Keep h h' ws) (q : a ∉ ws) : Av Z h' a ty vs := by obtain ⟨c, A, r⟩ := F; exact ⟨c, ⟨K.2.1 a c A.1 q, A.2⟩, r⟩
theorem Av.set (F : Av Z h a ty vs) (W : Wr h h' a sl v) : Av Z h' a ty (vs.set sl v) := by
  obtain ⟨c, A, e, r⟩ := F
  refine ⟨_, A.same W, ?_, by simpa using r⟩
  subst e
  simp [Cell.setSlot]
theorem Av.eq {vs' : List Value} (F : Av Z h a ty vs) (e : vs = vs') : Av Z h a ty vs' := e ▸ F
/-- an array of which the length is known alone -/
def AvN (Z : State) (h : Heap) (a : Addr) (ty : FieldType) (z : Int32) : Prop := ∃ vs, Av Z h a ty vs ∧ vs.length.toInt32 = z
theorem AvN.lt {z : Int32} (F : AvN Z h a ty z) : a < h.size := by obtain ⟨vs, A, -⟩ := F; exact A.lt
theorem AvN.ext {z : Int32} (F : AvN Z h a ty z) (E : Ext h h') : AvN Z h' a ty z := by obtain ⟨vs, A, r⟩ := F; exact ⟨vs, A.ext E, r⟩
theorem AvN.other {z : Int32} (F : AvN Z h b ty z) (W : Wr h h' a sl v) (q : b ≠ a) : AvN Z h' b ty z := by obtain ⟨vs, A, r⟩ := F; exact ⟨vs, A.other W q, r⟩
theorem AvN.keep {z : Int32} (F : AvN Z h a ty z) (K : Keep h h' ws) (q : a ∉ ws) : AvN Z h' a ty z := by obtain ⟨vs, A, r⟩ := F; exact ⟨vs, A.keep K q, r⟩
theorem Av.len (F : Av Z h a ty vs) : vs.length.toInt32.toInt = vs.length := by obtain ⟨_, _, _, r⟩ := F; exact len_toInt r
/-- an array over objects of the class C -/
def OvA (Z : State) (h : Heap) (a : Addr) (C : String) : Prop := ∃ cl : Cell, Arr Z h a cl (.object C) ∧ Ovr Z cl.cls C
theorem OvA.lt {C : String} (F : OvA Z h a C) : a < h.size := by obtain ⟨_, A, _⟩ := F; exact A.lt
theorem OvA.ext {C : String} (F : OvA Z h a C) (E : Ext h h') : OvA Z h' a C := by obtain ⟨cl, A, r⟩ := F; exact ⟨cl, A.ext E, r⟩
theorem OvA.keep {C : String} (F : OvA Z h a C) (K : Keep h h' ws) (q : a ∉ ws) : OvA Z h' a C := by obtain ⟨c, A, r⟩ := F; exact ⟨c, ⟨K.2.1 a c A.1 q, A.2⟩, r⟩
theorem OvA.wr {C : String} (F : OvA Z h a C) (W : Wr h h' b sl v) : OvA Z h' a C := by
  obtain ⟨cl, A, r⟩ := F
  by_cases q : a = b
  · subst q; exact ⟨_, A.same W, r⟩
  · exact ⟨cl, A.other W q, r⟩
theorem OvA.sto {C : String} (F : OvA Z h a C) (I : Ins Z h b C true) : Sto Z h a (.ref b) := by obtain ⟨cl, A, r⟩ := F; exact Sto.of A r I
theorem fit0 : ∀ v ∈ ([] : List Value), fits ty v = true := fun _ q => nomatch q
theorem fitS (q : fits ty v = true) (r : ∀ w ∈ vs, fits ty w = true) : ∀ w ∈ v :: vs, fits ty w = true := fun w hw => (List.mem_cons.mp hw).elim (fun e => e ▸ q) (r w)
theorem Sta.keep {C n d : String} (F : Sta Z h C n d v) (K : Keep h h' ws) (q : ∀ x ∈ ws, ∀ c : Cell, h[x]? = some c → c.vm.isStatics = false) : Sta Z h' C n d v := by
  obtain ⟨cf, i, k, f, st, cell, h1, h2, h3, h4, h5, h6, h7⟩ := F
  exact ⟨cf, i, k, f, st, cell, h1, h2, h3, h4, K.2.1 _ _ h5 (fun hm => by rw [q _ hm _ h5] at h6; cases h6), h6, h7⟩
end Facts
section Walk
variable {Z : State} {a0 : Array Value} {own : String} {bytes : ByteArray} {ml : Nat} {p : Program} {l : Launch} {e : Env} {R : Room} {s : State} {m : MethodId} {args : Array Value} {below : List Frame} {meth : Method} {c : Code} {T : State} {locs : List Loc} {cells slots : Nat} {h : Heap} {K : Outcome → State → Prop} {pc pc' : Nat} {Ls Ls' : Array Slot} {st : List Value}
theorem Go.lit32 {x z : Int32} (q : x = z) (k : Go p e below K (T.setTop (mkF m pc Ls (.int z :: st)))) : Go p e below K (T.setTop (mkF m pc Ls (.int x :: st))) := q ▸ k
theorem Go.lit64 {x z : Int64} (q : x = z) (k : Go p e below K (T.setTop (mkF m pc Ls (.long z :: st)))) : Go p e below K (T.setTop (mkF m pc Ls (.long x :: st))) := q ▸ k
theorem Go.at_ {f f' : JFrame} (q : f = f') (k : Go p e below K (T.setTop f')) : Go p e below K (T.setTop f) := q ▸ k
theorem g_iload (X : Sx Z own bytes ml p l e R s m args below meth c T locs cells slots h) {i : Nat} {v : Int32} (hd : decode bytes pc = .ok (.iload i, 2)) (hp : pc + 2 = pc') (hl : Ls[i]? = some (.val (.int v))) (k : Go p e below K (T.setTop (mkF m pc' Ls (.int v :: st)))) : Go p e below K (T.setTop (mkF m pc Ls (st))) := by
  subst hp; exact Go.step (fun t q => XS.iload X.1.here X.2.1 rfl (hb X.2.2.1 hd) hl q) k
theorem g_iloadN (X : Sx Z own bytes ml p l e R s m args below meth c T locs cells slots h) {i : Fin 4} {v : Int32} (hd : decode bytes pc = .ok (.iload_n i, 1)) (hp : pc + 1 = pc') (hl : Ls[i.val]? = some (.val (.int v))) (k : Go p e below K (T.setTop (mkF m pc' Ls (.int v :: st)))) : Go p e below K (T.setTop (mkF m pc Ls (st))) := by
  subst hp; exact Go.step (fun t q => XS.iloadN X.1.here X.2.1 rfl (hb X.2.2.1 hd) hl q) k
theorem g_lload (X : Sx Z own bytes ml p l e R s m args below meth c T locs cells slots h) {i : Nat} {v : Int64} (hd : decode bytes pc = .ok (.lload i, 2)) (hp : pc + 2 = pc') (hl : Ls[i]? = some (.val (.long v))) (k : Go p e below K (T.setTop (mkF m pc' Ls (.long v :: st)))) : Go p e below K (T.setTop (mkF m pc Ls (st))) := by
  subst hp; exact Go.step (fun t q => XS.lload X.1.here X.2.1 rfl (hb X.2.2.1 hd) hl q) k
theorem g_lloadN (X : Sx Z own bytes ml p l e R s m args below meth c T locs cells slots h) {i : Fin 4} {v : Int64} (hd : decode bytes pc = .ok (.lload_n i, 1)) (hp : pc + 1 = pc') (hl : Ls[i.val]? = some (.val (.long v))) (k : Go p e below K (T.setTop (mkF m pc' Ls (.long v :: st)))) : Go p e below K (T.setTop (mkF m pc Ls (st))) := by
  subst hp; exact Go.step (fun t q => XS.lloadN X.1.here X.2.1 rfl (hb X.2.2.1 hd) hl q) k
theorem g_aload (X : Sx Z own bytes ml p l e R s m args below meth c T locs cells slots h) {i : Nat} {v : Value} (hd : decode bytes pc = .ok (.aload i, 2)) (hp : pc + 2 = pc') (hl : Ls[i]? = some (.val v)) (hv : v.isRef = true) (k : Go p e below K (T.setTop (mkF m pc' Ls (v :: st)))) : Go p e below K (T.setTop (mkF m pc Ls (st))) := by
  subst hp; exact Go.step (fun t q => XS.aload X.1.here X.2.1 rfl (hb X.2.2.1 hd) hl hv q) k
theorem g_aloadN (X : Sx Z own bytes ml p l e R s m args below meth c T locs cells slots h) {i : Fin 4} {v : Value} (hd : decode bytes pc = .ok (.aload_n i, 1)) (hp : pc + 1 = pc') (hl : Ls[i.val]? = some (.val v)) (hv : v.isRef = true) (k : Go p e below K (T.setTop (mkF m pc' Ls (v :: st)))) : Go p e below K (T.setTop (mkF m pc Ls (st))) := by
  subst hp; exact Go.step (fun t q => XS.aloadN X.1.here X.2.1 rfl (hb X.2.2.1 hd) hl hv q) k
theorem g_istore (X : Sx Z own bytes ml p l e R s m args below meth c T locs cells slots h) {i : Nat} {v : Int32} (hd : decode bytes pc = .ok (.istore i, 2)) (hp : pc + 2 = pc') (hl : storeLocals Ls i (.int v) = some Ls') (k : Go p e below K (T.setTop (mkF m pc' Ls' (st)))) : Go p e below K (T.setTop (mkF m pc Ls (.int v :: st))) := by
  subst hp; exact Go.step (fun t q => XS.istore X.1.here X.2.1 rfl (hb X.2.2.1 hd) rfl hl q) k
theorem g_istoreN (X : Sx Z own bytes ml p l e R s m args below meth c T locs cells slots h) {i : Fin 4} {v : Int32} (hd : decode bytes pc = .ok (.istore_n i, 1)) (hp : pc + 1 = pc') (hl : storeLocals Ls i.val (.int v) = some Ls') (k : Go p e below K (T.setTop (mkF m pc' Ls' (st)))) : Go p e below K (T.setTop (mkF m pc Ls (.int v :: st))) := by
  subst hp; exact Go.step (fun t q => XS.istoreN X.1.here X.2.1 rfl (hb X.2.2.1 hd) rfl hl q) k
theorem g_lstore (X : Sx Z own bytes ml p l e R s m args below meth c T locs cells slots h) {i : Nat} {v : Int64} (hd : decode bytes pc = .ok (.lstore i, 2)) (hp : pc + 2 = pc') (hl : storeLocals Ls i (.long v) = some Ls') (k : Go p e below K (T.setTop (mkF m pc' Ls' (st)))) : Go p e below K (T.setTop (mkF m pc Ls (.long v :: st))) := by
  subst hp; exact Go.step (fun t q => XS.lstore X.1.here X.2.1 rfl (hb X.2.2.1 hd) rfl hl q) k
theorem g_lstoreN (X : Sx Z own bytes ml p l e R s m args below meth c T locs cells slots h) {i : Fin 4} {v : Int64} (hd : decode bytes pc = .ok (.lstore_n i, 1)) (hp : pc + 1 = pc') (hl : storeLocals Ls i.val (.long v) = some Ls') (k : Go p e below K (T.setTop (mkF m pc' Ls' (st)))) : Go p e below K (T.setTop (mkF m pc Ls (.long v :: st))) := by
  subst hp; exact Go.step (fun t q => XS.lstoreN X.1.here X.2.1 rfl (hb X.2.2.1 hd) rfl hl q) k
theorem g_astore (X : Sx Z own bytes ml p l e R s m args below meth c T locs cells slots h) {i : Nat} {v : Value} (hd : decode bytes pc = .ok (.astore i, 2)) (hp : pc + 2 = pc') (hv : v.isRef = true) (hl : storeLocals Ls i v = some Ls') (k : Go p e below K (T.setTop (mkF m pc' Ls' (st)))) : Go p e below K (T.setTop (mkF m pc Ls (v :: st))) := by
  subst hp; exact Go.step (fun t q => XS.astore X.1.here X.2.1 rfl (hb X.2.2.1 hd) rfl hv hl q) k
theorem g_astoreN (X : Sx Z own bytes ml p l e R s m args below meth c T locs cells slots h) {i : Fin 4} {v : Value} (hd : decode bytes pc = .ok (.astore_n i, 1)) (hp : pc + 1 = pc') (hv : v.isRef = true) (hl : storeLocals Ls i.val v = some Ls') (k : Go p e below K (T.setTop (mkF m pc' Ls' (st)))) : Go p e below K (T.setTop (mkF m pc Ls (v :: st))) := by
  subst hp; exact Go.step (fun t q => XS.astoreN X.1.here X.2.1 rfl (hb X.2.2.1 hd) rfl hv hl q) k
theorem g_iconst (X : Sx Z own bytes ml p l e R s m args below meth c T locs cells slots h) {i : Int} (v : Int32) (hd : decode bytes pc = .ok (.iconst i, 1)) (hp : pc + 1 = pc') (hv : Int32.ofInt i = v) (k : Go p e below K (T.setTop (mkF m pc' Ls (.int v :: st)))) : Go p e below K (T.setTop (mkF m pc Ls (st))) := by
  subst hv; subst hp; exact Go.step (fun t q => XS.iconst X.1.here X.2.1 rfl (hb X.2.2.1 hd)  q) k
theorem g_bipush (X : Sx Z own bytes ml p l e R s m args below meth c T locs cells slots h) {i : Int} (v : Int32) (hd : decode bytes pc = .ok (.bipush i, 2)) (hp : pc + 2 = pc') (hv : (Int8.ofInt i).toInt32 = v) (k : Go p e below K (T.setTop (mkF m pc' Ls (.int v :: st)))) : Go p e below K (T.setTop (mkF m pc Ls (st))) := by
  subst hv; subst hp; exact Go.step (fun t q => XS.bipush X.1.here X.2.1 rfl (hb X.2.2.1 hd)  q) k
theorem g_sipush (X : Sx Z own bytes ml p l e R s m args below meth c T locs cells slots h) {i : Int} (v : Int32) (hd : decode bytes pc = .ok (.sipush i, 3)) (hp : pc + 3 = pc') (hv : (Int16.ofInt i).toInt32 = v) (k : Go p e below K (T.setTop (mkF m pc' Ls (.int v :: st)))) : Go p e below K (T.setTop (mkF m pc Ls (st))) := by
  subst hv; subst hp; exact Go.step (fun t q => XS.sipush X.1.here X.2.1 rfl (hb X.2.2.1 hd)  q) k
theorem g_lconst (X : Sx Z own bytes ml p l e R s m args below meth c T locs cells slots h) {i : Fin 2} (v : Int64) (hd : decode bytes pc = .ok (.lconst i, 1)) (hp : pc + 1 = pc') (hv : Int64.ofNat i = v) (k : Go p e below K (T.setTop (mkF m pc' Ls (.long v :: st)))) : Go p e below K (T.setTop (mkF m pc Ls (st))) := by
  subst hv; subst hp; exact Go.step (fun t q => XS.lconst X.1.here X.2.1 rfl (hb X.2.2.1 hd)  q) k
theorem g_aconst_null (X : Sx Z own bytes ml p l e R s m args below meth c T locs cells slots h) (hd : decode bytes pc = .ok (.aconst_null, 1)) (hp : pc + 1 = pc') (k : Go p e below K (T.setTop (mkF m pc' Ls (.null :: st)))) : Go p e below K (T.setTop (mkF m pc Ls (st))) := by
  subst hp; exact Go.step (fun t q => XS.aconstNull X.1.here X.2.1 rfl (hb X.2.2.1 hd)  q) k
theorem g_ldc (X : Sx Z own bytes ml p l e R s m args below meth c T locs cells slots h) {i : Nat} {v : Int32} (w : (Cond.constant own i v).before a0 Z = true) (hd : decode bytes pc = .ok (.ldc i, 2)) (hp : pc + 2 = pc') (k : Go p e below K (T.setTop (mkF m pc' Ls (.int v :: st)))) : Go p e below K (T.setTop (mkF m pc Ls (st))) := by
  subst hp; exact Go.step (fun t q => X.1.ldcInt X.2.1 X.2.2.2.2.1 (mvT X.2.2.2.2.2.1 w) (g := mkF m pc Ls st) rfl (hb X.2.2.1 hd) _ q) k
theorem g_ldcw (X : Sx Z own bytes ml p l e R s m args below meth c T locs cells slots h) {i : Nat} {v : Int32} (w : (Cond.constant own i v).before a0 Z = true) (hd : decode bytes pc = .ok (.ldc_w i, 3)) (hp : pc + 3 = pc') (k : Go p e below K (T.setTop (mkF m pc' Ls (.int v :: st)))) : Go p e below K (T.setTop (mkF m pc Ls (st))) := by
  subst hp; exact Go.step (fun t q => X.1.ldcwInt X.2.1 X.2.2.2.2.1 (mvT X.2.2.2.2.2.1 w) (g := mkF m pc Ls st) rfl (hb X.2.2.1 hd) _ q) k
theorem g_ldc2 (X : Sx Z own bytes ml p l e R s m args below meth c T locs cells slots h) {i : Nat} {v : Int64} (w : (Cond.constantLong own i v).before a0 Z = true) (hd : decode bytes pc = .ok (.ldc2_w i, 3)) (hp : pc + 3 = pc') (k : Go p e below K (T.setTop (mkF m pc' Ls (.long v :: st)))) : Go p e below K (T.setTop (mkF m pc Ls (st))) := by
  subst hp; exact Go.step (fun t q => X.1.ldc2Long X.2.1 X.2.2.2.2.1 (mvT X.2.2.2.2.2.1 w) (g := mkF m pc Ls st) rfl (hb X.2.2.1 hd) _ q) k
theorem g_iadd (X : Sx Z own bytes ml p l e R s m args below meth c T locs cells slots h) {x y : Int32} (hd : decode bytes pc = .ok (.iadd, 1)) (hp : pc + 1 = pc') (k : Go p e below K (T.setTop (mkF m pc' Ls (.int (x + y) :: st)))) : Go p e below K (T.setTop (mkF m pc Ls (.int y :: .int x :: st))) := by
  subst hp; exact Go.step (fun t q => XS.iadd X.1.here X.2.1 rfl (hb X.2.2.1 hd) rfl q) k
theorem g_isub (X : Sx Z own bytes ml p l e R s m args below meth c T locs cells slots h) {x y : Int32} (hd : decode bytes pc = .ok (.isub, 1)) (hp : pc + 1 = pc') (k : Go p e below K (T.setTop (mkF m pc' Ls (.int (x - y) :: st)))) : Go p e below K (T.setTop (mkF m pc Ls (.int y :: .int x :: st))) := by
  subst hp; exact Go.step (fun t q => XS.isub X.1.here X.2.1 rfl (hb X.2.2.1 hd) rfl q) k
theorem g_imul (X : Sx Z own bytes ml p l e R s m args below meth c T locs cells slots h) {x y : Int32} (hd : decode bytes pc = .ok (.imul, 1)) (hp : pc + 1 = pc') (k : Go p e below K (T.setTop (mkF m pc' Ls (.int (x * y) :: st)))) : Go p e below K (T.setTop (mkF m pc Ls (.int y :: .int x :: st))) := by
  subst hp; exact Go.step (fun t q => XS.imul X.1.here X.2.1 rfl (hb X.2.2.1 hd) rfl q) k
theorem g_iand (X : Sx Z own bytes ml p l e R s m args below meth c T locs cells slots h) {x y : Int32} (hd : decode bytes pc = .ok (.iand, 1)) (hp : pc + 1 = pc') (k : Go p e below K (T.setTop (mkF m pc' Ls (.int (x &&& y) :: st)))) : Go p e below K (T.setTop (mkF m pc Ls (.int y :: .int x :: st))) := by
  subst hp; exact Go.step (fun t q => XS.iand X.1.here X.2.1 rfl (hb X.2.2.1 hd) rfl q) k
theorem g_ior (X : Sx Z own bytes ml p l e R s m args below meth c T locs cells slots h) {x y : Int32} (hd : decode bytes pc = .ok (.ior, 1)) (hp : pc + 1 = pc') (k : Go p e below K (T.setTop (mkF m pc' Ls (.int (x ||| y) :: st)))) : Go p e below K (T.setTop (mkF m pc Ls (.int y :: .int x :: st))) := by
  subst hp; exact Go.step (fun t q => XS.ior X.1.here X.2.1 rfl (hb X.2.2.1 hd) rfl q) k
theorem g_ixor (X : Sx Z own bytes ml p l e R s m args below meth c T locs cells slots h) {x y : Int32} (hd : decode bytes pc = .ok (.ixor, 1)) (hp : pc + 1 = pc') (k : Go p e below K (T.setTop (mkF m pc' Ls (.int (x ^^^ y) :: st)))) : Go p e below K (T.setTop (mkF m pc Ls (.int y :: .int x :: st))) := by
  subst hp; exact Go.step (fun t q => XS.ixor X.1.here X.2.1 rfl (hb X.2.2.1 hd) rfl q) k
theorem g_ishl (X : Sx Z own bytes ml p l e R s m args below meth c T locs cells slots h) {x y : Int32} (hd : decode bytes pc = .ok (.ishl, 1)) (hp : pc + 1 = pc') (k : Go p e below K (T.setTop (mkF m pc' Ls (.int (x <<< (y &&& 31)) :: st)))) : Go p e below K (T.setTop (mkF m pc Ls (.int y :: .int x :: st))) := by
  subst hp; exact Go.step (fun t q => XS.ishl X.1.here X.2.1 rfl (hb X.2.2.1 hd) rfl q) k
theorem g_ishr (X : Sx Z own bytes ml p l e R s m args below meth c T locs cells slots h) {x y : Int32} (hd : decode bytes pc = .ok (.ishr, 1)) (hp : pc + 1 = pc') (k : Go p e below K (T.setTop (mkF m pc' Ls (.int (x >>> (y &&& 31)) :: st)))) : Go p e below K (T.setTop (mkF m pc Ls (.int y :: .int x :: st))) := by
  subst hp; exact Go.step (fun t q => XS.ishr X.1.here X.2.1 rfl (hb X.2.2.1 hd) rfl q) k
theorem g_iushr (X : Sx Z own bytes ml p l e R s m args below meth c T locs cells slots h) {x y : Int32} (hd : decode bytes pc = .ok (.iushr, 1)) (hp : pc + 1 = pc') (k : Go p e below K (T.setTop (mkF m pc' Ls (.int ((x.toUInt32 >>> (y &&& 31).toUInt32).toInt32) :: st)))) : Go p e below K (T.setTop (mkF m pc Ls (.int y :: .int x :: st))) := by
  subst hp; exact Go.step (fun t q => XS.iushr X.1.here X.2.1 rfl (hb X.2.2.1 hd) rfl q) k
theorem g_idiv (X : Sx Z own bytes ml p l e R s m args below meth c T locs cells slots h) {x y : Int32} (hd : decode bytes pc = .ok (.idiv, 1)) (hp : pc + 1 = pc') (hy : y ≠ 0) (k : Go p e below K (T.setTop (mkF m pc' Ls (.int (x / y) :: st)))) : Go p e below K (T.setTop (mkF m pc Ls (.int y :: .int x :: st))) := by
  subst hp; exact Go.step (fun t q => XS.idiv X.1.here X.2.1 rfl (hb X.2.2.1 hd) rfl hy q) k
theorem g_irem (X : Sx Z own bytes ml p l e R s m args below meth c T locs cells slots h) {x y : Int32} (hd : decode bytes pc = .ok (.irem, 1)) (hp : pc + 1 = pc') (hy : y ≠ 0) (k : Go p e below K (T.setTop (mkF m pc' Ls (.int (x % y) :: st)))) : Go p e below K (T.setTop (mkF m pc Ls (.int y :: .int x :: st))) := by
  subst hp; exact Go.step (fun t q => iremM (g := mkF m pc Ls (.int y :: .int x :: st)) X.1 X.2.1 rfl (hb X.2.2.1 hd) rfl hy q) k
theorem g_ladd (X : Sx Z own bytes ml p l e R s m args below meth c T locs cells slots h) {x y : Int64} (hd : decode bytes pc = .ok (.ladd, 1)) (hp : pc + 1 = pc') (k : Go p e below K (T.setTop (mkF m pc' Ls (.long (x + y) :: st)))) : Go p e below K (T.setTop (mkF m pc Ls (.long y :: .long x :: st))) := by
  subst hp; exact Go.step (fun t q => XS.ladd X.1.here X.2.1 rfl (hb X.2.2.1 hd) rfl q) k
theorem g_lsub (X : Sx Z own bytes ml p l e R s m args below meth c T locs cells slots h) {x y : Int64} (hd : decode bytes pc = .ok (.lsub, 1)) (hp : pc + 1 = pc') (k : Go p e below K (T.setTop (mkF m pc' Ls (.long (x - y) :: st)))) : Go p e below K (T.setTop (mkF m pc Ls (.long y :: .long x :: st))) := by
  subst hp; exact Go.step (fun t q => XS.lsub X.1.here X.2.1 rfl (hb X.2.2.1 hd) rfl q) k
theorem g_lmul (X : Sx Z own bytes ml p l e R s m args below meth c T locs cells slots h) {x y : Int64} (hd : decode bytes pc = .ok (.lmul, 1)) (hp : pc + 1 = pc') (k : Go p e below K (T.setTop (mkF m pc' Ls (.long (x * y) :: st)))) : Go p e below K (T.setTop (mkF m pc Ls (.long y :: .long x :: st))) := by
  subst hp; exact Go.step (fun t q => XS.lmul X.1.here X.2.1 rfl (hb X.2.2.1 hd) rfl q) k
theorem g_land (X : Sx Z own bytes ml p l e R s m args below meth c T locs cells slots h) {x y : Int64} (hd : decode bytes pc = .ok (.land, 1)) (hp : pc + 1 = pc') (k : Go p e below K (T.setTop (mkF m pc' Ls (.long (x &&& y) :: st)))) : Go p e below K (T.setTop (mkF m pc Ls (.long y :: .long x :: st))) := by
  subst hp; exact Go.step (fun t q => XS.land X.1.here X.2.1 rfl (hb X.2.2.1 hd) rfl q) k
theorem g_lor (X : Sx Z own bytes ml p l e R s m args below meth c T locs cells slots h) {x y : Int64} (hd : decode bytes pc = .ok (.lor, 1)) (hp : pc + 1 = pc') (k : Go p e below K (T.setTop (mkF m pc' Ls (.long (x ||| y) :: st)))) : Go p e below K (T.setTop (mkF m pc Ls (.long y :: .long x :: st))) := by
  subst hp; exact Go.step (fun t q => XS.lor X.1.here X.2.1 rfl (hb X.2.2.1 hd) rfl q) k
theorem g_lxor (X : Sx Z own bytes ml p l e R s m args below meth c T locs cells slots h) {x y : Int64} (hd : decode bytes pc = .ok (.lxor, 1)) (hp : pc + 1 = pc') (k : Go p e below K (T.setTop (mkF m pc' Ls (.long (x ^^^ y) :: st)))) : Go p e below K (T.setTop (mkF m pc Ls (.long y :: .long x :: st))) := by
  subst hp; exact Go.step (fun t q => XS.lxor X.1.here X.2.1 rfl (hb X.2.2.1 hd) rfl q) k
theorem g_lshl (X : Sx Z own bytes ml p l e R s m args below meth c T locs cells slots h) {x : Int64} {y : Int32} (hd : decode bytes pc = .ok (.lshl, 1)) (hp : pc + 1 = pc') (k : Go p e below K (T.setTop (mkF m pc' Ls (.long (x <<< (y &&& 0x3f).toInt64) :: st)))) : Go p e below K (T.setTop (mkF m pc Ls (.int y :: .long x :: st))) := by
  subst hp; exact Go.step (fun t q => XS.lshl X.1.here X.2.1 rfl (hb X.2.2.1 hd) rfl q) k
theorem g_lshr (X : Sx Z own bytes ml p l e R s m args below meth c T locs cells slots h) {x : Int64} {y : Int32} (hd : decode bytes pc = .ok (.lshr, 1)) (hp : pc + 1 = pc') (k : Go p e below K (T.setTop (mkF m pc' Ls (.long (x >>> (y &&& 0x3f).toInt64) :: st)))) : Go p e below K (T.setTop (mkF m pc Ls (.int y :: .long x :: st))) := by
  subst hp; exact Go.step (fun t q => XS.lshr X.1.here X.2.1 rfl (hb X.2.2.1 hd) rfl q) k
theorem g_lushr (X : Sx Z own bytes ml p l e R s m args below meth c T locs cells slots h) {x : Int64} {y : Int32} (hd : decode bytes pc = .ok (.lushr, 1)) (hp : pc + 1 = pc') (k : Go p e below K (T.setTop (mkF m pc' Ls (.long ((x.toUInt64 >>> (y &&& 0x3f).toInt64.toUInt64).toInt64) :: st)))) : Go p e below K (T.setTop (mkF m pc Ls (.int y :: .long x :: st))) := by
  subst hp; exact Go.step (fun t q => XS.lushr X.1.here X.2.1 rfl (hb X.2.2.1 hd) rfl q) k
theorem g_ldiv (X : Sx Z own bytes ml p l e R s m args below meth c T locs cells slots h) {x y : Int64} (hd : decode bytes pc = .ok (.ldiv, 1)) (hp : pc + 1 = pc') (hy : y ≠ 0) (k : Go p e below K (T.setTop (mkF m pc' Ls (.long (x / y) :: st)))) : Go p e below K (T.setTop (mkF m pc Ls (.long y :: .long x :: st))) := by
  subst hp; exact Go.step (fun t q => XS.ldiv X.1.here X.2.1 rfl (hb X.2.2.1 hd) rfl hy q) k
theorem g_lrem (X : Sx Z own bytes ml p l e R s m args below meth c T locs cells slots h) {x y : Int64} (hd : decode bytes pc = .ok (.lrem, 1)) (hp : pc + 1 = pc') (hy : y ≠ 0) (k : Go p e below K (T.setTop (mkF m pc' Ls (.long (x % y) :: st)))) : Go p e below K (T.setTop (mkF m pc Ls (.long y :: .long x :: st))) := by
  rw [← lrem_mod] at k; subst hp; exact Go.step (fun t q => XS.lrem X.1.here X.2.1 rfl (hb X.2.2.1 hd) rfl hy q) k
theorem g_lcmp (X : Sx Z own bytes ml p l e R s m args below meth c T locs cells slots h) {x y : Int64} (hd : decode bytes pc = .ok (.lcmp, 1)) (hp : pc + 1 = pc') (k : Go p e below K (T.setTop (mkF m pc' Ls (.int (lcmpW x y) :: st)))) : Go p e below K (T.setTop (mkF m pc Ls (.long y :: .long x :: st))) := by
  subst hp; exact Go.step (fun t q => XS.lcmp X.1.here X.2.1 rfl (hb X.2.2.1 hd) rfl q) k
theorem g_ineg (X : Sx Z own bytes ml p l e R s m args below meth c T locs cells slots h) {x : Int32} (hd : decode bytes pc = .ok (.ineg, 1)) (hp : pc + 1 = pc') (k : Go p e below K (T.setTop (mkF m pc' Ls (.int (-x) :: st)))) : Go p e below K (T.setTop (mkF m pc Ls (.int x :: st))) := by
  subst hp; exact Go.step (fun t q => XS.ineg X.1.here X.2.1 rfl (hb X.2.2.1 hd) rfl q) k
theorem g_i2b (X : Sx Z own bytes ml p l e R s m args below meth c T locs cells slots h) {x : Int32} (hd : decode bytes pc = .ok (.i2b, 1)) (hp : pc + 1 = pc') (k : Go p e below K (T.setTop (mkF m pc' Ls (.int (x.toInt8.toInt32) :: st)))) : Go p e below K (T.setTop (mkF m pc Ls (.int x :: st))) := by
  subst hp; exact Go.step (fun t q => XS.i2b X.1.here X.2.1 rfl (hb X.2.2.1 hd) rfl q) k
theorem g_i2c (X : Sx Z own bytes ml p l e R s m args below meth c T locs cells slots h) {x : Int32} (hd : decode bytes pc = .ok (.i2c, 1)) (hp : pc + 1 = pc') (k : Go p e below K (T.setTop (mkF m pc' Ls (.int (x.toUInt32.toUInt16.toUInt32.toInt32) :: st)))) : Go p e below K (T.setTop (mkF m pc Ls (.int x :: st))) := by
  subst hp; exact Go.step (fun t q => XS.i2c X.1.here X.2.1 rfl (hb X.2.2.1 hd) rfl q) k
theorem g_i2s (X : Sx Z own bytes ml p l e R s m args below meth c T locs cells slots h) {x : Int32} (hd : decode bytes pc = .ok (.i2s, 1)) (hp : pc + 1 = pc') (k : Go p e below K (T.setTop (mkF m pc' Ls (.int (x.toInt16.toInt32) :: st)))) : Go p e below K (T.setTop (mkF m pc Ls (.int x :: st))) := by
  subst hp; exact Go.step (fun t q => XS.i2s X.1.here X.2.1 rfl (hb X.2.2.1 hd) rfl q) k
theorem g_i2l (X : Sx Z own bytes ml p l e R s m args below meth c T locs cells slots h) {x : Int32} (hd : decode bytes pc = .ok (.i2l, 1)) (hp : pc + 1 = pc') (k : Go p e below K (T.setTop (mkF m pc' Ls (.long (x.toInt64) :: st)))) : Go p e below K (T.setTop (mkF m pc Ls (.int x :: st))) := by
  subst hp; exact Go.step (fun t q => XS.i2l X.1.here X.2.1 rfl (hb X.2.2.1 hd) rfl q) k
theorem g_l2i (X : Sx Z own bytes ml p l e R s m args below meth c T locs cells slots h) {x : Int64} (hd : decode bytes pc = .ok (.l2i, 1)) (hp : pc + 1 = pc') (k : Go p e below K (T.setTop (mkF m pc' Ls (.int (x.toInt32) :: st)))) : Go p e below K (T.setTop (mkF m pc Ls (.long x :: st))) := by
  subst hp; exact Go.step (fun t q => XS.l2i X.1.here X.2.1 rfl (hb X.2.2.1 hd) rfl q) k
theorem g_lneg (X : Sx Z own bytes ml p l e R s m args below meth c T locs cells slots h) {x : Int64} (hd : decode bytes pc = .ok (.lneg, 1)) (hp : pc + 1 = pc') (k : Go p e below K (T.setTop (mkF m pc' Ls (.long (-x) :: st)))) : Go p e below K (T.setTop (mkF m pc Ls (.long x :: st))) := by
  subst hp; exact Go.step (fun t q => XS.lneg X.1.here X.2.1 rfl (hb X.2.2.1 hd) rfl q) k
theorem g_iinc (X : Sx Z own bytes ml p l e R s m args below meth c T locs cells slots h) {i : Nat} {q x : Int32} {n : Int} (hd : decode bytes pc = .ok (.iinc i n, 3)) (hp : pc + 3 = pc') (hq : Int32.ofInt n = q) (hl : Ls[i]? = some (.val (.int x))) (hl' : storeLocals Ls i (.int (x + q)) = some Ls') (k : Go p e below K (T.setTop (mkF m pc' Ls' (st)))) : Go p e below K (T.setTop (mkF m pc Ls (st))) := by
  subst hq; subst hp; exact Go.step (fun t q => XS.iinc X.1.here X.2.1 rfl (hb X.2.2.1 hd) hl hl' q) k
theorem g_dup (X : Sx Z own bytes ml p l e R s m args below meth c T locs cells slots h) {v : Value} (hd : decode bytes pc = .ok (.dup, 1)) (hp : pc + 1 = pc') (hc : v.category = 1) (k : Go p e below K (T.setTop (mkF m pc' Ls (v :: v :: st)))) : Go p e below K (T.setTop (mkF m pc Ls (v :: st))) := by
  subst hp; exact Go.step (fun t q => XS.dup X.1.here X.2.1 rfl (hb X.2.2.1 hd) rfl hc q) k
theorem g_pop (X : Sx Z own bytes ml p l e R s m args below meth c T locs cells slots h) {v : Value} (hd : decode bytes pc = .ok (.pop, 1)) (hp : pc + 1 = pc') (hc : v.category = 1) (k : Go p e below K (T.setTop (mkF m pc' Ls (st)))) : Go p e below K (T.setTop (mkF m pc Ls (v :: st))) := by
  subst hp; exact Go.step (fun t q => XS.pop X.1.here X.2.1 rfl (hb X.2.2.1 hd) rfl hc q) k
theorem g_dup_x1 (X : Sx Z own bytes ml p l e R s m args below meth c T locs cells slots h) {v w : Value} (hd : decode bytes pc = .ok (.dup_x1, 1)) (hp : pc + 1 = pc') (hc : v.category = 1) (hc' : w.category = 1) (k : Go p e below K (T.setTop (mkF m pc' Ls (v :: w :: v :: st)))) : Go p e below K (T.setTop (mkF m pc Ls (v :: w :: st))) := by
  subst hp; exact Go.step (fun t q => XS.dupX1 X.1.here X.2.1 rfl (hb X.2.2.1 hd) rfl hc hc' q) k
theorem g_dup2 (X : Sx Z own bytes ml p l e R s m args below meth c T locs cells slots h) {v w : Value} (hd : decode bytes pc = .ok (.dup2, 1)) (hp : pc + 1 = pc') (hc : v.category = 1) (hc' : w.category = 1) (k : Go p e below K (T.setTop (mkF m pc' Ls (v :: w :: v :: w :: st)))) : Go p e below K (T.setTop (mkF m pc Ls (v :: w :: st))) := by
  subst hp; exact Go.step (fun t q => Jvm.Free.XT.dup2 X.1.here X.2.1 rfl (hb X.2.2.1 hd) rfl hc hc' q) k
theorem g_dup2L (X : Sx Z own bytes ml p l e R s m args below meth c T locs cells slots h) {v : Int64} (hd : decode bytes pc = .ok (.dup2, 1)) (hp : pc + 1 = pc') (k : Go p e below K (T.setTop (mkF m pc' Ls (.long v :: .long v :: st)))) : Go p e below K (T.setTop (mkF m pc Ls (.long v :: st))) := by
  subst hp; exact Go.step (fun t q => Jvm.Free.XT.dup2L X.1.here X.2.1 rfl (hb X.2.2.1 hd) rfl q) k
theorem g_dload (X : Sx Z own bytes ml p l e R s m args below meth c T locs cells slots h) {i : Nat} {v : UInt64} (hd : decode bytes pc = .ok (.dload i, 2)) (hp : pc + 2 = pc') (hl : Ls[i]? = some (.val (.double v))) (k : Go p e below K (T.setTop (mkF m pc' Ls (.double v :: st)))) : Go p e below K (T.setTop (mkF m pc Ls (st))) := by
  subst hp; exact Go.step (fun t q => XS.dload X.1.here X.2.1 rfl (hb X.2.2.1 hd) hl q) k
theorem g_dloadN (X : Sx Z own bytes ml p l e R s m args below meth c T locs cells slots h) {i : Fin 4} {v : UInt64} (hd : decode bytes pc = .ok (.dload_n i, 1)) (hp : pc + 1 = pc') (hl : Ls[i.val]? = some (.val (.double v))) (k : Go p e below K (T.setTop (mkF m pc' Ls (.double v :: st)))) : Go p e below K (T.setTop (mkF m pc Ls (st))) := by
  subst hp; exact Go.step (fun t q => XS.dloadN X.1.here X.2.1 rfl (hb X.2.2.1 hd) hl q) k
theorem g_i2d (X : Sx Z own bytes ml p l e R s m args below meth c T locs cells slots h) {x : Int32} (hd : decode bytes pc = .ok (.i2d, 1)) (hp : pc + 1 = pc') (k : Go p e below K (T.setTop (mkF m pc' Ls (.double (FP.i2d x) :: st)))) : Go p e below K (T.setTop (mkF m pc Ls (.int x :: st))) := by
  subst hp; exact Go.step (fun t q => XS.i2dS X.1.here X.2.1 rfl (hb X.2.2.1 hd) rfl rfl q) k
theorem g_dcmp (X : Sx Z own bytes ml p l e R s m args below meth c T locs cells slots h) {o : CmpOp} {x y : UInt64} (hd : decode bytes pc = .ok (.dcmp o, 1)) (hp : pc + 1 = pc') (k : ∀ v : Int32, Go p e below K (T.setTop (mkF m pc' Ls (.int v :: st)))) : Go p e below K (T.setTop (mkF m pc Ls (.double y :: .double x :: st))) := by
  subst hp; exact Go.step (fun t q => XS.dcmpS X.1.here X.2.1 rfl (hb X.2.2.1 hd) rfl rfl q) (k _)
theorem g_goto (X : Sx Z own bytes ml p l e R s m args below meth c T locs cells slots h) {o : Int} (hd : decode bytes pc = .ok (.goto o, 3)) (ho : 0 ≤ (pc : Int) + o) (hp : ((pc : Int) + o).toNat = pc') (k : Go p e below K (T.setTop (mkF m pc' Ls (st)))) : Go p e below K (T.setTop (mkF m pc Ls (st))) := by
  exact Go.step (fun t q => XS.goto X.1.here X.2.1 rfl rfl (hb X.2.2.1 hd) ho hp q) k
theorem g_ifY (X : Sx Z own bytes ml p l e R s m args below meth c T locs cells slots h) {cd : ClassFile.Cond} {x : Int32} {o : Int} (hd : decode bytes pc = .ok (.ifCond cd o, 3)) (hc : ifCond.holds cd x = true) (ho : 0 ≤ (pc : Int) + o) (hp : ((pc : Int) + o).toNat = pc') (k : Go p e below K (T.setTop (mkF m pc' Ls (st)))) : Go p e below K (T.setTop (mkF m pc Ls (.int x :: st))) := by
  exact Go.step (fun t q => XS.ifYes X.1.here X.2.1 rfl rfl (hb X.2.2.1 hd) rfl hc ho hp q) k
theorem g_ifN (X : Sx Z own bytes ml p l e R s m args below meth c T locs cells slots h) {cd : ClassFile.Cond} {x : Int32} {o : Int} (hd : decode bytes pc = .ok (.ifCond cd o, 3)) (hc : ifCond.holds cd x = false) (hp : pc + 3 = pc') (k : Go p e below K (T.setTop (mkF m pc' Ls (st)))) : Go p e below K (T.setTop (mkF m pc Ls (.int x :: st))) := by
  subst hp; exact Go.step (fun t q => XS.ifNo X.1.here X.2.1 rfl (hb X.2.2.1 hd) rfl hc q) k
theorem g_icY (X : Sx Z own bytes ml p l e R s m args below meth c T locs cells slots h) {cd : ClassFile.Cond} {x y : Int32} {o : Int} (hd : decode bytes pc = .ok (.if_icmp cd o, 3)) (hc : if_icmp.holds cd x y = true) (ho : 0 ≤ (pc : Int) + o) (hp : ((pc : Int) + o).toNat = pc') (k : Go p e below K (T.setTop (mkF m pc' Ls (st)))) : Go p e below K (T.setTop (mkF m pc Ls (.int y :: .int x :: st))) := by
  exact Go.step (fun t q => XS.icmpYes X.1.here X.2.1 rfl rfl (hb X.2.2.1 hd) rfl hc ho hp q) k
theorem g_icN (X : Sx Z own bytes ml p l e R s m args below meth c T locs cells slots h) {cd : ClassFile.Cond} {x y : Int32} {o : Int} (hd : decode bytes pc = .ok (.if_icmp cd o, 3)) (hc : if_icmp.holds cd x y = false) (hp : pc + 3 = pc') (k : Go p e below K (T.setTop (mkF m pc' Ls (st)))) : Go p e below K (T.setTop (mkF m pc Ls (.int y :: .int x :: st))) := by
  subst hp; exact Go.step (fun t q => XS.icmpNo X.1.here X.2.1 rfl (hb X.2.2.1 hd) rfl hc q) k
theorem g_nullY (X : Sx Z own bytes ml p l e R s m args below meth c T locs cells slots h) {o : Int} (hd : decode bytes pc = .ok (.ifnull o, 3)) (ho : 0 ≤ (pc : Int) + o) (hp : ((pc : Int) + o).toNat = pc') (k : Go p e below K (T.setTop (mkF m pc' Ls (st)))) : Go p e below K (T.setTop (mkF m pc Ls (.null :: st))) := by
  exact Go.step (fun t q => XS.ifnullYes X.1.here X.2.1 rfl rfl (hb X.2.2.1 hd) rfl ho hp q) k
theorem g_nullN (X : Sx Z own bytes ml p l e R s m args below meth c T locs cells slots h) {o : Int} {b : Addr} (hd : decode bytes pc = .ok (.ifnull o, 3)) (hp : pc + 3 = pc') (k : Go p e below K (T.setTop (mkF m pc' Ls (st)))) : Go p e below K (T.setTop (mkF m pc Ls (.ref b :: st))) := by
  subst hp; exact Go.step (fun t q => XS.ifnullNo X.1.here X.2.1 rfl (hb X.2.2.1 hd) rfl q) k
theorem g_nonnullY (X : Sx Z own bytes ml p l e R s m args below meth c T locs cells slots h) {o : Int} {b : Addr} (hd : decode bytes pc = .ok (.ifnonnull o, 3)) (ho : 0 ≤ (pc : Int) + o) (hp : ((pc : Int) + o).toNat = pc') (k : Go p e below K (T.setTop (mkF m pc' Ls (st)))) : Go p e below K (T.setTop (mkF m pc Ls (.ref b :: st))) := by
  exact Go.step (fun t q => XS.ifnonnullYes X.1.here X.2.1 rfl rfl (hb X.2.2.1 hd) rfl ho hp q) k
theorem g_nonnullN (X : Sx Z own bytes ml p l e R s m args below meth c T locs cells slots h) {o : Int} (hd : decode bytes pc = .ok (.ifnonnull o, 3)) (hp : pc + 3 = pc') (k : Go p e below K (T.setTop (mkF m pc' Ls (st)))) : Go p e below K (T.setTop (mkF m pc Ls (.null :: st))) := by
  subst hp; exact Go.step (fun t q => XS.ifnonnullNo X.1.here X.2.1 rfl (hb X.2.2.1 hd) rfl q) k
theorem g_acmp (X : Sx Z own bytes ml p l e R s m args below meth c T locs cells slots h) {cd : ACond} {x y : Value} {o : Int} {same : Bool} (hd : decode bytes pc = .ok (.if_acmp cd o, 3)) (h1 : x.isRef = true) (h2 : y.isRef = true) (hq : decide (x = y) = same) (ho : 0 ≤ (pc : Int) + o) (hp : pc' = if acV cd same = true then ((pc : Int) + o).toNat else pc + 3) (k : Go p e below K (T.setTop (mkF m pc' Ls (st)))) : Go p e below K (T.setTop (mkF m pc Ls (y :: x :: st))) := by
  exact Go.step (fun t q => acmp (g := mkF m pc Ls (y :: x :: st)) X.1 X.2.1 rfl h1 h2 rfl (hb X.2.2.1 hd) rfl hq ho hp q) k
theorem g_tswIn (X : Sx Z own bytes ml p l e R s m args below meth c T locs cells slots h) {dflt low high : Int} {offs : Array Int} {len : Nat} {o : Int} {i : Int32} (hd : decode bytes pc = .ok (.tableswitch dflt low high offs, len)) (hin : ¬ (i.toInt < low ∨ i.toInt > high)) (hoff : offs[(i.toInt - low).toNat]? = some o) (ho : 0 ≤ (pc : Int) + o) (hp : ((pc : Int) + o).toNat = pc') (k : Go p e below K (T.setTop (mkF m pc' Ls (st)))) : Go p e below K (T.setTop (mkF m pc Ls (.int i :: st))) := by
  exact Go.step (fun t q => XS.tswIn X.1.here X.2.1 rfl rfl (hb X.2.2.1 hd) rfl hin hoff ho hp q) k
theorem g_tswOut (X : Sx Z own bytes ml p l e R s m args below meth c T locs cells slots h) {dflt low high : Int} {offs : Array Int} {len : Nat} {i : Int32} (hd : decode bytes pc = .ok (.tableswitch dflt low high offs, len)) (hin : i.toInt < low ∨ i.toInt > high) (ho : 0 ≤ (pc : Int) + dflt) (hp : ((pc : Int) + dflt).toNat = pc') (k : Go p e below K (T.setTop (mkF m pc' Ls (st)))) : Go p e below K (T.setTop (mkF m pc Ls (.int i :: st))) := by
  exact Go.step (fun t q => XS.tswOut X.1.here X.2.1 rfl rfl (hb X.2.2.1 hd) rfl hin ho hp q) k
theorem g_iaload (X : Sx Z own bytes ml p l e R s m args below meth c T locs cells slots h) {a : Addr} {vs : List Value} {j : Int32} {x : Int32} (A : Av Z h a .int vs) (n : Nat) (hd : decode bytes pc = .ok (.iaload, 1)) (hp : pc + 1 = pc') (hj : ¬ j < 0) (hn : j.toNatClampNeg = n) (hv : vs[n]? = some (.int x)) (k : Go p e below K (T.setTop (mkF m pc' Ls (.int x :: st)))) : Go p e below K (T.setTop (mkF m pc Ls (.int j :: .ref a :: st))) := by
  obtain ⟨cl, A, rfl, r⟩ := A; subst hn; subst hp
  have hv' : cl.slots[j.toNatClampNeg]? = some (.int x) := by rw [← Array.getElem?_toList]; exact hv
  exact Go.step (fun t q => X.1.iaload X.2.1 (j := j) (by rw [X.2.2.2.2.2.2]; exact A.1) (State.isArrayOf_alike X.2.2.2.2.2.1.alike A.2.1) A.2.2 (fun hh => hh.elim hj (fun hh => absurd (Array.getElem?_eq_some_iff.mp hv').1 (Nat.not_lt.mpr hh))) hv' (g := mkF m pc Ls (.int j :: .ref a :: st)) rfl rfl (hb X.2.2.1 hd) _ q) k
theorem g_caload (X : Sx Z own bytes ml p l e R s m args below meth c T locs cells slots h) {a : Addr} {vs : List Value} {j : Int32} {x : Int32} (A : Av Z h a .char vs) (n : Nat) (hd : decode bytes pc = .ok (.caload, 1)) (hp : pc + 1 = pc') (hj : ¬ j < 0) (hn : j.toNatClampNeg = n) (hv : vs[n]? = some (.int x)) (k : Go p e below K (T.setTop (mkF m pc' Ls (.int x :: st)))) : Go p e below K (T.setTop (mkF m pc Ls (.int j :: .ref a :: st))) := by
  obtain ⟨cl, A, rfl, r⟩ := A; subst hn; subst hp
  have hv' : cl.slots[j.toNatClampNeg]? = some (.int x) := by rw [← Array.getElem?_toList]; exact hv
  exact Go.step (fun t q => X.1.caload X.2.1 (j := j) (by rw [X.2.2.2.2.2.2]; exact A.1) (State.isArrayOf_alike X.2.2.2.2.2.1.alike A.2.1) A.2.2 (fun hh => hh.elim hj (fun hh => absurd (Array.getElem?_eq_some_iff.mp hv').1 (Nat.not_lt.mpr hh))) hv' (g := mkF m pc Ls (.int j :: .ref a :: st)) rfl rfl (hb X.2.2.1 hd) _ q) k
theorem g_saload (X : Sx Z own bytes ml p l e R s m args below meth c T locs cells slots h) {a : Addr} {vs : List Value} {j : Int32} {x : Int32} (A : Av Z h a .short vs) (n : Nat) (hd : decode bytes pc = .ok (.saload, 1)) (hp : pc + 1 = pc') (hj : ¬ j < 0) (hn : j.toNatClampNeg = n) (hv : vs[n]? = some (.int x)) (k : Go p e below K (T.setTop (mkF m pc' Ls (.int x :: st)))) : Go p e below K (T.setTop (mkF m pc Ls (.int j :: .ref a :: st))) := by
  obtain ⟨cl, A, rfl, r⟩ := A; subst hn; subst hp
  have hv' : cl.slots[j.toNatClampNeg]? = some (.int x) := by rw [← Array.getElem?_toList]; exact hv
  exact Go.step (fun t q => X.1.saload X.2.1 (j := j) (by rw [X.2.2.2.2.2.2]; exact A.1) (State.isArrayOf_alike X.2.2.2.2.2.1.alike A.2.1) A.2.2 (fun hh => hh.elim hj (fun hh => absurd (Array.getElem?_eq_some_iff.mp hv').1 (Nat.not_lt.mpr hh))) hv' (g := mkF m pc Ls (.int j :: .ref a :: st)) rfl rfl (hb X.2.2.1 hd) _ q) k
theorem g_baload (X : Sx Z own bytes ml p l e R s m args below meth c T locs cells slots h) {a : Addr} {vs : List Value} {j : Int32} {x : Int32} (A : Av Z h a .byte vs) (n : Nat) (hd : decode bytes pc = .ok (.baload, 1)) (hp : pc + 1 = pc') (hj : ¬ j < 0) (hn : j.toNatClampNeg = n) (hv : vs[n]? = some (.int x)) (k : Go p e below K (T.setTop (mkF m pc' Ls (.int x :: st)))) : Go p e below K (T.setTop (mkF m pc Ls (.int j :: .ref a :: st))) := by
  obtain ⟨cl, A, rfl, r⟩ := A; subst hn; subst hp
  have hv' : cl.slots[j.toNatClampNeg]? = some (.int x) := by rw [← Array.getElem?_toList]; exact hv
  exact Go.step (fun t q => X.1.baloadBytes X.2.1 (j := j) (by rw [X.2.2.2.2.2.2]; exact A.1) (State.isArrayOf_alike X.2.2.2.2.2.1.alike A.2.1) A.2.2 (fun hh => hh.elim hj (fun hh => absurd (Array.getElem?_eq_some_iff.mp hv').1 (Nat.not_lt.mpr hh))) hv' (g := mkF m pc Ls (.int j :: .ref a :: st)) rfl rfl (hb X.2.2.1 hd) _ q) k
theorem g_laload (X : Sx Z own bytes ml p l e R s m args below meth c T locs cells slots h) {a : Addr} {vs : List Value} {j : Int32} {x : Int64} (A : Av Z h a .long vs) (n : Nat) (hd : decode bytes pc = .ok (.laload, 1)) (hp : pc + 1 = pc') (hj : ¬ j < 0) (hn : j.toNatClampNeg = n) (hv : vs[n]? = some (.long x)) (k : Go p e below K (T.setTop (mkF m pc' Ls (.long x :: st)))) : Go p e below K (T.setTop (mkF m pc Ls (.int j :: .ref a :: st))) := by
  obtain ⟨cl, A, rfl, r⟩ := A; subst hn; subst hp
  have hv' : cl.slots[j.toNatClampNeg]? = some (.long x) := by rw [← Array.getElem?_toList]; exact hv
  exact Go.step (fun t q => X.1.laload X.2.1 (j := j) (by rw [X.2.2.2.2.2.2]; exact A.1) (State.isArrayOf_alike X.2.2.2.2.2.1.alike A.2.1) A.2.2 (fun hh => hh.elim hj (fun hh => absurd (Array.getElem?_eq_some_iff.mp hv').1 (Nat.not_lt.mpr hh))) hv' (g := mkF m pc Ls (.int j :: .ref a :: st)) rfl rfl (hb X.2.2.1 hd) _ q) k
theorem g_aaload (X : Sx Z own bytes ml p l e R s m args below meth c T locs cells slots h) {a : Addr} {vs : List Value} {j : Int32} {v : Value} {ty : FieldType} (A : Av Z h a ty vs) (n : Nat) (hd : decode bytes pc = .ok (.aaload, 1)) (hp : pc + 1 = pc') (hty : ty.isReference = true) (hj : ¬ j < 0) (hn : j.toNatClampNeg = n) (hv : vs[n]? = some v) (k : Go p e below K (T.setTop (mkF m pc' Ls (v :: st)))) : Go p e below K (T.setTop (mkF m pc Ls (.int j :: .ref a :: st))) := by
  obtain ⟨cl, A, rfl, r⟩ := A; subst hn; subst hp
  have hv' : cl.slots[j.toNatClampNeg]? = some v := by rw [← Array.getElem?_toList]; exact hv
  exact Go.step (fun t q => X.1.aaload X.2.1 (j := j) (by rw [X.2.2.2.2.2.2]; exact A.1) (State.isArrayOf_alike X.2.2.2.2.2.1.alike A.2.1) hty A.2.2 (fun hh => hh.elim hj (fun hh => absurd (Array.getElem?_eq_some_iff.mp hv').1 (Nat.not_lt.mpr hh))) hv' (g := mkF m pc Ls (.int j :: .ref a :: st)) rfl rfl (hb X.2.2.1 hd) _ q) k
theorem g_arraylength (X : Sx Z own bytes ml p l e R s m args below meth c T locs cells slots h) {a : Addr} {vs : List Value} {ty : FieldType} (A : Av Z h a ty vs) (hd : decode bytes pc = .ok (.arraylength, 1)) (hp : pc + 1 = pc') {z : Int32} (hz : vs.length.toInt32 = z) (k : Go p e below K (T.setTop (mkF m pc' Ls (.int z :: st)))) : Go p e below K (T.setTop (mkF m pc Ls (.ref a :: st))) := by
  obtain ⟨cl, A, rfl, r⟩ := A; subst hp
  rw [Array.length_toList] at hz; subst hz
  exact Go.step (fun t q => X.1.arraylength X.2.1 (by rw [X.2.2.2.2.2.2]; exact A.1) (State.isArrayOf_alike X.2.2.2.2.2.1.alike A.2.1) (g := mkF m pc Ls (.ref a :: st)) rfl rfl (hb X.2.2.1 hd) _ q) k
theorem g_iastore (X : Sx Z own bytes ml p l e R s m args below meth c T locs cells slots h) {a : Addr} {vs : List Value} {j : Int32} {x : Int32} (A : Av Z h a .int vs) (n : Nat) (hd : decode bytes pc = .ok (.iastore, 1)) (hp : pc + 1 = pc') (hj : ¬ j < 0) (hn : j.toNatClampNeg = n) (hlt : n < vs.length) (k : ∀ T' h', Sx Z own bytes ml p l e R s m args below meth c T' (locs ++ [⟨a, n⟩]) cells slots h' → Wr h h' a n (.int x) → Av Z h' a .int (vs.set n (.int x)) → Go p e below K (T'.setTop (mkF m pc' Ls (st)))) : Go p e below K (T.setTop (mkF m pc Ls (.int x :: .int j :: .ref a :: st))) := by
  obtain ⟨cl, A, rfl, r⟩ := A; subst hn; subst hp
  obtain ⟨T', h', X', e', W, stp⟩ := stI X.1 X.2.1 X.2.2.2.2.2.1 X.2.2.2.2.2.2 A (j := j) (fun hh => hh.elim hj (fun hh => absurd hlt (by simpa using hh))) (g := mkF m pc Ls (.int x :: .int j :: .ref a :: st)) rfl rfl (hb X.2.2.1 hd)
  exact Go.step (fun t q => stp _ q) (k T' h' ⟨X', X.2.1, X.2.2.1, X.2.2.2.1, X.2.2.2.2.1, X.2.2.2.2.2.1, e'⟩ W (Av.set ⟨cl, A, rfl, r⟩ W))
theorem g_lastore (X : Sx Z own bytes ml p l e R s m args below meth c T locs cells slots h) {a : Addr} {vs : List Value} {j : Int32} {x : Int64} (A : Av Z h a .long vs) (n : Nat) (hd : decode bytes pc = .ok (.lastore, 1)) (hp : pc + 1 = pc') (hj : ¬ j < 0) (hn : j.toNatClampNeg = n) (hlt : n < vs.length) (k : ∀ T' h', Sx Z own bytes ml p l e R s m args below meth c T' (locs ++ [⟨a, n⟩]) cells slots h' → Wr h h' a n (.long x) → Av Z h' a .long (vs.set n (.long x)) → Go p e below K (T'.setTop (mkF m pc' Ls (st)))) : Go p e below K (T.setTop (mkF m pc Ls (.long x :: .int j :: .ref a :: st))) := by
  obtain ⟨cl, A, rfl, r⟩ := A; subst hn; subst hp
  obtain ⟨T', h', X', e', W, stp⟩ := stJ X.1 X.2.1 X.2.2.2.2.2.1 X.2.2.2.2.2.2 A (j := j) (fun hh => hh.elim hj (fun hh => absurd hlt (by simpa using hh))) (g := mkF m pc Ls (.long x :: .int j :: .ref a :: st)) rfl rfl (hb X.2.2.1 hd)
  exact Go.step (fun t q => stp _ q) (k T' h' ⟨X', X.2.1, X.2.2.1, X.2.2.2.1, X.2.2.2.2.1, X.2.2.2.2.2.1, e'⟩ W (Av.set ⟨cl, A, rfl, r⟩ W))
theorem g_castore (X : Sx Z own bytes ml p l e R s m args below meth c T locs cells slots h) {a : Addr} {vs : List Value} {j : Int32} {x : Int32} (A : Av Z h a .char vs) (n : Nat) (hd : decode bytes pc = .ok (.castore, 1)) (hp : pc + 1 = pc') (hj : ¬ j < 0) (hn : j.toNatClampNeg = n) (hlt : n < vs.length) (k : ∀ T' h', Sx Z own bytes ml p l e R s m args below meth c T' (locs ++ [⟨a, n⟩]) cells slots h' → Wr h h' a n (.int (nar .char x)) → Av Z h' a .char (vs.set n (.int (nar .char x))) → Go p e below K (T'.setTop (mkF m pc' Ls (st)))) : Go p e below K (T.setTop (mkF m pc Ls (.int x :: .int j :: .ref a :: st))) := by
  obtain ⟨cl, A, rfl, r⟩ := A; subst hn; subst hp
  obtain ⟨T', h', X', e', W, stp⟩ := stC X.1 X.2.1 X.2.2.2.2.2.1 X.2.2.2.2.2.2 A (j := j) (fun hh => hh.elim hj (fun hh => absurd hlt (by simpa using hh))) (g := mkF m pc Ls (.int x :: .int j :: .ref a :: st)) rfl rfl (hb X.2.2.1 hd)
  exact Go.step (fun t q => stp _ q) (k T' h' ⟨X', X.2.1, X.2.2.1, X.2.2.2.1, X.2.2.2.2.1, X.2.2.2.2.2.1, e'⟩ W (Av.set ⟨cl, A, rfl, r⟩ W))
theorem g_sastore (X : Sx Z own bytes ml p l e R s m args below meth c T locs cells slots h) {a : Addr} {vs : List Value} {j : Int32} {x : Int32} (A : Av Z h a .short vs) (n : Nat) (hd : decode bytes pc = .ok (.sastore, 1)) (hp : pc + 1 = pc') (hj : ¬ j < 0) (hn : j.toNatClampNeg = n) (hlt : n < vs.length) (k : ∀ T' h', Sx Z own bytes ml p l e R s m args below meth c T' (locs ++ [⟨a, n⟩]) cells slots h' → Wr h h' a n (.int (nar .short x)) → Av Z h' a .short (vs.set n (.int (nar .short x))) → Go p e below K (T'.setTop (mkF m pc' Ls (st)))) : Go p e below K (T.setTop (mkF m pc Ls (.int x :: .int j :: .ref a :: st))) := by
  obtain ⟨cl, A, rfl, r⟩ := A; subst hn; subst hp
  obtain ⟨T', h', X', e', W, stp⟩ := stS X.1 X.2.1 X.2.2.2.2.2.1 X.2.2.2.2.2.2 A (j := j) (fun hh => hh.elim hj (fun hh => absurd hlt (by simpa using hh))) (g := mkF m pc Ls (.int x :: .int j :: .ref a :: st)) rfl rfl (hb X.2.2.1 hd)
  exact Go.step (fun t q => stp _ q) (k T' h' ⟨X', X.2.1, X.2.2.1, X.2.2.2.1, X.2.2.2.2.1, X.2.2.2.2.2.1, e'⟩ W (Av.set ⟨cl, A, rfl, r⟩ W))
theorem g_bastore (X : Sx Z own bytes ml p l e R s m args below meth c T locs cells slots h) {a : Addr} {vs : List Value} {j : Int32} {x : Int32} (A : Av Z h a .byte vs) (n : Nat) (hd : decode bytes pc = .ok (.bastore, 1)) (hp : pc + 1 = pc') (hj : ¬ j < 0) (hn : j.toNatClampNeg = n) (hlt : n < vs.length) (k : ∀ T' h', Sx Z own bytes ml p l e R s m args below meth c T' (locs ++ [⟨a, n⟩]) cells slots h' → Wr h h' a n (.int (nar .byte x)) → Av Z h' a .byte (vs.set n (.int (nar .byte x))) → Go p e below K (T'.setTop (mkF m pc' Ls (st)))) : Go p e below K (T.setTop (mkF m pc Ls (.int x :: .int j :: .ref a :: st))) := by
  obtain ⟨cl, A, rfl, r⟩ := A; subst hn; subst hp
  obtain ⟨T', h', X', e', W, stp⟩ := stB X.1 X.2.1 X.2.2.2.2.2.1 X.2.2.2.2.2.2 A (j := j) (fun hh => hh.elim hj (fun hh => absurd hlt (by simpa using hh))) (g := mkF m pc Ls (.int x :: .int j :: .ref a :: st)) rfl rfl (hb X.2.2.1 hd)
  exact Go.step (fun t q => stp _ q) (k T' h' ⟨X', X.2.1, X.2.2.1, X.2.2.2.1, X.2.2.2.2.1, X.2.2.2.2.2.1, e'⟩ W (Av.set ⟨cl, A, rfl, r⟩ W))
theorem g_arraylengthN (X : Sx Z own bytes ml p l e R s m args below meth c T locs cells slots h) {a : Addr} {ty : FieldType} {z : Int32} (A : AvN Z h a ty z) (hd : decode bytes pc = .ok (.arraylength, 1)) (hp : pc + 1 = pc') (k : Go p e below K (T.setTop (mkF m pc' Ls (.int z :: st)))) : Go p e below K (T.setTop (mkF m pc Ls (.ref a :: st))) := by
  obtain ⟨vs, A, hz⟩ := A; exact g_arraylength X A hd hp hz k
theorem g_iastoreN (X : Sx Z own bytes ml p l e R s m args below meth c T locs cells slots h) {a : Addr} {j x z : Int32} (A : AvN Z h a .int z) (hd : decode bytes pc = .ok (.iastore, 1)) (hp : pc + 1 = pc') (hj : ¬ j < 0) (hjz : j < z) (k : ∀ T' h', Sx Z own bytes ml p l e R s m args below meth c T' (locs ++ [⟨a, j.toNatClampNeg⟩]) cells slots h' → Wr h h' a j.toNatClampNeg (.int x) → AvN Z h' a .int z → Go p e below K (T'.setTop (mkF m pc' Ls (st)))) : Go p e below K (T.setTop (mkF m pc Ls (.int x :: .int j :: .ref a :: st))) := by
  obtain ⟨vs, A, hz⟩ := A
  have hl := A.len
  refine g_iastore X A _ hd hp hj rfl ?_ (fun T' h' X' W V => k T' h' X' W ⟨_, V, by rw [List.length_set]; exact hz⟩)
  rw [hz] at hl
  rw [Int32.lt_iff_toInt_lt] at hj hjz
  simp only [Int32.toNatClampNeg, Int32.reduceToInt] at hj ⊢
  omega
theorem g_aastore (X : Sx Z own bytes ml p l e R s m args below meth c T locs cells slots h) {a : Addr} {vs : List Value} {j : Int32} {v : Value} {ty : FieldType} (A : Av Z h a ty vs) (S : Sto Z h a v) (n : Nat) (hd : decode bytes pc = .ok (.aastore, 1)) (hp : pc + 1 = pc') (hty : ty.isReference = true) (hj : ¬ j < 0) (hn : j.toNatClampNeg = n) (hlt : n < vs.length) (k : ∀ T' h', Sx Z own bytes ml p l e R s m args below meth c T' (locs ++ [⟨a, n⟩]) cells slots h' → Wr h h' a n v → Av Z h' a ty (vs.set n v) → Go p e below K (T'.setTop (mkF m pc' Ls (st)))) : Go p e below K (T.setTop (mkF m pc Ls (v :: .int j :: .ref a :: st))) := by
  obtain ⟨cl, A, rfl, r⟩ := A; subst hn; subst hp
  obtain ⟨T', h', X', e', W, stp⟩ := stR X.1 X.2.1 X.2.2.2.2.2.1 X.2.2.2.2.2.2 A (j := j) (fun hh => hh.elim hj (fun hh => absurd hlt (by simpa using hh))) hty S (g := mkF m pc Ls (v :: .int j :: .ref a :: st)) rfl rfl (hb X.2.2.1 hd)
  exact Go.step (fun t q => stp _ q) (k T' h' ⟨X', X.2.1, X.2.2.1, X.2.2.2.1, X.2.2.2.2.1, X.2.2.2.2.2.1, e'⟩ W (Av.set ⟨cl, A, rfl, r⟩ W))
theorem g_newarray (X : Sx Z own bytes ml p l e R s m args below meth c T locs cells slots h) {aty : ArrayType} {z : Int32} {vs : List Value} {ad : String} (n : Nat) (w : (Cond.arrayClass (newarray.typeOf aty)).before a0 Z = true) (hd : decode bytes pc = .ok (.newarray aty, 2)) (hp : pc + 2 = pc') (hz : ¬ z < 0) (hn : z.toNatClampNeg = n) (cap : Nat) (hcap : n ≤ cap) (hbig : cap * 8 ≤ 536870912) (hc : cells + 1 ≤ R.cells) (hl : slots + cap ≤ R.slots) (hvs : List.replicate n (defaultValue (newarray.typeOf aty)) = vs) (had : "[" ++ (newarray.typeOf aty).toString = ad) (k : ∀ T' h' (a : Addr), a = h.size → Sx Z own bytes ml p l e R s m args below meth c T' locs (cells + 1) (slots + cap) h' → Ext h h' → Exa Z h' a ad → Av Z h' a (newarray.typeOf aty) vs → Go p e below K (T'.setTop (mkF m pc' Ls (.ref a :: st)))) : Go p e below K (T.setTop (mkF m pc Ls (.int z :: st))) := by
  subst hn; subst hp; subst hvs
  obtain ⟨T', h', cA, X', e', E, A, B, stp⟩ := newPE X.1 X.2.1 X.2.2.2.2.2.1 w X.2.2.2.2.2.2 (g := mkF m pc Ls (.int z :: st)) rfl (hb X.2.2.1 hd) rfl hz hcap hbig hc hl had
  refine Go.step (fun t q => stp _ q) (k T' h' _ rfl ⟨X', X.2.1, X.2.2.1, X.2.2.2.1, X.2.2.2.2.1, X.2.2.2.2.2.1, e'⟩ E B ⟨_, A, by simp [newA], ?_⟩)
  simp only [List.length_replicate]
  exact (back32 hz).2
theorem g_anewarray (X : Sx Z own bytes ml p l e R s m args below meth c T locs cells slots h) {i : Nat} {C : String} {z : Int32} {vs : List Value} {ad : String} (n : Nat) (w1 : (Cond.classLink own i C).before a0 Z = true) (w2 : (Cond.arrayOver (.object C)).before a0 Z = true) (hd : decode bytes pc = .ok (.anewarray i, 3)) (hp : pc + 3 = pc') (hz : ¬ z < 0) (hn : z.toNatClampNeg = n) (cap : Nat) (hcap : n ≤ cap) (hbig : cap * 8 ≤ 536870912) (hc : cells + 1 ≤ R.cells) (hl : slots + cap ≤ R.slots) (hvs : List.replicate n .null = vs) (had : "[" ++ (FieldType.object C).toString = ad) (k : ∀ T' h' (a : Addr), a = h.size → Sx Z own bytes ml p l e R s m args below meth c T' locs (cells + 1) (slots + cap) h' → Ext h h' → Exa Z h' a ad → Av Z h' a (.object C) vs → OvA Z h' a C → Go p e below K (T'.setTop (mkF m pc' Ls (.ref a :: st)))) : Go p e below K (T.setTop (mkF m pc Ls (.int z :: st))) := by
  subst hn; subst hp; subst hvs
  obtain ⟨T', h', cA, X', e', E, A, B, O, stp⟩ := newRE X.1 X.2.1 X.2.2.2.2.2.1 X.2.2.2.2.1 w1 w2 X.2.2.2.2.2.2 (g := mkF m pc Ls (.int z :: st)) rfl (hb X.2.2.1 hd) rfl hz hcap hbig hc hl had
  refine Go.step (fun t q => stp _ q) (k T' h' _ rfl ⟨X', X.2.1, X.2.2.1, X.2.2.2.1, X.2.2.2.2.1, X.2.2.2.2.2.1, e'⟩ E B ⟨_, A, by simp [newA, defaultValue], ?_⟩ ⟨_, A, O⟩)
  simp only [List.length_replicate]
  exact (back32 hz).2
theorem g_new (X : Sx Z own bytes ml p l e R s m args below meth c T locs cells slots h) {i n : Nat} {C : String} (w1 : (Cond.classLink own i C).before a0 Z = true) (w2 : (Cond.instantiable C n).before a0 Z = true) (w3 : (Cond.initialized C).before a0 Z = true) (hd : decode bytes pc = .ok (.new i, 3)) (hp : pc + 3 = pc') (hc : cells + 1 ≤ R.cells) (hl : slots + n ≤ R.slots) (k : ∀ T' h' (a : Addr), a = h.size → Sx Z own bytes ml p l e R s m args below meth c T' locs (cells + 1) (slots + n) h' → Ext h h' → Exa Z h' a C → (∀ {O nm d : String} {ty : FieldType}, Laid Z a0 C O nm d → parseFieldDescriptor d = some ty → Fld Z h' a O nm d (defaultValue ty)) → Go p e below K (T'.setTop (mkF m pc' Ls (.ref a :: st)))) : Go p e below K (T.setTop (mkF m pc Ls (st))) := by
  subst hp
  obtain ⟨T', h', X', e', E, A, D, -, stp⟩ := newO X.1 X.2.1 X.2.2.2.2.2.1 X.2.2.2.2.1 w1 w2 w3 X.2.2.2.2.2.2 (g := mkF m pc Ls st) rfl (hb X.2.2.1 hd) hc hl
  exact Go.step (fun t q => stp _ q) (k T' h' _ rfl ⟨X', X.2.1, X.2.2.1, X.2.2.2.1, X.2.2.2.2.1, X.2.2.2.2.2.1, e'⟩ E A D)
theorem g_getfield (X : Sx Z own bytes ml p l e R s m args below meth c T locs cells slots h) {i : Nat} {R0 O nm d host : String} {a : Addr} {v : Value} (w : (Cond.fieldLink own i R0 nm d).before a0 Z = true ∨ (Cond.fieldLinkNest own i R0 nm d host).before a0 Z = true) (via : Via Z R0 O nm d) (F : Fld Z h a O nm d v) (hd : decode bytes pc = .ok (.getfield i, 3)) (hp : pc + 3 = pc') (k : ∀ T', Sx Z own bytes ml p l e R s m args below meth c T' locs cells slots h → Go p e below K (T'.setTop (mkF m pc' Ls (v :: st)))) : Go p e below K (T.setTop (mkF m pc Ls (.ref a :: st))) := by
  subst hp
  obtain ⟨T', X', e', stp⟩ := getF X.1 X.2.1 X.2.2.2.2.2.1 X.2.2.2.2.1 w via X.2.2.2.2.2.2 F (g := mkF m pc Ls (.ref a :: st)) rfl rfl (hb X.2.2.1 hd)
  exact Go.step (fun t q => stp _ q) (k T' ⟨X', X.2.1, X.2.2.1, X.2.2.2.1, X.2.2.2.2.1, X.2.2.2.2.2.1, e'⟩)
theorem g_getstatic (X : Sx Z own bytes ml p l e R s m args below meth c T locs cells slots h) {i : Nat} {R0 O nm d host : String} {v : Value} (w : (Cond.fieldLink own i R0 nm d).before a0 Z = true ∨ (Cond.fieldLinkNest own i R0 nm d host).before a0 Z = true) (via : Via Z R0 O nm d) (F : Sta Z h O nm d v) (hd : decode bytes pc = .ok (.getstatic i, 3)) (hp : pc + 3 = pc') (k : ∀ T', Sx Z own bytes ml p l e R s m args below meth c T' locs cells slots h → Go p e below K (T'.setTop (mkF m pc' Ls (v :: st)))) : Go p e below K (T.setTop (mkF m pc Ls (st))) := by
  subst hp
  obtain ⟨T', X', e', stp⟩ := getS2 X.1 X.2.1 X.2.2.2.2.2.1 X.2.2.2.2.1 w via X.2.2.2.2.2.2 F (g := mkF m pc Ls st) rfl (hb X.2.2.1 hd)
  exact Go.step (fun t q => stp _ q) (k T' ⟨X', X.2.1, X.2.2.1, X.2.2.2.1, X.2.2.2.2.1, X.2.2.2.2.2.1, e'⟩)
theorem g_putfield (X : Sx Z own bytes ml p l e R s m args below meth c T locs cells slots h) {i kk : Nat} {R0 O nm d host C : String} {a : Addr} {v old : Value} {ty : FieldType} (w : (Cond.fieldLink own i R0 nm d).before a0 Z = true ∨ (Cond.fieldLinkNest own i R0 nm d host).before a0 Z = true) (via : Via Z R0 O nm d) (F : Fld Z h a O nm d old) (E : Exa Z h a C) (L : (Cond.lays C O nm d).before a0 Z = true ∨ ((Cond.laysFinal C O nm d).before a0 Z = true ∧ own = O ∧ meth.name = "<init>")) (wi : (Cond.instantiable C kk).before a0 Z = true) (hty : parseFieldDescriptor d = some ty) (hn : narrow ty v = v) (hf : fits ty v = true) (hd : decode bytes pc = .ok (.putfield i, 3)) (hp : pc + 3 = pc') (k : ∀ T' h', Sx Z own bytes ml p l e R s m args below meth c T' (locs ++ [⟨a, RoadKit.slotOf Z O nm d⟩]) cells slots h' → Wr h h' a (RoadKit.slotOf Z O nm d) v → Go p e below K (T'.setTop (mkF m pc' Ls (st)))) : Go p e below K (T.setTop (mkF m pc Ls (v :: .ref a :: st))) := by
  subst hp
  obtain ⟨T', h', X', e', W, stp⟩ := putF X.1 X.2.1 X.2.2.2.2.2.1 X.2.2.2.2.1 w via X.2.2.2.2.2.2 F E L wi hty hn hf (g := mkF m pc Ls (v :: .ref a :: st)) rfl rfl (hb X.2.2.1 hd)
  exact Go.step (fun t q => stp _ q) (k T' h' ⟨X', X.2.1, X.2.2.1, X.2.2.2.1, X.2.2.2.2.1, X.2.2.2.2.2.1, e'⟩ W)
theorem g_putfieldN (X : Sx Z own bytes ml p l e R s m args below meth c T locs cells slots h) {i kk : Nat} {R0 O nm d C : String} {a : Addr} {v v' old : Value} {ty : FieldType} (w : (Cond.fieldLink own i R0 nm d).before a0 Z = true) (via : Via Z R0 O nm d) (F : Fld Z h a O nm d old) (E : Exa Z h a C) (L : (Cond.lays C O nm d).before a0 Z = true ∨ ((Cond.laysFinal C O nm d).before a0 Z = true ∧ own = O ∧ meth.name = "<init>")) (wi : (Cond.instantiable C kk).before a0 Z = true) (hty : parseFieldDescriptor d = some ty) (hn : narrow ty v = v') (hf : fits ty v' = true) (hd : decode bytes pc = .ok (.putfield i, 3)) (hp : pc + 3 = pc') (k : ∀ T' h', Sx Z own bytes ml p l e R s m args below meth c T' (locs ++ [⟨a, RoadKit.slotOf Z O nm d⟩]) cells slots h' → Wr h h' a (RoadKit.slotOf Z O nm d) v' → Go p e below K (T'.setTop (mkF m pc' Ls (st)))) : Go p e below K (T.setTop (mkF m pc Ls (v :: .ref a :: st))) := by
  subst hp
  obtain ⟨T', h', X', e', W, stp⟩ := putFN X.1 X.2.1 X.2.2.2.2.2.1 X.2.2.2.2.1 w via X.2.2.2.2.2.2 F E L wi hty hn hf (g := mkF m pc Ls (v :: .ref a :: st)) rfl rfl (hb X.2.2.1 hd)
  exact Go.step (fun t q => stp _ q) (k T' h' ⟨X', X.2.1, X.2.2.1, X.2.2.2.1, X.2.2.2.2.1, X.2.2.2.2.2.1, e'⟩ W)
theorem g_initO (X : Sx Z own bytes ml p l e R s m args below meth c T locs cells slots h) {i W : Nat} {a : Addr} (w1 : (Cond.methodLink own i Lib.objectInit).before a0 Z = true) (w2 : (Cond.instanceMethod Lib.objectInit).before a0 Z = true) (w3 : (Cond.code Lib.objectInit ⟨#[0xb1]⟩ 1 none).before a0 Z = true) (hd : decode bytes pc = .ok (.invokespecial i, 3)) (hp : pc + 3 = pc') (hsz : Ls.size = ml) (hf : 1 ≤ R.frames) (hW : (st.map fun v => v.category).sum ≤ W) (hl : W + 12 ≤ R.locals) (k : ∀ T', Sx Z own bytes ml p l e R s m args below meth c T' locs cells slots h → Go p e below K (T'.setTop (mkF m pc' Ls (st)))) : Go p e below K (T.setTop (mkF m pc Ls (.ref a :: st))) := by
  subst hp
  obtain ⟨T', X', e', stp⟩ := initO X.1 X.2.1 X.2.2.2.2.2.1 X.2.2.2.2.1 w1 w2 w3 X.2.2.2.2.2.2 (g := mkF m pc Ls (.ref a :: st)) rfl (by rw [X.2.2.2.1]; exact hsz) rfl (hb X.2.2.1 hd) hf (W := W) (by simpa using hW) hl
  exact Go.step (fun t q => stp _ q) (k T' ⟨X', X.2.1, X.2.2.1, X.2.2.2.1, X.2.2.2.2.1, X.2.2.2.2.2.1, e'⟩)
theorem g_checkcast (X : Sx Z own bytes ml p l e R s m args below meth c T locs cells slots h) {i : Nat} {K0 : String} {a : Addr} (w : (Cond.classLink own i K0).before a0 Z = true) (F : Ins Z h a K0 true) (hd : decode bytes pc = .ok (.checkcast i, 3)) (hp : pc + 3 = pc') (k : ∀ T', Sx Z own bytes ml p l e R s m args below meth c T' locs cells slots h → Go p e below K (T'.setTop (mkF m pc' Ls (.ref a :: st)))) : Go p e below K (T.setTop (mkF m pc Ls (.ref a :: st))) := by
  subst hp
  obtain ⟨T', X', e', stp⟩ := castY X.1 X.2.1 X.2.2.2.2.2.1 X.2.2.2.2.1 w X.2.2.2.2.2.2 F (g := mkF m pc Ls (.ref a :: st)) rfl rfl (hb X.2.2.1 hd)
  exact Go.step (fun t q => stp _ q) (k T' ⟨X', X.2.1, X.2.2.1, X.2.2.2.1, X.2.2.2.2.1, X.2.2.2.2.2.1, e'⟩)
theorem g_clone (X : Sx Z own bytes ml p l e R s m args below meth c T locs cells slots h) {i W : Nat} {ad : String} {a : Addr} {ty : FieldType} {vs : List Value} (w1 : (Cond.methodLink own i ⟨ad, "clone", "()Ljava/lang/Object;"⟩).before a0 Z = true) (w2 : (Cond.sameMethod ad "java/lang/Object" "clone" "()Ljava/lang/Object;").before a0 Z = true) (w3 : (Cond.native ⟨"java/lang/Object", "clone", "()Ljava/lang/Object;"⟩).before a0 Z = true) (w4 : (Cond.instanceMethod ⟨"java/lang/Object", "clone", "()Ljava/lang/Object;"⟩).before a0 Z = true) (w5 : (Cond.selects ad ⟨ad, "clone", "()Ljava/lang/Object;"⟩ ⟨"java/lang/Object", "clone", "()Ljava/lang/Object;"⟩).before a0 Z = true) (w6 : (Cond.castable ad "java/lang/Cloneable").before a0 Z = true) (A : Av Z h a ty vs) (E : Exa Z h a ad) (hfit : ∀ v ∈ vs, fits ty v = true) (hd : decode bytes pc = .ok (.invokevirtual i, 3)) (hp : pc + 3 = pc') (hsz : Ls.size = ml) (hf : 1 ≤ R.frames) (hW : (st.map fun v => v.category).sum ≤ W) (hl : W + 14 ≤ R.locals) (cap : Nat) (hcap : vs.length ≤ cap) (hc : cells + 1 ≤ R.cells) (hs : slots + cap ≤ R.slots) (k : ∀ T' h' (b : Addr), b = h.size → Sx Z own bytes ml p l e R s m args below meth c T' locs (cells + 1) (slots + cap) h' → Ext h h' → Exa Z h' b ad → Av Z h' b ty vs → Go p e below K (T'.setTop (mkF m pc' Ls (.ref b :: st)))) : Go p e below K (T.setTop (mkF m pc Ls (.ref a :: st))) := by
  subst hp
  obtain ⟨cl, A, rfl, r⟩ := A
  have FC : FitC Z cl := fitC_of A fun j hj v hv => hfit v (by rw [← Array.getElem?_toList] at hv; exact List.mem_of_getElem? hv)
  obtain ⟨T', h', X', e', Ex, A', E', stp⟩ := cloneA X.1 X.2.1 X.2.2.2.2.2.1 X.2.2.2.2.1 w1 w2 w3 w4 w5 w6 X.2.2.2.2.2.2 A E FC (g := mkF m pc Ls (.ref a :: st)) rfl (by rw [X.2.2.2.1]; exact hsz) rfl (hb X.2.2.1 hd) hf (W := W) (cap := cap) (by simpa using hW) hl (by simpa using hcap) hc hs
  exact Go.step (fun t q => stp _ q) (k T' h' _ rfl ⟨X', X.2.1, X.2.2.1, X.2.2.2.1, X.2.2.2.2.1, X.2.2.2.2.2.1, e'⟩ Ex E' ⟨_, A', rfl, r⟩)
theorem g_static (X : Sx Z own bytes ml p l e R s m args below meth c T locs cells slots h) {y : MethodName} {yb : ByteArray} {yl : Nat} {yr : Option FieldType} {rm : Room} {as' : Array Value} {Q : Option Value → Heap → List Loc → Prop} {i W : Nat} (argsL rest : List Value) (w1 : (Cond.methodLink own i y).before a0 Z = true) (w2 : (Cond.static y).before a0 Z = true) (w3 : (Cond.initialized y.cls).before a0 Z = true) (w4 : (Cond.code y yb yl yr).before a0 Z = true) (M : Rm l Z y yb yl yr [] rm as' h Q) (hd : decode bytes pc = .ok (.invokestatic i, 3)) (hp : pc + 3 = pc') (hy : y.cls ≠ "java/lang/invoke/MethodHandle" ∧ y.cls ≠ "java/lang/invoke/VarHandle") (hf : rm.frames + 1 ≤ R.frames) (hl : W + (yl + 11) + rm.locals ≤ R.locals) (hsz : Ls.size = ml) (ha : argsL.toArray = as') (hst : st = argsL.reverse ++ rest) (hlen : ∀ sig, parseMethodDescriptor y.desc = some sig → argsL.length = sig.parameters.length) (hW : (rest.map fun v => v.category).sum ≤ W) (hc : cells + rm.cells ≤ R.cells) (hs : slots + rm.slots ≤ R.slots) (k : ∀ v T' L, Sx Z own bytes ml p l e R s m args below meth c T' (locs ++ L) (cells + rm.cells) (slots + rm.slots) T'.heap → Q v T'.heap L → Go p e below K (T'.setTop (mkF m pc' Ls (v.toList ++ rest)))) : Go p e below K (T.setTop (mkF m pc Ls (st))) := by
  subst hp; subst hst
  have hZ := X.2.2.2.2.2.1
  obtain ⟨v, vm1, ⟨T', L', k', n'⟩, -, X', ⟨L, hQ, l1, l2, l3⟩, stp⟩ := Jvm.LawKit.callS X.1 X.2.1 X.2.2.2.2.1 (mvT hZ w1) (mvT hZ w2) (mvT hZ w3) (mvT hZ w4) hy (backOf (W := W) M hZ w4 w3 hf hl) (g := mkF m pc Ls (argsL.reverse ++ rest)) rfl (by rw [X.2.2.2.1]; exact hsz) (argsL := argsL) (rest := rest) hlen rfl (by simpa using hW) (hb X.2.2.1 hd) (fun _ _ => ⟨ha, X.2.2.2.2.2.2, hc, hs⟩)
  dsimp only [Pt.U, Pt.locs, Pt.cells, Pt.slots] at X' l1 l2 l3 stp hQ
  subst l1 l2 l3
  exact Go.step (fun t q => stp _ q) (k v T' L ⟨X', X.2.1, X.2.2.1, X.2.2.2.1, X.2.2.2.2.1, X.2.2.2.2.2.1, rfl⟩ hQ)
theorem g_special (X : Sx Z own bytes ml p l e R s m args below meth c T locs cells slots h) {y : MethodName} {yb : ByteArray} {yl : Nat} {rm : Room} {as' : Array Value} {Q : Option Value → Heap → List Loc → Prop} {i W : Nat} {a : Addr} (argsL rest : List Value) (hi : y.name = "<init>") (w1 : (Cond.methodLink own i y).before a0 Z = true) (w2 : (Cond.instanceMethod y).before a0 Z = true) (w3 : (Cond.initialized y.cls).before a0 Z = true) (w4 : (Cond.code y yb yl none).before a0 Z = true) (M : Rm l Z y yb yl none [] rm as' h Q) (hd : decode bytes pc = .ok (.invokespecial i, 3)) (hp : pc + 3 = pc') (hy : y.cls ≠ "java/lang/invoke/MethodHandle" ∧ y.cls ≠ "java/lang/invoke/VarHandle") (hf : rm.frames + 1 ≤ R.frames) (hl : W + (yl + 11) + rm.locals ≤ R.locals) (hsz : Ls.size = ml) (ha : (.ref a :: argsL).toArray = as') (hst : st = argsL.reverse ++ .ref a :: rest) (hlen : ∀ sig, parseMethodDescriptor y.desc = some sig → argsL.length = sig.parameters.length) (hW : (rest.map fun v => v.category).sum ≤ W) (hc : cells + rm.cells ≤ R.cells) (hs : slots + rm.slots ≤ R.slots) (k : ∀ v T' L, Sx Z own bytes ml p l e R s m args below meth c T' (locs ++ L) (cells + rm.cells) (slots + rm.slots) T'.heap → Q v T'.heap L → Go p e below K (T'.setTop (mkF m pc' Ls (v.toList ++ rest)))) : Go p e below K (T.setTop (mkF m pc Ls (st))) := by
  subst hp; subst hst
  have hZ := X.2.2.2.2.2.1
  obtain ⟨v, vm1, ⟨T', L', k', n'⟩, -, X', ⟨L, hQ, l1, l2, l3⟩, stp⟩ := X.1.specialBack X.2.1 (y := y) hi X.2.2.2.2.1 (mvT hZ w1) (mvT hZ w2) (mvT hZ w4) hy (backOf (W := W) M hZ w4 w3 hf hl) (g := mkF m pc Ls (argsL.reverse ++ .ref a :: rest)) rfl (by rw [X.2.2.2.1]; exact hsz) (Steps.refl _) (a := a) (argsL := argsL) (rest := rest) hlen rfl (by simpa using hW) (hb X.2.2.1 hd) (fun _ _ => ⟨ha, X.2.2.2.2.2.2, hc, hs⟩)
  dsimp only [Pt.U, Pt.locs, Pt.cells, Pt.slots] at X' l1 l2 l3 stp hQ
  subst l1 l2 l3
  exact Go.step (fun t q => stp.trans q) (k v T' L ⟨X', X.2.1, X.2.2.1, X.2.2.2.1, X.2.2.2.2.1, X.2.2.2.2.2.1, rfl⟩ hQ)
theorem g_virtual (X : Sx Z own bytes ml p l e R s m args below meth c T locs cells slots h) {y : MethodName} {yb : ByteArray} {yl : Nat} {yr : Option FieldType} {rm : Room} {as' : Array Value} {Q : Option Value → Heap → List Loc → Prop} {i W : Nat} {a : Addr} {C : String} (argsL rest : List Value) (E : Exa Z h a C) (w1 : (Cond.methodLink own i y).before a0 Z = true) (w2 : (Cond.declares y).before a0 Z = true) (w5 : (Cond.selects C y y).before a0 Z = true) (w6 : (Cond.instanceMethod y).before a0 Z = true) (w3 : (Cond.initialized y.cls).before a0 Z = true) (w4 : (Cond.code y yb yl yr).before a0 Z = true) (M : Rm l Z y yb yl yr [] rm as' h Q) (hd : decode bytes pc = .ok (.invokevirtual i, 3)) (hp : pc + 3 = pc') (hy : y.cls ≠ "java/lang/invoke/MethodHandle" ∧ y.cls ≠ "java/lang/invoke/VarHandle") (hf : rm.frames + 1 ≤ R.frames) (hl : W + (yl + 11) + rm.locals ≤ R.locals) (hsz : Ls.size = ml) (ha : (.ref a :: argsL).toArray = as') (hst : st = argsL.reverse ++ .ref a :: rest) (hlen : ∀ sig, parseMethodDescriptor y.desc = some sig → argsL.length = sig.parameters.length) (hW : (rest.map fun v => v.category).sum ≤ W) (hc : cells + rm.cells ≤ R.cells) (hs : slots + rm.slots ≤ R.slots) (k : ∀ v T' L, Sx Z own bytes ml p l e R s m args below meth c T' (locs ++ L) (cells + rm.cells) (slots + rm.slots) T'.heap → Q v T'.heap L → Go p e below K (T'.setTop (mkF m pc' Ls (v.toList ++ rest)))) : Go p e below K (T.setTop (mkF m pc Ls (st))) := by
  subst hp; subst hst
  have hZ := X.2.2.2.2.2.1
  obtain ⟨cq, kq, qa, qb, qc⟩ := isOf hZ X.2.2.2.2.2.2 E
  obtain ⟨v, vm1, ⟨T', L', k', n'⟩, -, X', ⟨L, hQ, l1, l2, l3⟩, stp⟩ := X.1.virtualBack X.2.1 (y := y) (z := y) X.2.2.2.2.1 (mvT hZ w1) (mvT hZ w2) (notFace_of_selects (args := #[]) (mvT hZ w5)) (mvT hZ w5) (mvT hZ w6) hy (backOf (W := W) M hZ w4 w3 hf hl) qa qc (g := mkF m pc Ls (argsL.reverse ++ .ref a :: rest)) rfl (by rw [X.2.2.2.1]; exact hsz) (Steps.refl _) (argsL := argsL) (rest := rest) hlen rfl (by simpa using hW) (hb X.2.2.1 hd) (fun _ _ => ⟨ha, X.2.2.2.2.2.2, hc, hs⟩)
  dsimp only [Pt.U, Pt.locs, Pt.cells, Pt.slots] at X' l1 l2 l3 stp hQ
  subst l1 l2 l3
  exact Go.step (fun t q => stp.trans q) (k v T' L ⟨X', X.2.1, X.2.2.1, X.2.2.2.1, X.2.2.2.2.1, X.2.2.2.2.2.1, rfl⟩ hQ)
theorem g_virtualUp (X : Sx Z own bytes ml p l e R s m args below meth c T locs cells slots h) {y : MethodName} {yb : ByteArray} {yl : Nat} {yr : Option FieldType} {rm : Room} {as' : Array Value} {Q : Option Value → Heap → List Loc → Prop} {i W : Nat} {a : Addr} {C owner : String} {x : MethodName} (argsL rest : List Value) (E : Exa Z h a C) (w1 : (Cond.methodLink own i x).before a0 Z = true) (w8 : (Cond.sameMethod x.cls owner x.name x.desc).before a0 Z = true) (w2 : (Cond.declares ⟨owner, x.name, x.desc⟩).before a0 Z = true) (w5 : (Cond.selects C x y).before a0 Z = true) (w6 : (Cond.instanceMethod y).before a0 Z = true) (w3 : (Cond.initialized y.cls).before a0 Z = true) (w4 : (Cond.code y yb yl yr).before a0 Z = true) (M : Rm l Z y yb yl yr [] rm as' h Q) (hd : decode bytes pc = .ok (.invokevirtual i, 3)) (hp : pc + 3 = pc') (hy : owner ≠ "java/lang/invoke/MethodHandle" ∧ owner ≠ "java/lang/invoke/VarHandle") (hf : rm.frames + 1 ≤ R.frames) (hl : W + (yl + 11) + rm.locals ≤ R.locals) (hsz : Ls.size = ml) (ha : (.ref a :: argsL).toArray = as') (hst : st = argsL.reverse ++ .ref a :: rest) (hlen : ∀ sig, parseMethodDescriptor x.desc = some sig → argsL.length = sig.parameters.length) (hW : (rest.map fun v => v.category).sum ≤ W) (hc : cells + rm.cells ≤ R.cells) (hs : slots + rm.slots ≤ R.slots) (k : ∀ v T' L, Sx Z own bytes ml p l e R s m args below meth c T' (locs ++ L) (cells + rm.cells) (slots + rm.slots) T'.heap → Q v T'.heap L → Go p e below K (T'.setTop (mkF m pc' Ls (v.toList ++ rest)))) : Go p e below K (T.setTop (mkF m pc Ls (st))) := by
  subst hp; subst hst
  have hZ := X.2.2.2.2.2.1
  obtain ⟨cq, kq, qa, qb, qc⟩ := isOf hZ X.2.2.2.2.2.2 E
  obtain ⟨v, vm1, ⟨T', L', k', n'⟩, -, X', ⟨L, hQ, l1, l2, l3⟩, stp⟩ := X.1.virtualBackUp X.2.1 (x := x) (y := y) X.2.2.2.2.1 (mvT hZ w1) (mvT hZ w8) (mvT hZ w2) hy (mvT hZ w5) (mvT hZ w6) (backOf (W := W) M hZ w4 w3 hf hl) qa qc (g := mkF m pc Ls (argsL.reverse ++ .ref a :: rest)) rfl (by rw [X.2.2.2.1]; exact hsz) (Steps.refl _) (argsL := argsL) (rest := rest) hlen rfl (by simpa using hW) (hb X.2.2.1 hd) (fun _ _ => ⟨ha, X.2.2.2.2.2.2, hc, hs⟩)
  dsimp only [Pt.U, Pt.locs, Pt.cells, Pt.slots] at X' l1 l2 l3 stp hQ
  subst l1 l2 l3
  exact Go.step (fun t q => stp.trans q) (k v T' L ⟨X', X.2.1, X.2.2.1, X.2.2.2.1, X.2.2.2.2.1, X.2.2.2.2.2.1, rfl⟩ hQ)
theorem g_private (X : Sx Z own bytes ml p l e R s m args below meth c T locs cells slots h) {y : MethodName} {yb : ByteArray} {yl : Nat} {yr : Option FieldType} {rm : Room} {as' : Array Value} {Q : Option Value → Heap → List Loc → Prop} {i W : Nat} {a : Addr} (argsL rest : List Value) (E : Exa Z h a y.cls) (w1 : (Cond.methodLink own i y).before a0 Z = true) (w5 : (Cond.selects y.cls y y).before a0 Z = true) (w6 : (Cond.instanceMethod y).before a0 Z = true) (w7 : (Cond.privateMethod y).before a0 Z = true) (w3 : (Cond.initialized y.cls).before a0 Z = true) (w4 : (Cond.code y yb yl yr).before a0 Z = true) (M : Rm l Z y yb yl yr [] rm as' h Q) (hd : decode bytes pc = .ok (.invokevirtual i, 3)) (hp : pc + 3 = pc') (hy : y.cls ≠ "java/lang/invoke/MethodHandle" ∧ y.cls ≠ "java/lang/invoke/VarHandle") (hf : rm.frames + 1 ≤ R.frames) (hl : W + (yl + 11) + rm.locals ≤ R.locals) (hsz : Ls.size = ml) (ha : (.ref a :: argsL).toArray = as') (hst : st = argsL.reverse ++ .ref a :: rest) (hlen : ∀ sig, parseMethodDescriptor y.desc = some sig → argsL.length = sig.parameters.length) (hW : (rest.map fun v => v.category).sum ≤ W) (hc : cells + rm.cells ≤ R.cells) (hs : slots + rm.slots ≤ R.slots) (k : ∀ v T' L, Sx Z own bytes ml p l e R s m args below meth c T' (locs ++ L) (cells + rm.cells) (slots + rm.slots) T'.heap → Q v T'.heap L → Go p e below K (T'.setTop (mkF m pc' Ls (v.toList ++ rest)))) : Go p e below K (T.setTop (mkF m pc Ls (st))) := by
  subst hp; subst hst
  have hZ := X.2.2.2.2.2.1
  obtain ⟨cq, q1, q2⟩ := E.cell
  obtain ⟨v, vm1, ⟨T', L', k', n'⟩, -, X', ⟨L, hQ, l1, l2, l3⟩, stp⟩ := X.1.privateBack X.2.1 (y := y) X.2.2.2.2.1 (mvT hZ w1) (mvT hZ w6) (mvT hZ w5) (Cond.privateMethod_at (mvP hZ w7 (args := #[]))) (mvT hZ w4) hy (backOf (W := W) M hZ w4 w3 hf hl) (g := mkF m pc Ls (argsL.reverse ++ .ref a :: rest)) rfl (by rw [X.2.2.2.1]; exact hsz) (Steps.refl _) (a := a) (by rw [X.2.2.2.2.2.2]; exact q1) q2 (argsL := argsL) (rest := rest) hlen rfl (by simpa using hW) (hb X.2.2.1 hd) (fun _ _ => ⟨ha, X.2.2.2.2.2.2, hc, hs⟩)
  dsimp only [Pt.U, Pt.locs, Pt.cells, Pt.slots] at X' l1 l2 l3 stp hQ
  subst l1 l2 l3
  exact Go.step (fun t q => stp.trans q) (k v T' L ⟨X', X.2.1, X.2.2.1, X.2.2.2.1, X.2.2.2.2.1, X.2.2.2.2.2.1, rfl⟩ hQ)
theorem g_specialB (X : Sx Z own bytes ml p l e R s m args below meth c T locs cells slots h) {y : MethodName} {as' : Array Value} {Q : Option Value → Heap → List Loc → Prop} {i W kc ks : Nat} {a : Addr} {yb : ByteArray} {yl : Nat} (argsL rest : List Value) (hi : y.name = "<init>") (w1 : (Cond.methodLink own i y).before a0 Z = true) (w2 : (Cond.instanceMethod y).before a0 Z = true) (w4 : (Cond.code y yb yl none).before a0 Z = true) (hK : Back l R p e below s args y 3 W (fun A a => a = as' ∧ A.U.heap = h ∧ A.cells + kc ≤ R.cells ∧ A.slots + ks ≤ R.slots) (fun A _ v B => ∃ L, Q v B.U.heap L ∧ B.locs = A.locs ++ L ∧ B.cells = A.cells + kc ∧ B.slots = A.slots + ks)) (hd : decode bytes pc = .ok (.invokespecial i, 3)) (hp : pc + 3 = pc') (hy : y.cls ≠ "java/lang/invoke/MethodHandle" ∧ y.cls ≠ "java/lang/invoke/VarHandle") (hsz : Ls.size = ml) (ha : (.ref a :: argsL).toArray = as') (hst : st = argsL.reverse ++ .ref a :: rest) (hlen : ∀ sig, parseMethodDescriptor y.desc = some sig → argsL.length = sig.parameters.length) (hW : (rest.map fun v => v.category).sum ≤ W) (hc : cells + kc ≤ R.cells) (hs : slots + ks ≤ R.slots) (k : ∀ v T' L, Sx Z own bytes ml p l e R s m args below meth c T' (locs ++ L) (cells + kc) (slots + ks) T'.heap → Q v T'.heap L → Go p e below K (T'.setTop (mkF m pc' Ls (v.toList ++ rest)))) : Go p e below K (T.setTop (mkF m pc Ls (st))) := by
  subst hp; subst hst
  have hZ := X.2.2.2.2.2.1
  obtain ⟨v, vm1, ⟨T', L', k', n'⟩, -, X', ⟨L, hQ, l1, l2, l3⟩, stp⟩ := X.1.specialBack X.2.1 (y := y) hi X.2.2.2.2.1 (mvT hZ w1) (mvT hZ w2) (mvT hZ w4) hy hK (g := mkF m pc Ls (argsL.reverse ++ .ref a :: rest)) rfl (by rw [X.2.2.2.1]; exact hsz) (Steps.refl _) (a := a) (argsL := argsL) (rest := rest) hlen rfl (by simpa using hW) (hb X.2.2.1 hd) (fun _ _ => ⟨ha, X.2.2.2.2.2.2, hc, hs⟩)
  dsimp only [Pt.U, Pt.locs, Pt.cells, Pt.slots] at X' l1 l2 l3 stp hQ
  subst l1 l2 l3
  exact Go.step (fun t q => stp.trans q) (k v T' L ⟨X', X.2.1, X.2.2.1, X.2.2.2.1, X.2.2.2.2.1, X.2.2.2.2.2.1, rfl⟩ hQ)
theorem g_virtualB (X : Sx Z own bytes ml p l e R s m args below meth c T locs cells slots h) {y : MethodName} {as' : Array Value} {Q : Option Value → Heap → List Loc → Prop} {i W kc ks : Nat} {a : Addr} {C : String} (argsL rest : List Value) (E : Exa Z h a C) (w1 : (Cond.methodLink own i y).before a0 Z = true) (w2 : (Cond.declares y).before a0 Z = true) (w5 : (Cond.selects C y y).before a0 Z = true) (w6 : (Cond.instanceMethod y).before a0 Z = true) (hK : Back l R p e below s args y 3 W (fun A a => a = as' ∧ A.U.heap = h ∧ A.cells + kc ≤ R.cells ∧ A.slots + ks ≤ R.slots) (fun A _ v B => ∃ L, Q v B.U.heap L ∧ B.locs = A.locs ++ L ∧ B.cells = A.cells + kc ∧ B.slots = A.slots + ks)) (hd : decode bytes pc = .ok (.invokevirtual i, 3)) (hp : pc + 3 = pc') (hy : y.cls ≠ "java/lang/invoke/MethodHandle" ∧ y.cls ≠ "java/lang/invoke/VarHandle") (hsz : Ls.size = ml) (ha : (.ref a :: argsL).toArray = as') (hst : st = argsL.reverse ++ .ref a :: rest) (hlen : ∀ sig, parseMethodDescriptor y.desc = some sig → argsL.length = sig.parameters.length) (hW : (rest.map fun v => v.category).sum ≤ W) (hc : cells + kc ≤ R.cells) (hs : slots + ks ≤ R.slots) (k : ∀ v T' L, Sx Z own bytes ml p l e R s m args below meth c T' (locs ++ L) (cells + kc) (slots + ks) T'.heap → Q v T'.heap L → Go p e below K (T'.setTop (mkF m pc' Ls (v.toList ++ rest)))) : Go p e below K (T.setTop (mkF m pc Ls (st))) := by
  subst hp; subst hst
  have hZ := X.2.2.2.2.2.1
  obtain ⟨cq, kq, qa, qb, qc⟩ := isOf hZ X.2.2.2.2.2.2 E
  obtain ⟨v, vm1, ⟨T', L', k', n'⟩, -, X', ⟨L, hQ, l1, l2, l3⟩, stp⟩ := X.1.virtualBack X.2.1 (y := y) (z := y) X.2.2.2.2.1 (mvT hZ w1) (mvT hZ w2) (notFace_of_selects (args := #[]) (mvT hZ w5)) (mvT hZ w5) (mvT hZ w6) hy hK qa qc (g := mkF m pc Ls (argsL.reverse ++ .ref a :: rest)) rfl (by rw [X.2.2.2.1]; exact hsz) (Steps.refl _) (argsL := argsL) (rest := rest) hlen rfl (by simpa using hW) (hb X.2.2.1 hd) (fun _ _ => ⟨ha, X.2.2.2.2.2.2, hc, hs⟩)
  dsimp only [Pt.U, Pt.locs, Pt.cells, Pt.slots] at X' l1 l2 l3 stp hQ
  subst l1 l2 l3
  exact Go.step (fun t q => stp.trans q) (k v T' L ⟨X', X.2.1, X.2.2.1, X.2.2.2.1, X.2.2.2.2.1, X.2.2.2.2.2.1, rfl⟩ hQ)
theorem g_ireturn (X : Sx Z own bytes ml p l e R s m args below meth c T locs cells slots h) {Q : Option Value → Heap → List Loc → Prop} {kc ks : Nat} {z : Int32} (hd : decode bytes pc = .ok (.ireturn, 1)) (hret : meth.sig.returnType = some .int) (hlk : meth.locks = false) (hc : cells ≤ kc) (hs : slots ≤ ks) (q : Q (some (.int z)) h locs) : Go p e below (Ends s Q kc ks) (T.setTop (mkF m pc Ls (.int z :: st))) := by
  obtain ⟨fs, hr, hrun, hended, hW, hsame⟩ := X.1.leave (v := (some (.int z))) (fun h => by rw [hret] at h; cases h) hlk
  refine ⟨_, _, retI X.1 X.2.1 hret (hb X.2.2.1 hd) hr, hrun, hended, _, _, rfl, ?_, ⟨_, rfl⟩, hW, hsame.mono hc hs⟩
  show Q _ T.heap _
  rw [X.2.2.2.2.2.2]; exact q
theorem g_lreturn (X : Sx Z own bytes ml p l e R s m args below meth c T locs cells slots h) {Q : Option Value → Heap → List Loc → Prop} {kc ks : Nat} {z : Int64} (hd : decode bytes pc = .ok (.lreturn, 1)) (hret : meth.sig.returnType = some .long) (hlk : meth.locks = false) (hc : cells ≤ kc) (hs : slots ≤ ks) (q : Q (some (.long z)) h locs) : Go p e below (Ends s Q kc ks) (T.setTop (mkF m pc Ls (.long z :: st))) := by
  obtain ⟨fs, hr, hrun, hended, hW, hsame⟩ := X.1.leave (v := (some (.long z))) (fun h => by rw [hret] at h; cases h) hlk
  refine ⟨_, _, retJ X.1 X.2.1 hret (hb X.2.2.1 hd) hr, hrun, hended, _, _, rfl, ?_, ⟨_, rfl⟩, hW, hsame.mono hc hs⟩
  show Q _ T.heap _
  rw [X.2.2.2.2.2.2]; exact q
theorem g_ireturnN (X : Sx Z own bytes ml p l e R s m args below meth c T locs cells slots h) {Q : Option Value → Heap → List Loc → Prop} {kc ks : Nat} {z : Int32} {t : FieldType} (ht : t = .boolean ∨ t = .byte ∨ t = .char ∨ t = .short) (hd : decode bytes pc = .ok (.ireturn, 1)) (hret : meth.sig.returnType = some t) (hlk : meth.locks = false) (hc : cells ≤ kc) (hs : slots ≤ ks) (q : Q (some (.int (nar t z))) h locs) : Go p e below (Ends s Q kc ks) (T.setTop (mkF m pc Ls (.int z :: st))) := by
  obtain ⟨fs, hr, hrun, hended, hW, hsame⟩ := X.1.leave (v := (some (.int (nar t z)))) (fun h => by rw [hret] at h; cases h) hlk
  refine ⟨_, _, retN X.1 X.2.1 hret ht (hb X.2.2.1 hd) hr, hrun, hended, _, _, rfl, ?_, ⟨_, rfl⟩, hW, hsame.mono hc hs⟩
  show Q _ T.heap _
  rw [X.2.2.2.2.2.2]; exact q
theorem g_areturn (X : Sx Z own bytes ml p l e R s m args below meth c T locs cells slots h) {Q : Option Value → Heap → List Loc → Prop} {kc ks : Nat} {w : Value} {t : FieldType} (hw : w.isRef = true) (ht : t.isReference = true) (hd : decode bytes pc = .ok (.areturn, 1)) (hret : meth.sig.returnType = some t) (hlk : meth.locks = false) (hc : cells ≤ kc) (hs : slots ≤ ks) (q : Q (some w) h locs) : Go p e below (Ends s Q kc ks) (T.setTop (mkF m pc Ls ([w]))) := by
  obtain ⟨fs, hr, hrun, hended, hW, hsame⟩ := X.1.leave (v := (some w)) (fun h => by rw [hret] at h; cases h) hlk
  refine ⟨_, _, X.1.areturnOut X.2.1 hw hret ht (hb X.2.2.1 hd) hr, hrun, hended, _, _, rfl, ?_, ⟨_, rfl⟩, hW, hsame.mono hc hs⟩
  show Q _ T.heap _
  rw [X.2.2.2.2.2.2]; exact q
theorem g_return (X : Sx Z own bytes ml p l e R s m args below meth c T locs cells slots h) {Q : Option Value → Heap → List Loc → Prop} {kc ks : Nat} (hd : decode bytes pc = .ok (.return_, 1)) (hret : meth.sig.returnType = none) (hlk : meth.locks = false) (hc : cells ≤ kc) (hs : slots ≤ ks) (q : Q none h locs) : Go p e below (Ends s Q kc ks) (T.setTop (mkF m pc Ls ([]))) := by
  obtain ⟨fs, hr, hrun, hended, hW, hsame⟩ := X.1.leave (v := none) (fun _ => rfl) hlk
  refine ⟨_, _, X.1.returnOut X.2.1 hret (hb X.2.2.1 hd) hr, hrun, hended, _, _, rfl, ?_, ⟨_, rfl⟩, hW, hsame.mono hc hs⟩
  show Q _ T.heap _
  rw [X.2.2.2.2.2.2]; exact q
/-- a loop that writes nothing: F: the frame at its head; I: what holds there; mu: the turns left -/
theorem loopP {α : Type} (X : Sx Z own bytes ml p l e R s m args below meth c T locs cells slots h) (F : α → JFrame) (I : α → Prop) (mu : α → Nat)
    (hstep : ∀ (a : α) (T : State), Sx Z own bytes ml p l e R s m args below meth c T locs cells slots h → I a → (∀ (a' : α) (T' : State), mu a' < mu a → Sx Z own bytes ml p l e R s m args below meth c T' locs cells slots h → I a' → Go p e below K (T'.setTop (F a'))) → Go p e below K (T.setTop (F a))) (b : α) (hI : I b) : Go p e below K (T.setTop (F b)) := by
  have main : ∀ (n : Nat) (a : α) (T : State), mu a < n → Sx Z own bytes ml p l e R s m args below meth c T locs cells slots h → I a → Go p e below K (T.setTop (F a)) := by
    intro n
    induction n with
    | zero => intro a T q; exact absurd q (Nat.not_lt_zero _)
    | succ n ih => intro a T q X hI; exact hstep a T X hI (fun a' T' q' X' hI' => ih a' T' (Nat.lt_of_lt_of_le q' (Nat.le_of_lt_succ q)) X' hI')
  exact main _ b T (Nat.lt_succ_self _) X hI
/-- a loop that writes -/
theorem loopW {α : Type} (X : Sx Z own bytes ml p l e R s m args below meth c T locs cells slots h) (F : α → JFrame) (I : α → Heap → List Loc → Prop) (mu : α → Nat)
    (hstep : ∀ (a : α) (T : State) (h : Heap) (locs : List Loc), Sx Z own bytes ml p l e R s m args below meth c T locs cells slots h → I a h locs → (∀ (a' : α) (T' : State) (h' : Heap) (locs' : List Loc), mu a' < mu a → Sx Z own bytes ml p l e R s m args below meth c T' locs' cells slots h' → I a' h' locs' → Go p e below K (T'.setTop (F a'))) → Go p e below K (T.setTop (F a))) (b : α) (hI : I b h locs) : Go p e below K (T.setTop (F b)) := by
  have main : ∀ (n : Nat) (a : α) (T : State) (h : Heap) (locs : List Loc), mu a < n → Sx Z own bytes ml p l e R s m args below meth c T locs cells slots h → I a h locs → Go p e below K (T.setTop (F a)) := by
    intro n
    induction n with
    | zero => intro a T h locs q; exact absurd q (Nat.not_lt_zero _)
    | succ n ih => intro a T h locs q X hI; exact hstep a T h locs X hI (fun a' T' h' locs' q' X' hI' => ih a' T' h' locs' (Nat.lt_of_lt_of_le q' (Nat.le_of_lt_succ q)) X' hI')
  exact main _ b T h locs (Nat.lt_succ_self _) X hI
/-- two ways that meet again -/
theorem joinA {α : Type} (X : Sx Z own bytes ml p l e R s m args below meth c T locs cells slots h) (F : α → JFrame) (r : α → Prop) {f : JFrame} (k : ∀ (T' : State), Sx Z own bytes ml p l e R s m args below meth c T' locs cells slots h → ∀ v : α, r v → Go p e below K (T'.setTop (F v)))
    (b : (∀ (T' : State), Sx Z own bytes ml p l e R s m args below meth c T' locs cells slots h → ∀ v : α, r v → Go p e below K (T'.setTop (F v))) → Go p e below K (T.setTop f)) : Go p e below K (T.setTop f) := b k
end Walk
theorem narT : nar .boolean (1 : Int32) = b2i true := rfl
theorem narF : nar .boolean (0 : Int32) = b2i false := rfl
/-- the sheet's k-th word -/
theorem tb {a0 : Array Value} {Z : State} (hw : ∀ d ∈ tables_1, d.before a0 Z = true) (k : Nat) {d : Jvm.Cond} (hd : tables_1[k]? = some d) : d.before a0 Z = true := hw d (List.mem_of_getElem? hd)
/-- what a method says that writes and makes nothing: it returns this -/
def Pu (val : Value) (h0 : Heap) (v : Option Value) (h : Heap) (L : List Loc) : Prop := v = some val ∧ L = [] ∧ h = h0
theorem pureX {Z : State} {own : String} {bytes : ByteArray} {ml : Nat} {p : Program} {l : Launch} {e : Env} {R : Room} {s : State} {m : MethodId} {args : Array Value} {below : List Frame} {meth : Method} {c : Code} {T : State} {locs L : List Loc} {cells slots : Nat} {h : Heap} {val : Value} {v : Option Value}
    (X : Sx Z own bytes ml p l e R s m args below meth c T (locs ++ L) (cells + 0) (slots + 0) T.heap) (q : Pu val h v T.heap L) : v = some val ∧ Sx Z own bytes ml p l e R s m args below meth c T locs cells slots h := by
  obtain ⟨q1, rfl, q3⟩ := q
  rw [List.append_nil] at X
  exact ⟨q1, X.1, X.2.1, X.2.2.1, X.2.2.2.1, X.2.2.2.2.1, X.2.2.2.2.2.1, q3⟩

/-- a String that spells these chars, each 0 to 255 -/
def StrIs (Z : State) (h : Heap) (x : Addr) (cs : List Int32) : Prop := Exa Z h x "java/lang/String" ∧ Fld Z h x "java/lang/String" "coder" "B" (.int 0) ∧ (∃ (t : Addr) (kb : ClassId), Fld Z h x "java/lang/String" "value" "[B" (.ref t) ∧ Arv Z h t kb .byte (Int32.ofNat cs.length) ((cs.map fun c => c.toInt8.toInt32).map Value.int) (.int 0)) ∧ (∀ c ∈ cs, ¬ c < 0 ∧ ¬ (255 : Int32) < c) ∧ cs.length ≤ 4000
theorem chars_up {cs : List Int32} (h : ∀ c ∈ cs, ¬ c < 0 ∧ ¬ (255 : Int32) < c) : ∀ c ∈ cs, ¬ c < 0 ∧ ¬ (65535 : Int32) < c := fun c hc => ⟨(h c hc).1, fun q => (h c hc).2 (by rw [Int32.lt_iff_toInt_lt] at q ⊢; simp only [Int32.reduceToInt] at q ⊢; omega)⟩
theorem Av.arv {Z : State} {h : Heap} {a : Addr} {ty : FieldType} {vs : List Value} {d : Value} {N : Int32} (F : Av Z h a ty vs) (hf : ∀ v ∈ vs, fits ty v = true) (hN : N = Int32.ofNat vs.length) : ∃ k, Arv Z h a k ty N vs d := by
  obtain ⟨c, A, rfl, r⟩ := F
  subst hN
  have e := len_toInt r
  rw [Array.length_toList] at r e ⊢
  change (Int32.ofNat c.slots.size).toInt = _ at e
  refine ⟨c.cls, c, A, rfl, by simp only [Int32.toNatClampNeg, e]; omega, by rw [Int32.lt_iff_toInt_lt, e]; simp only [Int32.reduceToInt]; omega, fun i hi => ?_, fun i hi => ?_⟩
  · rw [List.getD_eq_getElem?_getD, Array.getElem?_toList, Array.getElem?_eq_getElem hi]; rfl
  · rw [List.getD_eq_getElem?_getD, Array.getElem?_toList, Array.getElem?_eq_getElem hi]
    exact hf _ (by simp)
theorem back_len {p : Program} {l : Launch} {e : Env} {R : Room} {s : State} {args : Array Value} {below : List Frame} {W : Nat} {Z : State} {aa : Array Value} {h : Heap} {x : Addr} {cs : List Int32} {z : Int32} (hZ : Z.Warmed39 s.vm) (hw : ∀ d ∈ tables_1, d.before aa Z = true) (S : StrIs Z h x cs) (O : Sta Z h "java/lang/String" "COMPACT_STRINGS" "Z" (.int z)) (hz : ¬ z = 0) (hfr : 2 ≤ R.frames) (hlo : W + 25 ≤ R.locals) :
    Back l R p e below s args (⟨"java/lang/String", "length", "()I"⟩ : MethodName) 3 W (fun A a => a = #[.ref x] ∧ A.U.heap = h ∧ A.cells + 0 ≤ R.cells ∧ A.slots + 0 ≤ R.slots) (fun A _ v B => ∃ L, Pu (.int (Int32.ofNat cs.length)) h v B.U.heap L ∧ B.locs = A.locs ++ L ∧ B.cells = A.cells + 0 ∧ B.slots = A.slots + 0) := by
  obtain ⟨E, C, ⟨t, kb, V, K⟩, hp, l2⟩ := S
  exact StrChars.Road.lenW hZ (fun d hd => hw d ((by decide +kernel : ∀ d ∈ StrChars.Road.wordsLen, d ∈ tables_1) d hd)) (kI := 4) (tb hw 19 rfl) E V C K (StrChars.Road.codOf rfl (fun c hc => (hp c hc).2)) (chars_up hp) O hz l2 hfr hlo
theorem back_ch {p : Program} {l : Launch} {e : Env} {R : Room} {s : State} {args : Array Value} {below : List Frame} {W : Nat} {Z : State} {aa : Array Value} {h : Heap} {x : Addr} {cs : List Int32} {z j : Int32} {fm : Value} {i : Nat} (hZ : Z.Warmed39 s.vm) (hw : ∀ d ∈ tables_1, d.before aa Z = true) (S : StrIs Z h x cs) (O : Sta Z h "java/lang/String" "COMPACT_STRINGS" "Z" (.int z)) (hz : ¬ z = 0) (F : Sta Z h "jdk/internal/util/Preconditions" "SIOOBE_FORMATTER" "Ljava/util/function/BiFunction;" fm) (rf : fm.isRef = true) (hi : i < cs.length) (hj : j = Int32.ofNat i) (hfr : 4 ≤ R.frames) (hlo : W + 53 ≤ R.locals) :
    Back l R p e below s args (⟨"java/lang/String", "charAt", "(I)C"⟩ : MethodName) 3 W (fun A a => a = #[.ref x, .int j] ∧ A.U.heap = h ∧ A.cells + 0 ≤ R.cells ∧ A.slots + 0 ≤ R.slots) (fun A _ v B => ∃ L, Pu (.int (cs.getD i 0)) h v B.U.heap L ∧ B.locs = A.locs ++ L ∧ B.cells = A.cells + 0 ∧ B.slots = A.slots + 0) := by
  obtain ⟨E, C, ⟨t, kb, V, K⟩, hp, l2⟩ := S
  exact StrChars.Road.chN hZ (fun d hd => hw d ((by decide +kernel : ∀ d ∈ StrChars.Road.wordsChN, d ∈ tables_1) d hd)) (kI := 4) (tb hw 19 rfl) E V C K (StrChars.Road.codOf rfl (fun c hc => (hp c hc).2)) (chars_up hp) O hz F rf l2 hi hj hfr hlo
theorem back_emp {p : Program} {l : Launch} {e : Env} {R : Room} {s : State} {args : Array Value} {below : List Frame} {W : Nat} {Z : State} {aa : Array Value} {h : Heap} {x : Addr} {cs : List Int32} (hZ : Z.Warmed39 s.vm) (hw : ∀ d ∈ tables_1, d.before aa Z = true) (S : StrIs Z h x cs) (hfr : 1 ≤ R.frames) (hlo : W + 12 ≤ R.locals) :
    Back l R p e below s args (⟨"java/lang/String", "isEmpty", "()Z"⟩ : MethodName) 3 W (fun A a => a = #[.ref x] ∧ A.U.heap = h ∧ A.cells + 0 ≤ R.cells ∧ A.slots + 0 ≤ R.slots) (fun A _ v B => ∃ L, Pu (.int (if cs.length = 0 then 1 else 0)) h v B.U.heap L ∧ B.locs = A.locs ++ L ∧ B.cells = A.cells + 0 ∧ B.slots = A.slots + 0) := by
  obtain ⟨E, C, ⟨t, kb, V, K⟩, hp, l2⟩ := S
  exact StrChars.Road.empW hZ (fun d hd => hw d ((by decide +kernel : ∀ d ∈ StrChars.Road.wordsEmp, d ∈ tables_1) d hd)) (kI := 4) (tb hw 19 rfl) E V C K (StrChars.Road.codOf rfl (fun c hc => (hp c hc).2)) (chars_up hp) l2 hfr hlo
/-- what new String(chars) leaves -/
def NewQ (Z : State) (x : Addr) (cs : List Int32) (h0 : Heap) (n0 : Nat) (v : Option Value) (h : Heap) (L : List Loc) : Prop := v = none ∧ Fr n0 L ∧ Keep h0 h [x] ∧ StrIs Z h x cs
theorem back_new {p : Program} {l : Launch} {e : Env} {R : Room} {s : State} {args : Array Value} {below : List Frame} {W : Nat} {Z : State} {aa : Array Value} {h : Heap} {x b : Addr} {cs : List Int32} {vs : List Value} {v0 c0 : Value} {z : Int32} {n n0 : Nat} (hZ : Z.Warmed39 s.vm) (hw : ∀ d ∈ tables_1, d.before aa Z = true) (hx0 : n0 ≤ x) (hh0 : n0 ≤ h.size) (E : Exa Z h x "java/lang/String") (V : Fld Z h x "java/lang/String" "value" "[B" v0) (C : Fld Z h x "java/lang/String" "coder" "B" c0) (A : Av Z h b .char vs) (hvs : vs = cs.map Value.int) (hf : ∀ v ∈ vs, fits .char v = true) (O : Sta Z h "java/lang/String" "COMPACT_STRINGS" "Z" (.int z)) (hz : ¬ z = 0) (hn : cs.length = n) (l0 : 0 < n) (l2 : n ≤ 4000) (hp : ∀ c ∈ cs, ¬ c < 0 ∧ ¬ (255 : Int32) < c) (hfr : 4 ≤ R.frames) (hlo : W + 65 ≤ R.locals) :
    Back l R p e below s args (⟨"java/lang/String", "<init>", "([C)V"⟩ : MethodName) 3 W (fun P a => a = #[.ref x, .ref b] ∧ P.U.heap = h ∧ P.cells + 1 ≤ R.cells ∧ P.slots + n ≤ R.slots) (fun P _ v B => ∃ L, NewQ Z x cs h n0 v B.U.heap L ∧ B.locs = P.locs ++ L ∧ B.cells = P.cells + 1 ∧ B.slots = P.slots + n) := by
  subst hvs; subst hn
  obtain ⟨k, K⟩ := A.arv (d := .int 0) (N := Int32.ofNat cs.length) hf (by rw [List.length_map])
  refine Back.mono (StrChars.Road.backV hZ (fun d hd => hw d ((by decide +kernel : ∀ d ∈ StrChars.Road.words, d ∈ tables_1) d hd)) (kI := 4) (tb hw 19 rfl) hx0 hh0 E V C K O hz rfl rfl l0 l2 hp rfl hfr hlo) (fun P a hp => hp) (fun P a v B hP hq => ?_)
  obtain ⟨L, ⟨q1, q2, q3, q4, q5, t, kb, -, -, -, q6, q7⟩, hl, hc, hs⟩ := hq
  exact ⟨L, ⟨q1, q2, q3, q4, q5, ⟨t, kb, q6, q7⟩, hp, l2⟩, hl, hc, hs⟩

theorem pn_0 : plainName "com/example/grant/grant/WholeNumberParsePinLaw" = true := by first | (simp [plainName, overriddenIn]; done) | decide +kernel
theorem d1_0 : decode method_3_code 0 = .ok (.bipush 48, 2) := by decide +kernel
theorem d1_2 : decode method_3_code 2 = .ok (.iload_n 0, 1) := by decide +kernel
theorem d1_3 : decode method_3_code 3 = .ok (.i2l, 1) := by decide +kernel
theorem d1_4 : decode method_3_code 4 = .ok (.lload_n 1, 1) := by decide +kernel
theorem d1_5 : decode method_3_code 5 = .ok (.ldiv, 1) := by decide +kernel
theorem d1_6 : decode method_3_code 6 = .ok (.ldc2_w 14, 3) := by decide +kernel
theorem d1_9 : decode method_3_code 9 = .ok (.lrem, 1) := by decide +kernel
theorem d1_10 : decode method_3_code 10 = .ok (.l2i, 1) := by decide +kernel
theorem d1_11 : decode method_3_code 11 = .ok (.iadd, 1) := by decide +kernel
theorem d1_12 : decode method_3_code 12 = .ok (.i2c, 1) := by decide +kernel
theorem d1_13 : decode method_3_code 13 = .ok (.ireturn, 1) := by decide +kernel
def fDig (i0 : Int32) (j1 : Int64) : Int32 := nar .char (((48 : Int32) + ((((i0.toInt64) / j1) % (10 : Int64)).toInt32)).toUInt32.toUInt16.toUInt32.toInt32)
theorem ef_rDig (m : MethodId) (x0 : Int32) (x1 : Int64) : entryFrame m #[(.int x0), (.long x1)] 3 = mkF m 0 #[.val (.int x0), .val (.long x1), .second] [] := by first | (simp [entryFrame, mkF, argsToLocals, Value.category]; done) | rfl
set_option maxRecDepth 65536 in
set_option maxHeartbeats 40000000 in
theorem rDig (l : Launch) (Z : State) (aa : Array Value) (hw : ∀ d ∈ tables_1, d.before aa Z = true) (ws : List Jvm.Cond) (i0 : Int32) (j1 : Int64) (h0 : Heap) (p0 : ¬ j1 = (0 : Int64)) :
    Rm l Z (⟨"com/example/grant/grant/WholeNumberParsePinLaw", "digit", "(IJ)C"⟩ : MethodName) method_3_code 3 (some .char) ws ({ frames := 0, cells := 0, slots := 0, locals := 0 } : Room) #[(.int i0), (.long j1)] h0 (Pu (.int (fDig i0 j1)) h0) := by
  refine Rm.of (plainFor_of_name pn_0) ?_
  intro p e s m below meth cc T X hnm hret hlk
  refine Go.at_ (ef_rDig m i0 j1) ?_
  refine g_bipush X (48 : Int32) d1_0 (pc' := 2) rfl rfl ?_
  refine g_iloadN X d1_2 (pc' := 3) rfl rfl ?_
  refine g_i2l X d1_3 (pc' := 4) rfl ?_
  refine g_lloadN X d1_4 (pc' := 5) rfl rfl ?_
  refine g_ldiv X d1_5 (pc' := 6) rfl p0 ?_
  refine g_ldc2 X (tb hw 6 rfl) d1_6 (pc' := 9) rfl ?_
  refine g_lrem X d1_9 (pc' := 10) rfl (by decide) ?_
  refine g_l2i X d1_10 (pc' := 11) rfl ?_
  refine g_iadd X d1_11 (pc' := 12) rfl ?_
  refine g_i2c X d1_12 (pc' := 13) rfl ?_
  refine g_ireturnN X (t := .char) (by simp) d1_13 hret hlk (by decide) (by decide) ?_
  exact ⟨congrArg (fun z => some (Value.int z)) (Eq.symm (show fDig i0 j1 = _ from rfl)), rfl, rfl⟩
theorem d9_0 : decode method_4_code 0 = .ok (.iload_n 0, 1) := by decide +kernel
theorem d9_1 : decode method_4_code 1 = .ok (.iconst 1, 1) := by decide +kernel
theorem d9_2 : decode method_4_code 2 = .ok (.if_icmp .ne 7, 3) := by decide +kernel
theorem d9_5 : decode method_4_code 5 = .ok (.ldc2_w 14, 3) := by decide +kernel
theorem d9_8 : decode method_4_code 8 = .ok (.lreturn, 1) := by decide +kernel
theorem d9_9 : decode method_4_code 9 = .ok (.iload_n 0, 1) := by decide +kernel
theorem d9_10 : decode method_4_code 10 = .ok (.iconst 2, 1) := by decide +kernel
theorem d9_11 : decode method_4_code 11 = .ok (.if_icmp .ne 7, 3) := by decide +kernel
theorem d9_14 : decode method_4_code 14 = .ok (.ldc2_w 16, 3) := by decide +kernel
theorem d9_17 : decode method_4_code 17 = .ok (.lreturn, 1) := by decide +kernel
theorem d9_18 : decode method_4_code 18 = .ok (.iload_n 0, 1) := by decide +kernel
theorem d9_19 : decode method_4_code 19 = .ok (.iconst 3, 1) := by decide +kernel
theorem d9_20 : decode method_4_code 20 = .ok (.if_icmp .ne 7, 3) := by decide +kernel
theorem d9_23 : decode method_4_code 23 = .ok (.ldc2_w 18, 3) := by decide +kernel
theorem d9_26 : decode method_4_code 26 = .ok (.lreturn, 1) := by decide +kernel
theorem d9_27 : decode method_4_code 27 = .ok (.iload_n 0, 1) := by decide +kernel
theorem d9_28 : decode method_4_code 28 = .ok (.iconst 4, 1) := by decide +kernel
theorem d9_29 : decode method_4_code 29 = .ok (.if_icmp .ne 7, 3) := by decide +kernel
theorem d9_32 : decode method_4_code 32 = .ok (.ldc2_w 20, 3) := by decide +kernel
theorem d9_35 : decode method_4_code 35 = .ok (.lreturn, 1) := by decide +kernel
theorem d9_36 : decode method_4_code 36 = .ok (.iload_n 0, 1) := by decide +kernel
theorem d9_37 : decode method_4_code 37 = .ok (.iconst 5, 1) := by decide +kernel
theorem d9_38 : decode method_4_code 38 = .ok (.if_icmp .ne 7, 3) := by decide +kernel
theorem d9_41 : decode method_4_code 41 = .ok (.ldc2_w 22, 3) := by decide +kernel
theorem d9_44 : decode method_4_code 44 = .ok (.lreturn, 1) := by decide +kernel
theorem d9_45 : decode method_4_code 45 = .ok (.iload_n 0, 1) := by decide +kernel
theorem d9_46 : decode method_4_code 46 = .ok (.bipush 6, 2) := by decide +kernel
theorem d9_48 : decode method_4_code 48 = .ok (.if_icmp .ne 7, 3) := by decide +kernel
theorem d9_51 : decode method_4_code 51 = .ok (.ldc2_w 24, 3) := by decide +kernel
theorem d9_54 : decode method_4_code 54 = .ok (.lreturn, 1) := by decide +kernel
theorem d9_55 : decode method_4_code 55 = .ok (.iload_n 0, 1) := by decide +kernel
theorem d9_56 : decode method_4_code 56 = .ok (.bipush 7, 2) := by decide +kernel
theorem d9_58 : decode method_4_code 58 = .ok (.if_icmp .ne 7, 3) := by decide +kernel
theorem d9_61 : decode method_4_code 61 = .ok (.ldc2_w 26, 3) := by decide +kernel
theorem d9_64 : decode method_4_code 64 = .ok (.lreturn, 1) := by decide +kernel
theorem d9_65 : decode method_4_code 65 = .ok (.iload_n 0, 1) := by decide +kernel
theorem d9_66 : decode method_4_code 66 = .ok (.bipush 8, 2) := by decide +kernel
theorem d9_68 : decode method_4_code 68 = .ok (.if_icmp .ne 7, 3) := by decide +kernel
theorem d9_71 : decode method_4_code 71 = .ok (.ldc2_w 28, 3) := by decide +kernel
theorem d9_74 : decode method_4_code 74 = .ok (.lreturn, 1) := by decide +kernel
theorem d9_75 : decode method_4_code 75 = .ok (.ldc2_w 30, 3) := by decide +kernel
theorem d9_78 : decode method_4_code 78 = .ok (.lreturn, 1) := by decide +kernel
def fPow (i0 : Int32) : Int64 := if i0 = (1 : Int32) then ((10 : Int64)) else (if i0 = (2 : Int32) then ((100 : Int64)) else (if i0 = (3 : Int32) then ((1000 : Int64)) else (if i0 = (4 : Int32) then ((10000 : Int64)) else (if i0 = (5 : Int32) then ((100000 : Int64)) else (if i0 = (6 : Int32) then ((1000000 : Int64)) else (if i0 = (7 : Int32) then ((10000000 : Int64)) else (if i0 = (8 : Int32) then ((100000000 : Int64)) else ((1000000000 : Int64)))))))))
theorem ef_rPow (m : MethodId) (x0 : Int32) : entryFrame m #[(.int x0)] 1 = mkF m 0 #[.val (.int x0)] [] := by first | (simp [entryFrame, mkF, argsToLocals, Value.category]; done) | rfl
set_option maxRecDepth 65536 in
set_option maxHeartbeats 40000000 in
theorem rPow (l : Launch) (Z : State) (aa : Array Value) (hw : ∀ d ∈ tables_1, d.before aa Z = true) (ws : List Jvm.Cond) (i0 : Int32) (h0 : Heap) :
    Rm l Z (⟨"com/example/grant/grant/WholeNumberParsePinLaw", "pow", "(I)J"⟩ : MethodName) method_4_code 1 (some .long) ws ({ frames := 0, cells := 0, slots := 0, locals := 0 } : Room) #[(.int i0)] h0 (Pu (.long (fPow i0)) h0) := by
  refine Rm.of (plainFor_of_name pn_0) ?_
  intro p e s m below meth cc T X hnm hret hlk
  refine Go.at_ (ef_rPow m i0) ?_
  refine g_iloadN X d9_0 (pc' := 1) rfl rfl ?_
  refine g_iconst X (1 : Int32) d9_1 (pc' := 2) rfl rfl ?_
  by_cases hc2_1 : i0 = (1 : Int32)
  · skip
    refine g_icN X d9_2 (teq hc2_1).2 (pc' := 5) rfl ?_
    refine g_ldc2 X (tb hw 6 rfl) d9_5 (pc' := 8) rfl ?_
    refine g_lreturn X d9_8 hret hlk (by decide) (by decide) ?_
    exact ⟨congrArg (fun z => some (Value.long z)) (Eq.symm (show fPow i0 = _ from (Eq.trans (if_pos hc2_1) rfl))), rfl, rfl⟩
  · skip
    refine g_icY X d9_2 (feq hc2_1).2 (pc' := 9) (by decide) (by decide) ?_
    refine g_iloadN X d9_9 (pc' := 10) rfl rfl ?_
    refine g_iconst X (2 : Int32) d9_10 (pc' := 11) rfl rfl ?_
    by_cases hc11_2 : i0 = (2 : Int32)
    · skip
      refine g_icN X d9_11 (teq hc11_2).2 (pc' := 14) rfl ?_
      refine g_ldc2 X (tb hw 7 rfl) d9_14 (pc' := 17) rfl ?_
      refine g_lreturn X d9_17 hret hlk (by decide) (by decide) ?_
      exact ⟨congrArg (fun z => some (Value.long z)) (Eq.symm (show fPow i0 = _ from (Eq.trans (if_neg hc2_1) (Eq.trans (if_pos hc11_2) rfl)))), rfl, rfl⟩
    · skip
      refine g_icY X d9_11 (feq hc11_2).2 (pc' := 18) (by decide) (by decide) ?_
      refine g_iloadN X d9_18 (pc' := 19) rfl rfl ?_
      refine g_iconst X (3 : Int32) d9_19 (pc' := 20) rfl rfl ?_
      by_cases hc20_3 : i0 = (3 : Int32)
      · skip
        refine g_icN X d9_20 (teq hc20_3).2 (pc' := 23) rfl ?_
        refine g_ldc2 X (tb hw 8 rfl) d9_23 (pc' := 26) rfl ?_
        refine g_lreturn X d9_26 hret hlk (by decide) (by decide) ?_
        exact ⟨congrArg (fun z => some (Value.long z)) (Eq.symm (show fPow i0 = _ from (Eq.trans (if_neg hc2_1) (Eq.trans (if_neg hc11_2) (Eq.trans (if_pos hc20_3) rfl))))), rfl, rfl⟩
      · skip
        refine g_icY X d9_20 (feq hc20_3).2 (pc' := 27) (by decide) (by decide) ?_
        refine g_iloadN X d9_27 (pc' := 28) rfl rfl ?_
        refine g_iconst X (4 : Int32) d9_28 (pc' := 29) rfl rfl ?_
        by_cases hc29_4 : i0 = (4 : Int32)
        · skip
          refine g_icN X d9_29 (teq hc29_4).2 (pc' := 32) rfl ?_
          refine g_ldc2 X (tb hw 9 rfl) d9_32 (pc' := 35) rfl ?_
          refine g_lreturn X d9_35 hret hlk (by decide) (by decide) ?_
          exact ⟨congrArg (fun z => some (Value.long z)) (Eq.symm (show fPow i0 = _ from (Eq.trans (if_neg hc2_1) (Eq.trans (if_neg hc11_2) (Eq.trans (if_neg hc20_3) (Eq.trans (if_pos hc29_4) rfl)))))), rfl, rfl⟩
        · skip
          refine g_icY X d9_29 (feq hc29_4).2 (pc' := 36) (by decide) (by decide) ?_
          refine g_iloadN X d9_36 (pc' := 37) rfl rfl ?_
          refine g_iconst X (5 : Int32) d9_37 (pc' := 38) rfl rfl ?_
          by_cases hc38_5 : i0 = (5 : Int32)
          · skip
            refine g_icN X d9_38 (teq hc38_5).2 (pc' := 41) rfl ?_
            refine g_ldc2 X (tb hw 10 rfl) d9_41 (pc' := 44) rfl ?_
            refine g_lreturn X d9_44 hret hlk (by decide) (by decide) ?_
            exact ⟨congrArg (fun z => some (Value.long z)) (Eq.symm (show fPow i0 = _ from (Eq.trans (if_neg hc2_1) (Eq.trans (if_neg hc11_2) (Eq.trans (if_neg hc20_3) (Eq.trans (if_neg hc29_4) (Eq.trans (if_pos hc38_5) rfl))))))), rfl, rfl⟩
          · skip
            refine g_icY X d9_38 (feq hc38_5).2 (pc' := 45) (by decide) (by decide) ?_
            refine g_iloadN X d9_45 (pc' := 46) rfl rfl ?_
            refine g_bipush X (6 : Int32) d9_46 (pc' := 48) rfl rfl ?_
            by_cases hc48_6 : i0 = (6 : Int32)
            · skip
              refine g_icN X d9_48 (teq hc48_6).2 (pc' := 51) rfl ?_
              refine g_ldc2 X (tb hw 11 rfl) d9_51 (pc' := 54) rfl ?_
              refine g_lreturn X d9_54 hret hlk (by decide) (by decide) ?_
              exact ⟨congrArg (fun z => some (Value.long z)) (Eq.symm (show fPow i0 = _ from (Eq.trans (if_neg hc2_1) (Eq.trans (if_neg hc11_2) (Eq.trans (if_neg hc20_3) (Eq.trans (if_neg hc29_4) (Eq.trans (if_neg hc38_5) (Eq.trans (if_pos hc48_6) rfl)))))))), rfl, rfl⟩
            · skip
              refine g_icY X d9_48 (feq hc48_6).2 (pc' := 55) (by decide) (by decide) ?_
              refine g_iloadN X d9_55 (pc' := 56) rfl rfl ?_
              refine g_bipush X (7 : Int32) d9_56 (pc' := 58) rfl rfl ?_
              by_cases hc58_7 : i0 = (7 : Int32)
              · skip
                refine g_icN X d9_58 (teq hc58_7).2 (pc' := 61) rfl ?_
                refine g_ldc2 X (tb hw 12 rfl) d9_61 (pc' := 64) rfl ?_
                refine g_lreturn X d9_64 hret hlk (by decide) (by decide) ?_
                exact ⟨congrArg (fun z => some (Value.long z)) (Eq.symm (show fPow i0 = _ from (Eq.trans (if_neg hc2_1) (Eq.trans (if_neg hc11_2) (Eq.trans (if_neg hc20_3) (Eq.trans (if_neg hc29_4) (Eq.trans (if_neg hc38_5) (Eq.trans (if_neg hc48_6) (Eq.trans (if_pos hc58_7) rfl))))))))), rfl, rfl⟩
              · skip
                refine g_icY X d9_58 (feq hc58_7).2 (pc' := 65) (by decide) (by decide) ?_
                refine g_iloadN X d9_65 (pc' := 66) rfl rfl ?_
                refine g_bipush X (8 : Int32) d9_66 (pc' := 68) rfl rfl ?_
                by_cases hc68_8 : i0 = (8 : Int32)
                · skip
                  refine g_icN X d9_68 (teq hc68_8).2 (pc' := 71) rfl ?_
                  refine g_ldc2 X (tb hw 13 rfl) d9_71 (pc' := 74) rfl ?_
                  refine g_lreturn X d9_74 hret hlk (by decide) (by decide) ?_
                  exact ⟨congrArg (fun z => some (Value.long z)) (Eq.symm (show fPow i0 = _ from (Eq.trans (if_neg hc2_1) (Eq.trans (if_neg hc11_2) (Eq.trans (if_neg hc20_3) (Eq.trans (if_neg hc29_4) (Eq.trans (if_neg hc38_5) (Eq.trans (if_neg hc48_6) (Eq.trans (if_neg hc58_7) (Eq.trans (if_pos hc68_8) rfl)))))))))), rfl, rfl⟩
                · skip
                  refine g_icY X d9_68 (feq hc68_8).2 (pc' := 75) (by decide) (by decide) ?_
                  refine g_ldc2 X (tb hw 14 rfl) d9_75 (pc' := 78) rfl ?_
                  refine g_lreturn X d9_78 hret hlk (by decide) (by decide) ?_
                  exact ⟨congrArg (fun z => some (Value.long z)) (Eq.symm (show fPow i0 = _ from (Eq.trans (if_neg hc2_1) (Eq.trans (if_neg hc11_2) (Eq.trans (if_neg hc20_3) (Eq.trans (if_neg hc29_4) (Eq.trans (if_neg hc38_5) (Eq.trans (if_neg hc48_6) (Eq.trans (if_neg hc58_7) (Eq.trans (if_neg hc68_8) rfl)))))))))), rfl, rfl⟩
theorem d2_0 : decode method_5_code 0 = .ok (.iload_n 1, 1) := by decide +kernel
theorem d2_1 : decode method_5_code 1 = .ok (.iconst 1, 1) := by decide +kernel
theorem d2_2 : decode method_5_code 2 = .ok (.if_icmp .ne 20, 3) := by decide +kernel
theorem d2_5 : decode method_5_code 5 = .ok (.new 41, 3) := by decide +kernel
theorem d2_8 : decode method_5_code 8 = .ok (.dup, 1) := by decide +kernel
theorem d2_9 : decode method_5_code 9 = .ok (.iconst 1, 1) := by decide +kernel
theorem d2_10 : decode method_5_code 10 = .ok (.newarray .char, 2) := by decide +kernel
theorem d2_12 : decode method_5_code 12 = .ok (.dup, 1) := by decide +kernel
theorem d2_13 : decode method_5_code 13 = .ok (.iconst 0, 1) := by decide +kernel
theorem d2_14 : decode method_5_code 14 = .ok (.aload_n 0, 1) := by decide +kernel
theorem d2_15 : decode method_5_code 15 = .ok (.iconst 0, 1) := by decide +kernel
theorem d2_16 : decode method_5_code 16 = .ok (.caload, 1) := by decide +kernel
theorem d2_17 : decode method_5_code 17 = .ok (.castore, 1) := by decide +kernel
theorem d2_18 : decode method_5_code 18 = .ok (.invokespecial 52, 3) := by decide +kernel
theorem pd_0 : parseMethodDescriptor "([C)V" = some ⟨[(.array .char)], none⟩ := by decide +kernel
theorem d2_21 : decode method_5_code 21 = .ok (.areturn, 1) := by decide +kernel
theorem ef_rStr1 (m : MethodId) (x0 : Addr) (x1 : Int32) : entryFrame m #[(.ref x0), (.int x1)] 2 = mkF m 0 #[.val (.ref x0), .val (.int x1)] [] := by first | (simp [entryFrame, mkF, argsToLocals, Value.category]; done) | rfl
set_option maxRecDepth 65536 in
set_option maxHeartbeats 40000000 in
theorem rStr1 (l : Launch) (Z : State) (aa : Array Value) (hw : ∀ d ∈ tables_1, d.before aa Z = true) (ws : List Jvm.Cond) (w0 : Addr) (u0 : Int32) (u1 : Int32) (u2 : Int32) (u3 : Int32) (u4 : Int32) (u5 : Int32) (u6 : Int32) (u7 : Int32) (u8 : Int32) (u9 : Int32) (u10 : Int32) (u11 : Int32) (G1 : Int32) (h0 : Heap) (n0 : Nat) (Z0 : n0 ≤ h0.size) (V_w0 : Av Z h0 w0 .char [(.int u0), (.int u1), (.int u2), (.int u3), (.int u4), (.int u5), (.int u6), (.int u7), (.int u8), (.int u9), (.int u10), (.int u11)]) (hp : ∀ c ∈ ([(nar .char u0)] : List Int32), ¬ c < 0 ∧ ¬ (255 : Int32) < c) (O2 : Sta Z Z.heap "java/lang/String" "COMPACT_STRINGS" "Z" (.int G1)) (P5 : ¬ G1 = (0 : Int32)) (Od : Old Z n0 h0) :
    Rm l Z (⟨"com/example/grant/grant/WholeNumberParsePinLaw", "str", "([CI)Ljava/lang/String;"⟩ : MethodName) method_5_code 2 (some (.object "java/lang/String")) ws ({ frames := 4, cells := 3, slots := 6, locals := 66 } : Room) #[(.ref w0), (.int (1 : Int32))] h0 (fun v h L => ∃ x, v = some (.ref x) ∧ Fr n0 L ∧ Keep h0 h [] ∧ StrIs Z h x ([(nar .char u0)] : List Int32)) := by
  refine Rm.of (plainFor_of_name pn_0) ?_
  intro p e s m below meth cc T X hnm hret hlk
  refine Go.at_ (ef_rStr1 m w0 (1 : Int32)) ?_
  have N := Fr.nil n0
  have Kp := Keep.refl h0 []
  refine g_iloadN X d2_0 (pc' := 1) rfl rfl ?_
  refine g_iconst X (1 : Int32) d2_1 (pc' := 2) rfl rfl ?_
  refine g_icN X d2_2 (teq (show (1 : Int32) = (1 : Int32) from (by decide))).2 (pc' := 5) rfl ?_
  refine g_new X (tb hw 18 rfl) (tb hw 19 rfl) (tb hw 20 rfl) d2_5 (pc' := 8) rfl (by decide) (by decide) ?_
  intro T h b5_1 s_b5_1 X Ex E_b5_1 D_b5_1
  have ne_w0_b5_1 : w0 ≠ b5_1 := Nat.ne_of_lt (by rw [s_b5_1]; exact V_w0.lt)
  have g_b5_1 : n0 ≤ b5_1 := by rw [s_b5_1]; exact Z0
  have sz_b5_1 : h0.size ≤ b5_1 := by rw [s_b5_1]; exact Kp.1
  replace V_w0 := V_w0.ext Ex
  replace Z0 := Nat.le_trans Z0 Ex.1
  replace Kp := Kp.ext Ex
  replace Od := Od.ext Ex
  have F_b5_1_coder : Fld Z h b5_1 "java/lang/String" "coder" "B" (.int (0 : Int32)) := D_b5_1 (Or.inr (tb hw 44 rfl)) (ty := .byte) (by decide)
  have F_b5_1_value : Fld Z h b5_1 "java/lang/String" "value" "[B" .null := D_b5_1 (Or.inr (tb hw 46 rfl)) (ty := (.array .byte)) (by decide)
  refine g_dup X d2_8 (pc' := 9) rfl rfl ?_
  refine g_iconst X (1 : Int32) d2_9 (pc' := 10) rfl rfl ?_
  refine g_newarray X 1 (tb hw 1 rfl) d2_10 (pc' := 12) rfl (by decide) (by decide) 1 (by decide) (by decide) (by decide) (by decide) (vs := [(.int (0 : Int32))]) rfl (ad := "[C") (by decide) ?_
  intro T h b10_2 s_b10_2 X Ex E_b10_2 V_b10_2
  have ne_w0_b10_2 : w0 ≠ b10_2 := Nat.ne_of_lt (by rw [s_b10_2]; exact V_w0.lt)
  have ne_b5_1_b10_2 : b5_1 ≠ b10_2 := Nat.ne_of_lt (by rw [s_b10_2]; exact E_b5_1.lt)
  have g_b10_2 : n0 ≤ b10_2 := by rw [s_b10_2]; exact Z0
  have sz_b10_2 : h0.size ≤ b10_2 := by rw [s_b10_2]; exact Kp.1
  replace V_w0 := V_w0.ext Ex
  replace E_b5_1 := E_b5_1.ext Ex
  replace F_b5_1_coder := F_b5_1_coder.ext Ex
  replace F_b5_1_value := F_b5_1_value.ext Ex
  replace Z0 := Nat.le_trans Z0 Ex.1
  replace Kp := Kp.ext Ex
  replace Od := Od.ext Ex
  refine g_dup X d2_12 (pc' := 13) rfl rfl ?_
  refine g_iconst X (0 : Int32) d2_13 (pc' := 14) rfl rfl ?_
  refine g_aloadN X d2_14 (pc' := 15) rfl rfl rfl ?_
  refine g_iconst X (0 : Int32) d2_15 (pc' := 16) rfl rfl ?_
  refine g_caload X V_w0 0 d2_16 (pc' := 17) rfl (by decide) (by decide) rfl ?_
  refine g_castore X V_b10_2 0 d2_17 (pc' := 18) rfl (by decide) (by decide) (Nat.le_of_ble_eq_true rfl) ?_
  intro T h X W V_b10_2
  replace V_b10_2 : Av Z h b10_2 .char [(.int (nar .char u0))] := V_b10_2
  replace V_w0 := V_w0.other W ne_w0_b10_2
  replace E_b5_1 := E_b5_1.wr W
  replace F_b5_1_coder := F_b5_1_coder.other W (Or.inl ne_b5_1_b10_2)
  replace F_b5_1_value := F_b5_1_value.other W (Or.inl ne_b5_1_b10_2)
  replace E_b10_2 := E_b10_2.wr W
  replace Z0 := Nat.le_trans Z0 (Nat.le_of_eq W.size.symm)
  replace N := Fr.snoc X.1 N g_b10_2
  replace Kp := Kp.wr W (Or.inr sz_b10_2)
  replace Od := Od.wr W g_b10_2
  refine g_specialB X (W := 1) (a := b5_1) [(.ref b10_2)] [(.ref b5_1)] rfl (tb hw 21 rfl) (tb hw 22 rfl) (tb hw 23 rfl) (Q := NewQ Z b5_1 ([(nar .char u0)] : List Int32) _ n0) (kc := 1) (ks := 1) (back_new (W := 1) (cs := ([(nar .char u0)] : List Int32)) X.2.2.2.2.2.1 hw g_b5_1 Z0 E_b5_1 F_b5_1_value F_b5_1_coder V_b10_2 rfl (fitS (fits_nar_char _) fit0) (O2.ext Od.2) P5 rfl (by decide) (by decide) hp (by decide) (by decide)) d2_18 (pc' := 21) rfl (by decide) rfl rfl rfl (lenOf pd_0 rfl) (Nat.le_refl _) (by decide) (by decide) ?_
  intro v T L X q
  obtain ⟨rfl, Nq, Kq, St_b5_1⟩ := q
  replace N := N.app Nq
  replace V_w0 := V_w0.keep Kq (ninS ne_w0_b5_1 nin0)
  replace E_b10_2 := E_b10_2.keep Kq
  replace V_b10_2 := V_b10_2.keep Kq (ninS (Ne.symm ne_b5_1_b10_2) nin0)
  replace Od := Od.keep Kq (allS g_b5_1 all0)
  replace Z0 := Nat.le_trans Z0 Kq.1
  replace Kp := Kp.trans Kq (allS (Or.inr sz_b5_1) all0)
  have E_b5_1 := St_b5_1.1
  show Go p e below _ (T.setTop (mkF m 21 #[.val (.ref w0), .val (.int (1 : Int32))] [(.ref b5_1)]))
  refine g_areturn X rfl rfl d2_21 hret hlk (by decide) (by decide) ?_
  exact ⟨b5_1, rfl, N, Kp, St_b5_1⟩
theorem d2_22 : decode method_5_code 22 = .ok (.iload_n 1, 1) := by decide +kernel
theorem d2_23 : decode method_5_code 23 = .ok (.iconst 2, 1) := by decide +kernel
theorem d2_24 : decode method_5_code 24 = .ok (.if_icmp .ne 26, 3) := by decide +kernel
theorem d2_27 : decode method_5_code 27 = .ok (.new 41, 3) := by decide +kernel
theorem d2_30 : decode method_5_code 30 = .ok (.dup, 1) := by decide +kernel
theorem d2_31 : decode method_5_code 31 = .ok (.iconst 2, 1) := by decide +kernel
theorem d2_32 : decode method_5_code 32 = .ok (.newarray .char, 2) := by decide +kernel
theorem d2_34 : decode method_5_code 34 = .ok (.dup, 1) := by decide +kernel
theorem d2_35 : decode method_5_code 35 = .ok (.iconst 0, 1) := by decide +kernel
theorem d2_36 : decode method_5_code 36 = .ok (.aload_n 0, 1) := by decide +kernel
theorem d2_37 : decode method_5_code 37 = .ok (.iconst 1, 1) := by decide +kernel
theorem d2_38 : decode method_5_code 38 = .ok (.caload, 1) := by decide +kernel
theorem d2_39 : decode method_5_code 39 = .ok (.castore, 1) := by decide +kernel
theorem d2_40 : decode method_5_code 40 = .ok (.dup, 1) := by decide +kernel
theorem d2_41 : decode method_5_code 41 = .ok (.iconst 1, 1) := by decide +kernel
theorem d2_42 : decode method_5_code 42 = .ok (.aload_n 0, 1) := by decide +kernel
theorem d2_43 : decode method_5_code 43 = .ok (.iconst 0, 1) := by decide +kernel
theorem d2_44 : decode method_5_code 44 = .ok (.caload, 1) := by decide +kernel
theorem d2_45 : decode method_5_code 45 = .ok (.castore, 1) := by decide +kernel
theorem d2_46 : decode method_5_code 46 = .ok (.invokespecial 52, 3) := by decide +kernel
theorem d2_49 : decode method_5_code 49 = .ok (.areturn, 1) := by decide +kernel
theorem ef_rStr2 (m : MethodId) (x0 : Addr) (x1 : Int32) : entryFrame m #[(.ref x0), (.int x1)] 2 = mkF m 0 #[.val (.ref x0), .val (.int x1)] [] := by first | (simp [entryFrame, mkF, argsToLocals, Value.category]; done) | rfl
set_option maxRecDepth 65536 in
set_option maxHeartbeats 40000000 in
theorem rStr2 (l : Launch) (Z : State) (aa : Array Value) (hw : ∀ d ∈ tables_1, d.before aa Z = true) (ws : List Jvm.Cond) (w0 : Addr) (u0 : Int32) (u1 : Int32) (u2 : Int32) (u3 : Int32) (u4 : Int32) (u5 : Int32) (u6 : Int32) (u7 : Int32) (u8 : Int32) (u9 : Int32) (u10 : Int32) (u11 : Int32) (G1 : Int32) (h0 : Heap) (n0 : Nat) (Z0 : n0 ≤ h0.size) (V_w0 : Av Z h0 w0 .char [(.int u0), (.int u1), (.int u2), (.int u3), (.int u4), (.int u5), (.int u6), (.int u7), (.int u8), (.int u9), (.int u10), (.int u11)]) (hp : ∀ c ∈ ([(nar .char u1), (nar .char u0)] : List Int32), ¬ c < 0 ∧ ¬ (255 : Int32) < c) (O2 : Sta Z Z.heap "java/lang/String" "COMPACT_STRINGS" "Z" (.int G1)) (P5 : ¬ G1 = (0 : Int32)) (Od : Old Z n0 h0) :
    Rm l Z (⟨"com/example/grant/grant/WholeNumberParsePinLaw", "str", "([CI)Ljava/lang/String;"⟩ : MethodName) method_5_code 2 (some (.object "java/lang/String")) ws ({ frames := 4, cells := 3, slots := 8, locals := 66 } : Room) #[(.ref w0), (.int (2 : Int32))] h0 (fun v h L => ∃ x, v = some (.ref x) ∧ Fr n0 L ∧ Keep h0 h [] ∧ StrIs Z h x ([(nar .char u1), (nar .char u0)] : List Int32)) := by
  refine Rm.of (plainFor_of_name pn_0) ?_
  intro p e s m below meth cc T X hnm hret hlk
  refine Go.at_ (ef_rStr2 m w0 (2 : Int32)) ?_
  have N := Fr.nil n0
  have Kp := Keep.refl h0 []
  refine g_iloadN X d2_0 (pc' := 1) rfl rfl ?_
  refine g_iconst X (1 : Int32) d2_1 (pc' := 2) rfl rfl ?_
  refine g_icY X d2_2 (feq (show ¬ ((2 : Int32) = (1 : Int32)) from (by decide))).2 (pc' := 22) (by decide) (by decide) ?_
  refine g_iloadN X d2_22 (pc' := 23) rfl rfl ?_
  refine g_iconst X (2 : Int32) d2_23 (pc' := 24) rfl rfl ?_
  refine g_icN X d2_24 (teq (show (2 : Int32) = (2 : Int32) from (by decide))).2 (pc' := 27) rfl ?_
  refine g_new X (tb hw 18 rfl) (tb hw 19 rfl) (tb hw 20 rfl) d2_27 (pc' := 30) rfl (by decide) (by decide) ?_
  intro T h b27_1 s_b27_1 X Ex E_b27_1 D_b27_1
  have ne_w0_b27_1 : w0 ≠ b27_1 := Nat.ne_of_lt (by rw [s_b27_1]; exact V_w0.lt)
  have g_b27_1 : n0 ≤ b27_1 := by rw [s_b27_1]; exact Z0
  have sz_b27_1 : h0.size ≤ b27_1 := by rw [s_b27_1]; exact Kp.1
  replace V_w0 := V_w0.ext Ex
  replace Z0 := Nat.le_trans Z0 Ex.1
  replace Kp := Kp.ext Ex
  replace Od := Od.ext Ex
  have F_b27_1_coder : Fld Z h b27_1 "java/lang/String" "coder" "B" (.int (0 : Int32)) := D_b27_1 (Or.inr (tb hw 44 rfl)) (ty := .byte) (by decide)
  have F_b27_1_value : Fld Z h b27_1 "java/lang/String" "value" "[B" .null := D_b27_1 (Or.inr (tb hw 46 rfl)) (ty := (.array .byte)) (by decide)
  refine g_dup X d2_30 (pc' := 31) rfl rfl ?_
  refine g_iconst X (2 : Int32) d2_31 (pc' := 32) rfl rfl ?_
  refine g_newarray X 2 (tb hw 1 rfl) d2_32 (pc' := 34) rfl (by decide) (by decide) 2 (by decide) (by decide) (by decide) (by decide) (vs := [(.int (0 : Int32)), (.int (0 : Int32))]) rfl (ad := "[C") (by decide) ?_
  intro T h b32_2 s_b32_2 X Ex E_b32_2 V_b32_2
  have ne_w0_b32_2 : w0 ≠ b32_2 := Nat.ne_of_lt (by rw [s_b32_2]; exact V_w0.lt)
  have ne_b27_1_b32_2 : b27_1 ≠ b32_2 := Nat.ne_of_lt (by rw [s_b32_2]; exact E_b27_1.lt)
  have g_b32_2 : n0 ≤ b32_2 := by rw [s_b32_2]; exact Z0
  have sz_b32_2 : h0.size ≤ b32_2 := by rw [s_b32_2]; exact Kp.1
  replace V_w0 := V_w0.ext Ex
  replace E_b27_1 := E_b27_1.ext Ex
  replace F_b27_1_coder := F_b27_1_coder.ext Ex
  replace F_b27_1_value := F_b27_1_value.ext Ex
  replace Z0 := Nat.le_trans Z0 Ex.1
  replace Kp := Kp.ext Ex
  replace Od := Od.ext Ex
  refine g_dup X d2_34 (pc' := 35) rfl rfl ?_
  refine g_iconst X (0 : Int32) d2_35 (pc' := 36) rfl rfl ?_
  refine g_aloadN X d2_36 (pc' := 37) rfl rfl rfl ?_
  refine g_iconst X (1 : Int32) d2_37 (pc' := 38) rfl rfl ?_
  refine g_caload X V_w0 1 d2_38 (pc' := 39) rfl (by decide) (by decide) rfl ?_
  refine g_castore X V_b32_2 0 d2_39 (pc' := 40) rfl (by decide) (by decide) (Nat.le_of_ble_eq_true rfl) ?_
  intro T h X W V_b32_2
  replace V_b32_2 : Av Z h b32_2 .char [(.int (nar .char u1)), (.int (0 : Int32))] := V_b32_2
  replace V_w0 := V_w0.other W ne_w0_b32_2
  replace E_b27_1 := E_b27_1.wr W
  replace F_b27_1_coder := F_b27_1_coder.other W (Or.inl ne_b27_1_b32_2)
  replace F_b27_1_value := F_b27_1_value.other W (Or.inl ne_b27_1_b32_2)
  replace E_b32_2 := E_b32_2.wr W
  replace Z0 := Nat.le_trans Z0 (Nat.le_of_eq W.size.symm)
  replace N := Fr.snoc X.1 N g_b32_2
  replace Kp := Kp.wr W (Or.inr sz_b32_2)
  replace Od := Od.wr W g_b32_2
  refine g_dup X d2_40 (pc' := 41) rfl rfl ?_
  refine g_iconst X (1 : Int32) d2_41 (pc' := 42) rfl rfl ?_
  refine g_aloadN X d2_42 (pc' := 43) rfl rfl rfl ?_
  refine g_iconst X (0 : Int32) d2_43 (pc' := 44) rfl rfl ?_
  refine g_caload X V_w0 0 d2_44 (pc' := 45) rfl (by decide) (by decide) rfl ?_
  refine g_castore X V_b32_2 1 d2_45 (pc' := 46) rfl (by decide) (by decide) (Nat.le_of_ble_eq_true rfl) ?_
  intro T h X W V_b32_2
  replace V_b32_2 : Av Z h b32_2 .char [(.int (nar .char u1)), (.int (nar .char u0))] := V_b32_2
  replace V_w0 := V_w0.other W ne_w0_b32_2
  replace E_b27_1 := E_b27_1.wr W
  replace F_b27_1_coder := F_b27_1_coder.other W (Or.inl ne_b27_1_b32_2)
  replace F_b27_1_value := F_b27_1_value.other W (Or.inl ne_b27_1_b32_2)
  replace E_b32_2 := E_b32_2.wr W
  replace Z0 := Nat.le_trans Z0 (Nat.le_of_eq W.size.symm)
  replace N := Fr.snoc X.1 N g_b32_2
  replace Kp := Kp.wr W (Or.inr sz_b32_2)
  replace Od := Od.wr W g_b32_2
  refine g_specialB X (W := 1) (a := b27_1) [(.ref b32_2)] [(.ref b27_1)] rfl (tb hw 21 rfl) (tb hw 22 rfl) (tb hw 23 rfl) (Q := NewQ Z b27_1 ([(nar .char u1), (nar .char u0)] : List Int32) _ n0) (kc := 1) (ks := 2) (back_new (W := 1) (cs := ([(nar .char u1), (nar .char u0)] : List Int32)) X.2.2.2.2.2.1 hw g_b27_1 Z0 E_b27_1 F_b27_1_value F_b27_1_coder V_b32_2 rfl (fitS (fits_nar_char _) (fitS (fits_nar_char _) fit0)) (O2.ext Od.2) P5 rfl (by decide) (by decide) hp (by decide) (by decide)) d2_46 (pc' := 49) rfl (by decide) rfl rfl rfl (lenOf pd_0 rfl) (Nat.le_refl _) (by decide) (by decide) ?_
  intro v T L X q
  obtain ⟨rfl, Nq, Kq, St_b27_1⟩ := q
  replace N := N.app Nq
  replace V_w0 := V_w0.keep Kq (ninS ne_w0_b27_1 nin0)
  replace E_b32_2 := E_b32_2.keep Kq
  replace V_b32_2 := V_b32_2.keep Kq (ninS (Ne.symm ne_b27_1_b32_2) nin0)
  replace Od := Od.keep Kq (allS g_b27_1 all0)
  replace Z0 := Nat.le_trans Z0 Kq.1
  replace Kp := Kp.trans Kq (allS (Or.inr sz_b27_1) all0)
  have E_b27_1 := St_b27_1.1
  show Go p e below _ (T.setTop (mkF m 49 #[.val (.ref w0), .val (.int (2 : Int32))] [(.ref b27_1)]))
  refine g_areturn X rfl rfl d2_49 hret hlk (by decide) (by decide) ?_
  exact ⟨b27_1, rfl, N, Kp, St_b27_1⟩
theorem d2_50 : decode method_5_code 50 = .ok (.iload_n 1, 1) := by decide +kernel
theorem d2_51 : decode method_5_code 51 = .ok (.iconst 3, 1) := by decide +kernel
theorem d2_52 : decode method_5_code 52 = .ok (.if_icmp .ne 32, 3) := by decide +kernel
theorem d2_55 : decode method_5_code 55 = .ok (.new 41, 3) := by decide +kernel
theorem d2_58 : decode method_5_code 58 = .ok (.dup, 1) := by decide +kernel
theorem d2_59 : decode method_5_code 59 = .ok (.iconst 3, 1) := by decide +kernel
theorem d2_60 : decode method_5_code 60 = .ok (.newarray .char, 2) := by decide +kernel
theorem d2_62 : decode method_5_code 62 = .ok (.dup, 1) := by decide +kernel
theorem d2_63 : decode method_5_code 63 = .ok (.iconst 0, 1) := by decide +kernel
theorem d2_64 : decode method_5_code 64 = .ok (.aload_n 0, 1) := by decide +kernel
theorem d2_65 : decode method_5_code 65 = .ok (.iconst 2, 1) := by decide +kernel
theorem d2_66 : decode method_5_code 66 = .ok (.caload, 1) := by decide +kernel
theorem d2_67 : decode method_5_code 67 = .ok (.castore, 1) := by decide +kernel
theorem d2_68 : decode method_5_code 68 = .ok (.dup, 1) := by decide +kernel
theorem d2_69 : decode method_5_code 69 = .ok (.iconst 1, 1) := by decide +kernel
theorem d2_70 : decode method_5_code 70 = .ok (.aload_n 0, 1) := by decide +kernel
theorem d2_71 : decode method_5_code 71 = .ok (.iconst 1, 1) := by decide +kernel
theorem d2_72 : decode method_5_code 72 = .ok (.caload, 1) := by decide +kernel
theorem d2_73 : decode method_5_code 73 = .ok (.castore, 1) := by decide +kernel
theorem d2_74 : decode method_5_code 74 = .ok (.dup, 1) := by decide +kernel
theorem d2_75 : decode method_5_code 75 = .ok (.iconst 2, 1) := by decide +kernel
theorem d2_76 : decode method_5_code 76 = .ok (.aload_n 0, 1) := by decide +kernel
theorem d2_77 : decode method_5_code 77 = .ok (.iconst 0, 1) := by decide +kernel
theorem d2_78 : decode method_5_code 78 = .ok (.caload, 1) := by decide +kernel
theorem d2_79 : decode method_5_code 79 = .ok (.castore, 1) := by decide +kernel
theorem d2_80 : decode method_5_code 80 = .ok (.invokespecial 52, 3) := by decide +kernel
theorem d2_83 : decode method_5_code 83 = .ok (.areturn, 1) := by decide +kernel
theorem ef_rStr3 (m : MethodId) (x0 : Addr) (x1 : Int32) : entryFrame m #[(.ref x0), (.int x1)] 2 = mkF m 0 #[.val (.ref x0), .val (.int x1)] [] := by first | (simp [entryFrame, mkF, argsToLocals, Value.category]; done) | rfl
set_option maxRecDepth 65536 in
set_option maxHeartbeats 40000000 in
theorem rStr3 (l : Launch) (Z : State) (aa : Array Value) (hw : ∀ d ∈ tables_1, d.before aa Z = true) (ws : List Jvm.Cond) (w0 : Addr) (u0 : Int32) (u1 : Int32) (u2 : Int32) (u3 : Int32) (u4 : Int32) (u5 : Int32) (u6 : Int32) (u7 : Int32) (u8 : Int32) (u9 : Int32) (u10 : Int32) (u11 : Int32) (G1 : Int32) (h0 : Heap) (n0 : Nat) (Z0 : n0 ≤ h0.size) (V_w0 : Av Z h0 w0 .char [(.int u0), (.int u1), (.int u2), (.int u3), (.int u4), (.int u5), (.int u6), (.int u7), (.int u8), (.int u9), (.int u10), (.int u11)]) (hp : ∀ c ∈ ([(nar .char u2), (nar .char u1), (nar .char u0)] : List Int32), ¬ c < 0 ∧ ¬ (255 : Int32) < c) (O2 : Sta Z Z.heap "java/lang/String" "COMPACT_STRINGS" "Z" (.int G1)) (P5 : ¬ G1 = (0 : Int32)) (Od : Old Z n0 h0) :
    Rm l Z (⟨"com/example/grant/grant/WholeNumberParsePinLaw", "str", "([CI)Ljava/lang/String;"⟩ : MethodName) method_5_code 2 (some (.object "java/lang/String")) ws ({ frames := 4, cells := 3, slots := 10, locals := 66 } : Room) #[(.ref w0), (.int (3 : Int32))] h0 (fun v h L => ∃ x, v = some (.ref x) ∧ Fr n0 L ∧ Keep h0 h [] ∧ StrIs Z h x ([(nar .char u2), (nar .char u1), (nar .char u0)] : List Int32)) := by
  refine Rm.of (plainFor_of_name pn_0) ?_
  intro p e s m below meth cc T X hnm hret hlk
  refine Go.at_ (ef_rStr3 m w0 (3 : Int32)) ?_
  have N := Fr.nil n0
  have Kp := Keep.refl h0 []
  refine g_iloadN X d2_0 (pc' := 1) rfl rfl ?_
  refine g_iconst X (1 : Int32) d2_1 (pc' := 2) rfl rfl ?_
  refine g_icY X d2_2 (feq (show ¬ ((3 : Int32) = (1 : Int32)) from (by decide))).2 (pc' := 22) (by decide) (by decide) ?_
  refine g_iloadN X d2_22 (pc' := 23) rfl rfl ?_
  refine g_iconst X (2 : Int32) d2_23 (pc' := 24) rfl rfl ?_
  refine g_icY X d2_24 (feq (show ¬ ((3 : Int32) = (2 : Int32)) from (by decide))).2 (pc' := 50) (by decide) (by decide) ?_
  refine g_iloadN X d2_50 (pc' := 51) rfl rfl ?_
  refine g_iconst X (3 : Int32) d2_51 (pc' := 52) rfl rfl ?_
  refine g_icN X d2_52 (teq (show (3 : Int32) = (3 : Int32) from (by decide))).2 (pc' := 55) rfl ?_
  refine g_new X (tb hw 18 rfl) (tb hw 19 rfl) (tb hw 20 rfl) d2_55 (pc' := 58) rfl (by decide) (by decide) ?_
  intro T h b55_1 s_b55_1 X Ex E_b55_1 D_b55_1
  have ne_w0_b55_1 : w0 ≠ b55_1 := Nat.ne_of_lt (by rw [s_b55_1]; exact V_w0.lt)
  have g_b55_1 : n0 ≤ b55_1 := by rw [s_b55_1]; exact Z0
  have sz_b55_1 : h0.size ≤ b55_1 := by rw [s_b55_1]; exact Kp.1
  replace V_w0 := V_w0.ext Ex
  replace Z0 := Nat.le_trans Z0 Ex.1
  replace Kp := Kp.ext Ex
  replace Od := Od.ext Ex
  have F_b55_1_coder : Fld Z h b55_1 "java/lang/String" "coder" "B" (.int (0 : Int32)) := D_b55_1 (Or.inr (tb hw 44 rfl)) (ty := .byte) (by decide)
  have F_b55_1_value : Fld Z h b55_1 "java/lang/String" "value" "[B" .null := D_b55_1 (Or.inr (tb hw 46 rfl)) (ty := (.array .byte)) (by decide)
  refine g_dup X d2_58 (pc' := 59) rfl rfl ?_
  refine g_iconst X (3 : Int32) d2_59 (pc' := 60) rfl rfl ?_
  refine g_newarray X 3 (tb hw 1 rfl) d2_60 (pc' := 62) rfl (by decide) (by decide) 3 (by decide) (by decide) (by decide) (by decide) (vs := [(.int (0 : Int32)), (.int (0 : Int32)), (.int (0 : Int32))]) rfl (ad := "[C") (by decide) ?_
  intro T h b60_2 s_b60_2 X Ex E_b60_2 V_b60_2
  have ne_w0_b60_2 : w0 ≠ b60_2 := Nat.ne_of_lt (by rw [s_b60_2]; exact V_w0.lt)
  have ne_b55_1_b60_2 : b55_1 ≠ b60_2 := Nat.ne_of_lt (by rw [s_b60_2]; exact E_b55_1.lt)
  have g_b60_2 : n0 ≤ b60_2 := by rw [s_b60_2]; exact Z0
  have sz_b60_2 : h0.size ≤ b60_2 := by rw [s_b60_2]; exact Kp.1
  replace V_w0 := V_w0.ext Ex
  replace E_b55_1 := E_b55_1.ext Ex
  replace F_b55_1_coder := F_b55_1_coder.ext Ex
  replace F_b55_1_value := F_b55_1_value.ext Ex
  replace Z0 := Nat.le_trans Z0 Ex.1
  replace Kp := Kp.ext Ex
  replace Od := Od.ext Ex
  refine g_dup X d2_62 (pc' := 63) rfl rfl ?_
  refine g_iconst X (0 : Int32) d2_63 (pc' := 64) rfl rfl ?_
  refine g_aloadN X d2_64 (pc' := 65) rfl rfl rfl ?_
  refine g_iconst X (2 : Int32) d2_65 (pc' := 66) rfl rfl ?_
  refine g_caload X V_w0 2 d2_66 (pc' := 67) rfl (by decide) (by decide) rfl ?_
  refine g_castore X V_b60_2 0 d2_67 (pc' := 68) rfl (by decide) (by decide) (Nat.le_of_ble_eq_true rfl) ?_
  intro T h X W V_b60_2
  replace V_b60_2 : Av Z h b60_2 .char [(.int (nar .char u2)), (.int (0 : Int32)), (.int (0 : Int32))] := V_b60_2
  replace V_w0 := V_w0.other W ne_w0_b60_2
  replace E_b55_1 := E_b55_1.wr W
  replace F_b55_1_coder := F_b55_1_coder.other W (Or.inl ne_b55_1_b60_2)
  replace F_b55_1_value := F_b55_1_value.other W (Or.inl ne_b55_1_b60_2)
  replace E_b60_2 := E_b60_2.wr W
  replace Z0 := Nat.le_trans Z0 (Nat.le_of_eq W.size.symm)
  replace N := Fr.snoc X.1 N g_b60_2
  replace Kp := Kp.wr W (Or.inr sz_b60_2)
  replace Od := Od.wr W g_b60_2
  refine g_dup X d2_68 (pc' := 69) rfl rfl ?_
  refine g_iconst X (1 : Int32) d2_69 (pc' := 70) rfl rfl ?_
  refine g_aloadN X d2_70 (pc' := 71) rfl rfl rfl ?_
  refine g_iconst X (1 : Int32) d2_71 (pc' := 72) rfl rfl ?_
  refine g_caload X V_w0 1 d2_72 (pc' := 73) rfl (by decide) (by decide) rfl ?_
  refine g_castore X V_b60_2 1 d2_73 (pc' := 74) rfl (by decide) (by decide) (Nat.le_of_ble_eq_true rfl) ?_
  intro T h X W V_b60_2
  replace V_b60_2 : Av Z h b60_2 .char [(.int (nar .char u2)), (.int (nar .char u1)), (.int (0 : Int32))] := V_b60_2
  replace V_w0 := V_w0.other W ne_w0_b60_2
  replace E_b55_1 := E_b55_1.wr W
  replace F_b55_1_coder := F_b55_1_coder.other W (Or.inl ne_b55_1_b60_2)
  replace F_b55_1_value := F_b55_1_value.other W (Or.inl ne_b55_1_b60_2)
  replace E_b60_2 := E_b60_2.wr W
  replace Z0 := Nat.le_trans Z0 (Nat.le_of_eq W.size.symm)
  replace N := Fr.snoc X.1 N g_b60_2
  replace Kp := Kp.wr W (Or.inr sz_b60_2)
  replace Od := Od.wr W g_b60_2
  refine g_dup X d2_74 (pc' := 75) rfl rfl ?_
  refine g_iconst X (2 : Int32) d2_75 (pc' := 76) rfl rfl ?_
  refine g_aloadN X d2_76 (pc' := 77) rfl rfl rfl ?_
  refine g_iconst X (0 : Int32) d2_77 (pc' := 78) rfl rfl ?_
  refine g_caload X V_w0 0 d2_78 (pc' := 79) rfl (by decide) (by decide) rfl ?_
  refine g_castore X V_b60_2 2 d2_79 (pc' := 80) rfl (by decide) (by decide) (Nat.le_of_ble_eq_true rfl) ?_
  intro T h X W V_b60_2
  replace V_b60_2 : Av Z h b60_2 .char [(.int (nar .char u2)), (.int (nar .char u1)), (.int (nar .char u0))] := V_b60_2
  replace V_w0 := V_w0.other W ne_w0_b60_2
  replace E_b55_1 := E_b55_1.wr W
  replace F_b55_1_coder := F_b55_1_coder.other W (Or.inl ne_b55_1_b60_2)
  replace F_b55_1_value := F_b55_1_value.other W (Or.inl ne_b55_1_b60_2)
  replace E_b60_2 := E_b60_2.wr W
  replace Z0 := Nat.le_trans Z0 (Nat.le_of_eq W.size.symm)
  replace N := Fr.snoc X.1 N g_b60_2
  replace Kp := Kp.wr W (Or.inr sz_b60_2)
  replace Od := Od.wr W g_b60_2
  refine g_specialB X (W := 1) (a := b55_1) [(.ref b60_2)] [(.ref b55_1)] rfl (tb hw 21 rfl) (tb hw 22 rfl) (tb hw 23 rfl) (Q := NewQ Z b55_1 ([(nar .char u2), (nar .char u1), (nar .char u0)] : List Int32) _ n0) (kc := 1) (ks := 3) (back_new (W := 1) (cs := ([(nar .char u2), (nar .char u1), (nar .char u0)] : List Int32)) X.2.2.2.2.2.1 hw g_b55_1 Z0 E_b55_1 F_b55_1_value F_b55_1_coder V_b60_2 rfl (fitS (fits_nar_char _) (fitS (fits_nar_char _) (fitS (fits_nar_char _) fit0))) (O2.ext Od.2) P5 rfl (by decide) (by decide) hp (by decide) (by decide)) d2_80 (pc' := 83) rfl (by decide) rfl rfl rfl (lenOf pd_0 rfl) (Nat.le_refl _) (by decide) (by decide) ?_
  intro v T L X q
  obtain ⟨rfl, Nq, Kq, St_b55_1⟩ := q
  replace N := N.app Nq
  replace V_w0 := V_w0.keep Kq (ninS ne_w0_b55_1 nin0)
  replace E_b60_2 := E_b60_2.keep Kq
  replace V_b60_2 := V_b60_2.keep Kq (ninS (Ne.symm ne_b55_1_b60_2) nin0)
  replace Od := Od.keep Kq (allS g_b55_1 all0)
  replace Z0 := Nat.le_trans Z0 Kq.1
  replace Kp := Kp.trans Kq (allS (Or.inr sz_b55_1) all0)
  have E_b55_1 := St_b55_1.1
  show Go p e below _ (T.setTop (mkF m 83 #[.val (.ref w0), .val (.int (3 : Int32))] [(.ref b55_1)]))
  refine g_areturn X rfl rfl d2_83 hret hlk (by decide) (by decide) ?_
  exact ⟨b55_1, rfl, N, Kp, St_b55_1⟩
theorem d2_84 : decode method_5_code 84 = .ok (.iload_n 1, 1) := by decide +kernel
theorem d2_85 : decode method_5_code 85 = .ok (.iconst 4, 1) := by decide +kernel
theorem d2_86 : decode method_5_code 86 = .ok (.if_icmp .ne 38, 3) := by decide +kernel
theorem d2_89 : decode method_5_code 89 = .ok (.new 41, 3) := by decide +kernel
theorem d2_92 : decode method_5_code 92 = .ok (.dup, 1) := by decide +kernel
theorem d2_93 : decode method_5_code 93 = .ok (.iconst 4, 1) := by decide +kernel
theorem d2_94 : decode method_5_code 94 = .ok (.newarray .char, 2) := by decide +kernel
theorem d2_96 : decode method_5_code 96 = .ok (.dup, 1) := by decide +kernel
theorem d2_97 : decode method_5_code 97 = .ok (.iconst 0, 1) := by decide +kernel
theorem d2_98 : decode method_5_code 98 = .ok (.aload_n 0, 1) := by decide +kernel
theorem d2_99 : decode method_5_code 99 = .ok (.iconst 3, 1) := by decide +kernel
theorem d2_100 : decode method_5_code 100 = .ok (.caload, 1) := by decide +kernel
theorem d2_101 : decode method_5_code 101 = .ok (.castore, 1) := by decide +kernel
theorem d2_102 : decode method_5_code 102 = .ok (.dup, 1) := by decide +kernel
theorem d2_103 : decode method_5_code 103 = .ok (.iconst 1, 1) := by decide +kernel
theorem d2_104 : decode method_5_code 104 = .ok (.aload_n 0, 1) := by decide +kernel
theorem d2_105 : decode method_5_code 105 = .ok (.iconst 2, 1) := by decide +kernel
theorem d2_106 : decode method_5_code 106 = .ok (.caload, 1) := by decide +kernel
theorem d2_107 : decode method_5_code 107 = .ok (.castore, 1) := by decide +kernel
theorem d2_108 : decode method_5_code 108 = .ok (.dup, 1) := by decide +kernel
theorem d2_109 : decode method_5_code 109 = .ok (.iconst 2, 1) := by decide +kernel
theorem d2_110 : decode method_5_code 110 = .ok (.aload_n 0, 1) := by decide +kernel
theorem d2_111 : decode method_5_code 111 = .ok (.iconst 1, 1) := by decide +kernel
theorem d2_112 : decode method_5_code 112 = .ok (.caload, 1) := by decide +kernel
theorem d2_113 : decode method_5_code 113 = .ok (.castore, 1) := by decide +kernel
theorem d2_114 : decode method_5_code 114 = .ok (.dup, 1) := by decide +kernel
theorem d2_115 : decode method_5_code 115 = .ok (.iconst 3, 1) := by decide +kernel
theorem d2_116 : decode method_5_code 116 = .ok (.aload_n 0, 1) := by decide +kernel
theorem d2_117 : decode method_5_code 117 = .ok (.iconst 0, 1) := by decide +kernel
theorem d2_118 : decode method_5_code 118 = .ok (.caload, 1) := by decide +kernel
theorem d2_119 : decode method_5_code 119 = .ok (.castore, 1) := by decide +kernel
theorem d2_120 : decode method_5_code 120 = .ok (.invokespecial 52, 3) := by decide +kernel
theorem d2_123 : decode method_5_code 123 = .ok (.areturn, 1) := by decide +kernel
theorem ef_rStr4 (m : MethodId) (x0 : Addr) (x1 : Int32) : entryFrame m #[(.ref x0), (.int x1)] 2 = mkF m 0 #[.val (.ref x0), .val (.int x1)] [] := by first | (simp [entryFrame, mkF, argsToLocals, Value.category]; done) | rfl
set_option maxRecDepth 65536 in
set_option maxHeartbeats 40000000 in
theorem rStr4 (l : Launch) (Z : State) (aa : Array Value) (hw : ∀ d ∈ tables_1, d.before aa Z = true) (ws : List Jvm.Cond) (w0 : Addr) (u0 : Int32) (u1 : Int32) (u2 : Int32) (u3 : Int32) (u4 : Int32) (u5 : Int32) (u6 : Int32) (u7 : Int32) (u8 : Int32) (u9 : Int32) (u10 : Int32) (u11 : Int32) (G1 : Int32) (h0 : Heap) (n0 : Nat) (Z0 : n0 ≤ h0.size) (V_w0 : Av Z h0 w0 .char [(.int u0), (.int u1), (.int u2), (.int u3), (.int u4), (.int u5), (.int u6), (.int u7), (.int u8), (.int u9), (.int u10), (.int u11)]) (hp : ∀ c ∈ ([(nar .char u3), (nar .char u2), (nar .char u1), (nar .char u0)] : List Int32), ¬ c < 0 ∧ ¬ (255 : Int32) < c) (O2 : Sta Z Z.heap "java/lang/String" "COMPACT_STRINGS" "Z" (.int G1)) (P5 : ¬ G1 = (0 : Int32)) (Od : Old Z n0 h0) :
    Rm l Z (⟨"com/example/grant/grant/WholeNumberParsePinLaw", "str", "([CI)Ljava/lang/String;"⟩ : MethodName) method_5_code 2 (some (.object "java/lang/String")) ws ({ frames := 4, cells := 3, slots := 12, locals := 66 } : Room) #[(.ref w0), (.int (4 : Int32))] h0 (fun v h L => ∃ x, v = some (.ref x) ∧ Fr n0 L ∧ Keep h0 h [] ∧ StrIs Z h x ([(nar .char u3), (nar .char u2), (nar .char u1), (nar .char u0)] : List Int32)) := by
  refine Rm.of (plainFor_of_name pn_0) ?_
  intro p e s m below meth cc T X hnm hret hlk
  refine Go.at_ (ef_rStr4 m w0 (4 : Int32)) ?_
  have N := Fr.nil n0
  have Kp := Keep.refl h0 []
  refine g_iloadN X d2_0 (pc' := 1) rfl rfl ?_
  refine g_iconst X (1 : Int32) d2_1 (pc' := 2) rfl rfl ?_
  refine g_icY X d2_2 (feq (show ¬ ((4 : Int32) = (1 : Int32)) from (by decide))).2 (pc' := 22) (by decide) (by decide) ?_
  refine g_iloadN X d2_22 (pc' := 23) rfl rfl ?_
  refine g_iconst X (2 : Int32) d2_23 (pc' := 24) rfl rfl ?_
  refine g_icY X d2_24 (feq (show ¬ ((4 : Int32) = (2 : Int32)) from (by decide))).2 (pc' := 50) (by decide) (by decide) ?_
  refine g_iloadN X d2_50 (pc' := 51) rfl rfl ?_
  refine g_iconst X (3 : Int32) d2_51 (pc' := 52) rfl rfl ?_
  refine g_icY X d2_52 (feq (show ¬ ((4 : Int32) = (3 : Int32)) from (by decide))).2 (pc' := 84) (by decide) (by decide) ?_
  refine g_iloadN X d2_84 (pc' := 85) rfl rfl ?_
  refine g_iconst X (4 : Int32) d2_85 (pc' := 86) rfl rfl ?_
  refine g_icN X d2_86 (teq (show (4 : Int32) = (4 : Int32) from (by decide))).2 (pc' := 89) rfl ?_
  refine g_new X (tb hw 18 rfl) (tb hw 19 rfl) (tb hw 20 rfl) d2_89 (pc' := 92) rfl (by decide) (by decide) ?_
  intro T h b89_1 s_b89_1 X Ex E_b89_1 D_b89_1
  have ne_w0_b89_1 : w0 ≠ b89_1 := Nat.ne_of_lt (by rw [s_b89_1]; exact V_w0.lt)
  have g_b89_1 : n0 ≤ b89_1 := by rw [s_b89_1]; exact Z0
  have sz_b89_1 : h0.size ≤ b89_1 := by rw [s_b89_1]; exact Kp.1
  replace V_w0 := V_w0.ext Ex
  replace Z0 := Nat.le_trans Z0 Ex.1
  replace Kp := Kp.ext Ex
  replace Od := Od.ext Ex
  have F_b89_1_coder : Fld Z h b89_1 "java/lang/String" "coder" "B" (.int (0 : Int32)) := D_b89_1 (Or.inr (tb hw 44 rfl)) (ty := .byte) (by decide)
  have F_b89_1_value : Fld Z h b89_1 "java/lang/String" "value" "[B" .null := D_b89_1 (Or.inr (tb hw 46 rfl)) (ty := (.array .byte)) (by decide)
  refine g_dup X d2_92 (pc' := 93) rfl rfl ?_
  refine g_iconst X (4 : Int32) d2_93 (pc' := 94) rfl rfl ?_
  refine g_newarray X 4 (tb hw 1 rfl) d2_94 (pc' := 96) rfl (by decide) (by decide) 4 (by decide) (by decide) (by decide) (by decide) (vs := [(.int (0 : Int32)), (.int (0 : Int32)), (.int (0 : Int32)), (.int (0 : Int32))]) rfl (ad := "[C") (by decide) ?_
  intro T h b94_2 s_b94_2 X Ex E_b94_2 V_b94_2
  have ne_w0_b94_2 : w0 ≠ b94_2 := Nat.ne_of_lt (by rw [s_b94_2]; exact V_w0.lt)
  have ne_b89_1_b94_2 : b89_1 ≠ b94_2 := Nat.ne_of_lt (by rw [s_b94_2]; exact E_b89_1.lt)
  have g_b94_2 : n0 ≤ b94_2 := by rw [s_b94_2]; exact Z0
  have sz_b94_2 : h0.size ≤ b94_2 := by rw [s_b94_2]; exact Kp.1
  replace V_w0 := V_w0.ext Ex
  replace E_b89_1 := E_b89_1.ext Ex
  replace F_b89_1_coder := F_b89_1_coder.ext Ex
  replace F_b89_1_value := F_b89_1_value.ext Ex
  replace Z0 := Nat.le_trans Z0 Ex.1
  replace Kp := Kp.ext Ex
  replace Od := Od.ext Ex
  refine g_dup X d2_96 (pc' := 97) rfl rfl ?_
  refine g_iconst X (0 : Int32) d2_97 (pc' := 98) rfl rfl ?_
  refine g_aloadN X d2_98 (pc' := 99) rfl rfl rfl ?_
  refine g_iconst X (3 : Int32) d2_99 (pc' := 100) rfl rfl ?_
  refine g_caload X V_w0 3 d2_100 (pc' := 101) rfl (by decide) (by decide) rfl ?_
  refine g_castore X V_b94_2 0 d2_101 (pc' := 102) rfl (by decide) (by decide) (Nat.le_of_ble_eq_true rfl) ?_
  intro T h X W V_b94_2
  replace V_b94_2 : Av Z h b94_2 .char [(.int (nar .char u3)), (.int (0 : Int32)), (.int (0 : Int32)), (.int (0 : Int32))] := V_b94_2
  replace V_w0 := V_w0.other W ne_w0_b94_2
  replace E_b89_1 := E_b89_1.wr W
  replace F_b89_1_coder := F_b89_1_coder.other W (Or.inl ne_b89_1_b94_2)
  replace F_b89_1_value := F_b89_1_value.other W (Or.inl ne_b89_1_b94_2)
  replace E_b94_2 := E_b94_2.wr W
  replace Z0 := Nat.le_trans Z0 (Nat.le_of_eq W.size.symm)
  replace N := Fr.snoc X.1 N g_b94_2
  replace Kp := Kp.wr W (Or.inr sz_b94_2)
  replace Od := Od.wr W g_b94_2
  refine g_dup X d2_102 (pc' := 103) rfl rfl ?_
  refine g_iconst X (1 : Int32) d2_103 (pc' := 104) rfl rfl ?_
  refine g_aloadN X d2_104 (pc' := 105) rfl rfl rfl ?_
  refine g_iconst X (2 : Int32) d2_105 (pc' := 106) rfl rfl ?_
  refine g_caload X V_w0 2 d2_106 (pc' := 107) rfl (by decide) (by decide) rfl ?_
  refine g_castore X V_b94_2 1 d2_107 (pc' := 108) rfl (by decide) (by decide) (Nat.le_of_ble_eq_true rfl) ?_
  intro T h X W V_b94_2
  replace V_b94_2 : Av Z h b94_2 .char [(.int (nar .char u3)), (.int (nar .char u2)), (.int (0 : Int32)), (.int (0 : Int32))] := V_b94_2
  replace V_w0 := V_w0.other W ne_w0_b94_2
  replace E_b89_1 := E_b89_1.wr W
  replace F_b89_1_coder := F_b89_1_coder.other W (Or.inl ne_b89_1_b94_2)
  replace F_b89_1_value := F_b89_1_value.other W (Or.inl ne_b89_1_b94_2)
  replace E_b94_2 := E_b94_2.wr W
  replace Z0 := Nat.le_trans Z0 (Nat.le_of_eq W.size.symm)
  replace N := Fr.snoc X.1 N g_b94_2
  replace Kp := Kp.wr W (Or.inr sz_b94_2)
  replace Od := Od.wr W g_b94_2
  refine g_dup X d2_108 (pc' := 109) rfl rfl ?_
  refine g_iconst X (2 : Int32) d2_109 (pc' := 110) rfl rfl ?_
  refine g_aloadN X d2_110 (pc' := 111) rfl rfl rfl ?_
  refine g_iconst X (1 : Int32) d2_111 (pc' := 112) rfl rfl ?_
  refine g_caload X V_w0 1 d2_112 (pc' := 113) rfl (by decide) (by decide) rfl ?_
  refine g_castore X V_b94_2 2 d2_113 (pc' := 114) rfl (by decide) (by decide) (Nat.le_of_ble_eq_true rfl) ?_
  intro T h X W V_b94_2
  replace V_b94_2 : Av Z h b94_2 .char [(.int (nar .char u3)), (.int (nar .char u2)), (.int (nar .char u1)), (.int (0 : Int32))] := V_b94_2
  replace V_w0 := V_w0.other W ne_w0_b94_2
  replace E_b89_1 := E_b89_1.wr W
  replace F_b89_1_coder := F_b89_1_coder.other W (Or.inl ne_b89_1_b94_2)
  replace F_b89_1_value := F_b89_1_value.other W (Or.inl ne_b89_1_b94_2)
  replace E_b94_2 := E_b94_2.wr W
  replace Z0 := Nat.le_trans Z0 (Nat.le_of_eq W.size.symm)
  replace N := Fr.snoc X.1 N g_b94_2
  replace Kp := Kp.wr W (Or.inr sz_b94_2)
  replace Od := Od.wr W g_b94_2
  refine g_dup X d2_114 (pc' := 115) rfl rfl ?_
  refine g_iconst X (3 : Int32) d2_115 (pc' := 116) rfl rfl ?_
  refine g_aloadN X d2_116 (pc' := 117) rfl rfl rfl ?_
  refine g_iconst X (0 : Int32) d2_117 (pc' := 118) rfl rfl ?_
  refine g_caload X V_w0 0 d2_118 (pc' := 119) rfl (by decide) (by decide) rfl ?_
  refine g_castore X V_b94_2 3 d2_119 (pc' := 120) rfl (by decide) (by decide) (Nat.le_of_ble_eq_true rfl) ?_
  intro T h X W V_b94_2
  replace V_b94_2 : Av Z h b94_2 .char [(.int (nar .char u3)), (.int (nar .char u2)), (.int (nar .char u1)), (.int (nar .char u0))] := V_b94_2
  replace V_w0 := V_w0.other W ne_w0_b94_2
  replace E_b89_1 := E_b89_1.wr W
  replace F_b89_1_coder := F_b89_1_coder.other W (Or.inl ne_b89_1_b94_2)
  replace F_b89_1_value := F_b89_1_value.other W (Or.inl ne_b89_1_b94_2)
  replace E_b94_2 := E_b94_2.wr W
  replace Z0 := Nat.le_trans Z0 (Nat.le_of_eq W.size.symm)
  replace N := Fr.snoc X.1 N g_b94_2
  replace Kp := Kp.wr W (Or.inr sz_b94_2)
  replace Od := Od.wr W g_b94_2
  refine g_specialB X (W := 1) (a := b89_1) [(.ref b94_2)] [(.ref b89_1)] rfl (tb hw 21 rfl) (tb hw 22 rfl) (tb hw 23 rfl) (Q := NewQ Z b89_1 ([(nar .char u3), (nar .char u2), (nar .char u1), (nar .char u0)] : List Int32) _ n0) (kc := 1) (ks := 4) (back_new (W := 1) (cs := ([(nar .char u3), (nar .char u2), (nar .char u1), (nar .char u0)] : List Int32)) X.2.2.2.2.2.1 hw g_b89_1 Z0 E_b89_1 F_b89_1_value F_b89_1_coder V_b94_2 rfl (fitS (fits_nar_char _) (fitS (fits_nar_char _) (fitS (fits_nar_char _) (fitS (fits_nar_char _) fit0)))) (O2.ext Od.2) P5 rfl (by decide) (by decide) hp (by decide) (by decide)) d2_120 (pc' := 123) rfl (by decide) rfl rfl rfl (lenOf pd_0 rfl) (Nat.le_refl _) (by decide) (by decide) ?_
  intro v T L X q
  obtain ⟨rfl, Nq, Kq, St_b89_1⟩ := q
  replace N := N.app Nq
  replace V_w0 := V_w0.keep Kq (ninS ne_w0_b89_1 nin0)
  replace E_b94_2 := E_b94_2.keep Kq
  replace V_b94_2 := V_b94_2.keep Kq (ninS (Ne.symm ne_b89_1_b94_2) nin0)
  replace Od := Od.keep Kq (allS g_b89_1 all0)
  replace Z0 := Nat.le_trans Z0 Kq.1
  replace Kp := Kp.trans Kq (allS (Or.inr sz_b89_1) all0)
  have E_b89_1 := St_b89_1.1
  show Go p e below _ (T.setTop (mkF m 123 #[.val (.ref w0), .val (.int (4 : Int32))] [(.ref b89_1)]))
  refine g_areturn X rfl rfl d2_123 hret hlk (by decide) (by decide) ?_
  exact ⟨b89_1, rfl, N, Kp, St_b89_1⟩
theorem d2_124 : decode method_5_code 124 = .ok (.iload_n 1, 1) := by decide +kernel
theorem d2_125 : decode method_5_code 125 = .ok (.iconst 5, 1) := by decide +kernel
theorem d2_126 : decode method_5_code 126 = .ok (.if_icmp .ne 44, 3) := by decide +kernel
theorem d2_129 : decode method_5_code 129 = .ok (.new 41, 3) := by decide +kernel
theorem d2_132 : decode method_5_code 132 = .ok (.dup, 1) := by decide +kernel
theorem d2_133 : decode method_5_code 133 = .ok (.iconst 5, 1) := by decide +kernel
theorem d2_134 : decode method_5_code 134 = .ok (.newarray .char, 2) := by decide +kernel
theorem d2_136 : decode method_5_code 136 = .ok (.dup, 1) := by decide +kernel
theorem d2_137 : decode method_5_code 137 = .ok (.iconst 0, 1) := by decide +kernel
theorem d2_138 : decode method_5_code 138 = .ok (.aload_n 0, 1) := by decide +kernel
theorem d2_139 : decode method_5_code 139 = .ok (.iconst 4, 1) := by decide +kernel
theorem d2_140 : decode method_5_code 140 = .ok (.caload, 1) := by decide +kernel
theorem d2_141 : decode method_5_code 141 = .ok (.castore, 1) := by decide +kernel
theorem d2_142 : decode method_5_code 142 = .ok (.dup, 1) := by decide +kernel
theorem d2_143 : decode method_5_code 143 = .ok (.iconst 1, 1) := by decide +kernel
theorem d2_144 : decode method_5_code 144 = .ok (.aload_n 0, 1) := by decide +kernel
theorem d2_145 : decode method_5_code 145 = .ok (.iconst 3, 1) := by decide +kernel
theorem d2_146 : decode method_5_code 146 = .ok (.caload, 1) := by decide +kernel
theorem d2_147 : decode method_5_code 147 = .ok (.castore, 1) := by decide +kernel
theorem d2_148 : decode method_5_code 148 = .ok (.dup, 1) := by decide +kernel
theorem d2_149 : decode method_5_code 149 = .ok (.iconst 2, 1) := by decide +kernel
theorem d2_150 : decode method_5_code 150 = .ok (.aload_n 0, 1) := by decide +kernel
theorem d2_151 : decode method_5_code 151 = .ok (.iconst 2, 1) := by decide +kernel
theorem d2_152 : decode method_5_code 152 = .ok (.caload, 1) := by decide +kernel
theorem d2_153 : decode method_5_code 153 = .ok (.castore, 1) := by decide +kernel
theorem d2_154 : decode method_5_code 154 = .ok (.dup, 1) := by decide +kernel
theorem d2_155 : decode method_5_code 155 = .ok (.iconst 3, 1) := by decide +kernel
theorem d2_156 : decode method_5_code 156 = .ok (.aload_n 0, 1) := by decide +kernel
theorem d2_157 : decode method_5_code 157 = .ok (.iconst 1, 1) := by decide +kernel
theorem d2_158 : decode method_5_code 158 = .ok (.caload, 1) := by decide +kernel
theorem d2_159 : decode method_5_code 159 = .ok (.castore, 1) := by decide +kernel
theorem d2_160 : decode method_5_code 160 = .ok (.dup, 1) := by decide +kernel
theorem d2_161 : decode method_5_code 161 = .ok (.iconst 4, 1) := by decide +kernel
theorem d2_162 : decode method_5_code 162 = .ok (.aload_n 0, 1) := by decide +kernel
theorem d2_163 : decode method_5_code 163 = .ok (.iconst 0, 1) := by decide +kernel
theorem d2_164 : decode method_5_code 164 = .ok (.caload, 1) := by decide +kernel
theorem d2_165 : decode method_5_code 165 = .ok (.castore, 1) := by decide +kernel
theorem d2_166 : decode method_5_code 166 = .ok (.invokespecial 52, 3) := by decide +kernel
theorem d2_169 : decode method_5_code 169 = .ok (.areturn, 1) := by decide +kernel
theorem ef_rStr5 (m : MethodId) (x0 : Addr) (x1 : Int32) : entryFrame m #[(.ref x0), (.int x1)] 2 = mkF m 0 #[.val (.ref x0), .val (.int x1)] [] := by first | (simp [entryFrame, mkF, argsToLocals, Value.category]; done) | rfl
set_option maxRecDepth 65536 in
set_option maxHeartbeats 40000000 in
theorem rStr5 (l : Launch) (Z : State) (aa : Array Value) (hw : ∀ d ∈ tables_1, d.before aa Z = true) (ws : List Jvm.Cond) (w0 : Addr) (u0 : Int32) (u1 : Int32) (u2 : Int32) (u3 : Int32) (u4 : Int32) (u5 : Int32) (u6 : Int32) (u7 : Int32) (u8 : Int32) (u9 : Int32) (u10 : Int32) (u11 : Int32) (G1 : Int32) (h0 : Heap) (n0 : Nat) (Z0 : n0 ≤ h0.size) (V_w0 : Av Z h0 w0 .char [(.int u0), (.int u1), (.int u2), (.int u3), (.int u4), (.int u5), (.int u6), (.int u7), (.int u8), (.int u9), (.int u10), (.int u11)]) (hp : ∀ c ∈ ([(nar .char u4), (nar .char u3), (nar .char u2), (nar .char u1), (nar .char u0)] : List Int32), ¬ c < 0 ∧ ¬ (255 : Int32) < c) (O2 : Sta Z Z.heap "java/lang/String" "COMPACT_STRINGS" "Z" (.int G1)) (P5 : ¬ G1 = (0 : Int32)) (Od : Old Z n0 h0) :
    Rm l Z (⟨"com/example/grant/grant/WholeNumberParsePinLaw", "str", "([CI)Ljava/lang/String;"⟩ : MethodName) method_5_code 2 (some (.object "java/lang/String")) ws ({ frames := 4, cells := 3, slots := 14, locals := 66 } : Room) #[(.ref w0), (.int (5 : Int32))] h0 (fun v h L => ∃ x, v = some (.ref x) ∧ Fr n0 L ∧ Keep h0 h [] ∧ StrIs Z h x ([(nar .char u4), (nar .char u3), (nar .char u2), (nar .char u1), (nar .char u0)] : List Int32)) := by
  refine Rm.of (plainFor_of_name pn_0) ?_
  intro p e s m below meth cc T X hnm hret hlk
  refine Go.at_ (ef_rStr5 m w0 (5 : Int32)) ?_
  have N := Fr.nil n0
  have Kp := Keep.refl h0 []
  refine g_iloadN X d2_0 (pc' := 1) rfl rfl ?_
  refine g_iconst X (1 : Int32) d2_1 (pc' := 2) rfl rfl ?_
  refine g_icY X d2_2 (feq (show ¬ ((5 : Int32) = (1 : Int32)) from (by decide))).2 (pc' := 22) (by decide) (by decide) ?_
  refine g_iloadN X d2_22 (pc' := 23) rfl rfl ?_
  refine g_iconst X (2 : Int32) d2_23 (pc' := 24) rfl rfl ?_
  refine g_icY X d2_24 (feq (show ¬ ((5 : Int32) = (2 : Int32)) from (by decide))).2 (pc' := 50) (by decide) (by decide) ?_
  refine g_iloadN X d2_50 (pc' := 51) rfl rfl ?_
  refine g_iconst X (3 : Int32) d2_51 (pc' := 52) rfl rfl ?_
  refine g_icY X d2_52 (feq (show ¬ ((5 : Int32) = (3 : Int32)) from (by decide))).2 (pc' := 84) (by decide) (by decide) ?_
  refine g_iloadN X d2_84 (pc' := 85) rfl rfl ?_
  refine g_iconst X (4 : Int32) d2_85 (pc' := 86) rfl rfl ?_
  refine g_icY X d2_86 (feq (show ¬ ((5 : Int32) = (4 : Int32)) from (by decide))).2 (pc' := 124) (by decide) (by decide) ?_
  refine g_iloadN X d2_124 (pc' := 125) rfl rfl ?_
  refine g_iconst X (5 : Int32) d2_125 (pc' := 126) rfl rfl ?_
  refine g_icN X d2_126 (teq (show (5 : Int32) = (5 : Int32) from (by decide))).2 (pc' := 129) rfl ?_
  refine g_new X (tb hw 18 rfl) (tb hw 19 rfl) (tb hw 20 rfl) d2_129 (pc' := 132) rfl (by decide) (by decide) ?_
  intro T h b129_1 s_b129_1 X Ex E_b129_1 D_b129_1
  have ne_w0_b129_1 : w0 ≠ b129_1 := Nat.ne_of_lt (by rw [s_b129_1]; exact V_w0.lt)
  have g_b129_1 : n0 ≤ b129_1 := by rw [s_b129_1]; exact Z0
  have sz_b129_1 : h0.size ≤ b129_1 := by rw [s_b129_1]; exact Kp.1
  replace V_w0 := V_w0.ext Ex
  replace Z0 := Nat.le_trans Z0 Ex.1
  replace Kp := Kp.ext Ex
  replace Od := Od.ext Ex
  have F_b129_1_coder : Fld Z h b129_1 "java/lang/String" "coder" "B" (.int (0 : Int32)) := D_b129_1 (Or.inr (tb hw 44 rfl)) (ty := .byte) (by decide)
  have F_b129_1_value : Fld Z h b129_1 "java/lang/String" "value" "[B" .null := D_b129_1 (Or.inr (tb hw 46 rfl)) (ty := (.array .byte)) (by decide)
  refine g_dup X d2_132 (pc' := 133) rfl rfl ?_
  refine g_iconst X (5 : Int32) d2_133 (pc' := 134) rfl rfl ?_
  refine g_newarray X 5 (tb hw 1 rfl) d2_134 (pc' := 136) rfl (by decide) (by decide) 5 (by decide) (by decide) (by decide) (by decide) (vs := [(.int (0 : Int32)), (.int (0 : Int32)), (.int (0 : Int32)), (.int (0 : Int32)), (.int (0 : Int32))]) rfl (ad := "[C") (by decide) ?_
  intro T h b134_2 s_b134_2 X Ex E_b134_2 V_b134_2
  have ne_w0_b134_2 : w0 ≠ b134_2 := Nat.ne_of_lt (by rw [s_b134_2]; exact V_w0.lt)
  have ne_b129_1_b134_2 : b129_1 ≠ b134_2 := Nat.ne_of_lt (by rw [s_b134_2]; exact E_b129_1.lt)
  have g_b134_2 : n0 ≤ b134_2 := by rw [s_b134_2]; exact Z0
  have sz_b134_2 : h0.size ≤ b134_2 := by rw [s_b134_2]; exact Kp.1
  replace V_w0 := V_w0.ext Ex
  replace E_b129_1 := E_b129_1.ext Ex
  replace F_b129_1_coder := F_b129_1_coder.ext Ex
  replace F_b129_1_value := F_b129_1_value.ext Ex
  replace Z0 := Nat.le_trans Z0 Ex.1
  replace Kp := Kp.ext Ex
  replace Od := Od.ext Ex
  refine g_dup X d2_136 (pc' := 137) rfl rfl ?_
  refine g_iconst X (0 : Int32) d2_137 (pc' := 138) rfl rfl ?_
  refine g_aloadN X d2_138 (pc' := 139) rfl rfl rfl ?_
  refine g_iconst X (4 : Int32) d2_139 (pc' := 140) rfl rfl ?_
  refine g_caload X V_w0 4 d2_140 (pc' := 141) rfl (by decide) (by decide) rfl ?_
  refine g_castore X V_b134_2 0 d2_141 (pc' := 142) rfl (by decide) (by decide) (Nat.le_of_ble_eq_true rfl) ?_
  intro T h X W V_b134_2
  replace V_b134_2 : Av Z h b134_2 .char [(.int (nar .char u4)), (.int (0 : Int32)), (.int (0 : Int32)), (.int (0 : Int32)), (.int (0 : Int32))] := V_b134_2
  replace V_w0 := V_w0.other W ne_w0_b134_2
  replace E_b129_1 := E_b129_1.wr W
  replace F_b129_1_coder := F_b129_1_coder.other W (Or.inl ne_b129_1_b134_2)
  replace F_b129_1_value := F_b129_1_value.other W (Or.inl ne_b129_1_b134_2)
  replace E_b134_2 := E_b134_2.wr W
  replace Z0 := Nat.le_trans Z0 (Nat.le_of_eq W.size.symm)
  replace N := Fr.snoc X.1 N g_b134_2
  replace Kp := Kp.wr W (Or.inr sz_b134_2)
  replace Od := Od.wr W g_b134_2
  refine g_dup X d2_142 (pc' := 143) rfl rfl ?_
  refine g_iconst X (1 : Int32) d2_143 (pc' := 144) rfl rfl ?_
  refine g_aloadN X d2_144 (pc' := 145) rfl rfl rfl ?_
  refine g_iconst X (3 : Int32) d2_145 (pc' := 146) rfl rfl ?_
  refine g_caload X V_w0 3 d2_146 (pc' := 147) rfl (by decide) (by decide) rfl ?_
  refine g_castore X V_b134_2 1 d2_147 (pc' := 148) rfl (by decide) (by decide) (Nat.le_of_ble_eq_true rfl) ?_
  intro T h X W V_b134_2
  replace V_b134_2 : Av Z h b134_2 .char [(.int (nar .char u4)), (.int (nar .char u3)), (.int (0 : Int32)), (.int (0 : Int32)), (.int (0 : Int32))] := V_b134_2
  replace V_w0 := V_w0.other W ne_w0_b134_2
  replace E_b129_1 := E_b129_1.wr W
  replace F_b129_1_coder := F_b129_1_coder.other W (Or.inl ne_b129_1_b134_2)
  replace F_b129_1_value := F_b129_1_value.other W (Or.inl ne_b129_1_b134_2)
  replace E_b134_2 := E_b134_2.wr W
  replace Z0 := Nat.le_trans Z0 (Nat.le_of_eq W.size.symm)
  replace N := Fr.snoc X.1 N g_b134_2
  replace Kp := Kp.wr W (Or.inr sz_b134_2)
  replace Od := Od.wr W g_b134_2
  refine g_dup X d2_148 (pc' := 149) rfl rfl ?_
  refine g_iconst X (2 : Int32) d2_149 (pc' := 150) rfl rfl ?_
  refine g_aloadN X d2_150 (pc' := 151) rfl rfl rfl ?_
  refine g_iconst X (2 : Int32) d2_151 (pc' := 152) rfl rfl ?_
  refine g_caload X V_w0 2 d2_152 (pc' := 153) rfl (by decide) (by decide) rfl ?_
  refine g_castore X V_b134_2 2 d2_153 (pc' := 154) rfl (by decide) (by decide) (Nat.le_of_ble_eq_true rfl) ?_
  intro T h X W V_b134_2
  replace V_b134_2 : Av Z h b134_2 .char [(.int (nar .char u4)), (.int (nar .char u3)), (.int (nar .char u2)), (.int (0 : Int32)), (.int (0 : Int32))] := V_b134_2
  replace V_w0 := V_w0.other W ne_w0_b134_2
  replace E_b129_1 := E_b129_1.wr W
  replace F_b129_1_coder := F_b129_1_coder.other W (Or.inl ne_b129_1_b134_2)
  replace F_b129_1_value := F_b129_1_value.other W (Or.inl ne_b129_1_b134_2)
  replace E_b134_2 := E_b134_2.wr W
  replace Z0 := Nat.le_trans Z0 (Nat.le_of_eq W.size.symm)
  replace N := Fr.snoc X.1 N g_b134_2
  replace Kp := Kp.wr W (Or.inr sz_b134_2)
  replace Od := Od.wr W g_b134_2
  refine g_dup X d2_154 (pc' := 155) rfl rfl ?_
  refine g_iconst X (3 : Int32) d2_155 (pc' := 156) rfl rfl ?_
  refine g_aloadN X d2_156 (pc' := 157) rfl rfl rfl ?_
  refine g_iconst X (1 : Int32) d2_157 (pc' := 158) rfl rfl ?_
  refine g_caload X V_w0 1 d2_158 (pc' := 159) rfl (by decide) (by decide) rfl ?_
  refine g_castore X V_b134_2 3 d2_159 (pc' := 160) rfl (by decide) (by decide) (Nat.le_of_ble_eq_true rfl) ?_
  intro T h X W V_b134_2
  replace V_b134_2 : Av Z h b134_2 .char [(.int (nar .char u4)), (.int (nar .char u3)), (.int (nar .char u2)), (.int (nar .char u1)), (.int (0 : Int32))] := V_b134_2
  replace V_w0 := V_w0.other W ne_w0_b134_2
  replace E_b129_1 := E_b129_1.wr W
  replace F_b129_1_coder := F_b129_1_coder.other W (Or.inl ne_b129_1_b134_2)
  replace F_b129_1_value := F_b129_1_value.other W (Or.inl ne_b129_1_b134_2)
  replace E_b134_2 := E_b134_2.wr W
  replace Z0 := Nat.le_trans Z0 (Nat.le_of_eq W.size.symm)
  replace N := Fr.snoc X.1 N g_b134_2
  replace Kp := Kp.wr W (Or.inr sz_b134_2)
  replace Od := Od.wr W g_b134_2
  refine g_dup X d2_160 (pc' := 161) rfl rfl ?_
  refine g_iconst X (4 : Int32) d2_161 (pc' := 162) rfl rfl ?_
  refine g_aloadN X d2_162 (pc' := 163) rfl rfl rfl ?_
  refine g_iconst X (0 : Int32) d2_163 (pc' := 164) rfl rfl ?_
  refine g_caload X V_w0 0 d2_164 (pc' := 165) rfl (by decide) (by decide) rfl ?_
  refine g_castore X V_b134_2 4 d2_165 (pc' := 166) rfl (by decide) (by decide) (Nat.le_of_ble_eq_true rfl) ?_
  intro T h X W V_b134_2
  replace V_b134_2 : Av Z h b134_2 .char [(.int (nar .char u4)), (.int (nar .char u3)), (.int (nar .char u2)), (.int (nar .char u1)), (.int (nar .char u0))] := V_b134_2
  replace V_w0 := V_w0.other W ne_w0_b134_2
  replace E_b129_1 := E_b129_1.wr W
  replace F_b129_1_coder := F_b129_1_coder.other W (Or.inl ne_b129_1_b134_2)
  replace F_b129_1_value := F_b129_1_value.other W (Or.inl ne_b129_1_b134_2)
  replace E_b134_2 := E_b134_2.wr W
  replace Z0 := Nat.le_trans Z0 (Nat.le_of_eq W.size.symm)
  replace N := Fr.snoc X.1 N g_b134_2
  replace Kp := Kp.wr W (Or.inr sz_b134_2)
  replace Od := Od.wr W g_b134_2
  refine g_specialB X (W := 1) (a := b129_1) [(.ref b134_2)] [(.ref b129_1)] rfl (tb hw 21 rfl) (tb hw 22 rfl) (tb hw 23 rfl) (Q := NewQ Z b129_1 ([(nar .char u4), (nar .char u3), (nar .char u2), (nar .char u1), (nar .char u0)] : List Int32) _ n0) (kc := 1) (ks := 5) (back_new (W := 1) (cs := ([(nar .char u4), (nar .char u3), (nar .char u2), (nar .char u1), (nar .char u0)] : List Int32)) X.2.2.2.2.2.1 hw g_b129_1 Z0 E_b129_1 F_b129_1_value F_b129_1_coder V_b134_2 rfl (fitS (fits_nar_char _) (fitS (fits_nar_char _) (fitS (fits_nar_char _) (fitS (fits_nar_char _) (fitS (fits_nar_char _) fit0))))) (O2.ext Od.2) P5 rfl (by decide) (by decide) hp (by decide) (by decide)) d2_166 (pc' := 169) rfl (by decide) rfl rfl rfl (lenOf pd_0 rfl) (Nat.le_refl _) (by decide) (by decide) ?_
  intro v T L X q
  obtain ⟨rfl, Nq, Kq, St_b129_1⟩ := q
  replace N := N.app Nq
  replace V_w0 := V_w0.keep Kq (ninS ne_w0_b129_1 nin0)
  replace E_b134_2 := E_b134_2.keep Kq
  replace V_b134_2 := V_b134_2.keep Kq (ninS (Ne.symm ne_b129_1_b134_2) nin0)
  replace Od := Od.keep Kq (allS g_b129_1 all0)
  replace Z0 := Nat.le_trans Z0 Kq.1
  replace Kp := Kp.trans Kq (allS (Or.inr sz_b129_1) all0)
  have E_b129_1 := St_b129_1.1
  show Go p e below _ (T.setTop (mkF m 169 #[.val (.ref w0), .val (.int (5 : Int32))] [(.ref b129_1)]))
  refine g_areturn X rfl rfl d2_169 hret hlk (by decide) (by decide) ?_
  exact ⟨b129_1, rfl, N, Kp, St_b129_1⟩
theorem d2_170 : decode method_5_code 170 = .ok (.iload_n 1, 1) := by decide +kernel
theorem d2_171 : decode method_5_code 171 = .ok (.bipush 6, 2) := by decide +kernel
theorem d2_173 : decode method_5_code 173 = .ok (.if_icmp .ne 51, 3) := by decide +kernel
theorem d2_176 : decode method_5_code 176 = .ok (.new 41, 3) := by decide +kernel
theorem d2_179 : decode method_5_code 179 = .ok (.dup, 1) := by decide +kernel
theorem d2_180 : decode method_5_code 180 = .ok (.bipush 6, 2) := by decide +kernel
theorem d2_182 : decode method_5_code 182 = .ok (.newarray .char, 2) := by decide +kernel
theorem d2_184 : decode method_5_code 184 = .ok (.dup, 1) := by decide +kernel
theorem d2_185 : decode method_5_code 185 = .ok (.iconst 0, 1) := by decide +kernel
theorem d2_186 : decode method_5_code 186 = .ok (.aload_n 0, 1) := by decide +kernel
theorem d2_187 : decode method_5_code 187 = .ok (.iconst 5, 1) := by decide +kernel
theorem d2_188 : decode method_5_code 188 = .ok (.caload, 1) := by decide +kernel
theorem d2_189 : decode method_5_code 189 = .ok (.castore, 1) := by decide +kernel
theorem d2_190 : decode method_5_code 190 = .ok (.dup, 1) := by decide +kernel
theorem d2_191 : decode method_5_code 191 = .ok (.iconst 1, 1) := by decide +kernel
theorem d2_192 : decode method_5_code 192 = .ok (.aload_n 0, 1) := by decide +kernel
theorem d2_193 : decode method_5_code 193 = .ok (.iconst 4, 1) := by decide +kernel
theorem d2_194 : decode method_5_code 194 = .ok (.caload, 1) := by decide +kernel
theorem d2_195 : decode method_5_code 195 = .ok (.castore, 1) := by decide +kernel
theorem d2_196 : decode method_5_code 196 = .ok (.dup, 1) := by decide +kernel
theorem d2_197 : decode method_5_code 197 = .ok (.iconst 2, 1) := by decide +kernel
theorem d2_198 : decode method_5_code 198 = .ok (.aload_n 0, 1) := by decide +kernel
theorem d2_199 : decode method_5_code 199 = .ok (.iconst 3, 1) := by decide +kernel
theorem d2_200 : decode method_5_code 200 = .ok (.caload, 1) := by decide +kernel
theorem d2_201 : decode method_5_code 201 = .ok (.castore, 1) := by decide +kernel
theorem d2_202 : decode method_5_code 202 = .ok (.dup, 1) := by decide +kernel
theorem d2_203 : decode method_5_code 203 = .ok (.iconst 3, 1) := by decide +kernel
theorem d2_204 : decode method_5_code 204 = .ok (.aload_n 0, 1) := by decide +kernel
theorem d2_205 : decode method_5_code 205 = .ok (.iconst 2, 1) := by decide +kernel
theorem d2_206 : decode method_5_code 206 = .ok (.caload, 1) := by decide +kernel
theorem d2_207 : decode method_5_code 207 = .ok (.castore, 1) := by decide +kernel
theorem d2_208 : decode method_5_code 208 = .ok (.dup, 1) := by decide +kernel
theorem d2_209 : decode method_5_code 209 = .ok (.iconst 4, 1) := by decide +kernel
theorem d2_210 : decode method_5_code 210 = .ok (.aload_n 0, 1) := by decide +kernel
theorem d2_211 : decode method_5_code 211 = .ok (.iconst 1, 1) := by decide +kernel
theorem d2_212 : decode method_5_code 212 = .ok (.caload, 1) := by decide +kernel
theorem d2_213 : decode method_5_code 213 = .ok (.castore, 1) := by decide +kernel
theorem d2_214 : decode method_5_code 214 = .ok (.dup, 1) := by decide +kernel
theorem d2_215 : decode method_5_code 215 = .ok (.iconst 5, 1) := by decide +kernel
theorem d2_216 : decode method_5_code 216 = .ok (.aload_n 0, 1) := by decide +kernel
theorem d2_217 : decode method_5_code 217 = .ok (.iconst 0, 1) := by decide +kernel
theorem d2_218 : decode method_5_code 218 = .ok (.caload, 1) := by decide +kernel
theorem d2_219 : decode method_5_code 219 = .ok (.castore, 1) := by decide +kernel
theorem d2_220 : decode method_5_code 220 = .ok (.invokespecial 52, 3) := by decide +kernel
theorem d2_223 : decode method_5_code 223 = .ok (.areturn, 1) := by decide +kernel
theorem ef_rStr6 (m : MethodId) (x0 : Addr) (x1 : Int32) : entryFrame m #[(.ref x0), (.int x1)] 2 = mkF m 0 #[.val (.ref x0), .val (.int x1)] [] := by first | (simp [entryFrame, mkF, argsToLocals, Value.category]; done) | rfl
set_option maxRecDepth 65536 in
set_option maxHeartbeats 40000000 in
theorem rStr6 (l : Launch) (Z : State) (aa : Array Value) (hw : ∀ d ∈ tables_1, d.before aa Z = true) (ws : List Jvm.Cond) (w0 : Addr) (u0 : Int32) (u1 : Int32) (u2 : Int32) (u3 : Int32) (u4 : Int32) (u5 : Int32) (u6 : Int32) (u7 : Int32) (u8 : Int32) (u9 : Int32) (u10 : Int32) (u11 : Int32) (G1 : Int32) (h0 : Heap) (n0 : Nat) (Z0 : n0 ≤ h0.size) (V_w0 : Av Z h0 w0 .char [(.int u0), (.int u1), (.int u2), (.int u3), (.int u4), (.int u5), (.int u6), (.int u7), (.int u8), (.int u9), (.int u10), (.int u11)]) (hp : ∀ c ∈ ([(nar .char u5), (nar .char u4), (nar .char u3), (nar .char u2), (nar .char u1), (nar .char u0)] : List Int32), ¬ c < 0 ∧ ¬ (255 : Int32) < c) (O2 : Sta Z Z.heap "java/lang/String" "COMPACT_STRINGS" "Z" (.int G1)) (P5 : ¬ G1 = (0 : Int32)) (Od : Old Z n0 h0) :
    Rm l Z (⟨"com/example/grant/grant/WholeNumberParsePinLaw", "str", "([CI)Ljava/lang/String;"⟩ : MethodName) method_5_code 2 (some (.object "java/lang/String")) ws ({ frames := 4, cells := 3, slots := 16, locals := 66 } : Room) #[(.ref w0), (.int (6 : Int32))] h0 (fun v h L => ∃ x, v = some (.ref x) ∧ Fr n0 L ∧ Keep h0 h [] ∧ StrIs Z h x ([(nar .char u5), (nar .char u4), (nar .char u3), (nar .char u2), (nar .char u1), (nar .char u0)] : List Int32)) := by
  refine Rm.of (plainFor_of_name pn_0) ?_
  intro p e s m below meth cc T X hnm hret hlk
  refine Go.at_ (ef_rStr6 m w0 (6 : Int32)) ?_
  have N := Fr.nil n0
  have Kp := Keep.refl h0 []
  refine g_iloadN X d2_0 (pc' := 1) rfl rfl ?_
  refine g_iconst X (1 : Int32) d2_1 (pc' := 2) rfl rfl ?_
  refine g_icY X d2_2 (feq (show ¬ ((6 : Int32) = (1 : Int32)) from (by decide))).2 (pc' := 22) (by decide) (by decide) ?_
  refine g_iloadN X d2_22 (pc' := 23) rfl rfl ?_
  refine g_iconst X (2 : Int32) d2_23 (pc' := 24) rfl rfl ?_
  refine g_icY X d2_24 (feq (show ¬ ((6 : Int32) = (2 : Int32)) from (by decide))).2 (pc' := 50) (by decide) (by decide) ?_
  refine g_iloadN X d2_50 (pc' := 51) rfl rfl ?_
  refine g_iconst X (3 : Int32) d2_51 (pc' := 52) rfl rfl ?_
  refine g_icY X d2_52 (feq (show ¬ ((6 : Int32) = (3 : Int32)) from (by decide))).2 (pc' := 84) (by decide) (by decide) ?_
  refine g_iloadN X d2_84 (pc' := 85) rfl rfl ?_
  refine g_iconst X (4 : Int32) d2_85 (pc' := 86) rfl rfl ?_
  refine g_icY X d2_86 (feq (show ¬ ((6 : Int32) = (4 : Int32)) from (by decide))).2 (pc' := 124) (by decide) (by decide) ?_
  refine g_iloadN X d2_124 (pc' := 125) rfl rfl ?_
  refine g_iconst X (5 : Int32) d2_125 (pc' := 126) rfl rfl ?_
  refine g_icY X d2_126 (feq (show ¬ ((6 : Int32) = (5 : Int32)) from (by decide))).2 (pc' := 170) (by decide) (by decide) ?_
  refine g_iloadN X d2_170 (pc' := 171) rfl rfl ?_
  refine g_bipush X (6 : Int32) d2_171 (pc' := 173) rfl rfl ?_
  refine g_icN X d2_173 (teq (show (6 : Int32) = (6 : Int32) from (by decide))).2 (pc' := 176) rfl ?_
  refine g_new X (tb hw 18 rfl) (tb hw 19 rfl) (tb hw 20 rfl) d2_176 (pc' := 179) rfl (by decide) (by decide) ?_
  intro T h b176_1 s_b176_1 X Ex E_b176_1 D_b176_1
  have ne_w0_b176_1 : w0 ≠ b176_1 := Nat.ne_of_lt (by rw [s_b176_1]; exact V_w0.lt)
  have g_b176_1 : n0 ≤ b176_1 := by rw [s_b176_1]; exact Z0
  have sz_b176_1 : h0.size ≤ b176_1 := by rw [s_b176_1]; exact Kp.1
  replace V_w0 := V_w0.ext Ex
  replace Z0 := Nat.le_trans Z0 Ex.1
  replace Kp := Kp.ext Ex
  replace Od := Od.ext Ex
  have F_b176_1_coder : Fld Z h b176_1 "java/lang/String" "coder" "B" (.int (0 : Int32)) := D_b176_1 (Or.inr (tb hw 44 rfl)) (ty := .byte) (by decide)
  have F_b176_1_value : Fld Z h b176_1 "java/lang/String" "value" "[B" .null := D_b176_1 (Or.inr (tb hw 46 rfl)) (ty := (.array .byte)) (by decide)
  refine g_dup X d2_179 (pc' := 180) rfl rfl ?_
  refine g_bipush X (6 : Int32) d2_180 (pc' := 182) rfl rfl ?_
  refine g_newarray X 6 (tb hw 1 rfl) d2_182 (pc' := 184) rfl (by decide) (by decide) 6 (by decide) (by decide) (by decide) (by decide) (vs := [(.int (0 : Int32)), (.int (0 : Int32)), (.int (0 : Int32)), (.int (0 : Int32)), (.int (0 : Int32)), (.int (0 : Int32))]) rfl (ad := "[C") (by decide) ?_
  intro T h b182_2 s_b182_2 X Ex E_b182_2 V_b182_2
  have ne_w0_b182_2 : w0 ≠ b182_2 := Nat.ne_of_lt (by rw [s_b182_2]; exact V_w0.lt)
  have ne_b176_1_b182_2 : b176_1 ≠ b182_2 := Nat.ne_of_lt (by rw [s_b182_2]; exact E_b176_1.lt)
  have g_b182_2 : n0 ≤ b182_2 := by rw [s_b182_2]; exact Z0
  have sz_b182_2 : h0.size ≤ b182_2 := by rw [s_b182_2]; exact Kp.1
  replace V_w0 := V_w0.ext Ex
  replace E_b176_1 := E_b176_1.ext Ex
  replace F_b176_1_coder := F_b176_1_coder.ext Ex
  replace F_b176_1_value := F_b176_1_value.ext Ex
  replace Z0 := Nat.le_trans Z0 Ex.1
  replace Kp := Kp.ext Ex
  replace Od := Od.ext Ex
  refine g_dup X d2_184 (pc' := 185) rfl rfl ?_
  refine g_iconst X (0 : Int32) d2_185 (pc' := 186) rfl rfl ?_
  refine g_aloadN X d2_186 (pc' := 187) rfl rfl rfl ?_
  refine g_iconst X (5 : Int32) d2_187 (pc' := 188) rfl rfl ?_
  refine g_caload X V_w0 5 d2_188 (pc' := 189) rfl (by decide) (by decide) rfl ?_
  refine g_castore X V_b182_2 0 d2_189 (pc' := 190) rfl (by decide) (by decide) (Nat.le_of_ble_eq_true rfl) ?_
  intro T h X W V_b182_2
  replace V_b182_2 : Av Z h b182_2 .char [(.int (nar .char u5)), (.int (0 : Int32)), (.int (0 : Int32)), (.int (0 : Int32)), (.int (0 : Int32)), (.int (0 : Int32))] := V_b182_2
  replace V_w0 := V_w0.other W ne_w0_b182_2
  replace E_b176_1 := E_b176_1.wr W
  replace F_b176_1_coder := F_b176_1_coder.other W (Or.inl ne_b176_1_b182_2)
  replace F_b176_1_value := F_b176_1_value.other W (Or.inl ne_b176_1_b182_2)
  replace E_b182_2 := E_b182_2.wr W
  replace Z0 := Nat.le_trans Z0 (Nat.le_of_eq W.size.symm)
  replace N := Fr.snoc X.1 N g_b182_2
  replace Kp := Kp.wr W (Or.inr sz_b182_2)
  replace Od := Od.wr W g_b182_2
  refine g_dup X d2_190 (pc' := 191) rfl rfl ?_
  refine g_iconst X (1 : Int32) d2_191 (pc' := 192) rfl rfl ?_
  refine g_aloadN X d2_192 (pc' := 193) rfl rfl rfl ?_
  refine g_iconst X (4 : Int32) d2_193 (pc' := 194) rfl rfl ?_
  refine g_caload X V_w0 4 d2_194 (pc' := 195) rfl (by decide) (by decide) rfl ?_
  refine g_castore X V_b182_2 1 d2_195 (pc' := 196) rfl (by decide) (by decide) (Nat.le_of_ble_eq_true rfl) ?_
  intro T h X W V_b182_2
  replace V_b182_2 : Av Z h b182_2 .char [(.int (nar .char u5)), (.int (nar .char u4)), (.int (0 : Int32)), (.int (0 : Int32)), (.int (0 : Int32)), (.int (0 : Int32))] := V_b182_2
  replace V_w0 := V_w0.other W ne_w0_b182_2
  replace E_b176_1 := E_b176_1.wr W
  replace F_b176_1_coder := F_b176_1_coder.other W (Or.inl ne_b176_1_b182_2)
  replace F_b176_1_value := F_b176_1_value.other W (Or.inl ne_b176_1_b182_2)
  replace E_b182_2 := E_b182_2.wr W
  replace Z0 := Nat.le_trans Z0 (Nat.le_of_eq W.size.symm)
  replace N := Fr.snoc X.1 N g_b182_2
  replace Kp := Kp.wr W (Or.inr sz_b182_2)
  replace Od := Od.wr W g_b182_2
  refine g_dup X d2_196 (pc' := 197) rfl rfl ?_
  refine g_iconst X (2 : Int32) d2_197 (pc' := 198) rfl rfl ?_
  refine g_aloadN X d2_198 (pc' := 199) rfl rfl rfl ?_
  refine g_iconst X (3 : Int32) d2_199 (pc' := 200) rfl rfl ?_
  refine g_caload X V_w0 3 d2_200 (pc' := 201) rfl (by decide) (by decide) rfl ?_
  refine g_castore X V_b182_2 2 d2_201 (pc' := 202) rfl (by decide) (by decide) (Nat.le_of_ble_eq_true rfl) ?_
  intro T h X W V_b182_2
  replace V_b182_2 : Av Z h b182_2 .char [(.int (nar .char u5)), (.int (nar .char u4)), (.int (nar .char u3)), (.int (0 : Int32)), (.int (0 : Int32)), (.int (0 : Int32))] := V_b182_2
  replace V_w0 := V_w0.other W ne_w0_b182_2
  replace E_b176_1 := E_b176_1.wr W
  replace F_b176_1_coder := F_b176_1_coder.other W (Or.inl ne_b176_1_b182_2)
  replace F_b176_1_value := F_b176_1_value.other W (Or.inl ne_b176_1_b182_2)
  replace E_b182_2 := E_b182_2.wr W
  replace Z0 := Nat.le_trans Z0 (Nat.le_of_eq W.size.symm)
  replace N := Fr.snoc X.1 N g_b182_2
  replace Kp := Kp.wr W (Or.inr sz_b182_2)
  replace Od := Od.wr W g_b182_2
  refine g_dup X d2_202 (pc' := 203) rfl rfl ?_
  refine g_iconst X (3 : Int32) d2_203 (pc' := 204) rfl rfl ?_
  refine g_aloadN X d2_204 (pc' := 205) rfl rfl rfl ?_
  refine g_iconst X (2 : Int32) d2_205 (pc' := 206) rfl rfl ?_
  refine g_caload X V_w0 2 d2_206 (pc' := 207) rfl (by decide) (by decide) rfl ?_
  refine g_castore X V_b182_2 3 d2_207 (pc' := 208) rfl (by decide) (by decide) (Nat.le_of_ble_eq_true rfl) ?_
  intro T h X W V_b182_2
  replace V_b182_2 : Av Z h b182_2 .char [(.int (nar .char u5)), (.int (nar .char u4)), (.int (nar .char u3)), (.int (nar .char u2)), (.int (0 : Int32)), (.int (0 : Int32))] := V_b182_2
  replace V_w0 := V_w0.other W ne_w0_b182_2
  replace E_b176_1 := E_b176_1.wr W
  replace F_b176_1_coder := F_b176_1_coder.other W (Or.inl ne_b176_1_b182_2)
  replace F_b176_1_value := F_b176_1_value.other W (Or.inl ne_b176_1_b182_2)
  replace E_b182_2 := E_b182_2.wr W
  replace Z0 := Nat.le_trans Z0 (Nat.le_of_eq W.size.symm)
  replace N := Fr.snoc X.1 N g_b182_2
  replace Kp := Kp.wr W (Or.inr sz_b182_2)
  replace Od := Od.wr W g_b182_2
  refine g_dup X d2_208 (pc' := 209) rfl rfl ?_
  refine g_iconst X (4 : Int32) d2_209 (pc' := 210) rfl rfl ?_
  refine g_aloadN X d2_210 (pc' := 211) rfl rfl rfl ?_
  refine g_iconst X (1 : Int32) d2_211 (pc' := 212) rfl rfl ?_
  refine g_caload X V_w0 1 d2_212 (pc' := 213) rfl (by decide) (by decide) rfl ?_
  refine g_castore X V_b182_2 4 d2_213 (pc' := 214) rfl (by decide) (by decide) (Nat.le_of_ble_eq_true rfl) ?_
  intro T h X W V_b182_2
  replace V_b182_2 : Av Z h b182_2 .char [(.int (nar .char u5)), (.int (nar .char u4)), (.int (nar .char u3)), (.int (nar .char u2)), (.int (nar .char u1)), (.int (0 : Int32))] := V_b182_2
  replace V_w0 := V_w0.other W ne_w0_b182_2
  replace E_b176_1 := E_b176_1.wr W
  replace F_b176_1_coder := F_b176_1_coder.other W (Or.inl ne_b176_1_b182_2)
  replace F_b176_1_value := F_b176_1_value.other W (Or.inl ne_b176_1_b182_2)
  replace E_b182_2 := E_b182_2.wr W
  replace Z0 := Nat.le_trans Z0 (Nat.le_of_eq W.size.symm)
  replace N := Fr.snoc X.1 N g_b182_2
  replace Kp := Kp.wr W (Or.inr sz_b182_2)
  replace Od := Od.wr W g_b182_2
  refine g_dup X d2_214 (pc' := 215) rfl rfl ?_
  refine g_iconst X (5 : Int32) d2_215 (pc' := 216) rfl rfl ?_
  refine g_aloadN X d2_216 (pc' := 217) rfl rfl rfl ?_
  refine g_iconst X (0 : Int32) d2_217 (pc' := 218) rfl rfl ?_
  refine g_caload X V_w0 0 d2_218 (pc' := 219) rfl (by decide) (by decide) rfl ?_
  refine g_castore X V_b182_2 5 d2_219 (pc' := 220) rfl (by decide) (by decide) (Nat.le_of_ble_eq_true rfl) ?_
  intro T h X W V_b182_2
  replace V_b182_2 : Av Z h b182_2 .char [(.int (nar .char u5)), (.int (nar .char u4)), (.int (nar .char u3)), (.int (nar .char u2)), (.int (nar .char u1)), (.int (nar .char u0))] := V_b182_2
  replace V_w0 := V_w0.other W ne_w0_b182_2
  replace E_b176_1 := E_b176_1.wr W
  replace F_b176_1_coder := F_b176_1_coder.other W (Or.inl ne_b176_1_b182_2)
  replace F_b176_1_value := F_b176_1_value.other W (Or.inl ne_b176_1_b182_2)
  replace E_b182_2 := E_b182_2.wr W
  replace Z0 := Nat.le_trans Z0 (Nat.le_of_eq W.size.symm)
  replace N := Fr.snoc X.1 N g_b182_2
  replace Kp := Kp.wr W (Or.inr sz_b182_2)
  replace Od := Od.wr W g_b182_2
  refine g_specialB X (W := 1) (a := b176_1) [(.ref b182_2)] [(.ref b176_1)] rfl (tb hw 21 rfl) (tb hw 22 rfl) (tb hw 23 rfl) (Q := NewQ Z b176_1 ([(nar .char u5), (nar .char u4), (nar .char u3), (nar .char u2), (nar .char u1), (nar .char u0)] : List Int32) _ n0) (kc := 1) (ks := 6) (back_new (W := 1) (cs := ([(nar .char u5), (nar .char u4), (nar .char u3), (nar .char u2), (nar .char u1), (nar .char u0)] : List Int32)) X.2.2.2.2.2.1 hw g_b176_1 Z0 E_b176_1 F_b176_1_value F_b176_1_coder V_b182_2 rfl (fitS (fits_nar_char _) (fitS (fits_nar_char _) (fitS (fits_nar_char _) (fitS (fits_nar_char _) (fitS (fits_nar_char _) (fitS (fits_nar_char _) fit0)))))) (O2.ext Od.2) P5 rfl (by decide) (by decide) hp (by decide) (by decide)) d2_220 (pc' := 223) rfl (by decide) rfl rfl rfl (lenOf pd_0 rfl) (Nat.le_refl _) (by decide) (by decide) ?_
  intro v T L X q
  obtain ⟨rfl, Nq, Kq, St_b176_1⟩ := q
  replace N := N.app Nq
  replace V_w0 := V_w0.keep Kq (ninS ne_w0_b176_1 nin0)
  replace E_b182_2 := E_b182_2.keep Kq
  replace V_b182_2 := V_b182_2.keep Kq (ninS (Ne.symm ne_b176_1_b182_2) nin0)
  replace Od := Od.keep Kq (allS g_b176_1 all0)
  replace Z0 := Nat.le_trans Z0 Kq.1
  replace Kp := Kp.trans Kq (allS (Or.inr sz_b176_1) all0)
  have E_b176_1 := St_b176_1.1
  show Go p e below _ (T.setTop (mkF m 223 #[.val (.ref w0), .val (.int (6 : Int32))] [(.ref b176_1)]))
  refine g_areturn X rfl rfl d2_223 hret hlk (by decide) (by decide) ?_
  exact ⟨b176_1, rfl, N, Kp, St_b176_1⟩
theorem d2_224 : decode method_5_code 224 = .ok (.iload_n 1, 1) := by decide +kernel
theorem d2_225 : decode method_5_code 225 = .ok (.bipush 7, 2) := by decide +kernel
theorem d2_227 : decode method_5_code 227 = .ok (.if_icmp .ne 59, 3) := by decide +kernel
theorem d2_230 : decode method_5_code 230 = .ok (.new 41, 3) := by decide +kernel
theorem d2_233 : decode method_5_code 233 = .ok (.dup, 1) := by decide +kernel
theorem d2_234 : decode method_5_code 234 = .ok (.bipush 7, 2) := by decide +kernel
theorem d2_236 : decode method_5_code 236 = .ok (.newarray .char, 2) := by decide +kernel
theorem d2_238 : decode method_5_code 238 = .ok (.dup, 1) := by decide +kernel
theorem d2_239 : decode method_5_code 239 = .ok (.iconst 0, 1) := by decide +kernel
theorem d2_240 : decode method_5_code 240 = .ok (.aload_n 0, 1) := by decide +kernel
theorem d2_241 : decode method_5_code 241 = .ok (.bipush 6, 2) := by decide +kernel
theorem d2_243 : decode method_5_code 243 = .ok (.caload, 1) := by decide +kernel
theorem d2_244 : decode method_5_code 244 = .ok (.castore, 1) := by decide +kernel
theorem d2_245 : decode method_5_code 245 = .ok (.dup, 1) := by decide +kernel
theorem d2_246 : decode method_5_code 246 = .ok (.iconst 1, 1) := by decide +kernel
theorem d2_247 : decode method_5_code 247 = .ok (.aload_n 0, 1) := by decide +kernel
theorem d2_248 : decode method_5_code 248 = .ok (.iconst 5, 1) := by decide +kernel
theorem d2_249 : decode method_5_code 249 = .ok (.caload, 1) := by decide +kernel
theorem d2_250 : decode method_5_code 250 = .ok (.castore, 1) := by decide +kernel
theorem d2_251 : decode method_5_code 251 = .ok (.dup, 1) := by decide +kernel
theorem d2_252 : decode method_5_code 252 = .ok (.iconst 2, 1) := by decide +kernel
theorem d2_253 : decode method_5_code 253 = .ok (.aload_n 0, 1) := by decide +kernel
theorem d2_254 : decode method_5_code 254 = .ok (.iconst 4, 1) := by decide +kernel
theorem d2_255 : decode method_5_code 255 = .ok (.caload, 1) := by decide +kernel
theorem d2_256 : decode method_5_code 256 = .ok (.castore, 1) := by decide +kernel
theorem d2_257 : decode method_5_code 257 = .ok (.dup, 1) := by decide +kernel
theorem d2_258 : decode method_5_code 258 = .ok (.iconst 3, 1) := by decide +kernel
theorem d2_259 : decode method_5_code 259 = .ok (.aload_n 0, 1) := by decide +kernel
theorem d2_260 : decode method_5_code 260 = .ok (.iconst 3, 1) := by decide +kernel
theorem d2_261 : decode method_5_code 261 = .ok (.caload, 1) := by decide +kernel
theorem d2_262 : decode method_5_code 262 = .ok (.castore, 1) := by decide +kernel
theorem d2_263 : decode method_5_code 263 = .ok (.dup, 1) := by decide +kernel
theorem d2_264 : decode method_5_code 264 = .ok (.iconst 4, 1) := by decide +kernel
theorem d2_265 : decode method_5_code 265 = .ok (.aload_n 0, 1) := by decide +kernel
theorem d2_266 : decode method_5_code 266 = .ok (.iconst 2, 1) := by decide +kernel
theorem d2_267 : decode method_5_code 267 = .ok (.caload, 1) := by decide +kernel
theorem d2_268 : decode method_5_code 268 = .ok (.castore, 1) := by decide +kernel
theorem d2_269 : decode method_5_code 269 = .ok (.dup, 1) := by decide +kernel
theorem d2_270 : decode method_5_code 270 = .ok (.iconst 5, 1) := by decide +kernel
theorem d2_271 : decode method_5_code 271 = .ok (.aload_n 0, 1) := by decide +kernel
theorem d2_272 : decode method_5_code 272 = .ok (.iconst 1, 1) := by decide +kernel
theorem d2_273 : decode method_5_code 273 = .ok (.caload, 1) := by decide +kernel
theorem d2_274 : decode method_5_code 274 = .ok (.castore, 1) := by decide +kernel
theorem d2_275 : decode method_5_code 275 = .ok (.dup, 1) := by decide +kernel
theorem d2_276 : decode method_5_code 276 = .ok (.bipush 6, 2) := by decide +kernel
theorem d2_278 : decode method_5_code 278 = .ok (.aload_n 0, 1) := by decide +kernel
theorem d2_279 : decode method_5_code 279 = .ok (.iconst 0, 1) := by decide +kernel
theorem d2_280 : decode method_5_code 280 = .ok (.caload, 1) := by decide +kernel
theorem d2_281 : decode method_5_code 281 = .ok (.castore, 1) := by decide +kernel
theorem d2_282 : decode method_5_code 282 = .ok (.invokespecial 52, 3) := by decide +kernel
theorem d2_285 : decode method_5_code 285 = .ok (.areturn, 1) := by decide +kernel
theorem ef_rStr7 (m : MethodId) (x0 : Addr) (x1 : Int32) : entryFrame m #[(.ref x0), (.int x1)] 2 = mkF m 0 #[.val (.ref x0), .val (.int x1)] [] := by first | (simp [entryFrame, mkF, argsToLocals, Value.category]; done) | rfl
set_option maxRecDepth 65536 in
set_option maxHeartbeats 40000000 in
theorem rStr7 (l : Launch) (Z : State) (aa : Array Value) (hw : ∀ d ∈ tables_1, d.before aa Z = true) (ws : List Jvm.Cond) (w0 : Addr) (u0 : Int32) (u1 : Int32) (u2 : Int32) (u3 : Int32) (u4 : Int32) (u5 : Int32) (u6 : Int32) (u7 : Int32) (u8 : Int32) (u9 : Int32) (u10 : Int32) (u11 : Int32) (G1 : Int32) (h0 : Heap) (n0 : Nat) (Z0 : n0 ≤ h0.size) (V_w0 : Av Z h0 w0 .char [(.int u0), (.int u1), (.int u2), (.int u3), (.int u4), (.int u5), (.int u6), (.int u7), (.int u8), (.int u9), (.int u10), (.int u11)]) (hp : ∀ c ∈ ([(nar .char u6), (nar .char u5), (nar .char u4), (nar .char u3), (nar .char u2), (nar .char u1), (nar .char u0)] : List Int32), ¬ c < 0 ∧ ¬ (255 : Int32) < c) (O2 : Sta Z Z.heap "java/lang/String" "COMPACT_STRINGS" "Z" (.int G1)) (P5 : ¬ G1 = (0 : Int32)) (Od : Old Z n0 h0) :
    Rm l Z (⟨"com/example/grant/grant/WholeNumberParsePinLaw", "str", "([CI)Ljava/lang/String;"⟩ : MethodName) method_5_code 2 (some (.object "java/lang/String")) ws ({ frames := 4, cells := 3, slots := 18, locals := 66 } : Room) #[(.ref w0), (.int (7 : Int32))] h0 (fun v h L => ∃ x, v = some (.ref x) ∧ Fr n0 L ∧ Keep h0 h [] ∧ StrIs Z h x ([(nar .char u6), (nar .char u5), (nar .char u4), (nar .char u3), (nar .char u2), (nar .char u1), (nar .char u0)] : List Int32)) := by
  refine Rm.of (plainFor_of_name pn_0) ?_
  intro p e s m below meth cc T X hnm hret hlk
  refine Go.at_ (ef_rStr7 m w0 (7 : Int32)) ?_
  have N := Fr.nil n0
  have Kp := Keep.refl h0 []
  refine g_iloadN X d2_0 (pc' := 1) rfl rfl ?_
  refine g_iconst X (1 : Int32) d2_1 (pc' := 2) rfl rfl ?_
  refine g_icY X d2_2 (feq (show ¬ ((7 : Int32) = (1 : Int32)) from (by decide))).2 (pc' := 22) (by decide) (by decide) ?_
  refine g_iloadN X d2_22 (pc' := 23) rfl rfl ?_
  refine g_iconst X (2 : Int32) d2_23 (pc' := 24) rfl rfl ?_
  refine g_icY X d2_24 (feq (show ¬ ((7 : Int32) = (2 : Int32)) from (by decide))).2 (pc' := 50) (by decide) (by decide) ?_
  refine g_iloadN X d2_50 (pc' := 51) rfl rfl ?_
  refine g_iconst X (3 : Int32) d2_51 (pc' := 52) rfl rfl ?_
  refine g_icY X d2_52 (feq (show ¬ ((7 : Int32) = (3 : Int32)) from (by decide))).2 (pc' := 84) (by decide) (by decide) ?_
  refine g_iloadN X d2_84 (pc' := 85) rfl rfl ?_
  refine g_iconst X (4 : Int32) d2_85 (pc' := 86) rfl rfl ?_
  refine g_icY X d2_86 (feq (show ¬ ((7 : Int32) = (4 : Int32)) from (by decide))).2 (pc' := 124) (by decide) (by decide) ?_
  refine g_iloadN X d2_124 (pc' := 125) rfl rfl ?_
  refine g_iconst X (5 : Int32) d2_125 (pc' := 126) rfl rfl ?_
  refine g_icY X d2_126 (feq (show ¬ ((7 : Int32) = (5 : Int32)) from (by decide))).2 (pc' := 170) (by decide) (by decide) ?_
  refine g_iloadN X d2_170 (pc' := 171) rfl rfl ?_
  refine g_bipush X (6 : Int32) d2_171 (pc' := 173) rfl rfl ?_
  refine g_icY X d2_173 (feq (show ¬ ((7 : Int32) = (6 : Int32)) from (by decide))).2 (pc' := 224) (by decide) (by decide) ?_
  refine g_iloadN X d2_224 (pc' := 225) rfl rfl ?_
  refine g_bipush X (7 : Int32) d2_225 (pc' := 227) rfl rfl ?_
  refine g_icN X d2_227 (teq (show (7 : Int32) = (7 : Int32) from (by decide))).2 (pc' := 230) rfl ?_
  refine g_new X (tb hw 18 rfl) (tb hw 19 rfl) (tb hw 20 rfl) d2_230 (pc' := 233) rfl (by decide) (by decide) ?_
  intro T h b230_1 s_b230_1 X Ex E_b230_1 D_b230_1
  have ne_w0_b230_1 : w0 ≠ b230_1 := Nat.ne_of_lt (by rw [s_b230_1]; exact V_w0.lt)
  have g_b230_1 : n0 ≤ b230_1 := by rw [s_b230_1]; exact Z0
  have sz_b230_1 : h0.size ≤ b230_1 := by rw [s_b230_1]; exact Kp.1
  replace V_w0 := V_w0.ext Ex
  replace Z0 := Nat.le_trans Z0 Ex.1
  replace Kp := Kp.ext Ex
  replace Od := Od.ext Ex
  have F_b230_1_coder : Fld Z h b230_1 "java/lang/String" "coder" "B" (.int (0 : Int32)) := D_b230_1 (Or.inr (tb hw 44 rfl)) (ty := .byte) (by decide)
  have F_b230_1_value : Fld Z h b230_1 "java/lang/String" "value" "[B" .null := D_b230_1 (Or.inr (tb hw 46 rfl)) (ty := (.array .byte)) (by decide)
  refine g_dup X d2_233 (pc' := 234) rfl rfl ?_
  refine g_bipush X (7 : Int32) d2_234 (pc' := 236) rfl rfl ?_
  refine g_newarray X 7 (tb hw 1 rfl) d2_236 (pc' := 238) rfl (by decide) (by decide) 7 (by decide) (by decide) (by decide) (by decide) (vs := [(.int (0 : Int32)), (.int (0 : Int32)), (.int (0 : Int32)), (.int (0 : Int32)), (.int (0 : Int32)), (.int (0 : Int32)), (.int (0 : Int32))]) rfl (ad := "[C") (by decide) ?_
  intro T h b236_2 s_b236_2 X Ex E_b236_2 V_b236_2
  have ne_w0_b236_2 : w0 ≠ b236_2 := Nat.ne_of_lt (by rw [s_b236_2]; exact V_w0.lt)
  have ne_b230_1_b236_2 : b230_1 ≠ b236_2 := Nat.ne_of_lt (by rw [s_b236_2]; exact E_b230_1.lt)
  have g_b236_2 : n0 ≤ b236_2 := by rw [s_b236_2]; exact Z0
  have sz_b236_2 : h0.size ≤ b236_2 := by rw [s_b236_2]; exact Kp.1
  replace V_w0 := V_w0.ext Ex
  replace E_b230_1 := E_b230_1.ext Ex
  replace F_b230_1_coder := F_b230_1_coder.ext Ex
  replace F_b230_1_value := F_b230_1_value.ext Ex
  replace Z0 := Nat.le_trans Z0 Ex.1
  replace Kp := Kp.ext Ex
  replace Od := Od.ext Ex
  refine g_dup X d2_238 (pc' := 239) rfl rfl ?_
  refine g_iconst X (0 : Int32) d2_239 (pc' := 240) rfl rfl ?_
  refine g_aloadN X d2_240 (pc' := 241) rfl rfl rfl ?_
  refine g_bipush X (6 : Int32) d2_241 (pc' := 243) rfl rfl ?_
  refine g_caload X V_w0 6 d2_243 (pc' := 244) rfl (by decide) (by decide) rfl ?_
  refine g_castore X V_b236_2 0 d2_244 (pc' := 245) rfl (by decide) (by decide) (Nat.le_of_ble_eq_true rfl) ?_
  intro T h X W V_b236_2
  replace V_b236_2 : Av Z h b236_2 .char [(.int (nar .char u6)), (.int (0 : Int32)), (.int (0 : Int32)), (.int (0 : Int32)), (.int (0 : Int32)), (.int (0 : Int32)), (.int (0 : Int32))] := V_b236_2
  replace V_w0 := V_w0.other W ne_w0_b236_2
  replace E_b230_1 := E_b230_1.wr W
  replace F_b230_1_coder := F_b230_1_coder.other W (Or.inl ne_b230_1_b236_2)
  replace F_b230_1_value := F_b230_1_value.other W (Or.inl ne_b230_1_b236_2)
  replace E_b236_2 := E_b236_2.wr W
  replace Z0 := Nat.le_trans Z0 (Nat.le_of_eq W.size.symm)
  replace N := Fr.snoc X.1 N g_b236_2
  replace Kp := Kp.wr W (Or.inr sz_b236_2)
  replace Od := Od.wr W g_b236_2
  refine g_dup X d2_245 (pc' := 246) rfl rfl ?_
  refine g_iconst X (1 : Int32) d2_246 (pc' := 247) rfl rfl ?_
  refine g_aloadN X d2_247 (pc' := 248) rfl rfl rfl ?_
  refine g_iconst X (5 : Int32) d2_248 (pc' := 249) rfl rfl ?_
  refine g_caload X V_w0 5 d2_249 (pc' := 250) rfl (by decide) (by decide) rfl ?_
  refine g_castore X V_b236_2 1 d2_250 (pc' := 251) rfl (by decide) (by decide) (Nat.le_of_ble_eq_true rfl) ?_
  intro T h X W V_b236_2
  replace V_b236_2 : Av Z h b236_2 .char [(.int (nar .char u6)), (.int (nar .char u5)), (.int (0 : Int32)), (.int (0 : Int32)), (.int (0 : Int32)), (.int (0 : Int32)), (.int (0 : Int32))] := V_b236_2
  replace V_w0 := V_w0.other W ne_w0_b236_2
  replace E_b230_1 := E_b230_1.wr W
  replace F_b230_1_coder := F_b230_1_coder.other W (Or.inl ne_b230_1_b236_2)
  replace F_b230_1_value := F_b230_1_value.other W (Or.inl ne_b230_1_b236_2)
  replace E_b236_2 := E_b236_2.wr W
  replace Z0 := Nat.le_trans Z0 (Nat.le_of_eq W.size.symm)
  replace N := Fr.snoc X.1 N g_b236_2
  replace Kp := Kp.wr W (Or.inr sz_b236_2)
  replace Od := Od.wr W g_b236_2
  refine g_dup X d2_251 (pc' := 252) rfl rfl ?_
  refine g_iconst X (2 : Int32) d2_252 (pc' := 253) rfl rfl ?_
  refine g_aloadN X d2_253 (pc' := 254) rfl rfl rfl ?_
  refine g_iconst X (4 : Int32) d2_254 (pc' := 255) rfl rfl ?_
  refine g_caload X V_w0 4 d2_255 (pc' := 256) rfl (by decide) (by decide) rfl ?_
  refine g_castore X V_b236_2 2 d2_256 (pc' := 257) rfl (by decide) (by decide) (Nat.le_of_ble_eq_true rfl) ?_
  intro T h X W V_b236_2
  replace V_b236_2 : Av Z h b236_2 .char [(.int (nar .char u6)), (.int (nar .char u5)), (.int (nar .char u4)), (.int (0 : Int32)), (.int (0 : Int32)), (.int (0 : Int32)), (.int (0 : Int32))] := V_b236_2
  replace V_w0 := V_w0.other W ne_w0_b236_2
  replace E_b230_1 := E_b230_1.wr W
  replace F_b230_1_coder := F_b230_1_coder.other W (Or.inl ne_b230_1_b236_2)
  replace F_b230_1_value := F_b230_1_value.other W (Or.inl ne_b230_1_b236_2)
  replace E_b236_2 := E_b236_2.wr W
  replace Z0 := Nat.le_trans Z0 (Nat.le_of_eq W.size.symm)
  replace N := Fr.snoc X.1 N g_b236_2
  replace Kp := Kp.wr W (Or.inr sz_b236_2)
  replace Od := Od.wr W g_b236_2
  refine g_dup X d2_257 (pc' := 258) rfl rfl ?_
  refine g_iconst X (3 : Int32) d2_258 (pc' := 259) rfl rfl ?_
  refine g_aloadN X d2_259 (pc' := 260) rfl rfl rfl ?_
  refine g_iconst X (3 : Int32) d2_260 (pc' := 261) rfl rfl ?_
  refine g_caload X V_w0 3 d2_261 (pc' := 262) rfl (by decide) (by decide) rfl ?_
  refine g_castore X V_b236_2 3 d2_262 (pc' := 263) rfl (by decide) (by decide) (Nat.le_of_ble_eq_true rfl) ?_
  intro T h X W V_b236_2
  replace V_b236_2 : Av Z h b236_2 .char [(.int (nar .char u6)), (.int (nar .char u5)), (.int (nar .char u4)), (.int (nar .char u3)), (.int (0 : Int32)), (.int (0 : Int32)), (.int (0 : Int32))] := V_b236_2
  replace V_w0 := V_w0.other W ne_w0_b236_2
  replace E_b230_1 := E_b230_1.wr W
  replace F_b230_1_coder := F_b230_1_coder.other W (Or.inl ne_b230_1_b236_2)
  replace F_b230_1_value := F_b230_1_value.other W (Or.inl ne_b230_1_b236_2)
  replace E_b236_2 := E_b236_2.wr W
  replace Z0 := Nat.le_trans Z0 (Nat.le_of_eq W.size.symm)
  replace N := Fr.snoc X.1 N g_b236_2
  replace Kp := Kp.wr W (Or.inr sz_b236_2)
  replace Od := Od.wr W g_b236_2
  refine g_dup X d2_263 (pc' := 264) rfl rfl ?_
  refine g_iconst X (4 : Int32) d2_264 (pc' := 265) rfl rfl ?_
  refine g_aloadN X d2_265 (pc' := 266) rfl rfl rfl ?_
  refine g_iconst X (2 : Int32) d2_266 (pc' := 267) rfl rfl ?_
  refine g_caload X V_w0 2 d2_267 (pc' := 268) rfl (by decide) (by decide) rfl ?_
  refine g_castore X V_b236_2 4 d2_268 (pc' := 269) rfl (by decide) (by decide) (Nat.le_of_ble_eq_true rfl) ?_
  intro T h X W V_b236_2
  replace V_b236_2 : Av Z h b236_2 .char [(.int (nar .char u6)), (.int (nar .char u5)), (.int (nar .char u4)), (.int (nar .char u3)), (.int (nar .char u2)), (.int (0 : Int32)), (.int (0 : Int32))] := V_b236_2
  replace V_w0 := V_w0.other W ne_w0_b236_2
  replace E_b230_1 := E_b230_1.wr W
  replace F_b230_1_coder := F_b230_1_coder.other W (Or.inl ne_b230_1_b236_2)
  replace F_b230_1_value := F_b230_1_value.other W (Or.inl ne_b230_1_b236_2)
  replace E_b236_2 := E_b236_2.wr W
  replace Z0 := Nat.le_trans Z0 (Nat.le_of_eq W.size.symm)
  replace N := Fr.snoc X.1 N g_b236_2
  replace Kp := Kp.wr W (Or.inr sz_b236_2)
  replace Od := Od.wr W g_b236_2
  refine g_dup X d2_269 (pc' := 270) rfl rfl ?_
  refine g_iconst X (5 : Int32) d2_270 (pc' := 271) rfl rfl ?_
  refine g_aloadN X d2_271 (pc' := 272) rfl rfl rfl ?_
  refine g_iconst X (1 : Int32) d2_272 (pc' := 273) rfl rfl ?_
  refine g_caload X V_w0 1 d2_273 (pc' := 274) rfl (by decide) (by decide) rfl ?_
  refine g_castore X V_b236_2 5 d2_274 (pc' := 275) rfl (by decide) (by decide) (Nat.le_of_ble_eq_true rfl) ?_
  intro T h X W V_b236_2
  replace V_b236_2 : Av Z h b236_2 .char [(.int (nar .char u6)), (.int (nar .char u5)), (.int (nar .char u4)), (.int (nar .char u3)), (.int (nar .char u2)), (.int (nar .char u1)), (.int (0 : Int32))] := V_b236_2
  replace V_w0 := V_w0.other W ne_w0_b236_2
  replace E_b230_1 := E_b230_1.wr W
  replace F_b230_1_coder := F_b230_1_coder.other W (Or.inl ne_b230_1_b236_2)
  replace F_b230_1_value := F_b230_1_value.other W (Or.inl ne_b230_1_b236_2)
  replace E_b236_2 := E_b236_2.wr W
  replace Z0 := Nat.le_trans Z0 (Nat.le_of_eq W.size.symm)
  replace N := Fr.snoc X.1 N g_b236_2
  replace Kp := Kp.wr W (Or.inr sz_b236_2)
  replace Od := Od.wr W g_b236_2
  refine g_dup X d2_275 (pc' := 276) rfl rfl ?_
  refine g_bipush X (6 : Int32) d2_276 (pc' := 278) rfl rfl ?_
  refine g_aloadN X d2_278 (pc' := 279) rfl rfl rfl ?_
  refine g_iconst X (0 : Int32) d2_279 (pc' := 280) rfl rfl ?_
  refine g_caload X V_w0 0 d2_280 (pc' := 281) rfl (by decide) (by decide) rfl ?_
  refine g_castore X V_b236_2 6 d2_281 (pc' := 282) rfl (by decide) (by decide) (Nat.le_of_ble_eq_true rfl) ?_
  intro T h X W V_b236_2
  replace V_b236_2 : Av Z h b236_2 .char [(.int (nar .char u6)), (.int (nar .char u5)), (.int (nar .char u4)), (.int (nar .char u3)), (.int (nar .char u2)), (.int (nar .char u1)), (.int (nar .char u0))] := V_b236_2
  replace V_w0 := V_w0.other W ne_w0_b236_2
  replace E_b230_1 := E_b230_1.wr W
  replace F_b230_1_coder := F_b230_1_coder.other W (Or.inl ne_b230_1_b236_2)
  replace F_b230_1_value := F_b230_1_value.other W (Or.inl ne_b230_1_b236_2)
  replace E_b236_2 := E_b236_2.wr W
  replace Z0 := Nat.le_trans Z0 (Nat.le_of_eq W.size.symm)
  replace N := Fr.snoc X.1 N g_b236_2
  replace Kp := Kp.wr W (Or.inr sz_b236_2)
  replace Od := Od.wr W g_b236_2
  refine g_specialB X (W := 1) (a := b230_1) [(.ref b236_2)] [(.ref b230_1)] rfl (tb hw 21 rfl) (tb hw 22 rfl) (tb hw 23 rfl) (Q := NewQ Z b230_1 ([(nar .char u6), (nar .char u5), (nar .char u4), (nar .char u3), (nar .char u2), (nar .char u1), (nar .char u0)] : List Int32) _ n0) (kc := 1) (ks := 7) (back_new (W := 1) (cs := ([(nar .char u6), (nar .char u5), (nar .char u4), (nar .char u3), (nar .char u2), (nar .char u1), (nar .char u0)] : List Int32)) X.2.2.2.2.2.1 hw g_b230_1 Z0 E_b230_1 F_b230_1_value F_b230_1_coder V_b236_2 rfl (fitS (fits_nar_char _) (fitS (fits_nar_char _) (fitS (fits_nar_char _) (fitS (fits_nar_char _) (fitS (fits_nar_char _) (fitS (fits_nar_char _) (fitS (fits_nar_char _) fit0))))))) (O2.ext Od.2) P5 rfl (by decide) (by decide) hp (by decide) (by decide)) d2_282 (pc' := 285) rfl (by decide) rfl rfl rfl (lenOf pd_0 rfl) (Nat.le_refl _) (by decide) (by decide) ?_
  intro v T L X q
  obtain ⟨rfl, Nq, Kq, St_b230_1⟩ := q
  replace N := N.app Nq
  replace V_w0 := V_w0.keep Kq (ninS ne_w0_b230_1 nin0)
  replace E_b236_2 := E_b236_2.keep Kq
  replace V_b236_2 := V_b236_2.keep Kq (ninS (Ne.symm ne_b230_1_b236_2) nin0)
  replace Od := Od.keep Kq (allS g_b230_1 all0)
  replace Z0 := Nat.le_trans Z0 Kq.1
  replace Kp := Kp.trans Kq (allS (Or.inr sz_b230_1) all0)
  have E_b230_1 := St_b230_1.1
  show Go p e below _ (T.setTop (mkF m 285 #[.val (.ref w0), .val (.int (7 : Int32))] [(.ref b230_1)]))
  refine g_areturn X rfl rfl d2_285 hret hlk (by decide) (by decide) ?_
  exact ⟨b230_1, rfl, N, Kp, St_b230_1⟩
theorem d2_286 : decode method_5_code 286 = .ok (.iload_n 1, 1) := by decide +kernel
theorem d2_287 : decode method_5_code 287 = .ok (.bipush 8, 2) := by decide +kernel
theorem d2_289 : decode method_5_code 289 = .ok (.if_icmp .ne 67, 3) := by decide +kernel
theorem d2_292 : decode method_5_code 292 = .ok (.new 41, 3) := by decide +kernel
theorem d2_295 : decode method_5_code 295 = .ok (.dup, 1) := by decide +kernel
theorem d2_296 : decode method_5_code 296 = .ok (.bipush 8, 2) := by decide +kernel
theorem d2_298 : decode method_5_code 298 = .ok (.newarray .char, 2) := by decide +kernel
theorem d2_300 : decode method_5_code 300 = .ok (.dup, 1) := by decide +kernel
theorem d2_301 : decode method_5_code 301 = .ok (.iconst 0, 1) := by decide +kernel
theorem d2_302 : decode method_5_code 302 = .ok (.aload_n 0, 1) := by decide +kernel
theorem d2_303 : decode method_5_code 303 = .ok (.bipush 7, 2) := by decide +kernel
theorem d2_305 : decode method_5_code 305 = .ok (.caload, 1) := by decide +kernel
theorem d2_306 : decode method_5_code 306 = .ok (.castore, 1) := by decide +kernel
theorem d2_307 : decode method_5_code 307 = .ok (.dup, 1) := by decide +kernel
theorem d2_308 : decode method_5_code 308 = .ok (.iconst 1, 1) := by decide +kernel
theorem d2_309 : decode method_5_code 309 = .ok (.aload_n 0, 1) := by decide +kernel
theorem d2_310 : decode method_5_code 310 = .ok (.bipush 6, 2) := by decide +kernel
theorem d2_312 : decode method_5_code 312 = .ok (.caload, 1) := by decide +kernel
theorem d2_313 : decode method_5_code 313 = .ok (.castore, 1) := by decide +kernel
theorem d2_314 : decode method_5_code 314 = .ok (.dup, 1) := by decide +kernel
theorem d2_315 : decode method_5_code 315 = .ok (.iconst 2, 1) := by decide +kernel
theorem d2_316 : decode method_5_code 316 = .ok (.aload_n 0, 1) := by decide +kernel
theorem d2_317 : decode method_5_code 317 = .ok (.iconst 5, 1) := by decide +kernel
theorem d2_318 : decode method_5_code 318 = .ok (.caload, 1) := by decide +kernel
theorem d2_319 : decode method_5_code 319 = .ok (.castore, 1) := by decide +kernel
theorem d2_320 : decode method_5_code 320 = .ok (.dup, 1) := by decide +kernel
theorem d2_321 : decode method_5_code 321 = .ok (.iconst 3, 1) := by decide +kernel
theorem d2_322 : decode method_5_code 322 = .ok (.aload_n 0, 1) := by decide +kernel
theorem d2_323 : decode method_5_code 323 = .ok (.iconst 4, 1) := by decide +kernel
theorem d2_324 : decode method_5_code 324 = .ok (.caload, 1) := by decide +kernel
theorem d2_325 : decode method_5_code 325 = .ok (.castore, 1) := by decide +kernel
theorem d2_326 : decode method_5_code 326 = .ok (.dup, 1) := by decide +kernel
theorem d2_327 : decode method_5_code 327 = .ok (.iconst 4, 1) := by decide +kernel
theorem d2_328 : decode method_5_code 328 = .ok (.aload_n 0, 1) := by decide +kernel
theorem d2_329 : decode method_5_code 329 = .ok (.iconst 3, 1) := by decide +kernel
theorem d2_330 : decode method_5_code 330 = .ok (.caload, 1) := by decide +kernel
theorem d2_331 : decode method_5_code 331 = .ok (.castore, 1) := by decide +kernel
theorem d2_332 : decode method_5_code 332 = .ok (.dup, 1) := by decide +kernel
theorem d2_333 : decode method_5_code 333 = .ok (.iconst 5, 1) := by decide +kernel
theorem d2_334 : decode method_5_code 334 = .ok (.aload_n 0, 1) := by decide +kernel
theorem d2_335 : decode method_5_code 335 = .ok (.iconst 2, 1) := by decide +kernel
theorem d2_336 : decode method_5_code 336 = .ok (.caload, 1) := by decide +kernel
theorem d2_337 : decode method_5_code 337 = .ok (.castore, 1) := by decide +kernel
theorem d2_338 : decode method_5_code 338 = .ok (.dup, 1) := by decide +kernel
theorem d2_339 : decode method_5_code 339 = .ok (.bipush 6, 2) := by decide +kernel
theorem d2_341 : decode method_5_code 341 = .ok (.aload_n 0, 1) := by decide +kernel
theorem d2_342 : decode method_5_code 342 = .ok (.iconst 1, 1) := by decide +kernel
theorem d2_343 : decode method_5_code 343 = .ok (.caload, 1) := by decide +kernel
theorem d2_344 : decode method_5_code 344 = .ok (.castore, 1) := by decide +kernel
theorem d2_345 : decode method_5_code 345 = .ok (.dup, 1) := by decide +kernel
theorem d2_346 : decode method_5_code 346 = .ok (.bipush 7, 2) := by decide +kernel
theorem d2_348 : decode method_5_code 348 = .ok (.aload_n 0, 1) := by decide +kernel
theorem d2_349 : decode method_5_code 349 = .ok (.iconst 0, 1) := by decide +kernel
theorem d2_350 : decode method_5_code 350 = .ok (.caload, 1) := by decide +kernel
theorem d2_351 : decode method_5_code 351 = .ok (.castore, 1) := by decide +kernel
theorem d2_352 : decode method_5_code 352 = .ok (.invokespecial 52, 3) := by decide +kernel
theorem d2_355 : decode method_5_code 355 = .ok (.areturn, 1) := by decide +kernel
theorem ef_rStr8 (m : MethodId) (x0 : Addr) (x1 : Int32) : entryFrame m #[(.ref x0), (.int x1)] 2 = mkF m 0 #[.val (.ref x0), .val (.int x1)] [] := by first | (simp [entryFrame, mkF, argsToLocals, Value.category]; done) | rfl
set_option maxRecDepth 65536 in
set_option maxHeartbeats 40000000 in
theorem rStr8 (l : Launch) (Z : State) (aa : Array Value) (hw : ∀ d ∈ tables_1, d.before aa Z = true) (ws : List Jvm.Cond) (w0 : Addr) (u0 : Int32) (u1 : Int32) (u2 : Int32) (u3 : Int32) (u4 : Int32) (u5 : Int32) (u6 : Int32) (u7 : Int32) (u8 : Int32) (u9 : Int32) (u10 : Int32) (u11 : Int32) (G1 : Int32) (h0 : Heap) (n0 : Nat) (Z0 : n0 ≤ h0.size) (V_w0 : Av Z h0 w0 .char [(.int u0), (.int u1), (.int u2), (.int u3), (.int u4), (.int u5), (.int u6), (.int u7), (.int u8), (.int u9), (.int u10), (.int u11)]) (hp : ∀ c ∈ ([(nar .char u7), (nar .char u6), (nar .char u5), (nar .char u4), (nar .char u3), (nar .char u2), (nar .char u1), (nar .char u0)] : List Int32), ¬ c < 0 ∧ ¬ (255 : Int32) < c) (O2 : Sta Z Z.heap "java/lang/String" "COMPACT_STRINGS" "Z" (.int G1)) (P5 : ¬ G1 = (0 : Int32)) (Od : Old Z n0 h0) :
    Rm l Z (⟨"com/example/grant/grant/WholeNumberParsePinLaw", "str", "([CI)Ljava/lang/String;"⟩ : MethodName) method_5_code 2 (some (.object "java/lang/String")) ws ({ frames := 4, cells := 3, slots := 20, locals := 66 } : Room) #[(.ref w0), (.int (8 : Int32))] h0 (fun v h L => ∃ x, v = some (.ref x) ∧ Fr n0 L ∧ Keep h0 h [] ∧ StrIs Z h x ([(nar .char u7), (nar .char u6), (nar .char u5), (nar .char u4), (nar .char u3), (nar .char u2), (nar .char u1), (nar .char u0)] : List Int32)) := by
  refine Rm.of (plainFor_of_name pn_0) ?_
  intro p e s m below meth cc T X hnm hret hlk
  refine Go.at_ (ef_rStr8 m w0 (8 : Int32)) ?_
  have N := Fr.nil n0
  have Kp := Keep.refl h0 []
  refine g_iloadN X d2_0 (pc' := 1) rfl rfl ?_
  refine g_iconst X (1 : Int32) d2_1 (pc' := 2) rfl rfl ?_
  refine g_icY X d2_2 (feq (show ¬ ((8 : Int32) = (1 : Int32)) from (by decide))).2 (pc' := 22) (by decide) (by decide) ?_
  refine g_iloadN X d2_22 (pc' := 23) rfl rfl ?_
  refine g_iconst X (2 : Int32) d2_23 (pc' := 24) rfl rfl ?_
  refine g_icY X d2_24 (feq (show ¬ ((8 : Int32) = (2 : Int32)) from (by decide))).2 (pc' := 50) (by decide) (by decide) ?_
  refine g_iloadN X d2_50 (pc' := 51) rfl rfl ?_
  refine g_iconst X (3 : Int32) d2_51 (pc' := 52) rfl rfl ?_
  refine g_icY X d2_52 (feq (show ¬ ((8 : Int32) = (3 : Int32)) from (by decide))).2 (pc' := 84) (by decide) (by decide) ?_
  refine g_iloadN X d2_84 (pc' := 85) rfl rfl ?_
  refine g_iconst X (4 : Int32) d2_85 (pc' := 86) rfl rfl ?_
  refine g_icY X d2_86 (feq (show ¬ ((8 : Int32) = (4 : Int32)) from (by decide))).2 (pc' := 124) (by decide) (by decide) ?_
  refine g_iloadN X d2_124 (pc' := 125) rfl rfl ?_
  refine g_iconst X (5 : Int32) d2_125 (pc' := 126) rfl rfl ?_
  refine g_icY X d2_126 (feq (show ¬ ((8 : Int32) = (5 : Int32)) from (by decide))).2 (pc' := 170) (by decide) (by decide) ?_
  refine g_iloadN X d2_170 (pc' := 171) rfl rfl ?_
  refine g_bipush X (6 : Int32) d2_171 (pc' := 173) rfl rfl ?_
  refine g_icY X d2_173 (feq (show ¬ ((8 : Int32) = (6 : Int32)) from (by decide))).2 (pc' := 224) (by decide) (by decide) ?_
  refine g_iloadN X d2_224 (pc' := 225) rfl rfl ?_
  refine g_bipush X (7 : Int32) d2_225 (pc' := 227) rfl rfl ?_
  refine g_icY X d2_227 (feq (show ¬ ((8 : Int32) = (7 : Int32)) from (by decide))).2 (pc' := 286) (by decide) (by decide) ?_
  refine g_iloadN X d2_286 (pc' := 287) rfl rfl ?_
  refine g_bipush X (8 : Int32) d2_287 (pc' := 289) rfl rfl ?_
  refine g_icN X d2_289 (teq (show (8 : Int32) = (8 : Int32) from (by decide))).2 (pc' := 292) rfl ?_
  refine g_new X (tb hw 18 rfl) (tb hw 19 rfl) (tb hw 20 rfl) d2_292 (pc' := 295) rfl (by decide) (by decide) ?_
  intro T h b292_1 s_b292_1 X Ex E_b292_1 D_b292_1
  have ne_w0_b292_1 : w0 ≠ b292_1 := Nat.ne_of_lt (by rw [s_b292_1]; exact V_w0.lt)
  have g_b292_1 : n0 ≤ b292_1 := by rw [s_b292_1]; exact Z0
  have sz_b292_1 : h0.size ≤ b292_1 := by rw [s_b292_1]; exact Kp.1
  replace V_w0 := V_w0.ext Ex
  replace Z0 := Nat.le_trans Z0 Ex.1
  replace Kp := Kp.ext Ex
  replace Od := Od.ext Ex
  have F_b292_1_coder : Fld Z h b292_1 "java/lang/String" "coder" "B" (.int (0 : Int32)) := D_b292_1 (Or.inr (tb hw 44 rfl)) (ty := .byte) (by decide)
  have F_b292_1_value : Fld Z h b292_1 "java/lang/String" "value" "[B" .null := D_b292_1 (Or.inr (tb hw 46 rfl)) (ty := (.array .byte)) (by decide)
  refine g_dup X d2_295 (pc' := 296) rfl rfl ?_
  refine g_bipush X (8 : Int32) d2_296 (pc' := 298) rfl rfl ?_
  refine g_newarray X 8 (tb hw 1 rfl) d2_298 (pc' := 300) rfl (by decide) (by decide) 8 (by decide) (by decide) (by decide) (by decide) (vs := [(.int (0 : Int32)), (.int (0 : Int32)), (.int (0 : Int32)), (.int (0 : Int32)), (.int (0 : Int32)), (.int (0 : Int32)), (.int (0 : Int32)), (.int (0 : Int32))]) rfl (ad := "[C") (by decide) ?_
  intro T h b298_2 s_b298_2 X Ex E_b298_2 V_b298_2
  have ne_w0_b298_2 : w0 ≠ b298_2 := Nat.ne_of_lt (by rw [s_b298_2]; exact V_w0.lt)
  have ne_b292_1_b298_2 : b292_1 ≠ b298_2 := Nat.ne_of_lt (by rw [s_b298_2]; exact E_b292_1.lt)
  have g_b298_2 : n0 ≤ b298_2 := by rw [s_b298_2]; exact Z0
  have sz_b298_2 : h0.size ≤ b298_2 := by rw [s_b298_2]; exact Kp.1
  replace V_w0 := V_w0.ext Ex
  replace E_b292_1 := E_b292_1.ext Ex
  replace F_b292_1_coder := F_b292_1_coder.ext Ex
  replace F_b292_1_value := F_b292_1_value.ext Ex
  replace Z0 := Nat.le_trans Z0 Ex.1
  replace Kp := Kp.ext Ex
  replace Od := Od.ext Ex
  refine g_dup X d2_300 (pc' := 301) rfl rfl ?_
  refine g_iconst X (0 : Int32) d2_301 (pc' := 302) rfl rfl ?_
  refine g_aloadN X d2_302 (pc' := 303) rfl rfl rfl ?_
  refine g_bipush X (7 : Int32) d2_303 (pc' := 305) rfl rfl ?_
  refine g_caload X V_w0 7 d2_305 (pc' := 306) rfl (by decide) (by decide) rfl ?_
  refine g_castore X V_b298_2 0 d2_306 (pc' := 307) rfl (by decide) (by decide) (Nat.le_of_ble_eq_true rfl) ?_
  intro T h X W V_b298_2
  replace V_b298_2 : Av Z h b298_2 .char [(.int (nar .char u7)), (.int (0 : Int32)), (.int (0 : Int32)), (.int (0 : Int32)), (.int (0 : Int32)), (.int (0 : Int32)), (.int (0 : Int32)), (.int (0 : Int32))] := V_b298_2
  replace V_w0 := V_w0.other W ne_w0_b298_2
  replace E_b292_1 := E_b292_1.wr W
  replace F_b292_1_coder := F_b292_1_coder.other W (Or.inl ne_b292_1_b298_2)
  replace F_b292_1_value := F_b292_1_value.other W (Or.inl ne_b292_1_b298_2)
  replace E_b298_2 := E_b298_2.wr W
  replace Z0 := Nat.le_trans Z0 (Nat.le_of_eq W.size.symm)
  replace N := Fr.snoc X.1 N g_b298_2
  replace Kp := Kp.wr W (Or.inr sz_b298_2)
  replace Od := Od.wr W g_b298_2
  refine g_dup X d2_307 (pc' := 308) rfl rfl ?_
  refine g_iconst X (1 : Int32) d2_308 (pc' := 309) rfl rfl ?_
  refine g_aloadN X d2_309 (pc' := 310) rfl rfl rfl ?_
  refine g_bipush X (6 : Int32) d2_310 (pc' := 312) rfl rfl ?_
  refine g_caload X V_w0 6 d2_312 (pc' := 313) rfl (by decide) (by decide) rfl ?_
  refine g_castore X V_b298_2 1 d2_313 (pc' := 314) rfl (by decide) (by decide) (Nat.le_of_ble_eq_true rfl) ?_
  intro T h X W V_b298_2
  replace V_b298_2 : Av Z h b298_2 .char [(.int (nar .char u7)), (.int (nar .char u6)), (.int (0 : Int32)), (.int (0 : Int32)), (.int (0 : Int32)), (.int (0 : Int32)), (.int (0 : Int32)), (.int (0 : Int32))] := V_b298_2
  replace V_w0 := V_w0.other W ne_w0_b298_2
  replace E_b292_1 := E_b292_1.wr W
  replace F_b292_1_coder := F_b292_1_coder.other W (Or.inl ne_b292_1_b298_2)
  replace F_b292_1_value := F_b292_1_value.other W (Or.inl ne_b292_1_b298_2)
  replace E_b298_2 := E_b298_2.wr W
  replace Z0 := Nat.le_trans Z0 (Nat.le_of_eq W.size.symm)
  replace N := Fr.snoc X.1 N g_b298_2
  replace Kp := Kp.wr W (Or.inr sz_b298_2)
  replace Od := Od.wr W g_b298_2
  refine g_dup X d2_314 (pc' := 315) rfl rfl ?_
  refine g_iconst X (2 : Int32) d2_315 (pc' := 316) rfl rfl ?_
  refine g_aloadN X d2_316 (pc' := 317) rfl rfl rfl ?_
  refine g_iconst X (5 : Int32) d2_317 (pc' := 318) rfl rfl ?_
  refine g_caload X V_w0 5 d2_318 (pc' := 319) rfl (by decide) (by decide) rfl ?_
  refine g_castore X V_b298_2 2 d2_319 (pc' := 320) rfl (by decide) (by decide) (Nat.le_of_ble_eq_true rfl) ?_
  intro T h X W V_b298_2
  replace V_b298_2 : Av Z h b298_2 .char [(.int (nar .char u7)), (.int (nar .char u6)), (.int (nar .char u5)), (.int (0 : Int32)), (.int (0 : Int32)), (.int (0 : Int32)), (.int (0 : Int32)), (.int (0 : Int32))] := V_b298_2
  replace V_w0 := V_w0.other W ne_w0_b298_2
  replace E_b292_1 := E_b292_1.wr W
  replace F_b292_1_coder := F_b292_1_coder.other W (Or.inl ne_b292_1_b298_2)
  replace F_b292_1_value := F_b292_1_value.other W (Or.inl ne_b292_1_b298_2)
  replace E_b298_2 := E_b298_2.wr W
  replace Z0 := Nat.le_trans Z0 (Nat.le_of_eq W.size.symm)
  replace N := Fr.snoc X.1 N g_b298_2
  replace Kp := Kp.wr W (Or.inr sz_b298_2)
  replace Od := Od.wr W g_b298_2
  refine g_dup X d2_320 (pc' := 321) rfl rfl ?_
  refine g_iconst X (3 : Int32) d2_321 (pc' := 322) rfl rfl ?_
  refine g_aloadN X d2_322 (pc' := 323) rfl rfl rfl ?_
  refine g_iconst X (4 : Int32) d2_323 (pc' := 324) rfl rfl ?_
  refine g_caload X V_w0 4 d2_324 (pc' := 325) rfl (by decide) (by decide) rfl ?_
  refine g_castore X V_b298_2 3 d2_325 (pc' := 326) rfl (by decide) (by decide) (Nat.le_of_ble_eq_true rfl) ?_
  intro T h X W V_b298_2
  replace V_b298_2 : Av Z h b298_2 .char [(.int (nar .char u7)), (.int (nar .char u6)), (.int (nar .char u5)), (.int (nar .char u4)), (.int (0 : Int32)), (.int (0 : Int32)), (.int (0 : Int32)), (.int (0 : Int32))] := V_b298_2
  replace V_w0 := V_w0.other W ne_w0_b298_2
  replace E_b292_1 := E_b292_1.wr W
  replace F_b292_1_coder := F_b292_1_coder.other W (Or.inl ne_b292_1_b298_2)
  replace F_b292_1_value := F_b292_1_value.other W (Or.inl ne_b292_1_b298_2)
  replace E_b298_2 := E_b298_2.wr W
  replace Z0 := Nat.le_trans Z0 (Nat.le_of_eq W.size.symm)
  replace N := Fr.snoc X.1 N g_b298_2
  replace Kp := Kp.wr W (Or.inr sz_b298_2)
  replace Od := Od.wr W g_b298_2
  refine g_dup X d2_326 (pc' := 327) rfl rfl ?_
  refine g_iconst X (4 : Int32) d2_327 (pc' := 328) rfl rfl ?_
  refine g_aloadN X d2_328 (pc' := 329) rfl rfl rfl ?_
  refine g_iconst X (3 : Int32) d2_329 (pc' := 330) rfl rfl ?_
  refine g_caload X V_w0 3 d2_330 (pc' := 331) rfl (by decide) (by decide) rfl ?_
  refine g_castore X V_b298_2 4 d2_331 (pc' := 332) rfl (by decide) (by decide) (Nat.le_of_ble_eq_true rfl) ?_
  intro T h X W V_b298_2
  replace V_b298_2 : Av Z h b298_2 .char [(.int (nar .char u7)), (.int (nar .char u6)), (.int (nar .char u5)), (.int (nar .char u4)), (.int (nar .char u3)), (.int (0 : Int32)), (.int (0 : Int32)), (.int (0 : Int32))] := V_b298_2
  replace V_w0 := V_w0.other W ne_w0_b298_2
  replace E_b292_1 := E_b292_1.wr W
  replace F_b292_1_coder := F_b292_1_coder.other W (Or.inl ne_b292_1_b298_2)
  replace F_b292_1_value := F_b292_1_value.other W (Or.inl ne_b292_1_b298_2)
  replace E_b298_2 := E_b298_2.wr W
  replace Z0 := Nat.le_trans Z0 (Nat.le_of_eq W.size.symm)
  replace N := Fr.snoc X.1 N g_b298_2
  replace Kp := Kp.wr W (Or.inr sz_b298_2)
  replace Od := Od.wr W g_b298_2
  refine g_dup X d2_332 (pc' := 333) rfl rfl ?_
  refine g_iconst X (5 : Int32) d2_333 (pc' := 334) rfl rfl ?_
  refine g_aloadN X d2_334 (pc' := 335) rfl rfl rfl ?_
  refine g_iconst X (2 : Int32) d2_335 (pc' := 336) rfl rfl ?_
  refine g_caload X V_w0 2 d2_336 (pc' := 337) rfl (by decide) (by decide) rfl ?_
  refine g_castore X V_b298_2 5 d2_337 (pc' := 338) rfl (by decide) (by decide) (Nat.le_of_ble_eq_true rfl) ?_
  intro T h X W V_b298_2
  replace V_b298_2 : Av Z h b298_2 .char [(.int (nar .char u7)), (.int (nar .char u6)), (.int (nar .char u5)), (.int (nar .char u4)), (.int (nar .char u3)), (.int (nar .char u2)), (.int (0 : Int32)), (.int (0 : Int32))] := V_b298_2
  replace V_w0 := V_w0.other W ne_w0_b298_2
  replace E_b292_1 := E_b292_1.wr W
  replace F_b292_1_coder := F_b292_1_coder.other W (Or.inl ne_b292_1_b298_2)
  replace F_b292_1_value := F_b292_1_value.other W (Or.inl ne_b292_1_b298_2)
  replace E_b298_2 := E_b298_2.wr W
  replace Z0 := Nat.le_trans Z0 (Nat.le_of_eq W.size.symm)
  replace N := Fr.snoc X.1 N g_b298_2
  replace Kp := Kp.wr W (Or.inr sz_b298_2)
  replace Od := Od.wr W g_b298_2
  refine g_dup X d2_338 (pc' := 339) rfl rfl ?_
  refine g_bipush X (6 : Int32) d2_339 (pc' := 341) rfl rfl ?_
  refine g_aloadN X d2_341 (pc' := 342) rfl rfl rfl ?_
  refine g_iconst X (1 : Int32) d2_342 (pc' := 343) rfl rfl ?_
  refine g_caload X V_w0 1 d2_343 (pc' := 344) rfl (by decide) (by decide) rfl ?_
  refine g_castore X V_b298_2 6 d2_344 (pc' := 345) rfl (by decide) (by decide) (Nat.le_of_ble_eq_true rfl) ?_
  intro T h X W V_b298_2
  replace V_b298_2 : Av Z h b298_2 .char [(.int (nar .char u7)), (.int (nar .char u6)), (.int (nar .char u5)), (.int (nar .char u4)), (.int (nar .char u3)), (.int (nar .char u2)), (.int (nar .char u1)), (.int (0 : Int32))] := V_b298_2
  replace V_w0 := V_w0.other W ne_w0_b298_2
  replace E_b292_1 := E_b292_1.wr W
  replace F_b292_1_coder := F_b292_1_coder.other W (Or.inl ne_b292_1_b298_2)
  replace F_b292_1_value := F_b292_1_value.other W (Or.inl ne_b292_1_b298_2)
  replace E_b298_2 := E_b298_2.wr W
  replace Z0 := Nat.le_trans Z0 (Nat.le_of_eq W.size.symm)
  replace N := Fr.snoc X.1 N g_b298_2
  replace Kp := Kp.wr W (Or.inr sz_b298_2)
  replace Od := Od.wr W g_b298_2
  refine g_dup X d2_345 (pc' := 346) rfl rfl ?_
  refine g_bipush X (7 : Int32) d2_346 (pc' := 348) rfl rfl ?_
  refine g_aloadN X d2_348 (pc' := 349) rfl rfl rfl ?_
  refine g_iconst X (0 : Int32) d2_349 (pc' := 350) rfl rfl ?_
  refine g_caload X V_w0 0 d2_350 (pc' := 351) rfl (by decide) (by decide) rfl ?_
  refine g_castore X V_b298_2 7 d2_351 (pc' := 352) rfl (by decide) (by decide) (Nat.le_of_ble_eq_true rfl) ?_
  intro T h X W V_b298_2
  replace V_b298_2 : Av Z h b298_2 .char [(.int (nar .char u7)), (.int (nar .char u6)), (.int (nar .char u5)), (.int (nar .char u4)), (.int (nar .char u3)), (.int (nar .char u2)), (.int (nar .char u1)), (.int (nar .char u0))] := V_b298_2
  replace V_w0 := V_w0.other W ne_w0_b298_2
  replace E_b292_1 := E_b292_1.wr W
  replace F_b292_1_coder := F_b292_1_coder.other W (Or.inl ne_b292_1_b298_2)
  replace F_b292_1_value := F_b292_1_value.other W (Or.inl ne_b292_1_b298_2)
  replace E_b298_2 := E_b298_2.wr W
  replace Z0 := Nat.le_trans Z0 (Nat.le_of_eq W.size.symm)
  replace N := Fr.snoc X.1 N g_b298_2
  replace Kp := Kp.wr W (Or.inr sz_b298_2)
  replace Od := Od.wr W g_b298_2
  refine g_specialB X (W := 1) (a := b292_1) [(.ref b298_2)] [(.ref b292_1)] rfl (tb hw 21 rfl) (tb hw 22 rfl) (tb hw 23 rfl) (Q := NewQ Z b292_1 ([(nar .char u7), (nar .char u6), (nar .char u5), (nar .char u4), (nar .char u3), (nar .char u2), (nar .char u1), (nar .char u0)] : List Int32) _ n0) (kc := 1) (ks := 8) (back_new (W := 1) (cs := ([(nar .char u7), (nar .char u6), (nar .char u5), (nar .char u4), (nar .char u3), (nar .char u2), (nar .char u1), (nar .char u0)] : List Int32)) X.2.2.2.2.2.1 hw g_b292_1 Z0 E_b292_1 F_b292_1_value F_b292_1_coder V_b298_2 rfl (fitS (fits_nar_char _) (fitS (fits_nar_char _) (fitS (fits_nar_char _) (fitS (fits_nar_char _) (fitS (fits_nar_char _) (fitS (fits_nar_char _) (fitS (fits_nar_char _) (fitS (fits_nar_char _) fit0)))))))) (O2.ext Od.2) P5 rfl (by decide) (by decide) hp (by decide) (by decide)) d2_352 (pc' := 355) rfl (by decide) rfl rfl rfl (lenOf pd_0 rfl) (Nat.le_refl _) (by decide) (by decide) ?_
  intro v T L X q
  obtain ⟨rfl, Nq, Kq, St_b292_1⟩ := q
  replace N := N.app Nq
  replace V_w0 := V_w0.keep Kq (ninS ne_w0_b292_1 nin0)
  replace E_b298_2 := E_b298_2.keep Kq
  replace V_b298_2 := V_b298_2.keep Kq (ninS (Ne.symm ne_b292_1_b298_2) nin0)
  replace Od := Od.keep Kq (allS g_b292_1 all0)
  replace Z0 := Nat.le_trans Z0 Kq.1
  replace Kp := Kp.trans Kq (allS (Or.inr sz_b292_1) all0)
  have E_b292_1 := St_b292_1.1
  show Go p e below _ (T.setTop (mkF m 355 #[.val (.ref w0), .val (.int (8 : Int32))] [(.ref b292_1)]))
  refine g_areturn X rfl rfl d2_355 hret hlk (by decide) (by decide) ?_
  exact ⟨b292_1, rfl, N, Kp, St_b292_1⟩
theorem d2_356 : decode method_5_code 356 = .ok (.iload_n 1, 1) := by decide +kernel
theorem d2_357 : decode method_5_code 357 = .ok (.bipush 9, 2) := by decide +kernel
theorem d2_359 : decode method_5_code 359 = .ok (.if_icmp .ne 75, 3) := by decide +kernel
theorem d2_362 : decode method_5_code 362 = .ok (.new 41, 3) := by decide +kernel
theorem d2_365 : decode method_5_code 365 = .ok (.dup, 1) := by decide +kernel
theorem d2_366 : decode method_5_code 366 = .ok (.bipush 9, 2) := by decide +kernel
theorem d2_368 : decode method_5_code 368 = .ok (.newarray .char, 2) := by decide +kernel
theorem d2_370 : decode method_5_code 370 = .ok (.dup, 1) := by decide +kernel
theorem d2_371 : decode method_5_code 371 = .ok (.iconst 0, 1) := by decide +kernel
theorem d2_372 : decode method_5_code 372 = .ok (.aload_n 0, 1) := by decide +kernel
theorem d2_373 : decode method_5_code 373 = .ok (.bipush 8, 2) := by decide +kernel
theorem d2_375 : decode method_5_code 375 = .ok (.caload, 1) := by decide +kernel
theorem d2_376 : decode method_5_code 376 = .ok (.castore, 1) := by decide +kernel
theorem d2_377 : decode method_5_code 377 = .ok (.dup, 1) := by decide +kernel
theorem d2_378 : decode method_5_code 378 = .ok (.iconst 1, 1) := by decide +kernel
theorem d2_379 : decode method_5_code 379 = .ok (.aload_n 0, 1) := by decide +kernel
theorem d2_380 : decode method_5_code 380 = .ok (.bipush 7, 2) := by decide +kernel
theorem d2_382 : decode method_5_code 382 = .ok (.caload, 1) := by decide +kernel
theorem d2_383 : decode method_5_code 383 = .ok (.castore, 1) := by decide +kernel
theorem d2_384 : decode method_5_code 384 = .ok (.dup, 1) := by decide +kernel
theorem d2_385 : decode method_5_code 385 = .ok (.iconst 2, 1) := by decide +kernel
theorem d2_386 : decode method_5_code 386 = .ok (.aload_n 0, 1) := by decide +kernel
theorem d2_387 : decode method_5_code 387 = .ok (.bipush 6, 2) := by decide +kernel
theorem d2_389 : decode method_5_code 389 = .ok (.caload, 1) := by decide +kernel
theorem d2_390 : decode method_5_code 390 = .ok (.castore, 1) := by decide +kernel
theorem d2_391 : decode method_5_code 391 = .ok (.dup, 1) := by decide +kernel
theorem d2_392 : decode method_5_code 392 = .ok (.iconst 3, 1) := by decide +kernel
theorem d2_393 : decode method_5_code 393 = .ok (.aload_n 0, 1) := by decide +kernel
theorem d2_394 : decode method_5_code 394 = .ok (.iconst 5, 1) := by decide +kernel
theorem d2_395 : decode method_5_code 395 = .ok (.caload, 1) := by decide +kernel
theorem d2_396 : decode method_5_code 396 = .ok (.castore, 1) := by decide +kernel
theorem d2_397 : decode method_5_code 397 = .ok (.dup, 1) := by decide +kernel
theorem d2_398 : decode method_5_code 398 = .ok (.iconst 4, 1) := by decide +kernel
theorem d2_399 : decode method_5_code 399 = .ok (.aload_n 0, 1) := by decide +kernel
theorem d2_400 : decode method_5_code 400 = .ok (.iconst 4, 1) := by decide +kernel
theorem d2_401 : decode method_5_code 401 = .ok (.caload, 1) := by decide +kernel
theorem d2_402 : decode method_5_code 402 = .ok (.castore, 1) := by decide +kernel
theorem d2_403 : decode method_5_code 403 = .ok (.dup, 1) := by decide +kernel
theorem d2_404 : decode method_5_code 404 = .ok (.iconst 5, 1) := by decide +kernel
theorem d2_405 : decode method_5_code 405 = .ok (.aload_n 0, 1) := by decide +kernel
theorem d2_406 : decode method_5_code 406 = .ok (.iconst 3, 1) := by decide +kernel
theorem d2_407 : decode method_5_code 407 = .ok (.caload, 1) := by decide +kernel
theorem d2_408 : decode method_5_code 408 = .ok (.castore, 1) := by decide +kernel
theorem d2_409 : decode method_5_code 409 = .ok (.dup, 1) := by decide +kernel
theorem d2_410 : decode method_5_code 410 = .ok (.bipush 6, 2) := by decide +kernel
theorem d2_412 : decode method_5_code 412 = .ok (.aload_n 0, 1) := by decide +kernel
theorem d2_413 : decode method_5_code 413 = .ok (.iconst 2, 1) := by decide +kernel
theorem d2_414 : decode method_5_code 414 = .ok (.caload, 1) := by decide +kernel
theorem d2_415 : decode method_5_code 415 = .ok (.castore, 1) := by decide +kernel
theorem d2_416 : decode method_5_code 416 = .ok (.dup, 1) := by decide +kernel
theorem d2_417 : decode method_5_code 417 = .ok (.bipush 7, 2) := by decide +kernel
theorem d2_419 : decode method_5_code 419 = .ok (.aload_n 0, 1) := by decide +kernel
theorem d2_420 : decode method_5_code 420 = .ok (.iconst 1, 1) := by decide +kernel
theorem d2_421 : decode method_5_code 421 = .ok (.caload, 1) := by decide +kernel
theorem d2_422 : decode method_5_code 422 = .ok (.castore, 1) := by decide +kernel
theorem d2_423 : decode method_5_code 423 = .ok (.dup, 1) := by decide +kernel
theorem d2_424 : decode method_5_code 424 = .ok (.bipush 8, 2) := by decide +kernel
theorem d2_426 : decode method_5_code 426 = .ok (.aload_n 0, 1) := by decide +kernel
theorem d2_427 : decode method_5_code 427 = .ok (.iconst 0, 1) := by decide +kernel
theorem d2_428 : decode method_5_code 428 = .ok (.caload, 1) := by decide +kernel
theorem d2_429 : decode method_5_code 429 = .ok (.castore, 1) := by decide +kernel
theorem d2_430 : decode method_5_code 430 = .ok (.invokespecial 52, 3) := by decide +kernel
theorem d2_433 : decode method_5_code 433 = .ok (.areturn, 1) := by decide +kernel
theorem ef_rStr9 (m : MethodId) (x0 : Addr) (x1 : Int32) : entryFrame m #[(.ref x0), (.int x1)] 2 = mkF m 0 #[.val (.ref x0), .val (.int x1)] [] := by first | (simp [entryFrame, mkF, argsToLocals, Value.category]; done) | rfl
set_option maxRecDepth 65536 in
set_option maxHeartbeats 40000000 in
theorem rStr9 (l : Launch) (Z : State) (aa : Array Value) (hw : ∀ d ∈ tables_1, d.before aa Z = true) (ws : List Jvm.Cond) (w0 : Addr) (u0 : Int32) (u1 : Int32) (u2 : Int32) (u3 : Int32) (u4 : Int32) (u5 : Int32) (u6 : Int32) (u7 : Int32) (u8 : Int32) (u9 : Int32) (u10 : Int32) (u11 : Int32) (G1 : Int32) (h0 : Heap) (n0 : Nat) (Z0 : n0 ≤ h0.size) (V_w0 : Av Z h0 w0 .char [(.int u0), (.int u1), (.int u2), (.int u3), (.int u4), (.int u5), (.int u6), (.int u7), (.int u8), (.int u9), (.int u10), (.int u11)]) (hp : ∀ c ∈ ([(nar .char u8), (nar .char u7), (nar .char u6), (nar .char u5), (nar .char u4), (nar .char u3), (nar .char u2), (nar .char u1), (nar .char u0)] : List Int32), ¬ c < 0 ∧ ¬ (255 : Int32) < c) (O2 : Sta Z Z.heap "java/lang/String" "COMPACT_STRINGS" "Z" (.int G1)) (P5 : ¬ G1 = (0 : Int32)) (Od : Old Z n0 h0) :
    Rm l Z (⟨"com/example/grant/grant/WholeNumberParsePinLaw", "str", "([CI)Ljava/lang/String;"⟩ : MethodName) method_5_code 2 (some (.object "java/lang/String")) ws ({ frames := 4, cells := 3, slots := 22, locals := 66 } : Room) #[(.ref w0), (.int (9 : Int32))] h0 (fun v h L => ∃ x, v = some (.ref x) ∧ Fr n0 L ∧ Keep h0 h [] ∧ StrIs Z h x ([(nar .char u8), (nar .char u7), (nar .char u6), (nar .char u5), (nar .char u4), (nar .char u3), (nar .char u2), (nar .char u1), (nar .char u0)] : List Int32)) := by
  refine Rm.of (plainFor_of_name pn_0) ?_
  intro p e s m below meth cc T X hnm hret hlk
  refine Go.at_ (ef_rStr9 m w0 (9 : Int32)) ?_
  have N := Fr.nil n0
  have Kp := Keep.refl h0 []
  refine g_iloadN X d2_0 (pc' := 1) rfl rfl ?_
  refine g_iconst X (1 : Int32) d2_1 (pc' := 2) rfl rfl ?_
  refine g_icY X d2_2 (feq (show ¬ ((9 : Int32) = (1 : Int32)) from (by decide))).2 (pc' := 22) (by decide) (by decide) ?_
  refine g_iloadN X d2_22 (pc' := 23) rfl rfl ?_
  refine g_iconst X (2 : Int32) d2_23 (pc' := 24) rfl rfl ?_
  refine g_icY X d2_24 (feq (show ¬ ((9 : Int32) = (2 : Int32)) from (by decide))).2 (pc' := 50) (by decide) (by decide) ?_
  refine g_iloadN X d2_50 (pc' := 51) rfl rfl ?_
  refine g_iconst X (3 : Int32) d2_51 (pc' := 52) rfl rfl ?_
  refine g_icY X d2_52 (feq (show ¬ ((9 : Int32) = (3 : Int32)) from (by decide))).2 (pc' := 84) (by decide) (by decide) ?_
  refine g_iloadN X d2_84 (pc' := 85) rfl rfl ?_
  refine g_iconst X (4 : Int32) d2_85 (pc' := 86) rfl rfl ?_
  refine g_icY X d2_86 (feq (show ¬ ((9 : Int32) = (4 : Int32)) from (by decide))).2 (pc' := 124) (by decide) (by decide) ?_
  refine g_iloadN X d2_124 (pc' := 125) rfl rfl ?_
  refine g_iconst X (5 : Int32) d2_125 (pc' := 126) rfl rfl ?_
  refine g_icY X d2_126 (feq (show ¬ ((9 : Int32) = (5 : Int32)) from (by decide))).2 (pc' := 170) (by decide) (by decide) ?_
  refine g_iloadN X d2_170 (pc' := 171) rfl rfl ?_
  refine g_bipush X (6 : Int32) d2_171 (pc' := 173) rfl rfl ?_
  refine g_icY X d2_173 (feq (show ¬ ((9 : Int32) = (6 : Int32)) from (by decide))).2 (pc' := 224) (by decide) (by decide) ?_
  refine g_iloadN X d2_224 (pc' := 225) rfl rfl ?_
  refine g_bipush X (7 : Int32) d2_225 (pc' := 227) rfl rfl ?_
  refine g_icY X d2_227 (feq (show ¬ ((9 : Int32) = (7 : Int32)) from (by decide))).2 (pc' := 286) (by decide) (by decide) ?_
  refine g_iloadN X d2_286 (pc' := 287) rfl rfl ?_
  refine g_bipush X (8 : Int32) d2_287 (pc' := 289) rfl rfl ?_
  refine g_icY X d2_289 (feq (show ¬ ((9 : Int32) = (8 : Int32)) from (by decide))).2 (pc' := 356) (by decide) (by decide) ?_
  refine g_iloadN X d2_356 (pc' := 357) rfl rfl ?_
  refine g_bipush X (9 : Int32) d2_357 (pc' := 359) rfl rfl ?_
  refine g_icN X d2_359 (teq (show (9 : Int32) = (9 : Int32) from (by decide))).2 (pc' := 362) rfl ?_
  refine g_new X (tb hw 18 rfl) (tb hw 19 rfl) (tb hw 20 rfl) d2_362 (pc' := 365) rfl (by decide) (by decide) ?_
  intro T h b362_1 s_b362_1 X Ex E_b362_1 D_b362_1
  have ne_w0_b362_1 : w0 ≠ b362_1 := Nat.ne_of_lt (by rw [s_b362_1]; exact V_w0.lt)
  have g_b362_1 : n0 ≤ b362_1 := by rw [s_b362_1]; exact Z0
  have sz_b362_1 : h0.size ≤ b362_1 := by rw [s_b362_1]; exact Kp.1
  replace V_w0 := V_w0.ext Ex
  replace Z0 := Nat.le_trans Z0 Ex.1
  replace Kp := Kp.ext Ex
  replace Od := Od.ext Ex
  have F_b362_1_coder : Fld Z h b362_1 "java/lang/String" "coder" "B" (.int (0 : Int32)) := D_b362_1 (Or.inr (tb hw 44 rfl)) (ty := .byte) (by decide)
  have F_b362_1_value : Fld Z h b362_1 "java/lang/String" "value" "[B" .null := D_b362_1 (Or.inr (tb hw 46 rfl)) (ty := (.array .byte)) (by decide)
  refine g_dup X d2_365 (pc' := 366) rfl rfl ?_
  refine g_bipush X (9 : Int32) d2_366 (pc' := 368) rfl rfl ?_
  refine g_newarray X 9 (tb hw 1 rfl) d2_368 (pc' := 370) rfl (by decide) (by decide) 9 (by decide) (by decide) (by decide) (by decide) (vs := [(.int (0 : Int32)), (.int (0 : Int32)), (.int (0 : Int32)), (.int (0 : Int32)), (.int (0 : Int32)), (.int (0 : Int32)), (.int (0 : Int32)), (.int (0 : Int32)), (.int (0 : Int32))]) rfl (ad := "[C") (by decide) ?_
  intro T h b368_2 s_b368_2 X Ex E_b368_2 V_b368_2
  have ne_w0_b368_2 : w0 ≠ b368_2 := Nat.ne_of_lt (by rw [s_b368_2]; exact V_w0.lt)
  have ne_b362_1_b368_2 : b362_1 ≠ b368_2 := Nat.ne_of_lt (by rw [s_b368_2]; exact E_b362_1.lt)
  have g_b368_2 : n0 ≤ b368_2 := by rw [s_b368_2]; exact Z0
  have sz_b368_2 : h0.size ≤ b368_2 := by rw [s_b368_2]; exact Kp.1
  replace V_w0 := V_w0.ext Ex
  replace E_b362_1 := E_b362_1.ext Ex
  replace F_b362_1_coder := F_b362_1_coder.ext Ex
  replace F_b362_1_value := F_b362_1_value.ext Ex
  replace Z0 := Nat.le_trans Z0 Ex.1
  replace Kp := Kp.ext Ex
  replace Od := Od.ext Ex
  refine g_dup X d2_370 (pc' := 371) rfl rfl ?_
  refine g_iconst X (0 : Int32) d2_371 (pc' := 372) rfl rfl ?_
  refine g_aloadN X d2_372 (pc' := 373) rfl rfl rfl ?_
  refine g_bipush X (8 : Int32) d2_373 (pc' := 375) rfl rfl ?_
  refine g_caload X V_w0 8 d2_375 (pc' := 376) rfl (by decide) (by decide) rfl ?_
  refine g_castore X V_b368_2 0 d2_376 (pc' := 377) rfl (by decide) (by decide) (Nat.le_of_ble_eq_true rfl) ?_
  intro T h X W V_b368_2
  replace V_b368_2 : Av Z h b368_2 .char [(.int (nar .char u8)), (.int (0 : Int32)), (.int (0 : Int32)), (.int (0 : Int32)), (.int (0 : Int32)), (.int (0 : Int32)), (.int (0 : Int32)), (.int (0 : Int32)), (.int (0 : Int32))] := V_b368_2
  replace V_w0 := V_w0.other W ne_w0_b368_2
  replace E_b362_1 := E_b362_1.wr W
  replace F_b362_1_coder := F_b362_1_coder.other W (Or.inl ne_b362_1_b368_2)
  replace F_b362_1_value := F_b362_1_value.other W (Or.inl ne_b362_1_b368_2)
  replace E_b368_2 := E_b368_2.wr W
  replace Z0 := Nat.le_trans Z0 (Nat.le_of_eq W.size.symm)
  replace N := Fr.snoc X.1 N g_b368_2
  replace Kp := Kp.wr W (Or.inr sz_b368_2)
  replace Od := Od.wr W g_b368_2
  refine g_dup X d2_377 (pc' := 378) rfl rfl ?_
  refine g_iconst X (1 : Int32) d2_378 (pc' := 379) rfl rfl ?_
  refine g_aloadN X d2_379 (pc' := 380) rfl rfl rfl ?_
  refine g_bipush X (7 : Int32) d2_380 (pc' := 382) rfl rfl ?_
  refine g_caload X V_w0 7 d2_382 (pc' := 383) rfl (by decide) (by decide) rfl ?_
  refine g_castore X V_b368_2 1 d2_383 (pc' := 384) rfl (by decide) (by decide) (Nat.le_of_ble_eq_true rfl) ?_
  intro T h X W V_b368_2
  replace V_b368_2 : Av Z h b368_2 .char [(.int (nar .char u8)), (.int (nar .char u7)), (.int (0 : Int32)), (.int (0 : Int32)), (.int (0 : Int32)), (.int (0 : Int32)), (.int (0 : Int32)), (.int (0 : Int32)), (.int (0 : Int32))] := V_b368_2
  replace V_w0 := V_w0.other W ne_w0_b368_2
  replace E_b362_1 := E_b362_1.wr W
  replace F_b362_1_coder := F_b362_1_coder.other W (Or.inl ne_b362_1_b368_2)
  replace F_b362_1_value := F_b362_1_value.other W (Or.inl ne_b362_1_b368_2)
  replace E_b368_2 := E_b368_2.wr W
  replace Z0 := Nat.le_trans Z0 (Nat.le_of_eq W.size.symm)
  replace N := Fr.snoc X.1 N g_b368_2
  replace Kp := Kp.wr W (Or.inr sz_b368_2)
  replace Od := Od.wr W g_b368_2
  refine g_dup X d2_384 (pc' := 385) rfl rfl ?_
  refine g_iconst X (2 : Int32) d2_385 (pc' := 386) rfl rfl ?_
  refine g_aloadN X d2_386 (pc' := 387) rfl rfl rfl ?_
  refine g_bipush X (6 : Int32) d2_387 (pc' := 389) rfl rfl ?_
  refine g_caload X V_w0 6 d2_389 (pc' := 390) rfl (by decide) (by decide) rfl ?_
  refine g_castore X V_b368_2 2 d2_390 (pc' := 391) rfl (by decide) (by decide) (Nat.le_of_ble_eq_true rfl) ?_
  intro T h X W V_b368_2
  replace V_b368_2 : Av Z h b368_2 .char [(.int (nar .char u8)), (.int (nar .char u7)), (.int (nar .char u6)), (.int (0 : Int32)), (.int (0 : Int32)), (.int (0 : Int32)), (.int (0 : Int32)), (.int (0 : Int32)), (.int (0 : Int32))] := V_b368_2
  replace V_w0 := V_w0.other W ne_w0_b368_2
  replace E_b362_1 := E_b362_1.wr W
  replace F_b362_1_coder := F_b362_1_coder.other W (Or.inl ne_b362_1_b368_2)
  replace F_b362_1_value := F_b362_1_value.other W (Or.inl ne_b362_1_b368_2)
  replace E_b368_2 := E_b368_2.wr W
  replace Z0 := Nat.le_trans Z0 (Nat.le_of_eq W.size.symm)
  replace N := Fr.snoc X.1 N g_b368_2
  replace Kp := Kp.wr W (Or.inr sz_b368_2)
  replace Od := Od.wr W g_b368_2
  refine g_dup X d2_391 (pc' := 392) rfl rfl ?_
  refine g_iconst X (3 : Int32) d2_392 (pc' := 393) rfl rfl ?_
  refine g_aloadN X d2_393 (pc' := 394) rfl rfl rfl ?_
  refine g_iconst X (5 : Int32) d2_394 (pc' := 395) rfl rfl ?_
  refine g_caload X V_w0 5 d2_395 (pc' := 396) rfl (by decide) (by decide) rfl ?_
  refine g_castore X V_b368_2 3 d2_396 (pc' := 397) rfl (by decide) (by decide) (Nat.le_of_ble_eq_true rfl) ?_
  intro T h X W V_b368_2
  replace V_b368_2 : Av Z h b368_2 .char [(.int (nar .char u8)), (.int (nar .char u7)), (.int (nar .char u6)), (.int (nar .char u5)), (.int (0 : Int32)), (.int (0 : Int32)), (.int (0 : Int32)), (.int (0 : Int32)), (.int (0 : Int32))] := V_b368_2
  replace V_w0 := V_w0.other W ne_w0_b368_2
  replace E_b362_1 := E_b362_1.wr W
  replace F_b362_1_coder := F_b362_1_coder.other W (Or.inl ne_b362_1_b368_2)
  replace F_b362_1_value := F_b362_1_value.other W (Or.inl ne_b362_1_b368_2)
  replace E_b368_2 := E_b368_2.wr W
  replace Z0 := Nat.le_trans Z0 (Nat.le_of_eq W.size.symm)
  replace N := Fr.snoc X.1 N g_b368_2
  replace Kp := Kp.wr W (Or.inr sz_b368_2)
  replace Od := Od.wr W g_b368_2
  refine g_dup X d2_397 (pc' := 398) rfl rfl ?_
  refine g_iconst X (4 : Int32) d2_398 (pc' := 399) rfl rfl ?_
  refine g_aloadN X d2_399 (pc' := 400) rfl rfl rfl ?_
  refine g_iconst X (4 : Int32) d2_400 (pc' := 401) rfl rfl ?_
  refine g_caload X V_w0 4 d2_401 (pc' := 402) rfl (by decide) (by decide) rfl ?_
  refine g_castore X V_b368_2 4 d2_402 (pc' := 403) rfl (by decide) (by decide) (Nat.le_of_ble_eq_true rfl) ?_
  intro T h X W V_b368_2
  replace V_b368_2 : Av Z h b368_2 .char [(.int (nar .char u8)), (.int (nar .char u7)), (.int (nar .char u6)), (.int (nar .char u5)), (.int (nar .char u4)), (.int (0 : Int32)), (.int (0 : Int32)), (.int (0 : Int32)), (.int (0 : Int32))] := V_b368_2
  replace V_w0 := V_w0.other W ne_w0_b368_2
  replace E_b362_1 := E_b362_1.wr W
  replace F_b362_1_coder := F_b362_1_coder.other W (Or.inl ne_b362_1_b368_2)
  replace F_b362_1_value := F_b362_1_value.other W (Or.inl ne_b362_1_b368_2)
  replace E_b368_2 := E_b368_2.wr W
  replace Z0 := Nat.le_trans Z0 (Nat.le_of_eq W.size.symm)
  replace N := Fr.snoc X.1 N g_b368_2
  replace Kp := Kp.wr W (Or.inr sz_b368_2)
  replace Od := Od.wr W g_b368_2
  refine g_dup X d2_403 (pc' := 404) rfl rfl ?_
  refine g_iconst X (5 : Int32) d2_404 (pc' := 405) rfl rfl ?_
  refine g_aloadN X d2_405 (pc' := 406) rfl rfl rfl ?_
  refine g_iconst X (3 : Int32) d2_406 (pc' := 407) rfl rfl ?_
  refine g_caload X V_w0 3 d2_407 (pc' := 408) rfl (by decide) (by decide) rfl ?_
  refine g_castore X V_b368_2 5 d2_408 (pc' := 409) rfl (by decide) (by decide) (Nat.le_of_ble_eq_true rfl) ?_
  intro T h X W V_b368_2
  replace V_b368_2 : Av Z h b368_2 .char [(.int (nar .char u8)), (.int (nar .char u7)), (.int (nar .char u6)), (.int (nar .char u5)), (.int (nar .char u4)), (.int (nar .char u3)), (.int (0 : Int32)), (.int (0 : Int32)), (.int (0 : Int32))] := V_b368_2
  replace V_w0 := V_w0.other W ne_w0_b368_2
  replace E_b362_1 := E_b362_1.wr W
  replace F_b362_1_coder := F_b362_1_coder.other W (Or.inl ne_b362_1_b368_2)
  replace F_b362_1_value := F_b362_1_value.other W (Or.inl ne_b362_1_b368_2)
  replace E_b368_2 := E_b368_2.wr W
  replace Z0 := Nat.le_trans Z0 (Nat.le_of_eq W.size.symm)
  replace N := Fr.snoc X.1 N g_b368_2
  replace Kp := Kp.wr W (Or.inr sz_b368_2)
  replace Od := Od.wr W g_b368_2
  refine g_dup X d2_409 (pc' := 410) rfl rfl ?_
  refine g_bipush X (6 : Int32) d2_410 (pc' := 412) rfl rfl ?_
  refine g_aloadN X d2_412 (pc' := 413) rfl rfl rfl ?_
  refine g_iconst X (2 : Int32) d2_413 (pc' := 414) rfl rfl ?_
  refine g_caload X V_w0 2 d2_414 (pc' := 415) rfl (by decide) (by decide) rfl ?_
  refine g_castore X V_b368_2 6 d2_415 (pc' := 416) rfl (by decide) (by decide) (Nat.le_of_ble_eq_true rfl) ?_
  intro T h X W V_b368_2
  replace V_b368_2 : Av Z h b368_2 .char [(.int (nar .char u8)), (.int (nar .char u7)), (.int (nar .char u6)), (.int (nar .char u5)), (.int (nar .char u4)), (.int (nar .char u3)), (.int (nar .char u2)), (.int (0 : Int32)), (.int (0 : Int32))] := V_b368_2
  replace V_w0 := V_w0.other W ne_w0_b368_2
  replace E_b362_1 := E_b362_1.wr W
  replace F_b362_1_coder := F_b362_1_coder.other W (Or.inl ne_b362_1_b368_2)
  replace F_b362_1_value := F_b362_1_value.other W (Or.inl ne_b362_1_b368_2)
  replace E_b368_2 := E_b368_2.wr W
  replace Z0 := Nat.le_trans Z0 (Nat.le_of_eq W.size.symm)
  replace N := Fr.snoc X.1 N g_b368_2
  replace Kp := Kp.wr W (Or.inr sz_b368_2)
  replace Od := Od.wr W g_b368_2
  refine g_dup X d2_416 (pc' := 417) rfl rfl ?_
  refine g_bipush X (7 : Int32) d2_417 (pc' := 419) rfl rfl ?_
  refine g_aloadN X d2_419 (pc' := 420) rfl rfl rfl ?_
  refine g_iconst X (1 : Int32) d2_420 (pc' := 421) rfl rfl ?_
  refine g_caload X V_w0 1 d2_421 (pc' := 422) rfl (by decide) (by decide) rfl ?_
  refine g_castore X V_b368_2 7 d2_422 (pc' := 423) rfl (by decide) (by decide) (Nat.le_of_ble_eq_true rfl) ?_
  intro T h X W V_b368_2
  replace V_b368_2 : Av Z h b368_2 .char [(.int (nar .char u8)), (.int (nar .char u7)), (.int (nar .char u6)), (.int (nar .char u5)), (.int (nar .char u4)), (.int (nar .char u3)), (.int (nar .char u2)), (.int (nar .char u1)), (.int (0 : Int32))] := V_b368_2
  replace V_w0 := V_w0.other W ne_w0_b368_2
  replace E_b362_1 := E_b362_1.wr W
  replace F_b362_1_coder := F_b362_1_coder.other W (Or.inl ne_b362_1_b368_2)
  replace F_b362_1_value := F_b362_1_value.other W (Or.inl ne_b362_1_b368_2)
  replace E_b368_2 := E_b368_2.wr W
  replace Z0 := Nat.le_trans Z0 (Nat.le_of_eq W.size.symm)
  replace N := Fr.snoc X.1 N g_b368_2
  replace Kp := Kp.wr W (Or.inr sz_b368_2)
  replace Od := Od.wr W g_b368_2
  refine g_dup X d2_423 (pc' := 424) rfl rfl ?_
  refine g_bipush X (8 : Int32) d2_424 (pc' := 426) rfl rfl ?_
  refine g_aloadN X d2_426 (pc' := 427) rfl rfl rfl ?_
  refine g_iconst X (0 : Int32) d2_427 (pc' := 428) rfl rfl ?_
  refine g_caload X V_w0 0 d2_428 (pc' := 429) rfl (by decide) (by decide) rfl ?_
  refine g_castore X V_b368_2 8 d2_429 (pc' := 430) rfl (by decide) (by decide) (Nat.le_of_ble_eq_true rfl) ?_
  intro T h X W V_b368_2
  replace V_b368_2 : Av Z h b368_2 .char [(.int (nar .char u8)), (.int (nar .char u7)), (.int (nar .char u6)), (.int (nar .char u5)), (.int (nar .char u4)), (.int (nar .char u3)), (.int (nar .char u2)), (.int (nar .char u1)), (.int (nar .char u0))] := V_b368_2
  replace V_w0 := V_w0.other W ne_w0_b368_2
  replace E_b362_1 := E_b362_1.wr W
  replace F_b362_1_coder := F_b362_1_coder.other W (Or.inl ne_b362_1_b368_2)
  replace F_b362_1_value := F_b362_1_value.other W (Or.inl ne_b362_1_b368_2)
  replace E_b368_2 := E_b368_2.wr W
  replace Z0 := Nat.le_trans Z0 (Nat.le_of_eq W.size.symm)
  replace N := Fr.snoc X.1 N g_b368_2
  replace Kp := Kp.wr W (Or.inr sz_b368_2)
  replace Od := Od.wr W g_b368_2
  refine g_specialB X (W := 1) (a := b362_1) [(.ref b368_2)] [(.ref b362_1)] rfl (tb hw 21 rfl) (tb hw 22 rfl) (tb hw 23 rfl) (Q := NewQ Z b362_1 ([(nar .char u8), (nar .char u7), (nar .char u6), (nar .char u5), (nar .char u4), (nar .char u3), (nar .char u2), (nar .char u1), (nar .char u0)] : List Int32) _ n0) (kc := 1) (ks := 9) (back_new (W := 1) (cs := ([(nar .char u8), (nar .char u7), (nar .char u6), (nar .char u5), (nar .char u4), (nar .char u3), (nar .char u2), (nar .char u1), (nar .char u0)] : List Int32)) X.2.2.2.2.2.1 hw g_b362_1 Z0 E_b362_1 F_b362_1_value F_b362_1_coder V_b368_2 rfl (fitS (fits_nar_char _) (fitS (fits_nar_char _) (fitS (fits_nar_char _) (fitS (fits_nar_char _) (fitS (fits_nar_char _) (fitS (fits_nar_char _) (fitS (fits_nar_char _) (fitS (fits_nar_char _) (fitS (fits_nar_char _) fit0))))))))) (O2.ext Od.2) P5 rfl (by decide) (by decide) hp (by decide) (by decide)) d2_430 (pc' := 433) rfl (by decide) rfl rfl rfl (lenOf pd_0 rfl) (Nat.le_refl _) (by decide) (by decide) ?_
  intro v T L X q
  obtain ⟨rfl, Nq, Kq, St_b362_1⟩ := q
  replace N := N.app Nq
  replace V_w0 := V_w0.keep Kq (ninS ne_w0_b362_1 nin0)
  replace E_b368_2 := E_b368_2.keep Kq
  replace V_b368_2 := V_b368_2.keep Kq (ninS (Ne.symm ne_b362_1_b368_2) nin0)
  replace Od := Od.keep Kq (allS g_b362_1 all0)
  replace Z0 := Nat.le_trans Z0 Kq.1
  replace Kp := Kp.trans Kq (allS (Or.inr sz_b362_1) all0)
  have E_b362_1 := St_b362_1.1
  show Go p e below _ (T.setTop (mkF m 433 #[.val (.ref w0), .val (.int (9 : Int32))] [(.ref b362_1)]))
  refine g_areturn X rfl rfl d2_433 hret hlk (by decide) (by decide) ?_
  exact ⟨b362_1, rfl, N, Kp, St_b362_1⟩
theorem d2_434 : decode method_5_code 434 = .ok (.iload_n 1, 1) := by decide +kernel
theorem d2_435 : decode method_5_code 435 = .ok (.bipush 10, 2) := by decide +kernel
theorem d2_437 : decode method_5_code 437 = .ok (.if_icmp .ne 83, 3) := by decide +kernel
theorem d2_440 : decode method_5_code 440 = .ok (.new 41, 3) := by decide +kernel
theorem d2_443 : decode method_5_code 443 = .ok (.dup, 1) := by decide +kernel
theorem d2_444 : decode method_5_code 444 = .ok (.bipush 10, 2) := by decide +kernel
theorem d2_446 : decode method_5_code 446 = .ok (.newarray .char, 2) := by decide +kernel
theorem d2_448 : decode method_5_code 448 = .ok (.dup, 1) := by decide +kernel
theorem d2_449 : decode method_5_code 449 = .ok (.iconst 0, 1) := by decide +kernel
theorem d2_450 : decode method_5_code 450 = .ok (.aload_n 0, 1) := by decide +kernel
theorem d2_451 : decode method_5_code 451 = .ok (.bipush 9, 2) := by decide +kernel
theorem d2_453 : decode method_5_code 453 = .ok (.caload, 1) := by decide +kernel
theorem d2_454 : decode method_5_code 454 = .ok (.castore, 1) := by decide +kernel
theorem d2_455 : decode method_5_code 455 = .ok (.dup, 1) := by decide +kernel
theorem d2_456 : decode method_5_code 456 = .ok (.iconst 1, 1) := by decide +kernel
theorem d2_457 : decode method_5_code 457 = .ok (.aload_n 0, 1) := by decide +kernel
theorem d2_458 : decode method_5_code 458 = .ok (.bipush 8, 2) := by decide +kernel
theorem d2_460 : decode method_5_code 460 = .ok (.caload, 1) := by decide +kernel
theorem d2_461 : decode method_5_code 461 = .ok (.castore, 1) := by decide +kernel
theorem d2_462 : decode method_5_code 462 = .ok (.dup, 1) := by decide +kernel
theorem d2_463 : decode method_5_code 463 = .ok (.iconst 2, 1) := by decide +kernel
theorem d2_464 : decode method_5_code 464 = .ok (.aload_n 0, 1) := by decide +kernel
theorem d2_465 : decode method_5_code 465 = .ok (.bipush 7, 2) := by decide +kernel
theorem d2_467 : decode method_5_code 467 = .ok (.caload, 1) := by decide +kernel
theorem d2_468 : decode method_5_code 468 = .ok (.castore, 1) := by decide +kernel
theorem d2_469 : decode method_5_code 469 = .ok (.dup, 1) := by decide +kernel
theorem d2_470 : decode method_5_code 470 = .ok (.iconst 3, 1) := by decide +kernel
theorem d2_471 : decode method_5_code 471 = .ok (.aload_n 0, 1) := by decide +kernel
theorem d2_472 : decode method_5_code 472 = .ok (.bipush 6, 2) := by decide +kernel
theorem d2_474 : decode method_5_code 474 = .ok (.caload, 1) := by decide +kernel
theorem d2_475 : decode method_5_code 475 = .ok (.castore, 1) := by decide +kernel
theorem d2_476 : decode method_5_code 476 = .ok (.dup, 1) := by decide +kernel
theorem d2_477 : decode method_5_code 477 = .ok (.iconst 4, 1) := by decide +kernel
theorem d2_478 : decode method_5_code 478 = .ok (.aload_n 0, 1) := by decide +kernel
theorem d2_479 : decode method_5_code 479 = .ok (.iconst 5, 1) := by decide +kernel
theorem d2_480 : decode method_5_code 480 = .ok (.caload, 1) := by decide +kernel
theorem d2_481 : decode method_5_code 481 = .ok (.castore, 1) := by decide +kernel
theorem d2_482 : decode method_5_code 482 = .ok (.dup, 1) := by decide +kernel
theorem d2_483 : decode method_5_code 483 = .ok (.iconst 5, 1) := by decide +kernel
theorem d2_484 : decode method_5_code 484 = .ok (.aload_n 0, 1) := by decide +kernel
theorem d2_485 : decode method_5_code 485 = .ok (.iconst 4, 1) := by decide +kernel
theorem d2_486 : decode method_5_code 486 = .ok (.caload, 1) := by decide +kernel
theorem d2_487 : decode method_5_code 487 = .ok (.castore, 1) := by decide +kernel
theorem d2_488 : decode method_5_code 488 = .ok (.dup, 1) := by decide +kernel
theorem d2_489 : decode method_5_code 489 = .ok (.bipush 6, 2) := by decide +kernel
theorem d2_491 : decode method_5_code 491 = .ok (.aload_n 0, 1) := by decide +kernel
theorem d2_492 : decode method_5_code 492 = .ok (.iconst 3, 1) := by decide +kernel
theorem d2_493 : decode method_5_code 493 = .ok (.caload, 1) := by decide +kernel
theorem d2_494 : decode method_5_code 494 = .ok (.castore, 1) := by decide +kernel
theorem d2_495 : decode method_5_code 495 = .ok (.dup, 1) := by decide +kernel
theorem d2_496 : decode method_5_code 496 = .ok (.bipush 7, 2) := by decide +kernel
theorem d2_498 : decode method_5_code 498 = .ok (.aload_n 0, 1) := by decide +kernel
theorem d2_499 : decode method_5_code 499 = .ok (.iconst 2, 1) := by decide +kernel
theorem d2_500 : decode method_5_code 500 = .ok (.caload, 1) := by decide +kernel
theorem d2_501 : decode method_5_code 501 = .ok (.castore, 1) := by decide +kernel
theorem d2_502 : decode method_5_code 502 = .ok (.dup, 1) := by decide +kernel
theorem d2_503 : decode method_5_code 503 = .ok (.bipush 8, 2) := by decide +kernel
theorem d2_505 : decode method_5_code 505 = .ok (.aload_n 0, 1) := by decide +kernel
theorem d2_506 : decode method_5_code 506 = .ok (.iconst 1, 1) := by decide +kernel
theorem d2_507 : decode method_5_code 507 = .ok (.caload, 1) := by decide +kernel
theorem d2_508 : decode method_5_code 508 = .ok (.castore, 1) := by decide +kernel
theorem d2_509 : decode method_5_code 509 = .ok (.dup, 1) := by decide +kernel
theorem d2_510 : decode method_5_code 510 = .ok (.bipush 9, 2) := by decide +kernel
theorem d2_512 : decode method_5_code 512 = .ok (.aload_n 0, 1) := by decide +kernel
theorem d2_513 : decode method_5_code 513 = .ok (.iconst 0, 1) := by decide +kernel
theorem d2_514 : decode method_5_code 514 = .ok (.caload, 1) := by decide +kernel
theorem d2_515 : decode method_5_code 515 = .ok (.castore, 1) := by decide +kernel
theorem d2_516 : decode method_5_code 516 = .ok (.invokespecial 52, 3) := by decide +kernel
theorem d2_519 : decode method_5_code 519 = .ok (.areturn, 1) := by decide +kernel
theorem ef_rStr10 (m : MethodId) (x0 : Addr) (x1 : Int32) : entryFrame m #[(.ref x0), (.int x1)] 2 = mkF m 0 #[.val (.ref x0), .val (.int x1)] [] := by first | (simp [entryFrame, mkF, argsToLocals, Value.category]; done) | rfl
set_option maxRecDepth 65536 in
set_option maxHeartbeats 40000000 in
theorem rStr10 (l : Launch) (Z : State) (aa : Array Value) (hw : ∀ d ∈ tables_1, d.before aa Z = true) (ws : List Jvm.Cond) (w0 : Addr) (u0 : Int32) (u1 : Int32) (u2 : Int32) (u3 : Int32) (u4 : Int32) (u5 : Int32) (u6 : Int32) (u7 : Int32) (u8 : Int32) (u9 : Int32) (u10 : Int32) (u11 : Int32) (G1 : Int32) (h0 : Heap) (n0 : Nat) (Z0 : n0 ≤ h0.size) (V_w0 : Av Z h0 w0 .char [(.int u0), (.int u1), (.int u2), (.int u3), (.int u4), (.int u5), (.int u6), (.int u7), (.int u8), (.int u9), (.int u10), (.int u11)]) (hp : ∀ c ∈ ([(nar .char u9), (nar .char u8), (nar .char u7), (nar .char u6), (nar .char u5), (nar .char u4), (nar .char u3), (nar .char u2), (nar .char u1), (nar .char u0)] : List Int32), ¬ c < 0 ∧ ¬ (255 : Int32) < c) (O2 : Sta Z Z.heap "java/lang/String" "COMPACT_STRINGS" "Z" (.int G1)) (P5 : ¬ G1 = (0 : Int32)) (Od : Old Z n0 h0) :
    Rm l Z (⟨"com/example/grant/grant/WholeNumberParsePinLaw", "str", "([CI)Ljava/lang/String;"⟩ : MethodName) method_5_code 2 (some (.object "java/lang/String")) ws ({ frames := 4, cells := 3, slots := 24, locals := 66 } : Room) #[(.ref w0), (.int (10 : Int32))] h0 (fun v h L => ∃ x, v = some (.ref x) ∧ Fr n0 L ∧ Keep h0 h [] ∧ StrIs Z h x ([(nar .char u9), (nar .char u8), (nar .char u7), (nar .char u6), (nar .char u5), (nar .char u4), (nar .char u3), (nar .char u2), (nar .char u1), (nar .char u0)] : List Int32)) := by
  refine Rm.of (plainFor_of_name pn_0) ?_
  intro p e s m below meth cc T X hnm hret hlk
  refine Go.at_ (ef_rStr10 m w0 (10 : Int32)) ?_
  have N := Fr.nil n0
  have Kp := Keep.refl h0 []
  refine g_iloadN X d2_0 (pc' := 1) rfl rfl ?_
  refine g_iconst X (1 : Int32) d2_1 (pc' := 2) rfl rfl ?_
  refine g_icY X d2_2 (feq (show ¬ ((10 : Int32) = (1 : Int32)) from (by decide))).2 (pc' := 22) (by decide) (by decide) ?_
  refine g_iloadN X d2_22 (pc' := 23) rfl rfl ?_
  refine g_iconst X (2 : Int32) d2_23 (pc' := 24) rfl rfl ?_
  refine g_icY X d2_24 (feq (show ¬ ((10 : Int32) = (2 : Int32)) from (by decide))).2 (pc' := 50) (by decide) (by decide) ?_
  refine g_iloadN X d2_50 (pc' := 51) rfl rfl ?_
  refine g_iconst X (3 : Int32) d2_51 (pc' := 52) rfl rfl ?_
  refine g_icY X d2_52 (feq (show ¬ ((10 : Int32) = (3 : Int32)) from (by decide))).2 (pc' := 84) (by decide) (by decide) ?_
  refine g_iloadN X d2_84 (pc' := 85) rfl rfl ?_
  refine g_iconst X (4 : Int32) d2_85 (pc' := 86) rfl rfl ?_
  refine g_icY X d2_86 (feq (show ¬ ((10 : Int32) = (4 : Int32)) from (by decide))).2 (pc' := 124) (by decide) (by decide) ?_
  refine g_iloadN X d2_124 (pc' := 125) rfl rfl ?_
  refine g_iconst X (5 : Int32) d2_125 (pc' := 126) rfl rfl ?_
  refine g_icY X d2_126 (feq (show ¬ ((10 : Int32) = (5 : Int32)) from (by decide))).2 (pc' := 170) (by decide) (by decide) ?_
  refine g_iloadN X d2_170 (pc' := 171) rfl rfl ?_
  refine g_bipush X (6 : Int32) d2_171 (pc' := 173) rfl rfl ?_
  refine g_icY X d2_173 (feq (show ¬ ((10 : Int32) = (6 : Int32)) from (by decide))).2 (pc' := 224) (by decide) (by decide) ?_
  refine g_iloadN X d2_224 (pc' := 225) rfl rfl ?_
  refine g_bipush X (7 : Int32) d2_225 (pc' := 227) rfl rfl ?_
  refine g_icY X d2_227 (feq (show ¬ ((10 : Int32) = (7 : Int32)) from (by decide))).2 (pc' := 286) (by decide) (by decide) ?_
  refine g_iloadN X d2_286 (pc' := 287) rfl rfl ?_
  refine g_bipush X (8 : Int32) d2_287 (pc' := 289) rfl rfl ?_
  refine g_icY X d2_289 (feq (show ¬ ((10 : Int32) = (8 : Int32)) from (by decide))).2 (pc' := 356) (by decide) (by decide) ?_
  refine g_iloadN X d2_356 (pc' := 357) rfl rfl ?_
  refine g_bipush X (9 : Int32) d2_357 (pc' := 359) rfl rfl ?_
  refine g_icY X d2_359 (feq (show ¬ ((10 : Int32) = (9 : Int32)) from (by decide))).2 (pc' := 434) (by decide) (by decide) ?_
  refine g_iloadN X d2_434 (pc' := 435) rfl rfl ?_
  refine g_bipush X (10 : Int32) d2_435 (pc' := 437) rfl rfl ?_
  refine g_icN X d2_437 (teq (show (10 : Int32) = (10 : Int32) from (by decide))).2 (pc' := 440) rfl ?_
  refine g_new X (tb hw 18 rfl) (tb hw 19 rfl) (tb hw 20 rfl) d2_440 (pc' := 443) rfl (by decide) (by decide) ?_
  intro T h b440_1 s_b440_1 X Ex E_b440_1 D_b440_1
  have ne_w0_b440_1 : w0 ≠ b440_1 := Nat.ne_of_lt (by rw [s_b440_1]; exact V_w0.lt)
  have g_b440_1 : n0 ≤ b440_1 := by rw [s_b440_1]; exact Z0
  have sz_b440_1 : h0.size ≤ b440_1 := by rw [s_b440_1]; exact Kp.1
  replace V_w0 := V_w0.ext Ex
  replace Z0 := Nat.le_trans Z0 Ex.1
  replace Kp := Kp.ext Ex
  replace Od := Od.ext Ex
  have F_b440_1_coder : Fld Z h b440_1 "java/lang/String" "coder" "B" (.int (0 : Int32)) := D_b440_1 (Or.inr (tb hw 44 rfl)) (ty := .byte) (by decide)
  have F_b440_1_value : Fld Z h b440_1 "java/lang/String" "value" "[B" .null := D_b440_1 (Or.inr (tb hw 46 rfl)) (ty := (.array .byte)) (by decide)
  refine g_dup X d2_443 (pc' := 444) rfl rfl ?_
  refine g_bipush X (10 : Int32) d2_444 (pc' := 446) rfl rfl ?_
  refine g_newarray X 10 (tb hw 1 rfl) d2_446 (pc' := 448) rfl (by decide) (by decide) 10 (by decide) (by decide) (by decide) (by decide) (vs := [(.int (0 : Int32)), (.int (0 : Int32)), (.int (0 : Int32)), (.int (0 : Int32)), (.int (0 : Int32)), (.int (0 : Int32)), (.int (0 : Int32)), (.int (0 : Int32)), (.int (0 : Int32)), (.int (0 : Int32))]) rfl (ad := "[C") (by decide) ?_
  intro T h b446_2 s_b446_2 X Ex E_b446_2 V_b446_2
  have ne_w0_b446_2 : w0 ≠ b446_2 := Nat.ne_of_lt (by rw [s_b446_2]; exact V_w0.lt)
  have ne_b440_1_b446_2 : b440_1 ≠ b446_2 := Nat.ne_of_lt (by rw [s_b446_2]; exact E_b440_1.lt)
  have g_b446_2 : n0 ≤ b446_2 := by rw [s_b446_2]; exact Z0
  have sz_b446_2 : h0.size ≤ b446_2 := by rw [s_b446_2]; exact Kp.1
  replace V_w0 := V_w0.ext Ex
  replace E_b440_1 := E_b440_1.ext Ex
  replace F_b440_1_coder := F_b440_1_coder.ext Ex
  replace F_b440_1_value := F_b440_1_value.ext Ex
  replace Z0 := Nat.le_trans Z0 Ex.1
  replace Kp := Kp.ext Ex
  replace Od := Od.ext Ex
  refine g_dup X d2_448 (pc' := 449) rfl rfl ?_
  refine g_iconst X (0 : Int32) d2_449 (pc' := 450) rfl rfl ?_
  refine g_aloadN X d2_450 (pc' := 451) rfl rfl rfl ?_
  refine g_bipush X (9 : Int32) d2_451 (pc' := 453) rfl rfl ?_
  refine g_caload X V_w0 9 d2_453 (pc' := 454) rfl (by decide) (by decide) rfl ?_
  refine g_castore X V_b446_2 0 d2_454 (pc' := 455) rfl (by decide) (by decide) (Nat.le_of_ble_eq_true rfl) ?_
  intro T h X W V_b446_2
  replace V_b446_2 : Av Z h b446_2 .char [(.int (nar .char u9)), (.int (0 : Int32)), (.int (0 : Int32)), (.int (0 : Int32)), (.int (0 : Int32)), (.int (0 : Int32)), (.int (0 : Int32)), (.int (0 : Int32)), (.int (0 : Int32)), (.int (0 : Int32))] := V_b446_2
  replace V_w0 := V_w0.other W ne_w0_b446_2
  replace E_b440_1 := E_b440_1.wr W
  replace F_b440_1_coder := F_b440_1_coder.other W (Or.inl ne_b440_1_b446_2)
  replace F_b440_1_value := F_b440_1_value.other W (Or.inl ne_b440_1_b446_2)
  replace E_b446_2 := E_b446_2.wr W
  replace Z0 := Nat.le_trans Z0 (Nat.le_of_eq W.size.symm)
  replace N := Fr.snoc X.1 N g_b446_2
  replace Kp := Kp.wr W (Or.inr sz_b446_2)
  replace Od := Od.wr W g_b446_2
  refine g_dup X d2_455 (pc' := 456) rfl rfl ?_
  refine g_iconst X (1 : Int32) d2_456 (pc' := 457) rfl rfl ?_
  refine g_aloadN X d2_457 (pc' := 458) rfl rfl rfl ?_
  refine g_bipush X (8 : Int32) d2_458 (pc' := 460) rfl rfl ?_
  refine g_caload X V_w0 8 d2_460 (pc' := 461) rfl (by decide) (by decide) rfl ?_
  refine g_castore X V_b446_2 1 d2_461 (pc' := 462) rfl (by decide) (by decide) (Nat.le_of_ble_eq_true rfl) ?_
  intro T h X W V_b446_2
  replace V_b446_2 : Av Z h b446_2 .char [(.int (nar .char u9)), (.int (nar .char u8)), (.int (0 : Int32)), (.int (0 : Int32)), (.int (0 : Int32)), (.int (0 : Int32)), (.int (0 : Int32)), (.int (0 : Int32)), (.int (0 : Int32)), (.int (0 : Int32))] := V_b446_2
  replace V_w0 := V_w0.other W ne_w0_b446_2
  replace E_b440_1 := E_b440_1.wr W
  replace F_b440_1_coder := F_b440_1_coder.other W (Or.inl ne_b440_1_b446_2)
  replace F_b440_1_value := F_b440_1_value.other W (Or.inl ne_b440_1_b446_2)
  replace E_b446_2 := E_b446_2.wr W
  replace Z0 := Nat.le_trans Z0 (Nat.le_of_eq W.size.symm)
  replace N := Fr.snoc X.1 N g_b446_2
  replace Kp := Kp.wr W (Or.inr sz_b446_2)
  replace Od := Od.wr W g_b446_2
  refine g_dup X d2_462 (pc' := 463) rfl rfl ?_
  refine g_iconst X (2 : Int32) d2_463 (pc' := 464) rfl rfl ?_
  refine g_aloadN X d2_464 (pc' := 465) rfl rfl rfl ?_
  refine g_bipush X (7 : Int32) d2_465 (pc' := 467) rfl rfl ?_
  refine g_caload X V_w0 7 d2_467 (pc' := 468) rfl (by decide) (by decide) rfl ?_
  refine g_castore X V_b446_2 2 d2_468 (pc' := 469) rfl (by decide) (by decide) (Nat.le_of_ble_eq_true rfl) ?_
  intro T h X W V_b446_2
  replace V_b446_2 : Av Z h b446_2 .char [(.int (nar .char u9)), (.int (nar .char u8)), (.int (nar .char u7)), (.int (0 : Int32)), (.int (0 : Int32)), (.int (0 : Int32)), (.int (0 : Int32)), (.int (0 : Int32)), (.int (0 : Int32)), (.int (0 : Int32))] := V_b446_2
  replace V_w0 := V_w0.other W ne_w0_b446_2
  replace E_b440_1 := E_b440_1.wr W
  replace F_b440_1_coder := F_b440_1_coder.other W (Or.inl ne_b440_1_b446_2)
  replace F_b440_1_value := F_b440_1_value.other W (Or.inl ne_b440_1_b446_2)
  replace E_b446_2 := E_b446_2.wr W
  replace Z0 := Nat.le_trans Z0 (Nat.le_of_eq W.size.symm)
  replace N := Fr.snoc X.1 N g_b446_2
  replace Kp := Kp.wr W (Or.inr sz_b446_2)
  replace Od := Od.wr W g_b446_2
  refine g_dup X d2_469 (pc' := 470) rfl rfl ?_
  refine g_iconst X (3 : Int32) d2_470 (pc' := 471) rfl rfl ?_
  refine g_aloadN X d2_471 (pc' := 472) rfl rfl rfl ?_
  refine g_bipush X (6 : Int32) d2_472 (pc' := 474) rfl rfl ?_
  refine g_caload X V_w0 6 d2_474 (pc' := 475) rfl (by decide) (by decide) rfl ?_
  refine g_castore X V_b446_2 3 d2_475 (pc' := 476) rfl (by decide) (by decide) (Nat.le_of_ble_eq_true rfl) ?_
  intro T h X W V_b446_2
  replace V_b446_2 : Av Z h b446_2 .char [(.int (nar .char u9)), (.int (nar .char u8)), (.int (nar .char u7)), (.int (nar .char u6)), (.int (0 : Int32)), (.int (0 : Int32)), (.int (0 : Int32)), (.int (0 : Int32)), (.int (0 : Int32)), (.int (0 : Int32))] := V_b446_2
  replace V_w0 := V_w0.other W ne_w0_b446_2
  replace E_b440_1 := E_b440_1.wr W
  replace F_b440_1_coder := F_b440_1_coder.other W (Or.inl ne_b440_1_b446_2)
  replace F_b440_1_value := F_b440_1_value.other W (Or.inl ne_b440_1_b446_2)
  replace E_b446_2 := E_b446_2.wr W
  replace Z0 := Nat.le_trans Z0 (Nat.le_of_eq W.size.symm)
  replace N := Fr.snoc X.1 N g_b446_2
  replace Kp := Kp.wr W (Or.inr sz_b446_2)
  replace Od := Od.wr W g_b446_2
  refine g_dup X d2_476 (pc' := 477) rfl rfl ?_
  refine g_iconst X (4 : Int32) d2_477 (pc' := 478) rfl rfl ?_
  refine g_aloadN X d2_478 (pc' := 479) rfl rfl rfl ?_
  refine g_iconst X (5 : Int32) d2_479 (pc' := 480) rfl rfl ?_
  refine g_caload X V_w0 5 d2_480 (pc' := 481) rfl (by decide) (by decide) rfl ?_
  refine g_castore X V_b446_2 4 d2_481 (pc' := 482) rfl (by decide) (by decide) (Nat.le_of_ble_eq_true rfl) ?_
  intro T h X W V_b446_2
  replace V_b446_2 : Av Z h b446_2 .char [(.int (nar .char u9)), (.int (nar .char u8)), (.int (nar .char u7)), (.int (nar .char u6)), (.int (nar .char u5)), (.int (0 : Int32)), (.int (0 : Int32)), (.int (0 : Int32)), (.int (0 : Int32)), (.int (0 : Int32))] := V_b446_2
  replace V_w0 := V_w0.other W ne_w0_b446_2
  replace E_b440_1 := E_b440_1.wr W
  replace F_b440_1_coder := F_b440_1_coder.other W (Or.inl ne_b440_1_b446_2)
  replace F_b440_1_value := F_b440_1_value.other W (Or.inl ne_b440_1_b446_2)
  replace E_b446_2 := E_b446_2.wr W
  replace Z0 := Nat.le_trans Z0 (Nat.le_of_eq W.size.symm)
  replace N := Fr.snoc X.1 N g_b446_2
  replace Kp := Kp.wr W (Or.inr sz_b446_2)
  replace Od := Od.wr W g_b446_2
  refine g_dup X d2_482 (pc' := 483) rfl rfl ?_
  refine g_iconst X (5 : Int32) d2_483 (pc' := 484) rfl rfl ?_
  refine g_aloadN X d2_484 (pc' := 485) rfl rfl rfl ?_
  refine g_iconst X (4 : Int32) d2_485 (pc' := 486) rfl rfl ?_
  refine g_caload X V_w0 4 d2_486 (pc' := 487) rfl (by decide) (by decide) rfl ?_
  refine g_castore X V_b446_2 5 d2_487 (pc' := 488) rfl (by decide) (by decide) (Nat.le_of_ble_eq_true rfl) ?_
  intro T h X W V_b446_2
  replace V_b446_2 : Av Z h b446_2 .char [(.int (nar .char u9)), (.int (nar .char u8)), (.int (nar .char u7)), (.int (nar .char u6)), (.int (nar .char u5)), (.int (nar .char u4)), (.int (0 : Int32)), (.int (0 : Int32)), (.int (0 : Int32)), (.int (0 : Int32))] := V_b446_2
  replace V_w0 := V_w0.other W ne_w0_b446_2
  replace E_b440_1 := E_b440_1.wr W
  replace F_b440_1_coder := F_b440_1_coder.other W (Or.inl ne_b440_1_b446_2)
  replace F_b440_1_value := F_b440_1_value.other W (Or.inl ne_b440_1_b446_2)
  replace E_b446_2 := E_b446_2.wr W
  replace Z0 := Nat.le_trans Z0 (Nat.le_of_eq W.size.symm)
  replace N := Fr.snoc X.1 N g_b446_2
  replace Kp := Kp.wr W (Or.inr sz_b446_2)
  replace Od := Od.wr W g_b446_2
  refine g_dup X d2_488 (pc' := 489) rfl rfl ?_
  refine g_bipush X (6 : Int32) d2_489 (pc' := 491) rfl rfl ?_
  refine g_aloadN X d2_491 (pc' := 492) rfl rfl rfl ?_
  refine g_iconst X (3 : Int32) d2_492 (pc' := 493) rfl rfl ?_
  refine g_caload X V_w0 3 d2_493 (pc' := 494) rfl (by decide) (by decide) rfl ?_
  refine g_castore X V_b446_2 6 d2_494 (pc' := 495) rfl (by decide) (by decide) (Nat.le_of_ble_eq_true rfl) ?_
  intro T h X W V_b446_2
  replace V_b446_2 : Av Z h b446_2 .char [(.int (nar .char u9)), (.int (nar .char u8)), (.int (nar .char u7)), (.int (nar .char u6)), (.int (nar .char u5)), (.int (nar .char u4)), (.int (nar .char u3)), (.int (0 : Int32)), (.int (0 : Int32)), (.int (0 : Int32))] := V_b446_2
  replace V_w0 := V_w0.other W ne_w0_b446_2
  replace E_b440_1 := E_b440_1.wr W
  replace F_b440_1_coder := F_b440_1_coder.other W (Or.inl ne_b440_1_b446_2)
  replace F_b440_1_value := F_b440_1_value.other W (Or.inl ne_b440_1_b446_2)
  replace E_b446_2 := E_b446_2.wr W
  replace Z0 := Nat.le_trans Z0 (Nat.le_of_eq W.size.symm)
  replace N := Fr.snoc X.1 N g_b446_2
  replace Kp := Kp.wr W (Or.inr sz_b446_2)
  replace Od := Od.wr W g_b446_2
  refine g_dup X d2_495 (pc' := 496) rfl rfl ?_
  refine g_bipush X (7 : Int32) d2_496 (pc' := 498) rfl rfl ?_
  refine g_aloadN X d2_498 (pc' := 499) rfl rfl rfl ?_
  refine g_iconst X (2 : Int32) d2_499 (pc' := 500) rfl rfl ?_
  refine g_caload X V_w0 2 d2_500 (pc' := 501) rfl (by decide) (by decide) rfl ?_
  refine g_castore X V_b446_2 7 d2_501 (pc' := 502) rfl (by decide) (by decide) (Nat.le_of_ble_eq_true rfl) ?_
  intro T h X W V_b446_2
  replace V_b446_2 : Av Z h b446_2 .char [(.int (nar .char u9)), (.int (nar .char u8)), (.int (nar .char u7)), (.int (nar .char u6)), (.int (nar .char u5)), (.int (nar .char u4)), (.int (nar .char u3)), (.int (nar .char u2)), (.int (0 : Int32)), (.int (0 : Int32))] := V_b446_2
  replace V_w0 := V_w0.other W ne_w0_b446_2
  replace E_b440_1 := E_b440_1.wr W
  replace F_b440_1_coder := F_b440_1_coder.other W (Or.inl ne_b440_1_b446_2)
  replace F_b440_1_value := F_b440_1_value.other W (Or.inl ne_b440_1_b446_2)
  replace E_b446_2 := E_b446_2.wr W
  replace Z0 := Nat.le_trans Z0 (Nat.le_of_eq W.size.symm)
  replace N := Fr.snoc X.1 N g_b446_2
  replace Kp := Kp.wr W (Or.inr sz_b446_2)
  replace Od := Od.wr W g_b446_2
  refine g_dup X d2_502 (pc' := 503) rfl rfl ?_
  refine g_bipush X (8 : Int32) d2_503 (pc' := 505) rfl rfl ?_
  refine g_aloadN X d2_505 (pc' := 506) rfl rfl rfl ?_
  refine g_iconst X (1 : Int32) d2_506 (pc' := 507) rfl rfl ?_
  refine g_caload X V_w0 1 d2_507 (pc' := 508) rfl (by decide) (by decide) rfl ?_
  refine g_castore X V_b446_2 8 d2_508 (pc' := 509) rfl (by decide) (by decide) (Nat.le_of_ble_eq_true rfl) ?_
  intro T h X W V_b446_2
  replace V_b446_2 : Av Z h b446_2 .char [(.int (nar .char u9)), (.int (nar .char u8)), (.int (nar .char u7)), (.int (nar .char u6)), (.int (nar .char u5)), (.int (nar .char u4)), (.int (nar .char u3)), (.int (nar .char u2)), (.int (nar .char u1)), (.int (0 : Int32))] := V_b446_2
  replace V_w0 := V_w0.other W ne_w0_b446_2
  replace E_b440_1 := E_b440_1.wr W
  replace F_b440_1_coder := F_b440_1_coder.other W (Or.inl ne_b440_1_b446_2)
  replace F_b440_1_value := F_b440_1_value.other W (Or.inl ne_b440_1_b446_2)
  replace E_b446_2 := E_b446_2.wr W
  replace Z0 := Nat.le_trans Z0 (Nat.le_of_eq W.size.symm)
  replace N := Fr.snoc X.1 N g_b446_2
  replace Kp := Kp.wr W (Or.inr sz_b446_2)
  replace Od := Od.wr W g_b446_2
  refine g_dup X d2_509 (pc' := 510) rfl rfl ?_
  refine g_bipush X (9 : Int32) d2_510 (pc' := 512) rfl rfl ?_
  refine g_aloadN X d2_512 (pc' := 513) rfl rfl rfl ?_
  refine g_iconst X (0 : Int32) d2_513 (pc' := 514) rfl rfl ?_
  refine g_caload X V_w0 0 d2_514 (pc' := 515) rfl (by decide) (by decide) rfl ?_
  refine g_castore X V_b446_2 9 d2_515 (pc' := 516) rfl (by decide) (by decide) (Nat.le_of_ble_eq_true rfl) ?_
  intro T h X W V_b446_2
  replace V_b446_2 : Av Z h b446_2 .char [(.int (nar .char u9)), (.int (nar .char u8)), (.int (nar .char u7)), (.int (nar .char u6)), (.int (nar .char u5)), (.int (nar .char u4)), (.int (nar .char u3)), (.int (nar .char u2)), (.int (nar .char u1)), (.int (nar .char u0))] := V_b446_2
  replace V_w0 := V_w0.other W ne_w0_b446_2
  replace E_b440_1 := E_b440_1.wr W
  replace F_b440_1_coder := F_b440_1_coder.other W (Or.inl ne_b440_1_b446_2)
  replace F_b440_1_value := F_b440_1_value.other W (Or.inl ne_b440_1_b446_2)
  replace E_b446_2 := E_b446_2.wr W
  replace Z0 := Nat.le_trans Z0 (Nat.le_of_eq W.size.symm)
  replace N := Fr.snoc X.1 N g_b446_2
  replace Kp := Kp.wr W (Or.inr sz_b446_2)
  replace Od := Od.wr W g_b446_2
  refine g_specialB X (W := 1) (a := b440_1) [(.ref b446_2)] [(.ref b440_1)] rfl (tb hw 21 rfl) (tb hw 22 rfl) (tb hw 23 rfl) (Q := NewQ Z b440_1 ([(nar .char u9), (nar .char u8), (nar .char u7), (nar .char u6), (nar .char u5), (nar .char u4), (nar .char u3), (nar .char u2), (nar .char u1), (nar .char u0)] : List Int32) _ n0) (kc := 1) (ks := 10) (back_new (W := 1) (cs := ([(nar .char u9), (nar .char u8), (nar .char u7), (nar .char u6), (nar .char u5), (nar .char u4), (nar .char u3), (nar .char u2), (nar .char u1), (nar .char u0)] : List Int32)) X.2.2.2.2.2.1 hw g_b440_1 Z0 E_b440_1 F_b440_1_value F_b440_1_coder V_b446_2 rfl (fitS (fits_nar_char _) (fitS (fits_nar_char _) (fitS (fits_nar_char _) (fitS (fits_nar_char _) (fitS (fits_nar_char _) (fitS (fits_nar_char _) (fitS (fits_nar_char _) (fitS (fits_nar_char _) (fitS (fits_nar_char _) (fitS (fits_nar_char _) fit0)))))))))) (O2.ext Od.2) P5 rfl (by decide) (by decide) hp (by decide) (by decide)) d2_516 (pc' := 519) rfl (by decide) rfl rfl rfl (lenOf pd_0 rfl) (Nat.le_refl _) (by decide) (by decide) ?_
  intro v T L X q
  obtain ⟨rfl, Nq, Kq, St_b440_1⟩ := q
  replace N := N.app Nq
  replace V_w0 := V_w0.keep Kq (ninS ne_w0_b440_1 nin0)
  replace E_b446_2 := E_b446_2.keep Kq
  replace V_b446_2 := V_b446_2.keep Kq (ninS (Ne.symm ne_b440_1_b446_2) nin0)
  replace Od := Od.keep Kq (allS g_b440_1 all0)
  replace Z0 := Nat.le_trans Z0 Kq.1
  replace Kp := Kp.trans Kq (allS (Or.inr sz_b440_1) all0)
  have E_b440_1 := St_b440_1.1
  show Go p e below _ (T.setTop (mkF m 519 #[.val (.ref w0), .val (.int (10 : Int32))] [(.ref b440_1)]))
  refine g_areturn X rfl rfl d2_519 hret hlk (by decide) (by decide) ?_
  exact ⟨b440_1, rfl, N, Kp, St_b440_1⟩
theorem d2_520 : decode method_5_code 520 = .ok (.iload_n 1, 1) := by decide +kernel
theorem d2_521 : decode method_5_code 521 = .ok (.bipush 11, 2) := by decide +kernel
theorem d2_523 : decode method_5_code 523 = .ok (.if_icmp .ne 91, 3) := by decide +kernel
theorem d2_526 : decode method_5_code 526 = .ok (.new 41, 3) := by decide +kernel
theorem d2_529 : decode method_5_code 529 = .ok (.dup, 1) := by decide +kernel
theorem d2_530 : decode method_5_code 530 = .ok (.bipush 11, 2) := by decide +kernel
theorem d2_532 : decode method_5_code 532 = .ok (.newarray .char, 2) := by decide +kernel
theorem d2_534 : decode method_5_code 534 = .ok (.dup, 1) := by decide +kernel
theorem d2_535 : decode method_5_code 535 = .ok (.iconst 0, 1) := by decide +kernel
theorem d2_536 : decode method_5_code 536 = .ok (.aload_n 0, 1) := by decide +kernel
theorem d2_537 : decode method_5_code 537 = .ok (.bipush 10, 2) := by decide +kernel
theorem d2_539 : decode method_5_code 539 = .ok (.caload, 1) := by decide +kernel
theorem d2_540 : decode method_5_code 540 = .ok (.castore, 1) := by decide +kernel
theorem d2_541 : decode method_5_code 541 = .ok (.dup, 1) := by decide +kernel
theorem d2_542 : decode method_5_code 542 = .ok (.iconst 1, 1) := by decide +kernel
theorem d2_543 : decode method_5_code 543 = .ok (.aload_n 0, 1) := by decide +kernel
theorem d2_544 : decode method_5_code 544 = .ok (.bipush 9, 2) := by decide +kernel
theorem d2_546 : decode method_5_code 546 = .ok (.caload, 1) := by decide +kernel
theorem d2_547 : decode method_5_code 547 = .ok (.castore, 1) := by decide +kernel
theorem d2_548 : decode method_5_code 548 = .ok (.dup, 1) := by decide +kernel
theorem d2_549 : decode method_5_code 549 = .ok (.iconst 2, 1) := by decide +kernel
theorem d2_550 : decode method_5_code 550 = .ok (.aload_n 0, 1) := by decide +kernel
theorem d2_551 : decode method_5_code 551 = .ok (.bipush 8, 2) := by decide +kernel
theorem d2_553 : decode method_5_code 553 = .ok (.caload, 1) := by decide +kernel
theorem d2_554 : decode method_5_code 554 = .ok (.castore, 1) := by decide +kernel
theorem d2_555 : decode method_5_code 555 = .ok (.dup, 1) := by decide +kernel
theorem d2_556 : decode method_5_code 556 = .ok (.iconst 3, 1) := by decide +kernel
theorem d2_557 : decode method_5_code 557 = .ok (.aload_n 0, 1) := by decide +kernel
theorem d2_558 : decode method_5_code 558 = .ok (.bipush 7, 2) := by decide +kernel
theorem d2_560 : decode method_5_code 560 = .ok (.caload, 1) := by decide +kernel
theorem d2_561 : decode method_5_code 561 = .ok (.castore, 1) := by decide +kernel
theorem d2_562 : decode method_5_code 562 = .ok (.dup, 1) := by decide +kernel
theorem d2_563 : decode method_5_code 563 = .ok (.iconst 4, 1) := by decide +kernel
theorem d2_564 : decode method_5_code 564 = .ok (.aload_n 0, 1) := by decide +kernel
theorem d2_565 : decode method_5_code 565 = .ok (.bipush 6, 2) := by decide +kernel
theorem d2_567 : decode method_5_code 567 = .ok (.caload, 1) := by decide +kernel
theorem d2_568 : decode method_5_code 568 = .ok (.castore, 1) := by decide +kernel
theorem d2_569 : decode method_5_code 569 = .ok (.dup, 1) := by decide +kernel
theorem d2_570 : decode method_5_code 570 = .ok (.iconst 5, 1) := by decide +kernel
theorem d2_571 : decode method_5_code 571 = .ok (.aload_n 0, 1) := by decide +kernel
theorem d2_572 : decode method_5_code 572 = .ok (.iconst 5, 1) := by decide +kernel
theorem d2_573 : decode method_5_code 573 = .ok (.caload, 1) := by decide +kernel
theorem d2_574 : decode method_5_code 574 = .ok (.castore, 1) := by decide +kernel
theorem d2_575 : decode method_5_code 575 = .ok (.dup, 1) := by decide +kernel
theorem d2_576 : decode method_5_code 576 = .ok (.bipush 6, 2) := by decide +kernel
theorem d2_578 : decode method_5_code 578 = .ok (.aload_n 0, 1) := by decide +kernel
theorem d2_579 : decode method_5_code 579 = .ok (.iconst 4, 1) := by decide +kernel
theorem d2_580 : decode method_5_code 580 = .ok (.caload, 1) := by decide +kernel
theorem d2_581 : decode method_5_code 581 = .ok (.castore, 1) := by decide +kernel
theorem d2_582 : decode method_5_code 582 = .ok (.dup, 1) := by decide +kernel
theorem d2_583 : decode method_5_code 583 = .ok (.bipush 7, 2) := by decide +kernel
theorem d2_585 : decode method_5_code 585 = .ok (.aload_n 0, 1) := by decide +kernel
theorem d2_586 : decode method_5_code 586 = .ok (.iconst 3, 1) := by decide +kernel
theorem d2_587 : decode method_5_code 587 = .ok (.caload, 1) := by decide +kernel
theorem d2_588 : decode method_5_code 588 = .ok (.castore, 1) := by decide +kernel
theorem d2_589 : decode method_5_code 589 = .ok (.dup, 1) := by decide +kernel
theorem d2_590 : decode method_5_code 590 = .ok (.bipush 8, 2) := by decide +kernel
theorem d2_592 : decode method_5_code 592 = .ok (.aload_n 0, 1) := by decide +kernel
theorem d2_593 : decode method_5_code 593 = .ok (.iconst 2, 1) := by decide +kernel
theorem d2_594 : decode method_5_code 594 = .ok (.caload, 1) := by decide +kernel
theorem d2_595 : decode method_5_code 595 = .ok (.castore, 1) := by decide +kernel
theorem d2_596 : decode method_5_code 596 = .ok (.dup, 1) := by decide +kernel
theorem d2_597 : decode method_5_code 597 = .ok (.bipush 9, 2) := by decide +kernel
theorem d2_599 : decode method_5_code 599 = .ok (.aload_n 0, 1) := by decide +kernel
theorem d2_600 : decode method_5_code 600 = .ok (.iconst 1, 1) := by decide +kernel
theorem d2_601 : decode method_5_code 601 = .ok (.caload, 1) := by decide +kernel
theorem d2_602 : decode method_5_code 602 = .ok (.castore, 1) := by decide +kernel
theorem d2_603 : decode method_5_code 603 = .ok (.dup, 1) := by decide +kernel
theorem d2_604 : decode method_5_code 604 = .ok (.bipush 10, 2) := by decide +kernel
theorem d2_606 : decode method_5_code 606 = .ok (.aload_n 0, 1) := by decide +kernel
theorem d2_607 : decode method_5_code 607 = .ok (.iconst 0, 1) := by decide +kernel
theorem d2_608 : decode method_5_code 608 = .ok (.caload, 1) := by decide +kernel
theorem d2_609 : decode method_5_code 609 = .ok (.castore, 1) := by decide +kernel
theorem d2_610 : decode method_5_code 610 = .ok (.invokespecial 52, 3) := by decide +kernel
theorem d2_613 : decode method_5_code 613 = .ok (.areturn, 1) := by decide +kernel
theorem ef_rStr11 (m : MethodId) (x0 : Addr) (x1 : Int32) : entryFrame m #[(.ref x0), (.int x1)] 2 = mkF m 0 #[.val (.ref x0), .val (.int x1)] [] := by first | (simp [entryFrame, mkF, argsToLocals, Value.category]; done) | rfl
set_option maxRecDepth 65536 in
set_option maxHeartbeats 40000000 in
theorem rStr11 (l : Launch) (Z : State) (aa : Array Value) (hw : ∀ d ∈ tables_1, d.before aa Z = true) (ws : List Jvm.Cond) (w0 : Addr) (u0 : Int32) (u1 : Int32) (u2 : Int32) (u3 : Int32) (u4 : Int32) (u5 : Int32) (u6 : Int32) (u7 : Int32) (u8 : Int32) (u9 : Int32) (u10 : Int32) (u11 : Int32) (G1 : Int32) (h0 : Heap) (n0 : Nat) (Z0 : n0 ≤ h0.size) (V_w0 : Av Z h0 w0 .char [(.int u0), (.int u1), (.int u2), (.int u3), (.int u4), (.int u5), (.int u6), (.int u7), (.int u8), (.int u9), (.int u10), (.int u11)]) (hp : ∀ c ∈ ([(nar .char u10), (nar .char u9), (nar .char u8), (nar .char u7), (nar .char u6), (nar .char u5), (nar .char u4), (nar .char u3), (nar .char u2), (nar .char u1), (nar .char u0)] : List Int32), ¬ c < 0 ∧ ¬ (255 : Int32) < c) (O2 : Sta Z Z.heap "java/lang/String" "COMPACT_STRINGS" "Z" (.int G1)) (P5 : ¬ G1 = (0 : Int32)) (Od : Old Z n0 h0) :
    Rm l Z (⟨"com/example/grant/grant/WholeNumberParsePinLaw", "str", "([CI)Ljava/lang/String;"⟩ : MethodName) method_5_code 2 (some (.object "java/lang/String")) ws ({ frames := 4, cells := 3, slots := 26, locals := 66 } : Room) #[(.ref w0), (.int (11 : Int32))] h0 (fun v h L => ∃ x, v = some (.ref x) ∧ Fr n0 L ∧ Keep h0 h [] ∧ StrIs Z h x ([(nar .char u10), (nar .char u9), (nar .char u8), (nar .char u7), (nar .char u6), (nar .char u5), (nar .char u4), (nar .char u3), (nar .char u2), (nar .char u1), (nar .char u0)] : List Int32)) := by
  refine Rm.of (plainFor_of_name pn_0) ?_
  intro p e s m below meth cc T X hnm hret hlk
  refine Go.at_ (ef_rStr11 m w0 (11 : Int32)) ?_
  have N := Fr.nil n0
  have Kp := Keep.refl h0 []
  refine g_iloadN X d2_0 (pc' := 1) rfl rfl ?_
  refine g_iconst X (1 : Int32) d2_1 (pc' := 2) rfl rfl ?_
  refine g_icY X d2_2 (feq (show ¬ ((11 : Int32) = (1 : Int32)) from (by decide))).2 (pc' := 22) (by decide) (by decide) ?_
  refine g_iloadN X d2_22 (pc' := 23) rfl rfl ?_
  refine g_iconst X (2 : Int32) d2_23 (pc' := 24) rfl rfl ?_
  refine g_icY X d2_24 (feq (show ¬ ((11 : Int32) = (2 : Int32)) from (by decide))).2 (pc' := 50) (by decide) (by decide) ?_
  refine g_iloadN X d2_50 (pc' := 51) rfl rfl ?_
  refine g_iconst X (3 : Int32) d2_51 (pc' := 52) rfl rfl ?_
  refine g_icY X d2_52 (feq (show ¬ ((11 : Int32) = (3 : Int32)) from (by decide))).2 (pc' := 84) (by decide) (by decide) ?_
  refine g_iloadN X d2_84 (pc' := 85) rfl rfl ?_
  refine g_iconst X (4 : Int32) d2_85 (pc' := 86) rfl rfl ?_
  refine g_icY X d2_86 (feq (show ¬ ((11 : Int32) = (4 : Int32)) from (by decide))).2 (pc' := 124) (by decide) (by decide) ?_
  refine g_iloadN X d2_124 (pc' := 125) rfl rfl ?_
  refine g_iconst X (5 : Int32) d2_125 (pc' := 126) rfl rfl ?_
  refine g_icY X d2_126 (feq (show ¬ ((11 : Int32) = (5 : Int32)) from (by decide))).2 (pc' := 170) (by decide) (by decide) ?_
  refine g_iloadN X d2_170 (pc' := 171) rfl rfl ?_
  refine g_bipush X (6 : Int32) d2_171 (pc' := 173) rfl rfl ?_
  refine g_icY X d2_173 (feq (show ¬ ((11 : Int32) = (6 : Int32)) from (by decide))).2 (pc' := 224) (by decide) (by decide) ?_
  refine g_iloadN X d2_224 (pc' := 225) rfl rfl ?_
  refine g_bipush X (7 : Int32) d2_225 (pc' := 227) rfl rfl ?_
  refine g_icY X d2_227 (feq (show ¬ ((11 : Int32) = (7 : Int32)) from (by decide))).2 (pc' := 286) (by decide) (by decide) ?_
  refine g_iloadN X d2_286 (pc' := 287) rfl rfl ?_
  refine g_bipush X (8 : Int32) d2_287 (pc' := 289) rfl rfl ?_
  refine g_icY X d2_289 (feq (show ¬ ((11 : Int32) = (8 : Int32)) from (by decide))).2 (pc' := 356) (by decide) (by decide) ?_
  refine g_iloadN X d2_356 (pc' := 357) rfl rfl ?_
  refine g_bipush X (9 : Int32) d2_357 (pc' := 359) rfl rfl ?_
  refine g_icY X d2_359 (feq (show ¬ ((11 : Int32) = (9 : Int32)) from (by decide))).2 (pc' := 434) (by decide) (by decide) ?_
  refine g_iloadN X d2_434 (pc' := 435) rfl rfl ?_
  refine g_bipush X (10 : Int32) d2_435 (pc' := 437) rfl rfl ?_
  refine g_icY X d2_437 (feq (show ¬ ((11 : Int32) = (10 : Int32)) from (by decide))).2 (pc' := 520) (by decide) (by decide) ?_
  refine g_iloadN X d2_520 (pc' := 521) rfl rfl ?_
  refine g_bipush X (11 : Int32) d2_521 (pc' := 523) rfl rfl ?_
  refine g_icN X d2_523 (teq (show (11 : Int32) = (11 : Int32) from (by decide))).2 (pc' := 526) rfl ?_
  refine g_new X (tb hw 18 rfl) (tb hw 19 rfl) (tb hw 20 rfl) d2_526 (pc' := 529) rfl (by decide) (by decide) ?_
  intro T h b526_1 s_b526_1 X Ex E_b526_1 D_b526_1
  have ne_w0_b526_1 : w0 ≠ b526_1 := Nat.ne_of_lt (by rw [s_b526_1]; exact V_w0.lt)
  have g_b526_1 : n0 ≤ b526_1 := by rw [s_b526_1]; exact Z0
  have sz_b526_1 : h0.size ≤ b526_1 := by rw [s_b526_1]; exact Kp.1
  replace V_w0 := V_w0.ext Ex
  replace Z0 := Nat.le_trans Z0 Ex.1
  replace Kp := Kp.ext Ex
  replace Od := Od.ext Ex
  have F_b526_1_coder : Fld Z h b526_1 "java/lang/String" "coder" "B" (.int (0 : Int32)) := D_b526_1 (Or.inr (tb hw 44 rfl)) (ty := .byte) (by decide)
  have F_b526_1_value : Fld Z h b526_1 "java/lang/String" "value" "[B" .null := D_b526_1 (Or.inr (tb hw 46 rfl)) (ty := (.array .byte)) (by decide)
  refine g_dup X d2_529 (pc' := 530) rfl rfl ?_
  refine g_bipush X (11 : Int32) d2_530 (pc' := 532) rfl rfl ?_
  refine g_newarray X 11 (tb hw 1 rfl) d2_532 (pc' := 534) rfl (by decide) (by decide) 11 (by decide) (by decide) (by decide) (by decide) (vs := [(.int (0 : Int32)), (.int (0 : Int32)), (.int (0 : Int32)), (.int (0 : Int32)), (.int (0 : Int32)), (.int (0 : Int32)), (.int (0 : Int32)), (.int (0 : Int32)), (.int (0 : Int32)), (.int (0 : Int32)), (.int (0 : Int32))]) rfl (ad := "[C") (by decide) ?_
  intro T h b532_2 s_b532_2 X Ex E_b532_2 V_b532_2
  have ne_w0_b532_2 : w0 ≠ b532_2 := Nat.ne_of_lt (by rw [s_b532_2]; exact V_w0.lt)
  have ne_b526_1_b532_2 : b526_1 ≠ b532_2 := Nat.ne_of_lt (by rw [s_b532_2]; exact E_b526_1.lt)
  have g_b532_2 : n0 ≤ b532_2 := by rw [s_b532_2]; exact Z0
  have sz_b532_2 : h0.size ≤ b532_2 := by rw [s_b532_2]; exact Kp.1
  replace V_w0 := V_w0.ext Ex
  replace E_b526_1 := E_b526_1.ext Ex
  replace F_b526_1_coder := F_b526_1_coder.ext Ex
  replace F_b526_1_value := F_b526_1_value.ext Ex
  replace Z0 := Nat.le_trans Z0 Ex.1
  replace Kp := Kp.ext Ex
  replace Od := Od.ext Ex
  refine g_dup X d2_534 (pc' := 535) rfl rfl ?_
  refine g_iconst X (0 : Int32) d2_535 (pc' := 536) rfl rfl ?_
  refine g_aloadN X d2_536 (pc' := 537) rfl rfl rfl ?_
  refine g_bipush X (10 : Int32) d2_537 (pc' := 539) rfl rfl ?_
  refine g_caload X V_w0 10 d2_539 (pc' := 540) rfl (by decide) (by decide) rfl ?_
  refine g_castore X V_b532_2 0 d2_540 (pc' := 541) rfl (by decide) (by decide) (Nat.le_of_ble_eq_true rfl) ?_
  intro T h X W V_b532_2
  replace V_b532_2 : Av Z h b532_2 .char [(.int (nar .char u10)), (.int (0 : Int32)), (.int (0 : Int32)), (.int (0 : Int32)), (.int (0 : Int32)), (.int (0 : Int32)), (.int (0 : Int32)), (.int (0 : Int32)), (.int (0 : Int32)), (.int (0 : Int32)), (.int (0 : Int32))] := V_b532_2
  replace V_w0 := V_w0.other W ne_w0_b532_2
  replace E_b526_1 := E_b526_1.wr W
  replace F_b526_1_coder := F_b526_1_coder.other W (Or.inl ne_b526_1_b532_2)
  replace F_b526_1_value := F_b526_1_value.other W (Or.inl ne_b526_1_b532_2)
  replace E_b532_2 := E_b532_2.wr W
  replace Z0 := Nat.le_trans Z0 (Nat.le_of_eq W.size.symm)
  replace N := Fr.snoc X.1 N g_b532_2
  replace Kp := Kp.wr W (Or.inr sz_b532_2)
  replace Od := Od.wr W g_b532_2
  refine g_dup X d2_541 (pc' := 542) rfl rfl ?_
  refine g_iconst X (1 : Int32) d2_542 (pc' := 543) rfl rfl ?_
  refine g_aloadN X d2_543 (pc' := 544) rfl rfl rfl ?_
  refine g_bipush X (9 : Int32) d2_544 (pc' := 546) rfl rfl ?_
  refine g_caload X V_w0 9 d2_546 (pc' := 547) rfl (by decide) (by decide) rfl ?_
  refine g_castore X V_b532_2 1 d2_547 (pc' := 548) rfl (by decide) (by decide) (Nat.le_of_ble_eq_true rfl) ?_
  intro T h X W V_b532_2
  replace V_b532_2 : Av Z h b532_2 .char [(.int (nar .char u10)), (.int (nar .char u9)), (.int (0 : Int32)), (.int (0 : Int32)), (.int (0 : Int32)), (.int (0 : Int32)), (.int (0 : Int32)), (.int (0 : Int32)), (.int (0 : Int32)), (.int (0 : Int32)), (.int (0 : Int32))] := V_b532_2
  replace V_w0 := V_w0.other W ne_w0_b532_2
  replace E_b526_1 := E_b526_1.wr W
  replace F_b526_1_coder := F_b526_1_coder.other W (Or.inl ne_b526_1_b532_2)
  replace F_b526_1_value := F_b526_1_value.other W (Or.inl ne_b526_1_b532_2)
  replace E_b532_2 := E_b532_2.wr W
  replace Z0 := Nat.le_trans Z0 (Nat.le_of_eq W.size.symm)
  replace N := Fr.snoc X.1 N g_b532_2
  replace Kp := Kp.wr W (Or.inr sz_b532_2)
  replace Od := Od.wr W g_b532_2
  refine g_dup X d2_548 (pc' := 549) rfl rfl ?_
  refine g_iconst X (2 : Int32) d2_549 (pc' := 550) rfl rfl ?_
  refine g_aloadN X d2_550 (pc' := 551) rfl rfl rfl ?_
  refine g_bipush X (8 : Int32) d2_551 (pc' := 553) rfl rfl ?_
  refine g_caload X V_w0 8 d2_553 (pc' := 554) rfl (by decide) (by decide) rfl ?_
  refine g_castore X V_b532_2 2 d2_554 (pc' := 555) rfl (by decide) (by decide) (Nat.le_of_ble_eq_true rfl) ?_
  intro T h X W V_b532_2
  replace V_b532_2 : Av Z h b532_2 .char [(.int (nar .char u10)), (.int (nar .char u9)), (.int (nar .char u8)), (.int (0 : Int32)), (.int (0 : Int32)), (.int (0 : Int32)), (.int (0 : Int32)), (.int (0 : Int32)), (.int (0 : Int32)), (.int (0 : Int32)), (.int (0 : Int32))] := V_b532_2
  replace V_w0 := V_w0.other W ne_w0_b532_2
  replace E_b526_1 := E_b526_1.wr W
  replace F_b526_1_coder := F_b526_1_coder.other W (Or.inl ne_b526_1_b532_2)
  replace F_b526_1_value := F_b526_1_value.other W (Or.inl ne_b526_1_b532_2)
  replace E_b532_2 := E_b532_2.wr W
  replace Z0 := Nat.le_trans Z0 (Nat.le_of_eq W.size.symm)
  replace N := Fr.snoc X.1 N g_b532_2
  replace Kp := Kp.wr W (Or.inr sz_b532_2)
  replace Od := Od.wr W g_b532_2
  refine g_dup X d2_555 (pc' := 556) rfl rfl ?_
  refine g_iconst X (3 : Int32) d2_556 (pc' := 557) rfl rfl ?_
  refine g_aloadN X d2_557 (pc' := 558) rfl rfl rfl ?_
  refine g_bipush X (7 : Int32) d2_558 (pc' := 560) rfl rfl ?_
  refine g_caload X V_w0 7 d2_560 (pc' := 561) rfl (by decide) (by decide) rfl ?_
  refine g_castore X V_b532_2 3 d2_561 (pc' := 562) rfl (by decide) (by decide) (Nat.le_of_ble_eq_true rfl) ?_
  intro T h X W V_b532_2
  replace V_b532_2 : Av Z h b532_2 .char [(.int (nar .char u10)), (.int (nar .char u9)), (.int (nar .char u8)), (.int (nar .char u7)), (.int (0 : Int32)), (.int (0 : Int32)), (.int (0 : Int32)), (.int (0 : Int32)), (.int (0 : Int32)), (.int (0 : Int32)), (.int (0 : Int32))] := V_b532_2
  replace V_w0 := V_w0.other W ne_w0_b532_2
  replace E_b526_1 := E_b526_1.wr W
  replace F_b526_1_coder := F_b526_1_coder.other W (Or.inl ne_b526_1_b532_2)
  replace F_b526_1_value := F_b526_1_value.other W (Or.inl ne_b526_1_b532_2)
  replace E_b532_2 := E_b532_2.wr W
  replace Z0 := Nat.le_trans Z0 (Nat.le_of_eq W.size.symm)
  replace N := Fr.snoc X.1 N g_b532_2
  replace Kp := Kp.wr W (Or.inr sz_b532_2)
  replace Od := Od.wr W g_b532_2
  refine g_dup X d2_562 (pc' := 563) rfl rfl ?_
  refine g_iconst X (4 : Int32) d2_563 (pc' := 564) rfl rfl ?_
  refine g_aloadN X d2_564 (pc' := 565) rfl rfl rfl ?_
  refine g_bipush X (6 : Int32) d2_565 (pc' := 567) rfl rfl ?_
  refine g_caload X V_w0 6 d2_567 (pc' := 568) rfl (by decide) (by decide) rfl ?_
  refine g_castore X V_b532_2 4 d2_568 (pc' := 569) rfl (by decide) (by decide) (Nat.le_of_ble_eq_true rfl) ?_
  intro T h X W V_b532_2
  replace V_b532_2 : Av Z h b532_2 .char [(.int (nar .char u10)), (.int (nar .char u9)), (.int (nar .char u8)), (.int (nar .char u7)), (.int (nar .char u6)), (.int (0 : Int32)), (.int (0 : Int32)), (.int (0 : Int32)), (.int (0 : Int32)), (.int (0 : Int32)), (.int (0 : Int32))] := V_b532_2
  replace V_w0 := V_w0.other W ne_w0_b532_2
  replace E_b526_1 := E_b526_1.wr W
  replace F_b526_1_coder := F_b526_1_coder.other W (Or.inl ne_b526_1_b532_2)
  replace F_b526_1_value := F_b526_1_value.other W (Or.inl ne_b526_1_b532_2)
  replace E_b532_2 := E_b532_2.wr W
  replace Z0 := Nat.le_trans Z0 (Nat.le_of_eq W.size.symm)
  replace N := Fr.snoc X.1 N g_b532_2
  replace Kp := Kp.wr W (Or.inr sz_b532_2)
  replace Od := Od.wr W g_b532_2
  refine g_dup X d2_569 (pc' := 570) rfl rfl ?_
  refine g_iconst X (5 : Int32) d2_570 (pc' := 571) rfl rfl ?_
  refine g_aloadN X d2_571 (pc' := 572) rfl rfl rfl ?_
  refine g_iconst X (5 : Int32) d2_572 (pc' := 573) rfl rfl ?_
  refine g_caload X V_w0 5 d2_573 (pc' := 574) rfl (by decide) (by decide) rfl ?_
  refine g_castore X V_b532_2 5 d2_574 (pc' := 575) rfl (by decide) (by decide) (Nat.le_of_ble_eq_true rfl) ?_
  intro T h X W V_b532_2
  replace V_b532_2 : Av Z h b532_2 .char [(.int (nar .char u10)), (.int (nar .char u9)), (.int (nar .char u8)), (.int (nar .char u7)), (.int (nar .char u6)), (.int (nar .char u5)), (.int (0 : Int32)), (.int (0 : Int32)), (.int (0 : Int32)), (.int (0 : Int32)), (.int (0 : Int32))] := V_b532_2
  replace V_w0 := V_w0.other W ne_w0_b532_2
  replace E_b526_1 := E_b526_1.wr W
  replace F_b526_1_coder := F_b526_1_coder.other W (Or.inl ne_b526_1_b532_2)
  replace F_b526_1_value := F_b526_1_value.other W (Or.inl ne_b526_1_b532_2)
  replace E_b532_2 := E_b532_2.wr W
  replace Z0 := Nat.le_trans Z0 (Nat.le_of_eq W.size.symm)
  replace N := Fr.snoc X.1 N g_b532_2
  replace Kp := Kp.wr W (Or.inr sz_b532_2)
  replace Od := Od.wr W g_b532_2
  refine g_dup X d2_575 (pc' := 576) rfl rfl ?_
  refine g_bipush X (6 : Int32) d2_576 (pc' := 578) rfl rfl ?_
  refine g_aloadN X d2_578 (pc' := 579) rfl rfl rfl ?_
  refine g_iconst X (4 : Int32) d2_579 (pc' := 580) rfl rfl ?_
  refine g_caload X V_w0 4 d2_580 (pc' := 581) rfl (by decide) (by decide) rfl ?_
  refine g_castore X V_b532_2 6 d2_581 (pc' := 582) rfl (by decide) (by decide) (Nat.le_of_ble_eq_true rfl) ?_
  intro T h X W V_b532_2
  replace V_b532_2 : Av Z h b532_2 .char [(.int (nar .char u10)), (.int (nar .char u9)), (.int (nar .char u8)), (.int (nar .char u7)), (.int (nar .char u6)), (.int (nar .char u5)), (.int (nar .char u4)), (.int (0 : Int32)), (.int (0 : Int32)), (.int (0 : Int32)), (.int (0 : Int32))] := V_b532_2
  replace V_w0 := V_w0.other W ne_w0_b532_2
  replace E_b526_1 := E_b526_1.wr W
  replace F_b526_1_coder := F_b526_1_coder.other W (Or.inl ne_b526_1_b532_2)
  replace F_b526_1_value := F_b526_1_value.other W (Or.inl ne_b526_1_b532_2)
  replace E_b532_2 := E_b532_2.wr W
  replace Z0 := Nat.le_trans Z0 (Nat.le_of_eq W.size.symm)
  replace N := Fr.snoc X.1 N g_b532_2
  replace Kp := Kp.wr W (Or.inr sz_b532_2)
  replace Od := Od.wr W g_b532_2
  refine g_dup X d2_582 (pc' := 583) rfl rfl ?_
  refine g_bipush X (7 : Int32) d2_583 (pc' := 585) rfl rfl ?_
  refine g_aloadN X d2_585 (pc' := 586) rfl rfl rfl ?_
  refine g_iconst X (3 : Int32) d2_586 (pc' := 587) rfl rfl ?_
  refine g_caload X V_w0 3 d2_587 (pc' := 588) rfl (by decide) (by decide) rfl ?_
  refine g_castore X V_b532_2 7 d2_588 (pc' := 589) rfl (by decide) (by decide) (Nat.le_of_ble_eq_true rfl) ?_
  intro T h X W V_b532_2
  replace V_b532_2 : Av Z h b532_2 .char [(.int (nar .char u10)), (.int (nar .char u9)), (.int (nar .char u8)), (.int (nar .char u7)), (.int (nar .char u6)), (.int (nar .char u5)), (.int (nar .char u4)), (.int (nar .char u3)), (.int (0 : Int32)), (.int (0 : Int32)), (.int (0 : Int32))] := V_b532_2
  replace V_w0 := V_w0.other W ne_w0_b532_2
  replace E_b526_1 := E_b526_1.wr W
  replace F_b526_1_coder := F_b526_1_coder.other W (Or.inl ne_b526_1_b532_2)
  replace F_b526_1_value := F_b526_1_value.other W (Or.inl ne_b526_1_b532_2)
  replace E_b532_2 := E_b532_2.wr W
  replace Z0 := Nat.le_trans Z0 (Nat.le_of_eq W.size.symm)
  replace N := Fr.snoc X.1 N g_b532_2
  replace Kp := Kp.wr W (Or.inr sz_b532_2)
  replace Od := Od.wr W g_b532_2
  refine g_dup X d2_589 (pc' := 590) rfl rfl ?_
  refine g_bipush X (8 : Int32) d2_590 (pc' := 592) rfl rfl ?_
  refine g_aloadN X d2_592 (pc' := 593) rfl rfl rfl ?_
  refine g_iconst X (2 : Int32) d2_593 (pc' := 594) rfl rfl ?_
  refine g_caload X V_w0 2 d2_594 (pc' := 595) rfl (by decide) (by decide) rfl ?_
  refine g_castore X V_b532_2 8 d2_595 (pc' := 596) rfl (by decide) (by decide) (Nat.le_of_ble_eq_true rfl) ?_
  intro T h X W V_b532_2
  replace V_b532_2 : Av Z h b532_2 .char [(.int (nar .char u10)), (.int (nar .char u9)), (.int (nar .char u8)), (.int (nar .char u7)), (.int (nar .char u6)), (.int (nar .char u5)), (.int (nar .char u4)), (.int (nar .char u3)), (.int (nar .char u2)), (.int (0 : Int32)), (.int (0 : Int32))] := V_b532_2
  replace V_w0 := V_w0.other W ne_w0_b532_2
  replace E_b526_1 := E_b526_1.wr W
  replace F_b526_1_coder := F_b526_1_coder.other W (Or.inl ne_b526_1_b532_2)
  replace F_b526_1_value := F_b526_1_value.other W (Or.inl ne_b526_1_b532_2)
  replace E_b532_2 := E_b532_2.wr W
  replace Z0 := Nat.le_trans Z0 (Nat.le_of_eq W.size.symm)
  replace N := Fr.snoc X.1 N g_b532_2
  replace Kp := Kp.wr W (Or.inr sz_b532_2)
  replace Od := Od.wr W g_b532_2
  refine g_dup X d2_596 (pc' := 597) rfl rfl ?_
  refine g_bipush X (9 : Int32) d2_597 (pc' := 599) rfl rfl ?_
  refine g_aloadN X d2_599 (pc' := 600) rfl rfl rfl ?_
  refine g_iconst X (1 : Int32) d2_600 (pc' := 601) rfl rfl ?_
  refine g_caload X V_w0 1 d2_601 (pc' := 602) rfl (by decide) (by decide) rfl ?_
  refine g_castore X V_b532_2 9 d2_602 (pc' := 603) rfl (by decide) (by decide) (Nat.le_of_ble_eq_true rfl) ?_
  intro T h X W V_b532_2
  replace V_b532_2 : Av Z h b532_2 .char [(.int (nar .char u10)), (.int (nar .char u9)), (.int (nar .char u8)), (.int (nar .char u7)), (.int (nar .char u6)), (.int (nar .char u5)), (.int (nar .char u4)), (.int (nar .char u3)), (.int (nar .char u2)), (.int (nar .char u1)), (.int (0 : Int32))] := V_b532_2
  replace V_w0 := V_w0.other W ne_w0_b532_2
  replace E_b526_1 := E_b526_1.wr W
  replace F_b526_1_coder := F_b526_1_coder.other W (Or.inl ne_b526_1_b532_2)
  replace F_b526_1_value := F_b526_1_value.other W (Or.inl ne_b526_1_b532_2)
  replace E_b532_2 := E_b532_2.wr W
  replace Z0 := Nat.le_trans Z0 (Nat.le_of_eq W.size.symm)
  replace N := Fr.snoc X.1 N g_b532_2
  replace Kp := Kp.wr W (Or.inr sz_b532_2)
  replace Od := Od.wr W g_b532_2
  refine g_dup X d2_603 (pc' := 604) rfl rfl ?_
  refine g_bipush X (10 : Int32) d2_604 (pc' := 606) rfl rfl ?_
  refine g_aloadN X d2_606 (pc' := 607) rfl rfl rfl ?_
  refine g_iconst X (0 : Int32) d2_607 (pc' := 608) rfl rfl ?_
  refine g_caload X V_w0 0 d2_608 (pc' := 609) rfl (by decide) (by decide) rfl ?_
  refine g_castore X V_b532_2 10 d2_609 (pc' := 610) rfl (by decide) (by decide) (Nat.le_of_ble_eq_true rfl) ?_
  intro T h X W V_b532_2
  replace V_b532_2 : Av Z h b532_2 .char [(.int (nar .char u10)), (.int (nar .char u9)), (.int (nar .char u8)), (.int (nar .char u7)), (.int (nar .char u6)), (.int (nar .char u5)), (.int (nar .char u4)), (.int (nar .char u3)), (.int (nar .char u2)), (.int (nar .char u1)), (.int (nar .char u0))] := V_b532_2
  replace V_w0 := V_w0.other W ne_w0_b532_2
  replace E_b526_1 := E_b526_1.wr W
  replace F_b526_1_coder := F_b526_1_coder.other W (Or.inl ne_b526_1_b532_2)
  replace F_b526_1_value := F_b526_1_value.other W (Or.inl ne_b526_1_b532_2)
  replace E_b532_2 := E_b532_2.wr W
  replace Z0 := Nat.le_trans Z0 (Nat.le_of_eq W.size.symm)
  replace N := Fr.snoc X.1 N g_b532_2
  replace Kp := Kp.wr W (Or.inr sz_b532_2)
  replace Od := Od.wr W g_b532_2
  refine g_specialB X (W := 1) (a := b526_1) [(.ref b532_2)] [(.ref b526_1)] rfl (tb hw 21 rfl) (tb hw 22 rfl) (tb hw 23 rfl) (Q := NewQ Z b526_1 ([(nar .char u10), (nar .char u9), (nar .char u8), (nar .char u7), (nar .char u6), (nar .char u5), (nar .char u4), (nar .char u3), (nar .char u2), (nar .char u1), (nar .char u0)] : List Int32) _ n0) (kc := 1) (ks := 11) (back_new (W := 1) (cs := ([(nar .char u10), (nar .char u9), (nar .char u8), (nar .char u7), (nar .char u6), (nar .char u5), (nar .char u4), (nar .char u3), (nar .char u2), (nar .char u1), (nar .char u0)] : List Int32)) X.2.2.2.2.2.1 hw g_b526_1 Z0 E_b526_1 F_b526_1_value F_b526_1_coder V_b532_2 rfl (fitS (fits_nar_char _) (fitS (fits_nar_char _) (fitS (fits_nar_char _) (fitS (fits_nar_char _) (fitS (fits_nar_char _) (fitS (fits_nar_char _) (fitS (fits_nar_char _) (fitS (fits_nar_char _) (fitS (fits_nar_char _) (fitS (fits_nar_char _) (fitS (fits_nar_char _) fit0))))))))))) (O2.ext Od.2) P5 rfl (by decide) (by decide) hp (by decide) (by decide)) d2_610 (pc' := 613) rfl (by decide) rfl rfl rfl (lenOf pd_0 rfl) (Nat.le_refl _) (by decide) (by decide) ?_
  intro v T L X q
  obtain ⟨rfl, Nq, Kq, St_b526_1⟩ := q
  replace N := N.app Nq
  replace V_w0 := V_w0.keep Kq (ninS ne_w0_b526_1 nin0)
  replace E_b532_2 := E_b532_2.keep Kq
  replace V_b532_2 := V_b532_2.keep Kq (ninS (Ne.symm ne_b526_1_b532_2) nin0)
  replace Od := Od.keep Kq (allS g_b526_1 all0)
  replace Z0 := Nat.le_trans Z0 Kq.1
  replace Kp := Kp.trans Kq (allS (Or.inr sz_b526_1) all0)
  have E_b526_1 := St_b526_1.1
  show Go p e below _ (T.setTop (mkF m 613 #[.val (.ref w0), .val (.int (11 : Int32))] [(.ref b526_1)]))
  refine g_areturn X rfl rfl d2_613 hret hlk (by decide) (by decide) ?_
  exact ⟨b526_1, rfl, N, Kp, St_b526_1⟩
theorem d2_614 : decode method_5_code 614 = .ok (.new 41, 3) := by decide +kernel
theorem d2_617 : decode method_5_code 617 = .ok (.dup, 1) := by decide +kernel
theorem d2_618 : decode method_5_code 618 = .ok (.bipush 12, 2) := by decide +kernel
theorem d2_620 : decode method_5_code 620 = .ok (.newarray .char, 2) := by decide +kernel
theorem d2_622 : decode method_5_code 622 = .ok (.dup, 1) := by decide +kernel
theorem d2_623 : decode method_5_code 623 = .ok (.iconst 0, 1) := by decide +kernel
theorem d2_624 : decode method_5_code 624 = .ok (.aload_n 0, 1) := by decide +kernel
theorem d2_625 : decode method_5_code 625 = .ok (.bipush 11, 2) := by decide +kernel
theorem d2_627 : decode method_5_code 627 = .ok (.caload, 1) := by decide +kernel
theorem d2_628 : decode method_5_code 628 = .ok (.castore, 1) := by decide +kernel
theorem d2_629 : decode method_5_code 629 = .ok (.dup, 1) := by decide +kernel
theorem d2_630 : decode method_5_code 630 = .ok (.iconst 1, 1) := by decide +kernel
theorem d2_631 : decode method_5_code 631 = .ok (.aload_n 0, 1) := by decide +kernel
theorem d2_632 : decode method_5_code 632 = .ok (.bipush 10, 2) := by decide +kernel
theorem d2_634 : decode method_5_code 634 = .ok (.caload, 1) := by decide +kernel
theorem d2_635 : decode method_5_code 635 = .ok (.castore, 1) := by decide +kernel
theorem d2_636 : decode method_5_code 636 = .ok (.dup, 1) := by decide +kernel
theorem d2_637 : decode method_5_code 637 = .ok (.iconst 2, 1) := by decide +kernel
theorem d2_638 : decode method_5_code 638 = .ok (.aload_n 0, 1) := by decide +kernel
theorem d2_639 : decode method_5_code 639 = .ok (.bipush 9, 2) := by decide +kernel
theorem d2_641 : decode method_5_code 641 = .ok (.caload, 1) := by decide +kernel
theorem d2_642 : decode method_5_code 642 = .ok (.castore, 1) := by decide +kernel
theorem d2_643 : decode method_5_code 643 = .ok (.dup, 1) := by decide +kernel
theorem d2_644 : decode method_5_code 644 = .ok (.iconst 3, 1) := by decide +kernel
theorem d2_645 : decode method_5_code 645 = .ok (.aload_n 0, 1) := by decide +kernel
theorem d2_646 : decode method_5_code 646 = .ok (.bipush 8, 2) := by decide +kernel
theorem d2_648 : decode method_5_code 648 = .ok (.caload, 1) := by decide +kernel
theorem d2_649 : decode method_5_code 649 = .ok (.castore, 1) := by decide +kernel
theorem d2_650 : decode method_5_code 650 = .ok (.dup, 1) := by decide +kernel
theorem d2_651 : decode method_5_code 651 = .ok (.iconst 4, 1) := by decide +kernel
theorem d2_652 : decode method_5_code 652 = .ok (.aload_n 0, 1) := by decide +kernel
theorem d2_653 : decode method_5_code 653 = .ok (.bipush 7, 2) := by decide +kernel
theorem d2_655 : decode method_5_code 655 = .ok (.caload, 1) := by decide +kernel
theorem d2_656 : decode method_5_code 656 = .ok (.castore, 1) := by decide +kernel
theorem d2_657 : decode method_5_code 657 = .ok (.dup, 1) := by decide +kernel
theorem d2_658 : decode method_5_code 658 = .ok (.iconst 5, 1) := by decide +kernel
theorem d2_659 : decode method_5_code 659 = .ok (.aload_n 0, 1) := by decide +kernel
theorem d2_660 : decode method_5_code 660 = .ok (.bipush 6, 2) := by decide +kernel
theorem d2_662 : decode method_5_code 662 = .ok (.caload, 1) := by decide +kernel
theorem d2_663 : decode method_5_code 663 = .ok (.castore, 1) := by decide +kernel
theorem d2_664 : decode method_5_code 664 = .ok (.dup, 1) := by decide +kernel
theorem d2_665 : decode method_5_code 665 = .ok (.bipush 6, 2) := by decide +kernel
theorem d2_667 : decode method_5_code 667 = .ok (.aload_n 0, 1) := by decide +kernel
theorem d2_668 : decode method_5_code 668 = .ok (.iconst 5, 1) := by decide +kernel
theorem d2_669 : decode method_5_code 669 = .ok (.caload, 1) := by decide +kernel
theorem d2_670 : decode method_5_code 670 = .ok (.castore, 1) := by decide +kernel
theorem d2_671 : decode method_5_code 671 = .ok (.dup, 1) := by decide +kernel
theorem d2_672 : decode method_5_code 672 = .ok (.bipush 7, 2) := by decide +kernel
theorem d2_674 : decode method_5_code 674 = .ok (.aload_n 0, 1) := by decide +kernel
theorem d2_675 : decode method_5_code 675 = .ok (.iconst 4, 1) := by decide +kernel
theorem d2_676 : decode method_5_code 676 = .ok (.caload, 1) := by decide +kernel
theorem d2_677 : decode method_5_code 677 = .ok (.castore, 1) := by decide +kernel
theorem d2_678 : decode method_5_code 678 = .ok (.dup, 1) := by decide +kernel
theorem d2_679 : decode method_5_code 679 = .ok (.bipush 8, 2) := by decide +kernel
theorem d2_681 : decode method_5_code 681 = .ok (.aload_n 0, 1) := by decide +kernel
theorem d2_682 : decode method_5_code 682 = .ok (.iconst 3, 1) := by decide +kernel
theorem d2_683 : decode method_5_code 683 = .ok (.caload, 1) := by decide +kernel
theorem d2_684 : decode method_5_code 684 = .ok (.castore, 1) := by decide +kernel
theorem d2_685 : decode method_5_code 685 = .ok (.dup, 1) := by decide +kernel
theorem d2_686 : decode method_5_code 686 = .ok (.bipush 9, 2) := by decide +kernel
theorem d2_688 : decode method_5_code 688 = .ok (.aload_n 0, 1) := by decide +kernel
theorem d2_689 : decode method_5_code 689 = .ok (.iconst 2, 1) := by decide +kernel
theorem d2_690 : decode method_5_code 690 = .ok (.caload, 1) := by decide +kernel
theorem d2_691 : decode method_5_code 691 = .ok (.castore, 1) := by decide +kernel
theorem d2_692 : decode method_5_code 692 = .ok (.dup, 1) := by decide +kernel
theorem d2_693 : decode method_5_code 693 = .ok (.bipush 10, 2) := by decide +kernel
theorem d2_695 : decode method_5_code 695 = .ok (.aload_n 0, 1) := by decide +kernel
theorem d2_696 : decode method_5_code 696 = .ok (.iconst 1, 1) := by decide +kernel
theorem d2_697 : decode method_5_code 697 = .ok (.caload, 1) := by decide +kernel
theorem d2_698 : decode method_5_code 698 = .ok (.castore, 1) := by decide +kernel
theorem d2_699 : decode method_5_code 699 = .ok (.dup, 1) := by decide +kernel
theorem d2_700 : decode method_5_code 700 = .ok (.bipush 11, 2) := by decide +kernel
theorem d2_702 : decode method_5_code 702 = .ok (.aload_n 0, 1) := by decide +kernel
theorem d2_703 : decode method_5_code 703 = .ok (.iconst 0, 1) := by decide +kernel
theorem d2_704 : decode method_5_code 704 = .ok (.caload, 1) := by decide +kernel
theorem d2_705 : decode method_5_code 705 = .ok (.castore, 1) := by decide +kernel
theorem d2_706 : decode method_5_code 706 = .ok (.invokespecial 52, 3) := by decide +kernel
theorem d2_709 : decode method_5_code 709 = .ok (.areturn, 1) := by decide +kernel
theorem ef_rStr12 (m : MethodId) (x0 : Addr) (x1 : Int32) : entryFrame m #[(.ref x0), (.int x1)] 2 = mkF m 0 #[.val (.ref x0), .val (.int x1)] [] := by first | (simp [entryFrame, mkF, argsToLocals, Value.category]; done) | rfl
set_option maxRecDepth 65536 in
set_option maxHeartbeats 40000000 in
theorem rStr12 (l : Launch) (Z : State) (aa : Array Value) (hw : ∀ d ∈ tables_1, d.before aa Z = true) (ws : List Jvm.Cond) (w0 : Addr) (u0 : Int32) (u1 : Int32) (u2 : Int32) (u3 : Int32) (u4 : Int32) (u5 : Int32) (u6 : Int32) (u7 : Int32) (u8 : Int32) (u9 : Int32) (u10 : Int32) (u11 : Int32) (G1 : Int32) (h0 : Heap) (n0 : Nat) (Z0 : n0 ≤ h0.size) (V_w0 : Av Z h0 w0 .char [(.int u0), (.int u1), (.int u2), (.int u3), (.int u4), (.int u5), (.int u6), (.int u7), (.int u8), (.int u9), (.int u10), (.int u11)]) (hp : ∀ c ∈ ([(nar .char u11), (nar .char u10), (nar .char u9), (nar .char u8), (nar .char u7), (nar .char u6), (nar .char u5), (nar .char u4), (nar .char u3), (nar .char u2), (nar .char u1), (nar .char u0)] : List Int32), ¬ c < 0 ∧ ¬ (255 : Int32) < c) (O2 : Sta Z Z.heap "java/lang/String" "COMPACT_STRINGS" "Z" (.int G1)) (P5 : ¬ G1 = (0 : Int32)) (Od : Old Z n0 h0) :
    Rm l Z (⟨"com/example/grant/grant/WholeNumberParsePinLaw", "str", "([CI)Ljava/lang/String;"⟩ : MethodName) method_5_code 2 (some (.object "java/lang/String")) ws ({ frames := 4, cells := 3, slots := 28, locals := 66 } : Room) #[(.ref w0), (.int (12 : Int32))] h0 (fun v h L => ∃ x, v = some (.ref x) ∧ Fr n0 L ∧ Keep h0 h [] ∧ StrIs Z h x ([(nar .char u11), (nar .char u10), (nar .char u9), (nar .char u8), (nar .char u7), (nar .char u6), (nar .char u5), (nar .char u4), (nar .char u3), (nar .char u2), (nar .char u1), (nar .char u0)] : List Int32)) := by
  refine Rm.of (plainFor_of_name pn_0) ?_
  intro p e s m below meth cc T X hnm hret hlk
  refine Go.at_ (ef_rStr12 m w0 (12 : Int32)) ?_
  have N := Fr.nil n0
  have Kp := Keep.refl h0 []
  refine g_iloadN X d2_0 (pc' := 1) rfl rfl ?_
  refine g_iconst X (1 : Int32) d2_1 (pc' := 2) rfl rfl ?_
  refine g_icY X d2_2 (feq (show ¬ ((12 : Int32) = (1 : Int32)) from (by decide))).2 (pc' := 22) (by decide) (by decide) ?_
  refine g_iloadN X d2_22 (pc' := 23) rfl rfl ?_
  refine g_iconst X (2 : Int32) d2_23 (pc' := 24) rfl rfl ?_
  refine g_icY X d2_24 (feq (show ¬ ((12 : Int32) = (2 : Int32)) from (by decide))).2 (pc' := 50) (by decide) (by decide) ?_
  refine g_iloadN X d2_50 (pc' := 51) rfl rfl ?_
  refine g_iconst X (3 : Int32) d2_51 (pc' := 52) rfl rfl ?_
  refine g_icY X d2_52 (feq (show ¬ ((12 : Int32) = (3 : Int32)) from (by decide))).2 (pc' := 84) (by decide) (by decide) ?_
  refine g_iloadN X d2_84 (pc' := 85) rfl rfl ?_
  refine g_iconst X (4 : Int32) d2_85 (pc' := 86) rfl rfl ?_
  refine g_icY X d2_86 (feq (show ¬ ((12 : Int32) = (4 : Int32)) from (by decide))).2 (pc' := 124) (by decide) (by decide) ?_
  refine g_iloadN X d2_124 (pc' := 125) rfl rfl ?_
  refine g_iconst X (5 : Int32) d2_125 (pc' := 126) rfl rfl ?_
  refine g_icY X d2_126 (feq (show ¬ ((12 : Int32) = (5 : Int32)) from (by decide))).2 (pc' := 170) (by decide) (by decide) ?_
  refine g_iloadN X d2_170 (pc' := 171) rfl rfl ?_
  refine g_bipush X (6 : Int32) d2_171 (pc' := 173) rfl rfl ?_
  refine g_icY X d2_173 (feq (show ¬ ((12 : Int32) = (6 : Int32)) from (by decide))).2 (pc' := 224) (by decide) (by decide) ?_
  refine g_iloadN X d2_224 (pc' := 225) rfl rfl ?_
  refine g_bipush X (7 : Int32) d2_225 (pc' := 227) rfl rfl ?_
  refine g_icY X d2_227 (feq (show ¬ ((12 : Int32) = (7 : Int32)) from (by decide))).2 (pc' := 286) (by decide) (by decide) ?_
  refine g_iloadN X d2_286 (pc' := 287) rfl rfl ?_
  refine g_bipush X (8 : Int32) d2_287 (pc' := 289) rfl rfl ?_
  refine g_icY X d2_289 (feq (show ¬ ((12 : Int32) = (8 : Int32)) from (by decide))).2 (pc' := 356) (by decide) (by decide) ?_
  refine g_iloadN X d2_356 (pc' := 357) rfl rfl ?_
  refine g_bipush X (9 : Int32) d2_357 (pc' := 359) rfl rfl ?_
  refine g_icY X d2_359 (feq (show ¬ ((12 : Int32) = (9 : Int32)) from (by decide))).2 (pc' := 434) (by decide) (by decide) ?_
  refine g_iloadN X d2_434 (pc' := 435) rfl rfl ?_
  refine g_bipush X (10 : Int32) d2_435 (pc' := 437) rfl rfl ?_
  refine g_icY X d2_437 (feq (show ¬ ((12 : Int32) = (10 : Int32)) from (by decide))).2 (pc' := 520) (by decide) (by decide) ?_
  refine g_iloadN X d2_520 (pc' := 521) rfl rfl ?_
  refine g_bipush X (11 : Int32) d2_521 (pc' := 523) rfl rfl ?_
  refine g_icY X d2_523 (feq (show ¬ ((12 : Int32) = (11 : Int32)) from (by decide))).2 (pc' := 614) (by decide) (by decide) ?_
  refine g_new X (tb hw 18 rfl) (tb hw 19 rfl) (tb hw 20 rfl) d2_614 (pc' := 617) rfl (by decide) (by decide) ?_
  intro T h b614_1 s_b614_1 X Ex E_b614_1 D_b614_1
  have ne_w0_b614_1 : w0 ≠ b614_1 := Nat.ne_of_lt (by rw [s_b614_1]; exact V_w0.lt)
  have g_b614_1 : n0 ≤ b614_1 := by rw [s_b614_1]; exact Z0
  have sz_b614_1 : h0.size ≤ b614_1 := by rw [s_b614_1]; exact Kp.1
  replace V_w0 := V_w0.ext Ex
  replace Z0 := Nat.le_trans Z0 Ex.1
  replace Kp := Kp.ext Ex
  replace Od := Od.ext Ex
  have F_b614_1_coder : Fld Z h b614_1 "java/lang/String" "coder" "B" (.int (0 : Int32)) := D_b614_1 (Or.inr (tb hw 44 rfl)) (ty := .byte) (by decide)
  have F_b614_1_value : Fld Z h b614_1 "java/lang/String" "value" "[B" .null := D_b614_1 (Or.inr (tb hw 46 rfl)) (ty := (.array .byte)) (by decide)
  refine g_dup X d2_617 (pc' := 618) rfl rfl ?_
  refine g_bipush X (12 : Int32) d2_618 (pc' := 620) rfl rfl ?_
  refine g_newarray X 12 (tb hw 1 rfl) d2_620 (pc' := 622) rfl (by decide) (by decide) 12 (by decide) (by decide) (by decide) (by decide) (vs := [(.int (0 : Int32)), (.int (0 : Int32)), (.int (0 : Int32)), (.int (0 : Int32)), (.int (0 : Int32)), (.int (0 : Int32)), (.int (0 : Int32)), (.int (0 : Int32)), (.int (0 : Int32)), (.int (0 : Int32)), (.int (0 : Int32)), (.int (0 : Int32))]) rfl (ad := "[C") (by decide) ?_
  intro T h b620_2 s_b620_2 X Ex E_b620_2 V_b620_2
  have ne_w0_b620_2 : w0 ≠ b620_2 := Nat.ne_of_lt (by rw [s_b620_2]; exact V_w0.lt)
  have ne_b614_1_b620_2 : b614_1 ≠ b620_2 := Nat.ne_of_lt (by rw [s_b620_2]; exact E_b614_1.lt)
  have g_b620_2 : n0 ≤ b620_2 := by rw [s_b620_2]; exact Z0
  have sz_b620_2 : h0.size ≤ b620_2 := by rw [s_b620_2]; exact Kp.1
  replace V_w0 := V_w0.ext Ex
  replace E_b614_1 := E_b614_1.ext Ex
  replace F_b614_1_coder := F_b614_1_coder.ext Ex
  replace F_b614_1_value := F_b614_1_value.ext Ex
  replace Z0 := Nat.le_trans Z0 Ex.1
  replace Kp := Kp.ext Ex
  replace Od := Od.ext Ex
  refine g_dup X d2_622 (pc' := 623) rfl rfl ?_
  refine g_iconst X (0 : Int32) d2_623 (pc' := 624) rfl rfl ?_
  refine g_aloadN X d2_624 (pc' := 625) rfl rfl rfl ?_
  refine g_bipush X (11 : Int32) d2_625 (pc' := 627) rfl rfl ?_
  refine g_caload X V_w0 11 d2_627 (pc' := 628) rfl (by decide) (by decide) rfl ?_
  refine g_castore X V_b620_2 0 d2_628 (pc' := 629) rfl (by decide) (by decide) (Nat.le_of_ble_eq_true rfl) ?_
  intro T h X W V_b620_2
  replace V_b620_2 : Av Z h b620_2 .char [(.int (nar .char u11)), (.int (0 : Int32)), (.int (0 : Int32)), (.int (0 : Int32)), (.int (0 : Int32)), (.int (0 : Int32)), (.int (0 : Int32)), (.int (0 : Int32)), (.int (0 : Int32)), (.int (0 : Int32)), (.int (0 : Int32)), (.int (0 : Int32))] := V_b620_2
  replace V_w0 := V_w0.other W ne_w0_b620_2
  replace E_b614_1 := E_b614_1.wr W
  replace F_b614_1_coder := F_b614_1_coder.other W (Or.inl ne_b614_1_b620_2)
  replace F_b614_1_value := F_b614_1_value.other W (Or.inl ne_b614_1_b620_2)
  replace E_b620_2 := E_b620_2.wr W
  replace Z0 := Nat.le_trans Z0 (Nat.le_of_eq W.size.symm)
  replace N := Fr.snoc X.1 N g_b620_2
  replace Kp := Kp.wr W (Or.inr sz_b620_2)
  replace Od := Od.wr W g_b620_2
  refine g_dup X d2_629 (pc' := 630) rfl rfl ?_
  refine g_iconst X (1 : Int32) d2_630 (pc' := 631) rfl rfl ?_
  refine g_aloadN X d2_631 (pc' := 632) rfl rfl rfl ?_
  refine g_bipush X (10 : Int32) d2_632 (pc' := 634) rfl rfl ?_
  refine g_caload X V_w0 10 d2_634 (pc' := 635) rfl (by decide) (by decide) rfl ?_
  refine g_castore X V_b620_2 1 d2_635 (pc' := 636) rfl (by decide) (by decide) (Nat.le_of_ble_eq_true rfl) ?_
  intro T h X W V_b620_2
  replace V_b620_2 : Av Z h b620_2 .char [(.int (nar .char u11)), (.int (nar .char u10)), (.int (0 : Int32)), (.int (0 : Int32)), (.int (0 : Int32)), (.int (0 : Int32)), (.int (0 : Int32)), (.int (0 : Int32)), (.int (0 : Int32)), (.int (0 : Int32)), (.int (0 : Int32)), (.int (0 : Int32))] := V_b620_2
  replace V_w0 := V_w0.other W ne_w0_b620_2
  replace E_b614_1 := E_b614_1.wr W
  replace F_b614_1_coder := F_b614_1_coder.other W (Or.inl ne_b614_1_b620_2)
  replace F_b614_1_value := F_b614_1_value.other W (Or.inl ne_b614_1_b620_2)
  replace E_b620_2 := E_b620_2.wr W
  replace Z0 := Nat.le_trans Z0 (Nat.le_of_eq W.size.symm)
  replace N := Fr.snoc X.1 N g_b620_2
  replace Kp := Kp.wr W (Or.inr sz_b620_2)
  replace Od := Od.wr W g_b620_2
  refine g_dup X d2_636 (pc' := 637) rfl rfl ?_
  refine g_iconst X (2 : Int32) d2_637 (pc' := 638) rfl rfl ?_
  refine g_aloadN X d2_638 (pc' := 639) rfl rfl rfl ?_
  refine g_bipush X (9 : Int32) d2_639 (pc' := 641) rfl rfl ?_
  refine g_caload X V_w0 9 d2_641 (pc' := 642) rfl (by decide) (by decide) rfl ?_
  refine g_castore X V_b620_2 2 d2_642 (pc' := 643) rfl (by decide) (by decide) (Nat.le_of_ble_eq_true rfl) ?_
  intro T h X W V_b620_2
  replace V_b620_2 : Av Z h b620_2 .char [(.int (nar .char u11)), (.int (nar .char u10)), (.int (nar .char u9)), (.int (0 : Int32)), (.int (0 : Int32)), (.int (0 : Int32)), (.int (0 : Int32)), (.int (0 : Int32)), (.int (0 : Int32)), (.int (0 : Int32)), (.int (0 : Int32)), (.int (0 : Int32))] := V_b620_2
  replace V_w0 := V_w0.other W ne_w0_b620_2
  replace E_b614_1 := E_b614_1.wr W
  replace F_b614_1_coder := F_b614_1_coder.other W (Or.inl ne_b614_1_b620_2)
  replace F_b614_1_value := F_b614_1_value.other W (Or.inl ne_b614_1_b620_2)
  replace E_b620_2 := E_b620_2.wr W
  replace Z0 := Nat.le_trans Z0 (Nat.le_of_eq W.size.symm)
  replace N := Fr.snoc X.1 N g_b620_2
  replace Kp := Kp.wr W (Or.inr sz_b620_2)
  replace Od := Od.wr W g_b620_2
  refine g_dup X d2_643 (pc' := 644) rfl rfl ?_
  refine g_iconst X (3 : Int32) d2_644 (pc' := 645) rfl rfl ?_
  refine g_aloadN X d2_645 (pc' := 646) rfl rfl rfl ?_
  refine g_bipush X (8 : Int32) d2_646 (pc' := 648) rfl rfl ?_
  refine g_caload X V_w0 8 d2_648 (pc' := 649) rfl (by decide) (by decide) rfl ?_
  refine g_castore X V_b620_2 3 d2_649 (pc' := 650) rfl (by decide) (by decide) (Nat.le_of_ble_eq_true rfl) ?_
  intro T h X W V_b620_2
  replace V_b620_2 : Av Z h b620_2 .char [(.int (nar .char u11)), (.int (nar .char u10)), (.int (nar .char u9)), (.int (nar .char u8)), (.int (0 : Int32)), (.int (0 : Int32)), (.int (0 : Int32)), (.int (0 : Int32)), (.int (0 : Int32)), (.int (0 : Int32)), (.int (0 : Int32)), (.int (0 : Int32))] := V_b620_2
  replace V_w0 := V_w0.other W ne_w0_b620_2
  replace E_b614_1 := E_b614_1.wr W
  replace F_b614_1_coder := F_b614_1_coder.other W (Or.inl ne_b614_1_b620_2)
  replace F_b614_1_value := F_b614_1_value.other W (Or.inl ne_b614_1_b620_2)
  replace E_b620_2 := E_b620_2.wr W
  replace Z0 := Nat.le_trans Z0 (Nat.le_of_eq W.size.symm)
  replace N := Fr.snoc X.1 N g_b620_2
  replace Kp := Kp.wr W (Or.inr sz_b620_2)
  replace Od := Od.wr W g_b620_2
  refine g_dup X d2_650 (pc' := 651) rfl rfl ?_
  refine g_iconst X (4 : Int32) d2_651 (pc' := 652) rfl rfl ?_
  refine g_aloadN X d2_652 (pc' := 653) rfl rfl rfl ?_
  refine g_bipush X (7 : Int32) d2_653 (pc' := 655) rfl rfl ?_
  refine g_caload X V_w0 7 d2_655 (pc' := 656) rfl (by decide) (by decide) rfl ?_
  refine g_castore X V_b620_2 4 d2_656 (pc' := 657) rfl (by decide) (by decide) (Nat.le_of_ble_eq_true rfl) ?_
  intro T h X W V_b620_2
  replace V_b620_2 : Av Z h b620_2 .char [(.int (nar .char u11)), (.int (nar .char u10)), (.int (nar .char u9)), (.int (nar .char u8)), (.int (nar .char u7)), (.int (0 : Int32)), (.int (0 : Int32)), (.int (0 : Int32)), (.int (0 : Int32)), (.int (0 : Int32)), (.int (0 : Int32)), (.int (0 : Int32))] := V_b620_2
  replace V_w0 := V_w0.other W ne_w0_b620_2
  replace E_b614_1 := E_b614_1.wr W
  replace F_b614_1_coder := F_b614_1_coder.other W (Or.inl ne_b614_1_b620_2)
  replace F_b614_1_value := F_b614_1_value.other W (Or.inl ne_b614_1_b620_2)
  replace E_b620_2 := E_b620_2.wr W
  replace Z0 := Nat.le_trans Z0 (Nat.le_of_eq W.size.symm)
  replace N := Fr.snoc X.1 N g_b620_2
  replace Kp := Kp.wr W (Or.inr sz_b620_2)
  replace Od := Od.wr W g_b620_2
  refine g_dup X d2_657 (pc' := 658) rfl rfl ?_
  refine g_iconst X (5 : Int32) d2_658 (pc' := 659) rfl rfl ?_
  refine g_aloadN X d2_659 (pc' := 660) rfl rfl rfl ?_
  refine g_bipush X (6 : Int32) d2_660 (pc' := 662) rfl rfl ?_
  refine g_caload X V_w0 6 d2_662 (pc' := 663) rfl (by decide) (by decide) rfl ?_
  refine g_castore X V_b620_2 5 d2_663 (pc' := 664) rfl (by decide) (by decide) (Nat.le_of_ble_eq_true rfl) ?_
  intro T h X W V_b620_2
  replace V_b620_2 : Av Z h b620_2 .char [(.int (nar .char u11)), (.int (nar .char u10)), (.int (nar .char u9)), (.int (nar .char u8)), (.int (nar .char u7)), (.int (nar .char u6)), (.int (0 : Int32)), (.int (0 : Int32)), (.int (0 : Int32)), (.int (0 : Int32)), (.int (0 : Int32)), (.int (0 : Int32))] := V_b620_2
  replace V_w0 := V_w0.other W ne_w0_b620_2
  replace E_b614_1 := E_b614_1.wr W
  replace F_b614_1_coder := F_b614_1_coder.other W (Or.inl ne_b614_1_b620_2)
  replace F_b614_1_value := F_b614_1_value.other W (Or.inl ne_b614_1_b620_2)
  replace E_b620_2 := E_b620_2.wr W
  replace Z0 := Nat.le_trans Z0 (Nat.le_of_eq W.size.symm)
  replace N := Fr.snoc X.1 N g_b620_2
  replace Kp := Kp.wr W (Or.inr sz_b620_2)
  replace Od := Od.wr W g_b620_2
  refine g_dup X d2_664 (pc' := 665) rfl rfl ?_
  refine g_bipush X (6 : Int32) d2_665 (pc' := 667) rfl rfl ?_
  refine g_aloadN X d2_667 (pc' := 668) rfl rfl rfl ?_
  refine g_iconst X (5 : Int32) d2_668 (pc' := 669) rfl rfl ?_
  refine g_caload X V_w0 5 d2_669 (pc' := 670) rfl (by decide) (by decide) rfl ?_
  refine g_castore X V_b620_2 6 d2_670 (pc' := 671) rfl (by decide) (by decide) (Nat.le_of_ble_eq_true rfl) ?_
  intro T h X W V_b620_2
  replace V_b620_2 : Av Z h b620_2 .char [(.int (nar .char u11)), (.int (nar .char u10)), (.int (nar .char u9)), (.int (nar .char u8)), (.int (nar .char u7)), (.int (nar .char u6)), (.int (nar .char u5)), (.int (0 : Int32)), (.int (0 : Int32)), (.int (0 : Int32)), (.int (0 : Int32)), (.int (0 : Int32))] := V_b620_2
  replace V_w0 := V_w0.other W ne_w0_b620_2
  replace E_b614_1 := E_b614_1.wr W
  replace F_b614_1_coder := F_b614_1_coder.other W (Or.inl ne_b614_1_b620_2)
  replace F_b614_1_value := F_b614_1_value.other W (Or.inl ne_b614_1_b620_2)
  replace E_b620_2 := E_b620_2.wr W
  replace Z0 := Nat.le_trans Z0 (Nat.le_of_eq W.size.symm)
  replace N := Fr.snoc X.1 N g_b620_2
  replace Kp := Kp.wr W (Or.inr sz_b620_2)
  replace Od := Od.wr W g_b620_2
  refine g_dup X d2_671 (pc' := 672) rfl rfl ?_
  refine g_bipush X (7 : Int32) d2_672 (pc' := 674) rfl rfl ?_
  refine g_aloadN X d2_674 (pc' := 675) rfl rfl rfl ?_
  refine g_iconst X (4 : Int32) d2_675 (pc' := 676) rfl rfl ?_
  refine g_caload X V_w0 4 d2_676 (pc' := 677) rfl (by decide) (by decide) rfl ?_
  refine g_castore X V_b620_2 7 d2_677 (pc' := 678) rfl (by decide) (by decide) (Nat.le_of_ble_eq_true rfl) ?_
  intro T h X W V_b620_2
  replace V_b620_2 : Av Z h b620_2 .char [(.int (nar .char u11)), (.int (nar .char u10)), (.int (nar .char u9)), (.int (nar .char u8)), (.int (nar .char u7)), (.int (nar .char u6)), (.int (nar .char u5)), (.int (nar .char u4)), (.int (0 : Int32)), (.int (0 : Int32)), (.int (0 : Int32)), (.int (0 : Int32))] := V_b620_2
  replace V_w0 := V_w0.other W ne_w0_b620_2
  replace E_b614_1 := E_b614_1.wr W
  replace F_b614_1_coder := F_b614_1_coder.other W (Or.inl ne_b614_1_b620_2)
  replace F_b614_1_value := F_b614_1_value.other W (Or.inl ne_b614_1_b620_2)
  replace E_b620_2 := E_b620_2.wr W
  replace Z0 := Nat.le_trans Z0 (Nat.le_of_eq W.size.symm)
  replace N := Fr.snoc X.1 N g_b620_2
  replace Kp := Kp.wr W (Or.inr sz_b620_2)
  replace Od := Od.wr W g_b620_2
  refine g_dup X d2_678 (pc' := 679) rfl rfl ?_
  refine g_bipush X (8 : Int32) d2_679 (pc' := 681) rfl rfl ?_
  refine g_aloadN X d2_681 (pc' := 682) rfl rfl rfl ?_
  refine g_iconst X (3 : Int32) d2_682 (pc' := 683) rfl rfl ?_
  refine g_caload X V_w0 3 d2_683 (pc' := 684) rfl (by decide) (by decide) rfl ?_
  refine g_castore X V_b620_2 8 d2_684 (pc' := 685) rfl (by decide) (by decide) (Nat.le_of_ble_eq_true rfl) ?_
  intro T h X W V_b620_2
  replace V_b620_2 : Av Z h b620_2 .char [(.int (nar .char u11)), (.int (nar .char u10)), (.int (nar .char u9)), (.int (nar .char u8)), (.int (nar .char u7)), (.int (nar .char u6)), (.int (nar .char u5)), (.int (nar .char u4)), (.int (nar .char u3)), (.int (0 : Int32)), (.int (0 : Int32)), (.int (0 : Int32))] := V_b620_2
  replace V_w0 := V_w0.other W ne_w0_b620_2
  replace E_b614_1 := E_b614_1.wr W
  replace F_b614_1_coder := F_b614_1_coder.other W (Or.inl ne_b614_1_b620_2)
  replace F_b614_1_value := F_b614_1_value.other W (Or.inl ne_b614_1_b620_2)
  replace E_b620_2 := E_b620_2.wr W
  replace Z0 := Nat.le_trans Z0 (Nat.le_of_eq W.size.symm)
  replace N := Fr.snoc X.1 N g_b620_2
  replace Kp := Kp.wr W (Or.inr sz_b620_2)
  replace Od := Od.wr W g_b620_2
  refine g_dup X d2_685 (pc' := 686) rfl rfl ?_
  refine g_bipush X (9 : Int32) d2_686 (pc' := 688) rfl rfl ?_
  refine g_aloadN X d2_688 (pc' := 689) rfl rfl rfl ?_
  refine g_iconst X (2 : Int32) d2_689 (pc' := 690) rfl rfl ?_
  refine g_caload X V_w0 2 d2_690 (pc' := 691) rfl (by decide) (by decide) rfl ?_
  refine g_castore X V_b620_2 9 d2_691 (pc' := 692) rfl (by decide) (by decide) (Nat.le_of_ble_eq_true rfl) ?_
  intro T h X W V_b620_2
  replace V_b620_2 : Av Z h b620_2 .char [(.int (nar .char u11)), (.int (nar .char u10)), (.int (nar .char u9)), (.int (nar .char u8)), (.int (nar .char u7)), (.int (nar .char u6)), (.int (nar .char u5)), (.int (nar .char u4)), (.int (nar .char u3)), (.int (nar .char u2)), (.int (0 : Int32)), (.int (0 : Int32))] := V_b620_2
  replace V_w0 := V_w0.other W ne_w0_b620_2
  replace E_b614_1 := E_b614_1.wr W
  replace F_b614_1_coder := F_b614_1_coder.other W (Or.inl ne_b614_1_b620_2)
  replace F_b614_1_value := F_b614_1_value.other W (Or.inl ne_b614_1_b620_2)
  replace E_b620_2 := E_b620_2.wr W
  replace Z0 := Nat.le_trans Z0 (Nat.le_of_eq W.size.symm)
  replace N := Fr.snoc X.1 N g_b620_2
  replace Kp := Kp.wr W (Or.inr sz_b620_2)
  replace Od := Od.wr W g_b620_2
  refine g_dup X d2_692 (pc' := 693) rfl rfl ?_
  refine g_bipush X (10 : Int32) d2_693 (pc' := 695) rfl rfl ?_
  refine g_aloadN X d2_695 (pc' := 696) rfl rfl rfl ?_
  refine g_iconst X (1 : Int32) d2_696 (pc' := 697) rfl rfl ?_
  refine g_caload X V_w0 1 d2_697 (pc' := 698) rfl (by decide) (by decide) rfl ?_
  refine g_castore X V_b620_2 10 d2_698 (pc' := 699) rfl (by decide) (by decide) (Nat.le_of_ble_eq_true rfl) ?_
  intro T h X W V_b620_2
  replace V_b620_2 : Av Z h b620_2 .char [(.int (nar .char u11)), (.int (nar .char u10)), (.int (nar .char u9)), (.int (nar .char u8)), (.int (nar .char u7)), (.int (nar .char u6)), (.int (nar .char u5)), (.int (nar .char u4)), (.int (nar .char u3)), (.int (nar .char u2)), (.int (nar .char u1)), (.int (0 : Int32))] := V_b620_2
  replace V_w0 := V_w0.other W ne_w0_b620_2
  replace E_b614_1 := E_b614_1.wr W
  replace F_b614_1_coder := F_b614_1_coder.other W (Or.inl ne_b614_1_b620_2)
  replace F_b614_1_value := F_b614_1_value.other W (Or.inl ne_b614_1_b620_2)
  replace E_b620_2 := E_b620_2.wr W
  replace Z0 := Nat.le_trans Z0 (Nat.le_of_eq W.size.symm)
  replace N := Fr.snoc X.1 N g_b620_2
  replace Kp := Kp.wr W (Or.inr sz_b620_2)
  replace Od := Od.wr W g_b620_2
  refine g_dup X d2_699 (pc' := 700) rfl rfl ?_
  refine g_bipush X (11 : Int32) d2_700 (pc' := 702) rfl rfl ?_
  refine g_aloadN X d2_702 (pc' := 703) rfl rfl rfl ?_
  refine g_iconst X (0 : Int32) d2_703 (pc' := 704) rfl rfl ?_
  refine g_caload X V_w0 0 d2_704 (pc' := 705) rfl (by decide) (by decide) rfl ?_
  refine g_castore X V_b620_2 11 d2_705 (pc' := 706) rfl (by decide) (by decide) (Nat.le_of_ble_eq_true rfl) ?_
  intro T h X W V_b620_2
  replace V_b620_2 : Av Z h b620_2 .char [(.int (nar .char u11)), (.int (nar .char u10)), (.int (nar .char u9)), (.int (nar .char u8)), (.int (nar .char u7)), (.int (nar .char u6)), (.int (nar .char u5)), (.int (nar .char u4)), (.int (nar .char u3)), (.int (nar .char u2)), (.int (nar .char u1)), (.int (nar .char u0))] := V_b620_2
  replace V_w0 := V_w0.other W ne_w0_b620_2
  replace E_b614_1 := E_b614_1.wr W
  replace F_b614_1_coder := F_b614_1_coder.other W (Or.inl ne_b614_1_b620_2)
  replace F_b614_1_value := F_b614_1_value.other W (Or.inl ne_b614_1_b620_2)
  replace E_b620_2 := E_b620_2.wr W
  replace Z0 := Nat.le_trans Z0 (Nat.le_of_eq W.size.symm)
  replace N := Fr.snoc X.1 N g_b620_2
  replace Kp := Kp.wr W (Or.inr sz_b620_2)
  replace Od := Od.wr W g_b620_2
  refine g_specialB X (W := 1) (a := b614_1) [(.ref b620_2)] [(.ref b614_1)] rfl (tb hw 21 rfl) (tb hw 22 rfl) (tb hw 23 rfl) (Q := NewQ Z b614_1 ([(nar .char u11), (nar .char u10), (nar .char u9), (nar .char u8), (nar .char u7), (nar .char u6), (nar .char u5), (nar .char u4), (nar .char u3), (nar .char u2), (nar .char u1), (nar .char u0)] : List Int32) _ n0) (kc := 1) (ks := 12) (back_new (W := 1) (cs := ([(nar .char u11), (nar .char u10), (nar .char u9), (nar .char u8), (nar .char u7), (nar .char u6), (nar .char u5), (nar .char u4), (nar .char u3), (nar .char u2), (nar .char u1), (nar .char u0)] : List Int32)) X.2.2.2.2.2.1 hw g_b614_1 Z0 E_b614_1 F_b614_1_value F_b614_1_coder V_b620_2 rfl (fitS (fits_nar_char _) (fitS (fits_nar_char _) (fitS (fits_nar_char _) (fitS (fits_nar_char _) (fitS (fits_nar_char _) (fitS (fits_nar_char _) (fitS (fits_nar_char _) (fitS (fits_nar_char _) (fitS (fits_nar_char _) (fitS (fits_nar_char _) (fitS (fits_nar_char _) (fitS (fits_nar_char _) fit0)))))))))))) (O2.ext Od.2) P5 rfl (by decide) (by decide) hp (by decide) (by decide)) d2_706 (pc' := 709) rfl (by decide) rfl rfl rfl (lenOf pd_0 rfl) (Nat.le_refl _) (by decide) (by decide) ?_
  intro v T L X q
  obtain ⟨rfl, Nq, Kq, St_b614_1⟩ := q
  replace N := N.app Nq
  replace V_w0 := V_w0.keep Kq (ninS ne_w0_b614_1 nin0)
  replace E_b620_2 := E_b620_2.keep Kq
  replace V_b620_2 := V_b620_2.keep Kq (ninS (Ne.symm ne_b614_1_b620_2) nin0)
  replace Od := Od.keep Kq (allS g_b614_1 all0)
  replace Z0 := Nat.le_trans Z0 Kq.1
  replace Kp := Kp.trans Kq (allS (Or.inr sz_b614_1) all0)
  have E_b614_1 := St_b614_1.1
  show Go p e below _ (T.setTop (mkF m 709 #[.val (.ref w0), .val (.int (12 : Int32))] [(.ref b614_1)]))
  refine g_areturn X rfl rfl d2_709 hret hlk (by decide) (by decide) ?_
  exact ⟨b614_1, rfl, N, Kp, St_b614_1⟩
def dec (cs : List Int32) : Int := cs.foldl (fun a c => a * 10 + (c.toInt - 48)) 0
def Digits (cs : List Int32) : Prop := ∀ c ∈ cs, 48 ≤ c.toInt ∧ c.toInt ≤ 57
theorem fold_ge : ∀ (cs : List Int32) (a : Int), Digits cs → 0 ≤ a → a ≤ cs.foldl (fun a c => a * 10 + (c.toInt - 48)) a
  | [], a, _, _ => Int.le_refl _
  | c :: t, a, h, h0 => by
    have hc := h c (List.mem_cons_self ..)
    exact Int.le_trans (by omega) (fold_ge t (a * 10 + (c.toInt - 48)) (fun x hx => h x (List.mem_cons_of_mem _ hx)) (by omega))
theorem dec_take {cs : List Int32} (h : Digits cs) (k : Nat) : 0 ≤ dec (cs.take k) ∧ dec (cs.take k) ≤ dec cs := by
  have h1 : Digits (cs.take k) := fun c hc => h c (List.mem_of_mem_take hc)
  have h2 : Digits (cs.drop k) := fun c hc => h c (List.mem_of_mem_drop hc)
  have a := fold_ge (cs.take k) 0 h1 (Int.le_refl _)
  refine ⟨a, ?_⟩
  have b := fold_ge (cs.drop k) (dec (cs.take k)) h2 a
  have e : dec cs = (cs.drop k).foldl (fun a c => a * 10 + (c.toInt - 48)) (dec (cs.take k)) := by
    unfold dec
    rw [← List.foldl_append, List.take_append_drop]
  rw [e]; exact b
theorem dec_succ {cs : List Int32} {k : Nat} (hk : k < cs.length) : dec (cs.take (k + 1)) = dec (cs.take k) * 10 + ((cs.getD k 0).toInt - 48) := by
  unfold dec
  rw [List.take_succ, List.foldl_append, List.getElem?_eq_getElem hk, List.getD_eq_getElem?_getD, List.getElem?_eq_getElem hk]
  rfl
/-- at the loop's head -/
def InvP (cs : List Int32) (k : Nat) (v : Int64) (i : Int32) (s4 : Slot) : Prop := k ≤ cs.length ∧ i.toInt = k ∧ v.toInt = dec (cs.take k) ∧ One s4
theorem os4 {x v : Value} {i c : Int32} {s4 : Slot} (h : One s4) (w : Int64) (a : Addr) : storeLocals #[.val (.ref a), .val (.long w), .second, .val (.int i), s4] 4 (.int c) = some #[.val (.ref a), .val (.long w), .second, .val (.int i), .val (.int c)] := by
  rcases h with rfl | ⟨w, rfl, hw⟩
  · rfl
  · cases w <;> first | rfl | (simp [Value.category] at hw)
theorem inP {cs : List Int32} {k : Nat} {v : Int64} {i : Int32} {s4 : Slot} (I : InvP cs k v i s4) (h12 : cs.length ≤ 12) (hd : Digits cs) (hm : dec cs ≤ 2147483647) (q : i < Int32.ofNat cs.length) :
    k < cs.length ∧ i = Int32.ofNat k ∧ ¬ v < (0 : Int64) ∧ ¬ (2147483647 : Int64) < v ∧ ¬ (cs.getD k 0) < (48 : Int32) ∧ ¬ (57 : Int32) < (cs.getD k 0) := by
  obtain ⟨h1, h2, h3, h4⟩ := I
  have e := len_toInt (n := cs.length) (by omega)
  change (Int32.ofNat cs.length).toInt = _ at e
  rw [Int32.lt_iff_toInt_lt, e, h2] at q
  have ek := len_toInt (n := k) (by omega)
  change (Int32.ofNat k).toInt = _ at ek
  have t := dec_take hd k
  have hg : cs.getD k 0 ∈ cs := by
    rw [List.getD_eq_getElem?_getD, List.getElem?_eq_getElem (by omega)]; simp
  have dg := hd _ hg
  refine ⟨by omega, Int32.toInt_inj.mp (by rw [ek]; exact h2), ?_, ?_, ?_, ?_⟩
  · rw [Int64.lt_iff_toInt_lt, h3]; simp only [Int64.reduceToInt]; omega
  · rw [Int64.lt_iff_toInt_lt, h3]; simp only [Int64.reduceToInt]; omega
  · rw [Int32.lt_iff_toInt_lt]; simp only [Int32.reduceToInt]; omega
  · rw [Int32.lt_iff_toInt_lt]; simp only [Int32.reduceToInt]; omega
theorem stepP {cs : List Int32} {k : Nat} {v v' : Int64} {i : Int32} {s4 : Slot} (I : InvP cs k v i s4) (h12 : cs.length ≤ 12) (hd : Digits cs) (hm : dec cs ≤ 2147483647) (q : i < Int32.ofNat cs.length) (e : v * (10 : Int64) + (cs.getD k 0).toInt64 - (48 : Int64) = v') :
    cs.length - (k + 1) < cs.length - k ∧ InvP cs (k + 1) v' (i + (1 : Int32)) (.val (.int (cs.getD k 0))) := by
  obtain ⟨j1, j2, j3, j4, j5, j6⟩ := inP I h12 hd hm q
  obtain ⟨h1, h2, h3, h4⟩ := I
  have t := dec_take hd k
  rw [Int32.lt_iff_toInt_lt] at j5 j6; simp only [Int32.reduceToInt] at j5 j6
  have e1 : (v * (10 : Int64)).toInt = v.toInt * 10 := by rw [Int64.toInt_mul]; simp only [Int64.reduceToInt]; exact Int.bmod_eq_of_le (by omega) (by omega)
  have e2 : (v * (10 : Int64) + (cs.getD k 0).toInt64).toInt = v.toInt * 10 + (cs.getD k 0).toInt := by rw [Int64.toInt_add, e1, Int32.toInt_toInt64]; exact Int.bmod_eq_of_le (by omega) (by omega)
  have e3 : v'.toInt = v.toInt * 10 + (cs.getD k 0).toInt - 48 := by rw [← e, Int64.toInt_sub, e2]; simp only [Int64.reduceToInt]; exact Int.bmod_eq_of_le (by omega) (by omega)
  have e4 : (i + (1 : Int32)).toInt = i.toInt + 1 := by rw [Int32.toInt_add]; simp only [Int32.reduceToInt]; exact Int.bmod_eq_of_le (by omega) (by omega)
  refine ⟨by omega, by omega, by rw [e4, h2]; omega, ?_, One.val rfl⟩
  rw [e3, dec_succ j1, h3]; omega
theorem endP {cs : List Int32} {k : Nat} {v : Int64} {i r : Int32} {s4 : Slot} (I : InvP cs k v i s4) (h12 : cs.length ≤ 12) (hd : Digits cs) (hm : dec cs ≤ 2147483647) (q : ¬ i < Int32.ofNat cs.length) (hr : r.toInt = dec cs) :
    ¬ v < (0 : Int64) ∧ ¬ (2147483647 : Int64) < v ∧ v.toInt32 = r := by
  obtain ⟨h1, h2, h3, h4⟩ := I
  have e := len_toInt (n := cs.length) (by omega)
  change (Int32.ofNat cs.length).toInt = _ at e
  rw [Int32.lt_iff_toInt_lt, e, h2] at q
  obtain rfl : k = cs.length := by omega
  rw [List.take_length] at h3
  have t := (dec_take hd 0).1
  have t2 := (dec_take hd cs.length).1
  rw [List.take_length] at t2
  refine ⟨?_, ?_, ?_⟩
  · rw [Int64.lt_iff_toInt_lt, h3]; simp only [Int64.reduceToInt]; omega
  · rw [Int64.lt_iff_toInt_lt, h3]; simp only [Int64.reduceToInt]; omega
  · apply Int32.toInt_inj.mp; rw [Int64.toInt_toInt32, h3, hr]; exact Int.bmod_eq_of_le (by omega) (by omega)
theorem pn_1 : plainName "com/example/grant/grant/WholeNumber" = true := by first | (simp [plainName, overriddenIn]; done) | decide +kernel
theorem d12_0 : decode prog_23_method_2_code 0 = .ok (.aload_n 0, 1) := by decide +kernel
theorem d12_1 : decode prog_23_method_2_code 1 = .ok (.invokevirtual 7, 3) := by decide +kernel
theorem pd_1 : parseMethodDescriptor "()Z" = some ⟨[], some .boolean⟩ := by decide +kernel
theorem d12_4 : decode prog_23_method_2_code 4 = .ok (.ifCond .eq 9, 3) := by decide +kernel
theorem d12_13 : decode prog_23_method_2_code 13 = .ok (.lconst 0, 1) := by decide +kernel
theorem d12_14 : decode prog_23_method_2_code 14 = .ok (.lstore_n 1, 1) := by decide +kernel
theorem d12_15 : decode prog_23_method_2_code 15 = .ok (.iconst 0, 1) := by decide +kernel
theorem d12_16 : decode prog_23_method_2_code 16 = .ok (.istore_n 3, 1) := by decide +kernel
theorem d12_17 : decode prog_23_method_2_code 17 = .ok (.iload_n 3, 1) := by decide +kernel
theorem d12_18 : decode prog_23_method_2_code 18 = .ok (.aload_n 0, 1) := by decide +kernel
theorem d12_19 : decode prog_23_method_2_code 19 = .ok (.invokevirtual 15, 3) := by decide +kernel
theorem pd_2 : parseMethodDescriptor "()I" = some ⟨[], some .int⟩ := by decide +kernel
theorem d12_22 : decode prog_23_method_2_code 22 = .ok (.if_icmp .ge 64, 3) := by decide +kernel
theorem d12_25 : decode prog_23_method_2_code 25 = .ok (.lload_n 1, 1) := by decide +kernel
theorem d12_26 : decode prog_23_method_2_code 26 = .ok (.lconst 0, 1) := by decide +kernel
theorem d12_27 : decode prog_23_method_2_code 27 = .ok (.lcmp, 1) := by decide +kernel
theorem d12_28 : decode prog_23_method_2_code 28 = .ok (.ifCond .lt 58, 3) := by decide +kernel
theorem d12_31 : decode prog_23_method_2_code 31 = .ok (.lload_n 1, 1) := by decide +kernel
theorem d12_32 : decode prog_23_method_2_code 32 = .ok (.ldc2_w 21, 3) := by decide +kernel
theorem d12_35 : decode prog_23_method_2_code 35 = .ok (.lcmp, 1) := by decide +kernel
theorem d12_36 : decode prog_23_method_2_code 36 = .ok (.ifCond .gt 50, 3) := by decide +kernel
theorem d12_39 : decode prog_23_method_2_code 39 = .ok (.aload_n 0, 1) := by decide +kernel
theorem d12_40 : decode prog_23_method_2_code 40 = .ok (.iload_n 3, 1) := by decide +kernel
theorem d12_41 : decode prog_23_method_2_code 41 = .ok (.invokevirtual 23, 3) := by decide +kernel
theorem pd_3 : parseMethodDescriptor "(I)C" = some ⟨[.int], some .char⟩ := by decide +kernel
theorem d12_44 : decode prog_23_method_2_code 44 = .ok (.istore 4, 2) := by decide +kernel
theorem d12_46 : decode prog_23_method_2_code 46 = .ok (.iload 4, 2) := by decide +kernel
theorem d12_48 : decode prog_23_method_2_code 48 = .ok (.bipush 48, 2) := by decide +kernel
theorem d12_50 : decode prog_23_method_2_code 50 = .ok (.if_icmp .lt 26, 3) := by decide +kernel
theorem d12_53 : decode prog_23_method_2_code 53 = .ok (.iload 4, 2) := by decide +kernel
theorem d12_55 : decode prog_23_method_2_code 55 = .ok (.bipush 57, 2) := by decide +kernel
theorem d12_57 : decode prog_23_method_2_code 57 = .ok (.if_icmp .gt 19, 3) := by decide +kernel
theorem d12_60 : decode prog_23_method_2_code 60 = .ok (.lload_n 1, 1) := by decide +kernel
theorem d12_61 : decode prog_23_method_2_code 61 = .ok (.ldc2_w 27, 3) := by decide +kernel
theorem d12_64 : decode prog_23_method_2_code 64 = .ok (.lmul, 1) := by decide +kernel
theorem d12_65 : decode prog_23_method_2_code 65 = .ok (.iload 4, 2) := by decide +kernel
theorem d12_67 : decode prog_23_method_2_code 67 = .ok (.i2l, 1) := by decide +kernel
theorem d12_68 : decode prog_23_method_2_code 68 = .ok (.ladd, 1) := by decide +kernel
theorem d12_69 : decode prog_23_method_2_code 69 = .ok (.ldc2_w 29, 3) := by decide +kernel
theorem d12_72 : decode prog_23_method_2_code 72 = .ok (.lsub, 1) := by decide +kernel
theorem d12_73 : decode prog_23_method_2_code 73 = .ok (.goto 6, 3) := by decide +kernel
theorem d12_79 : decode prog_23_method_2_code 79 = .ok (.lstore_n 1, 1) := by decide +kernel
theorem d12_80 : decode prog_23_method_2_code 80 = .ok (.iinc 3 1, 3) := by decide +kernel
theorem d12_83 : decode prog_23_method_2_code 83 = .ok (.goto (-66), 3) := by decide +kernel
theorem d12_86 : decode prog_23_method_2_code 86 = .ok (.lload_n 1, 1) := by decide +kernel
theorem d12_87 : decode prog_23_method_2_code 87 = .ok (.lconst 0, 1) := by decide +kernel
theorem d12_88 : decode prog_23_method_2_code 88 = .ok (.lcmp, 1) := by decide +kernel
theorem d12_89 : decode prog_23_method_2_code 89 = .ok (.ifCond .lt 11, 3) := by decide +kernel
theorem d12_92 : decode prog_23_method_2_code 92 = .ok (.lload_n 1, 1) := by decide +kernel
theorem d12_93 : decode prog_23_method_2_code 93 = .ok (.ldc2_w 21, 3) := by decide +kernel
theorem d12_96 : decode prog_23_method_2_code 96 = .ok (.lcmp, 1) := by decide +kernel
theorem d12_97 : decode prog_23_method_2_code 97 = .ok (.ifCond .le 17, 3) := by decide +kernel
theorem d12_114 : decode prog_23_method_2_code 114 = .ok (.lload_n 1, 1) := by decide +kernel
theorem d12_115 : decode prog_23_method_2_code 115 = .ok (.l2i, 1) := by decide +kernel
theorem d12_116 : decode prog_23_method_2_code 116 = .ok (.ireturn, 1) := by decide +kernel
theorem ef_rParse (m : MethodId) (x0 : Addr) : entryFrame m #[(.ref x0)] 5 = mkF m 0 #[.val (.ref x0), .unset, .unset, .unset, .unset] [] := by first | (simp [entryFrame, mkF, argsToLocals, Value.category]; done) | rfl
set_option maxRecDepth 65536 in
set_option maxHeartbeats 40000000 in
theorem rParse (l : Launch) (Z : State) (aa : Array Value) (hw : ∀ d ∈ tables_1, d.before aa Z = true) (ws : List Jvm.Cond) (a0 : Addr) (cs : List Int32) (r : Int32) (G1 : Int32) (G3 : Value) (h0 : Heap) (n0 : Nat) (Z0 : n0 ≤ h0.size) (St_a0 : StrIs Z h0 a0 cs) (p0 : 0 < cs.length) (p1 : cs.length ≤ 12) (p2 : Digits cs) (p3 : dec cs ≤ 2147483647) (p4 : r.toInt = dec cs) (O2 : Sta Z Z.heap "java/lang/String" "COMPACT_STRINGS" "Z" (.int G1)) (P5 : ¬ G1 = (0 : Int32)) (Od : Old Z n0 h0) (O4 : Sta Z Z.heap "jdk/internal/util/Preconditions" "SIOOBE_FORMATTER" "Ljava/util/function/BiFunction;" G3) (rG3 : G3.isRef = true) :
    Rm l Z (⟨"com/example/grant/grant/WholeNumber", "parse", "(Ljava/lang/String;)I"⟩ : MethodName) prog_23_method_2_code 5 (some .int) ws ({ frames := 4, cells := 0, slots := 0, locals := 53 } : Room) #[(.ref a0)] h0 (Pu (.int r) h0) := by
  refine Rm.of (plainFor_of_name pn_1) ?_
  intro p e s m below meth cc T X hnm hret hlk
  refine Go.at_ (ef_rParse m a0) ?_
  have N := Fr.nil n0
  refine g_aloadN X d12_0 (pc' := 1) rfl rfl rfl ?_
  refine g_virtualB X (W := 0) (a := a0) (C := "java/lang/String") [] [] St_a0.1 (tb hw 64 rfl) (tb hw 65 rfl) (tb hw 67 rfl) (tb hw 66 rfl) (Q := Pu (.int (if (cs).length = 0 then 1 else 0)) _) (kc := 0) (ks := 0) (back_emp (W := 0) X.2.2.2.2.2.1 hw St_a0 (by decide) (by decide)) d12_1 (pc' := 4) rfl (by decide) rfl rfl rfl (lenOf pd_1 rfl) (Nat.le_refl _) (by decide) (by decide) ?_
  intro v T L X q
  obtain ⟨rfl, X⟩ := pureX X q
  show Go p e below _ (T.setTop (mkF m 4 #[.val (.ref a0), .unset, .unset, .unset, .unset] [(.int (if (cs).length = 0 then 1 else 0))]))
  refine g_ifY X d12_4 ((if0 _ _).trans (teq (show (if (cs).length = 0 then 1 else 0) = (0 : Int32) from (if_neg (by omega)))).1) (pc' := 13) (by decide) (by decide) ?_
  refine g_lconst X (0 : Int64) d12_13 (pc' := 14) rfl rfl ?_
  refine g_lstoreN X d12_14 (pc' := 15) (Ls' := #[.val (.ref a0), .val (.long (0 : Int64)), .second, .unset, .unset]) rfl rfl ?_
  refine g_iconst X (0 : Int32) d12_15 (pc' := 16) rfl rfl ?_
  refine g_istoreN X d12_16 (pc' := 17) (Ls' := #[.val (.ref a0), .val (.long (0 : Int64)), .second, .val (.int (0 : Int32)), .unset]) rfl rfl ?_
  refine loopP X (α := Nat × Int64 × Int32 × Slot) (fun a => mkF m 17 #[.val (.ref a0), .val (.long a.2.1), .second, .val (.int a.2.2.1), a.2.2.2] []) (fun a => InvP cs a.1 a.2.1 a.2.2.1 a.2.2.2) (fun a => cs.length - a.1) ?_ (0, (0 : Int64), (0 : Int32), .unset) ⟨Nat.zero_le _, rfl, rfl, One.u⟩
  clear X
  intro a T X I0 ih
  obtain ⟨k, v, i, s4⟩ := a
  replace I0 : InvP cs k v i s4 := I0
  show Go p e below _ (T.setTop (mkF m 17 #[.val (.ref a0), .val (.long v), .second, .val (.int i), s4] []))
  refine g_iloadN X d12_17 (pc' := 18) rfl rfl ?_
  refine g_aloadN X d12_18 (pc' := 19) rfl rfl rfl ?_
  refine g_virtualB X (W := 1) (a := a0) (C := "java/lang/String") [] [(.int i)] St_a0.1 (tb hw 69 rfl) (tb hw 51 rfl) (tb hw 53 rfl) (tb hw 52 rfl) (Q := Pu (.int (Int32.ofNat (cs).length)) _) (kc := 0) (ks := 0) (back_len (W := 1) X.2.2.2.2.2.1 hw St_a0 (O2.ext Od.2) P5 (by decide) (by decide)) d12_19 (pc' := 22) rfl (by decide) rfl rfl rfl (lenOf pd_2 rfl) (Nat.le_refl _) (by decide) (by decide) ?_
  intro v T L X q
  obtain ⟨rfl, X⟩ := pureX X q
  show Go p e below _ (T.setTop (mkF m 22 #[.val (.ref a0), .val (.long v), .second, .val (.int i), s4] [(.int (Int32.ofNat (cs).length)), (.int i)]))
  by_cases hc22_1 : i < (Int32.ofNat (cs).length)
  · skip
    refine g_icN X d12_22 (tlt hc22_1).2.1 (pc' := 25) rfl ?_
    refine g_lloadN X d12_25 (pc' := 26) rfl rfl ?_
    refine g_lconst X (0 : Int64) d12_26 (pc' := 27) rfl rfl ?_
    refine g_lcmp X d12_27 (pc' := 28) rfl ?_
    refine g_ifN X d12_28 ((if0 _ _).trans (flt (fun q => (show ¬ (v < (0 : Int64)) from (inP I0 p1 p2 p3 hc22_1).2.2.1) ((lw_lt v (0 : Int64)).mp q))).1) (pc' := 31) rfl ?_
    refine g_lloadN X d12_31 (pc' := 32) rfl rfl ?_
    refine g_ldc2 X (tb hw 70 rfl) d12_32 (pc' := 35) rfl ?_
    refine g_lcmp X d12_35 (pc' := 36) rfl ?_
    refine g_ifN X d12_36 ((if0 _ _).trans (flt (fun q => (show ¬ ((2147483647 : Int64) < v) from (inP I0 p1 p2 p3 hc22_1).2.2.2.1) ((lw_gt v (2147483647 : Int64)).mp q))).2.2.1) (pc' := 39) rfl ?_
    refine g_aloadN X d12_39 (pc' := 40) rfl rfl rfl ?_
    refine g_iloadN X d12_40 (pc' := 41) rfl rfl ?_
    refine g_virtualB X (W := 0) (a := a0) (C := "java/lang/String") [(.int i)] [] St_a0.1 (tb hw 71 rfl) (tb hw 72 rfl) (tb hw 74 rfl) (tb hw 73 rfl) (Q := Pu (.int (List.getD cs k 0)) _) (kc := 0) (ks := 0) (back_ch (W := 0) (i := k) X.2.2.2.2.2.1 hw St_a0 (O2.ext Od.2) P5 (O4.ext Od.2) rG3 (inP I0 p1 p2 p3 hc22_1).1 (inP I0 p1 p2 p3 hc22_1).2.1 (by decide) (by decide)) d12_41 (pc' := 44) rfl (by decide) rfl rfl rfl (lenOf pd_3 rfl) (Nat.le_refl _) (by decide) (by decide) ?_
    intro v T L X q
    obtain ⟨rfl, X⟩ := pureX X q
    show Go p e below _ (T.setTop (mkF m 44 #[.val (.ref a0), .val (.long v), .second, .val (.int i), s4] [(.int (List.getD cs k 0))]))
    refine g_istore X d12_44 (pc' := 46) (Ls' := #[.val (.ref a0), .val (.long v), .second, .val (.int i), .val (.int (List.getD cs k 0))]) rfl (os4 (x := .null) (v := .null) I0.2.2.2 _ _) ?_
    refine g_iload X d12_46 (pc' := 48) rfl rfl ?_
    refine g_bipush X (48 : Int32) d12_48 (pc' := 50) rfl rfl ?_
    refine g_icN X d12_50 (flt (show ¬ ((List.getD cs k 0) < (48 : Int32)) from (inP I0 p1 p2 p3 hc22_1).2.2.2.2.1)).1 (pc' := 53) rfl ?_
    refine g_iload X d12_53 (pc' := 55) rfl rfl ?_
    refine g_bipush X (57 : Int32) d12_55 (pc' := 57) rfl rfl ?_
    refine g_icN X d12_57 (flt (show ¬ ((57 : Int32) < (List.getD cs k 0)) from (inP I0 p1 p2 p3 hc22_1).2.2.2.2.2)).2.2.1 (pc' := 60) rfl ?_
    refine g_lloadN X d12_60 (pc' := 61) rfl rfl ?_
    refine g_ldc2 X (tb hw 93 rfl) d12_61 (pc' := 64) rfl ?_
    refine g_lmul X d12_64 (pc' := 65) rfl ?_
    refine g_iload X d12_65 (pc' := 67) rfl rfl ?_
    refine g_i2l X d12_67 (pc' := 68) rfl ?_
    refine g_ladd X d12_68 (pc' := 69) rfl ?_
    refine g_ldc2 X (tb hw 94 rfl) d12_69 (pc' := 72) rfl ?_
    refine g_lsub X d12_72 (pc' := 73) rfl ?_
    refine g_goto X d12_73 (pc' := 79) (by decide) (by decide) ?_
    generalize ev79_2 : (((v * (10 : Int64)) + ((List.getD cs k 0).toInt64)) - (48 : Int64)) = v79_2
    refine g_lstoreN X d12_79 (pc' := 80) (Ls' := #[.val (.ref a0), .val (.long v79_2), .second, .val (.int i), .val (.int (List.getD cs k 0))]) rfl rfl ?_
    refine g_iinc X d12_80 (pc' := 83) (q := (1 : Int32)) (Ls' := #[.val (.ref a0), .val (.long v79_2), .second, .val (.int (i + (1 : Int32))), .val (.int (List.getD cs k 0))]) rfl rfl rfl rfl ?_
    refine g_goto X d12_83 (pc' := 17) (by decide) (by decide) ?_
    have S := stepP I0 p1 p2 p3 hc22_1 ev79_2
    exact ih (k + 1, v79_2, (i + (1 : Int32)), (.val (.int (List.getD cs k 0)))) T S.1 X S.2
  · skip
    refine g_icY X d12_22 (flt hc22_1).2.1 (pc' := 86) (by decide) (by decide) ?_
    refine g_lloadN X d12_86 (pc' := 87) rfl rfl ?_
    refine g_lconst X (0 : Int64) d12_87 (pc' := 88) rfl rfl ?_
    refine g_lcmp X d12_88 (pc' := 89) rfl ?_
    refine g_ifN X d12_89 ((if0 _ _).trans (flt (fun q => (show ¬ (v < (0 : Int64)) from (endP I0 p1 p2 p3 hc22_1 p4).1) ((lw_lt v (0 : Int64)).mp q))).1) (pc' := 92) rfl ?_
    refine g_lloadN X d12_92 (pc' := 93) rfl rfl ?_
    refine g_ldc2 X (tb hw 70 rfl) d12_93 (pc' := 96) rfl ?_
    refine g_lcmp X d12_96 (pc' := 97) rfl ?_
    refine g_ifY X d12_97 ((if0 _ _).trans (flt (fun q => (show ¬ ((2147483647 : Int64) < v) from (endP I0 p1 p2 p3 hc22_1 p4).2.1) ((lw_gt v (2147483647 : Int64)).mp q))).2.2.2) (pc' := 114) (by decide) (by decide) ?_
    refine g_lloadN X d12_114 (pc' := 115) rfl rfl ?_
    refine g_l2i X d12_115 (pc' := 116) rfl ?_
    refine g_ireturn X d12_116 hret hlk (by decide) (by decide) ?_
    rw [(endP I0 p1 p2 p3 hc22_1 p4).2.2]
    exact ⟨rfl, rfl, rfl⟩
theorem m12 {k i : Int32} (e : 1 + (k &&& 2147483647) % 12 = i) : i = 1 ∨ i = 2 ∨ i = 3 ∨ i = 4 ∨ i = 5 ∨ i = 6 ∨ i = 7 ∨ i = 8 ∨ i = 9 ∨ i = 10 ∨ i = 11 ∨ i = 12 := by
  have q : (k &&& 2147483647).toInt = k.toInt % 2147483648 := c_mask k 2147483647 31 (by decide) (by decide)
  have r := (c_irem (k &&& 2147483647) 12 12 rfl).1 (by omega)
  have r2 : i.toInt = 1 + ((k &&& 2147483647) % 12).toInt := by rw [← e, Int32.toInt_add]; simp only [Int32.reduceToInt]; exact Int.bmod_eq_of_le (by omega) (by omega)
  simp only [← Int32.toInt_inj, Int32.reduceToInt]; omega
theorem ofI {z : Int} (h0 : 0 ≤ z) (h1 : z < 2147483648) : (Int32.ofInt z).toInt = z := by
  rw [Int32.toInt_ofInt]
  show Int.bmod z 4294967296 = z
  exact Int.bmod_eq_of_le (by omega) (by omega)
theorem narC {u : Int32} (h0 : 0 ≤ u.toInt) (h1 : u.toInt < 65536) : (nar .char u).toInt = u.toInt := by
  have a := c_i2c u
  show (u.toUInt32.toUInt16.toUInt32.toInt32).toInt = _
  omega
/-- a digit of n, as it lies in the string -/
theorem dig_int {n : Int32} (hn : 0 ≤ n.toInt) (p : Int64) (P : Int) (hp : p.toInt = P) (h1 : 0 < P) (hne : p ≠ -1) : (nar .char (nar .char (fDig n p))).toInt = 48 + n.toInt / P % 10 := by
  have a := (c_ldiv n.toInt64 p P hp hne).1 (by rw [Int32.toInt_toInt64]; exact hn)
  rw [Int32.toInt_toInt64] at a
  have q0 : 0 ≤ n.toInt / P := Int.ediv_nonneg hn (by omega)
  have b : (n.toInt64 / p % (10 : Int64)).toInt = n.toInt / P % 10 := by
    rw [Int64.toInt_mod, a]; simp only [Int64.reduceToInt]; exact Int.tmod_eq_emod_of_nonneg q0
  have e : ((n.toInt64 / p % (10 : Int64)).toInt32).toInt = n.toInt / P % 10 := by
    rw [Int64.toInt_toInt32, b]; exact Int.bmod_eq_of_le (by omega) (by omega)
  have f : ((48 : Int32) + (n.toInt64 / p % (10 : Int64)).toInt32).toInt = 48 + n.toInt / P % 10 := by
    rw [Int32.toInt_add, e]; simp only [Int32.reduceToInt]; exact Int.bmod_eq_of_le (by omega) (by omega)
  have g := narC (u := (48 : Int32) + (n.toInt64 / p % (10 : Int64)).toInt32) (by omega) (by omega)
  have e2 : fDig n p = nar .char (nar .char ((48 : Int32) + (n.toInt64 / p % (10 : Int64)).toInt32)) := rfl
  have g2 := narC (u := nar .char ((48 : Int32) + (n.toInt64 / p % (10 : Int64)).toInt32)) (by omega) (by omega)
  have g3 := narC (u := fDig n p) (by rw [e2]; omega) (by rw [e2]; omega)
  have g4 := narC (u := nar .char (fDig n p)) (by rw [e2] at g3 ⊢; omega) (by rw [e2] at g3 ⊢; omega)
  rw [e2] at g3 g4 ⊢
  omega
theorem zero_int : (nar .char (nar .char (48 : Int32))).toInt = 48 := by decide
theorem chr_ok {c : Int32} (h : 48 ≤ c.toInt ∧ c.toInt ≤ 57) : ¬ c < 0 ∧ ¬ (255 : Int32) < c := by
  rw [Int32.lt_iff_toInt_lt, Int32.lt_iff_toInt_lt]; simp only [Int32.reduceToInt]; omega
theorem dig_rng {n : Int} (P : Int) : 48 ≤ 48 + n / P % 10 ∧ 48 + n / P % 10 ≤ 57 := by omega
theorem all_nil : Digits [] := fun _ h => nomatch h
theorem all_cons {c : Int32} {cs : List Int32} (h : 48 ≤ c.toInt ∧ c.toInt ≤ 57) (t : Digits cs) : Digits (c :: cs) := fun x hx => (List.mem_cons.mp hx).elim (fun e => e ▸ h) (t x)
theorem pd_4 : parseMethodDescriptor "(IJ)C" = some ⟨[.int, .long], some .char⟩ := by decide +kernel
theorem pd_5 : parseMethodDescriptor "([CI)Ljava/lang/String;" = some ⟨[(.array .char), .int], some (.object "java/lang/String")⟩ := by decide +kernel
theorem pd_6 : parseMethodDescriptor "(I)J" = some ⟨[.int], some .long⟩ := by decide +kernel
theorem pd_7 : parseMethodDescriptor "(Ljava/lang/String;)I" = some ⟨[(.object "java/lang/String")], some .int⟩ := by decide +kernel
theorem ef_rLaw (m : MethodId) (x0 : Int32) (x1 : Int32) : entryFrame m #[(.int x0), (.int x1)] maxLocals = mkF m 0 #[.val (.int x0), .val (.int x1), .unset, .unset, .unset, .unset, .unset, .unset] [] := by first | (simp [entryFrame, mkF, argsToLocals, Value.category, maxLocals]; done) | rfl
set_option maxRecDepth 65536 in
set_option maxHeartbeats 40000000 in
theorem rLaw (l : Launch) (Z : State) (aa : Array Value) (hw : ∀ d ∈ tables_1, d.before aa Z = true) (ws : List Jvm.Cond) (i0 : Int32) (i1 : Int32) (G1 : Int32) (G3 : Value) (h0 : Heap) (n0 : Nat) (Z0 : n0 ≤ h0.size) (O2 : Sta Z Z.heap "java/lang/String" "COMPACT_STRINGS" "Z" (.int G1)) (P5 : ¬ G1 = (0 : Int32)) (Od : Old Z n0 h0) (O4 : Sta Z Z.heap "jdk/internal/util/Preconditions" "SIOOBE_FORMATTER" "Ljava/util/function/BiFunction;" G3) (rG3 : G3.isRef = true) :
    Rm l Z x code maxLocals ret ws room_1 #[(.int i0), (.int i1)] h0 (fun v h L => v = some (.int 1) ∧ Fr n0 L) := by
  refine Rm.of (plainFor_of_name pn_0) ?_
  intro p e s m below meth cc T X hnm hret hlk
  refine Go.at_ (ef_rLaw m i0 i1) ?_
  have N := Fr.nil n0
  refine g_iloadN X at_0 (pc' := 1) rfl rfl ?_
  refine g_ldc X (tb hw 0 rfl) at_1 (pc' := 3) rfl ?_
  refine g_iand X at_3 (pc' := 4) rfl ?_
  generalize ev4_1 : (i0 &&& (2147483647 : Int32)) = v4_1
  refine g_istoreN X at_4 (pc' := 5) (Ls' := #[.val (.int i0), .val (.int i1), .val (.int v4_1), .unset, .unset, .unset, .unset, .unset]) rfl rfl ?_
  refine g_iconst X (1 : Int32) at_5 (pc' := 6) rfl rfl ?_
  refine g_iloadN X at_6 (pc' := 7) rfl rfl ?_
  refine g_ldc X (tb hw 0 rfl) at_7 (pc' := 9) rfl ?_
  refine g_iand X at_9 (pc' := 10) rfl ?_
  refine g_bipush X (12 : Int32) at_10 (pc' := 12) rfl rfl ?_
  refine g_irem X at_12 (pc' := 13) rfl (by decide) ?_
  refine g_iadd X at_13 (pc' := 14) rfl ?_
  generalize ev14_2 : ((1 : Int32) + ((i1 &&& (2147483647 : Int32)) % (12 : Int32))) = v14_2
  refine g_istoreN X at_14 (pc' := 15) (Ls' := #[.val (.int i0), .val (.int i1), .val (.int v4_1), .val (.int v14_2), .unset, .unset, .unset, .unset]) rfl rfl ?_
  refine g_bipush X (12 : Int32) at_15 (pc' := 17) rfl rfl ?_
  refine g_newarray X 12 (tb hw 1 rfl) at_17 (pc' := 19) rfl (by decide) (by decide) 12 (by decide) (by decide) (by decide) (by decide) (vs := [(.int (0 : Int32)), (.int (0 : Int32)), (.int (0 : Int32)), (.int (0 : Int32)), (.int (0 : Int32)), (.int (0 : Int32)), (.int (0 : Int32)), (.int (0 : Int32)), (.int (0 : Int32)), (.int (0 : Int32)), (.int (0 : Int32)), (.int (0 : Int32))]) rfl (ad := "[C") (by decide) ?_
  intro T h b17_3 s_b17_3 X Ex E_b17_3 V_b17_3
  have g_b17_3 : n0 ≤ b17_3 := by rw [s_b17_3]; exact Z0
  replace Z0 := Nat.le_trans Z0 Ex.1
  replace Od := Od.ext Ex
  refine g_astore X at_19 (pc' := 21) (Ls' := #[.val (.int i0), .val (.int i1), .val (.int v4_1), .val (.int v14_2), .val (.ref b17_3), .unset, .unset, .unset]) rfl rfl rfl ?_
  refine g_aload X at_21 (pc' := 23) rfl rfl rfl ?_
  refine g_iconst X (0 : Int32) at_23 (pc' := 24) rfl rfl ?_
  refine g_iloadN X at_24 (pc' := 25) rfl rfl ?_
  refine g_lconst X (1 : Int64) at_25 (pc' := 26) rfl rfl ?_
  refine g_static X (W := 2) [(.int v4_1), (.long (1 : Int64))] [(.int (0 : Int32)), (.ref b17_3)] (tb hw 2 rfl) (tb hw 3 rfl) (tb hw 4 rfl) (tb hw 5 rfl) (rDig l Z aa hw [] v4_1 (1 : Int64) _ (by decide)) at_26 (pc' := 29) rfl (by decide) (by decide) (by decide) rfl rfl rfl (lenOf pd_4 rfl) (Nat.le_refl _) (by decide) (by decide) ?_
  intro v T L X q
  obtain ⟨rfl, X⟩ := pureX X q
  show Go p e below _ (T.setTop (mkF m 29 #[.val (.int i0), .val (.int i1), .val (.int v4_1), .val (.int v14_2), .val (.ref b17_3), .unset, .unset, .unset] [(.int (fDig v4_1 (1 : Int64))), (.int (0 : Int32)), (.ref b17_3)]))
  generalize ev29_4 : (fDig v4_1 (1 : Int64)) = v29_4
  refine g_castore X V_b17_3 0 at_29 (pc' := 30) rfl (by decide) (by decide) (Nat.le_of_ble_eq_true rfl) ?_
  intro T h X W V_b17_3
  replace V_b17_3 : Av Z h b17_3 .char [(.int (nar .char v29_4)), (.int (0 : Int32)), (.int (0 : Int32)), (.int (0 : Int32)), (.int (0 : Int32)), (.int (0 : Int32)), (.int (0 : Int32)), (.int (0 : Int32)), (.int (0 : Int32)), (.int (0 : Int32)), (.int (0 : Int32)), (.int (0 : Int32))] := V_b17_3
  replace E_b17_3 := E_b17_3.wr W
  replace Z0 := Nat.le_trans Z0 (Nat.le_of_eq W.size.symm)
  replace N := Fr.snoc X.1 N g_b17_3
  replace Od := Od.wr W g_b17_3
  refine g_aload X at_30 (pc' := 32) rfl rfl rfl ?_
  refine g_iconst X (1 : Int32) at_32 (pc' := 33) rfl rfl ?_
  refine g_iloadN X at_33 (pc' := 34) rfl rfl ?_
  refine g_ldc2 X (tb hw 6 rfl) at_34 (pc' := 37) rfl ?_
  refine g_static X (W := 2) [(.int v4_1), (.long (10 : Int64))] [(.int (1 : Int32)), (.ref b17_3)] (tb hw 2 rfl) (tb hw 3 rfl) (tb hw 4 rfl) (tb hw 5 rfl) (rDig l Z aa hw [] v4_1 (10 : Int64) _ (by decide)) at_37 (pc' := 40) rfl (by decide) (by decide) (by decide) rfl rfl rfl (lenOf pd_4 rfl) (Nat.le_refl _) (by decide) (by decide) ?_
  intro v T L X q
  obtain ⟨rfl, X⟩ := pureX X q
  show Go p e below _ (T.setTop (mkF m 40 #[.val (.int i0), .val (.int i1), .val (.int v4_1), .val (.int v14_2), .val (.ref b17_3), .unset, .unset, .unset] [(.int (fDig v4_1 (10 : Int64))), (.int (1 : Int32)), (.ref b17_3)]))
  generalize ev40_5 : (fDig v4_1 (10 : Int64)) = v40_5
  refine g_castore X V_b17_3 1 at_40 (pc' := 41) rfl (by decide) (by decide) (Nat.le_of_ble_eq_true rfl) ?_
  intro T h X W V_b17_3
  replace V_b17_3 : Av Z h b17_3 .char [(.int (nar .char v29_4)), (.int (nar .char v40_5)), (.int (0 : Int32)), (.int (0 : Int32)), (.int (0 : Int32)), (.int (0 : Int32)), (.int (0 : Int32)), (.int (0 : Int32)), (.int (0 : Int32)), (.int (0 : Int32)), (.int (0 : Int32)), (.int (0 : Int32))] := V_b17_3
  replace E_b17_3 := E_b17_3.wr W
  replace Z0 := Nat.le_trans Z0 (Nat.le_of_eq W.size.symm)
  replace N := Fr.snoc X.1 N g_b17_3
  replace Od := Od.wr W g_b17_3
  refine g_aload X at_41 (pc' := 43) rfl rfl rfl ?_
  refine g_iconst X (2 : Int32) at_43 (pc' := 44) rfl rfl ?_
  refine g_iloadN X at_44 (pc' := 45) rfl rfl ?_
  refine g_ldc2 X (tb hw 7 rfl) at_45 (pc' := 48) rfl ?_
  refine g_static X (W := 2) [(.int v4_1), (.long (100 : Int64))] [(.int (2 : Int32)), (.ref b17_3)] (tb hw 2 rfl) (tb hw 3 rfl) (tb hw 4 rfl) (tb hw 5 rfl) (rDig l Z aa hw [] v4_1 (100 : Int64) _ (by decide)) at_48 (pc' := 51) rfl (by decide) (by decide) (by decide) rfl rfl rfl (lenOf pd_4 rfl) (Nat.le_refl _) (by decide) (by decide) ?_
  intro v T L X q
  obtain ⟨rfl, X⟩ := pureX X q
  show Go p e below _ (T.setTop (mkF m 51 #[.val (.int i0), .val (.int i1), .val (.int v4_1), .val (.int v14_2), .val (.ref b17_3), .unset, .unset, .unset] [(.int (fDig v4_1 (100 : Int64))), (.int (2 : Int32)), (.ref b17_3)]))
  generalize ev51_6 : (fDig v4_1 (100 : Int64)) = v51_6
  refine g_castore X V_b17_3 2 at_51 (pc' := 52) rfl (by decide) (by decide) (Nat.le_of_ble_eq_true rfl) ?_
  intro T h X W V_b17_3
  replace V_b17_3 : Av Z h b17_3 .char [(.int (nar .char v29_4)), (.int (nar .char v40_5)), (.int (nar .char v51_6)), (.int (0 : Int32)), (.int (0 : Int32)), (.int (0 : Int32)), (.int (0 : Int32)), (.int (0 : Int32)), (.int (0 : Int32)), (.int (0 : Int32)), (.int (0 : Int32)), (.int (0 : Int32))] := V_b17_3
  replace E_b17_3 := E_b17_3.wr W
  replace Z0 := Nat.le_trans Z0 (Nat.le_of_eq W.size.symm)
  replace N := Fr.snoc X.1 N g_b17_3
  replace Od := Od.wr W g_b17_3
  refine g_aload X at_52 (pc' := 54) rfl rfl rfl ?_
  refine g_iconst X (3 : Int32) at_54 (pc' := 55) rfl rfl ?_
  refine g_iloadN X at_55 (pc' := 56) rfl rfl ?_
  refine g_ldc2 X (tb hw 8 rfl) at_56 (pc' := 59) rfl ?_
  refine g_static X (W := 2) [(.int v4_1), (.long (1000 : Int64))] [(.int (3 : Int32)), (.ref b17_3)] (tb hw 2 rfl) (tb hw 3 rfl) (tb hw 4 rfl) (tb hw 5 rfl) (rDig l Z aa hw [] v4_1 (1000 : Int64) _ (by decide)) at_59 (pc' := 62) rfl (by decide) (by decide) (by decide) rfl rfl rfl (lenOf pd_4 rfl) (Nat.le_refl _) (by decide) (by decide) ?_
  intro v T L X q
  obtain ⟨rfl, X⟩ := pureX X q
  show Go p e below _ (T.setTop (mkF m 62 #[.val (.int i0), .val (.int i1), .val (.int v4_1), .val (.int v14_2), .val (.ref b17_3), .unset, .unset, .unset] [(.int (fDig v4_1 (1000 : Int64))), (.int (3 : Int32)), (.ref b17_3)]))
  generalize ev62_7 : (fDig v4_1 (1000 : Int64)) = v62_7
  refine g_castore X V_b17_3 3 at_62 (pc' := 63) rfl (by decide) (by decide) (Nat.le_of_ble_eq_true rfl) ?_
  intro T h X W V_b17_3
  replace V_b17_3 : Av Z h b17_3 .char [(.int (nar .char v29_4)), (.int (nar .char v40_5)), (.int (nar .char v51_6)), (.int (nar .char v62_7)), (.int (0 : Int32)), (.int (0 : Int32)), (.int (0 : Int32)), (.int (0 : Int32)), (.int (0 : Int32)), (.int (0 : Int32)), (.int (0 : Int32)), (.int (0 : Int32))] := V_b17_3
  replace E_b17_3 := E_b17_3.wr W
  replace Z0 := Nat.le_trans Z0 (Nat.le_of_eq W.size.symm)
  replace N := Fr.snoc X.1 N g_b17_3
  replace Od := Od.wr W g_b17_3
  refine g_aload X at_63 (pc' := 65) rfl rfl rfl ?_
  refine g_iconst X (4 : Int32) at_65 (pc' := 66) rfl rfl ?_
  refine g_iloadN X at_66 (pc' := 67) rfl rfl ?_
  refine g_ldc2 X (tb hw 9 rfl) at_67 (pc' := 70) rfl ?_
  refine g_static X (W := 2) [(.int v4_1), (.long (10000 : Int64))] [(.int (4 : Int32)), (.ref b17_3)] (tb hw 2 rfl) (tb hw 3 rfl) (tb hw 4 rfl) (tb hw 5 rfl) (rDig l Z aa hw [] v4_1 (10000 : Int64) _ (by decide)) at_70 (pc' := 73) rfl (by decide) (by decide) (by decide) rfl rfl rfl (lenOf pd_4 rfl) (Nat.le_refl _) (by decide) (by decide) ?_
  intro v T L X q
  obtain ⟨rfl, X⟩ := pureX X q
  show Go p e below _ (T.setTop (mkF m 73 #[.val (.int i0), .val (.int i1), .val (.int v4_1), .val (.int v14_2), .val (.ref b17_3), .unset, .unset, .unset] [(.int (fDig v4_1 (10000 : Int64))), (.int (4 : Int32)), (.ref b17_3)]))
  generalize ev73_8 : (fDig v4_1 (10000 : Int64)) = v73_8
  refine g_castore X V_b17_3 4 at_73 (pc' := 74) rfl (by decide) (by decide) (Nat.le_of_ble_eq_true rfl) ?_
  intro T h X W V_b17_3
  replace V_b17_3 : Av Z h b17_3 .char [(.int (nar .char v29_4)), (.int (nar .char v40_5)), (.int (nar .char v51_6)), (.int (nar .char v62_7)), (.int (nar .char v73_8)), (.int (0 : Int32)), (.int (0 : Int32)), (.int (0 : Int32)), (.int (0 : Int32)), (.int (0 : Int32)), (.int (0 : Int32)), (.int (0 : Int32))] := V_b17_3
  replace E_b17_3 := E_b17_3.wr W
  replace Z0 := Nat.le_trans Z0 (Nat.le_of_eq W.size.symm)
  replace N := Fr.snoc X.1 N g_b17_3
  replace Od := Od.wr W g_b17_3
  refine g_aload X at_74 (pc' := 76) rfl rfl rfl ?_
  refine g_iconst X (5 : Int32) at_76 (pc' := 77) rfl rfl ?_
  refine g_iloadN X at_77 (pc' := 78) rfl rfl ?_
  refine g_ldc2 X (tb hw 10 rfl) at_78 (pc' := 81) rfl ?_
  refine g_static X (W := 2) [(.int v4_1), (.long (100000 : Int64))] [(.int (5 : Int32)), (.ref b17_3)] (tb hw 2 rfl) (tb hw 3 rfl) (tb hw 4 rfl) (tb hw 5 rfl) (rDig l Z aa hw [] v4_1 (100000 : Int64) _ (by decide)) at_81 (pc' := 84) rfl (by decide) (by decide) (by decide) rfl rfl rfl (lenOf pd_4 rfl) (Nat.le_refl _) (by decide) (by decide) ?_
  intro v T L X q
  obtain ⟨rfl, X⟩ := pureX X q
  show Go p e below _ (T.setTop (mkF m 84 #[.val (.int i0), .val (.int i1), .val (.int v4_1), .val (.int v14_2), .val (.ref b17_3), .unset, .unset, .unset] [(.int (fDig v4_1 (100000 : Int64))), (.int (5 : Int32)), (.ref b17_3)]))
  generalize ev84_9 : (fDig v4_1 (100000 : Int64)) = v84_9
  refine g_castore X V_b17_3 5 at_84 (pc' := 85) rfl (by decide) (by decide) (Nat.le_of_ble_eq_true rfl) ?_
  intro T h X W V_b17_3
  replace V_b17_3 : Av Z h b17_3 .char [(.int (nar .char v29_4)), (.int (nar .char v40_5)), (.int (nar .char v51_6)), (.int (nar .char v62_7)), (.int (nar .char v73_8)), (.int (nar .char v84_9)), (.int (0 : Int32)), (.int (0 : Int32)), (.int (0 : Int32)), (.int (0 : Int32)), (.int (0 : Int32)), (.int (0 : Int32))] := V_b17_3
  replace E_b17_3 := E_b17_3.wr W
  replace Z0 := Nat.le_trans Z0 (Nat.le_of_eq W.size.symm)
  replace N := Fr.snoc X.1 N g_b17_3
  replace Od := Od.wr W g_b17_3
  refine g_aload X at_85 (pc' := 87) rfl rfl rfl ?_
  refine g_bipush X (6 : Int32) at_87 (pc' := 89) rfl rfl ?_
  refine g_iloadN X at_89 (pc' := 90) rfl rfl ?_
  refine g_ldc2 X (tb hw 11 rfl) at_90 (pc' := 93) rfl ?_
  refine g_static X (W := 2) [(.int v4_1), (.long (1000000 : Int64))] [(.int (6 : Int32)), (.ref b17_3)] (tb hw 2 rfl) (tb hw 3 rfl) (tb hw 4 rfl) (tb hw 5 rfl) (rDig l Z aa hw [] v4_1 (1000000 : Int64) _ (by decide)) at_93 (pc' := 96) rfl (by decide) (by decide) (by decide) rfl rfl rfl (lenOf pd_4 rfl) (Nat.le_refl _) (by decide) (by decide) ?_
  intro v T L X q
  obtain ⟨rfl, X⟩ := pureX X q
  show Go p e below _ (T.setTop (mkF m 96 #[.val (.int i0), .val (.int i1), .val (.int v4_1), .val (.int v14_2), .val (.ref b17_3), .unset, .unset, .unset] [(.int (fDig v4_1 (1000000 : Int64))), (.int (6 : Int32)), (.ref b17_3)]))
  generalize ev96_10 : (fDig v4_1 (1000000 : Int64)) = v96_10
  refine g_castore X V_b17_3 6 at_96 (pc' := 97) rfl (by decide) (by decide) (Nat.le_of_ble_eq_true rfl) ?_
  intro T h X W V_b17_3
  replace V_b17_3 : Av Z h b17_3 .char [(.int (nar .char v29_4)), (.int (nar .char v40_5)), (.int (nar .char v51_6)), (.int (nar .char v62_7)), (.int (nar .char v73_8)), (.int (nar .char v84_9)), (.int (nar .char v96_10)), (.int (0 : Int32)), (.int (0 : Int32)), (.int (0 : Int32)), (.int (0 : Int32)), (.int (0 : Int32))] := V_b17_3
  replace E_b17_3 := E_b17_3.wr W
  replace Z0 := Nat.le_trans Z0 (Nat.le_of_eq W.size.symm)
  replace N := Fr.snoc X.1 N g_b17_3
  replace Od := Od.wr W g_b17_3
  refine g_aload X at_97 (pc' := 99) rfl rfl rfl ?_
  refine g_bipush X (7 : Int32) at_99 (pc' := 101) rfl rfl ?_
  refine g_iloadN X at_101 (pc' := 102) rfl rfl ?_
  refine g_ldc2 X (tb hw 12 rfl) at_102 (pc' := 105) rfl ?_
  refine g_static X (W := 2) [(.int v4_1), (.long (10000000 : Int64))] [(.int (7 : Int32)), (.ref b17_3)] (tb hw 2 rfl) (tb hw 3 rfl) (tb hw 4 rfl) (tb hw 5 rfl) (rDig l Z aa hw [] v4_1 (10000000 : Int64) _ (by decide)) at_105 (pc' := 108) rfl (by decide) (by decide) (by decide) rfl rfl rfl (lenOf pd_4 rfl) (Nat.le_refl _) (by decide) (by decide) ?_
  intro v T L X q
  obtain ⟨rfl, X⟩ := pureX X q
  show Go p e below _ (T.setTop (mkF m 108 #[.val (.int i0), .val (.int i1), .val (.int v4_1), .val (.int v14_2), .val (.ref b17_3), .unset, .unset, .unset] [(.int (fDig v4_1 (10000000 : Int64))), (.int (7 : Int32)), (.ref b17_3)]))
  generalize ev108_11 : (fDig v4_1 (10000000 : Int64)) = v108_11
  refine g_castore X V_b17_3 7 at_108 (pc' := 109) rfl (by decide) (by decide) (Nat.le_of_ble_eq_true rfl) ?_
  intro T h X W V_b17_3
  replace V_b17_3 : Av Z h b17_3 .char [(.int (nar .char v29_4)), (.int (nar .char v40_5)), (.int (nar .char v51_6)), (.int (nar .char v62_7)), (.int (nar .char v73_8)), (.int (nar .char v84_9)), (.int (nar .char v96_10)), (.int (nar .char v108_11)), (.int (0 : Int32)), (.int (0 : Int32)), (.int (0 : Int32)), (.int (0 : Int32))] := V_b17_3
  replace E_b17_3 := E_b17_3.wr W
  replace Z0 := Nat.le_trans Z0 (Nat.le_of_eq W.size.symm)
  replace N := Fr.snoc X.1 N g_b17_3
  replace Od := Od.wr W g_b17_3
  refine g_aload X at_109 (pc' := 111) rfl rfl rfl ?_
  refine g_bipush X (8 : Int32) at_111 (pc' := 113) rfl rfl ?_
  refine g_iloadN X at_113 (pc' := 114) rfl rfl ?_
  refine g_ldc2 X (tb hw 13 rfl) at_114 (pc' := 117) rfl ?_
  refine g_static X (W := 2) [(.int v4_1), (.long (100000000 : Int64))] [(.int (8 : Int32)), (.ref b17_3)] (tb hw 2 rfl) (tb hw 3 rfl) (tb hw 4 rfl) (tb hw 5 rfl) (rDig l Z aa hw [] v4_1 (100000000 : Int64) _ (by decide)) at_117 (pc' := 120) rfl (by decide) (by decide) (by decide) rfl rfl rfl (lenOf pd_4 rfl) (Nat.le_refl _) (by decide) (by decide) ?_
  intro v T L X q
  obtain ⟨rfl, X⟩ := pureX X q
  show Go p e below _ (T.setTop (mkF m 120 #[.val (.int i0), .val (.int i1), .val (.int v4_1), .val (.int v14_2), .val (.ref b17_3), .unset, .unset, .unset] [(.int (fDig v4_1 (100000000 : Int64))), (.int (8 : Int32)), (.ref b17_3)]))
  generalize ev120_12 : (fDig v4_1 (100000000 : Int64)) = v120_12
  refine g_castore X V_b17_3 8 at_120 (pc' := 121) rfl (by decide) (by decide) (Nat.le_of_ble_eq_true rfl) ?_
  intro T h X W V_b17_3
  replace V_b17_3 : Av Z h b17_3 .char [(.int (nar .char v29_4)), (.int (nar .char v40_5)), (.int (nar .char v51_6)), (.int (nar .char v62_7)), (.int (nar .char v73_8)), (.int (nar .char v84_9)), (.int (nar .char v96_10)), (.int (nar .char v108_11)), (.int (nar .char v120_12)), (.int (0 : Int32)), (.int (0 : Int32)), (.int (0 : Int32))] := V_b17_3
  replace E_b17_3 := E_b17_3.wr W
  replace Z0 := Nat.le_trans Z0 (Nat.le_of_eq W.size.symm)
  replace N := Fr.snoc X.1 N g_b17_3
  replace Od := Od.wr W g_b17_3
  refine g_aload X at_121 (pc' := 123) rfl rfl rfl ?_
  refine g_bipush X (9 : Int32) at_123 (pc' := 125) rfl rfl ?_
  refine g_iloadN X at_125 (pc' := 126) rfl rfl ?_
  refine g_ldc2 X (tb hw 14 rfl) at_126 (pc' := 129) rfl ?_
  refine g_static X (W := 2) [(.int v4_1), (.long (1000000000 : Int64))] [(.int (9 : Int32)), (.ref b17_3)] (tb hw 2 rfl) (tb hw 3 rfl) (tb hw 4 rfl) (tb hw 5 rfl) (rDig l Z aa hw [] v4_1 (1000000000 : Int64) _ (by decide)) at_129 (pc' := 132) rfl (by decide) (by decide) (by decide) rfl rfl rfl (lenOf pd_4 rfl) (Nat.le_refl _) (by decide) (by decide) ?_
  intro v T L X q
  obtain ⟨rfl, X⟩ := pureX X q
  show Go p e below _ (T.setTop (mkF m 132 #[.val (.int i0), .val (.int i1), .val (.int v4_1), .val (.int v14_2), .val (.ref b17_3), .unset, .unset, .unset] [(.int (fDig v4_1 (1000000000 : Int64))), (.int (9 : Int32)), (.ref b17_3)]))
  generalize ev132_13 : (fDig v4_1 (1000000000 : Int64)) = v132_13
  refine g_castore X V_b17_3 9 at_132 (pc' := 133) rfl (by decide) (by decide) (Nat.le_of_ble_eq_true rfl) ?_
  intro T h X W V_b17_3
  replace V_b17_3 : Av Z h b17_3 .char [(.int (nar .char v29_4)), (.int (nar .char v40_5)), (.int (nar .char v51_6)), (.int (nar .char v62_7)), (.int (nar .char v73_8)), (.int (nar .char v84_9)), (.int (nar .char v96_10)), (.int (nar .char v108_11)), (.int (nar .char v120_12)), (.int (nar .char v132_13)), (.int (0 : Int32)), (.int (0 : Int32))] := V_b17_3
  replace E_b17_3 := E_b17_3.wr W
  replace Z0 := Nat.le_trans Z0 (Nat.le_of_eq W.size.symm)
  replace N := Fr.snoc X.1 N g_b17_3
  replace Od := Od.wr W g_b17_3
  refine g_aload X at_133 (pc' := 135) rfl rfl rfl ?_
  refine g_bipush X (10 : Int32) at_135 (pc' := 137) rfl rfl ?_
  refine g_bipush X (48 : Int32) at_137 (pc' := 139) rfl rfl ?_
  refine g_castore X V_b17_3 10 at_139 (pc' := 140) rfl (by decide) (by decide) (Nat.le_of_ble_eq_true rfl) ?_
  intro T h X W V_b17_3
  replace V_b17_3 : Av Z h b17_3 .char [(.int (nar .char v29_4)), (.int (nar .char v40_5)), (.int (nar .char v51_6)), (.int (nar .char v62_7)), (.int (nar .char v73_8)), (.int (nar .char v84_9)), (.int (nar .char v96_10)), (.int (nar .char v108_11)), (.int (nar .char v120_12)), (.int (nar .char v132_13)), (.int (nar .char (48 : Int32))), (.int (0 : Int32))] := V_b17_3
  replace E_b17_3 := E_b17_3.wr W
  replace Z0 := Nat.le_trans Z0 (Nat.le_of_eq W.size.symm)
  replace N := Fr.snoc X.1 N g_b17_3
  replace Od := Od.wr W g_b17_3
  refine g_aload X at_140 (pc' := 142) rfl rfl rfl ?_
  refine g_bipush X (11 : Int32) at_142 (pc' := 144) rfl rfl ?_
  refine g_bipush X (48 : Int32) at_144 (pc' := 146) rfl rfl ?_
  refine g_castore X V_b17_3 11 at_146 (pc' := 147) rfl (by decide) (by decide) (Nat.le_of_ble_eq_true rfl) ?_
  intro T h X W V_b17_3
  replace V_b17_3 : Av Z h b17_3 .char [(.int (nar .char v29_4)), (.int (nar .char v40_5)), (.int (nar .char v51_6)), (.int (nar .char v62_7)), (.int (nar .char v73_8)), (.int (nar .char v84_9)), (.int (nar .char v96_10)), (.int (nar .char v108_11)), (.int (nar .char v120_12)), (.int (nar .char v132_13)), (.int (nar .char (48 : Int32))), (.int (nar .char (48 : Int32)))] := V_b17_3
  replace E_b17_3 := E_b17_3.wr W
  replace Z0 := Nat.le_trans Z0 (Nat.le_of_eq W.size.symm)
  replace N := Fr.snoc X.1 N g_b17_3
  replace Od := Od.wr W g_b17_3
  have hn0 : 0 ≤ v4_1.toInt := by have q : v4_1.toInt = i0.toInt % 2147483648 := by { rw [← ev4_1]; exact c_mask i0 2147483647 31 (by decide) (by decide) }; omega
  have hn1 := (rng32 v4_1).2
  have D0 : (nar .char (nar .char v29_4)).toInt = 48 + v4_1.toInt / 1 % 10 := by rw [← ev29_4]; exact dig_int hn0 _ 1 rfl (by decide) (by decide)
  have D1 : (nar .char (nar .char v40_5)).toInt = 48 + v4_1.toInt / 10 % 10 := by rw [← ev40_5]; exact dig_int hn0 _ 10 rfl (by decide) (by decide)
  have D2 : (nar .char (nar .char v51_6)).toInt = 48 + v4_1.toInt / 100 % 10 := by rw [← ev51_6]; exact dig_int hn0 _ 100 rfl (by decide) (by decide)
  have D3 : (nar .char (nar .char v62_7)).toInt = 48 + v4_1.toInt / 1000 % 10 := by rw [← ev62_7]; exact dig_int hn0 _ 1000 rfl (by decide) (by decide)
  have D4 : (nar .char (nar .char v73_8)).toInt = 48 + v4_1.toInt / 10000 % 10 := by rw [← ev73_8]; exact dig_int hn0 _ 10000 rfl (by decide) (by decide)
  have D5 : (nar .char (nar .char v84_9)).toInt = 48 + v4_1.toInt / 100000 % 10 := by rw [← ev84_9]; exact dig_int hn0 _ 100000 rfl (by decide) (by decide)
  have D6 : (nar .char (nar .char v96_10)).toInt = 48 + v4_1.toInt / 1000000 % 10 := by rw [← ev96_10]; exact dig_int hn0 _ 1000000 rfl (by decide) (by decide)
  have D7 : (nar .char (nar .char v108_11)).toInt = 48 + v4_1.toInt / 10000000 % 10 := by rw [← ev108_11]; exact dig_int hn0 _ 10000000 rfl (by decide) (by decide)
  have D8 : (nar .char (nar .char v120_12)).toInt = 48 + v4_1.toInt / 100000000 % 10 := by rw [← ev120_12]; exact dig_int hn0 _ 100000000 rfl (by decide) (by decide)
  have D9 : (nar .char (nar .char v132_13)).toInt = 48 + v4_1.toInt / 1000000000 % 10 := by rw [← ev132_13]; exact dig_int hn0 _ 1000000000 rfl (by decide) (by decide)
  have D10 : (nar .char (nar .char (48 : Int32))).toInt = 48 := zero_int
  have D11 : (nar .char (nar .char (48 : Int32))).toInt = 48 := zero_int
  rcases (m12 ev14_2 : v14_2 = (1 : Int32) ∨ v14_2 = (2 : Int32) ∨ v14_2 = (3 : Int32) ∨ v14_2 = (4 : Int32) ∨ v14_2 = (5 : Int32) ∨ v14_2 = (6 : Int32) ∨ v14_2 = (7 : Int32) ∨ v14_2 = (8 : Int32) ∨ v14_2 = (9 : Int32) ∨ v14_2 = (10 : Int32) ∨ v14_2 = (11 : Int32) ∨ v14_2 = (12 : Int32)) with hs | hs | hs | hs | hs | hs | hs | hs | hs | hs | hs | hs
  · subst hs
    show Go p e below _ (T.setTop (mkF m 147 #[.val (.int i0), .val (.int i1), .val (.int v4_1), .val (.int (1 : Int32)), .val (.ref b17_3), .unset, .unset, .unset] []))
    have hdig : Digits ([(nar .char (nar .char v29_4))] : List Int32) := (all_cons (by rw [D0]; omega) all_nil)
    have hp : ∀ c ∈ ([(nar .char (nar .char v29_4))] : List Int32), ¬ c < 0 ∧ ¬ (255 : Int32) < c := fun c hc => chr_ok (hdig c hc)
    have hdec : dec ([(nar .char (nar .char v29_4))] : List Int32) = v4_1.toInt % 10 := by
      show (0 * 10 + ((nar .char (nar .char v29_4)).toInt - 48)) = _
      rw [D0]; omega
    have hmax : dec ([(nar .char (nar .char v29_4))] : List Int32) ≤ 2147483647 := by rw [hdec]; omega
    obtain ⟨rr, hr0⟩ : ∃ r : Int32, r = Int32.ofInt (v4_1.toInt % 10) := ⟨_, rfl⟩
    have hrr : rr.toInt = dec ([(nar .char (nar .char v29_4))] : List Int32) := by rw [hr0, hdec]; exact ofI (by omega) (by omega)
    refine g_aload X at_147 (pc' := 149) rfl rfl rfl ?_
    refine g_iloadN X at_149 (pc' := 150) rfl rfl ?_
    refine g_static X (W := 0) [(.ref b17_3), (.int (1 : Int32))] [] (tb hw 15 rfl) (tb hw 16 rfl) (tb hw 4 rfl) (tb hw 17 rfl) (rStr1 l Z aa hw [] b17_3 (nar .char v29_4) (nar .char v40_5) (nar .char v51_6) (nar .char v62_7) (nar .char v73_8) (nar .char v84_9) (nar .char v96_10) (nar .char v108_11) (nar .char v120_12) (nar .char v132_13) (nar .char (48 : Int32)) (nar .char (48 : Int32)) G1 _ n0 Z0 V_b17_3 hp O2 P5 Od) at_150 (pc' := 153) rfl (by decide) (by decide) (by decide) rfl rfl rfl (lenOf pd_5 rfl) (Nat.le_refl _) (by decide) (by decide) ?_
    intro v T L X q
    obtain ⟨tx, rfl, Nq, Kq, St_tx⟩ := q
    replace N := N.app Nq
    replace E_b17_3 := E_b17_3.keep Kq
    replace V_b17_3 := V_b17_3.keep Kq nin0
    replace Od := Od.keep Kq all0
    replace Z0 := Nat.le_trans Z0 Kq.1
    show Go p e below _ (T.setTop (mkF m 153 #[.val (.int i0), .val (.int i1), .val (.int v4_1), .val (.int (1 : Int32)), .val (.ref b17_3), .unset, .unset, .unset] [(.ref tx)]))
    refine g_astore X at_153 (pc' := 155) (Ls' := #[.val (.int i0), .val (.int i1), .val (.int v4_1), .val (.int (1 : Int32)), .val (.ref b17_3), .val (.ref tx), .unset, .unset]) rfl rfl rfl ?_
    refine g_iloadN X at_155 (pc' := 156) rfl rfl ?_
    refine g_bipush X (10 : Int32) at_156 (pc' := 158) rfl rfl ?_
    refine g_icY X at_158 (tlt (show (1 : Int32) < (10 : Int32) from (by decide))).1 (pc' := 166) (by decide) (by decide) ?_
    refine g_iloadN X at_166 (pc' := 167) rfl rfl ?_
    refine g_i2l X at_167 (pc' := 168) rfl ?_
    refine g_iloadN X at_168 (pc' := 169) rfl rfl ?_
    refine g_static X (W := 2) [(.int (1 : Int32))] [(.long (v4_1.toInt64))] (tb hw 47 rfl) (tb hw 48 rfl) (tb hw 4 rfl) (tb hw 49 rfl) (rPow l Z aa hw [] (1 : Int32) _) at_169 (pc' := 172) rfl (by decide) (by decide) (by decide) rfl rfl rfl (lenOf pd_6 rfl) (Nat.le_refl _) (by decide) (by decide) ?_
    intro v T L X q
    obtain ⟨rfl, X⟩ := pureX X q
    show Go p e below _ (T.setTop (mkF m 172 #[.val (.int i0), .val (.int i1), .val (.int v4_1), .val (.int (1 : Int32)), .val (.ref b17_3), .val (.ref tx), .unset, .unset] [(.long (fPow (1 : Int32))), (.long (v4_1.toInt64))]))
    refine g_lrem X at_172 (pc' := 173) rfl (by decide) ?_
    generalize ev173_14 : ((v4_1.toInt64) % (fPow (1 : Int32))) = v173_14
    refine g_lstore X at_173 (pc' := 175) (Ls' := #[.val (.int i0), .val (.int i1), .val (.int v4_1), .val (.int (1 : Int32)), .val (.ref b17_3), .val (.ref tx), .val (.long v173_14), .second]) rfl rfl ?_
    refine g_aload X at_175 (pc' := 177) rfl rfl rfl ?_
    refine g_virtualB X (W := 0) (a := tx) (C := "java/lang/String") [] [] St_tx.1 (tb hw 50 rfl) (tb hw 51 rfl) (tb hw 53 rfl) (tb hw 52 rfl) (Q := Pu (.int (Int32.ofNat (([(nar .char (nar .char v29_4))] : List Int32)).length)) _) (kc := 0) (ks := 0) (back_len (W := 0) X.2.2.2.2.2.1 hw St_tx (O2.ext Od.2) P5 (by decide) (by decide)) at_177 (pc' := 180) rfl (by decide) rfl rfl rfl (lenOf pd_2 rfl) (Nat.le_refl _) (by decide) (by decide) ?_
    intro v T L X q
    obtain ⟨rfl, X⟩ := pureX X q
    show Go p e below _ (T.setTop (mkF m 180 #[.val (.int i0), .val (.int i1), .val (.int v4_1), .val (.int (1 : Int32)), .val (.ref b17_3), .val (.ref tx), .val (.long v173_14), .second] [(.int (Int32.ofNat (([(nar .char (nar .char v29_4))] : List Int32)).length))]))
    refine g_iloadN X at_180 (pc' := 181) rfl rfl ?_
    refine g_icN X at_181 (teq (show (Int32.ofNat (([(nar .char (nar .char v29_4))] : List Int32)).length) = (1 : Int32) from rfl)).2 (pc' := 184) rfl ?_
    refine g_aload X at_184 (pc' := 186) rfl rfl rfl ?_
    refine g_static X (W := 0) [(.ref tx)] [] (tb hw 60 rfl) (tb hw 61 rfl) (tb hw 62 rfl) (tb hw 63 rfl) (rParse l Z aa hw [] tx ([(nar .char (nar .char v29_4))] : List Int32) rr G1 G3 _ n0 Z0 St_tx (Nat.zero_lt_succ _) (Nat.le_of_ble_eq_true rfl) hdig hmax hrr O2 P5 Od O4 rG3) at_186 (pc' := 189) rfl (by decide) (by decide) (by decide) rfl rfl rfl (lenOf pd_7 rfl) (Nat.le_refl _) (by decide) (by decide) ?_
    intro v T L X q
    obtain ⟨rfl, X⟩ := pureX X q
    show Go p e below _ (T.setTop (mkF m 189 #[.val (.int i0), .val (.int i1), .val (.int v4_1), .val (.int (1 : Int32)), .val (.ref b17_3), .val (.ref tx), .val (.long v173_14), .second] [(.int rr)]))
    refine g_i2l X at_189 (pc' := 190) rfl ?_
    refine g_lload X at_190 (pc' := 192) rfl rfl ?_
    refine g_lcmp X at_192 (pc' := 193) rfl ?_
    refine g_ifN X at_193 ((if0 _ _).trans (teq ((lw_eq (rr.toInt64) v173_14).mpr (show (rr.toInt64) = v173_14 from (by rw [← ev173_14]; apply Int64.toInt_inj.mp; rw [Int32.toInt_toInt64, hrr, hdec, Int64.toInt_mod, Int32.toInt_toInt64, show (fPow (1 : Int32)).toInt = 10 from rfl]; exact (Int.tmod_eq_emod_of_nonneg hn0).symm)))).2) (pc' := 196) rfl ?_
    refine g_iconst X (1 : Int32) at_196 (pc' := 197) rfl rfl ?_
    refine g_goto X at_197 (pc' := 201) (by decide) (by decide) ?_
    refine g_ireturnN X (t := .boolean) (by simp) at_201 hret hlk (by decide) (by decide) ?_
    exact ⟨rfl, N⟩
  · subst hs
    show Go p e below _ (T.setTop (mkF m 147 #[.val (.int i0), .val (.int i1), .val (.int v4_1), .val (.int (2 : Int32)), .val (.ref b17_3), .unset, .unset, .unset] []))
    have hdig : Digits ([(nar .char (nar .char v40_5)), (nar .char (nar .char v29_4))] : List Int32) := (all_cons (by rw [D1]; omega) (all_cons (by rw [D0]; omega) all_nil))
    have hp : ∀ c ∈ ([(nar .char (nar .char v40_5)), (nar .char (nar .char v29_4))] : List Int32), ¬ c < 0 ∧ ¬ (255 : Int32) < c := fun c hc => chr_ok (hdig c hc)
    have hdec : dec ([(nar .char (nar .char v40_5)), (nar .char (nar .char v29_4))] : List Int32) = v4_1.toInt % 100 := by
      show ((0 * 10 + ((nar .char (nar .char v40_5)).toInt - 48)) * 10 + ((nar .char (nar .char v29_4)).toInt - 48)) = _
      rw [D1, D0]; omega
    have hmax : dec ([(nar .char (nar .char v40_5)), (nar .char (nar .char v29_4))] : List Int32) ≤ 2147483647 := by rw [hdec]; omega
    obtain ⟨rr, hr0⟩ : ∃ r : Int32, r = Int32.ofInt (v4_1.toInt % 100) := ⟨_, rfl⟩
    have hrr : rr.toInt = dec ([(nar .char (nar .char v40_5)), (nar .char (nar .char v29_4))] : List Int32) := by rw [hr0, hdec]; exact ofI (by omega) (by omega)
    refine g_aload X at_147 (pc' := 149) rfl rfl rfl ?_
    refine g_iloadN X at_149 (pc' := 150) rfl rfl ?_
    refine g_static X (W := 0) [(.ref b17_3), (.int (2 : Int32))] [] (tb hw 15 rfl) (tb hw 16 rfl) (tb hw 4 rfl) (tb hw 17 rfl) (rStr2 l Z aa hw [] b17_3 (nar .char v29_4) (nar .char v40_5) (nar .char v51_6) (nar .char v62_7) (nar .char v73_8) (nar .char v84_9) (nar .char v96_10) (nar .char v108_11) (nar .char v120_12) (nar .char v132_13) (nar .char (48 : Int32)) (nar .char (48 : Int32)) G1 _ n0 Z0 V_b17_3 hp O2 P5 Od) at_150 (pc' := 153) rfl (by decide) (by decide) (by decide) rfl rfl rfl (lenOf pd_5 rfl) (Nat.le_refl _) (by decide) (by decide) ?_
    intro v T L X q
    obtain ⟨tx, rfl, Nq, Kq, St_tx⟩ := q
    replace N := N.app Nq
    replace E_b17_3 := E_b17_3.keep Kq
    replace V_b17_3 := V_b17_3.keep Kq nin0
    replace Od := Od.keep Kq all0
    replace Z0 := Nat.le_trans Z0 Kq.1
    show Go p e below _ (T.setTop (mkF m 153 #[.val (.int i0), .val (.int i1), .val (.int v4_1), .val (.int (2 : Int32)), .val (.ref b17_3), .unset, .unset, .unset] [(.ref tx)]))
    refine g_astore X at_153 (pc' := 155) (Ls' := #[.val (.int i0), .val (.int i1), .val (.int v4_1), .val (.int (2 : Int32)), .val (.ref b17_3), .val (.ref tx), .unset, .unset]) rfl rfl rfl ?_
    refine g_iloadN X at_155 (pc' := 156) rfl rfl ?_
    refine g_bipush X (10 : Int32) at_156 (pc' := 158) rfl rfl ?_
    refine g_icY X at_158 (tlt (show (2 : Int32) < (10 : Int32) from (by decide))).1 (pc' := 166) (by decide) (by decide) ?_
    refine g_iloadN X at_166 (pc' := 167) rfl rfl ?_
    refine g_i2l X at_167 (pc' := 168) rfl ?_
    refine g_iloadN X at_168 (pc' := 169) rfl rfl ?_
    refine g_static X (W := 2) [(.int (2 : Int32))] [(.long (v4_1.toInt64))] (tb hw 47 rfl) (tb hw 48 rfl) (tb hw 4 rfl) (tb hw 49 rfl) (rPow l Z aa hw [] (2 : Int32) _) at_169 (pc' := 172) rfl (by decide) (by decide) (by decide) rfl rfl rfl (lenOf pd_6 rfl) (Nat.le_refl _) (by decide) (by decide) ?_
    intro v T L X q
    obtain ⟨rfl, X⟩ := pureX X q
    show Go p e below _ (T.setTop (mkF m 172 #[.val (.int i0), .val (.int i1), .val (.int v4_1), .val (.int (2 : Int32)), .val (.ref b17_3), .val (.ref tx), .unset, .unset] [(.long (fPow (2 : Int32))), (.long (v4_1.toInt64))]))
    refine g_lrem X at_172 (pc' := 173) rfl (by decide) ?_
    generalize ev173_15 : ((v4_1.toInt64) % (fPow (2 : Int32))) = v173_15
    refine g_lstore X at_173 (pc' := 175) (Ls' := #[.val (.int i0), .val (.int i1), .val (.int v4_1), .val (.int (2 : Int32)), .val (.ref b17_3), .val (.ref tx), .val (.long v173_15), .second]) rfl rfl ?_
    refine g_aload X at_175 (pc' := 177) rfl rfl rfl ?_
    refine g_virtualB X (W := 0) (a := tx) (C := "java/lang/String") [] [] St_tx.1 (tb hw 50 rfl) (tb hw 51 rfl) (tb hw 53 rfl) (tb hw 52 rfl) (Q := Pu (.int (Int32.ofNat (([(nar .char (nar .char v40_5)), (nar .char (nar .char v29_4))] : List Int32)).length)) _) (kc := 0) (ks := 0) (back_len (W := 0) X.2.2.2.2.2.1 hw St_tx (O2.ext Od.2) P5 (by decide) (by decide)) at_177 (pc' := 180) rfl (by decide) rfl rfl rfl (lenOf pd_2 rfl) (Nat.le_refl _) (by decide) (by decide) ?_
    intro v T L X q
    obtain ⟨rfl, X⟩ := pureX X q
    show Go p e below _ (T.setTop (mkF m 180 #[.val (.int i0), .val (.int i1), .val (.int v4_1), .val (.int (2 : Int32)), .val (.ref b17_3), .val (.ref tx), .val (.long v173_15), .second] [(.int (Int32.ofNat (([(nar .char (nar .char v40_5)), (nar .char (nar .char v29_4))] : List Int32)).length))]))
    refine g_iloadN X at_180 (pc' := 181) rfl rfl ?_
    refine g_icN X at_181 (teq (show (Int32.ofNat (([(nar .char (nar .char v40_5)), (nar .char (nar .char v29_4))] : List Int32)).length) = (2 : Int32) from rfl)).2 (pc' := 184) rfl ?_
    refine g_aload X at_184 (pc' := 186) rfl rfl rfl ?_
    refine g_static X (W := 0) [(.ref tx)] [] (tb hw 60 rfl) (tb hw 61 rfl) (tb hw 62 rfl) (tb hw 63 rfl) (rParse l Z aa hw [] tx ([(nar .char (nar .char v40_5)), (nar .char (nar .char v29_4))] : List Int32) rr G1 G3 _ n0 Z0 St_tx (Nat.zero_lt_succ _) (Nat.le_of_ble_eq_true rfl) hdig hmax hrr O2 P5 Od O4 rG3) at_186 (pc' := 189) rfl (by decide) (by decide) (by decide) rfl rfl rfl (lenOf pd_7 rfl) (Nat.le_refl _) (by decide) (by decide) ?_
    intro v T L X q
    obtain ⟨rfl, X⟩ := pureX X q
    show Go p e below _ (T.setTop (mkF m 189 #[.val (.int i0), .val (.int i1), .val (.int v4_1), .val (.int (2 : Int32)), .val (.ref b17_3), .val (.ref tx), .val (.long v173_15), .second] [(.int rr)]))
    refine g_i2l X at_189 (pc' := 190) rfl ?_
    refine g_lload X at_190 (pc' := 192) rfl rfl ?_
    refine g_lcmp X at_192 (pc' := 193) rfl ?_
    refine g_ifN X at_193 ((if0 _ _).trans (teq ((lw_eq (rr.toInt64) v173_15).mpr (show (rr.toInt64) = v173_15 from (by rw [← ev173_15]; apply Int64.toInt_inj.mp; rw [Int32.toInt_toInt64, hrr, hdec, Int64.toInt_mod, Int32.toInt_toInt64, show (fPow (2 : Int32)).toInt = 100 from rfl]; exact (Int.tmod_eq_emod_of_nonneg hn0).symm)))).2) (pc' := 196) rfl ?_
    refine g_iconst X (1 : Int32) at_196 (pc' := 197) rfl rfl ?_
    refine g_goto X at_197 (pc' := 201) (by decide) (by decide) ?_
    refine g_ireturnN X (t := .boolean) (by simp) at_201 hret hlk (by decide) (by decide) ?_
    exact ⟨rfl, N⟩
  · subst hs
    show Go p e below _ (T.setTop (mkF m 147 #[.val (.int i0), .val (.int i1), .val (.int v4_1), .val (.int (3 : Int32)), .val (.ref b17_3), .unset, .unset, .unset] []))
    have hdig : Digits ([(nar .char (nar .char v51_6)), (nar .char (nar .char v40_5)), (nar .char (nar .char v29_4))] : List Int32) := (all_cons (by rw [D2]; omega) (all_cons (by rw [D1]; omega) (all_cons (by rw [D0]; omega) all_nil)))
    have hp : ∀ c ∈ ([(nar .char (nar .char v51_6)), (nar .char (nar .char v40_5)), (nar .char (nar .char v29_4))] : List Int32), ¬ c < 0 ∧ ¬ (255 : Int32) < c := fun c hc => chr_ok (hdig c hc)
    have hdec : dec ([(nar .char (nar .char v51_6)), (nar .char (nar .char v40_5)), (nar .char (nar .char v29_4))] : List Int32) = v4_1.toInt % 1000 := by
      show (((0 * 10 + ((nar .char (nar .char v51_6)).toInt - 48)) * 10 + ((nar .char (nar .char v40_5)).toInt - 48)) * 10 + ((nar .char (nar .char v29_4)).toInt - 48)) = _
      rw [D2, D1, D0]; omega
    have hmax : dec ([(nar .char (nar .char v51_6)), (nar .char (nar .char v40_5)), (nar .char (nar .char v29_4))] : List Int32) ≤ 2147483647 := by rw [hdec]; omega
    obtain ⟨rr, hr0⟩ : ∃ r : Int32, r = Int32.ofInt (v4_1.toInt % 1000) := ⟨_, rfl⟩
    have hrr : rr.toInt = dec ([(nar .char (nar .char v51_6)), (nar .char (nar .char v40_5)), (nar .char (nar .char v29_4))] : List Int32) := by rw [hr0, hdec]; exact ofI (by omega) (by omega)
    refine g_aload X at_147 (pc' := 149) rfl rfl rfl ?_
    refine g_iloadN X at_149 (pc' := 150) rfl rfl ?_
    refine g_static X (W := 0) [(.ref b17_3), (.int (3 : Int32))] [] (tb hw 15 rfl) (tb hw 16 rfl) (tb hw 4 rfl) (tb hw 17 rfl) (rStr3 l Z aa hw [] b17_3 (nar .char v29_4) (nar .char v40_5) (nar .char v51_6) (nar .char v62_7) (nar .char v73_8) (nar .char v84_9) (nar .char v96_10) (nar .char v108_11) (nar .char v120_12) (nar .char v132_13) (nar .char (48 : Int32)) (nar .char (48 : Int32)) G1 _ n0 Z0 V_b17_3 hp O2 P5 Od) at_150 (pc' := 153) rfl (by decide) (by decide) (by decide) rfl rfl rfl (lenOf pd_5 rfl) (Nat.le_refl _) (by decide) (by decide) ?_
    intro v T L X q
    obtain ⟨tx, rfl, Nq, Kq, St_tx⟩ := q
    replace N := N.app Nq
    replace E_b17_3 := E_b17_3.keep Kq
    replace V_b17_3 := V_b17_3.keep Kq nin0
    replace Od := Od.keep Kq all0
    replace Z0 := Nat.le_trans Z0 Kq.1
    show Go p e below _ (T.setTop (mkF m 153 #[.val (.int i0), .val (.int i1), .val (.int v4_1), .val (.int (3 : Int32)), .val (.ref b17_3), .unset, .unset, .unset] [(.ref tx)]))
    refine g_astore X at_153 (pc' := 155) (Ls' := #[.val (.int i0), .val (.int i1), .val (.int v4_1), .val (.int (3 : Int32)), .val (.ref b17_3), .val (.ref tx), .unset, .unset]) rfl rfl rfl ?_
    refine g_iloadN X at_155 (pc' := 156) rfl rfl ?_
    refine g_bipush X (10 : Int32) at_156 (pc' := 158) rfl rfl ?_
    refine g_icY X at_158 (tlt (show (3 : Int32) < (10 : Int32) from (by decide))).1 (pc' := 166) (by decide) (by decide) ?_
    refine g_iloadN X at_166 (pc' := 167) rfl rfl ?_
    refine g_i2l X at_167 (pc' := 168) rfl ?_
    refine g_iloadN X at_168 (pc' := 169) rfl rfl ?_
    refine g_static X (W := 2) [(.int (3 : Int32))] [(.long (v4_1.toInt64))] (tb hw 47 rfl) (tb hw 48 rfl) (tb hw 4 rfl) (tb hw 49 rfl) (rPow l Z aa hw [] (3 : Int32) _) at_169 (pc' := 172) rfl (by decide) (by decide) (by decide) rfl rfl rfl (lenOf pd_6 rfl) (Nat.le_refl _) (by decide) (by decide) ?_
    intro v T L X q
    obtain ⟨rfl, X⟩ := pureX X q
    show Go p e below _ (T.setTop (mkF m 172 #[.val (.int i0), .val (.int i1), .val (.int v4_1), .val (.int (3 : Int32)), .val (.ref b17_3), .val (.ref tx), .unset, .unset] [(.long (fPow (3 : Int32))), (.long (v4_1.toInt64))]))
    refine g_lrem X at_172 (pc' := 173) rfl (by decide) ?_
    generalize ev173_16 : ((v4_1.toInt64) % (fPow (3 : Int32))) = v173_16
    refine g_lstore X at_173 (pc' := 175) (Ls' := #[.val (.int i0), .val (.int i1), .val (.int v4_1), .val (.int (3 : Int32)), .val (.ref b17_3), .val (.ref tx), .val (.long v173_16), .second]) rfl rfl ?_
    refine g_aload X at_175 (pc' := 177) rfl rfl rfl ?_
    refine g_virtualB X (W := 0) (a := tx) (C := "java/lang/String") [] [] St_tx.1 (tb hw 50 rfl) (tb hw 51 rfl) (tb hw 53 rfl) (tb hw 52 rfl) (Q := Pu (.int (Int32.ofNat (([(nar .char (nar .char v51_6)), (nar .char (nar .char v40_5)), (nar .char (nar .char v29_4))] : List Int32)).length)) _) (kc := 0) (ks := 0) (back_len (W := 0) X.2.2.2.2.2.1 hw St_tx (O2.ext Od.2) P5 (by decide) (by decide)) at_177 (pc' := 180) rfl (by decide) rfl rfl rfl (lenOf pd_2 rfl) (Nat.le_refl _) (by decide) (by decide) ?_
    intro v T L X q
    obtain ⟨rfl, X⟩ := pureX X q
    show Go p e below _ (T.setTop (mkF m 180 #[.val (.int i0), .val (.int i1), .val (.int v4_1), .val (.int (3 : Int32)), .val (.ref b17_3), .val (.ref tx), .val (.long v173_16), .second] [(.int (Int32.ofNat (([(nar .char (nar .char v51_6)), (nar .char (nar .char v40_5)), (nar .char (nar .char v29_4))] : List Int32)).length))]))
    refine g_iloadN X at_180 (pc' := 181) rfl rfl ?_
    refine g_icN X at_181 (teq (show (Int32.ofNat (([(nar .char (nar .char v51_6)), (nar .char (nar .char v40_5)), (nar .char (nar .char v29_4))] : List Int32)).length) = (3 : Int32) from rfl)).2 (pc' := 184) rfl ?_
    refine g_aload X at_184 (pc' := 186) rfl rfl rfl ?_
    refine g_static X (W := 0) [(.ref tx)] [] (tb hw 60 rfl) (tb hw 61 rfl) (tb hw 62 rfl) (tb hw 63 rfl) (rParse l Z aa hw [] tx ([(nar .char (nar .char v51_6)), (nar .char (nar .char v40_5)), (nar .char (nar .char v29_4))] : List Int32) rr G1 G3 _ n0 Z0 St_tx (Nat.zero_lt_succ _) (Nat.le_of_ble_eq_true rfl) hdig hmax hrr O2 P5 Od O4 rG3) at_186 (pc' := 189) rfl (by decide) (by decide) (by decide) rfl rfl rfl (lenOf pd_7 rfl) (Nat.le_refl _) (by decide) (by decide) ?_
    intro v T L X q
    obtain ⟨rfl, X⟩ := pureX X q
    show Go p e below _ (T.setTop (mkF m 189 #[.val (.int i0), .val (.int i1), .val (.int v4_1), .val (.int (3 : Int32)), .val (.ref b17_3), .val (.ref tx), .val (.long v173_16), .second] [(.int rr)]))
    refine g_i2l X at_189 (pc' := 190) rfl ?_
    refine g_lload X at_190 (pc' := 192) rfl rfl ?_
    refine g_lcmp X at_192 (pc' := 193) rfl ?_
    refine g_ifN X at_193 ((if0 _ _).trans (teq ((lw_eq (rr.toInt64) v173_16).mpr (show (rr.toInt64) = v173_16 from (by rw [← ev173_16]; apply Int64.toInt_inj.mp; rw [Int32.toInt_toInt64, hrr, hdec, Int64.toInt_mod, Int32.toInt_toInt64, show (fPow (3 : Int32)).toInt = 1000 from rfl]; exact (Int.tmod_eq_emod_of_nonneg hn0).symm)))).2) (pc' := 196) rfl ?_
    refine g_iconst X (1 : Int32) at_196 (pc' := 197) rfl rfl ?_
    refine g_goto X at_197 (pc' := 201) (by decide) (by decide) ?_
    refine g_ireturnN X (t := .boolean) (by simp) at_201 hret hlk (by decide) (by decide) ?_
    exact ⟨rfl, N⟩
  · subst hs
    show Go p e below _ (T.setTop (mkF m 147 #[.val (.int i0), .val (.int i1), .val (.int v4_1), .val (.int (4 : Int32)), .val (.ref b17_3), .unset, .unset, .unset] []))
    have hdig : Digits ([(nar .char (nar .char v62_7)), (nar .char (nar .char v51_6)), (nar .char (nar .char v40_5)), (nar .char (nar .char v29_4))] : List Int32) := (all_cons (by rw [D3]; omega) (all_cons (by rw [D2]; omega) (all_cons (by rw [D1]; omega) (all_cons (by rw [D0]; omega) all_nil))))
    have hp : ∀ c ∈ ([(nar .char (nar .char v62_7)), (nar .char (nar .char v51_6)), (nar .char (nar .char v40_5)), (nar .char (nar .char v29_4))] : List Int32), ¬ c < 0 ∧ ¬ (255 : Int32) < c := fun c hc => chr_ok (hdig c hc)
    have hdec : dec ([(nar .char (nar .char v62_7)), (nar .char (nar .char v51_6)), (nar .char (nar .char v40_5)), (nar .char (nar .char v29_4))] : List Int32) = v4_1.toInt % 10000 := by
      show ((((0 * 10 + ((nar .char (nar .char v62_7)).toInt - 48)) * 10 + ((nar .char (nar .char v51_6)).toInt - 48)) * 10 + ((nar .char (nar .char v40_5)).toInt - 48)) * 10 + ((nar .char (nar .char v29_4)).toInt - 48)) = _
      rw [D3, D2, D1, D0]; omega
    have hmax : dec ([(nar .char (nar .char v62_7)), (nar .char (nar .char v51_6)), (nar .char (nar .char v40_5)), (nar .char (nar .char v29_4))] : List Int32) ≤ 2147483647 := by rw [hdec]; omega
    obtain ⟨rr, hr0⟩ : ∃ r : Int32, r = Int32.ofInt (v4_1.toInt % 10000) := ⟨_, rfl⟩
    have hrr : rr.toInt = dec ([(nar .char (nar .char v62_7)), (nar .char (nar .char v51_6)), (nar .char (nar .char v40_5)), (nar .char (nar .char v29_4))] : List Int32) := by rw [hr0, hdec]; exact ofI (by omega) (by omega)
    refine g_aload X at_147 (pc' := 149) rfl rfl rfl ?_
    refine g_iloadN X at_149 (pc' := 150) rfl rfl ?_
    refine g_static X (W := 0) [(.ref b17_3), (.int (4 : Int32))] [] (tb hw 15 rfl) (tb hw 16 rfl) (tb hw 4 rfl) (tb hw 17 rfl) (rStr4 l Z aa hw [] b17_3 (nar .char v29_4) (nar .char v40_5) (nar .char v51_6) (nar .char v62_7) (nar .char v73_8) (nar .char v84_9) (nar .char v96_10) (nar .char v108_11) (nar .char v120_12) (nar .char v132_13) (nar .char (48 : Int32)) (nar .char (48 : Int32)) G1 _ n0 Z0 V_b17_3 hp O2 P5 Od) at_150 (pc' := 153) rfl (by decide) (by decide) (by decide) rfl rfl rfl (lenOf pd_5 rfl) (Nat.le_refl _) (by decide) (by decide) ?_
    intro v T L X q
    obtain ⟨tx, rfl, Nq, Kq, St_tx⟩ := q
    replace N := N.app Nq
    replace E_b17_3 := E_b17_3.keep Kq
    replace V_b17_3 := V_b17_3.keep Kq nin0
    replace Od := Od.keep Kq all0
    replace Z0 := Nat.le_trans Z0 Kq.1
    show Go p e below _ (T.setTop (mkF m 153 #[.val (.int i0), .val (.int i1), .val (.int v4_1), .val (.int (4 : Int32)), .val (.ref b17_3), .unset, .unset, .unset] [(.ref tx)]))
    refine g_astore X at_153 (pc' := 155) (Ls' := #[.val (.int i0), .val (.int i1), .val (.int v4_1), .val (.int (4 : Int32)), .val (.ref b17_3), .val (.ref tx), .unset, .unset]) rfl rfl rfl ?_
    refine g_iloadN X at_155 (pc' := 156) rfl rfl ?_
    refine g_bipush X (10 : Int32) at_156 (pc' := 158) rfl rfl ?_
    refine g_icY X at_158 (tlt (show (4 : Int32) < (10 : Int32) from (by decide))).1 (pc' := 166) (by decide) (by decide) ?_
    refine g_iloadN X at_166 (pc' := 167) rfl rfl ?_
    refine g_i2l X at_167 (pc' := 168) rfl ?_
    refine g_iloadN X at_168 (pc' := 169) rfl rfl ?_
    refine g_static X (W := 2) [(.int (4 : Int32))] [(.long (v4_1.toInt64))] (tb hw 47 rfl) (tb hw 48 rfl) (tb hw 4 rfl) (tb hw 49 rfl) (rPow l Z aa hw [] (4 : Int32) _) at_169 (pc' := 172) rfl (by decide) (by decide) (by decide) rfl rfl rfl (lenOf pd_6 rfl) (Nat.le_refl _) (by decide) (by decide) ?_
    intro v T L X q
    obtain ⟨rfl, X⟩ := pureX X q
    show Go p e below _ (T.setTop (mkF m 172 #[.val (.int i0), .val (.int i1), .val (.int v4_1), .val (.int (4 : Int32)), .val (.ref b17_3), .val (.ref tx), .unset, .unset] [(.long (fPow (4 : Int32))), (.long (v4_1.toInt64))]))
    refine g_lrem X at_172 (pc' := 173) rfl (by decide) ?_
    generalize ev173_17 : ((v4_1.toInt64) % (fPow (4 : Int32))) = v173_17
    refine g_lstore X at_173 (pc' := 175) (Ls' := #[.val (.int i0), .val (.int i1), .val (.int v4_1), .val (.int (4 : Int32)), .val (.ref b17_3), .val (.ref tx), .val (.long v173_17), .second]) rfl rfl ?_
    refine g_aload X at_175 (pc' := 177) rfl rfl rfl ?_
    refine g_virtualB X (W := 0) (a := tx) (C := "java/lang/String") [] [] St_tx.1 (tb hw 50 rfl) (tb hw 51 rfl) (tb hw 53 rfl) (tb hw 52 rfl) (Q := Pu (.int (Int32.ofNat (([(nar .char (nar .char v62_7)), (nar .char (nar .char v51_6)), (nar .char (nar .char v40_5)), (nar .char (nar .char v29_4))] : List Int32)).length)) _) (kc := 0) (ks := 0) (back_len (W := 0) X.2.2.2.2.2.1 hw St_tx (O2.ext Od.2) P5 (by decide) (by decide)) at_177 (pc' := 180) rfl (by decide) rfl rfl rfl (lenOf pd_2 rfl) (Nat.le_refl _) (by decide) (by decide) ?_
    intro v T L X q
    obtain ⟨rfl, X⟩ := pureX X q
    show Go p e below _ (T.setTop (mkF m 180 #[.val (.int i0), .val (.int i1), .val (.int v4_1), .val (.int (4 : Int32)), .val (.ref b17_3), .val (.ref tx), .val (.long v173_17), .second] [(.int (Int32.ofNat (([(nar .char (nar .char v62_7)), (nar .char (nar .char v51_6)), (nar .char (nar .char v40_5)), (nar .char (nar .char v29_4))] : List Int32)).length))]))
    refine g_iloadN X at_180 (pc' := 181) rfl rfl ?_
    refine g_icN X at_181 (teq (show (Int32.ofNat (([(nar .char (nar .char v62_7)), (nar .char (nar .char v51_6)), (nar .char (nar .char v40_5)), (nar .char (nar .char v29_4))] : List Int32)).length) = (4 : Int32) from rfl)).2 (pc' := 184) rfl ?_
    refine g_aload X at_184 (pc' := 186) rfl rfl rfl ?_
    refine g_static X (W := 0) [(.ref tx)] [] (tb hw 60 rfl) (tb hw 61 rfl) (tb hw 62 rfl) (tb hw 63 rfl) (rParse l Z aa hw [] tx ([(nar .char (nar .char v62_7)), (nar .char (nar .char v51_6)), (nar .char (nar .char v40_5)), (nar .char (nar .char v29_4))] : List Int32) rr G1 G3 _ n0 Z0 St_tx (Nat.zero_lt_succ _) (Nat.le_of_ble_eq_true rfl) hdig hmax hrr O2 P5 Od O4 rG3) at_186 (pc' := 189) rfl (by decide) (by decide) (by decide) rfl rfl rfl (lenOf pd_7 rfl) (Nat.le_refl _) (by decide) (by decide) ?_
    intro v T L X q
    obtain ⟨rfl, X⟩ := pureX X q
    show Go p e below _ (T.setTop (mkF m 189 #[.val (.int i0), .val (.int i1), .val (.int v4_1), .val (.int (4 : Int32)), .val (.ref b17_3), .val (.ref tx), .val (.long v173_17), .second] [(.int rr)]))
    refine g_i2l X at_189 (pc' := 190) rfl ?_
    refine g_lload X at_190 (pc' := 192) rfl rfl ?_
    refine g_lcmp X at_192 (pc' := 193) rfl ?_
    refine g_ifN X at_193 ((if0 _ _).trans (teq ((lw_eq (rr.toInt64) v173_17).mpr (show (rr.toInt64) = v173_17 from (by rw [← ev173_17]; apply Int64.toInt_inj.mp; rw [Int32.toInt_toInt64, hrr, hdec, Int64.toInt_mod, Int32.toInt_toInt64, show (fPow (4 : Int32)).toInt = 10000 from rfl]; exact (Int.tmod_eq_emod_of_nonneg hn0).symm)))).2) (pc' := 196) rfl ?_
    refine g_iconst X (1 : Int32) at_196 (pc' := 197) rfl rfl ?_
    refine g_goto X at_197 (pc' := 201) (by decide) (by decide) ?_
    refine g_ireturnN X (t := .boolean) (by simp) at_201 hret hlk (by decide) (by decide) ?_
    exact ⟨rfl, N⟩
  · subst hs
    show Go p e below _ (T.setTop (mkF m 147 #[.val (.int i0), .val (.int i1), .val (.int v4_1), .val (.int (5 : Int32)), .val (.ref b17_3), .unset, .unset, .unset] []))
    have hdig : Digits ([(nar .char (nar .char v73_8)), (nar .char (nar .char v62_7)), (nar .char (nar .char v51_6)), (nar .char (nar .char v40_5)), (nar .char (nar .char v29_4))] : List Int32) := (all_cons (by rw [D4]; omega) (all_cons (by rw [D3]; omega) (all_cons (by rw [D2]; omega) (all_cons (by rw [D1]; omega) (all_cons (by rw [D0]; omega) all_nil)))))
    have hp : ∀ c ∈ ([(nar .char (nar .char v73_8)), (nar .char (nar .char v62_7)), (nar .char (nar .char v51_6)), (nar .char (nar .char v40_5)), (nar .char (nar .char v29_4))] : List Int32), ¬ c < 0 ∧ ¬ (255 : Int32) < c := fun c hc => chr_ok (hdig c hc)
    have hdec : dec ([(nar .char (nar .char v73_8)), (nar .char (nar .char v62_7)), (nar .char (nar .char v51_6)), (nar .char (nar .char v40_5)), (nar .char (nar .char v29_4))] : List Int32) = v4_1.toInt % 100000 := by
      show (((((0 * 10 + ((nar .char (nar .char v73_8)).toInt - 48)) * 10 + ((nar .char (nar .char v62_7)).toInt - 48)) * 10 + ((nar .char (nar .char v51_6)).toInt - 48)) * 10 + ((nar .char (nar .char v40_5)).toInt - 48)) * 10 + ((nar .char (nar .char v29_4)).toInt - 48)) = _
      rw [D4, D3, D2, D1, D0]; omega
    have hmax : dec ([(nar .char (nar .char v73_8)), (nar .char (nar .char v62_7)), (nar .char (nar .char v51_6)), (nar .char (nar .char v40_5)), (nar .char (nar .char v29_4))] : List Int32) ≤ 2147483647 := by rw [hdec]; omega
    obtain ⟨rr, hr0⟩ : ∃ r : Int32, r = Int32.ofInt (v4_1.toInt % 100000) := ⟨_, rfl⟩
    have hrr : rr.toInt = dec ([(nar .char (nar .char v73_8)), (nar .char (nar .char v62_7)), (nar .char (nar .char v51_6)), (nar .char (nar .char v40_5)), (nar .char (nar .char v29_4))] : List Int32) := by rw [hr0, hdec]; exact ofI (by omega) (by omega)
    refine g_aload X at_147 (pc' := 149) rfl rfl rfl ?_
    refine g_iloadN X at_149 (pc' := 150) rfl rfl ?_
    refine g_static X (W := 0) [(.ref b17_3), (.int (5 : Int32))] [] (tb hw 15 rfl) (tb hw 16 rfl) (tb hw 4 rfl) (tb hw 17 rfl) (rStr5 l Z aa hw [] b17_3 (nar .char v29_4) (nar .char v40_5) (nar .char v51_6) (nar .char v62_7) (nar .char v73_8) (nar .char v84_9) (nar .char v96_10) (nar .char v108_11) (nar .char v120_12) (nar .char v132_13) (nar .char (48 : Int32)) (nar .char (48 : Int32)) G1 _ n0 Z0 V_b17_3 hp O2 P5 Od) at_150 (pc' := 153) rfl (by decide) (by decide) (by decide) rfl rfl rfl (lenOf pd_5 rfl) (Nat.le_refl _) (by decide) (by decide) ?_
    intro v T L X q
    obtain ⟨tx, rfl, Nq, Kq, St_tx⟩ := q
    replace N := N.app Nq
    replace E_b17_3 := E_b17_3.keep Kq
    replace V_b17_3 := V_b17_3.keep Kq nin0
    replace Od := Od.keep Kq all0
    replace Z0 := Nat.le_trans Z0 Kq.1
    show Go p e below _ (T.setTop (mkF m 153 #[.val (.int i0), .val (.int i1), .val (.int v4_1), .val (.int (5 : Int32)), .val (.ref b17_3), .unset, .unset, .unset] [(.ref tx)]))
    refine g_astore X at_153 (pc' := 155) (Ls' := #[.val (.int i0), .val (.int i1), .val (.int v4_1), .val (.int (5 : Int32)), .val (.ref b17_3), .val (.ref tx), .unset, .unset]) rfl rfl rfl ?_
    refine g_iloadN X at_155 (pc' := 156) rfl rfl ?_
    refine g_bipush X (10 : Int32) at_156 (pc' := 158) rfl rfl ?_
    refine g_icY X at_158 (tlt (show (5 : Int32) < (10 : Int32) from (by decide))).1 (pc' := 166) (by decide) (by decide) ?_
    refine g_iloadN X at_166 (pc' := 167) rfl rfl ?_
    refine g_i2l X at_167 (pc' := 168) rfl ?_
    refine g_iloadN X at_168 (pc' := 169) rfl rfl ?_
    refine g_static X (W := 2) [(.int (5 : Int32))] [(.long (v4_1.toInt64))] (tb hw 47 rfl) (tb hw 48 rfl) (tb hw 4 rfl) (tb hw 49 rfl) (rPow l Z aa hw [] (5 : Int32) _) at_169 (pc' := 172) rfl (by decide) (by decide) (by decide) rfl rfl rfl (lenOf pd_6 rfl) (Nat.le_refl _) (by decide) (by decide) ?_
    intro v T L X q
    obtain ⟨rfl, X⟩ := pureX X q
    show Go p e below _ (T.setTop (mkF m 172 #[.val (.int i0), .val (.int i1), .val (.int v4_1), .val (.int (5 : Int32)), .val (.ref b17_3), .val (.ref tx), .unset, .unset] [(.long (fPow (5 : Int32))), (.long (v4_1.toInt64))]))
    refine g_lrem X at_172 (pc' := 173) rfl (by decide) ?_
    generalize ev173_18 : ((v4_1.toInt64) % (fPow (5 : Int32))) = v173_18
    refine g_lstore X at_173 (pc' := 175) (Ls' := #[.val (.int i0), .val (.int i1), .val (.int v4_1), .val (.int (5 : Int32)), .val (.ref b17_3), .val (.ref tx), .val (.long v173_18), .second]) rfl rfl ?_
    refine g_aload X at_175 (pc' := 177) rfl rfl rfl ?_
    refine g_virtualB X (W := 0) (a := tx) (C := "java/lang/String") [] [] St_tx.1 (tb hw 50 rfl) (tb hw 51 rfl) (tb hw 53 rfl) (tb hw 52 rfl) (Q := Pu (.int (Int32.ofNat (([(nar .char (nar .char v73_8)), (nar .char (nar .char v62_7)), (nar .char (nar .char v51_6)), (nar .char (nar .char v40_5)), (nar .char (nar .char v29_4))] : List Int32)).length)) _) (kc := 0) (ks := 0) (back_len (W := 0) X.2.2.2.2.2.1 hw St_tx (O2.ext Od.2) P5 (by decide) (by decide)) at_177 (pc' := 180) rfl (by decide) rfl rfl rfl (lenOf pd_2 rfl) (Nat.le_refl _) (by decide) (by decide) ?_
    intro v T L X q
    obtain ⟨rfl, X⟩ := pureX X q
    show Go p e below _ (T.setTop (mkF m 180 #[.val (.int i0), .val (.int i1), .val (.int v4_1), .val (.int (5 : Int32)), .val (.ref b17_3), .val (.ref tx), .val (.long v173_18), .second] [(.int (Int32.ofNat (([(nar .char (nar .char v73_8)), (nar .char (nar .char v62_7)), (nar .char (nar .char v51_6)), (nar .char (nar .char v40_5)), (nar .char (nar .char v29_4))] : List Int32)).length))]))
    refine g_iloadN X at_180 (pc' := 181) rfl rfl ?_
    refine g_icN X at_181 (teq (show (Int32.ofNat (([(nar .char (nar .char v73_8)), (nar .char (nar .char v62_7)), (nar .char (nar .char v51_6)), (nar .char (nar .char v40_5)), (nar .char (nar .char v29_4))] : List Int32)).length) = (5 : Int32) from rfl)).2 (pc' := 184) rfl ?_
    refine g_aload X at_184 (pc' := 186) rfl rfl rfl ?_
    refine g_static X (W := 0) [(.ref tx)] [] (tb hw 60 rfl) (tb hw 61 rfl) (tb hw 62 rfl) (tb hw 63 rfl) (rParse l Z aa hw [] tx ([(nar .char (nar .char v73_8)), (nar .char (nar .char v62_7)), (nar .char (nar .char v51_6)), (nar .char (nar .char v40_5)), (nar .char (nar .char v29_4))] : List Int32) rr G1 G3 _ n0 Z0 St_tx (Nat.zero_lt_succ _) (Nat.le_of_ble_eq_true rfl) hdig hmax hrr O2 P5 Od O4 rG3) at_186 (pc' := 189) rfl (by decide) (by decide) (by decide) rfl rfl rfl (lenOf pd_7 rfl) (Nat.le_refl _) (by decide) (by decide) ?_
    intro v T L X q
    obtain ⟨rfl, X⟩ := pureX X q
    show Go p e below _ (T.setTop (mkF m 189 #[.val (.int i0), .val (.int i1), .val (.int v4_1), .val (.int (5 : Int32)), .val (.ref b17_3), .val (.ref tx), .val (.long v173_18), .second] [(.int rr)]))
    refine g_i2l X at_189 (pc' := 190) rfl ?_
    refine g_lload X at_190 (pc' := 192) rfl rfl ?_
    refine g_lcmp X at_192 (pc' := 193) rfl ?_
    refine g_ifN X at_193 ((if0 _ _).trans (teq ((lw_eq (rr.toInt64) v173_18).mpr (show (rr.toInt64) = v173_18 from (by rw [← ev173_18]; apply Int64.toInt_inj.mp; rw [Int32.toInt_toInt64, hrr, hdec, Int64.toInt_mod, Int32.toInt_toInt64, show (fPow (5 : Int32)).toInt = 100000 from rfl]; exact (Int.tmod_eq_emod_of_nonneg hn0).symm)))).2) (pc' := 196) rfl ?_
    refine g_iconst X (1 : Int32) at_196 (pc' := 197) rfl rfl ?_
    refine g_goto X at_197 (pc' := 201) (by decide) (by decide) ?_
    refine g_ireturnN X (t := .boolean) (by simp) at_201 hret hlk (by decide) (by decide) ?_
    exact ⟨rfl, N⟩
  · subst hs
    show Go p e below _ (T.setTop (mkF m 147 #[.val (.int i0), .val (.int i1), .val (.int v4_1), .val (.int (6 : Int32)), .val (.ref b17_3), .unset, .unset, .unset] []))
    have hdig : Digits ([(nar .char (nar .char v84_9)), (nar .char (nar .char v73_8)), (nar .char (nar .char v62_7)), (nar .char (nar .char v51_6)), (nar .char (nar .char v40_5)), (nar .char (nar .char v29_4))] : List Int32) := (all_cons (by rw [D5]; omega) (all_cons (by rw [D4]; omega) (all_cons (by rw [D3]; omega) (all_cons (by rw [D2]; omega) (all_cons (by rw [D1]; omega) (all_cons (by rw [D0]; omega) all_nil))))))
    have hp : ∀ c ∈ ([(nar .char (nar .char v84_9)), (nar .char (nar .char v73_8)), (nar .char (nar .char v62_7)), (nar .char (nar .char v51_6)), (nar .char (nar .char v40_5)), (nar .char (nar .char v29_4))] : List Int32), ¬ c < 0 ∧ ¬ (255 : Int32) < c := fun c hc => chr_ok (hdig c hc)
    have hdec : dec ([(nar .char (nar .char v84_9)), (nar .char (nar .char v73_8)), (nar .char (nar .char v62_7)), (nar .char (nar .char v51_6)), (nar .char (nar .char v40_5)), (nar .char (nar .char v29_4))] : List Int32) = v4_1.toInt % 1000000 := by
      show ((((((0 * 10 + ((nar .char (nar .char v84_9)).toInt - 48)) * 10 + ((nar .char (nar .char v73_8)).toInt - 48)) * 10 + ((nar .char (nar .char v62_7)).toInt - 48)) * 10 + ((nar .char (nar .char v51_6)).toInt - 48)) * 10 + ((nar .char (nar .char v40_5)).toInt - 48)) * 10 + ((nar .char (nar .char v29_4)).toInt - 48)) = _
      rw [D5, D4, D3, D2, D1, D0]; omega
    have hmax : dec ([(nar .char (nar .char v84_9)), (nar .char (nar .char v73_8)), (nar .char (nar .char v62_7)), (nar .char (nar .char v51_6)), (nar .char (nar .char v40_5)), (nar .char (nar .char v29_4))] : List Int32) ≤ 2147483647 := by rw [hdec]; omega
    obtain ⟨rr, hr0⟩ : ∃ r : Int32, r = Int32.ofInt (v4_1.toInt % 1000000) := ⟨_, rfl⟩
    have hrr : rr.toInt = dec ([(nar .char (nar .char v84_9)), (nar .char (nar .char v73_8)), (nar .char (nar .char v62_7)), (nar .char (nar .char v51_6)), (nar .char (nar .char v40_5)), (nar .char (nar .char v29_4))] : List Int32) := by rw [hr0, hdec]; exact ofI (by omega) (by omega)
    refine g_aload X at_147 (pc' := 149) rfl rfl rfl ?_
    refine g_iloadN X at_149 (pc' := 150) rfl rfl ?_
    refine g_static X (W := 0) [(.ref b17_3), (.int (6 : Int32))] [] (tb hw 15 rfl) (tb hw 16 rfl) (tb hw 4 rfl) (tb hw 17 rfl) (rStr6 l Z aa hw [] b17_3 (nar .char v29_4) (nar .char v40_5) (nar .char v51_6) (nar .char v62_7) (nar .char v73_8) (nar .char v84_9) (nar .char v96_10) (nar .char v108_11) (nar .char v120_12) (nar .char v132_13) (nar .char (48 : Int32)) (nar .char (48 : Int32)) G1 _ n0 Z0 V_b17_3 hp O2 P5 Od) at_150 (pc' := 153) rfl (by decide) (by decide) (by decide) rfl rfl rfl (lenOf pd_5 rfl) (Nat.le_refl _) (by decide) (by decide) ?_
    intro v T L X q
    obtain ⟨tx, rfl, Nq, Kq, St_tx⟩ := q
    replace N := N.app Nq
    replace E_b17_3 := E_b17_3.keep Kq
    replace V_b17_3 := V_b17_3.keep Kq nin0
    replace Od := Od.keep Kq all0
    replace Z0 := Nat.le_trans Z0 Kq.1
    show Go p e below _ (T.setTop (mkF m 153 #[.val (.int i0), .val (.int i1), .val (.int v4_1), .val (.int (6 : Int32)), .val (.ref b17_3), .unset, .unset, .unset] [(.ref tx)]))
    refine g_astore X at_153 (pc' := 155) (Ls' := #[.val (.int i0), .val (.int i1), .val (.int v4_1), .val (.int (6 : Int32)), .val (.ref b17_3), .val (.ref tx), .unset, .unset]) rfl rfl rfl ?_
    refine g_iloadN X at_155 (pc' := 156) rfl rfl ?_
    refine g_bipush X (10 : Int32) at_156 (pc' := 158) rfl rfl ?_
    refine g_icY X at_158 (tlt (show (6 : Int32) < (10 : Int32) from (by decide))).1 (pc' := 166) (by decide) (by decide) ?_
    refine g_iloadN X at_166 (pc' := 167) rfl rfl ?_
    refine g_i2l X at_167 (pc' := 168) rfl ?_
    refine g_iloadN X at_168 (pc' := 169) rfl rfl ?_
    refine g_static X (W := 2) [(.int (6 : Int32))] [(.long (v4_1.toInt64))] (tb hw 47 rfl) (tb hw 48 rfl) (tb hw 4 rfl) (tb hw 49 rfl) (rPow l Z aa hw [] (6 : Int32) _) at_169 (pc' := 172) rfl (by decide) (by decide) (by decide) rfl rfl rfl (lenOf pd_6 rfl) (Nat.le_refl _) (by decide) (by decide) ?_
    intro v T L X q
    obtain ⟨rfl, X⟩ := pureX X q
    show Go p e below _ (T.setTop (mkF m 172 #[.val (.int i0), .val (.int i1), .val (.int v4_1), .val (.int (6 : Int32)), .val (.ref b17_3), .val (.ref tx), .unset, .unset] [(.long (fPow (6 : Int32))), (.long (v4_1.toInt64))]))
    refine g_lrem X at_172 (pc' := 173) rfl (by decide) ?_
    generalize ev173_19 : ((v4_1.toInt64) % (fPow (6 : Int32))) = v173_19
    refine g_lstore X at_173 (pc' := 175) (Ls' := #[.val (.int i0), .val (.int i1), .val (.int v4_1), .val (.int (6 : Int32)), .val (.ref b17_3), .val (.ref tx), .val (.long v173_19), .second]) rfl rfl ?_
    refine g_aload X at_175 (pc' := 177) rfl rfl rfl ?_
    refine g_virtualB X (W := 0) (a := tx) (C := "java/lang/String") [] [] St_tx.1 (tb hw 50 rfl) (tb hw 51 rfl) (tb hw 53 rfl) (tb hw 52 rfl) (Q := Pu (.int (Int32.ofNat (([(nar .char (nar .char v84_9)), (nar .char (nar .char v73_8)), (nar .char (nar .char v62_7)), (nar .char (nar .char v51_6)), (nar .char (nar .char v40_5)), (nar .char (nar .char v29_4))] : List Int32)).length)) _) (kc := 0) (ks := 0) (back_len (W := 0) X.2.2.2.2.2.1 hw St_tx (O2.ext Od.2) P5 (by decide) (by decide)) at_177 (pc' := 180) rfl (by decide) rfl rfl rfl (lenOf pd_2 rfl) (Nat.le_refl _) (by decide) (by decide) ?_
    intro v T L X q
    obtain ⟨rfl, X⟩ := pureX X q
    show Go p e below _ (T.setTop (mkF m 180 #[.val (.int i0), .val (.int i1), .val (.int v4_1), .val (.int (6 : Int32)), .val (.ref b17_3), .val (.ref tx), .val (.long v173_19), .second] [(.int (Int32.ofNat (([(nar .char (nar .char v84_9)), (nar .char (nar .char v73_8)), (nar .char (nar .char v62_7)), (nar .char (nar .char v51_6)), (nar .char (nar .char v40_5)), (nar .char (nar .char v29_4))] : List Int32)).length))]))
    refine g_iloadN X at_180 (pc' := 181) rfl rfl ?_
    refine g_icN X at_181 (teq (show (Int32.ofNat (([(nar .char (nar .char v84_9)), (nar .char (nar .char v73_8)), (nar .char (nar .char v62_7)), (nar .char (nar .char v51_6)), (nar .char (nar .char v40_5)), (nar .char (nar .char v29_4))] : List Int32)).length) = (6 : Int32) from rfl)).2 (pc' := 184) rfl ?_
    refine g_aload X at_184 (pc' := 186) rfl rfl rfl ?_
    refine g_static X (W := 0) [(.ref tx)] [] (tb hw 60 rfl) (tb hw 61 rfl) (tb hw 62 rfl) (tb hw 63 rfl) (rParse l Z aa hw [] tx ([(nar .char (nar .char v84_9)), (nar .char (nar .char v73_8)), (nar .char (nar .char v62_7)), (nar .char (nar .char v51_6)), (nar .char (nar .char v40_5)), (nar .char (nar .char v29_4))] : List Int32) rr G1 G3 _ n0 Z0 St_tx (Nat.zero_lt_succ _) (Nat.le_of_ble_eq_true rfl) hdig hmax hrr O2 P5 Od O4 rG3) at_186 (pc' := 189) rfl (by decide) (by decide) (by decide) rfl rfl rfl (lenOf pd_7 rfl) (Nat.le_refl _) (by decide) (by decide) ?_
    intro v T L X q
    obtain ⟨rfl, X⟩ := pureX X q
    show Go p e below _ (T.setTop (mkF m 189 #[.val (.int i0), .val (.int i1), .val (.int v4_1), .val (.int (6 : Int32)), .val (.ref b17_3), .val (.ref tx), .val (.long v173_19), .second] [(.int rr)]))
    refine g_i2l X at_189 (pc' := 190) rfl ?_
    refine g_lload X at_190 (pc' := 192) rfl rfl ?_
    refine g_lcmp X at_192 (pc' := 193) rfl ?_
    refine g_ifN X at_193 ((if0 _ _).trans (teq ((lw_eq (rr.toInt64) v173_19).mpr (show (rr.toInt64) = v173_19 from (by rw [← ev173_19]; apply Int64.toInt_inj.mp; rw [Int32.toInt_toInt64, hrr, hdec, Int64.toInt_mod, Int32.toInt_toInt64, show (fPow (6 : Int32)).toInt = 1000000 from rfl]; exact (Int.tmod_eq_emod_of_nonneg hn0).symm)))).2) (pc' := 196) rfl ?_
    refine g_iconst X (1 : Int32) at_196 (pc' := 197) rfl rfl ?_
    refine g_goto X at_197 (pc' := 201) (by decide) (by decide) ?_
    refine g_ireturnN X (t := .boolean) (by simp) at_201 hret hlk (by decide) (by decide) ?_
    exact ⟨rfl, N⟩
  · subst hs
    show Go p e below _ (T.setTop (mkF m 147 #[.val (.int i0), .val (.int i1), .val (.int v4_1), .val (.int (7 : Int32)), .val (.ref b17_3), .unset, .unset, .unset] []))
    have hdig : Digits ([(nar .char (nar .char v96_10)), (nar .char (nar .char v84_9)), (nar .char (nar .char v73_8)), (nar .char (nar .char v62_7)), (nar .char (nar .char v51_6)), (nar .char (nar .char v40_5)), (nar .char (nar .char v29_4))] : List Int32) := (all_cons (by rw [D6]; omega) (all_cons (by rw [D5]; omega) (all_cons (by rw [D4]; omega) (all_cons (by rw [D3]; omega) (all_cons (by rw [D2]; omega) (all_cons (by rw [D1]; omega) (all_cons (by rw [D0]; omega) all_nil)))))))
    have hp : ∀ c ∈ ([(nar .char (nar .char v96_10)), (nar .char (nar .char v84_9)), (nar .char (nar .char v73_8)), (nar .char (nar .char v62_7)), (nar .char (nar .char v51_6)), (nar .char (nar .char v40_5)), (nar .char (nar .char v29_4))] : List Int32), ¬ c < 0 ∧ ¬ (255 : Int32) < c := fun c hc => chr_ok (hdig c hc)
    have hdec : dec ([(nar .char (nar .char v96_10)), (nar .char (nar .char v84_9)), (nar .char (nar .char v73_8)), (nar .char (nar .char v62_7)), (nar .char (nar .char v51_6)), (nar .char (nar .char v40_5)), (nar .char (nar .char v29_4))] : List Int32) = v4_1.toInt % 10000000 := by
      show (((((((0 * 10 + ((nar .char (nar .char v96_10)).toInt - 48)) * 10 + ((nar .char (nar .char v84_9)).toInt - 48)) * 10 + ((nar .char (nar .char v73_8)).toInt - 48)) * 10 + ((nar .char (nar .char v62_7)).toInt - 48)) * 10 + ((nar .char (nar .char v51_6)).toInt - 48)) * 10 + ((nar .char (nar .char v40_5)).toInt - 48)) * 10 + ((nar .char (nar .char v29_4)).toInt - 48)) = _
      rw [D6, D5, D4, D3, D2, D1, D0]; omega
    have hmax : dec ([(nar .char (nar .char v96_10)), (nar .char (nar .char v84_9)), (nar .char (nar .char v73_8)), (nar .char (nar .char v62_7)), (nar .char (nar .char v51_6)), (nar .char (nar .char v40_5)), (nar .char (nar .char v29_4))] : List Int32) ≤ 2147483647 := by rw [hdec]; omega
    obtain ⟨rr, hr0⟩ : ∃ r : Int32, r = Int32.ofInt (v4_1.toInt % 10000000) := ⟨_, rfl⟩
    have hrr : rr.toInt = dec ([(nar .char (nar .char v96_10)), (nar .char (nar .char v84_9)), (nar .char (nar .char v73_8)), (nar .char (nar .char v62_7)), (nar .char (nar .char v51_6)), (nar .char (nar .char v40_5)), (nar .char (nar .char v29_4))] : List Int32) := by rw [hr0, hdec]; exact ofI (by omega) (by omega)
    refine g_aload X at_147 (pc' := 149) rfl rfl rfl ?_
    refine g_iloadN X at_149 (pc' := 150) rfl rfl ?_
    refine g_static X (W := 0) [(.ref b17_3), (.int (7 : Int32))] [] (tb hw 15 rfl) (tb hw 16 rfl) (tb hw 4 rfl) (tb hw 17 rfl) (rStr7 l Z aa hw [] b17_3 (nar .char v29_4) (nar .char v40_5) (nar .char v51_6) (nar .char v62_7) (nar .char v73_8) (nar .char v84_9) (nar .char v96_10) (nar .char v108_11) (nar .char v120_12) (nar .char v132_13) (nar .char (48 : Int32)) (nar .char (48 : Int32)) G1 _ n0 Z0 V_b17_3 hp O2 P5 Od) at_150 (pc' := 153) rfl (by decide) (by decide) (by decide) rfl rfl rfl (lenOf pd_5 rfl) (Nat.le_refl _) (by decide) (by decide) ?_
    intro v T L X q
    obtain ⟨tx, rfl, Nq, Kq, St_tx⟩ := q
    replace N := N.app Nq
    replace E_b17_3 := E_b17_3.keep Kq
    replace V_b17_3 := V_b17_3.keep Kq nin0
    replace Od := Od.keep Kq all0
    replace Z0 := Nat.le_trans Z0 Kq.1
    show Go p e below _ (T.setTop (mkF m 153 #[.val (.int i0), .val (.int i1), .val (.int v4_1), .val (.int (7 : Int32)), .val (.ref b17_3), .unset, .unset, .unset] [(.ref tx)]))
    refine g_astore X at_153 (pc' := 155) (Ls' := #[.val (.int i0), .val (.int i1), .val (.int v4_1), .val (.int (7 : Int32)), .val (.ref b17_3), .val (.ref tx), .unset, .unset]) rfl rfl rfl ?_
    refine g_iloadN X at_155 (pc' := 156) rfl rfl ?_
    refine g_bipush X (10 : Int32) at_156 (pc' := 158) rfl rfl ?_
    refine g_icY X at_158 (tlt (show (7 : Int32) < (10 : Int32) from (by decide))).1 (pc' := 166) (by decide) (by decide) ?_
    refine g_iloadN X at_166 (pc' := 167) rfl rfl ?_
    refine g_i2l X at_167 (pc' := 168) rfl ?_
    refine g_iloadN X at_168 (pc' := 169) rfl rfl ?_
    refine g_static X (W := 2) [(.int (7 : Int32))] [(.long (v4_1.toInt64))] (tb hw 47 rfl) (tb hw 48 rfl) (tb hw 4 rfl) (tb hw 49 rfl) (rPow l Z aa hw [] (7 : Int32) _) at_169 (pc' := 172) rfl (by decide) (by decide) (by decide) rfl rfl rfl (lenOf pd_6 rfl) (Nat.le_refl _) (by decide) (by decide) ?_
    intro v T L X q
    obtain ⟨rfl, X⟩ := pureX X q
    show Go p e below _ (T.setTop (mkF m 172 #[.val (.int i0), .val (.int i1), .val (.int v4_1), .val (.int (7 : Int32)), .val (.ref b17_3), .val (.ref tx), .unset, .unset] [(.long (fPow (7 : Int32))), (.long (v4_1.toInt64))]))
    refine g_lrem X at_172 (pc' := 173) rfl (by decide) ?_
    generalize ev173_20 : ((v4_1.toInt64) % (fPow (7 : Int32))) = v173_20
    refine g_lstore X at_173 (pc' := 175) (Ls' := #[.val (.int i0), .val (.int i1), .val (.int v4_1), .val (.int (7 : Int32)), .val (.ref b17_3), .val (.ref tx), .val (.long v173_20), .second]) rfl rfl ?_
    refine g_aload X at_175 (pc' := 177) rfl rfl rfl ?_
    refine g_virtualB X (W := 0) (a := tx) (C := "java/lang/String") [] [] St_tx.1 (tb hw 50 rfl) (tb hw 51 rfl) (tb hw 53 rfl) (tb hw 52 rfl) (Q := Pu (.int (Int32.ofNat (([(nar .char (nar .char v96_10)), (nar .char (nar .char v84_9)), (nar .char (nar .char v73_8)), (nar .char (nar .char v62_7)), (nar .char (nar .char v51_6)), (nar .char (nar .char v40_5)), (nar .char (nar .char v29_4))] : List Int32)).length)) _) (kc := 0) (ks := 0) (back_len (W := 0) X.2.2.2.2.2.1 hw St_tx (O2.ext Od.2) P5 (by decide) (by decide)) at_177 (pc' := 180) rfl (by decide) rfl rfl rfl (lenOf pd_2 rfl) (Nat.le_refl _) (by decide) (by decide) ?_
    intro v T L X q
    obtain ⟨rfl, X⟩ := pureX X q
    show Go p e below _ (T.setTop (mkF m 180 #[.val (.int i0), .val (.int i1), .val (.int v4_1), .val (.int (7 : Int32)), .val (.ref b17_3), .val (.ref tx), .val (.long v173_20), .second] [(.int (Int32.ofNat (([(nar .char (nar .char v96_10)), (nar .char (nar .char v84_9)), (nar .char (nar .char v73_8)), (nar .char (nar .char v62_7)), (nar .char (nar .char v51_6)), (nar .char (nar .char v40_5)), (nar .char (nar .char v29_4))] : List Int32)).length))]))
    refine g_iloadN X at_180 (pc' := 181) rfl rfl ?_
    refine g_icN X at_181 (teq (show (Int32.ofNat (([(nar .char (nar .char v96_10)), (nar .char (nar .char v84_9)), (nar .char (nar .char v73_8)), (nar .char (nar .char v62_7)), (nar .char (nar .char v51_6)), (nar .char (nar .char v40_5)), (nar .char (nar .char v29_4))] : List Int32)).length) = (7 : Int32) from rfl)).2 (pc' := 184) rfl ?_
    refine g_aload X at_184 (pc' := 186) rfl rfl rfl ?_
    refine g_static X (W := 0) [(.ref tx)] [] (tb hw 60 rfl) (tb hw 61 rfl) (tb hw 62 rfl) (tb hw 63 rfl) (rParse l Z aa hw [] tx ([(nar .char (nar .char v96_10)), (nar .char (nar .char v84_9)), (nar .char (nar .char v73_8)), (nar .char (nar .char v62_7)), (nar .char (nar .char v51_6)), (nar .char (nar .char v40_5)), (nar .char (nar .char v29_4))] : List Int32) rr G1 G3 _ n0 Z0 St_tx (Nat.zero_lt_succ _) (Nat.le_of_ble_eq_true rfl) hdig hmax hrr O2 P5 Od O4 rG3) at_186 (pc' := 189) rfl (by decide) (by decide) (by decide) rfl rfl rfl (lenOf pd_7 rfl) (Nat.le_refl _) (by decide) (by decide) ?_
    intro v T L X q
    obtain ⟨rfl, X⟩ := pureX X q
    show Go p e below _ (T.setTop (mkF m 189 #[.val (.int i0), .val (.int i1), .val (.int v4_1), .val (.int (7 : Int32)), .val (.ref b17_3), .val (.ref tx), .val (.long v173_20), .second] [(.int rr)]))
    refine g_i2l X at_189 (pc' := 190) rfl ?_
    refine g_lload X at_190 (pc' := 192) rfl rfl ?_
    refine g_lcmp X at_192 (pc' := 193) rfl ?_
    refine g_ifN X at_193 ((if0 _ _).trans (teq ((lw_eq (rr.toInt64) v173_20).mpr (show (rr.toInt64) = v173_20 from (by rw [← ev173_20]; apply Int64.toInt_inj.mp; rw [Int32.toInt_toInt64, hrr, hdec, Int64.toInt_mod, Int32.toInt_toInt64, show (fPow (7 : Int32)).toInt = 10000000 from rfl]; exact (Int.tmod_eq_emod_of_nonneg hn0).symm)))).2) (pc' := 196) rfl ?_
    refine g_iconst X (1 : Int32) at_196 (pc' := 197) rfl rfl ?_
    refine g_goto X at_197 (pc' := 201) (by decide) (by decide) ?_
    refine g_ireturnN X (t := .boolean) (by simp) at_201 hret hlk (by decide) (by decide) ?_
    exact ⟨rfl, N⟩
  · subst hs
    show Go p e below _ (T.setTop (mkF m 147 #[.val (.int i0), .val (.int i1), .val (.int v4_1), .val (.int (8 : Int32)), .val (.ref b17_3), .unset, .unset, .unset] []))
    have hdig : Digits ([(nar .char (nar .char v108_11)), (nar .char (nar .char v96_10)), (nar .char (nar .char v84_9)), (nar .char (nar .char v73_8)), (nar .char (nar .char v62_7)), (nar .char (nar .char v51_6)), (nar .char (nar .char v40_5)), (nar .char (nar .char v29_4))] : List Int32) := (all_cons (by rw [D7]; omega) (all_cons (by rw [D6]; omega) (all_cons (by rw [D5]; omega) (all_cons (by rw [D4]; omega) (all_cons (by rw [D3]; omega) (all_cons (by rw [D2]; omega) (all_cons (by rw [D1]; omega) (all_cons (by rw [D0]; omega) all_nil))))))))
    have hp : ∀ c ∈ ([(nar .char (nar .char v108_11)), (nar .char (nar .char v96_10)), (nar .char (nar .char v84_9)), (nar .char (nar .char v73_8)), (nar .char (nar .char v62_7)), (nar .char (nar .char v51_6)), (nar .char (nar .char v40_5)), (nar .char (nar .char v29_4))] : List Int32), ¬ c < 0 ∧ ¬ (255 : Int32) < c := fun c hc => chr_ok (hdig c hc)
    have hdec : dec ([(nar .char (nar .char v108_11)), (nar .char (nar .char v96_10)), (nar .char (nar .char v84_9)), (nar .char (nar .char v73_8)), (nar .char (nar .char v62_7)), (nar .char (nar .char v51_6)), (nar .char (nar .char v40_5)), (nar .char (nar .char v29_4))] : List Int32) = v4_1.toInt % 100000000 := by
      show ((((((((0 * 10 + ((nar .char (nar .char v108_11)).toInt - 48)) * 10 + ((nar .char (nar .char v96_10)).toInt - 48)) * 10 + ((nar .char (nar .char v84_9)).toInt - 48)) * 10 + ((nar .char (nar .char v73_8)).toInt - 48)) * 10 + ((nar .char (nar .char v62_7)).toInt - 48)) * 10 + ((nar .char (nar .char v51_6)).toInt - 48)) * 10 + ((nar .char (nar .char v40_5)).toInt - 48)) * 10 + ((nar .char (nar .char v29_4)).toInt - 48)) = _
      rw [D7, D6, D5, D4, D3, D2, D1, D0]; omega
    have hmax : dec ([(nar .char (nar .char v108_11)), (nar .char (nar .char v96_10)), (nar .char (nar .char v84_9)), (nar .char (nar .char v73_8)), (nar .char (nar .char v62_7)), (nar .char (nar .char v51_6)), (nar .char (nar .char v40_5)), (nar .char (nar .char v29_4))] : List Int32) ≤ 2147483647 := by rw [hdec]; omega
    obtain ⟨rr, hr0⟩ : ∃ r : Int32, r = Int32.ofInt (v4_1.toInt % 100000000) := ⟨_, rfl⟩
    have hrr : rr.toInt = dec ([(nar .char (nar .char v108_11)), (nar .char (nar .char v96_10)), (nar .char (nar .char v84_9)), (nar .char (nar .char v73_8)), (nar .char (nar .char v62_7)), (nar .char (nar .char v51_6)), (nar .char (nar .char v40_5)), (nar .char (nar .char v29_4))] : List Int32) := by rw [hr0, hdec]; exact ofI (by omega) (by omega)
    refine g_aload X at_147 (pc' := 149) rfl rfl rfl ?_
    refine g_iloadN X at_149 (pc' := 150) rfl rfl ?_
    refine g_static X (W := 0) [(.ref b17_3), (.int (8 : Int32))] [] (tb hw 15 rfl) (tb hw 16 rfl) (tb hw 4 rfl) (tb hw 17 rfl) (rStr8 l Z aa hw [] b17_3 (nar .char v29_4) (nar .char v40_5) (nar .char v51_6) (nar .char v62_7) (nar .char v73_8) (nar .char v84_9) (nar .char v96_10) (nar .char v108_11) (nar .char v120_12) (nar .char v132_13) (nar .char (48 : Int32)) (nar .char (48 : Int32)) G1 _ n0 Z0 V_b17_3 hp O2 P5 Od) at_150 (pc' := 153) rfl (by decide) (by decide) (by decide) rfl rfl rfl (lenOf pd_5 rfl) (Nat.le_refl _) (by decide) (by decide) ?_
    intro v T L X q
    obtain ⟨tx, rfl, Nq, Kq, St_tx⟩ := q
    replace N := N.app Nq
    replace E_b17_3 := E_b17_3.keep Kq
    replace V_b17_3 := V_b17_3.keep Kq nin0
    replace Od := Od.keep Kq all0
    replace Z0 := Nat.le_trans Z0 Kq.1
    show Go p e below _ (T.setTop (mkF m 153 #[.val (.int i0), .val (.int i1), .val (.int v4_1), .val (.int (8 : Int32)), .val (.ref b17_3), .unset, .unset, .unset] [(.ref tx)]))
    refine g_astore X at_153 (pc' := 155) (Ls' := #[.val (.int i0), .val (.int i1), .val (.int v4_1), .val (.int (8 : Int32)), .val (.ref b17_3), .val (.ref tx), .unset, .unset]) rfl rfl rfl ?_
    refine g_iloadN X at_155 (pc' := 156) rfl rfl ?_
    refine g_bipush X (10 : Int32) at_156 (pc' := 158) rfl rfl ?_
    refine g_icY X at_158 (tlt (show (8 : Int32) < (10 : Int32) from (by decide))).1 (pc' := 166) (by decide) (by decide) ?_
    refine g_iloadN X at_166 (pc' := 167) rfl rfl ?_
    refine g_i2l X at_167 (pc' := 168) rfl ?_
    refine g_iloadN X at_168 (pc' := 169) rfl rfl ?_
    refine g_static X (W := 2) [(.int (8 : Int32))] [(.long (v4_1.toInt64))] (tb hw 47 rfl) (tb hw 48 rfl) (tb hw 4 rfl) (tb hw 49 rfl) (rPow l Z aa hw [] (8 : Int32) _) at_169 (pc' := 172) rfl (by decide) (by decide) (by decide) rfl rfl rfl (lenOf pd_6 rfl) (Nat.le_refl _) (by decide) (by decide) ?_
    intro v T L X q
    obtain ⟨rfl, X⟩ := pureX X q
    show Go p e below _ (T.setTop (mkF m 172 #[.val (.int i0), .val (.int i1), .val (.int v4_1), .val (.int (8 : Int32)), .val (.ref b17_3), .val (.ref tx), .unset, .unset] [(.long (fPow (8 : Int32))), (.long (v4_1.toInt64))]))
    refine g_lrem X at_172 (pc' := 173) rfl (by decide) ?_
    generalize ev173_21 : ((v4_1.toInt64) % (fPow (8 : Int32))) = v173_21
    refine g_lstore X at_173 (pc' := 175) (Ls' := #[.val (.int i0), .val (.int i1), .val (.int v4_1), .val (.int (8 : Int32)), .val (.ref b17_3), .val (.ref tx), .val (.long v173_21), .second]) rfl rfl ?_
    refine g_aload X at_175 (pc' := 177) rfl rfl rfl ?_
    refine g_virtualB X (W := 0) (a := tx) (C := "java/lang/String") [] [] St_tx.1 (tb hw 50 rfl) (tb hw 51 rfl) (tb hw 53 rfl) (tb hw 52 rfl) (Q := Pu (.int (Int32.ofNat (([(nar .char (nar .char v108_11)), (nar .char (nar .char v96_10)), (nar .char (nar .char v84_9)), (nar .char (nar .char v73_8)), (nar .char (nar .char v62_7)), (nar .char (nar .char v51_6)), (nar .char (nar .char v40_5)), (nar .char (nar .char v29_4))] : List Int32)).length)) _) (kc := 0) (ks := 0) (back_len (W := 0) X.2.2.2.2.2.1 hw St_tx (O2.ext Od.2) P5 (by decide) (by decide)) at_177 (pc' := 180) rfl (by decide) rfl rfl rfl (lenOf pd_2 rfl) (Nat.le_refl _) (by decide) (by decide) ?_
    intro v T L X q
    obtain ⟨rfl, X⟩ := pureX X q
    show Go p e below _ (T.setTop (mkF m 180 #[.val (.int i0), .val (.int i1), .val (.int v4_1), .val (.int (8 : Int32)), .val (.ref b17_3), .val (.ref tx), .val (.long v173_21), .second] [(.int (Int32.ofNat (([(nar .char (nar .char v108_11)), (nar .char (nar .char v96_10)), (nar .char (nar .char v84_9)), (nar .char (nar .char v73_8)), (nar .char (nar .char v62_7)), (nar .char (nar .char v51_6)), (nar .char (nar .char v40_5)), (nar .char (nar .char v29_4))] : List Int32)).length))]))
    refine g_iloadN X at_180 (pc' := 181) rfl rfl ?_
    refine g_icN X at_181 (teq (show (Int32.ofNat (([(nar .char (nar .char v108_11)), (nar .char (nar .char v96_10)), (nar .char (nar .char v84_9)), (nar .char (nar .char v73_8)), (nar .char (nar .char v62_7)), (nar .char (nar .char v51_6)), (nar .char (nar .char v40_5)), (nar .char (nar .char v29_4))] : List Int32)).length) = (8 : Int32) from rfl)).2 (pc' := 184) rfl ?_
    refine g_aload X at_184 (pc' := 186) rfl rfl rfl ?_
    refine g_static X (W := 0) [(.ref tx)] [] (tb hw 60 rfl) (tb hw 61 rfl) (tb hw 62 rfl) (tb hw 63 rfl) (rParse l Z aa hw [] tx ([(nar .char (nar .char v108_11)), (nar .char (nar .char v96_10)), (nar .char (nar .char v84_9)), (nar .char (nar .char v73_8)), (nar .char (nar .char v62_7)), (nar .char (nar .char v51_6)), (nar .char (nar .char v40_5)), (nar .char (nar .char v29_4))] : List Int32) rr G1 G3 _ n0 Z0 St_tx (Nat.zero_lt_succ _) (Nat.le_of_ble_eq_true rfl) hdig hmax hrr O2 P5 Od O4 rG3) at_186 (pc' := 189) rfl (by decide) (by decide) (by decide) rfl rfl rfl (lenOf pd_7 rfl) (Nat.le_refl _) (by decide) (by decide) ?_
    intro v T L X q
    obtain ⟨rfl, X⟩ := pureX X q
    show Go p e below _ (T.setTop (mkF m 189 #[.val (.int i0), .val (.int i1), .val (.int v4_1), .val (.int (8 : Int32)), .val (.ref b17_3), .val (.ref tx), .val (.long v173_21), .second] [(.int rr)]))
    refine g_i2l X at_189 (pc' := 190) rfl ?_
    refine g_lload X at_190 (pc' := 192) rfl rfl ?_
    refine g_lcmp X at_192 (pc' := 193) rfl ?_
    refine g_ifN X at_193 ((if0 _ _).trans (teq ((lw_eq (rr.toInt64) v173_21).mpr (show (rr.toInt64) = v173_21 from (by rw [← ev173_21]; apply Int64.toInt_inj.mp; rw [Int32.toInt_toInt64, hrr, hdec, Int64.toInt_mod, Int32.toInt_toInt64, show (fPow (8 : Int32)).toInt = 100000000 from rfl]; exact (Int.tmod_eq_emod_of_nonneg hn0).symm)))).2) (pc' := 196) rfl ?_
    refine g_iconst X (1 : Int32) at_196 (pc' := 197) rfl rfl ?_
    refine g_goto X at_197 (pc' := 201) (by decide) (by decide) ?_
    refine g_ireturnN X (t := .boolean) (by simp) at_201 hret hlk (by decide) (by decide) ?_
    exact ⟨rfl, N⟩
  · subst hs
    show Go p e below _ (T.setTop (mkF m 147 #[.val (.int i0), .val (.int i1), .val (.int v4_1), .val (.int (9 : Int32)), .val (.ref b17_3), .unset, .unset, .unset] []))
    have hdig : Digits ([(nar .char (nar .char v120_12)), (nar .char (nar .char v108_11)), (nar .char (nar .char v96_10)), (nar .char (nar .char v84_9)), (nar .char (nar .char v73_8)), (nar .char (nar .char v62_7)), (nar .char (nar .char v51_6)), (nar .char (nar .char v40_5)), (nar .char (nar .char v29_4))] : List Int32) := (all_cons (by rw [D8]; omega) (all_cons (by rw [D7]; omega) (all_cons (by rw [D6]; omega) (all_cons (by rw [D5]; omega) (all_cons (by rw [D4]; omega) (all_cons (by rw [D3]; omega) (all_cons (by rw [D2]; omega) (all_cons (by rw [D1]; omega) (all_cons (by rw [D0]; omega) all_nil)))))))))
    have hp : ∀ c ∈ ([(nar .char (nar .char v120_12)), (nar .char (nar .char v108_11)), (nar .char (nar .char v96_10)), (nar .char (nar .char v84_9)), (nar .char (nar .char v73_8)), (nar .char (nar .char v62_7)), (nar .char (nar .char v51_6)), (nar .char (nar .char v40_5)), (nar .char (nar .char v29_4))] : List Int32), ¬ c < 0 ∧ ¬ (255 : Int32) < c := fun c hc => chr_ok (hdig c hc)
    have hdec : dec ([(nar .char (nar .char v120_12)), (nar .char (nar .char v108_11)), (nar .char (nar .char v96_10)), (nar .char (nar .char v84_9)), (nar .char (nar .char v73_8)), (nar .char (nar .char v62_7)), (nar .char (nar .char v51_6)), (nar .char (nar .char v40_5)), (nar .char (nar .char v29_4))] : List Int32) = v4_1.toInt % 1000000000 := by
      show (((((((((0 * 10 + ((nar .char (nar .char v120_12)).toInt - 48)) * 10 + ((nar .char (nar .char v108_11)).toInt - 48)) * 10 + ((nar .char (nar .char v96_10)).toInt - 48)) * 10 + ((nar .char (nar .char v84_9)).toInt - 48)) * 10 + ((nar .char (nar .char v73_8)).toInt - 48)) * 10 + ((nar .char (nar .char v62_7)).toInt - 48)) * 10 + ((nar .char (nar .char v51_6)).toInt - 48)) * 10 + ((nar .char (nar .char v40_5)).toInt - 48)) * 10 + ((nar .char (nar .char v29_4)).toInt - 48)) = _
      rw [D8, D7, D6, D5, D4, D3, D2, D1, D0]; omega
    have hmax : dec ([(nar .char (nar .char v120_12)), (nar .char (nar .char v108_11)), (nar .char (nar .char v96_10)), (nar .char (nar .char v84_9)), (nar .char (nar .char v73_8)), (nar .char (nar .char v62_7)), (nar .char (nar .char v51_6)), (nar .char (nar .char v40_5)), (nar .char (nar .char v29_4))] : List Int32) ≤ 2147483647 := by rw [hdec]; omega
    obtain ⟨rr, hr0⟩ : ∃ r : Int32, r = Int32.ofInt (v4_1.toInt % 1000000000) := ⟨_, rfl⟩
    have hrr : rr.toInt = dec ([(nar .char (nar .char v120_12)), (nar .char (nar .char v108_11)), (nar .char (nar .char v96_10)), (nar .char (nar .char v84_9)), (nar .char (nar .char v73_8)), (nar .char (nar .char v62_7)), (nar .char (nar .char v51_6)), (nar .char (nar .char v40_5)), (nar .char (nar .char v29_4))] : List Int32) := by rw [hr0, hdec]; exact ofI (by omega) (by omega)
    refine g_aload X at_147 (pc' := 149) rfl rfl rfl ?_
    refine g_iloadN X at_149 (pc' := 150) rfl rfl ?_
    refine g_static X (W := 0) [(.ref b17_3), (.int (9 : Int32))] [] (tb hw 15 rfl) (tb hw 16 rfl) (tb hw 4 rfl) (tb hw 17 rfl) (rStr9 l Z aa hw [] b17_3 (nar .char v29_4) (nar .char v40_5) (nar .char v51_6) (nar .char v62_7) (nar .char v73_8) (nar .char v84_9) (nar .char v96_10) (nar .char v108_11) (nar .char v120_12) (nar .char v132_13) (nar .char (48 : Int32)) (nar .char (48 : Int32)) G1 _ n0 Z0 V_b17_3 hp O2 P5 Od) at_150 (pc' := 153) rfl (by decide) (by decide) (by decide) rfl rfl rfl (lenOf pd_5 rfl) (Nat.le_refl _) (by decide) (by decide) ?_
    intro v T L X q
    obtain ⟨tx, rfl, Nq, Kq, St_tx⟩ := q
    replace N := N.app Nq
    replace E_b17_3 := E_b17_3.keep Kq
    replace V_b17_3 := V_b17_3.keep Kq nin0
    replace Od := Od.keep Kq all0
    replace Z0 := Nat.le_trans Z0 Kq.1
    show Go p e below _ (T.setTop (mkF m 153 #[.val (.int i0), .val (.int i1), .val (.int v4_1), .val (.int (9 : Int32)), .val (.ref b17_3), .unset, .unset, .unset] [(.ref tx)]))
    refine g_astore X at_153 (pc' := 155) (Ls' := #[.val (.int i0), .val (.int i1), .val (.int v4_1), .val (.int (9 : Int32)), .val (.ref b17_3), .val (.ref tx), .unset, .unset]) rfl rfl rfl ?_
    refine g_iloadN X at_155 (pc' := 156) rfl rfl ?_
    refine g_bipush X (10 : Int32) at_156 (pc' := 158) rfl rfl ?_
    refine g_icY X at_158 (tlt (show (9 : Int32) < (10 : Int32) from (by decide))).1 (pc' := 166) (by decide) (by decide) ?_
    refine g_iloadN X at_166 (pc' := 167) rfl rfl ?_
    refine g_i2l X at_167 (pc' := 168) rfl ?_
    refine g_iloadN X at_168 (pc' := 169) rfl rfl ?_
    refine g_static X (W := 2) [(.int (9 : Int32))] [(.long (v4_1.toInt64))] (tb hw 47 rfl) (tb hw 48 rfl) (tb hw 4 rfl) (tb hw 49 rfl) (rPow l Z aa hw [] (9 : Int32) _) at_169 (pc' := 172) rfl (by decide) (by decide) (by decide) rfl rfl rfl (lenOf pd_6 rfl) (Nat.le_refl _) (by decide) (by decide) ?_
    intro v T L X q
    obtain ⟨rfl, X⟩ := pureX X q
    show Go p e below _ (T.setTop (mkF m 172 #[.val (.int i0), .val (.int i1), .val (.int v4_1), .val (.int (9 : Int32)), .val (.ref b17_3), .val (.ref tx), .unset, .unset] [(.long (fPow (9 : Int32))), (.long (v4_1.toInt64))]))
    refine g_lrem X at_172 (pc' := 173) rfl (by decide) ?_
    generalize ev173_22 : ((v4_1.toInt64) % (fPow (9 : Int32))) = v173_22
    refine g_lstore X at_173 (pc' := 175) (Ls' := #[.val (.int i0), .val (.int i1), .val (.int v4_1), .val (.int (9 : Int32)), .val (.ref b17_3), .val (.ref tx), .val (.long v173_22), .second]) rfl rfl ?_
    refine g_aload X at_175 (pc' := 177) rfl rfl rfl ?_
    refine g_virtualB X (W := 0) (a := tx) (C := "java/lang/String") [] [] St_tx.1 (tb hw 50 rfl) (tb hw 51 rfl) (tb hw 53 rfl) (tb hw 52 rfl) (Q := Pu (.int (Int32.ofNat (([(nar .char (nar .char v120_12)), (nar .char (nar .char v108_11)), (nar .char (nar .char v96_10)), (nar .char (nar .char v84_9)), (nar .char (nar .char v73_8)), (nar .char (nar .char v62_7)), (nar .char (nar .char v51_6)), (nar .char (nar .char v40_5)), (nar .char (nar .char v29_4))] : List Int32)).length)) _) (kc := 0) (ks := 0) (back_len (W := 0) X.2.2.2.2.2.1 hw St_tx (O2.ext Od.2) P5 (by decide) (by decide)) at_177 (pc' := 180) rfl (by decide) rfl rfl rfl (lenOf pd_2 rfl) (Nat.le_refl _) (by decide) (by decide) ?_
    intro v T L X q
    obtain ⟨rfl, X⟩ := pureX X q
    show Go p e below _ (T.setTop (mkF m 180 #[.val (.int i0), .val (.int i1), .val (.int v4_1), .val (.int (9 : Int32)), .val (.ref b17_3), .val (.ref tx), .val (.long v173_22), .second] [(.int (Int32.ofNat (([(nar .char (nar .char v120_12)), (nar .char (nar .char v108_11)), (nar .char (nar .char v96_10)), (nar .char (nar .char v84_9)), (nar .char (nar .char v73_8)), (nar .char (nar .char v62_7)), (nar .char (nar .char v51_6)), (nar .char (nar .char v40_5)), (nar .char (nar .char v29_4))] : List Int32)).length))]))
    refine g_iloadN X at_180 (pc' := 181) rfl rfl ?_
    refine g_icN X at_181 (teq (show (Int32.ofNat (([(nar .char (nar .char v120_12)), (nar .char (nar .char v108_11)), (nar .char (nar .char v96_10)), (nar .char (nar .char v84_9)), (nar .char (nar .char v73_8)), (nar .char (nar .char v62_7)), (nar .char (nar .char v51_6)), (nar .char (nar .char v40_5)), (nar .char (nar .char v29_4))] : List Int32)).length) = (9 : Int32) from rfl)).2 (pc' := 184) rfl ?_
    refine g_aload X at_184 (pc' := 186) rfl rfl rfl ?_
    refine g_static X (W := 0) [(.ref tx)] [] (tb hw 60 rfl) (tb hw 61 rfl) (tb hw 62 rfl) (tb hw 63 rfl) (rParse l Z aa hw [] tx ([(nar .char (nar .char v120_12)), (nar .char (nar .char v108_11)), (nar .char (nar .char v96_10)), (nar .char (nar .char v84_9)), (nar .char (nar .char v73_8)), (nar .char (nar .char v62_7)), (nar .char (nar .char v51_6)), (nar .char (nar .char v40_5)), (nar .char (nar .char v29_4))] : List Int32) rr G1 G3 _ n0 Z0 St_tx (Nat.zero_lt_succ _) (Nat.le_of_ble_eq_true rfl) hdig hmax hrr O2 P5 Od O4 rG3) at_186 (pc' := 189) rfl (by decide) (by decide) (by decide) rfl rfl rfl (lenOf pd_7 rfl) (Nat.le_refl _) (by decide) (by decide) ?_
    intro v T L X q
    obtain ⟨rfl, X⟩ := pureX X q
    show Go p e below _ (T.setTop (mkF m 189 #[.val (.int i0), .val (.int i1), .val (.int v4_1), .val (.int (9 : Int32)), .val (.ref b17_3), .val (.ref tx), .val (.long v173_22), .second] [(.int rr)]))
    refine g_i2l X at_189 (pc' := 190) rfl ?_
    refine g_lload X at_190 (pc' := 192) rfl rfl ?_
    refine g_lcmp X at_192 (pc' := 193) rfl ?_
    refine g_ifN X at_193 ((if0 _ _).trans (teq ((lw_eq (rr.toInt64) v173_22).mpr (show (rr.toInt64) = v173_22 from (by rw [← ev173_22]; apply Int64.toInt_inj.mp; rw [Int32.toInt_toInt64, hrr, hdec, Int64.toInt_mod, Int32.toInt_toInt64, show (fPow (9 : Int32)).toInt = 1000000000 from rfl]; exact (Int.tmod_eq_emod_of_nonneg hn0).symm)))).2) (pc' := 196) rfl ?_
    refine g_iconst X (1 : Int32) at_196 (pc' := 197) rfl rfl ?_
    refine g_goto X at_197 (pc' := 201) (by decide) (by decide) ?_
    refine g_ireturnN X (t := .boolean) (by simp) at_201 hret hlk (by decide) (by decide) ?_
    exact ⟨rfl, N⟩
  · subst hs
    show Go p e below _ (T.setTop (mkF m 147 #[.val (.int i0), .val (.int i1), .val (.int v4_1), .val (.int (10 : Int32)), .val (.ref b17_3), .unset, .unset, .unset] []))
    have hdig : Digits ([(nar .char (nar .char v132_13)), (nar .char (nar .char v120_12)), (nar .char (nar .char v108_11)), (nar .char (nar .char v96_10)), (nar .char (nar .char v84_9)), (nar .char (nar .char v73_8)), (nar .char (nar .char v62_7)), (nar .char (nar .char v51_6)), (nar .char (nar .char v40_5)), (nar .char (nar .char v29_4))] : List Int32) := (all_cons (by rw [D9]; omega) (all_cons (by rw [D8]; omega) (all_cons (by rw [D7]; omega) (all_cons (by rw [D6]; omega) (all_cons (by rw [D5]; omega) (all_cons (by rw [D4]; omega) (all_cons (by rw [D3]; omega) (all_cons (by rw [D2]; omega) (all_cons (by rw [D1]; omega) (all_cons (by rw [D0]; omega) all_nil))))))))))
    have hp : ∀ c ∈ ([(nar .char (nar .char v132_13)), (nar .char (nar .char v120_12)), (nar .char (nar .char v108_11)), (nar .char (nar .char v96_10)), (nar .char (nar .char v84_9)), (nar .char (nar .char v73_8)), (nar .char (nar .char v62_7)), (nar .char (nar .char v51_6)), (nar .char (nar .char v40_5)), (nar .char (nar .char v29_4))] : List Int32), ¬ c < 0 ∧ ¬ (255 : Int32) < c := fun c hc => chr_ok (hdig c hc)
    have hdec : dec ([(nar .char (nar .char v132_13)), (nar .char (nar .char v120_12)), (nar .char (nar .char v108_11)), (nar .char (nar .char v96_10)), (nar .char (nar .char v84_9)), (nar .char (nar .char v73_8)), (nar .char (nar .char v62_7)), (nar .char (nar .char v51_6)), (nar .char (nar .char v40_5)), (nar .char (nar .char v29_4))] : List Int32) = v4_1.toInt := by
      show ((((((((((0 * 10 + ((nar .char (nar .char v132_13)).toInt - 48)) * 10 + ((nar .char (nar .char v120_12)).toInt - 48)) * 10 + ((nar .char (nar .char v108_11)).toInt - 48)) * 10 + ((nar .char (nar .char v96_10)).toInt - 48)) * 10 + ((nar .char (nar .char v84_9)).toInt - 48)) * 10 + ((nar .char (nar .char v73_8)).toInt - 48)) * 10 + ((nar .char (nar .char v62_7)).toInt - 48)) * 10 + ((nar .char (nar .char v51_6)).toInt - 48)) * 10 + ((nar .char (nar .char v40_5)).toInt - 48)) * 10 + ((nar .char (nar .char v29_4)).toInt - 48)) = _
      rw [D9, D8, D7, D6, D5, D4, D3, D2, D1, D0]; omega
    have hmax : dec ([(nar .char (nar .char v132_13)), (nar .char (nar .char v120_12)), (nar .char (nar .char v108_11)), (nar .char (nar .char v96_10)), (nar .char (nar .char v84_9)), (nar .char (nar .char v73_8)), (nar .char (nar .char v62_7)), (nar .char (nar .char v51_6)), (nar .char (nar .char v40_5)), (nar .char (nar .char v29_4))] : List Int32) ≤ 2147483647 := by rw [hdec]; omega
    obtain ⟨rr, hr0⟩ : ∃ r, r = v4_1 := ⟨_, rfl⟩
    have hrr : rr.toInt = dec ([(nar .char (nar .char v132_13)), (nar .char (nar .char v120_12)), (nar .char (nar .char v108_11)), (nar .char (nar .char v96_10)), (nar .char (nar .char v84_9)), (nar .char (nar .char v73_8)), (nar .char (nar .char v62_7)), (nar .char (nar .char v51_6)), (nar .char (nar .char v40_5)), (nar .char (nar .char v29_4))] : List Int32) := by rw [hr0, hdec]
    refine g_aload X at_147 (pc' := 149) rfl rfl rfl ?_
    refine g_iloadN X at_149 (pc' := 150) rfl rfl ?_
    refine g_static X (W := 0) [(.ref b17_3), (.int (10 : Int32))] [] (tb hw 15 rfl) (tb hw 16 rfl) (tb hw 4 rfl) (tb hw 17 rfl) (rStr10 l Z aa hw [] b17_3 (nar .char v29_4) (nar .char v40_5) (nar .char v51_6) (nar .char v62_7) (nar .char v73_8) (nar .char v84_9) (nar .char v96_10) (nar .char v108_11) (nar .char v120_12) (nar .char v132_13) (nar .char (48 : Int32)) (nar .char (48 : Int32)) G1 _ n0 Z0 V_b17_3 hp O2 P5 Od) at_150 (pc' := 153) rfl (by decide) (by decide) (by decide) rfl rfl rfl (lenOf pd_5 rfl) (Nat.le_refl _) (by decide) (by decide) ?_
    intro v T L X q
    obtain ⟨tx, rfl, Nq, Kq, St_tx⟩ := q
    replace N := N.app Nq
    replace E_b17_3 := E_b17_3.keep Kq
    replace V_b17_3 := V_b17_3.keep Kq nin0
    replace Od := Od.keep Kq all0
    replace Z0 := Nat.le_trans Z0 Kq.1
    show Go p e below _ (T.setTop (mkF m 153 #[.val (.int i0), .val (.int i1), .val (.int v4_1), .val (.int (10 : Int32)), .val (.ref b17_3), .unset, .unset, .unset] [(.ref tx)]))
    refine g_astore X at_153 (pc' := 155) (Ls' := #[.val (.int i0), .val (.int i1), .val (.int v4_1), .val (.int (10 : Int32)), .val (.ref b17_3), .val (.ref tx), .unset, .unset]) rfl rfl rfl ?_
    refine g_iloadN X at_155 (pc' := 156) rfl rfl ?_
    refine g_bipush X (10 : Int32) at_156 (pc' := 158) rfl rfl ?_
    refine g_icN X at_158 (flt (show ¬ ((10 : Int32) < (10 : Int32)) from (by decide))).1 (pc' := 161) rfl ?_
    refine g_iloadN X at_161 (pc' := 162) rfl rfl ?_
    refine g_i2l X at_162 (pc' := 163) rfl ?_
    refine g_goto X at_163 (pc' := 173) (by decide) (by decide) ?_
    generalize ev173_23 : (v4_1.toInt64) = v173_23
    refine g_lstore X at_173 (pc' := 175) (Ls' := #[.val (.int i0), .val (.int i1), .val (.int v4_1), .val (.int (10 : Int32)), .val (.ref b17_3), .val (.ref tx), .val (.long v173_23), .second]) rfl rfl ?_
    refine g_aload X at_175 (pc' := 177) rfl rfl rfl ?_
    refine g_virtualB X (W := 0) (a := tx) (C := "java/lang/String") [] [] St_tx.1 (tb hw 50 rfl) (tb hw 51 rfl) (tb hw 53 rfl) (tb hw 52 rfl) (Q := Pu (.int (Int32.ofNat (([(nar .char (nar .char v132_13)), (nar .char (nar .char v120_12)), (nar .char (nar .char v108_11)), (nar .char (nar .char v96_10)), (nar .char (nar .char v84_9)), (nar .char (nar .char v73_8)), (nar .char (nar .char v62_7)), (nar .char (nar .char v51_6)), (nar .char (nar .char v40_5)), (nar .char (nar .char v29_4))] : List Int32)).length)) _) (kc := 0) (ks := 0) (back_len (W := 0) X.2.2.2.2.2.1 hw St_tx (O2.ext Od.2) P5 (by decide) (by decide)) at_177 (pc' := 180) rfl (by decide) rfl rfl rfl (lenOf pd_2 rfl) (Nat.le_refl _) (by decide) (by decide) ?_
    intro v T L X q
    obtain ⟨rfl, X⟩ := pureX X q
    show Go p e below _ (T.setTop (mkF m 180 #[.val (.int i0), .val (.int i1), .val (.int v4_1), .val (.int (10 : Int32)), .val (.ref b17_3), .val (.ref tx), .val (.long v173_23), .second] [(.int (Int32.ofNat (([(nar .char (nar .char v132_13)), (nar .char (nar .char v120_12)), (nar .char (nar .char v108_11)), (nar .char (nar .char v96_10)), (nar .char (nar .char v84_9)), (nar .char (nar .char v73_8)), (nar .char (nar .char v62_7)), (nar .char (nar .char v51_6)), (nar .char (nar .char v40_5)), (nar .char (nar .char v29_4))] : List Int32)).length))]))
    refine g_iloadN X at_180 (pc' := 181) rfl rfl ?_
    refine g_icN X at_181 (teq (show (Int32.ofNat (([(nar .char (nar .char v132_13)), (nar .char (nar .char v120_12)), (nar .char (nar .char v108_11)), (nar .char (nar .char v96_10)), (nar .char (nar .char v84_9)), (nar .char (nar .char v73_8)), (nar .char (nar .char v62_7)), (nar .char (nar .char v51_6)), (nar .char (nar .char v40_5)), (nar .char (nar .char v29_4))] : List Int32)).length) = (10 : Int32) from rfl)).2 (pc' := 184) rfl ?_
    refine g_aload X at_184 (pc' := 186) rfl rfl rfl ?_
    refine g_static X (W := 0) [(.ref tx)] [] (tb hw 60 rfl) (tb hw 61 rfl) (tb hw 62 rfl) (tb hw 63 rfl) (rParse l Z aa hw [] tx ([(nar .char (nar .char v132_13)), (nar .char (nar .char v120_12)), (nar .char (nar .char v108_11)), (nar .char (nar .char v96_10)), (nar .char (nar .char v84_9)), (nar .char (nar .char v73_8)), (nar .char (nar .char v62_7)), (nar .char (nar .char v51_6)), (nar .char (nar .char v40_5)), (nar .char (nar .char v29_4))] : List Int32) rr G1 G3 _ n0 Z0 St_tx (Nat.zero_lt_succ _) (Nat.le_of_ble_eq_true rfl) hdig hmax hrr O2 P5 Od O4 rG3) at_186 (pc' := 189) rfl (by decide) (by decide) (by decide) rfl rfl rfl (lenOf pd_7 rfl) (Nat.le_refl _) (by decide) (by decide) ?_
    intro v T L X q
    obtain ⟨rfl, X⟩ := pureX X q
    show Go p e below _ (T.setTop (mkF m 189 #[.val (.int i0), .val (.int i1), .val (.int v4_1), .val (.int (10 : Int32)), .val (.ref b17_3), .val (.ref tx), .val (.long v173_23), .second] [(.int rr)]))
    refine g_i2l X at_189 (pc' := 190) rfl ?_
    refine g_lload X at_190 (pc' := 192) rfl rfl ?_
    refine g_lcmp X at_192 (pc' := 193) rfl ?_
    refine g_ifN X at_193 ((if0 _ _).trans (teq ((lw_eq (rr.toInt64) v173_23).mpr (show (rr.toInt64) = v173_23 from (by rw [hr0]; exact ev173_23)))).2) (pc' := 196) rfl ?_
    refine g_iconst X (1 : Int32) at_196 (pc' := 197) rfl rfl ?_
    refine g_goto X at_197 (pc' := 201) (by decide) (by decide) ?_
    refine g_ireturnN X (t := .boolean) (by simp) at_201 hret hlk (by decide) (by decide) ?_
    exact ⟨rfl, N⟩
  · subst hs
    show Go p e below _ (T.setTop (mkF m 147 #[.val (.int i0), .val (.int i1), .val (.int v4_1), .val (.int (11 : Int32)), .val (.ref b17_3), .unset, .unset, .unset] []))
    have hdig : Digits ([(nar .char (nar .char (48 : Int32))), (nar .char (nar .char v132_13)), (nar .char (nar .char v120_12)), (nar .char (nar .char v108_11)), (nar .char (nar .char v96_10)), (nar .char (nar .char v84_9)), (nar .char (nar .char v73_8)), (nar .char (nar .char v62_7)), (nar .char (nar .char v51_6)), (nar .char (nar .char v40_5)), (nar .char (nar .char v29_4))] : List Int32) := (all_cons (by rw [D10]; omega) (all_cons (by rw [D9]; omega) (all_cons (by rw [D8]; omega) (all_cons (by rw [D7]; omega) (all_cons (by rw [D6]; omega) (all_cons (by rw [D5]; omega) (all_cons (by rw [D4]; omega) (all_cons (by rw [D3]; omega) (all_cons (by rw [D2]; omega) (all_cons (by rw [D1]; omega) (all_cons (by rw [D0]; omega) all_nil)))))))))))
    have hp : ∀ c ∈ ([(nar .char (nar .char (48 : Int32))), (nar .char (nar .char v132_13)), (nar .char (nar .char v120_12)), (nar .char (nar .char v108_11)), (nar .char (nar .char v96_10)), (nar .char (nar .char v84_9)), (nar .char (nar .char v73_8)), (nar .char (nar .char v62_7)), (nar .char (nar .char v51_6)), (nar .char (nar .char v40_5)), (nar .char (nar .char v29_4))] : List Int32), ¬ c < 0 ∧ ¬ (255 : Int32) < c := fun c hc => chr_ok (hdig c hc)
    have hdec : dec ([(nar .char (nar .char (48 : Int32))), (nar .char (nar .char v132_13)), (nar .char (nar .char v120_12)), (nar .char (nar .char v108_11)), (nar .char (nar .char v96_10)), (nar .char (nar .char v84_9)), (nar .char (nar .char v73_8)), (nar .char (nar .char v62_7)), (nar .char (nar .char v51_6)), (nar .char (nar .char v40_5)), (nar .char (nar .char v29_4))] : List Int32) = v4_1.toInt := by
      show (((((((((((0 * 10 + ((nar .char (nar .char (48 : Int32))).toInt - 48)) * 10 + ((nar .char (nar .char v132_13)).toInt - 48)) * 10 + ((nar .char (nar .char v120_12)).toInt - 48)) * 10 + ((nar .char (nar .char v108_11)).toInt - 48)) * 10 + ((nar .char (nar .char v96_10)).toInt - 48)) * 10 + ((nar .char (nar .char v84_9)).toInt - 48)) * 10 + ((nar .char (nar .char v73_8)).toInt - 48)) * 10 + ((nar .char (nar .char v62_7)).toInt - 48)) * 10 + ((nar .char (nar .char v51_6)).toInt - 48)) * 10 + ((nar .char (nar .char v40_5)).toInt - 48)) * 10 + ((nar .char (nar .char v29_4)).toInt - 48)) = _
      rw [D10, D9, D8, D7, D6, D5, D4, D3, D2, D1, D0]; omega
    have hmax : dec ([(nar .char (nar .char (48 : Int32))), (nar .char (nar .char v132_13)), (nar .char (nar .char v120_12)), (nar .char (nar .char v108_11)), (nar .char (nar .char v96_10)), (nar .char (nar .char v84_9)), (nar .char (nar .char v73_8)), (nar .char (nar .char v62_7)), (nar .char (nar .char v51_6)), (nar .char (nar .char v40_5)), (nar .char (nar .char v29_4))] : List Int32) ≤ 2147483647 := by rw [hdec]; omega
    obtain ⟨rr, hr0⟩ : ∃ r, r = v4_1 := ⟨_, rfl⟩
    have hrr : rr.toInt = dec ([(nar .char (nar .char (48 : Int32))), (nar .char (nar .char v132_13)), (nar .char (nar .char v120_12)), (nar .char (nar .char v108_11)), (nar .char (nar .char v96_10)), (nar .char (nar .char v84_9)), (nar .char (nar .char v73_8)), (nar .char (nar .char v62_7)), (nar .char (nar .char v51_6)), (nar .char (nar .char v40_5)), (nar .char (nar .char v29_4))] : List Int32) := by rw [hr0, hdec]
    refine g_aload X at_147 (pc' := 149) rfl rfl rfl ?_
    refine g_iloadN X at_149 (pc' := 150) rfl rfl ?_
    refine g_static X (W := 0) [(.ref b17_3), (.int (11 : Int32))] [] (tb hw 15 rfl) (tb hw 16 rfl) (tb hw 4 rfl) (tb hw 17 rfl) (rStr11 l Z aa hw [] b17_3 (nar .char v29_4) (nar .char v40_5) (nar .char v51_6) (nar .char v62_7) (nar .char v73_8) (nar .char v84_9) (nar .char v96_10) (nar .char v108_11) (nar .char v120_12) (nar .char v132_13) (nar .char (48 : Int32)) (nar .char (48 : Int32)) G1 _ n0 Z0 V_b17_3 hp O2 P5 Od) at_150 (pc' := 153) rfl (by decide) (by decide) (by decide) rfl rfl rfl (lenOf pd_5 rfl) (Nat.le_refl _) (by decide) (by decide) ?_
    intro v T L X q
    obtain ⟨tx, rfl, Nq, Kq, St_tx⟩ := q
    replace N := N.app Nq
    replace E_b17_3 := E_b17_3.keep Kq
    replace V_b17_3 := V_b17_3.keep Kq nin0
    replace Od := Od.keep Kq all0
    replace Z0 := Nat.le_trans Z0 Kq.1
    show Go p e below _ (T.setTop (mkF m 153 #[.val (.int i0), .val (.int i1), .val (.int v4_1), .val (.int (11 : Int32)), .val (.ref b17_3), .unset, .unset, .unset] [(.ref tx)]))
    refine g_astore X at_153 (pc' := 155) (Ls' := #[.val (.int i0), .val (.int i1), .val (.int v4_1), .val (.int (11 : Int32)), .val (.ref b17_3), .val (.ref tx), .unset, .unset]) rfl rfl rfl ?_
    refine g_iloadN X at_155 (pc' := 156) rfl rfl ?_
    refine g_bipush X (10 : Int32) at_156 (pc' := 158) rfl rfl ?_
    refine g_icN X at_158 (flt (show ¬ ((11 : Int32) < (10 : Int32)) from (by decide))).1 (pc' := 161) rfl ?_
    refine g_iloadN X at_161 (pc' := 162) rfl rfl ?_
    refine g_i2l X at_162 (pc' := 163) rfl ?_
    refine g_goto X at_163 (pc' := 173) (by decide) (by decide) ?_
    generalize ev173_24 : (v4_1.toInt64) = v173_24
    refine g_lstore X at_173 (pc' := 175) (Ls' := #[.val (.int i0), .val (.int i1), .val (.int v4_1), .val (.int (11 : Int32)), .val (.ref b17_3), .val (.ref tx), .val (.long v173_24), .second]) rfl rfl ?_
    refine g_aload X at_175 (pc' := 177) rfl rfl rfl ?_
    refine g_virtualB X (W := 0) (a := tx) (C := "java/lang/String") [] [] St_tx.1 (tb hw 50 rfl) (tb hw 51 rfl) (tb hw 53 rfl) (tb hw 52 rfl) (Q := Pu (.int (Int32.ofNat (([(nar .char (nar .char (48 : Int32))), (nar .char (nar .char v132_13)), (nar .char (nar .char v120_12)), (nar .char (nar .char v108_11)), (nar .char (nar .char v96_10)), (nar .char (nar .char v84_9)), (nar .char (nar .char v73_8)), (nar .char (nar .char v62_7)), (nar .char (nar .char v51_6)), (nar .char (nar .char v40_5)), (nar .char (nar .char v29_4))] : List Int32)).length)) _) (kc := 0) (ks := 0) (back_len (W := 0) X.2.2.2.2.2.1 hw St_tx (O2.ext Od.2) P5 (by decide) (by decide)) at_177 (pc' := 180) rfl (by decide) rfl rfl rfl (lenOf pd_2 rfl) (Nat.le_refl _) (by decide) (by decide) ?_
    intro v T L X q
    obtain ⟨rfl, X⟩ := pureX X q
    show Go p e below _ (T.setTop (mkF m 180 #[.val (.int i0), .val (.int i1), .val (.int v4_1), .val (.int (11 : Int32)), .val (.ref b17_3), .val (.ref tx), .val (.long v173_24), .second] [(.int (Int32.ofNat (([(nar .char (nar .char (48 : Int32))), (nar .char (nar .char v132_13)), (nar .char (nar .char v120_12)), (nar .char (nar .char v108_11)), (nar .char (nar .char v96_10)), (nar .char (nar .char v84_9)), (nar .char (nar .char v73_8)), (nar .char (nar .char v62_7)), (nar .char (nar .char v51_6)), (nar .char (nar .char v40_5)), (nar .char (nar .char v29_4))] : List Int32)).length))]))
    refine g_iloadN X at_180 (pc' := 181) rfl rfl ?_
    refine g_icN X at_181 (teq (show (Int32.ofNat (([(nar .char (nar .char (48 : Int32))), (nar .char (nar .char v132_13)), (nar .char (nar .char v120_12)), (nar .char (nar .char v108_11)), (nar .char (nar .char v96_10)), (nar .char (nar .char v84_9)), (nar .char (nar .char v73_8)), (nar .char (nar .char v62_7)), (nar .char (nar .char v51_6)), (nar .char (nar .char v40_5)), (nar .char (nar .char v29_4))] : List Int32)).length) = (11 : Int32) from rfl)).2 (pc' := 184) rfl ?_
    refine g_aload X at_184 (pc' := 186) rfl rfl rfl ?_
    refine g_static X (W := 0) [(.ref tx)] [] (tb hw 60 rfl) (tb hw 61 rfl) (tb hw 62 rfl) (tb hw 63 rfl) (rParse l Z aa hw [] tx ([(nar .char (nar .char (48 : Int32))), (nar .char (nar .char v132_13)), (nar .char (nar .char v120_12)), (nar .char (nar .char v108_11)), (nar .char (nar .char v96_10)), (nar .char (nar .char v84_9)), (nar .char (nar .char v73_8)), (nar .char (nar .char v62_7)), (nar .char (nar .char v51_6)), (nar .char (nar .char v40_5)), (nar .char (nar .char v29_4))] : List Int32) rr G1 G3 _ n0 Z0 St_tx (Nat.zero_lt_succ _) (Nat.le_of_ble_eq_true rfl) hdig hmax hrr O2 P5 Od O4 rG3) at_186 (pc' := 189) rfl (by decide) (by decide) (by decide) rfl rfl rfl (lenOf pd_7 rfl) (Nat.le_refl _) (by decide) (by decide) ?_
    intro v T L X q
    obtain ⟨rfl, X⟩ := pureX X q
    show Go p e below _ (T.setTop (mkF m 189 #[.val (.int i0), .val (.int i1), .val (.int v4_1), .val (.int (11 : Int32)), .val (.ref b17_3), .val (.ref tx), .val (.long v173_24), .second] [(.int rr)]))
    refine g_i2l X at_189 (pc' := 190) rfl ?_
    refine g_lload X at_190 (pc' := 192) rfl rfl ?_
    refine g_lcmp X at_192 (pc' := 193) rfl ?_
    refine g_ifN X at_193 ((if0 _ _).trans (teq ((lw_eq (rr.toInt64) v173_24).mpr (show (rr.toInt64) = v173_24 from (by rw [hr0]; exact ev173_24)))).2) (pc' := 196) rfl ?_
    refine g_iconst X (1 : Int32) at_196 (pc' := 197) rfl rfl ?_
    refine g_goto X at_197 (pc' := 201) (by decide) (by decide) ?_
    refine g_ireturnN X (t := .boolean) (by simp) at_201 hret hlk (by decide) (by decide) ?_
    exact ⟨rfl, N⟩
  · subst hs
    show Go p e below _ (T.setTop (mkF m 147 #[.val (.int i0), .val (.int i1), .val (.int v4_1), .val (.int (12 : Int32)), .val (.ref b17_3), .unset, .unset, .unset] []))
    have hdig : Digits ([(nar .char (nar .char (48 : Int32))), (nar .char (nar .char (48 : Int32))), (nar .char (nar .char v132_13)), (nar .char (nar .char v120_12)), (nar .char (nar .char v108_11)), (nar .char (nar .char v96_10)), (nar .char (nar .char v84_9)), (nar .char (nar .char v73_8)), (nar .char (nar .char v62_7)), (nar .char (nar .char v51_6)), (nar .char (nar .char v40_5)), (nar .char (nar .char v29_4))] : List Int32) := (all_cons (by rw [D11]; omega) (all_cons (by rw [D10]; omega) (all_cons (by rw [D9]; omega) (all_cons (by rw [D8]; omega) (all_cons (by rw [D7]; omega) (all_cons (by rw [D6]; omega) (all_cons (by rw [D5]; omega) (all_cons (by rw [D4]; omega) (all_cons (by rw [D3]; omega) (all_cons (by rw [D2]; omega) (all_cons (by rw [D1]; omega) (all_cons (by rw [D0]; omega) all_nil))))))))))))
    have hp : ∀ c ∈ ([(nar .char (nar .char (48 : Int32))), (nar .char (nar .char (48 : Int32))), (nar .char (nar .char v132_13)), (nar .char (nar .char v120_12)), (nar .char (nar .char v108_11)), (nar .char (nar .char v96_10)), (nar .char (nar .char v84_9)), (nar .char (nar .char v73_8)), (nar .char (nar .char v62_7)), (nar .char (nar .char v51_6)), (nar .char (nar .char v40_5)), (nar .char (nar .char v29_4))] : List Int32), ¬ c < 0 ∧ ¬ (255 : Int32) < c := fun c hc => chr_ok (hdig c hc)
    have hdec : dec ([(nar .char (nar .char (48 : Int32))), (nar .char (nar .char (48 : Int32))), (nar .char (nar .char v132_13)), (nar .char (nar .char v120_12)), (nar .char (nar .char v108_11)), (nar .char (nar .char v96_10)), (nar .char (nar .char v84_9)), (nar .char (nar .char v73_8)), (nar .char (nar .char v62_7)), (nar .char (nar .char v51_6)), (nar .char (nar .char v40_5)), (nar .char (nar .char v29_4))] : List Int32) = v4_1.toInt := by
      show ((((((((((((0 * 10 + ((nar .char (nar .char (48 : Int32))).toInt - 48)) * 10 + ((nar .char (nar .char (48 : Int32))).toInt - 48)) * 10 + ((nar .char (nar .char v132_13)).toInt - 48)) * 10 + ((nar .char (nar .char v120_12)).toInt - 48)) * 10 + ((nar .char (nar .char v108_11)).toInt - 48)) * 10 + ((nar .char (nar .char v96_10)).toInt - 48)) * 10 + ((nar .char (nar .char v84_9)).toInt - 48)) * 10 + ((nar .char (nar .char v73_8)).toInt - 48)) * 10 + ((nar .char (nar .char v62_7)).toInt - 48)) * 10 + ((nar .char (nar .char v51_6)).toInt - 48)) * 10 + ((nar .char (nar .char v40_5)).toInt - 48)) * 10 + ((nar .char (nar .char v29_4)).toInt - 48)) = _
      rw [D11, D9, D8, D7, D6, D5, D4, D3, D2, D1, D0]; omega
    have hmax : dec ([(nar .char (nar .char (48 : Int32))), (nar .char (nar .char (48 : Int32))), (nar .char (nar .char v132_13)), (nar .char (nar .char v120_12)), (nar .char (nar .char v108_11)), (nar .char (nar .char v96_10)), (nar .char (nar .char v84_9)), (nar .char (nar .char v73_8)), (nar .char (nar .char v62_7)), (nar .char (nar .char v51_6)), (nar .char (nar .char v40_5)), (nar .char (nar .char v29_4))] : List Int32) ≤ 2147483647 := by rw [hdec]; omega
    obtain ⟨rr, hr0⟩ : ∃ r, r = v4_1 := ⟨_, rfl⟩
    have hrr : rr.toInt = dec ([(nar .char (nar .char (48 : Int32))), (nar .char (nar .char (48 : Int32))), (nar .char (nar .char v132_13)), (nar .char (nar .char v120_12)), (nar .char (nar .char v108_11)), (nar .char (nar .char v96_10)), (nar .char (nar .char v84_9)), (nar .char (nar .char v73_8)), (nar .char (nar .char v62_7)), (nar .char (nar .char v51_6)), (nar .char (nar .char v40_5)), (nar .char (nar .char v29_4))] : List Int32) := by rw [hr0, hdec]
    refine g_aload X at_147 (pc' := 149) rfl rfl rfl ?_
    refine g_iloadN X at_149 (pc' := 150) rfl rfl ?_
    refine g_static X (W := 0) [(.ref b17_3), (.int (12 : Int32))] [] (tb hw 15 rfl) (tb hw 16 rfl) (tb hw 4 rfl) (tb hw 17 rfl) (rStr12 l Z aa hw [] b17_3 (nar .char v29_4) (nar .char v40_5) (nar .char v51_6) (nar .char v62_7) (nar .char v73_8) (nar .char v84_9) (nar .char v96_10) (nar .char v108_11) (nar .char v120_12) (nar .char v132_13) (nar .char (48 : Int32)) (nar .char (48 : Int32)) G1 _ n0 Z0 V_b17_3 hp O2 P5 Od) at_150 (pc' := 153) rfl (by decide) (by decide) (by decide) rfl rfl rfl (lenOf pd_5 rfl) (Nat.le_refl _) (by decide) (by decide) ?_
    intro v T L X q
    obtain ⟨tx, rfl, Nq, Kq, St_tx⟩ := q
    replace N := N.app Nq
    replace E_b17_3 := E_b17_3.keep Kq
    replace V_b17_3 := V_b17_3.keep Kq nin0
    replace Od := Od.keep Kq all0
    replace Z0 := Nat.le_trans Z0 Kq.1
    show Go p e below _ (T.setTop (mkF m 153 #[.val (.int i0), .val (.int i1), .val (.int v4_1), .val (.int (12 : Int32)), .val (.ref b17_3), .unset, .unset, .unset] [(.ref tx)]))
    refine g_astore X at_153 (pc' := 155) (Ls' := #[.val (.int i0), .val (.int i1), .val (.int v4_1), .val (.int (12 : Int32)), .val (.ref b17_3), .val (.ref tx), .unset, .unset]) rfl rfl rfl ?_
    refine g_iloadN X at_155 (pc' := 156) rfl rfl ?_
    refine g_bipush X (10 : Int32) at_156 (pc' := 158) rfl rfl ?_
    refine g_icN X at_158 (flt (show ¬ ((12 : Int32) < (10 : Int32)) from (by decide))).1 (pc' := 161) rfl ?_
    refine g_iloadN X at_161 (pc' := 162) rfl rfl ?_
    refine g_i2l X at_162 (pc' := 163) rfl ?_
    refine g_goto X at_163 (pc' := 173) (by decide) (by decide) ?_
    generalize ev173_25 : (v4_1.toInt64) = v173_25
    refine g_lstore X at_173 (pc' := 175) (Ls' := #[.val (.int i0), .val (.int i1), .val (.int v4_1), .val (.int (12 : Int32)), .val (.ref b17_3), .val (.ref tx), .val (.long v173_25), .second]) rfl rfl ?_
    refine g_aload X at_175 (pc' := 177) rfl rfl rfl ?_
    refine g_virtualB X (W := 0) (a := tx) (C := "java/lang/String") [] [] St_tx.1 (tb hw 50 rfl) (tb hw 51 rfl) (tb hw 53 rfl) (tb hw 52 rfl) (Q := Pu (.int (Int32.ofNat (([(nar .char (nar .char (48 : Int32))), (nar .char (nar .char (48 : Int32))), (nar .char (nar .char v132_13)), (nar .char (nar .char v120_12)), (nar .char (nar .char v108_11)), (nar .char (nar .char v96_10)), (nar .char (nar .char v84_9)), (nar .char (nar .char v73_8)), (nar .char (nar .char v62_7)), (nar .char (nar .char v51_6)), (nar .char (nar .char v40_5)), (nar .char (nar .char v29_4))] : List Int32)).length)) _) (kc := 0) (ks := 0) (back_len (W := 0) X.2.2.2.2.2.1 hw St_tx (O2.ext Od.2) P5 (by decide) (by decide)) at_177 (pc' := 180) rfl (by decide) rfl rfl rfl (lenOf pd_2 rfl) (Nat.le_refl _) (by decide) (by decide) ?_
    intro v T L X q
    obtain ⟨rfl, X⟩ := pureX X q
    show Go p e below _ (T.setTop (mkF m 180 #[.val (.int i0), .val (.int i1), .val (.int v4_1), .val (.int (12 : Int32)), .val (.ref b17_3), .val (.ref tx), .val (.long v173_25), .second] [(.int (Int32.ofNat (([(nar .char (nar .char (48 : Int32))), (nar .char (nar .char (48 : Int32))), (nar .char (nar .char v132_13)), (nar .char (nar .char v120_12)), (nar .char (nar .char v108_11)), (nar .char (nar .char v96_10)), (nar .char (nar .char v84_9)), (nar .char (nar .char v73_8)), (nar .char (nar .char v62_7)), (nar .char (nar .char v51_6)), (nar .char (nar .char v40_5)), (nar .char (nar .char v29_4))] : List Int32)).length))]))
    refine g_iloadN X at_180 (pc' := 181) rfl rfl ?_
    refine g_icN X at_181 (teq (show (Int32.ofNat (([(nar .char (nar .char (48 : Int32))), (nar .char (nar .char (48 : Int32))), (nar .char (nar .char v132_13)), (nar .char (nar .char v120_12)), (nar .char (nar .char v108_11)), (nar .char (nar .char v96_10)), (nar .char (nar .char v84_9)), (nar .char (nar .char v73_8)), (nar .char (nar .char v62_7)), (nar .char (nar .char v51_6)), (nar .char (nar .char v40_5)), (nar .char (nar .char v29_4))] : List Int32)).length) = (12 : Int32) from rfl)).2 (pc' := 184) rfl ?_
    refine g_aload X at_184 (pc' := 186) rfl rfl rfl ?_
    refine g_static X (W := 0) [(.ref tx)] [] (tb hw 60 rfl) (tb hw 61 rfl) (tb hw 62 rfl) (tb hw 63 rfl) (rParse l Z aa hw [] tx ([(nar .char (nar .char (48 : Int32))), (nar .char (nar .char (48 : Int32))), (nar .char (nar .char v132_13)), (nar .char (nar .char v120_12)), (nar .char (nar .char v108_11)), (nar .char (nar .char v96_10)), (nar .char (nar .char v84_9)), (nar .char (nar .char v73_8)), (nar .char (nar .char v62_7)), (nar .char (nar .char v51_6)), (nar .char (nar .char v40_5)), (nar .char (nar .char v29_4))] : List Int32) rr G1 G3 _ n0 Z0 St_tx (Nat.zero_lt_succ _) (Nat.le_of_ble_eq_true rfl) hdig hmax hrr O2 P5 Od O4 rG3) at_186 (pc' := 189) rfl (by decide) (by decide) (by decide) rfl rfl rfl (lenOf pd_7 rfl) (Nat.le_refl _) (by decide) (by decide) ?_
    intro v T L X q
    obtain ⟨rfl, X⟩ := pureX X q
    show Go p e below _ (T.setTop (mkF m 189 #[.val (.int i0), .val (.int i1), .val (.int v4_1), .val (.int (12 : Int32)), .val (.ref b17_3), .val (.ref tx), .val (.long v173_25), .second] [(.int rr)]))
    refine g_i2l X at_189 (pc' := 190) rfl ?_
    refine g_lload X at_190 (pc' := 192) rfl rfl ?_
    refine g_lcmp X at_192 (pc' := 193) rfl ?_
    refine g_ifN X at_193 ((if0 _ _).trans (teq ((lw_eq (rr.toInt64) v173_25).mpr (show (rr.toInt64) = v173_25 from (by rw [hr0]; exact ev173_25)))).2) (pc' := 196) rfl ?_
    refine g_iconst X (1 : Int32) at_196 (pc' := 197) rfl rfl ?_
    refine g_goto X at_197 (pc' := 201) (by decide) (by decide) ?_
    refine g_ireturnN X (t := .boolean) (by simp) at_201 hret hlk (by decide) (by decide) ?_
    exact ⟨rfl, N⟩
set_option maxRecDepth 65536 in
set_option maxHeartbeats 40000000 in
theorem comes_1 {Post : Tables → Env → Array Value → State → Outcome → State → Prop} (hpost : ∀ tb e args s v u, (limb_1_1.after args s (.returned v) u = true ∧ limb_1_2.after args s (.returned v) u = true ∧ True) → FrameEnd s (.returned v) u (Jvm.fieldLocs frame_1_writes args s ++ Jvm.arrayLocs frame_1_arrays args s ++ Jvm.staticLocs frame_1_statics s) 16 192 → Post tb e args s (.returned v) u) :
    ArmFor flags0 classFile x code maxLocals ret World_1 tables_1 room_1 Calls_1 rest_1 Pre_1 Post := by
  intro l hfl _ _ p e ha hc hk s m args below hf hA hF happ hP
  obtain ⟨hcalls, hrest, hpre⟩ := hP
  obtain ⟨-, -, -, hnamed, -, -, -, hat⟩ := (Spec.applies_iff hf).mp happ
  obtain ⟨hg, hn⟩ := and_e (Cond.before_iff.mp (show (Jvm.Cond.and given_1 narrow_1).before args s = true from hpre))
  obtain ⟨g1, g2⟩ := and_e hg
  obtain ⟨g3, g4⟩ := and_e g2
  obtain ⟨w0, w1, rfl⟩ : ∃ w0 w1 : Value, args = #[w0, w1] := by
    have hs : args.size = 2 := by simpa [Cond.value, given_1] using g1
    obtain ⟨L⟩ := args
    match L, hs with
    | [w0, w1], _ => exact ⟨w0, w1, rfl⟩
  have hw := fun d (hd : d ∈ tables_1) => atoms_spec (ws := Jvm.Cond.code x code maxLocals ret :: tables_1) hat d (List.mem_cons_of_mem _ hd)
  have hfit : Fit s := fun {y c} hc i hi => by
    obtain ⟨ha, rfl⟩ := Array.getElem?_eq_some_iff.mp hc
    have q := List.all_eq_true.mp ((Array.all_eq_true_iff_forall_mem.mp hF) _ (Array.getElem_mem ha)) i (List.mem_range.mpr hi)
    simpa [Array.getElem?_eq_getElem hi] using q
  obtain ⟨hsets, hown0⟩ := atoms_of _ (rest_1_c_eq ▸ (show rest_1_c.before _ s = true from hrest))
  have hr0 := Cond.before_iff.mp hown0
  obtain ⟨i0, ei0⟩ := is_v g3
  obtain rfl : w0 = (.int i0) := Option.some.inj ei0
  obtain ⟨i1, ei1⟩ := is_v g4
  obtain rfl : w1 = (.int i1) := Option.some.inj ei1
  have n5 := not_v (Cond.before_iff.mp (hsets _ (List.mem_of_getElem? (i := 2) rfl)))
  obtain ⟨G1, eG1⟩ := is_v (Cond.before_iff.mp (hsets _ (List.mem_of_getElem? (i := 1) rfl)))
  have O2 : Sta s s.heap "java/lang/String" "COMPACT_STRINGS" "Z" (.int G1) := Sta.start eG1 (Or.inl (hsets _ (List.mem_of_getElem? (i := 0) rfl)))
  obtain ⟨G3, eG3, rG3⟩ := isR_v (Cond.before_iff.mp (hsets _ (List.mem_of_getElem? (i := 8) rfl)))
  have O4 : Sta s s.heap "jdk/internal/util/Preconditions" "SIOOBE_FORMATTER" "Ljava/util/function/BiFunction;" G3 := Sta.start eG3 (Or.inl (hsets _ (List.mem_of_getElem? (i := 7) rfl)))
  have P5 : ¬ (G1 = (0 : Int32)) := gotF (Cond.eq_ints eG1 (Term.int_eval (0))) n5
  obtain ⟨n, o, h1, h2, h3, _, L, rfl, ⟨rfl, N⟩, hq⟩ := rLaw l s _ hw tables_1 i0 i1 G1 G3 s.heap s.heap.size (Nat.le_refl _) O2 P5 (Old.start s) O4 rG3 p e ha hc hk s m _ below hf ((Spec.applies_iff_loose hf).mp happ).1 ⟨rfl, State.Warmed39.refl s, rfl⟩ trivial
  refine ⟨n, _, h1, h2, h3, hpost _ _ _ _ _ _ ⟨Cond.after_iff.mpr rfl, Cond.after_iff.mpr (eq_i res_at (Term.int_eval (1)) rfl), trivial⟩ ⟨hq.1, hq.2.1, (hq.2.2.sift fun y hy => Or.inr (N y hy)).mono (by decide) (by decide)⟩⟩
theorem main_1_1 : Claimed_1_1 := comes_1 fun _ _ _ _ _ _ h hF => ⟨h.1, hF⟩
theorem main_1_2 : Claimed_1_2 := comes_1 fun _ _ _ _ _ _ h hF => ⟨h.2.1, hF⟩
end Jvm.Pilot.@@N@@
namespace Jvm.Pilot.@@N@@
open Jvm Jvm.ClassFile Sem Op Lib Jvm.Free Jvm.Stand Jvm.Pilot.@@N@@.Jvm.D
/-! MADE BY PROGRAM (witnessworld.py) out of the Statement's table words and the real class files: 20 classes; the members and pool entries that the words name. The judged class is class 1, her method 1. -/
namespace start1
open Jvm.ClassFile
def u (s : String) : CpInfo := .utf8 (stringToUtf16 s)
/-- a pool by its gaps: so many unusable entries, then the entry; so many at the end -/
def gap : Nat → List CpInfo → List CpInfo
  | 0, r => r
  | n + 1, r => .unusable :: gap n r
def poolList (es : List (Nat × CpInfo)) (last : Nat) : List CpInfo := es.foldr (fun e r => gap e.1 (e.2 :: r)) (gap last [])
def pool (es : List (Nat × CpInfo)) (last : Nat) : Array CpInfo := ⟨poolList es last⟩
def fileOf (pool : Array CpInfo) (this : Nat) (attrs : Array Attribute := #[]) (ms : Array MethodInfo := #[]) (fl : Nat := 33) (sup : Nat := 0) (ifs : Array Nat := #[]) (fds : Array FieldInfo := #[]) : ClassFile where
  minorVersion := 0
  majorVersion := 65
  constantPool := pool
  accessFlags := fl
  thisClass := this
  superClass := sup
  interfaces := ifs
  fields := fds
  methods := ms
  attributes := attrs
def plain (name : String) (sup : Option ClassId) : Class where
  name := name
  kind := .ordinary
  loader := none
  accessFlags := 33
  super := sup
  interfaces := #[]
  cf := none
  fields := #[]
  methods := #[]
  instanceTypes := #[]
  staticTypes := #[]
  resolved := #[]
  callSites := []
  init := .initialized
  statics := none
  mirror := none

def pool0 : Array CpInfo := pool [(5, u "<init>"), (0, u "()V"), (1, .class_ 10), (1, u "java/lang/Object")] 113

def k0c0 : Code := { maxStack := 0, maxLocals := 1, code := object_method_1_code, exceptionTable := #[], attributes := #[] }
def k0m0 : Method := { name := "<init>", desc := "()V", sig := { parameters := [], returnType := none }, accessFlags := 1, code := some k0c0 }
/-- java/lang/Object -/
def k0 : Class := { plain "java/lang/Object" none with
  accessFlags := 33
  interfaces := #[]
  cf := some (fileOf pool0 8 #[] #[{ accessFlags := 1, nameIndex := 5, descriptorIndex := 6, attributes := #[] }] 33 0 #[] #[])
  fields := #[]
  methods := #[k0m0]
  instanceTypes := #[]
  staticTypes := #[]
  resolved := Array.replicate 124 none
  statics := none }

def pool1 : Array CpInfo := pool [(2, .class_ 4), (1, u "java/lang/Object"), (0, u "<init>"), (0, u "()V"), (0, .integer 2147483647), (0, .methodref 9 10), (0, .class_ 11), (0, .nameAndType 12 13), (0, u "com/example/grant/grant/WholeNumberParsePinLaw"), (0, u "digit"), (0, u "(IJ)C"), (0, .long 10), (1, .long 100), (1, .long 1000), (1, .long 10000), (1, .long 100000), (1, .long 1000000), (1, .long 10000000), (1, .long 100000000), (1, .long 1000000000), (1, .methodref 9 33), (0, .nameAndType 34 35), (0, u "str"), (0, u "([CI)Ljava/lang/String;"), (0, .methodref 9 37), (0, .nameAndType 38 39), (0, u "pow"), (0, u "(I)J"), (0, .methodref 41 42), (0, .class_ 43), (0, .nameAndType 44 45), (0, u "java/lang/String"), (0, u "length"), (0, u "()I"), (0, .methodref 47 48), (0, .class_ 49), (0, .nameAndType 50 51), (0, u "com/example/grant/grant/WholeNumber"), (0, u "parse"), (0, u "(Ljava/lang/String;)I"), (0, .methodref 41 53), (0, .nameAndType 5 54), (0, u "([C)V"), (2, u "law"), (0, u "(II)Z")] 5

def k1m0 : Method := { name := "<init>", desc := "()V", sig := { parameters := [], returnType := none }, accessFlags := 2, code := none }
def k1c1 : Code := { maxStack := 5, maxLocals := 8, code := code, exceptionTable := #[], attributes := #[] }
def k1m1 : Method := { name := "law", desc := "(II)Z", sig := { parameters := [.int, .int], returnType := some .boolean }, accessFlags := 9, code := some k1c1 }
def k1c2 : Code := { maxStack := 5, maxLocals := 3, code := method_3_code, exceptionTable := #[], attributes := #[] }
def k1m2 : Method := { name := "digit", desc := "(IJ)C", sig := { parameters := [.int, .long], returnType := some .char }, accessFlags := 10, code := some k1c2 }
def k1c3 : Code := { maxStack := 2, maxLocals := 1, code := method_4_code, exceptionTable := #[], attributes := #[] }
def k1m3 : Method := { name := "pow", desc := "(I)J", sig := { parameters := [.int], returnType := some .long }, accessFlags := 10, code := some k1c3 }
def k1c4 : Code := { maxStack := 7, maxLocals := 2, code := method_5_code, exceptionTable := #[], attributes := #[] }
def k1m4 : Method := { name := "str", desc := "([CI)Ljava/lang/String;", sig := { parameters := [(.array .char), .int], returnType := some (.object "java/lang/String") }, accessFlags := 10, code := some k1c4 }
/-- com/example/grant/grant/WholeNumberParsePinLaw -/
def k1 : Class := { plain "com/example/grant/grant/WholeNumberParsePinLaw" (some 0) with
  accessFlags := 49
  interfaces := #[]
  cf := some (fileOf pool1 9 #[] #[{ accessFlags := 2, nameIndex := 5, descriptorIndex := 6, attributes := #[] }, { accessFlags := 9, nameIndex := 57, descriptorIndex := 58, attributes := #[] }, { accessFlags := 10, nameIndex := 12, descriptorIndex := 13, attributes := #[] }, { accessFlags := 10, nameIndex := 38, descriptorIndex := 39, attributes := #[] }, { accessFlags := 10, nameIndex := 34, descriptorIndex := 35, attributes := #[] }] 49 2 #[] #[])
  fields := #[]
  methods := #[k1m0, k1m1, k1m2, k1m3, k1m4]
  instanceTypes := #[]
  staticTypes := #[]
  resolved := Array.replicate 64 none
  statics := none }

def pool2 : Array CpInfo := pool [(1, .class_ 2), (0, u "java/io/Serializable"), (0, .class_ 4), (0, u "java/lang/Object")] 2

/-- java/io/Serializable -/
def k2 : Class := { plain "java/io/Serializable" (some 0) with
  accessFlags := 1537
  interfaces := #[]
  cf := some (fileOf pool2 1 #[] #[] 1537 3 #[] #[])
  fields := #[]
  methods := #[]
  instanceTypes := #[]
  staticTypes := #[]
  resolved := Array.replicate 7 none
  statics := none }

def pool3 : Array CpInfo := pool [(1, .class_ 2), (0, u "java/lang/Comparable"), (0, .class_ 4), (0, u "java/lang/Object")] 7

/-- java/lang/Comparable -/
def k3 : Class := { plain "java/lang/Comparable" (some 0) with
  accessFlags := 1537
  interfaces := #[]
  cf := some (fileOf pool3 1 #[] #[] 1537 3 #[] #[])
  fields := #[]
  methods := #[]
  instanceTypes := #[]
  staticTypes := #[]
  resolved := Array.replicate 12 none
  statics := none }

def pool4 : Array CpInfo := pool [(2, .class_ 4), (1, u "java/lang/CharSequence"), (42, .class_ 48), (0, u "java/lang/CharSequence$1CodePointIterator"), (10, .class_ 60), (0, u "java/lang/CharSequence$1CharIterator"), (5, .class_ 67), (0, u "java/lang/Object")] 63

/-- java/lang/CharSequence -/
def k4 : Class := { plain "java/lang/CharSequence" (some 0) with
  accessFlags := 1537
  interfaces := #[]
  cf := some (fileOf pool4 2 #[.nestMembers #[47, 59]] #[] 1537 66 #[] #[])
  fields := #[]
  methods := #[]
  instanceTypes := #[]
  staticTypes := #[]
  resolved := Array.replicate 131 none
  statics := none }

def pool5 : Array CpInfo := pool [(1, .class_ 2), (0, u "java/lang/constant/Constable"), (0, .class_ 4), (0, u "java/lang/Object")] 6

/-- java/lang/constant/Constable -/
def k5 : Class := { plain "java/lang/constant/Constable" (some 0) with
  accessFlags := 1537
  interfaces := #[]
  cf := some (fileOf pool5 1 #[] #[] 1537 3 #[] #[])
  fields := #[]
  methods := #[]
  instanceTypes := #[]
  staticTypes := #[]
  resolved := Array.replicate 11 none
  statics := none }

def pool6 : Array CpInfo := pool [(1, .class_ 2), (0, u "java/lang/constant/ConstantDesc"), (0, .class_ 4), (0, u "java/lang/Object")] 32

/-- java/lang/constant/ConstantDesc -/
def k6 : Class := { plain "java/lang/constant/ConstantDesc" (some 0) with
  accessFlags := 1537
  interfaces := #[]
  cf := some (fileOf pool6 1 #[] #[] 1537 3 #[] #[])
  fields := #[]
  methods := #[]
  instanceTypes := #[]
  staticTypes := #[]
  resolved := Array.replicate 37 none
  statics := none }

def pool7 : Array CpInfo := pool [(1, .methodref 2 3), (0, .class_ 4), (0, .nameAndType 5 6), (0, u "java/lang/Object"), (0, u "<init>"), (0, u "()V"), (2, .fieldref 10 11), (0, .class_ 12), (0, .nameAndType 13 14), (0, u "java/lang/String"), (0, u "value"), (0, u "[B"), (0, .fieldref 10 16), (0, .nameAndType 17 18), (0, u "coder"), (0, u "B"), (2, u "hash"), (0, u "I"), (2, u "hashIsZero"), (0, u "Z"), (0, .methodref 10 28), (0, .nameAndType 5 29), (0, u "([CIILjava/lang/Void;)V"), (8, .fieldref 10 39), (0, .nameAndType 40 26), (0, u "COMPACT_STRINGS"), (1, .class_ 44), (1, u "java/lang/StringUTF16"), (0, u "compress"), (1, .methodref 42 48), (0, .nameAndType 49 50), (0, u "coderFromArrayLen"), (0, u "([BI)B"), (56, .class_ 109), (1, u "java/lang/StringLatin1"), (32, u "()Z"), (34, .methodref 42 178), (0, .nameAndType 45 179), (0, u "([CII)[B"), (154, u "()I"), (0, .methodref 10 336), (0, .nameAndType 17 337), (0, u "()B"), (25, u "([BI)C"), (27, u "(II)V"), (35, u "(I)C"), (64, .methodref 10 493), (0, .nameAndType 494 142), (0, u "isLatin1"), (0, .methodref 107 496), (0, .nameAndType 497 363), (0, u "charAt"), (3, u "checkIndex"), (5, u "length"), (67, .class_ 576), (0, u "java/lang/CharSequence"), (22, u "CASE_INSENSITIVE_ORDER"), (0, u "Ljava/util/Comparator;"), (91, u "isEmpty"), (317, u "([C)V"), (42, .fieldref 1054 1055), (0, .class_ 1056), (0, .nameAndType 1057 1058), (0, u "jdk/internal/util/Preconditions"), (0, u "SIOOBE_FORMATTER"), (0, u "Ljava/util/function/BiFunction;"), (0, .methodref 1054 1060), (0, .nameAndType 501 1061), (0, u "(IILjava/util/function/BiFunction;)I"), (39, u "serialPersistentFields"), (0, u "[Ljava/io/ObjectStreamField;"), (0, .class_ 1104), (0, u "java/lang/String$CaseInsensitiveComparator"), (1, .class_ 1107), (0, u "java/io/Serializable"), (0, .class_ 1109), (0, u "java/lang/Comparable"), (0, .class_ 1111), (0, u "java/lang/constant/Constable"), (0, .class_ 1113), (0, u "java/lang/constant/ConstantDesc"), (2, u "serialVersionUID"), (0, u "J"), (3, u "REPL"), (0, u "C"), (2, u "LATIN1"), (1, u "UTF16")] 323

def k7m0 : Method := { name := "<init>", desc := "()V", sig := { parameters := [], returnType := none }, accessFlags := 1, code := none }
def k7c1 : Code := { maxStack := 5, maxLocals := 2, code := jdk_42_method_3_code, exceptionTable := #[], attributes := #[] }
def k7m1 : Method := { name := "<init>", desc := "([C)V", sig := { parameters := [(.array .char)], returnType := none }, accessFlags := 1, code := some k7c1 }
def k7c2 : Code := { maxStack := 2, maxLocals := 1, code := jdk_42_method_54_code, exceptionTable := #[], attributes := #[] }
def k7m2 : Method := { name := "length", desc := "()I", sig := { parameters := [], returnType := some .int }, accessFlags := 1, code := some k7c2 }
def k7c3 : Code := { maxStack := 1, maxLocals := 1, code := jdk_42_method_55_code, exceptionTable := #[], attributes := #[] }
def k7m3 : Method := { name := "isEmpty", desc := "()Z", sig := { parameters := [], returnType := some .boolean }, accessFlags := 1, code := some k7c3 }
def k7c4 : Code := { maxStack := 2, maxLocals := 2, code := jdk_42_method_56_code, exceptionTable := #[], attributes := #[] }
def k7m4 : Method := { name := "charAt", desc := "(I)C", sig := { parameters := [.int], returnType := some .char }, accessFlags := 1, code := some k7c4 }
def k7c5 : Code := { maxStack := 4, maxLocals := 6, code := jdk_42_method_149_code, exceptionTable := #[], attributes := #[] }
def k7m5 : Method := { name := "<init>", desc := "([CIILjava/lang/Void;)V", sig := { parameters := [(.array .char), .int, .int, (.object "java/lang/Void")], returnType := none }, accessFlags := 2, code := some k7c5 }
def k7c6 : Code := { maxStack := 1, maxLocals := 1, code := jdk_42_method_152_code, exceptionTable := #[], attributes := #[] }
def k7m6 : Method := { name := "coder", desc := "()B", sig := { parameters := [], returnType := some .byte }, accessFlags := 0, code := some k7c6 }
def k7c7 : Code := { maxStack := 1, maxLocals := 1, code := jdk_42_method_154_code, exceptionTable := #[], attributes := #[] }
def k7m7 : Method := { name := "isLatin1", desc := "()Z", sig := { parameters := [], returnType := some .boolean }, accessFlags := 0, code := some k7c7 }
def k7c8 : Code := { maxStack := 3, maxLocals := 2, code := jdk_42_method_155_code, exceptionTable := #[], attributes := #[] }
def k7m8 : Method := { name := "checkIndex", desc := "(II)V", sig := { parameters := [.int, .int], returnType := none }, accessFlags := 8, code := some k7c8 }
/-- java/lang/String -/
def k7 : Class := { plain "java/lang/String" (some 0) with
  accessFlags := 49
  interfaces := #[2, 3, 4, 5, 6]
  cf := some (fileOf pool7 10 #[.nestMembers #[1103]] #[{ accessFlags := 1, nameIndex := 5, descriptorIndex := 6, attributes := #[] }, { accessFlags := 1, nameIndex := 5, descriptorIndex := 1010, attributes := #[] }, { accessFlags := 1, nameIndex := 507, descriptorIndex := 334, attributes := #[] }, { accessFlags := 1, nameIndex := 692, descriptorIndex := 142, attributes := #[] }, { accessFlags := 1, nameIndex := 497, descriptorIndex := 427, attributes := #[] }, { accessFlags := 2, nameIndex := 5, descriptorIndex := 29, attributes := #[] }, { accessFlags := 0, nameIndex := 17, descriptorIndex := 337, attributes := #[] }, { accessFlags := 0, nameIndex := 494, descriptorIndex := 142, attributes := #[] }, { accessFlags := 8, nameIndex := 501, descriptorIndex := 391, attributes := #[] }] 49 2 #[1106, 1108, 575, 1110, 1112] #[{ accessFlags := 18, nameIndex := 13, descriptorIndex := 14, attributes := #[] }, { accessFlags := 18, nameIndex := 17, descriptorIndex := 18, attributes := #[] }, { accessFlags := 2, nameIndex := 21, descriptorIndex := 22, attributes := #[] }, { accessFlags := 2, nameIndex := 25, descriptorIndex := 26, attributes := #[] }, { accessFlags := 26, nameIndex := 1116, descriptorIndex := 1117, attributes := #[] }, { accessFlags := 24, nameIndex := 40, descriptorIndex := 26, attributes := #[] }, { accessFlags := 26, nameIndex := 1101, descriptorIndex := 1102, attributes := #[] }, { accessFlags := 26, nameIndex := 1121, descriptorIndex := 1122, attributes := #[] }, { accessFlags := 25, nameIndex := 599, descriptorIndex := 600, attributes := #[] }, { accessFlags := 24, nameIndex := 1125, descriptorIndex := 18, attributes := #[] }, { accessFlags := 24, nameIndex := 1127, descriptorIndex := 18, attributes := #[] }])
  fields := #[{ name := "value", type := (.array .byte), accessFlags := 18, slot := 0, constantValue := 0 }, { name := "coder", type := .byte, accessFlags := 18, slot := 1, constantValue := 0 }, { name := "hash", type := .int, accessFlags := 2, slot := 2, constantValue := 0 }, { name := "hashIsZero", type := .boolean, accessFlags := 2, slot := 3, constantValue := 0 }, { name := "serialVersionUID", type := .long, accessFlags := 26, slot := 0, constantValue := 0 }, { name := "COMPACT_STRINGS", type := .boolean, accessFlags := 24, slot := 1, constantValue := 0 }, { name := "serialPersistentFields", type := (.array (.object "java/io/ObjectStreamField")), accessFlags := 26, slot := 2, constantValue := 0 }, { name := "REPL", type := .char, accessFlags := 26, slot := 3, constantValue := 0 }, { name := "CASE_INSENSITIVE_ORDER", type := (.object "java/util/Comparator"), accessFlags := 25, slot := 4, constantValue := 0 }, { name := "LATIN1", type := .byte, accessFlags := 24, slot := 5, constantValue := 0 }, { name := "UTF16", type := .byte, accessFlags := 24, slot := 6, constantValue := 0 }]
  methods := #[k7m0, k7m1, k7m2, k7m3, k7m4, k7m5, k7m6, k7m7, k7m8]
  instanceTypes := #[(.array .byte), .byte, .int, .boolean]
  staticTypes := #[.long, .boolean, (.array (.object "java/io/ObjectStreamField")), .char, (.object "java/util/Comparator"), .byte, .byte]
  resolved := Array.replicate 1451 none
  statics := some 0 }

def pool8 : Array CpInfo := pool [(6, .class_ 8), (1, u "java/lang/Object"), (0, u "<init>"), (0, u "()V"), (1, .class_ 14), (1, u "java/lang/StringUTF16"), (31, u "$assertionsDisabled"), (0, u "Z"), (13, u "HI_BYTE_SHIFT"), (0, u "I"), (2, u "LO_BYTE_SHIFT"), (49, .methodref 12 116), (0, .nameAndType 117 118), (0, u "compress"), (0, u "([CI[BII)I"), (3, u "([CII)[B"), (138, u "coderFromArrayLen"), (0, u "([BI)B"), (106, .class_ 371), (1, u "java/lang/StringUTF16$LinesSpliterator"), (58, u "MAX_LENGTH"), (196, .class_ 628), (0, u "java/lang/StringUTF16$CodePointsSpliterator"), (0, .class_ 630), (0, u "java/lang/StringUTF16$CharsSpliterator")] 4

def k8m0 : Method := { name := "<init>", desc := "()V", sig := { parameters := [], returnType := none }, accessFlags := 0, code := none }
def k8c1 : Code := { maxStack := 2, maxLocals := 2, code := jdk_52_method_15_code, exceptionTable := #[], attributes := #[] }
def k8m1 : Method := { name := "coderFromArrayLen", desc := "([BI)B", sig := { parameters := [(.array .byte), .int], returnType := some .byte }, accessFlags := 8, code := some k8c1 }
def k8c2 : Code := { maxStack := 5, maxLocals := 6, code := jdk_52_method_16_code, exceptionTable := #[], attributes := #[] }
def k8m2 : Method := { name := "compress", desc := "([CII)[B", sig := { parameters := [(.array .char), .int, .int], returnType := some (.array .byte) }, accessFlags := 9, code := some k8c2 }
def k8c3 : Code := { maxStack := 3, maxLocals := 7, code := jdk_52_method_21_code, exceptionTable := #[], attributes := #[] }
def k8m3 : Method := { name := "compress", desc := "([CI[BII)I", sig := { parameters := [(.array .char), .int, (.array .byte), .int, .int], returnType := some .int }, accessFlags := 9, code := some k8c3 }
/-- java/lang/StringUTF16 -/
def k8 : Class := { plain "java/lang/StringUTF16" (some 0) with
  accessFlags := 48
  interfaces := #[]
  cf := some (fileOf pool8 12 #[.nestMembers #[627, 629, 369]] #[{ accessFlags := 0, nameIndex := 9, descriptorIndex := 10, attributes := #[] }, { accessFlags := 8, nameIndex := 261, descriptorIndex := 262, attributes := #[] }, { accessFlags := 9, nameIndex := 117, descriptorIndex := 122, attributes := #[] }, { accessFlags := 9, nameIndex := 117, descriptorIndex := 118, attributes := #[] }] 48 6 #[] #[{ accessFlags := 26, nameIndex := 61, descriptorIndex := 62, attributes := #[] }, { accessFlags := 26, nameIndex := 65, descriptorIndex := 62, attributes := #[] }, { accessFlags := 24, nameIndex := 430, descriptorIndex := 62, attributes := #[] }, { accessFlags := 4120, nameIndex := 46, descriptorIndex := 47, attributes := #[] }])
  fields := #[{ name := "HI_BYTE_SHIFT", type := .int, accessFlags := 26, slot := 0, constantValue := 0 }, { name := "LO_BYTE_SHIFT", type := .int, accessFlags := 26, slot := 1, constantValue := 0 }, { name := "MAX_LENGTH", type := .int, accessFlags := 24, slot := 2, constantValue := 0 }, { name := "$assertionsDisabled", type := .boolean, accessFlags := 4120, slot := 3, constantValue := 0 }]
  methods := #[k8m0, k8m1, k8m2, k8m3]
  instanceTypes := #[]
  staticTypes := #[.int, .int, .int, .boolean]
  resolved := Array.replicate 635 none
  statics := none }

def pool9 : Array CpInfo := pool [(2, .class_ 4), (1, u "java/lang/Object"), (0, u "<init>"), (0, u "()V"), (0, .methodref 8 9), (0, .class_ 10), (0, .nameAndType 11 12), (0, u "java/lang/String"), (0, u "isEmpty"), (0, u "()Z"), (0, .long 18446744073709551615), (1, .methodref 8 16), (0, .nameAndType 17 18), (0, u "length"), (0, u "()I"), (2, .long 2147483647), (1, .methodref 8 24), (0, .nameAndType 25 26), (0, u "charAt"), (0, u "(I)C"), (0, .long 10), (1, .long 48), (10, .class_ 41), (0, u "com/example/grant/grant/WholeNumber"), (2, u "parse"), (0, u "(Ljava/lang/String;)I")] 18

def k9m0 : Method := { name := "<init>", desc := "()V", sig := { parameters := [], returnType := none }, accessFlags := 2, code := none }
def k9c1 : Code := { maxStack := 4, maxLocals := 5, code := prog_23_method_2_code, exceptionTable := #[], attributes := #[] }
def k9m1 : Method := { name := "parse", desc := "(Ljava/lang/String;)I", sig := { parameters := [(.object "java/lang/String")], returnType := some .int }, accessFlags := 8, code := some k9c1 }
/-- com/example/grant/grant/WholeNumber -/
def k9 : Class := { plain "com/example/grant/grant/WholeNumber" (some 0) with
  accessFlags := 32
  interfaces := #[]
  cf := some (fileOf pool9 40 #[] #[{ accessFlags := 2, nameIndex := 5, descriptorIndex := 6, attributes := #[] }, { accessFlags := 8, nameIndex := 44, descriptorIndex := 45, attributes := #[] }] 32 2 #[] #[])
  fields := #[]
  methods := #[k9m0, k9m1]
  instanceTypes := #[]
  staticTypes := #[]
  resolved := Array.replicate 64 none
  statics := none }

def pool10 : Array CpInfo := pool [(1, .class_ 2), (0, u "java/lang/String"), (1, .class_ 6), (1, u "java/lang/Object"), (0, u "<init>"), (0, u "()V"), (0, .methodref 1 10), (0, .nameAndType 11 12), (0, u "checkIndex"), (0, u "(II)V"), (1, .class_ 16), (1, u "java/lang/StringLatin1"), (36, u "([BI)C"), (67, u "$assertionsDisabled"), (0, u "Z"), (98, .class_ 223), (1, u "java/lang/StringLatin1$LinesSpliterator"), (28, u "charAt"), (137, .class_ 391), (0, u "java/lang/StringLatin1$CharsSpliterator")] 3

def k10m0 : Method := { name := "<init>", desc := "()V", sig := { parameters := [], returnType := none }, accessFlags := 0, code := none }
def k10c1 : Code := { maxStack := 2, maxLocals := 2, code := jdk_43_method_2_code, exceptionTable := #[], attributes := #[] }
def k10m1 : Method := { name := "charAt", desc := "([BI)C", sig := { parameters := [(.array .byte), .int], returnType := some .char }, accessFlags := 9, code := some k10c1 }
/-- java/lang/StringLatin1 -/
def k10 : Class := { plain "java/lang/StringLatin1" (some 0) with
  accessFlags := 48
  interfaces := #[]
  cf := some (fileOf pool10 14 #[.nestMembers #[390, 221]] #[{ accessFlags := 0, nameIndex := 7, descriptorIndex := 8, attributes := #[] }, { accessFlags := 9, nameIndex := 252, descriptorIndex := 53, attributes := #[] }] 48 4 #[] #[{ accessFlags := 4120, nameIndex := 121, descriptorIndex := 122, attributes := #[] }])
  fields := #[{ name := "$assertionsDisabled", type := .boolean, accessFlags := 4120, slot := 0, constantValue := 0 }]
  methods := #[k10m0, k10m1]
  instanceTypes := #[]
  staticTypes := #[.boolean]
  resolved := Array.replicate 395 none
  statics := none }

def pool11 : Array CpInfo := pool [(2, .class_ 4), (1, u "java/lang/Object"), (0, u "<init>"), (0, u "()V"), (17, .class_ 26), (1, u "jdk/internal/util/Preconditions"), (6, u "checkIndex"), (21, .class_ 56), (0, u "jdk/internal/util/Preconditions$4"), (57, .class_ 115), (0, u "jdk/internal/util/Preconditions$1"), (7, u "SIOOBE_FORMATTER"), (0, u "Ljava/util/function/BiFunction;"), (0, .class_ 126), (0, u "jdk/internal/util/Preconditions$2"), (3, u "AIOOBE_FORMATTER"), (0, .class_ 132), (0, u "jdk/internal/util/Preconditions$3"), (3, u "IOOBE_FORMATTER"), (41, u "(IILjava/util/function/BiFunction;)I")] 15

def k11m0 : Method := { name := "<init>", desc := "()V", sig := { parameters := [], returnType := none }, accessFlags := 1, code := none }
def k11c1 : Code := { maxStack := 3, maxLocals := 3, code := jdk_41_method_11_code, exceptionTable := #[], attributes := #[] }
def k11m1 : Method := { name := "checkIndex", desc := "(IILjava/util/function/BiFunction;)I", sig := { parameters := [.int, .int, (.object "java/util/function/BiFunction")], returnType := some .int }, accessFlags := 9, code := some k11c1 }
/-- jdk/internal/util/Preconditions -/
def k11 : Class := { plain "jdk/internal/util/Preconditions" (some 0) with
  accessFlags := 33
  interfaces := #[]
  cf := some (fileOf pool11 24 #[.nestMembers #[55, 131, 125, 114]] #[{ accessFlags := 1, nameIndex := 5, descriptorIndex := 6, attributes := #[] }, { accessFlags := 9, nameIndex := 33, descriptorIndex := 178, attributes := #[] }] 33 2 #[] #[{ accessFlags := 25, nameIndex := 123, descriptorIndex := 124, attributes := #[] }, { accessFlags := 25, nameIndex := 130, descriptorIndex := 124, attributes := #[] }, { accessFlags := 25, nameIndex := 136, descriptorIndex := 124, attributes := #[] }])
  fields := #[{ name := "SIOOBE_FORMATTER", type := (.object "java/util/function/BiFunction"), accessFlags := 25, slot := 0, constantValue := 0 }, { name := "AIOOBE_FORMATTER", type := (.object "java/util/function/BiFunction"), accessFlags := 25, slot := 1, constantValue := 0 }, { name := "IOOBE_FORMATTER", type := (.object "java/util/function/BiFunction"), accessFlags := 25, slot := 2, constantValue := 0 }]
  methods := #[k11m0, k11m1]
  instanceTypes := #[]
  staticTypes := #[(.object "java/util/function/BiFunction"), (.object "java/util/function/BiFunction"), (.object "java/util/function/BiFunction")]
  resolved := Array.replicate 194 none
  statics := some 1 }

def pool12 : Array CpInfo := pool [(9, u "<init>"), (6, .class_ 18), (1, u "java/lang/Object"), (0, u "()V"), (1, .class_ 23), (1, u "jdk/internal/util/ArraysSupport"), (0, u "LOG2_ARRAY_LONG_INDEX_SCALE"), (0, u "I"), (2, u "U"), (0, u "Ljdk/internal/misc/Unsafe;"), (8, u "BIG_ENDIAN"), (0, u "Z"), (8, u "LOG2_BYTE_BIT_SIZE"), (4, u "LOG2_ARRAY_INT_INDEX_SCALE"), (54, u "JLA"), (0, u "Ljdk/internal/access/JavaLangAccess;"), (11, u "LOG2_ARRAY_BOOLEAN_INDEX_SCALE"), (9, u "LOG2_ARRAY_BYTE_INDEX_SCALE"), (5, u "LOG2_ARRAY_CHAR_INDEX_SCALE"), (5, u "LOG2_ARRAY_SHORT_INDEX_SCALE"), (18, u "LOG2_ARRAY_FLOAT_INDEX_SCALE"), (24, u "LOG2_ARRAY_DOUBLE_INDEX_SCALE"), (89, u "T_BOOLEAN"), (2, u "T_CHAR"), (1, u "T_FLOAT"), (1, u "T_DOUBLE"), (1, u "T_BYTE"), (1, u "T_SHORT"), (1, u "T_INT"), (1, u "T_LONG"), (1, u "SOFT_MAX_ARRAY_LENGTH")] 83

def k12m0 : Method := { name := "<init>", desc := "()V", sig := { parameters := [], returnType := none }, accessFlags := 2, code := none }
/-- jdk/internal/util/ArraysSupport -/
def k12 : Class := { plain "jdk/internal/util/ArraysSupport" (some 0) with
  accessFlags := 33
  interfaces := #[]
  cf := some (fileOf pool12 21 #[] #[{ accessFlags := 2, nameIndex := 9, descriptorIndex := 19, attributes := #[] }] 33 16 #[] #[{ accessFlags := 24, nameIndex := 28, descriptorIndex := 29, attributes := #[] }, { accessFlags := 26, nameIndex := 38, descriptorIndex := 39, attributes := #[] }, { accessFlags := 25, nameIndex := 121, descriptorIndex := 25, attributes := #[] }, { accessFlags := 25, nameIndex := 131, descriptorIndex := 25, attributes := #[] }, { accessFlags := 25, nameIndex := 137, descriptorIndex := 25, attributes := #[] }, { accessFlags := 25, nameIndex := 143, descriptorIndex := 25, attributes := #[] }, { accessFlags := 25, nameIndex := 53, descriptorIndex := 25, attributes := #[] }, { accessFlags := 25, nameIndex := 24, descriptorIndex := 25, attributes := #[] }, { accessFlags := 25, nameIndex := 162, descriptorIndex := 25, attributes := #[] }, { accessFlags := 25, nameIndex := 187, descriptorIndex := 25, attributes := #[] }, { accessFlags := 26, nameIndex := 48, descriptorIndex := 25, attributes := #[] }, { accessFlags := 25, nameIndex := 277, descriptorIndex := 25, attributes := #[] }, { accessFlags := 25, nameIndex := 280, descriptorIndex := 25, attributes := #[] }, { accessFlags := 25, nameIndex := 282, descriptorIndex := 25, attributes := #[] }, { accessFlags := 25, nameIndex := 284, descriptorIndex := 25, attributes := #[] }, { accessFlags := 25, nameIndex := 286, descriptorIndex := 25, attributes := #[] }, { accessFlags := 25, nameIndex := 288, descriptorIndex := 25, attributes := #[] }, { accessFlags := 25, nameIndex := 290, descriptorIndex := 25, attributes := #[] }, { accessFlags := 25, nameIndex := 292, descriptorIndex := 25, attributes := #[] }, { accessFlags := 26, nameIndex := 108, descriptorIndex := 109, attributes := #[] }, { accessFlags := 25, nameIndex := 294, descriptorIndex := 25, attributes := #[] }])
  fields := #[{ name := "U", type := (.object "jdk/internal/misc/Unsafe"), accessFlags := 24, slot := 0, constantValue := 0 }, { name := "BIG_ENDIAN", type := .boolean, accessFlags := 26, slot := 1, constantValue := 0 }, { name := "LOG2_ARRAY_BOOLEAN_INDEX_SCALE", type := .int, accessFlags := 25, slot := 2, constantValue := 0 }, { name := "LOG2_ARRAY_BYTE_INDEX_SCALE", type := .int, accessFlags := 25, slot := 3, constantValue := 0 }, { name := "LOG2_ARRAY_CHAR_INDEX_SCALE", type := .int, accessFlags := 25, slot := 4, constantValue := 0 }, { name := "LOG2_ARRAY_SHORT_INDEX_SCALE", type := .int, accessFlags := 25, slot := 5, constantValue := 0 }, { name := "LOG2_ARRAY_INT_INDEX_SCALE", type := .int, accessFlags := 25, slot := 6, constantValue := 0 }, { name := "LOG2_ARRAY_LONG_INDEX_SCALE", type := .int, accessFlags := 25, slot := 7, constantValue := 0 }, { name := "LOG2_ARRAY_FLOAT_INDEX_SCALE", type := .int, accessFlags := 25, slot := 8, constantValue := 0 }, { name := "LOG2_ARRAY_DOUBLE_INDEX_SCALE", type := .int, accessFlags := 25, slot := 9, constantValue := 0 }, { name := "LOG2_BYTE_BIT_SIZE", type := .int, accessFlags := 26, slot := 10, constantValue := 0 }, { name := "T_BOOLEAN", type := .int, accessFlags := 25, slot := 11, constantValue := 0 }, { name := "T_CHAR", type := .int, accessFlags := 25, slot := 12, constantValue := 0 }, { name := "T_FLOAT", type := .int, accessFlags := 25, slot := 13, constantValue := 0 }, { name := "T_DOUBLE", type := .int, accessFlags := 25, slot := 14, constantValue := 0 }, { name := "T_BYTE", type := .int, accessFlags := 25, slot := 15, constantValue := 0 }, { name := "T_SHORT", type := .int, accessFlags := 25, slot := 16, constantValue := 0 }, { name := "T_INT", type := .int, accessFlags := 25, slot := 17, constantValue := 0 }, { name := "T_LONG", type := .int, accessFlags := 25, slot := 18, constantValue := 0 }, { name := "JLA", type := (.object "jdk/internal/access/JavaLangAccess"), accessFlags := 26, slot := 19, constantValue := 0 }, { name := "SOFT_MAX_ARRAY_LENGTH", type := .int, accessFlags := 25, slot := 20, constantValue := 0 }]
  methods := #[k12m0]
  instanceTypes := #[]
  staticTypes := #[(.object "jdk/internal/misc/Unsafe"), .boolean, .int, .int, .int, .int, .int, .int, .int, .int, .int, .int, .int, .int, .int, .int, .int, .int, .int, (.object "jdk/internal/access/JavaLangAccess"), .int]
  resolved := Array.replicate 378 none
  statics := none }

def pool13 : Array CpInfo := pool [(1, u "java/lang/Cloneable"), (0, .class_ 1), (0, u "java/lang/Object"), (0, .class_ 3)] 3

/-- java/lang/Cloneable -/
def k13 : Class := { plain "java/lang/Cloneable" (some 0) with
  accessFlags := 1537
  interfaces := #[]
  cf := some (fileOf pool13 2 #[] #[] 1537 4 #[] #[])
  fields := #[]
  methods := #[]
  instanceTypes := #[]
  staticTypes := #[]
  resolved := Array.replicate 8 none
  statics := none }

/-- the primitive byte -/
def k14 : Class := { plain "byte" none with kind := .primitive 'B', accessFlags := 0x411 }
/-- [B -/
def k15 : Class := { plain "[B" (some 0) with kind := .array 14 .byte, interfaces := #[13, 2], accessFlags := 1041 }

/-- the primitive char -/
def k16 : Class := { plain "char" none with kind := .primitive 'C', accessFlags := 0x411 }
/-- [C -/
def k17 : Class := { plain "[C" (some 0) with kind := .array 16 .char, interfaces := #[13, 2], accessFlags := 1041 }

/-- the primitive int -/
def k18 : Class := { plain "int" none with kind := .primitive 'I', accessFlags := 0x411 }
/-- [I -/
def k19 : Class := { plain "[I" (some 0) with kind := .array 18 .int, interfaces := #[13, 2], accessFlags := 1041 }

def heap : Heap := #[{ cls := 7, slots := #[.long 0, .int 1, .null, .int 0, .null, .int 0, .int 0], vm := .statics 7 },
  { cls := 11, slots := #[.null, .null, .null], vm := .statics 11 }]
def classes : Array Class := #[k0, k1, k2, k3, k4, k5, k6, k7, k8, k9, k10, k11, k12, k13, k14, k15, k16, k17, k18, k19]
def interned : List (Array UInt16 × Addr) := []
def slotsUsed : Nat := 10
def theMethod : MethodId := ⟨1, 1⟩
def args0 : Array Value := #[.int 5, .int 7]
def aboutOver (below : List Frame) : State where
  vm := { classes := classes, interned := interned.toArray }
  heap := heap
  slotsUsed := slotsUsed
  threads := #[{ frames := .invoking theMethod args0 :: below }]
def below0 : List Frame := [.native { method := ⟨0, 0⟩, args := #[] }]
def about1 : State := aboutOver below0
def p0 : Program := .bare "" "" ""
def e0 : Env := launch0.env 0 0 0
theorem w_frames : about1.frames = Frame.invoking theMethod args0 :: below0 := rfl
set_option maxRecDepth 65536 in
theorem w_args : argsFit about1.vm theMethod args0 = true := by decide +kernel
set_option maxRecDepth 65536 in
theorem w_heap : heapFits about1 = true := by decide +kernel
set_option maxRecDepth 65536 in
theorem w_runnable : about1.curStatus? = some .runnable := by decide +kernel
set_option maxRecDepth 65536 in
theorem w_alone : about1.alone = true := by decide +kernel
set_option maxRecDepth 65536 in
theorem w_named : about1.methodNamed? x = some theMethod := by decide +kernel
set_option maxRecDepth 65536 in
theorem w_hears : about1.hears theMethod below0 = true := by decide +kernel
set_option maxRecDepth 65536 in
theorem w_ripe : about1.ripe theMethod args0 below0 = true := by decide +kernel
theorem w_running : about1.status = .running := rfl
set_option maxRecDepth 65536 in
theorem w_room : about1.hasRoom e0.platform room_1 = true :=
  launch0.hasRoom_least _ room_1 (by decide +kernel) (by decide +kernel) (by decide +kernel) (by decide +kernel) (by decide +kernel) (by decide +kernel)
theorem allAtoms_all (ts : List Jvm.Cond) (a : Array Jvm.Value) (st : Jvm.State) : (allAtoms ts).before a st = ts.all (fun c => c.before a st) := by
  induction ts with
  | nil => rfl
  | cons c t ih =>
    show (Jvm.Cond.and c (allAtoms t)).before a st = _
    rw [Jvm.Cond.before_and, ih, List.all_cons]
def words1 : List Jvm.Cond := Jvm.Cond.code x code maxLocals ret :: tables_1
/-- a 'code' word, met by the world's own term for the bytes: nothing is compared byte by byte -/
theorem code_word {y : MethodName} {bytes : ByteArray} {mx : Nat} {rt : Option FieldType} {a : Array Value} {s : State} {m : MethodId} {meth : Method} {c : Code} (h1 : s.methodNamed? y = some m) (h2 : s.vm.method? m = some meth) (h3 : meth.code = some c) (h4 : c.code = bytes)
    (h5 : (c.maxLocals == mx && c.exceptionTable.isEmpty && decide (c.maxStack ≤ mostOperands) && decide (meth.sig.returnType = rt) && !meth.locks && decide (parseMethodDescriptor y.desc = some meth.sig)) = true) : (Jvm.Cond.code y bytes mx rt).before a s = true := by
  simp only [Bool.and_eq_true, beq_iff_eq, Bool.not_eq_true', decide_eq_true_eq] at h5
  obtain ⟨⟨⟨⟨⟨g1, g2⟩, g3⟩, g4⟩, g5⟩, g6⟩ := h5
  simp [Cond.before, Cond.holds, Cond.value, h1, h2, h3, h4, g1, g2, g3, g4, g5, g6]
def isCode : Jvm.Cond → Bool
  | .code _ _ _ _ => true
  | _ => false
theorem all_split {L : List Jvm.Cond} {P : Jvm.Cond → Bool} (h1 : L.all (fun c => isCode c || P c) = true) (h2 : ∀ c ∈ L.filter isCode, P c = true) : L.all P = true := by
  refine List.all_eq_true.mpr fun c hc => ?_
  have h := List.all_eq_true.mp h1 c hc
  rcases Bool.eq_false_or_eq_true (isCode c) with hi | hi
  · exact h2 c (List.mem_filter.mpr ⟨hc, hi⟩)
  · simpa [hi] using h
set_option maxRecDepth 65536 in
theorem w_c0 : (Jvm.Cond.code x code maxLocals ret).before args0 about1 = true := code_word (m := ⟨1, 1⟩) (meth := k1m1) (c := k1c1) (by decide +kernel) rfl rfl rfl (by decide +kernel)
set_option maxRecDepth 65536 in
theorem w_c1 : (Jvm.Cond.code ({ cls := "com/example/grant/grant/WholeNumberParsePinLaw", name := "digit", desc := "(IJ)C" } : Jvm.MethodName) method_3_code (3 : Nat) (Option.some Jvm.ClassFile.FieldType.char)).before args0 about1 = true := code_word (m := ⟨1, 2⟩) (meth := k1m2) (c := k1c2) (by decide +kernel) rfl rfl rfl (by decide +kernel)
set_option maxRecDepth 65536 in
theorem w_c2 : (Jvm.Cond.code ({ cls := "com/example/grant/grant/WholeNumberParsePinLaw", name := "str", desc := "([CI)Ljava/lang/String;" } : Jvm.MethodName) method_5_code (2 : Nat) (Option.some (Jvm.ClassFile.FieldType.object "java/lang/String"))).before args0 about1 = true := code_word (m := ⟨1, 4⟩) (meth := k1m4) (c := k1c4) (by decide +kernel) rfl rfl rfl (by decide +kernel)
set_option maxRecDepth 65536 in
theorem w_c3 : (Jvm.Cond.code ({ cls := "java/lang/String", name := "<init>", desc := "([C)V" } : Jvm.MethodName) jdk_42_method_3_code (2 : Nat) (Option.none : Option Jvm.ClassFile.FieldType)).before args0 about1 = true := code_word (m := ⟨7, 1⟩) (meth := k7m1) (c := k7c1) (by decide +kernel) rfl rfl rfl (by decide +kernel)
set_option maxRecDepth 65536 in
theorem w_c4 : (Jvm.Cond.code ({ cls := "java/lang/String", name := "<init>", desc := "([CIILjava/lang/Void;)V" } : Jvm.MethodName) jdk_42_method_149_code (6 : Nat) (Option.none : Option Jvm.ClassFile.FieldType)).before args0 about1 = true := code_word (m := ⟨7, 5⟩) (meth := k7m5) (c := k7c5) (by decide +kernel) rfl rfl rfl (by decide +kernel)
set_option maxRecDepth 65536 in
theorem w_c5 : (Jvm.Cond.code ({ cls := "java/lang/Object", name := "<init>", desc := "()V" } : Jvm.MethodName) object_method_1_code (1 : Nat) (Option.none : Option Jvm.ClassFile.FieldType)).before args0 about1 = true := code_word (m := ⟨0, 0⟩) (meth := k0m0) (c := k0c0) (by decide +kernel) rfl rfl rfl (by decide +kernel)
set_option maxRecDepth 65536 in
theorem w_c6 : (Jvm.Cond.code ({ cls := "java/lang/StringUTF16", name := "compress", desc := "([CII)[B" } : Jvm.MethodName) jdk_52_method_16_code (6 : Nat) (Option.some (Jvm.ClassFile.FieldType.array Jvm.ClassFile.FieldType.byte))).before args0 about1 = true := code_word (m := ⟨8, 2⟩) (meth := k8m2) (c := k8c2) (by decide +kernel) rfl rfl rfl (by decide +kernel)
set_option maxRecDepth 65536 in
theorem w_c7 : (Jvm.Cond.code ({ cls := "java/lang/StringUTF16", name := "compress", desc := "([CI[BII)I" } : Jvm.MethodName) jdk_52_method_21_code (7 : Nat) (Option.some Jvm.ClassFile.FieldType.int)).before args0 about1 = true := code_word (m := ⟨8, 3⟩) (meth := k8m3) (c := k8c3) (by decide +kernel) rfl rfl rfl (by decide +kernel)
set_option maxRecDepth 65536 in
theorem w_c8 : (Jvm.Cond.code ({ cls := "java/lang/StringUTF16", name := "coderFromArrayLen", desc := "([BI)B" } : Jvm.MethodName) jdk_52_method_15_code (2 : Nat) (Option.some Jvm.ClassFile.FieldType.byte)).before args0 about1 = true := code_word (m := ⟨8, 1⟩) (meth := k8m1) (c := k8c1) (by decide +kernel) rfl rfl rfl (by decide +kernel)
set_option maxRecDepth 65536 in
theorem w_c9 : (Jvm.Cond.code ({ cls := "com/example/grant/grant/WholeNumberParsePinLaw", name := "pow", desc := "(I)J" } : Jvm.MethodName) method_4_code (1 : Nat) (Option.some Jvm.ClassFile.FieldType.long)).before args0 about1 = true := code_word (m := ⟨1, 3⟩) (meth := k1m3) (c := k1c3) (by decide +kernel) rfl rfl rfl (by decide +kernel)
set_option maxRecDepth 65536 in
theorem w_c10 : (Jvm.Cond.code ({ cls := "java/lang/String", name := "length", desc := "()I" } : Jvm.MethodName) jdk_42_method_54_code (1 : Nat) (Option.some Jvm.ClassFile.FieldType.int)).before args0 about1 = true := code_word (m := ⟨7, 2⟩) (meth := k7m2) (c := k7c2) (by decide +kernel) rfl rfl rfl (by decide +kernel)
set_option maxRecDepth 65536 in
theorem w_c11 : (Jvm.Cond.code ({ cls := "java/lang/String", name := "coder", desc := "()B" } : Jvm.MethodName) jdk_42_method_152_code (1 : Nat) (Option.some Jvm.ClassFile.FieldType.byte)).before args0 about1 = true := code_word (m := ⟨7, 6⟩) (meth := k7m6) (c := k7c6) (by decide +kernel) rfl rfl rfl (by decide +kernel)
set_option maxRecDepth 65536 in
theorem w_c12 : (Jvm.Cond.code ({ cls := "com/example/grant/grant/WholeNumber", name := "parse", desc := "(Ljava/lang/String;)I" } : Jvm.MethodName) prog_23_method_2_code (5 : Nat) (Option.some Jvm.ClassFile.FieldType.int)).before args0 about1 = true := code_word (m := ⟨9, 1⟩) (meth := k9m1) (c := k9c1) (by decide +kernel) rfl rfl rfl (by decide +kernel)
set_option maxRecDepth 65536 in
theorem w_c13 : (Jvm.Cond.code ({ cls := "java/lang/String", name := "isEmpty", desc := "()Z" } : Jvm.MethodName) jdk_42_method_55_code (1 : Nat) (Option.some Jvm.ClassFile.FieldType.boolean)).before args0 about1 = true := code_word (m := ⟨7, 3⟩) (meth := k7m3) (c := k7c3) (by decide +kernel) rfl rfl rfl (by decide +kernel)
set_option maxRecDepth 65536 in
theorem w_c14 : (Jvm.Cond.code ({ cls := "java/lang/String", name := "charAt", desc := "(I)C" } : Jvm.MethodName) jdk_42_method_56_code (2 : Nat) (Option.some Jvm.ClassFile.FieldType.char)).before args0 about1 = true := code_word (m := ⟨7, 4⟩) (meth := k7m4) (c := k7c4) (by decide +kernel) rfl rfl rfl (by decide +kernel)
set_option maxRecDepth 65536 in
theorem w_c15 : (Jvm.Cond.code ({ cls := "java/lang/String", name := "isLatin1", desc := "()Z" } : Jvm.MethodName) jdk_42_method_154_code (1 : Nat) (Option.some Jvm.ClassFile.FieldType.boolean)).before args0 about1 = true := code_word (m := ⟨7, 7⟩) (meth := k7m7) (c := k7c7) (by decide +kernel) rfl rfl rfl (by decide +kernel)
set_option maxRecDepth 65536 in
theorem w_c16 : (Jvm.Cond.code ({ cls := "java/lang/StringLatin1", name := "charAt", desc := "([BI)C" } : Jvm.MethodName) jdk_43_method_2_code (2 : Nat) (Option.some Jvm.ClassFile.FieldType.char)).before args0 about1 = true := code_word (m := ⟨10, 1⟩) (meth := k10m1) (c := k10c1) (by decide +kernel) rfl rfl rfl (by decide +kernel)
set_option maxRecDepth 65536 in
theorem w_c17 : (Jvm.Cond.code ({ cls := "java/lang/String", name := "checkIndex", desc := "(II)V" } : Jvm.MethodName) jdk_42_method_155_code (2 : Nat) (Option.none : Option Jvm.ClassFile.FieldType)).before args0 about1 = true := code_word (m := ⟨7, 8⟩) (meth := k7m8) (c := k7c8) (by decide +kernel) rfl rfl rfl (by decide +kernel)
set_option maxRecDepth 65536 in
theorem w_c18 : (Jvm.Cond.code ({ cls := "jdk/internal/util/Preconditions", name := "checkIndex", desc := "(IILjava/util/function/BiFunction;)I" } : Jvm.MethodName) jdk_41_method_11_code (3 : Nat) (Option.some Jvm.ClassFile.FieldType.int)).before args0 about1 = true := code_word (m := ⟨11, 1⟩) (meth := k11m1) (c := k11c1) (by decide +kernel) rfl rfl rfl (by decide +kernel)
def codes1 : List Jvm.Cond := [Jvm.Cond.code x code maxLocals ret, Jvm.Cond.code ({ cls := "com/example/grant/grant/WholeNumberParsePinLaw", name := "digit", desc := "(IJ)C" } : Jvm.MethodName) method_3_code (3 : Nat) (Option.some Jvm.ClassFile.FieldType.char), Jvm.Cond.code ({ cls := "com/example/grant/grant/WholeNumberParsePinLaw", name := "str", desc := "([CI)Ljava/lang/String;" } : Jvm.MethodName) method_5_code (2 : Nat) (Option.some (Jvm.ClassFile.FieldType.object "java/lang/String")), Jvm.Cond.code ({ cls := "java/lang/String", name := "<init>", desc := "([C)V" } : Jvm.MethodName) jdk_42_method_3_code (2 : Nat) (Option.none : Option Jvm.ClassFile.FieldType), Jvm.Cond.code ({ cls := "java/lang/String", name := "<init>", desc := "([CIILjava/lang/Void;)V" } : Jvm.MethodName) jdk_42_method_149_code (6 : Nat) (Option.none : Option Jvm.ClassFile.FieldType), Jvm.Cond.code ({ cls := "java/lang/Object", name := "<init>", desc := "()V" } : Jvm.MethodName) object_method_1_code (1 : Nat) (Option.none : Option Jvm.ClassFile.FieldType), Jvm.Cond.code ({ cls := "java/lang/StringUTF16", name := "compress", desc := "([CII)[B" } : Jvm.MethodName) jdk_52_method_16_code (6 : Nat) (Option.some (Jvm.ClassFile.FieldType.array Jvm.ClassFile.FieldType.byte)), Jvm.Cond.code ({ cls := "java/lang/StringUTF16", name := "compress", desc := "([CI[BII)I" } : Jvm.MethodName) jdk_52_method_21_code (7 : Nat) (Option.some Jvm.ClassFile.FieldType.int), Jvm.Cond.code ({ cls := "java/lang/StringUTF16", name := "coderFromArrayLen", desc := "([BI)B" } : Jvm.MethodName) jdk_52_method_15_code (2 : Nat) (Option.some Jvm.ClassFile.FieldType.byte), Jvm.Cond.code ({ cls := "com/example/grant/grant/WholeNumberParsePinLaw", name := "pow", desc := "(I)J" } : Jvm.MethodName) method_4_code (1 : Nat) (Option.some Jvm.ClassFile.FieldType.long), Jvm.Cond.code ({ cls := "java/lang/String", name := "length", desc := "()I" } : Jvm.MethodName) jdk_42_method_54_code (1 : Nat) (Option.some Jvm.ClassFile.FieldType.int), Jvm.Cond.code ({ cls := "java/lang/String", name := "coder", desc := "()B" } : Jvm.MethodName) jdk_42_method_152_code (1 : Nat) (Option.some Jvm.ClassFile.FieldType.byte), Jvm.Cond.code ({ cls := "com/example/grant/grant/WholeNumber", name := "parse", desc := "(Ljava/lang/String;)I" } : Jvm.MethodName) prog_23_method_2_code (5 : Nat) (Option.some Jvm.ClassFile.FieldType.int), Jvm.Cond.code ({ cls := "java/lang/String", name := "isEmpty", desc := "()Z" } : Jvm.MethodName) jdk_42_method_55_code (1 : Nat) (Option.some Jvm.ClassFile.FieldType.boolean), Jvm.Cond.code ({ cls := "java/lang/String", name := "charAt", desc := "(I)C" } : Jvm.MethodName) jdk_42_method_56_code (2 : Nat) (Option.some Jvm.ClassFile.FieldType.char), Jvm.Cond.code ({ cls := "java/lang/String", name := "isLatin1", desc := "()Z" } : Jvm.MethodName) jdk_42_method_154_code (1 : Nat) (Option.some Jvm.ClassFile.FieldType.boolean), Jvm.Cond.code ({ cls := "java/lang/StringLatin1", name := "charAt", desc := "([BI)C" } : Jvm.MethodName) jdk_43_method_2_code (2 : Nat) (Option.some Jvm.ClassFile.FieldType.char), Jvm.Cond.code ({ cls := "java/lang/String", name := "checkIndex", desc := "(II)V" } : Jvm.MethodName) jdk_42_method_155_code (2 : Nat) (Option.none : Option Jvm.ClassFile.FieldType), Jvm.Cond.code ({ cls := "jdk/internal/util/Preconditions", name := "checkIndex", desc := "(IILjava/util/function/BiFunction;)I" } : Jvm.MethodName) jdk_41_method_11_code (3 : Nat) (Option.some Jvm.ClassFile.FieldType.int)]
set_option maxRecDepth 65536 in
theorem codes_eq : words1.filter isCode = codes1 := rfl
theorem w_codes : ∀ c ∈ words1.filter isCode, c.before args0 about1 = true := by
  rw [codes_eq]
  intro c hc
  simp only [codes1, List.mem_cons, List.not_mem_nil, or_false] at hc
  rcases hc with rfl | rfl | rfl | rfl | rfl | rfl | rfl | rfl | rfl | rfl | rfl | rfl | rfl | rfl | rfl | rfl | rfl | rfl | rfl
  · exact w_c0
  · exact w_c1
  · exact w_c2
  · exact w_c3
  · exact w_c4
  · exact w_c5
  · exact w_c6
  · exact w_c7
  · exact w_c8
  · exact w_c9
  · exact w_c10
  · exact w_c11
  · exact w_c12
  · exact w_c13
  · exact w_c14
  · exact w_c15
  · exact w_c16
  · exact w_c17
  · exact w_c18
set_option maxRecDepth 65536 in
theorem w_t1 : (words1.take 24).all (fun c => isCode c || c.before args0 about1) = true := by decide +kernel
set_option maxRecDepth 65536 in
theorem w_t2 : ((words1.drop 24).take 24).all (fun c => isCode c || c.before args0 about1) = true := by decide +kernel
set_option maxRecDepth 65536 in
theorem w_t3 : (((words1.drop 24).drop 24).take 24).all (fun c => isCode c || c.before args0 about1) = true := by decide +kernel
set_option maxRecDepth 65536 in
theorem w_t4 : ((((words1.drop 24).drop 24).drop 24).take 24).all (fun c => isCode c || c.before args0 about1) = true := by decide +kernel
set_option maxRecDepth 65536 in
theorem w_t5 : ((((words1.drop 24).drop 24).drop 24).drop 24).all (fun c => isCode c || c.before args0 about1) = true := by decide +kernel
theorem w_tables : (allAtoms (Jvm.Cond.code x code maxLocals ret :: tables_1)).before args0 about1 = true := by
  rw [allAtoms_all]
  show words1.all (fun c => c.before args0 about1) = true
  refine all_split ?_ w_codes
  rw [← List.take_append_drop 24 words1, List.all_append, w_t1, ← List.take_append_drop 24 (words1.drop 24), List.all_append, w_t2, ← List.take_append_drop 24 ((words1.drop 24).drop 24), List.all_append, w_t3, ← List.take_append_drop 24 (((words1.drop 24).drop 24).drop 24), List.all_append, w_t4, w_t5]
  rfl
set_option maxRecDepth 65536 in
theorem w_rest : rest_1_c.before args0 about1 = true := by decide +kernel
set_option maxRecDepth 65536 in
theorem w_case : (Jvm.Cond.and given_1 narrow_1).before args0 about1 = true := by decide +kernel
theorem w_applies : (headSpec (Jvm.Cond.code x code maxLocals ret :: tables_1) room_1).applies x e0.platform about1 = true :=
  (Spec.applies_iff w_frames).mpr ⟨w_running, w_runnable, w_alone, w_named, w_hears, w_ripe, w_room, w_tables⟩
theorem atStart : AtStart classFile x code maxLocals ret World_1 tables_1 room_1 Calls_1 rest_1 Pre_1 launch0 p0 e0 about1 theMethod args0 below0 :=
  ⟨lists_1, trivial, launch0.admits_env _ _ _, launch0.least_env, fairChoices_fair.cas, fairChoices_fair.clock, w_frames, w_args, w_heap, w_applies, trivial, w_rest, w_case⟩
end start1
theorem witness_1 : WitnessClaimed_1 := ⟨start1.p0, start1.e0, start1.about1, start1.theMethod, start1.args0, start1.below0, start1.atStart⟩
end Jvm.Pilot.@@N@@
