import JvmDerived
import JvmDerived.Pilot.@@N@@Statement
import JvmDerived.Pilot.@@N@@Code
set_option linter.unusedVariables false
set_option linter.unusedSimpArgs false
/- laws to paste: Road.backV, Road.lenW, Road.codOf, pair_says, shr0, shr1, Road.wide_lo, Road.wide_hi, lo8_mask (cut by pick.py; bodies as the Statement names them) -/
namespace Jvm.Pilot.@@N@@
namespace StrChars
open Jvm Sem ClassFile Op Lib Jvm.Stand Jvm.Free.XT Jvm.Free.ALB Jvm.Free.JM Jvm.Free
open Jvm.Lib.Cold (StaticIs)
/-- a char array whose places are chars -/
def Ch (a : Addr) (A : Cell) (U : State) : Prop := Arr .char a A U ∧ Typed .char A
theorem Ch.mv {a : Addr} {A : Cell} {U U' : State} (h : Ch a A U) (hal : U.vm.Alike U'.vm) (hh : U'.heap = U.heap) : Ch a A U' := ⟨h.1.mv hal hh, h.2⟩
theorem Ch.keep {a : Addr} {A : Cell} {U U' : State} (h : Ch a A U) (hal : U.vm.Alike U'.vm) (hk : U'.heap[a]? = some A) : Ch a A U' := ⟨h.1.keep hal hk, h.2⟩
/-- what place i of a char[]'s cell holds -/
def cv (A : Cell) (i : Nat) : Int32 := match A.slots[i]? with | some (.int x) => x | _ => 0
theorem Ch.get {a : Addr} {A : Cell} {U : State} (h : Ch a A U) {i : Nat} (hi : i < A.slots.size) : A.slots[i]? = some (.int (cv A i)) := by
  have e := Array.getElem?_eq_getElem hi
  have f := h.2 i _ e
  unfold cv; rw [e]
  generalize A.slots[i] = v at f
  cases v <;> simp [fits] at f ⊢
/-- the byte that i2b leaves of a char -/
def lo8 (x : Int32) : Int32 := x.toInt8.toInt32
theorem fits_lo8 (y : Int32) : fits .byte (.int (lo8 y)) = true := by
  have h1 := y.toInt8.le_toInt
  have h2 := y.toInt8.toInt_lt
  simp only [lo8, fits, Bool.and_eq_true, decide_eq_true_eq, Int32.le_iff_toInt_le, Int8.toInt_toInt32, show (-128 : Int32).toInt = -128 from by decide, show (127 : Int32).toInt = 127 from by decide]
  omega
/-- A' is A but that each place j of lo .. hi - 1 holds f j -/
def Laid (A A' : Cell) (lo hi : Nat) (f : Nat → Value) : Prop := A'.cls = A.cls ∧ A'.vm = A.vm ∧ A'.slots.size = A.slots.size ∧ ∀ i, A'.slots[i]? = if lo ≤ i ∧ i < hi then some (f i) else A.slots[i]?
theorem Laid.zero (A : Cell) (lo : Nat) (f : Nat → Value) : Laid A A lo (lo + 0) f := ⟨rfl, rfl, rfl, fun i => by rw [if_neg (by omega)]⟩
theorem Laid.step {A Ak : Cell} {lo k : Nat} {f : Nat → Value} {v : Value} (h : Laid A Ak lo k f) (hlo : lo ≤ k) (hk : k < Ak.slots.size) (hv : v = f k) : Laid A (Ak.setSlot k v) lo (k + 1) f := by
  refine ⟨h.1, h.2.1, by simpa [Cell.setSlot] using h.2.2.1, fun i => ?_⟩
  by_cases e : k = i
  · subst e; rw [Cell.slots_setSlot_self v hk, if_pos (by omega), hv]
  · rw [Cell.slots_setSlot_ne v e, h.2.2.2 i]
    by_cases q : lo ≤ i ∧ i < k
    · rw [if_pos q, if_pos (by omega)]
    · rw [if_neg q, if_neg (by omega)]
def U16 : String := "java/lang/StringUTF16"
namespace Cmp5
def yN : MethodName := ⟨"java/lang/StringUTF16", "compress", "([CI[BII)I"⟩
abbrev yB : ByteArray := jdk_52_method_21_code
theorem d0 : decode yB 0 = .ok (.iconst 0, 1) := by decide +kernel
theorem d1 : decode yB 1 = .ok (.istore 5, 2) := by decide +kernel
theorem d3 : decode yB 3 = .ok (.iload 5, 2) := by decide +kernel
theorem d5 : decode yB 5 = .ok (.iload 4, 2) := by decide +kernel
theorem d7 : decode yB 7 = .ok (.if_icmp (.ge) 37, 3) := by decide +kernel
theorem d10 : decode yB 10 = .ok (.aload_n 0, 1) := by decide +kernel
theorem d11 : decode yB 11 = .ok (.iload_n 1, 1) := by decide +kernel
theorem d12 : decode yB 12 = .ok (.caload, 1) := by decide +kernel
theorem d13 : decode yB 13 = .ok (.istore 6, 2) := by decide +kernel
theorem d15 : decode yB 15 = .ok (.iload 6, 2) := by decide +kernel
theorem d17 : decode yB 17 = .ok (.sipush 255, 3) := by decide +kernel
theorem d20 : decode yB 20 = .ok (.if_icmp (.le) 6, 3) := by decide +kernel
theorem d26 : decode yB 26 = .ok (.aload_n 2, 1) := by decide +kernel
theorem d27 : decode yB 27 = .ok (.iload_n 3, 1) := by decide +kernel
theorem d28 : decode yB 28 = .ok (.iload 6, 2) := by decide +kernel
theorem d30 : decode yB 30 = .ok (.i2b, 1) := by decide +kernel
theorem d31 : decode yB 31 = .ok (.bastore, 1) := by decide +kernel
theorem d32 : decode yB 32 = .ok (.iinc 1 1, 3) := by decide +kernel
theorem d35 : decode yB 35 = .ok (.iinc 3 1, 3) := by decide +kernel
theorem d38 : decode yB 38 = .ok (.iinc 5 1, 3) := by decide +kernel
theorem d41 : decode yB 41 = .ok (.goto (-38), 3) := by decide +kernel
theorem d44 : decode yB 44 = .ok (.iload 4, 2) := by decide +kernel
theorem d46 : decode yB 46 = .ok (.ireturn, 1) := by decide +kernel
def site : List Cond := []
def tab : Cond := tabOf yN yB 7 (some .int) site
def P (b : Addr) (A : Cell) (d : Addr) (B : Cell) (o q len : Nat) (args : Array Value) (s : State) : Prop := args = #[.ref b, .int (Int32.ofNat o), .ref d, .int (Int32.ofNat q), .int (Int32.ofNat len)] ∧ Ch b A s ∧ Arr .byte d B s ∧ b ≠ d ∧ o + len ≤ A.slots.size ∧ q + len ≤ B.slots.size ∧ ∀ i, i < len → ¬ 255 < cv A (o + i)
def E (b : Addr) (A : Cell) (d : Addr) (B : Cell) (o q len : Nat) (r : Option Value) (s u : State) : Prop := r = some (.int (Int32.ofNat len)) ∧ ∃ B', Put d B' s u ∧ Laid B B' q (q + len) (fun j => Value.int (lo8 (cv A (o + (j - q)))))
/-- no char of the range above 255: len; the places written hold each char's low byte -/
theorem law (l : Launch) (b : Addr) (A : Cell) (d : Addr) (B : Cell) (o q len : Nat) : Law l yN 5 5 0 0 yB 7 (some .int) site (P b A d B o q len) (E b A d B o q len) (copyLocs d q len) 0 0 := by
  refine Law.of_walk (plainFor_of_name (by decide +kernel)) (by decide +kernel) (by decide +kernel) (by decide) (fun _ _ h => by rw [h.1]; rfl) (fun _ U U' hal hh h => ⟨h.1, h.2.1.mv hal hh, h.2.2.1.mv hal hh, h.2.2.2⟩) (fun r U U' V V' h1 hal h2 h => ⟨h.1, h.2.elim fun B' q => ⟨B', q.1.mv h1 h2, q.2⟩⟩) ?_
  intro p e s m args below meth c s₁ X0 hexec hbytes hml hret hlk hnm hown hh0 W hP
  obtain ⟨rfl, hA, hB, hne, l1, l2, hp⟩ := hP
  have c1 : Steps p.tables e below (s₁.setTop (entryFrame m #[.ref b, .int (Int32.ofNat o), .ref d, .int (Int32.ofNat q), .int (Int32.ofNat len)] 7)) (s₁.setTop (mkF m 0 #[.val (.ref b), .val (.int (Int32.ofNat o)), .val (.ref d), .val (.int (Int32.ofNat q)), .val (.int (Int32.ofNat len)), .unset, .unset] [])) := entry rfl
  have hA0 := hA.1.mv X0.warmed.alike hh0
  have hB0 := hB.mv X0.warmed.alike hh0
  have a31 := hA.1.2.2.2
  have c2 : Steps p.tables e below (s₁.setTop (entryFrame m #[.ref b, .int (Int32.ofNat o), .ref d, .int (Int32.ofNat q), .int (Int32.ofNat len)] 7)) (s₁.setTop (mkF m 3 #[.val (.ref b), .val (.int (Int32.ofNat o)), .val (.ref d), .val (.int (Int32.ofNat q)), .val (.int (Int32.ofNat len)), .val (.int 0), .unset] [])) := c1.trans (by
    refine iconstV X0.here hexec rfl 0 (hb hbytes d0) (by decide) ?_
    refine XS.istore X0.here hexec rfl (hb hbytes d1) rfl rfl ?_
    exact Steps.refl _)
  have loop : ∀ (r i : Nat), i + r = len → ∀ (z : Slot), (z = .unset ∨ ∃ w, z = .val w ∧ w.category = 1) → ∀ (Tl : State) (Bk : Cell), Stand p l e { frames := 0, locals := 0, cells := 0, slots := 0 } s m #[.ref b, .int (Int32.ofNat o), .ref d, .int (Int32.ofNat q), .int (Int32.ofNat len)] below meth c Tl ([] ++ copyLocs d q i) 0 0 → Put d Bk s₁ Tl → Laid B Bk q (q + i) (fun j => Value.int (lo8 (cv A (o + (j - q))))) →
      Steps p.tables e below (s₁.setTop (entryFrame m #[.ref b, .int (Int32.ofNat o), .ref d, .int (Int32.ofNat q), .int (Int32.ofNat len)] 7)) (Tl.setTop (mkF m 3 #[.val (.ref b), .val (.int (Int32.ofNat (o + i))), .val (.ref d), .val (.int (Int32.ofNat (q + i))), .val (.int (Int32.ofNat len)), .val (.int (Int32.ofNat i)), z] [])) → ∃ (T' : State) (B' : Cell) (z' : Slot), Stand p l e { frames := 0, locals := 0, cells := 0, slots := 0 } s m #[.ref b, .int (Int32.ofNat o), .ref d, .int (Int32.ofNat q), .int (Int32.ofNat len)] below meth c T' ([] ++ copyLocs d q len) 0 0 ∧ Put d B' s₁ T' ∧ Laid B B' q (q + len) (fun j => Value.int (lo8 (cv A (o + (j - q))))) ∧
      Steps p.tables e below (s₁.setTop (entryFrame m #[.ref b, .int (Int32.ofNat o), .ref d, .int (Int32.ofNat q), .int (Int32.ofNat len)] 7)) (T'.setTop (mkF m 3 #[.val (.ref b), .val (.int (Int32.ofNat (o + len))), .val (.ref d), .val (.int (Int32.ofNat (q + len))), .val (.int (Int32.ofNat len)), .val (.int (Int32.ofNat len)), z'] [])) := by
    intro r
    induction r with
    | zero =>
      intro i hi z hz Tl Bk Xl pl fl cl
      have hil : i = len := by omega
      rw [hil] at Xl fl cl
      exact ⟨Tl, Bk, z, Xl, pl, fl, cl⟩
    | succ r ih =>
      intro i hi z hz Tl Bk Xl pl fl cl
      have all := X0.warmed.alike.symm.trans Xl.warmed.alike
      have hAl := hA0.keep all (pl.other hne hA0.1)
      have hBk := hB0.like all pl.1 fl.1 fl.2.1 fl.2.2.1
      have hlt : q + i < Bk.slots.size := by rw [fl.2.2.1]; omega
      have c3 : Steps p.tables e below (s₁.setTop (entryFrame m #[.ref b, .int (Int32.ofNat o), .ref d, .int (Int32.ofNat q), .int (Int32.ofNat len)] 7)) (Tl.setTop (mkF m 12 #[.val (.ref b), .val (.int (Int32.ofNat (o + i))), .val (.ref d), .val (.int (Int32.ofNat (q + i))), .val (.int (Int32.ofNat len)), .val (.int (Int32.ofNat i)), z] [.int (Int32.ofNat (o + i)), .ref b])) := cl.trans (by
        refine XS.iload Xl.here hexec rfl (hb hbytes d3) rfl ?_
        refine XS.iload Xl.here hexec rfl (hb hbytes d5) rfl ?_
        refine XS.icmpNo Xl.here hexec rfl (hb hbytes d7) rfl (ii_ge_f (lt32 (by omega) (by omega))) ?_
        refine XS.aloadN Xl.here hexec rfl (hb hbytes d10) rfl rfl ?_
        refine XS.iloadN Xl.here hexec rfl (hb hbytes d11) rfl ?_
        exact Steps.refl _)
      have c4 : Steps p.tables e below (s₁.setTop (entryFrame m #[.ref b, .int (Int32.ofNat o), .ref d, .int (Int32.ofNat q), .int (Int32.ofNat len)] 7)) (Tl.setTop (mkF m 13 #[.val (.ref b), .val (.int (Int32.ofNat (o + i))), .val (.ref d), .val (.int (Int32.ofNat (q + i))), .val (.int (Int32.ofNat len)), .val (.int (Int32.ofNat i)), z] [.int (cv A (o + i))])) := c3.trans (by
        refine Xl.aget hexec hAl rfl (hA.get (i := o + i) (by omega)) rfl rfl (hb hbytes d12) ?_
        exact Steps.refl _)
      have c5 : Steps p.tables e below (s₁.setTop (entryFrame m #[.ref b, .int (Int32.ofNat o), .ref d, .int (Int32.ofNat q), .int (Int32.ofNat len)] 7)) (Tl.setTop (mkF m 15 #[.val (.ref b), .val (.int (Int32.ofNat (o + i))), .val (.ref d), .val (.int (Int32.ofNat (q + i))), .val (.int (Int32.ofNat len)), .val (.int (Int32.ofNat i)), .val (.int (cv A (o + i)))] [])) := c4.trans (by
        refine XS.istoreS Xl.here hexec rfl (hb hbytes d13) rfl rfl hz ?_
        exact Steps.refl _)
      have c6 : Steps p.tables e below (s₁.setTop (entryFrame m #[.ref b, .int (Int32.ofNat o), .ref d, .int (Int32.ofNat q), .int (Int32.ofNat len)] 7)) (Tl.setTop (mkF m 31 #[.val (.ref b), .val (.int (Int32.ofNat (o + i))), .val (.ref d), .val (.int (Int32.ofNat (q + i))), .val (.int (Int32.ofNat len)), .val (.int (Int32.ofNat i)), .val (.int (cv A (o + i)))] [.int (lo8 (cv A (o + i))), .int (Int32.ofNat (q + i)), .ref d])) := c5.trans (by
        refine XS.iload Xl.here hexec rfl (hb hbytes d15) rfl ?_
        refine sipushV Xl.here hexec rfl 255 (hb hbytes d17) (by decide) ?_
        refine XS.icmpYes Xl.here hexec rfl (pc0 := 20) rfl (hb hbytes d20) rfl (ii_le_t (hp i (by omega))) (by decide) rfl ?_
        refine XS.aloadN Xl.here hexec rfl (hb hbytes d26) rfl rfl ?_
        refine XS.iloadN Xl.here hexec rfl (hb hbytes d27) rfl ?_
        refine XS.iload Xl.here hexec rfl (hb hbytes d28) rfl ?_
        refine i2b Xl.here hexec rfl (hb hbytes d30) rfl ?_
        exact Steps.refl _)
      obtain ⟨T7, X7, p7, st7⟩ := Xl.aput hexec hBk rfl hlt rfl (fits_lo8 (cv A (o + i))) (g := (mkF m 31 #[.val (.ref b), .val (.int (Int32.ofNat (o + i))), .val (.ref d), .val (.int (Int32.ofNat (q + i))), .val (.int (Int32.ofNat len)), .val (.int (Int32.ofNat i)), .val (.int (cv A (o + i)))] [.int (lo8 (cv A (o + i))), .int (Int32.ofNat (q + i)), .ref d])) rfl (rest := []) rfl (hb hbytes d31)
      have c8 : Steps p.tables e below (s₁.setTop (entryFrame m #[.ref b, .int (Int32.ofNat o), .ref d, .int (Int32.ofNat q), .int (Int32.ofNat len)] 7)) (T7.setTop (mkF m 32 #[.val (.ref b), .val (.int (Int32.ofNat (o + i))), .val (.ref d), .val (.int (Int32.ofNat (q + i))), .val (.int (Int32.ofNat len)), .val (.int (Int32.ofNat i)), .val (.int (cv A (o + i)))] [])) := c6.trans (st7 _ (Steps.refl _))
      have c9 : Steps p.tables e below (s₁.setTop (entryFrame m #[.ref b, .int (Int32.ofNat o), .ref d, .int (Int32.ofNat q), .int (Int32.ofNat len)] 7)) (T7.setTop (mkF m 3 #[.val (.ref b), .val (.int (Int32.ofNat (o + i) + 1)), .val (.ref d), .val (.int (Int32.ofNat (q + i) + 1)), .val (.int (Int32.ofNat len)), .val (.int (Int32.ofNat i + 1)), .val (.int (cv A (o + i)))] [])) := c8.trans (by
        refine iincV X7.here hexec rfl 1 (hb hbytes d32) (by decide) rfl rfl ?_
        refine iincV X7.here hexec rfl 1 (hb hbytes d35) (by decide) rfl rfl ?_
        refine iincV X7.here hexec rfl 1 (hb hbytes d38) (by decide) rfl rfl ?_
        refine XS.goto X7.here hexec rfl (pc0 := 41) rfl (hb hbytes d41) (by decide) rfl ?_
        exact Steps.refl _)
      have c10 : Steps p.tables e below (s₁.setTop (entryFrame m #[.ref b, .int (Int32.ofNat o), .ref d, .int (Int32.ofNat q), .int (Int32.ofNat len)] 7)) (T7.setTop (mkF m 3 #[.val (.ref b), .val (.int (Int32.ofNat (o + (i + 1)))), .val (.ref d), .val (.int (Int32.ofNat (q + (i + 1)))), .val (.int (Int32.ofNat len)), .val (.int (Int32.ofNat (i + 1))), .val (.int (cv A (o + i)))] [])) := by
        have := c9
        rw [succ32, succ32, succ32] at this
        exact this
      exact ih (i + 1) (by omega) _ (Or.inr ⟨_, rfl, rfl⟩) T7 _ (by rw [copyLocs_step, ← List.append_assoc]; exact X7) (pl.trans p7) (fl.step (by omega) hlt (by simp)) c10
  obtain ⟨T9, B9, z9, X9, p9, f9, g9⟩ := loop len 0 (by omega) .unset (Or.inl rfl) s₁ B (by simpa [copyLocs] using X0) ⟨hB0.1, fun _ _ => rfl, rfl⟩ (Laid.zero _ _ _) c2
  have c11 : Steps p.tables e below (s₁.setTop (entryFrame m #[.ref b, .int (Int32.ofNat o), .ref d, .int (Int32.ofNat q), .int (Int32.ofNat len)] 7)) (T9.setTop (mkF m 46 #[.val (.ref b), .val (.int (Int32.ofNat (o + len))), .val (.ref d), .val (.int (Int32.ofNat (q + len))), .val (.int (Int32.ofNat len)), .val (.int (Int32.ofNat len)), z9] [.int (Int32.ofNat len)])) := g9.trans (by
    refine XS.iload X9.here hexec rfl (hb hbytes d3) rfl ?_
    refine XS.iload X9.here hexec rfl (hb hbytes d5) rfl ?_
    refine XS.icmpYes X9.here hexec rfl (pc0 := 7) rfl (hb hbytes d7) rfl (ii_ge_t (nlt32 (by omega) (Nat.le_refl _))) (by decide) rfl ?_
    refine XS.iload X9.here hexec rfl (hb hbytes d44) rfl ?_
    exact Steps.refl _)
  exact ⟨T9, some (.int (Int32.ofNat len)), _, _, _, X9, by simp, rfl, rfl, (fun h => by cases h), ⟨rfl, B9, p9.from hh0, f9⟩, fun fs hl => c11.trans (X9.ireturnOut hexec hret rfl (Or.inl rfl) (hb hbytes d46) hl)⟩
end Cmp5
namespace Cmp3
def yN : MethodName := ⟨"java/lang/StringUTF16", "compress", "([CII)[B"⟩
abbrev yB : ByteArray := jdk_52_method_16_code
theorem d0 : decode yB 0 = .ok (.iload_n 2, 1) := by decide +kernel
theorem d1 : decode yB 1 = .ok (.newarray .byte, 2) := by decide +kernel
theorem d3 : decode yB 3 = .ok (.astore_n 3, 1) := by decide +kernel
theorem d4 : decode yB 4 = .ok (.aload_n 0, 1) := by decide +kernel
theorem d5 : decode yB 5 = .ok (.iload_n 1, 1) := by decide +kernel
theorem d6 : decode yB 6 = .ok (.aload_n 3, 1) := by decide +kernel
theorem d7 : decode yB 7 = .ok (.iconst 0, 1) := by decide +kernel
theorem d8 : decode yB 8 = .ok (.iload_n 2, 1) := by decide +kernel
theorem d9 : decode yB 9 = .ok (.invokestatic 115, 3) := by decide +kernel
theorem d12 : decode yB 12 = .ok (.istore 4, 2) := by decide +kernel
theorem d14 : decode yB 14 = .ok (.iload 4, 2) := by decide +kernel
theorem d16 : decode yB 16 = .ok (.iload_n 2, 1) := by decide +kernel
theorem d17 : decode yB 17 = .ok (.if_icmp (.eq) 40, 3) := by decide +kernel
theorem d57 : decode yB 57 = .ok (.aload_n 3, 1) := by decide +kernel
theorem d58 : decode yB 58 = .ok (.areturn, 1) := by decide +kernel
def site : List Cond := [.arrayClass .byte, Cmp5.tab] ++ staticW U16 115 Cmp5.yN
def tab : Cond := tabOf yN yB 6 (some (.array .byte)) site
def P (b : Addr) (A : Cell) (o len : Nat) (args : Array Value) (s : State) : Prop := args = #[.ref b, .int (Int32.ofNat o), .int (Int32.ofNat len)] ∧ Ch b A s ∧ o + len ≤ A.slots.size ∧ len ≤ 536870912 ∧ ∀ i, i < len → ¬ 255 < cv A (o + i)
def E (b : Addr) (A : Cell) (o len : Nat) (r : Option Value) (s u : State) : Prop := NewArr .byte "[B" len (fun j => .int (lo8 (cv A (o + j)))) r s u ∧ u.heap.size = s.heap.size + 1
/-- no char of the range above 255: a new byte[] of their low bytes -/
theorem law (l : Launch) (b : Addr) (A : Cell) (o len : Nat) : Law l yN 3 3 1 18 yB 6 (some (.array .byte)) site (P b A o len) (E b A o len) [] 1 len := by
  refine Law.of_walk (plainFor_of_name (by decide +kernel)) (by decide +kernel) (by decide +kernel) (by decide) (fun _ _ h => by rw [h.1]; rfl) (fun _ U U' hal hh h => ⟨h.1, h.2.1.mv hal hh, h.2.2⟩) (fun r U U' V V' h1 hal h2 h => ⟨NewArr.mv r U U' V V' h1 hal h2 h.1, by rw [h1, h2]; exact h.2⟩) ?_
  intro p e s m args below meth c s₁ X0 hexec hbytes hml hret hlk hnm hown hh0 W hP
  obtain ⟨rfl, hA, l1, l2, hp⟩ := hP
  have a31 := hA.1.2.2.2
  have c1 : Steps p.tables e below (s₁.setTop (entryFrame m #[.ref b, .int (Int32.ofNat o), .int (Int32.ofNat len)] 6)) (s₁.setTop (mkF m 0 #[.val (.ref b), .val (.int (Int32.ofNat o)), .val (.int (Int32.ofNat len)), .unset, .unset, .unset] [])) := entry rfl
  have c2 : Steps p.tables e below (s₁.setTop (entryFrame m #[.ref b, .int (Int32.ofNat o), .int (Int32.ofNat len)] 6)) (s₁.setTop (mkF m 1 #[.val (.ref b), .val (.int (Int32.ofNat o)), .val (.int (Int32.ofNat len)), .unset, .unset, .unset] [.int (Int32.ofNat len)])) := c1.trans (by
    refine XS.iloadN X0.here hexec rfl (hb hbytes d0) rfl ?_
    exact Steps.refl _)
  obtain ⟨T3, B3, X3, ba3, bs3, bv3, bh3, bf3, st3⟩ := X0.anew hexec (atype := .byte) (wk W (.arrayClass .byte)) rfl (by show len * 1 ≤ _; omega) (by omega) (g := (mkF m 1 #[.val (.ref b), .val (.int (Int32.ofNat o)), .val (.int (Int32.ofNat len)), .unset, .unset, .unset] [.int (Int32.ofNat len)])) rfl (hb hbytes d1) (rest := []) rfl (Nat.le_refl _) (by show 0 + len ≤ len; omega)
  rw [hh0] at ba3 st3
  have kp3 : XT.Kept s T3 := (XT.Kept.of_eq hh0).push bh3
  have hA3 := hA.keep X3.warmed.alike (kp3 _ _ hA.1.1)
  have hne : b ≠ s.heap.size := hA.1.ne
  have c4 : Steps p.tables e below (s₁.setTop (entryFrame m #[.ref b, .int (Int32.ofNat o), .int (Int32.ofNat len)] 6)) (T3.setTop (mkF m 3 #[.val (.ref b), .val (.int (Int32.ofNat o)), .val (.int (Int32.ofNat len)), .unset, .unset, .unset] [.ref s.heap.size])) := c2.trans (st3 _ (Steps.refl _))
  have c5 : Steps p.tables e below (s₁.setTop (entryFrame m #[.ref b, .int (Int32.ofNat o), .int (Int32.ofNat len)] 6)) (T3.setTop (mkF m 9 #[.val (.ref b), .val (.int (Int32.ofNat o)), .val (.int (Int32.ofNat len)), .val (.ref s.heap.size), .unset, .unset] [.int (Int32.ofNat len), .int 0, .ref s.heap.size, .int (Int32.ofNat o), .ref b])) := c4.trans (by
    refine XS.astoreN X3.here hexec rfl (hb hbytes d3) rfl rfl rfl ?_
    refine XS.aloadN X3.here hexec rfl (hb hbytes d4) rfl rfl ?_
    refine XS.iloadN X3.here hexec rfl (hb hbytes d5) rfl ?_
    refine XS.aloadN X3.here hexec rfl (hb hbytes d6) rfl rfl ?_
    refine iconstV X3.here hexec rfl 0 (hb hbytes d7) (by decide) ?_
    refine XS.iloadN X3.here hexec rfl (hb hbytes d8) rfl ?_
    exact Steps.refl _)
  obtain ⟨v6, T6, X6, E6, g6⟩ := X3.callS hexec (Cmp5.law l b A s.heap.size B3 o 0 len) hown (wks W (staticW U16 115 Cmp5.yN)) (wk W Cmp5.tab) (W := 0) (Nat.le_of_ble_eq_true rfl) (Nat.le_of_ble_eq_true rfl) (Nat.le_refl _) (by show 0 + len + 0 ≤ len; omega) (g := (mkF m 9 #[.val (.ref b), .val (.int (Int32.ofNat o)), .val (.int (Int32.ofNat len)), .val (.ref s.heap.size), .unset, .unset] [.int (Int32.ofNat len), .int (Int32.ofNat 0), .ref s.heap.size, .int (Int32.ofNat o), .ref b])) rfl (by rw [hml]; rfl) c5 (argsL := [.ref b, .int (Int32.ofNat o), .ref s.heap.size, .int (Int32.ofNat 0), .int (Int32.ofNat len)]) (rest := []) rfl rfl (by show 2 * 0 + 0 ≤ _; decide) (hb hbytes d9) (⟨rfl, hA3, ba3, hne, l1, by rw [bs3]; simp, hp⟩)
  obtain ⟨rfl, B6, p6, f6⟩ := E6
  have c7 : Steps p.tables e below (s₁.setTop (entryFrame m #[.ref b, .int (Int32.ofNat o), .int (Int32.ofNat len)] 6)) (T6.setTop (mkF m 12 #[.val (.ref b), .val (.int (Int32.ofNat o)), .val (.int (Int32.ofNat len)), .val (.ref s.heap.size), .unset, .unset] [.int (Int32.ofNat len)])) := g6
  have c8 : Steps p.tables e below (s₁.setTop (entryFrame m #[.ref b, .int (Int32.ofNat o), .int (Int32.ofNat len)] 6)) (T6.setTop (mkF m 58 #[.val (.ref b), .val (.int (Int32.ofNat o)), .val (.int (Int32.ofNat len)), .val (.ref s.heap.size), .val (.int (Int32.ofNat len)), .unset] [.ref s.heap.size])) := c7.trans (by
    refine XS.istore X6.here hexec rfl (hb hbytes d12) rfl rfl ?_
    refine XS.iload X6.here hexec rfl (hb hbytes d14) rfl ?_
    refine XS.iloadN X6.here hexec rfl (hb hbytes d16) rfl ?_
    refine XS.icmpYes X6.here hexec rfl (pc0 := 17) rfl (hb hbytes d17) rfl (ii_eq_t rfl) (by decide) rfl ?_
    refine XS.aloadN X6.here hexec rfl (hb hbytes d57) rfl rfl ?_
    exact Steps.refl _)
  have X8 := X6.wide (L' := []) (cells' := 1) (slots' := len) (fun x hx hlt => by
    simp only [List.nil_append, copyLocs, List.mem_map, List.mem_range] at hx
    obtain ⟨i, -, rfl⟩ := hx
    exact absurd hlt (Nat.lt_irrefl _)) (Nat.le_refl _) (by omega)
  exact ⟨T6, some (.ref s.heap.size), _, _, _, X8, rfl, rfl, rfl, (fun h => by cases h), ⟨⟨rfl, B6, ba3.like (X3.warmed.alike.symm.trans X6.warmed.alike) p6.1 f6.1 f6.2.1 f6.2.2.1, f6.2.1.trans bv3, by rw [X6.warmed.alike.findClass, f6.1]; exact bf3, by rw [f6.2.2.1, bs3]; simp, fun j hj => by rw [f6.2.2.2 j, if_pos (by omega)]; rfl, kp3.put p6 (Nat.le_refl _)⟩, by rw [p6.2.2, bh3, hh0]; simp⟩, fun fs hl => c8.trans (X8.areturnOut hexec rfl hret rfl (hb hbytes d58) hl)⟩
end Cmp3
namespace CodL
def yN : MethodName := ⟨"java/lang/StringUTF16", "coderFromArrayLen", "([BI)B"⟩
abbrev yB : ByteArray := jdk_52_method_15_code
theorem d0 : decode yB 0 = .ok (.iload_n 1, 1) := by decide +kernel
theorem d1 : decode yB 1 = .ok (.aload_n 0, 1) := by decide +kernel
theorem d2 : decode yB 2 = .ok (.arraylength, 1) := by decide +kernel
theorem d3 : decode yB 3 = .ok (.isub, 1) := by decide +kernel
theorem d4 : decode yB 4 = .ok (.bipush 31, 2) := by decide +kernel
theorem d6 : decode yB 6 = .ok (.iushr, 1) := by decide +kernel
theorem d7 : decode yB 7 = .ok (.i2b, 1) := by decide +kernel
theorem d8 : decode yB 8 = .ok (.ireturn, 1) := by decide +kernel
def site : List Cond := []
def tab : Cond := tabOf yN yB 2 (some .byte) site
def P (d : Addr) (B : Cell) (args : Array Value) (s : State) : Prop := args = #[.ref d, .int (Int32.ofNat B.slots.size)] ∧ Arr .byte d B s
def E (r : Option Value) (s u : State) : Prop := XT.PureE (some (.int 0)) r s u
/-- an array as long as the number of chars: LATIN1 -/
theorem law (l : Launch) (d : Addr) (B : Cell) : Law l yN 2 2 0 0 yB 2 (some .byte) site (P d B) E [] 0 0 := by
  refine Law.of_walk (plainFor_of_name (by decide +kernel)) (by decide +kernel) (by decide +kernel) (by decide) (fun _ _ h => by rw [h.1]; rfl) (fun _ U U' hal hh h => ⟨h.1, h.2.mv hal hh⟩) (fun r U U' V V' h1 hal h2 h => XT.PureE.mv r U U' V V' h1 hal h2 h) ?_
  intro p e s m args below meth c s₁ X0 hexec hbytes hml hret hlk hnm hown hh0 W hP
  obtain ⟨rfl, hB⟩ := hP
  have hB0 := hB.mv X0.warmed.alike hh0
  have c1 : Steps p.tables e below (s₁.setTop (entryFrame m #[.ref d, .int (Int32.ofNat B.slots.size)] 2)) (s₁.setTop (mkF m 0 #[.val (.ref d), .val (.int (Int32.ofNat B.slots.size))] [])) := entry rfl
  have c2 : Steps p.tables e below (s₁.setTop (entryFrame m #[.ref d, .int (Int32.ofNat B.slots.size)] 2)) (s₁.setTop (mkF m 2 #[.val (.ref d), .val (.int (Int32.ofNat B.slots.size))] [.ref d, .int (Int32.ofNat B.slots.size)])) := c1.trans (by
    refine XS.iloadN X0.here hexec rfl (hb hbytes d0) rfl ?_
    refine XS.aloadN X0.here hexec rfl (hb hbytes d1) rfl rfl ?_
    exact Steps.refl _)
  have c3 : Steps p.tables e below (s₁.setTop (entryFrame m #[.ref d, .int (Int32.ofNat B.slots.size)] 2)) (s₁.setTop (mkF m 8 #[.val (.ref d), .val (.int (Int32.ofNat B.slots.size))] [.int (lo8 (ushr (Int32.ofNat B.slots.size - Int32.ofNat B.slots.size) 31))])) := c2.trans (by
    refine X0.alen hexec hB0 rfl rfl (hb hbytes d2) ?_
    refine XS.isub X0.here hexec rfl (hb hbytes d3) rfl ?_
    refine bipushV X0.here hexec rfl 31 (hb hbytes d4) (by decide) ?_
    refine iushr X0.here hexec rfl (hb hbytes d6) rfl ?_
    refine i2b X0.here hexec rfl (hb hbytes d7) rfl ?_
    exact Steps.refl _)
  have e0 : lo8 (ushr (Int32.ofNat B.slots.size - Int32.ofNat B.slots.size) 31) = 0 := by rw [Int32.sub_self]; decide
  rw [e0] at c3
  exact ⟨s₁, some (.int 0), _, _, _, X0, rfl, rfl, rfl, (fun h => by cases h), ⟨rfl, hh0⟩, fun fs hl => c3.trans (X0.ireturnOut hexec hret rfl (Or.inr (Or.inr (Or.inl rfl))) (hb hbytes d8) hl)⟩
end CodL
/-- the String at a is Latin-1 over a new byte[] (the heap's one new cell): the low bytes of the len chars of A from o on; every cell but a is kept -/
def Got (a : Addr) (D : Cell) (fV fC : Field) (A : Cell) (o len : Nat) (r : Option Value) (s u : State) : Prop := r = none ∧ ∃ D' V : Cell, Blank "java/lang/String" a D' u ∧ Same D D' [fV.slot, fC.slot] ∧ D'.slots[fV.slot]? = some (.ref s.heap.size) ∧ D'.slots[fC.slot]? = some (.int 0) ∧ Arr .byte s.heap.size V u ∧ V.vm = .none ∧ u.vm.findClass "[B" = some V.cls ∧ V.slots.size = len ∧ (∀ j, j < len → V.slots[j]? = some (.int (lo8 (cv A (o + j))))) ∧ (∀ (y : Addr) (c : Cell), y ≠ a → s.heap[y]? = some c → u.heap[y]? = some c) ∧ u.heap.size = s.heap.size + 1
theorem Got.mv {a : Addr} {D A : Cell} {fV fC : Field} {o len : Nat} : ∀ r (U U' V V' : State), U'.heap = U.heap → V.vm.Alike V'.vm → V'.heap = V.heap → Got a D fV fC A o len r U V → Got a D fV fC A o len r U' V' :=
  fun r U U' V V' h1 hal h2 ⟨e0, D', X, a1, a2, a3, a4, a5, a6, a7, a8, a9, a10, a11⟩ => ⟨e0, D', X, a1.mv hal h2, a2, by rw [h1]; exact a3, a4, by rw [h1]; exact a5.mv hal h2, a6, by rw [hal.findClass]; exact a7, a8, a9, by rw [h1, h2]; exact a10, by rw [h1, h2]; exact a11⟩
namespace New4
def yN : MethodName := ⟨"java/lang/String", "<init>", "([CIILjava/lang/Void;)V"⟩
abbrev yB : ByteArray := jdk_42_method_149_code
theorem d0 : decode yB 0 = .ok (.aload_n 0, 1) := by decide +kernel
theorem d1 : decode yB 1 = .ok (.invokespecial 1, 3) := by decide +kernel
theorem d4 : decode yB 4 = .ok (.iload_n 3, 1) := by decide +kernel
theorem d5 : decode yB 5 = .ok (.ifCond (.ne) 22, 3) := by decide +kernel
theorem d27 : decode yB 27 = .ok (.getstatic 38, 3) := by decide +kernel
theorem d30 : decode yB 30 = .ok (.ifCond (.eq) 28, 3) := by decide +kernel
theorem d33 : decode yB 33 = .ok (.aload_n 1, 1) := by decide +kernel
theorem d34 : decode yB 34 = .ok (.iload_n 2, 1) := by decide +kernel
theorem d35 : decode yB 35 = .ok (.iload_n 3, 1) := by decide +kernel
theorem d36 : decode yB 36 = .ok (.invokestatic 177, 3) := by decide +kernel
theorem d39 : decode yB 39 = .ok (.astore 5, 2) := by decide +kernel
theorem d41 : decode yB 41 = .ok (.aload_n 0, 1) := by decide +kernel
theorem d42 : decode yB 42 = .ok (.aload 5, 2) := by decide +kernel
theorem d44 : decode yB 44 = .ok (.iload_n 3, 1) := by decide +kernel
theorem d45 : decode yB 45 = .ok (.invokestatic 47, 3) := by decide +kernel
theorem d48 : decode yB 48 = .ok (.putfield 15, 3) := by decide +kernel
theorem d51 : decode yB 51 = .ok (.aload_n 0, 1) := by decide +kernel
theorem d52 : decode yB 52 = .ok (.aload 5, 2) := by decide +kernel
theorem d54 : decode yB 54 = .ok (.putfield 9, 3) := by decide +kernel
theorem d57 : decode yB 57 = .ok (.return_, 1) := by decide +kernel
def site : List Cond := [.fieldLink "java/lang/String" 38 "java/lang/String" "COMPACT_STRINGS" "Z", Cmp3.tab, CodL.tab, .laysFinal "java/lang/String" "java/lang/String" "value" "[B", .fieldLink "java/lang/String" 9 "java/lang/String" "value" "[B", .laysFinal "java/lang/String" "java/lang/String" "coder" "B", .fieldLink "java/lang/String" 15 "java/lang/String" "coder" "B"] ++ objW "java/lang/String" 1 ++ staticW "java/lang/String" 177 Cmp3.yN ++ staticW "java/lang/String" 47 CodL.yN
def tab : Cond := tabOf yN yB 6 none site
def P (a : Addr) (D : Cell) (fV fC : Field) (b : Addr) (A : Cell) (z : Int32) (o len : Nat) (args : Array Value) (s : State) : Prop := args = #[.ref a, .ref b, .int (Int32.ofNat o), .int (Int32.ofNat len), .null] ∧ Blank "java/lang/String" a D s ∧ Found "java/lang/String" "value" "[B" fV s ∧ Found "java/lang/String" "coder" "B" fC s ∧ Ch b A s ∧ StaticIs s "java/lang/String" "COMPACT_STRINGS" "Z" (.int z) ∧ ¬ z = 0 ∧ 0 < len ∧ o + len ≤ A.slots.size ∧ len ≤ 536870912 ∧ ∀ i, i < len → ¬ 255 < cv A (o + i)
def E (a : Addr) (D : Cell) (fV fC : Field) (A : Cell) (o len : Nat) (r : Option Value) (s u : State) : Prop := Got a D fV fC A o len r s u
/-- len > 0, no char of the range above 255: a Latin-1 String of their low bytes -/
theorem law (l : Launch) (a : Addr) (D : Cell) (fV fC : Field) (b : Addr) (A : Cell) (z : Int32) (o len : Nat) : Law l yN 5 4 2 35 yB 6 none site (P a D fV fC b A z o len) (E a D fV fC A o len) [⟨a, fC.slot⟩, ⟨a, fV.slot⟩] 1 len := by
  refine Law.of_walk (plainFor_of_name (by decide +kernel)) (by decide +kernel) (by decide +kernel) (by decide) (fun _ _ h => by rw [h.1]; rfl) (fun _ U U' hal hh h => ⟨h.1, h.2.1.mv hal hh, h.2.2.1.al hal, h.2.2.2.1.al hal, h.2.2.2.2.1.mv hal hh, h.2.2.2.2.2.1.there hal hh, h.2.2.2.2.2.2⟩) (fun r U U' V V' h1 hal h2 h => Got.mv r U U' V V' h1 hal h2 h) ?_
  intro p e s m args below meth c s₁ X0 hexec hbytes hml hret hlk hnm hown hh0 W hP
  obtain ⟨rfl, hB, f1, f2, hA, s1, hz, l0, l1, l2, hp⟩ := hP
  have a31 := hA.1.2.2.2
  have c1 : Steps p.tables e below (s₁.setTop (entryFrame m #[.ref a, .ref b, .int (Int32.ofNat o), .int (Int32.ofNat len), .null] 6)) (s₁.setTop (mkF m 0 #[.val (.ref a), .val (.ref b), .val (.int (Int32.ofNat o)), .val (.int (Int32.ofNat len)), .val .null, .unset] [])) := entry rfl
  have c2 : Steps p.tables e below (s₁.setTop (entryFrame m #[.ref a, .ref b, .int (Int32.ofNat o), .int (Int32.ofNat len), .null] 6)) (s₁.setTop (mkF m 1 #[.val (.ref a), .val (.ref b), .val (.int (Int32.ofNat o)), .val (.int (Int32.ofNat len)), .val .null, .unset] [.ref a])) := c1.trans (by
    refine XS.aloadN X0.here hexec rfl (hb hbytes d0) rfl rfl ?_
    exact Steps.refl _)
  obtain ⟨T3, X3, q3, st3⟩ := X0.oinit hexec hown (wks W (objW "java/lang/String" 1)) (g := (mkF m 1 #[.val (.ref a), .val (.ref b), .val (.int (Int32.ofNat o)), .val (.int (Int32.ofNat len)), .val .null, .unset] [.ref a])) rfl (by rw [hml]; rfl) (rest := []) rfl (hb hbytes d1) (W := 0) (by show 2 * 0 + 0 ≤ _; decide) (Nat.le_of_ble_eq_true rfl) (Nat.le_of_ble_eq_true rfl)
  have hh3 := q3.trans hh0
  have c4 : Steps p.tables e below (s₁.setTop (entryFrame m #[.ref a, .ref b, .int (Int32.ofNat o), .int (Int32.ofNat len), .null] 6)) (T3.setTop (mkF m 27 #[.val (.ref a), .val (.ref b), .val (.int (Int32.ofNat o)), .val (.int (Int32.ofNat len)), .val .null, .unset] [])) := (c2.trans (st3 _ (Steps.refl _))).trans (by
    refine XS.iloadN X3.here hexec rfl (hb hbytes d4) rfl ?_
    refine XS.ifYes X3.here hexec rfl (pc0 := 5) rfl (hb hbytes d5) rfl (i0_ne_t (nz32 (by omega) l0)) (by decide) rfl ?_
    exact Steps.refl _)
  obtain ⟨T5, X5, q5, st5⟩ := X3.sget hexec hown (wk W (.fieldLink "java/lang/String" 38 "java/lang/String" "COMPACT_STRINGS" "Z")) s1 (fun _ _ h => by rw [hh3]; exact h) (g := (mkF m 27 #[.val (.ref a), .val (.ref b), .val (.int (Int32.ofNat o)), .val (.int (Int32.ofNat len)), .val .null, .unset] [])) rfl (hb hbytes d27)
  have hh5 := q5.trans hh3
  have c6 : Steps p.tables e below (s₁.setTop (entryFrame m #[.ref a, .ref b, .int (Int32.ofNat o), .int (Int32.ofNat len), .null] 6)) (T5.setTop (mkF m 30 #[.val (.ref a), .val (.ref b), .val (.int (Int32.ofNat o)), .val (.int (Int32.ofNat len)), .val .null, .unset] [.int z])) := c4.trans (st5 _ (Steps.refl _))
  have c7 : Steps p.tables e below (s₁.setTop (entryFrame m #[.ref a, .ref b, .int (Int32.ofNat o), .int (Int32.ofNat len), .null] 6)) (T5.setTop (mkF m 36 #[.val (.ref a), .val (.ref b), .val (.int (Int32.ofNat o)), .val (.int (Int32.ofNat len)), .val .null, .unset] [.int (Int32.ofNat len), .int (Int32.ofNat o), .ref b])) := c6.trans (by
    refine XS.ifNo X5.here hexec rfl (hb hbytes d30) rfl (i0_eq_f hz) ?_
    refine XS.aloadN X5.here hexec rfl (hb hbytes d33) rfl rfl ?_
    refine XS.iloadN X5.here hexec rfl (hb hbytes d34) rfl ?_
    refine XS.iloadN X5.here hexec rfl (hb hbytes d35) rfl ?_
    exact Steps.refl _)
  obtain ⟨v8, T8, X8, E8, g8⟩ := X5.callS hexec (Cmp3.law l b A o len) hown (wks W (staticW "java/lang/String" 177 Cmp3.yN)) (wk W Cmp3.tab) (W := 0) (Nat.le_of_ble_eq_true rfl) (Nat.le_of_ble_eq_true rfl) (Nat.le_refl _) (by show 0 + len ≤ len; omega) (g := (mkF m 36 #[.val (.ref a), .val (.ref b), .val (.int (Int32.ofNat o)), .val (.int (Int32.ofNat len)), .val .null, .unset] [.int (Int32.ofNat len), .int (Int32.ofNat o), .ref b])) rfl (by rw [hml]; rfl) c7 (argsL := [.ref b, .int (Int32.ofNat o), .int (Int32.ofNat len)]) (rest := []) rfl rfl (by show 2 * 0 + 0 ≤ _; decide) (hb hbytes d36) (⟨rfl, hA.mv X5.warmed.alike hh5, l1, l2, hp⟩)
  obtain ⟨e8, z8⟩ := E8
  obtain ⟨rfl, N, n1, n2, n3, n4, n5, n6⟩ := NewArr.mv _ T5 s _ _ hh5.symm (Vm.Alike.refl _) rfl e8
  rw [hh5] at z8
  have hB1 := hB.keep X8.warmed.alike (n6 _ _ hB.1)
  have hne : s.heap.size ≠ a := (Nat.ne_of_lt (Array.getElem?_eq_some_iff.mp hB.1).1).symm
  have c9 : Steps p.tables e below (s₁.setTop (entryFrame m #[.ref a, .ref b, .int (Int32.ofNat o), .int (Int32.ofNat len), .null] 6)) (T8.setTop (mkF m 39 #[.val (.ref a), .val (.ref b), .val (.int (Int32.ofNat o)), .val (.int (Int32.ofNat len)), .val .null, .unset] [.ref s.heap.size])) := g8
  have c10 : Steps p.tables e below (s₁.setTop (entryFrame m #[.ref a, .ref b, .int (Int32.ofNat o), .int (Int32.ofNat len), .null] 6)) (T8.setTop (mkF m 45 #[.val (.ref a), .val (.ref b), .val (.int (Int32.ofNat o)), .val (.int (Int32.ofNat len)), .val .null, .val (.ref s.heap.size)] [.int (Int32.ofNat N.slots.size), .ref s.heap.size, .ref a])) := by
    have hc : Steps p.tables e below (s₁.setTop (entryFrame m #[.ref a, .ref b, .int (Int32.ofNat o), .int (Int32.ofNat len), .null] 6)) (T8.setTop (mkF m 45 #[.val (.ref a), .val (.ref b), .val (.int (Int32.ofNat o)), .val (.int (Int32.ofNat len)), .val .null, .val (.ref s.heap.size)] [.int (Int32.ofNat len), .ref s.heap.size, .ref a])) := c9.trans (by
      refine XS.astore X8.here hexec rfl (hb hbytes d39) rfl rfl rfl ?_
      refine XS.aloadN X8.here hexec rfl (hb hbytes d41) rfl rfl ?_
      refine XS.aload X8.here hexec rfl (hb hbytes d42) rfl rfl ?_
      refine XS.iloadN X8.here hexec rfl (hb hbytes d44) rfl ?_
      exact Steps.refl _)
    rw [n4]; exact hc
  obtain ⟨v11, T11, X11, E11, g11⟩ := X8.callS hexec (CodL.law l s.heap.size N) hown (wks W (staticW "java/lang/String" 47 CodL.yN)) (wk W CodL.tab) (W := 1) (Nat.le_of_ble_eq_true rfl) (Nat.le_of_ble_eq_true rfl) (Nat.le_refl _) (by show 0 + len + 0 ≤ len; omega) (g := (mkF m 45 #[.val (.ref a), .val (.ref b), .val (.int (Int32.ofNat o)), .val (.int (Int32.ofNat len)), .val .null, .val (.ref s.heap.size)] [.int (Int32.ofNat N.slots.size), .ref s.heap.size, .ref a])) rfl (by rw [hml]; rfl) c10 (argsL := [.ref s.heap.size, .int (Int32.ofNat N.slots.size)]) (rest := [.ref a]) rfl rfl (by show 2 * 0 + (1 + 0) ≤ _; decide) (hb hbytes d45) (⟨rfl, n1⟩)
  obtain ⟨rfl, q11⟩ := E11
  have hB11 := hB1.mv (X8.warmed.alike.symm.trans X11.warmed.alike) q11
  have c12 : Steps p.tables e below (s₁.setTop (entryFrame m #[.ref a, .ref b, .int (Int32.ofNat o), .int (Int32.ofNat len), .null] 6)) (T11.setTop (mkF m 48 #[.val (.ref a), .val (.ref b), .val (.int (Int32.ofNat o)), .val (.int (Int32.ofNat len)), .val .null, .val (.ref s.heap.size)] [.int 0, .ref a])) := g11
  obtain ⟨T13, X13, p13, bl13, sl13, st13⟩ := X11.finit hexec hown (wk W (.fieldLink "java/lang/String" 15 "java/lang/String" "coder" "B")) (Or.inr ⟨_, (wk W (.laysFinal "java/lang/String" "java/lang/String" "coder" "B"))⟩) (Or.inl ⟨rfl, hnm⟩) f2 (Or.inl rfl) hB11 (t := .byte) (by decide +kernel) rfl (g := (mkF m 48 #[.val (.ref a), .val (.ref b), .val (.int (Int32.ofNat o)), .val (.int (Int32.ofNat len)), .val .null, .val (.ref s.heap.size)] [.int 0, .ref a])) rfl (rest := []) rfl (hb hbytes d48)
  have c14 : Steps p.tables e below (s₁.setTop (entryFrame m #[.ref a, .ref b, .int (Int32.ofNat o), .int (Int32.ofNat len), .null] 6)) (T13.setTop (mkF m 54 #[.val (.ref a), .val (.ref b), .val (.int (Int32.ofNat o)), .val (.int (Int32.ofNat len)), .val .null, .val (.ref s.heap.size)] [.ref s.heap.size, .ref a])) := (c12.trans (st13 _ (Steps.refl _))).trans (by
    refine XS.aloadN X13.here hexec rfl (hb hbytes d51) rfl rfl ?_
    refine XS.aload X13.here hexec rfl (hb hbytes d52) rfl rfl ?_
    exact Steps.refl _)
  obtain ⟨T15, X15, p15, bl15, sl15, st15⟩ := X13.finit hexec hown (wk W (.fieldLink "java/lang/String" 9 "java/lang/String" "value" "[B")) (Or.inr ⟨_, (wk W (.laysFinal "java/lang/String" "java/lang/String" "value" "[B"))⟩) (Or.inl ⟨rfl, hnm⟩) f1 (Or.inl rfl) bl13 (t := (.array .byte)) (by decide +kernel) rfl (g := (mkF m 54 #[.val (.ref a), .val (.ref b), .val (.int (Int32.ofNat o)), .val (.int (Int32.ofNat len)), .val .null, .val (.ref s.heap.size)] [.ref s.heap.size, .ref a])) rfl (rest := []) rfl (hb hbytes d54)
  have c16 : Steps p.tables e below (s₁.setTop (entryFrame m #[.ref a, .ref b, .int (Int32.ofNat o), .int (Int32.ofNat len), .null] 6)) (T15.setTop (mkF m 57 #[.val (.ref a), .val (.ref b), .val (.int (Int32.ofNat o)), .val (.int (Int32.ofNat len)), .val .null, .val (.ref s.heap.size)] [])) := c14.trans (st15 _ (Steps.refl _))
  have ap := apart (Or.inr ⟨_, (wk W (.laysFinal "java/lang/String" "java/lang/String" "value" "[B"))⟩) (Or.inr ⟨_, (wk W (.laysFinal "java/lang/String" "java/lang/String" "coder" "B"))⟩) f1 f2 (t₁ := .array .byte) (t₂ := .byte) (by decide +kernel) (by decide +kernel) (by decide)
  have al := X8.warmed.alike.symm.trans X15.warmed.alike
  have n7 : T11.heap[s.heap.size]? = some N := by rw [q11]; exact n1.1
  exact ⟨T15, none, _, _, _, X15, by simp, rfl, by omega, (fun _ => rfl), ⟨rfl, _, N, bl15, ((Same.refl D _).set _ (by simp)).set _ (by simp), sl15, (Cell.slots_setSlot_ne _ ap).trans sl13, n1.keep al (p15.other hne (p13.other hne n7)), n2, by rw [al.findClass]; exact n3, n4, n5, fun y c h1 h2 => p15.other h1 (p13.other h1 (by rw [q11]; exact n6 y c h2)), by rw [p15.2.2, p13.2.2, q11]; exact z8⟩, fun fs hl => c16.trans (X15.returnOut hexec hret (hb hbytes d57) hl)⟩
end New4
namespace New1
def yN : MethodName := ⟨"java/lang/String", "<init>", "([C)V"⟩
abbrev yB : ByteArray := jdk_42_method_3_code
theorem d0 : decode yB 0 = .ok (.aload_n 0, 1) := by decide +kernel
theorem d1 : decode yB 1 = .ok (.aload_n 1, 1) := by decide +kernel
theorem d2 : decode yB 2 = .ok (.iconst 0, 1) := by decide +kernel
theorem d3 : decode yB 3 = .ok (.aload_n 1, 1) := by decide +kernel
theorem d4 : decode yB 4 = .ok (.arraylength, 1) := by decide +kernel
theorem d5 : decode yB 5 = .ok (.aconst_null, 1) := by decide +kernel
theorem d6 : decode yB 6 = .ok (.invokespecial 27, 3) := by decide +kernel
theorem d9 : decode yB 9 = .ok (.return_, 1) := by decide +kernel
def site : List Cond := [New4.tab] ++ initW "java/lang/String" 27 New4.yN
def tab : Cond := tabOf yN yB 2 none site
def P (a : Addr) (D : Cell) (fV fC : Field) (b : Addr) (A : Cell) (z : Int32) (args : Array Value) (s : State) : Prop := args = #[.ref a, .ref b] ∧ Blank "java/lang/String" a D s ∧ Found "java/lang/String" "value" "[B" fV s ∧ Found "java/lang/String" "coder" "B" fC s ∧ Ch b A s ∧ StaticIs s "java/lang/String" "COMPACT_STRINGS" "Z" (.int z) ∧ ¬ z = 0 ∧ 0 < A.slots.size ∧ A.slots.size ≤ 536870912 ∧ ∀ i, i < A.slots.size → ¬ 255 < cv A i
def E (a : Addr) (D : Cell) (fV fC : Field) (A : Cell) (r : Option Value) (s u : State) : Prop := Got a D fV fC A 0 A.slots.size r s u
/-- new String(chars), not empty, no char above 255: a Latin-1 String of their low bytes -/
theorem law (l : Launch) (a : Addr) (D : Cell) (fV fC : Field) (b : Addr) (A : Cell) (z : Int32) : Law l yN 2 1 3 52 yB 2 none site (P a D fV fC b A z) (E a D fV fC A) [⟨a, fC.slot⟩, ⟨a, fV.slot⟩] 1 A.slots.size := by
  refine Law.of_walk (plainFor_of_name (by decide +kernel)) (by decide +kernel) (by decide +kernel) (by decide) (fun _ _ h => by rw [h.1]; rfl) (fun _ U U' hal hh h => ⟨h.1, h.2.1.mv hal hh, h.2.2.1.al hal, h.2.2.2.1.al hal, h.2.2.2.2.1.mv hal hh, h.2.2.2.2.2.1.there hal hh, h.2.2.2.2.2.2⟩) (fun r U U' V V' h1 hal h2 h => Got.mv r U U' V V' h1 hal h2 h) ?_
  intro p e s m args below meth c s₁ X0 hexec hbytes hml hret hlk hnm hown hh0 W hP
  obtain ⟨rfl, hB, f1, f2, hA, s1, hz, l0, l2, hp⟩ := hP
  have c1 : Steps p.tables e below (s₁.setTop (entryFrame m #[.ref a, .ref b] 2)) (s₁.setTop (mkF m 0 #[.val (.ref a), .val (.ref b)] [])) := entry rfl
  have c2 : Steps p.tables e below (s₁.setTop (entryFrame m #[.ref a, .ref b] 2)) (s₁.setTop (mkF m 6 #[.val (.ref a), .val (.ref b)] [.null, .int (Int32.ofNat A.slots.size), .int 0, .ref b, .ref a])) := c1.trans (by
    refine XS.aloadN X0.here hexec rfl (hb hbytes d0) rfl rfl ?_
    refine XS.aloadN X0.here hexec rfl (hb hbytes d1) rfl rfl ?_
    refine iconstV X0.here hexec rfl 0 (hb hbytes d2) (by decide) ?_
    refine XS.aloadN X0.here hexec rfl (hb hbytes d3) rfl rfl ?_
    refine X0.alen hexec (hA.1.mv X0.warmed.alike hh0) rfl rfl (hb hbytes d4) ?_
    refine XS.aconstNull X0.here hexec rfl (hb hbytes d5) ?_
    exact Steps.refl _)
  obtain ⟨v3, T3, X3, E3, g3⟩ := X0.callN hexec (New4.law l a D fV fC b A z 0 A.slots.size) rfl hown (wks W (initW "java/lang/String" 27 New4.yN)) (W New4.tab (by simp only [site, List.mem_cons, List.mem_append, true_or, or_true])) (W := 0) (Nat.le_of_ble_eq_true rfl) (Nat.le_of_ble_eq_true rfl) (Nat.le_refl _) (by show 0 + A.slots.size ≤ A.slots.size; omega) (g := (mkF m 6 #[.val (.ref a), .val (.ref b)] [.null, .int (Int32.ofNat A.slots.size), .int (Int32.ofNat 0), .ref b, .ref a])) rfl (by rw [hml]; rfl) c2 (argsL := [.ref b, .int (Int32.ofNat 0), .int (Int32.ofNat A.slots.size), .null]) (rest := []) rfl rfl (by show 2 * 0 + 0 ≤ _; decide) (hb hbytes d6) (⟨rfl, hB.mv X0.warmed.alike hh0, f1.al X0.warmed.alike, f2.al X0.warmed.alike, hA.mv X0.warmed.alike hh0, s1.there X0.warmed.alike hh0, hz, l0, by omega, l2, fun i hi => by rw [Nat.zero_add]; exact hp i hi⟩)
  have e0 := Got.mv _ s₁ s _ _ hh0.symm (Vm.Alike.refl _) rfl E3
  obtain rfl := e0.1
  have c4 : Steps p.tables e below (s₁.setTop (entryFrame m #[.ref a, .ref b] 2)) (T3.setTop (mkF m 9 #[.val (.ref a), .val (.ref b)] [])) := g3
  exact ⟨T3, none, _, _, _, X3, by simp, rfl, by omega, (fun _ => rfl), e0, fun fs hl => c4.trans (X3.returnOut hexec hret (hb hbytes d9) hl)⟩
theorem pays {l : Launch} {R : Room} {p : Program} {e : Env} {below : List Frame} {s : State} {sargs : Array Value} {len W : Nat} (a : Addr) (D : Cell) (fV fC : Field) (b : Addr) (A : Cell) (z : Int32) (htab : tab.before sargs s = true) (hfr : 4 ≤ R.frames) (hlo : W + 65 ≤ R.locals) :
    Back l R p e below s sargs yN len W (fun A₁ a₁ => A₁.cells + 1 ≤ R.cells ∧ A₁.slots + A.slots.size ≤ R.slots ∧ P a D fV fC b A z a₁ A₁.U) (fun A₁ _ v₁ B₁ => E a D fV fC A v₁ A₁.U B₁.U ∧ B₁.locs = A₁.locs ++ [⟨a, fC.slot⟩, ⟨a, fV.slot⟩] ∧ B₁.cells = A₁.cells + 1 ∧ B₁.slots = A₁.slots + A.slots.size) :=
  (law l a D fV fC b A z).pays htab hfr (by omega)
end New1
/-- the byte, read back as charAt reads it, is the char -/
theorem lo8_mask {x : Int32} (h0 : ¬ x < 0) (h1 : ¬ 255 < x) : lo8 x &&& 255 = x := by
  have t : ∀ k : Fin 256, lo8 (Int32.ofNat k.val) &&& 255 = Int32.ofNat k.val := by decide +kernel
  rw [Int32.lt_iff_toInt_lt] at h0 h1
  have e0 : (0 : Int32).toInt = 0 := rfl
  have e1 : (255 : Int32).toInt = 255 := rfl
  obtain ⟨k, hk⟩ : ∃ k : Nat, x.toInt = k := ⟨x.toInt.toNat, by omega⟩
  have hx : x = Int32.ofNat k := Int32.toInt_inj.mp (by rw [hk, Int32.toInt_ofNat_small (by omega)])
  rw [hx]
  exact t ⟨k, by omega⟩
end StrChars
namespace StrChars.Road
open Jvm Sem ClassFile Op Lib Jvm.Stand Jvm.Free Jvm.Free.XT
open Jvm.Lib.Cold (StaticIs)
abbrev ST : String := "java/lang/String"
/-- every table word that New1's law asks, flat -/
abbrev words : List Jvm.Cond := [.code New1.yN New1.yB 2 none, .initialized ST, .methodLink ST 27 New4.yN, .instanceMethod New4.yN,
  .code New4.yN New4.yB 6 none, .fieldLink ST 38 ST "COMPACT_STRINGS" "Z", .laysFinal ST ST "value" "[B", .fieldLink ST 9 ST "value" "[B", .laysFinal ST ST "coder" "B", .fieldLink ST 15 ST "coder" "B",
  .methodLink ST 1 Lib.objectInit, .instanceMethod Lib.objectInit, .code Lib.objectInit ⟨#[0xb1]⟩ 1 none, .methodLink ST 177 Cmp3.yN, .static Cmp3.yN, .methodLink ST 47 CodL.yN, .static CodL.yN,
  .code Cmp3.yN Cmp3.yB 6 (some (.array .byte)), .initialized U16, .arrayClass .byte, .methodLink U16 115 Cmp5.yN, .static Cmp5.yN, .code Cmp5.yN Cmp5.yB 7 (some .int), .code CodL.yN CodL.yB 2 (some .byte)]
theorem tab_of {a : Array Value} {s : State} (h : ∀ w ∈ words, w.before a s = true) : New1.tab.before a s = true := by
  have h5 : Cmp5.tab.before a s = true := unparts (wk h (.code Cmp5.yN Cmp5.yB 7 (some .int))) (wks h (.initialized Cmp5.yN.cls :: Cmp5.site))
  have hc : CodL.tab.before a s = true := unparts (wk h (.code CodL.yN CodL.yB 2 (some .byte))) (wks h (.initialized CodL.yN.cls :: CodL.site))
  have q5 : ∀ w ∈ Cmp5.tab :: words, w.before a s = true := fun w hw => (List.mem_cons.mp hw).elim (fun e => e ▸ h5) (h w)
  have h3 : Cmp3.tab.before a s = true := unparts (wk q5 (.code Cmp3.yN Cmp3.yB 6 (some (.array .byte)))) (wks q5 (.initialized Cmp3.yN.cls :: Cmp3.site))
  have q3 : ∀ w ∈ Cmp3.tab :: CodL.tab :: words, w.before a s = true := fun w hw => (List.mem_cons.mp hw).elim (fun e => e ▸ h3) fun hw => (List.mem_cons.mp hw).elim (fun e => e ▸ hc) (h w)
  have h4 : New4.tab.before a s = true := unparts (wk q3 (.code New4.yN New4.yB 6 none)) (wks q3 (.initialized New4.yN.cls :: New4.site))
  have q4 : ∀ w ∈ New4.tab :: words, w.before a s = true := fun w hw => (List.mem_cons.mp hw).elim (fun e => e ▸ h4) (h w)
  exact unparts (wk q4 (.code New1.yN New1.yB 2 none)) (wks q4 (.initialized New1.yN.cls :: New1.site))
/-- the words ride from the start Z to the walk's own state -/
theorem moved {Z s : State} {a0 args : Array Value} (hZ : Z.Warmed39 s.vm) (hw : ∀ d ∈ words, d.before a0 Z = true) : ∀ d ∈ words, d.before args s = true := fun d hd => by
  have q := hw d hd
  have t : ∀ d ∈ words, d = .arrayClass .byte ∨ (d.onTables && d.keepsFace) = true := by decide +kernel
  rcases t d hd with rfl | t
  · exact RoadKit.mvA hZ q
  · exact RoadKit.mv hZ q t
/-- WHAT COMES BACK, over the tables of the start Z: h the heap at the call, h' behind it -/
def Q (Z : State) (x : Addr) (A : Cell) (h : Heap) (v : Option Value) (h' : Heap) (L : List Loc) : Prop := v = none ∧ (∀ y ∈ L, y.base = x) ∧ RoadKit.Keep h h' [x] ∧ h'.size = h.size + 1 ∧ RoadKit.Exa Z h' x ST ∧ RoadKit.Fld Z h' x ST "value" "[B" (.ref h.size) ∧ RoadKit.Fld Z h' x ST "coder" "B" (.int 0) ∧
  (∃ V : Cell, RoadKit.Arr Z h' h.size V .byte ∧ V.vm = .none ∧ Z.vm.findClass "[B" = some V.cls ∧ V.slots.size = A.slots.size ∧ ∀ j, j < A.slots.size → V.slots[j]? = some (.int (lo8 (cv A j)))) ∧
  ∀ (O n d : String) (w : Value), RoadKit.Fld Z h x O n d w → RoadKit.slotOf Z O n d ≠ RoadKit.slotOf Z ST "value" "[B" → RoadKit.slotOf Z O n d ≠ RoadKit.slotOf Z ST "coder" "B" → RoadKit.Fld Z h' x O n d w
/-- **new String(chars) AT A CALL, IN THE ROAD'S FORM**: for specialBack behind newO: x the fresh String, b the char[] with the cell A -/
theorem back {p : Program} {l : Launch} {e : Env} {R : Room} {s : State} {args : Array Value} {below : List Frame} {len W : Nat} {Z : State} {a0 : Array Value} {h : Heap} (hZ : Z.Warmed39 s.vm) (hw : ∀ d ∈ words, d.before a0 Z = true) {kI : Nat} (wi : (Jvm.Cond.instantiable ST kI).before a0 Z = true)
    {x b : Addr} {A : Cell} {z : Int32} {v0 c0 : Value} (E : RoadKit.Exa Z h x ST) (V : RoadKit.Fld Z h x ST "value" "[B" v0) (C : RoadKit.Fld Z h x ST "coder" "B" c0) (K : RoadKit.Arr Z h b A .char) (hty : Typed .char A) (S : RoadKit.Sta Z h ST "COMPACT_STRINGS" "Z" (.int z)) (hz : ¬ z = 0)
    (l0 : 0 < A.slots.size) (l2 : A.slots.size ≤ 536870912) (hp : ∀ i, i < A.slots.size → ¬ 255 < cv A i) (hfr : 4 ≤ R.frames) (hlo : W + 65 ≤ R.locals) :
    Back l R p e below s args New1.yN len W (fun P a => a = #[.ref x, .ref b] ∧ P.U.heap = h ∧ P.cells + 1 ≤ R.cells ∧ P.slots + A.slots.size ≤ R.slots)
      (fun P _ v B => ∃ L, Q Z x A h v B.U.heap L ∧ B.locs = P.locs ++ L ∧ B.cells = P.cells + 1 ∧ B.slots = P.slots + A.slots.size) := by
  intro m meth c P g ig mk a X hg hsize hdg hW hn hp'
  obtain ⟨rfl, rfl, r1, r2⟩ := hp'
  have al : Z.vm.Alike P.U.vm := hZ.alike.trans X.warmed.alike
  obtain ⟨D, cfV, kV, iV, fV, hD, gV, stV, knV, obV, asV, slV⟩ := id V
  obtain ⟨D', cfC, kC, iC, fC, hD', gC, stC, -, -, asC, slC⟩ := id C
  cases hD.symm.trans hD'
  obtain ⟨D2, kD, e1, e2, e3, e4, e5⟩ := id E
  cases hD.symm.trans e1
  obtain ⟨c2, k2, i1, i2, i3, -⟩ := Cond.instantiable_spec wi
  cases e2.symm.trans i1
  cases e3.symm.trans i2
  obtain ⟨kU, u1, u2⟩ := al.2.2 _ _ e3
  have hB : Blank ST x D P.U := ⟨hD, ⟨knV, fun q hq => by rw [hq] at obV; cases obV⟩, by rw [al.findClass]; exact e2, kU, u1, by rw [u2]; exact i3, by rw [u2]; exact e5 i3⟩
  have F1 : Found ST "value" "[B" fV P.U := ⟨SBG.found_only al ⟨cfV, kV, iV, gV⟩, stV⟩
  have F2 : Found ST "coder" "B" fC P.U := ⟨SBG.found_only al ⟨cfC, kC, iC, gC⟩, stC⟩
  have hA : Ch b A P.U := ⟨⟨K.1, State.isArrayOf_alike al K.2.1, K.2.2, by omega⟩, hty⟩
  have hS : StaticIs P.U ST "COMPACT_STRINGS" "Z" (.int z) := by
    obtain ⟨cfS, iS, kS, fS, st, cS, t1, t2, t3, t4, t5, t6, t7⟩ := S
    exact StaticIs.there (s := { Z with heap := P.U.heap }) ⟨cfS, iS, kS, fS, st, cS, t1, t2, t3, t4, t5, (fun q => by rw [q] at t6; cases t6), t7⟩ al rfl
  obtain ⟨v, B, X', ⟨⟨hv, E', V', q1, q2, q3, q4, q5, q6, q7, q8, q9, q10, q11⟩, hl, hc, hs⟩, st⟩ := New1.pays x D fV fC b A z (tab_of (moved hZ hw)) hfr hlo m meth c P g ig mk _ X hg hsize hdg hW hn ⟨r1, r2, rfl, hB, F1, F2, hA, hS, hz, l0, l2, hp⟩
  have al' : Z.vm.Alike B.U.vm := hZ.alike.trans X'.warmed.alike
  have hsz : E'.slots.size = D.slots.size := by
    obtain ⟨-, -, -, kB, w1, w2, w3⟩ := q1
    obtain ⟨kB', y1, y2⟩ := al'.2.2 _ _ e3
    rw [q2.2.1] at w1
    cases w1.symm.trans y1
    rw [w3, e5 i3, y2]
  refine ⟨v, B, X', ⟨_, ⟨hv, ?_, ⟨by omega, fun y cy hy hn' => q10 y cy (by simpa using hn') hy, fun y cy hy => ?_⟩, q11, ⟨E', _, q1.1, by rw [q2.2.1]; exact e2, by rw [q2.2.1]; exact e3, by rw [q2.1]; exact obV, fun _ => by rw [hsz]; exact e5 i3⟩,
    ⟨E', cfV, kV, iV, fV, q1.1, gV, stV, by rw [q2.1]; exact knV, by rw [q2.1]; exact obV, by rw [q2.2.1]; exact asV, q3⟩, ⟨E', cfC, kC, iC, fC, q1.1, gC, stC, by rw [q2.1]; exact knV, by rw [q2.1]; exact obV, by rw [q2.2.1]; exact asC, q4⟩,
    ⟨V', ⟨q5.1, State.isArrayOf_alike al'.symm q5.2.1, q5.2.2.1⟩, q6, by rw [← al'.findClass]; exact q7, q8, fun j hj => by have := q9 j hj; rwa [Nat.zero_add] at this⟩, fun O n d w F n1 n2 => ?_⟩, hl, hc, hs⟩, st⟩
  · intro y hy
    simp only [List.mem_cons, List.not_mem_nil, or_false] at hy
    rcases hy with rfl | rfl <;> rfl
  · by_cases q : y = x
    · subst q
      cases hD.symm.trans hy
      exact ⟨E', q1.1, q2.2.1, q2.1, hsz⟩
    · exact ⟨cy, q10 y cy q hy, rfl, rfl, rfl⟩
  · obtain ⟨D3, cf, k, i, f, g1, g2, g3, g4, g5, g6, g7⟩ := F
    cases hD.symm.trans g1
    simp only [RoadKit.slotOf, g2, gV, gC, Option.map_some, Option.getD_some] at n1 n2
    exact ⟨E', cf, k, i, f, q1.1, g2, g3, by rw [q2.1]; exact g4, by rw [q2.1]; exact g5, by rw [q2.2.1]; exact g6, by rw [q2.2.2 f.slot (by simp [n1, n2])]; exact g7⟩
end StrChars.Road
namespace StrChars.Road
open Jvm Sem ClassFile Op Lib Jvm.Stand Jvm.Free Jvm.Free.XT
/-- WHAT COMES BACK, the byte[] as a list of values -/
def QA (Z : State) (x : Addr) (zn : Int32) (cs : List Int32) (h : Heap) (v : Option Value) (h' : Heap) (L : List Loc) : Prop := v = none ∧ (∀ y ∈ L, y.base = x) ∧ RoadKit.Keep h h' [x] ∧ h'.size = h.size + 1 ∧ RoadKit.Exa Z h' x ST ∧ RoadKit.Fld Z h' x ST "value" "[B" (.ref h.size) ∧ RoadKit.Fld Z h' x ST "coder" "B" (.int 0) ∧
  (∃ kb, Z.vm.findClass "[B" = some kb ∧ RoadKit.Arv Z h' h.size kb .byte zn (cs.map fun c => .int (lo8 c)) (.int 0)) ∧
  ∀ (O n d : String) (w : Value), RoadKit.Fld Z h x O n d w → RoadKit.slotOf Z O n d ≠ RoadKit.slotOf Z ST "value" "[B" → RoadKit.slotOf Z O n d ≠ RoadKit.slotOf Z ST "coder" "B" → RoadKit.Fld Z h' x O n d w
/-- **new String(chars) AT A CALL, THE ARRAYS AS LISTS**: the char[] at b holds cs, not empty, no char above 255 -/
theorem backArv {p : Program} {l : Launch} {e : Env} {R : Room} {s : State} {args : Array Value} {below : List Frame} {len W : Nat} {Z : State} {a0 : Array Value} {h : Heap} (hZ : Z.Warmed39 s.vm) (hw : ∀ d ∈ words, d.before a0 Z = true) {kI : Nat} (wi : (Jvm.Cond.instantiable ST kI).before a0 Z = true)
    {x b : Addr} {k : ClassId} {zn z : Int32} {cs : List Int32} {dv v0 c0 : Value} (E : RoadKit.Exa Z h x ST) (V : RoadKit.Fld Z h x ST "value" "[B" v0) (C : RoadKit.Fld Z h x ST "coder" "B" c0) (K : RoadKit.Arv Z h b k .char zn (cs.map Value.int) dv) (S : RoadKit.Sta Z h ST "COMPACT_STRINGS" "Z" (.int z)) (hz : ¬ z = 0)
    (hlen : zn.toNatClampNeg = cs.length) (h0 : 0 < cs.length) (hbig : cs.length ≤ 536870912) (hall : ∀ c ∈ cs, ¬ 255 < c) (hfr : 4 ≤ R.frames) (hlo : W + 65 ≤ R.locals) :
    Back l R p e below s args New1.yN len W (fun P a => a = #[.ref x, .ref b] ∧ P.U.heap = h ∧ P.cells + 1 ≤ R.cells ∧ P.slots + cs.length ≤ R.slots)
      (fun P _ v B => ∃ L, QA Z x zn cs h v B.U.heap L ∧ B.locs = P.locs ++ L ∧ B.cells = P.cells + 1 ∧ B.slots = P.slots + cs.length) := by
  obtain ⟨A, K1, K2, K3, K4, K5, K6⟩ := K
  have e : A.slots.size = cs.length := K3.trans hlen
  have hat : ∀ (i : Nat) (hi : i < cs.length), A.slots[i]? = some (.int cs[i]) := fun i hi => by rw [K5 i (by omega)]; simp [List.getD_eq_getElem?_getD, hi]
  have hcv : ∀ (i : Nat) (hi : i < cs.length), cv A i = cs[i] := fun i hi => by unfold cv; rw [hat i hi]
  have hty : Typed .char A := fun i v hv => by
    have hi : i < A.slots.size := (Array.getElem?_eq_some_iff.mp hv).1
    have q := K5 i hi
    rw [hv] at q
    rw [Option.some.inj q]
    exact K6 i hi
  refine Back.mono (back hZ hw wi E V C K1 hty S hz (by omega) (by omega) (fun i hi => by rw [hcv i (by omega)]; exact hall _ (List.getElem_mem _)) hfr hlo) (fun P a hp => ⟨hp.1, hp.2.1, hp.2.2.1, by rw [e]; exact hp.2.2.2⟩) (fun P a v B hp hq => ?_)
  obtain ⟨L, ⟨q1, q2, q3, q4, q5, q6, q7, ⟨V', v1, v2, v3, v4, v5⟩, q9⟩, hl, hc, hs⟩ := hq
  refine ⟨L, ⟨q1, q2, q3, q4, q5, q6, q7, ⟨V'.cls, v3, V', v1, rfl, by rw [v4, e, hlen], K4, fun i hi => ?_, fun i hi => ?_⟩, q9⟩, hl, hc, by rw [hs, e]⟩
  · have hi' : i < cs.length := by omega
    rw [v5 i (by omega), hcv i hi']; simp [List.getD_eq_getElem?_getD, hi']
  · have hi' : i < cs.length := by omega
    simp only [List.getD_eq_getElem?_getD, List.getElem?_map, List.getElem?_eq_getElem hi', Option.map_some, Option.getD_some]
    exact fits_lo8 _
end StrChars.Road
namespace StrChars.Road
open Jvm Sem ClassFile Op Lib Jvm.Stand Jvm.Free Jvm.Free.XT
/-- WHAT COMES BACK, in the writer's own shape -/
def QV (Z : State) (x : Addr) (N : Int32) (bs : List Int32) (h : Heap) (n0 : Nat) (v : Option Value) (h' : Heap) (L : List Loc) : Prop := v = none ∧ RoadKit.Fr n0 L ∧ RoadKit.Keep h h' [x] ∧ RoadKit.Exa Z h' x ST ∧ RoadKit.Fld Z h' x ST "coder" "B" (.int 0) ∧
  ∃ (t : Addr) (kb : ClassId), n0 ≤ t ∧ h.size ≤ t ∧ ¬ t = x ∧ RoadKit.Fld Z h' x ST "value" "[B" (.ref t) ∧ RoadKit.Arv Z h' t kb .byte N (bs.map Value.int) (.int 0)
/-- **new String(chars) AT A CALL, FOR THE WRITER**: a char[] of n known ints, each 0 to 255 -/
theorem backV {p : Program} {l : Launch} {e : Env} {R : Room} {s : State} {args : Array Value} {below : List Frame} {len W : Nat} {Z : State} {a0 : Array Value} {h : Heap} (hZ : Z.Warmed39 s.vm) (hw : ∀ d ∈ words, d.before a0 Z = true) {kI : Nat} (wi : (Jvm.Cond.instantiable ST kI).before a0 Z = true)
    {x b : Addr} {kC : ClassId} {cs bs : List Int32} {d v0 c0 : Value} {z N : Int32} {n n0 : Nat} (hx0 : n0 ≤ x) (hh0 : n0 ≤ h.size) (E : RoadKit.Exa Z h x ST) (V : RoadKit.Fld Z h x ST "value" "[B" v0) (C : RoadKit.Fld Z h x ST "coder" "B" c0) (K : RoadKit.Arv Z h b kC .char N (cs.map Value.int) d) (S : RoadKit.Sta Z h ST "COMPACT_STRINGS" "Z" (.int z)) (hz : ¬ z = 0)
    (hn : cs.length = n) (hN : N = Int32.ofNat n) (l0 : 0 < n) (l2 : n ≤ 4000) (hp : ∀ c ∈ cs, ¬ c < 0 ∧ ¬ (255 : Int32) < c) (hb : bs = cs.map (fun c => c.toInt8.toInt32)) (hfr : 4 ≤ R.frames) (hlo : W + 65 ≤ R.locals) :
    Back l R p e below s args (⟨"java/lang/String", "<init>", "([C)V"⟩ : MethodName) len W (fun P a => a = #[.ref x, .ref b] ∧ P.U.heap = h ∧ P.cells + 1 ≤ R.cells ∧ P.slots + n ≤ R.slots)
      (fun P _ v B => ∃ L, QV Z x N bs h n0 v B.U.heap L ∧ B.locs = P.locs ++ L ∧ B.cells = P.cells + 1 ∧ B.slots = P.slots + n) := by
  subst hn hN hb
  refine Back.mono (backArv hZ hw wi E V C K S hz (n32 (by omega)) l0 (by omega) (fun c hc => (hp c hc).2) hfr hlo) (fun P a hp => hp) (fun P a v B hp hq => ?_)
  obtain ⟨L, ⟨q1, q2, q3, q4, q5, q6, q7, ⟨kb, v1, v2⟩, q9⟩, hl, hc, hs⟩ := hq
  exact ⟨L, ⟨q1, fun y hy => by rw [q2 y hy]; exact hx0, q3, q5, q7, h.size, kb, hh0, Nat.le_refl _, Nat.ne_of_gt E.lt, q6, by rw [List.map_map]; exact v2⟩, hl, hc, hs⟩
end StrChars.Road
namespace StrChars
open Jvm Sem ClassFile Op Lib Jvm.Stand Jvm.Free.XT Jvm.Free.ALB Jvm.Free.JM Jvm.Free
open Jvm.Lib.Cold (StaticIs)
def hi8 (x : Int32) : Int32 := lo8 (x >>> ((8 : Int32) &&& 31))
/-- what StringUTF16.getChar makes of two bytes -/
def pairCh (u v : Int32) : Int32 := (((u &&& 255) <<< ((0 : Int32) &&& 31)) ||| ((v &&& 255) <<< ((8 : Int32) &&& 31))).toUInt32.toUInt16.toUInt32.toInt32
theorem shr0 (c : Int32) : c >>> ((0 : Int32) &&& 31) = c := by
  have e : ((0 : Int32) &&& 31) = 0 := by decide
  rw [e]
  apply Int32.toBitVec_inj.mp
  rw [Int32.toBitVec_shiftRight]
  have e1 : ((0 : Int32).toBitVec.smod 32) = 0#32 := by decide
  rw [e1, BitVec.sshiftRight_eq']
  exact BitVec.sshiftRight_zero
theorem lo8_and (x : Int32) : (lo8 x &&& 255).toBitVec.toNat = x.toBitVec.toNat % 256 := by
  have h : (lo8 x).toBitVec = (x.toBitVec.signExtend 8).signExtend 32 := by rw [lo8, Int8.toBitVec_toInt32, Int32.toBitVec_toInt8]
  rw [Int32.toBitVec_and, BitVec.toNat_and, h]
  have e : ((x.toBitVec.signExtend 8).signExtend 32).toNat % 256 = x.toBitVec.toNat % 256 := by
    rw [BitVec.toNat_signExtend]
    have hlt := x.toBitVec.isLt
    simp only [BitVec.toNat_setWidth, BitVec.toNat_signExtend]
    split <;> split <;> omega
  rw [← e]
  exact Nat.and_two_pow_sub_one_eq_mod _ 8
theorem pair_says {c : Int32} (h0 : ¬ c < 0) (h1 : ¬ 65535 < c) : pairCh (lo8 c) (hi8 c) = c := by
  rw [Int32.lt_iff_toInt_lt] at h0 h1
  have e0 : (0 : Int32).toInt = 0 := rfl
  have e1 : (65535 : Int32).toInt = 65535 := rfl
  have hc : c.toInt = c.toBitVec.toNat := by
    have := c.toBitVec.isLt
    have e : c.toInt = c.toBitVec.toInt := rfl
    rw [e] at h0 h1
    rw [e]
    rw [BitVec.toInt_eq_toNat_cond] at h0 h1 ⊢
    split at h0 <;> split <;> omega
  have hn : c.toBitVec.toNat < 65536 := by omega
  have a1 := lo8_and c
  have a2 : (hi8 c &&& 255).toBitVec.toNat = c.toBitVec.toNat / 256 := by
    rw [hi8, lo8_and]
    have e : ((8 : Int32) &&& 31) = 8 := by decide
    rw [e, Int32.toBitVec_shiftRight]
    have e2 : ((8 : Int32).toBitVec.smod 32) = 8#32 := by decide
    rw [e2, BitVec.sshiftRight_eq', BitVec.toNat_sshiftRight_of_msb_false (by rw [BitVec.msb_eq_false_iff_two_mul_lt]; omega)]
    show c.toBitVec.toNat >>> 8 % 256 = _
    rw [Nat.shiftRight_eq_div_pow]
    omega
  unfold pairCh
  apply Int32.toBitVec_inj.mp
  apply BitVec.eq_of_toNat_eq
  have f0 : ((0 : Int32) &&& 31) = 0 := by decide
  have f8 : ((8 : Int32) &&& 31) = 8 := by decide
  rw [f0, f8]
  have g : (((lo8 c &&& 255) <<< (0 : Int32)) ||| ((hi8 c &&& 255) <<< (8 : Int32))).toBitVec.toNat = c.toBitVec.toNat := by
    rw [Int32.toBitVec_or, Int32.toBitVec_shiftLeft, Int32.toBitVec_shiftLeft]
    have s0 : ((0 : Int32).toBitVec.smod 32) = 0#32 := by decide
    have s8 : ((8 : Int32).toBitVec.smod 32) = 8#32 := by decide
    rw [s0, s8, BitVec.toNat_or]
    simp only [BitVec.shiftLeft_eq', BitVec.toNat_shiftLeft, a1, a2]
    show (c.toBitVec.toNat % 256) <<< 0 % 2 ^ 32 ||| (c.toBitVec.toNat / 256) <<< 8 % 2 ^ 32 = _
    rw [Nat.shiftLeft_zero, Nat.mod_eq_of_lt (show c.toBitVec.toNat % 256 < 2 ^ 32 by omega), Nat.mod_eq_of_lt (show (c.toBitVec.toNat / 256) <<< 8 < 2 ^ 32 by rw [Nat.shiftLeft_eq]; omega), Nat.or_comm, ← Nat.shiftLeft_add_eq_or_of_lt (by omega), Nat.shiftLeft_eq]
    omega
  show BitVec.toNat (((((lo8 c &&& 255) <<< (0 : Int32)) ||| ((hi8 c &&& 255) <<< (8 : Int32))).toBitVec.setWidth 16).setWidth 32) = _
  rw [BitVec.toNat_setWidth, BitVec.toNat_setWidth, g]
  omega
end StrChars
namespace StrChars
open Jvm Sem ClassFile Op Lib Jvm.Stand Jvm.Free.XT Jvm.Free.ALB Jvm.Free.JM Jvm.Free
open Jvm.Lib.Cold (StaticIs)
theorem shr1 {n : Nat} (h : 2 * n < 2 ^ 31) : Int32.ofNat (2 * n) >>> ((1 : Int32) &&& 31) = Int32.ofNat n := by
  have e : ((1 : Int32) &&& 31) = 1 := by decide
  rw [e]
  apply Int32.toBitVec_inj.mp
  rw [Int32.toBitVec_shiftRight]
  have e1 : ((1 : Int32).toBitVec.smod 32) = 1#32 := by decide
  have hm : (BitVec.ofNat 32 (2 * n)).toNat = 2 * n := by rw [BitVec.toNat_ofNat, Nat.mod_eq_of_lt (by omega)]
  rw [e1, BitVec.sshiftRight_eq']
  apply BitVec.eq_of_toNat_eq
  show ((BitVec.ofNat 32 (2 * n)).sshiftRight 1).toNat = (BitVec.ofNat 32 n).toNat
  rw [BitVec.toNat_sshiftRight_of_msb_false (by rw [BitVec.msb_eq_false_iff_two_mul_lt, hm]; omega), hm, BitVec.toNat_ofNat, Nat.shiftRight_eq_div_pow]
  omega
/-- the array's cell V codes the n chars f 0 .. f (n - 1) by the coder cd, as the JDK does: coder 1 just where some char is above 255 -/
def Cod (cd : Int32) (n : Nat) (f : Nat → Int32) (V : Cell) : Prop := (cd = 0 ∧ V.slots.size = n ∧ ∀ j, j < n → V.slots[j]? = some (.int (lo8 (f j))) ∧ ¬ 255 < f j) ∨ (cd = 1 ∧ V.slots.size = 2 * n ∧ (∀ j, j < n → V.slots[2 * j]? = some (.int (lo8 (f j))) ∧ V.slots[2 * j + 1]? = some (.int (hi8 (f j)))) ∧ ∃ j, j < n ∧ 255 < f j)
theorem Cod.cd {cd : Int32} {n : Nat} {f : Nat → Int32} {V : Cell} (h : Cod cd n f V) : cd = 0 ∨ cd = 1 := h.imp (fun q => q.1) fun q => q.1
theorem Cod.len {cd : Int32} {n : Nat} {f : Nat → Int32} {V : Cell} (h : Cod cd n f V) (hs : V.slots.size < 2 ^ 31) : Int32.ofNat V.slots.size >>> (cd &&& 31) = Int32.ofNat n := by
  rcases h with ⟨rfl, h, -⟩ | ⟨rfl, h, -⟩
  · rw [shr0, h]
  · rw [h, shr1 (by omega)]
/-- **x is a String of the n chars f 0 .. f (n - 1)**, Latin-1 or UTF-16; its array at t has the cell V -/
def Txt (x t : Addr) (V : Cell) (cd : Int32) (n : Nat) (f : Nat → Int32) (U : State) : Prop := Exact "java/lang/String" x U ∧ Has x "java/lang/String" "value" "[B" (.ref t) U ∧ Has x "java/lang/String" "coder" "B" (.int cd) U ∧ XT.Arr .byte t V U ∧ Cod cd n f V ∧ ∀ j, j < n → ¬ f j < 0 ∧ ¬ 65535 < f j
theorem Txt.mv {x t : Addr} {V : Cell} {cd : Int32} {n : Nat} {f : Nat → Int32} {U U' : State} (h : Txt x t V cd n f U) (hal : U.vm.Alike U'.vm) (hh : U'.heap = U.heap) : Txt x t V cd n f U' := ⟨h.1.mv hal hh, h.2.1.mv hal hh, h.2.2.1.mv hal hh, h.2.2.2.1.mv hal hh, h.2.2.2.2⟩
namespace Cdr
def yN : MethodName := ⟨"java/lang/String", "coder", "()B"⟩
abbrev yB : ByteArray := jdk_42_method_152_code
theorem d0 : decode yB 0 = .ok (.getstatic 38, 3) := by decide +kernel
theorem d3 : decode yB 3 = .ok (.ifCond (.eq) 10, 3) := by decide +kernel
theorem d6 : decode yB 6 = .ok (.aload_n 0, 1) := by decide +kernel
theorem d7 : decode yB 7 = .ok (.getfield 15, 3) := by decide +kernel
theorem d10 : decode yB 10 = .ok (.goto 4, 3) := by decide +kernel
theorem d14 : decode yB 14 = .ok (.ireturn, 1) := by decide +kernel
def site : List Cond := [.fieldLink "java/lang/String" 38 "java/lang/String" "COMPACT_STRINGS" "Z", .fieldLink "java/lang/String" 15 "java/lang/String" "coder" "B"]
def tab : Cond := tabOf yN yB 1 (some .byte) site
def P (x : Addr) (cd z : Int32) (args : Array Value) (s : State) : Prop := args = #[.ref x] ∧ Has x "java/lang/String" "coder" "B" (.int cd) s ∧ (cd = 0 ∨ cd = 1) ∧ StaticIs s "java/lang/String" "COMPACT_STRINGS" "Z" (.int z) ∧ ¬ z = 0
def E (cd : Int32) (r : Option Value) (s u : State) : Prop := XT.PureE (some (.int cd)) r s u
theorem law (l : Launch) (x : Addr) (cd z : Int32) : Law l yN 1 0 0 0 yB 1 (some .byte) site (P x cd z) (E cd) [] 0 0 := by
  refine Law.of_walk (plainFor_of_name (by decide +kernel)) (by decide +kernel) (by decide +kernel) (by decide) (fun _ _ h => by rw [h.1]; rfl) (fun _ U U' hal hh h => ⟨h.1, h.2.1.mv hal hh, h.2.2.1, h.2.2.2.1.there hal hh, h.2.2.2.2⟩) (fun r U U' V V' h1 hal h2 h => XT.PureE.mv r U U' V V' h1 hal h2 h) ?_
  intro p e s m args below meth c s₁ X0 hexec hbytes hml hret hlk hnm hown hh0 W hP
  obtain ⟨rfl, hx, hc, s1, hz⟩ := hP
  have c1 : Steps p.tables e below (s₁.setTop (entryFrame m #[.ref x] 1)) (s₁.setTop (mkF m 0 #[.val (.ref x)] [])) := entry rfl
  obtain ⟨T2, X2, q2, st2⟩ := X0.sget hexec hown (wk W (.fieldLink "java/lang/String" 38 "java/lang/String" "COMPACT_STRINGS" "Z")) s1 (fun _ _ h => by rw [hh0]; exact h) (g := (mkF m 0 #[.val (.ref x)] [])) rfl (hb hbytes d0)
  have hh2 := q2.trans hh0
  have c3 : Steps p.tables e below (s₁.setTop (entryFrame m #[.ref x] 1)) (T2.setTop (mkF m 7 #[.val (.ref x)] [.ref x])) := (c1.trans (st2 _ (Steps.refl _))).trans (by
    refine XS.ifNo X2.here hexec rfl (hb hbytes d3) rfl (i0_eq_f hz) ?_
    refine XS.aloadN X2.here hexec rfl (hb hbytes d6) rfl rfl ?_
    exact Steps.refl _)
  obtain ⟨T4, X4, q4, st4⟩ := X2.hget hexec hown (wk W (.fieldLink "java/lang/String" 15 "java/lang/String" "coder" "B")) (hx.mv X2.warmed.alike hh2) (g := (mkF m 7 #[.val (.ref x)] [.ref x])) rfl (rest := []) rfl (hb hbytes d7)
  have c5 : Steps p.tables e below (s₁.setTop (entryFrame m #[.ref x] 1)) (T4.setTop (mkF m 14 #[.val (.ref x)] [.int cd])) := (c3.trans (st4 _ (Steps.refl _))).trans (by
    refine XS.goto X4.here hexec rfl (pc0 := 10) rfl (hb hbytes d10) (by decide) rfl ?_
    exact Steps.refl _)
  exact ⟨T4, some (.int cd), _, _, _, X4, rfl, rfl, rfl, (fun h => by cases h), ⟨rfl, q4.trans hh2⟩, fun fs hl => c5.trans (X4.ireturnOut hexec hret (by rcases hc with rfl | rfl <;> rfl) (Or.inr (Or.inr (Or.inl rfl))) (hb hbytes d14) hl)⟩
end Cdr
namespace Len
def yN : MethodName := ⟨"java/lang/String", "length", "()I"⟩
abbrev yB : ByteArray := jdk_42_method_54_code
theorem d0 : decode yB 0 = .ok (.aload_n 0, 1) := by decide +kernel
theorem d1 : decode yB 1 = .ok (.getfield 9, 3) := by decide +kernel
theorem d4 : decode yB 4 = .ok (.arraylength, 1) := by decide +kernel
theorem d5 : decode yB 5 = .ok (.aload_n 0, 1) := by decide +kernel
theorem d6 : decode yB 6 = .ok (.invokevirtual 335, 3) := by decide +kernel
theorem d9 : decode yB 9 = .ok (.ishr, 1) := by decide +kernel
theorem d10 : decode yB 10 = .ok (.ireturn, 1) := by decide +kernel
def site : List Cond := [.fieldLink "java/lang/String" 9 "java/lang/String" "value" "[B", Cdr.tab] ++ virtW "java/lang/String" 335 "java/lang/String" Cdr.yN Cdr.yN
def tab : Cond := tabOf yN yB 1 (some .int) site
def P (x t : Addr) (V : Cell) (cd : Int32) (n : Nat) (f : Nat → Int32) (z : Int32) (args : Array Value) (s : State) : Prop := args = #[.ref x] ∧ Txt x t V cd n f s ∧ StaticIs s "java/lang/String" "COMPACT_STRINGS" "Z" (.int z) ∧ ¬ z = 0
def E (n : Nat) (r : Option Value) (s u : State) : Prop := XT.PureE (some (.int (Int32.ofNat n))) r s u
/-- length() of a String of n chars, in either coding -/
theorem law (l : Launch) (x t : Addr) (V : Cell) (cd : Int32) (n : Nat) (f : Nat → Int32) (z : Int32) : Law l yN 1 0 1 13 yB 1 (some .int) site (P x t V cd n f z) (E n) [] 0 0 := by
  refine Law.of_walk (plainFor_of_name (by decide +kernel)) (by decide +kernel) (by decide +kernel) (by decide) (fun _ _ h => by rw [h.1]; rfl) (fun _ U U' hal hh h => ⟨h.1, h.2.1.mv hal hh, h.2.2.1.there hal hh, h.2.2.2⟩) (fun r U U' V V' h1 hal h2 h => XT.PureE.mv r U U' V V' h1 hal h2 h) ?_
  intro p e s m args below meth c s₁ X0 hexec hbytes hml hret hlk hnm hown hh0 W hP
  obtain ⟨rfl, hx, s1, hz⟩ := hP
  have v31 := hx.2.2.2.1.2.2.2
  have c1 : Steps p.tables e below (s₁.setTop (entryFrame m #[.ref x] 1)) (s₁.setTop (mkF m 1 #[.val (.ref x)] [.ref x])) := Steps.trans (entry rfl) (by
    show Steps p.tables e below (s₁.setTop (mkF m 0 #[.val (.ref x)] [])) _
    refine XS.aloadN X0.here hexec rfl (hb hbytes d0) rfl rfl ?_
    exact Steps.refl _)
  obtain ⟨T2, X2, q2, st2⟩ := X0.hget hexec hown (wk W (.fieldLink "java/lang/String" 9 "java/lang/String" "value" "[B")) (hx.mv X0.warmed.alike hh0).2.1 (g := (mkF m 1 #[.val (.ref x)] [.ref x])) rfl (rest := []) rfl (hb hbytes d1)
  have hh2 := q2.trans hh0
  have hx2 := hx.mv X2.warmed.alike hh2
  have c3 : Steps p.tables e below (s₁.setTop (entryFrame m #[.ref x] 1)) (T2.setTop (mkF m 6 #[.val (.ref x)] [.ref x, .int (Int32.ofNat V.slots.size)])) := (c1.trans (st2 _ (Steps.refl _))).trans (by
    refine X2.alen hexec hx2.2.2.2.1 rfl rfl (hb hbytes d4) ?_
    refine XS.aloadN X2.here hexec rfl (hb hbytes d5) rfl rfl ?_
    exact Steps.refl _)
  obtain ⟨v4, T4, X4, E4, g4⟩ := X2.callV hexec (Cdr.law l x cd z) hown (wks W (virtW "java/lang/String" 335 "java/lang/String" Cdr.yN Cdr.yN)) rfl (by decide) (wk W Cdr.tab) (W := 1) (Nat.le_of_ble_eq_true rfl) (Nat.le_of_ble_eq_true rfl) (Nat.le_refl _) (Nat.le_refl _) (hx2.1.fc X2.warmed.alike) hx2.1.is (g := (mkF m 6 #[.val (.ref x)] [.ref x, .int (Int32.ofNat V.slots.size)])) rfl (by rw [hml]; rfl) c3 (argsL := []) (rest := [.int (Int32.ofNat V.slots.size)]) rfl rfl (by show 2 * 0 + (1 + 0) ≤ _; decide) (hb hbytes d6) (⟨rfl, hx2.2.2.1, hx.2.2.2.2.1.cd, s1.there X2.warmed.alike hh2, hz⟩)
  obtain ⟨rfl, q4⟩ := E4
  have c5 : Steps p.tables e below (s₁.setTop (entryFrame m #[.ref x] 1)) (T4.setTop (mkF m 10 #[.val (.ref x)] [.int (Int32.ofNat V.slots.size >>> (cd &&& 31))])) := Steps.trans g4 (by
    refine ishr X4.here hexec rfl (hb hbytes d9) rfl ?_
    exact Steps.refl _)
  rw [hx.2.2.2.2.1.len v31] at c5
  exact ⟨T4, some (.int (Int32.ofNat n)), _, _, _, X4, rfl, rfl, rfl, (fun h => by cases h), ⟨rfl, q4.trans hh2⟩, fun fs hl => c5.trans (X4.ireturnOut hexec hret rfl (Or.inl rfl) (hb hbytes d10) hl)⟩
theorem pays {l : Launch} {R : Room} {p : Program} {e : Env} {below : List Frame} {s : State} {sargs : Array Value} {len W : Nat} (x t : Addr) (V : Cell) (cd : Int32) (n : Nat) (f : Nat → Int32) (z : Int32) (htab : tab.before sargs s = true) (hfr : 2 ≤ R.frames) (hlo : W + 25 ≤ R.locals) :
    Back l R p e below s sargs yN len W (fun A₁ a₁ => A₁.cells + 0 ≤ R.cells ∧ A₁.slots + 0 ≤ R.slots ∧ P x t V cd n f z a₁ A₁.U) (fun A₁ _ v₁ B₁ => E n v₁ A₁.U B₁.U ∧ B₁.locs = A₁.locs ++ [] ∧ B₁.cells = A₁.cells + 0 ∧ B₁.slots = A₁.slots + 0) :=
  (law l x t V cd n f z).pays htab hfr (by omega)
end Len
end StrChars
namespace StrChars.Road
open Jvm Sem ClassFile Op Lib Jvm.Stand Jvm.Free Jvm.Free.XT
open Jvm.Lib.Cold (StaticIs)
theorem consq {a : Array Value} {s : State} {c : Jvm.Cond} {L : List Jvm.Cond} (h0 : c.before a s = true) (h : ∀ w ∈ L, w.before a s = true) : ∀ w ∈ c :: L, w.before a s = true := fun w hw => (List.mem_cons.mp hw).elim (fun e => e ▸ h0) (h w)
/-- the words of String.length(), either coding -/
abbrev wordsLen : List Jvm.Cond := [.code Len.yN Len.yB 1 (some .int), .initialized ST, .fieldLink ST 9 ST "value" "[B", .fieldLink ST 38 ST "COMPACT_STRINGS" "Z", .fieldLink ST 15 ST "coder" "B", .code Cdr.yN Cdr.yB 1 (some .byte), .methodLink ST 335 Cdr.yN, .declares Cdr.yN, .selects ST Cdr.yN Cdr.yN, .instanceMethod Cdr.yN]
theorem tabLen_of {a : Array Value} {s : State} (h : ∀ w ∈ wordsLen, w.before a s = true) : Len.tab.before a s = true := by
  have hc : Cdr.tab.before a s = true := unparts (wk h (.code Cdr.yN Cdr.yB 1 (some .byte))) (wks h (.initialized Cdr.yN.cls :: Cdr.site))
  have q := consq hc h
  exact unparts (wk q (.code Len.yN Len.yB 1 (some .int))) (wks q (.initialized Len.yN.cls :: Len.site))
theorem movedLen {Z s : State} {a0 args : Array Value} (hZ : Z.Warmed39 s.vm) (hw : ∀ d ∈ wordsLen, d.before a0 Z = true) : ∀ d ∈ wordsLen, d.before args s = true := fun d hd => by
  have q := hw d hd
  have t : ∀ d ∈ wordsLen, d = .arrayClass .byte ∨ (d.onTables && d.keepsFace) = true := by decide +kernel
  rcases t d hd with rfl | t
  · exact RoadKit.mvA hZ q
  · exact RoadKit.mv hZ q t
/-- the bytes of the chars cs, low before high -/
def wideBytes : List Int32 → List Value
  | [] => []
  | c :: cs => .int (lo8 c) :: .int (hi8 c) :: wideBytes cs
theorem wide_lo (d : Value) : ∀ (cs : List Int32) (j : Nat), j < cs.length → (wideBytes cs).getD (2 * j) d = .int (lo8 (cs.getD j 0))
  | [], j, h => absurd h (Nat.not_lt_zero j)
  | c :: cs, 0, _ => rfl
  | c :: cs, j + 1, h => by
    have q := wide_lo d cs j (by simpa using h)
    rw [show 2 * (j + 1) = 2 * j + 1 + 1 from by omega]
    simpa [wideBytes] using q
theorem wide_hi (d : Value) : ∀ (cs : List Int32) (j : Nat), j < cs.length → (wideBytes cs).getD (2 * j + 1) d = .int (hi8 (cs.getD j 0))
  | [], j, h => absurd h (Nat.not_lt_zero j)
  | c :: cs, 0, _ => rfl
  | c :: cs, j + 1, h => by
    have q := wide_hi d cs j (by simpa using h)
    rw [show 2 * (j + 1) + 1 = 2 * j + 1 + 1 + 1 from by omega]
    simpa [wideBytes] using q
theorem low_at (d : Value) (cs : List Int32) (j : Nat) (h : j < cs.length) : (cs.map fun c => Value.int (lo8 c)).getD j d = .int (lo8 (cs.getD j 0)) := by
  simp [List.getD_eq_getElem?_getD, h]
/-- an array of N2 bytes vs codes the chars cs by the coder cd -/
def CodA (cs : List Int32) (cd N2 : Int32) (vs : List Value) : Prop := (cd = 0 ∧ N2 = Int32.ofNat cs.length ∧ vs = (cs.map fun c => Value.int (lo8 c)) ∧ ∀ c ∈ cs, ¬ 255 < c) ∨ (cd = 1 ∧ N2 = Int32.ofNat (2 * cs.length) ∧ vs = wideBytes cs ∧ ∃ c ∈ cs, 255 < c)
theorem CodA.cod {cs : List Int32} {cd N2 : Int32} {vs : List Value} {V : Cell} (h : CodA cs cd N2 vs) (hn : 2 * cs.length < 2 ^ 31) (hs : V.slots.size = N2.toNatClampNeg) (hv : RoadKit.Has V vs (.int 0)) : Cod cd cs.length (fun j => cs.getD j 0) V := by
  rcases h with ⟨rfl, rfl, rfl, h⟩ | ⟨rfl, rfl, rfl, c, hc, hw⟩
  · rw [n32 (by omega)] at hs
    exact Or.inl ⟨rfl, hs, fun j hj => ⟨by rw [hv j (by omega), low_at _ _ _ hj], by
      have e : cs.getD j 0 = cs[j] := by simp [List.getD_eq_getElem?_getD, hj]
      show ¬ 255 < cs.getD j 0
      rw [e]; exact h _ (List.getElem_mem _)⟩⟩
  · rw [n32 (by omega)] at hs
    obtain ⟨j, hj, rfl⟩ := List.getElem_of_mem hc
    exact Or.inr ⟨rfl, hs, fun j hj => ⟨by rw [hv _ (by omega), wide_lo _ _ _ hj], by rw [hv _ (by omega), wide_hi _ _ _ hj]⟩, j, hj, by
      have e : cs.getD j 0 = cs[j] := by simp [List.getD_eq_getElem?_getD, hj]
      show 255 < cs.getD j 0
      rw [e]; exact hw⟩
/-- an object of exactly java/lang/String, its two fields found: as the laws ask it -/
theorem strObj {Z U : State} {a0 : Array Value} {kI : Nat} (wi : (Jvm.Cond.instantiable ST kI).before a0 Z = true) (al : Z.vm.Alike U.vm) {x : Addr} {v0 c0 : Value} (E : RoadKit.Exa Z U.heap x ST) (V : RoadKit.Fld Z U.heap x ST "value" "[B" v0) (C : RoadKit.Fld Z U.heap x ST "coder" "B" c0) :
    ∃ (D : Cell) (fV fC : Field), Blank ST x D U ∧ Found ST "value" "[B" fV U ∧ Found ST "coder" "B" fC U ∧ D.slots[fV.slot]? = some v0 ∧ D.slots[fC.slot]? = some c0 ∧ RoadKit.slotOf Z ST "value" "[B" = fV.slot ∧ RoadKit.slotOf Z ST "coder" "B" = fC.slot := by
  obtain ⟨D, cfV, kV, iV, fV, hD, gV, stV, knV, obV, asV, slV⟩ := V
  obtain ⟨D', cfC, kC, iC, fC, hD', gC, stC, -, -, asC, slC⟩ := C
  cases hD.symm.trans hD'
  obtain ⟨D2, kD, e1, e2, e3, e4, e5⟩ := E
  cases hD.symm.trans e1
  obtain ⟨c2, k2, i1, i2, i3, -⟩ := Cond.instantiable_spec wi
  cases e2.symm.trans i1
  cases e3.symm.trans i2
  obtain ⟨kU, u1, u2⟩ := al.2.2 _ _ e3
  exact ⟨D, fV, fC, ⟨hD, ⟨knV, fun q hq => by rw [hq] at obV; cases obV⟩, by rw [al.findClass]; exact e2, kU, u1, by rw [u2]; exact i3, by rw [u2]; exact e5 i3⟩, ⟨SBG.found_only al ⟨cfV, kV, iV, gV⟩, stV⟩, ⟨SBG.found_only al ⟨cfC, kC, iC, gC⟩, stC⟩, slV, slC, by simp [RoadKit.slotOf, gV], by simp [RoadKit.slotOf, gC]⟩
theorem sta_is {Z U : State} (al : Z.vm.Alike U.vm) {C n d : String} {v : Value} (S : RoadKit.Sta Z U.heap C n d v) : StaticIs U C n d v := by
  obtain ⟨cfS, iS, kS, fS, st, cS, t1, t2, t3, t4, t5, t6, t7⟩ := S
  exact StaticIs.there (s := { Z with heap := U.heap }) ⟨cfS, iS, kS, fS, st, cS, t1, t2, t3, t4, t5, (fun q => by rw [q] at t6; cases t6), t7⟩ al rfl
/-- **length() OF SUCH A STRING** -/
theorem lenW {p : Program} {l : Launch} {e : Env} {R : Room} {s : State} {args : Array Value} {below : List Frame} {len W : Nat} {Z : State} {a0 : Array Value} {h : Heap} (hZ : Z.Warmed39 s.vm) (hw : ∀ d ∈ wordsLen, d.before a0 Z = true) {kI : Nat} (wi : (Jvm.Cond.instantiable ST kI).before a0 Z = true)
    {x t : Addr} {kb : ClassId} {cs : List Int32} {cd N2 z : Int32} {vs : List Value} (E : RoadKit.Exa Z h x ST) (V : RoadKit.Fld Z h x ST "value" "[B" (.ref t)) (C : RoadKit.Fld Z h x ST "coder" "B" (.int cd)) (K : RoadKit.Arv Z h t kb .byte N2 vs (.int 0)) (hc : CodA cs cd N2 vs) (hb : ∀ c ∈ cs, ¬ c < 0 ∧ ¬ (65535 : Int32) < c)
    (S : RoadKit.Sta Z h ST "COMPACT_STRINGS" "Z" (.int z)) (hz : ¬ z = 0) (l2 : cs.length ≤ 4000) (hfr : 2 ≤ R.frames) (hlo : W + 25 ≤ R.locals) :
    Back l R p e below s args (⟨"java/lang/String", "length", "()I"⟩ : MethodName) len W (fun P a => a = #[.ref x] ∧ P.U.heap = h ∧ P.cells + 0 ≤ R.cells ∧ P.slots + 0 ≤ R.slots)
      (fun P _ v B => ∃ L, (v = some (.int (Int32.ofNat cs.length)) ∧ L = [] ∧ B.U.heap = h) ∧ B.locs = P.locs ++ L ∧ B.cells = P.cells + 0 ∧ B.slots = P.slots + 0) := by
  obtain ⟨A, K1, K2, K3, K4, K5, K6⟩ := K
  have hcod := hc.cod (by omega) K3 K5
  intro m meth c P g ig mk a X hg hsize hdg hW hn hp'
  obtain ⟨rfl, rfl, r1, r2⟩ := hp'
  have al : Z.vm.Alike P.U.vm := hZ.alike.trans X.warmed.alike
  obtain ⟨D, fV, fC, hB, F1, F2, g1, g2, -, -⟩ := strObj wi al E V C
  have hx : Txt x t A cd cs.length (fun j => cs.getD j 0) P.U := ⟨⟨_, hB.2.2.1, D, hB.1, rfl, by cases q : D.vm <;> first | rfl | exact absurd q (hB.2.1.2 _)⟩, Has.of hB F1 g1, Has.of hB F2 g2, ⟨K1.1, State.isArrayOf_alike al K1.2.1, K1.2.2, by rcases hcod with ⟨-, q, -⟩ | ⟨-, q, -⟩ <;> omega⟩, hcod, fun j hj => by
    have e : cs.getD j 0 = cs[j] := by simp [List.getD_eq_getElem?_getD, hj]
    show ¬ cs.getD j 0 < 0 ∧ ¬ 65535 < cs.getD j 0
    rw [e]; exact hb _ (List.getElem_mem _)⟩
  obtain ⟨v, B, X', ⟨⟨hv, hh⟩, hl, hk, hs⟩, st⟩ := Len.pays x t A cd cs.length (fun j => cs.getD j 0) z (tabLen_of (movedLen hZ hw)) hfr hlo m meth c P g ig mk _ X hg hsize hdg hW hn ⟨r1, r2, rfl, hx, sta_is al S, hz⟩
  exact ⟨v, B, X', ⟨[], ⟨hv, rfl, hh⟩, hl, hk, hs⟩, st⟩
end StrChars.Road
namespace StrChars.Road
open Jvm Sem ClassFile Op Lib Jvm.Stand Jvm.Free Jvm.Free.XT
open Jvm.Lib.Cold (StaticIs)
/-- what backV says of its String, as the contracts of this text ask it: cs's low bytes, coder 0 -/
theorem codOf {cs : List Int32} {n : Nat} (hn : cs.length = n) (hb : ∀ c ∈ cs, ¬ 255 < c) : CodA cs 0 (Int32.ofNat n) ((cs.map lo8).map Value.int) := Or.inl ⟨rfl, by rw [hn], by simp [List.map_map, Function.comp_def], hb⟩
end StrChars.Road
end Jvm.Pilot.@@N@@
namespace Jvm.Pilot.@@N@@
open Jvm Jvm.ClassFile Sem Op Lib Jvm.Free Jvm.Stand Jvm.LawKit Jvm.RoadKit Bundle Jvm.Pilot.@@N@@.Jvm.D
namespace Own
open Jvm Jvm.ClassFile Sem Op Lib Jvm.Free Jvm.Stand Jvm.LawKit Jvm.RoadKit Bundle
abbrev i2c (x : Int32) : Int32 := x.toUInt32.toUInt16.toUInt32.toInt32
/-- from the frame g of T the run comes to an end of which G speaks -/
def Go (p : Program) (e : Env) (below : List Frame) (G : State → Prop) (T : State) (g : JFrame) : Prop := ∃ t, Steps p.tables e below (T.setTop g) t ∧ G t
/-- where a walk stands: Stand, the run's own machine, the heap, the tables, its class, what was written, what was kept -/
def NK (p : Program) (l : Launch) (e : Env) (R : Room) (s : State) (m : MethodId) (args : Array Value) (below : List Frame) (meth : Method) (c : Code) (Z : State) (own : String) (n0 : Nat) (h0 : Heap) (ws : List Addr) (T : State) (h : Heap) (locs : List Loc) (cells slots : Nat) : Prop :=
  Stand p l e R s m args below meth c T locs cells slots ∧ p.tables.exec = Jvm.exec ∧ T.heap = h ∧ Z.Warmed39 s.vm ∧ s.vm.findClass own = some m.cls ∧ Fr n0 locs ∧ Keep h0 h ws ∧ n0 ≤ h0.size ∧ meth.locks = false
theorem Keep.toExt {h h' : Heap} (K : Keep h h' []) : Ext h h' := ⟨K.1, fun a c q => K.2.1 a c q nin0⟩
theorem Keep.ofExt {h h' : Heap} (E : Ext h h') (ws : List Addr) : Keep h h' ws := (Keep.refl h ws).ext E
theorem Ext.rfl' (h : Heap) : Ext h h := ⟨Nat.le_refl _, fun _ _ q => q⟩
theorem Ext.tr {h h' h2 : Heap} (E : Ext h h') (E' : Ext h' h2) : Ext h h2 := ⟨Nat.le_trans E.1 E'.1, fun a c q => E'.2 a c (E.2 a c q)⟩
section Steps1
variable {p : Program} {l : Launch} {e : Env} {R : Room} {s : State} {m : MethodId} {args : Array Value} {below : List Frame} {meth : Method} {c : Code} {Z : State} {own : String} {n0 : Nat} {h0 : Heap} {ws : List Addr} {T T' : State} {h h' : Heap} {locs : List Loc} {cells slots : Nat} {G : State → Prop} {g g' : JFrame} {a0 : Array Value} {pc pc' : Nat} {Ls Ls' : Array Slot} {st rest : List Value}
theorem Go.by1 (f : ∀ t, Steps p.tables e below (T'.setTop g') t → Steps p.tables e below (T.setTop g) t) (k : Go p e below G T' g') : Go p e below G T g := by
  obtain ⟨t, a, b⟩ := k
  exact ⟨t, f t a, b⟩
theorem Go.tr (f : Steps p.tables e below (T.setTop g) (T'.setTop g')) (k : Go p e below G T' g') : Go p e below G T g := by
  obtain ⟨t, a, b⟩ := k
  exact ⟨t, f.trans a, b⟩
/-- a value gets a name -/
theorem lets {α : Type} {P : α → Prop} (x : α) (k : ∀ y, y = x → P y) : P x := k x rfl
theorem NK.iloadN (W : NK p l e R s m args below meth c Z own n0 h0 ws T h locs cells slots) {k : Fin 4} {v : Int32} (hd : decode c.code pc = .ok (.iload_n k, 1)) (hl : Ls[k.val]? = some (.val (.int v))) (hp : pc + 1 = pc') (k' : Go p e below G T (mkF m pc' Ls (.int v :: st))) : Go p e below G T (mkF m pc Ls (st)) := by
  subst hp; exact Go.by1 (fun t q => XS.iloadN W.1.here W.2.1 rfl hd hl q) k'
theorem NK.iload (W : NK p l e R s m args below meth c Z own n0 h0 ws T h locs cells slots) {k : Nat} {v : Int32} (hd : decode c.code pc = .ok (.iload k, 2)) (hl : Ls[k]? = some (.val (.int v))) (hp : pc + 2 = pc') (k' : Go p e below G T (mkF m pc' Ls (.int v :: st))) : Go p e below G T (mkF m pc Ls (st)) := by
  subst hp; exact Go.by1 (fun t q => XS.iload W.1.here W.2.1 rfl hd hl q) k'
theorem NK.istoreN (W : NK p l e R s m args below meth c Z own n0 h0 ws T h locs cells slots) {k : Fin 4} {x : Int32} (hd : decode c.code pc = .ok (.istore_n k, 1)) (hl : storeLocals Ls k.val (.int x) = some Ls') (hp : pc + 1 = pc') (k' : Go p e below G T (mkF m pc' Ls' (rest))) : Go p e below G T (mkF m pc Ls (.int x :: rest)) := by
  subst hp; exact Go.by1 (fun t q => XS.istoreN W.1.here W.2.1 rfl hd rfl hl q) k'
theorem NK.istore (W : NK p l e R s m args below meth c Z own n0 h0 ws T h locs cells slots) {k : Nat} {x : Int32} (hd : decode c.code pc = .ok (.istore k, 2)) (hl : storeLocals Ls k (.int x) = some Ls') (hp : pc + 2 = pc') (k' : Go p e below G T (mkF m pc' Ls' (rest))) : Go p e below G T (mkF m pc Ls (.int x :: rest)) := by
  subst hp; exact Go.by1 (fun t q => XS.istore W.1.here W.2.1 rfl hd rfl hl q) k'
theorem NK.lloadN (W : NK p l e R s m args below meth c Z own n0 h0 ws T h locs cells slots) {k : Fin 4} {v : Int64} (hd : decode c.code pc = .ok (.lload_n k, 1)) (hl : Ls[k.val]? = some (.val (.long v))) (hp : pc + 1 = pc') (k' : Go p e below G T (mkF m pc' Ls (.long v :: st))) : Go p e below G T (mkF m pc Ls (st)) := by
  subst hp; exact Go.by1 (fun t q => XT.lloadN W.1.here W.2.1 rfl hd hl q) k'
theorem NK.lload (W : NK p l e R s m args below meth c Z own n0 h0 ws T h locs cells slots) {k : Nat} {v : Int64} (hd : decode c.code pc = .ok (.lload k, 2)) (hl : Ls[k]? = some (.val (.long v))) (hp : pc + 2 = pc') (k' : Go p e below G T (mkF m pc' Ls (.long v :: st))) : Go p e below G T (mkF m pc Ls (st)) := by
  subst hp; exact Go.by1 (fun t q => XT.lload W.1.here W.2.1 rfl hd hl q) k'
theorem NK.lstoreN (W : NK p l e R s m args below meth c Z own n0 h0 ws T h locs cells slots) {k : Fin 4} {x : Int64} (hd : decode c.code pc = .ok (.lstore_n k, 1)) (hl : storeLocals Ls k.val (.long x) = some Ls') (hp : pc + 1 = pc') (k' : Go p e below G T (mkF m pc' Ls' (rest))) : Go p e below G T (mkF m pc Ls (.long x :: rest)) := by
  subst hp; exact Go.by1 (fun t q => XT.lstoreN W.1.here W.2.1 rfl hd rfl hl q) k'
theorem NK.lstore (W : NK p l e R s m args below meth c Z own n0 h0 ws T h locs cells slots) {k : Nat} {x : Int64} (hd : decode c.code pc = .ok (.lstore k, 2)) (hl : storeLocals Ls k (.long x) = some Ls') (hp : pc + 2 = pc') (k' : Go p e below G T (mkF m pc' Ls' (rest))) : Go p e below G T (mkF m pc Ls (.long x :: rest)) := by
  subst hp; exact Go.by1 (fun t q => XT.lstore W.1.here W.2.1 rfl hd rfl hl q) k'
theorem NK.aloadN (W : NK p l e R s m args below meth c Z own n0 h0 ws T h locs cells slots) {k : Fin 4} {v : Value} (hd : decode c.code pc = .ok (.aload_n k, 1)) (hl : Ls[k.val]? = some (.val v)) (hv : v.isRef = true) (hp : pc + 1 = pc') (k' : Go p e below G T (mkF m pc' Ls (v :: st))) : Go p e below G T (mkF m pc Ls (st)) := by
  subst hp; exact Go.by1 (fun t q => XS.aloadN W.1.here W.2.1 rfl hd hl hv q) k'
theorem NK.aload (W : NK p l e R s m args below meth c Z own n0 h0 ws T h locs cells slots) {k : Nat} {v : Value} (hd : decode c.code pc = .ok (.aload k, 2)) (hl : Ls[k]? = some (.val v)) (hv : v.isRef = true) (hp : pc + 2 = pc') (k' : Go p e below G T (mkF m pc' Ls (v :: st))) : Go p e below G T (mkF m pc Ls (st)) := by
  subst hp; exact Go.by1 (fun t q => XS.aload W.1.here W.2.1 rfl hd hl hv q) k'
theorem NK.astoreN (W : NK p l e R s m args below meth c Z own n0 h0 ws T h locs cells slots) {k : Fin 4} {x : Value} (hd : decode c.code pc = .ok (.astore_n k, 1)) (hv : x.isRef = true) (hl : storeLocals Ls k.val x = some Ls') (hp : pc + 1 = pc') (k' : Go p e below G T (mkF m pc' Ls' (rest))) : Go p e below G T (mkF m pc Ls (x :: rest)) := by
  subst hp; exact Go.by1 (fun t q => XS.astoreN W.1.here W.2.1 rfl hd rfl hv hl q) k'
theorem NK.astore (W : NK p l e R s m args below meth c Z own n0 h0 ws T h locs cells slots) {k : Nat} {x : Value} (hd : decode c.code pc = .ok (.astore k, 2)) (hv : x.isRef = true) (hl : storeLocals Ls k x = some Ls') (hp : pc + 2 = pc') (k' : Go p e below G T (mkF m pc' Ls' (rest))) : Go p e below G T (mkF m pc Ls (x :: rest)) := by
  subst hp; exact Go.by1 (fun t q => XS.astore W.1.here W.2.1 rfl hd rfl hv hl q) k'
theorem NK.iconst (W : NK p l e R s m args below meth c Z own n0 h0 ws T h locs cells slots) {i : Int} (v : Int32) (hd : decode c.code pc = .ok (.iconst i, 1)) (hv : Int32.ofInt i = v) (hp : pc + 1 = pc') (k' : Go p e below G T (mkF m pc' Ls (.int v :: st))) : Go p e below G T (mkF m pc Ls (st)) := by
  subst hp; exact Go.by1 (fun t q => XT.iconstV W.1.here W.2.1 rfl v hd hv q) k'
theorem NK.bipush (W : NK p l e R s m args below meth c Z own n0 h0 ws T h locs cells slots) {i : Int} (v : Int32) (hd : decode c.code pc = .ok (.bipush i, 2)) (hv : (Int8.ofInt i).toInt32 = v) (hp : pc + 2 = pc') (k' : Go p e below G T (mkF m pc' Ls (.int v :: st))) : Go p e below G T (mkF m pc Ls (st)) := by
  subst hp; exact Go.by1 (fun t q => XT.bipushV W.1.here W.2.1 rfl v hd hv q) k'
theorem NK.sipush (W : NK p l e R s m args below meth c Z own n0 h0 ws T h locs cells slots) {i : Int} (v : Int32) (hd : decode c.code pc = .ok (.sipush i, 3)) (hv : (Int16.ofInt i).toInt32 = v) (hp : pc + 3 = pc') (k' : Go p e below G T (mkF m pc' Ls (.int v :: st))) : Go p e below G T (mkF m pc Ls (st)) := by
  subst hp; exact Go.by1 (fun t q => XT.sipushV W.1.here W.2.1 rfl v hd hv q) k'
theorem NK.lconst (W : NK p l e R s m args below meth c Z own n0 h0 ws T h locs cells slots) {k : Fin 2} (v : Int64) (hd : decode c.code pc = .ok (.lconst k, 1)) (hv : Int64.ofNat k = v) (hp : pc + 1 = pc') (k' : Go p e below G T (mkF m pc' Ls (.long v :: st))) : Go p e below G T (mkF m pc Ls (st)) := by
  subst hp; exact Go.by1 (fun t q => XT.lconstV W.1.here W.2.1 rfl v hd hv q) k'
theorem NK.aconstNull (W : NK p l e R s m args below meth c Z own n0 h0 ws T h locs cells slots)  (hd : decode c.code pc = .ok (.aconst_null, 1))  (hp : pc + 1 = pc') (k' : Go p e below G T (mkF m pc' Ls (.null :: st))) : Go p e below G T (mkF m pc Ls (st)) := by
  subst hp; exact Go.by1 (fun t q => XS.aconstNull W.1.here W.2.1 rfl hd q) k'
theorem NK.iadd (W : NK p l e R s m args below meth c Z own n0 h0 ws T h locs cells slots) {x y : Int32} (hd : decode c.code pc = .ok (.iadd, 1))  (hp : pc + 1 = pc') (k' : Go p e below G T (mkF m pc' Ls (.int (x + y) :: rest))) : Go p e below G T (mkF m pc Ls (.int y :: .int x :: rest)) := by
  subst hp; exact Go.by1 (fun t q => XS.iadd W.1.here W.2.1 rfl hd rfl q) k'
theorem NK.isub (W : NK p l e R s m args below meth c Z own n0 h0 ws T h locs cells slots) {x y : Int32} (hd : decode c.code pc = .ok (.isub, 1))  (hp : pc + 1 = pc') (k' : Go p e below G T (mkF m pc' Ls (.int (x - y) :: rest))) : Go p e below G T (mkF m pc Ls (.int y :: .int x :: rest)) := by
  subst hp; exact Go.by1 (fun t q => XS.isub W.1.here W.2.1 rfl hd rfl q) k'
theorem NK.iand (W : NK p l e R s m args below meth c Z own n0 h0 ws T h locs cells slots) {x y : Int32} (hd : decode c.code pc = .ok (.iand, 1))  (hp : pc + 1 = pc') (k' : Go p e below G T (mkF m pc' Ls (.int (x &&& y) :: rest))) : Go p e below G T (mkF m pc Ls (.int y :: .int x :: rest)) := by
  subst hp; exact Go.by1 (fun t q => XS.iand W.1.here W.2.1 rfl hd rfl q) k'
theorem NK.imul (W : NK p l e R s m args below meth c Z own n0 h0 ws T h locs cells slots) {x y : Int32} (hd : decode c.code pc = .ok (.imul, 1))  (hp : pc + 1 = pc') (k' : Go p e below G T (mkF m pc' Ls (.int (x * y) :: rest))) : Go p e below G T (mkF m pc Ls (.int y :: .int x :: rest)) := by
  subst hp; exact Go.by1 (fun t q => XS.imul W.1.here W.2.1 rfl hd rfl q) k'
theorem NK.ixor (W : NK p l e R s m args below meth c Z own n0 h0 ws T h locs cells slots) {x y : Int32} (hd : decode c.code pc = .ok (.ixor, 1))  (hp : pc + 1 = pc') (k' : Go p e below G T (mkF m pc' Ls (.int (x ^^^ y) :: rest))) : Go p e below G T (mkF m pc Ls (.int y :: .int x :: rest)) := by
  subst hp; exact Go.by1 (fun t q => XT.ixor W.1.here W.2.1 rfl hd rfl q) k'
theorem NK.ior (W : NK p l e R s m args below meth c Z own n0 h0 ws T h locs cells slots) {x y : Int32} (hd : decode c.code pc = .ok (.ior, 1))  (hp : pc + 1 = pc') (k' : Go p e below G T (mkF m pc' Ls (.int (x ||| y) :: rest))) : Go p e below G T (mkF m pc Ls (.int y :: .int x :: rest)) := by
  subst hp; exact Go.by1 (fun t q => XT.ior W.1.here W.2.1 rfl hd rfl q) k'
theorem NK.ishl (W : NK p l e R s m args below meth c Z own n0 h0 ws T h locs cells slots) {x y : Int32} (hd : decode c.code pc = .ok (.ishl, 1))  (hp : pc + 1 = pc') (k' : Go p e below G T (mkF m pc' Ls (.int (x <<< (y &&& 31)) :: rest))) : Go p e below G T (mkF m pc Ls (.int y :: .int x :: rest)) := by
  subst hp; exact Go.by1 (fun t q => XT.ishl W.1.here W.2.1 rfl hd rfl q) k'
theorem NK.ishr (W : NK p l e R s m args below meth c Z own n0 h0 ws T h locs cells slots) {x y : Int32} (hd : decode c.code pc = .ok (.ishr, 1))  (hp : pc + 1 = pc') (k' : Go p e below G T (mkF m pc' Ls (.int (x >>> (y &&& 31)) :: rest))) : Go p e below G T (mkF m pc Ls (.int y :: .int x :: rest)) := by
  subst hp; exact Go.by1 (fun t q => XT.ishr W.1.here W.2.1 rfl hd rfl q) k'
theorem NK.iushr (W : NK p l e R s m args below meth c Z own n0 h0 ws T h locs cells slots) {x y : Int32} (hd : decode c.code pc = .ok (.iushr, 1))  (hp : pc + 1 = pc') (k' : Go p e below G T (mkF m pc' Ls (.int (XT.ushr x y) :: rest))) : Go p e below G T (mkF m pc Ls (.int y :: .int x :: rest)) := by
  subst hp; exact Go.by1 (fun t q => XT.iushr W.1.here W.2.1 rfl hd rfl q) k'
theorem NK.ladd (W : NK p l e R s m args below meth c Z own n0 h0 ws T h locs cells slots) {x y : Int64} (hd : decode c.code pc = .ok (.ladd, 1))  (hp : pc + 1 = pc') (k' : Go p e below G T (mkF m pc' Ls (.long (x + y) :: rest))) : Go p e below G T (mkF m pc Ls (.long y :: .long x :: rest)) := by
  subst hp; exact Go.by1 (fun t q => XT.ladd W.1.here W.2.1 rfl hd rfl q) k'
theorem NK.lsub (W : NK p l e R s m args below meth c Z own n0 h0 ws T h locs cells slots) {x y : Int64} (hd : decode c.code pc = .ok (.lsub, 1))  (hp : pc + 1 = pc') (k' : Go p e below G T (mkF m pc' Ls (.long (x - y) :: rest))) : Go p e below G T (mkF m pc Ls (.long y :: .long x :: rest)) := by
  subst hp; exact Go.by1 (fun t q => XT.lsub W.1.here W.2.1 rfl hd rfl q) k'
theorem NK.lmul (W : NK p l e R s m args below meth c Z own n0 h0 ws T h locs cells slots) {x y : Int64} (hd : decode c.code pc = .ok (.lmul, 1))  (hp : pc + 1 = pc') (k' : Go p e below G T (mkF m pc' Ls (.long (x * y) :: rest))) : Go p e below G T (mkF m pc Ls (.long y :: .long x :: rest)) := by
  subst hp; exact Go.by1 (fun t q => XT.lmul W.1.here W.2.1 rfl hd rfl q) k'
theorem NK.land (W : NK p l e R s m args below meth c Z own n0 h0 ws T h locs cells slots) {x y : Int64} (hd : decode c.code pc = .ok (.land, 1))  (hp : pc + 1 = pc') (k' : Go p e below G T (mkF m pc' Ls (.long (x &&& y) :: rest))) : Go p e below G T (mkF m pc Ls (.long y :: .long x :: rest)) := by
  subst hp; exact Go.by1 (fun t q => XT.land W.1.here W.2.1 rfl hd rfl q) k'
theorem NK.lor (W : NK p l e R s m args below meth c Z own n0 h0 ws T h locs cells slots) {x y : Int64} (hd : decode c.code pc = .ok (.lor, 1))  (hp : pc + 1 = pc') (k' : Go p e below G T (mkF m pc' Ls (.long (x ||| y) :: rest))) : Go p e below G T (mkF m pc Ls (.long y :: .long x :: rest)) := by
  subst hp; exact Go.by1 (fun t q => XT.lor W.1.here W.2.1 rfl hd rfl q) k'
theorem NK.lxor (W : NK p l e R s m args below meth c Z own n0 h0 ws T h locs cells slots) {x y : Int64} (hd : decode c.code pc = .ok (.lxor, 1))  (hp : pc + 1 = pc') (k' : Go p e below G T (mkF m pc' Ls (.long (x ^^^ y) :: rest))) : Go p e below G T (mkF m pc Ls (.long y :: .long x :: rest)) := by
  subst hp; exact Go.by1 (fun t q => XT.lxor W.1.here W.2.1 rfl hd rfl q) k'
theorem NK.lshl (W : NK p l e R s m args below meth c Z own n0 h0 ws T h locs cells slots) {x : Int64} {y : Int32} (hd : decode c.code pc = .ok (.lshl, 1))  (hp : pc + 1 = pc') (k' : Go p e below G T (mkF m pc' Ls (.long (x <<< (y.toInt64 &&& 63)) :: rest))) : Go p e below G T (mkF m pc Ls (.int y :: .long x :: rest)) := by
  subst hp; exact Go.by1 (fun t q => XT.lshl W.1.here W.2.1 rfl hd rfl q) k'
theorem NK.lshr (W : NK p l e R s m args below meth c Z own n0 h0 ws T h locs cells slots) {x : Int64} {y : Int32} (hd : decode c.code pc = .ok (.lshr, 1))  (hp : pc + 1 = pc') (k' : Go p e below G T (mkF m pc' Ls (.long (x >>> (y.toInt64 &&& 63)) :: rest))) : Go p e below G T (mkF m pc Ls (.int y :: .long x :: rest)) := by
  subst hp; exact Go.by1 (fun t q => XT.lshr W.1.here W.2.1 rfl hd rfl q) k'
theorem NK.lushr (W : NK p l e R s m args below meth c Z own n0 h0 ws T h locs cells slots) {x : Int64} {y : Int32} (hd : decode c.code pc = .ok (.lushr, 1))  (hp : pc + 1 = pc') (k' : Go p e below G T (mkF m pc' Ls (.long (XT.ushrL x y) :: rest))) : Go p e below G T (mkF m pc Ls (.int y :: .long x :: rest)) := by
  subst hp; exact Go.by1 (fun t q => XT.lushr W.1.here W.2.1 rfl hd rfl q) k'
theorem NK.ldiv (W : NK p l e R s m args below meth c Z own n0 h0 ws T h locs cells slots) {x y : Int64} (hd : decode c.code pc = .ok (.ldiv, 1)) (hy : y ≠ 0) (hp : pc + 1 = pc') (k' : Go p e below G T (mkF m pc' Ls (.long (x / y) :: rest))) : Go p e below G T (mkF m pc Ls (.long y :: .long x :: rest)) := by
  subst hp; exact Go.by1 (fun t q => XT.ldiv W.1.here W.2.1 rfl hd rfl hy q) k'
theorem NK.lrem (W : NK p l e R s m args below meth c Z own n0 h0 ws T h locs cells slots) {x y : Int64} (hd : decode c.code pc = .ok (.lrem, 1)) (hy : y ≠ 0) (hp : pc + 1 = pc') (k' : Go p e below G T (mkF m pc' Ls (.long (x - (x / y) * y) :: rest))) : Go p e below G T (mkF m pc Ls (.long y :: .long x :: rest)) := by
  subst hp; exact Go.by1 (fun t q => XT.lrem W.1.here W.2.1 rfl hd rfl hy q) k'
theorem NK.idiv (W : NK p l e R s m args below meth c Z own n0 h0 ws T h locs cells slots) {x y : Int32} (hd : decode c.code pc = .ok (.idiv, 1)) (hy : y ≠ 0) (hp : pc + 1 = pc') (k' : Go p e below G T (mkF m pc' Ls (.int (x / y) :: rest))) : Go p e below G T (mkF m pc Ls (.int y :: .int x :: rest)) := by
  subst hp; exact Go.by1 (fun t q => XS.idiv W.1.here W.2.1 rfl hd rfl hy q) k'
theorem NK.irem (W : NK p l e R s m args below meth c Z own n0 h0 ws T h locs cells slots) {x y : Int32} (hd : decode c.code pc = .ok (.irem, 1)) (hy : y ≠ 0) (hp : pc + 1 = pc') (k' : Go p e below G T (mkF m pc' Ls (.int (x % y) :: rest))) : Go p e below G T (mkF m pc Ls (.int y :: .int x :: rest)) := by
  subst hp; exact Go.by1 (fun t q => iremM W.1 W.2.1 rfl hd rfl hy q) k'
theorem NK.ineg (W : NK p l e R s m args below meth c Z own n0 h0 ws T h locs cells slots) {x : Int32} (hd : decode c.code pc = .ok (.ineg, 1))  (hp : pc + 1 = pc') (k' : Go p e below G T (mkF m pc' Ls (.int (-x) :: rest))) : Go p e below G T (mkF m pc Ls (.int x :: rest)) := by
  subst hp; exact Go.by1 (fun t q => XS.ineg W.1.here W.2.1 rfl hd rfl q) k'
theorem NK.lneg (W : NK p l e R s m args below meth c Z own n0 h0 ws T h locs cells slots) {x : Int64} (hd : decode c.code pc = .ok (.lneg, 1))  (hp : pc + 1 = pc') (k' : Go p e below G T (mkF m pc' Ls (.long (-x) :: rest))) : Go p e below G T (mkF m pc Ls (.long x :: rest)) := by
  subst hp; exact Go.by1 (fun t q => XT.lneg W.1.here W.2.1 rfl hd rfl q) k'
theorem NK.i2l (W : NK p l e R s m args below meth c Z own n0 h0 ws T h locs cells slots) {x : Int32} (hd : decode c.code pc = .ok (.i2l, 1))  (hp : pc + 1 = pc') (k' : Go p e below G T (mkF m pc' Ls (.long x.toInt64 :: rest))) : Go p e below G T (mkF m pc Ls (.int x :: rest)) := by
  subst hp; exact Go.by1 (fun t q => XT.i2l W.1.here W.2.1 rfl hd rfl q) k'
theorem NK.l2i (W : NK p l e R s m args below meth c Z own n0 h0 ws T h locs cells slots) {x : Int64} (hd : decode c.code pc = .ok (.l2i, 1))  (hp : pc + 1 = pc') (k' : Go p e below G T (mkF m pc' Ls (.int x.toInt32 :: rest))) : Go p e below G T (mkF m pc Ls (.long x :: rest)) := by
  subst hp; exact Go.by1 (fun t q => XT.l2i W.1.here W.2.1 rfl hd rfl q) k'
theorem NK.i2b (W : NK p l e R s m args below meth c Z own n0 h0 ws T h locs cells slots) {x : Int32} (hd : decode c.code pc = .ok (.i2b, 1))  (hp : pc + 1 = pc') (k' : Go p e below G T (mkF m pc' Ls (.int x.toInt8.toInt32 :: rest))) : Go p e below G T (mkF m pc Ls (.int x :: rest)) := by
  subst hp; exact Go.by1 (fun t q => XT.i2b W.1.here W.2.1 rfl hd rfl q) k'
theorem NK.i2c (W : NK p l e R s m args below meth c Z own n0 h0 ws T h locs cells slots) {x : Int32} (hd : decode c.code pc = .ok (.i2c, 1))  (hp : pc + 1 = pc') (k' : Go p e below G T (mkF m pc' Ls (.int (i2c x) :: rest))) : Go p e below G T (mkF m pc Ls (.int x :: rest)) := by
  subst hp; exact Go.by1 (fun t q => XT.i2c W.1.here W.2.1 rfl hd rfl q) k'
theorem NK.lcmp (W : NK p l e R s m args below meth c Z own n0 h0 ws T h locs cells slots) {x y : Int64} (hd : decode c.code pc = .ok (.lcmp, 1))  (hp : pc + 1 = pc') (k' : Go p e below G T (mkF m pc' Ls (.int (XT.cmpL x y) :: rest))) : Go p e below G T (mkF m pc Ls (.long y :: .long x :: rest)) := by
  subst hp; exact Go.by1 (fun t q => XT.lcmp W.1.here W.2.1 rfl hd rfl q) k'
theorem NK.iinc (W : NK p l e R s m args below meth c Z own n0 h0 ws T h locs cells slots) {k : Nat} {i : Int} {x : Int32} (v : Int32) (hd : decode c.code pc = .ok (.iinc k i, 3)) (hv : Int32.ofInt i = v) (hl : Ls[k]? = some (.val (.int x))) (hl' : storeLocals Ls k (.int (x + v)) = some Ls') (hp : pc + 3 = pc') (k' : Go p e below G T (mkF m pc' Ls' (st))) : Go p e below G T (mkF m pc Ls (st)) := by
  subst hp; exact Go.by1 (fun t q => XT.iincV W.1.here W.2.1 rfl v hd hv hl hl' q) k'
theorem NK.dup (W : NK p l e R s m args below meth c Z own n0 h0 ws T h locs cells slots) {x : Value} (hd : decode c.code pc = .ok (.dup, 1)) (hc : x.category = 1) (hp : pc + 1 = pc') (k' : Go p e below G T (mkF m pc' Ls (x :: x :: rest))) : Go p e below G T (mkF m pc Ls (x :: rest)) := by
  subst hp; exact Go.by1 (fun t q => XS.dup W.1.here W.2.1 rfl hd rfl hc q) k'
theorem NK.pop (W : NK p l e R s m args below meth c Z own n0 h0 ws T h locs cells slots) {x : Value} (hd : decode c.code pc = .ok (.pop, 1)) (hc : x.category = 1) (hp : pc + 1 = pc') (k' : Go p e below G T (mkF m pc' Ls (rest))) : Go p e below G T (mkF m pc Ls (x :: rest)) := by
  subst hp; exact Go.by1 (fun t q => XT.pop W.1.here W.2.1 rfl hd rfl hc q) k'
theorem NK.dupX1 (W : NK p l e R s m args below meth c Z own n0 h0 ws T h locs cells slots) {x y : Value} (hd : decode c.code pc = .ok (.dup_x1, 1)) (hc : x.category = 1) (hc' : y.category = 1) (hp : pc + 1 = pc') (k' : Go p e below G T (mkF m pc' Ls (x :: y :: x :: rest))) : Go p e below G T (mkF m pc Ls (x :: y :: rest)) := by
  subst hp; exact Go.by1 (fun t q => XT.dupX1 W.1.here W.2.1 rfl hd rfl hc hc' q) k'
theorem NK.dup2 (W : NK p l e R s m args below meth c Z own n0 h0 ws T h locs cells slots) {x y : Value} (hd : decode c.code pc = .ok (.dup2, 1)) (hc : x.category = 1) (hc' : y.category = 1) (hp : pc + 1 = pc') (k' : Go p e below G T (mkF m pc' Ls (x :: y :: x :: y :: rest))) : Go p e below G T (mkF m pc Ls (x :: y :: rest)) := by
  subst hp; exact Go.by1 (fun t q => XT.dup2 W.1.here W.2.1 rfl hd rfl hc hc' q) k'
theorem NK.goto (W : NK p l e R s m args below meth c Z own n0 h0 ws T h locs cells slots)  {o : Int} (hd : decode c.code pc = .ok (.goto o, 3))  (ho : 0 ≤ (pc : Int) + o) (hp : ((pc : Int) + o).toNat = pc') (k' : Go p e below G T (mkF m pc' Ls (rest))) : Go p e below G T (mkF m pc Ls (rest)) := by
  exact Go.by1 (fun t q => XS.goto W.1.here W.2.1 rfl rfl hd ho hp q) k'
theorem NK.ifYes (W : NK p l e R s m args below meth c Z own n0 h0 ws T h locs cells slots) {cd : ClassFile.Cond} {x : Int32} {o : Int} (hd : decode c.code pc = .ok (.ifCond cd o, 3)) (hc : ifCond.holds cd x = true) (ho : 0 ≤ (pc : Int) + o) (hp : ((pc : Int) + o).toNat = pc') (k' : Go p e below G T (mkF m pc' Ls (rest))) : Go p e below G T (mkF m pc Ls (.int x :: rest)) := by
  exact Go.by1 (fun t q => XS.ifYes W.1.here W.2.1 rfl rfl hd rfl hc ho hp q) k'
theorem NK.icmpYes (W : NK p l e R s m args below meth c Z own n0 h0 ws T h locs cells slots) {cd : ClassFile.Cond} {x y : Int32} {o : Int} (hd : decode c.code pc = .ok (.if_icmp cd o, 3)) (hc : if_icmp.holds cd x y = true) (ho : 0 ≤ (pc : Int) + o) (hp : ((pc : Int) + o).toNat = pc') (k' : Go p e below G T (mkF m pc' Ls (rest))) : Go p e below G T (mkF m pc Ls (.int y :: .int x :: rest)) := by
  exact Go.by1 (fun t q => XS.icmpYes W.1.here W.2.1 rfl rfl hd rfl hc ho hp q) k'
theorem NK.ifNo (W : NK p l e R s m args below meth c Z own n0 h0 ws T h locs cells slots) {cd : ClassFile.Cond} {x : Int32} {o : Int} (hd : decode c.code pc = .ok (.ifCond cd o, 3)) (hc : ifCond.holds cd x = false) (hp : pc + 3 = pc') (k' : Go p e below G T (mkF m pc' Ls (rest))) : Go p e below G T (mkF m pc Ls (.int x :: rest)) := by
  subst hp; exact Go.by1 (fun t q => XS.ifNo W.1.here W.2.1 rfl hd rfl hc q) k'
theorem NK.icmpNo (W : NK p l e R s m args below meth c Z own n0 h0 ws T h locs cells slots) {cd : ClassFile.Cond} {x y : Int32} {o : Int} (hd : decode c.code pc = .ok (.if_icmp cd o, 3)) (hc : if_icmp.holds cd x y = false) (hp : pc + 3 = pc') (k' : Go p e below G T (mkF m pc' Ls (rest))) : Go p e below G T (mkF m pc Ls (.int y :: .int x :: rest)) := by
  subst hp; exact Go.by1 (fun t q => XS.icmpNo W.1.here W.2.1 rfl hd rfl hc q) k'
theorem NK.ifnullYes (W : NK p l e R s m args below meth c Z own n0 h0 ws T h locs cells slots)  {o : Int} (hd : decode c.code pc = .ok (.ifnull o, 3))  (ho : 0 ≤ (pc : Int) + o) (hp : ((pc : Int) + o).toNat = pc') (k' : Go p e below G T (mkF m pc' Ls (rest))) : Go p e below G T (mkF m pc Ls (.null :: rest)) := by
  exact Go.by1 (fun t q => XS.ifnullYes W.1.here W.2.1 rfl rfl hd rfl ho hp q) k'
theorem NK.ifnonnullYes (W : NK p l e R s m args below meth c Z own n0 h0 ws T h locs cells slots) {b : Addr} {o : Int} (hd : decode c.code pc = .ok (.ifnonnull o, 3))  (ho : 0 ≤ (pc : Int) + o) (hp : ((pc : Int) + o).toNat = pc') (k' : Go p e below G T (mkF m pc' Ls (rest))) : Go p e below G T (mkF m pc Ls (.ref b :: rest)) := by
  exact Go.by1 (fun t q => XT.ifnonnullYes W.1.here W.2.1 rfl rfl hd rfl ho hp q) k'
theorem NK.ifnullNo (W : NK p l e R s m args below meth c Z own n0 h0 ws T h locs cells slots) {b : Addr} {o : Int} (hd : decode c.code pc = .ok (.ifnull o, 3))  (hp : pc + 3 = pc') (k' : Go p e below G T (mkF m pc' Ls (rest))) : Go p e below G T (mkF m pc Ls (.ref b :: rest)) := by
  subst hp; exact Go.by1 (fun t q => XS.ifnullNo W.1.here W.2.1 rfl hd rfl q) k'
theorem NK.ifnonnullNo (W : NK p l e R s m args below meth c Z own n0 h0 ws T h locs cells slots) {o : Int} (hd : decode c.code pc = .ok (.ifnonnull o, 3))  (hp : pc + 3 = pc') (k' : Go p e below G T (mkF m pc' Ls (rest))) : Go p e below G T (mkF m pc Ls (.null :: rest)) := by
  subst hp; exact Go.by1 (fun t q => XT.ifnonnullNo W.1.here W.2.1 rfl hd rfl q) k'
theorem NK.acmpYes (W : NK p l e R s m args below meth c Z own n0 h0 ws T h locs cells slots) {cd : ClassFile.ACond} {x y : Value} {o : Int} (hd : decode c.code pc = .ok (.if_acmp cd o, 3)) (h1 : x.isRef = true) (h2 : y.isRef = true) (hc : XT.acmp cd x y = true) (ho : 0 ≤ (pc : Int) + o) (hp : ((pc : Int) + o).toNat = pc') (k' : Go p e below G T (mkF m pc' Ls (rest))) : Go p e below G T (mkF m pc Ls (y :: x :: rest)) := by
  exact Go.by1 (fun t q => XT.acmpYes W.1.here W.2.1 rfl rfl hd rfl h1 h2 hc ho hp q) k'
theorem NK.acmpNo (W : NK p l e R s m args below meth c Z own n0 h0 ws T h locs cells slots) {cd : ClassFile.ACond} {x y : Value} {o : Int} (hd : decode c.code pc = .ok (.if_acmp cd o, 3)) (h1 : x.isRef = true) (h2 : y.isRef = true) (hc : XT.acmp cd x y = false) (hp : pc + 3 = pc') (k' : Go p e below G T (mkF m pc' Ls (rest))) : Go p e below G T (mkF m pc Ls (y :: x :: rest)) := by
  subst hp; exact Go.by1 (fun t q => XT.acmpNo W.1.here W.2.1 rfl hd rfl h1 h2 hc q) k'
theorem NK.ldcI (W : NK p l e R s m args below meth c Z own n0 h0 ws T h locs cells slots) {index : Nat} {v : Int32} (hd : decode c.code pc = .ok (.ldc index, 2)) (w : (Cond.constant own index v).before a0 Z = true) (hp : pc + 2 = pc') (k' : Go p e below G T (mkF m pc' Ls (.int v :: st))) : Go p e below G T (mkF m pc Ls (st)) := by
  subst hp; exact Go.by1 (fun t q => W.1.ldcI W.2.1 W.2.2.2.2.1 (mv W.2.2.2.1 w) rfl hd q) k'
theorem NK.ldcWI (W : NK p l e R s m args below meth c Z own n0 h0 ws T h locs cells slots) {index : Nat} {v : Int32} (hd : decode c.code pc = .ok (.ldc_w index, 3)) (w : (Cond.constant own index v).before a0 Z = true) (hp : pc + 3 = pc') (k' : Go p e below G T (mkF m pc' Ls (.int v :: st))) : Go p e below G T (mkF m pc Ls (st)) := by
  subst hp; exact Go.by1 (fun t q => W.1.ldcWI W.2.1 W.2.2.2.2.1 (mv W.2.2.2.1 w) rfl hd q) k'
theorem NK.ldc2J (W : NK p l e R s m args below meth c Z own n0 h0 ws T h locs cells slots) {index : Nat} {v : Int64} (hd : decode c.code pc = .ok (.ldc2_w index, 3)) (w : (Cond.constantLong own index v).before a0 Z = true) (hp : pc + 3 = pc') (k' : Go p e below G T (mkF m pc' Ls (.long v :: st))) : Go p e below G T (mkF m pc Ls (st)) := by
  subst hp; exact Go.by1 (fun t q => W.1.ldc2J W.2.1 W.2.2.2.2.1 (mv W.2.2.2.1 w) rfl hd q) k'
end Steps1
section Nums1
theorem i2c_i2c (x : Int32) : i2c (i2c x) = i2c x := by simp only [i2c, UInt32.toUInt32_toInt32, UInt16.toUInt16_toUInt32]
theorem i2c_toInt (x : Int32) : (i2c x).toInt = x.toInt % 65536 := by
  have h1 : (i2c x).toBitVec = (x.toBitVec.setWidth 16).setWidth 32 := rfl
  have h2 : x.toInt = x.toBitVec.toInt := rfl
  have h3 : (i2c x).toInt = (i2c x).toBitVec.toInt := rfl
  rw [h2, h3, h1, BitVec.toInt_eq_toNat_cond, BitVec.toInt_eq_toNat_cond]
  have := x.toBitVec.isLt
  simp only [BitVec.toNat_setWidth]
  omega
theorem i2c_id {c : Int32} (h0 : ¬ c < 0) (h1 : ¬ 65535 < c) : i2c c = c := by
  apply Int32.toInt_inj.mp
  rw [i2c_toInt]
  simp only [Int32.lt_iff_toInt_lt, Int32.reduceToInt] at h0 h1
  omega
theorem i2c_lo (x : Int32) : ¬ i2c x < 0 ∧ ¬ 65535 < i2c x := by
  simp only [Int32.lt_iff_toInt_lt, Int32.reduceToInt, i2c_toInt]
  omega
theorem and_toInt (x : Int32) (k : Nat) (hk : k < 2^31): (x &&& Int32.ofNat k).toInt = ((x.toBitVec.toNat &&& k : Nat) : Int) := by
  have h3 : (x &&& Int32.ofNat k).toInt = (x.toBitVec &&& (Int32.ofNat k).toBitVec).toInt := rfl
  rw [h3, BitVec.toInt_eq_toNat_cond, BitVec.toNat_and]
  have e : (Int32.ofNat k).toBitVec.toNat = k := by
    show (BitVec.ofNat 32 k).toNat = k
    simp; omega
  rw [e]
  have : (x.toBitVec.toNat &&& k) ≤ k := Nat.and_le_right
  omega
theorem and255_lat (x : Int32) : ¬ (x &&& 255) < 0 ∧ ¬ 255 < (x &&& 255) := by
  have := and_toInt x 255 (by decide)
  have h : (x.toBitVec.toNat &&& 255) ≤ 255 := Nat.and_le_right
  have e : (Int32.ofNat 255) = (255 : Int32) := rfl
  rw [e] at this
  simp only [Int32.lt_iff_toInt_lt, Int32.reduceToInt, this]
  omega
theorem and_nonneg (x : Int32) : ¬ (x &&& 2147483647) < 0 := by
  have := and_toInt x 2147483647 (by decide)
  have e : (Int32.ofNat 2147483647) = (2147483647 : Int32) := rfl
  rw [e] at this
  simp only [Int32.lt_iff_toInt_lt, Int32.reduceToInt, this]
  omega
theorem rem_range {x : Int32} (k : Nat) (hk : 0 < k) (hk2 : k < 2^31) (hx : ¬ x < 0) : ∃ n : Nat, n < k ∧ x % Int32.ofNat k = Int32.ofNat n := by
  have e : (Int32.ofNat k).toInt = k := by
    have hz : Int32.size = 4294967296 := rfl
    rw [Int32.toInt_ofNat', Int.bmod_eq_of_le] <;> omega
  simp only [Int32.lt_iff_toInt_lt, Int32.reduceToInt] at hx
  refine ⟨(x.toInt % k).toNat, ?_, ?_⟩
  · have := Int.emod_lt_of_pos x.toInt (show (0:Int) < k by omega)
    have := Int.emod_nonneg x.toInt (show (k:Int) ≠ 0 by omega)
    omega
  · apply Int32.toInt_inj.mp
    rw [Int32.toInt_mod, e, Int32.toInt_ofNat']
    have := Int.emod_lt_of_pos x.toInt (show (0:Int) < k by omega)
    have := Int.emod_nonneg x.toInt (show (k:Int) ≠ 0 by omega)
    have hz : Int32.size = 4294967296 := rfl
    rw [Int.tmod_eq_emod_of_nonneg (by omega), Int.bmod_eq_of_le] <;> omega

theorem i2c_and255 (x : Int32) : i2c (x &&& 255) = x &&& 255 := i2c_id (and255_lat x).1 (by
  have := (and255_lat x).2
  simp only [Int32.lt_iff_toInt_lt, Int32.reduceToInt] at *; omega)
theorem lat_i2c {c : Int32} (h : ¬ c < 0 ∧ ¬ 255 < c) : i2c c = c := i2c_id h.1 (by
  have := h.2
  simp only [Int32.lt_iff_toInt_lt, Int32.reduceToInt] at *; omega)
theorem lat_and (x : Int32) : ¬ i2c (x &&& 255) < 0 ∧ ¬ 255 < i2c (x &&& 255) := by rw [i2c_and255]; exact and255_lat x
theorem nar_i2c (x : Int32) : nar .char (i2c x) = i2c x := i2c_i2c x
theorem nar_lat {c : Int32} (h : ¬ c < 0 ∧ ¬ 255 < c) : nar .char c = c := lat_i2c h
theorem nar_chr {c : Int32} (h : ¬ c < 0 ∧ ¬ 65535 < c) : nar .char c = c := i2c_id h.1 h.2
theorem nar_ret {z : Int32} (h : nar .char z = z) : narrow .char (.int z) = .int z := congrArg Value.int h
end Nums1
section Nums2
theorem getD_int (cs : List Int32) (i : Nat) : (cs.map Value.int).getD i (.int (0 : Int32)) = .int (cs.getD i 0) := by
  simp only [List.getD_eq_getElem?_getD, List.getElem?_map]
  cases cs[i]? <;> rfl
theorem getD_all {P : Int32 → Prop} {cs : List Int32} (h : ∀ c ∈ cs, P c) (h0 : P 0) (i : Nat) : P (cs.getD i 0) := by
  rw [List.getD_eq_getElem?_getD]
  cases hq : cs[i]? with
  | none => exact h0
  | some v => exact h v (List.mem_of_getElem? hq)
theorem and_le (x : Int32) (k : Nat) (hk : k < 2 ^ 31) : ¬ (x &&& Int32.ofNat k) < 0 ∧ (x &&& Int32.ofNat k).toInt ≤ k := by
  have := and_toInt x k hk
  have h : (x.toBitVec.toNat &&& k) ≤ k := Nat.and_le_right
  simp only [Int32.lt_iff_toInt_lt, Int32.reduceToInt, this]
  omega
theorem rem_nat {x : Int32} (k : Nat) (m : Nat) (hm : m < 2 ^ 31) (hk : 0 < k) (hk2 : k < 2 ^ 31) {i : Int32} (h : i = (x &&& Int32.ofNat m) % Int32.ofNat k) : ∃ n : Nat, n < k ∧ i = Int32.ofNat n := by
  obtain ⟨n, h1, h2⟩ := rem_range (x := x &&& Int32.ofNat m) k hk hk2 (and_le x m hm).1
  exact ⟨n, h1, h.trans h2⟩
theorem ofNat_toInt {n : Nat} (h : n < 2 ^ 31) : (Int32.ofNat n).toInt = n := by
  have hz : Int32.size = 4294967296 := rfl
  rw [Int32.toInt_ofNat', Int.bmod_eq_of_le] <;> omega
theorem ofNat_lt {n k : Nat} (h : n < 2 ^ 31) (h' : k < 2 ^ 31) : Int32.ofNat n < Int32.ofNat k ↔ n < k := by
  rw [Int32.lt_iff_toInt_lt, ofNat_toInt h, ofNat_toInt h']; omega
theorem ofNat_sub {n k : Nat} (h : k ≤ n) : Int32.ofNat n - Int32.ofNat k = Int32.ofNat (n - k) := by
  apply Int32.toBitVec_inj.mp
  apply BitVec.eq_of_toNat_eq
  show (BitVec.ofNat 32 n - BitVec.ofNat 32 k).toNat = (BitVec.ofNat 32 (n - k)).toNat
  simp only [BitVec.toNat_sub, BitVec.toNat_ofNat]
  omega
theorem ofNat_succ (n : Nat) : Int32.ofNat n + 1 = Int32.ofNat (n + 1) := by
  apply Int32.toBitVec_inj.mp
  apply BitVec.eq_of_toNat_eq
  show (BitVec.ofNat 32 n + 1#32).toNat = (BitVec.ofNat 32 (n + 1)).toNat
  simp only [BitVec.toNat_add, BitVec.toNat_ofNat]
  omega
end Nums2
section Heap1
variable {p : Program} {l : Launch} {e : Env} {R : Room} {s : State} {m : MethodId} {args : Array Value} {below : List Frame} {meth : Method} {c : Code} {Z : State} {own : String} {n0 : Nat} {h0 : Heap} {ws ws' : List Addr} {T T' : State} {h h' : Heap} {locs : List Loc} {cells slots : Nat} {G : State → Prop} {g g' : JFrame} {a0 : Array Value} {pc pc' : Nat} {Ls Ls' : Array Slot} {st rest : List Value}
theorem NK.newP (W : NK p l e R s m args below meth c Z own n0 h0 ws T h locs cells slots) {aty : ArrayType} (w : (Cond.arrayClass (newarray.typeOf aty)).before a0 Z = true) {n : Int32} (hd : decode c.code pc = .ok (.newarray aty, 2)) (hp : pc + 2 = pc') (hn : ¬ n < 0) {cap : Nat} (hcap : n.toNatClampNeg ≤ cap) (hb : cap * 8 ≤ 536870912) (hc : cells + 1 ≤ R.cells) (hl : slots + cap ≤ R.slots)
    (k' : ∀ (T' : State) (h' : Heap) (a : Addr) (ka : ClassId), a = h.size → h0.size ≤ a → n0 ≤ a → NK p l e R s m args below meth c Z own n0 h0 ws T' h' locs (cells + 1) (slots + cap) → Ext h h' → Arv Z h' a ka (newarray.typeOf aty) n (List.replicate cap (defaultValue (newarray.typeOf aty))) (defaultValue (newarray.typeOf aty)) → Go p e below G T' (mkF m pc' Ls (.ref a :: rest))) : Go p e below G T (mkF m pc Ls (.int n :: rest)) := by
  obtain ⟨X, hx, eT, hZ, hown, N, K, hn0, hlk⟩ := W
  obtain ⟨T', h', cA, X', e', E, A, st⟩ := RoadKit.newP X hx hZ w eT (g := mkF m pc Ls (.int n :: rest)) rfl hd rfl hn hcap hb hc hl
  subst hp
  exact Go.by1 (fun t q => st t q) (k' T' h' _ cA rfl K.1 (Nat.le_trans hn0 K.1) ⟨X', hx, e', hZ, hown, N, K.ext E, hn0, hlk⟩ E ((Arv.new A hn).pad (by simpa using pad_rep [] _ cap)))
theorem NK.newO (W : NK p l e R s m args below meth c Z own n0 h0 ws T h locs cells slots) {C : String} {index n : Nat} (w : (Cond.classLink own index C).before a0 Z = true) (wi : (Cond.instantiable C n).before a0 Z = true) (wz : (Cond.initialized C).before a0 Z = true) (hd : decode c.code pc = .ok (.new index, 3)) (hp : pc + 3 = pc') (hc : cells + 1 ≤ R.cells) (hl : slots + n ≤ R.slots)
    (k' : ∀ (T' : State) (h' : Heap) (a : Addr), a = h.size → h0.size ≤ a → n0 ≤ a → NK p l e R s m args below meth c Z own n0 h0 ws T' h' locs (cells + 1) (slots + n) → Ext h h' → Exa Z h' a C → (∀ {O nm d : String} {ty : FieldType}, Laid Z a0 C O nm d → parseFieldDescriptor d = some ty → Fld Z h' a O nm d (defaultValue ty)) → Go p e below G T' (mkF m pc' Ls (.ref a :: st))) : Go p e below G T (mkF m pc Ls st) := by
  obtain ⟨X, hx, eT, hZ, hown, N, K, hn0, hlk⟩ := W
  obtain ⟨T', h', X', e', E, A, D, -, stp⟩ := RoadKit.newO X hx hZ hown w wi wz eT (g := mkF m pc Ls st) rfl hd hc hl
  subst hp
  exact Go.by1 (fun t q => stp t q) (k' T' h' _ rfl K.1 (Nat.le_trans hn0 K.1) ⟨X', hx, e', hZ, hown, N, K.ext E, hn0, hlk⟩ E A D)
theorem NK.wrote (W : NK p l e R s m args below meth c Z own n0 h0 ws T h locs cells slots) {a : Addr} {sl : Nat} {v : Value} (X' : Stand p l e R s m args below meth c T' (locs ++ [⟨a, sl⟩]) cells slots) (e' : T'.heap = h') (Wr' : Wr h h' a sl v) (hge : a ∈ ws ∨ h0.size ≤ a) (hn : n0 ≤ a) : NK p l e R s m args below meth c Z own n0 h0 ws T' h' (locs ++ [⟨a, sl⟩]) cells slots := by
  obtain ⟨X, hx, eT, hZ, hown, N, K, hn0, hlk⟩ := W
  exact ⟨X', hx, e', hZ, hown, Fr.snoc X' N hn, K.wr Wr' hge, hn0, hlk⟩
theorem NK.stC (W : NK p l e R s m args below meth c Z own n0 h0 ws T h locs cells slots) {a : Addr} {ka : ClassId} {z : Int32} {vs : List Value} {dv : Value} (A : Arv Z h a ka .char z vs dv) {j x : Int32} (hd : decode c.code pc = .ok (.castore, 1)) (hp : pc + 1 = pc') (hx' : nar .char x = x) (i : Nat) (hj : j.toNatClampNeg = i) (hi : i < vs.length) (hb : ¬ j < 0 ∧ j < z) (hge : a ∈ ws ∨ h0.size ≤ a) (hn : n0 ≤ a)
    (k' : ∀ (T' : State) (h' : Heap) (L : List Loc), NK p l e R s m args below meth c Z own n0 h0 ws T' h' L cells slots → Keep h h' [a] → Arv Z h' a ka .char z (vs.set i (.int x)) dv → Go p e below G T' (mkF m pc' Ls rest)) : Go p e below G T (mkF m pc Ls (.int x :: .int j :: .ref a :: rest)) := by
  obtain ⟨cl, A1, q1, S1, M1, H1, U1⟩ := id A
  obtain ⟨T', h', X', e', Wr', stp⟩ := RoadKit.stC W.1 W.2.1 W.2.2.2.1 W.2.2.1 A1 (j := j) (inb_of S1 hb) (g := mkF m pc Ls (.int x :: .int j :: .ref a :: rest)) rfl rfl hd
  subst hp
  rw [hx'] at Wr'
  exact Go.by1 (fun t q => stp t q) (k' T' h' _ (W.wrote X' e' Wr' hge hn) (Keep.of_wr Wr') (Arv.set A1 q1 S1 M1 H1 U1 (hx' ▸ fits_nar_char x) Wr' i hj hi))
theorem NK.stB (W : NK p l e R s m args below meth c Z own n0 h0 ws T h locs cells slots) {a : Addr} {ka : ClassId} {z : Int32} {vs : List Value} {dv : Value} (A : Arv Z h a ka .byte z vs dv) {j x : Int32} (hd : decode c.code pc = .ok (.bastore, 1)) (hp : pc + 1 = pc') (i : Nat) (hj : j.toNatClampNeg = i) (hi : i < vs.length) (hb : ¬ j < 0 ∧ j < z) (hge : a ∈ ws ∨ h0.size ≤ a) (hn : n0 ≤ a)
    (k' : ∀ (T' : State) (h' : Heap) (L : List Loc), NK p l e R s m args below meth c Z own n0 h0 ws T' h' L cells slots → Keep h h' [a] → Arv Z h' a ka .byte z (vs.set i (.int x.toInt8.toInt32)) dv → Go p e below G T' (mkF m pc' Ls rest)) : Go p e below G T (mkF m pc Ls (.int x :: .int j :: .ref a :: rest)) := by
  obtain ⟨cl, A1, q1, S1, M1, H1, U1⟩ := id A
  obtain ⟨T', h', X', e', Wr', stp⟩ := RoadKit.stB W.1 W.2.1 W.2.2.2.1 W.2.2.1 A1 (j := j) (inb_of S1 hb) (g := mkF m pc Ls (.int x :: .int j :: .ref a :: rest)) rfl rfl hd
  subst hp
  exact Go.by1 (fun t q => stp t q) (k' T' h' _ (W.wrote X' e' Wr' hge hn) (Keep.of_wr Wr') (Arv.set A1 q1 S1 M1 H1 U1 (fits_nar_byte x) Wr' i hj hi))
theorem NK.stI (W : NK p l e R s m args below meth c Z own n0 h0 ws T h locs cells slots) {a : Addr} {ka : ClassId} {z : Int32} {vs : List Value} {dv : Value} (A : Arv Z h a ka .int z vs dv) {j x : Int32} (hd : decode c.code pc = .ok (.iastore, 1)) (hp : pc + 1 = pc') (i : Nat) (hj : j.toNatClampNeg = i) (hi : i < vs.length) (hb : ¬ j < 0 ∧ j < z) (hge : a ∈ ws ∨ h0.size ≤ a) (hn : n0 ≤ a)
    (k' : ∀ (T' : State) (h' : Heap) (L : List Loc), NK p l e R s m args below meth c Z own n0 h0 ws T' h' L cells slots → Keep h h' [a] → Arv Z h' a ka .int z (vs.set i (.int x)) dv → Go p e below G T' (mkF m pc' Ls rest)) : Go p e below G T (mkF m pc Ls (.int x :: .int j :: .ref a :: rest)) := by
  obtain ⟨cl, A1, q1, S1, M1, H1, U1⟩ := id A
  obtain ⟨T', h', X', e', Wr', stp⟩ := RoadKit.stI W.1 W.2.1 W.2.2.2.1 W.2.2.1 A1 (j := j) (inb_of S1 hb) (g := mkF m pc Ls (.int x :: .int j :: .ref a :: rest)) rfl rfl hd
  subst hp
  exact Go.by1 (fun t q => stp t q) (k' T' h' _ (W.wrote X' e' Wr' hge hn) (Keep.of_wr Wr') (Arv.set A1 q1 S1 M1 H1 U1 rfl Wr' i hj hi))
theorem NK.stJ (W : NK p l e R s m args below meth c Z own n0 h0 ws T h locs cells slots) {a : Addr} {ka : ClassId} {z : Int32} {vs : List Value} {dv : Value} (A : Arv Z h a ka .long z vs dv) {j : Int32} {x : Int64} (hd : decode c.code pc = .ok (.lastore, 1)) (hp : pc + 1 = pc') (i : Nat) (hj : j.toNatClampNeg = i) (hi : i < vs.length) (hb : ¬ j < 0 ∧ j < z) (hge : a ∈ ws ∨ h0.size ≤ a) (hn : n0 ≤ a)
    (k' : ∀ (T' : State) (h' : Heap) (L : List Loc), NK p l e R s m args below meth c Z own n0 h0 ws T' h' L cells slots → Keep h h' [a] → Arv Z h' a ka .long z (vs.set i (.long x)) dv → Go p e below G T' (mkF m pc' Ls rest)) : Go p e below G T (mkF m pc Ls (.long x :: .int j :: .ref a :: rest)) := by
  obtain ⟨cl, A1, q1, S1, M1, H1, U1⟩ := id A
  obtain ⟨T', h', X', e', Wr', stp⟩ := RoadKit.stJ W.1 W.2.1 W.2.2.2.1 W.2.2.1 A1 (j := j) (inb_of S1 hb) (g := mkF m pc Ls (.long x :: .int j :: .ref a :: rest)) rfl rfl hd
  subst hp
  exact Go.by1 (fun t q => stp t q) (k' T' h' _ (W.wrote X' e' Wr' hge hn) (Keep.of_wr Wr') (Arv.set A1 q1 S1 M1 H1 U1 rfl Wr' i hj hi))
theorem NK.caload (W : NK p l e R s m args below meth c Z own n0 h0 ws T h locs cells slots) {a : Addr} {ka : ClassId} {z : Int32} {vs : List Value} {dv : Value} (A : Arv Z h a ka .char z vs dv) {j : Int32} (v : Value) (hd : decode c.code pc = .ok (.caload, 1)) (hp : pc + 1 = pc') (hb : ¬ j < 0 ∧ j < z) (hv : vs.getD j.toNatClampNeg dv = v)
    (k' : Go p e below G T (mkF m pc' Ls (v :: rest))) : Go p e below G T (mkF m pc Ls (.int j :: .ref a :: rest)) := by
  obtain ⟨cl, A1, q1, S1, M1, H1, U1⟩ := id A
  subst hp
  exact Go.by1 (fun t q => W.1.caload W.2.1 (by rw [W.2.2.1]; exact A1.1) (State.isArrayOf_alike W.2.2.2.1.alike A1.2.1) A1.2.2 (inb_of S1 hb) (H1.at (inb_of S1 hb) hv) (g := mkF m pc Ls (.int j :: .ref a :: rest)) rfl rfl hd t q) k'
theorem NK.baload (W : NK p l e R s m args below meth c Z own n0 h0 ws T h locs cells slots) {a : Addr} {ka : ClassId} {z : Int32} {vs : List Value} {dv : Value} (A : Arv Z h a ka .byte z vs dv) {j : Int32} (v : Value) (hd : decode c.code pc = .ok (.baload, 1)) (hp : pc + 1 = pc') (hb : ¬ j < 0 ∧ j < z) (hv : vs.getD j.toNatClampNeg dv = v)
    (k' : Go p e below G T (mkF m pc' Ls (v :: rest))) : Go p e below G T (mkF m pc Ls (.int j :: .ref a :: rest)) := by
  obtain ⟨cl, A1, q1, S1, M1, H1, U1⟩ := id A
  subst hp
  exact Go.by1 (fun t q => W.1.baloadBytes W.2.1 (by rw [W.2.2.1]; exact A1.1) (State.isArrayOf_alike W.2.2.2.1.alike A1.2.1) A1.2.2 (inb_of S1 hb) (H1.at (inb_of S1 hb) hv) (g := mkF m pc Ls (.int j :: .ref a :: rest)) rfl rfl hd t q) k'
theorem NK.iaload (W : NK p l e R s m args below meth c Z own n0 h0 ws T h locs cells slots) {a : Addr} {ka : ClassId} {z : Int32} {vs : List Value} {dv : Value} (A : Arv Z h a ka .int z vs dv) {j : Int32} (v : Value) (hd : decode c.code pc = .ok (.iaload, 1)) (hp : pc + 1 = pc') (hb : ¬ j < 0 ∧ j < z) (hv : vs.getD j.toNatClampNeg dv = v)
    (k' : Go p e below G T (mkF m pc' Ls (v :: rest))) : Go p e below G T (mkF m pc Ls (.int j :: .ref a :: rest)) := by
  obtain ⟨cl, A1, q1, S1, M1, H1, U1⟩ := id A
  subst hp
  exact Go.by1 (fun t q => W.1.iaload W.2.1 (by rw [W.2.2.1]; exact A1.1) (State.isArrayOf_alike W.2.2.2.1.alike A1.2.1) A1.2.2 (inb_of S1 hb) (H1.at (inb_of S1 hb) hv) (g := mkF m pc Ls (.int j :: .ref a :: rest)) rfl rfl hd t q) k'
theorem NK.laload (W : NK p l e R s m args below meth c Z own n0 h0 ws T h locs cells slots) {a : Addr} {ka : ClassId} {z : Int32} {vs : List Value} {dv : Value} (A : Arv Z h a ka .long z vs dv) {j : Int32} (v : Value) (hd : decode c.code pc = .ok (.laload, 1)) (hp : pc + 1 = pc') (hb : ¬ j < 0 ∧ j < z) (hv : vs.getD j.toNatClampNeg dv = v)
    (k' : Go p e below G T (mkF m pc' Ls (v :: rest))) : Go p e below G T (mkF m pc Ls (.int j :: .ref a :: rest)) := by
  obtain ⟨cl, A1, q1, S1, M1, H1, U1⟩ := id A
  subst hp
  exact Go.by1 (fun t q => W.1.laload W.2.1 (by rw [W.2.2.1]; exact A1.1) (State.isArrayOf_alike W.2.2.2.1.alike A1.2.1) A1.2.2 (inb_of S1 hb) (H1.at (inb_of S1 hb) hv) (g := mkF m pc Ls (.int j :: .ref a :: rest)) rfl rfl hd t q) k'
theorem NK.arraylength (W : NK p l e R s m args below meth c Z own n0 h0 ws T h locs cells slots) {a : Addr} {ka : ClassId} {ty : FieldType} {z : Int32} {vs : List Value} {dv : Value} (A : Arv Z h a ka ty z vs dv) (hd : decode c.code pc = .ok (.arraylength, 1)) (hp : pc + 1 = pc')
    (k' : Go p e below G T (mkF m pc' Ls (.int z :: rest))) : Go p e below G T (mkF m pc Ls (.ref a :: rest)) := by
  obtain ⟨cl, A1, q1, S1, M1, H1, U1⟩ := id A
  subst hp
  exact Go.by1 (fun t q => W.1.arraylength W.2.1 (by rw [W.2.2.1]; exact A1.1) (State.isArrayOf_alike W.2.2.2.1.alike A1.2.1) (g := mkF m pc Ls (.ref a :: rest)) rfl rfl hd t (by rw [len_of S1 M1]; exact q)) k'
theorem NK.moved (W : NK p l e R s m args below meth c Z own n0 h0 ws T h locs cells slots) (X' : Stand p l e R s m args below meth c T' locs cells slots) (e' : T'.heap = h) : NK p l e R s m args below meth c Z own n0 h0 ws T' h locs cells slots := ⟨X', W.2.1, e', W.2.2.2⟩
theorem NK.getF (W : NK p l e R s m args below meth c Z own n0 h0 ws T h locs cells slots) {R0 O n d host : String} {index : Nat} (w : (Cond.fieldLink own index R0 n d).before a0 Z = true ∨ (Cond.fieldLinkNest own index R0 n d host).before a0 Z = true) (via : Via Z R0 O n d) {a : Addr} {v : Value} (F : Fld Z h a O n d v) (hd : decode c.code pc = .ok (.getfield index, 3)) (hp : pc + 3 = pc')
    (k' : ∀ T' : State, NK p l e R s m args below meth c Z own n0 h0 ws T' h locs cells slots → Go p e below G T' (mkF m pc' Ls (v :: rest))) : Go p e below G T (mkF m pc Ls (.ref a :: rest)) := by
  obtain ⟨T', X', e', stp⟩ := RoadKit.getF W.1 W.2.1 W.2.2.2.1 W.2.2.2.2.1 w via W.2.2.1 F (g := mkF m pc Ls (.ref a :: rest)) rfl rfl hd
  subst hp
  exact Go.by1 (fun t q => stp t q) (k' T' (W.moved X' e'))
theorem NK.getS (W : NK p l e R s m args below meth c Z own n0 h0 ws T h locs cells slots) {R0 O n d host : String} {index : Nat} (w : (Cond.fieldLink own index R0 n d).before a0 Z = true ∨ (Cond.fieldLinkNest own index R0 n d host).before a0 Z = true) (via : Via Z R0 O n d) {v : Value} (F : Sta Z h O n d v) (hd : decode c.code pc = .ok (.getstatic index, 3)) (hp : pc + 3 = pc')
    (k' : ∀ T' : State, NK p l e R s m args below meth c Z own n0 h0 ws T' h locs cells slots → Go p e below G T' (mkF m pc' Ls (v :: st))) : Go p e below G T (mkF m pc Ls st) := by
  obtain ⟨T', X', e', stp⟩ := RoadKit.getS2 W.1 W.2.1 W.2.2.2.1 W.2.2.2.2.1 w via W.2.2.1 F (g := mkF m pc Ls st) rfl hd
  subst hp
  exact Go.by1 (fun t q => stp t q) (k' T' (W.moved X' e'))
theorem NK.putF (W : NK p l e R s m args below meth c Z own n0 h0 ws T h locs cells slots) {R0 O n d host C : String} {index kk : Nat} {ty : FieldType} (w : (Cond.fieldLink own index R0 n d).before a0 Z = true ∨ (Cond.fieldLinkNest own index R0 n d host).before a0 Z = true) (via : Via Z R0 O n d) {a : Addr} {v old : Value} (F : Fld Z h a O n d old) (E : Exa Z h a C)
    (L : (Cond.lays C O n d).before a0 Z = true ∨ ((Cond.laysFinal C O n d).before a0 Z = true ∧ own = O ∧ meth.name = "<init>")) (wi : (Cond.instantiable C kk).before a0 Z = true) (hty : parseFieldDescriptor d = some ty) (hn : narrow ty v = v) (hf : fits ty v = true) (hd : decode c.code pc = .ok (.putfield index, 3)) (hp : pc + 3 = pc') (hge : a ∈ ws ∨ h0.size ≤ a) (hn0 : n0 ≤ a)
    (k' : ∀ (T' : State) (h' : Heap) (L' : List Loc), NK p l e R s m args below meth c Z own n0 h0 ws T' h' L' cells slots → Wr h h' a (RoadKit.slotOf Z O n d) v → Go p e below G T' (mkF m pc' Ls rest)) : Go p e below G T (mkF m pc Ls (v :: .ref a :: rest)) := by
  obtain ⟨T', h', X', e', Wr', stp⟩ := RoadKit.putF W.1 W.2.1 W.2.2.2.1 W.2.2.2.2.1 w via W.2.2.1 F E L wi hty hn hf (g := mkF m pc Ls (v :: .ref a :: rest)) rfl rfl hd
  subst hp
  exact Go.by1 (fun t q => stp t q) (k' T' h' _ (W.wrote X' e' Wr' hge hn0) Wr')
theorem NK.initO (W : NK p l e R s m args below meth c Z own n0 h0 ws T h locs cells slots) {idx : Nat} (w1 : (Cond.methodLink own idx Lib.objectInit).before a0 Z = true) (w2 : (Cond.instanceMethod Lib.objectInit).before a0 Z = true) (w3 : (Cond.code Lib.objectInit ⟨#[0xb1]⟩ 1 none).before a0 Z = true) {a : Addr} (hd : decode c.code pc = .ok (.invokespecial idx, 3)) (hp : pc + 3 = pc') (hml : c.maxLocals = Ls.size) (hf : 1 ≤ R.frames) {wd : Nat} (hW : (rest.map fun v => v.category).sum ≤ wd) (hl : wd + 12 ≤ R.locals)
    (k' : ∀ T' : State, NK p l e R s m args below meth c Z own n0 h0 ws T' h locs cells slots → Go p e below G T' (mkF m pc' Ls rest)) : Go p e below G T (mkF m pc Ls (.ref a :: rest)) := by
  obtain ⟨T', X', e', stp⟩ := RoadKit.initO W.1 W.2.1 W.2.2.2.1 W.2.2.2.2.1 w1 w2 w3 W.2.2.1 (g := mkF m pc Ls (.ref a :: rest)) rfl hml.symm rfl hd hf (W := wd) (by show 2 * 0 + _ ≤ _; omega) hl
  subst hp
  exact Go.by1 (fun t q => stp t q) (k' T' (W.moved X' e'))
/-- what a payer says, in backOf's shape -/
abbrev BK (l : Launch) (R : Room) (p : Program) (e : Env) (below : List Frame) (s : State) (args : Array Value) (y : MethodName) (len wd : Nat) (as' : Array Value) (h : Heap) (rc rs : Nat) (Q : Option Value → Heap → List Loc → Prop) : Prop :=
  Back l R p e below s args y len wd (fun A a => a = as' ∧ A.U.heap = h ∧ A.cells + rc ≤ R.cells ∧ A.slots + rs ≤ R.slots) (fun A _ v B => ∃ L, Q v B.U.heap L ∧ B.locs = A.locs ++ L ∧ B.cells = A.cells + rc ∧ B.slots = A.slots + rs)
/-- a callee's contract -/
def NM (l : Launch) (y : MethodName) (bytes : ByteArray) (maxL : Nat) (ret : Option FieldType) (xs : List Cond) (R : Room) (Z : State) (n0 : Nat) (as' : Array Value) (h0 : Heap) (ws : List Addr) (P : Option Value → Heap → Prop) : Prop :=
  MetFree l y (head1 (Cond.code y bytes maxL ret :: xs) R) (fun a U => a = as' ∧ Z.Warmed39 U.vm ∧ U.heap = h0) (fun _ _ _ _ _ => True) (fun _ U o U' => ∃ v L, o = .returned v ∧ (P v U'.heap ∧ Keep h0 U'.heap ws ∧ Fr n0 L) ∧ FrameEnd U o U' L R.cells R.slots)
def EndN (n0 : Nat) (R : Room) (s : State) (below : List Frame) (P : Option Value → Heap → Prop) (h0 : Heap) (ws : List Addr) (t : State) : Prop :=
  ∃ o, t.status = .running ∧ Ended t below o ∧ ∃ v L, o = .returned v ∧ (P v t.heap ∧ Keep h0 t.heap ws ∧ Fr n0 L) ∧ FrameEnd s o t L R.cells R.slots
theorem NM.walk {y : MethodName} {bytes : ByteArray} {maxL : Nat} {ret : Option FieldType} {xs : List Cond} {as' : Array Value} {P : Option Value → Heap → Prop} (hpl : plainFor y = true) (hn : n0 ≤ h0.size) (ef : ∀ m, entryFrame m as' maxL = mkF m 0 Ls [])
    (body : ∀ (p : Program) (e : Env) (s : State) (m : MethodId) (below : List Frame) (meth : Method) (c : Code) (s₁ : State), c.code = bytes → c.maxLocals = maxL → meth.sig.returnType = ret → meth.name = y.name → NK p l e R s m as' below meth c Z y.cls n0 h0 ws s₁ h0 [] 0 0 → Go p e below (EndN n0 R s below P h0 ws) s₁ (mkF m 0 Ls [])) : NM l y bytes maxL ret xs R Z n0 as' h0 ws P := by
  refine MetFree.of_bodySF hpl hisR ?_
  intro p e s m args below meth c s₁ Bd hml0 hP hK
  obtain ⟨rfl, hZ, hh⟩ := hP
  have X0 : Stand p l e R s m args below meth c s₁ [] 0 0 := Stand.of_body Bd
  have e0 : s₁.heap = h0 := by rw [← hh, Bd.state]; rfl
  obtain ⟨t, a, o, r1, r2, q⟩ := body p e s m below meth c s₁ Bd.bytes hml0 Bd.returns (name_of_methodNamed Bd.named Bd.method).1 ⟨X0, Bd.exec, e0, hZ, findClass_of_methodNamed Bd.named, Fr.nil n0, Keep.refl _ _, hn, BodyLoose.notSynchronized Bd⟩
  exact ⟨t, o, castTop (ef m) a, r1, r2, q⟩
theorem NK.ret (W : NK p l e R s m args below meth c Z own n0 h0 ws T h locs cells slots) {P : Option Value → Heap → Prop} {w : Value} {t : FieldType} {i : Instr} (hret : meth.sig.returnType = some t) (hn : narrow t w = w)
    (hi : (i = .ireturn ∧ (t = .int ∨ t = .boolean ∨ t = .byte ∨ t = .char ∨ t = .short) ∧ ∃ z, w = .int z) ∨ (i = .lreturn ∧ t = .long ∧ ∃ z, w = .long z) ∨ (i = .dreturn ∧ t = .double ∧ ∃ z, w = .double z) ∨ (i = .freturn ∧ t = .float ∧ ∃ z, w = .float z) ∨ (i = .areturn ∧ t.isReference = true ∧ w.isRef = true))
    (hd : decode c.code pc = .ok (i, 1)) (hc : cells ≤ R.cells) (hs : slots ≤ R.slots) (hP : P (some w) h) : Go p e below (EndN n0 R s below P h0 ws) T (mkF m pc Ls (w :: rest)) := by
  obtain ⟨X, hx, eT, hZ, hown, N, K, hn0, hlk⟩ := W
  obtain ⟨fs, hr, hrun, hended, hW, hsame⟩ := X.leave (v := some w) (fun h => by rw [hret] at h; cases h) hlk
  refine ⟨_, retOut X hx hret hn hi hd hr, _, hrun, hended, _, _, rfl, ?_, ⟨_, rfl⟩, hW, hsame.mono hc hs⟩
  have e1 : (T.setFrames fs).heap = h := eT
  rw [e1]
  exact ⟨hP, K, N⟩
theorem NK.retI (W : NK p l e R s m args below meth c Z own n0 h0 ws T h locs cells slots) {P : Option Value → Heap → Prop} {z : Int32} (hret : meth.sig.returnType = some .int) (hd : decode c.code pc = .ok (.ireturn, 1)) (hc : cells ≤ R.cells) (hs : slots ≤ R.slots) (hP : P (some (.int z)) h) : Go p e below (EndN n0 R s below P h0 ws) T (mkF m pc Ls (.int z :: rest)) :=
  W.ret hret rfl (Or.inl ⟨rfl, Or.inl rfl, _, rfl⟩) hd hc hs hP
theorem NK.retZ (W : NK p l e R s m args below meth c Z own n0 h0 ws T h locs cells slots) {P : Option Value → Heap → Prop} {z : Int32} (hret : meth.sig.returnType = some .boolean) (hd : decode c.code pc = .ok (.ireturn, 1)) (hz : z = 0 ∨ z = 1) (hc : cells ≤ R.cells) (hs : slots ≤ R.slots) (hP : P (some (.int z)) h) : Go p e below (EndN n0 R s below P h0 ws) T (mkF m pc Ls (.int z :: rest)) :=
  W.ret hret (by rcases hz with rfl | rfl <;> rfl) (Or.inl ⟨rfl, Or.inr (Or.inl rfl), _, rfl⟩) hd hc hs hP
theorem NK.retC (W : NK p l e R s m args below meth c Z own n0 h0 ws T h locs cells slots) {P : Option Value → Heap → Prop} {z : Int32} (hret : meth.sig.returnType = some .char) (hd : decode c.code pc = .ok (.ireturn, 1)) (hz : narrow .char (.int z) = .int z) (hc : cells ≤ R.cells) (hs : slots ≤ R.slots) (hP : P (some (.int z)) h) : Go p e below (EndN n0 R s below P h0 ws) T (mkF m pc Ls (.int z :: rest)) :=
  W.ret hret hz (Or.inl ⟨rfl, Or.inr (Or.inr (Or.inr (Or.inl rfl))), _, rfl⟩) hd hc hs hP
theorem NK.retB (W : NK p l e R s m args below meth c Z own n0 h0 ws T h locs cells slots) {P : Option Value → Heap → Prop} {z : Int32} (hret : meth.sig.returnType = some .byte) (hd : decode c.code pc = .ok (.ireturn, 1)) (hz : narrow .byte (.int z) = .int z) (hc : cells ≤ R.cells) (hs : slots ≤ R.slots) (hP : P (some (.int z)) h) : Go p e below (EndN n0 R s below P h0 ws) T (mkF m pc Ls (.int z :: rest)) :=
  W.ret hret hz (Or.inl ⟨rfl, Or.inr (Or.inr (Or.inl rfl)), _, rfl⟩) hd hc hs hP
theorem NK.retJ (W : NK p l e R s m args below meth c Z own n0 h0 ws T h locs cells slots) {P : Option Value → Heap → Prop} {z : Int64} (hret : meth.sig.returnType = some .long) (hd : decode c.code pc = .ok (.lreturn, 1)) (hc : cells ≤ R.cells) (hs : slots ≤ R.slots) (hP : P (some (.long z)) h) : Go p e below (EndN n0 R s below P h0 ws) T (mkF m pc Ls (.long z :: rest)) :=
  W.ret hret rfl (Or.inr (Or.inl ⟨rfl, rfl, _, rfl⟩)) hd hc hs hP
theorem NK.retA (W : NK p l e R s m args below meth c Z own n0 h0 ws T h locs cells slots) {P : Option Value → Heap → Prop} {w : Value} {t : FieldType} (hret : meth.sig.returnType = some t) (ht : t.isReference = true) (hw : w.isRef = true) (hd : decode c.code pc = .ok (.areturn, 1)) (hc : cells ≤ R.cells) (hs : slots ≤ R.slots) (hP : P (some w) h) : Go p e below (EndN n0 R s below P h0 ws) T (mkF m pc Ls (w :: rest)) :=
  W.ret hret (by cases t <;> cases w <;> first | rfl | (simp [FieldType.isReference, Value.isRef] at ht hw)) (Or.inr (Or.inr (Or.inr (Or.inr ⟨rfl, ht, hw⟩)))) hd hc hs hP
theorem NK.retV (W : NK p l e R s m args below meth c Z own n0 h0 ws T h locs cells slots) {P : Option Value → Heap → Prop} (hret : meth.sig.returnType = none) (hd : decode c.code pc = .ok (.return_, 1)) (hc : cells ≤ R.cells) (hs : slots ≤ R.slots) (hP : P none h) : Go p e below (EndN n0 R s below P h0 ws) T (mkF m pc Ls []) := by
  obtain ⟨X, hx, eT, hZ, hown, N, K, hn0, hlk⟩ := W
  obtain ⟨fs, hr, hrun, hended, hW, hsame⟩ := X.leave (v := none) (fun _ => rfl) hlk
  refine ⟨_, X.returnOut hx hret hd hr, _, hrun, hended, _, _, rfl, ?_, ⟨_, rfl⟩, hW, hsame.mono hc hs⟩
  have e1 : (T.setFrames fs).heap = h := eT
  rw [e1]
  exact ⟨hP, K, N⟩
theorem NM.bk {y : MethodName} {bytes : ByteArray} {maxL : Nat} {ret : Option FieldType} {rm : Room} {as' : Array Value} {P : Option Value → Heap → Prop} {len wd : Nat} (hM : NM l y bytes maxL ret [] rm Z n0 as' h ws' P) (hZ : Z.Warmed39 s.vm) (wc : (Cond.code y bytes maxL ret).before a0 Z = true) (wz : (Cond.initialized y.cls).before a0 Z = true) (hf : rm.frames + 1 ≤ R.frames) (hl : wd + (maxL + 11) + rm.locals ≤ R.locals) :
    BK l R p e below s args y len wd as' h rm.cells rm.slots (fun v h' L => P v h' ∧ Keep h h' ws' ∧ Fr n0 L) := backOf (Q := fun v h' L => P v h' ∧ Keep h h' ws' ∧ Fr n0 L) hM hZ wc wz hf hl
theorem NK.called (W : NK p l e R s m args below meth c Z own n0 h0 ws T h locs cells slots) {L : List Loc} {T' : State} {c2 s2 : Nat} (X' : Stand p l e R s m args below meth c T' (locs ++ L) c2 s2) (N : Fr n0 L) (K : Keep h T'.heap ws') (hws : ∀ x ∈ ws', x ∈ ws ∨ h0.size ≤ x) : NK p l e R s m args below meth c Z own n0 h0 ws T' T'.heap (locs ++ L) c2 s2 := by
  obtain ⟨X, hx, eT, hZ, hown, N0, K0, hn0, hlk⟩ := W
  exact ⟨X', hx, rfl, hZ, hown, Fr.app N0 N, K0.trans K hws, hn0, hlk⟩
theorem NK.callS (W : NK p l e R s m args below meth c Z own n0 h0 ws T h locs cells slots) {index : Nat} {y : MethodName} {bytes : ByteArray} {maxL : Nat} {ret : Option FieldType} (w1 : (Cond.methodLink own index y).before a0 Z = true) (w2 : (Cond.static y).before a0 Z = true) (w3 : (Cond.initialized y.cls).before a0 Z = true) (w4 : (Cond.code y bytes maxL ret).before a0 Z = true)
    (hy : y.cls ≠ "java/lang/invoke/MethodHandle" ∧ y.cls ≠ "java/lang/invoke/VarHandle") {wd rc rs : Nat} {as' : Array Value} {Q : Option Value → Heap → List Loc → Prop} (hK : BK l R p e below s args y 3 wd as' h rc rs Q) (hd : decode c.code pc = .ok (.invokestatic index, 3)) (hp : pc + 3 = pc') (hml : c.maxLocals = Ls.size) {argsL : List Value} (has : argsL.toArray = as') (hlen : ∀ sig, parseMethodDescriptor y.desc = some sig → argsL.length = sig.parameters.length) (hst : st = argsL.reverse ++ rest) (hW : (rest.map fun v => v.category).sum ≤ wd) (hc : cells + rc ≤ R.cells) (hs : slots + rs ≤ R.slots)
    (hq : ∀ v h' L, Q v h' L → Fr n0 L ∧ Keep h h' ws') (hws : ∀ x ∈ ws', x ∈ ws ∨ h0.size ≤ x)
    (k' : ∀ (v : Option Value) (T' : State) (h' : Heap) (L L' : List Loc), NK p l e R s m args below meth c Z own n0 h0 ws T' h' L' (cells + rc) (slots + rs) → Q v h' L → Keep h h' ws' → Go p e below G T' (mkF m pc' Ls (v.toList ++ rest))) : Go p e below G T (mkF m pc Ls st) := by
  subst hst has hp
  obtain ⟨v, vm1, ⟨T', L1, k1, n1⟩, -, X', ⟨L, hQ, e1, e2, e3⟩, stp⟩ := Jvm.LawKit.callS W.1 W.2.1 W.2.2.2.2.1 (mvT W.2.2.2.1 w1) (mvT W.2.2.2.1 w2) (mvT W.2.2.2.1 w3) (mvT W.2.2.2.1 w4) hy hK (g := mkF m pc Ls (argsL.reverse ++ rest)) rfl hml.symm (argsL := argsL) (rest := rest) hlen rfl (by show 2 * 0 + _ ≤ _; omega) hd (fun _ _ => ⟨rfl, W.2.2.1, hc, hs⟩)
  dsimp only [Pt.U, Pt.locs, Pt.cells, Pt.slots] at X' hQ e1 e2 e3 stp
  subst e1 e2 e3
  obtain ⟨N, K⟩ := hq _ _ _ hQ
  exact Go.by1 (fun t q => stp t q) (k' v T' _ L _ (W.called X' N K hws) hQ K)
theorem NK.callI (W : NK p l e R s m args below meth c Z own n0 h0 ws T h locs cells slots) {index : Nat} {y : MethodName} {bytes : ByteArray} {maxL : Nat} (hy1 : y.name = "<init>") (w1 : (Cond.methodLink own index y).before a0 Z = true) (w2 : (Cond.instanceMethod y).before a0 Z = true) (w4 : (Cond.code y bytes maxL none).before a0 Z = true)
    (hy : y.cls ≠ "java/lang/invoke/MethodHandle" ∧ y.cls ≠ "java/lang/invoke/VarHandle") {wd rc rs : Nat} {as' : Array Value} {Q : Option Value → Heap → List Loc → Prop} (hK : BK l R p e below s args y 3 wd as' h rc rs Q) (hd : decode c.code pc = .ok (.invokespecial index, 3)) (hp : pc + 3 = pc') (hml : c.maxLocals = Ls.size) {a : Addr} {argsL : List Value} (has : (Value.ref a :: argsL).toArray = as') (hlen : ∀ sig, parseMethodDescriptor y.desc = some sig → argsL.length = sig.parameters.length) (hst : st = argsL.reverse ++ .ref a :: rest) (hW : (rest.map fun v => v.category).sum ≤ wd) (hc : cells + rc ≤ R.cells) (hs : slots + rs ≤ R.slots)
    (hq : ∀ v h' L, Q v h' L → Fr n0 L ∧ Keep h h' ws') (hws : ∀ x ∈ ws', x ∈ ws ∨ h0.size ≤ x)
    (k' : ∀ (v : Option Value) (T' : State) (h' : Heap) (L L' : List Loc), NK p l e R s m args below meth c Z own n0 h0 ws T' h' L' (cells + rc) (slots + rs) → Q v h' L → Keep h h' ws' → Go p e below G T' (mkF m pc' Ls (v.toList ++ rest))) : Go p e below G T (mkF m pc Ls st) := by
  subst hst has hp
  obtain ⟨v, vm1, ⟨T', L1, k1, n1⟩, -, X', ⟨L, hQ, e1, e2, e3⟩, stp⟩ := W.1.specialBack W.2.1 hy1 W.2.2.2.2.1 (mvT W.2.2.2.1 w1) (mvT W.2.2.2.1 w2) (mvT W.2.2.2.1 w4) hy hK (g := mkF m pc Ls (argsL.reverse ++ .ref a :: rest)) rfl hml.symm (Steps.refl _) (a := a) (argsL := argsL) (rest := rest) hlen rfl (by show 2 * 0 + _ ≤ _; omega) hd (fun _ _ => ⟨rfl, W.2.2.1, hc, hs⟩)
  dsimp only [Pt.U, Pt.locs, Pt.cells, Pt.slots] at X' hQ e1 e2 e3 stp
  subst e1 e2 e3
  obtain ⟨N, K⟩ := hq _ _ _ hQ
  exact Go.tr stp (k' v T' _ L _ (W.called X' N K hws) hQ K)
theorem NK.callV (W : NK p l e R s m args below meth c Z own n0 h0 ws T h locs cells slots) {index : Nat} {C : String} {y z : MethodName} (w1 : (Cond.methodLink own index y).before a0 Z = true) (w2 : (Cond.declares y).before a0 Z = true) (w3 : (Cond.selects C y z).before a0 Z = true) {C' : String} (w3' : (Cond.selects C' y y).before a0 Z = true) (w4 : (Cond.instanceMethod z).before a0 Z = true)
    (hy : y.cls ≠ "java/lang/invoke/MethodHandle" ∧ y.cls ≠ "java/lang/invoke/VarHandle") {wd rc rs : Nat} {as' : Array Value} {Q : Option Value → Heap → List Loc → Prop} (hK : BK l R p e below s args z 3 wd as' h rc rs Q) {a : Addr} (E : Exa Z h a C) (hd : decode c.code pc = .ok (.invokevirtual index, 3)) (hp : pc + 3 = pc') (hml : c.maxLocals = Ls.size) {argsL : List Value} (has : (Value.ref a :: argsL).toArray = as') (hlen : ∀ sig, parseMethodDescriptor y.desc = some sig → argsL.length = sig.parameters.length) (hst : st = argsL.reverse ++ .ref a :: rest) (hW : (rest.map fun v => v.category).sum ≤ wd) (hc : cells + rc ≤ R.cells) (hs : slots + rs ≤ R.slots)
    (hq : ∀ v h' L, Q v h' L → Fr n0 L ∧ Keep h h' ws') (hws : ∀ x ∈ ws', x ∈ ws ∨ h0.size ≤ x)
    (k' : ∀ (v : Option Value) (T' : State) (h' : Heap) (L L' : List Loc), NK p l e R s m args below meth c Z own n0 h0 ws T' h' L' (cells + rc) (slots + rs) → Q v h' L → Keep h h' ws' → Go p e below G T' (mkF m pc' Ls (v.toList ++ rest))) : Go p e below G T (mkF m pc Ls st) := by
  subst hst has hp
  obtain ⟨cq, kq, qa, qb, qc⟩ := isOf W.2.2.2.1 W.2.2.1 E
  obtain ⟨v, vm1, ⟨T', L1, k1, n1⟩, -, X', ⟨L, hQ, e1, e2, e3⟩, stp⟩ := W.1.virtualBack W.2.1 (y := y) (z := z) W.2.2.2.2.1 (mvT W.2.2.2.1 w1) (mvT W.2.2.2.1 w2) (notFace_of_selects (args := #[]) (mvT W.2.2.2.1 w3')) (mvT W.2.2.2.1 w3) (mvT W.2.2.2.1 w4) hy hK qa qc (g := mkF m pc Ls (argsL.reverse ++ .ref a :: rest)) rfl hml.symm (Steps.refl _) (argsL := argsL) (rest := rest) hlen rfl (by show 2 * 0 + _ ≤ _; omega) hd (fun _ _ => ⟨rfl, W.2.2.1, hc, hs⟩)
  dsimp only [Pt.U, Pt.locs, Pt.cells, Pt.slots] at X' hQ e1 e2 e3 stp
  subst e1 e2 e3
  obtain ⟨N, K⟩ := hq _ _ _ hQ
  exact Go.tr stp (k' v T' _ L _ (W.called X' N K hws) hQ K)
end Heap1
section Pure1
variable {p : Program} {l : Launch} {e : Env} {R : Room} {s : State} {m : MethodId} {args : Array Value} {below : List Frame} {meth : Method} {c : Code} {Z : State} {own : String} {n0 : Nat} {h0 : Heap} {ws ws' : List Addr} {T T' : State} {h h' : Heap} {locs : List Loc} {cells slots : Nat} {G : State → Prop} {g g' : JFrame} {a0 : Array Value} {pc pc' : Nat} {Ls Ls' : Array Slot} {st rest : List Value}
/-- it returns w and leaves the heap as it was -/
abbrev Pu (w : Option Value) (h0 : Heap) : Option Value → Heap → Prop := fun v h' => v = w ∧ h' = h0
theorem NK.callSP (W : NK p l e R s m args below meth c Z own n0 h0 ws T h locs cells slots) {index : Nat} {y : MethodName} {bytes : ByteArray} {maxL : Nat} {ret : Option FieldType} (w1 : (Cond.methodLink own index y).before a0 Z = true) (w2 : (Cond.static y).before a0 Z = true) (w3 : (Cond.initialized y.cls).before a0 Z = true) (w4 : (Cond.code y bytes maxL ret).before a0 Z = true)
    (hy : y.cls ≠ "java/lang/invoke/MethodHandle" ∧ y.cls ≠ "java/lang/invoke/VarHandle") {wd rc rs : Nat} {as' : Array Value} {Q : Option Value → Heap → List Loc → Prop} (hK : BK l R p e below s args y 3 wd as' h rc rs Q) (hd : decode c.code pc = .ok (.invokestatic index, 3)) (hp : pc + 3 = pc') (hml : c.maxLocals = Ls.size) {argsL : List Value} (has : argsL.toArray = as') (hlen : ∀ sig, parseMethodDescriptor y.desc = some sig → argsL.length = sig.parameters.length) (hst : st = argsL.reverse ++ rest) (hW : (rest.map fun v => v.category).sum ≤ wd) (hc : cells + rc ≤ R.cells) (hs : slots + rs ≤ R.slots)
    {w : Option Value} (hq : ∀ v h' L, Q v h' L → Fr n0 L ∧ Pu w h v h')
    (k' : ∀ (T' : State) (L' : List Loc), NK p l e R s m args below meth c Z own n0 h0 ws T' h L' (cells + rc) (slots + rs) → Go p e below G T' (mkF m pc' Ls (w.toList ++ rest))) : Go p e below G T (mkF m pc Ls st) :=
  W.callS w1 w2 w3 w4 hy hK hd hp hml has hlen hst hW hc hs (ws' := []) (fun v h' L q => ⟨(hq v h' L q).1, by rw [(hq v h' L q).2.2]; exact Keep.refl _ _⟩) all0 (fun v T' h' L L' W' q _ => by
    obtain ⟨-, rfl, rfl⟩ := hq v h' L q
    exact k' T' L' W')
theorem NK.callIP (W : NK p l e R s m args below meth c Z own n0 h0 ws T h locs cells slots) {index : Nat} {y : MethodName} {bytes : ByteArray} {maxL : Nat} (hy1 : y.name = "<init>") (w1 : (Cond.methodLink own index y).before a0 Z = true) (w2 : (Cond.instanceMethod y).before a0 Z = true) (w4 : (Cond.code y bytes maxL none).before a0 Z = true)
    (hy : y.cls ≠ "java/lang/invoke/MethodHandle" ∧ y.cls ≠ "java/lang/invoke/VarHandle") {wd rc rs : Nat} {as' : Array Value} {Q : Option Value → Heap → List Loc → Prop} (hK : BK l R p e below s args y 3 wd as' h rc rs Q) (hd : decode c.code pc = .ok (.invokespecial index, 3)) (hp : pc + 3 = pc') (hml : c.maxLocals = Ls.size) {a : Addr} {argsL : List Value} (has : (Value.ref a :: argsL).toArray = as') (hlen : ∀ sig, parseMethodDescriptor y.desc = some sig → argsL.length = sig.parameters.length) (hst : st = argsL.reverse ++ .ref a :: rest) (hW : (rest.map fun v => v.category).sum ≤ wd) (hc : cells + rc ≤ R.cells) (hs : slots + rs ≤ R.slots)
    {w : Option Value} (hq : ∀ v h' L, Q v h' L → Fr n0 L ∧ Pu w h v h')
    (k' : ∀ (T' : State) (L' : List Loc), NK p l e R s m args below meth c Z own n0 h0 ws T' h L' (cells + rc) (slots + rs) → Go p e below G T' (mkF m pc' Ls (w.toList ++ rest))) : Go p e below G T (mkF m pc Ls st) :=
  W.callI hy1 w1 w2 w4 hy hK hd hp hml has hlen hst hW hc hs (ws' := []) (fun v h' L q => ⟨(hq v h' L q).1, by rw [(hq v h' L q).2.2]; exact Keep.refl _ _⟩) all0 (fun v T' h' L L' W' q _ => by
    obtain ⟨-, rfl, rfl⟩ := hq v h' L q
    exact k' T' L' W')
theorem NK.callVP (W : NK p l e R s m args below meth c Z own n0 h0 ws T h locs cells slots) {index : Nat} {C : String} {y z : MethodName} (w1 : (Cond.methodLink own index y).before a0 Z = true) (w2 : (Cond.declares y).before a0 Z = true) (w3 : (Cond.selects C y z).before a0 Z = true) {C' : String} (w3' : (Cond.selects C' y y).before a0 Z = true) (w4 : (Cond.instanceMethod z).before a0 Z = true)
    (hy : y.cls ≠ "java/lang/invoke/MethodHandle" ∧ y.cls ≠ "java/lang/invoke/VarHandle") {wd rc rs : Nat} {as' : Array Value} {Q : Option Value → Heap → List Loc → Prop} (hK : BK l R p e below s args z 3 wd as' h rc rs Q) {a : Addr} (E : Exa Z h a C) (hd : decode c.code pc = .ok (.invokevirtual index, 3)) (hp : pc + 3 = pc') (hml : c.maxLocals = Ls.size) {argsL : List Value} (has : (Value.ref a :: argsL).toArray = as') (hlen : ∀ sig, parseMethodDescriptor y.desc = some sig → argsL.length = sig.parameters.length) (hst : st = argsL.reverse ++ .ref a :: rest) (hW : (rest.map fun v => v.category).sum ≤ wd) (hc : cells + rc ≤ R.cells) (hs : slots + rs ≤ R.slots)
    {w : Option Value} (hq : ∀ v h' L, Q v h' L → Fr n0 L ∧ Pu w h v h')
    (k' : ∀ (T' : State) (L' : List Loc), NK p l e R s m args below meth c Z own n0 h0 ws T' h L' (cells + rc) (slots + rs) → Go p e below G T' (mkF m pc' Ls (w.toList ++ rest))) : Go p e below G T (mkF m pc Ls st) :=
  W.callV w1 w2 w3 w3' w4 hy hK E hd hp hml has hlen hst hW hc hs (ws' := []) (fun v h' L q => ⟨(hq v h' L q).1, by rw [(hq v h' L q).2.2]; exact Keep.refl _ _⟩) all0 (fun v T' h' L L' W' q _ => by
    obtain ⟨-, rfl, rfl⟩ := hq v h' L q
    exact k' T' L' W')
/-- what a pure contract's payer says -/
theorem pu_of {w : Option Value} {L : List Loc} {v : Option Value} (q : Pu w h v h' ∧ Keep h h' [] ∧ Fr n0 L) : Fr n0 L ∧ Pu w h v h' := ⟨q.2.2, q.1⟩
theorem pu_nil {w : Option Value} {L : List Loc} {v : Option Value} (q : v = w ∧ L = [] ∧ h' = h) : Fr n0 L ∧ Pu w h v h' := ⟨by rw [q.2.1]; exact Fr.nil n0, q.1, q.2.2⟩
end Pure1
section Small1
variable {p : Program} {l : Launch} {e : Env} {R : Room} {s : State} {m : MethodId} {args : Array Value} {below : List Frame} {meth : Method} {c : Code} {Z : State} {own : String} {n0 : Nat} {h0 : Heap} {ws : List Addr} {T : State} {h : Heap} {locs : List Loc} {cells slots : Nat}
theorem NK.n0h (W : NK p l e R s m args below meth c Z own n0 h0 ws T h locs cells slots) : n0 ≤ h.size := Nat.le_trans W.2.2.2.2.2.2.2.1 W.2.2.2.2.2.2.1.1
theorem mem0 {P : Int32 → Prop} : ∀ x ∈ ([] : List Int32), P x := fun _ q => nomatch q
theorem memS {P : Int32 → Prop} {y : Int32} {L : List Int32} (q : P y) (r : ∀ x ∈ L, P x) : ∀ x ∈ y :: L, P x := fun x z => (List.mem_cons.mp z).elim (fun u => u ▸ q) (r x)
variable {G : State → Prop} {a0 : Array Value} {pc pc' : Nat} {Ls : Array Slot} {rest : List Value}
theorem NK.instNull (W : NK p l e R s m args below meth c Z own n0 h0 ws T h locs cells slots) {index : Nat} (hd : decode c.code pc = .ok (.instanceof index, 3)) (hp : pc + 3 = pc') (k' : Go p e below G T (mkF m pc' Ls (.int 0 :: rest))) : Go p e below G T (mkF m pc Ls (.null :: rest)) := by
  subst hp
  exact Go.by1 (fun t q => W.1.instanceofNull W.2.1 (g := mkF m pc Ls (.null :: rest)) rfl rfl hd t q) k'
theorem NK.castNull (W : NK p l e R s m args below meth c Z own n0 h0 ws T h locs cells slots) {index : Nat} (hd : decode c.code pc = .ok (.checkcast index, 3)) (hp : pc + 3 = pc') (k' : Go p e below G T (mkF m pc' Ls (.null :: rest))) : Go p e below G T (mkF m pc Ls (.null :: rest)) := by
  subst hp
  exact Go.by1 (fun t q => W.1.checkcastNull W.2.1 (g := mkF m pc Ls (.null :: rest)) rfl rfl hd t q) k'
theorem NK.castY (W : NK p l e R s m args below meth c Z own n0 h0 ws T h locs cells slots) {K : String} {index : Nat} (w : (Cond.classLink own index K).before a0 Z = true) {a : Addr} (F : Ins Z h a K true) (hd : decode c.code pc = .ok (.checkcast index, 3)) (hp : pc + 3 = pc')
    (k' : ∀ T' : State, NK p l e R s m args below meth c Z own n0 h0 ws T' h locs cells slots → Go p e below G T' (mkF m pc' Ls (.ref a :: rest))) : Go p e below G T (mkF m pc Ls (.ref a :: rest)) := by
  obtain ⟨T', X', e', stp⟩ := RoadKit.castY W.1 W.2.1 W.2.2.2.1 W.2.2.2.2.1 w W.2.2.1 F (g := mkF m pc Ls (.ref a :: rest)) rfl rfl hd
  subst hp
  exact Go.by1 (fun t q => stp t q) (k' T' (W.moved X' e'))
theorem NK.instY (W : NK p l e R s m args below meth c Z own n0 h0 ws T h locs cells slots) {K : String} {index : Nat} (w : (Cond.classLink own index K).before a0 Z = true) {a : Addr} (F : Ins Z h a K true) (hd : decode c.code pc = .ok (.instanceof index, 3)) (hp : pc + 3 = pc')
    (k' : ∀ T' : State, NK p l e R s m args below meth c Z own n0 h0 ws T' h locs cells slots → Go p e below G T' (mkF m pc' Ls (.int 1 :: rest))) : Go p e below G T (mkF m pc Ls (.ref a :: rest)) := by
  obtain ⟨T', X', e', stp⟩ := RoadKit.instY W.1 W.2.1 W.2.2.2.1 W.2.2.2.2.1 w W.2.2.1 F (g := mkF m pc Ls (.ref a :: rest)) rfl rfl hd
  subst hp
  exact Go.by1 (fun t q => stp t q) (k' T' (W.moved X' e'))
end Small1
section Wide1
variable {p : Program} {l : Launch} {e : Env} {R : Room} {s : State} {m : MethodId} {args : Array Value} {below : List Frame} {meth : Method} {c : Code} {Z : State} {EL : List (String × Nat)} {own : String} {n0 : Nat} {h0 : Heap} {ws ws' : List Addr} {T T' : State} {h h' : Heap} {vm : Vm} {locs locs' : List Loc} {cells slots cells' slots' : Nat} {G : State → Prop} {g g' : JFrame} {a0 : Array Value} {pc pc' : Nat} {Ls Ls' : Array Slot} {st rest : List Value}
/-- the wide walk: NK over the start with the tables vm, which may have interned since -/
def WK (EL : List (String × Nat)) (p : Program) (l : Launch) (e : Env) (R : Room) (s : State) (m : MethodId) (args : Array Value) (below : List Frame) (meth : Method) (c : Code) (Z : State) (own : String) (n0 : Nat) (h0 : Heap) (ws : List Addr) (T : State) (h : Heap) (vm : Vm) (locs : List Loc) (cells slots : Nat) : Prop :=
  NK p l e R (s.setVm vm) m args below meth c Z own n0 h0 ws T h locs cells slots ∧ s.Since vm h.size ∧ CHr Z EL s.vm h0 vm h
theorem since_grow {n n' : Nat} (S : s.Since vm n) (q : n ≤ n') : s.Since vm n' := ⟨S.1, fun j p hj hp => ⟨(S.2 j p hj hp).1, Nat.lt_of_lt_of_le (S.2 j p hj hp).2 q⟩⟩
theorem WK.up (W : WK EL p l e R s m args below meth c Z own n0 h0 ws T h vm locs cells slots) (N : NK p l e R (s.setVm vm) m args below meth c Z own n0 h0 ws T' h' locs' cells' slots') (K : Keep h h' ws') (S : ∀ x ∈ ws', Safe Z EL vm h x) : WK EL p l e R s m args below meth c Z own n0 h0 ws T' h' vm locs' cells' slots' :=
  ⟨N, since_grow W.2.1 K.1, W.2.2.trans (CHr.keep K S W.2.2.1)⟩
theorem WK.upE (W : WK EL p l e R s m args below meth c Z own n0 h0 ws T h vm locs cells slots) (N : NK p l e R (s.setVm vm) m args below meth c Z own n0 h0 ws T' h' locs' cells' slots') (E : Ext h h') : WK EL p l e R s m args below meth c Z own n0 h0 ws T' h' vm locs' cells' slots' :=
  ⟨N, since_grow W.2.1 E.1, W.2.2.trans (CHr.ext E W.2.2.1)⟩
theorem WK.same (W : WK EL p l e R s m args below meth c Z own n0 h0 ws T h vm locs cells slots) (N : NK p l e R (s.setVm vm) m args below meth c Z own n0 h0 ws T' h locs' cells' slots') : WK EL p l e R s m args below meth c Z own n0 h0 ws T' h vm locs' cells' slots' := ⟨N, W.2⟩
/-- a fresh cell is no booked one -/
theorem WK.safeNew (W : WK EL p l e R s m args below meth c Z own n0 h0 ws T h vm locs cells slots) {a : Addr} (ha : a = h.size) (E : Ext h h') : Safe Z EL vm h' a := Safe.ext E W.2.2.1 (Safe.new (Nat.le_of_eq ha.symm))
theorem WK.safeE (W : WK EL p l e R s m args below meth c Z own n0 h0 ws T h vm locs cells slots) {a : Addr} (S : Safe Z EL vm h a) (E : Ext h h') : Safe Z EL vm h' a := Safe.ext E W.2.2.1 S
theorem WK.safeK (W : WK EL p l e R s m args below meth c Z own n0 h0 ws T h vm locs cells slots) {a : Addr} (S : Safe Z EL vm h a) (K : Keep h h' ws') (hs : ∀ x ∈ ws', Safe Z EL vm h x) : Safe Z EL vm h' a := Safe.keep K hs W.2.2.1 S
def WM (l : Launch) (y : MethodName) (bytes : ByteArray) (maxL : Nat) (ret : Option FieldType) (xs : List Cond) (R : Room) (Z : State) (EL : List (String × Nat)) (n0 : Nat) (as' : Array Value) (h0 : Heap) (ws : List Addr) (P : Option Value → Heap → Prop) : Prop :=
  MetFree l y (head1 (Cond.code y bytes maxL ret :: xs) R) (fun a U => a = as' ∧ Z.Warmed39 U.vm ∧ U.heap = h0 ∧ CHv Z EL U.vm h0) (fun _ _ _ _ _ => True) (fun _ U o U' => ∃ v L, o = .returned v ∧ (P v U'.heap ∧ Keep h0 U'.heap ws ∧ Fr n0 L) ∧ CHr Z EL U.vm U.heap U'.vm U'.heap ∧ ReturnedEndW U o U' L R.cells R.slots)
def EndW (Z : State) (EL : List (String × Nat)) (n0 : Nat) (R : Room) (s : State) (below : List Frame) (P : Option Value → Heap → Prop) (h0 : Heap) (ws : List Addr) (t : State) : Prop :=
  ∃ o, t.status = .running ∧ Ended t below o ∧ ∃ v L, o = .returned v ∧ (P v t.heap ∧ Keep h0 t.heap ws ∧ Fr n0 L) ∧ CHr Z EL s.vm h0 t.vm t.heap ∧ ReturnedEndW s o t L R.cells R.slots
theorem WM.walk {y : MethodName} {bytes : ByteArray} {maxL : Nat} {ret : Option FieldType} {xs : List Cond} {as' : Array Value} {P : Option Value → Heap → Prop} (hpl : plainFor y = true) (hn : n0 ≤ h0.size) (ef : ∀ m, entryFrame m as' maxL = mkF m 0 Ls [])
    (body : ∀ (p : Program) (e : Env) (s : State) (m : MethodId) (below : List Frame) (meth : Method) (c : Code) (s₁ : State), c.code = bytes → c.maxLocals = maxL → meth.sig.returnType = ret → meth.name = y.name → WK EL p l e R s m as' below meth c Z y.cls n0 h0 ws s₁ h0 s.vm [] 0 0 → Go p e below (EndW Z EL n0 R s below P h0 ws) s₁ (mkF m 0 Ls [])) : WM l y bytes maxL ret xs R Z EL n0 as' h0 ws P := by
  refine MetFree.of_bodySF hpl hisR ?_
  intro p e s m args below meth c s₁ Bd hml0 hP hK
  obtain ⟨rfl, hZ, hh, hC⟩ := hP
  have X0 : Stand p l e R s m args below meth c s₁ [] 0 0 := Stand.of_body Bd
  have e0 : s₁.heap = h0 := by rw [← hh, Bd.state]; rfl
  have N0 : NK p l e R (s.setVm s.vm) m args below meth c Z y.cls n0 h0 ws s₁ h0 [] 0 0 := ⟨X0, Bd.exec, e0, hZ, findClass_of_methodNamed Bd.named, Fr.nil n0, Keep.refl _ _, hn, BodyLoose.notSynchronized Bd⟩
  obtain ⟨t, a, o, r1, r2, v, L, q1, q2, q3, q4⟩ := body p e s m below meth c s₁ Bd.bytes hml0 Bd.returns (name_of_methodNamed Bd.named Bd.method).1 ⟨N0, (State.WarmedH.refl s).since _, CHr.refl hC⟩
  exact ⟨t, o, castTop (ef m) a, r1, r2, v, L, q1, q2, by rw [hh]; exact q3, q4⟩
theorem WK.ends (W : WK EL p l e R s m args below meth c Z own n0 h0 ws T h vm locs cells slots) (hEL : EW Z a0 EL) {P : Option Value → Heap → Prop} {v : Option Value} (hv : meth.sig.returnType = none → v = none) (hc : cells ≤ R.cells) (hs : slots ≤ R.slots) (hP : P v h)
    (stp : ∀ fs, (∀ (f : JFrame) (acts : List Action), f.method = m → f.locked = none → f.entered = [] → (doReturn e (T.setTop f) acts v).1 = T.setFrames fs) → Steps p.tables e below (T.setTop g) (T.setFrames fs)) : Go p e below (EndW Z EL n0 R s below P h0 ws) T g := by
  obtain ⟨⟨X, hx, eT, hZ, hown, N, K, hn0, hlk⟩, S, C⟩ := W
  obtain ⟨fs, hr, hrun, hended, hW, hsame⟩ := X.leave hv hlk
  have e1 : (T.setFrames fs).heap = h := eT
  obtain ⟨q1, q2, q3⟩ := S.ended hW (by rw [e1]; exact Nat.le_refl _) hsame
  refine ⟨_, stp fs hr, _, hrun, hended, _, _, rfl, ?_, ?_, ⟨_, rfl⟩, q1, q2, q3.mono hc hs⟩
  · rw [e1]; exact ⟨hP, K, N⟩
  · rw [e1]
    have A := CHv.at X hZ hEL C.1
    exact C.trans A
theorem WK.ret (W : WK EL p l e R s m args below meth c Z own n0 h0 ws T h vm locs cells slots) (hEL : EW Z a0 EL) {P : Option Value → Heap → Prop} {w : Value} {t : FieldType} {i : Instr} (hret : meth.sig.returnType = some t) (hn : narrow t w = w)
    (hi : (i = .ireturn ∧ (t = .int ∨ t = .boolean ∨ t = .byte ∨ t = .char ∨ t = .short) ∧ ∃ z, w = .int z) ∨ (i = .lreturn ∧ t = .long ∧ ∃ z, w = .long z) ∨ (i = .dreturn ∧ t = .double ∧ ∃ z, w = .double z) ∨ (i = .freturn ∧ t = .float ∧ ∃ z, w = .float z) ∨ (i = .areturn ∧ t.isReference = true ∧ w.isRef = true))
    (hd : decode c.code pc = .ok (i, 1)) (hc : cells ≤ R.cells) (hs : slots ≤ R.slots) (hP : P (some w) h) : Go p e below (EndW Z EL n0 R s below P h0 ws) T (mkF m pc Ls (w :: rest)) :=
  W.ends hEL (fun h => by rw [hret] at h; cases h) hc hs hP (fun fs hr => retOut W.1.1 W.1.2.1 hret hn hi hd hr)
theorem WK.retI (W : WK EL p l e R s m args below meth c Z own n0 h0 ws T h vm locs cells slots) (hEL : EW Z a0 EL) {P : Option Value → Heap → Prop} {z : Int32} (hret : meth.sig.returnType = some .int) (hd : decode c.code pc = .ok (.ireturn, 1)) (hc : cells ≤ R.cells) (hs : slots ≤ R.slots) (hP : P (some (.int z)) h) : Go p e below (EndW Z EL n0 R s below P h0 ws) T (mkF m pc Ls (.int z :: rest)) :=
  W.ret hEL hret rfl (Or.inl ⟨rfl, Or.inl rfl, _, rfl⟩) hd hc hs hP
theorem WK.retZ (W : WK EL p l e R s m args below meth c Z own n0 h0 ws T h vm locs cells slots) (hEL : EW Z a0 EL) {P : Option Value → Heap → Prop} {z : Int32} (hret : meth.sig.returnType = some .boolean) (hd : decode c.code pc = .ok (.ireturn, 1)) (hz : z = 0 ∨ z = 1) (hc : cells ≤ R.cells) (hs : slots ≤ R.slots) (hP : P (some (.int z)) h) : Go p e below (EndW Z EL n0 R s below P h0 ws) T (mkF m pc Ls (.int z :: rest)) :=
  W.ret hEL hret (by rcases hz with rfl | rfl <;> rfl) (Or.inl ⟨rfl, Or.inr (Or.inl rfl), _, rfl⟩) hd hc hs hP
theorem WK.retC (W : WK EL p l e R s m args below meth c Z own n0 h0 ws T h vm locs cells slots) (hEL : EW Z a0 EL) {P : Option Value → Heap → Prop} {z : Int32} (hret : meth.sig.returnType = some .char) (hd : decode c.code pc = .ok (.ireturn, 1)) (hz : narrow .char (.int z) = .int z) (hc : cells ≤ R.cells) (hs : slots ≤ R.slots) (hP : P (some (.int z)) h) : Go p e below (EndW Z EL n0 R s below P h0 ws) T (mkF m pc Ls (.int z :: rest)) :=
  W.ret hEL hret hz (Or.inl ⟨rfl, Or.inr (Or.inr (Or.inr (Or.inl rfl))), _, rfl⟩) hd hc hs hP
theorem WK.retJ (W : WK EL p l e R s m args below meth c Z own n0 h0 ws T h vm locs cells slots) (hEL : EW Z a0 EL) {P : Option Value → Heap → Prop} {z : Int64} (hret : meth.sig.returnType = some .long) (hd : decode c.code pc = .ok (.lreturn, 1)) (hc : cells ≤ R.cells) (hs : slots ≤ R.slots) (hP : P (some (.long z)) h) : Go p e below (EndW Z EL n0 R s below P h0 ws) T (mkF m pc Ls (.long z :: rest)) :=
  W.ret hEL hret rfl (Or.inr (Or.inl ⟨rfl, rfl, _, rfl⟩)) hd hc hs hP
theorem WK.retA (W : WK EL p l e R s m args below meth c Z own n0 h0 ws T h vm locs cells slots) (hEL : EW Z a0 EL) {P : Option Value → Heap → Prop} {w : Value} {t : FieldType} (hret : meth.sig.returnType = some t) (ht : t.isReference = true) (hw : w.isRef = true) (hd : decode c.code pc = .ok (.areturn, 1)) (hc : cells ≤ R.cells) (hs : slots ≤ R.slots) (hP : P (some w) h) : Go p e below (EndW Z EL n0 R s below P h0 ws) T (mkF m pc Ls (w :: rest)) :=
  W.ret hEL hret (by cases t <;> cases w <;> first | rfl | (simp [FieldType.isReference, Value.isRef] at ht hw)) (Or.inr (Or.inr (Or.inr (Or.inr ⟨rfl, ht, hw⟩)))) hd hc hs hP
theorem WK.retV (W : WK EL p l e R s m args below meth c Z own n0 h0 ws T h vm locs cells slots) (hEL : EW Z a0 EL) {P : Option Value → Heap → Prop} (hret : meth.sig.returnType = none) (hd : decode c.code pc = .ok (.return_, 1)) (hc : cells ≤ R.cells) (hs : slots ≤ R.slots) (hP : P none h) : Go p e below (EndW Z EL n0 R s below P h0 ws) T (mkF m pc Ls []) :=
  W.ends hEL (fun _ => rfl) hc hs hP (fun fs hr => W.1.1.returnOut W.1.2.1 hret hd hr)
/-- a wide payer -/
abbrev BKS (EL : List (String × Nat)) (l : Launch) (R : Room) (p : Program) (e : Env) (below : List Frame) (s : State) (args : Array Value) (Z : State) (vm : Vm) (y : MethodName) (len wd : Nat) (as' : Array Value) (h : Heap) (rc rs : Nat) (Q : Option Value → Heap → List Loc → Prop) : Prop :=
  BackS l R p e below (s.setVm vm) args y len wd (fun A a => a = as' ∧ A.U.heap = h ∧ A.cells + rc ≤ R.cells ∧ A.slots + rs ≤ R.slots) (fun A _ v B => ∃ L, Q v B.U.heap L ∧ B.locs = A.locs ++ L ∧ B.cells = A.cells + rc ∧ B.slots = A.slots + rs ∧ CHr Z EL vm h B.U.vm B.U.heap)
theorem WM.bk {y : MethodName} {bytes : ByteArray} {maxL : Nat} {ret : Option FieldType} {rm : Room} {as' : Array Value} {P : Option Value → Heap → Prop} {len wd : Nat} (hM : WM l y bytes maxL ret [] rm Z EL n0 as' h ws' P) (hZ : Z.Warmed39 vm) (wc : (Cond.code y bytes maxL ret).before a0 Z = true) (wz : (Cond.initialized y.cls).before a0 Z = true) (hf : rm.frames + 1 ≤ R.frames) (hl : wd + (maxL + 11) + rm.locals ≤ R.locals) (hEL : EW Z a0 EL) (H : CHv Z EL vm h) :
    BKS EL l R p e below s args Z vm y len wd as' h rm.cells rm.slots (fun v h' L => P v h' ∧ Keep h h' ws' ∧ Fr n0 L) := backOfSH (Q := fun v h' L => P v h' ∧ Keep h h' ws' ∧ Fr n0 L) hM hZ wc wz hf hl hEL H
theorem WK.called (W : WK EL p l e R s m args below meth c Z own n0 h0 ws T h vm locs cells slots) {L : List Loc} {T' : State} {c2 s2 : Nat} (X' : Stand p l e R ((s.setVm vm).setVm T'.vm) m args below meth c T' (locs ++ L) c2 s2) (S' : (s.setVm vm).Since T'.vm T'.heap.size) (gr : h.size ≤ T'.heap.size) (C' : CHr Z EL vm h T'.vm T'.heap) (N : Fr n0 L) (K : Keep h T'.heap ws') (hws : ∀ x ∈ ws', x ∈ ws ∨ h0.size ≤ x) :
    WK EL p l e R s m args below meth c Z own n0 h0 ws T' T'.heap T'.vm (locs ++ L) c2 s2 := by
  obtain ⟨⟨X, hx, eT, hZ, hown, N0, K0, hn0, hlk⟩, S, C⟩ := W
  have hZ' : Z.Warmed39 T'.vm := State.Warmed39.trans (t := s.setVm vm) hZ S'.1
  have ho : T'.vm.findClass own = some m.cls := by rw [S'.1.alike.findClass]; exact hown
  exact ⟨⟨X', hx, rfl, hZ', ho, Fr.app N0 N, K0.trans K hws, hn0, hlk⟩, S.trans S' gr, C.trans C'⟩
theorem WK.callS (W : WK EL p l e R s m args below meth c Z own n0 h0 ws T h vm locs cells slots) {index : Nat} {y : MethodName} {bytes : ByteArray} {maxL : Nat} {ret : Option FieldType} (w1 : (Cond.methodLink own index y).before a0 Z = true) (w2 : (Cond.static y).before a0 Z = true) (w3 : (Cond.initialized y.cls).before a0 Z = true) (w4 : (Cond.code y bytes maxL ret).before a0 Z = true)
    (hy : y.cls ≠ "java/lang/invoke/MethodHandle" ∧ y.cls ≠ "java/lang/invoke/VarHandle") {wd rc rs : Nat} {as' : Array Value} {Q : Option Value → Heap → List Loc → Prop} (hK : BKS EL l R p e below s args Z vm y 3 wd as' h rc rs Q) (hd : decode c.code pc = .ok (.invokestatic index, 3)) (hp : pc + 3 = pc') (hml : c.maxLocals = Ls.size) {argsL : List Value} (has : argsL.toArray = as') (hlen : ∀ sig, parseMethodDescriptor y.desc = some sig → argsL.length = sig.parameters.length) (hst : st = argsL.reverse ++ rest) (hW : (rest.map fun v => v.category).sum ≤ wd) (hc : cells + rc ≤ R.cells) (hs : slots + rs ≤ R.slots)
    (hq : ∀ v h' L, Q v h' L → Fr n0 L ∧ Keep h h' ws') (hws : ∀ x ∈ ws', x ∈ ws ∨ h0.size ≤ x)
    (k' : ∀ (v : Option Value) (T' : State) (h' : Heap) (vm' : Vm) (L L' : List Loc), WK EL p l e R s m args below meth c Z own n0 h0 ws T' h' vm' L' (cells + rc) (slots + rs) → Q v h' L → Keep h h' ws' → CHr Z EL vm h vm' h' → Go p e below G T' (mkF m pc' Ls (v.toList ++ rest))) : Go p e below G T (mkF m pc Ls st) := by
  subst hst has hp
  obtain ⟨v, vm1, ⟨T', L1, k1, n1⟩, -, X', S', gr, ⟨L, hQ, e1, e2, e3, C'⟩, stp⟩ := callSS W.1.1 W.1.2.1 W.1.2.2.2.2.1 (mvT W.1.2.2.2.1 w1) (mvT W.1.2.2.2.1 w2) (mvT W.1.2.2.2.1 w3) (mvT W.1.2.2.2.1 w4) hy hK (g := mkF m pc Ls (argsL.reverse ++ rest)) rfl hml.symm (argsL := argsL) (rest := rest) hlen rfl (by show 2 * 0 + _ ≤ _; omega) hd (fun _ _ => ⟨rfl, W.1.2.2.1, hc, hs⟩)
  dsimp only [Pt.U, Pt.locs, Pt.cells, Pt.slots] at X' hQ e1 e2 e3 stp S' gr C'
  subst e1 e2 e3
  obtain ⟨N, K⟩ := hq _ _ _ hQ
  exact Go.tr stp (k' v T' _ _ L _ (W.called X' S' K.1 C' N K hws) hQ K C')
theorem WK.callI (W : WK EL p l e R s m args below meth c Z own n0 h0 ws T h vm locs cells slots) {index : Nat} {y : MethodName} {bytes : ByteArray} {maxL : Nat} (hy1 : y.name = "<init>") (w1 : (Cond.methodLink own index y).before a0 Z = true) (w2 : (Cond.instanceMethod y).before a0 Z = true) (w4 : (Cond.code y bytes maxL none).before a0 Z = true)
    (hy : y.cls ≠ "java/lang/invoke/MethodHandle" ∧ y.cls ≠ "java/lang/invoke/VarHandle") {wd rc rs : Nat} {as' : Array Value} {Q : Option Value → Heap → List Loc → Prop} (hK : BKS EL l R p e below s args Z vm y 3 wd as' h rc rs Q) (hd : decode c.code pc = .ok (.invokespecial index, 3)) (hp : pc + 3 = pc') (hml : c.maxLocals = Ls.size) {a : Addr} {argsL : List Value} (has : (Value.ref a :: argsL).toArray = as') (hlen : ∀ sig, parseMethodDescriptor y.desc = some sig → argsL.length = sig.parameters.length) (hst : st = argsL.reverse ++ .ref a :: rest) (hW : (rest.map fun v => v.category).sum ≤ wd) (hc : cells + rc ≤ R.cells) (hs : slots + rs ≤ R.slots)
    (hq : ∀ v h' L, Q v h' L → Fr n0 L ∧ Keep h h' ws') (hws : ∀ x ∈ ws', x ∈ ws ∨ h0.size ≤ x)
    (k' : ∀ (v : Option Value) (T' : State) (h' : Heap) (vm' : Vm) (L L' : List Loc), WK EL p l e R s m args below meth c Z own n0 h0 ws T' h' vm' L' (cells + rc) (slots + rs) → Q v h' L → Keep h h' ws' → CHr Z EL vm h vm' h' → Go p e below G T' (mkF m pc' Ls (v.toList ++ rest))) : Go p e below G T (mkF m pc Ls st) := by
  subst hst has hp
  obtain ⟨v, vm1, ⟨T', L1, k1, n1⟩, -, X', S', gr, ⟨L, hQ, e1, e2, e3, C'⟩, stp⟩ := W.1.1.specialBackS W.1.2.1 hy1 W.1.2.2.2.2.1 (mvT W.1.2.2.2.1 w1) (mvT W.1.2.2.2.1 w2) (mvT W.1.2.2.2.1 w4) hy hK (g := mkF m pc Ls (argsL.reverse ++ .ref a :: rest)) rfl hml.symm (Steps.refl _) (a := a) (argsL := argsL) (rest := rest) hlen rfl (by show 2 * 0 + _ ≤ _; omega) hd (fun _ _ => ⟨rfl, W.1.2.2.1, hc, hs⟩)
  dsimp only [Pt.U, Pt.locs, Pt.cells, Pt.slots] at X' hQ e1 e2 e3 stp S' gr C'
  subst e1 e2 e3
  obtain ⟨N, K⟩ := hq _ _ _ hQ
  exact Go.tr stp (k' v T' _ _ L _ (W.called X' S' K.1 C' N K hws) hQ K C')
theorem WK.callV (W : WK EL p l e R s m args below meth c Z own n0 h0 ws T h vm locs cells slots) {index : Nat} {C : String} {y z : MethodName} (w1 : (Cond.methodLink own index y).before a0 Z = true) (w2 : (Cond.declares y).before a0 Z = true) (w3 : (Cond.selects C y z).before a0 Z = true) {C' : String} (w3' : (Cond.selects C' y y).before a0 Z = true) (w4 : (Cond.instanceMethod z).before a0 Z = true)
    (hy : y.cls ≠ "java/lang/invoke/MethodHandle" ∧ y.cls ≠ "java/lang/invoke/VarHandle") {wd rc rs : Nat} {as' : Array Value} {Q : Option Value → Heap → List Loc → Prop} (hK : BKS EL l R p e below s args Z vm z 3 wd as' h rc rs Q) {a : Addr} (E : Exa Z h a C) (hd : decode c.code pc = .ok (.invokevirtual index, 3)) (hp : pc + 3 = pc') (hml : c.maxLocals = Ls.size) {argsL : List Value} (has : (Value.ref a :: argsL).toArray = as') (hlen : ∀ sig, parseMethodDescriptor y.desc = some sig → argsL.length = sig.parameters.length) (hst : st = argsL.reverse ++ .ref a :: rest) (hW : (rest.map fun v => v.category).sum ≤ wd) (hc : cells + rc ≤ R.cells) (hs : slots + rs ≤ R.slots)
    (hq : ∀ v h' L, Q v h' L → Fr n0 L ∧ Keep h h' ws') (hws : ∀ x ∈ ws', x ∈ ws ∨ h0.size ≤ x)
    (k' : ∀ (v : Option Value) (T' : State) (h' : Heap) (vm' : Vm) (L L' : List Loc), WK EL p l e R s m args below meth c Z own n0 h0 ws T' h' vm' L' (cells + rc) (slots + rs) → Q v h' L → Keep h h' ws' → CHr Z EL vm h vm' h' → Go p e below G T' (mkF m pc' Ls (v.toList ++ rest))) : Go p e below G T (mkF m pc Ls st) := by
  subst hst has hp
  obtain ⟨cq, kq, qa, qb, qc⟩ := isOf W.1.2.2.2.1 W.1.2.2.1 E
  obtain ⟨v, vm1, ⟨T', L1, k1, n1⟩, -, X', S', gr, ⟨L, hQ, e1, e2, e3, C'⟩, stp⟩ := W.1.1.virtualBackS W.1.2.1 (y := y) (z := z) W.1.2.2.2.2.1 (mvT W.1.2.2.2.1 w1) (mvT W.1.2.2.2.1 w2) (notFace_of_selects (args := #[]) (mvT W.1.2.2.2.1 w3')) (mvT W.1.2.2.2.1 w3) (mvT W.1.2.2.2.1 w4) hy hK qa qc (g := mkF m pc Ls (argsL.reverse ++ .ref a :: rest)) rfl hml.symm (Steps.refl _) (argsL := argsL) (rest := rest) hlen rfl (by show 2 * 0 + _ ≤ _; omega) hd (fun _ _ => ⟨rfl, W.1.2.2.1, hc, hs⟩)
  dsimp only [Pt.U, Pt.locs, Pt.cells, Pt.slots] at X' hQ e1 e2 e3 stp S' gr C'
  subst e1 e2 e3
  obtain ⟨N, K⟩ := hq _ _ _ hQ
  exact Go.tr stp (k' v T' _ _ L _ (W.called X' S' K.1 C' N K hws) hQ K C')
/-- a String whose value is null is no booked one -/
theorem safe_null {x : Addr} (hal : Z.vm.Alike vm) (E : Exa Z h x "java/lang/String") (F : Fld Z h x "java/lang/String" "value" "[B" .null) : Safe Z EL vm h x := fun B => by
  obtain ⟨q0, -, u, a, -, q, -, S, rfl | rfl⟩ := B
  · obtain ⟨cell, cf, k, i, f, f1, f2, -, -, -, -, f7⟩ := F
    cases (show h[q.sa]? = some q.sC from S.ha).symm.trans f1
    obtain ⟨cS, ⟨⟨-, -, -, ⟨c1, k1, i1, g1, -⟩, -, -, -, v1, -⟩, -⟩, -⟩ := S
    obtain ⟨k3, e3⟩ := ff_back (U := Wst Z vm h) hal g1
    cases f2.symm.trans e3
    rw [f7] at v1; cases v1
  · obtain ⟨cell, k, e1, e2, e3, -, -⟩ := E
    cases (show h[q.sd]? = some q.SA from S.hd).symm.trans e1
    obtain ⟨cS, -, -, f, -⟩ := S
    have f' : vm.findClass "[B" = some q.SA.cls := f
    rw [hal.findClass] at f'
    obtain ⟨k1, q1, q2⟩ := Vm.findClass_spec f'
    obtain ⟨k2, q3, q4⟩ := Vm.findClass_spec e2
    cases q1.symm.trans q3
    exact absurd (q2.symm.trans q4) (by decide)
/-- ldc of a String constant of EL -/
theorem WK.ldcS (W : WK EL p l e R s m args below meth c Z own n0 h0 ws T h vm locs cells slots) (hEL : EW Z a0 EL) {text : String} {index : Nat} (w : (Cond.stringLink own index text).before a0 Z = true) (wS : ∀ a ∈ Bundle.stringAtoms, a.before a0 Z = true) (hmem : (own, index) ∈ EL) {vs : List Value} {z : Int32} (ht : (∀ c ∈ text.toList, c.toNat < 256) ∧ text.toList.map (fun c => Value.int (Jvm.Lit.byteI c.toNat.toUInt16)) = vs) (hz : ¬ z < 0) (hl : z.toNatClampNeg = vs.length)
    (hd : decode c.code pc = .ok (.ldc index, 2)) (hp : pc + 2 = pc') {n : Nat} (hn : 4 * text.toList.length ≤ n) (hbig : n ≤ 536870912) (hc : cells + 2 ≤ R.cells) (hs : slots + (n + 4) ≤ R.slots)
    (k' : ∀ (T' : State) (h' : Heap) (vm' : Vm) (a b : Addr) (kb : ClassId), WK EL p l e R s m args below meth c Z own n0 h0 ws T' h' vm' locs (cells + 2) (slots + (n + 4)) → Ext h h' → CHr Z EL vm h vm' h' → Exa Z h' a "java/lang/String" → Fld Z h' a "java/lang/String" "coder" "B" (.int 0) → Fld Z h' a "java/lang/String" "value" "[B" (.ref b) → Arv Z h' b kb .byte z vs (.int 0) → (∀ x, Safe Z EL vm' h' x → x ≠ a ∧ x ≠ b) → Go p e below G T' (mkF m pc' Ls (.ref a :: st))) : Go p e below G T (mkF m pc Ls st) := by
  obtain ⟨⟨X, hx, eT, hZ, hown, N0, K0, hn0, hlk⟩, S, C⟩ := W
  obtain ⟨a, T', h', k1, b, kb, X', e', E, S', hk, hZ', ho, F1, F2, F3, F4, -, -, C', -, hne, stp⟩ := ldcCH X hx hZ hown w wS eT S (Nat.le_refl _) hEL hmem C.1 ht hz hl (g := mkF m pc Ls st) rfl hd hn hbig hc hs
  subst hp
  exact Go.by1 (fun t q => stp t q) (k' T' h' T'.vm a b kb ⟨⟨X', hx, e', hZ', ho, N0, K0.ext E, hn0, hlk⟩, since_grow S' hk, C.trans C'⟩ E C' F1 F2 F3 F4 hne)
end Wide1
section Str1
variable {p : Program} {l : Launch} {e : Env} {R : Room} {s : State} {args : Array Value} {below : List Frame} {Z : State} {h h' : Heap} {a : Addr} {cs : List Int32} {a0 : Array Value} {len wd : Nat}
/-- the object at a is a String whose chars are cs -/
def StrA (Z : State) (h : Heap) (a : Addr) (cs : List Int32) : Prop := Exa Z h a "java/lang/String" ∧ (∀ c ∈ cs, ¬ c < 0 ∧ ¬ (65535 : Int32) < c) ∧ cs.length ≤ 4000 ∧ ∃ (t : Addr) (kb : ClassId) (cd N2 : Int32) (vs : List Value), Fld Z h a "java/lang/String" "value" "[B" (.ref t) ∧ Fld Z h a "java/lang/String" "coder" "B" (.int cd) ∧ Arv Z h t kb .byte N2 vs (.int 0) ∧ StrChars.Road.CodA cs cd N2 vs
theorem StrA.ext (F : StrA Z h a cs) (E : Ext h h') : StrA Z h' a cs := by
  obtain ⟨f, b, n, t, kb, cd, N2, vs, v, c, k, q⟩ := F
  exact ⟨f.ext E, b, n, t, kb, cd, N2, vs, v.ext E, c.ext E, k.ext E, q⟩
theorem lat_up {c : Int32} (q : ¬ c < 0 ∧ ¬ (255 : Int32) < c) : ¬ c < 0 ∧ ¬ (65535 : Int32) < c := ⟨q.1, fun z => q.2 (Int32.lt_trans (by decide) z)⟩
theorem StrA.make {t : Addr} {kb : ClassId} {N : Int32} (A : Exa Z h a "java/lang/String") (B : Fld Z h a "java/lang/String" "coder" "B" (.int 0)) (V : Fld Z h a "java/lang/String" "value" "[B" (.ref t)) (K : Arv Z h t kb .byte N ((cs.map (fun c => c.toInt8.toInt32)).map Value.int) (.int 0)) (hN : N = Int32.ofNat cs.length) (hl : cs.length ≤ 4000) (hp : ∀ c ∈ cs, ¬ c < 0 ∧ ¬ (255 : Int32) < c) : StrA Z h a cs :=
  ⟨A, fun c hc => lat_up (hp c hc), hl, t, kb, 0, N, _, V, B, K, by rw [hN]; exact StrChars.Road.codOf rfl (fun c hc => (hp c hc).2)⟩
theorem StrA.keepExa {x : Addr} {C : String} {k : Nat} (F : StrA Z h a cs) (K : Keep h h' [x]) (X : Exa Z h x C) (hC : C ≠ "java/lang/String") (wi : (Jvm.Cond.instantiable C k).before a0 Z = true) : StrA Z h' a cs := by
  obtain ⟨f, b, n, t, kb, cd, N2, vs, v, c, q, r⟩ := F
  have n1 : a ≠ x := ne_exa f X (fun z => hC z.symm)
  have n2 : t ≠ x := fun z => Exa.neArv X q wi z.symm
  exact ⟨f.keep K, b, n, t, kb, cd, N2, vs, v.keep K (ninS n1 nin0), c.keep K (ninS n1 nin0), q.keep K (ninS n2 nin0), r⟩
theorem Sta.keepExa {x : Addr} {C O n d : String} {v : Value} (F : Sta Z h O n d v) (K : Keep h h' [x]) (X : Exa Z h x C) : Sta Z h' O n d v := by
  obtain ⟨cf, i, k, f, st, cell, h1, h2, h3, h4, h5, h6, h7⟩ := F
  obtain ⟨cx, kx, x1, -, -, x4, -⟩ := X
  have ne : st ≠ x := fun z => by
    subst z
    cases h5.symm.trans x1
    rw [h6] at x4; cases x4
  exact ⟨cf, i, k, f, st, cell, h1, h2, h3, h4, K.2.1 _ _ h5 (ninS ne nin0), h6, h7⟩
end Str1
section Str1b
theorem Sta.keepArv {Z : State} {h h' : Heap} {x : Addr} {O n d : String} {v : Value} {k : ClassId} {ty : FieldType} {z : Int32} {vs : List Value} {dv : Value} (F : Sta Z h O n d v) (K : Keep h h' [x]) (X : Arv Z h x k ty z vs dv) : Sta Z h' O n d v := by
  obtain ⟨cf, i, kk, f, st, cell, h1, h2, h3, h4, h5, h6, h7⟩ := F
  have ne : st ≠ x := fun q => by
    subst q
    have := X.nostat cell h5
    rw [h6] at this; cases this
  exact ⟨cf, i, kk, f, st, cell, h1, h2, h3, h4, K.2.1 _ _ h5 (ninS ne nin0), h6, h7⟩
end Str1b
section Str2
variable {p : Program} {l : Launch} {e : Env} {R : Room} {s : State} {args : Array Value} {below : List Frame} {Z : State} {h h' : Heap} {a : Addr} {cs : List Int32} {a0 : Array Value} {len wd : Nat} {z : Int32}
theorem hwLen : ∀ d ∈ StrChars.Road.wordsLen, d ∈ tables_1 := by decide +kernel
theorem StrA.lenB (F : StrA Z h a cs) (hZ : Z.Warmed39 s.vm) (hw : ∀ d ∈ tables_1, d.before a0 Z = true) (wi : (Jvm.Cond.instantiable "java/lang/String" 4).before a0 Z = true) (S : Sta Z h "java/lang/String" "COMPACT_STRINGS" "Z" (.int z)) (hz : ¬ z = 0) (hfr : 2 ≤ R.frames) (hlo : wd + 25 ≤ R.locals) :
    BK l R p e below s args (⟨"java/lang/String", "length", "()I"⟩ : MethodName) len wd #[.ref a] h 0 0 (fun v h' L => v = some (.int (Int32.ofNat cs.length)) ∧ L = [] ∧ h' = h) := by
  obtain ⟨f, b, n, t, kb, cd, N2, vs, v, c, k, q⟩ := F
  exact StrChars.Road.lenW hZ (fun d hd => hw d (hwLen d hd)) (kI := 4) wi f v c k q b S hz n hfr hlo
end Str2
section Utf1
open StrChars StrChars.Road
theorem clN {n : Nat} (h : n < 2 ^ 31) : (Int32.ofNat n).toNatClampNeg = n := by
  rw [Int32.toNatClampNeg, ofNat_toInt h]; rfl
theorem ofNat_nn {n : Nat} (h : n < 2 ^ 31) : ¬ Int32.ofNat n < 0 := by
  rw [Int32.lt_iff_toInt_lt, ofNat_toInt h]
  show ¬ (n : Int) < 0
  omega
theorem shl1 (n : Nat) : Int32.ofNat n <<< ((1 : Int32) &&& 31) = Int32.ofNat (2 * n) := by
  apply Int32.toBitVec_inj.mp
  apply BitVec.eq_of_toNat_eq
  show (BitVec.ofNat 32 n <<< (1#32)).toNat = (BitVec.ofNat 32 (2 * n)).toNat
  simp only [BitVec.shiftLeft_eq', BitVec.toNat_shiftLeft, BitVec.toNat_ofNat, Nat.shiftLeft_eq, show 2 ^ (1 % 2 ^ 32) = 2 from rfl]
  omega
theorem getD_rep (n i : Nat) (v : Value) : (List.replicate n v).getD i v = v := by
  rw [List.getD_eq_getElem?_getD, List.getElem?_replicate]; split <;> rfl
theorem b8 (x : Int32) : x.toInt8.toInt32.toInt8.toInt32 = x.toInt8.toInt32 := by rw [Int8.toInt8_toInt32]
/-- the bytes of cs laid one char after the other -/
def fw (cs : List Int32) : Nat → Nat → List Value → List Value
  | _, 0, vs => vs
  | i, k + 1, vs => fw cs (i + 1) k ((vs.set (2 * i) (.int (lo8 (cs.getD i 0)))).set (2 * i + 1) (.int (hi8 (cs.getD i 0))))
theorem wide_len : ∀ cs : List Int32, (wideBytes cs).length = 2 * cs.length
  | [] => rfl
  | c :: cs => by simp only [wideBytes, List.length_cons, wide_len cs]; omega
theorem wide_app : ∀ (cs ds : List Int32), wideBytes (cs ++ ds) = wideBytes cs ++ wideBytes ds
  | [], ds => rfl
  | c :: cs, ds => by simp only [List.cons_append, wideBytes, wide_app cs ds]
theorem fw_go (z : Value) : ∀ (r pre : List Int32), fw (pre ++ r) pre.length r.length (wideBytes pre ++ List.replicate (2 * r.length) z) = wideBytes (pre ++ r)
  | [], pre => by simp [fw]
  | c :: r, pre => by
    have e1 : (pre ++ c :: r).getD pre.length 0 = c := by simp [List.getD_eq_getElem?_getD]
    have e2 : List.replicate (2 * (c :: r).length) z = z :: z :: List.replicate (2 * r.length) z := by
      rw [List.length_cons, show 2 * (r.length + 1) = 2 * r.length + 1 + 1 from by omega]; rfl
    have e3 : ∀ (A B : List Value) (x y u v : Value), ((A ++ u :: v :: B).set A.length x).set (A.length + 1) y = A ++ x :: y :: B := by
      intro A B x y u v
      rw [List.set_append_right _ _ (Nat.le_refl _), List.set_append_right _ _ (by omega), Nat.sub_self, Nat.add_sub_cancel_left]; rfl
    have ih := fw_go z r (pre ++ [c])
    rw [List.length_append, List.append_assoc] at ih
    show fw (pre ++ c :: r) pre.length (r.length + 1) _ = _
    rw [fw, e1, e2, ← wide_len pre, e3]
    have e4 : wideBytes (pre ++ [c]) ++ List.replicate (2 * r.length) z = wideBytes pre ++ .int (lo8 c) :: .int (hi8 c) :: List.replicate (2 * r.length) z := by
      rw [wide_app, List.append_assoc]; rfl
    rw [e4] at ih
    exact ih
theorem fw_all (z : Value) (cs : List Int32) : fw cs 0 cs.length (List.replicate (2 * cs.length) z) = wideBytes cs := by
  have := fw_go z cs []
  simpa [wideBytes] using this
theorem set2_len (vs : List Value) (a b : Nat) (x y : Value) : ((vs.set a x).set b y).length = vs.length := by simp
theorem codL {n : Nat} (h0 : 0 < n) (h : n ≤ 4000) : (XT.ushr (Int32.ofNat n - Int32.ofNat (2 * n)) (31 : Int32)).toInt8.toInt32 = 1 := by
  have e : XT.ushr (Int32.ofNat n - Int32.ofNat (2 * n)) (31 : Int32) = 1 := by
    apply Int32.toBitVec_inj.mp
    apply BitVec.eq_of_toNat_eq
    show ((BitVec.ofNat 32 n - BitVec.ofNat 32 (2 * n)) >>> (31#32)).toNat = (1#32).toNat
    simp only [BitVec.ushiftRight_eq', BitVec.toNat_ushiftRight, BitVec.toNat_sub, BitVec.toNat_ofNat, Nat.shiftRight_eq_div_pow, show 2 ^ (31 % 2 ^ 32) = 2147483648 from rfl]
    omega
  rw [e]; rfl
theorem big_mem {cs : List Int32} (h : ∃ j, j < cs.length ∧ (255 : Int32) < cs.getD j 0) : ∃ c ∈ cs, (255 : Int32) < c := by
  obtain ⟨j, j1, j2⟩ := h
  rw [List.getD_eq_getElem?_getD, List.getElem?_eq_getElem j1] at j2
  exact ⟨cs[j], List.getElem_mem j1, j2⟩
end Utf1
end Own
open Own
--CUT base
theorem constHeld_of {s : State} {own : String} {index : Nat} (h : constHeld s own index) : Jvm.Lit.constHeld s own index := h
theorem hwAtoms : ∀ d ∈ Bundle.stringAtoms, d ∈ tables_1 := by decide +kernel
theorem hwords : ∀ d ∈ StrChars.Road.words, d ∈ tables_1 := by decide +kernel
--CUT utf
theorem dNBL_0 : decode jdk_52_method_3_code 0 = .ok (.iload_n 0, 1) := by decide +kernel
theorem dNBL_1 : decode jdk_52_method_3_code 1 = .ok (.ifCond .ge 11, 3) := by decide +kernel
theorem dNBL_12 : decode jdk_52_method_3_code 12 = .ok (.iload_n 0, 1) := by decide +kernel
theorem dNBL_13 : decode jdk_52_method_3_code 13 = .ok (.ldc 20, 2) := by decide +kernel
theorem dNBL_15 : decode jdk_52_method_3_code 15 = .ok (.if_icmp .lt 40, 3) := by decide +kernel
theorem dNBL_55 : decode jdk_52_method_3_code 55 = .ok (.iload_n 0, 1) := by decide +kernel
theorem dNBL_56 : decode jdk_52_method_3_code 56 = .ok (.iconst 1, 1) := by decide +kernel
theorem dNBL_57 : decode jdk_52_method_3_code 57 = .ok (.ishl, 1) := by decide +kernel
theorem dNBL_58 : decode jdk_52_method_3_code 58 = .ok (.ireturn, 1) := by decide +kernel
theorem pn_NBL : plainFor (⟨"java/lang/StringUTF16", "newBytesLength", "(I)I"⟩ : MethodName) = true := by first | exact plainFor_of_name (by first | (simp [plainName, overriddenIn]; done) | decide +kernel) | decide +kernel
set_option maxRecDepth 65536 in
set_option maxHeartbeats 40000000 in
theorem rmNBL (l : Launch) (Z : State) (a0 : Array Value) (hw : ∀ d ∈ tables_1, d.before a0 Z = true) (n : Nat) (h0 : Heap) (n0 : Nat) (Z0 : n0 ≤ h0.size) (hn : n ≤ 4000) :
    NM l (⟨"java/lang/StringUTF16", "newBytesLength", "(I)I"⟩ : MethodName) jdk_52_method_3_code 1 (some .int) [] ({ frames := 0, cells := 0, slots := 0, locals := 0 } : Room) Z n0 #[(.int (Int32.ofNat n))] h0 [] (Pu (some (.int (Int32.ofNat (2 * n)))) h0) := by
  refine NM.walk (Ls := #[.val (.int (Int32.ofNat n))]) pn_NBL Z0 (fun m => by first | (simp [entryFrame, mkF, argsToLocals, Value.category]; done) | rfl) ?_
  intro p e s m below meth c s₁ hby hml hret hnm W0
  refine W0.iloadN (hb hby dNBL_0) rfl (pc' := 1) rfl ?_
  refine W0.ifYes (hb hby dNBL_1) (XT.i0_ge_t (ofNat_nn (by omega))) (by decide) (pc' := 12) (by decide) ?_
  refine W0.iloadN (hb hby dNBL_12) rfl (pc' := 13) rfl ?_
  refine W0.ldcI (hb hby dNBL_13) (hw _ (List.mem_of_getElem? (i := 103) rfl)) (pc' := 15) rfl ?_
  refine W0.icmpYes (hb hby dNBL_15) (XT.ii_lt_t ((ofNat_lt (k := 1073741823) (by omega) (by decide)).mpr (by omega))) (by decide) (pc' := 55) (by decide) ?_
  refine W0.iloadN (hb hby dNBL_55) rfl (pc' := 56) rfl ?_
  refine W0.iconst (1 : Int32) (hb hby dNBL_56) rfl (pc' := 57) rfl ?_
  refine W0.ishl (hb hby dNBL_57) (pc' := 58) rfl ?_
  exact W0.retI hret (hb hby dNBL_58) (by decide) (by decide) ⟨congrArg (fun z => some (Value.int z)) (shl1 n), rfl⟩
theorem dNBF_0 : decode jdk_52_method_2_code 0 = .ok (.iload_n 0, 1) := by decide +kernel
theorem dNBF_1 : decode jdk_52_method_2_code 1 = .ok (.invokestatic 11, 3) := by decide +kernel
theorem pd_89c469b3 : parseMethodDescriptor "(I)I" = some ⟨[.int], some .int⟩ := by decide +kernel
theorem dNBF_4 : decode jdk_52_method_2_code 4 = .ok (.newarray .byte, 2) := by decide +kernel
theorem dNBF_6 : decode jdk_52_method_2_code 6 = .ok (.areturn, 1) := by decide +kernel
theorem pn_NBF : plainFor (⟨"java/lang/StringUTF16", "newBytesFor", "(I)[B"⟩ : MethodName) = true := by first | exact plainFor_of_name (by first | (simp [plainName, overriddenIn]; done) | decide +kernel) | decide +kernel
set_option maxRecDepth 65536 in
set_option maxHeartbeats 40000000 in
theorem rmNBF (l : Launch) (Z : State) (a0 : Array Value) (hw : ∀ d ∈ tables_1, d.before a0 Z = true) (n : Nat) (h0 : Heap) (n0 : Nat) (Z0 : n0 ≤ h0.size) (hn : n ≤ 4000) (hn8 : n ≤ 8) :
    NM l (⟨"java/lang/StringUTF16", "newBytesFor", "(I)[B"⟩ : MethodName) jdk_52_method_2_code 1 (some (.array .byte)) [] ({ frames := 1, cells := 1, slots := 16, locals := 12 } : Room) Z n0 #[(.int (Int32.ofNat n))] h0 [] (fun v h => ∃ d kd, v = some (.ref d) ∧ h0.size ≤ d ∧ Arv Z h d kd .byte (Int32.ofNat (2 * n)) (List.replicate (2 * n) (.int (0 : Int32))) (.int (0 : Int32))) := by
  refine NM.walk (Ls := #[.val (.int (Int32.ofNat n))]) pn_NBF Z0 (fun m => by first | (simp [entryFrame, mkF, argsToLocals, Value.category]; done) | rfl) ?_
  intro p e s m below meth c s₁ hby hml hret hnm W0
  refine W0.iloadN (hb hby dNBF_0) rfl (pc' := 1) rfl ?_
  refine W0.callSP (hw _ (List.mem_of_getElem? (i := 100) rfl)) (hw _ (List.mem_of_getElem? (i := 101) rfl)) (hw _ (List.mem_of_getElem? (i := 25) rfl)) (hw _ (List.mem_of_getElem? (i := 102) rfl)) (by decide) (NM.bk (wd := 0) (rmNBL l Z a0 hw n h0 n0 W0.n0h hn) W0.2.2.2.1 (hw _ (List.mem_of_getElem? (i := 102) rfl)) (hw _ (List.mem_of_getElem? (i := 25) rfl)) (by decide) (by decide)) (hb hby dNBF_1) (pc' := 4) rfl hml (argsL := [(.int (Int32.ofNat n))]) rfl (lenOf pd_89c469b3 rfl) rfl (Nat.le_of_ble_eq_true rfl) (by decide) (by decide) (fun _ _ _ q => pu_of q) ?_
  intro T1 L1 W1
  show Go p e below _ T1 (mkF m 4 #[.val (.int (Int32.ofNat n))] [(.int (Int32.ofNat (2 * n)))])
  refine W1.newP (hw _ (List.mem_of_getElem? (i := 27) rfl)) (hb hby dNBF_4) (pc' := 6) rfl (ofNat_nn (by omega)) (cap := 16) (by rw [clN (by omega)]; omega) (by decide) (by decide) (by decide) ?_
  intro T3 h3 a3 k3 g3 ge3 gn3 W3 E3 V3'
  have V3 : Arv Z h3 a3 k3 .byte (Int32.ofNat (2 * n)) (List.replicate 16 (.int (0 : Int32))) (.int (0 : Int32)) := V3'
  have z3 := E3.1
  have y3 := Nat.le_of_eq g3.symm
  exact W3.retA hret rfl rfl (hb hby dNBF_6) (by decide) (by decide) ⟨a3, k3, rfl, ge3, V3.pad (fun i => by rw [getD_rep]; exact (getD_rep _ _ _).symm)⟩
theorem dPC_0 : decode jdk_52_method_4_code 0 = .ok (.getstatic 44, 3) := by decide +kernel
theorem dPC_3 : decode jdk_52_method_4_code 3 = .ok (.ifCond .ne 25, 3) := by decide +kernel
theorem dPC_28 : decode jdk_52_method_4_code 28 = .ok (.iload_n 1, 1) := by decide +kernel
theorem dPC_29 : decode jdk_52_method_4_code 29 = .ok (.iconst 1, 1) := by decide +kernel
theorem dPC_30 : decode jdk_52_method_4_code 30 = .ok (.ishl, 1) := by decide +kernel
theorem dPC_31 : decode jdk_52_method_4_code 31 = .ok (.istore_n 1, 1) := by decide +kernel
theorem dPC_32 : decode jdk_52_method_4_code 32 = .ok (.aload_n 0, 1) := by decide +kernel
theorem dPC_33 : decode jdk_52_method_4_code 33 = .ok (.iload_n 1, 1) := by decide +kernel
theorem dPC_34 : decode jdk_52_method_4_code 34 = .ok (.iinc 1 1, 3) := by decide +kernel
theorem dPC_37 : decode jdk_52_method_4_code 37 = .ok (.iload_n 2, 1) := by decide +kernel
theorem dPC_38 : decode jdk_52_method_4_code 38 = .ok (.getstatic 59, 3) := by decide +kernel
theorem dPC_41 : decode jdk_52_method_4_code 41 = .ok (.ishr, 1) := by decide +kernel
theorem dPC_42 : decode jdk_52_method_4_code 42 = .ok (.i2b, 1) := by decide +kernel
theorem dPC_43 : decode jdk_52_method_4_code 43 = .ok (.bastore, 1) := by decide +kernel
theorem dPC_44 : decode jdk_52_method_4_code 44 = .ok (.aload_n 0, 1) := by decide +kernel
theorem dPC_45 : decode jdk_52_method_4_code 45 = .ok (.iload_n 1, 1) := by decide +kernel
theorem dPC_46 : decode jdk_52_method_4_code 46 = .ok (.iload_n 2, 1) := by decide +kernel
theorem dPC_47 : decode jdk_52_method_4_code 47 = .ok (.getstatic 63, 3) := by decide +kernel
theorem dPC_50 : decode jdk_52_method_4_code 50 = .ok (.ishr, 1) := by decide +kernel
theorem dPC_51 : decode jdk_52_method_4_code 51 = .ok (.i2b, 1) := by decide +kernel
theorem dPC_52 : decode jdk_52_method_4_code 52 = .ok (.bastore, 1) := by decide +kernel
theorem dPC_53 : decode jdk_52_method_4_code 53 = .ok (.return_, 1) := by decide +kernel
theorem pn_PC : plainFor (⟨"java/lang/StringUTF16", "putChar", "([BII)V"⟩ : MethodName) = true := by first | exact plainFor_of_name (by first | (simp [plainName, overriddenIn]; done) | decide +kernel) | decide +kernel
set_option maxRecDepth 65536 in
set_option maxHeartbeats 40000000 in
theorem rmPC (l : Launch) (Z : State) (a0 : Array Value) (hw : ∀ d ∈ tables_1, d.before a0 Z = true) (d : Addr) (kd : ClassId) (i n : Nat) (ch : Int32) (vs : List Value) (h0 : Heap) (n0 : Nat) (Z0 : n0 ≤ h0.size) (gd : n0 ≤ d) (AD : Arv Z h0 d kd .byte (Int32.ofNat (2 * n)) vs (.int (0 : Int32))) (hv : vs.length = 2 * n) (hn : n ≤ 4000) (hi : i < n) (SA1 : Sta Z h0 "java/lang/StringUTF16" "$assertionsDisabled" "Z" (.int (1 : Int32))) (SA2 : Sta Z h0 "java/lang/StringUTF16" "HI_BYTE_SHIFT" "I" (.int (0 : Int32))) (SA3 : Sta Z h0 "java/lang/StringUTF16" "LO_BYTE_SHIFT" "I" (.int (8 : Int32))) :
    NM l (⟨"java/lang/StringUTF16", "putChar", "([BII)V"⟩ : MethodName) jdk_52_method_4_code 3 none [] ({ frames := 0, cells := 0, slots := 0, locals := 0 } : Room) Z n0 #[(.ref d), (.int (Int32.ofNat i)), (.int ch)] h0 [d] (fun v h => v = none ∧ Arv Z h d kd .byte (Int32.ofNat (2 * n)) ((vs.set (2 * i) (.int (StrChars.lo8 ch))).set (2 * i + 1) (.int (StrChars.hi8 ch))) (.int (0 : Int32))) := by
  refine NM.walk (Ls := #[.val (.ref d), .val (.int (Int32.ofNat i)), .val (.int ch)]) pn_PC Z0 (fun m => by first | (simp [entryFrame, mkF, argsToLocals, Value.category]; done) | rfl) ?_
  intro p e s m below meth c s₁ hby hml hret hnm W0
  refine W0.getS (host := "") (Or.inl (hw _ (List.mem_of_getElem? (i := 107) rfl))) Via.refl SA1 (hb hby dPC_0) (pc' := 3) rfl ?_
  intro T1 W1
  refine W1.ifYes (hb hby dPC_3) (XT.i0_ne_t (by decide)) (by decide) (pc' := 28) (by decide) ?_
  refine W1.iloadN (hb hby dPC_28) rfl (pc' := 29) rfl ?_
  refine W1.iconst (1 : Int32) (hb hby dPC_29) rfl (pc' := 30) rfl ?_
  refine W1.ishl (hb hby dPC_30) (pc' := 31) rfl ?_
  refine W1.istoreN (Ls' := #[.val (.ref d), .val (.int ((Int32.ofNat i) <<< ((1 : Int32) &&& 31))), .val (.int ch)]) (hb hby dPC_31) rfl (pc' := 32) rfl ?_
  refine W1.aloadN (hb hby dPC_32) rfl rfl (pc' := 33) rfl ?_
  refine W1.iloadN (hb hby dPC_33) rfl (pc' := 34) rfl ?_
  refine W1.iinc (Ls' := #[.val (.ref d), .val (.int (((Int32.ofNat i) <<< ((1 : Int32) &&& 31)) + (1 : Int32))), .val (.int ch)]) (1 : Int32) (hb hby dPC_34) rfl rfl rfl (pc' := 37) rfl ?_
  refine W1.iloadN (hb hby dPC_37) rfl (pc' := 38) rfl ?_
  refine W1.getS (host := "") (Or.inl (hw _ (List.mem_of_getElem? (i := 108) rfl))) Via.refl SA2 (hb hby dPC_38) (pc' := 41) rfl ?_
  intro T2 W2
  refine W2.ishr (hb hby dPC_41) (pc' := 42) rfl ?_
  refine W2.i2b (hb hby dPC_42) (pc' := 43) rfl ?_
  have ix4 : ((Int32.ofNat i) <<< ((1 : Int32) &&& 31)) = Int32.ofNat (2 * i) := shl1 i
  refine W2.stB (x := (ch >>> ((0 : Int32) &&& 31)).toInt8.toInt32) (j := ((Int32.ofNat i) <<< ((1 : Int32) &&& 31))) AD (hb hby dPC_43) (pc' := 44) rfl (2 * i) (by rw [ix4]; exact clN (by omega)) (by omega) ⟨by rw [ix4]; exact ofNat_nn (by omega), by rw [ix4]; exact (ofNat_lt (by omega) (by omega)).mpr (by omega)⟩ (Or.inl (List.mem_of_getElem? (i := 0) rfl)) gd ?_
  intro T4 h4 L4 W4 K4 V4
  have z4 := K4.1
  have S4_assertionsDisabled := Sta.keepArv SA1 K4 AD
  have S4_HI_BYTE_SHIFT := Sta.keepArv SA2 K4 AD
  have S4_LO_BYTE_SHIFT := Sta.keepArv SA3 K4 AD
  refine W4.aloadN (hb hby dPC_44) rfl rfl (pc' := 45) rfl ?_
  refine W4.iloadN (hb hby dPC_45) rfl (pc' := 46) rfl ?_
  refine W4.iloadN (hb hby dPC_46) rfl (pc' := 47) rfl ?_
  refine W4.getS (host := "") (Or.inl (hw _ (List.mem_of_getElem? (i := 109) rfl))) Via.refl S4_LO_BYTE_SHIFT (hb hby dPC_47) (pc' := 50) rfl ?_
  intro T5 W5
  refine W5.ishr (hb hby dPC_50) (pc' := 51) rfl ?_
  refine W5.i2b (hb hby dPC_51) (pc' := 52) rfl ?_
  have ix7 : (((Int32.ofNat i) <<< ((1 : Int32) &&& 31)) + (1 : Int32)) = Int32.ofNat (2 * i + 1) := (congrArg (· + 1) (shl1 i)).trans (ofNat_succ _)
  refine W5.stB (x := (ch >>> ((8 : Int32) &&& 31)).toInt8.toInt32) (j := (((Int32.ofNat i) <<< ((1 : Int32) &&& 31)) + (1 : Int32))) V4 (hb hby dPC_52) (pc' := 53) rfl (2 * i + 1) (by rw [ix7]; exact clN (by omega)) (by rw [List.length_set]; omega) ⟨by rw [ix7]; exact ofNat_nn (by omega), by rw [ix7]; exact (ofNat_lt (by omega) (by omega)).mpr (by omega)⟩ (Or.inl (List.mem_of_getElem? (i := 0) rfl)) gd ?_
  intro T7 h7 L7 W7 K7 V7
  have z7 := K7.1
  have S7_assertionsDisabled := Sta.keepArv S4_assertionsDisabled K7 V4
  have S7_HI_BYTE_SHIFT := Sta.keepArv S4_HI_BYTE_SHIFT K7 V4
  have S7_LO_BYTE_SHIFT := Sta.keepArv S4_LO_BYTE_SHIFT K7 V4
  exact W7.retV hret (hb hby dPC_53) (by decide) (by decide) ⟨rfl, by have q := V7; rw [b8, b8, StrChars.shr0] at q; exact q⟩
theorem dTB_8 : decode jdk_52_method_14_code 8 = .ok (.iload 4, 2) := by decide +kernel
theorem dTB_10 : decode jdk_52_method_14_code 10 = .ok (.iload_n 2, 1) := by decide +kernel
theorem dTB_11 : decode jdk_52_method_14_code 11 = .ok (.if_icmp .ge 21, 3) := by decide +kernel
theorem dTB_32 : decode jdk_52_method_14_code 32 = .ok (.aload_n 3, 1) := by decide +kernel
theorem dTB_33 : decode jdk_52_method_14_code 33 = .ok (.areturn, 1) := by decide +kernel
theorem dTB_14 : decode jdk_52_method_14_code 14 = .ok (.aload_n 3, 1) := by decide +kernel
theorem dTB_15 : decode jdk_52_method_14_code 15 = .ok (.iload 4, 2) := by decide +kernel
theorem dTB_17 : decode jdk_52_method_14_code 17 = .ok (.aload_n 0, 1) := by decide +kernel
theorem dTB_18 : decode jdk_52_method_14_code 18 = .ok (.iload_n 1, 1) := by decide +kernel
theorem dTB_19 : decode jdk_52_method_14_code 19 = .ok (.caload, 1) := by decide +kernel
theorem dTB_20 : decode jdk_52_method_14_code 20 = .ok (.invokestatic 111, 3) := by decide +kernel
theorem pd_a0ae7cc7 : parseMethodDescriptor "([BII)V" = some ⟨[(.array .byte), .int, .int], none⟩ := by decide +kernel
theorem dTB_23 : decode jdk_52_method_14_code 23 = .ok (.iinc 1 1, 3) := by decide +kernel
theorem dTB_26 : decode jdk_52_method_14_code 26 = .ok (.iinc 4 1, 3) := by decide +kernel
theorem dTB_29 : decode jdk_52_method_14_code 29 = .ok (.goto (-21), 3) := by decide +kernel
theorem dTB_0 : decode jdk_52_method_14_code 0 = .ok (.iload_n 2, 1) := by decide +kernel
theorem dTB_1 : decode jdk_52_method_14_code 1 = .ok (.invokestatic 107, 3) := by decide +kernel
theorem pd_125722ca : parseMethodDescriptor "(I)[B" = some ⟨[.int], some (.array .byte)⟩ := by decide +kernel
theorem dTB_4 : decode jdk_52_method_14_code 4 = .ok (.astore_n 3, 1) := by decide +kernel
theorem dTB_5 : decode jdk_52_method_14_code 5 = .ok (.iconst 0, 1) := by decide +kernel
theorem dTB_6 : decode jdk_52_method_14_code 6 = .ok (.istore 4, 2) := by decide +kernel
theorem pn_TB : plainFor (⟨"java/lang/StringUTF16", "toBytes", "([CII)[B"⟩ : MethodName) = true := by first | exact plainFor_of_name (by first | (simp [plainName, overriddenIn]; done) | decide +kernel) | decide +kernel
set_option maxRecDepth 65536 in
set_option maxHeartbeats 40000000 in
theorem rmTB (l : Launch) (Z : State) (a0 : Array Value) (hw : ∀ d ∈ tables_1, d.before a0 Z = true) (b : Addr) (kb : ClassId) (cs : List Int32) (h0 : Heap) (n0 : Nat) (Z0 : n0 ≤ h0.size) (AB : Arv Z h0 b kb .char (Int32.ofNat cs.length) (cs.map Value.int) (.int (0 : Int32))) (hn8 : cs.length ≤ 8) (SA1 : Sta Z h0 "java/lang/StringUTF16" "$assertionsDisabled" "Z" (.int (1 : Int32))) (SA2 : Sta Z h0 "java/lang/StringUTF16" "HI_BYTE_SHIFT" "I" (.int (0 : Int32))) (SA3 : Sta Z h0 "java/lang/StringUTF16" "LO_BYTE_SHIFT" "I" (.int (8 : Int32))) :
    NM l (⟨"java/lang/StringUTF16", "toBytes", "([CII)[B"⟩ : MethodName) jdk_52_method_14_code 5 (some (.array .byte)) [] ({ frames := 2, cells := 1, slots := 16, locals := 30 } : Room) Z n0 #[(.ref b), (.int (0 : Int32)), (.int (Int32.ofNat cs.length))] h0 [] (fun v h => ∃ d kd, v = some (.ref d) ∧ h0.size ≤ d ∧ Arv Z h d kd .byte (Int32.ofNat (2 * cs.length)) (StrChars.Road.wideBytes cs) (.int (0 : Int32))) := by
  refine NM.walk (Ls := #[.val (.ref b), .val (.int (0 : Int32)), .val (.int (Int32.ofNat cs.length)), .unset, .unset]) pn_TB Z0 (fun m => by first | (simp [entryFrame, mkF, argsToLocals, Value.category]; done) | rfl) ?_
  intro p e s m below meth c s₁ hby hml hret hnm W0
  have loop : ∀ (k i : Nat) (T : State) (h : Heap) (Lo : List Loc) (d : Addr) (kd : ClassId) (vs : List Value), (i + k = cs.length) → (h0.size ≤ d) → (n0 ≤ d) → (vs.length = 2 * cs.length) → (fw cs i k vs = StrChars.Road.wideBytes cs) → Arv Z h d kd .byte (Int32.ofNat (2 * cs.length)) vs (.int (0 : Int32)) → NK p l e ({ frames := 2, cells := 1, slots := 16, locals := 30 } : Room) s m #[(.ref b), (.int (0 : Int32)), (.int (Int32.ofNat cs.length))] below meth c Z "java/lang/StringUTF16" n0 h0 [] T h Lo 1 16 → Go p e below (EndN n0 ({ frames := 2, cells := 1, slots := 16, locals := 30 } : Room) s below (fun v h => ∃ d kd, v = some (.ref d) ∧ h0.size ≤ d ∧ Arv Z h d kd .byte (Int32.ofNat (2 * cs.length)) (StrChars.Road.wideBytes cs) (.int (0 : Int32))) h0 []) T (mkF m 8 #[.val (.ref b), .val (.int (Int32.ofNat i)), .val (.int (Int32.ofNat cs.length)), .val (.ref d), .val (.int (Int32.ofNat i))] []) := by
    intro k
    induction k with
    | zero =>
      intro i T h Lo d kd vs hi ge gd hv hF AD Wk
      have E0 : Ext h0 h := Keep.toExt Wk.2.2.2.2.2.2.1
      have z0 := E0.1
      refine Wk.iload (hb hby dTB_8) rfl (pc' := 10) rfl ?_
      refine Wk.iloadN (hb hby dTB_10) rfl (pc' := 11) rfl ?_
      refine Wk.icmpYes (hb hby dTB_11) (XT.ii_ge_t (by rw [ofNat_lt (by omega) (by omega)]; omega)) (by decide) (pc' := 32) (by decide) ?_
      refine Wk.aloadN (hb hby dTB_32) rfl rfl (pc' := 33) rfl ?_
      exact Wk.retA hret rfl rfl (hb hby dTB_33) (by decide) (by decide) ⟨d, kd, rfl, ge, hF ▸ AD⟩
    | succ k ih =>
      intro i T h Lo d kd vs hi ge gd hv hF AD Wk
      have E0 : Ext h0 h := Keep.toExt Wk.2.2.2.2.2.2.1
      have z0 := E0.1
      refine Wk.iload (hb hby dTB_8) rfl (pc' := 10) rfl ?_
      refine Wk.iloadN (hb hby dTB_10) rfl (pc' := 11) rfl ?_
      refine Wk.icmpNo (hb hby dTB_11) (XT.ii_ge_f ((ofNat_lt (by omega) (by omega)).mpr (by omega))) (pc' := 14) rfl ?_
      refine Wk.aloadN (hb hby dTB_14) rfl rfl (pc' := 15) rfl ?_
      refine Wk.iload (hb hby dTB_15) rfl (pc' := 17) rfl ?_
      refine Wk.aloadN (hb hby dTB_17) rfl rfl (pc' := 18) rfl ?_
      refine Wk.iloadN (hb hby dTB_18) rfl (pc' := 19) rfl ?_
      have F1 := Arv.ext AB E0
      refine Wk.caload F1 (.int (cs.getD i 0)) (hb hby dTB_19) (pc' := 20) rfl ⟨ofNat_nn (by omega), (ofNat_lt (by omega) (by omega)).mpr (by omega)⟩ (by rw [clN (by omega)]; exact getD_int cs i) ?_
      have F3 := Sta.ext E0 SA1
      have F4 := Sta.ext E0 SA2
      have F5 := Sta.ext E0 SA3
      refine Wk.callS (hw _ (List.mem_of_getElem? (i := 104) rfl)) (hw _ (List.mem_of_getElem? (i := 105) rfl)) (hw _ (List.mem_of_getElem? (i := 25) rfl)) (hw _ (List.mem_of_getElem? (i := 106) rfl)) (by decide) (NM.bk (wd := 0) (rmPC l Z a0 hw d kd i cs.length (cs.getD i 0) vs h n0 Wk.n0h gd AD hv (by omega) (by omega) F3 F4 F5) Wk.2.2.2.1 (hw _ (List.mem_of_getElem? (i := 106) rfl)) (hw _ (List.mem_of_getElem? (i := 25) rfl)) (by decide) (by decide)) (hb hby dTB_20) (pc' := 23) rfl hml (argsL := [(.ref d), (.int (Int32.ofNat i)), (.int (cs.getD i 0))]) rfl (lenOf pd_a0ae7cc7 rfl) rfl (Nat.le_of_ble_eq_true rfl) (by decide) (by decide) (ws' := [d]) (fun _ _ _ q => ⟨q.2.2, q.2.1⟩) (allS (Or.inr ge) all0) ?_
      intro v2 T2 h2 L2' L2 W2 Q2 K2
      have z2 := K2.1
      obtain ⟨⟨rfl, V2⟩, -, -⟩ := Q2
      show Go p e below _ T2 (mkF m 23 #[.val (.ref b), .val (.int (Int32.ofNat i)), .val (.int (Int32.ofNat cs.length)), .val (.ref d), .val (.int (Int32.ofNat i))] [])
      refine W2.iinc (Ls' := #[.val (.ref b), .val (.int ((Int32.ofNat i) + (1 : Int32))), .val (.int (Int32.ofNat cs.length)), .val (.ref d), .val (.int (Int32.ofNat i))]) (1 : Int32) (hb hby dTB_23) rfl rfl rfl (pc' := 26) rfl ?_
      refine W2.iinc (Ls' := #[.val (.ref b), .val (.int ((Int32.ofNat i) + (1 : Int32))), .val (.int (Int32.ofNat cs.length)), .val (.ref d), .val (.int ((Int32.ofNat i) + (1 : Int32)))]) (1 : Int32) (hb hby dTB_26) rfl rfl rfl (pc' := 29) rfl ?_
      refine W2.goto (hb hby dTB_29) (by decide) (pc' := 8) (by decide) ?_
      have q := ih (i + 1) _ _ _ d kd _ (by omega) ge gd (by rw [set2_len]; exact hv) (by rw [← hF]; rfl) V2 W2
      rw [← ofNat_succ] at q
      exact q
  refine W0.iloadN (hb hby dTB_0) rfl (pc' := 1) rfl ?_
  refine W0.callS (hw _ (List.mem_of_getElem? (i := 97) rfl)) (hw _ (List.mem_of_getElem? (i := 98) rfl)) (hw _ (List.mem_of_getElem? (i := 25) rfl)) (hw _ (List.mem_of_getElem? (i := 99) rfl)) (by decide) (NM.bk (wd := 0) (rmNBF l Z a0 hw cs.length h0 n0 W0.n0h (by omega) hn8) W0.2.2.2.1 (hw _ (List.mem_of_getElem? (i := 99) rfl)) (hw _ (List.mem_of_getElem? (i := 25) rfl)) (by decide) (by decide)) (hb hby dTB_1) (pc' := 4) rfl hml (argsL := [(.int (Int32.ofNat cs.length))]) rfl (lenOf pd_125722ca rfl) rfl (Nat.le_of_ble_eq_true rfl) (by decide) (by decide) (ws' := []) (fun _ _ _ q => ⟨q.2.2, q.2.1⟩) all0 ?_
  intro v6 T6 h6 L6' L6 W6 Q6 K6
  have z6 := K6.1
  obtain ⟨⟨a6, k6, rfl, ge6, V6⟩, -, -⟩ := Q6
  show Go p e below _ T6 (mkF m 4 #[.val (.ref b), .val (.int (0 : Int32)), .val (.int (Int32.ofNat cs.length)), .unset, .unset] [(.ref a6)])
  refine W6.astoreN (Ls' := #[.val (.ref b), .val (.int (0 : Int32)), .val (.int (Int32.ofNat cs.length)), .val (.ref a6), .unset]) (hb hby dTB_4) rfl rfl (pc' := 5) rfl ?_
  refine W6.iconst (0 : Int32) (hb hby dTB_5) rfl (pc' := 6) rfl ?_
  refine W6.istore (Ls' := #[.val (.ref b), .val (.int (0 : Int32)), .val (.int (Int32.ofNat cs.length)), .val (.ref a6), .val (.int (0 : Int32))]) (hb hby dTB_6) rfl (pc' := 8) rfl ?_
  exact loop cs.length 0 _ _ _ a6 k6 _ (by omega) ge6 (Nat.le_trans Z0 ge6) List.length_replicate (fw_all _ cs) V6 W6
theorem dGC_0 : decode jdk_52_method_5_code 0 = .ok (.getstatic 44, 3) := by decide +kernel
theorem dGC_3 : decode jdk_52_method_5_code 3 = .ok (.ifCond .ne 25, 3) := by decide +kernel
theorem dGC_28 : decode jdk_52_method_5_code 28 = .ok (.iload_n 1, 1) := by decide +kernel
theorem dGC_29 : decode jdk_52_method_5_code 29 = .ok (.iconst 1, 1) := by decide +kernel
theorem dGC_30 : decode jdk_52_method_5_code 30 = .ok (.ishl, 1) := by decide +kernel
theorem dGC_31 : decode jdk_52_method_5_code 31 = .ok (.istore_n 1, 1) := by decide +kernel
theorem dGC_32 : decode jdk_52_method_5_code 32 = .ok (.aload_n 0, 1) := by decide +kernel
theorem dGC_33 : decode jdk_52_method_5_code 33 = .ok (.iload_n 1, 1) := by decide +kernel
theorem dGC_34 : decode jdk_52_method_5_code 34 = .ok (.iinc 1 1, 3) := by decide +kernel
theorem dGC_37 : decode jdk_52_method_5_code 37 = .ok (.baload, 1) := by decide +kernel
theorem dGC_38 : decode jdk_52_method_5_code 38 = .ok (.sipush 255, 3) := by decide +kernel
theorem dGC_41 : decode jdk_52_method_5_code 41 = .ok (.iand, 1) := by decide +kernel
theorem dGC_42 : decode jdk_52_method_5_code 42 = .ok (.getstatic 59, 3) := by decide +kernel
theorem dGC_45 : decode jdk_52_method_5_code 45 = .ok (.ishl, 1) := by decide +kernel
theorem dGC_46 : decode jdk_52_method_5_code 46 = .ok (.aload_n 0, 1) := by decide +kernel
theorem dGC_47 : decode jdk_52_method_5_code 47 = .ok (.iload_n 1, 1) := by decide +kernel
theorem dGC_48 : decode jdk_52_method_5_code 48 = .ok (.baload, 1) := by decide +kernel
theorem dGC_49 : decode jdk_52_method_5_code 49 = .ok (.sipush 255, 3) := by decide +kernel
theorem dGC_52 : decode jdk_52_method_5_code 52 = .ok (.iand, 1) := by decide +kernel
theorem dGC_53 : decode jdk_52_method_5_code 53 = .ok (.getstatic 63, 3) := by decide +kernel
theorem dGC_56 : decode jdk_52_method_5_code 56 = .ok (.ishl, 1) := by decide +kernel
theorem dGC_57 : decode jdk_52_method_5_code 57 = .ok (.ior, 1) := by decide +kernel
theorem dGC_58 : decode jdk_52_method_5_code 58 = .ok (.i2c, 1) := by decide +kernel
theorem dGC_59 : decode jdk_52_method_5_code 59 = .ok (.ireturn, 1) := by decide +kernel
theorem pn_GC : plainFor (⟨"java/lang/StringUTF16", "getChar", "([BI)C"⟩ : MethodName) = true := by first | exact plainFor_of_name (by first | (simp [plainName, overriddenIn]; done) | decide +kernel) | decide +kernel
set_option maxRecDepth 65536 in
set_option maxHeartbeats 40000000 in
theorem rmGC (l : Launch) (Z : State) (a0 : Array Value) (hw : ∀ d ∈ tables_1, d.before a0 Z = true) (d : Addr) (kd : ClassId) (i : Nat) (cs : List Int32) (h0 : Heap) (n0 : Nat) (Z0 : n0 ≤ h0.size) (AD : Arv Z h0 d kd .byte (Int32.ofNat (2 * cs.length)) (StrChars.Road.wideBytes cs) (.int (0 : Int32))) (hn : cs.length ≤ 4000) (hi : i < cs.length) (HB : ∀ c ∈ cs, ¬ c < 0 ∧ ¬ (65535 : Int32) < c) (SA1 : Sta Z h0 "java/lang/StringUTF16" "$assertionsDisabled" "Z" (.int (1 : Int32))) (SA2 : Sta Z h0 "java/lang/StringUTF16" "HI_BYTE_SHIFT" "I" (.int (0 : Int32))) (SA3 : Sta Z h0 "java/lang/StringUTF16" "LO_BYTE_SHIFT" "I" (.int (8 : Int32))) :
    NM l (⟨"java/lang/StringUTF16", "getChar", "([BI)C"⟩ : MethodName) jdk_52_method_5_code 2 (some .char) [] ({ frames := 0, cells := 0, slots := 0, locals := 0 } : Room) Z n0 #[(.ref d), (.int (Int32.ofNat i))] h0 [] (Pu (some (.int (cs.getD i 0))) h0) := by
  refine NM.walk (Ls := #[.val (.ref d), .val (.int (Int32.ofNat i))]) pn_GC Z0 (fun m => by first | (simp [entryFrame, mkF, argsToLocals, Value.category]; done) | rfl) ?_
  intro p e s m below meth c s₁ hby hml hret hnm W0
  refine W0.getS (host := "") (Or.inl (hw _ (List.mem_of_getElem? (i := 107) rfl))) Via.refl SA1 (hb hby dGC_0) (pc' := 3) rfl ?_
  intro T1 W1
  refine W1.ifYes (hb hby dGC_3) (XT.i0_ne_t (by decide)) (by decide) (pc' := 28) (by decide) ?_
  refine W1.iloadN (hb hby dGC_28) rfl (pc' := 29) rfl ?_
  refine W1.iconst (1 : Int32) (hb hby dGC_29) rfl (pc' := 30) rfl ?_
  refine W1.ishl (hb hby dGC_30) (pc' := 31) rfl ?_
  refine W1.istoreN (Ls' := #[.val (.ref d), .val (.int ((Int32.ofNat i) <<< ((1 : Int32) &&& 31)))]) (hb hby dGC_31) rfl (pc' := 32) rfl ?_
  refine W1.aloadN (hb hby dGC_32) rfl rfl (pc' := 33) rfl ?_
  refine W1.iloadN (hb hby dGC_33) rfl (pc' := 34) rfl ?_
  refine W1.iinc (Ls' := #[.val (.ref d), .val (.int (((Int32.ofNat i) <<< ((1 : Int32) &&& 31)) + (1 : Int32)))]) (1 : Int32) (hb hby dGC_34) rfl rfl rfl (pc' := 37) rfl ?_
  have ix2 : ((Int32.ofNat i) <<< ((1 : Int32) &&& 31)) = Int32.ofNat (2 * i) := shl1 i
  refine W1.baload AD (.int (StrChars.lo8 (cs.getD i 0))) (hb hby dGC_37) (pc' := 38) rfl ⟨by rw [ix2]; exact ofNat_nn (by omega), by rw [ix2]; exact (ofNat_lt (by omega) (by omega)).mpr (by omega)⟩ (by rw [ix2, clN (by omega)]; exact StrChars.Road.wide_lo _ cs i hi) ?_
  refine W1.sipush (255 : Int32) (hb hby dGC_38) rfl (pc' := 41) rfl ?_
  refine W1.iand (hb hby dGC_41) (pc' := 42) rfl ?_
  refine W1.getS (host := "") (Or.inl (hw _ (List.mem_of_getElem? (i := 108) rfl))) Via.refl SA2 (hb hby dGC_42) (pc' := 45) rfl ?_
  intro T3 W3
  refine W3.ishl (hb hby dGC_45) (pc' := 46) rfl ?_
  refine W3.aloadN (hb hby dGC_46) rfl rfl (pc' := 47) rfl ?_
  refine W3.iloadN (hb hby dGC_47) rfl (pc' := 48) rfl ?_
  have ix4 : (((Int32.ofNat i) <<< ((1 : Int32) &&& 31)) + (1 : Int32)) = Int32.ofNat (2 * i + 1) := (congrArg (· + 1) (shl1 i)).trans (ofNat_succ _)
  refine W3.baload AD (.int (StrChars.hi8 (cs.getD i 0))) (hb hby dGC_48) (pc' := 49) rfl ⟨by rw [ix4]; exact ofNat_nn (by omega), by rw [ix4]; exact (ofNat_lt (by omega) (by omega)).mpr (by omega)⟩ (by rw [ix4, clN (by omega)]; exact StrChars.Road.wide_hi _ cs i hi) ?_
  refine W3.sipush (255 : Int32) (hb hby dGC_49) rfl (pc' := 52) rfl ?_
  refine W3.iand (hb hby dGC_52) (pc' := 53) rfl ?_
  refine W3.getS (host := "") (Or.inl (hw _ (List.mem_of_getElem? (i := 109) rfl))) Via.refl SA3 (hb hby dGC_53) (pc' := 56) rfl ?_
  intro T5 W5
  refine W5.ishl (hb hby dGC_56) (pc' := 57) rfl ?_
  refine W5.ior (hb hby dGC_57) (pc' := 58) rfl ?_
  refine W5.i2c (hb hby dGC_58) (pc' := 59) rfl ?_
  exact W5.retC hret (hb hby dGC_59) (nar_ret (nar_i2c _)) (by decide) (by decide) ⟨congrArg (fun z => some (Value.int z)) (StrChars.pair_says (getD_all (P := fun c => ¬ c < 0 ∧ ¬ (65535 : Int32) < c) HB (by decide) i).1 (getD_all (P := fun c => ¬ c < 0 ∧ ¬ (65535 : Int32) < c) HB (by decide) i).2), rfl⟩
theorem dC5_3 : decode jdk_52_method_21_code 3 = .ok (.iload 5, 2) := by decide +kernel
theorem dC5_5 : decode jdk_52_method_21_code 5 = .ok (.iload 4, 2) := by decide +kernel
theorem dC5_7 : decode jdk_52_method_21_code 7 = .ok (.if_icmp .ge 37, 3) := by decide +kernel
theorem dC5_10 : decode jdk_52_method_21_code 10 = .ok (.aload_n 0, 1) := by decide +kernel
theorem dC5_11 : decode jdk_52_method_21_code 11 = .ok (.iload_n 1, 1) := by decide +kernel
theorem dC5_12 : decode jdk_52_method_21_code 12 = .ok (.caload, 1) := by decide +kernel
theorem dC5_13 : decode jdk_52_method_21_code 13 = .ok (.istore 6, 2) := by decide +kernel
theorem dC5_15 : decode jdk_52_method_21_code 15 = .ok (.iload 6, 2) := by decide +kernel
theorem dC5_17 : decode jdk_52_method_21_code 17 = .ok (.sipush 255, 3) := by decide +kernel
theorem dC5_20 : decode jdk_52_method_21_code 20 = .ok (.if_icmp .le 6, 3) := by decide +kernel
theorem dC5_23 : decode jdk_52_method_21_code 23 = .ok (.iload 5, 2) := by decide +kernel
theorem dC5_25 : decode jdk_52_method_21_code 25 = .ok (.ireturn, 1) := by decide +kernel
theorem dC5_26 : decode jdk_52_method_21_code 26 = .ok (.aload_n 2, 1) := by decide +kernel
theorem dC5_27 : decode jdk_52_method_21_code 27 = .ok (.iload_n 3, 1) := by decide +kernel
theorem dC5_28 : decode jdk_52_method_21_code 28 = .ok (.iload 6, 2) := by decide +kernel
theorem dC5_30 : decode jdk_52_method_21_code 30 = .ok (.i2b, 1) := by decide +kernel
theorem dC5_31 : decode jdk_52_method_21_code 31 = .ok (.bastore, 1) := by decide +kernel
theorem dC5_32 : decode jdk_52_method_21_code 32 = .ok (.iinc 1 1, 3) := by decide +kernel
theorem dC5_35 : decode jdk_52_method_21_code 35 = .ok (.iinc 3 1, 3) := by decide +kernel
theorem dC5_38 : decode jdk_52_method_21_code 38 = .ok (.iinc 5 1, 3) := by decide +kernel
theorem dC5_41 : decode jdk_52_method_21_code 41 = .ok (.goto (-38), 3) := by decide +kernel
theorem dC5_0 : decode jdk_52_method_21_code 0 = .ok (.iconst 0, 1) := by decide +kernel
theorem dC5_1 : decode jdk_52_method_21_code 1 = .ok (.istore 5, 2) := by decide +kernel
theorem pn_C5 : plainFor (⟨"java/lang/StringUTF16", "compress", "([CI[BII)I"⟩ : MethodName) = true := by first | exact plainFor_of_name (by first | (simp [plainName, overriddenIn]; done) | decide +kernel) | decide +kernel
set_option maxRecDepth 65536 in
set_option maxHeartbeats 40000000 in
theorem rmC5 (l : Launch) (Z : State) (a0 : Array Value) (hw : ∀ d ∈ tables_1, d.before a0 Z = true) (b d : Addr) (kb kd : ClassId) (cs : List Int32) (vs : List Value) (h0 : Heap) (n0 : Nat) (Z0 : n0 ≤ h0.size) (AB : Arv Z h0 b kb .char (Int32.ofNat cs.length) (cs.map Value.int) (.int (0 : Int32))) (hn8 : cs.length ≤ 8) (gd : n0 ≤ d) (AD : Arv Z h0 d kd .byte (Int32.ofNat cs.length) vs (.int (0 : Int32))) (hv : vs.length = cs.length) (hbd : b ≠ d) (hbig : ∃ j, j < cs.length ∧ (255 : Int32) < cs.getD j 0) :
    NM l (⟨"java/lang/StringUTF16", "compress", "([CI[BII)I"⟩ : MethodName) jdk_52_method_21_code 7 (some .int) [] ({ frames := 0, cells := 0, slots := 0, locals := 0 } : Room) Z n0 #[(.ref b), (.int (0 : Int32)), (.ref d), (.int (0 : Int32)), (.int (Int32.ofNat cs.length))] h0 [d] (fun v h => ∃ j : Nat, j < cs.length ∧ (255 : Int32) < cs.getD j 0 ∧ v = some (.int (Int32.ofNat j))) := by
  refine NM.walk (Ls := #[.val (.ref b), .val (.int (0 : Int32)), .val (.ref d), .val (.int (0 : Int32)), .val (.int (Int32.ofNat cs.length)), .unset, .unset]) pn_C5 Z0 (fun m => by first | (simp [entryFrame, mkF, argsToLocals, Value.category]; done) | rfl) ?_
  intro p e s m below meth c s₁ hby hml hret hnm W0
  have loop : ∀ (k i : Nat) (T : State) (h : Heap) (Lo : List Loc) (vs : List Value) (sl : Slot), (i + k = cs.length) → (∃ j, i ≤ j ∧ j < cs.length ∧ (255 : Int32) < cs.getD j 0) → (vs.length = cs.length) → Arv Z h d kd .byte (Int32.ofNat cs.length) vs (.int (0 : Int32)) → (sl = .unset ∨ ∃ z : Int32, sl = .val (.int z)) → NK p l e ({ frames := 0, cells := 0, slots := 0, locals := 0 } : Room) s m #[(.ref b), (.int (0 : Int32)), (.ref d), (.int (0 : Int32)), (.int (Int32.ofNat cs.length))] below meth c Z "java/lang/StringUTF16" n0 h0 [d] T h Lo 0 0 → Go p e below (EndN n0 ({ frames := 0, cells := 0, slots := 0, locals := 0 } : Room) s below (fun v h => ∃ j : Nat, j < cs.length ∧ (255 : Int32) < cs.getD j 0 ∧ v = some (.int (Int32.ofNat j))) h0 [d]) T (mkF m 3 #[.val (.ref b), .val (.int (Int32.ofNat i)), .val (.ref d), .val (.int (Int32.ofNat i)), .val (.int (Int32.ofNat cs.length)), .val (.int (Int32.ofNat i)), sl] []) := by
    intro k
    induction k with
    | zero =>
      intro i T h Lo vs sl hi hj hv AD Wk
      obtain ⟨j, j1, j2, -⟩ := hj
      omega
    | succ k ih =>
      intro i T h Lo vs sl hi hj hv AD hsl Wk
      have K0 := Wk.2.2.2.2.2.2.1
      have z0 := K0.1
      refine Wk.iload (hb hby dC5_3) rfl (pc' := 5) rfl ?_
      refine Wk.iload (hb hby dC5_5) rfl (pc' := 7) rfl ?_
      refine Wk.icmpNo (hb hby dC5_7) (XT.ii_ge_f ((ofNat_lt (by omega) (by omega)).mpr (by omega))) (pc' := 10) rfl ?_
      refine Wk.aloadN (hb hby dC5_10) rfl rfl (pc' := 11) rfl ?_
      refine Wk.iloadN (hb hby dC5_11) rfl (pc' := 12) rfl ?_
      have F1 := (AB.keep K0 (ninS hbd nin0))
      refine Wk.caload F1 (.int (cs.getD i 0)) (hb hby dC5_12) (pc' := 13) rfl ⟨ofNat_nn (by omega), (ofNat_lt (by omega) (by omega)).mpr (by omega)⟩ (by rw [clN (by omega)]; exact getD_int cs i) ?_
      refine Wk.istore (Ls' := #[.val (.ref b), .val (.int (Int32.ofNat i)), .val (.ref d), .val (.int (Int32.ofNat i)), .val (.int (Int32.ofNat cs.length)), .val (.int (Int32.ofNat i)), .val (.int (cs.getD i 0))]) (hb hby dC5_13) (by rcases hsl with rfl | ⟨z, rfl⟩ <;> rfl) (pc' := 15) rfl ?_
      refine Wk.iload (hb hby dC5_15) rfl (pc' := 17) rfl ?_
      refine Wk.sipush (255 : Int32) (hb hby dC5_17) rfl (pc' := 20) rfl ?_
      by_cases hc2 : (255 : Int32) < (cs.getD i 0)
      · refine Wk.icmpNo (hb hby dC5_20) (XT.ii_le_f hc2) (pc' := 23) rfl ?_
        refine Wk.iload (hb hby dC5_23) rfl (pc' := 25) rfl ?_
        exact Wk.retI hret (hb hby dC5_25) (by decide) (by decide) ⟨i, by omega, hc2, rfl⟩
      · refine Wk.icmpYes (hb hby dC5_20) (XT.ii_le_t hc2) (by decide) (pc' := 26) (by decide) ?_
        refine Wk.aloadN (hb hby dC5_26) rfl rfl (pc' := 27) rfl ?_
        refine Wk.iloadN (hb hby dC5_27) rfl (pc' := 28) rfl ?_
        refine Wk.iload (hb hby dC5_28) rfl (pc' := 30) rfl ?_
        refine Wk.i2b (hb hby dC5_30) (pc' := 31) rfl ?_
        refine Wk.stB AD (hb hby dC5_31) (pc' := 32) rfl i (clN (by omega)) (by omega) ⟨ofNat_nn (by omega), (ofNat_lt (by omega) (by omega)).mpr (by omega)⟩ (Or.inl (List.mem_of_getElem? (i := 0) rfl)) gd ?_
        intro T4 h4 L4 W4 K4 V4
        have z4 := K4.1
        refine W4.iinc (Ls' := #[.val (.ref b), .val (.int ((Int32.ofNat i) + (1 : Int32))), .val (.ref d), .val (.int (Int32.ofNat i)), .val (.int (Int32.ofNat cs.length)), .val (.int (Int32.ofNat i)), .val (.int (cs.getD i 0))]) (1 : Int32) (hb hby dC5_32) rfl rfl rfl (pc' := 35) rfl ?_
        refine W4.iinc (Ls' := #[.val (.ref b), .val (.int ((Int32.ofNat i) + (1 : Int32))), .val (.ref d), .val (.int ((Int32.ofNat i) + (1 : Int32))), .val (.int (Int32.ofNat cs.length)), .val (.int (Int32.ofNat i)), .val (.int (cs.getD i 0))]) (1 : Int32) (hb hby dC5_35) rfl rfl rfl (pc' := 38) rfl ?_
        refine W4.iinc (Ls' := #[.val (.ref b), .val (.int ((Int32.ofNat i) + (1 : Int32))), .val (.ref d), .val (.int ((Int32.ofNat i) + (1 : Int32))), .val (.int (Int32.ofNat cs.length)), .val (.int ((Int32.ofNat i) + (1 : Int32))), .val (.int (cs.getD i 0))]) (1 : Int32) (hb hby dC5_38) rfl rfl rfl (pc' := 41) rfl ?_
        refine W4.goto (hb hby dC5_41) (by decide) (pc' := 3) (by decide) ?_
        have q := ih (i + 1) _ _ _ _ (.val (.int (cs.getD i 0))) (by omega) (by obtain ⟨j, j1, j2, j3⟩ := hj; exact ⟨j, Nat.lt_of_le_of_ne j1 (fun e => hc2 (by rw [e]; exact j3)), j2, j3⟩) (by rw [List.length_set]; exact hv) V4 (Or.inr ⟨_, rfl⟩) W4
        rw [← ofNat_succ] at q
        exact q
  refine W0.iconst (0 : Int32) (hb hby dC5_0) rfl (pc' := 1) rfl ?_
  refine W0.istore (Ls' := #[.val (.ref b), .val (.int (0 : Int32)), .val (.ref d), .val (.int (0 : Int32)), .val (.int (Int32.ofNat cs.length)), .val (.int (0 : Int32)), .unset]) (hb hby dC5_1) rfl (pc' := 3) rfl ?_
  exact loop cs.length 0 _ _ _ vs _ (by omega) (by obtain ⟨j, j1, j2⟩ := hbig; exact ⟨j, Nat.zero_le _, j1, j2⟩) hv AD (Or.inl rfl) W0
theorem dC3_0 : decode jdk_52_method_16_code 0 = .ok (.iload_n 2, 1) := by decide +kernel
theorem dC3_1 : decode jdk_52_method_16_code 1 = .ok (.newarray .byte, 2) := by decide +kernel
theorem dC3_3 : decode jdk_52_method_16_code 3 = .ok (.astore_n 3, 1) := by decide +kernel
theorem dC3_4 : decode jdk_52_method_16_code 4 = .ok (.aload_n 0, 1) := by decide +kernel
theorem dC3_5 : decode jdk_52_method_16_code 5 = .ok (.iload_n 1, 1) := by decide +kernel
theorem dC3_6 : decode jdk_52_method_16_code 6 = .ok (.aload_n 3, 1) := by decide +kernel
theorem dC3_7 : decode jdk_52_method_16_code 7 = .ok (.iconst 0, 1) := by decide +kernel
theorem dC3_8 : decode jdk_52_method_16_code 8 = .ok (.iload_n 2, 1) := by decide +kernel
theorem dC3_9 : decode jdk_52_method_16_code 9 = .ok (.invokestatic 115, 3) := by decide +kernel
theorem pd_c51db1a4 : parseMethodDescriptor "([CI[BII)I" = some ⟨[(.array .char), .int, (.array .byte), .int, .int], some .int⟩ := by decide +kernel
theorem dC3_12 : decode jdk_52_method_16_code 12 = .ok (.istore 4, 2) := by decide +kernel
theorem dC3_14 : decode jdk_52_method_16_code 14 = .ok (.iload 4, 2) := by decide +kernel
theorem dC3_16 : decode jdk_52_method_16_code 16 = .ok (.iload_n 2, 1) := by decide +kernel
theorem dC3_17 : decode jdk_52_method_16_code 17 = .ok (.if_icmp .eq 40, 3) := by decide +kernel
theorem dC3_20 : decode jdk_52_method_16_code 20 = .ok (.aload_n 0, 1) := by decide +kernel
theorem dC3_21 : decode jdk_52_method_16_code 21 = .ok (.iload_n 1, 1) := by decide +kernel
theorem dC3_22 : decode jdk_52_method_16_code 22 = .ok (.iload_n 2, 1) := by decide +kernel
theorem dC3_23 : decode jdk_52_method_16_code 23 = .ok (.invokestatic 119, 3) := by decide +kernel
theorem pd_048d77b8 : parseMethodDescriptor "([CII)[B" = some ⟨[(.array .char), .int, .int], some (.array .byte)⟩ := by decide +kernel
theorem dC3_26 : decode jdk_52_method_16_code 26 = .ok (.astore 5, 2) := by decide +kernel
theorem dC3_28 : decode jdk_52_method_16_code 28 = .ok (.aload 5, 2) := by decide +kernel
theorem dC3_30 : decode jdk_52_method_16_code 30 = .ok (.iload 4, 2) := by decide +kernel
theorem dC3_32 : decode jdk_52_method_16_code 32 = .ok (.invokestatic 71, 3) := by decide +kernel
theorem pd_d057548f : parseMethodDescriptor "([BI)C" = some ⟨[(.array .byte), .int], some .char⟩ := by decide +kernel
theorem dC3_35 : decode jdk_52_method_16_code 35 = .ok (.sipush 255, 3) := by decide +kernel
theorem dC3_38 : decode jdk_52_method_16_code 38 = .ok (.if_icmp .gt 16, 3) := by decide +kernel
theorem dC3_54 : decode jdk_52_method_16_code 54 = .ok (.aload 5, 2) := by decide +kernel
theorem dC3_56 : decode jdk_52_method_16_code 56 = .ok (.areturn, 1) := by decide +kernel
theorem pn_C3 : plainFor (⟨"java/lang/StringUTF16", "compress", "([CII)[B"⟩ : MethodName) = true := by first | exact plainFor_of_name (by first | (simp [plainName, overriddenIn]; done) | decide +kernel) | decide +kernel
set_option maxRecDepth 65536 in
set_option maxHeartbeats 40000000 in
theorem rmC3 (l : Launch) (Z : State) (a0 : Array Value) (hw : ∀ d ∈ tables_1, d.before a0 Z = true) (b : Addr) (kb : ClassId) (cs : List Int32) (h0 : Heap) (n0 : Nat) (Z0 : n0 ≤ h0.size) (AB : Arv Z h0 b kb .char (Int32.ofNat cs.length) (cs.map Value.int) (.int (0 : Int32))) (hn8 : cs.length ≤ 8) (HB : ∀ c ∈ cs, ¬ c < 0 ∧ ¬ (65535 : Int32) < c) (hbig : ∃ j, j < cs.length ∧ (255 : Int32) < cs.getD j 0) (SA1 : Sta Z h0 "java/lang/StringUTF16" "$assertionsDisabled" "Z" (.int (1 : Int32))) (SA2 : Sta Z h0 "java/lang/StringUTF16" "HI_BYTE_SHIFT" "I" (.int (0 : Int32))) (SA3 : Sta Z h0 "java/lang/StringUTF16" "LO_BYTE_SHIFT" "I" (.int (8 : Int32))) :
    NM l (⟨"java/lang/StringUTF16", "compress", "([CII)[B"⟩ : MethodName) jdk_52_method_16_code 6 (some (.array .byte)) [] ({ frames := 3, cells := 2, slots := 24, locals := 50 } : Room) Z n0 #[(.ref b), (.int (0 : Int32)), (.int (Int32.ofNat cs.length))] h0 [] (fun v h => ∃ d kd, v = some (.ref d) ∧ h0.size ≤ d ∧ Arv Z h d kd .byte (Int32.ofNat (2 * cs.length)) (StrChars.Road.wideBytes cs) (.int (0 : Int32))) := by
  refine NM.walk (Ls := #[.val (.ref b), .val (.int (0 : Int32)), .val (.int (Int32.ofNat cs.length)), .unset, .unset, .unset]) pn_C3 Z0 (fun m => by first | (simp [entryFrame, mkF, argsToLocals, Value.category]; done) | rfl) ?_
  intro p e s m below meth c s₁ hby hml hret hnm W0
  refine W0.iloadN (hb hby dC3_0) rfl (pc' := 1) rfl ?_
  refine W0.newP (hw _ (List.mem_of_getElem? (i := 27) rfl)) (hb hby dC3_1) (pc' := 3) rfl (ofNat_nn (by omega)) (cap := 8) (by rw [clN (by omega)]; omega) (by decide) (by decide) (by decide) ?_
  intro T2 h2 a2 k2 g2 ge2 gn2 W2 E2 V2'
  have V2 : Arv Z h2 a2 k2 .byte (Int32.ofNat cs.length) (List.replicate 8 (.int (0 : Int32))) (.int (0 : Int32)) := V2'
  have z2 := E2.1
  have y2 := Nat.le_of_eq g2.symm
  refine W2.astoreN (Ls' := #[.val (.ref b), .val (.int (0 : Int32)), .val (.int (Int32.ofNat cs.length)), .val (.ref a2), .unset, .unset]) (hb hby dC3_3) rfl rfl (pc' := 4) rfl ?_
  refine W2.aloadN (hb hby dC3_4) rfl rfl (pc' := 5) rfl ?_
  refine W2.iloadN (hb hby dC3_5) rfl (pc' := 6) rfl ?_
  refine W2.aloadN (hb hby dC3_6) rfl rfl (pc' := 7) rfl ?_
  refine W2.iconst (0 : Int32) (hb hby dC3_7) rfl (pc' := 8) rfl ?_
  refine W2.iloadN (hb hby dC3_8) rfl (pc' := 9) rfl ?_
  have F4 := Arv.ext AB E2
  refine W2.callS (hw _ (List.mem_of_getElem? (i := 28) rfl)) (hw _ (List.mem_of_getElem? (i := 29) rfl)) (hw _ (List.mem_of_getElem? (i := 25) rfl)) (hw _ (List.mem_of_getElem? (i := 30) rfl)) (by decide) (NM.bk (wd := 0) (rmC5 l Z a0 hw b a2 kb k2 cs _ h2 n0 W2.n0h F4 hn8 gn2 (V2.pad (vs' := List.replicate cs.length (.int (0 : Int32))) (fun i => by rw [getD_rep]; exact (getD_rep _ _ _).symm)) List.length_replicate (Nat.ne_of_lt (Nat.lt_of_lt_of_le AB.lt y2)) hbig) W2.2.2.2.1 (hw _ (List.mem_of_getElem? (i := 30) rfl)) (hw _ (List.mem_of_getElem? (i := 25) rfl)) (by decide) (by decide)) (hb hby dC3_9) (pc' := 12) rfl hml (argsL := [(.ref b), (.int (0 : Int32)), (.ref a2), (.int (0 : Int32)), (.int (Int32.ofNat cs.length))]) rfl (lenOf pd_c51db1a4 rfl) rfl (Nat.le_of_ble_eq_true rfl) (by decide) (by decide) (ws' := [a2]) (fun _ _ _ q => ⟨q.2.2, q.2.1⟩) (allS (Or.inr ge2) all0) ?_
  intro v3 T3 h3 L3' L3 W3 Q3 K3
  have z3 := K3.1
  obtain ⟨⟨j3, jl3, jb3, rfl⟩, -, -⟩ := Q3
  show Go p e below _ T3 (mkF m 12 #[.val (.ref b), .val (.int (0 : Int32)), .val (.int (Int32.ofNat cs.length)), .val (.ref a2), .unset, .unset] [(.int (Int32.ofNat j3))])
  refine W3.istore (Ls' := #[.val (.ref b), .val (.int (0 : Int32)), .val (.int (Int32.ofNat cs.length)), .val (.ref a2), .val (.int (Int32.ofNat j3)), .unset]) (hb hby dC3_12) rfl (pc' := 14) rfl ?_
  refine W3.iload (hb hby dC3_14) rfl (pc' := 16) rfl ?_
  refine W3.iloadN (hb hby dC3_16) rfl (pc' := 17) rfl ?_
  refine W3.icmpNo (hb hby dC3_17) (XT.ii_eq_f (fun q => Nat.ne_of_lt jl3 (by have e := congrArg Int32.toInt q; rw [ofNat_toInt (by omega), ofNat_toInt (by omega)] at e; omega))) (pc' := 20) rfl ?_
  refine W3.aloadN (hb hby dC3_20) rfl rfl (pc' := 21) rfl ?_
  refine W3.iloadN (hb hby dC3_21) rfl (pc' := 22) rfl ?_
  refine W3.iloadN (hb hby dC3_22) rfl (pc' := 23) rfl ?_
  have X0_2_6 : Ext h0 h3 := Keep.toExt (((Keep.refl h0 []).ext E2).trans K3 (allS (Or.inr (by have := y2; omega)) all0))
  have zX0_2_6 := X0_2_6.1
  have F7 := Arv.ext AB X0_2_6
  have F8 := Sta.ext X0_2_6 SA1
  have F9 := Sta.ext X0_2_6 SA2
  have F10 := Sta.ext X0_2_6 SA3
  refine W3.callS (hw _ (List.mem_of_getElem? (i := 94) rfl)) (hw _ (List.mem_of_getElem? (i := 95) rfl)) (hw _ (List.mem_of_getElem? (i := 25) rfl)) (hw _ (List.mem_of_getElem? (i := 96) rfl)) (by decide) (NM.bk (wd := 0) (rmTB l Z a0 hw b kb cs h3 n0 W3.n0h F7 hn8 F8 F9 F10) W3.2.2.2.1 (hw _ (List.mem_of_getElem? (i := 96) rfl)) (hw _ (List.mem_of_getElem? (i := 25) rfl)) (by decide) (by decide)) (hb hby dC3_23) (pc' := 26) rfl hml (argsL := [(.ref b), (.int (0 : Int32)), (.int (Int32.ofNat cs.length))]) rfl (lenOf pd_048d77b8 rfl) rfl (Nat.le_of_ble_eq_true rfl) (by decide) (by decide) (ws' := []) (fun _ _ _ q => ⟨q.2.2, q.2.1⟩) all0 ?_
  intro v5 T5 h5 L5' L5 W5 Q5 K5
  have z5 := K5.1
  obtain ⟨⟨a5, k5, rfl, ge5, V5⟩, -, -⟩ := Q5
  show Go p e below _ T5 (mkF m 26 #[.val (.ref b), .val (.int (0 : Int32)), .val (.int (Int32.ofNat cs.length)), .val (.ref a2), .val (.int (Int32.ofNat j3)), .unset] [(.ref a5)])
  refine W5.astore (Ls' := #[.val (.ref b), .val (.int (0 : Int32)), .val (.int (Int32.ofNat cs.length)), .val (.ref a2), .val (.int (Int32.ofNat j3)), .val (.ref a5)]) (hb hby dC3_26) rfl rfl (pc' := 28) rfl ?_
  refine W5.aload (hb hby dC3_28) rfl rfl (pc' := 30) rfl ?_
  refine W5.iload (hb hby dC3_30) rfl (pc' := 32) rfl ?_
  have X0_3_12 : Ext h0 h5 := Keep.toExt ((((Keep.refl h0 []).ext E2).trans K3 (allS (Or.inr (by have := y2; omega)) all0)).trans K5 all0)
  have zX0_3_12 := X0_3_12.1
  have F13 := Sta.ext X0_3_12 SA1
  have F14 := Sta.ext X0_3_12 SA2
  have F15 := Sta.ext X0_3_12 SA3
  refine W5.callSP (hw _ (List.mem_of_getElem? (i := 110) rfl)) (hw _ (List.mem_of_getElem? (i := 111) rfl)) (hw _ (List.mem_of_getElem? (i := 25) rfl)) (hw _ (List.mem_of_getElem? (i := 112) rfl)) (by decide) (NM.bk (wd := 0) (rmGC l Z a0 hw a5 k5 j3 cs h5 n0 W5.n0h V5 (by omega) jl3 HB F13 F14 F15) W5.2.2.2.1 (hw _ (List.mem_of_getElem? (i := 112) rfl)) (hw _ (List.mem_of_getElem? (i := 25) rfl)) (by decide) (by decide)) (hb hby dC3_32) (pc' := 35) rfl hml (argsL := [(.ref a5), (.int (Int32.ofNat j3))]) rfl (lenOf pd_d057548f rfl) rfl (Nat.le_of_ble_eq_true rfl) (by decide) (by decide) (fun _ _ _ q => pu_of q) ?_
  intro T11 L11 W11
  show Go p e below _ T11 (mkF m 35 #[.val (.ref b), .val (.int (0 : Int32)), .val (.int (Int32.ofNat cs.length)), .val (.ref a2), .val (.int (Int32.ofNat j3)), .val (.ref a5)] [(.int (cs.getD j3 0))])
  refine W11.sipush (255 : Int32) (hb hby dC3_35) rfl (pc' := 38) rfl ?_
  refine W11.icmpYes (hb hby dC3_38) (XT.ii_gt_t jb3) (by decide) (pc' := 54) (by decide) ?_
  refine W11.aload (hb hby dC3_54) rfl rfl (pc' := 56) rfl ?_
  exact W11.retA hret rfl rfl (hb hby dC3_56) (by decide) (by decide) ⟨a5, k5, rfl, Nat.le_trans (by omega) ge5, V5⟩
theorem dCF_0 : decode jdk_52_method_15_code 0 = .ok (.iload_n 1, 1) := by decide +kernel
theorem dCF_1 : decode jdk_52_method_15_code 1 = .ok (.aload_n 0, 1) := by decide +kernel
theorem dCF_2 : decode jdk_52_method_15_code 2 = .ok (.arraylength, 1) := by decide +kernel
theorem dCF_3 : decode jdk_52_method_15_code 3 = .ok (.isub, 1) := by decide +kernel
theorem dCF_4 : decode jdk_52_method_15_code 4 = .ok (.bipush 31, 2) := by decide +kernel
theorem dCF_6 : decode jdk_52_method_15_code 6 = .ok (.iushr, 1) := by decide +kernel
theorem dCF_7 : decode jdk_52_method_15_code 7 = .ok (.i2b, 1) := by decide +kernel
theorem dCF_8 : decode jdk_52_method_15_code 8 = .ok (.ireturn, 1) := by decide +kernel
theorem pn_CF : plainFor (⟨"java/lang/StringUTF16", "coderFromArrayLen", "([BI)B"⟩ : MethodName) = true := by first | exact plainFor_of_name (by first | (simp [plainName, overriddenIn]; done) | decide +kernel) | decide +kernel
set_option maxRecDepth 65536 in
set_option maxHeartbeats 40000000 in
theorem rmCF (l : Launch) (Z : State) (a0 : Array Value) (hw : ∀ d ∈ tables_1, d.before a0 Z = true) (d : Addr) (kd : ClassId) (cs : List Int32) (vs : List Value) (h0 : Heap) (n0 : Nat) (Z0 : n0 ≤ h0.size) (AD : Arv Z h0 d kd .byte (Int32.ofNat (2 * cs.length)) vs (.int (0 : Int32))) (hn : cs.length ≤ 4000) (h1 : 0 < cs.length) :
    NM l (⟨"java/lang/StringUTF16", "coderFromArrayLen", "([BI)B"⟩ : MethodName) jdk_52_method_15_code 2 (some .byte) [] ({ frames := 0, cells := 0, slots := 0, locals := 0 } : Room) Z n0 #[(.ref d), (.int (Int32.ofNat cs.length))] h0 [] (Pu (some (.int (1 : Int32))) h0) := by
  refine NM.walk (Ls := #[.val (.ref d), .val (.int (Int32.ofNat cs.length))]) pn_CF Z0 (fun m => by first | (simp [entryFrame, mkF, argsToLocals, Value.category]; done) | rfl) ?_
  intro p e s m below meth c s₁ hby hml hret hnm W0
  refine W0.iloadN (hb hby dCF_0) rfl (pc' := 1) rfl ?_
  refine W0.aloadN (hb hby dCF_1) rfl rfl (pc' := 2) rfl ?_
  refine W0.arraylength AD (hb hby dCF_2) (pc' := 3) rfl ?_
  refine W0.isub (hb hby dCF_3) (pc' := 4) rfl ?_
  refine W0.bipush (31 : Int32) (hb hby dCF_4) rfl (pc' := 6) rfl ?_
  refine W0.iushr (hb hby dCF_6) (pc' := 7) rfl ?_
  refine W0.i2b (hb hby dCF_7) (pc' := 8) rfl ?_
  exact W0.retB hret (hb hby dCF_8) (by rw [codL h1 hn]; rfl) (by decide) (by decide) ⟨congrArg (fun z => some (Value.int z)) (codL h1 hn), rfl⟩
theorem dU4_0 : decode jdk_42_method_149_code 0 = .ok (.aload_n 0, 1) := by decide +kernel
theorem dU4_1 : decode jdk_42_method_149_code 1 = .ok (.invokespecial 1, 3) := by decide +kernel
theorem dU4_4 : decode jdk_42_method_149_code 4 = .ok (.iload_n 3, 1) := by decide +kernel
theorem dU4_5 : decode jdk_42_method_149_code 5 = .ok (.ifCond .ne 22, 3) := by decide +kernel
theorem dU4_27 : decode jdk_42_method_149_code 27 = .ok (.getstatic 38, 3) := by decide +kernel
theorem dU4_30 : decode jdk_42_method_149_code 30 = .ok (.ifCond .eq 28, 3) := by decide +kernel
theorem dU4_33 : decode jdk_42_method_149_code 33 = .ok (.aload_n 1, 1) := by decide +kernel
theorem dU4_34 : decode jdk_42_method_149_code 34 = .ok (.iload_n 2, 1) := by decide +kernel
theorem dU4_35 : decode jdk_42_method_149_code 35 = .ok (.iload_n 3, 1) := by decide +kernel
theorem dU4_36 : decode jdk_42_method_149_code 36 = .ok (.invokestatic 177, 3) := by decide +kernel
theorem dU4_39 : decode jdk_42_method_149_code 39 = .ok (.astore 5, 2) := by decide +kernel
theorem dU4_41 : decode jdk_42_method_149_code 41 = .ok (.aload_n 0, 1) := by decide +kernel
theorem dU4_42 : decode jdk_42_method_149_code 42 = .ok (.aload 5, 2) := by decide +kernel
theorem dU4_44 : decode jdk_42_method_149_code 44 = .ok (.iload_n 3, 1) := by decide +kernel
theorem dU4_45 : decode jdk_42_method_149_code 45 = .ok (.invokestatic 47, 3) := by decide +kernel
theorem pd_91eb8966 : parseMethodDescriptor "([BI)B" = some ⟨[(.array .byte), .int], some .byte⟩ := by decide +kernel
theorem dU4_48 : decode jdk_42_method_149_code 48 = .ok (.putfield 15, 3) := by decide +kernel
theorem dU4_51 : decode jdk_42_method_149_code 51 = .ok (.aload_n 0, 1) := by decide +kernel
theorem dU4_52 : decode jdk_42_method_149_code 52 = .ok (.aload 5, 2) := by decide +kernel
theorem dU4_54 : decode jdk_42_method_149_code 54 = .ok (.putfield 9, 3) := by decide +kernel
theorem dU4_57 : decode jdk_42_method_149_code 57 = .ok (.return_, 1) := by decide +kernel
theorem pn_U4 : plainFor (⟨"java/lang/String", "<init>", "([CIILjava/lang/Void;)V"⟩ : MethodName) = true := by first | exact plainFor_of_name (by first | (simp [plainName, overriddenIn]; done) | decide +kernel) | decide +kernel
set_option maxRecDepth 65536 in
set_option maxHeartbeats 40000000 in
theorem rmU4 (l : Launch) (Z : State) (a0 : Array Value) (hw : ∀ d ∈ tables_1, d.before a0 Z = true) (a b : Addr) (kb : ClassId) (cs : List Int32) (zc : Int32) (h0 : Heap) (n0 : Nat) (Z0 : n0 ≤ h0.size) (ga : n0 ≤ a) (EX : Exa Z h0 a "java/lang/String") (FV : Fld Z h0 a "java/lang/String" "value" "[B" .null) (FC : Fld Z h0 a "java/lang/String" "coder" "B" (.int (0 : Int32))) (AB : Arv Z h0 b kb .char (Int32.ofNat cs.length) (cs.map Value.int) (.int (0 : Int32))) (hn8 : cs.length ≤ 8) (h1 : 0 < cs.length) (HB : ∀ c ∈ cs, ¬ c < 0 ∧ ¬ (65535 : Int32) < c) (hbig : ∃ j, j < cs.length ∧ (255 : Int32) < cs.getD j 0) (SA1 : Sta Z h0 "java/lang/StringUTF16" "$assertionsDisabled" "Z" (.int (1 : Int32))) (SA2 : Sta Z h0 "java/lang/StringUTF16" "HI_BYTE_SHIFT" "I" (.int (0 : Int32))) (SA3 : Sta Z h0 "java/lang/StringUTF16" "LO_BYTE_SHIFT" "I" (.int (8 : Int32))) (SC : Sta Z h0 "java/lang/String" "COMPACT_STRINGS" "Z" (.int zc)) (hz : ¬ zc = 0) :
    NM l (⟨"java/lang/String", "<init>", "([CIILjava/lang/Void;)V"⟩ : MethodName) jdk_42_method_149_code 6 none [] ({ frames := 4, cells := 2, slots := 24, locals := 70 } : Room) Z n0 #[(.ref a), (.ref b), (.int (0 : Int32)), (.int (Int32.ofNat cs.length)), .null] h0 [a] (fun v h => v = none ∧ StrA Z h a cs) := by
  refine NM.walk (Ls := #[.val (.ref a), .val (.ref b), .val (.int (0 : Int32)), .val (.int (Int32.ofNat cs.length)), .val .null, .unset]) pn_U4 Z0 (fun m => by first | (simp [entryFrame, mkF, argsToLocals, Value.category]; done) | rfl) ?_
  intro p e s m below meth c s₁ hby hml hret hnm W0
  refine W0.aloadN (hb hby dU4_0) rfl rfl (pc' := 1) rfl ?_
  refine W0.initO (hw _ (List.mem_of_getElem? (i := 19) rfl)) (hw _ (List.mem_of_getElem? (i := 20) rfl)) (hw _ (List.mem_of_getElem? (i := 21) rfl)) (hb hby dU4_1) (pc' := 4) rfl hml (by decide) (wd := 0) (Nat.le_of_ble_eq_true rfl) (by decide) ?_
  intro T1 W1
  refine W1.iloadN (hb hby dU4_4) rfl (pc' := 5) rfl ?_
  refine W1.ifYes (hb hby dU4_5) (XT.i0_ne_t (fun q => by have e := congrArg Int32.toInt q; rw [ofNat_toInt (by omega)] at e; have e2 : (cs.length : Int) = 0 := e; omega)) (by decide) (pc' := 27) (by decide) ?_
  refine W1.getS (host := "") (Or.inl (hw _ (List.mem_of_getElem? (i := 22) rfl))) Via.refl SC (hb hby dU4_27) (pc' := 30) rfl ?_
  intro T2 W2
  refine W2.ifNo (hb hby dU4_30) (XT.i0_eq_f hz) (pc' := 33) rfl ?_
  refine W2.aloadN (hb hby dU4_33) rfl rfl (pc' := 34) rfl ?_
  refine W2.iloadN (hb hby dU4_34) rfl (pc' := 35) rfl ?_
  refine W2.iloadN (hb hby dU4_35) rfl (pc' := 36) rfl ?_
  refine W2.callS (hw _ (List.mem_of_getElem? (i := 23) rfl)) (hw _ (List.mem_of_getElem? (i := 24) rfl)) (hw _ (List.mem_of_getElem? (i := 25) rfl)) (hw _ (List.mem_of_getElem? (i := 26) rfl)) (by decide) (NM.bk (wd := 0) (rmC3 l Z a0 hw b kb cs h0 n0 W2.n0h AB hn8 HB hbig SA1 SA2 SA3) W2.2.2.2.1 (hw _ (List.mem_of_getElem? (i := 26) rfl)) (hw _ (List.mem_of_getElem? (i := 25) rfl)) (by decide) (by decide)) (hb hby dU4_36) (pc' := 39) rfl hml (argsL := [(.ref b), (.int (0 : Int32)), (.int (Int32.ofNat cs.length))]) rfl (lenOf pd_048d77b8 rfl) rfl (Nat.le_of_ble_eq_true rfl) (by decide) (by decide) (ws' := []) (fun _ _ _ q => ⟨q.2.2, q.2.1⟩) all0 ?_
  intro v3 T3 h3 L3' L3 W3 Q3 K3
  have z3 := K3.1
  obtain ⟨⟨a3, k3, rfl, ge3, V3⟩, -, -⟩ := Q3
  show Go p e below _ T3 (mkF m 39 #[.val (.ref a), .val (.ref b), .val (.int (0 : Int32)), .val (.int (Int32.ofNat cs.length)), .val .null, .unset] [(.ref a3)])
  refine W3.astore (Ls' := #[.val (.ref a), .val (.ref b), .val (.int (0 : Int32)), .val (.int (Int32.ofNat cs.length)), .val .null, .val (.ref a3)]) (hb hby dU4_39) rfl rfl (pc' := 41) rfl ?_
  refine W3.aloadN (hb hby dU4_41) rfl rfl (pc' := 42) rfl ?_
  refine W3.aload (hb hby dU4_42) rfl rfl (pc' := 44) rfl ?_
  refine W3.iloadN (hb hby dU4_44) rfl (pc' := 45) rfl ?_
  refine W3.callSP (hw _ (List.mem_of_getElem? (i := 31) rfl)) (hw _ (List.mem_of_getElem? (i := 32) rfl)) (hw _ (List.mem_of_getElem? (i := 25) rfl)) (hw _ (List.mem_of_getElem? (i := 33) rfl)) (by decide) (NM.bk (wd := 1) (rmCF l Z a0 hw a3 k3 cs _ h3 n0 W3.n0h V3 (by omega) h1) W3.2.2.2.1 (hw _ (List.mem_of_getElem? (i := 33) rfl)) (hw _ (List.mem_of_getElem? (i := 25) rfl)) (by decide) (by decide)) (hb hby dU4_45) (pc' := 48) rfl hml (argsL := [(.ref a3), (.int (Int32.ofNat cs.length))]) rfl (lenOf pd_91eb8966 rfl) rfl (Nat.le_of_ble_eq_true rfl) (by decide) (by decide) (fun _ _ _ q => pu_of q) ?_
  intro T4 L4 W4
  show Go p e below _ T4 (mkF m 48 #[.val (.ref a), .val (.ref b), .val (.int (0 : Int32)), .val (.int (Int32.ofNat cs.length)), .val .null, .val (.ref a3)] [(.int (1 : Int32)), (.ref a)])
  have F6 := Fld.ext (Keep.toExt K3) FC
  have F7 := Exa.ext (Keep.toExt K3) EX
  have F8 := Fld.ext (Keep.toExt K3) FV
  refine W4.putF (host := "") (Or.inl (hw _ (List.mem_of_getElem? (i := 34) rfl))) Via.refl F6 F7 (Or.inr ⟨(hw _ (List.mem_of_getElem? (i := 35) rfl)), rfl, hnm⟩) (hw _ (List.mem_of_getElem? (i := 10) rfl)) (ty := .byte) (by decide) rfl rfl (hb hby dU4_48) (pc' := 51) rfl (Or.inl (List.mem_of_getElem? (i := 0) rfl)) ga ?_
  intro T5 h5 L5 W5 Q5
  have K5 := Keep.of_wr Q5
  have z5 := K5.1
  have A5 := Exa.wr Q5 F7
  have B5 := Fld.same Q5 F6
  have B5_value := Fld.other Q5 F8 (Or.inr (slot_ne (Or.inr (hw _ (List.mem_of_getElem? (i := 37) rfl))) (Or.inr (hw _ (List.mem_of_getElem? (i := 35) rfl))) (by decide) (t := (.array .byte)) (t' := .byte) (by decide) (by decide)))
  refine W5.aloadN (hb hby dU4_51) rfl rfl (pc' := 52) rfl ?_
  refine W5.aload (hb hby dU4_52) rfl rfl (pc' := 54) rfl ?_
  refine W5.putF (host := "") (Or.inl (hw _ (List.mem_of_getElem? (i := 36) rfl))) Via.refl B5_value A5 (Or.inr ⟨(hw _ (List.mem_of_getElem? (i := 37) rfl)), rfl, hnm⟩) (hw _ (List.mem_of_getElem? (i := 10) rfl)) (ty := (.array .byte)) (by decide) rfl rfl (hb hby dU4_54) (pc' := 57) rfl (Or.inl (List.mem_of_getElem? (i := 0) rfl)) ga ?_
  intro T9 h9 L9 W9 Q9
  have K9 := Keep.of_wr Q9
  have z9 := K9.1
  have A9 := Exa.wr Q9 A5
  have B9 := Fld.same Q9 B5_value
  have B9_coder := Fld.other Q9 B5 (Or.inr (slot_ne (Or.inr (hw _ (List.mem_of_getElem? (i := 35) rfl))) (Or.inr (hw _ (List.mem_of_getElem? (i := 37) rfl))) (by decide) (t := .byte) (t' := (.array .byte)) (by decide) (by decide)))
  have F10 := ((V3.keep K5 (ninS (Ne.symm (Exa.neArv F7 V3 (hw _ (List.mem_of_getElem? (i := 10) rfl)))) nin0)).keep K9 (ninS (Ne.symm (Exa.neArv A5 (V3.keep K5 (ninS (Ne.symm (Exa.neArv F7 V3 (hw _ (List.mem_of_getElem? (i := 10) rfl)))) nin0)) (hw _ (List.mem_of_getElem? (i := 10) rfl)))) nin0))
  exact W9.retV hret (hb hby dU4_57) (by decide) (by decide) ⟨rfl, A9, HB, by omega, a3, k3, 1, _, _, B9, B9_coder, F10, Or.inr ⟨rfl, rfl, rfl, big_mem hbig⟩⟩
theorem dU1_0 : decode jdk_42_method_3_code 0 = .ok (.aload_n 0, 1) := by decide +kernel
theorem dU1_1 : decode jdk_42_method_3_code 1 = .ok (.aload_n 1, 1) := by decide +kernel
theorem dU1_2 : decode jdk_42_method_3_code 2 = .ok (.iconst 0, 1) := by decide +kernel
theorem dU1_3 : decode jdk_42_method_3_code 3 = .ok (.aload_n 1, 1) := by decide +kernel
theorem dU1_4 : decode jdk_42_method_3_code 4 = .ok (.arraylength, 1) := by decide +kernel
theorem dU1_5 : decode jdk_42_method_3_code 5 = .ok (.aconst_null, 1) := by decide +kernel
theorem dU1_6 : decode jdk_42_method_3_code 6 = .ok (.invokespecial 27, 3) := by decide +kernel
theorem pd_2d3984e9 : parseMethodDescriptor "([CIILjava/lang/Void;)V" = some ⟨[(.array .char), .int, .int, (.object "java/lang/Void")], none⟩ := by decide +kernel
theorem dU1_9 : decode jdk_42_method_3_code 9 = .ok (.return_, 1) := by decide +kernel
theorem pn_U1 : plainFor (⟨"java/lang/String", "<init>", "([C)V"⟩ : MethodName) = true := by first | exact plainFor_of_name (by first | (simp [plainName, overriddenIn]; done) | decide +kernel) | decide +kernel
set_option maxRecDepth 65536 in
set_option maxHeartbeats 40000000 in
theorem rmU1 (l : Launch) (Z : State) (a0 : Array Value) (hw : ∀ d ∈ tables_1, d.before a0 Z = true) (a b : Addr) (kb : ClassId) (cs : List Int32) (zc : Int32) (h0 : Heap) (n0 : Nat) (Z0 : n0 ≤ h0.size) (ga : n0 ≤ a) (EX : Exa Z h0 a "java/lang/String") (FV : Fld Z h0 a "java/lang/String" "value" "[B" .null) (FC : Fld Z h0 a "java/lang/String" "coder" "B" (.int (0 : Int32))) (AB : Arv Z h0 b kb .char (Int32.ofNat cs.length) (cs.map Value.int) (.int (0 : Int32))) (hn8 : cs.length ≤ 8) (h1 : 0 < cs.length) (HB : ∀ c ∈ cs, ¬ c < 0 ∧ ¬ (65535 : Int32) < c) (hbig : ∃ j, j < cs.length ∧ (255 : Int32) < cs.getD j 0) (SA1 : Sta Z h0 "java/lang/StringUTF16" "$assertionsDisabled" "Z" (.int (1 : Int32))) (SA2 : Sta Z h0 "java/lang/StringUTF16" "HI_BYTE_SHIFT" "I" (.int (0 : Int32))) (SA3 : Sta Z h0 "java/lang/StringUTF16" "LO_BYTE_SHIFT" "I" (.int (8 : Int32))) (SC : Sta Z h0 "java/lang/String" "COMPACT_STRINGS" "Z" (.int zc)) (hz : ¬ zc = 0) :
    NM l (⟨"java/lang/String", "<init>", "([C)V"⟩ : MethodName) jdk_42_method_3_code 2 none [] ({ frames := 5, cells := 2, slots := 24, locals := 88 } : Room) Z n0 #[(.ref a), (.ref b)] h0 [a] (fun v h => v = none ∧ StrA Z h a cs) := by
  refine NM.walk (Ls := #[.val (.ref a), .val (.ref b)]) pn_U1 Z0 (fun m => by first | (simp [entryFrame, mkF, argsToLocals, Value.category]; done) | rfl) ?_
  intro p e s m below meth c s₁ hby hml hret hnm W0
  refine W0.aloadN (hb hby dU1_0) rfl rfl (pc' := 1) rfl ?_
  refine W0.aloadN (hb hby dU1_1) rfl rfl (pc' := 2) rfl ?_
  refine W0.iconst (0 : Int32) (hb hby dU1_2) rfl (pc' := 3) rfl ?_
  refine W0.aloadN (hb hby dU1_3) rfl rfl (pc' := 4) rfl ?_
  refine W0.arraylength AB (hb hby dU1_4) (pc' := 5) rfl ?_
  refine W0.aconstNull (hb hby dU1_5) (pc' := 6) rfl ?_
  refine W0.callI (y := (⟨"java/lang/String", "<init>", "([CIILjava/lang/Void;)V"⟩ : MethodName)) rfl (hw _ (List.mem_of_getElem? (i := 15) rfl)) (hw _ (List.mem_of_getElem? (i := 16) rfl)) (hw _ (List.mem_of_getElem? (i := 18) rfl)) (by decide) (NM.bk (wd := 0) (rmU4 l Z a0 hw a b kb cs zc h0 n0 W0.n0h ga EX FV FC AB hn8 h1 HB hbig SA1 SA2 SA3 SC hz) W0.2.2.2.1 (hw _ (List.mem_of_getElem? (i := 18) rfl)) (hw _ (List.mem_of_getElem? (i := 11) rfl)) (by decide) (by decide)) (hb hby dU1_6) (pc' := 9) rfl hml (a := a) (argsL := [(.ref b), (.int (0 : Int32)), (.int (Int32.ofNat cs.length)), .null]) rfl (lenOf pd_2d3984e9 rfl) rfl (Nat.le_of_ble_eq_true rfl) (by decide) (by decide) (ws' := [a]) (fun _ _ _ q => ⟨q.2.2, q.2.1⟩) (allS (Or.inl (List.mem_of_getElem? (i := 0) rfl)) all0) ?_
  intro v1 T1 h1 L1' L1 W1 Q1 K1
  have z1 := K1.1
  obtain ⟨⟨rfl, S1⟩, -, -⟩ := Q1
  show Go p e below _ T1 (mkF m 9 #[.val (.ref a), .val (.ref b)] [])
  exact W1.retV hret (hb hby dU1_9) (by decide) (by decide) ⟨rfl, S1⟩
theorem dIL_0 : decode jdk_42_method_154_code 0 = .ok (.getstatic 38, 3) := by decide +kernel
theorem dIL_3 : decode jdk_42_method_154_code 3 = .ok (.ifCond .eq 14, 3) := by decide +kernel
theorem dIL_6 : decode jdk_42_method_154_code 6 = .ok (.aload_n 0, 1) := by decide +kernel
theorem dIL_7 : decode jdk_42_method_154_code 7 = .ok (.getfield 15, 3) := by decide +kernel
theorem dIL_10 : decode jdk_42_method_154_code 10 = .ok (.ifCond .ne 7, 3) := by decide +kernel
theorem dIL_17 : decode jdk_42_method_154_code 17 = .ok (.iconst 0, 1) := by decide +kernel
theorem dIL_18 : decode jdk_42_method_154_code 18 = .ok (.ireturn, 1) := by decide +kernel
theorem pn_IL : plainFor (⟨"java/lang/String", "isLatin1", "()Z"⟩ : MethodName) = true := by first | exact plainFor_of_name (by first | (simp [plainName, overriddenIn]; done) | decide +kernel) | decide +kernel
set_option maxRecDepth 65536 in
set_option maxHeartbeats 40000000 in
theorem rmIL (l : Launch) (Z : State) (a0 : Array Value) (hw : ∀ d ∈ tables_1, d.before a0 Z = true) (a : Addr) (zc : Int32) (h0 : Heap) (n0 : Nat) (Z0 : n0 ≤ h0.size) (FC : Fld Z h0 a "java/lang/String" "coder" "B" (.int (1 : Int32))) (SC : Sta Z h0 "java/lang/String" "COMPACT_STRINGS" "Z" (.int zc)) (hz : ¬ zc = 0) :
    NM l (⟨"java/lang/String", "isLatin1", "()Z"⟩ : MethodName) jdk_42_method_154_code 1 (some .boolean) [] ({ frames := 0, cells := 0, slots := 0, locals := 0 } : Room) Z n0 #[(.ref a)] h0 [] (Pu (some (.int (0 : Int32))) h0) := by
  refine NM.walk (Ls := #[.val (.ref a)]) pn_IL Z0 (fun m => by first | (simp [entryFrame, mkF, argsToLocals, Value.category]; done) | rfl) ?_
  intro p e s m below meth c s₁ hby hml hret hnm W0
  refine W0.getS (host := "") (Or.inl (hw _ (List.mem_of_getElem? (i := 22) rfl))) Via.refl SC (hb hby dIL_0) (pc' := 3) rfl ?_
  intro T1 W1
  refine W1.ifNo (hb hby dIL_3) (XT.i0_eq_f hz) (pc' := 6) rfl ?_
  refine W1.aloadN (hb hby dIL_6) rfl rfl (pc' := 7) rfl ?_
  refine W1.getF (host := "") (Or.inl (hw _ (List.mem_of_getElem? (i := 34) rfl))) Via.refl FC (hb hby dIL_7) (pc' := 10) rfl ?_
  intro T2 W2
  refine W2.ifYes (hb hby dIL_10) (XT.i0_ne_t (by decide)) (by decide) (pc' := 17) (by decide) ?_
  refine W2.iconst (0 : Int32) (hb hby dIL_17) rfl (pc' := 18) rfl ?_
  exact W2.retZ hret (hb hby dIL_18) (by decide) (by decide) (by decide) ⟨rfl, rfl⟩
theorem dCK_0 : decode jdk_41_method_11_code 0 = .ok (.iload_n 0, 1) := by decide +kernel
theorem dCK_1 : decode jdk_41_method_11_code 1 = .ok (.ifCond .lt 8, 3) := by decide +kernel
theorem dCK_4 : decode jdk_41_method_11_code 4 = .ok (.iload_n 0, 1) := by decide +kernel
theorem dCK_5 : decode jdk_41_method_11_code 5 = .ok (.iload_n 1, 1) := by decide +kernel
theorem dCK_6 : decode jdk_41_method_11_code 6 = .ok (.if_icmp .lt 10, 3) := by decide +kernel
theorem dCK_16 : decode jdk_41_method_11_code 16 = .ok (.iload_n 0, 1) := by decide +kernel
theorem dCK_17 : decode jdk_41_method_11_code 17 = .ok (.ireturn, 1) := by decide +kernel
theorem pn_CK : plainFor (⟨"jdk/internal/util/Preconditions", "checkIndex", "(IILjava/util/function/BiFunction;)I"⟩ : MethodName) = true := by first | exact plainFor_of_name (by first | (simp [plainName, overriddenIn]; done) | decide +kernel) | decide +kernel
set_option maxRecDepth 65536 in
set_option maxHeartbeats 40000000 in
theorem rmCK (l : Launch) (Z : State) (a0 : Array Value) (hw : ∀ d ∈ tables_1, d.before a0 Z = true) (i n : Nat) (fm : Value) (h0 : Heap) (n0 : Nat) (Z0 : n0 ≤ h0.size) (rfm : fm.isRef = true) (hn : n ≤ 4000) (hi : i < n) :
    NM l (⟨"jdk/internal/util/Preconditions", "checkIndex", "(IILjava/util/function/BiFunction;)I"⟩ : MethodName) jdk_41_method_11_code 3 (some .int) [] ({ frames := 0, cells := 0, slots := 0, locals := 0 } : Room) Z n0 #[(.int (Int32.ofNat i)), (.int (Int32.ofNat n)), fm] h0 [] (Pu (some (.int (Int32.ofNat i))) h0) := by
  refine NM.walk (Ls := #[.val (.int (Int32.ofNat i)), .val (.int (Int32.ofNat n)), .val fm]) pn_CK Z0 (fun m => by rcases ref_cases rfm with rfl | ⟨_, rfl⟩ <;> first | (simp [entryFrame, mkF, argsToLocals, Value.category]; done) | rfl) ?_
  intro p e s m below meth c s₁ hby hml hret hnm W0
  refine W0.iloadN (hb hby dCK_0) rfl (pc' := 1) rfl ?_
  refine W0.ifNo (hb hby dCK_1) (XT.i0_lt_f (ofNat_nn (by omega))) (pc' := 4) rfl ?_
  refine W0.iloadN (hb hby dCK_4) rfl (pc' := 5) rfl ?_
  refine W0.iloadN (hb hby dCK_5) rfl (pc' := 6) rfl ?_
  refine W0.icmpYes (hb hby dCK_6) (XT.ii_lt_t ((ofNat_lt (by omega) (by omega)).mpr hi)) (by decide) (pc' := 16) (by decide) ?_
  refine W0.iloadN (hb hby dCK_16) rfl (pc' := 17) rfl ?_
  exact W0.retI hret (hb hby dCK_17) (by decide) (by decide) ⟨rfl, rfl⟩
theorem dSCK_0 : decode jdk_42_method_155_code 0 = .ok (.iload_n 0, 1) := by decide +kernel
theorem dSCK_1 : decode jdk_42_method_155_code 1 = .ok (.iload_n 1, 1) := by decide +kernel
theorem dSCK_2 : decode jdk_42_method_155_code 2 = .ok (.getstatic 1053, 3) := by decide +kernel
theorem dSCK_5 : decode jdk_42_method_155_code 5 = .ok (.invokestatic 1059, 3) := by decide +kernel
theorem pd_cf802943 : parseMethodDescriptor "(IILjava/util/function/BiFunction;)I" = some ⟨[.int, .int, (.object "java/util/function/BiFunction")], some .int⟩ := by decide +kernel
theorem dSCK_8 : decode jdk_42_method_155_code 8 = .ok (.pop, 1) := by decide +kernel
theorem dSCK_9 : decode jdk_42_method_155_code 9 = .ok (.return_, 1) := by decide +kernel
theorem pn_SCK : plainFor (⟨"java/lang/String", "checkIndex", "(II)V"⟩ : MethodName) = true := by first | exact plainFor_of_name (by first | (simp [plainName, overriddenIn]; done) | decide +kernel) | decide +kernel
set_option maxRecDepth 65536 in
set_option maxHeartbeats 40000000 in
theorem rmSCK (l : Launch) (Z : State) (a0 : Array Value) (hw : ∀ d ∈ tables_1, d.before a0 Z = true) (i n : Nat) (fm : Value) (h0 : Heap) (n0 : Nat) (Z0 : n0 ≤ h0.size) (SF : Sta Z h0 "jdk/internal/util/Preconditions" "SIOOBE_FORMATTER" "Ljava/util/function/BiFunction;" fm) (rfm : fm.isRef = true) (hn : n ≤ 4000) (hi : i < n) :
    NM l (⟨"java/lang/String", "checkIndex", "(II)V"⟩ : MethodName) jdk_42_method_155_code 2 none [] ({ frames := 1, cells := 0, slots := 0, locals := 14 } : Room) Z n0 #[(.int (Int32.ofNat i)), (.int (Int32.ofNat n))] h0 [] (Pu none h0) := by
  refine NM.walk (Ls := #[.val (.int (Int32.ofNat i)), .val (.int (Int32.ofNat n))]) pn_SCK Z0 (fun m => by first | (simp [entryFrame, mkF, argsToLocals, Value.category]; done) | rfl) ?_
  intro p e s m below meth c s₁ hby hml hret hnm W0
  refine W0.iloadN (hb hby dSCK_0) rfl (pc' := 1) rfl ?_
  refine W0.iloadN (hb hby dSCK_1) rfl (pc' := 2) rfl ?_
  refine W0.getS (host := "") (Or.inl (hw _ (List.mem_of_getElem? (i := 89) rfl))) Via.refl SF (hb hby dSCK_2) (pc' := 5) rfl ?_
  intro T1 W1
  refine W1.callSP (hw _ (List.mem_of_getElem? (i := 91) rfl)) (hw _ (List.mem_of_getElem? (i := 92) rfl)) (hw _ (List.mem_of_getElem? (i := 90) rfl)) (hw _ (List.mem_of_getElem? (i := 93) rfl)) (by decide) (NM.bk (wd := 0) (rmCK l Z a0 hw i n fm h0 n0 W1.n0h rfm hn hi) W1.2.2.2.1 (hw _ (List.mem_of_getElem? (i := 93) rfl)) (hw _ (List.mem_of_getElem? (i := 90) rfl)) (by decide) (by decide)) (hb hby dSCK_5) (pc' := 8) rfl hml (argsL := [(.int (Int32.ofNat i)), (.int (Int32.ofNat n)), fm]) rfl (lenOf pd_cf802943 rfl) rfl (Nat.le_of_ble_eq_true rfl) (by decide) (by decide) (fun _ _ _ q => pu_of q) ?_
  intro T2 L2 W2
  show Go p e below _ T2 (mkF m 8 #[.val (.int (Int32.ofNat i)), .val (.int (Int32.ofNat n))] [(.int (Int32.ofNat i))])
  refine W2.pop (hb hby dSCK_8) rfl (pc' := 9) rfl ?_
  exact W2.retV hret (hb hby dSCK_9) (by decide) (by decide) ⟨rfl, rfl⟩
section StrNew
variable {p : Program} {l : Launch} {e : Env} {R : Room} {s : State} {args : Array Value} {below : List Frame} {Z : State} {h : Heap} {a0 : Array Value} {len wd : Nat} {n0 : Nat}
theorem BK.pad {y : MethodName} {as' : Array Value} {rc rs rc' rs' : Nat} {Q : Option Value → Heap → List Loc → Prop} (hK : BK l R p e below s args y len wd as' h rc rs Q) (h1 : rc ≤ rc') (h2 : rs ≤ rs') : BK l R p e below s args y len wd as' h rc' rs' Q := by
  intro m meth c A g ig mk a X hg hsize hdg hW hn hp
  obtain ⟨v, B, X', ⟨L, q, e1, e2, e3⟩, st⟩ := hK m meth c A g ig mk a X hg hsize hdg hW hn ⟨hp.1, hp.2.1, Nat.le_trans (Nat.add_le_add_left h1 _) hp.2.2.1, Nat.le_trans (Nat.add_le_add_left h2 _) hp.2.2.2⟩
  exact ⟨v, ⟨B.U, B.locs, A.cells + rc', A.slots + rs'⟩, X'.mono (by rw [e2]; exact Nat.add_le_add_left h1 _) (by rw [e3]; exact Nat.add_le_add_left h2 _), ⟨L, q, e1, rfl, rfl⟩, st⟩
/-- new String(chars), of 1 to 8 chars -/
theorem newStr (hZ : Z.Warmed39 s.vm) (hw : ∀ d ∈ tables_1, d.before a0 Z = true) {x b : Addr} {kb : ClassId} {cs : List Int32} {zc : Int32} (wi : (Jvm.Cond.instantiable "java/lang/String" 4).before a0 Z = true)
    (wc : (Cond.code (⟨"java/lang/String", "<init>", "([C)V"⟩ : MethodName) jdk_42_method_3_code 2 none).before a0 Z = true) (wz : (Cond.initialized "java/lang/String").before a0 Z = true) (gx : n0 ≤ x) (hn0 : n0 ≤ h.size) (EX : Exa Z h x "java/lang/String") (FV : Fld Z h x "java/lang/String" "value" "[B" .null) (FC : Fld Z h x "java/lang/String" "coder" "B" (.int (0 : Int32))) (AB : Arv Z h b kb .char (Int32.ofNat cs.length) (cs.map Value.int) (.int (0 : Int32))) (hn8 : cs.length ≤ 8) (h1 : 0 < cs.length) (HB : ∀ c ∈ cs, ¬ c < 0 ∧ ¬ (65535 : Int32) < c)
    (SA1 : Sta Z h "java/lang/StringUTF16" "$assertionsDisabled" "Z" (.int (1 : Int32))) (SA2 : Sta Z h "java/lang/StringUTF16" "HI_BYTE_SHIFT" "I" (.int (0 : Int32))) (SA3 : Sta Z h "java/lang/StringUTF16" "LO_BYTE_SHIFT" "I" (.int (8 : Int32))) (SC : Sta Z h "java/lang/String" "COMPACT_STRINGS" "Z" (.int zc)) (hz : ¬ zc = 0) (hfr : 6 ≤ R.frames) (hlo : wd + 101 ≤ R.locals) :
    BK l R p e below s args (⟨"java/lang/String", "<init>", "([C)V"⟩ : MethodName) len wd #[.ref x, .ref b] h 2 24 (fun v h' L => (v = none ∧ StrA Z h' x cs) ∧ Keep h h' [x] ∧ Fr n0 L) := by
  by_cases hall : ∀ c ∈ cs, ¬ (255 : Int32) < c
  · have hp : ∀ c ∈ cs, ¬ c < 0 ∧ ¬ (255 : Int32) < c := fun c hc => ⟨(HB c hc).1, hall c hc⟩
    refine BK.pad (rc := 1) (rs := cs.length) (Back.mono (StrChars.Road.backV (W := wd) (len := len) hZ (fun d hd => hw d (hwords d hd)) (kI := 4) wi (cs := cs) (bs := cs.map (fun c => c.toInt8.toInt32)) (n := cs.length) gx hn0 EX FV FC AB SC hz rfl rfl h1 (by omega) hp rfl (by omega) (by omega)) (fun A a hp => hp) (fun A a v B hp' hq => ?_)) (by omega) (by omega)
    obtain ⟨L, ⟨q1, q2, q3, q4, q5, t, kb', -, -, -, q6, q7⟩, r⟩ := hq
    exact ⟨L, ⟨⟨q1, StrA.make q4 q5 q6 q7 rfl (by omega) hp⟩, q3, q2⟩, r⟩
  · have hbig : ∃ j, j < cs.length ∧ (255 : Int32) < cs.getD j 0 := by
      refine Classical.byContradiction fun q => hall fun c hc hlt => q ?_
      obtain ⟨j, hj, rfl⟩ := List.getElem_of_mem hc
      exact ⟨j, hj, by rw [List.getD_eq_getElem?_getD, List.getElem?_eq_getElem hj]; exact hlt⟩
    exact NM.bk (rmU1 l Z a0 hw x b kb cs zc h n0 hn0 gx EX FV FC AB hn8 h1 HB hbig SA1 SA2 SA3 SC hz) hZ wc wz hfr hlo
end StrNew
theorem dE4_0 : decode jdk_42_method_149_code 0 = .ok (.aload_n 0, 1) := by decide +kernel
theorem dE4_1 : decode jdk_42_method_149_code 1 = .ok (.invokespecial 1, 3) := by decide +kernel
theorem dE4_4 : decode jdk_42_method_149_code 4 = .ok (.iload_n 3, 1) := by decide +kernel
theorem dE4_5 : decode jdk_42_method_149_code 5 = .ok (.ifCond .ne 22, 3) := by decide +kernel
theorem dE4_8 : decode jdk_42_method_149_code 8 = .ok (.aload_n 0, 1) := by decide +kernel
theorem dE4_9 : decode jdk_42_method_149_code 9 = .ok (.ldc 7, 2) := by decide +kernel
theorem dE4_11 : decode jdk_42_method_149_code 11 = .ok (.getfield 9, 3) := by decide +kernel
theorem dE4_14 : decode jdk_42_method_149_code 14 = .ok (.putfield 9, 3) := by decide +kernel
theorem dE4_17 : decode jdk_42_method_149_code 17 = .ok (.aload_n 0, 1) := by decide +kernel
theorem dE4_18 : decode jdk_42_method_149_code 18 = .ok (.ldc 7, 2) := by decide +kernel
theorem dE4_20 : decode jdk_42_method_149_code 20 = .ok (.getfield 15, 3) := by decide +kernel
theorem dE4_23 : decode jdk_42_method_149_code 23 = .ok (.putfield 15, 3) := by decide +kernel
theorem dE4_26 : decode jdk_42_method_149_code 26 = .ok (.return_, 1) := by decide +kernel
theorem pn_E4 : plainFor (⟨"java/lang/String", "<init>", "([CIILjava/lang/Void;)V"⟩ : MethodName) = true := by first | exact plainFor_of_name (by first | (simp [plainName, overriddenIn]; done) | decide +kernel) | decide +kernel
set_option maxRecDepth 65536 in
set_option maxHeartbeats 40000000 in
theorem rmE4 (l : Launch) (Z : State) (a0 : Array Value) (hw : ∀ d ∈ tables_1, d.before a0 Z = true) (hEL : EW Z a0 consts_1) (a b : Addr) (h0 : Heap) (n0 : Nat) (Z0 : n0 ≤ h0.size) (ga : n0 ≤ a) (EX : Exa Z h0 a "java/lang/String") (FV : Fld Z h0 a "java/lang/String" "value" "[B" .null) (FC : Fld Z h0 a "java/lang/String" "coder" "B" (.int (0 : Int32))) :
    WM l (⟨"java/lang/String", "<init>", "([CIILjava/lang/Void;)V"⟩ : MethodName) jdk_42_method_149_code 6 none [] ({ frames := 1, cells := 4, slots := 8, locals := 13 } : Room) Z consts_1 n0 #[(.ref a), (.ref b), (.int (0 : Int32)), (.int (0 : Int32)), .null] h0 [a] (fun v h => v = none ∧ StrA Z h a []) := by
  refine WM.walk (Ls := #[.val (.ref a), .val (.ref b), .val (.int (0 : Int32)), .val (.int (0 : Int32)), .val .null, .unset]) pn_E4 Z0 (fun m => by first | (simp [entryFrame, mkF, argsToLocals, Value.category]; done) | rfl) ?_
  intro p e s m below meth c s₁ hby hml hret hnm W0
  have hwS : ∀ d ∈ Bundle.stringAtoms, d.before a0 Z = true := fun d hd => hw d (hwAtoms d hd)
  refine W0.1.aloadN (hb hby dE4_0) rfl rfl (pc' := 1) rfl ?_
  refine W0.1.initO (hw _ (List.mem_of_getElem? (i := 19) rfl)) (hw _ (List.mem_of_getElem? (i := 20) rfl)) (hw _ (List.mem_of_getElem? (i := 21) rfl)) (hb hby dE4_1) (pc' := 4) rfl hml (by decide) (wd := 0) (Nat.le_of_ble_eq_true rfl) (by decide) ?_
  intro T1 N1
  have W1 := W0.same N1
  refine W1.1.iloadN (hb hby dE4_4) rfl (pc' := 5) rfl ?_
  refine W1.1.ifNo (hb hby dE4_5) (XT.i0_ne_f (by decide)) (pc' := 8) rfl ?_
  refine W1.1.aloadN (hb hby dE4_8) rfl rfl (pc' := 9) rfl ?_
  refine W1.ldcS hEL (hw _ (List.mem_of_getElem? (i := 38) rfl)) hwS (by decide) (vs := []) (z := (0 : Int32)) ⟨by decide, by decide⟩ (by decide) rfl (hb hby dE4_9) (pc' := 11) rfl (n := 0) (by decide) (by decide) (by decide) (by decide) ?_
  intro T2 h2 vm2 a2 b2 k2 W2 E2 C2 A2 B2 D2 V2 hne2
  have z2 := E2.1
  have F3 := Exa.ext E2 EX
  have F4 := Fld.ext E2 FV
  have Sf2_a := (safe_null (EL := consts_1) W2.1.2.2.2.1.alike F3 F4)
  refine W2.1.getF (host := "") (Or.inl (hw _ (List.mem_of_getElem? (i := 36) rfl))) Via.refl D2 (hb hby dE4_11) (pc' := 14) rfl ?_
  intro T5 N5
  have W5 := W2.same N5
  have F7 := Fld.ext E2 FC
  refine W5.1.putF (host := "") (Or.inl (hw _ (List.mem_of_getElem? (i := 36) rfl))) Via.refl F4 F3 (Or.inr ⟨(hw _ (List.mem_of_getElem? (i := 37) rfl)), rfl, hnm⟩) (hw _ (List.mem_of_getElem? (i := 10) rfl)) (ty := (.array .byte)) (by decide) rfl rfl (hb hby dE4_14) (pc' := 17) rfl (Or.inl (List.mem_of_getElem? (i := 0) rfl)) ga ?_
  intro T6 h6 L6 N6 Q6
  have K6 := Keep.of_wr Q6
  have z6 := K6.1
  have W6 := W5.up N6 K6 (sfS Sf2_a sf0)
  have Sf6 := W5.safeK Sf2_a K6 (sfS Sf2_a sf0)
  have A6 := Exa.wr Q6 F3
  have B6 := Fld.same Q6 F4
  have B6_coder := Fld.other Q6 F7 (Or.inr (slot_ne (Or.inr (hw _ (List.mem_of_getElem? (i := 35) rfl))) (Or.inr (hw _ (List.mem_of_getElem? (i := 37) rfl))) (by decide) (t := .byte) (t' := (.array .byte)) (by decide) (by decide)))
  refine W6.1.aloadN (hb hby dE4_17) rfl rfl (pc' := 18) rfl ?_
  refine W6.ldcS hEL (hw _ (List.mem_of_getElem? (i := 38) rfl)) hwS (by decide) (vs := []) (z := (0 : Int32)) ⟨by decide, by decide⟩ (by decide) rfl (hb hby dE4_18) (pc' := 20) rfl (n := 0) (by decide) (by decide) (by decide) (by decide) ?_
  intro T8 h8 vm8 a8 b8 k8 W8 E8 C8 A8 B8 D8 V8 hne8
  have z8 := E8.1
  have Sf8_a := C8.safe A6.lt Sf6
  refine W8.1.getF (host := "") (Or.inl (hw _ (List.mem_of_getElem? (i := 34) rfl))) Via.refl B8 (hb hby dE4_20) (pc' := 23) rfl ?_
  intro T9 N9
  have W9 := W8.same N9
  have F11 := Fld.ext E8 B6_coder
  have F12 := Exa.ext E8 A6
  have F13 := Fld.ext E8 B6
  refine W9.1.putF (host := "") (Or.inl (hw _ (List.mem_of_getElem? (i := 34) rfl))) Via.refl F11 F12 (Or.inr ⟨(hw _ (List.mem_of_getElem? (i := 35) rfl)), rfl, hnm⟩) (hw _ (List.mem_of_getElem? (i := 10) rfl)) (ty := .byte) (by decide) rfl rfl (hb hby dE4_23) (pc' := 26) rfl (Or.inl (List.mem_of_getElem? (i := 0) rfl)) ga ?_
  intro T10 h10 L10 N10 Q10
  have K10 := Keep.of_wr Q10
  have z10 := K10.1
  have W10 := W9.up N10 K10 (sfS Sf8_a sf0)
  have Sf10 := W9.safeK Sf8_a K10 (sfS Sf8_a sf0)
  have A10 := Exa.wr Q10 F12
  have B10 := Fld.same Q10 F11
  have B10_value := Fld.other Q10 F13 (Or.inr (slot_ne (Or.inr (hw _ (List.mem_of_getElem? (i := 37) rfl))) (Or.inr (hw _ (List.mem_of_getElem? (i := 35) rfl))) (by decide) (t := (.array .byte)) (t' := .byte) (by decide) (by decide)))
  have F14 := (((V2.keep K6 (ninS (Ne.symm (Exa.neArv F3 V2 (hw _ (List.mem_of_getElem? (i := 10) rfl)))) nin0)).ext E8).keep K10 (ninS (Ne.symm (Exa.neArv F12 ((V2.keep K6 (ninS (Ne.symm (Exa.neArv F3 V2 (hw _ (List.mem_of_getElem? (i := 10) rfl)))) nin0)).ext E8) (hw _ (List.mem_of_getElem? (i := 10) rfl)))) nin0))
  exact W10.retV hEL hret (hb hby dE4_26) (by decide) (by decide) ⟨rfl, StrA.make A10 B10 B10_value F14 rfl (by decide) mem0⟩
theorem dE1_0 : decode jdk_42_method_3_code 0 = .ok (.aload_n 0, 1) := by decide +kernel
theorem dE1_1 : decode jdk_42_method_3_code 1 = .ok (.aload_n 1, 1) := by decide +kernel
theorem dE1_2 : decode jdk_42_method_3_code 2 = .ok (.iconst 0, 1) := by decide +kernel
theorem dE1_3 : decode jdk_42_method_3_code 3 = .ok (.aload_n 1, 1) := by decide +kernel
theorem dE1_4 : decode jdk_42_method_3_code 4 = .ok (.arraylength, 1) := by decide +kernel
theorem dE1_5 : decode jdk_42_method_3_code 5 = .ok (.aconst_null, 1) := by decide +kernel
theorem dE1_6 : decode jdk_42_method_3_code 6 = .ok (.invokespecial 27, 3) := by decide +kernel
theorem dE1_9 : decode jdk_42_method_3_code 9 = .ok (.return_, 1) := by decide +kernel
theorem pn_E1 : plainFor (⟨"java/lang/String", "<init>", "([C)V"⟩ : MethodName) = true := by first | exact plainFor_of_name (by first | (simp [plainName, overriddenIn]; done) | decide +kernel) | decide +kernel
set_option maxRecDepth 65536 in
set_option maxHeartbeats 40000000 in
theorem rmE1 (l : Launch) (Z : State) (a0 : Array Value) (hw : ∀ d ∈ tables_1, d.before a0 Z = true) (hEL : EW Z a0 consts_1) (a b : Addr) (kb : ClassId) (h0 : Heap) (n0 : Nat) (Z0 : n0 ≤ h0.size) (ga : n0 ≤ a) (EX : Exa Z h0 a "java/lang/String") (FV : Fld Z h0 a "java/lang/String" "value" "[B" .null) (FC : Fld Z h0 a "java/lang/String" "coder" "B" (.int (0 : Int32))) (AB : Arv Z h0 b kb .char (0 : Int32) [] (.int (0 : Int32))) :
    WM l (⟨"java/lang/String", "<init>", "([C)V"⟩ : MethodName) jdk_42_method_3_code 2 none [] ({ frames := 2, cells := 4, slots := 8, locals := 30 } : Room) Z consts_1 n0 #[(.ref a), (.ref b)] h0 [a] (fun v h => v = none ∧ StrA Z h a []) := by
  refine WM.walk (Ls := #[.val (.ref a), .val (.ref b)]) pn_E1 Z0 (fun m => by first | (simp [entryFrame, mkF, argsToLocals, Value.category]; done) | rfl) ?_
  intro p e s m below meth c s₁ hby hml hret hnm W0
  refine W0.1.aloadN (hb hby dE1_0) rfl rfl (pc' := 1) rfl ?_
  refine W0.1.aloadN (hb hby dE1_1) rfl rfl (pc' := 2) rfl ?_
  refine W0.1.iconst (0 : Int32) (hb hby dE1_2) rfl (pc' := 3) rfl ?_
  refine W0.1.aloadN (hb hby dE1_3) rfl rfl (pc' := 4) rfl ?_
  refine W0.1.arraylength AB (hb hby dE1_4) (pc' := 5) rfl ?_
  refine W0.1.aconstNull (hb hby dE1_5) (pc' := 6) rfl ?_
  refine W0.callI (y := (⟨"java/lang/String", "<init>", "([CIILjava/lang/Void;)V"⟩ : MethodName)) rfl (hw _ (List.mem_of_getElem? (i := 15) rfl)) (hw _ (List.mem_of_getElem? (i := 16) rfl)) (hw _ (List.mem_of_getElem? (i := 18) rfl)) (by decide) (WM.bk (wd := 0) (rmE4 l Z a0 hw hEL a b h0 n0 W0.1.n0h ga EX FV FC) W0.1.2.2.2.1 (hw _ (List.mem_of_getElem? (i := 18) rfl)) (hw _ (List.mem_of_getElem? (i := 11) rfl)) (by decide) (by decide) hEL W0.2.2.1) (hb hby dE1_6) (pc' := 9) rfl hml (a := a) (argsL := [(.ref b), (.int (0 : Int32)), (.int (0 : Int32)), .null]) rfl (lenOf pd_2d3984e9 rfl) rfl (Nat.le_of_ble_eq_true rfl) (by decide) (by decide) (ws' := [a]) (fun _ _ _ q => ⟨q.2.2, q.2.1⟩) (allS (Or.inl (List.mem_of_getElem? (i := 0) rfl)) all0) ?_
  intro v1 T1 h1 vm1 L1' L1 W1 Q1 K1 C1
  have z1 := K1.1
  obtain ⟨⟨rfl, S1⟩, -, -⟩ := Q1
  show Go p e below _ T1 (mkF m 9 #[.val (.ref a), .val (.ref b)] [])
  exact W1.retV hEL hret (hb hby dE1_9) (by decide) (by decide) ⟨rfl, S1⟩
--CUT own
def hsF (q : Int32) : Int32 := (if q < (55296 : Int32) then (0 : Int32) else (if q < (56320 : Int32) then (1 : Int32) else (0 : Int32)))
theorem dHS_0 : decode jdk_89_method_14_code 0 = .ok (.iload_n 0, 1) := by decide +kernel
theorem dHS_1 : decode jdk_89_method_14_code 1 = .ok (.ldc 75, 2) := by decide +kernel
theorem dHS_3 : decode jdk_89_method_14_code 3 = .ok (.if_icmp .lt 13, 3) := by decide +kernel
theorem dHS_16 : decode jdk_89_method_14_code 16 = .ok (.iconst 0, 1) := by decide +kernel
theorem dHS_17 : decode jdk_89_method_14_code 17 = .ok (.ireturn, 1) := by decide +kernel
theorem dHS_6 : decode jdk_89_method_14_code 6 = .ok (.iload_n 0, 1) := by decide +kernel
theorem dHS_7 : decode jdk_89_method_14_code 7 = .ok (.ldc 76, 2) := by decide +kernel
theorem dHS_9 : decode jdk_89_method_14_code 9 = .ok (.if_icmp .ge 7, 3) := by decide +kernel
theorem dHS_12 : decode jdk_89_method_14_code 12 = .ok (.iconst 1, 1) := by decide +kernel
theorem dHS_13 : decode jdk_89_method_14_code 13 = .ok (.goto 4, 3) := by decide +kernel
theorem pn_HS : plainFor (⟨"java/lang/Character", "isHighSurrogate", "(C)Z"⟩ : MethodName) = true := by first | exact plainFor_of_name (by first | (simp [plainName, overriddenIn]; done) | decide +kernel) | decide +kernel
set_option maxRecDepth 65536 in
set_option maxHeartbeats 40000000 in
theorem rmHS (l : Launch) (Z : State) (a0 : Array Value) (hw : ∀ d ∈ tables_1, d.before a0 Z = true) (q : Int32) (h0 : Heap) (n0 : Nat) (Z0 : n0 ≤ h0.size)  :
    NM l (⟨"java/lang/Character", "isHighSurrogate", "(C)Z"⟩ : MethodName) jdk_89_method_14_code 1 (some .boolean) [] ({ frames := 0, cells := 0, slots := 0, locals := 0 } : Room) Z n0 #[(.int q)] h0 [] (Pu (some (.int (hsF q))) h0) := by
  refine NM.walk (Ls := #[.val (.int q)]) pn_HS Z0 (fun m => by first | (simp [entryFrame, mkF, argsToLocals, Value.category]; done) | rfl) ?_
  intro p e s m below meth c s₁ hby hml hret hnm W0
  refine W0.iloadN (hb hby dHS_0) rfl (pc' := 1) rfl ?_
  refine W0.ldcI (hb hby dHS_1) (hw _ (List.mem_of_getElem? (i := 125) rfl)) (pc' := 3) rfl ?_
  by_cases hc1 : q < (55296 : Int32)
  · refine W0.icmpYes (hb hby dHS_3) (XT.ii_lt_t hc1) (by decide) (pc' := 16) (by decide) ?_
    refine W0.iconst (0 : Int32) (hb hby dHS_16) rfl (pc' := 17) rfl ?_
    exact W0.retZ hret (hb hby dHS_17) (by decide) (by decide) (by decide) ⟨congrArg (fun z => some (Value.int z)) (by rw [hsF, if_pos hc1]), rfl⟩
  · refine W0.icmpNo (hb hby dHS_3) (XT.ii_lt_f hc1) (pc' := 6) rfl ?_
    refine W0.iloadN (hb hby dHS_6) rfl (pc' := 7) rfl ?_
    refine W0.ldcI (hb hby dHS_7) (hw _ (List.mem_of_getElem? (i := 126) rfl)) (pc' := 9) rfl ?_
    by_cases hc2 : q < (56320 : Int32)
    · refine W0.icmpNo (hb hby dHS_9) (XT.ii_ge_f hc2) (pc' := 12) rfl ?_
      refine W0.iconst (1 : Int32) (hb hby dHS_12) rfl (pc' := 13) rfl ?_
      refine W0.goto (hb hby dHS_13) (by decide) (pc' := 17) (by decide) ?_
      exact W0.retZ hret (hb hby dHS_17) (by decide) (by decide) (by decide) ⟨congrArg (fun z => some (Value.int z)) (by rw [hsF, if_neg hc1, if_pos hc2]), rfl⟩
    · refine W0.icmpYes (hb hby dHS_9) (XT.ii_ge_t hc2) (by decide) (pc' := 16) (by decide) ?_
      refine W0.iconst (0 : Int32) (hb hby dHS_16) rfl (pc' := 17) rfl ?_
      exact W0.retZ hret (hb hby dHS_17) (by decide) (by decide) (by decide) ⟨congrArg (fun z => some (Value.int z)) (by rw [hsF, if_neg hc1, if_neg hc2]), rfl⟩
def lsF (q : Int32) : Int32 := (if q < (56320 : Int32) then (0 : Int32) else (if q < (57344 : Int32) then (1 : Int32) else (0 : Int32)))
theorem dLS_0 : decode jdk_89_method_15_code 0 = .ok (.iload_n 0, 1) := by decide +kernel
theorem dLS_1 : decode jdk_89_method_15_code 1 = .ok (.ldc 76, 2) := by decide +kernel
theorem dLS_3 : decode jdk_89_method_15_code 3 = .ok (.if_icmp .lt 13, 3) := by decide +kernel
theorem dLS_16 : decode jdk_89_method_15_code 16 = .ok (.iconst 0, 1) := by decide +kernel
theorem dLS_17 : decode jdk_89_method_15_code 17 = .ok (.ireturn, 1) := by decide +kernel
theorem dLS_6 : decode jdk_89_method_15_code 6 = .ok (.iload_n 0, 1) := by decide +kernel
theorem dLS_7 : decode jdk_89_method_15_code 7 = .ok (.ldc 77, 2) := by decide +kernel
theorem dLS_9 : decode jdk_89_method_15_code 9 = .ok (.if_icmp .ge 7, 3) := by decide +kernel
theorem dLS_12 : decode jdk_89_method_15_code 12 = .ok (.iconst 1, 1) := by decide +kernel
theorem dLS_13 : decode jdk_89_method_15_code 13 = .ok (.goto 4, 3) := by decide +kernel
theorem pn_LS : plainFor (⟨"java/lang/Character", "isLowSurrogate", "(C)Z"⟩ : MethodName) = true := by first | exact plainFor_of_name (by first | (simp [plainName, overriddenIn]; done) | decide +kernel) | decide +kernel
set_option maxRecDepth 65536 in
set_option maxHeartbeats 40000000 in
theorem rmLS (l : Launch) (Z : State) (a0 : Array Value) (hw : ∀ d ∈ tables_1, d.before a0 Z = true) (q : Int32) (h0 : Heap) (n0 : Nat) (Z0 : n0 ≤ h0.size)  :
    NM l (⟨"java/lang/Character", "isLowSurrogate", "(C)Z"⟩ : MethodName) jdk_89_method_15_code 1 (some .boolean) [] ({ frames := 0, cells := 0, slots := 0, locals := 0 } : Room) Z n0 #[(.int q)] h0 [] (Pu (some (.int (lsF q))) h0) := by
  refine NM.walk (Ls := #[.val (.int q)]) pn_LS Z0 (fun m => by first | (simp [entryFrame, mkF, argsToLocals, Value.category]; done) | rfl) ?_
  intro p e s m below meth c s₁ hby hml hret hnm W0
  refine W0.iloadN (hb hby dLS_0) rfl (pc' := 1) rfl ?_
  refine W0.ldcI (hb hby dLS_1) (hw _ (List.mem_of_getElem? (i := 126) rfl)) (pc' := 3) rfl ?_
  by_cases hc1 : q < (56320 : Int32)
  · refine W0.icmpYes (hb hby dLS_3) (XT.ii_lt_t hc1) (by decide) (pc' := 16) (by decide) ?_
    refine W0.iconst (0 : Int32) (hb hby dLS_16) rfl (pc' := 17) rfl ?_
    exact W0.retZ hret (hb hby dLS_17) (by decide) (by decide) (by decide) ⟨congrArg (fun z => some (Value.int z)) (by rw [lsF, if_pos hc1]), rfl⟩
  · refine W0.icmpNo (hb hby dLS_3) (XT.ii_lt_f hc1) (pc' := 6) rfl ?_
    refine W0.iloadN (hb hby dLS_6) rfl (pc' := 7) rfl ?_
    refine W0.ldcI (hb hby dLS_7) (hw _ (List.mem_of_getElem? (i := 136) rfl)) (pc' := 9) rfl ?_
    by_cases hc2 : q < (57344 : Int32)
    · refine W0.icmpNo (hb hby dLS_9) (XT.ii_ge_f hc2) (pc' := 12) rfl ?_
      refine W0.iconst (1 : Int32) (hb hby dLS_12) rfl (pc' := 13) rfl ?_
      refine W0.goto (hb hby dLS_13) (by decide) (pc' := 17) (by decide) ?_
      exact W0.retZ hret (hb hby dLS_17) (by decide) (by decide) (by decide) ⟨congrArg (fun z => some (Value.int z)) (by rw [lsF, if_neg hc1, if_pos hc2]), rfl⟩
    · refine W0.icmpYes (hb hby dLS_9) (XT.ii_ge_t hc2) (by decide) (pc' := 16) (by decide) ?_
      refine W0.iconst (0 : Int32) (hb hby dLS_16) rfl (pc' := 17) rfl ?_
      exact W0.retZ hret (hb hby dLS_17) (by decide) (by decide) (by decide) ⟨congrArg (fun z => some (Value.int z)) (by rw [lsF, if_neg hc1, if_neg hc2]), rfl⟩
def ccF (q : Int32) : Int32 := (if q < (65536 : Int32) then (1 : Int32) else (2 : Int32))
theorem dCC_0 : decode jdk_89_method_18_code 0 = .ok (.iload_n 0, 1) := by decide +kernel
theorem dCC_1 : decode jdk_89_method_18_code 1 = .ok (.ldc 73, 2) := by decide +kernel
theorem dCC_3 : decode jdk_89_method_18_code 3 = .ok (.if_icmp .lt 7, 3) := by decide +kernel
theorem dCC_10 : decode jdk_89_method_18_code 10 = .ok (.iconst 1, 1) := by decide +kernel
theorem dCC_11 : decode jdk_89_method_18_code 11 = .ok (.ireturn, 1) := by decide +kernel
theorem dCC_6 : decode jdk_89_method_18_code 6 = .ok (.iconst 2, 1) := by decide +kernel
theorem dCC_7 : decode jdk_89_method_18_code 7 = .ok (.goto 4, 3) := by decide +kernel
theorem pn_CC : plainFor (⟨"java/lang/Character", "charCount", "(I)I"⟩ : MethodName) = true := by first | exact plainFor_of_name (by first | (simp [plainName, overriddenIn]; done) | decide +kernel) | decide +kernel
set_option maxRecDepth 65536 in
set_option maxHeartbeats 40000000 in
theorem rmCC (l : Launch) (Z : State) (a0 : Array Value) (hw : ∀ d ∈ tables_1, d.before a0 Z = true) (q : Int32) (h0 : Heap) (n0 : Nat) (Z0 : n0 ≤ h0.size)  :
    NM l (⟨"java/lang/Character", "charCount", "(I)I"⟩ : MethodName) jdk_89_method_18_code 1 (some .int) [] ({ frames := 0, cells := 0, slots := 0, locals := 0 } : Room) Z n0 #[(.int q)] h0 [] (Pu (some (.int (ccF q))) h0) := by
  refine NM.walk (Ls := #[.val (.int q)]) pn_CC Z0 (fun m => by first | (simp [entryFrame, mkF, argsToLocals, Value.category]; done) | rfl) ?_
  intro p e s m below meth c s₁ hby hml hret hnm W0
  refine W0.iloadN (hb hby dCC_0) rfl (pc' := 1) rfl ?_
  refine W0.ldcI (hb hby dCC_1) (hw _ (List.mem_of_getElem? (i := 133) rfl)) (pc' := 3) rfl ?_
  by_cases hc1 : q < (65536 : Int32)
  · refine W0.icmpYes (hb hby dCC_3) (XT.ii_lt_t hc1) (by decide) (pc' := 10) (by decide) ?_
    refine W0.iconst (1 : Int32) (hb hby dCC_10) rfl (pc' := 11) rfl ?_
    exact W0.retI hret (hb hby dCC_11) (by decide) (by decide) ⟨congrArg (fun z => some (Value.int z)) (by rw [ccF, if_pos hc1]), rfl⟩
  · refine W0.icmpNo (hb hby dCC_3) (XT.ii_lt_f hc1) (pc' := 6) rfl ?_
    refine W0.iconst (2 : Int32) (hb hby dCC_6) rfl (pc' := 7) rfl ?_
    refine W0.goto (hb hby dCC_7) (by decide) (pc' := 11) (by decide) ?_
    exact W0.retI hret (hb hby dCC_11) (by decide) (by decide) ⟨congrArg (fun z => some (Value.int z)) (by rw [ccF, if_neg hc1]), rfl⟩
def tcF (q r : Int32) : Int32 := (((q <<< ((10 : Int32) &&& 31)) + r) + (-56613888 : Int32))
theorem dTC_0 : decode jdk_89_method_19_code 0 = .ok (.iload_n 0, 1) := by decide +kernel
theorem dTC_1 : decode jdk_89_method_19_code 1 = .ok (.bipush 10, 2) := by decide +kernel
theorem dTC_3 : decode jdk_89_method_19_code 3 = .ok (.ishl, 1) := by decide +kernel
theorem dTC_4 : decode jdk_89_method_19_code 4 = .ok (.iload_n 1, 1) := by decide +kernel
theorem dTC_5 : decode jdk_89_method_19_code 5 = .ok (.iadd, 1) := by decide +kernel
theorem dTC_6 : decode jdk_89_method_19_code 6 = .ok (.ldc 85, 2) := by decide +kernel
theorem dTC_8 : decode jdk_89_method_19_code 8 = .ok (.iadd, 1) := by decide +kernel
theorem dTC_9 : decode jdk_89_method_19_code 9 = .ok (.ireturn, 1) := by decide +kernel
theorem pn_TC : plainFor (⟨"java/lang/Character", "toCodePoint", "(CC)I"⟩ : MethodName) = true := by first | exact plainFor_of_name (by first | (simp [plainName, overriddenIn]; done) | decide +kernel) | decide +kernel
set_option maxRecDepth 65536 in
set_option maxHeartbeats 40000000 in
theorem rmTC (l : Launch) (Z : State) (a0 : Array Value) (hw : ∀ d ∈ tables_1, d.before a0 Z = true) (q r : Int32) (h0 : Heap) (n0 : Nat) (Z0 : n0 ≤ h0.size)  :
    NM l (⟨"java/lang/Character", "toCodePoint", "(CC)I"⟩ : MethodName) jdk_89_method_19_code 2 (some .int) [] ({ frames := 0, cells := 0, slots := 0, locals := 0 } : Room) Z n0 #[(.int q), (.int r)] h0 [] (Pu (some (.int (tcF q r))) h0) := by
  refine NM.walk (Ls := #[.val (.int q), .val (.int r)]) pn_TC Z0 (fun m => by first | (simp [entryFrame, mkF, argsToLocals, Value.category]; done) | rfl) ?_
  intro p e s m below meth c s₁ hby hml hret hnm W0
  refine W0.iloadN (hb hby dTC_0) rfl (pc' := 1) rfl ?_
  refine W0.bipush (10 : Int32) (hb hby dTC_1) rfl (pc' := 3) rfl ?_
  refine W0.ishl (hb hby dTC_3) (pc' := 4) rfl ?_
  refine W0.iloadN (hb hby dTC_4) rfl (pc' := 5) rfl ?_
  refine W0.iadd (hb hby dTC_5) (pc' := 6) rfl ?_
  refine W0.ldcI (hb hby dTC_6) (hw _ (List.mem_of_getElem? (i := 140) rfl)) (pc' := 8) rfl ?_
  refine W0.iadd (hb hby dTC_8) (pc' := 9) rfl ?_
  exact W0.retI hret (hb hby dTC_9) (by decide) (by decide) ⟨congrArg (fun z => some (Value.int z)) (by rw [tcF]), rfl⟩
def icF (q r : Int32) : Int32 := (if q < r then (-1 : Int32) else (if q = r then (0 : Int32) else (1 : Int32)))
theorem dIC_0 : decode jdk_33_method_40_code 0 = .ok (.iload_n 0, 1) := by decide +kernel
theorem dIC_1 : decode jdk_33_method_40_code 1 = .ok (.iload_n 1, 1) := by decide +kernel
theorem dIC_2 : decode jdk_33_method_40_code 2 = .ok (.if_icmp .ge 7, 3) := by decide +kernel
theorem dIC_5 : decode jdk_33_method_40_code 5 = .ok (.iconst (-1), 1) := by decide +kernel
theorem dIC_6 : decode jdk_33_method_40_code 6 = .ok (.goto 13, 3) := by decide +kernel
theorem dIC_19 : decode jdk_33_method_40_code 19 = .ok (.ireturn, 1) := by decide +kernel
theorem dIC_9 : decode jdk_33_method_40_code 9 = .ok (.iload_n 0, 1) := by decide +kernel
theorem dIC_10 : decode jdk_33_method_40_code 10 = .ok (.iload_n 1, 1) := by decide +kernel
theorem dIC_11 : decode jdk_33_method_40_code 11 = .ok (.if_icmp .ne 7, 3) := by decide +kernel
theorem dIC_14 : decode jdk_33_method_40_code 14 = .ok (.iconst 0, 1) := by decide +kernel
theorem dIC_15 : decode jdk_33_method_40_code 15 = .ok (.goto 4, 3) := by decide +kernel
theorem dIC_18 : decode jdk_33_method_40_code 18 = .ok (.iconst 1, 1) := by decide +kernel
theorem pn_IC : plainFor (⟨"java/lang/Integer", "compare", "(II)I"⟩ : MethodName) = true := by first | exact plainFor_of_name (by first | (simp [plainName, overriddenIn]; done) | decide +kernel) | decide +kernel
set_option maxRecDepth 65536 in
set_option maxHeartbeats 40000000 in
theorem rmIC (l : Launch) (Z : State) (a0 : Array Value) (hw : ∀ d ∈ tables_1, d.before a0 Z = true) (q r : Int32) (h0 : Heap) (n0 : Nat) (Z0 : n0 ≤ h0.size)  :
    NM l (⟨"java/lang/Integer", "compare", "(II)I"⟩ : MethodName) jdk_33_method_40_code 2 (some .int) [] ({ frames := 0, cells := 0, slots := 0, locals := 0 } : Room) Z n0 #[(.int q), (.int r)] h0 [] (Pu (some (.int (icF q r))) h0) := by
  refine NM.walk (Ls := #[.val (.int q), .val (.int r)]) pn_IC Z0 (fun m => by first | (simp [entryFrame, mkF, argsToLocals, Value.category]; done) | rfl) ?_
  intro p e s m below meth c s₁ hby hml hret hnm W0
  refine W0.iloadN (hb hby dIC_0) rfl (pc' := 1) rfl ?_
  refine W0.iloadN (hb hby dIC_1) rfl (pc' := 2) rfl ?_
  by_cases hc1 : q < r
  · refine W0.icmpNo (hb hby dIC_2) (XT.ii_ge_f hc1) (pc' := 5) rfl ?_
    refine W0.iconst (-1 : Int32) (hb hby dIC_5) rfl (pc' := 6) rfl ?_
    refine W0.goto (hb hby dIC_6) (by decide) (pc' := 19) (by decide) ?_
    exact W0.retI hret (hb hby dIC_19) (by decide) (by decide) ⟨congrArg (fun z => some (Value.int z)) (by rw [icF, if_pos hc1]), rfl⟩
  · refine W0.icmpYes (hb hby dIC_2) (XT.ii_ge_t hc1) (by decide) (pc' := 9) (by decide) ?_
    refine W0.iloadN (hb hby dIC_9) rfl (pc' := 10) rfl ?_
    refine W0.iloadN (hb hby dIC_10) rfl (pc' := 11) rfl ?_
    by_cases hc2 : q = r
    · refine W0.icmpNo (hb hby dIC_11) (XT.ii_ne_f hc2) (pc' := 14) rfl ?_
      refine W0.iconst (0 : Int32) (hb hby dIC_14) rfl (pc' := 15) rfl ?_
      refine W0.goto (hb hby dIC_15) (by decide) (pc' := 19) (by decide) ?_
      exact W0.retI hret (hb hby dIC_19) (by decide) (by decide) ⟨congrArg (fun z => some (Value.int z)) (by rw [icF, if_neg hc1, if_pos hc2]), rfl⟩
    · refine W0.icmpYes (hb hby dIC_11) (XT.ii_ne_t hc2) (by decide) (pc' := 18) (by decide) ?_
      refine W0.iconst (1 : Int32) (hb hby dIC_18) rfl (pc' := 19) rfl ?_
      exact W0.retI hret (hb hby dIC_19) (by decide) (by decide) ⟨congrArg (fun z => some (Value.int z)) (by rw [icF, if_neg hc1, if_neg hc2]), rfl⟩
def sgF (q : Int32) : Int32 := (if q < (0 : Int32) then (-1 : Int32) else (if (0 : Int32) < q then (1 : Int32) else (0 : Int32)))
theorem dSG_0 : decode method_8_code 0 = .ok (.iload_n 0, 1) := by decide +kernel
theorem dSG_1 : decode method_8_code 1 = .ok (.ifCond .ge 5, 3) := by decide +kernel
theorem dSG_4 : decode method_8_code 4 = .ok (.iconst (-1), 1) := by decide +kernel
theorem dSG_5 : decode method_8_code 5 = .ok (.ireturn, 1) := by decide +kernel
theorem dSG_6 : decode method_8_code 6 = .ok (.iload_n 0, 1) := by decide +kernel
theorem dSG_7 : decode method_8_code 7 = .ok (.ifCond .le 5, 3) := by decide +kernel
theorem dSG_10 : decode method_8_code 10 = .ok (.iconst 1, 1) := by decide +kernel
theorem dSG_11 : decode method_8_code 11 = .ok (.ireturn, 1) := by decide +kernel
theorem dSG_12 : decode method_8_code 12 = .ok (.iconst 0, 1) := by decide +kernel
theorem dSG_13 : decode method_8_code 13 = .ok (.ireturn, 1) := by decide +kernel
theorem pn_SG : plainFor (⟨"com/example/frugal_ranker/frugalranker/CodePointsComparePinLaw", "sgn", "(I)I"⟩ : MethodName) = true := by first | exact plainFor_of_name (by first | (simp [plainName, overriddenIn]; done) | decide +kernel) | decide +kernel
set_option maxRecDepth 65536 in
set_option maxHeartbeats 40000000 in
theorem rmSG (l : Launch) (Z : State) (a0 : Array Value) (hw : ∀ d ∈ tables_1, d.before a0 Z = true) (q : Int32) (h0 : Heap) (n0 : Nat) (Z0 : n0 ≤ h0.size)  :
    NM l (⟨"com/example/frugal_ranker/frugalranker/CodePointsComparePinLaw", "sgn", "(I)I"⟩ : MethodName) method_8_code 1 (some .int) [] ({ frames := 0, cells := 0, slots := 0, locals := 0 } : Room) Z n0 #[(.int q)] h0 [] (Pu (some (.int (sgF q))) h0) := by
  refine NM.walk (Ls := #[.val (.int q)]) pn_SG Z0 (fun m => by first | (simp [entryFrame, mkF, argsToLocals, Value.category]; done) | rfl) ?_
  intro p e s m below meth c s₁ hby hml hret hnm W0
  refine W0.iloadN (hb hby dSG_0) rfl (pc' := 1) rfl ?_
  by_cases hc1 : q < (0 : Int32)
  · refine W0.ifNo (hb hby dSG_1) (XT.i0_ge_f hc1) (pc' := 4) rfl ?_
    refine W0.iconst (-1 : Int32) (hb hby dSG_4) rfl (pc' := 5) rfl ?_
    exact W0.retI hret (hb hby dSG_5) (by decide) (by decide) ⟨congrArg (fun z => some (Value.int z)) (by rw [sgF, if_pos hc1]), rfl⟩
  · refine W0.ifYes (hb hby dSG_1) (XT.i0_ge_t hc1) (by decide) (pc' := 6) (by decide) ?_
    refine W0.iloadN (hb hby dSG_6) rfl (pc' := 7) rfl ?_
    by_cases hc2 : (0 : Int32) < q
    · refine W0.ifNo (hb hby dSG_7) (XT.i0_le_f hc2) (pc' := 10) rfl ?_
      refine W0.iconst (1 : Int32) (hb hby dSG_10) rfl (pc' := 11) rfl ?_
      exact W0.retI hret (hb hby dSG_11) (by decide) (by decide) ⟨congrArg (fun z => some (Value.int z)) (by rw [sgF, if_neg hc1, if_pos hc2]), rfl⟩
    · refine W0.ifYes (hb hby dSG_7) (XT.i0_le_t hc2) (by decide) (pc' := 12) (by decide) ?_
      refine W0.iconst (0 : Int32) (hb hby dSG_12) rfl (pc' := 13) rfl ?_
      exact W0.retI hret (hb hby dSG_13) (by decide) (by decide) ⟨congrArg (fun z => some (Value.int z)) (by rw [sgF, if_neg hc1, if_neg hc2]), rfl⟩
def drF (q r t : Int32) : Int32 := (if ((XT.ushr r t) &&& (1 : Int32)) = (0 : Int32) then (i2c (q &&& (65535 : Int32))) else (i2c ((55296 : Int32) ||| ((q &&& (65535 : Int32)) &&& (2047 : Int32)))))
theorem dDR_0 : decode method_3_code 0 = .ok (.iload_n 0, 1) := by decide +kernel
theorem dDR_1 : decode method_3_code 1 = .ok (.ldc 35, 2) := by decide +kernel
theorem dDR_3 : decode method_3_code 3 = .ok (.iand, 1) := by decide +kernel
theorem dDR_4 : decode method_3_code 4 = .ok (.istore_n 3, 1) := by decide +kernel
theorem dDR_5 : decode method_3_code 5 = .ok (.iload_n 1, 1) := by decide +kernel
theorem dDR_6 : decode method_3_code 6 = .ok (.iload_n 2, 1) := by decide +kernel
theorem dDR_7 : decode method_3_code 7 = .ok (.iushr, 1) := by decide +kernel
theorem dDR_8 : decode method_3_code 8 = .ok (.iconst 1, 1) := by decide +kernel
theorem dDR_9 : decode method_3_code 9 = .ok (.iand, 1) := by decide +kernel
theorem dDR_10 : decode method_3_code 10 = .ok (.ifCond .eq 12, 3) := by decide +kernel
theorem dDR_22 : decode method_3_code 22 = .ok (.iload_n 3, 1) := by decide +kernel
theorem dDR_23 : decode method_3_code 23 = .ok (.i2c, 1) := by decide +kernel
theorem dDR_24 : decode method_3_code 24 = .ok (.ireturn, 1) := by decide +kernel
theorem dDR_13 : decode method_3_code 13 = .ok (.ldc 36, 2) := by decide +kernel
theorem dDR_15 : decode method_3_code 15 = .ok (.iload_n 3, 1) := by decide +kernel
theorem dDR_16 : decode method_3_code 16 = .ok (.sipush 2047, 3) := by decide +kernel
theorem dDR_19 : decode method_3_code 19 = .ok (.iand, 1) := by decide +kernel
theorem dDR_20 : decode method_3_code 20 = .ok (.ior, 1) := by decide +kernel
theorem dDR_21 : decode method_3_code 21 = .ok (.istore_n 3, 1) := by decide +kernel
theorem pn_DR : plainFor (⟨"com/example/frugal_ranker/frugalranker/CodePointsComparePinLaw", "draw", "(III)C"⟩ : MethodName) = true := by first | exact plainFor_of_name (by first | (simp [plainName, overriddenIn]; done) | decide +kernel) | decide +kernel
set_option maxRecDepth 65536 in
set_option maxHeartbeats 40000000 in
theorem rmDR (l : Launch) (Z : State) (a0 : Array Value) (hw : ∀ d ∈ tables_1, d.before a0 Z = true) (q r t : Int32) (h0 : Heap) (n0 : Nat) (Z0 : n0 ≤ h0.size)  :
    NM l (⟨"com/example/frugal_ranker/frugalranker/CodePointsComparePinLaw", "draw", "(III)C"⟩ : MethodName) method_3_code 4 (some .char) [] ({ frames := 0, cells := 0, slots := 0, locals := 0 } : Room) Z n0 #[(.int q), (.int r), (.int t)] h0 [] (Pu (some (.int (drF q r t))) h0) := by
  refine NM.walk (Ls := #[.val (.int q), .val (.int r), .val (.int t), .unset]) pn_DR Z0 (fun m => by first | (simp [entryFrame, mkF, argsToLocals, Value.category]; done) | rfl) ?_
  intro p e s m below meth c s₁ hby hml hret hnm W0
  refine W0.iloadN (hb hby dDR_0) rfl (pc' := 1) rfl ?_
  refine W0.ldcI (hb hby dDR_1) (hw _ (List.mem_of_getElem? (i := 4) rfl)) (pc' := 3) rfl ?_
  refine W0.iand (hb hby dDR_3) (pc' := 4) rfl ?_
  refine W0.istoreN (Ls' := #[.val (.int q), .val (.int r), .val (.int t), .val (.int (q &&& (65535 : Int32)))]) (hb hby dDR_4) rfl (pc' := 5) rfl ?_
  refine W0.iloadN (hb hby dDR_5) rfl (pc' := 6) rfl ?_
  refine W0.iloadN (hb hby dDR_6) rfl (pc' := 7) rfl ?_
  refine W0.iushr (hb hby dDR_7) (pc' := 8) rfl ?_
  refine W0.iconst (1 : Int32) (hb hby dDR_8) rfl (pc' := 9) rfl ?_
  refine W0.iand (hb hby dDR_9) (pc' := 10) rfl ?_
  by_cases hc1 : ((XT.ushr r t) &&& (1 : Int32)) = (0 : Int32)
  · refine W0.ifYes (hb hby dDR_10) (XT.i0_eq_t hc1) (by decide) (pc' := 22) (by decide) ?_
    refine W0.iloadN (hb hby dDR_22) rfl (pc' := 23) rfl ?_
    refine W0.i2c (hb hby dDR_23) (pc' := 24) rfl ?_
    exact W0.retC hret (hb hby dDR_24) (nar_ret (nar_i2c _)) (by decide) (by decide) ⟨congrArg (fun z => some (Value.int z)) (by rw [drF, if_pos hc1]), rfl⟩
  · refine W0.ifNo (hb hby dDR_10) (XT.i0_eq_f hc1) (pc' := 13) rfl ?_
    refine W0.ldcI (hb hby dDR_13) (hw _ (List.mem_of_getElem? (i := 75) rfl)) (pc' := 15) rfl ?_
    refine W0.iloadN (hb hby dDR_15) rfl (pc' := 16) rfl ?_
    refine W0.sipush (2047 : Int32) (hb hby dDR_16) rfl (pc' := 19) rfl ?_
    refine W0.iand (hb hby dDR_19) (pc' := 20) rfl ?_
    refine W0.ior (hb hby dDR_20) (pc' := 21) rfl ?_
    refine W0.istoreN (Ls' := #[.val (.int q), .val (.int r), .val (.int t), .val (.int ((55296 : Int32) ||| ((q &&& (65535 : Int32)) &&& (2047 : Int32))))]) (hb hby dDR_21) rfl (pc' := 22) rfl ?_
    refine W0.iloadN (hb hby dDR_22) rfl (pc' := 23) rfl ?_
    refine W0.i2c (hb hby dDR_23) (pc' := 24) rfl ?_
    exact W0.retC hret (hb hby dDR_24) (nar_ret (nar_i2c _)) (by decide) (by decide) ⟨congrArg (fun z => some (Value.int z)) (by rw [drF, if_neg hc1]), rfl⟩
theorem dr_chr (q r t : Int32) : ¬ drF q r t < 0 ∧ ¬ (65535 : Int32) < drF q r t := by
  rw [drF]; split <;> exact i2c_lo _
def cpoF (cs : List Int32) (i : Nat) : Int32 := (if (hsF (cs.getD i 0)) = (0 : Int32) then (cs.getD i 0) else (if (Int32.ofNat (i + 1)) < (Int32.ofNat cs.length) then (if (lsF (cs.getD (i + 1) 0)) = (0 : Int32) then (cs.getD i 0) else (tcF (cs.getD i 0) (cs.getD (i + 1) 0))) else (cs.getD i 0)))
theorem dCP4_0 : decode jdk_52_method_7_code 0 = .ok (.getstatic 44, 3) := by decide +kernel
theorem dCP4_3 : decode jdk_52_method_7_code 3 = .ok (.ifCond .ne 16, 3) := by decide +kernel
theorem dCP4_19 : decode jdk_52_method_7_code 19 = .ok (.iload_n 3, 1) := by decide +kernel
theorem dCP4_20 : decode jdk_52_method_7_code 20 = .ok (.ifCond .eq 8, 3) := by decide +kernel
theorem dCP4_28 : decode jdk_52_method_7_code 28 = .ok (.aload_n 0, 1) := by decide +kernel
theorem dCP4_29 : decode jdk_52_method_7_code 29 = .ok (.iload_n 1, 1) := by decide +kernel
theorem dCP4_30 : decode jdk_52_method_7_code 30 = .ok (.invokestatic 71, 3) := by decide +kernel
theorem dCP4_33 : decode jdk_52_method_7_code 33 = .ok (.istore 4, 2) := by decide +kernel
theorem dCP4_35 : decode jdk_52_method_7_code 35 = .ok (.iload 4, 2) := by decide +kernel
theorem dCP4_37 : decode jdk_52_method_7_code 37 = .ok (.invokestatic 75, 3) := by decide +kernel
theorem pd_ba645060 : parseMethodDescriptor "(C)Z" = some ⟨[.char], some .boolean⟩ := by decide +kernel
theorem dCP4_40 : decode jdk_52_method_7_code 40 = .ok (.ifCond .eq 43, 3) := by decide +kernel
theorem dCP4_83 : decode jdk_52_method_7_code 83 = .ok (.iload 4, 2) := by decide +kernel
theorem dCP4_85 : decode jdk_52_method_7_code 85 = .ok (.ireturn, 1) := by decide +kernel
theorem dCP4_43 : decode jdk_52_method_7_code 43 = .ok (.iinc 1 1, 3) := by decide +kernel
theorem dCP4_46 : decode jdk_52_method_7_code 46 = .ok (.iload_n 1, 1) := by decide +kernel
theorem dCP4_47 : decode jdk_52_method_7_code 47 = .ok (.iload_n 2, 1) := by decide +kernel
theorem dCP4_48 : decode jdk_52_method_7_code 48 = .ok (.if_icmp .ge 35, 3) := by decide +kernel
theorem dCP4_51 : decode jdk_52_method_7_code 51 = .ok (.iload_n 3, 1) := by decide +kernel
theorem dCP4_52 : decode jdk_52_method_7_code 52 = .ok (.ifCond .eq 8, 3) := by decide +kernel
theorem dCP4_60 : decode jdk_52_method_7_code 60 = .ok (.aload_n 0, 1) := by decide +kernel
theorem dCP4_61 : decode jdk_52_method_7_code 61 = .ok (.iload_n 1, 1) := by decide +kernel
theorem dCP4_62 : decode jdk_52_method_7_code 62 = .ok (.invokestatic 71, 3) := by decide +kernel
theorem dCP4_65 : decode jdk_52_method_7_code 65 = .ok (.istore 5, 2) := by decide +kernel
theorem dCP4_67 : decode jdk_52_method_7_code 67 = .ok (.iload 5, 2) := by decide +kernel
theorem dCP4_69 : decode jdk_52_method_7_code 69 = .ok (.invokestatic 81, 3) := by decide +kernel
theorem dCP4_72 : decode jdk_52_method_7_code 72 = .ok (.ifCond .eq 11, 3) := by decide +kernel
theorem dCP4_75 : decode jdk_52_method_7_code 75 = .ok (.iload 4, 2) := by decide +kernel
theorem dCP4_77 : decode jdk_52_method_7_code 77 = .ok (.iload 5, 2) := by decide +kernel
theorem dCP4_79 : decode jdk_52_method_7_code 79 = .ok (.invokestatic 84, 3) := by decide +kernel
theorem pd_902d1ee2 : parseMethodDescriptor "(CC)I" = some ⟨[.char, .char], some .int⟩ := by decide +kernel
theorem dCP4_82 : decode jdk_52_method_7_code 82 = .ok (.ireturn, 1) := by decide +kernel
theorem pn_CP4 : plainFor (⟨"java/lang/StringUTF16", "codePointAt", "([BIIZ)I"⟩ : MethodName) = true := by first | exact plainFor_of_name (by first | (simp [plainName, overriddenIn]; done) | decide +kernel) | decide +kernel
set_option maxRecDepth 65536 in
set_option maxHeartbeats 40000000 in
theorem rmCP4 (l : Launch) (Z : State) (a0 : Array Value) (hw : ∀ d ∈ tables_1, d.before a0 Z = true) (d : Addr) (kd : ClassId) (i : Nat) (cs : List Int32) (h0 : Heap) (n0 : Nat) (Z0 : n0 ≤ h0.size) (AD : Arv Z h0 d kd .byte (Int32.ofNat (2 * cs.length)) (StrChars.Road.wideBytes cs) (.int (0 : Int32))) (hn : cs.length ≤ 4000) (hi : i < cs.length) (HB : ∀ c ∈ cs, ¬ c < 0 ∧ ¬ (65535 : Int32) < c) (SA1 : Sta Z h0 "java/lang/StringUTF16" "$assertionsDisabled" "Z" (.int (1 : Int32))) (SA2 : Sta Z h0 "java/lang/StringUTF16" "HI_BYTE_SHIFT" "I" (.int (0 : Int32))) (SA3 : Sta Z h0 "java/lang/StringUTF16" "LO_BYTE_SHIFT" "I" (.int (8 : Int32))) :
    NM l (⟨"java/lang/StringUTF16", "codePointAt", "([BIIZ)I"⟩ : MethodName) jdk_52_method_7_code 6 (some .int) [] ({ frames := 1, cells := 0, slots := 0, locals := 15 } : Room) Z n0 #[(.ref d), (.int (Int32.ofNat i)), (.int (Int32.ofNat cs.length)), (.int (0 : Int32))] h0 [] (Pu (some (.int (cpoF cs i))) h0) := by
  refine NM.walk (Ls := #[.val (.ref d), .val (.int (Int32.ofNat i)), .val (.int (Int32.ofNat cs.length)), .val (.int (0 : Int32)), .unset, .unset]) pn_CP4 Z0 (fun m => by first | (simp [entryFrame, mkF, argsToLocals, Value.category]; done) | rfl) ?_
  intro p e s m below meth c s₁ hby hml hret hnm W0
  refine W0.getS (host := "") (Or.inl (hw _ (List.mem_of_getElem? (i := 107) rfl))) Via.refl SA1 (hb hby dCP4_0) (pc' := 3) rfl ?_
  intro T1 W1
  refine W1.ifYes (hb hby dCP4_3) (XT.i0_ne_t (by decide)) (by decide) (pc' := 19) (by decide) ?_
  refine W1.iloadN (hb hby dCP4_19) rfl (pc' := 20) rfl ?_
  refine W1.ifYes (hb hby dCP4_20) (XT.i0_eq_t (by decide)) (by decide) (pc' := 28) (by decide) ?_
  refine W1.aloadN (hb hby dCP4_28) rfl rfl (pc' := 29) rfl ?_
  refine W1.iloadN (hb hby dCP4_29) rfl (pc' := 30) rfl ?_
  refine W1.callSP (hw _ (List.mem_of_getElem? (i := 110) rfl)) (hw _ (List.mem_of_getElem? (i := 111) rfl)) (hw _ (List.mem_of_getElem? (i := 25) rfl)) (hw _ (List.mem_of_getElem? (i := 112) rfl)) (by decide) (NM.bk (wd := 0) (rmGC l Z a0 hw d kd i cs h0 n0 W1.n0h AD hn hi HB SA1 SA2 SA3) W1.2.2.2.1 (hw _ (List.mem_of_getElem? (i := 112) rfl)) (hw _ (List.mem_of_getElem? (i := 25) rfl)) (by decide) (by decide)) (hb hby dCP4_30) (pc' := 33) rfl hml (argsL := [(.ref d), (.int (Int32.ofNat i))]) rfl (lenOf pd_d057548f rfl) rfl (Nat.le_of_ble_eq_true rfl) (by decide) (by decide) (fun _ _ _ q => pu_of q) ?_
  intro T2 L2 W2
  show Go p e below _ T2 (mkF m 33 #[.val (.ref d), .val (.int (Int32.ofNat i)), .val (.int (Int32.ofNat cs.length)), .val (.int (0 : Int32)), .unset, .unset] [(.int (cs.getD i 0))])
  refine W2.istore (Ls' := #[.val (.ref d), .val (.int (Int32.ofNat i)), .val (.int (Int32.ofNat cs.length)), .val (.int (0 : Int32)), .val (.int (cs.getD i 0)), .unset]) (hb hby dCP4_33) rfl (pc' := 35) rfl ?_
  refine W2.iload (hb hby dCP4_35) rfl (pc' := 37) rfl ?_
  refine W2.callSP (hw _ (List.mem_of_getElem? (i := 121) rfl)) (hw _ (List.mem_of_getElem? (i := 122) rfl)) (hw _ (List.mem_of_getElem? (i := 123) rfl)) (hw _ (List.mem_of_getElem? (i := 124) rfl)) (by decide) (NM.bk (wd := 0) (rmHS l Z a0 hw (cs.getD i 0) h0 n0 W2.n0h ) W2.2.2.2.1 (hw _ (List.mem_of_getElem? (i := 124) rfl)) (hw _ (List.mem_of_getElem? (i := 123) rfl)) (by decide) (by decide)) (hb hby dCP4_37) (pc' := 40) rfl hml (argsL := [(.int (cs.getD i 0))]) rfl (lenOf pd_ba645060 rfl) rfl (Nat.le_of_ble_eq_true rfl) (by decide) (by decide) (fun _ _ _ q => pu_of q) ?_
  intro T3 L3 W3
  show Go p e below _ T3 (mkF m 40 #[.val (.ref d), .val (.int (Int32.ofNat i)), .val (.int (Int32.ofNat cs.length)), .val (.int (0 : Int32)), .val (.int (cs.getD i 0)), .unset] [(.int (hsF (cs.getD i 0)))])
  by_cases hc4 : (hsF (cs.getD i 0)) = (0 : Int32)
  · refine W3.ifYes (hb hby dCP4_40) (XT.i0_eq_t hc4) (by decide) (pc' := 83) (by decide) ?_
    refine W3.iload (hb hby dCP4_83) rfl (pc' := 85) rfl ?_
    exact W3.retI hret (hb hby dCP4_85) (by decide) (by decide) ⟨congrArg (fun z => some (Value.int z)) (by rw [cpoF, if_pos hc4]), rfl⟩
  · refine W3.ifNo (hb hby dCP4_40) (XT.i0_eq_f hc4) (pc' := 43) rfl ?_
    refine W3.iinc (Ls' := #[.val (.ref d), .val (.int ((Int32.ofNat i) + (1 : Int32))), .val (.int (Int32.ofNat cs.length)), .val (.int (0 : Int32)), .val (.int (cs.getD i 0)), .unset]) (1 : Int32) (hb hby dCP4_43) rfl rfl rfl (pc' := 46) rfl ?_
    rw [ofNat_succ]
    refine W3.iloadN (hb hby dCP4_46) rfl (pc' := 47) rfl ?_
    refine W3.iloadN (hb hby dCP4_47) rfl (pc' := 48) rfl ?_
    by_cases hc5 : (Int32.ofNat (i + 1)) < (Int32.ofNat cs.length)
    · refine W3.icmpNo (hb hby dCP4_48) (XT.ii_ge_f hc5) (pc' := 51) rfl ?_
      refine W3.iloadN (hb hby dCP4_51) rfl (pc' := 52) rfl ?_
      refine W3.ifYes (hb hby dCP4_52) (XT.i0_eq_t (by decide)) (by decide) (pc' := 60) (by decide) ?_
      refine W3.aloadN (hb hby dCP4_60) rfl rfl (pc' := 61) rfl ?_
      refine W3.iloadN (hb hby dCP4_61) rfl (pc' := 62) rfl ?_
      refine W3.callSP (hw _ (List.mem_of_getElem? (i := 110) rfl)) (hw _ (List.mem_of_getElem? (i := 111) rfl)) (hw _ (List.mem_of_getElem? (i := 25) rfl)) (hw _ (List.mem_of_getElem? (i := 112) rfl)) (by decide) (NM.bk (wd := 0) (rmGC l Z a0 hw d kd (i + 1) cs h0 n0 W3.n0h AD hn ((ofNat_lt (by omega) (by omega)).mp hc5) HB SA1 SA2 SA3) W3.2.2.2.1 (hw _ (List.mem_of_getElem? (i := 112) rfl)) (hw _ (List.mem_of_getElem? (i := 25) rfl)) (by decide) (by decide)) (hb hby dCP4_62) (pc' := 65) rfl hml (argsL := [(.ref d), (.int (Int32.ofNat (i + 1)))]) rfl (lenOf pd_d057548f rfl) rfl (Nat.le_of_ble_eq_true rfl) (by decide) (by decide) (fun _ _ _ q => pu_of q) ?_
      intro T6 L6 W6
      show Go p e below _ T6 (mkF m 65 #[.val (.ref d), .val (.int (Int32.ofNat (i + 1))), .val (.int (Int32.ofNat cs.length)), .val (.int (0 : Int32)), .val (.int (cs.getD i 0)), .unset] [(.int (cs.getD (i + 1) 0))])
      refine W6.istore (Ls' := #[.val (.ref d), .val (.int (Int32.ofNat (i + 1))), .val (.int (Int32.ofNat cs.length)), .val (.int (0 : Int32)), .val (.int (cs.getD i 0)), .val (.int (cs.getD (i + 1) 0))]) (hb hby dCP4_65) rfl (pc' := 67) rfl ?_
      refine W6.iload (hb hby dCP4_67) rfl (pc' := 69) rfl ?_
      refine W6.callSP (hw _ (List.mem_of_getElem? (i := 127) rfl)) (hw _ (List.mem_of_getElem? (i := 128) rfl)) (hw _ (List.mem_of_getElem? (i := 123) rfl)) (hw _ (List.mem_of_getElem? (i := 129) rfl)) (by decide) (NM.bk (wd := 0) (rmLS l Z a0 hw (cs.getD (i + 1) 0) h0 n0 W6.n0h ) W6.2.2.2.1 (hw _ (List.mem_of_getElem? (i := 129) rfl)) (hw _ (List.mem_of_getElem? (i := 123) rfl)) (by decide) (by decide)) (hb hby dCP4_69) (pc' := 72) rfl hml (argsL := [(.int (cs.getD (i + 1) 0))]) rfl (lenOf pd_ba645060 rfl) rfl (Nat.le_of_ble_eq_true rfl) (by decide) (by decide) (fun _ _ _ q => pu_of q) ?_
      intro T7 L7 W7
      show Go p e below _ T7 (mkF m 72 #[.val (.ref d), .val (.int (Int32.ofNat (i + 1))), .val (.int (Int32.ofNat cs.length)), .val (.int (0 : Int32)), .val (.int (cs.getD i 0)), .val (.int (cs.getD (i + 1) 0))] [(.int (lsF (cs.getD (i + 1) 0)))])
      by_cases hc8 : (lsF (cs.getD (i + 1) 0)) = (0 : Int32)
      · refine W7.ifYes (hb hby dCP4_72) (XT.i0_eq_t hc8) (by decide) (pc' := 83) (by decide) ?_
        refine W7.iload (hb hby dCP4_83) rfl (pc' := 85) rfl ?_
        exact W7.retI hret (hb hby dCP4_85) (by decide) (by decide) ⟨congrArg (fun z => some (Value.int z)) (by rw [cpoF, if_neg hc4, if_pos hc5, if_pos hc8]), rfl⟩
      · refine W7.ifNo (hb hby dCP4_72) (XT.i0_eq_f hc8) (pc' := 75) rfl ?_
        refine W7.iload (hb hby dCP4_75) rfl (pc' := 77) rfl ?_
        refine W7.iload (hb hby dCP4_77) rfl (pc' := 79) rfl ?_
        refine W7.callSP (hw _ (List.mem_of_getElem? (i := 137) rfl)) (hw _ (List.mem_of_getElem? (i := 138) rfl)) (hw _ (List.mem_of_getElem? (i := 123) rfl)) (hw _ (List.mem_of_getElem? (i := 139) rfl)) (by decide) (NM.bk (wd := 0) (rmTC l Z a0 hw (cs.getD i 0) (cs.getD (i + 1) 0) h0 n0 W7.n0h ) W7.2.2.2.1 (hw _ (List.mem_of_getElem? (i := 139) rfl)) (hw _ (List.mem_of_getElem? (i := 123) rfl)) (by decide) (by decide)) (hb hby dCP4_79) (pc' := 82) rfl hml (argsL := [(.int (cs.getD i 0)), (.int (cs.getD (i + 1) 0))]) rfl (lenOf pd_902d1ee2 rfl) rfl (Nat.le_of_ble_eq_true rfl) (by decide) (by decide) (fun _ _ _ q => pu_of q) ?_
        intro T9 L9 W9
        show Go p e below _ T9 (mkF m 82 #[.val (.ref d), .val (.int (Int32.ofNat (i + 1))), .val (.int (Int32.ofNat cs.length)), .val (.int (0 : Int32)), .val (.int (cs.getD i 0)), .val (.int (cs.getD (i + 1) 0))] [(.int (tcF (cs.getD i 0) (cs.getD (i + 1) 0)))])
        exact W9.retI hret (hb hby dCP4_82) (by decide) (by decide) ⟨congrArg (fun z => some (Value.int z)) (by rw [cpoF, if_neg hc4, if_pos hc5, if_neg hc8]), rfl⟩
    · refine W3.icmpYes (hb hby dCP4_48) (XT.ii_ge_t hc5) (by decide) (pc' := 83) (by decide) ?_
      refine W3.iload (hb hby dCP4_83) rfl (pc' := 85) rfl ?_
      exact W3.retI hret (hb hby dCP4_85) (by decide) (by decide) ⟨congrArg (fun z => some (Value.int z)) (by rw [cpoF, if_neg hc4, if_neg hc5]), rfl⟩
theorem dCP3_0 : decode jdk_52_method_8_code 0 = .ok (.aload_n 0, 1) := by decide +kernel
theorem dCP3_1 : decode jdk_52_method_8_code 1 = .ok (.iload_n 1, 1) := by decide +kernel
theorem dCP3_2 : decode jdk_52_method_8_code 2 = .ok (.iload_n 2, 1) := by decide +kernel
theorem dCP3_3 : decode jdk_52_method_8_code 3 = .ok (.iconst 0, 1) := by decide +kernel
theorem dCP3_4 : decode jdk_52_method_8_code 4 = .ok (.invokestatic 88, 3) := by decide +kernel
theorem pd_e5cbcc20 : parseMethodDescriptor "([BIIZ)I" = some ⟨[(.array .byte), .int, .int, .boolean], some .int⟩ := by decide +kernel
theorem dCP3_7 : decode jdk_52_method_8_code 7 = .ok (.ireturn, 1) := by decide +kernel
theorem pn_CP3 : plainFor (⟨"java/lang/StringUTF16", "codePointAt", "([BII)I"⟩ : MethodName) = true := by first | exact plainFor_of_name (by first | (simp [plainName, overriddenIn]; done) | decide +kernel) | decide +kernel
set_option maxRecDepth 65536 in
set_option maxHeartbeats 40000000 in
theorem rmCP3 (l : Launch) (Z : State) (a0 : Array Value) (hw : ∀ d ∈ tables_1, d.before a0 Z = true) (d : Addr) (kd : ClassId) (i : Nat) (cs : List Int32) (h0 : Heap) (n0 : Nat) (Z0 : n0 ≤ h0.size) (AD : Arv Z h0 d kd .byte (Int32.ofNat (2 * cs.length)) (StrChars.Road.wideBytes cs) (.int (0 : Int32))) (hn : cs.length ≤ 4000) (hi : i < cs.length) (HB : ∀ c ∈ cs, ¬ c < 0 ∧ ¬ (65535 : Int32) < c) (SA1 : Sta Z h0 "java/lang/StringUTF16" "$assertionsDisabled" "Z" (.int (1 : Int32))) (SA2 : Sta Z h0 "java/lang/StringUTF16" "HI_BYTE_SHIFT" "I" (.int (0 : Int32))) (SA3 : Sta Z h0 "java/lang/StringUTF16" "LO_BYTE_SHIFT" "I" (.int (8 : Int32))) :
    NM l (⟨"java/lang/StringUTF16", "codePointAt", "([BII)I"⟩ : MethodName) jdk_52_method_8_code 3 (some .int) [] ({ frames := 2, cells := 0, slots := 0, locals := 34 } : Room) Z n0 #[(.ref d), (.int (Int32.ofNat i)), (.int (Int32.ofNat cs.length))] h0 [] (Pu (some (.int (cpoF cs i))) h0) := by
  refine NM.walk (Ls := #[.val (.ref d), .val (.int (Int32.ofNat i)), .val (.int (Int32.ofNat cs.length))]) pn_CP3 Z0 (fun m => by first | (simp [entryFrame, mkF, argsToLocals, Value.category]; done) | rfl) ?_
  intro p e s m below meth c s₁ hby hml hret hnm W0
  refine W0.aloadN (hb hby dCP3_0) rfl rfl (pc' := 1) rfl ?_
  refine W0.iloadN (hb hby dCP3_1) rfl (pc' := 2) rfl ?_
  refine W0.iloadN (hb hby dCP3_2) rfl (pc' := 3) rfl ?_
  refine W0.iconst (0 : Int32) (hb hby dCP3_3) rfl (pc' := 4) rfl ?_
  refine W0.callSP (hw _ (List.mem_of_getElem? (i := 118) rfl)) (hw _ (List.mem_of_getElem? (i := 119) rfl)) (hw _ (List.mem_of_getElem? (i := 25) rfl)) (hw _ (List.mem_of_getElem? (i := 120) rfl)) (by decide) (NM.bk (wd := 0) (rmCP4 l Z a0 hw d kd i cs h0 n0 W0.n0h AD hn hi HB SA1 SA2 SA3) W0.2.2.2.1 (hw _ (List.mem_of_getElem? (i := 120) rfl)) (hw _ (List.mem_of_getElem? (i := 25) rfl)) (by decide) (by decide)) (hb hby dCP3_4) (pc' := 7) rfl hml (argsL := [(.ref d), (.int (Int32.ofNat i)), (.int (Int32.ofNat cs.length)), (.int (0 : Int32))]) rfl (lenOf pd_e5cbcc20 rfl) rfl (Nat.le_of_ble_eq_true rfl) (by decide) (by decide) (fun _ _ _ q => pu_of q) ?_
  intro T1 L1 W1
  show Go p e below _ T1 (mkF m 7 #[.val (.ref d), .val (.int (Int32.ofNat i)), .val (.int (Int32.ofNat cs.length))] [(.int (cpoF cs i))])
  exact W1.retI hret (hb hby dCP3_7) (by decide) (by decide) ⟨rfl, rfl⟩
theorem dSPU_0 : decode jdk_42_method_57_code 0 = .ok (.aload_n 0, 1) := by decide +kernel
theorem dSPU_1 : decode jdk_42_method_57_code 1 = .ok (.invokevirtual 492, 3) := by decide +kernel
theorem pd_bfe1a59d : parseMethodDescriptor "()Z" = some ⟨[], some .boolean⟩ := by decide +kernel
theorem dSPU_4 : decode jdk_42_method_57_code 4 = .ok (.ifCond .eq 23, 3) := by decide +kernel
theorem dSPU_27 : decode jdk_42_method_57_code 27 = .ok (.aload_n 0, 1) := by decide +kernel
theorem dSPU_28 : decode jdk_42_method_57_code 28 = .ok (.getfield 9, 3) := by decide +kernel
theorem dSPU_31 : decode jdk_42_method_57_code 31 = .ok (.arraylength, 1) := by decide +kernel
theorem dSPU_32 : decode jdk_42_method_57_code 32 = .ok (.iconst 1, 1) := by decide +kernel
theorem dSPU_33 : decode jdk_42_method_57_code 33 = .ok (.ishr, 1) := by decide +kernel
theorem dSPU_34 : decode jdk_42_method_57_code 34 = .ok (.istore_n 2, 1) := by decide +kernel
theorem dSPU_35 : decode jdk_42_method_57_code 35 = .ok (.iload_n 1, 1) := by decide +kernel
theorem dSPU_36 : decode jdk_42_method_57_code 36 = .ok (.iload_n 2, 1) := by decide +kernel
theorem dSPU_37 : decode jdk_42_method_57_code 37 = .ok (.invokestatic 499, 3) := by decide +kernel
theorem pd_4d0c4db6 : parseMethodDescriptor "(II)V" = some ⟨[.int, .int], none⟩ := by decide +kernel
theorem dSPU_40 : decode jdk_42_method_57_code 40 = .ok (.aload_n 0, 1) := by decide +kernel
theorem dSPU_41 : decode jdk_42_method_57_code 41 = .ok (.getfield 9, 3) := by decide +kernel
theorem dSPU_44 : decode jdk_42_method_57_code 44 = .ok (.iload_n 1, 1) := by decide +kernel
theorem dSPU_45 : decode jdk_42_method_57_code 45 = .ok (.iload_n 2, 1) := by decide +kernel
theorem dSPU_46 : decode jdk_42_method_57_code 46 = .ok (.invokestatic 502, 3) := by decide +kernel
theorem pd_562176a7 : parseMethodDescriptor "([BII)I" = some ⟨[(.array .byte), .int, .int], some .int⟩ := by decide +kernel
theorem dSPU_49 : decode jdk_42_method_57_code 49 = .ok (.ireturn, 1) := by decide +kernel
theorem pn_SPU : plainFor (⟨"java/lang/String", "codePointAt", "(I)I"⟩ : MethodName) = true := by first | exact plainFor_of_name (by first | (simp [plainName, overriddenIn]; done) | decide +kernel) | decide +kernel
set_option maxRecDepth 65536 in
set_option maxHeartbeats 40000000 in
theorem rmSPU (l : Launch) (Z : State) (a0 : Array Value) (hw : ∀ d ∈ tables_1, d.before a0 Z = true) (a d : Addr) (kd : ClassId) (i : Nat) (cs : List Int32) (zc : Int32) (fm : Value) (h0 : Heap) (n0 : Nat) (Z0 : n0 ≤ h0.size) (EX : Exa Z h0 a "java/lang/String") (FC : Fld Z h0 a "java/lang/String" "coder" "B" (.int (1 : Int32))) (FV : Fld Z h0 a "java/lang/String" "value" "[B" (.ref d)) (AD : Arv Z h0 d kd .byte (Int32.ofNat (2 * cs.length)) (StrChars.Road.wideBytes cs) (.int (0 : Int32))) (hn : cs.length ≤ 4000) (hi : i < cs.length) (HB : ∀ c ∈ cs, ¬ c < 0 ∧ ¬ (65535 : Int32) < c) (SA1 : Sta Z h0 "java/lang/StringUTF16" "$assertionsDisabled" "Z" (.int (1 : Int32))) (SA2 : Sta Z h0 "java/lang/StringUTF16" "HI_BYTE_SHIFT" "I" (.int (0 : Int32))) (SA3 : Sta Z h0 "java/lang/StringUTF16" "LO_BYTE_SHIFT" "I" (.int (8 : Int32))) (SC : Sta Z h0 "java/lang/String" "COMPACT_STRINGS" "Z" (.int zc)) (hz : ¬ zc = 0) (SF : Sta Z h0 "jdk/internal/util/Preconditions" "SIOOBE_FORMATTER" "Ljava/util/function/BiFunction;" fm) (rfm : fm.isRef = true) :
    NM l (⟨"java/lang/String", "codePointAt", "(I)I"⟩ : MethodName) jdk_42_method_57_code 3 (some .int) [] ({ frames := 3, cells := 0, slots := 0, locals := 48 } : Room) Z n0 #[(.ref a), (.int (Int32.ofNat i))] h0 [] (Pu (some (.int (cpoF cs i))) h0) := by
  refine NM.walk (Ls := #[.val (.ref a), .val (.int (Int32.ofNat i)), .unset]) pn_SPU Z0 (fun m => by first | (simp [entryFrame, mkF, argsToLocals, Value.category]; done) | rfl) ?_
  intro p e s m below meth c s₁ hby hml hret hnm W0
  refine W0.aloadN (hb hby dSPU_0) rfl rfl (pc' := 1) rfl ?_
  refine W0.callVP (y := (⟨"java/lang/String", "isLatin1", "()Z"⟩ : MethodName)) (z := (⟨"java/lang/String", "isLatin1", "()Z"⟩ : MethodName)) (hw _ (List.mem_of_getElem? (i := 81) rfl)) (hw _ (List.mem_of_getElem? (i := 82) rfl)) (hw _ (List.mem_of_getElem? (i := 84) rfl)) (hw _ (List.mem_of_getElem? (i := 84) rfl)) (hw _ (List.mem_of_getElem? (i := 83) rfl)) (by decide) (NM.bk (wd := 0) (rmIL l Z a0 hw a zc h0 n0 W0.n0h FC SC hz) W0.2.2.2.1 (hw _ (List.mem_of_getElem? (i := 85) rfl)) (hw _ (List.mem_of_getElem? (i := 11) rfl)) (by decide) (by decide)) EX (hb hby dSPU_1) (pc' := 4) rfl hml (argsL := []) rfl (lenOf pd_bfe1a59d rfl) rfl (Nat.le_of_ble_eq_true rfl) (by decide) (by decide) (fun _ _ _ q => pu_of q) ?_
  intro T1 L1 W1
  show Go p e below _ T1 (mkF m 4 #[.val (.ref a), .val (.int (Int32.ofNat i)), .unset] [(.int (0 : Int32))])
  refine W1.ifYes (hb hby dSPU_4) (XT.i0_eq_t (by decide)) (by decide) (pc' := 27) (by decide) ?_
  refine W1.aloadN (hb hby dSPU_27) rfl rfl (pc' := 28) rfl ?_
  refine W1.getF (host := "") (Or.inl (hw _ (List.mem_of_getElem? (i := 36) rfl))) Via.refl FV (hb hby dSPU_28) (pc' := 31) rfl ?_
  intro T2 W2
  refine W2.arraylength AD (hb hby dSPU_31) (pc' := 32) rfl ?_
  refine W2.iconst (1 : Int32) (hb hby dSPU_32) rfl (pc' := 33) rfl ?_
  refine W2.ishr (hb hby dSPU_33) (pc' := 34) rfl ?_
  rw [StrChars.shr1 (by omega)]
  refine W2.istoreN (Ls' := #[.val (.ref a), .val (.int (Int32.ofNat i)), .val (.int (Int32.ofNat cs.length))]) (hb hby dSPU_34) rfl (pc' := 35) rfl ?_
  refine W2.iloadN (hb hby dSPU_35) rfl (pc' := 36) rfl ?_
  refine W2.iloadN (hb hby dSPU_36) rfl (pc' := 37) rfl ?_
  refine W2.callSP (hw _ (List.mem_of_getElem? (i := 86) rfl)) (hw _ (List.mem_of_getElem? (i := 87) rfl)) (hw _ (List.mem_of_getElem? (i := 11) rfl)) (hw _ (List.mem_of_getElem? (i := 88) rfl)) (by decide) (NM.bk (wd := 0) (rmSCK l Z a0 hw i cs.length fm h0 n0 W2.n0h SF rfm hn hi) W2.2.2.2.1 (hw _ (List.mem_of_getElem? (i := 88) rfl)) (hw _ (List.mem_of_getElem? (i := 11) rfl)) (by decide) (by decide)) (hb hby dSPU_37) (pc' := 40) rfl hml (argsL := [(.int (Int32.ofNat i)), (.int (Int32.ofNat cs.length))]) rfl (lenOf pd_4d0c4db6 rfl) rfl (Nat.le_of_ble_eq_true rfl) (by decide) (by decide) (fun _ _ _ q => pu_of q) ?_
  intro T3 L3 W3
  show Go p e below _ T3 (mkF m 40 #[.val (.ref a), .val (.int (Int32.ofNat i)), .val (.int (Int32.ofNat cs.length))] [])
  refine W3.aloadN (hb hby dSPU_40) rfl rfl (pc' := 41) rfl ?_
  refine W3.getF (host := "") (Or.inl (hw _ (List.mem_of_getElem? (i := 36) rfl))) Via.refl FV (hb hby dSPU_41) (pc' := 44) rfl ?_
  intro T4 W4
  refine W4.iloadN (hb hby dSPU_44) rfl (pc' := 45) rfl ?_
  refine W4.iloadN (hb hby dSPU_45) rfl (pc' := 46) rfl ?_
  refine W4.callSP (hw _ (List.mem_of_getElem? (i := 115) rfl)) (hw _ (List.mem_of_getElem? (i := 116) rfl)) (hw _ (List.mem_of_getElem? (i := 25) rfl)) (hw _ (List.mem_of_getElem? (i := 117) rfl)) (by decide) (NM.bk (wd := 0) (rmCP3 l Z a0 hw d kd i cs h0 n0 W4.n0h AD hn hi HB SA1 SA2 SA3) W4.2.2.2.1 (hw _ (List.mem_of_getElem? (i := 117) rfl)) (hw _ (List.mem_of_getElem? (i := 25) rfl)) (by decide) (by decide)) (hb hby dSPU_46) (pc' := 49) rfl hml (argsL := [(.ref d), (.int (Int32.ofNat i)), (.int (Int32.ofNat cs.length))]) rfl (lenOf pd_562176a7 rfl) rfl (Nat.le_of_ble_eq_true rfl) (by decide) (by decide) (fun _ _ _ q => pu_of q) ?_
  intro T5 L5 W5
  show Go p e below _ T5 (mkF m 49 #[.val (.ref a), .val (.int (Int32.ofNat i)), .val (.int (Int32.ofNat cs.length))] [(.int (cpoF cs i))])
  exact W5.retI hret (hb hby dSPU_49) (by decide) (by decide) ⟨rfl, rfl⟩
theorem dIL0_0 : decode jdk_42_method_154_code 0 = .ok (.getstatic 38, 3) := by decide +kernel
theorem dIL0_3 : decode jdk_42_method_154_code 3 = .ok (.ifCond .eq 14, 3) := by decide +kernel
theorem dIL0_6 : decode jdk_42_method_154_code 6 = .ok (.aload_n 0, 1) := by decide +kernel
theorem dIL0_7 : decode jdk_42_method_154_code 7 = .ok (.getfield 15, 3) := by decide +kernel
theorem dIL0_10 : decode jdk_42_method_154_code 10 = .ok (.ifCond .ne 7, 3) := by decide +kernel
theorem dIL0_13 : decode jdk_42_method_154_code 13 = .ok (.iconst 1, 1) := by decide +kernel
theorem dIL0_14 : decode jdk_42_method_154_code 14 = .ok (.goto 4, 3) := by decide +kernel
theorem dIL0_18 : decode jdk_42_method_154_code 18 = .ok (.ireturn, 1) := by decide +kernel
theorem pn_IL0 : plainFor (⟨"java/lang/String", "isLatin1", "()Z"⟩ : MethodName) = true := by first | exact plainFor_of_name (by first | (simp [plainName, overriddenIn]; done) | decide +kernel) | decide +kernel
set_option maxRecDepth 65536 in
set_option maxHeartbeats 40000000 in
theorem rmIL0 (l : Launch) (Z : State) (a0 : Array Value) (hw : ∀ d ∈ tables_1, d.before a0 Z = true) (a : Addr) (zc : Int32) (h0 : Heap) (n0 : Nat) (Z0 : n0 ≤ h0.size) (FC : Fld Z h0 a "java/lang/String" "coder" "B" (.int (0 : Int32)))  (SC : Sta Z h0 "java/lang/String" "COMPACT_STRINGS" "Z" (.int zc)) (hz : ¬ zc = 0) :
    NM l (⟨"java/lang/String", "isLatin1", "()Z"⟩ : MethodName) jdk_42_method_154_code 1 (some .boolean) [] ({ frames := 0, cells := 0, slots := 0, locals := 0 } : Room) Z n0 #[(.ref a)] h0 [] (Pu (some (.int (1 : Int32))) h0) := by
  refine NM.walk (Ls := #[.val (.ref a)]) pn_IL0 Z0 (fun m => by first | (simp [entryFrame, mkF, argsToLocals, Value.category]; done) | rfl) ?_
  intro p e s m below meth c s₁ hby hml hret hnm W0
  refine W0.getS (host := "") (Or.inl (hw _ (List.mem_of_getElem? (i := 22) rfl))) Via.refl SC (hb hby dIL0_0) (pc' := 3) rfl ?_
  intro T1 W1
  refine W1.ifNo (hb hby dIL0_3) (XT.i0_eq_f hz) (pc' := 6) rfl ?_
  refine W1.aloadN (hb hby dIL0_6) rfl rfl (pc' := 7) rfl ?_
  refine W1.getF (host := "") (Or.inl (hw _ (List.mem_of_getElem? (i := 34) rfl))) Via.refl FC (hb hby dIL0_7) (pc' := 10) rfl ?_
  intro T2 W2
  refine W2.ifNo (hb hby dIL0_10) (XT.i0_ne_f (by decide)) (pc' := 13) rfl ?_
  refine W2.iconst (1 : Int32) (hb hby dIL0_13) rfl (pc' := 14) rfl ?_
  refine W2.goto (hb hby dIL0_14) (by decide) (pc' := 18) (by decide) ?_
  exact W2.retZ hret (hb hby dIL0_18) (by decide) (by decide) (by decide) ⟨rfl, rfl⟩
theorem lo_at (cs : List Int32) (i : Nat) : (cs.map fun c => Value.int (StrChars.lo8 c)).getD i (.int (0 : Int32)) = .int (StrChars.lo8 (cs.getD i 0)) := by
  simp only [List.getD_eq_getElem?_getD, List.getElem?_map]
  cases cs[i]? <;> rfl
theorem cpo_lat {cs : List Int32} {i : Nat} (hb : ¬ (cs.getD i 0) < 0 ∧ ¬ (255 : Int32) < cs.getD i 0) : StrChars.lo8 (cs.getD i 0) &&& 255 = cpoF cs i := by
  rw [StrChars.lo8_mask hb.1 hb.2, cpoF, if_pos]
  rw [hsF, if_pos]
  have := hb.2
  simp only [Int32.lt_iff_toInt_lt, Int32.reduceToInt] at *; omega
theorem dSPL_0 : decode jdk_42_method_57_code 0 = .ok (.aload_n 0, 1) := by decide +kernel
theorem dSPL_1 : decode jdk_42_method_57_code 1 = .ok (.invokevirtual 492, 3) := by decide +kernel
theorem dSPL_4 : decode jdk_42_method_57_code 4 = .ok (.ifCond .eq 23, 3) := by decide +kernel
theorem dSPL_7 : decode jdk_42_method_57_code 7 = .ok (.iload_n 1, 1) := by decide +kernel
theorem dSPL_8 : decode jdk_42_method_57_code 8 = .ok (.aload_n 0, 1) := by decide +kernel
theorem dSPL_9 : decode jdk_42_method_57_code 9 = .ok (.getfield 9, 3) := by decide +kernel
theorem dSPL_12 : decode jdk_42_method_57_code 12 = .ok (.arraylength, 1) := by decide +kernel
theorem dSPL_13 : decode jdk_42_method_57_code 13 = .ok (.invokestatic 499, 3) := by decide +kernel
theorem dSPL_16 : decode jdk_42_method_57_code 16 = .ok (.aload_n 0, 1) := by decide +kernel
theorem dSPL_17 : decode jdk_42_method_57_code 17 = .ok (.getfield 9, 3) := by decide +kernel
theorem dSPL_20 : decode jdk_42_method_57_code 20 = .ok (.iload_n 1, 1) := by decide +kernel
theorem dSPL_21 : decode jdk_42_method_57_code 21 = .ok (.baload, 1) := by decide +kernel
theorem dSPL_22 : decode jdk_42_method_57_code 22 = .ok (.sipush 255, 3) := by decide +kernel
theorem dSPL_25 : decode jdk_42_method_57_code 25 = .ok (.iand, 1) := by decide +kernel
theorem dSPL_26 : decode jdk_42_method_57_code 26 = .ok (.ireturn, 1) := by decide +kernel
theorem pn_SPL : plainFor (⟨"java/lang/String", "codePointAt", "(I)I"⟩ : MethodName) = true := by first | exact plainFor_of_name (by first | (simp [plainName, overriddenIn]; done) | decide +kernel) | decide +kernel
set_option maxRecDepth 65536 in
set_option maxHeartbeats 40000000 in
theorem rmSPL (l : Launch) (Z : State) (a0 : Array Value) (hw : ∀ d ∈ tables_1, d.before a0 Z = true) (a d : Addr) (kd : ClassId) (i : Nat) (cs : List Int32) (zc : Int32) (fm : Value) (h0 : Heap) (n0 : Nat) (Z0 : n0 ≤ h0.size) (EX : Exa Z h0 a "java/lang/String") (FC : Fld Z h0 a "java/lang/String" "coder" "B" (.int (0 : Int32))) (FV : Fld Z h0 a "java/lang/String" "value" "[B" (.ref d)) (AD : Arv Z h0 d kd .byte (Int32.ofNat cs.length) (cs.map fun c => Value.int (StrChars.lo8 c)) (.int (0 : Int32))) (hn : cs.length ≤ 4000) (hi : i < cs.length) (HL : ∀ c ∈ cs, ¬ c < 0 ∧ ¬ (255 : Int32) < c) (SA1 : Sta Z h0 "java/lang/StringUTF16" "$assertionsDisabled" "Z" (.int (1 : Int32))) (SA2 : Sta Z h0 "java/lang/StringUTF16" "HI_BYTE_SHIFT" "I" (.int (0 : Int32))) (SA3 : Sta Z h0 "java/lang/StringUTF16" "LO_BYTE_SHIFT" "I" (.int (8 : Int32))) (SC : Sta Z h0 "java/lang/String" "COMPACT_STRINGS" "Z" (.int zc)) (hz : ¬ zc = 0) (SF : Sta Z h0 "jdk/internal/util/Preconditions" "SIOOBE_FORMATTER" "Ljava/util/function/BiFunction;" fm) (rfm : fm.isRef = true) :
    NM l (⟨"java/lang/String", "codePointAt", "(I)I"⟩ : MethodName) jdk_42_method_57_code 3 (some .int) [] ({ frames := 3, cells := 0, slots := 0, locals := 48 } : Room) Z n0 #[(.ref a), (.int (Int32.ofNat i))] h0 [] (Pu (some (.int (cpoF cs i))) h0) := by
  refine NM.walk (Ls := #[.val (.ref a), .val (.int (Int32.ofNat i)), .unset]) pn_SPL Z0 (fun m => by first | (simp [entryFrame, mkF, argsToLocals, Value.category]; done) | rfl) ?_
  intro p e s m below meth c s₁ hby hml hret hnm W0
  refine W0.aloadN (hb hby dSPL_0) rfl rfl (pc' := 1) rfl ?_
  refine W0.callVP (y := (⟨"java/lang/String", "isLatin1", "()Z"⟩ : MethodName)) (z := (⟨"java/lang/String", "isLatin1", "()Z"⟩ : MethodName)) (hw _ (List.mem_of_getElem? (i := 81) rfl)) (hw _ (List.mem_of_getElem? (i := 82) rfl)) (hw _ (List.mem_of_getElem? (i := 84) rfl)) (hw _ (List.mem_of_getElem? (i := 84) rfl)) (hw _ (List.mem_of_getElem? (i := 83) rfl)) (by decide) (NM.bk (wd := 0) (rmIL0 l Z a0 hw a zc h0 n0 W0.n0h FC SC hz) W0.2.2.2.1 (hw _ (List.mem_of_getElem? (i := 85) rfl)) (hw _ (List.mem_of_getElem? (i := 11) rfl)) (by decide) (by decide)) EX (hb hby dSPL_1) (pc' := 4) rfl hml (argsL := []) rfl (lenOf pd_bfe1a59d rfl) rfl (Nat.le_of_ble_eq_true rfl) (by decide) (by decide) (fun _ _ _ q => pu_of q) ?_
  intro T1 L1 W1
  show Go p e below _ T1 (mkF m 4 #[.val (.ref a), .val (.int (Int32.ofNat i)), .unset] [(.int (1 : Int32))])
  refine W1.ifNo (hb hby dSPL_4) (XT.i0_eq_f (by decide)) (pc' := 7) rfl ?_
  refine W1.iloadN (hb hby dSPL_7) rfl (pc' := 8) rfl ?_
  refine W1.aloadN (hb hby dSPL_8) rfl rfl (pc' := 9) rfl ?_
  refine W1.getF (host := "") (Or.inl (hw _ (List.mem_of_getElem? (i := 36) rfl))) Via.refl FV (hb hby dSPL_9) (pc' := 12) rfl ?_
  intro T2 W2
  refine W2.arraylength AD (hb hby dSPL_12) (pc' := 13) rfl ?_
  refine W2.callSP (hw _ (List.mem_of_getElem? (i := 86) rfl)) (hw _ (List.mem_of_getElem? (i := 87) rfl)) (hw _ (List.mem_of_getElem? (i := 11) rfl)) (hw _ (List.mem_of_getElem? (i := 88) rfl)) (by decide) (NM.bk (wd := 0) (rmSCK l Z a0 hw i cs.length fm h0 n0 W2.n0h SF rfm hn hi) W2.2.2.2.1 (hw _ (List.mem_of_getElem? (i := 88) rfl)) (hw _ (List.mem_of_getElem? (i := 11) rfl)) (by decide) (by decide)) (hb hby dSPL_13) (pc' := 16) rfl hml (argsL := [(.int (Int32.ofNat i)), (.int (Int32.ofNat cs.length))]) rfl (lenOf pd_4d0c4db6 rfl) rfl (Nat.le_of_ble_eq_true rfl) (by decide) (by decide) (fun _ _ _ q => pu_of q) ?_
  intro T3 L3 W3
  show Go p e below _ T3 (mkF m 16 #[.val (.ref a), .val (.int (Int32.ofNat i)), .unset] [])
  refine W3.aloadN (hb hby dSPL_16) rfl rfl (pc' := 17) rfl ?_
  refine W3.getF (host := "") (Or.inl (hw _ (List.mem_of_getElem? (i := 36) rfl))) Via.refl FV (hb hby dSPL_17) (pc' := 20) rfl ?_
  intro T4 W4
  refine W4.iloadN (hb hby dSPL_20) rfl (pc' := 21) rfl ?_
  refine W4.baload AD (.int (StrChars.lo8 (cs.getD i 0))) (hb hby dSPL_21) (pc' := 22) rfl ⟨ofNat_nn (by omega), (ofNat_lt (by omega) (by omega)).mpr hi⟩ (by rw [clN (by omega)]; exact lo_at cs i) ?_
  refine W4.sipush (255 : Int32) (hb hby dSPL_22) rfl (pc' := 25) rfl ?_
  refine W4.iand (hb hby dSPL_25) (pc' := 26) rfl ?_
  exact W4.retI hret (hb hby dSPL_26) (by decide) (by decide) ⟨congrArg (fun z => some (Value.int z)) (cpo_lat (getD_all (P := fun c => ¬ c < 0 ∧ ¬ (255 : Int32) < c) HL (by decide) i)), rfl⟩
section StrCpa
variable {p : Program} {l : Launch} {e : Env} {R : Room} {s : State} {args : Array Value} {below : List Frame} {Z : State} {h : Heap} {a0 : Array Value} {len wd : Nat} {n0 : Nat} {a : Addr} {cs : List Int32} {zc : Int32} {fm : Value}
/-- codePointAt, either coding -/
theorem StrA.cpa (F : StrA Z h a cs) (hZ : Z.Warmed39 s.vm) (hw : ∀ d ∈ tables_1, d.before a0 Z = true) (wc : (Cond.code (⟨"java/lang/String", "codePointAt", "(I)I"⟩ : MethodName) jdk_42_method_57_code 3 (some .int)).before a0 Z = true) (wz : (Cond.initialized "java/lang/String").before a0 Z = true) (hn0 : n0 ≤ h.size)
    (S : Sta Z h "java/lang/String" "COMPACT_STRINGS" "Z" (.int zc)) (hz : ¬ zc = 0) (S2 : Sta Z h "jdk/internal/util/Preconditions" "SIOOBE_FORMATTER" "Ljava/util/function/BiFunction;" fm) (rf : fm.isRef = true) (SA1 : Sta Z h "java/lang/StringUTF16" "$assertionsDisabled" "Z" (.int (1 : Int32))) (SA2 : Sta Z h "java/lang/StringUTF16" "HI_BYTE_SHIFT" "I" (.int (0 : Int32))) (SA3 : Sta Z h "java/lang/StringUTF16" "LO_BYTE_SHIFT" "I" (.int (8 : Int32)))
    (hfr : 4 ≤ R.frames) (hlo : wd + 62 ≤ R.locals) {i : Nat} {j : Int32} (hi : i < cs.length) (hj : j = Int32.ofNat i) :
    BK l R p e below s args (⟨"java/lang/String", "codePointAt", "(I)I"⟩ : MethodName) len wd #[.ref a, .int j] h 0 0 (fun v h' L => Pu (some (.int (cpoF cs i))) h v h' ∧ Keep h h' [] ∧ Fr n0 L) := by
  subst hj
  obtain ⟨f, b, n, t, kb, cd, N2, vs, v, c, k, q⟩ := F
  rcases q with ⟨rfl, rfl, rfl, q4⟩ | ⟨rfl, rfl, rfl, q4⟩
  · exact NM.bk (rmSPL l Z a0 hw a t kb i cs zc fm h n0 hn0 f c v k n hi (fun c hc => ⟨(b c hc).1, q4 c hc⟩) SA1 SA2 SA3 S hz S2 rf) hZ wc wz hfr hlo
  · exact NM.bk (rmSPU l Z a0 hw a t kb i cs zc fm h n0 hn0 f c v k n hi b SA1 SA2 SA3 S hz S2 rf) hZ wc wz hfr hlo
end StrCpa
def ccN (x : Int32) : Nat := if x < 65536 then 1 else 2
theorem cc_add (i : Nat) (x : Int32) : Int32.ofNat i + ccF x = Int32.ofNat (i + ccN x) := by
  rw [ccF, ccN]; split
  · exact ofNat_succ i
  · rw [← ofNat_succ (i + 1), ← ofNat_succ i, Int32.add_assoc]; rfl
theorem ccN_le (x : Int32) : 1 ≤ ccN x ∧ ccN x ≤ 2 := by rw [ccN]; split <;> omega
def cmpL (cs ds : List Int32) : Nat → Nat → Nat → Int32
  | i, j, 0 => (icF ((Int32.ofNat cs.length) - (Int32.ofNat i)) ((Int32.ofNat ds.length) - (Int32.ofNat j)))
  | i, j, k + 1 => (if (Int32.ofNat i) < (Int32.ofNat cs.length) then (if (Int32.ofNat j) < (Int32.ofNat ds.length) then (if (cpoF cs i) = (cpoF ds j) then (cmpL cs ds (i + ccN (cpoF cs i)) (j + ccN (cpoF ds j)) k) else (icF (cpoF cs i) (cpoF ds j))) else (icF ((Int32.ofNat cs.length) - (Int32.ofNat i)) ((Int32.ofNat ds.length) - (Int32.ofNat j)))) else (icF ((Int32.ofNat cs.length) - (Int32.ofNat i)) ((Int32.ofNat ds.length) - (Int32.ofNat j))))
theorem dCM_4 : decode prog_8_method_2_code 4 = .ok (.iload_n 2, 1) := by decide +kernel
theorem dCM_5 : decode prog_8_method_2_code 5 = .ok (.aload_n 0, 1) := by decide +kernel
theorem dCM_6 : decode prog_8_method_2_code 6 = .ok (.invokevirtual 7, 3) := by decide +kernel
theorem pd_368a4b19 : parseMethodDescriptor "()I" = some ⟨[], some .int⟩ := by decide +kernel
theorem dCM_9 : decode prog_8_method_2_code 9 = .ok (.if_icmp .ge 59, 3) := by decide +kernel
theorem dCM_68 : decode prog_8_method_2_code 68 = .ok (.aload_n 0, 1) := by decide +kernel
theorem dCM_69 : decode prog_8_method_2_code 69 = .ok (.invokevirtual 7, 3) := by decide +kernel
theorem dCM_72 : decode prog_8_method_2_code 72 = .ok (.iload_n 2, 1) := by decide +kernel
theorem dCM_73 : decode prog_8_method_2_code 73 = .ok (.isub, 1) := by decide +kernel
theorem dCM_74 : decode prog_8_method_2_code 74 = .ok (.aload_n 1, 1) := by decide +kernel
theorem dCM_75 : decode prog_8_method_2_code 75 = .ok (.invokevirtual 7, 3) := by decide +kernel
theorem dCM_78 : decode prog_8_method_2_code 78 = .ok (.iload_n 3, 1) := by decide +kernel
theorem dCM_79 : decode prog_8_method_2_code 79 = .ok (.isub, 1) := by decide +kernel
theorem dCM_80 : decode prog_8_method_2_code 80 = .ok (.invokestatic 17, 3) := by decide +kernel
theorem pd_d33b191e : parseMethodDescriptor "(II)I" = some ⟨[.int, .int], some .int⟩ := by decide +kernel
theorem dCM_83 : decode prog_8_method_2_code 83 = .ok (.ireturn, 1) := by decide +kernel
theorem dCM_12 : decode prog_8_method_2_code 12 = .ok (.iload_n 3, 1) := by decide +kernel
theorem dCM_13 : decode prog_8_method_2_code 13 = .ok (.aload_n 1, 1) := by decide +kernel
theorem dCM_14 : decode prog_8_method_2_code 14 = .ok (.invokevirtual 7, 3) := by decide +kernel
theorem dCM_17 : decode prog_8_method_2_code 17 = .ok (.if_icmp .ge 51, 3) := by decide +kernel
theorem dCM_20 : decode prog_8_method_2_code 20 = .ok (.aload_n 0, 1) := by decide +kernel
theorem dCM_21 : decode prog_8_method_2_code 21 = .ok (.iload_n 2, 1) := by decide +kernel
theorem dCM_22 : decode prog_8_method_2_code 22 = .ok (.invokevirtual 13, 3) := by decide +kernel
theorem dCM_25 : decode prog_8_method_2_code 25 = .ok (.istore 4, 2) := by decide +kernel
theorem dCM_27 : decode prog_8_method_2_code 27 = .ok (.aload_n 1, 1) := by decide +kernel
theorem dCM_28 : decode prog_8_method_2_code 28 = .ok (.iload_n 3, 1) := by decide +kernel
theorem dCM_29 : decode prog_8_method_2_code 29 = .ok (.invokevirtual 13, 3) := by decide +kernel
theorem dCM_32 : decode prog_8_method_2_code 32 = .ok (.istore 5, 2) := by decide +kernel
theorem dCM_34 : decode prog_8_method_2_code 34 = .ok (.iload 4, 2) := by decide +kernel
theorem dCM_36 : decode prog_8_method_2_code 36 = .ok (.iload 5, 2) := by decide +kernel
theorem dCM_38 : decode prog_8_method_2_code 38 = .ok (.if_icmp .eq 11, 3) := by decide +kernel
theorem dCM_49 : decode prog_8_method_2_code 49 = .ok (.iload_n 2, 1) := by decide +kernel
theorem dCM_50 : decode prog_8_method_2_code 50 = .ok (.iload 4, 2) := by decide +kernel
theorem dCM_52 : decode prog_8_method_2_code 52 = .ok (.invokestatic 23, 3) := by decide +kernel
theorem dCM_55 : decode prog_8_method_2_code 55 = .ok (.iadd, 1) := by decide +kernel
theorem dCM_56 : decode prog_8_method_2_code 56 = .ok (.istore_n 2, 1) := by decide +kernel
theorem dCM_57 : decode prog_8_method_2_code 57 = .ok (.iload_n 3, 1) := by decide +kernel
theorem dCM_58 : decode prog_8_method_2_code 58 = .ok (.iload 5, 2) := by decide +kernel
theorem dCM_60 : decode prog_8_method_2_code 60 = .ok (.invokestatic 23, 3) := by decide +kernel
theorem dCM_63 : decode prog_8_method_2_code 63 = .ok (.iadd, 1) := by decide +kernel
theorem dCM_64 : decode prog_8_method_2_code 64 = .ok (.istore_n 3, 1) := by decide +kernel
theorem dCM_65 : decode prog_8_method_2_code 65 = .ok (.goto (-61), 3) := by decide +kernel
theorem dCM_41 : decode prog_8_method_2_code 41 = .ok (.iload 4, 2) := by decide +kernel
theorem dCM_43 : decode prog_8_method_2_code 43 = .ok (.iload 5, 2) := by decide +kernel
theorem dCM_45 : decode prog_8_method_2_code 45 = .ok (.invokestatic 17, 3) := by decide +kernel
theorem dCM_48 : decode prog_8_method_2_code 48 = .ok (.ireturn, 1) := by decide +kernel
theorem dCM_0 : decode prog_8_method_2_code 0 = .ok (.iconst 0, 1) := by decide +kernel
theorem dCM_1 : decode prog_8_method_2_code 1 = .ok (.istore_n 2, 1) := by decide +kernel
theorem dCM_2 : decode prog_8_method_2_code 2 = .ok (.iconst 0, 1) := by decide +kernel
theorem dCM_3 : decode prog_8_method_2_code 3 = .ok (.istore_n 3, 1) := by decide +kernel
theorem pn_CM : plainFor (⟨"com/example/frugal_ranker/frugalranker/CodePoints", "compare", "(Ljava/lang/String;Ljava/lang/String;)I"⟩ : MethodName) = true := by first | exact plainFor_of_name (by first | (simp [plainName, overriddenIn]; done) | decide +kernel) | decide +kernel
set_option maxRecDepth 65536 in
set_option maxHeartbeats 40000000 in
theorem rmCM (l : Launch) (Z : State) (a0 : Array Value) (hw : ∀ d ∈ tables_1, d.before a0 Z = true) (a b : Addr) (cs ds : List Int32) (zc : Int32) (fm : Value) (h0 : Heap) (n0 : Nat) (Z0 : n0 ≤ h0.size) (TS : StrA Z h0 a cs) (TR : StrA Z h0 b ds) (SC : Sta Z h0 "java/lang/String" "COMPACT_STRINGS" "Z" (.int zc)) (hz : ¬ zc = 0) (SF : Sta Z h0 "jdk/internal/util/Preconditions" "SIOOBE_FORMATTER" "Ljava/util/function/BiFunction;" fm) (rfm : fm.isRef = true) (SA1 : Sta Z h0 "java/lang/StringUTF16" "$assertionsDisabled" "Z" (.int (1 : Int32))) (SA2 : Sta Z h0 "java/lang/StringUTF16" "HI_BYTE_SHIFT" "I" (.int (0 : Int32))) (SA3 : Sta Z h0 "java/lang/StringUTF16" "LO_BYTE_SHIFT" "I" (.int (8 : Int32))) :
    NM l (⟨"com/example/frugal_ranker/frugalranker/CodePoints", "compare", "(Ljava/lang/String;Ljava/lang/String;)I"⟩ : MethodName) prog_8_method_2_code 6 (some .int) [] ({ frames := 4, cells := 0, slots := 0, locals := 66 } : Room) Z n0 #[(.ref a), (.ref b)] h0 [] (Pu (some (.int (cmpL cs ds 0 0 cs.length))) h0) := by
  refine NM.walk (Ls := #[.val (.ref a), .val (.ref b), .unset, .unset, .unset, .unset]) pn_CM Z0 (fun m => by first | (simp [entryFrame, mkF, argsToLocals, Value.category]; done) | rfl) ?_
  intro p e s m below meth c s₁ hby hml hret hnm W0
  have loop : ∀ (k i j : Nat) (T : State) (Lo : List Loc) (sl4 sl5 : Slot), (cs.length ≤ i + k) → (i ≤ cs.length + 1) → (j ≤ ds.length + 1) → (cmpL cs ds 0 0 cs.length = cmpL cs ds i j k) → (sl4 = .unset ∨ ∃ z : Int32, sl4 = .val (.int z)) → (sl5 = .unset ∨ ∃ z : Int32, sl5 = .val (.int z)) → NK p l e ({ frames := 4, cells := 0, slots := 0, locals := 66 } : Room) s m #[(.ref a), (.ref b)] below meth c Z "com/example/frugal_ranker/frugalranker/CodePoints" n0 h0 [] T h0 Lo 0 0 → Go p e below (EndN n0 ({ frames := 4, cells := 0, slots := 0, locals := 66 } : Room) s below (Pu (some (.int (cmpL cs ds 0 0 cs.length))) h0) h0 []) T (mkF m 4 #[.val (.ref a), .val (.ref b), .val (.int (Int32.ofNat i)), .val (.int (Int32.ofNat j)), sl4, sl5] []) := by
    intro k
    induction k with
    | zero =>
      intro i j T Lo sl4 sl5 hk hi hj hF hsl4 hsl5 Wk
      have hn := TS.2.2.1
      have hm := TR.2.2.1
      refine Wk.iloadN (hb hby dCM_4) rfl (pc' := 5) rfl ?_
      refine Wk.aloadN (hb hby dCM_5) rfl rfl (pc' := 6) rfl ?_
      refine Wk.callVP (y := (⟨"java/lang/String", "length", "()I"⟩ : MethodName)) (z := (⟨"java/lang/String", "length", "()I"⟩ : MethodName)) (hw _ (List.mem_of_getElem? (i := 61) rfl)) (hw _ (List.mem_of_getElem? (i := 62) rfl)) (hw _ (List.mem_of_getElem? (i := 64) rfl)) (hw _ (List.mem_of_getElem? (i := 64) rfl)) (hw _ (List.mem_of_getElem? (i := 63) rfl)) (by decide) (StrA.lenB (wd := 1) TS Wk.2.2.2.1 hw (hw _ (List.mem_of_getElem? (i := 10) rfl)) SC hz (by decide) (by decide)) TS.1 (hb hby dCM_6) (pc' := 9) rfl hml (argsL := []) rfl (lenOf pd_368a4b19 rfl) rfl (Nat.le_of_ble_eq_true rfl) (by decide) (by decide) (fun _ _ _ q => pu_nil q) ?_
      intro T1 L1 W1
      show Go p e below _ T1 (mkF m 9 #[.val (.ref a), .val (.ref b), .val (.int (Int32.ofNat i)), .val (.int (Int32.ofNat j)), sl4, sl5] [(.int (Int32.ofNat cs.length)), (.int (Int32.ofNat i))])
      refine W1.icmpYes (hb hby dCM_9) (XT.ii_ge_t (by rw [ofNat_lt (by omega) (by omega)]; omega)) (by decide) (pc' := 68) (by decide) ?_
      refine W1.aloadN (hb hby dCM_68) rfl rfl (pc' := 69) rfl ?_
      refine W1.callVP (y := (⟨"java/lang/String", "length", "()I"⟩ : MethodName)) (z := (⟨"java/lang/String", "length", "()I"⟩ : MethodName)) (hw _ (List.mem_of_getElem? (i := 61) rfl)) (hw _ (List.mem_of_getElem? (i := 62) rfl)) (hw _ (List.mem_of_getElem? (i := 64) rfl)) (hw _ (List.mem_of_getElem? (i := 64) rfl)) (hw _ (List.mem_of_getElem? (i := 63) rfl)) (by decide) (StrA.lenB (wd := 0) TS W1.2.2.2.1 hw (hw _ (List.mem_of_getElem? (i := 10) rfl)) SC hz (by decide) (by decide)) TS.1 (hb hby dCM_69) (pc' := 72) rfl hml (argsL := []) rfl (lenOf pd_368a4b19 rfl) rfl (Nat.le_of_ble_eq_true rfl) (by decide) (by decide) (fun _ _ _ q => pu_nil q) ?_
      intro T2 L2 W2
      show Go p e below _ T2 (mkF m 72 #[.val (.ref a), .val (.ref b), .val (.int (Int32.ofNat i)), .val (.int (Int32.ofNat j)), sl4, sl5] [(.int (Int32.ofNat cs.length))])
      refine W2.iloadN (hb hby dCM_72) rfl (pc' := 73) rfl ?_
      refine W2.isub (hb hby dCM_73) (pc' := 74) rfl ?_
      refine W2.aloadN (hb hby dCM_74) rfl rfl (pc' := 75) rfl ?_
      refine W2.callVP (y := (⟨"java/lang/String", "length", "()I"⟩ : MethodName)) (z := (⟨"java/lang/String", "length", "()I"⟩ : MethodName)) (hw _ (List.mem_of_getElem? (i := 61) rfl)) (hw _ (List.mem_of_getElem? (i := 62) rfl)) (hw _ (List.mem_of_getElem? (i := 64) rfl)) (hw _ (List.mem_of_getElem? (i := 64) rfl)) (hw _ (List.mem_of_getElem? (i := 63) rfl)) (by decide) (StrA.lenB (wd := 1) TR W2.2.2.2.1 hw (hw _ (List.mem_of_getElem? (i := 10) rfl)) SC hz (by decide) (by decide)) TR.1 (hb hby dCM_75) (pc' := 78) rfl hml (argsL := []) rfl (lenOf pd_368a4b19 rfl) rfl (Nat.le_of_ble_eq_true rfl) (by decide) (by decide) (fun _ _ _ q => pu_nil q) ?_
      intro T3 L3 W3
      show Go p e below _ T3 (mkF m 78 #[.val (.ref a), .val (.ref b), .val (.int (Int32.ofNat i)), .val (.int (Int32.ofNat j)), sl4, sl5] [(.int (Int32.ofNat ds.length)), (.int ((Int32.ofNat cs.length) - (Int32.ofNat i)))])
      refine W3.iloadN (hb hby dCM_78) rfl (pc' := 79) rfl ?_
      refine W3.isub (hb hby dCM_79) (pc' := 80) rfl ?_
      refine W3.callSP (hw _ (List.mem_of_getElem? (i := 71) rfl)) (hw _ (List.mem_of_getElem? (i := 72) rfl)) (hw _ (List.mem_of_getElem? (i := 73) rfl)) (hw _ (List.mem_of_getElem? (i := 74) rfl)) (by decide) (NM.bk (wd := 0) (rmIC l Z a0 hw ((Int32.ofNat cs.length) - (Int32.ofNat i)) ((Int32.ofNat ds.length) - (Int32.ofNat j)) h0 n0 W3.n0h ) W3.2.2.2.1 (hw _ (List.mem_of_getElem? (i := 74) rfl)) (hw _ (List.mem_of_getElem? (i := 73) rfl)) (by decide) (by decide)) (hb hby dCM_80) (pc' := 83) rfl hml (argsL := [(.int ((Int32.ofNat cs.length) - (Int32.ofNat i))), (.int ((Int32.ofNat ds.length) - (Int32.ofNat j)))]) rfl (lenOf pd_d33b191e rfl) rfl (Nat.le_of_ble_eq_true rfl) (by decide) (by decide) (fun _ _ _ q => pu_of q) ?_
      intro T4 L4 W4
      show Go p e below _ T4 (mkF m 83 #[.val (.ref a), .val (.ref b), .val (.int (Int32.ofNat i)), .val (.int (Int32.ofNat j)), sl4, sl5] [(.int (icF ((Int32.ofNat cs.length) - (Int32.ofNat i)) ((Int32.ofNat ds.length) - (Int32.ofNat j))))])
      exact W4.retI hret (hb hby dCM_83) (by decide) (by decide) ⟨congrArg (fun z => some (Value.int z)) (by rw [hF, cmpL]), rfl⟩
    | succ k ih =>
      intro i j T Lo sl4 sl5 hk hi hj hF hsl4 hsl5 Wk
      have hn := TS.2.2.1
      have hm := TR.2.2.1
      refine Wk.iloadN (hb hby dCM_4) rfl (pc' := 5) rfl ?_
      refine Wk.aloadN (hb hby dCM_5) rfl rfl (pc' := 6) rfl ?_
      refine Wk.callVP (y := (⟨"java/lang/String", "length", "()I"⟩ : MethodName)) (z := (⟨"java/lang/String", "length", "()I"⟩ : MethodName)) (hw _ (List.mem_of_getElem? (i := 61) rfl)) (hw _ (List.mem_of_getElem? (i := 62) rfl)) (hw _ (List.mem_of_getElem? (i := 64) rfl)) (hw _ (List.mem_of_getElem? (i := 64) rfl)) (hw _ (List.mem_of_getElem? (i := 63) rfl)) (by decide) (StrA.lenB (wd := 1) TS Wk.2.2.2.1 hw (hw _ (List.mem_of_getElem? (i := 10) rfl)) SC hz (by decide) (by decide)) TS.1 (hb hby dCM_6) (pc' := 9) rfl hml (argsL := []) rfl (lenOf pd_368a4b19 rfl) rfl (Nat.le_of_ble_eq_true rfl) (by decide) (by decide) (fun _ _ _ q => pu_nil q) ?_
      intro T5 L5 W5
      show Go p e below _ T5 (mkF m 9 #[.val (.ref a), .val (.ref b), .val (.int (Int32.ofNat i)), .val (.int (Int32.ofNat j)), sl4, sl5] [(.int (Int32.ofNat cs.length)), (.int (Int32.ofNat i))])
      by_cases hc6 : (Int32.ofNat i) < (Int32.ofNat cs.length)
      · refine W5.icmpNo (hb hby dCM_9) (XT.ii_ge_f hc6) (pc' := 12) rfl ?_
        refine W5.iloadN (hb hby dCM_12) rfl (pc' := 13) rfl ?_
        refine W5.aloadN (hb hby dCM_13) rfl rfl (pc' := 14) rfl ?_
        refine W5.callVP (y := (⟨"java/lang/String", "length", "()I"⟩ : MethodName)) (z := (⟨"java/lang/String", "length", "()I"⟩ : MethodName)) (hw _ (List.mem_of_getElem? (i := 61) rfl)) (hw _ (List.mem_of_getElem? (i := 62) rfl)) (hw _ (List.mem_of_getElem? (i := 64) rfl)) (hw _ (List.mem_of_getElem? (i := 64) rfl)) (hw _ (List.mem_of_getElem? (i := 63) rfl)) (by decide) (StrA.lenB (wd := 1) TR W5.2.2.2.1 hw (hw _ (List.mem_of_getElem? (i := 10) rfl)) SC hz (by decide) (by decide)) TR.1 (hb hby dCM_14) (pc' := 17) rfl hml (argsL := []) rfl (lenOf pd_368a4b19 rfl) rfl (Nat.le_of_ble_eq_true rfl) (by decide) (by decide) (fun _ _ _ q => pu_nil q) ?_
        intro T7 L7 W7
        show Go p e below _ T7 (mkF m 17 #[.val (.ref a), .val (.ref b), .val (.int (Int32.ofNat i)), .val (.int (Int32.ofNat j)), sl4, sl5] [(.int (Int32.ofNat ds.length)), (.int (Int32.ofNat j))])
        by_cases hc8 : (Int32.ofNat j) < (Int32.ofNat ds.length)
        · refine W7.icmpNo (hb hby dCM_17) (XT.ii_ge_f hc8) (pc' := 20) rfl ?_
          refine W7.aloadN (hb hby dCM_20) rfl rfl (pc' := 21) rfl ?_
          refine W7.iloadN (hb hby dCM_21) rfl (pc' := 22) rfl ?_
          refine W7.callVP (y := (⟨"java/lang/String", "codePointAt", "(I)I"⟩ : MethodName)) (z := (⟨"java/lang/String", "codePointAt", "(I)I"⟩ : MethodName)) (hw _ (List.mem_of_getElem? (i := 76) rfl)) (hw _ (List.mem_of_getElem? (i := 77) rfl)) (hw _ (List.mem_of_getElem? (i := 79) rfl)) (hw _ (List.mem_of_getElem? (i := 79) rfl)) (hw _ (List.mem_of_getElem? (i := 78) rfl)) (by decide) (StrA.cpa (wd := 0) (n0 := n0) TS W7.2.2.2.1 hw (hw _ (List.mem_of_getElem? (i := 80) rfl)) (hw _ (List.mem_of_getElem? (i := 11) rfl)) W7.n0h SC hz SF rfm SA1 SA2 SA3 (by decide) (by decide) (i := i) (j := (Int32.ofNat i)) ((ofNat_lt (by omega) (by omega)).mp hc6) rfl) TS.1 (hb hby dCM_22) (pc' := 25) rfl hml (argsL := [(.int (Int32.ofNat i))]) rfl (lenOf pd_89c469b3 rfl) rfl (Nat.le_of_ble_eq_true rfl) (by decide) (by decide) (fun _ _ _ q => pu_of q) ?_
          intro T9 L9 W9
          show Go p e below _ T9 (mkF m 25 #[.val (.ref a), .val (.ref b), .val (.int (Int32.ofNat i)), .val (.int (Int32.ofNat j)), sl4, sl5] [(.int (cpoF cs i))])
          refine W9.istore (Ls' := #[.val (.ref a), .val (.ref b), .val (.int (Int32.ofNat i)), .val (.int (Int32.ofNat j)), .val (.int (cpoF cs i)), sl5]) (hb hby dCM_25) (by rcases hsl4 with rfl | ⟨z, rfl⟩ <;> rfl) (pc' := 27) rfl ?_
          refine W9.aloadN (hb hby dCM_27) rfl rfl (pc' := 28) rfl ?_
          refine W9.iloadN (hb hby dCM_28) rfl (pc' := 29) rfl ?_
          refine W9.callVP (y := (⟨"java/lang/String", "codePointAt", "(I)I"⟩ : MethodName)) (z := (⟨"java/lang/String", "codePointAt", "(I)I"⟩ : MethodName)) (hw _ (List.mem_of_getElem? (i := 76) rfl)) (hw _ (List.mem_of_getElem? (i := 77) rfl)) (hw _ (List.mem_of_getElem? (i := 79) rfl)) (hw _ (List.mem_of_getElem? (i := 79) rfl)) (hw _ (List.mem_of_getElem? (i := 78) rfl)) (by decide) (StrA.cpa (wd := 0) (n0 := n0) TR W9.2.2.2.1 hw (hw _ (List.mem_of_getElem? (i := 80) rfl)) (hw _ (List.mem_of_getElem? (i := 11) rfl)) W9.n0h SC hz SF rfm SA1 SA2 SA3 (by decide) (by decide) (i := j) (j := (Int32.ofNat j)) ((ofNat_lt (by omega) (by omega)).mp hc8) rfl) TR.1 (hb hby dCM_29) (pc' := 32) rfl hml (argsL := [(.int (Int32.ofNat j))]) rfl (lenOf pd_89c469b3 rfl) rfl (Nat.le_of_ble_eq_true rfl) (by decide) (by decide) (fun _ _ _ q => pu_of q) ?_
          intro T10 L10 W10
          show Go p e below _ T10 (mkF m 32 #[.val (.ref a), .val (.ref b), .val (.int (Int32.ofNat i)), .val (.int (Int32.ofNat j)), .val (.int (cpoF cs i)), sl5] [(.int (cpoF ds j))])
          refine W10.istore (Ls' := #[.val (.ref a), .val (.ref b), .val (.int (Int32.ofNat i)), .val (.int (Int32.ofNat j)), .val (.int (cpoF cs i)), .val (.int (cpoF ds j))]) (hb hby dCM_32) (by rcases hsl5 with rfl | ⟨z, rfl⟩ <;> rfl) (pc' := 34) rfl ?_
          refine W10.iload (hb hby dCM_34) rfl (pc' := 36) rfl ?_
          refine W10.iload (hb hby dCM_36) rfl (pc' := 38) rfl ?_
          by_cases hc11 : (cpoF cs i) = (cpoF ds j)
          · refine W10.icmpYes (hb hby dCM_38) (XT.ii_eq_t hc11) (by decide) (pc' := 49) (by decide) ?_
            refine W10.iloadN (hb hby dCM_49) rfl (pc' := 50) rfl ?_
            refine W10.iload (hb hby dCM_50) rfl (pc' := 52) rfl ?_
            refine W10.callSP (hw _ (List.mem_of_getElem? (i := 130) rfl)) (hw _ (List.mem_of_getElem? (i := 131) rfl)) (hw _ (List.mem_of_getElem? (i := 123) rfl)) (hw _ (List.mem_of_getElem? (i := 132) rfl)) (by decide) (NM.bk (wd := 1) (rmCC l Z a0 hw (cpoF cs i) h0 n0 W10.n0h ) W10.2.2.2.1 (hw _ (List.mem_of_getElem? (i := 132) rfl)) (hw _ (List.mem_of_getElem? (i := 123) rfl)) (by decide) (by decide)) (hb hby dCM_52) (pc' := 55) rfl hml (argsL := [(.int (cpoF cs i))]) rfl (lenOf pd_89c469b3 rfl) rfl (Nat.le_of_ble_eq_true rfl) (by decide) (by decide) (fun _ _ _ q => pu_of q) ?_
            intro T12 L12 W12
            show Go p e below _ T12 (mkF m 55 #[.val (.ref a), .val (.ref b), .val (.int (Int32.ofNat i)), .val (.int (Int32.ofNat j)), .val (.int (cpoF cs i)), .val (.int (cpoF ds j))] [(.int (ccF (cpoF cs i))), (.int (Int32.ofNat i))])
            refine W12.iadd (hb hby dCM_55) (pc' := 56) rfl ?_
            rw [cc_add]
            refine W12.istoreN (Ls' := #[.val (.ref a), .val (.ref b), .val (.int (Int32.ofNat (i + ccN (cpoF cs i)))), .val (.int (Int32.ofNat j)), .val (.int (cpoF cs i)), .val (.int (cpoF ds j))]) (hb hby dCM_56) rfl (pc' := 57) rfl ?_
            refine W12.iloadN (hb hby dCM_57) rfl (pc' := 58) rfl ?_
            refine W12.iload (hb hby dCM_58) rfl (pc' := 60) rfl ?_
            refine W12.callSP (hw _ (List.mem_of_getElem? (i := 130) rfl)) (hw _ (List.mem_of_getElem? (i := 131) rfl)) (hw _ (List.mem_of_getElem? (i := 123) rfl)) (hw _ (List.mem_of_getElem? (i := 132) rfl)) (by decide) (NM.bk (wd := 1) (rmCC l Z a0 hw (cpoF ds j) h0 n0 W12.n0h ) W12.2.2.2.1 (hw _ (List.mem_of_getElem? (i := 132) rfl)) (hw _ (List.mem_of_getElem? (i := 123) rfl)) (by decide) (by decide)) (hb hby dCM_60) (pc' := 63) rfl hml (argsL := [(.int (cpoF ds j))]) rfl (lenOf pd_89c469b3 rfl) rfl (Nat.le_of_ble_eq_true rfl) (by decide) (by decide) (fun _ _ _ q => pu_of q) ?_
            intro T13 L13 W13
            show Go p e below _ T13 (mkF m 63 #[.val (.ref a), .val (.ref b), .val (.int (Int32.ofNat (i + ccN (cpoF cs i)))), .val (.int (Int32.ofNat j)), .val (.int (cpoF cs i)), .val (.int (cpoF ds j))] [(.int (ccF (cpoF ds j))), (.int (Int32.ofNat j))])
            refine W13.iadd (hb hby dCM_63) (pc' := 64) rfl ?_
            rw [cc_add]
            refine W13.istoreN (Ls' := #[.val (.ref a), .val (.ref b), .val (.int (Int32.ofNat (i + ccN (cpoF cs i)))), .val (.int (Int32.ofNat (j + ccN (cpoF ds j)))), .val (.int (cpoF cs i)), .val (.int (cpoF ds j))]) (hb hby dCM_64) rfl (pc' := 65) rfl ?_
            refine W13.goto (hb hby dCM_65) (by decide) (pc' := 4) (by decide) ?_
            have q1 := ccN_le (cpoF cs i)
            have q2 := ccN_le (cpoF ds j)
            have q3 := (ofNat_lt (by omega) (by omega)).mp hc6
            have q4 := (ofNat_lt (by omega) (by omega)).mp hc8
            exact ih _ _ _ _ (.val (.int (cpoF cs i))) (.val (.int (cpoF ds j))) (by omega) (by omega) (by omega) (by rw [hF, cmpL, if_pos hc6, if_pos hc8, if_pos hc11]) (Or.inr ⟨_, rfl⟩) (Or.inr ⟨_, rfl⟩) W13
          · refine W10.icmpNo (hb hby dCM_38) (XT.ii_eq_f hc11) (pc' := 41) rfl ?_
            refine W10.iload (hb hby dCM_41) rfl (pc' := 43) rfl ?_
            refine W10.iload (hb hby dCM_43) rfl (pc' := 45) rfl ?_
            refine W10.callSP (hw _ (List.mem_of_getElem? (i := 71) rfl)) (hw _ (List.mem_of_getElem? (i := 72) rfl)) (hw _ (List.mem_of_getElem? (i := 73) rfl)) (hw _ (List.mem_of_getElem? (i := 74) rfl)) (by decide) (NM.bk (wd := 0) (rmIC l Z a0 hw (cpoF cs i) (cpoF ds j) h0 n0 W10.n0h ) W10.2.2.2.1 (hw _ (List.mem_of_getElem? (i := 74) rfl)) (hw _ (List.mem_of_getElem? (i := 73) rfl)) (by decide) (by decide)) (hb hby dCM_45) (pc' := 48) rfl hml (argsL := [(.int (cpoF cs i)), (.int (cpoF ds j))]) rfl (lenOf pd_d33b191e rfl) rfl (Nat.le_of_ble_eq_true rfl) (by decide) (by decide) (fun _ _ _ q => pu_of q) ?_
            intro T14 L14 W14
            show Go p e below _ T14 (mkF m 48 #[.val (.ref a), .val (.ref b), .val (.int (Int32.ofNat i)), .val (.int (Int32.ofNat j)), .val (.int (cpoF cs i)), .val (.int (cpoF ds j))] [(.int (icF (cpoF cs i) (cpoF ds j)))])
            exact W14.retI hret (hb hby dCM_48) (by decide) (by decide) ⟨congrArg (fun z => some (Value.int z)) (by rw [hF, cmpL, if_pos hc6, if_pos hc8, if_neg hc11]), rfl⟩
        · refine W7.icmpYes (hb hby dCM_17) (XT.ii_ge_t hc8) (by decide) (pc' := 68) (by decide) ?_
          refine W7.aloadN (hb hby dCM_68) rfl rfl (pc' := 69) rfl ?_
          refine W7.callVP (y := (⟨"java/lang/String", "length", "()I"⟩ : MethodName)) (z := (⟨"java/lang/String", "length", "()I"⟩ : MethodName)) (hw _ (List.mem_of_getElem? (i := 61) rfl)) (hw _ (List.mem_of_getElem? (i := 62) rfl)) (hw _ (List.mem_of_getElem? (i := 64) rfl)) (hw _ (List.mem_of_getElem? (i := 64) rfl)) (hw _ (List.mem_of_getElem? (i := 63) rfl)) (by decide) (StrA.lenB (wd := 0) TS W7.2.2.2.1 hw (hw _ (List.mem_of_getElem? (i := 10) rfl)) SC hz (by decide) (by decide)) TS.1 (hb hby dCM_69) (pc' := 72) rfl hml (argsL := []) rfl (lenOf pd_368a4b19 rfl) rfl (Nat.le_of_ble_eq_true rfl) (by decide) (by decide) (fun _ _ _ q => pu_nil q) ?_
          intro T15 L15 W15
          show Go p e below _ T15 (mkF m 72 #[.val (.ref a), .val (.ref b), .val (.int (Int32.ofNat i)), .val (.int (Int32.ofNat j)), sl4, sl5] [(.int (Int32.ofNat cs.length))])
          refine W15.iloadN (hb hby dCM_72) rfl (pc' := 73) rfl ?_
          refine W15.isub (hb hby dCM_73) (pc' := 74) rfl ?_
          refine W15.aloadN (hb hby dCM_74) rfl rfl (pc' := 75) rfl ?_
          refine W15.callVP (y := (⟨"java/lang/String", "length", "()I"⟩ : MethodName)) (z := (⟨"java/lang/String", "length", "()I"⟩ : MethodName)) (hw _ (List.mem_of_getElem? (i := 61) rfl)) (hw _ (List.mem_of_getElem? (i := 62) rfl)) (hw _ (List.mem_of_getElem? (i := 64) rfl)) (hw _ (List.mem_of_getElem? (i := 64) rfl)) (hw _ (List.mem_of_getElem? (i := 63) rfl)) (by decide) (StrA.lenB (wd := 1) TR W15.2.2.2.1 hw (hw _ (List.mem_of_getElem? (i := 10) rfl)) SC hz (by decide) (by decide)) TR.1 (hb hby dCM_75) (pc' := 78) rfl hml (argsL := []) rfl (lenOf pd_368a4b19 rfl) rfl (Nat.le_of_ble_eq_true rfl) (by decide) (by decide) (fun _ _ _ q => pu_nil q) ?_
          intro T16 L16 W16
          show Go p e below _ T16 (mkF m 78 #[.val (.ref a), .val (.ref b), .val (.int (Int32.ofNat i)), .val (.int (Int32.ofNat j)), sl4, sl5] [(.int (Int32.ofNat ds.length)), (.int ((Int32.ofNat cs.length) - (Int32.ofNat i)))])
          refine W16.iloadN (hb hby dCM_78) rfl (pc' := 79) rfl ?_
          refine W16.isub (hb hby dCM_79) (pc' := 80) rfl ?_
          refine W16.callSP (hw _ (List.mem_of_getElem? (i := 71) rfl)) (hw _ (List.mem_of_getElem? (i := 72) rfl)) (hw _ (List.mem_of_getElem? (i := 73) rfl)) (hw _ (List.mem_of_getElem? (i := 74) rfl)) (by decide) (NM.bk (wd := 0) (rmIC l Z a0 hw ((Int32.ofNat cs.length) - (Int32.ofNat i)) ((Int32.ofNat ds.length) - (Int32.ofNat j)) h0 n0 W16.n0h ) W16.2.2.2.1 (hw _ (List.mem_of_getElem? (i := 74) rfl)) (hw _ (List.mem_of_getElem? (i := 73) rfl)) (by decide) (by decide)) (hb hby dCM_80) (pc' := 83) rfl hml (argsL := [(.int ((Int32.ofNat cs.length) - (Int32.ofNat i))), (.int ((Int32.ofNat ds.length) - (Int32.ofNat j)))]) rfl (lenOf pd_d33b191e rfl) rfl (Nat.le_of_ble_eq_true rfl) (by decide) (by decide) (fun _ _ _ q => pu_of q) ?_
          intro T17 L17 W17
          show Go p e below _ T17 (mkF m 83 #[.val (.ref a), .val (.ref b), .val (.int (Int32.ofNat i)), .val (.int (Int32.ofNat j)), sl4, sl5] [(.int (icF ((Int32.ofNat cs.length) - (Int32.ofNat i)) ((Int32.ofNat ds.length) - (Int32.ofNat j))))])
          exact W17.retI hret (hb hby dCM_83) (by decide) (by decide) ⟨congrArg (fun z => some (Value.int z)) (by rw [hF, cmpL, if_pos hc6, if_neg hc8]), rfl⟩
      · refine W5.icmpYes (hb hby dCM_9) (XT.ii_ge_t hc6) (by decide) (pc' := 68) (by decide) ?_
        refine W5.aloadN (hb hby dCM_68) rfl rfl (pc' := 69) rfl ?_
        refine W5.callVP (y := (⟨"java/lang/String", "length", "()I"⟩ : MethodName)) (z := (⟨"java/lang/String", "length", "()I"⟩ : MethodName)) (hw _ (List.mem_of_getElem? (i := 61) rfl)) (hw _ (List.mem_of_getElem? (i := 62) rfl)) (hw _ (List.mem_of_getElem? (i := 64) rfl)) (hw _ (List.mem_of_getElem? (i := 64) rfl)) (hw _ (List.mem_of_getElem? (i := 63) rfl)) (by decide) (StrA.lenB (wd := 0) TS W5.2.2.2.1 hw (hw _ (List.mem_of_getElem? (i := 10) rfl)) SC hz (by decide) (by decide)) TS.1 (hb hby dCM_69) (pc' := 72) rfl hml (argsL := []) rfl (lenOf pd_368a4b19 rfl) rfl (Nat.le_of_ble_eq_true rfl) (by decide) (by decide) (fun _ _ _ q => pu_nil q) ?_
        intro T18 L18 W18
        show Go p e below _ T18 (mkF m 72 #[.val (.ref a), .val (.ref b), .val (.int (Int32.ofNat i)), .val (.int (Int32.ofNat j)), sl4, sl5] [(.int (Int32.ofNat cs.length))])
        refine W18.iloadN (hb hby dCM_72) rfl (pc' := 73) rfl ?_
        refine W18.isub (hb hby dCM_73) (pc' := 74) rfl ?_
        refine W18.aloadN (hb hby dCM_74) rfl rfl (pc' := 75) rfl ?_
        refine W18.callVP (y := (⟨"java/lang/String", "length", "()I"⟩ : MethodName)) (z := (⟨"java/lang/String", "length", "()I"⟩ : MethodName)) (hw _ (List.mem_of_getElem? (i := 61) rfl)) (hw _ (List.mem_of_getElem? (i := 62) rfl)) (hw _ (List.mem_of_getElem? (i := 64) rfl)) (hw _ (List.mem_of_getElem? (i := 64) rfl)) (hw _ (List.mem_of_getElem? (i := 63) rfl)) (by decide) (StrA.lenB (wd := 1) TR W18.2.2.2.1 hw (hw _ (List.mem_of_getElem? (i := 10) rfl)) SC hz (by decide) (by decide)) TR.1 (hb hby dCM_75) (pc' := 78) rfl hml (argsL := []) rfl (lenOf pd_368a4b19 rfl) rfl (Nat.le_of_ble_eq_true rfl) (by decide) (by decide) (fun _ _ _ q => pu_nil q) ?_
        intro T19 L19 W19
        show Go p e below _ T19 (mkF m 78 #[.val (.ref a), .val (.ref b), .val (.int (Int32.ofNat i)), .val (.int (Int32.ofNat j)), sl4, sl5] [(.int (Int32.ofNat ds.length)), (.int ((Int32.ofNat cs.length) - (Int32.ofNat i)))])
        refine W19.iloadN (hb hby dCM_78) rfl (pc' := 79) rfl ?_
        refine W19.isub (hb hby dCM_79) (pc' := 80) rfl ?_
        refine W19.callSP (hw _ (List.mem_of_getElem? (i := 71) rfl)) (hw _ (List.mem_of_getElem? (i := 72) rfl)) (hw _ (List.mem_of_getElem? (i := 73) rfl)) (hw _ (List.mem_of_getElem? (i := 74) rfl)) (by decide) (NM.bk (wd := 0) (rmIC l Z a0 hw ((Int32.ofNat cs.length) - (Int32.ofNat i)) ((Int32.ofNat ds.length) - (Int32.ofNat j)) h0 n0 W19.n0h ) W19.2.2.2.1 (hw _ (List.mem_of_getElem? (i := 74) rfl)) (hw _ (List.mem_of_getElem? (i := 73) rfl)) (by decide) (by decide)) (hb hby dCM_80) (pc' := 83) rfl hml (argsL := [(.int ((Int32.ofNat cs.length) - (Int32.ofNat i))), (.int ((Int32.ofNat ds.length) - (Int32.ofNat j)))]) rfl (lenOf pd_d33b191e rfl) rfl (Nat.le_of_ble_eq_true rfl) (by decide) (by decide) (fun _ _ _ q => pu_of q) ?_
        intro T20 L20 W20
        show Go p e below _ T20 (mkF m 83 #[.val (.ref a), .val (.ref b), .val (.int (Int32.ofNat i)), .val (.int (Int32.ofNat j)), sl4, sl5] [(.int (icF ((Int32.ofNat cs.length) - (Int32.ofNat i)) ((Int32.ofNat ds.length) - (Int32.ofNat j))))])
        exact W20.retI hret (hb hby dCM_83) (by decide) (by decide) ⟨congrArg (fun z => some (Value.int z)) (by rw [hF, cmpL, if_neg hc6]), rfl⟩
  refine W0.iconst (0 : Int32) (hb hby dCM_0) rfl (pc' := 1) rfl ?_
  refine W0.istoreN (Ls' := #[.val (.ref a), .val (.ref b), .val (.int (0 : Int32)), .unset, .unset, .unset]) (hb hby dCM_1) rfl (pc' := 2) rfl ?_
  refine W0.iconst (0 : Int32) (hb hby dCM_2) rfl (pc' := 3) rfl ?_
  refine W0.istoreN (Ls' := #[.val (.ref a), .val (.ref b), .val (.int (0 : Int32)), .val (.int (0 : Int32)), .unset, .unset]) (hb hby dCM_3) rfl (pc' := 4) rfl ?_
  exact loop cs.length 0 0 _ _ _ _ (by omega) (by omega) (by omega) rfl (Or.inl rfl) (Or.inl rfl) W0
def strF (n c0 c1 c2 : Int32) : List Int32 := (if n = (0 : Int32) then ([] : List Int32) else (if n = (1 : Int32) then ([c0] : List Int32) else (if n = (2 : Int32) then ([c0, c1] : List Int32) else ([c0, c1, c2] : List Int32))))
theorem dM_0 : decode method_4_code 0 = .ok (.iload_n 1, 1) := by decide +kernel
theorem dM_1 : decode method_4_code 1 = .ok (.ifCond .ne 14, 3) := by decide +kernel
theorem dM_4 : decode method_4_code 4 = .ok (.new 37, 3) := by decide +kernel
theorem dM_7 : decode method_4_code 7 = .ok (.dup, 1) := by decide +kernel
theorem dM_8 : decode method_4_code 8 = .ok (.iconst 0, 1) := by decide +kernel
theorem dM_9 : decode method_4_code 9 = .ok (.newarray .char, 2) := by decide +kernel
theorem dM_11 : decode method_4_code 11 = .ok (.invokespecial 39, 3) := by decide +kernel
theorem pd_827e2587 : parseMethodDescriptor "([C)V" = some ⟨[(.array .char)], none⟩ := by decide +kernel
theorem dM_14 : decode method_4_code 14 = .ok (.areturn, 1) := by decide +kernel
theorem dM_15 : decode method_4_code 15 = .ok (.iload_n 1, 1) := by decide +kernel
theorem dM_16 : decode method_4_code 16 = .ok (.iconst 1, 1) := by decide +kernel
theorem dM_17 : decode method_4_code 17 = .ok (.if_icmp .ne 20, 3) := by decide +kernel
theorem dM_20 : decode method_4_code 20 = .ok (.new 37, 3) := by decide +kernel
theorem dM_23 : decode method_4_code 23 = .ok (.dup, 1) := by decide +kernel
theorem dM_24 : decode method_4_code 24 = .ok (.iconst 1, 1) := by decide +kernel
theorem dM_25 : decode method_4_code 25 = .ok (.newarray .char, 2) := by decide +kernel
theorem dM_27 : decode method_4_code 27 = .ok (.dup, 1) := by decide +kernel
theorem dM_28 : decode method_4_code 28 = .ok (.iconst 0, 1) := by decide +kernel
theorem dM_29 : decode method_4_code 29 = .ok (.aload_n 0, 1) := by decide +kernel
theorem dM_30 : decode method_4_code 30 = .ok (.iconst 0, 1) := by decide +kernel
theorem dM_31 : decode method_4_code 31 = .ok (.caload, 1) := by decide +kernel
theorem dM_32 : decode method_4_code 32 = .ok (.castore, 1) := by decide +kernel
theorem dM_33 : decode method_4_code 33 = .ok (.invokespecial 39, 3) := by decide +kernel
theorem dM_36 : decode method_4_code 36 = .ok (.areturn, 1) := by decide +kernel
theorem dM_37 : decode method_4_code 37 = .ok (.iload_n 1, 1) := by decide +kernel
theorem dM_38 : decode method_4_code 38 = .ok (.iconst 2, 1) := by decide +kernel
theorem dM_39 : decode method_4_code 39 = .ok (.if_icmp .ne 26, 3) := by decide +kernel
theorem dM_42 : decode method_4_code 42 = .ok (.new 37, 3) := by decide +kernel
theorem dM_45 : decode method_4_code 45 = .ok (.dup, 1) := by decide +kernel
theorem dM_46 : decode method_4_code 46 = .ok (.iconst 2, 1) := by decide +kernel
theorem dM_47 : decode method_4_code 47 = .ok (.newarray .char, 2) := by decide +kernel
theorem dM_49 : decode method_4_code 49 = .ok (.dup, 1) := by decide +kernel
theorem dM_50 : decode method_4_code 50 = .ok (.iconst 0, 1) := by decide +kernel
theorem dM_51 : decode method_4_code 51 = .ok (.aload_n 0, 1) := by decide +kernel
theorem dM_52 : decode method_4_code 52 = .ok (.iconst 0, 1) := by decide +kernel
theorem dM_53 : decode method_4_code 53 = .ok (.caload, 1) := by decide +kernel
theorem dM_54 : decode method_4_code 54 = .ok (.castore, 1) := by decide +kernel
theorem dM_55 : decode method_4_code 55 = .ok (.dup, 1) := by decide +kernel
theorem dM_56 : decode method_4_code 56 = .ok (.iconst 1, 1) := by decide +kernel
theorem dM_57 : decode method_4_code 57 = .ok (.aload_n 0, 1) := by decide +kernel
theorem dM_58 : decode method_4_code 58 = .ok (.iconst 1, 1) := by decide +kernel
theorem dM_59 : decode method_4_code 59 = .ok (.caload, 1) := by decide +kernel
theorem dM_60 : decode method_4_code 60 = .ok (.castore, 1) := by decide +kernel
theorem dM_61 : decode method_4_code 61 = .ok (.invokespecial 39, 3) := by decide +kernel
theorem dM_64 : decode method_4_code 64 = .ok (.areturn, 1) := by decide +kernel
theorem dM_65 : decode method_4_code 65 = .ok (.new 37, 3) := by decide +kernel
theorem dM_68 : decode method_4_code 68 = .ok (.dup, 1) := by decide +kernel
theorem dM_69 : decode method_4_code 69 = .ok (.iconst 3, 1) := by decide +kernel
theorem dM_70 : decode method_4_code 70 = .ok (.newarray .char, 2) := by decide +kernel
theorem dM_72 : decode method_4_code 72 = .ok (.dup, 1) := by decide +kernel
theorem dM_73 : decode method_4_code 73 = .ok (.iconst 0, 1) := by decide +kernel
theorem dM_74 : decode method_4_code 74 = .ok (.aload_n 0, 1) := by decide +kernel
theorem dM_75 : decode method_4_code 75 = .ok (.iconst 0, 1) := by decide +kernel
theorem dM_76 : decode method_4_code 76 = .ok (.caload, 1) := by decide +kernel
theorem dM_77 : decode method_4_code 77 = .ok (.castore, 1) := by decide +kernel
theorem dM_78 : decode method_4_code 78 = .ok (.dup, 1) := by decide +kernel
theorem dM_79 : decode method_4_code 79 = .ok (.iconst 1, 1) := by decide +kernel
theorem dM_80 : decode method_4_code 80 = .ok (.aload_n 0, 1) := by decide +kernel
theorem dM_81 : decode method_4_code 81 = .ok (.iconst 1, 1) := by decide +kernel
theorem dM_82 : decode method_4_code 82 = .ok (.caload, 1) := by decide +kernel
theorem dM_83 : decode method_4_code 83 = .ok (.castore, 1) := by decide +kernel
theorem dM_84 : decode method_4_code 84 = .ok (.dup, 1) := by decide +kernel
theorem dM_85 : decode method_4_code 85 = .ok (.iconst 2, 1) := by decide +kernel
theorem dM_86 : decode method_4_code 86 = .ok (.aload_n 0, 1) := by decide +kernel
theorem dM_87 : decode method_4_code 87 = .ok (.iconst 2, 1) := by decide +kernel
theorem dM_88 : decode method_4_code 88 = .ok (.caload, 1) := by decide +kernel
theorem dM_89 : decode method_4_code 89 = .ok (.castore, 1) := by decide +kernel
theorem dM_90 : decode method_4_code 90 = .ok (.invokespecial 39, 3) := by decide +kernel
theorem dM_93 : decode method_4_code 93 = .ok (.areturn, 1) := by decide +kernel
theorem pn_M : plainFor (⟨"com/example/frugal_ranker/frugalranker/CodePointsComparePinLaw", "str", "([CI)Ljava/lang/String;"⟩ : MethodName) = true := by first | exact plainFor_of_name (by first | (simp [plainName, overriddenIn]; done) | decide +kernel) | decide +kernel
set_option maxRecDepth 65536 in
set_option maxHeartbeats 40000000 in
theorem rmM (l : Launch) (Z : State) (a0 : Array Value) (hw : ∀ d ∈ tables_1, d.before a0 Z = true) (hEL : EW Z a0 consts_1) (arr : Addr) (ka : ClassId) (n c0 c1 c2 zc : Int32) (h0 : Heap) (n0 : Nat) (Z0 : n0 ≤ h0.size) (AR : Arv Z h0 arr ka .char (3 : Int32) [(.int c0), (.int c1), (.int c2)] (.int (0 : Int32))) (L0 : ¬ c0 < 0 ∧ ¬ (65535 : Int32) < c0) (L1 : ¬ c1 < 0 ∧ ¬ (65535 : Int32) < c1) (L2 : ¬ c2 < 0 ∧ ¬ (65535 : Int32) < c2) (SC : Sta Z h0 "java/lang/String" "COMPACT_STRINGS" "Z" (.int zc)) (hz : ¬ zc = 0) (SA1 : Sta Z h0 "java/lang/StringUTF16" "$assertionsDisabled" "Z" (.int (1 : Int32))) (SA2 : Sta Z h0 "java/lang/StringUTF16" "HI_BYTE_SHIFT" "I" (.int (0 : Int32))) (SA3 : Sta Z h0 "java/lang/StringUTF16" "LO_BYTE_SHIFT" "I" (.int (8 : Int32))) :
    WM l (⟨"com/example/frugal_ranker/frugalranker/CodePointsComparePinLaw", "str", "([CI)Ljava/lang/String;"⟩ : MethodName) method_4_code 2 (some (.object "java/lang/String")) [] ({ frames := 6, cells := 6, slots := 40, locals := 104 } : Room) Z consts_1 n0 #[(.ref arr), (.int n)] h0 [] (fun v h => ∃ a, v = some (.ref a) ∧ StrA Z h a (strF n c0 c1 c2)) := by
  refine WM.walk (Ls := #[.val (.ref arr), .val (.int n)]) pn_M Z0 (fun m => by first | (simp [entryFrame, mkF, argsToLocals, Value.category]; done) | rfl) ?_
  intro p e s m below meth c s₁ hby hml hret hnm W0
  refine W0.1.iloadN (hb hby dM_0) rfl (pc' := 1) rfl ?_
  by_cases hc1 : n = (0 : Int32)
  · refine W0.1.ifNo (hb hby dM_1) (XT.i0_ne_f hc1) (pc' := 4) rfl ?_
    refine W0.1.newO (hw _ (List.mem_of_getElem? (i := 9) rfl)) (hw _ (List.mem_of_getElem? (i := 10) rfl)) (hw _ (List.mem_of_getElem? (i := 11) rfl)) (hb hby dM_4) (pc' := 7) rfl (by decide) (by decide) ?_
    intro T2 h2 a2 g2 ge2 gn2 N2 E2 A2 D2
    have z2 := E2.1
    have y2 := Nat.le_of_eq g2.symm
    have W2 := W0.upE N2 E2
    have D2_coder := D2 (Or.inr (hw _ (List.mem_of_getElem? (i := 35) rfl))) (ty := .byte) (by decide)
    have D2_value := D2 (Or.inr (hw _ (List.mem_of_getElem? (i := 37) rfl))) (ty := (.array .byte)) (by decide)
    refine W2.1.dup (hb hby dM_7) rfl (pc' := 8) rfl ?_
    refine W2.1.iconst (0 : Int32) (hb hby dM_8) rfl (pc' := 9) rfl ?_
    refine W2.1.newP (hw _ (List.mem_of_getElem? (i := 5) rfl)) (hb hby dM_9) (pc' := 11) rfl (by decide) (cap := 0) (by decide) (by decide) (by decide) (by decide) ?_
    intro T3 h3 a3 k3 g3 ge3 gn3 N3 E3 V3'
    have V3 : Arv Z h3 a3 k3 .char (0 : Int32) [] (.int (0 : Int32)) := V3'
    have z3 := E3.1
    have y3 := Nat.le_of_eq g3.symm
    have W3 := W2.upE N3 E3
    have F5 := Exa.ext E3 A2
    have F6 := Fld.ext E3 D2_value
    have F7 := Fld.ext E3 D2_coder
    refine W3.callI (y := (⟨"java/lang/String", "<init>", "([C)V"⟩ : MethodName)) rfl (hw _ (List.mem_of_getElem? (i := 12) rfl)) (hw _ (List.mem_of_getElem? (i := 13) rfl)) (hw _ (List.mem_of_getElem? (i := 14) rfl)) (by decide) (WM.bk (wd := 1) (rmE1 l Z a0 hw hEL a2 a3 k3 h3 n0 W3.1.n0h gn2 F5 F6 F7 V3) W3.1.2.2.2.1 (hw _ (List.mem_of_getElem? (i := 14) rfl)) (hw _ (List.mem_of_getElem? (i := 11) rfl)) (by decide) (by decide) hEL W3.2.2.1) (hb hby dM_11) (pc' := 14) rfl hml (a := a2) (argsL := [(.ref a3)]) rfl (lenOf pd_827e2587 rfl) rfl (Nat.le_of_ble_eq_true rfl) (by decide) (by decide) (ws' := [a2]) (fun _ _ _ q => ⟨q.2.2, q.2.1⟩) (allS (Or.inr ge2) all0) ?_
    intro v4 T4 h4 vm4 L4' L4 W4 Q4 K4 C4
    have z4 := K4.1
    obtain ⟨⟨rfl, S4⟩, -, -⟩ := Q4
    show Go p e below _ T4 (mkF m 14 #[.val (.ref arr), .val (.int n)] [(.ref a2)])
    exact W4.retA hEL hret rfl rfl (hb hby dM_14) (by decide) (by decide) ⟨a2, rfl, by rw [strF, if_pos hc1]; exact S4⟩
  · refine W0.1.ifYes (hb hby dM_1) (XT.i0_ne_t hc1) (by decide) (pc' := 15) (by decide) ?_
    refine W0.1.iloadN (hb hby dM_15) rfl (pc' := 16) rfl ?_
    refine W0.1.iconst (1 : Int32) (hb hby dM_16) rfl (pc' := 17) rfl ?_
    by_cases hc8 : n = (1 : Int32)
    · refine W0.1.icmpNo (hb hby dM_17) (XT.ii_ne_f hc8) (pc' := 20) rfl ?_
      refine W0.1.newO (hw _ (List.mem_of_getElem? (i := 9) rfl)) (hw _ (List.mem_of_getElem? (i := 10) rfl)) (hw _ (List.mem_of_getElem? (i := 11) rfl)) (hb hby dM_20) (pc' := 23) rfl (by decide) (by decide) ?_
      intro T9 h9 a9 g9 ge9 gn9 N9 E9 A9 D9
      have z9 := E9.1
      have y9 := Nat.le_of_eq g9.symm
      have W9 := W0.upE N9 E9
      have D9_coder := D9 (Or.inr (hw _ (List.mem_of_getElem? (i := 35) rfl))) (ty := .byte) (by decide)
      have D9_value := D9 (Or.inr (hw _ (List.mem_of_getElem? (i := 37) rfl))) (ty := (.array .byte)) (by decide)
      refine W9.1.dup (hb hby dM_23) rfl (pc' := 24) rfl ?_
      refine W9.1.iconst (1 : Int32) (hb hby dM_24) rfl (pc' := 25) rfl ?_
      refine W9.1.newP (hw _ (List.mem_of_getElem? (i := 5) rfl)) (hb hby dM_25) (pc' := 27) rfl (by decide) (cap := 1) (by decide) (by decide) (by decide) (by decide) ?_
      intro T10 h10 a10 k10 g10 ge10 gn10 N10 E10 V10'
      have V10 : Arv Z h10 a10 k10 .char (1 : Int32) [(.int (0 : Int32))] (.int (0 : Int32)) := V10'
      have z10 := E10.1
      have y10 := Nat.le_of_eq g10.symm
      have W10 := W9.upE N10 E10
      refine W10.1.dup (hb hby dM_27) rfl (pc' := 28) rfl ?_
      refine W10.1.iconst (0 : Int32) (hb hby dM_28) rfl (pc' := 29) rfl ?_
      refine W10.1.aloadN (hb hby dM_29) rfl rfl (pc' := 30) rfl ?_
      refine W10.1.iconst (0 : Int32) (hb hby dM_30) rfl (pc' := 31) rfl ?_
      have X0_2_11 : Ext h0 h10 := Keep.toExt (((Keep.refl h0 []).ext E9).ext E10)
      have zX0_2_11 := X0_2_11.1
      have F12 := Arv.ext AR X0_2_11
      refine W10.1.caload F12 (.int c0) (hb hby dM_31) (pc' := 32) rfl (by decide) rfl ?_
      refine W10.1.stC V10 (hb hby dM_32) (pc' := 33) rfl (nar_chr L0) 0 rfl (Nat.le_of_ble_eq_true rfl) (by decide) (Or.inr ge10) gn10 ?_
      intro T13 h13 L13 N13 K13 V13'
      have V13 : Arv Z h13 a10 k10 .char (1 : Int32) [(.int c0)] (.int (0 : Int32)) := V13'
      have z13 := K13.1
      have W13 := W10.up N13 K13 (sfS (Safe.arv (EL := consts_1) W10.1.2.2.2.1.alike V10 (by decide)) sf0)
      have X1_3_15 : Ext h9 h13 := Keep.toExt (((Keep.refl h9 []).ext E10).trans K13 (allS (Or.inr (by have := y10; omega)) all0))
      have zX1_3_15 := X1_3_15.1
      have F16 := Exa.ext X1_3_15 A9
      have F17 := Fld.ext X1_3_15 D9_value
      have F18 := Fld.ext X1_3_15 D9_coder
      have X0_3_19 : Ext h0 h13 := Keep.toExt ((((Keep.refl h0 []).ext E9).ext E10).trans K13 (allS (Or.inr (by have := y10; omega)) all0))
      have zX0_3_19 := X0_3_19.1
      have F20 := Sta.ext X0_3_19 SC
      have F21 := Sta.ext X0_3_19 SA1
      have F22 := Sta.ext X0_3_19 SA2
      have F23 := Sta.ext X0_3_19 SA3
      refine W13.1.callI (y := (⟨"java/lang/String", "<init>", "([C)V"⟩ : MethodName)) rfl (hw _ (List.mem_of_getElem? (i := 12) rfl)) (hw _ (List.mem_of_getElem? (i := 13) rfl)) (hw _ (List.mem_of_getElem? (i := 14) rfl)) (by decide) (newStr (wd := 1) (cs := ([c0] : List Int32)) W13.1.2.2.2.1 hw (hw _ (List.mem_of_getElem? (i := 10) rfl)) (hw _ (List.mem_of_getElem? (i := 14) rfl)) (hw _ (List.mem_of_getElem? (i := 11) rfl)) gn9 W13.1.n0h F16 F17 F18 V13 (Nat.le_of_ble_eq_true rfl) (Nat.le_of_ble_eq_true rfl) (memS L0 mem0) F21 F22 F23 F20 hz (by decide) (by decide)) (hb hby dM_33) (pc' := 36) rfl hml (a := a9) (argsL := [(.ref a10)]) rfl (lenOf pd_827e2587 rfl) rfl (Nat.le_of_ble_eq_true rfl) (by decide) (by decide) (ws' := [a9]) (fun _ _ _ q => ⟨q.2.2, q.2.1⟩) (allS (Or.inr ge9) all0) ?_
      intro v14 T14 h14 L14' L14 N14 Q14 K14
      have W14 := W13.up N14 K14 (sfS (safe_null (EL := consts_1) W13.1.2.2.2.1.alike F16 F17) sf0)
      have z14 := K14.1
      obtain ⟨⟨rfl, S14⟩, -, -⟩ := Q14
      show Go p e below _ T14 (mkF m 36 #[.val (.ref arr), .val (.int n)] [(.ref a9)])
      exact W14.retA hEL hret rfl rfl (hb hby dM_36) (by decide) (by decide) ⟨a9, rfl, by rw [strF, if_neg hc1, if_pos hc8]; exact S14⟩
    · refine W0.1.icmpYes (hb hby dM_17) (XT.ii_ne_t hc8) (by decide) (pc' := 37) (by decide) ?_
      refine W0.1.iloadN (hb hby dM_37) rfl (pc' := 38) rfl ?_
      refine W0.1.iconst (2 : Int32) (hb hby dM_38) rfl (pc' := 39) rfl ?_
      by_cases hc24 : n = (2 : Int32)
      · refine W0.1.icmpNo (hb hby dM_39) (XT.ii_ne_f hc24) (pc' := 42) rfl ?_
        refine W0.1.newO (hw _ (List.mem_of_getElem? (i := 9) rfl)) (hw _ (List.mem_of_getElem? (i := 10) rfl)) (hw _ (List.mem_of_getElem? (i := 11) rfl)) (hb hby dM_42) (pc' := 45) rfl (by decide) (by decide) ?_
        intro T25 h25 a25 g25 ge25 gn25 N25 E25 A25 D25
        have z25 := E25.1
        have y25 := Nat.le_of_eq g25.symm
        have W25 := W0.upE N25 E25
        have D25_coder := D25 (Or.inr (hw _ (List.mem_of_getElem? (i := 35) rfl))) (ty := .byte) (by decide)
        have D25_value := D25 (Or.inr (hw _ (List.mem_of_getElem? (i := 37) rfl))) (ty := (.array .byte)) (by decide)
        refine W25.1.dup (hb hby dM_45) rfl (pc' := 46) rfl ?_
        refine W25.1.iconst (2 : Int32) (hb hby dM_46) rfl (pc' := 47) rfl ?_
        refine W25.1.newP (hw _ (List.mem_of_getElem? (i := 5) rfl)) (hb hby dM_47) (pc' := 49) rfl (by decide) (cap := 2) (by decide) (by decide) (by decide) (by decide) ?_
        intro T26 h26 a26 k26 g26 ge26 gn26 N26 E26 V26'
        have V26 : Arv Z h26 a26 k26 .char (2 : Int32) [(.int (0 : Int32)), (.int (0 : Int32))] (.int (0 : Int32)) := V26'
        have z26 := E26.1
        have y26 := Nat.le_of_eq g26.symm
        have W26 := W25.upE N26 E26
        refine W26.1.dup (hb hby dM_49) rfl (pc' := 50) rfl ?_
        refine W26.1.iconst (0 : Int32) (hb hby dM_50) rfl (pc' := 51) rfl ?_
        refine W26.1.aloadN (hb hby dM_51) rfl rfl (pc' := 52) rfl ?_
        refine W26.1.iconst (0 : Int32) (hb hby dM_52) rfl (pc' := 53) rfl ?_
        have X0_2_27 : Ext h0 h26 := Keep.toExt (((Keep.refl h0 []).ext E25).ext E26)
        have zX0_2_27 := X0_2_27.1
        have F28 := Arv.ext AR X0_2_27
        refine W26.1.caload F28 (.int c0) (hb hby dM_53) (pc' := 54) rfl (by decide) rfl ?_
        refine W26.1.stC V26 (hb hby dM_54) (pc' := 55) rfl (nar_chr L0) 0 rfl (Nat.le_of_ble_eq_true rfl) (by decide) (Or.inr ge26) gn26 ?_
        intro T29 h29 L29 N29 K29 V29'
        have V29 : Arv Z h29 a26 k26 .char (2 : Int32) [(.int c0), (.int (0 : Int32))] (.int (0 : Int32)) := V29'
        have z29 := K29.1
        have W29 := W26.up N29 K29 (sfS (Safe.arv (EL := consts_1) W26.1.2.2.2.1.alike V26 (by decide)) sf0)
        refine W29.1.dup (hb hby dM_55) rfl (pc' := 56) rfl ?_
        refine W29.1.iconst (1 : Int32) (hb hby dM_56) rfl (pc' := 57) rfl ?_
        refine W29.1.aloadN (hb hby dM_57) rfl rfl (pc' := 58) rfl ?_
        refine W29.1.iconst (1 : Int32) (hb hby dM_58) rfl (pc' := 59) rfl ?_
        have X0_3_30 : Ext h0 h29 := Keep.toExt ((((Keep.refl h0 []).ext E25).ext E26).trans K29 (allS (Or.inr (by have := y26; omega)) all0))
        have zX0_3_30 := X0_3_30.1
        have F31 := Arv.ext AR X0_3_30
        refine W29.1.caload F31 (.int c1) (hb hby dM_59) (pc' := 60) rfl (by decide) rfl ?_
        refine W29.1.stC V29 (hb hby dM_60) (pc' := 61) rfl (nar_chr L1) 1 rfl (Nat.le_of_ble_eq_true rfl) (by decide) (Or.inr ge26) gn26 ?_
        intro T32 h32 L32 N32 K32 V32'
        have V32 : Arv Z h32 a26 k26 .char (2 : Int32) [(.int c0), (.int c1)] (.int (0 : Int32)) := V32'
        have z32 := K32.1
        have W32 := W29.up N32 K32 (sfS (Safe.arv (EL := consts_1) W29.1.2.2.2.1.alike V29 (by decide)) sf0)
        have X1_4_34 : Ext h25 h32 := Keep.toExt ((((Keep.refl h25 []).ext E26).trans K29 (allS (Or.inr (by have := y26; omega)) all0)).trans K32 (allS (Or.inr (by have := y26; omega)) all0))
        have zX1_4_34 := X1_4_34.1
        have F35 := Exa.ext X1_4_34 A25
        have F36 := Fld.ext X1_4_34 D25_value
        have F37 := Fld.ext X1_4_34 D25_coder
        have X0_4_38 : Ext h0 h32 := Keep.toExt (((((Keep.refl h0 []).ext E25).ext E26).trans K29 (allS (Or.inr (by have := y26; omega)) all0)).trans K32 (allS (Or.inr (by have := y26; omega)) all0))
        have zX0_4_38 := X0_4_38.1
        have F39 := Sta.ext X0_4_38 SC
        have F40 := Sta.ext X0_4_38 SA1
        have F41 := Sta.ext X0_4_38 SA2
        have F42 := Sta.ext X0_4_38 SA3
        refine W32.1.callI (y := (⟨"java/lang/String", "<init>", "([C)V"⟩ : MethodName)) rfl (hw _ (List.mem_of_getElem? (i := 12) rfl)) (hw _ (List.mem_of_getElem? (i := 13) rfl)) (hw _ (List.mem_of_getElem? (i := 14) rfl)) (by decide) (newStr (wd := 1) (cs := ([c0, c1] : List Int32)) W32.1.2.2.2.1 hw (hw _ (List.mem_of_getElem? (i := 10) rfl)) (hw _ (List.mem_of_getElem? (i := 14) rfl)) (hw _ (List.mem_of_getElem? (i := 11) rfl)) gn25 W32.1.n0h F35 F36 F37 V32 (Nat.le_of_ble_eq_true rfl) (Nat.le_of_ble_eq_true rfl) (memS L0 (memS L1 mem0)) F40 F41 F42 F39 hz (by decide) (by decide)) (hb hby dM_61) (pc' := 64) rfl hml (a := a25) (argsL := [(.ref a26)]) rfl (lenOf pd_827e2587 rfl) rfl (Nat.le_of_ble_eq_true rfl) (by decide) (by decide) (ws' := [a25]) (fun _ _ _ q => ⟨q.2.2, q.2.1⟩) (allS (Or.inr ge25) all0) ?_
        intro v33 T33 h33 L33' L33 N33 Q33 K33
        have W33 := W32.up N33 K33 (sfS (safe_null (EL := consts_1) W32.1.2.2.2.1.alike F35 F36) sf0)
        have z33 := K33.1
        obtain ⟨⟨rfl, S33⟩, -, -⟩ := Q33
        show Go p e below _ T33 (mkF m 64 #[.val (.ref arr), .val (.int n)] [(.ref a25)])
        exact W33.retA hEL hret rfl rfl (hb hby dM_64) (by decide) (by decide) ⟨a25, rfl, by rw [strF, if_neg hc1, if_neg hc8, if_pos hc24]; exact S33⟩
      · refine W0.1.icmpYes (hb hby dM_39) (XT.ii_ne_t hc24) (by decide) (pc' := 65) (by decide) ?_
        refine W0.1.newO (hw _ (List.mem_of_getElem? (i := 9) rfl)) (hw _ (List.mem_of_getElem? (i := 10) rfl)) (hw _ (List.mem_of_getElem? (i := 11) rfl)) (hb hby dM_65) (pc' := 68) rfl (by decide) (by decide) ?_
        intro T43 h43 a43 g43 ge43 gn43 N43 E43 A43 D43
        have z43 := E43.1
        have y43 := Nat.le_of_eq g43.symm
        have W43 := W0.upE N43 E43
        have D43_coder := D43 (Or.inr (hw _ (List.mem_of_getElem? (i := 35) rfl))) (ty := .byte) (by decide)
        have D43_value := D43 (Or.inr (hw _ (List.mem_of_getElem? (i := 37) rfl))) (ty := (.array .byte)) (by decide)
        refine W43.1.dup (hb hby dM_68) rfl (pc' := 69) rfl ?_
        refine W43.1.iconst (3 : Int32) (hb hby dM_69) rfl (pc' := 70) rfl ?_
        refine W43.1.newP (hw _ (List.mem_of_getElem? (i := 5) rfl)) (hb hby dM_70) (pc' := 72) rfl (by decide) (cap := 3) (by decide) (by decide) (by decide) (by decide) ?_
        intro T44 h44 a44 k44 g44 ge44 gn44 N44 E44 V44'
        have V44 : Arv Z h44 a44 k44 .char (3 : Int32) [(.int (0 : Int32)), (.int (0 : Int32)), (.int (0 : Int32))] (.int (0 : Int32)) := V44'
        have z44 := E44.1
        have y44 := Nat.le_of_eq g44.symm
        have W44 := W43.upE N44 E44
        refine W44.1.dup (hb hby dM_72) rfl (pc' := 73) rfl ?_
        refine W44.1.iconst (0 : Int32) (hb hby dM_73) rfl (pc' := 74) rfl ?_
        refine W44.1.aloadN (hb hby dM_74) rfl rfl (pc' := 75) rfl ?_
        refine W44.1.iconst (0 : Int32) (hb hby dM_75) rfl (pc' := 76) rfl ?_
        have X0_2_45 : Ext h0 h44 := Keep.toExt (((Keep.refl h0 []).ext E43).ext E44)
        have zX0_2_45 := X0_2_45.1
        have F46 := Arv.ext AR X0_2_45
        refine W44.1.caload F46 (.int c0) (hb hby dM_76) (pc' := 77) rfl (by decide) rfl ?_
        refine W44.1.stC V44 (hb hby dM_77) (pc' := 78) rfl (nar_chr L0) 0 rfl (Nat.le_of_ble_eq_true rfl) (by decide) (Or.inr ge44) gn44 ?_
        intro T47 h47 L47 N47 K47 V47'
        have V47 : Arv Z h47 a44 k44 .char (3 : Int32) [(.int c0), (.int (0 : Int32)), (.int (0 : Int32))] (.int (0 : Int32)) := V47'
        have z47 := K47.1
        have W47 := W44.up N47 K47 (sfS (Safe.arv (EL := consts_1) W44.1.2.2.2.1.alike V44 (by decide)) sf0)
        refine W47.1.dup (hb hby dM_78) rfl (pc' := 79) rfl ?_
        refine W47.1.iconst (1 : Int32) (hb hby dM_79) rfl (pc' := 80) rfl ?_
        refine W47.1.aloadN (hb hby dM_80) rfl rfl (pc' := 81) rfl ?_
        refine W47.1.iconst (1 : Int32) (hb hby dM_81) rfl (pc' := 82) rfl ?_
        have X0_3_48 : Ext h0 h47 := Keep.toExt ((((Keep.refl h0 []).ext E43).ext E44).trans K47 (allS (Or.inr (by have := y44; omega)) all0))
        have zX0_3_48 := X0_3_48.1
        have F49 := Arv.ext AR X0_3_48
        refine W47.1.caload F49 (.int c1) (hb hby dM_82) (pc' := 83) rfl (by decide) rfl ?_
        refine W47.1.stC V47 (hb hby dM_83) (pc' := 84) rfl (nar_chr L1) 1 rfl (Nat.le_of_ble_eq_true rfl) (by decide) (Or.inr ge44) gn44 ?_
        intro T50 h50 L50 N50 K50 V50'
        have V50 : Arv Z h50 a44 k44 .char (3 : Int32) [(.int c0), (.int c1), (.int (0 : Int32))] (.int (0 : Int32)) := V50'
        have z50 := K50.1
        have W50 := W47.up N50 K50 (sfS (Safe.arv (EL := consts_1) W47.1.2.2.2.1.alike V47 (by decide)) sf0)
        refine W50.1.dup (hb hby dM_84) rfl (pc' := 85) rfl ?_
        refine W50.1.iconst (2 : Int32) (hb hby dM_85) rfl (pc' := 86) rfl ?_
        refine W50.1.aloadN (hb hby dM_86) rfl rfl (pc' := 87) rfl ?_
        refine W50.1.iconst (2 : Int32) (hb hby dM_87) rfl (pc' := 88) rfl ?_
        have X0_4_51 : Ext h0 h50 := Keep.toExt (((((Keep.refl h0 []).ext E43).ext E44).trans K47 (allS (Or.inr (by have := y44; omega)) all0)).trans K50 (allS (Or.inr (by have := y44; omega)) all0))
        have zX0_4_51 := X0_4_51.1
        have F52 := Arv.ext AR X0_4_51
        refine W50.1.caload F52 (.int c2) (hb hby dM_88) (pc' := 89) rfl (by decide) rfl ?_
        refine W50.1.stC V50 (hb hby dM_89) (pc' := 90) rfl (nar_chr L2) 2 rfl (Nat.le_of_ble_eq_true rfl) (by decide) (Or.inr ge44) gn44 ?_
        intro T53 h53 L53 N53 K53 V53'
        have V53 : Arv Z h53 a44 k44 .char (3 : Int32) [(.int c0), (.int c1), (.int c2)] (.int (0 : Int32)) := V53'
        have z53 := K53.1
        have W53 := W50.up N53 K53 (sfS (Safe.arv (EL := consts_1) W50.1.2.2.2.1.alike V50 (by decide)) sf0)
        have X1_5_55 : Ext h43 h53 := Keep.toExt (((((Keep.refl h43 []).ext E44).trans K47 (allS (Or.inr (by have := y44; omega)) all0)).trans K50 (allS (Or.inr (by have := y44; omega)) all0)).trans K53 (allS (Or.inr (by have := y44; omega)) all0))
        have zX1_5_55 := X1_5_55.1
        have F56 := Exa.ext X1_5_55 A43
        have F57 := Fld.ext X1_5_55 D43_value
        have F58 := Fld.ext X1_5_55 D43_coder
        have X0_5_59 : Ext h0 h53 := Keep.toExt ((((((Keep.refl h0 []).ext E43).ext E44).trans K47 (allS (Or.inr (by have := y44; omega)) all0)).trans K50 (allS (Or.inr (by have := y44; omega)) all0)).trans K53 (allS (Or.inr (by have := y44; omega)) all0))
        have zX0_5_59 := X0_5_59.1
        have F60 := Sta.ext X0_5_59 SC
        have F61 := Sta.ext X0_5_59 SA1
        have F62 := Sta.ext X0_5_59 SA2
        have F63 := Sta.ext X0_5_59 SA3
        refine W53.1.callI (y := (⟨"java/lang/String", "<init>", "([C)V"⟩ : MethodName)) rfl (hw _ (List.mem_of_getElem? (i := 12) rfl)) (hw _ (List.mem_of_getElem? (i := 13) rfl)) (hw _ (List.mem_of_getElem? (i := 14) rfl)) (by decide) (newStr (wd := 1) (cs := ([c0, c1, c2] : List Int32)) W53.1.2.2.2.1 hw (hw _ (List.mem_of_getElem? (i := 10) rfl)) (hw _ (List.mem_of_getElem? (i := 14) rfl)) (hw _ (List.mem_of_getElem? (i := 11) rfl)) gn43 W53.1.n0h F56 F57 F58 V53 (Nat.le_of_ble_eq_true rfl) (Nat.le_of_ble_eq_true rfl) (memS L0 (memS L1 (memS L2 mem0))) F61 F62 F63 F60 hz (by decide) (by decide)) (hb hby dM_90) (pc' := 93) rfl hml (a := a43) (argsL := [(.ref a44)]) rfl (lenOf pd_827e2587 rfl) rfl (Nat.le_of_ble_eq_true rfl) (by decide) (by decide) (ws' := [a43]) (fun _ _ _ q => ⟨q.2.2, q.2.1⟩) (allS (Or.inr ge43) all0) ?_
        intro v54 T54 h54 L54' L54 N54 Q54 K54
        have W54 := W53.up N54 K54 (sfS (safe_null (EL := consts_1) W53.1.2.2.2.1.alike F56 F57) sf0)
        have z54 := K54.1
        obtain ⟨⟨rfl, S54⟩, -, -⟩ := Q54
        show Go p e below _ T54 (mkF m 93 #[.val (.ref arr), .val (.int n)] [(.ref a43)])
        exact W54.retA hEL hret rfl rfl (hb hby dM_93) (by decide) (by decide) ⟨a43, rfl, by rw [strF, if_neg hc1, if_neg hc8, if_neg hc24]; exact S54⟩
theorem not3 {n : Int32} (hn : ∃ k : Nat, k < 4 ∧ n = Int32.ofNat k) : ¬ (3 : Int32) < n := by
  obtain ⟨k, hk, rfl⟩ := hn
  rw [show (3 : Int32) = Int32.ofNat 3 from rfl, ofNat_lt (by omega) (by omega)]; omega
def pa0F (n c0 c1 c2 : Int32) : Int32 := (if (1 : Int32) < n then (if c0 < (55296 : Int32) then (0 : Int32) else (if (56319 : Int32) < c0 then (0 : Int32) else (if c1 < (56320 : Int32) then (0 : Int32) else (if (57343 : Int32) < c1 then (0 : Int32) else (1 : Int32))))) else (0 : Int32))
theorem dPA0_0 : decode method_5_code 0 = .ok (.iload_n 2, 1) := by decide +kernel
theorem dPA0_1 : decode method_5_code 1 = .ok (.iconst 1, 1) := by decide +kernel
theorem dPA0_2 : decode method_5_code 2 = .ok (.iadd, 1) := by decide +kernel
theorem dPA0_3 : decode method_5_code 3 = .ok (.iload_n 1, 1) := by decide +kernel
theorem dPA0_4 : decode method_5_code 4 = .ok (.if_icmp .ge 43, 3) := by decide +kernel
theorem dPA0_7 : decode method_5_code 7 = .ok (.aload_n 0, 1) := by decide +kernel
theorem dPA0_8 : decode method_5_code 8 = .ok (.iload_n 2, 1) := by decide +kernel
theorem dPA0_9 : decode method_5_code 9 = .ok (.caload, 1) := by decide +kernel
theorem dPA0_10 : decode method_5_code 10 = .ok (.ldc 36, 2) := by decide +kernel
theorem dPA0_12 : decode method_5_code 12 = .ok (.if_icmp .lt 35, 3) := by decide +kernel
theorem dPA0_47 : decode method_5_code 47 = .ok (.iconst 0, 1) := by decide +kernel
theorem dPA0_48 : decode method_5_code 48 = .ok (.ireturn, 1) := by decide +kernel
theorem dPA0_15 : decode method_5_code 15 = .ok (.aload_n 0, 1) := by decide +kernel
theorem dPA0_16 : decode method_5_code 16 = .ok (.iload_n 2, 1) := by decide +kernel
theorem dPA0_17 : decode method_5_code 17 = .ok (.caload, 1) := by decide +kernel
theorem dPA0_18 : decode method_5_code 18 = .ok (.ldc 42, 2) := by decide +kernel
theorem dPA0_20 : decode method_5_code 20 = .ok (.if_icmp .gt 27, 3) := by decide +kernel
theorem dPA0_23 : decode method_5_code 23 = .ok (.aload_n 0, 1) := by decide +kernel
theorem dPA0_24 : decode method_5_code 24 = .ok (.iload_n 2, 1) := by decide +kernel
theorem dPA0_25 : decode method_5_code 25 = .ok (.iconst 1, 1) := by decide +kernel
theorem dPA0_26 : decode method_5_code 26 = .ok (.iadd, 1) := by decide +kernel
theorem dPA0_27 : decode method_5_code 27 = .ok (.caload, 1) := by decide +kernel
theorem dPA0_28 : decode method_5_code 28 = .ok (.ldc 43, 2) := by decide +kernel
theorem dPA0_30 : decode method_5_code 30 = .ok (.if_icmp .lt 17, 3) := by decide +kernel
theorem dPA0_33 : decode method_5_code 33 = .ok (.aload_n 0, 1) := by decide +kernel
theorem dPA0_34 : decode method_5_code 34 = .ok (.iload_n 2, 1) := by decide +kernel
theorem dPA0_35 : decode method_5_code 35 = .ok (.iconst 1, 1) := by decide +kernel
theorem dPA0_36 : decode method_5_code 36 = .ok (.iadd, 1) := by decide +kernel
theorem dPA0_37 : decode method_5_code 37 = .ok (.caload, 1) := by decide +kernel
theorem dPA0_38 : decode method_5_code 38 = .ok (.ldc 44, 2) := by decide +kernel
theorem dPA0_40 : decode method_5_code 40 = .ok (.if_icmp .gt 7, 3) := by decide +kernel
theorem dPA0_43 : decode method_5_code 43 = .ok (.iconst 1, 1) := by decide +kernel
theorem dPA0_44 : decode method_5_code 44 = .ok (.goto 4, 3) := by decide +kernel
theorem pn_PA0 : plainFor (⟨"com/example/frugal_ranker/frugalranker/CodePointsComparePinLaw", "pairAt", "([CII)Z"⟩ : MethodName) = true := by first | exact plainFor_of_name (by first | (simp [plainName, overriddenIn]; done) | decide +kernel) | decide +kernel
set_option maxRecDepth 65536 in
set_option maxHeartbeats 40000000 in
theorem rmPA0 (l : Launch) (Z : State) (a0 : Array Value) (hw : ∀ d ∈ tables_1, d.before a0 Z = true) (arr : Addr) (ka : ClassId) (n c0 c1 c2 : Int32) (h0 : Heap) (n0 : Nat) (Z0 : n0 ≤ h0.size) (AR : Arv Z h0 arr ka .char (3 : Int32) [(.int c0), (.int c1), (.int c2)] (.int (0 : Int32))) (hn : ∃ k : Nat, k < 4 ∧ n = Int32.ofNat k) :
    NM l (⟨"com/example/frugal_ranker/frugalranker/CodePointsComparePinLaw", "pairAt", "([CII)Z"⟩ : MethodName) method_5_code 3 (some .boolean) [] ({ frames := 0, cells := 0, slots := 0, locals := 0 } : Room) Z n0 #[(.ref arr), (.int n), (.int (0 : Int32))] h0 [] (Pu (some (.int (pa0F n c0 c1 c2))) h0) := by
  refine NM.walk (Ls := #[.val (.ref arr), .val (.int n), .val (.int (0 : Int32))]) pn_PA0 Z0 (fun m => by first | (simp [entryFrame, mkF, argsToLocals, Value.category]; done) | rfl) ?_
  intro p e s m below meth c s₁ hby hml hret hnm W0
  refine W0.iloadN (hb hby dPA0_0) rfl (pc' := 1) rfl ?_
  refine W0.iconst (1 : Int32) (hb hby dPA0_1) rfl (pc' := 2) rfl ?_
  refine W0.iadd (hb hby dPA0_2) (pc' := 3) rfl ?_
  show Go p e below _ _ (mkF m 3 #[.val (.ref arr), .val (.int n), .val (.int (0 : Int32))] [(.int (1 : Int32))])
  refine W0.iloadN (hb hby dPA0_3) rfl (pc' := 4) rfl ?_
  by_cases hc1 : (1 : Int32) < n
  · refine W0.icmpNo (hb hby dPA0_4) (XT.ii_ge_f hc1) (pc' := 7) rfl ?_
    refine W0.aloadN (hb hby dPA0_7) rfl rfl (pc' := 8) rfl ?_
    refine W0.iloadN (hb hby dPA0_8) rfl (pc' := 9) rfl ?_
    refine W0.caload AR (.int c0) (hb hby dPA0_9) (pc' := 10) rfl (by decide) rfl ?_
    refine W0.ldcI (hb hby dPA0_10) (hw _ (List.mem_of_getElem? (i := 75) rfl)) (pc' := 12) rfl ?_
    by_cases hc2 : c0 < (55296 : Int32)
    · refine W0.icmpYes (hb hby dPA0_12) (XT.ii_lt_t hc2) (by decide) (pc' := 47) (by decide) ?_
      refine W0.iconst (0 : Int32) (hb hby dPA0_47) rfl (pc' := 48) rfl ?_
      exact W0.retZ hret (hb hby dPA0_48) (by decide) (by decide) (by decide) ⟨congrArg (fun z => some (Value.int z)) (by rw [pa0F, if_pos hc1, if_pos hc2]), rfl⟩
    · refine W0.icmpNo (hb hby dPA0_12) (XT.ii_lt_f hc2) (pc' := 15) rfl ?_
      refine W0.aloadN (hb hby dPA0_15) rfl rfl (pc' := 16) rfl ?_
      refine W0.iloadN (hb hby dPA0_16) rfl (pc' := 17) rfl ?_
      refine W0.caload AR (.int c0) (hb hby dPA0_17) (pc' := 18) rfl (by decide) rfl ?_
      refine W0.ldcI (hb hby dPA0_18) (hw _ (List.mem_of_getElem? (i := 113) rfl)) (pc' := 20) rfl ?_
      by_cases hc3 : (56319 : Int32) < c0
      · refine W0.icmpYes (hb hby dPA0_20) (XT.ii_gt_t hc3) (by decide) (pc' := 47) (by decide) ?_
        refine W0.iconst (0 : Int32) (hb hby dPA0_47) rfl (pc' := 48) rfl ?_
        exact W0.retZ hret (hb hby dPA0_48) (by decide) (by decide) (by decide) ⟨congrArg (fun z => some (Value.int z)) (by rw [pa0F, if_pos hc1, if_neg hc2, if_pos hc3]), rfl⟩
      · refine W0.icmpNo (hb hby dPA0_20) (XT.ii_gt_f hc3) (pc' := 23) rfl ?_
        refine W0.aloadN (hb hby dPA0_23) rfl rfl (pc' := 24) rfl ?_
        refine W0.iloadN (hb hby dPA0_24) rfl (pc' := 25) rfl ?_
        refine W0.iconst (1 : Int32) (hb hby dPA0_25) rfl (pc' := 26) rfl ?_
        refine W0.iadd (hb hby dPA0_26) (pc' := 27) rfl ?_
        show Go p e below _ _ (mkF m 27 #[.val (.ref arr), .val (.int n), .val (.int (0 : Int32))] [(.int (1 : Int32)), (.ref arr)])
        refine W0.caload AR (.int c1) (hb hby dPA0_27) (pc' := 28) rfl (by decide) rfl ?_
        refine W0.ldcI (hb hby dPA0_28) (hw _ (List.mem_of_getElem? (i := 114) rfl)) (pc' := 30) rfl ?_
        by_cases hc4 : c1 < (56320 : Int32)
        · refine W0.icmpYes (hb hby dPA0_30) (XT.ii_lt_t hc4) (by decide) (pc' := 47) (by decide) ?_
          refine W0.iconst (0 : Int32) (hb hby dPA0_47) rfl (pc' := 48) rfl ?_
          exact W0.retZ hret (hb hby dPA0_48) (by decide) (by decide) (by decide) ⟨congrArg (fun z => some (Value.int z)) (by rw [pa0F, if_pos hc1, if_neg hc2, if_neg hc3, if_pos hc4]), rfl⟩
        · refine W0.icmpNo (hb hby dPA0_30) (XT.ii_lt_f hc4) (pc' := 33) rfl ?_
          refine W0.aloadN (hb hby dPA0_33) rfl rfl (pc' := 34) rfl ?_
          refine W0.iloadN (hb hby dPA0_34) rfl (pc' := 35) rfl ?_
          refine W0.iconst (1 : Int32) (hb hby dPA0_35) rfl (pc' := 36) rfl ?_
          refine W0.iadd (hb hby dPA0_36) (pc' := 37) rfl ?_
          show Go p e below _ _ (mkF m 37 #[.val (.ref arr), .val (.int n), .val (.int (0 : Int32))] [(.int (1 : Int32)), (.ref arr)])
          refine W0.caload AR (.int c1) (hb hby dPA0_37) (pc' := 38) rfl (by decide) rfl ?_
          refine W0.ldcI (hb hby dPA0_38) (hw _ (List.mem_of_getElem? (i := 134) rfl)) (pc' := 40) rfl ?_
          by_cases hc5 : (57343 : Int32) < c1
          · refine W0.icmpYes (hb hby dPA0_40) (XT.ii_gt_t hc5) (by decide) (pc' := 47) (by decide) ?_
            refine W0.iconst (0 : Int32) (hb hby dPA0_47) rfl (pc' := 48) rfl ?_
            exact W0.retZ hret (hb hby dPA0_48) (by decide) (by decide) (by decide) ⟨congrArg (fun z => some (Value.int z)) (by rw [pa0F, if_pos hc1, if_neg hc2, if_neg hc3, if_neg hc4, if_pos hc5]), rfl⟩
          · refine W0.icmpNo (hb hby dPA0_40) (XT.ii_gt_f hc5) (pc' := 43) rfl ?_
            refine W0.iconst (1 : Int32) (hb hby dPA0_43) rfl (pc' := 44) rfl ?_
            refine W0.goto (hb hby dPA0_44) (by decide) (pc' := 48) (by decide) ?_
            exact W0.retZ hret (hb hby dPA0_48) (by decide) (by decide) (by decide) ⟨congrArg (fun z => some (Value.int z)) (by rw [pa0F, if_pos hc1, if_neg hc2, if_neg hc3, if_neg hc4, if_neg hc5]), rfl⟩
  · refine W0.icmpYes (hb hby dPA0_4) (XT.ii_ge_t hc1) (by decide) (pc' := 47) (by decide) ?_
    refine W0.iconst (0 : Int32) (hb hby dPA0_47) rfl (pc' := 48) rfl ?_
    exact W0.retZ hret (hb hby dPA0_48) (by decide) (by decide) (by decide) ⟨congrArg (fun z => some (Value.int z)) (by rw [pa0F, if_neg hc1]), rfl⟩
def pa1F (n c0 c1 c2 : Int32) : Int32 := (if (2 : Int32) < n then (if c1 < (55296 : Int32) then (0 : Int32) else (if (56319 : Int32) < c1 then (0 : Int32) else (if c2 < (56320 : Int32) then (0 : Int32) else (if (57343 : Int32) < c2 then (0 : Int32) else (1 : Int32))))) else (0 : Int32))
theorem dPA1_0 : decode method_5_code 0 = .ok (.iload_n 2, 1) := by decide +kernel
theorem dPA1_1 : decode method_5_code 1 = .ok (.iconst 1, 1) := by decide +kernel
theorem dPA1_2 : decode method_5_code 2 = .ok (.iadd, 1) := by decide +kernel
theorem dPA1_3 : decode method_5_code 3 = .ok (.iload_n 1, 1) := by decide +kernel
theorem dPA1_4 : decode method_5_code 4 = .ok (.if_icmp .ge 43, 3) := by decide +kernel
theorem dPA1_7 : decode method_5_code 7 = .ok (.aload_n 0, 1) := by decide +kernel
theorem dPA1_8 : decode method_5_code 8 = .ok (.iload_n 2, 1) := by decide +kernel
theorem dPA1_9 : decode method_5_code 9 = .ok (.caload, 1) := by decide +kernel
theorem dPA1_10 : decode method_5_code 10 = .ok (.ldc 36, 2) := by decide +kernel
theorem dPA1_12 : decode method_5_code 12 = .ok (.if_icmp .lt 35, 3) := by decide +kernel
theorem dPA1_47 : decode method_5_code 47 = .ok (.iconst 0, 1) := by decide +kernel
theorem dPA1_48 : decode method_5_code 48 = .ok (.ireturn, 1) := by decide +kernel
theorem dPA1_15 : decode method_5_code 15 = .ok (.aload_n 0, 1) := by decide +kernel
theorem dPA1_16 : decode method_5_code 16 = .ok (.iload_n 2, 1) := by decide +kernel
theorem dPA1_17 : decode method_5_code 17 = .ok (.caload, 1) := by decide +kernel
theorem dPA1_18 : decode method_5_code 18 = .ok (.ldc 42, 2) := by decide +kernel
theorem dPA1_20 : decode method_5_code 20 = .ok (.if_icmp .gt 27, 3) := by decide +kernel
theorem dPA1_23 : decode method_5_code 23 = .ok (.aload_n 0, 1) := by decide +kernel
theorem dPA1_24 : decode method_5_code 24 = .ok (.iload_n 2, 1) := by decide +kernel
theorem dPA1_25 : decode method_5_code 25 = .ok (.iconst 1, 1) := by decide +kernel
theorem dPA1_26 : decode method_5_code 26 = .ok (.iadd, 1) := by decide +kernel
theorem dPA1_27 : decode method_5_code 27 = .ok (.caload, 1) := by decide +kernel
theorem dPA1_28 : decode method_5_code 28 = .ok (.ldc 43, 2) := by decide +kernel
theorem dPA1_30 : decode method_5_code 30 = .ok (.if_icmp .lt 17, 3) := by decide +kernel
theorem dPA1_33 : decode method_5_code 33 = .ok (.aload_n 0, 1) := by decide +kernel
theorem dPA1_34 : decode method_5_code 34 = .ok (.iload_n 2, 1) := by decide +kernel
theorem dPA1_35 : decode method_5_code 35 = .ok (.iconst 1, 1) := by decide +kernel
theorem dPA1_36 : decode method_5_code 36 = .ok (.iadd, 1) := by decide +kernel
theorem dPA1_37 : decode method_5_code 37 = .ok (.caload, 1) := by decide +kernel
theorem dPA1_38 : decode method_5_code 38 = .ok (.ldc 44, 2) := by decide +kernel
theorem dPA1_40 : decode method_5_code 40 = .ok (.if_icmp .gt 7, 3) := by decide +kernel
theorem dPA1_43 : decode method_5_code 43 = .ok (.iconst 1, 1) := by decide +kernel
theorem dPA1_44 : decode method_5_code 44 = .ok (.goto 4, 3) := by decide +kernel
theorem pn_PA1 : plainFor (⟨"com/example/frugal_ranker/frugalranker/CodePointsComparePinLaw", "pairAt", "([CII)Z"⟩ : MethodName) = true := by first | exact plainFor_of_name (by first | (simp [plainName, overriddenIn]; done) | decide +kernel) | decide +kernel
set_option maxRecDepth 65536 in
set_option maxHeartbeats 40000000 in
theorem rmPA1 (l : Launch) (Z : State) (a0 : Array Value) (hw : ∀ d ∈ tables_1, d.before a0 Z = true) (arr : Addr) (ka : ClassId) (n c0 c1 c2 : Int32) (h0 : Heap) (n0 : Nat) (Z0 : n0 ≤ h0.size) (AR : Arv Z h0 arr ka .char (3 : Int32) [(.int c0), (.int c1), (.int c2)] (.int (0 : Int32))) (hn : ∃ k : Nat, k < 4 ∧ n = Int32.ofNat k) :
    NM l (⟨"com/example/frugal_ranker/frugalranker/CodePointsComparePinLaw", "pairAt", "([CII)Z"⟩ : MethodName) method_5_code 3 (some .boolean) [] ({ frames := 0, cells := 0, slots := 0, locals := 0 } : Room) Z n0 #[(.ref arr), (.int n), (.int (1 : Int32))] h0 [] (Pu (some (.int (pa1F n c0 c1 c2))) h0) := by
  refine NM.walk (Ls := #[.val (.ref arr), .val (.int n), .val (.int (1 : Int32))]) pn_PA1 Z0 (fun m => by first | (simp [entryFrame, mkF, argsToLocals, Value.category]; done) | rfl) ?_
  intro p e s m below meth c s₁ hby hml hret hnm W0
  refine W0.iloadN (hb hby dPA1_0) rfl (pc' := 1) rfl ?_
  refine W0.iconst (1 : Int32) (hb hby dPA1_1) rfl (pc' := 2) rfl ?_
  refine W0.iadd (hb hby dPA1_2) (pc' := 3) rfl ?_
  show Go p e below _ _ (mkF m 3 #[.val (.ref arr), .val (.int n), .val (.int (1 : Int32))] [(.int (2 : Int32))])
  refine W0.iloadN (hb hby dPA1_3) rfl (pc' := 4) rfl ?_
  by_cases hc1 : (2 : Int32) < n
  · refine W0.icmpNo (hb hby dPA1_4) (XT.ii_ge_f hc1) (pc' := 7) rfl ?_
    refine W0.aloadN (hb hby dPA1_7) rfl rfl (pc' := 8) rfl ?_
    refine W0.iloadN (hb hby dPA1_8) rfl (pc' := 9) rfl ?_
    refine W0.caload AR (.int c1) (hb hby dPA1_9) (pc' := 10) rfl (by decide) rfl ?_
    refine W0.ldcI (hb hby dPA1_10) (hw _ (List.mem_of_getElem? (i := 75) rfl)) (pc' := 12) rfl ?_
    by_cases hc2 : c1 < (55296 : Int32)
    · refine W0.icmpYes (hb hby dPA1_12) (XT.ii_lt_t hc2) (by decide) (pc' := 47) (by decide) ?_
      refine W0.iconst (0 : Int32) (hb hby dPA1_47) rfl (pc' := 48) rfl ?_
      exact W0.retZ hret (hb hby dPA1_48) (by decide) (by decide) (by decide) ⟨congrArg (fun z => some (Value.int z)) (by rw [pa1F, if_pos hc1, if_pos hc2]), rfl⟩
    · refine W0.icmpNo (hb hby dPA1_12) (XT.ii_lt_f hc2) (pc' := 15) rfl ?_
      refine W0.aloadN (hb hby dPA1_15) rfl rfl (pc' := 16) rfl ?_
      refine W0.iloadN (hb hby dPA1_16) rfl (pc' := 17) rfl ?_
      refine W0.caload AR (.int c1) (hb hby dPA1_17) (pc' := 18) rfl (by decide) rfl ?_
      refine W0.ldcI (hb hby dPA1_18) (hw _ (List.mem_of_getElem? (i := 113) rfl)) (pc' := 20) rfl ?_
      by_cases hc3 : (56319 : Int32) < c1
      · refine W0.icmpYes (hb hby dPA1_20) (XT.ii_gt_t hc3) (by decide) (pc' := 47) (by decide) ?_
        refine W0.iconst (0 : Int32) (hb hby dPA1_47) rfl (pc' := 48) rfl ?_
        exact W0.retZ hret (hb hby dPA1_48) (by decide) (by decide) (by decide) ⟨congrArg (fun z => some (Value.int z)) (by rw [pa1F, if_pos hc1, if_neg hc2, if_pos hc3]), rfl⟩
      · refine W0.icmpNo (hb hby dPA1_20) (XT.ii_gt_f hc3) (pc' := 23) rfl ?_
        refine W0.aloadN (hb hby dPA1_23) rfl rfl (pc' := 24) rfl ?_
        refine W0.iloadN (hb hby dPA1_24) rfl (pc' := 25) rfl ?_
        refine W0.iconst (1 : Int32) (hb hby dPA1_25) rfl (pc' := 26) rfl ?_
        refine W0.iadd (hb hby dPA1_26) (pc' := 27) rfl ?_
        show Go p e below _ _ (mkF m 27 #[.val (.ref arr), .val (.int n), .val (.int (1 : Int32))] [(.int (2 : Int32)), (.ref arr)])
        refine W0.caload AR (.int c2) (hb hby dPA1_27) (pc' := 28) rfl (by decide) rfl ?_
        refine W0.ldcI (hb hby dPA1_28) (hw _ (List.mem_of_getElem? (i := 114) rfl)) (pc' := 30) rfl ?_
        by_cases hc4 : c2 < (56320 : Int32)
        · refine W0.icmpYes (hb hby dPA1_30) (XT.ii_lt_t hc4) (by decide) (pc' := 47) (by decide) ?_
          refine W0.iconst (0 : Int32) (hb hby dPA1_47) rfl (pc' := 48) rfl ?_
          exact W0.retZ hret (hb hby dPA1_48) (by decide) (by decide) (by decide) ⟨congrArg (fun z => some (Value.int z)) (by rw [pa1F, if_pos hc1, if_neg hc2, if_neg hc3, if_pos hc4]), rfl⟩
        · refine W0.icmpNo (hb hby dPA1_30) (XT.ii_lt_f hc4) (pc' := 33) rfl ?_
          refine W0.aloadN (hb hby dPA1_33) rfl rfl (pc' := 34) rfl ?_
          refine W0.iloadN (hb hby dPA1_34) rfl (pc' := 35) rfl ?_
          refine W0.iconst (1 : Int32) (hb hby dPA1_35) rfl (pc' := 36) rfl ?_
          refine W0.iadd (hb hby dPA1_36) (pc' := 37) rfl ?_
          show Go p e below _ _ (mkF m 37 #[.val (.ref arr), .val (.int n), .val (.int (1 : Int32))] [(.int (2 : Int32)), (.ref arr)])
          refine W0.caload AR (.int c2) (hb hby dPA1_37) (pc' := 38) rfl (by decide) rfl ?_
          refine W0.ldcI (hb hby dPA1_38) (hw _ (List.mem_of_getElem? (i := 134) rfl)) (pc' := 40) rfl ?_
          by_cases hc5 : (57343 : Int32) < c2
          · refine W0.icmpYes (hb hby dPA1_40) (XT.ii_gt_t hc5) (by decide) (pc' := 47) (by decide) ?_
            refine W0.iconst (0 : Int32) (hb hby dPA1_47) rfl (pc' := 48) rfl ?_
            exact W0.retZ hret (hb hby dPA1_48) (by decide) (by decide) (by decide) ⟨congrArg (fun z => some (Value.int z)) (by rw [pa1F, if_pos hc1, if_neg hc2, if_neg hc3, if_neg hc4, if_pos hc5]), rfl⟩
          · refine W0.icmpNo (hb hby dPA1_40) (XT.ii_gt_f hc5) (pc' := 43) rfl ?_
            refine W0.iconst (1 : Int32) (hb hby dPA1_43) rfl (pc' := 44) rfl ?_
            refine W0.goto (hb hby dPA1_44) (by decide) (pc' := 48) (by decide) ?_
            exact W0.retZ hret (hb hby dPA1_48) (by decide) (by decide) (by decide) ⟨congrArg (fun z => some (Value.int z)) (by rw [pa1F, if_pos hc1, if_neg hc2, if_neg hc3, if_neg hc4, if_neg hc5]), rfl⟩
  · refine W0.icmpYes (hb hby dPA1_4) (XT.ii_ge_t hc1) (by decide) (pc' := 47) (by decide) ?_
    refine W0.iconst (0 : Int32) (hb hby dPA1_47) rfl (pc' := 48) rfl ?_
    exact W0.retZ hret (hb hby dPA1_48) (by decide) (by decide) (by decide) ⟨congrArg (fun z => some (Value.int z)) (by rw [pa1F, if_neg hc1]), rfl⟩
theorem dPA2_0 : decode method_5_code 0 = .ok (.iload_n 2, 1) := by decide +kernel
theorem dPA2_1 : decode method_5_code 1 = .ok (.iconst 1, 1) := by decide +kernel
theorem dPA2_2 : decode method_5_code 2 = .ok (.iadd, 1) := by decide +kernel
theorem dPA2_3 : decode method_5_code 3 = .ok (.iload_n 1, 1) := by decide +kernel
theorem dPA2_4 : decode method_5_code 4 = .ok (.if_icmp .ge 43, 3) := by decide +kernel
theorem dPA2_47 : decode method_5_code 47 = .ok (.iconst 0, 1) := by decide +kernel
theorem dPA2_48 : decode method_5_code 48 = .ok (.ireturn, 1) := by decide +kernel
theorem pn_PA2 : plainFor (⟨"com/example/frugal_ranker/frugalranker/CodePointsComparePinLaw", "pairAt", "([CII)Z"⟩ : MethodName) = true := by first | exact plainFor_of_name (by first | (simp [plainName, overriddenIn]; done) | decide +kernel) | decide +kernel
set_option maxRecDepth 65536 in
set_option maxHeartbeats 40000000 in
theorem rmPA2 (l : Launch) (Z : State) (a0 : Array Value) (hw : ∀ d ∈ tables_1, d.before a0 Z = true) (arr : Addr) (ka : ClassId) (n c0 c1 c2 : Int32) (h0 : Heap) (n0 : Nat) (Z0 : n0 ≤ h0.size) (AR : Arv Z h0 arr ka .char (3 : Int32) [(.int c0), (.int c1), (.int c2)] (.int (0 : Int32))) (hn : ∃ k : Nat, k < 4 ∧ n = Int32.ofNat k) :
    NM l (⟨"com/example/frugal_ranker/frugalranker/CodePointsComparePinLaw", "pairAt", "([CII)Z"⟩ : MethodName) method_5_code 3 (some .boolean) [] ({ frames := 0, cells := 0, slots := 0, locals := 0 } : Room) Z n0 #[(.ref arr), (.int n), (.int (2 : Int32))] h0 [] (Pu (some (.int (0 : Int32))) h0) := by
  refine NM.walk (Ls := #[.val (.ref arr), .val (.int n), .val (.int (2 : Int32))]) pn_PA2 Z0 (fun m => by first | (simp [entryFrame, mkF, argsToLocals, Value.category]; done) | rfl) ?_
  intro p e s m below meth c s₁ hby hml hret hnm W0
  refine W0.iloadN (hb hby dPA2_0) rfl (pc' := 1) rfl ?_
  refine W0.iconst (1 : Int32) (hb hby dPA2_1) rfl (pc' := 2) rfl ?_
  refine W0.iadd (hb hby dPA2_2) (pc' := 3) rfl ?_
  show Go p e below _ _ (mkF m 3 #[.val (.ref arr), .val (.int n), .val (.int (2 : Int32))] [(.int (3 : Int32))])
  refine W0.iloadN (hb hby dPA2_3) rfl (pc' := 4) rfl ?_
  refine W0.icmpYes (hb hby dPA2_4) (XT.ii_ge_t (not3 hn)) (by decide) (pc' := 47) (by decide) ?_
  refine W0.iconst (0 : Int32) (hb hby dPA2_47) rfl (pc' := 48) rfl ?_
  exact W0.retZ hret (hb hby dPA2_48) (by decide) (by decide) (by decide) ⟨rfl, rfl⟩
def ca0F (n c0 c1 c2 : Int32) : Int32 := (if (pa0F n c0 c1 c2) = (0 : Int32) then c0 else (((65536 : Int32) + ((c0 - (55296 : Int32)) <<< ((10 : Int32) &&& 31))) + (c1 - (56320 : Int32))))
theorem dCA0_0 : decode method_6_code 0 = .ok (.aload_n 0, 1) := by decide +kernel
theorem dCA0_1 : decode method_6_code 1 = .ok (.iload_n 1, 1) := by decide +kernel
theorem dCA0_2 : decode method_6_code 2 = .ok (.iload_n 2, 1) := by decide +kernel
theorem dCA0_3 : decode method_6_code 3 = .ok (.invokestatic 45, 3) := by decide +kernel
theorem pd_a5e23fec : parseMethodDescriptor "([CII)Z" = some ⟨[(.array .char), .int, .int], some .boolean⟩ := by decide +kernel
theorem dCA0_6 : decode method_6_code 6 = .ok (.ifCond .eq 25, 3) := by decide +kernel
theorem dCA0_31 : decode method_6_code 31 = .ok (.aload_n 0, 1) := by decide +kernel
theorem dCA0_32 : decode method_6_code 32 = .ok (.iload_n 2, 1) := by decide +kernel
theorem dCA0_33 : decode method_6_code 33 = .ok (.caload, 1) := by decide +kernel
theorem dCA0_34 : decode method_6_code 34 = .ok (.ireturn, 1) := by decide +kernel
theorem dCA0_9 : decode method_6_code 9 = .ok (.ldc 49, 2) := by decide +kernel
theorem dCA0_11 : decode method_6_code 11 = .ok (.aload_n 0, 1) := by decide +kernel
theorem dCA0_12 : decode method_6_code 12 = .ok (.iload_n 2, 1) := by decide +kernel
theorem dCA0_13 : decode method_6_code 13 = .ok (.caload, 1) := by decide +kernel
theorem dCA0_14 : decode method_6_code 14 = .ok (.ldc 36, 2) := by decide +kernel
theorem dCA0_16 : decode method_6_code 16 = .ok (.isub, 1) := by decide +kernel
theorem dCA0_17 : decode method_6_code 17 = .ok (.bipush 10, 2) := by decide +kernel
theorem dCA0_19 : decode method_6_code 19 = .ok (.ishl, 1) := by decide +kernel
theorem dCA0_20 : decode method_6_code 20 = .ok (.iadd, 1) := by decide +kernel
theorem dCA0_21 : decode method_6_code 21 = .ok (.aload_n 0, 1) := by decide +kernel
theorem dCA0_22 : decode method_6_code 22 = .ok (.iload_n 2, 1) := by decide +kernel
theorem dCA0_23 : decode method_6_code 23 = .ok (.iconst 1, 1) := by decide +kernel
theorem dCA0_24 : decode method_6_code 24 = .ok (.iadd, 1) := by decide +kernel
theorem dCA0_25 : decode method_6_code 25 = .ok (.caload, 1) := by decide +kernel
theorem dCA0_26 : decode method_6_code 26 = .ok (.ldc 43, 2) := by decide +kernel
theorem dCA0_28 : decode method_6_code 28 = .ok (.isub, 1) := by decide +kernel
theorem dCA0_29 : decode method_6_code 29 = .ok (.iadd, 1) := by decide +kernel
theorem dCA0_30 : decode method_6_code 30 = .ok (.ireturn, 1) := by decide +kernel
theorem pn_CA0 : plainFor (⟨"com/example/frugal_ranker/frugalranker/CodePointsComparePinLaw", "cpAt", "([CII)I"⟩ : MethodName) = true := by first | exact plainFor_of_name (by first | (simp [plainName, overriddenIn]; done) | decide +kernel) | decide +kernel
set_option maxRecDepth 65536 in
set_option maxHeartbeats 40000000 in
theorem rmCA0 (l : Launch) (Z : State) (a0 : Array Value) (hw : ∀ d ∈ tables_1, d.before a0 Z = true) (arr : Addr) (ka : ClassId) (n c0 c1 c2 : Int32) (h0 : Heap) (n0 : Nat) (Z0 : n0 ≤ h0.size) (AR : Arv Z h0 arr ka .char (3 : Int32) [(.int c0), (.int c1), (.int c2)] (.int (0 : Int32))) (hn : ∃ k : Nat, k < 4 ∧ n = Int32.ofNat k) :
    NM l (⟨"com/example/frugal_ranker/frugalranker/CodePointsComparePinLaw", "cpAt", "([CII)I"⟩ : MethodName) method_6_code 3 (some .int) [] ({ frames := 1, cells := 0, slots := 0, locals := 18 } : Room) Z n0 #[(.ref arr), (.int n), (.int (0 : Int32))] h0 [] (Pu (some (.int (ca0F n c0 c1 c2))) h0) := by
  refine NM.walk (Ls := #[.val (.ref arr), .val (.int n), .val (.int (0 : Int32))]) pn_CA0 Z0 (fun m => by first | (simp [entryFrame, mkF, argsToLocals, Value.category]; done) | rfl) ?_
  intro p e s m below meth c s₁ hby hml hret hnm W0
  refine W0.aloadN (hb hby dCA0_0) rfl rfl (pc' := 1) rfl ?_
  refine W0.iloadN (hb hby dCA0_1) rfl (pc' := 2) rfl ?_
  refine W0.iloadN (hb hby dCA0_2) rfl (pc' := 3) rfl ?_
  refine W0.callSP (hw _ (List.mem_of_getElem? (i := 48) rfl)) (hw _ (List.mem_of_getElem? (i := 49) rfl)) (hw _ (List.mem_of_getElem? (i := 2) rfl)) (hw _ (List.mem_of_getElem? (i := 50) rfl)) (by decide) (NM.bk (wd := 0) (rmPA0 l Z a0 hw arr ka n c0 c1 c2 h0 n0 W0.n0h AR hn) W0.2.2.2.1 (hw _ (List.mem_of_getElem? (i := 50) rfl)) (hw _ (List.mem_of_getElem? (i := 2) rfl)) (by decide) (by decide)) (hb hby dCA0_3) (pc' := 6) rfl hml (argsL := [(.ref arr), (.int n), (.int (0 : Int32))]) rfl (lenOf pd_a5e23fec rfl) rfl (Nat.le_of_ble_eq_true rfl) (by decide) (by decide) (fun _ _ _ q => pu_of q) ?_
  intro T1 L1 W1
  show Go p e below _ T1 (mkF m 6 #[.val (.ref arr), .val (.int n), .val (.int (0 : Int32))] [(.int (pa0F n c0 c1 c2))])
  by_cases hc2 : (pa0F n c0 c1 c2) = (0 : Int32)
  · refine W1.ifYes (hb hby dCA0_6) (XT.i0_eq_t hc2) (by decide) (pc' := 31) (by decide) ?_
    refine W1.aloadN (hb hby dCA0_31) rfl rfl (pc' := 32) rfl ?_
    refine W1.iloadN (hb hby dCA0_32) rfl (pc' := 33) rfl ?_
    refine W1.caload AR (.int c0) (hb hby dCA0_33) (pc' := 34) rfl (by decide) rfl ?_
    exact W1.retI hret (hb hby dCA0_34) (by decide) (by decide) ⟨congrArg (fun z => some (Value.int z)) (by rw [ca0F, if_pos hc2]), rfl⟩
  · refine W1.ifNo (hb hby dCA0_6) (XT.i0_eq_f hc2) (pc' := 9) rfl ?_
    refine W1.ldcI (hb hby dCA0_9) (hw _ (List.mem_of_getElem? (i := 135) rfl)) (pc' := 11) rfl ?_
    refine W1.aloadN (hb hby dCA0_11) rfl rfl (pc' := 12) rfl ?_
    refine W1.iloadN (hb hby dCA0_12) rfl (pc' := 13) rfl ?_
    refine W1.caload AR (.int c0) (hb hby dCA0_13) (pc' := 14) rfl (by decide) rfl ?_
    refine W1.ldcI (hb hby dCA0_14) (hw _ (List.mem_of_getElem? (i := 75) rfl)) (pc' := 16) rfl ?_
    refine W1.isub (hb hby dCA0_16) (pc' := 17) rfl ?_
    refine W1.bipush (10 : Int32) (hb hby dCA0_17) rfl (pc' := 19) rfl ?_
    refine W1.ishl (hb hby dCA0_19) (pc' := 20) rfl ?_
    refine W1.iadd (hb hby dCA0_20) (pc' := 21) rfl ?_
    refine W1.aloadN (hb hby dCA0_21) rfl rfl (pc' := 22) rfl ?_
    refine W1.iloadN (hb hby dCA0_22) rfl (pc' := 23) rfl ?_
    refine W1.iconst (1 : Int32) (hb hby dCA0_23) rfl (pc' := 24) rfl ?_
    refine W1.iadd (hb hby dCA0_24) (pc' := 25) rfl ?_
    show Go p e below _ _ (mkF m 25 #[.val (.ref arr), .val (.int n), .val (.int (0 : Int32))] [(.int (1 : Int32)), (.ref arr), (.int ((65536 : Int32) + ((c0 - (55296 : Int32)) <<< ((10 : Int32) &&& 31))))])
    refine W1.caload AR (.int c1) (hb hby dCA0_25) (pc' := 26) rfl (by decide) rfl ?_
    refine W1.ldcI (hb hby dCA0_26) (hw _ (List.mem_of_getElem? (i := 114) rfl)) (pc' := 28) rfl ?_
    refine W1.isub (hb hby dCA0_28) (pc' := 29) rfl ?_
    refine W1.iadd (hb hby dCA0_29) (pc' := 30) rfl ?_
    exact W1.retI hret (hb hby dCA0_30) (by decide) (by decide) ⟨congrArg (fun z => some (Value.int z)) (by rw [ca0F, if_neg hc2]), rfl⟩
def ca1F (n c0 c1 c2 : Int32) : Int32 := (if (pa1F n c0 c1 c2) = (0 : Int32) then c1 else (((65536 : Int32) + ((c1 - (55296 : Int32)) <<< ((10 : Int32) &&& 31))) + (c2 - (56320 : Int32))))
theorem dCA1_0 : decode method_6_code 0 = .ok (.aload_n 0, 1) := by decide +kernel
theorem dCA1_1 : decode method_6_code 1 = .ok (.iload_n 1, 1) := by decide +kernel
theorem dCA1_2 : decode method_6_code 2 = .ok (.iload_n 2, 1) := by decide +kernel
theorem dCA1_3 : decode method_6_code 3 = .ok (.invokestatic 45, 3) := by decide +kernel
theorem dCA1_6 : decode method_6_code 6 = .ok (.ifCond .eq 25, 3) := by decide +kernel
theorem dCA1_31 : decode method_6_code 31 = .ok (.aload_n 0, 1) := by decide +kernel
theorem dCA1_32 : decode method_6_code 32 = .ok (.iload_n 2, 1) := by decide +kernel
theorem dCA1_33 : decode method_6_code 33 = .ok (.caload, 1) := by decide +kernel
theorem dCA1_34 : decode method_6_code 34 = .ok (.ireturn, 1) := by decide +kernel
theorem dCA1_9 : decode method_6_code 9 = .ok (.ldc 49, 2) := by decide +kernel
theorem dCA1_11 : decode method_6_code 11 = .ok (.aload_n 0, 1) := by decide +kernel
theorem dCA1_12 : decode method_6_code 12 = .ok (.iload_n 2, 1) := by decide +kernel
theorem dCA1_13 : decode method_6_code 13 = .ok (.caload, 1) := by decide +kernel
theorem dCA1_14 : decode method_6_code 14 = .ok (.ldc 36, 2) := by decide +kernel
theorem dCA1_16 : decode method_6_code 16 = .ok (.isub, 1) := by decide +kernel
theorem dCA1_17 : decode method_6_code 17 = .ok (.bipush 10, 2) := by decide +kernel
theorem dCA1_19 : decode method_6_code 19 = .ok (.ishl, 1) := by decide +kernel
theorem dCA1_20 : decode method_6_code 20 = .ok (.iadd, 1) := by decide +kernel
theorem dCA1_21 : decode method_6_code 21 = .ok (.aload_n 0, 1) := by decide +kernel
theorem dCA1_22 : decode method_6_code 22 = .ok (.iload_n 2, 1) := by decide +kernel
theorem dCA1_23 : decode method_6_code 23 = .ok (.iconst 1, 1) := by decide +kernel
theorem dCA1_24 : decode method_6_code 24 = .ok (.iadd, 1) := by decide +kernel
theorem dCA1_25 : decode method_6_code 25 = .ok (.caload, 1) := by decide +kernel
theorem dCA1_26 : decode method_6_code 26 = .ok (.ldc 43, 2) := by decide +kernel
theorem dCA1_28 : decode method_6_code 28 = .ok (.isub, 1) := by decide +kernel
theorem dCA1_29 : decode method_6_code 29 = .ok (.iadd, 1) := by decide +kernel
theorem dCA1_30 : decode method_6_code 30 = .ok (.ireturn, 1) := by decide +kernel
theorem pn_CA1 : plainFor (⟨"com/example/frugal_ranker/frugalranker/CodePointsComparePinLaw", "cpAt", "([CII)I"⟩ : MethodName) = true := by first | exact plainFor_of_name (by first | (simp [plainName, overriddenIn]; done) | decide +kernel) | decide +kernel
set_option maxRecDepth 65536 in
set_option maxHeartbeats 40000000 in
theorem rmCA1 (l : Launch) (Z : State) (a0 : Array Value) (hw : ∀ d ∈ tables_1, d.before a0 Z = true) (arr : Addr) (ka : ClassId) (n c0 c1 c2 : Int32) (h0 : Heap) (n0 : Nat) (Z0 : n0 ≤ h0.size) (AR : Arv Z h0 arr ka .char (3 : Int32) [(.int c0), (.int c1), (.int c2)] (.int (0 : Int32))) (hn : ∃ k : Nat, k < 4 ∧ n = Int32.ofNat k) :
    NM l (⟨"com/example/frugal_ranker/frugalranker/CodePointsComparePinLaw", "cpAt", "([CII)I"⟩ : MethodName) method_6_code 3 (some .int) [] ({ frames := 1, cells := 0, slots := 0, locals := 18 } : Room) Z n0 #[(.ref arr), (.int n), (.int (1 : Int32))] h0 [] (Pu (some (.int (ca1F n c0 c1 c2))) h0) := by
  refine NM.walk (Ls := #[.val (.ref arr), .val (.int n), .val (.int (1 : Int32))]) pn_CA1 Z0 (fun m => by first | (simp [entryFrame, mkF, argsToLocals, Value.category]; done) | rfl) ?_
  intro p e s m below meth c s₁ hby hml hret hnm W0
  refine W0.aloadN (hb hby dCA1_0) rfl rfl (pc' := 1) rfl ?_
  refine W0.iloadN (hb hby dCA1_1) rfl (pc' := 2) rfl ?_
  refine W0.iloadN (hb hby dCA1_2) rfl (pc' := 3) rfl ?_
  refine W0.callSP (hw _ (List.mem_of_getElem? (i := 48) rfl)) (hw _ (List.mem_of_getElem? (i := 49) rfl)) (hw _ (List.mem_of_getElem? (i := 2) rfl)) (hw _ (List.mem_of_getElem? (i := 50) rfl)) (by decide) (NM.bk (wd := 0) (rmPA1 l Z a0 hw arr ka n c0 c1 c2 h0 n0 W0.n0h AR hn) W0.2.2.2.1 (hw _ (List.mem_of_getElem? (i := 50) rfl)) (hw _ (List.mem_of_getElem? (i := 2) rfl)) (by decide) (by decide)) (hb hby dCA1_3) (pc' := 6) rfl hml (argsL := [(.ref arr), (.int n), (.int (1 : Int32))]) rfl (lenOf pd_a5e23fec rfl) rfl (Nat.le_of_ble_eq_true rfl) (by decide) (by decide) (fun _ _ _ q => pu_of q) ?_
  intro T1 L1 W1
  show Go p e below _ T1 (mkF m 6 #[.val (.ref arr), .val (.int n), .val (.int (1 : Int32))] [(.int (pa1F n c0 c1 c2))])
  by_cases hc2 : (pa1F n c0 c1 c2) = (0 : Int32)
  · refine W1.ifYes (hb hby dCA1_6) (XT.i0_eq_t hc2) (by decide) (pc' := 31) (by decide) ?_
    refine W1.aloadN (hb hby dCA1_31) rfl rfl (pc' := 32) rfl ?_
    refine W1.iloadN (hb hby dCA1_32) rfl (pc' := 33) rfl ?_
    refine W1.caload AR (.int c1) (hb hby dCA1_33) (pc' := 34) rfl (by decide) rfl ?_
    exact W1.retI hret (hb hby dCA1_34) (by decide) (by decide) ⟨congrArg (fun z => some (Value.int z)) (by rw [ca1F, if_pos hc2]), rfl⟩
  · refine W1.ifNo (hb hby dCA1_6) (XT.i0_eq_f hc2) (pc' := 9) rfl ?_
    refine W1.ldcI (hb hby dCA1_9) (hw _ (List.mem_of_getElem? (i := 135) rfl)) (pc' := 11) rfl ?_
    refine W1.aloadN (hb hby dCA1_11) rfl rfl (pc' := 12) rfl ?_
    refine W1.iloadN (hb hby dCA1_12) rfl (pc' := 13) rfl ?_
    refine W1.caload AR (.int c1) (hb hby dCA1_13) (pc' := 14) rfl (by decide) rfl ?_
    refine W1.ldcI (hb hby dCA1_14) (hw _ (List.mem_of_getElem? (i := 75) rfl)) (pc' := 16) rfl ?_
    refine W1.isub (hb hby dCA1_16) (pc' := 17) rfl ?_
    refine W1.bipush (10 : Int32) (hb hby dCA1_17) rfl (pc' := 19) rfl ?_
    refine W1.ishl (hb hby dCA1_19) (pc' := 20) rfl ?_
    refine W1.iadd (hb hby dCA1_20) (pc' := 21) rfl ?_
    refine W1.aloadN (hb hby dCA1_21) rfl rfl (pc' := 22) rfl ?_
    refine W1.iloadN (hb hby dCA1_22) rfl (pc' := 23) rfl ?_
    refine W1.iconst (1 : Int32) (hb hby dCA1_23) rfl (pc' := 24) rfl ?_
    refine W1.iadd (hb hby dCA1_24) (pc' := 25) rfl ?_
    show Go p e below _ _ (mkF m 25 #[.val (.ref arr), .val (.int n), .val (.int (1 : Int32))] [(.int (2 : Int32)), (.ref arr), (.int ((65536 : Int32) + ((c1 - (55296 : Int32)) <<< ((10 : Int32) &&& 31))))])
    refine W1.caload AR (.int c2) (hb hby dCA1_25) (pc' := 26) rfl (by decide) rfl ?_
    refine W1.ldcI (hb hby dCA1_26) (hw _ (List.mem_of_getElem? (i := 114) rfl)) (pc' := 28) rfl ?_
    refine W1.isub (hb hby dCA1_28) (pc' := 29) rfl ?_
    refine W1.iadd (hb hby dCA1_29) (pc' := 30) rfl ?_
    exact W1.retI hret (hb hby dCA1_30) (by decide) (by decide) ⟨congrArg (fun z => some (Value.int z)) (by rw [ca1F, if_neg hc2]), rfl⟩
def ca2F (n c0 c1 c2 : Int32) : Int32 := c2
theorem dCA2_0 : decode method_6_code 0 = .ok (.aload_n 0, 1) := by decide +kernel
theorem dCA2_1 : decode method_6_code 1 = .ok (.iload_n 1, 1) := by decide +kernel
theorem dCA2_2 : decode method_6_code 2 = .ok (.iload_n 2, 1) := by decide +kernel
theorem dCA2_3 : decode method_6_code 3 = .ok (.invokestatic 45, 3) := by decide +kernel
theorem dCA2_6 : decode method_6_code 6 = .ok (.ifCond .eq 25, 3) := by decide +kernel
theorem dCA2_31 : decode method_6_code 31 = .ok (.aload_n 0, 1) := by decide +kernel
theorem dCA2_32 : decode method_6_code 32 = .ok (.iload_n 2, 1) := by decide +kernel
theorem dCA2_33 : decode method_6_code 33 = .ok (.caload, 1) := by decide +kernel
theorem dCA2_34 : decode method_6_code 34 = .ok (.ireturn, 1) := by decide +kernel
theorem pn_CA2 : plainFor (⟨"com/example/frugal_ranker/frugalranker/CodePointsComparePinLaw", "cpAt", "([CII)I"⟩ : MethodName) = true := by first | exact plainFor_of_name (by first | (simp [plainName, overriddenIn]; done) | decide +kernel) | decide +kernel
set_option maxRecDepth 65536 in
set_option maxHeartbeats 40000000 in
theorem rmCA2 (l : Launch) (Z : State) (a0 : Array Value) (hw : ∀ d ∈ tables_1, d.before a0 Z = true) (arr : Addr) (ka : ClassId) (n c0 c1 c2 : Int32) (h0 : Heap) (n0 : Nat) (Z0 : n0 ≤ h0.size) (AR : Arv Z h0 arr ka .char (3 : Int32) [(.int c0), (.int c1), (.int c2)] (.int (0 : Int32))) (hn : ∃ k : Nat, k < 4 ∧ n = Int32.ofNat k) :
    NM l (⟨"com/example/frugal_ranker/frugalranker/CodePointsComparePinLaw", "cpAt", "([CII)I"⟩ : MethodName) method_6_code 3 (some .int) [] ({ frames := 1, cells := 0, slots := 0, locals := 18 } : Room) Z n0 #[(.ref arr), (.int n), (.int (2 : Int32))] h0 [] (Pu (some (.int (ca2F n c0 c1 c2))) h0) := by
  refine NM.walk (Ls := #[.val (.ref arr), .val (.int n), .val (.int (2 : Int32))]) pn_CA2 Z0 (fun m => by first | (simp [entryFrame, mkF, argsToLocals, Value.category]; done) | rfl) ?_
  intro p e s m below meth c s₁ hby hml hret hnm W0
  refine W0.aloadN (hb hby dCA2_0) rfl rfl (pc' := 1) rfl ?_
  refine W0.iloadN (hb hby dCA2_1) rfl (pc' := 2) rfl ?_
  refine W0.iloadN (hb hby dCA2_2) rfl (pc' := 3) rfl ?_
  refine W0.callSP (hw _ (List.mem_of_getElem? (i := 48) rfl)) (hw _ (List.mem_of_getElem? (i := 49) rfl)) (hw _ (List.mem_of_getElem? (i := 2) rfl)) (hw _ (List.mem_of_getElem? (i := 50) rfl)) (by decide) (NM.bk (wd := 0) (rmPA2 l Z a0 hw arr ka n c0 c1 c2 h0 n0 W0.n0h AR hn) W0.2.2.2.1 (hw _ (List.mem_of_getElem? (i := 50) rfl)) (hw _ (List.mem_of_getElem? (i := 2) rfl)) (by decide) (by decide)) (hb hby dCA2_3) (pc' := 6) rfl hml (argsL := [(.ref arr), (.int n), (.int (2 : Int32))]) rfl (lenOf pd_a5e23fec rfl) rfl (Nat.le_of_ble_eq_true rfl) (by decide) (by decide) (fun _ _ _ q => pu_of q) ?_
  intro T1 L1 W1
  show Go p e below _ T1 (mkF m 6 #[.val (.ref arr), .val (.int n), .val (.int (2 : Int32))] [(.int (0 : Int32))])
  refine W1.ifYes (hb hby dCA2_6) (XT.i0_eq_t (by decide)) (by decide) (pc' := 31) (by decide) ?_
  refine W1.aloadN (hb hby dCA2_31) rfl rfl (pc' := 32) rfl ?_
  refine W1.iloadN (hb hby dCA2_32) rfl (pc' := 33) rfl ?_
  refine W1.caload AR (.int c2) (hb hby dCA2_33) (pc' := 34) rfl (by decide) rfl ?_
  exact W1.retI hret (hb hby dCA2_34) (by decide) (by decide) ⟨congrArg (fun z => some (Value.int z)) (by rw [ca2F]), rfl⟩
def decF (n c0 c1 c2 : Int32) : Int32 × Int32 × Int32 × Int32 := (if (0 : Int32) < n then (if (pa0F n c0 c1 c2) = (0 : Int32) then (if (1 : Int32) < n then (if (pa1F n c0 c1 c2) = (0 : Int32) then (if (2 : Int32) < n then ((3 : Int32), (ca0F n c0 c1 c2), (ca1F n c0 c1 c2), (ca2F n c0 c1 c2)) else ((2 : Int32), (ca0F n c0 c1 c2), (ca1F n c0 c1 c2), (0 : Int32))) else ((2 : Int32), (ca0F n c0 c1 c2), (ca1F n c0 c1 c2), (0 : Int32))) else ((1 : Int32), (ca0F n c0 c1 c2), (0 : Int32), (0 : Int32))) else (if (2 : Int32) < n then ((2 : Int32), (ca0F n c0 c1 c2), (ca2F n c0 c1 c2), (0 : Int32)) else ((1 : Int32), (ca0F n c0 c1 c2), (0 : Int32), (0 : Int32)))) else ((0 : Int32), (0 : Int32), (0 : Int32), (0 : Int32)))
theorem dDE_0 : decode method_7_code 0 = .ok (.iconst 0, 1) := by decide +kernel
theorem dDE_1 : decode method_7_code 1 = .ok (.istore_n 3, 1) := by decide +kernel
theorem dDE_2 : decode method_7_code 2 = .ok (.iconst 0, 1) := by decide +kernel
theorem dDE_3 : decode method_7_code 3 = .ok (.istore 4, 2) := by decide +kernel
theorem dDE_5 : decode method_7_code 5 = .ok (.iload 4, 2) := by decide +kernel
theorem dDE_7 : decode method_7_code 7 = .ok (.iload_n 1, 1) := by decide +kernel
theorem dDE_8 : decode method_7_code 8 = .ok (.if_icmp .ge 36, 3) := by decide +kernel
theorem dDE_11 : decode method_7_code 11 = .ok (.aload_n 2, 1) := by decide +kernel
theorem dDE_12 : decode method_7_code 12 = .ok (.iload_n 3, 1) := by decide +kernel
theorem dDE_13 : decode method_7_code 13 = .ok (.aload_n 0, 1) := by decide +kernel
theorem dDE_14 : decode method_7_code 14 = .ok (.iload_n 1, 1) := by decide +kernel
theorem dDE_15 : decode method_7_code 15 = .ok (.iload 4, 2) := by decide +kernel
theorem dDE_17 : decode method_7_code 17 = .ok (.invokestatic 50, 3) := by decide +kernel
theorem pd_658d0a7b : parseMethodDescriptor "([CII)I" = some ⟨[(.array .char), .int, .int], some .int⟩ := by decide +kernel
theorem dDE_20 : decode method_7_code 20 = .ok (.iastore, 1) := by decide +kernel
theorem dDE_21 : decode method_7_code 21 = .ok (.iload 4, 2) := by decide +kernel
theorem dDE_23 : decode method_7_code 23 = .ok (.aload_n 0, 1) := by decide +kernel
theorem dDE_24 : decode method_7_code 24 = .ok (.iload_n 1, 1) := by decide +kernel
theorem dDE_25 : decode method_7_code 25 = .ok (.iload 4, 2) := by decide +kernel
theorem dDE_27 : decode method_7_code 27 = .ok (.invokestatic 45, 3) := by decide +kernel
theorem dDE_30 : decode method_7_code 30 = .ok (.ifCond .eq 7, 3) := by decide +kernel
theorem dDE_37 : decode method_7_code 37 = .ok (.iconst 1, 1) := by decide +kernel
theorem dDE_38 : decode method_7_code 38 = .ok (.iadd, 1) := by decide +kernel
theorem dDE_39 : decode method_7_code 39 = .ok (.istore 4, 2) := by decide +kernel
theorem dDE_41 : decode method_7_code 41 = .ok (.iinc 3 1, 3) := by decide +kernel
theorem dDE_44 : decode method_7_code 44 = .ok (.iload 4, 2) := by decide +kernel
theorem dDE_46 : decode method_7_code 46 = .ok (.iload_n 1, 1) := by decide +kernel
theorem dDE_47 : decode method_7_code 47 = .ok (.if_icmp .ge 36, 3) := by decide +kernel
theorem dDE_50 : decode method_7_code 50 = .ok (.aload_n 2, 1) := by decide +kernel
theorem dDE_51 : decode method_7_code 51 = .ok (.iload_n 3, 1) := by decide +kernel
theorem dDE_52 : decode method_7_code 52 = .ok (.aload_n 0, 1) := by decide +kernel
theorem dDE_53 : decode method_7_code 53 = .ok (.iload_n 1, 1) := by decide +kernel
theorem dDE_54 : decode method_7_code 54 = .ok (.iload 4, 2) := by decide +kernel
theorem dDE_56 : decode method_7_code 56 = .ok (.invokestatic 50, 3) := by decide +kernel
theorem dDE_59 : decode method_7_code 59 = .ok (.iastore, 1) := by decide +kernel
theorem dDE_60 : decode method_7_code 60 = .ok (.iload 4, 2) := by decide +kernel
theorem dDE_62 : decode method_7_code 62 = .ok (.aload_n 0, 1) := by decide +kernel
theorem dDE_63 : decode method_7_code 63 = .ok (.iload_n 1, 1) := by decide +kernel
theorem dDE_64 : decode method_7_code 64 = .ok (.iload 4, 2) := by decide +kernel
theorem dDE_66 : decode method_7_code 66 = .ok (.invokestatic 45, 3) := by decide +kernel
theorem dDE_69 : decode method_7_code 69 = .ok (.ifCond .eq 7, 3) := by decide +kernel
theorem dDE_76 : decode method_7_code 76 = .ok (.iconst 1, 1) := by decide +kernel
theorem dDE_77 : decode method_7_code 77 = .ok (.iadd, 1) := by decide +kernel
theorem dDE_78 : decode method_7_code 78 = .ok (.istore 4, 2) := by decide +kernel
theorem dDE_80 : decode method_7_code 80 = .ok (.iinc 3 1, 3) := by decide +kernel
theorem dDE_83 : decode method_7_code 83 = .ok (.iload 4, 2) := by decide +kernel
theorem dDE_85 : decode method_7_code 85 = .ok (.iload_n 1, 1) := by decide +kernel
theorem dDE_86 : decode method_7_code 86 = .ok (.if_icmp .ge 36, 3) := by decide +kernel
theorem dDE_89 : decode method_7_code 89 = .ok (.aload_n 2, 1) := by decide +kernel
theorem dDE_90 : decode method_7_code 90 = .ok (.iload_n 3, 1) := by decide +kernel
theorem dDE_91 : decode method_7_code 91 = .ok (.aload_n 0, 1) := by decide +kernel
theorem dDE_92 : decode method_7_code 92 = .ok (.iload_n 1, 1) := by decide +kernel
theorem dDE_93 : decode method_7_code 93 = .ok (.iload 4, 2) := by decide +kernel
theorem dDE_95 : decode method_7_code 95 = .ok (.invokestatic 50, 3) := by decide +kernel
theorem dDE_98 : decode method_7_code 98 = .ok (.iastore, 1) := by decide +kernel
theorem dDE_99 : decode method_7_code 99 = .ok (.iload 4, 2) := by decide +kernel
theorem dDE_101 : decode method_7_code 101 = .ok (.aload_n 0, 1) := by decide +kernel
theorem dDE_102 : decode method_7_code 102 = .ok (.iload_n 1, 1) := by decide +kernel
theorem dDE_103 : decode method_7_code 103 = .ok (.iload 4, 2) := by decide +kernel
theorem dDE_105 : decode method_7_code 105 = .ok (.invokestatic 45, 3) := by decide +kernel
theorem dDE_108 : decode method_7_code 108 = .ok (.ifCond .eq 7, 3) := by decide +kernel
theorem dDE_115 : decode method_7_code 115 = .ok (.iconst 1, 1) := by decide +kernel
theorem dDE_116 : decode method_7_code 116 = .ok (.iadd, 1) := by decide +kernel
theorem dDE_117 : decode method_7_code 117 = .ok (.istore 4, 2) := by decide +kernel
theorem dDE_119 : decode method_7_code 119 = .ok (.iinc 3 1, 3) := by decide +kernel
theorem dDE_122 : decode method_7_code 122 = .ok (.iload_n 3, 1) := by decide +kernel
theorem dDE_123 : decode method_7_code 123 = .ok (.ireturn, 1) := by decide +kernel
theorem dDE_72 : decode method_7_code 72 = .ok (.iconst 2, 1) := by decide +kernel
theorem dDE_73 : decode method_7_code 73 = .ok (.goto 4, 3) := by decide +kernel
theorem dDE_33 : decode method_7_code 33 = .ok (.iconst 2, 1) := by decide +kernel
theorem dDE_34 : decode method_7_code 34 = .ok (.goto 4, 3) := by decide +kernel
theorem pn_DE : plainFor (⟨"com/example/frugal_ranker/frugalranker/CodePointsComparePinLaw", "decode", "([CI[I)I"⟩ : MethodName) = true := by first | exact plainFor_of_name (by first | (simp [plainName, overriddenIn]; done) | decide +kernel) | decide +kernel
set_option maxRecDepth 65536 in
set_option maxHeartbeats 40000000 in
theorem rmDE (l : Launch) (Z : State) (a0 : Array Value) (hw : ∀ d ∈ tables_1, d.before a0 Z = true) (arr out : Addr) (ka ko : ClassId) (n c0 c1 c2 : Int32) (h0 : Heap) (n0 : Nat) (Z0 : n0 ≤ h0.size) (AR : Arv Z h0 arr ka .char (3 : Int32) [(.int c0), (.int c1), (.int c2)] (.int (0 : Int32))) (AO : Arv Z h0 out ko .int (3 : Int32) [(.int (0 : Int32)), (.int (0 : Int32)), (.int (0 : Int32))] (.int (0 : Int32))) (hne : arr ≠ out) (gx : n0 ≤ out) (hn : ∃ k : Nat, k < 4 ∧ n = Int32.ofNat k) :
    NM l (⟨"com/example/frugal_ranker/frugalranker/CodePointsComparePinLaw", "decode", "([CI[I)I"⟩ : MethodName) method_7_code 5 (some .int) [] ({ frames := 2, cells := 0, slots := 0, locals := 36 } : Room) Z n0 #[(.ref arr), (.int n), (.ref out)] h0 [out] (fun v h => v = some (.int (decF n c0 c1 c2).1) ∧ Arv Z h out ko .int (3 : Int32) [(.int (decF n c0 c1 c2).2.1), (.int (decF n c0 c1 c2).2.2.1), (.int (decF n c0 c1 c2).2.2.2)] (.int (0 : Int32))) := by
  refine NM.walk (Ls := #[.val (.ref arr), .val (.int n), .val (.ref out), .unset, .unset]) pn_DE Z0 (fun m => by first | (simp [entryFrame, mkF, argsToLocals, Value.category]; done) | rfl) ?_
  intro p e s m below meth c s₁ hby hml hret hnm W0
  refine W0.iconst (0 : Int32) (hb hby dDE_0) rfl (pc' := 1) rfl ?_
  refine W0.istoreN (Ls' := #[.val (.ref arr), .val (.int n), .val (.ref out), .val (.int (0 : Int32)), .unset]) (hb hby dDE_1) rfl (pc' := 2) rfl ?_
  refine W0.iconst (0 : Int32) (hb hby dDE_2) rfl (pc' := 3) rfl ?_
  refine W0.istore (Ls' := #[.val (.ref arr), .val (.int n), .val (.ref out), .val (.int (0 : Int32)), .val (.int (0 : Int32))]) (hb hby dDE_3) rfl (pc' := 5) rfl ?_
  refine W0.iload (hb hby dDE_5) rfl (pc' := 7) rfl ?_
  refine W0.iloadN (hb hby dDE_7) rfl (pc' := 8) rfl ?_
  by_cases hc1 : (0 : Int32) < n
  · refine W0.icmpNo (hb hby dDE_8) (XT.ii_ge_f hc1) (pc' := 11) rfl ?_
    refine W0.aloadN (hb hby dDE_11) rfl rfl (pc' := 12) rfl ?_
    refine W0.iloadN (hb hby dDE_12) rfl (pc' := 13) rfl ?_
    refine W0.aloadN (hb hby dDE_13) rfl rfl (pc' := 14) rfl ?_
    refine W0.iloadN (hb hby dDE_14) rfl (pc' := 15) rfl ?_
    refine W0.iload (hb hby dDE_15) rfl (pc' := 17) rfl ?_
    refine W0.callSP (hw _ (List.mem_of_getElem? (i := 45) rfl)) (hw _ (List.mem_of_getElem? (i := 46) rfl)) (hw _ (List.mem_of_getElem? (i := 2) rfl)) (hw _ (List.mem_of_getElem? (i := 47) rfl)) (by decide) (NM.bk (wd := 2) (rmCA0 l Z a0 hw arr ka n c0 c1 c2 h0 n0 W0.n0h AR hn) W0.2.2.2.1 (hw _ (List.mem_of_getElem? (i := 47) rfl)) (hw _ (List.mem_of_getElem? (i := 2) rfl)) (by decide) (by decide)) (hb hby dDE_17) (pc' := 20) rfl hml (argsL := [(.ref arr), (.int n), (.int (0 : Int32))]) rfl (lenOf pd_658d0a7b rfl) rfl (Nat.le_of_ble_eq_true rfl) (by decide) (by decide) (fun _ _ _ q => pu_of q) ?_
    intro T2 L2 W2
    show Go p e below _ T2 (mkF m 20 #[.val (.ref arr), .val (.int n), .val (.ref out), .val (.int (0 : Int32)), .val (.int (0 : Int32))] [(.int (ca0F n c0 c1 c2)), (.int (0 : Int32)), (.ref out)])
    refine W2.stI AO (hb hby dDE_20) (pc' := 21) rfl 0 rfl (Nat.le_of_ble_eq_true rfl) (by decide) (Or.inl (List.mem_of_getElem? (i := 0) rfl)) gx ?_
    intro T3 h3 L3 W3 K3 V3'
    have V3 : Arv Z h3 out ko .int (3 : Int32) [(.int (ca0F n c0 c1 c2)), (.int (0 : Int32)), (.int (0 : Int32))] (.int (0 : Int32)) := V3'
    have z3 := K3.1
    refine W3.iload (hb hby dDE_21) rfl (pc' := 23) rfl ?_
    refine W3.aloadN (hb hby dDE_23) rfl rfl (pc' := 24) rfl ?_
    refine W3.iloadN (hb hby dDE_24) rfl (pc' := 25) rfl ?_
    refine W3.iload (hb hby dDE_25) rfl (pc' := 27) rfl ?_
    have F5 := (AR.keep K3 (ninS hne nin0))
    refine W3.callSP (hw _ (List.mem_of_getElem? (i := 48) rfl)) (hw _ (List.mem_of_getElem? (i := 49) rfl)) (hw _ (List.mem_of_getElem? (i := 2) rfl)) (hw _ (List.mem_of_getElem? (i := 50) rfl)) (by decide) (NM.bk (wd := 1) (rmPA0 l Z a0 hw arr ka n c0 c1 c2 h3 n0 W3.n0h F5 hn) W3.2.2.2.1 (hw _ (List.mem_of_getElem? (i := 50) rfl)) (hw _ (List.mem_of_getElem? (i := 2) rfl)) (by decide) (by decide)) (hb hby dDE_27) (pc' := 30) rfl hml (argsL := [(.ref arr), (.int n), (.int (0 : Int32))]) rfl (lenOf pd_a5e23fec rfl) rfl (Nat.le_of_ble_eq_true rfl) (by decide) (by decide) (fun _ _ _ q => pu_of q) ?_
    intro T4 L4 W4
    show Go p e below _ T4 (mkF m 30 #[.val (.ref arr), .val (.int n), .val (.ref out), .val (.int (0 : Int32)), .val (.int (0 : Int32))] [(.int (pa0F n c0 c1 c2)), (.int (0 : Int32))])
    by_cases hc6 : (pa0F n c0 c1 c2) = (0 : Int32)
    · refine W4.ifYes (hb hby dDE_30) (XT.i0_eq_t hc6) (by decide) (pc' := 37) (by decide) ?_
      refine W4.iconst (1 : Int32) (hb hby dDE_37) rfl (pc' := 38) rfl ?_
      refine W4.iadd (hb hby dDE_38) (pc' := 39) rfl ?_
      show Go p e below _ _ (mkF m 39 #[.val (.ref arr), .val (.int n), .val (.ref out), .val (.int (0 : Int32)), .val (.int (0 : Int32))] [(.int (1 : Int32))])
      refine W4.istore (Ls' := #[.val (.ref arr), .val (.int n), .val (.ref out), .val (.int (0 : Int32)), .val (.int (1 : Int32))]) (hb hby dDE_39) rfl (pc' := 41) rfl ?_
      refine W4.iinc (Ls' := #[.val (.ref arr), .val (.int n), .val (.ref out), .val (.int ((0 : Int32) + (1 : Int32))), .val (.int (1 : Int32))]) (1 : Int32) (hb hby dDE_41) rfl rfl rfl (pc' := 44) rfl ?_
      show Go p e below _ _ (mkF m 44 #[.val (.ref arr), .val (.int n), .val (.ref out), .val (.int (1 : Int32)), .val (.int (1 : Int32))] [])
      refine W4.iload (hb hby dDE_44) rfl (pc' := 46) rfl ?_
      refine W4.iloadN (hb hby dDE_46) rfl (pc' := 47) rfl ?_
      by_cases hc7 : (1 : Int32) < n
      · refine W4.icmpNo (hb hby dDE_47) (XT.ii_ge_f hc7) (pc' := 50) rfl ?_
        refine W4.aloadN (hb hby dDE_50) rfl rfl (pc' := 51) rfl ?_
        refine W4.iloadN (hb hby dDE_51) rfl (pc' := 52) rfl ?_
        refine W4.aloadN (hb hby dDE_52) rfl rfl (pc' := 53) rfl ?_
        refine W4.iloadN (hb hby dDE_53) rfl (pc' := 54) rfl ?_
        refine W4.iload (hb hby dDE_54) rfl (pc' := 56) rfl ?_
        refine W4.callSP (hw _ (List.mem_of_getElem? (i := 45) rfl)) (hw _ (List.mem_of_getElem? (i := 46) rfl)) (hw _ (List.mem_of_getElem? (i := 2) rfl)) (hw _ (List.mem_of_getElem? (i := 47) rfl)) (by decide) (NM.bk (wd := 2) (rmCA1 l Z a0 hw arr ka n c0 c1 c2 h3 n0 W4.n0h F5 hn) W4.2.2.2.1 (hw _ (List.mem_of_getElem? (i := 47) rfl)) (hw _ (List.mem_of_getElem? (i := 2) rfl)) (by decide) (by decide)) (hb hby dDE_56) (pc' := 59) rfl hml (argsL := [(.ref arr), (.int n), (.int (1 : Int32))]) rfl (lenOf pd_658d0a7b rfl) rfl (Nat.le_of_ble_eq_true rfl) (by decide) (by decide) (fun _ _ _ q => pu_of q) ?_
        intro T8 L8 W8
        show Go p e below _ T8 (mkF m 59 #[.val (.ref arr), .val (.int n), .val (.ref out), .val (.int (1 : Int32)), .val (.int (1 : Int32))] [(.int (ca1F n c0 c1 c2)), (.int (1 : Int32)), (.ref out)])
        refine W8.stI V3 (hb hby dDE_59) (pc' := 60) rfl 1 rfl (Nat.le_of_ble_eq_true rfl) (by decide) (Or.inl (List.mem_of_getElem? (i := 0) rfl)) gx ?_
        intro T9 h9 L9 W9 K9 V9'
        have V9 : Arv Z h9 out ko .int (3 : Int32) [(.int (ca0F n c0 c1 c2)), (.int (ca1F n c0 c1 c2)), (.int (0 : Int32))] (.int (0 : Int32)) := V9'
        have z9 := K9.1
        refine W9.iload (hb hby dDE_60) rfl (pc' := 62) rfl ?_
        refine W9.aloadN (hb hby dDE_62) rfl rfl (pc' := 63) rfl ?_
        refine W9.iloadN (hb hby dDE_63) rfl (pc' := 64) rfl ?_
        refine W9.iload (hb hby dDE_64) rfl (pc' := 66) rfl ?_
        have F11 := ((AR.keep K3 (ninS hne nin0)).keep K9 (ninS hne nin0))
        refine W9.callSP (hw _ (List.mem_of_getElem? (i := 48) rfl)) (hw _ (List.mem_of_getElem? (i := 49) rfl)) (hw _ (List.mem_of_getElem? (i := 2) rfl)) (hw _ (List.mem_of_getElem? (i := 50) rfl)) (by decide) (NM.bk (wd := 1) (rmPA1 l Z a0 hw arr ka n c0 c1 c2 h9 n0 W9.n0h F11 hn) W9.2.2.2.1 (hw _ (List.mem_of_getElem? (i := 50) rfl)) (hw _ (List.mem_of_getElem? (i := 2) rfl)) (by decide) (by decide)) (hb hby dDE_66) (pc' := 69) rfl hml (argsL := [(.ref arr), (.int n), (.int (1 : Int32))]) rfl (lenOf pd_a5e23fec rfl) rfl (Nat.le_of_ble_eq_true rfl) (by decide) (by decide) (fun _ _ _ q => pu_of q) ?_
        intro T10 L10 W10
        show Go p e below _ T10 (mkF m 69 #[.val (.ref arr), .val (.int n), .val (.ref out), .val (.int (1 : Int32)), .val (.int (1 : Int32))] [(.int (pa1F n c0 c1 c2)), (.int (1 : Int32))])
        by_cases hc12 : (pa1F n c0 c1 c2) = (0 : Int32)
        · refine W10.ifYes (hb hby dDE_69) (XT.i0_eq_t hc12) (by decide) (pc' := 76) (by decide) ?_
          refine W10.iconst (1 : Int32) (hb hby dDE_76) rfl (pc' := 77) rfl ?_
          refine W10.iadd (hb hby dDE_77) (pc' := 78) rfl ?_
          show Go p e below _ _ (mkF m 78 #[.val (.ref arr), .val (.int n), .val (.ref out), .val (.int (1 : Int32)), .val (.int (1 : Int32))] [(.int (2 : Int32))])
          refine W10.istore (Ls' := #[.val (.ref arr), .val (.int n), .val (.ref out), .val (.int (1 : Int32)), .val (.int (2 : Int32))]) (hb hby dDE_78) rfl (pc' := 80) rfl ?_
          refine W10.iinc (Ls' := #[.val (.ref arr), .val (.int n), .val (.ref out), .val (.int ((1 : Int32) + (1 : Int32))), .val (.int (2 : Int32))]) (1 : Int32) (hb hby dDE_80) rfl rfl rfl (pc' := 83) rfl ?_
          show Go p e below _ _ (mkF m 83 #[.val (.ref arr), .val (.int n), .val (.ref out), .val (.int (2 : Int32)), .val (.int (2 : Int32))] [])
          refine W10.iload (hb hby dDE_83) rfl (pc' := 85) rfl ?_
          refine W10.iloadN (hb hby dDE_85) rfl (pc' := 86) rfl ?_
          by_cases hc13 : (2 : Int32) < n
          · refine W10.icmpNo (hb hby dDE_86) (XT.ii_ge_f hc13) (pc' := 89) rfl ?_
            refine W10.aloadN (hb hby dDE_89) rfl rfl (pc' := 90) rfl ?_
            refine W10.iloadN (hb hby dDE_90) rfl (pc' := 91) rfl ?_
            refine W10.aloadN (hb hby dDE_91) rfl rfl (pc' := 92) rfl ?_
            refine W10.iloadN (hb hby dDE_92) rfl (pc' := 93) rfl ?_
            refine W10.iload (hb hby dDE_93) rfl (pc' := 95) rfl ?_
            refine W10.callSP (hw _ (List.mem_of_getElem? (i := 45) rfl)) (hw _ (List.mem_of_getElem? (i := 46) rfl)) (hw _ (List.mem_of_getElem? (i := 2) rfl)) (hw _ (List.mem_of_getElem? (i := 47) rfl)) (by decide) (NM.bk (wd := 2) (rmCA2 l Z a0 hw arr ka n c0 c1 c2 h9 n0 W10.n0h F11 hn) W10.2.2.2.1 (hw _ (List.mem_of_getElem? (i := 47) rfl)) (hw _ (List.mem_of_getElem? (i := 2) rfl)) (by decide) (by decide)) (hb hby dDE_95) (pc' := 98) rfl hml (argsL := [(.ref arr), (.int n), (.int (2 : Int32))]) rfl (lenOf pd_658d0a7b rfl) rfl (Nat.le_of_ble_eq_true rfl) (by decide) (by decide) (fun _ _ _ q => pu_of q) ?_
            intro T14 L14 W14
            show Go p e below _ T14 (mkF m 98 #[.val (.ref arr), .val (.int n), .val (.ref out), .val (.int (2 : Int32)), .val (.int (2 : Int32))] [(.int (ca2F n c0 c1 c2)), (.int (2 : Int32)), (.ref out)])
            refine W14.stI V9 (hb hby dDE_98) (pc' := 99) rfl 2 rfl (Nat.le_of_ble_eq_true rfl) (by decide) (Or.inl (List.mem_of_getElem? (i := 0) rfl)) gx ?_
            intro T15 h15 L15 W15 K15 V15'
            have V15 : Arv Z h15 out ko .int (3 : Int32) [(.int (ca0F n c0 c1 c2)), (.int (ca1F n c0 c1 c2)), (.int (ca2F n c0 c1 c2))] (.int (0 : Int32)) := V15'
            have z15 := K15.1
            refine W15.iload (hb hby dDE_99) rfl (pc' := 101) rfl ?_
            refine W15.aloadN (hb hby dDE_101) rfl rfl (pc' := 102) rfl ?_
            refine W15.iloadN (hb hby dDE_102) rfl (pc' := 103) rfl ?_
            refine W15.iload (hb hby dDE_103) rfl (pc' := 105) rfl ?_
            have F17 := (((AR.keep K3 (ninS hne nin0)).keep K9 (ninS hne nin0)).keep K15 (ninS hne nin0))
            refine W15.callSP (hw _ (List.mem_of_getElem? (i := 48) rfl)) (hw _ (List.mem_of_getElem? (i := 49) rfl)) (hw _ (List.mem_of_getElem? (i := 2) rfl)) (hw _ (List.mem_of_getElem? (i := 50) rfl)) (by decide) (NM.bk (wd := 1) (rmPA2 l Z a0 hw arr ka n c0 c1 c2 h15 n0 W15.n0h F17 hn) W15.2.2.2.1 (hw _ (List.mem_of_getElem? (i := 50) rfl)) (hw _ (List.mem_of_getElem? (i := 2) rfl)) (by decide) (by decide)) (hb hby dDE_105) (pc' := 108) rfl hml (argsL := [(.ref arr), (.int n), (.int (2 : Int32))]) rfl (lenOf pd_a5e23fec rfl) rfl (Nat.le_of_ble_eq_true rfl) (by decide) (by decide) (fun _ _ _ q => pu_of q) ?_
            intro T16 L16 W16
            show Go p e below _ T16 (mkF m 108 #[.val (.ref arr), .val (.int n), .val (.ref out), .val (.int (2 : Int32)), .val (.int (2 : Int32))] [(.int (0 : Int32)), (.int (2 : Int32))])
            refine W16.ifYes (hb hby dDE_108) (XT.i0_eq_t (by decide)) (by decide) (pc' := 115) (by decide) ?_
            refine W16.iconst (1 : Int32) (hb hby dDE_115) rfl (pc' := 116) rfl ?_
            refine W16.iadd (hb hby dDE_116) (pc' := 117) rfl ?_
            show Go p e below _ _ (mkF m 117 #[.val (.ref arr), .val (.int n), .val (.ref out), .val (.int (2 : Int32)), .val (.int (2 : Int32))] [(.int (3 : Int32))])
            refine W16.istore (Ls' := #[.val (.ref arr), .val (.int n), .val (.ref out), .val (.int (2 : Int32)), .val (.int (3 : Int32))]) (hb hby dDE_117) rfl (pc' := 119) rfl ?_
            refine W16.iinc (Ls' := #[.val (.ref arr), .val (.int n), .val (.ref out), .val (.int ((2 : Int32) + (1 : Int32))), .val (.int (3 : Int32))]) (1 : Int32) (hb hby dDE_119) rfl rfl rfl (pc' := 122) rfl ?_
            show Go p e below _ _ (mkF m 122 #[.val (.ref arr), .val (.int n), .val (.ref out), .val (.int (3 : Int32)), .val (.int (3 : Int32))] [])
            refine W16.iloadN (hb hby dDE_122) rfl (pc' := 123) rfl ?_
            exact W16.retI hret (hb hby dDE_123) (by decide) (by decide) (by rw [decF, if_pos hc1, if_pos hc6, if_pos hc7, if_pos hc12, if_pos hc13]; exact ⟨rfl, V15⟩)
          · refine W10.icmpYes (hb hby dDE_86) (XT.ii_ge_t hc13) (by decide) (pc' := 122) (by decide) ?_
            refine W10.iloadN (hb hby dDE_122) rfl (pc' := 123) rfl ?_
            exact W10.retI hret (hb hby dDE_123) (by decide) (by decide) (by rw [decF, if_pos hc1, if_pos hc6, if_pos hc7, if_pos hc12, if_neg hc13]; exact ⟨rfl, V9⟩)
        · refine W10.ifNo (hb hby dDE_69) (XT.i0_eq_f hc12) (pc' := 72) rfl ?_
          refine W10.iconst (2 : Int32) (hb hby dDE_72) rfl (pc' := 73) rfl ?_
          refine W10.goto (hb hby dDE_73) (by decide) (pc' := 77) (by decide) ?_
          refine W10.iadd (hb hby dDE_77) (pc' := 78) rfl ?_
          show Go p e below _ _ (mkF m 78 #[.val (.ref arr), .val (.int n), .val (.ref out), .val (.int (1 : Int32)), .val (.int (1 : Int32))] [(.int (3 : Int32))])
          refine W10.istore (Ls' := #[.val (.ref arr), .val (.int n), .val (.ref out), .val (.int (1 : Int32)), .val (.int (3 : Int32))]) (hb hby dDE_78) rfl (pc' := 80) rfl ?_
          refine W10.iinc (Ls' := #[.val (.ref arr), .val (.int n), .val (.ref out), .val (.int ((1 : Int32) + (1 : Int32))), .val (.int (3 : Int32))]) (1 : Int32) (hb hby dDE_80) rfl rfl rfl (pc' := 83) rfl ?_
          show Go p e below _ _ (mkF m 83 #[.val (.ref arr), .val (.int n), .val (.ref out), .val (.int (2 : Int32)), .val (.int (3 : Int32))] [])
          refine W10.iload (hb hby dDE_83) rfl (pc' := 85) rfl ?_
          refine W10.iloadN (hb hby dDE_85) rfl (pc' := 86) rfl ?_
          refine W10.icmpYes (hb hby dDE_86) (XT.ii_ge_t (not3 hn)) (by decide) (pc' := 122) (by decide) ?_
          refine W10.iloadN (hb hby dDE_122) rfl (pc' := 123) rfl ?_
          exact W10.retI hret (hb hby dDE_123) (by decide) (by decide) (by rw [decF, if_pos hc1, if_pos hc6, if_pos hc7, if_neg hc12]; exact ⟨rfl, V9⟩)
      · refine W4.icmpYes (hb hby dDE_47) (XT.ii_ge_t hc7) (by decide) (pc' := 83) (by decide) ?_
        refine W4.iload (hb hby dDE_83) rfl (pc' := 85) rfl ?_
        refine W4.iloadN (hb hby dDE_85) rfl (pc' := 86) rfl ?_
        refine W4.icmpYes (hb hby dDE_86) (XT.ii_ge_t hc7) (by decide) (pc' := 122) (by decide) ?_
        refine W4.iloadN (hb hby dDE_122) rfl (pc' := 123) rfl ?_
        exact W4.retI hret (hb hby dDE_123) (by decide) (by decide) (by rw [decF, if_pos hc1, if_pos hc6, if_neg hc7]; exact ⟨rfl, V3⟩)
    · refine W4.ifNo (hb hby dDE_30) (XT.i0_eq_f hc6) (pc' := 33) rfl ?_
      refine W4.iconst (2 : Int32) (hb hby dDE_33) rfl (pc' := 34) rfl ?_
      refine W4.goto (hb hby dDE_34) (by decide) (pc' := 38) (by decide) ?_
      refine W4.iadd (hb hby dDE_38) (pc' := 39) rfl ?_
      show Go p e below _ _ (mkF m 39 #[.val (.ref arr), .val (.int n), .val (.ref out), .val (.int (0 : Int32)), .val (.int (0 : Int32))] [(.int (2 : Int32))])
      refine W4.istore (Ls' := #[.val (.ref arr), .val (.int n), .val (.ref out), .val (.int (0 : Int32)), .val (.int (2 : Int32))]) (hb hby dDE_39) rfl (pc' := 41) rfl ?_
      refine W4.iinc (Ls' := #[.val (.ref arr), .val (.int n), .val (.ref out), .val (.int ((0 : Int32) + (1 : Int32))), .val (.int (2 : Int32))]) (1 : Int32) (hb hby dDE_41) rfl rfl rfl (pc' := 44) rfl ?_
      show Go p e below _ _ (mkF m 44 #[.val (.ref arr), .val (.int n), .val (.ref out), .val (.int (1 : Int32)), .val (.int (2 : Int32))] [])
      refine W4.iload (hb hby dDE_44) rfl (pc' := 46) rfl ?_
      refine W4.iloadN (hb hby dDE_46) rfl (pc' := 47) rfl ?_
      by_cases hc18 : (2 : Int32) < n
      · refine W4.icmpNo (hb hby dDE_47) (XT.ii_ge_f hc18) (pc' := 50) rfl ?_
        refine W4.aloadN (hb hby dDE_50) rfl rfl (pc' := 51) rfl ?_
        refine W4.iloadN (hb hby dDE_51) rfl (pc' := 52) rfl ?_
        refine W4.aloadN (hb hby dDE_52) rfl rfl (pc' := 53) rfl ?_
        refine W4.iloadN (hb hby dDE_53) rfl (pc' := 54) rfl ?_
        refine W4.iload (hb hby dDE_54) rfl (pc' := 56) rfl ?_
        refine W4.callSP (hw _ (List.mem_of_getElem? (i := 45) rfl)) (hw _ (List.mem_of_getElem? (i := 46) rfl)) (hw _ (List.mem_of_getElem? (i := 2) rfl)) (hw _ (List.mem_of_getElem? (i := 47) rfl)) (by decide) (NM.bk (wd := 2) (rmCA2 l Z a0 hw arr ka n c0 c1 c2 h3 n0 W4.n0h F5 hn) W4.2.2.2.1 (hw _ (List.mem_of_getElem? (i := 47) rfl)) (hw _ (List.mem_of_getElem? (i := 2) rfl)) (by decide) (by decide)) (hb hby dDE_56) (pc' := 59) rfl hml (argsL := [(.ref arr), (.int n), (.int (2 : Int32))]) rfl (lenOf pd_658d0a7b rfl) rfl (Nat.le_of_ble_eq_true rfl) (by decide) (by decide) (fun _ _ _ q => pu_of q) ?_
        intro T19 L19 W19
        show Go p e below _ T19 (mkF m 59 #[.val (.ref arr), .val (.int n), .val (.ref out), .val (.int (1 : Int32)), .val (.int (2 : Int32))] [(.int (ca2F n c0 c1 c2)), (.int (1 : Int32)), (.ref out)])
        refine W19.stI V3 (hb hby dDE_59) (pc' := 60) rfl 1 rfl (Nat.le_of_ble_eq_true rfl) (by decide) (Or.inl (List.mem_of_getElem? (i := 0) rfl)) gx ?_
        intro T20 h20 L20 W20 K20 V20'
        have V20 : Arv Z h20 out ko .int (3 : Int32) [(.int (ca0F n c0 c1 c2)), (.int (ca2F n c0 c1 c2)), (.int (0 : Int32))] (.int (0 : Int32)) := V20'
        have z20 := K20.1
        refine W20.iload (hb hby dDE_60) rfl (pc' := 62) rfl ?_
        refine W20.aloadN (hb hby dDE_62) rfl rfl (pc' := 63) rfl ?_
        refine W20.iloadN (hb hby dDE_63) rfl (pc' := 64) rfl ?_
        refine W20.iload (hb hby dDE_64) rfl (pc' := 66) rfl ?_
        have F22 := ((AR.keep K3 (ninS hne nin0)).keep K20 (ninS hne nin0))
        refine W20.callSP (hw _ (List.mem_of_getElem? (i := 48) rfl)) (hw _ (List.mem_of_getElem? (i := 49) rfl)) (hw _ (List.mem_of_getElem? (i := 2) rfl)) (hw _ (List.mem_of_getElem? (i := 50) rfl)) (by decide) (NM.bk (wd := 1) (rmPA2 l Z a0 hw arr ka n c0 c1 c2 h20 n0 W20.n0h F22 hn) W20.2.2.2.1 (hw _ (List.mem_of_getElem? (i := 50) rfl)) (hw _ (List.mem_of_getElem? (i := 2) rfl)) (by decide) (by decide)) (hb hby dDE_66) (pc' := 69) rfl hml (argsL := [(.ref arr), (.int n), (.int (2 : Int32))]) rfl (lenOf pd_a5e23fec rfl) rfl (Nat.le_of_ble_eq_true rfl) (by decide) (by decide) (fun _ _ _ q => pu_of q) ?_
        intro T21 L21 W21
        show Go p e below _ T21 (mkF m 69 #[.val (.ref arr), .val (.int n), .val (.ref out), .val (.int (1 : Int32)), .val (.int (2 : Int32))] [(.int (0 : Int32)), (.int (2 : Int32))])
        refine W21.ifYes (hb hby dDE_69) (XT.i0_eq_t (by decide)) (by decide) (pc' := 76) (by decide) ?_
        refine W21.iconst (1 : Int32) (hb hby dDE_76) rfl (pc' := 77) rfl ?_
        refine W21.iadd (hb hby dDE_77) (pc' := 78) rfl ?_
        show Go p e below _ _ (mkF m 78 #[.val (.ref arr), .val (.int n), .val (.ref out), .val (.int (1 : Int32)), .val (.int (2 : Int32))] [(.int (3 : Int32))])
        refine W21.istore (Ls' := #[.val (.ref arr), .val (.int n), .val (.ref out), .val (.int (1 : Int32)), .val (.int (3 : Int32))]) (hb hby dDE_78) rfl (pc' := 80) rfl ?_
        refine W21.iinc (Ls' := #[.val (.ref arr), .val (.int n), .val (.ref out), .val (.int ((1 : Int32) + (1 : Int32))), .val (.int (3 : Int32))]) (1 : Int32) (hb hby dDE_80) rfl rfl rfl (pc' := 83) rfl ?_
        show Go p e below _ _ (mkF m 83 #[.val (.ref arr), .val (.int n), .val (.ref out), .val (.int (2 : Int32)), .val (.int (3 : Int32))] [])
        refine W21.iload (hb hby dDE_83) rfl (pc' := 85) rfl ?_
        refine W21.iloadN (hb hby dDE_85) rfl (pc' := 86) rfl ?_
        refine W21.icmpYes (hb hby dDE_86) (XT.ii_ge_t (not3 hn)) (by decide) (pc' := 122) (by decide) ?_
        refine W21.iloadN (hb hby dDE_122) rfl (pc' := 123) rfl ?_
        exact W21.retI hret (hb hby dDE_123) (by decide) (by decide) (by rw [decF, if_pos hc1, if_neg hc6, if_pos hc18]; exact ⟨rfl, V20⟩)
      · refine W4.icmpYes (hb hby dDE_47) (XT.ii_ge_t hc18) (by decide) (pc' := 83) (by decide) ?_
        refine W4.iload (hb hby dDE_83) rfl (pc' := 85) rfl ?_
        refine W4.iloadN (hb hby dDE_85) rfl (pc' := 86) rfl ?_
        refine W4.icmpYes (hb hby dDE_86) (XT.ii_ge_t hc18) (by decide) (pc' := 122) (by decide) ?_
        refine W4.iloadN (hb hby dDE_122) rfl (pc' := 123) rfl ?_
        exact W4.retI hret (hb hby dDE_123) (by decide) (by decide) (by rw [decF, if_pos hc1, if_neg hc6, if_neg hc18]; exact ⟨rfl, V3⟩)
  · refine W0.icmpYes (hb hby dDE_8) (XT.ii_ge_t hc1) (by decide) (pc' := 44) (by decide) ?_
    refine W0.iload (hb hby dDE_44) rfl (pc' := 46) rfl ?_
    refine W0.iloadN (hb hby dDE_46) rfl (pc' := 47) rfl ?_
    refine W0.icmpYes (hb hby dDE_47) (XT.ii_ge_t hc1) (by decide) (pc' := 83) (by decide) ?_
    refine W0.iload (hb hby dDE_83) rfl (pc' := 85) rfl ?_
    refine W0.iloadN (hb hby dDE_85) rfl (pc' := 86) rfl ?_
    refine W0.icmpYes (hb hby dDE_86) (XT.ii_ge_t hc1) (by decide) (pc' := 122) (by decide) ?_
    refine W0.iloadN (hb hby dDE_122) rfl (pc' := 123) rfl ?_
    exact W0.retI hret (hb hby dDE_123) (by decide) (by decide) (by rw [decF, if_neg hc1]; exact ⟨rfl, AO⟩)
def lexF (n k x0 x1 x2 y0 y1 y2 : Int32) : Int32 := (if n = (0 : Int32) then (sgF (n - k)) else (if k = (0 : Int32) then (sgF (n - k)) else (if x0 = y0 then (if n = (1 : Int32) then (sgF (n - k)) else (if k = (1 : Int32) then (sgF (n - k)) else (if x1 = y1 then (if n = (2 : Int32) then (sgF (n - k)) else (if k = (2 : Int32) then (sgF (n - k)) else (if x2 = y2 then (0 : Int32) else (if x2 < y2 then (-1 : Int32) else (1 : Int32))))) else (if x1 < y1 then (-1 : Int32) else (1 : Int32))))) else (if x0 < y0 then (-1 : Int32) else (1 : Int32)))))
theorem dLX_0 : decode method_9_code 0 = .ok (.iload_n 1, 1) := by decide +kernel
theorem dLX_1 : decode method_9_code 1 = .ok (.ifCond .eq 7, 3) := by decide +kernel
theorem dLX_8 : decode method_9_code 8 = .ok (.iload_n 1, 1) := by decide +kernel
theorem dLX_9 : decode method_9_code 9 = .ok (.iload_n 3, 1) := by decide +kernel
theorem dLX_10 : decode method_9_code 10 = .ok (.isub, 1) := by decide +kernel
theorem dLX_11 : decode method_9_code 11 = .ok (.invokestatic 31, 3) := by decide +kernel
theorem dLX_14 : decode method_9_code 14 = .ok (.ireturn, 1) := by decide +kernel
theorem dLX_4 : decode method_9_code 4 = .ok (.iload_n 3, 1) := by decide +kernel
theorem dLX_5 : decode method_9_code 5 = .ok (.ifCond .ne 10, 3) := by decide +kernel
theorem dLX_15 : decode method_9_code 15 = .ok (.aload_n 0, 1) := by decide +kernel
theorem dLX_16 : decode method_9_code 16 = .ok (.iconst 0, 1) := by decide +kernel
theorem dLX_17 : decode method_9_code 17 = .ok (.iaload, 1) := by decide +kernel
theorem dLX_18 : decode method_9_code 18 = .ok (.aload_n 2, 1) := by decide +kernel
theorem dLX_19 : decode method_9_code 19 = .ok (.iconst 0, 1) := by decide +kernel
theorem dLX_20 : decode method_9_code 20 = .ok (.iaload, 1) := by decide +kernel
theorem dLX_21 : decode method_9_code 21 = .ok (.if_icmp .eq 18, 3) := by decide +kernel
theorem dLX_39 : decode method_9_code 39 = .ok (.iload_n 1, 1) := by decide +kernel
theorem dLX_40 : decode method_9_code 40 = .ok (.iconst 1, 1) := by decide +kernel
theorem dLX_41 : decode method_9_code 41 = .ok (.if_icmp .eq 8, 3) := by decide +kernel
theorem dLX_49 : decode method_9_code 49 = .ok (.iload_n 1, 1) := by decide +kernel
theorem dLX_50 : decode method_9_code 50 = .ok (.iload_n 3, 1) := by decide +kernel
theorem dLX_51 : decode method_9_code 51 = .ok (.isub, 1) := by decide +kernel
theorem dLX_52 : decode method_9_code 52 = .ok (.invokestatic 31, 3) := by decide +kernel
theorem dLX_55 : decode method_9_code 55 = .ok (.ireturn, 1) := by decide +kernel
theorem dLX_44 : decode method_9_code 44 = .ok (.iload_n 3, 1) := by decide +kernel
theorem dLX_45 : decode method_9_code 45 = .ok (.iconst 1, 1) := by decide +kernel
theorem dLX_46 : decode method_9_code 46 = .ok (.if_icmp .ne 10, 3) := by decide +kernel
theorem dLX_56 : decode method_9_code 56 = .ok (.aload_n 0, 1) := by decide +kernel
theorem dLX_57 : decode method_9_code 57 = .ok (.iconst 1, 1) := by decide +kernel
theorem dLX_58 : decode method_9_code 58 = .ok (.iaload, 1) := by decide +kernel
theorem dLX_59 : decode method_9_code 59 = .ok (.aload_n 2, 1) := by decide +kernel
theorem dLX_60 : decode method_9_code 60 = .ok (.iconst 1, 1) := by decide +kernel
theorem dLX_61 : decode method_9_code 61 = .ok (.iaload, 1) := by decide +kernel
theorem dLX_62 : decode method_9_code 62 = .ok (.if_icmp .eq 18, 3) := by decide +kernel
theorem dLX_80 : decode method_9_code 80 = .ok (.iload_n 1, 1) := by decide +kernel
theorem dLX_81 : decode method_9_code 81 = .ok (.iconst 2, 1) := by decide +kernel
theorem dLX_82 : decode method_9_code 82 = .ok (.if_icmp .eq 8, 3) := by decide +kernel
theorem dLX_90 : decode method_9_code 90 = .ok (.iload_n 1, 1) := by decide +kernel
theorem dLX_91 : decode method_9_code 91 = .ok (.iload_n 3, 1) := by decide +kernel
theorem dLX_92 : decode method_9_code 92 = .ok (.isub, 1) := by decide +kernel
theorem dLX_93 : decode method_9_code 93 = .ok (.invokestatic 31, 3) := by decide +kernel
theorem dLX_96 : decode method_9_code 96 = .ok (.ireturn, 1) := by decide +kernel
theorem dLX_85 : decode method_9_code 85 = .ok (.iload_n 3, 1) := by decide +kernel
theorem dLX_86 : decode method_9_code 86 = .ok (.iconst 2, 1) := by decide +kernel
theorem dLX_87 : decode method_9_code 87 = .ok (.if_icmp .ne 10, 3) := by decide +kernel
theorem dLX_97 : decode method_9_code 97 = .ok (.aload_n 0, 1) := by decide +kernel
theorem dLX_98 : decode method_9_code 98 = .ok (.iconst 2, 1) := by decide +kernel
theorem dLX_99 : decode method_9_code 99 = .ok (.iaload, 1) := by decide +kernel
theorem dLX_100 : decode method_9_code 100 = .ok (.aload_n 2, 1) := by decide +kernel
theorem dLX_101 : decode method_9_code 101 = .ok (.iconst 2, 1) := by decide +kernel
theorem dLX_102 : decode method_9_code 102 = .ok (.iaload, 1) := by decide +kernel
theorem dLX_103 : decode method_9_code 103 = .ok (.if_icmp .eq 18, 3) := by decide +kernel
theorem dLX_121 : decode method_9_code 121 = .ok (.iconst 0, 1) := by decide +kernel
theorem dLX_122 : decode method_9_code 122 = .ok (.ireturn, 1) := by decide +kernel
theorem dLX_106 : decode method_9_code 106 = .ok (.aload_n 0, 1) := by decide +kernel
theorem dLX_107 : decode method_9_code 107 = .ok (.iconst 2, 1) := by decide +kernel
theorem dLX_108 : decode method_9_code 108 = .ok (.iaload, 1) := by decide +kernel
theorem dLX_109 : decode method_9_code 109 = .ok (.aload_n 2, 1) := by decide +kernel
theorem dLX_110 : decode method_9_code 110 = .ok (.iconst 2, 1) := by decide +kernel
theorem dLX_111 : decode method_9_code 111 = .ok (.iaload, 1) := by decide +kernel
theorem dLX_112 : decode method_9_code 112 = .ok (.if_icmp .ge 7, 3) := by decide +kernel
theorem dLX_115 : decode method_9_code 115 = .ok (.iconst (-1), 1) := by decide +kernel
theorem dLX_116 : decode method_9_code 116 = .ok (.goto 4, 3) := by decide +kernel
theorem dLX_120 : decode method_9_code 120 = .ok (.ireturn, 1) := by decide +kernel
theorem dLX_119 : decode method_9_code 119 = .ok (.iconst 1, 1) := by decide +kernel
theorem dLX_65 : decode method_9_code 65 = .ok (.aload_n 0, 1) := by decide +kernel
theorem dLX_66 : decode method_9_code 66 = .ok (.iconst 1, 1) := by decide +kernel
theorem dLX_67 : decode method_9_code 67 = .ok (.iaload, 1) := by decide +kernel
theorem dLX_68 : decode method_9_code 68 = .ok (.aload_n 2, 1) := by decide +kernel
theorem dLX_69 : decode method_9_code 69 = .ok (.iconst 1, 1) := by decide +kernel
theorem dLX_70 : decode method_9_code 70 = .ok (.iaload, 1) := by decide +kernel
theorem dLX_71 : decode method_9_code 71 = .ok (.if_icmp .ge 7, 3) := by decide +kernel
theorem dLX_74 : decode method_9_code 74 = .ok (.iconst (-1), 1) := by decide +kernel
theorem dLX_75 : decode method_9_code 75 = .ok (.goto 4, 3) := by decide +kernel
theorem dLX_79 : decode method_9_code 79 = .ok (.ireturn, 1) := by decide +kernel
theorem dLX_78 : decode method_9_code 78 = .ok (.iconst 1, 1) := by decide +kernel
theorem dLX_24 : decode method_9_code 24 = .ok (.aload_n 0, 1) := by decide +kernel
theorem dLX_25 : decode method_9_code 25 = .ok (.iconst 0, 1) := by decide +kernel
theorem dLX_26 : decode method_9_code 26 = .ok (.iaload, 1) := by decide +kernel
theorem dLX_27 : decode method_9_code 27 = .ok (.aload_n 2, 1) := by decide +kernel
theorem dLX_28 : decode method_9_code 28 = .ok (.iconst 0, 1) := by decide +kernel
theorem dLX_29 : decode method_9_code 29 = .ok (.iaload, 1) := by decide +kernel
theorem dLX_30 : decode method_9_code 30 = .ok (.if_icmp .ge 7, 3) := by decide +kernel
theorem dLX_33 : decode method_9_code 33 = .ok (.iconst (-1), 1) := by decide +kernel
theorem dLX_34 : decode method_9_code 34 = .ok (.goto 4, 3) := by decide +kernel
theorem dLX_38 : decode method_9_code 38 = .ok (.ireturn, 1) := by decide +kernel
theorem dLX_37 : decode method_9_code 37 = .ok (.iconst 1, 1) := by decide +kernel
theorem pn_LX : plainFor (⟨"com/example/frugal_ranker/frugalranker/CodePointsComparePinLaw", "lex", "([II[II)I"⟩ : MethodName) = true := by first | exact plainFor_of_name (by first | (simp [plainName, overriddenIn]; done) | decide +kernel) | decide +kernel
set_option maxRecDepth 65536 in
set_option maxHeartbeats 40000000 in
theorem rmLX (l : Launch) (Z : State) (a0 : Array Value) (hw : ∀ d ∈ tables_1, d.before a0 Z = true) (xs ys : Addr) (kx ky : ClassId) (n k x0 x1 x2 y0 y1 y2 : Int32) (h0 : Heap) (n0 : Nat) (Z0 : n0 ≤ h0.size) (AX : Arv Z h0 xs kx .int (3 : Int32) [(.int x0), (.int x1), (.int x2)] (.int (0 : Int32))) (AY : Arv Z h0 ys ky .int (3 : Int32) [(.int y0), (.int y1), (.int y2)] (.int (0 : Int32))) :
    NM l (⟨"com/example/frugal_ranker/frugalranker/CodePointsComparePinLaw", "lex", "([II[II)I"⟩ : MethodName) method_9_code 4 (some .int) [] ({ frames := 1, cells := 0, slots := 0, locals := 14 } : Room) Z n0 #[(.ref xs), (.int n), (.ref ys), (.int k)] h0 [] (Pu (some (.int (lexF n k x0 x1 x2 y0 y1 y2))) h0) := by
  refine NM.walk (Ls := #[.val (.ref xs), .val (.int n), .val (.ref ys), .val (.int k)]) pn_LX Z0 (fun m => by first | (simp [entryFrame, mkF, argsToLocals, Value.category]; done) | rfl) ?_
  intro p e s m below meth c s₁ hby hml hret hnm W0
  refine W0.iloadN (hb hby dLX_0) rfl (pc' := 1) rfl ?_
  by_cases hc1 : n = (0 : Int32)
  · refine W0.ifYes (hb hby dLX_1) (XT.i0_eq_t hc1) (by decide) (pc' := 8) (by decide) ?_
    refine W0.iloadN (hb hby dLX_8) rfl (pc' := 9) rfl ?_
    refine W0.iloadN (hb hby dLX_9) rfl (pc' := 10) rfl ?_
    refine W0.isub (hb hby dLX_10) (pc' := 11) rfl ?_
    refine W0.callSP (hw _ (List.mem_of_getElem? (i := 54) rfl)) (hw _ (List.mem_of_getElem? (i := 55) rfl)) (hw _ (List.mem_of_getElem? (i := 2) rfl)) (hw _ (List.mem_of_getElem? (i := 56) rfl)) (by decide) (NM.bk (wd := 0) (rmSG l Z a0 hw (n - k) h0 n0 W0.n0h ) W0.2.2.2.1 (hw _ (List.mem_of_getElem? (i := 56) rfl)) (hw _ (List.mem_of_getElem? (i := 2) rfl)) (by decide) (by decide)) (hb hby dLX_11) (pc' := 14) rfl hml (argsL := [(.int (n - k))]) rfl (lenOf pd_89c469b3 rfl) rfl (Nat.le_of_ble_eq_true rfl) (by decide) (by decide) (fun _ _ _ q => pu_of q) ?_
    intro T2 L2 W2
    show Go p e below _ T2 (mkF m 14 #[.val (.ref xs), .val (.int n), .val (.ref ys), .val (.int k)] [(.int (sgF (n - k)))])
    exact W2.retI hret (hb hby dLX_14) (by decide) (by decide) ⟨congrArg (fun z => some (Value.int z)) (by rw [lexF, if_pos hc1]), rfl⟩
  · refine W0.ifNo (hb hby dLX_1) (XT.i0_eq_f hc1) (pc' := 4) rfl ?_
    refine W0.iloadN (hb hby dLX_4) rfl (pc' := 5) rfl ?_
    by_cases hc3 : k = (0 : Int32)
    · refine W0.ifNo (hb hby dLX_5) (XT.i0_ne_f hc3) (pc' := 8) rfl ?_
      refine W0.iloadN (hb hby dLX_8) rfl (pc' := 9) rfl ?_
      refine W0.iloadN (hb hby dLX_9) rfl (pc' := 10) rfl ?_
      refine W0.isub (hb hby dLX_10) (pc' := 11) rfl ?_
      refine W0.callSP (hw _ (List.mem_of_getElem? (i := 54) rfl)) (hw _ (List.mem_of_getElem? (i := 55) rfl)) (hw _ (List.mem_of_getElem? (i := 2) rfl)) (hw _ (List.mem_of_getElem? (i := 56) rfl)) (by decide) (NM.bk (wd := 0) (rmSG l Z a0 hw (n - k) h0 n0 W0.n0h ) W0.2.2.2.1 (hw _ (List.mem_of_getElem? (i := 56) rfl)) (hw _ (List.mem_of_getElem? (i := 2) rfl)) (by decide) (by decide)) (hb hby dLX_11) (pc' := 14) rfl hml (argsL := [(.int (n - k))]) rfl (lenOf pd_89c469b3 rfl) rfl (Nat.le_of_ble_eq_true rfl) (by decide) (by decide) (fun _ _ _ q => pu_of q) ?_
      intro T4 L4 W4
      show Go p e below _ T4 (mkF m 14 #[.val (.ref xs), .val (.int n), .val (.ref ys), .val (.int k)] [(.int (sgF (n - k)))])
      exact W4.retI hret (hb hby dLX_14) (by decide) (by decide) ⟨congrArg (fun z => some (Value.int z)) (by rw [lexF, if_neg hc1, if_pos hc3]), rfl⟩
    · refine W0.ifYes (hb hby dLX_5) (XT.i0_ne_t hc3) (by decide) (pc' := 15) (by decide) ?_
      refine W0.aloadN (hb hby dLX_15) rfl rfl (pc' := 16) rfl ?_
      refine W0.iconst (0 : Int32) (hb hby dLX_16) rfl (pc' := 17) rfl ?_
      refine W0.iaload AX (.int x0) (hb hby dLX_17) (pc' := 18) rfl (by decide) rfl ?_
      refine W0.aloadN (hb hby dLX_18) rfl rfl (pc' := 19) rfl ?_
      refine W0.iconst (0 : Int32) (hb hby dLX_19) rfl (pc' := 20) rfl ?_
      refine W0.iaload AY (.int y0) (hb hby dLX_20) (pc' := 21) rfl (by decide) rfl ?_
      by_cases hc5 : x0 = y0
      · refine W0.icmpYes (hb hby dLX_21) (XT.ii_eq_t hc5) (by decide) (pc' := 39) (by decide) ?_
        refine W0.iloadN (hb hby dLX_39) rfl (pc' := 40) rfl ?_
        refine W0.iconst (1 : Int32) (hb hby dLX_40) rfl (pc' := 41) rfl ?_
        by_cases hc6 : n = (1 : Int32)
        · refine W0.icmpYes (hb hby dLX_41) (XT.ii_eq_t hc6) (by decide) (pc' := 49) (by decide) ?_
          refine W0.iloadN (hb hby dLX_49) rfl (pc' := 50) rfl ?_
          refine W0.iloadN (hb hby dLX_50) rfl (pc' := 51) rfl ?_
          refine W0.isub (hb hby dLX_51) (pc' := 52) rfl ?_
          refine W0.callSP (hw _ (List.mem_of_getElem? (i := 54) rfl)) (hw _ (List.mem_of_getElem? (i := 55) rfl)) (hw _ (List.mem_of_getElem? (i := 2) rfl)) (hw _ (List.mem_of_getElem? (i := 56) rfl)) (by decide) (NM.bk (wd := 0) (rmSG l Z a0 hw (n - k) h0 n0 W0.n0h ) W0.2.2.2.1 (hw _ (List.mem_of_getElem? (i := 56) rfl)) (hw _ (List.mem_of_getElem? (i := 2) rfl)) (by decide) (by decide)) (hb hby dLX_52) (pc' := 55) rfl hml (argsL := [(.int (n - k))]) rfl (lenOf pd_89c469b3 rfl) rfl (Nat.le_of_ble_eq_true rfl) (by decide) (by decide) (fun _ _ _ q => pu_of q) ?_
          intro T7 L7 W7
          show Go p e below _ T7 (mkF m 55 #[.val (.ref xs), .val (.int n), .val (.ref ys), .val (.int k)] [(.int (sgF (n - k)))])
          exact W7.retI hret (hb hby dLX_55) (by decide) (by decide) ⟨congrArg (fun z => some (Value.int z)) (by rw [lexF, if_neg hc1, if_neg hc3, if_pos hc5, if_pos hc6]), rfl⟩
        · refine W0.icmpNo (hb hby dLX_41) (XT.ii_eq_f hc6) (pc' := 44) rfl ?_
          refine W0.iloadN (hb hby dLX_44) rfl (pc' := 45) rfl ?_
          refine W0.iconst (1 : Int32) (hb hby dLX_45) rfl (pc' := 46) rfl ?_
          by_cases hc8 : k = (1 : Int32)
          · refine W0.icmpNo (hb hby dLX_46) (XT.ii_ne_f hc8) (pc' := 49) rfl ?_
            refine W0.iloadN (hb hby dLX_49) rfl (pc' := 50) rfl ?_
            refine W0.iloadN (hb hby dLX_50) rfl (pc' := 51) rfl ?_
            refine W0.isub (hb hby dLX_51) (pc' := 52) rfl ?_
            refine W0.callSP (hw _ (List.mem_of_getElem? (i := 54) rfl)) (hw _ (List.mem_of_getElem? (i := 55) rfl)) (hw _ (List.mem_of_getElem? (i := 2) rfl)) (hw _ (List.mem_of_getElem? (i := 56) rfl)) (by decide) (NM.bk (wd := 0) (rmSG l Z a0 hw (n - k) h0 n0 W0.n0h ) W0.2.2.2.1 (hw _ (List.mem_of_getElem? (i := 56) rfl)) (hw _ (List.mem_of_getElem? (i := 2) rfl)) (by decide) (by decide)) (hb hby dLX_52) (pc' := 55) rfl hml (argsL := [(.int (n - k))]) rfl (lenOf pd_89c469b3 rfl) rfl (Nat.le_of_ble_eq_true rfl) (by decide) (by decide) (fun _ _ _ q => pu_of q) ?_
            intro T9 L9 W9
            show Go p e below _ T9 (mkF m 55 #[.val (.ref xs), .val (.int n), .val (.ref ys), .val (.int k)] [(.int (sgF (n - k)))])
            exact W9.retI hret (hb hby dLX_55) (by decide) (by decide) ⟨congrArg (fun z => some (Value.int z)) (by rw [lexF, if_neg hc1, if_neg hc3, if_pos hc5, if_neg hc6, if_pos hc8]), rfl⟩
          · refine W0.icmpYes (hb hby dLX_46) (XT.ii_ne_t hc8) (by decide) (pc' := 56) (by decide) ?_
            refine W0.aloadN (hb hby dLX_56) rfl rfl (pc' := 57) rfl ?_
            refine W0.iconst (1 : Int32) (hb hby dLX_57) rfl (pc' := 58) rfl ?_
            refine W0.iaload AX (.int x1) (hb hby dLX_58) (pc' := 59) rfl (by decide) rfl ?_
            refine W0.aloadN (hb hby dLX_59) rfl rfl (pc' := 60) rfl ?_
            refine W0.iconst (1 : Int32) (hb hby dLX_60) rfl (pc' := 61) rfl ?_
            refine W0.iaload AY (.int y1) (hb hby dLX_61) (pc' := 62) rfl (by decide) rfl ?_
            by_cases hc10 : x1 = y1
            · refine W0.icmpYes (hb hby dLX_62) (XT.ii_eq_t hc10) (by decide) (pc' := 80) (by decide) ?_
              refine W0.iloadN (hb hby dLX_80) rfl (pc' := 81) rfl ?_
              refine W0.iconst (2 : Int32) (hb hby dLX_81) rfl (pc' := 82) rfl ?_
              by_cases hc11 : n = (2 : Int32)
              · refine W0.icmpYes (hb hby dLX_82) (XT.ii_eq_t hc11) (by decide) (pc' := 90) (by decide) ?_
                refine W0.iloadN (hb hby dLX_90) rfl (pc' := 91) rfl ?_
                refine W0.iloadN (hb hby dLX_91) rfl (pc' := 92) rfl ?_
                refine W0.isub (hb hby dLX_92) (pc' := 93) rfl ?_
                refine W0.callSP (hw _ (List.mem_of_getElem? (i := 54) rfl)) (hw _ (List.mem_of_getElem? (i := 55) rfl)) (hw _ (List.mem_of_getElem? (i := 2) rfl)) (hw _ (List.mem_of_getElem? (i := 56) rfl)) (by decide) (NM.bk (wd := 0) (rmSG l Z a0 hw (n - k) h0 n0 W0.n0h ) W0.2.2.2.1 (hw _ (List.mem_of_getElem? (i := 56) rfl)) (hw _ (List.mem_of_getElem? (i := 2) rfl)) (by decide) (by decide)) (hb hby dLX_93) (pc' := 96) rfl hml (argsL := [(.int (n - k))]) rfl (lenOf pd_89c469b3 rfl) rfl (Nat.le_of_ble_eq_true rfl) (by decide) (by decide) (fun _ _ _ q => pu_of q) ?_
                intro T12 L12 W12
                show Go p e below _ T12 (mkF m 96 #[.val (.ref xs), .val (.int n), .val (.ref ys), .val (.int k)] [(.int (sgF (n - k)))])
                exact W12.retI hret (hb hby dLX_96) (by decide) (by decide) ⟨congrArg (fun z => some (Value.int z)) (by rw [lexF, if_neg hc1, if_neg hc3, if_pos hc5, if_neg hc6, if_neg hc8, if_pos hc10, if_pos hc11]), rfl⟩
              · refine W0.icmpNo (hb hby dLX_82) (XT.ii_eq_f hc11) (pc' := 85) rfl ?_
                refine W0.iloadN (hb hby dLX_85) rfl (pc' := 86) rfl ?_
                refine W0.iconst (2 : Int32) (hb hby dLX_86) rfl (pc' := 87) rfl ?_
                by_cases hc13 : k = (2 : Int32)
                · refine W0.icmpNo (hb hby dLX_87) (XT.ii_ne_f hc13) (pc' := 90) rfl ?_
                  refine W0.iloadN (hb hby dLX_90) rfl (pc' := 91) rfl ?_
                  refine W0.iloadN (hb hby dLX_91) rfl (pc' := 92) rfl ?_
                  refine W0.isub (hb hby dLX_92) (pc' := 93) rfl ?_
                  refine W0.callSP (hw _ (List.mem_of_getElem? (i := 54) rfl)) (hw _ (List.mem_of_getElem? (i := 55) rfl)) (hw _ (List.mem_of_getElem? (i := 2) rfl)) (hw _ (List.mem_of_getElem? (i := 56) rfl)) (by decide) (NM.bk (wd := 0) (rmSG l Z a0 hw (n - k) h0 n0 W0.n0h ) W0.2.2.2.1 (hw _ (List.mem_of_getElem? (i := 56) rfl)) (hw _ (List.mem_of_getElem? (i := 2) rfl)) (by decide) (by decide)) (hb hby dLX_93) (pc' := 96) rfl hml (argsL := [(.int (n - k))]) rfl (lenOf pd_89c469b3 rfl) rfl (Nat.le_of_ble_eq_true rfl) (by decide) (by decide) (fun _ _ _ q => pu_of q) ?_
                  intro T14 L14 W14
                  show Go p e below _ T14 (mkF m 96 #[.val (.ref xs), .val (.int n), .val (.ref ys), .val (.int k)] [(.int (sgF (n - k)))])
                  exact W14.retI hret (hb hby dLX_96) (by decide) (by decide) ⟨congrArg (fun z => some (Value.int z)) (by rw [lexF, if_neg hc1, if_neg hc3, if_pos hc5, if_neg hc6, if_neg hc8, if_pos hc10, if_neg hc11, if_pos hc13]), rfl⟩
                · refine W0.icmpYes (hb hby dLX_87) (XT.ii_ne_t hc13) (by decide) (pc' := 97) (by decide) ?_
                  refine W0.aloadN (hb hby dLX_97) rfl rfl (pc' := 98) rfl ?_
                  refine W0.iconst (2 : Int32) (hb hby dLX_98) rfl (pc' := 99) rfl ?_
                  refine W0.iaload AX (.int x2) (hb hby dLX_99) (pc' := 100) rfl (by decide) rfl ?_
                  refine W0.aloadN (hb hby dLX_100) rfl rfl (pc' := 101) rfl ?_
                  refine W0.iconst (2 : Int32) (hb hby dLX_101) rfl (pc' := 102) rfl ?_
                  refine W0.iaload AY (.int y2) (hb hby dLX_102) (pc' := 103) rfl (by decide) rfl ?_
                  by_cases hc15 : x2 = y2
                  · refine W0.icmpYes (hb hby dLX_103) (XT.ii_eq_t hc15) (by decide) (pc' := 121) (by decide) ?_
                    refine W0.iconst (0 : Int32) (hb hby dLX_121) rfl (pc' := 122) rfl ?_
                    exact W0.retI hret (hb hby dLX_122) (by decide) (by decide) ⟨congrArg (fun z => some (Value.int z)) (by rw [lexF, if_neg hc1, if_neg hc3, if_pos hc5, if_neg hc6, if_neg hc8, if_pos hc10, if_neg hc11, if_neg hc13, if_pos hc15]), rfl⟩
                  · refine W0.icmpNo (hb hby dLX_103) (XT.ii_eq_f hc15) (pc' := 106) rfl ?_
                    refine W0.aloadN (hb hby dLX_106) rfl rfl (pc' := 107) rfl ?_
                    refine W0.iconst (2 : Int32) (hb hby dLX_107) rfl (pc' := 108) rfl ?_
                    refine W0.iaload AX (.int x2) (hb hby dLX_108) (pc' := 109) rfl (by decide) rfl ?_
                    refine W0.aloadN (hb hby dLX_109) rfl rfl (pc' := 110) rfl ?_
                    refine W0.iconst (2 : Int32) (hb hby dLX_110) rfl (pc' := 111) rfl ?_
                    refine W0.iaload AY (.int y2) (hb hby dLX_111) (pc' := 112) rfl (by decide) rfl ?_
                    by_cases hc16 : x2 < y2
                    · refine W0.icmpNo (hb hby dLX_112) (XT.ii_ge_f hc16) (pc' := 115) rfl ?_
                      refine W0.iconst (-1 : Int32) (hb hby dLX_115) rfl (pc' := 116) rfl ?_
                      refine W0.goto (hb hby dLX_116) (by decide) (pc' := 120) (by decide) ?_
                      exact W0.retI hret (hb hby dLX_120) (by decide) (by decide) ⟨congrArg (fun z => some (Value.int z)) (by rw [lexF, if_neg hc1, if_neg hc3, if_pos hc5, if_neg hc6, if_neg hc8, if_pos hc10, if_neg hc11, if_neg hc13, if_neg hc15, if_pos hc16]), rfl⟩
                    · refine W0.icmpYes (hb hby dLX_112) (XT.ii_ge_t hc16) (by decide) (pc' := 119) (by decide) ?_
                      refine W0.iconst (1 : Int32) (hb hby dLX_119) rfl (pc' := 120) rfl ?_
                      exact W0.retI hret (hb hby dLX_120) (by decide) (by decide) ⟨congrArg (fun z => some (Value.int z)) (by rw [lexF, if_neg hc1, if_neg hc3, if_pos hc5, if_neg hc6, if_neg hc8, if_pos hc10, if_neg hc11, if_neg hc13, if_neg hc15, if_neg hc16]), rfl⟩
            · refine W0.icmpNo (hb hby dLX_62) (XT.ii_eq_f hc10) (pc' := 65) rfl ?_
              refine W0.aloadN (hb hby dLX_65) rfl rfl (pc' := 66) rfl ?_
              refine W0.iconst (1 : Int32) (hb hby dLX_66) rfl (pc' := 67) rfl ?_
              refine W0.iaload AX (.int x1) (hb hby dLX_67) (pc' := 68) rfl (by decide) rfl ?_
              refine W0.aloadN (hb hby dLX_68) rfl rfl (pc' := 69) rfl ?_
              refine W0.iconst (1 : Int32) (hb hby dLX_69) rfl (pc' := 70) rfl ?_
              refine W0.iaload AY (.int y1) (hb hby dLX_70) (pc' := 71) rfl (by decide) rfl ?_
              by_cases hc17 : x1 < y1
              · refine W0.icmpNo (hb hby dLX_71) (XT.ii_ge_f hc17) (pc' := 74) rfl ?_
                refine W0.iconst (-1 : Int32) (hb hby dLX_74) rfl (pc' := 75) rfl ?_
                refine W0.goto (hb hby dLX_75) (by decide) (pc' := 79) (by decide) ?_
                exact W0.retI hret (hb hby dLX_79) (by decide) (by decide) ⟨congrArg (fun z => some (Value.int z)) (by rw [lexF, if_neg hc1, if_neg hc3, if_pos hc5, if_neg hc6, if_neg hc8, if_neg hc10, if_pos hc17]), rfl⟩
              · refine W0.icmpYes (hb hby dLX_71) (XT.ii_ge_t hc17) (by decide) (pc' := 78) (by decide) ?_
                refine W0.iconst (1 : Int32) (hb hby dLX_78) rfl (pc' := 79) rfl ?_
                exact W0.retI hret (hb hby dLX_79) (by decide) (by decide) ⟨congrArg (fun z => some (Value.int z)) (by rw [lexF, if_neg hc1, if_neg hc3, if_pos hc5, if_neg hc6, if_neg hc8, if_neg hc10, if_neg hc17]), rfl⟩
      · refine W0.icmpNo (hb hby dLX_21) (XT.ii_eq_f hc5) (pc' := 24) rfl ?_
        refine W0.aloadN (hb hby dLX_24) rfl rfl (pc' := 25) rfl ?_
        refine W0.iconst (0 : Int32) (hb hby dLX_25) rfl (pc' := 26) rfl ?_
        refine W0.iaload AX (.int x0) (hb hby dLX_26) (pc' := 27) rfl (by decide) rfl ?_
        refine W0.aloadN (hb hby dLX_27) rfl rfl (pc' := 28) rfl ?_
        refine W0.iconst (0 : Int32) (hb hby dLX_28) rfl (pc' := 29) rfl ?_
        refine W0.iaload AY (.int y0) (hb hby dLX_29) (pc' := 30) rfl (by decide) rfl ?_
        by_cases hc18 : x0 < y0
        · refine W0.icmpNo (hb hby dLX_30) (XT.ii_ge_f hc18) (pc' := 33) rfl ?_
          refine W0.iconst (-1 : Int32) (hb hby dLX_33) rfl (pc' := 34) rfl ?_
          refine W0.goto (hb hby dLX_34) (by decide) (pc' := 38) (by decide) ?_
          exact W0.retI hret (hb hby dLX_38) (by decide) (by decide) ⟨congrArg (fun z => some (Value.int z)) (by rw [lexF, if_neg hc1, if_neg hc3, if_neg hc5, if_pos hc18]), rfl⟩
        · refine W0.icmpYes (hb hby dLX_30) (XT.ii_ge_t hc18) (by decide) (pc' := 37) (by decide) ?_
          refine W0.iconst (1 : Int32) (hb hby dLX_37) rfl (pc' := 38) rfl ?_
          exact W0.retI hret (hb hby dLX_38) (by decide) (by decide) ⟨congrArg (fun z => some (Value.int z)) (by rw [lexF, if_neg hc1, if_neg hc3, if_neg hc5, if_neg hc18]), rfl⟩
def s0F (p4 u0 r0 : Int32) : Int32 := (if ((XT.ushr p4 (4 : Int32)) &&& (1 : Int32)) = (0 : Int32) then r0 else u0)
theorem s0_chr {p4 u0 r0 : Int32} (h1 : ¬ u0 < 0 ∧ ¬ (65535 : Int32) < u0) (h2 : ¬ r0 < 0 ∧ ¬ (65535 : Int32) < r0) : ¬ s0F p4 u0 r0 < 0 ∧ ¬ (65535 : Int32) < s0F p4 u0 r0 := by
  rw [s0F]; split <;> assumption
def s1F (p4 u1 r1 : Int32) : Int32 := (if ((XT.ushr p4 (5 : Int32)) &&& (1 : Int32)) = (0 : Int32) then r1 else u1)
theorem s1_chr {p4 u1 r1 : Int32} (h1 : ¬ u1 < 0 ∧ ¬ (65535 : Int32) < u1) (h2 : ¬ r1 < 0 ∧ ¬ (65535 : Int32) < r1) : ¬ s1F p4 u1 r1 < 0 ∧ ¬ (65535 : Int32) < s1F p4 u1 r1 := by
  rw [s1F]; split <;> assumption
def s2F (p4 u2 r2 : Int32) : Int32 := (if ((XT.ushr p4 (6 : Int32)) &&& (1 : Int32)) = (0 : Int32) then r2 else u2)
theorem s2_chr {p4 u2 r2 : Int32} (h1 : ¬ u2 < 0 ∧ ¬ (65535 : Int32) < u2) (h2 : ¬ r2 < 0 ∧ ¬ (65535 : Int32) < r2) : ¬ s2F p4 u2 r2 < 0 ∧ ¬ (65535 : Int32) < s2F p4 u2 r2 := by
  rw [s2F]; split <;> assumption
--CUT plain
theorem and3 {n x : Int32} (h : n = (x &&& (3 : Int32))) : ∃ k : Nat, k < 4 ∧ n = Int32.ofNat k := by
  subst h
  have h1 := and_toInt x 3 (by decide)
  have h2 : (x.toBitVec.toNat &&& 3) ≤ 3 := Nat.and_le_right
  refine ⟨x.toBitVec.toNat &&& 3, by omega, ?_⟩
  apply Int32.toInt_inj.mp
  rw [ofNat_toInt (by omega)]; exact h1
def Dec (cs : List Int32) : Nat → List Int32 → Prop
  | i, [] => i = cs.length
  | i, x :: xs => i < cs.length ∧ cpoF cs i = x ∧ Dec cs (i + ccN x) xs
def lexL : List Int32 → List Int32 → Int32
  | [], [] => 0
  | [], _ :: _ => -1
  | _ :: _, [] => 1
  | x :: xs, y :: ys => if x = y then lexL xs ys else if x < y then -1 else 1
theorem sg_ic (a b : Int32) : sgF (icF a b) = icF a b := by
  rw [icF]; split
  · rfl
  · split <;> rfl
theorem Dec.le {cs : List Int32} : ∀ {xs : List Int32} {i : Nat}, Dec cs i xs → i ≤ cs.length
  | [], i, h => Nat.le_of_eq h
  | x :: xs, i, h => Nat.le_of_lt h.1
theorem ic_sub {n i m j : Nat} (hn : n ≤ 4000) (hm : m ≤ 4000) (hi : i ≤ n) (hj : j ≤ m) : icF (Int32.ofNat n - Int32.ofNat i) (Int32.ofNat m - Int32.ofNat j) = if n - i < m - j then -1 else if n - i = m - j then 0 else 1 := by
  rw [ofNat_sub hi, ofNat_sub hj, icF]
  simp only [ofNat_lt (show n - i < 2 ^ 31 by omega) (show m - j < 2 ^ 31 by omega)]
  by_cases a : n - i < m - j
  · simp only [if_pos a]
  · simp only [if_neg a]
    by_cases b : n - i = m - j
    · rw [if_pos (congrArg _ b), if_pos b]
    · rw [if_neg, if_neg b]
      intro q
      have q' := congrArg Int32.toInt q
      rw [ofNat_toInt (by omega), ofNat_toInt (by omega)] at q'
      omega
theorem cmp_stop {cs ds : List Int32} {i j : Nat} (h : ¬ i < cs.length) (hn : cs.length ≤ 4000) (hi : i ≤ 4001) : ∀ k, cmpL cs ds i j k = icF ((Int32.ofNat cs.length) - (Int32.ofNat i)) ((Int32.ofNat ds.length) - (Int32.ofNat j))
  | 0 => rfl
  | k + 1 => by rw [cmpL, if_neg]; rw [ofNat_lt (by omega) (by omega)]; exact h
theorem cmp_lex {cs ds : List Int32} (hn : cs.length ≤ 4000) (hm : ds.length ≤ 4000) : ∀ (xs : List Int32) (i j k : Nat) (ys : List Int32), Dec cs i xs → Dec ds j ys → xs.length ≤ k → sgF (cmpL cs ds i j k) = lexL xs ys
  | [], i, j, k, ys, h, g, _ => by
    have hi : i = cs.length := h
    have hj := Dec.le g
    rw [cmp_stop (by omega) hn (by omega), sg_ic, ic_sub hn hm (by omega) hj]
    cases ys with
    | nil => have q : j = ds.length := g; rw [if_neg (by omega), if_pos (by omega)]; rfl
    | cons y ys => have q := g.1; rw [if_pos (by omega)]; rfl
  | x :: xs, i, j, 0, ys, h, g, q => absurd q (by simp)
  | x :: xs, i, j, k + 1, ys, h, g, q => by
    obtain ⟨h1, h2, h3⟩ := h
    have hj := Dec.le g
    rw [cmpL, if_pos ((ofNat_lt (by omega) (by omega)).mpr h1)]
    cases ys with
    | nil =>
      have q : j = ds.length := g
      rw [if_neg (by rw [ofNat_lt (by omega) (by omega)]; omega), sg_ic, ic_sub hn hm (by omega) hj, if_neg (by omega), if_neg (by omega)]; rfl
    | cons y ys =>
      obtain ⟨g1, g2, g3⟩ := g
      rw [if_pos ((ofNat_lt (by omega) (by omega)).mpr g1), h2, g2, lexL]
      by_cases e : x = y
      · rw [if_pos e, if_pos e]
        exact cmp_lex hn hm xs _ _ k ys h3 g3 (Nat.le_of_succ_le_succ q)
      · rw [if_neg e, if_neg e, sg_ic, icF]
        by_cases f : x < y
        · rw [if_pos f, if_pos f]
        · rw [if_neg f, if_neg f, if_neg e]
theorem up1 (c : Int32) : ((56319 : Int32) < c) ↔ ¬ c < 56320 := by simp only [Int32.lt_iff_toInt_lt, Int32.reduceToInt]; omega
theorem up2 (c : Int32) : ((57343 : Int32) < c) ↔ ¬ c < 57344 := by simp only [Int32.lt_iff_toInt_lt, Int32.reduceToInt]; omega
theorem shl10 (x : Int32) : x <<< ((10 : Int32) &&& 31) = x * 1024 := by
  apply Int32.toBitVec_inj.mp
  apply BitVec.eq_of_toNat_eq
  show (x.toBitVec <<< (10#32)).toNat = (x.toBitVec * 1024#32).toNat
  simp only [BitVec.shiftLeft_eq', BitVec.toNat_shiftLeft, BitVec.toNat_mul, BitVec.toNat_ofNat, Nat.shiftLeft_eq, show 2 ^ (10 % 2 ^ 32) = 1024 from rfl]
theorem tc_lin (A r : Int32) : ((65536 : Int32) + (A - 56623104)) + (r - (56320 : Int32)) = A + r + (-56613888 : Int32) := by
  apply Int32.toInt_inj.mp
  simp only [Int32.toInt_add, Int32.toInt_sub, Int32.reduceToInt, Int.bmod_add_bmod, Int.add_bmod_bmod, Int.sub_bmod_bmod, Int.bmod_sub_bmod]
  congr 1
  omega
theorem tc_eq (q r : Int32) : ((65536 : Int32) + ((q - (55296 : Int32)) <<< ((10 : Int32) &&& 31))) + (r - (56320 : Int32)) = tcF q r := by
  rw [tcF, shl10, shl10, ← tc_lin, Int32.sub_mul]; rfl
theorem tc_big {q r : Int32} (a : ¬ q < 55296) (b : q < 56320) (c : ¬ r < 56320) (d : r < 57344) : ¬ tcF q r < 65536 := by
  rw [tcF, shl10]
  simp only [Int32.lt_iff_toInt_lt, Int32.reduceToInt] at *
  rw [Int32.toInt_add, Int32.toInt_add, Int32.toInt_mul]
  simp only [Int32.reduceToInt]
  rw [Int.bmod_eq_of_le (n := q.toInt * 1024) (by omega) (by omega)]
  rw [Int.bmod_eq_of_le (n := q.toInt * 1024 + r.toInt) (by omega) (by omega)]
  rw [Int.bmod_eq_of_le (by omega) (by omega)]
  omega
theorem cc1 {c : Int32} (h : ¬ c < 0 ∧ ¬ (65535 : Int32) < c) : ccN c = 1 := by
  rw [ccN, if_pos]
  have := h.2
  simp only [Int32.lt_iff_toInt_lt, Int32.reduceToInt] at *; omega
theorem cc2 {q r : Int32} (a : ¬ q < 55296) (b : q < 56320) (c : ¬ r < 56320) (d : r < 57344) : ccN (tcF q r) = 2 := by rw [ccN, if_neg (tc_big a b c d)]
theorem four {n : Int32} (hn : ∃ k : Nat, k < 4 ∧ n = Int32.ofNat k) : n = 0 ∨ n = 1 ∨ n = 2 ∨ n = 3 := by
  obtain ⟨k, hk, rfl⟩ := hn
  obtain rfl | rfl | rfl | rfl := (by omega : k = 0 ∨ k = 1 ∨ k = 2 ∨ k = 3) <;> decide
/-- a high sign at c, a low one at d -/
def Pair (c d : Int32) : Prop := ¬ c < 55296 ∧ c < 56320 ∧ ¬ d < 56320 ∧ d < 57344
theorem cpo_pair {cs : List Int32} {i : Nat} (h : Pair (cs.getD i 0) (cs.getD (i + 1) 0)) (hl : Int32.ofNat (i + 1) < Int32.ofNat cs.length) : cpoF cs i = tcF (cs.getD i 0) (cs.getD (i + 1) 0) := by
  obtain ⟨a, b, c, d⟩ := h
  rw [cpoF, hsF, lsF, if_neg a, if_pos b, if_neg c, if_pos d, if_pos hl]; rfl
theorem cpo_last {cs : List Int32} {i : Nat} (hl : ¬ Int32.ofNat (i + 1) < Int32.ofNat cs.length) : cpoF cs i = cs.getD i 0 := by
  rw [cpoF, if_neg hl]; split <;> rfl
theorem cpo_no {cs : List Int32} {i : Nat} (h : ¬ Pair (cs.getD i 0) (cs.getD (i + 1) 0)) : cpoF cs i = cs.getD i 0 := by
  rw [cpoF, hsF, lsF]
  generalize cs.getD i 0 = x at *
  generalize cs.getD (i + 1) 0 = y at *
  by_cases a : x < 55296
  · simp [a]
  by_cases b : x < 56320
  · by_cases c : y < 56320
    · simp [a, b, c]
    by_cases d : y < 57344
    · exact absurd ⟨a, b, c, d⟩ h
    simp [a, b, c, d]
  simp [a, b]
theorem pa0 (n c0 c1 c2 : Int32) (h : (1 : Int32) < n) : (pa0F n c0 c1 c2 = 0) ↔ ¬ Pair c0 c1 := by
  rw [pa0F, if_pos h, Pair]; simp only [up1, up2]
  by_cases a : c0 < 55296 <;> by_cases b : c0 < 56320 <;> by_cases c : c1 < 56320 <;> by_cases d : c1 < 57344 <;> simp [a, b, c, d]
theorem pa1 (n c0 c1 c2 : Int32) (h : (2 : Int32) < n) : (pa1F n c0 c1 c2 = 0) ↔ ¬ Pair c1 c2 := by
  rw [pa1F, if_pos h, Pair]; simp only [up1, up2]
  by_cases a : c1 < 55296 <;> by_cases b : c1 < 56320 <;> by_cases c : c2 < 56320 <;> by_cases d : c2 < 57344 <;> simp [a, b, c, d]
theorem shape {n c0 c1 c2 : Int32} (hn : ∃ k : Nat, k < 4 ∧ n = Int32.ofNat k) (A0 : ¬ c0 < 0 ∧ ¬ (65535 : Int32) < c0) (A1 : ¬ c1 < 0 ∧ ¬ (65535 : Int32) < c1) (A2 : ¬ c2 < 0 ∧ ¬ (65535 : Int32) < c2) :
    ∃ xs : List Int32, Dec (strF n c0 c1 c2) 0 xs ∧ decF n c0 c1 c2 = (Int32.ofNat xs.length, xs.getD 0 0, xs.getD 1 0, xs.getD 2 0) ∧ xs.length ≤ (strF n c0 c1 c2).length ∧ (strF n c0 c1 c2).length ≤ 3 := by
  rcases four hn with rfl | rfl | rfl | rfl
  · exact ⟨[], by simp [strF, Dec], by simp +decide [decF], by simp, by simp [strF]⟩
  · have s : strF 1 c0 c1 c2 = [c0] := by simp +decide [strF]
    rw [s]
    have p0 : pa0F 1 c0 c1 c2 = 0 := by simp +decide [pa0F]
    refine ⟨[c0], ⟨by simp, cpo_last (by show ¬ Int32.ofNat 1 < Int32.ofNat 1; decide), ?_⟩, ?_, by simp, by simp⟩
    · rw [cc1 A0]; rfl
    · simp +decide [decF, p0, ca0F]
  · have s : strF 2 c0 c1 c2 = [c0, c1] := by simp +decide [strF]
    rw [s]
    have p1 : pa1F 2 c0 c1 c2 = 0 := by simp +decide [pa1F]
    by_cases P : Pair c0 c1
    · have p0 : ¬ pa0F 2 c0 c1 c2 = 0 := fun q => (pa0 2 c0 c1 c2 (by decide)).mp q P
      refine ⟨[tcF c0 c1], ⟨by simp, cpo_pair P (by show Int32.ofNat 1 < Int32.ofNat 2; decide), ?_⟩, ?_, by simp, by simp⟩
      · rw [cc2 P.1 P.2.1 P.2.2.1 P.2.2.2]; rfl
      · simp +decide [decF, p0, ca0F, tc_eq]
    · have p0 : pa0F 2 c0 c1 c2 = 0 := (pa0 2 c0 c1 c2 (by decide)).mpr P
      refine ⟨[c0, c1], ⟨by simp, cpo_no P, ?_⟩, ?_, by simp, by simp⟩
      · rw [cc1 A0]; refine ⟨by simp, cpo_last (by show ¬ Int32.ofNat 2 < Int32.ofNat 2; decide), ?_⟩
        show Dec _ (0 + 1 + ccN c1) []
        rw [cc1 A1]; rfl
      · simp +decide [decF, p0, p1, ca0F, ca1F]
  · have s : strF 3 c0 c1 c2 = [c0, c1, c2] := by simp +decide [strF]
    rw [s]
    by_cases P : Pair c0 c1
    · have p0 : ¬ pa0F 3 c0 c1 c2 = 0 := fun q => (pa0 3 c0 c1 c2 (by decide)).mp q P
      refine ⟨[tcF c0 c1, c2], ⟨by simp, cpo_pair P (by show Int32.ofNat 1 < Int32.ofNat 3; decide), ?_⟩, ?_, by simp, by simp⟩
      · rw [cc2 P.1 P.2.1 P.2.2.1 P.2.2.2]; refine ⟨by simp, cpo_last (by show ¬ Int32.ofNat 3 < Int32.ofNat 3; decide), ?_⟩
        show Dec _ (0 + 2 + ccN c2) []
        rw [cc1 A2]; rfl
      · simp +decide [decF, p0, ca0F, ca2F, tc_eq]
    · have p0 : pa0F 3 c0 c1 c2 = 0 := (pa0 3 c0 c1 c2 (by decide)).mpr P
      by_cases Q : Pair c1 c2
      · have p1 : ¬ pa1F 3 c0 c1 c2 = 0 := fun q => (pa1 3 c0 c1 c2 (by decide)).mp q Q
        refine ⟨[c0, tcF c1 c2], ⟨by simp, cpo_no P, ?_⟩, ?_, by simp, by simp⟩
        · rw [cc1 A0]; refine ⟨by simp, cpo_pair Q (by show Int32.ofNat 2 < Int32.ofNat 3; decide), ?_⟩
          show Dec _ (0 + 1 + ccN (tcF c1 c2)) []
          rw [cc2 Q.1 Q.2.1 Q.2.2.1 Q.2.2.2]; rfl
        · simp +decide [decF, p0, p1, ca0F, ca1F, tc_eq]
      · have p1 : pa1F 3 c0 c1 c2 = 0 := (pa1 3 c0 c1 c2 (by decide)).mpr Q
        refine ⟨[c0, c1, c2], ⟨by simp, cpo_no P, ?_⟩, ?_, by simp, by simp⟩
        · rw [cc1 A0]; refine ⟨by simp, cpo_no Q, ?_⟩
          show Dec _ (0 + 1 + ccN c1) [c2]
          rw [cc1 A1]; refine ⟨by simp, cpo_last (by show ¬ Int32.ofNat 3 < Int32.ofNat 3; decide), ?_⟩
          show Dec _ (0 + 1 + 1 + ccN c2) []
          rw [cc1 A2]; rfl
        · simp +decide [decF, p0, p1, ca0F, ca1F, ca2F]
theorem lex_eq : ∀ (xs ys : List Int32), xs.length ≤ 3 → ys.length ≤ 3 → lexL xs ys = lexF (Int32.ofNat xs.length) (Int32.ofNat ys.length) (xs.getD 0 0) (xs.getD 1 0) (xs.getD 2 0) (ys.getD 0 0) (ys.getD 1 0) (ys.getD 2 0) := by
  intro xs ys hx hy
  match xs, hx, ys, hy with
  | [], _, [], _ => decide
  | [], _, [a], _ => simp +decide [lexL, lexF, sgF]
  | [], _, [a, b], _ => simp +decide [lexL, lexF, sgF]
  | [], _, [a, b, c], _ => simp +decide [lexL, lexF, sgF]
  | [x], _, [], _ => simp +decide [lexL, lexF, sgF]
  | [x, y], _, [], _ => simp +decide [lexL, lexF, sgF]
  | [x, y, z], _, [], _ => simp +decide [lexL, lexF, sgF]
  | [x], _, [a], _ => simp +decide [lexL, lexF, sgF]
  | [x], _, [a, b], _ => simp +decide [lexL, lexF, sgF]
  | [x], _, [a, b, c], _ => simp +decide [lexL, lexF, sgF]
  | [x, y], _, [a], _ => simp +decide [lexL, lexF, sgF]
  | [x, y], _, [a, b], _ => simp +decide [lexL, lexF, sgF]
  | [x, y], _, [a, b, c], _ => simp +decide [lexL, lexF, sgF]
  | [x, y, z], _, [a], _ => simp +decide [lexL, lexF, sgF]
  | [x, y, z], _, [a, b], _ => simp +decide [lexL, lexF, sgF]
  | [x, y, z], _, [a, b, c], _ => simp +decide [lexL, lexF, sgF]
theorem law_eq {n k c0 c1 c2 e0 e1 e2 : Int32} (hn : ∃ z : Nat, z < 4 ∧ n = Int32.ofNat z) (hk : ∃ z : Nat, z < 4 ∧ k = Int32.ofNat z) (A0 : ¬ c0 < 0 ∧ ¬ (65535 : Int32) < c0) (A1 : ¬ c1 < 0 ∧ ¬ (65535 : Int32) < c1) (A2 : ¬ c2 < 0 ∧ ¬ (65535 : Int32) < c2) (B0 : ¬ e0 < 0 ∧ ¬ (65535 : Int32) < e0) (B1 : ¬ e1 < 0 ∧ ¬ (65535 : Int32) < e1) (B2 : ¬ e2 < 0 ∧ ¬ (65535 : Int32) < e2) :
    sgF (cmpL (strF n c0 c1 c2) (strF k e0 e1 e2) 0 0 (strF n c0 c1 c2).length) = lexF (decF n c0 c1 c2).1 (decF k e0 e1 e2).1 (decF n c0 c1 c2).2.1 (decF n c0 c1 c2).2.2.1 (decF n c0 c1 c2).2.2.2 (decF k e0 e1 e2).2.1 (decF k e0 e1 e2).2.2.1 (decF k e0 e1 e2).2.2.2 := by
  obtain ⟨xs, x1, x2, x3, x4⟩ := shape hn A0 A1 A2
  obtain ⟨ys, y1, y2, y3, y4⟩ := shape hk B0 B1 B2
  rw [cmp_lex (by omega) (by omega) xs 0 0 _ ys x1 y1 x3, x2, y2]
  exact lex_eq xs ys (by omega) (by omega)
--CUT law
theorem pd_840473bb : parseMethodDescriptor "(III)C" = some ⟨[.int, .int, .int], some .char⟩ := by decide +kernel
theorem pd_e0795182 : parseMethodDescriptor "([CI)Ljava/lang/String;" = some ⟨[(.array .char), .int], some (.object "java/lang/String")⟩ := by decide +kernel
theorem pd_b8b7692d : parseMethodDescriptor "([CI[I)I" = some ⟨[(.array .char), .int, (.array .int)], some .int⟩ := by decide +kernel
theorem pd_9bf61908 : parseMethodDescriptor "([II[II)I" = some ⟨[(.array .int), .int, (.array .int), .int], some .int⟩ := by decide +kernel
theorem pd_dafa8925 : parseMethodDescriptor "(Ljava/lang/String;Ljava/lang/String;)I" = some ⟨[(.object "java/lang/String"), (.object "java/lang/String")], some .int⟩ := by decide +kernel
theorem pn_Law : plainFor (⟨"com/example/frugal_ranker/frugalranker/CodePointsComparePinLaw", "law", "(IIII)Z"⟩ : MethodName) = true := by first | exact plainFor_of_name (by first | (simp [plainName, overriddenIn]; done) | decide +kernel) | decide +kernel
set_option maxRecDepth 65536 in
set_option maxHeartbeats 40000000 in
theorem rmLaw (l : Launch) (Z : State) (a0 : Array Value) (hw : ∀ d ∈ tables_1, d.before a0 Z = true) (hEL : EW Z a0 consts_1) (p1 p2 p3 p4 zc : Int32) (fm : Value) (h0 : Heap) (n0 : Nat) (Z0 : n0 ≤ h0.size)  (SC : Sta Z h0 "java/lang/String" "COMPACT_STRINGS" "Z" (.int zc)) (hz : ¬ zc = 0) (SF : Sta Z h0 "jdk/internal/util/Preconditions" "SIOOBE_FORMATTER" "Ljava/util/function/BiFunction;" fm) (rfm : fm.isRef = true) (SA1 : Sta Z h0 "java/lang/StringUTF16" "$assertionsDisabled" "Z" (.int (1 : Int32))) (SA2 : Sta Z h0 "java/lang/StringUTF16" "HI_BYTE_SHIFT" "I" (.int (0 : Int32))) (SA3 : Sta Z h0 "java/lang/StringUTF16" "LO_BYTE_SHIFT" "I" (.int (8 : Int32))) :
    WM l x code maxLocals ret tables_1 room_1 Z consts_1 n0 #[(.int p1), (.int p2), (.int p3), (.int p4)] h0 [] (fun v h => v = some (.int 1) ∧ True) := by
  refine WM.walk (Ls := #[.val (.int p1), .val (.int p2), .val (.int p3), .val (.int p4), .unset, .unset, .unset, .unset, .unset, .unset, .unset, .unset, .unset, .unset, .unset, .unset, .unset, .unset, .unset, .unset, .unset, .unset]) pn_Law Z0 (fun m => by first | (simp [entryFrame, mkF, argsToLocals, Value.category, maxLocals]; done) | rfl) ?_
  intro p e s m below meth c s₁ hby hml hret hnm W0
  refine W0.1.iloadN (hb hby at_0) rfl (pc' := 1) rfl ?_
  refine W0.1.iconst (3 : Int32) (hb hby at_1) rfl (pc' := 2) rfl ?_
  refine W0.1.iand (hb hby at_2) (pc' := 3) rfl ?_
  refine lets (P := fun z => Go _ _ _ _ _ (mkF m 3 #[.val (.int p1), .val (.int p2), .val (.int p3), .val (.int p4), .unset, .unset, .unset, .unset, .unset, .unset, .unset, .unset, .unset, .unset, .unset, .unset, .unset, .unset, .unset, .unset, .unset, .unset] [(.int z)])) (p4 &&& (3 : Int32)) ?_
  intro nA hnA
  refine W0.1.istore (Ls' := #[.val (.int p1), .val (.int p2), .val (.int p3), .val (.int p4), .val (.int nA), .unset, .unset, .unset, .unset, .unset, .unset, .unset, .unset, .unset, .unset, .unset, .unset, .unset, .unset, .unset, .unset, .unset]) (hb hby at_3) rfl (pc' := 5) rfl ?_
  refine W0.1.iloadN (hb hby at_5) rfl (pc' := 6) rfl ?_
  refine W0.1.iconst (2 : Int32) (hb hby at_6) rfl (pc' := 7) rfl ?_
  refine W0.1.iushr (hb hby at_7) (pc' := 8) rfl ?_
  refine W0.1.iconst (3 : Int32) (hb hby at_8) rfl (pc' := 9) rfl ?_
  refine W0.1.iand (hb hby at_9) (pc' := 10) rfl ?_
  refine lets (P := fun z => Go _ _ _ _ _ (mkF m 10 #[.val (.int p1), .val (.int p2), .val (.int p3), .val (.int p4), .val (.int nA), .unset, .unset, .unset, .unset, .unset, .unset, .unset, .unset, .unset, .unset, .unset, .unset, .unset, .unset, .unset, .unset, .unset] [(.int z)])) ((XT.ushr p4 (2 : Int32)) &&& (3 : Int32)) ?_
  intro nB hnB
  refine W0.1.istore (Ls' := #[.val (.int p1), .val (.int p2), .val (.int p3), .val (.int p4), .val (.int nA), .val (.int nB), .unset, .unset, .unset, .unset, .unset, .unset, .unset, .unset, .unset, .unset, .unset, .unset, .unset, .unset, .unset, .unset]) (hb hby at_10) rfl (pc' := 12) rfl ?_
  refine W0.1.iloadN (hb hby at_12) rfl (pc' := 13) rfl ?_
  refine W0.1.iloadN (hb hby at_13) rfl (pc' := 14) rfl ?_
  refine W0.1.bipush (7 : Int32) (hb hby at_14) rfl (pc' := 16) rfl ?_
  refine W0.1.callSP (hw _ (List.mem_of_getElem? (i := 0) rfl)) (hw _ (List.mem_of_getElem? (i := 1) rfl)) (hw _ (List.mem_of_getElem? (i := 2) rfl)) (hw _ (List.mem_of_getElem? (i := 3) rfl)) (by decide) (NM.bk (wd := 0) (rmDR l Z a0 hw p1 p4 (7 : Int32) h0 n0 W0.1.n0h ) W0.1.2.2.2.1 (hw _ (List.mem_of_getElem? (i := 3) rfl)) (hw _ (List.mem_of_getElem? (i := 2) rfl)) (by decide) (by decide)) (hb hby at_16) (pc' := 19) rfl hml (argsL := [(.int p1), (.int p4), (.int (7 : Int32))]) rfl (lenOf pd_840473bb rfl) rfl (Nat.le_of_ble_eq_true rfl) (by decide) (by decide) (fun _ _ _ q => pu_of q) ?_
  intro T1 L1 N1
  have W1 := W0.same N1
  show Go p e below _ T1 (mkF m 19 #[.val (.int p1), .val (.int p2), .val (.int p3), .val (.int p4), .val (.int nA), .val (.int nB), .unset, .unset, .unset, .unset, .unset, .unset, .unset, .unset, .unset, .unset, .unset, .unset, .unset, .unset, .unset, .unset] [(.int (drF p1 p4 (7 : Int32)))])
  refine lets (P := fun z => Go _ _ _ _ _ (mkF m 19 #[.val (.int p1), .val (.int p2), .val (.int p3), .val (.int p4), .val (.int nA), .val (.int nB), .unset, .unset, .unset, .unset, .unset, .unset, .unset, .unset, .unset, .unset, .unset, .unset, .unset, .unset, .unset, .unset] [(.int z)])) (drF p1 p4 (7 : Int32)) ?_
  intro u0 hu0
  refine W1.1.istore (Ls' := #[.val (.int p1), .val (.int p2), .val (.int p3), .val (.int p4), .val (.int nA), .val (.int nB), .val (.int u0), .unset, .unset, .unset, .unset, .unset, .unset, .unset, .unset, .unset, .unset, .unset, .unset, .unset, .unset, .unset]) (hb hby at_19) rfl (pc' := 21) rfl ?_
  refine W1.1.iloadN (hb hby at_21) rfl (pc' := 22) rfl ?_
  refine W1.1.bipush (16 : Int32) (hb hby at_22) rfl (pc' := 24) rfl ?_
  refine W1.1.iushr (hb hby at_24) (pc' := 25) rfl ?_
  refine W1.1.iloadN (hb hby at_25) rfl (pc' := 26) rfl ?_
  refine W1.1.bipush (8 : Int32) (hb hby at_26) rfl (pc' := 28) rfl ?_
  refine W1.1.callSP (hw _ (List.mem_of_getElem? (i := 0) rfl)) (hw _ (List.mem_of_getElem? (i := 1) rfl)) (hw _ (List.mem_of_getElem? (i := 2) rfl)) (hw _ (List.mem_of_getElem? (i := 3) rfl)) (by decide) (NM.bk (wd := 0) (rmDR l Z a0 hw (XT.ushr p1 (16 : Int32)) p4 (8 : Int32) h0 n0 W1.1.n0h ) W1.1.2.2.2.1 (hw _ (List.mem_of_getElem? (i := 3) rfl)) (hw _ (List.mem_of_getElem? (i := 2) rfl)) (by decide) (by decide)) (hb hby at_28) (pc' := 31) rfl hml (argsL := [(.int (XT.ushr p1 (16 : Int32))), (.int p4), (.int (8 : Int32))]) rfl (lenOf pd_840473bb rfl) rfl (Nat.le_of_ble_eq_true rfl) (by decide) (by decide) (fun _ _ _ q => pu_of q) ?_
  intro T2 L2 N2
  have W2 := W1.same N2
  show Go p e below _ T2 (mkF m 31 #[.val (.int p1), .val (.int p2), .val (.int p3), .val (.int p4), .val (.int nA), .val (.int nB), .val (.int u0), .unset, .unset, .unset, .unset, .unset, .unset, .unset, .unset, .unset, .unset, .unset, .unset, .unset, .unset, .unset] [(.int (drF (XT.ushr p1 (16 : Int32)) p4 (8 : Int32)))])
  refine lets (P := fun z => Go _ _ _ _ _ (mkF m 31 #[.val (.int p1), .val (.int p2), .val (.int p3), .val (.int p4), .val (.int nA), .val (.int nB), .val (.int u0), .unset, .unset, .unset, .unset, .unset, .unset, .unset, .unset, .unset, .unset, .unset, .unset, .unset, .unset, .unset] [(.int z)])) (drF (XT.ushr p1 (16 : Int32)) p4 (8 : Int32)) ?_
  intro u1 hu1
  refine W2.1.istore (Ls' := #[.val (.int p1), .val (.int p2), .val (.int p3), .val (.int p4), .val (.int nA), .val (.int nB), .val (.int u0), .val (.int u1), .unset, .unset, .unset, .unset, .unset, .unset, .unset, .unset, .unset, .unset, .unset, .unset, .unset, .unset]) (hb hby at_31) rfl (pc' := 33) rfl ?_
  refine W2.1.iloadN (hb hby at_33) rfl (pc' := 34) rfl ?_
  refine W2.1.iloadN (hb hby at_34) rfl (pc' := 35) rfl ?_
  refine W2.1.bipush (9 : Int32) (hb hby at_35) rfl (pc' := 37) rfl ?_
  refine W2.1.callSP (hw _ (List.mem_of_getElem? (i := 0) rfl)) (hw _ (List.mem_of_getElem? (i := 1) rfl)) (hw _ (List.mem_of_getElem? (i := 2) rfl)) (hw _ (List.mem_of_getElem? (i := 3) rfl)) (by decide) (NM.bk (wd := 0) (rmDR l Z a0 hw p2 p4 (9 : Int32) h0 n0 W2.1.n0h ) W2.1.2.2.2.1 (hw _ (List.mem_of_getElem? (i := 3) rfl)) (hw _ (List.mem_of_getElem? (i := 2) rfl)) (by decide) (by decide)) (hb hby at_37) (pc' := 40) rfl hml (argsL := [(.int p2), (.int p4), (.int (9 : Int32))]) rfl (lenOf pd_840473bb rfl) rfl (Nat.le_of_ble_eq_true rfl) (by decide) (by decide) (fun _ _ _ q => pu_of q) ?_
  intro T3 L3 N3
  have W3 := W2.same N3
  show Go p e below _ T3 (mkF m 40 #[.val (.int p1), .val (.int p2), .val (.int p3), .val (.int p4), .val (.int nA), .val (.int nB), .val (.int u0), .val (.int u1), .unset, .unset, .unset, .unset, .unset, .unset, .unset, .unset, .unset, .unset, .unset, .unset, .unset, .unset] [(.int (drF p2 p4 (9 : Int32)))])
  refine lets (P := fun z => Go _ _ _ _ _ (mkF m 40 #[.val (.int p1), .val (.int p2), .val (.int p3), .val (.int p4), .val (.int nA), .val (.int nB), .val (.int u0), .val (.int u1), .unset, .unset, .unset, .unset, .unset, .unset, .unset, .unset, .unset, .unset, .unset, .unset, .unset, .unset] [(.int z)])) (drF p2 p4 (9 : Int32)) ?_
  intro u2 hu2
  refine W3.1.istore (Ls' := #[.val (.int p1), .val (.int p2), .val (.int p3), .val (.int p4), .val (.int nA), .val (.int nB), .val (.int u0), .val (.int u1), .val (.int u2), .unset, .unset, .unset, .unset, .unset, .unset, .unset, .unset, .unset, .unset, .unset, .unset, .unset]) (hb hby at_40) rfl (pc' := 42) rfl ?_
  refine W3.1.iloadN (hb hby at_42) rfl (pc' := 43) rfl ?_
  refine W3.1.bipush (16 : Int32) (hb hby at_43) rfl (pc' := 45) rfl ?_
  refine W3.1.iushr (hb hby at_45) (pc' := 46) rfl ?_
  refine W3.1.iloadN (hb hby at_46) rfl (pc' := 47) rfl ?_
  refine W3.1.bipush (10 : Int32) (hb hby at_47) rfl (pc' := 49) rfl ?_
  refine W3.1.callSP (hw _ (List.mem_of_getElem? (i := 0) rfl)) (hw _ (List.mem_of_getElem? (i := 1) rfl)) (hw _ (List.mem_of_getElem? (i := 2) rfl)) (hw _ (List.mem_of_getElem? (i := 3) rfl)) (by decide) (NM.bk (wd := 0) (rmDR l Z a0 hw (XT.ushr p2 (16 : Int32)) p4 (10 : Int32) h0 n0 W3.1.n0h ) W3.1.2.2.2.1 (hw _ (List.mem_of_getElem? (i := 3) rfl)) (hw _ (List.mem_of_getElem? (i := 2) rfl)) (by decide) (by decide)) (hb hby at_49) (pc' := 52) rfl hml (argsL := [(.int (XT.ushr p2 (16 : Int32))), (.int p4), (.int (10 : Int32))]) rfl (lenOf pd_840473bb rfl) rfl (Nat.le_of_ble_eq_true rfl) (by decide) (by decide) (fun _ _ _ q => pu_of q) ?_
  intro T4 L4 N4
  have W4 := W3.same N4
  show Go p e below _ T4 (mkF m 52 #[.val (.int p1), .val (.int p2), .val (.int p3), .val (.int p4), .val (.int nA), .val (.int nB), .val (.int u0), .val (.int u1), .val (.int u2), .unset, .unset, .unset, .unset, .unset, .unset, .unset, .unset, .unset, .unset, .unset, .unset, .unset] [(.int (drF (XT.ushr p2 (16 : Int32)) p4 (10 : Int32)))])
  refine lets (P := fun z => Go _ _ _ _ _ (mkF m 52 #[.val (.int p1), .val (.int p2), .val (.int p3), .val (.int p4), .val (.int nA), .val (.int nB), .val (.int u0), .val (.int u1), .val (.int u2), .unset, .unset, .unset, .unset, .unset, .unset, .unset, .unset, .unset, .unset, .unset, .unset, .unset] [(.int z)])) (drF (XT.ushr p2 (16 : Int32)) p4 (10 : Int32)) ?_
  intro r0 hr0
  refine W4.1.istore (Ls' := #[.val (.int p1), .val (.int p2), .val (.int p3), .val (.int p4), .val (.int nA), .val (.int nB), .val (.int u0), .val (.int u1), .val (.int u2), .val (.int r0), .unset, .unset, .unset, .unset, .unset, .unset, .unset, .unset, .unset, .unset, .unset, .unset]) (hb hby at_52) rfl (pc' := 54) rfl ?_
  refine W4.1.iloadN (hb hby at_54) rfl (pc' := 55) rfl ?_
  refine W4.1.iloadN (hb hby at_55) rfl (pc' := 56) rfl ?_
  refine W4.1.bipush (11 : Int32) (hb hby at_56) rfl (pc' := 58) rfl ?_
  refine W4.1.callSP (hw _ (List.mem_of_getElem? (i := 0) rfl)) (hw _ (List.mem_of_getElem? (i := 1) rfl)) (hw _ (List.mem_of_getElem? (i := 2) rfl)) (hw _ (List.mem_of_getElem? (i := 3) rfl)) (by decide) (NM.bk (wd := 0) (rmDR l Z a0 hw p3 p4 (11 : Int32) h0 n0 W4.1.n0h ) W4.1.2.2.2.1 (hw _ (List.mem_of_getElem? (i := 3) rfl)) (hw _ (List.mem_of_getElem? (i := 2) rfl)) (by decide) (by decide)) (hb hby at_58) (pc' := 61) rfl hml (argsL := [(.int p3), (.int p4), (.int (11 : Int32))]) rfl (lenOf pd_840473bb rfl) rfl (Nat.le_of_ble_eq_true rfl) (by decide) (by decide) (fun _ _ _ q => pu_of q) ?_
  intro T5 L5 N5
  have W5 := W4.same N5
  show Go p e below _ T5 (mkF m 61 #[.val (.int p1), .val (.int p2), .val (.int p3), .val (.int p4), .val (.int nA), .val (.int nB), .val (.int u0), .val (.int u1), .val (.int u2), .val (.int r0), .unset, .unset, .unset, .unset, .unset, .unset, .unset, .unset, .unset, .unset, .unset, .unset] [(.int (drF p3 p4 (11 : Int32)))])
  refine lets (P := fun z => Go _ _ _ _ _ (mkF m 61 #[.val (.int p1), .val (.int p2), .val (.int p3), .val (.int p4), .val (.int nA), .val (.int nB), .val (.int u0), .val (.int u1), .val (.int u2), .val (.int r0), .unset, .unset, .unset, .unset, .unset, .unset, .unset, .unset, .unset, .unset, .unset, .unset] [(.int z)])) (drF p3 p4 (11 : Int32)) ?_
  intro r1 hr1
  refine W5.1.istore (Ls' := #[.val (.int p1), .val (.int p2), .val (.int p3), .val (.int p4), .val (.int nA), .val (.int nB), .val (.int u0), .val (.int u1), .val (.int u2), .val (.int r0), .val (.int r1), .unset, .unset, .unset, .unset, .unset, .unset, .unset, .unset, .unset, .unset, .unset]) (hb hby at_61) rfl (pc' := 63) rfl ?_
  refine W5.1.iloadN (hb hby at_63) rfl (pc' := 64) rfl ?_
  refine W5.1.bipush (16 : Int32) (hb hby at_64) rfl (pc' := 66) rfl ?_
  refine W5.1.iushr (hb hby at_66) (pc' := 67) rfl ?_
  refine W5.1.iloadN (hb hby at_67) rfl (pc' := 68) rfl ?_
  refine W5.1.bipush (12 : Int32) (hb hby at_68) rfl (pc' := 70) rfl ?_
  refine W5.1.callSP (hw _ (List.mem_of_getElem? (i := 0) rfl)) (hw _ (List.mem_of_getElem? (i := 1) rfl)) (hw _ (List.mem_of_getElem? (i := 2) rfl)) (hw _ (List.mem_of_getElem? (i := 3) rfl)) (by decide) (NM.bk (wd := 0) (rmDR l Z a0 hw (XT.ushr p3 (16 : Int32)) p4 (12 : Int32) h0 n0 W5.1.n0h ) W5.1.2.2.2.1 (hw _ (List.mem_of_getElem? (i := 3) rfl)) (hw _ (List.mem_of_getElem? (i := 2) rfl)) (by decide) (by decide)) (hb hby at_70) (pc' := 73) rfl hml (argsL := [(.int (XT.ushr p3 (16 : Int32))), (.int p4), (.int (12 : Int32))]) rfl (lenOf pd_840473bb rfl) rfl (Nat.le_of_ble_eq_true rfl) (by decide) (by decide) (fun _ _ _ q => pu_of q) ?_
  intro T6 L6 N6
  have W6 := W5.same N6
  show Go p e below _ T6 (mkF m 73 #[.val (.int p1), .val (.int p2), .val (.int p3), .val (.int p4), .val (.int nA), .val (.int nB), .val (.int u0), .val (.int u1), .val (.int u2), .val (.int r0), .val (.int r1), .unset, .unset, .unset, .unset, .unset, .unset, .unset, .unset, .unset, .unset, .unset] [(.int (drF (XT.ushr p3 (16 : Int32)) p4 (12 : Int32)))])
  refine lets (P := fun z => Go _ _ _ _ _ (mkF m 73 #[.val (.int p1), .val (.int p2), .val (.int p3), .val (.int p4), .val (.int nA), .val (.int nB), .val (.int u0), .val (.int u1), .val (.int u2), .val (.int r0), .val (.int r1), .unset, .unset, .unset, .unset, .unset, .unset, .unset, .unset, .unset, .unset, .unset] [(.int z)])) (drF (XT.ushr p3 (16 : Int32)) p4 (12 : Int32)) ?_
  intro r2 hr2
  refine W6.1.istore (Ls' := #[.val (.int p1), .val (.int p2), .val (.int p3), .val (.int p4), .val (.int nA), .val (.int nB), .val (.int u0), .val (.int u1), .val (.int u2), .val (.int r0), .val (.int r1), .val (.int r2), .unset, .unset, .unset, .unset, .unset, .unset, .unset, .unset, .unset, .unset]) (hb hby at_73) rfl (pc' := 75) rfl ?_
  suffices kk7 : ∀ (T' : State) (L' : List Loc), WK consts_1 p l e room_1 s m #[(.int p1), (.int p2), (.int p3), (.int p4)] below meth c Z "com/example/frugal_ranker/frugalranker/CodePointsComparePinLaw" n0 h0 [] T' h0 s.vm L' 0 0 → Go p e below _ T' (mkF m 87 #[.val (.int p1), .val (.int p2), .val (.int p3), .val (.int p4), .val (.int nA), .val (.int nB), .val (.int u0), .val (.int u1), .val (.int u2), .val (.int (s0F p4 u0 r0)), .val (.int r1), .val (.int r2), .unset, .unset, .unset, .unset, .unset, .unset, .unset, .unset, .unset, .unset] []) by
    refine W6.1.iloadN (hb hby at_75) rfl (pc' := 76) rfl ?_
    refine W6.1.iconst (4 : Int32) (hb hby at_76) rfl (pc' := 77) rfl ?_
    refine W6.1.iushr (hb hby at_77) (pc' := 78) rfl ?_
    refine W6.1.iconst (1 : Int32) (hb hby at_78) rfl (pc' := 79) rfl ?_
    refine W6.1.iand (hb hby at_79) (pc' := 80) rfl ?_
    by_cases hc8 : ((XT.ushr p4 (4 : Int32)) &&& (1 : Int32)) = (0 : Int32)
    · refine W6.1.ifYes (hb hby at_80) (XT.i0_eq_t hc8) (by decide) (pc' := 87) (by decide) ?_
      have q7 := kk7 _ _ W6
      rw [show (s0F p4 u0 r0) = r0 from by rw [s0F, if_pos hc8]] at q7
      exact q7
    · refine W6.1.ifNo (hb hby at_80) (XT.i0_eq_f hc8) (pc' := 83) rfl ?_
      refine W6.1.iload (hb hby at_83) rfl (pc' := 85) rfl ?_
      refine W6.1.istore (Ls' := #[.val (.int p1), .val (.int p2), .val (.int p3), .val (.int p4), .val (.int nA), .val (.int nB), .val (.int u0), .val (.int u1), .val (.int u2), .val (.int u0), .val (.int r1), .val (.int r2), .unset, .unset, .unset, .unset, .unset, .unset, .unset, .unset, .unset, .unset]) (hb hby at_85) rfl (pc' := 87) rfl ?_
      have q7 := kk7 _ _ W6
      rw [show (s0F p4 u0 r0) = u0 from by rw [s0F, if_neg hc8]] at q7
      exact q7
  intro T7 L7 W7
  suffices kk9 : ∀ (T' : State) (L' : List Loc), WK consts_1 p l e room_1 s m #[(.int p1), (.int p2), (.int p3), (.int p4)] below meth c Z "com/example/frugal_ranker/frugalranker/CodePointsComparePinLaw" n0 h0 [] T' h0 s.vm L' 0 0 → Go p e below _ T' (mkF m 99 #[.val (.int p1), .val (.int p2), .val (.int p3), .val (.int p4), .val (.int nA), .val (.int nB), .val (.int u0), .val (.int u1), .val (.int u2), .val (.int (s0F p4 u0 r0)), .val (.int (s1F p4 u1 r1)), .val (.int r2), .unset, .unset, .unset, .unset, .unset, .unset, .unset, .unset, .unset, .unset] []) by
    refine W7.1.iloadN (hb hby at_87) rfl (pc' := 88) rfl ?_
    refine W7.1.iconst (5 : Int32) (hb hby at_88) rfl (pc' := 89) rfl ?_
    refine W7.1.iushr (hb hby at_89) (pc' := 90) rfl ?_
    refine W7.1.iconst (1 : Int32) (hb hby at_90) rfl (pc' := 91) rfl ?_
    refine W7.1.iand (hb hby at_91) (pc' := 92) rfl ?_
    by_cases hc10 : ((XT.ushr p4 (5 : Int32)) &&& (1 : Int32)) = (0 : Int32)
    · refine W7.1.ifYes (hb hby at_92) (XT.i0_eq_t hc10) (by decide) (pc' := 99) (by decide) ?_
      have q9 := kk9 _ _ W7
      rw [show (s1F p4 u1 r1) = r1 from by rw [s1F, if_pos hc10]] at q9
      exact q9
    · refine W7.1.ifNo (hb hby at_92) (XT.i0_eq_f hc10) (pc' := 95) rfl ?_
      refine W7.1.iload (hb hby at_95) rfl (pc' := 97) rfl ?_
      refine W7.1.istore (Ls' := #[.val (.int p1), .val (.int p2), .val (.int p3), .val (.int p4), .val (.int nA), .val (.int nB), .val (.int u0), .val (.int u1), .val (.int u2), .val (.int (s0F p4 u0 r0)), .val (.int u1), .val (.int r2), .unset, .unset, .unset, .unset, .unset, .unset, .unset, .unset, .unset, .unset]) (hb hby at_97) rfl (pc' := 99) rfl ?_
      have q9 := kk9 _ _ W7
      rw [show (s1F p4 u1 r1) = u1 from by rw [s1F, if_neg hc10]] at q9
      exact q9
  intro T9 L9 W9
  suffices kk11 : ∀ (T' : State) (L' : List Loc), WK consts_1 p l e room_1 s m #[(.int p1), (.int p2), (.int p3), (.int p4)] below meth c Z "com/example/frugal_ranker/frugalranker/CodePointsComparePinLaw" n0 h0 [] T' h0 s.vm L' 0 0 → Go p e below _ T' (mkF m 112 #[.val (.int p1), .val (.int p2), .val (.int p3), .val (.int p4), .val (.int nA), .val (.int nB), .val (.int u0), .val (.int u1), .val (.int u2), .val (.int (s0F p4 u0 r0)), .val (.int (s1F p4 u1 r1)), .val (.int (s2F p4 u2 r2)), .unset, .unset, .unset, .unset, .unset, .unset, .unset, .unset, .unset, .unset] []) by
    refine W9.1.iloadN (hb hby at_99) rfl (pc' := 100) rfl ?_
    refine W9.1.bipush (6 : Int32) (hb hby at_100) rfl (pc' := 102) rfl ?_
    refine W9.1.iushr (hb hby at_102) (pc' := 103) rfl ?_
    refine W9.1.iconst (1 : Int32) (hb hby at_103) rfl (pc' := 104) rfl ?_
    refine W9.1.iand (hb hby at_104) (pc' := 105) rfl ?_
    by_cases hc12 : ((XT.ushr p4 (6 : Int32)) &&& (1 : Int32)) = (0 : Int32)
    · refine W9.1.ifYes (hb hby at_105) (XT.i0_eq_t hc12) (by decide) (pc' := 112) (by decide) ?_
      have q11 := kk11 _ _ W9
      rw [show (s2F p4 u2 r2) = r2 from by rw [s2F, if_pos hc12]] at q11
      exact q11
    · refine W9.1.ifNo (hb hby at_105) (XT.i0_eq_f hc12) (pc' := 108) rfl ?_
      refine W9.1.iload (hb hby at_108) rfl (pc' := 110) rfl ?_
      refine W9.1.istore (Ls' := #[.val (.int p1), .val (.int p2), .val (.int p3), .val (.int p4), .val (.int nA), .val (.int nB), .val (.int u0), .val (.int u1), .val (.int u2), .val (.int (s0F p4 u0 r0)), .val (.int (s1F p4 u1 r1)), .val (.int u2), .unset, .unset, .unset, .unset, .unset, .unset, .unset, .unset, .unset, .unset]) (hb hby at_110) rfl (pc' := 112) rfl ?_
      have q11 := kk11 _ _ W9
      rw [show (s2F p4 u2 r2) = u2 from by rw [s2F, if_neg hc12]] at q11
      exact q11
  intro T11 L11 W11
  refine W11.1.iconst (3 : Int32) (hb hby at_112) rfl (pc' := 113) rfl ?_
  refine W11.1.newP (hw _ (List.mem_of_getElem? (i := 5) rfl)) (hb hby at_113) (pc' := 115) rfl (by decide) (cap := 3) (by decide) (by decide) (by decide) (by decide) ?_
  intro T13 h13 a13 k13 g13 ge13 gn13 N13 E13 V13'
  have V13 : Arv Z h13 a13 k13 .char (3 : Int32) [(.int (0 : Int32)), (.int (0 : Int32)), (.int (0 : Int32))] (.int (0 : Int32)) := V13'
  have z13 := E13.1
  have y13 := Nat.le_of_eq g13.symm
  have W13 := W11.upE N13 E13
  refine W13.1.dup (hb hby at_115) rfl (pc' := 116) rfl ?_
  refine W13.1.iconst (0 : Int32) (hb hby at_116) rfl (pc' := 117) rfl ?_
  refine W13.1.iload (hb hby at_117) rfl (pc' := 119) rfl ?_
  refine W13.1.stC V13 (hb hby at_119) (pc' := 120) rfl (nar_chr (by rw [hu0]; exact dr_chr _ _ _)) 0 rfl (Nat.le_of_ble_eq_true rfl) (by decide) (Or.inr ge13) gn13 ?_
  intro T14 h14 L14 N14 K14 V14'
  have V14 : Arv Z h14 a13 k13 .char (3 : Int32) [(.int u0), (.int (0 : Int32)), (.int (0 : Int32))] (.int (0 : Int32)) := V14'
  have z14 := K14.1
  have W14 := W13.up N14 K14 (sfS (Safe.arv (EL := consts_1) W13.1.2.2.2.1.alike V13 (by decide)) sf0)
  refine W14.1.dup (hb hby at_120) rfl (pc' := 121) rfl ?_
  refine W14.1.iconst (1 : Int32) (hb hby at_121) rfl (pc' := 122) rfl ?_
  refine W14.1.iload (hb hby at_122) rfl (pc' := 124) rfl ?_
  refine W14.1.stC V14 (hb hby at_124) (pc' := 125) rfl (nar_chr (by rw [hu1]; exact dr_chr _ _ _)) 1 rfl (Nat.le_of_ble_eq_true rfl) (by decide) (Or.inr ge13) gn13 ?_
  intro T15 h15 L15 N15 K15 V15'
  have V15 : Arv Z h15 a13 k13 .char (3 : Int32) [(.int u0), (.int u1), (.int (0 : Int32))] (.int (0 : Int32)) := V15'
  have z15 := K15.1
  have W15 := W14.up N15 K15 (sfS (Safe.arv (EL := consts_1) W14.1.2.2.2.1.alike V14 (by decide)) sf0)
  refine W15.1.dup (hb hby at_125) rfl (pc' := 126) rfl ?_
  refine W15.1.iconst (2 : Int32) (hb hby at_126) rfl (pc' := 127) rfl ?_
  refine W15.1.iload (hb hby at_127) rfl (pc' := 129) rfl ?_
  refine W15.1.stC V15 (hb hby at_129) (pc' := 130) rfl (nar_chr (by rw [hu2]; exact dr_chr _ _ _)) 2 rfl (Nat.le_of_ble_eq_true rfl) (by decide) (Or.inr ge13) gn13 ?_
  intro T16 h16 L16 N16 K16 V16'
  have V16 : Arv Z h16 a13 k13 .char (3 : Int32) [(.int u0), (.int u1), (.int u2)] (.int (0 : Int32)) := V16'
  have z16 := K16.1
  have W16 := W15.up N16 K16 (sfS (Safe.arv (EL := consts_1) W15.1.2.2.2.1.alike V15 (by decide)) sf0)
  refine W16.1.astore (Ls' := #[.val (.int p1), .val (.int p2), .val (.int p3), .val (.int p4), .val (.int nA), .val (.int nB), .val (.int u0), .val (.int u1), .val (.int u2), .val (.int (s0F p4 u0 r0)), .val (.int (s1F p4 u1 r1)), .val (.int (s2F p4 u2 r2)), .val (.ref a13), .unset, .unset, .unset, .unset, .unset, .unset, .unset, .unset, .unset]) (hb hby at_130) rfl rfl (pc' := 132) rfl ?_
  refine W16.1.iconst (3 : Int32) (hb hby at_132) rfl (pc' := 133) rfl ?_
  refine W16.1.newP (hw _ (List.mem_of_getElem? (i := 5) rfl)) (hb hby at_133) (pc' := 135) rfl (by decide) (cap := 3) (by decide) (by decide) (by decide) (by decide) ?_
  intro T17 h17 a17 k17 g17 ge17 gn17 N17 E17 V17'
  have V17 : Arv Z h17 a17 k17 .char (3 : Int32) [(.int (0 : Int32)), (.int (0 : Int32)), (.int (0 : Int32))] (.int (0 : Int32)) := V17'
  have z17 := E17.1
  have y17 := Nat.le_of_eq g17.symm
  have W17 := W16.upE N17 E17
  refine W17.1.dup (hb hby at_135) rfl (pc' := 136) rfl ?_
  refine W17.1.iconst (0 : Int32) (hb hby at_136) rfl (pc' := 137) rfl ?_
  refine W17.1.iload (hb hby at_137) rfl (pc' := 139) rfl ?_
  refine W17.1.stC V17 (hb hby at_139) (pc' := 140) rfl (nar_chr (s0_chr (by rw [hu0]; exact dr_chr _ _ _) (by rw [hr0]; exact dr_chr _ _ _))) 0 rfl (Nat.le_of_ble_eq_true rfl) (by decide) (Or.inr ge17) gn17 ?_
  intro T18 h18 L18 N18 K18 V18'
  have V18 : Arv Z h18 a17 k17 .char (3 : Int32) [(.int (s0F p4 u0 r0)), (.int (0 : Int32)), (.int (0 : Int32))] (.int (0 : Int32)) := V18'
  have z18 := K18.1
  have W18 := W17.up N18 K18 (sfS (Safe.arv (EL := consts_1) W17.1.2.2.2.1.alike V17 (by decide)) sf0)
  refine W18.1.dup (hb hby at_140) rfl (pc' := 141) rfl ?_
  refine W18.1.iconst (1 : Int32) (hb hby at_141) rfl (pc' := 142) rfl ?_
  refine W18.1.iload (hb hby at_142) rfl (pc' := 144) rfl ?_
  refine W18.1.stC V18 (hb hby at_144) (pc' := 145) rfl (nar_chr (s1_chr (by rw [hu1]; exact dr_chr _ _ _) (by rw [hr1]; exact dr_chr _ _ _))) 1 rfl (Nat.le_of_ble_eq_true rfl) (by decide) (Or.inr ge17) gn17 ?_
  intro T19 h19 L19 N19 K19 V19'
  have V19 : Arv Z h19 a17 k17 .char (3 : Int32) [(.int (s0F p4 u0 r0)), (.int (s1F p4 u1 r1)), (.int (0 : Int32))] (.int (0 : Int32)) := V19'
  have z19 := K19.1
  have W19 := W18.up N19 K19 (sfS (Safe.arv (EL := consts_1) W18.1.2.2.2.1.alike V18 (by decide)) sf0)
  refine W19.1.dup (hb hby at_145) rfl (pc' := 146) rfl ?_
  refine W19.1.iconst (2 : Int32) (hb hby at_146) rfl (pc' := 147) rfl ?_
  refine W19.1.iload (hb hby at_147) rfl (pc' := 149) rfl ?_
  refine W19.1.stC V19 (hb hby at_149) (pc' := 150) rfl (nar_chr (s2_chr (by rw [hu2]; exact dr_chr _ _ _) (by rw [hr2]; exact dr_chr _ _ _))) 2 rfl (Nat.le_of_ble_eq_true rfl) (by decide) (Or.inr ge17) gn17 ?_
  intro T20 h20 L20 N20 K20 V20'
  have V20 : Arv Z h20 a17 k17 .char (3 : Int32) [(.int (s0F p4 u0 r0)), (.int (s1F p4 u1 r1)), (.int (s2F p4 u2 r2))] (.int (0 : Int32)) := V20'
  have z20 := K20.1
  have W20 := W19.up N20 K20 (sfS (Safe.arv (EL := consts_1) W19.1.2.2.2.1.alike V19 (by decide)) sf0)
  refine W20.1.astore (Ls' := #[.val (.int p1), .val (.int p2), .val (.int p3), .val (.int p4), .val (.int nA), .val (.int nB), .val (.int u0), .val (.int u1), .val (.int u2), .val (.int (s0F p4 u0 r0)), .val (.int (s1F p4 u1 r1)), .val (.int (s2F p4 u2 r2)), .val (.ref a13), .val (.ref a17), .unset, .unset, .unset, .unset, .unset, .unset, .unset, .unset]) (hb hby at_150) rfl rfl (pc' := 152) rfl ?_
  refine W20.1.aload (hb hby at_152) rfl rfl (pc' := 154) rfl ?_
  refine W20.1.iload (hb hby at_154) rfl (pc' := 156) rfl ?_
  have X4_8_22 : Ext h16 h20 := Keep.toExt (((((Keep.refl h16 []).ext E17).trans K18 (allS (Or.inr (by have := y17; omega)) all0)).trans K19 (allS (Or.inr (by have := y17; omega)) all0)).trans K20 (allS (Or.inr (by have := y17; omega)) all0))
  have zX4_8_22 := X4_8_22.1
  have F23 := Arv.ext V16 X4_8_22
  have X0_8_24 : Ext h0 h20 := Keep.toExt (((((((((Keep.refl h0 []).ext E13).trans K14 (allS (Or.inr (by have := y13; omega)) all0)).trans K15 (allS (Or.inr (by have := y13; omega)) all0)).trans K16 (allS (Or.inr (by have := y13; omega)) all0)).ext E17).trans K18 (allS (Or.inr (by have := y17; omega)) all0)).trans K19 (allS (Or.inr (by have := y17; omega)) all0)).trans K20 (allS (Or.inr (by have := y17; omega)) all0))
  have zX0_8_24 := X0_8_24.1
  have F25 := Sta.ext X0_8_24 SC
  have F26 := Sta.ext X0_8_24 SA1
  have F27 := Sta.ext X0_8_24 SA2
  have F28 := Sta.ext X0_8_24 SA3
  refine W20.callS (hw _ (List.mem_of_getElem? (i := 6) rfl)) (hw _ (List.mem_of_getElem? (i := 7) rfl)) (hw _ (List.mem_of_getElem? (i := 2) rfl)) (hw _ (List.mem_of_getElem? (i := 8) rfl)) (by decide) (WM.bk (wd := 0) (rmM l Z a0 hw hEL a13 k13 nA u0 u1 u2 zc h20 n0 W20.1.n0h F23 (by rw [hu0]; exact dr_chr _ _ _) (by rw [hu1]; exact dr_chr _ _ _) (by rw [hu2]; exact dr_chr _ _ _) F25 hz F26 F27 F28) W20.1.2.2.2.1 (hw _ (List.mem_of_getElem? (i := 8) rfl)) (hw _ (List.mem_of_getElem? (i := 2) rfl)) (by decide) (by decide) hEL W20.2.2.1) (hb hby at_156) (pc' := 159) rfl hml (argsL := [(.ref a13), (.int nA)]) rfl (lenOf pd_e0795182 rfl) rfl (Nat.le_of_ble_eq_true rfl) (by decide) (by decide) (ws' := []) (fun _ _ _ q => ⟨q.2.2, q.2.1⟩) all0 ?_
  intro v21 T21 h21 vm21 L21' L21 W21 Q21 K21 C21
  have z21 := K21.1
  obtain ⟨⟨a21, rfl, S21⟩, -, -⟩ := Q21
  show Go p e below _ T21 (mkF m 159 #[.val (.int p1), .val (.int p2), .val (.int p3), .val (.int p4), .val (.int nA), .val (.int nB), .val (.int u0), .val (.int u1), .val (.int u2), .val (.int (s0F p4 u0 r0)), .val (.int (s1F p4 u1 r1)), .val (.int (s2F p4 u2 r2)), .val (.ref a13), .val (.ref a17), .unset, .unset, .unset, .unset, .unset, .unset, .unset, .unset] [(.ref a21)])
  refine W21.1.astore (Ls' := #[.val (.int p1), .val (.int p2), .val (.int p3), .val (.int p4), .val (.int nA), .val (.int nB), .val (.int u0), .val (.int u1), .val (.int u2), .val (.int (s0F p4 u0 r0)), .val (.int (s1F p4 u1 r1)), .val (.int (s2F p4 u2 r2)), .val (.ref a13), .val (.ref a17), .val (.ref a21), .unset, .unset, .unset, .unset, .unset, .unset, .unset]) (hb hby at_159) rfl rfl (pc' := 161) rfl ?_
  refine W21.1.aload (hb hby at_161) rfl rfl (pc' := 163) rfl ?_
  refine W21.1.iload (hb hby at_163) rfl (pc' := 165) rfl ?_
  have F30 := Arv.ext V20 (Keep.toExt K21)
  have X0_9_31 : Ext h0 h21 := Keep.toExt ((((((((((Keep.refl h0 []).ext E13).trans K14 (allS (Or.inr (by have := y13; omega)) all0)).trans K15 (allS (Or.inr (by have := y13; omega)) all0)).trans K16 (allS (Or.inr (by have := y13; omega)) all0)).ext E17).trans K18 (allS (Or.inr (by have := y17; omega)) all0)).trans K19 (allS (Or.inr (by have := y17; omega)) all0)).trans K20 (allS (Or.inr (by have := y17; omega)) all0)).trans K21 all0)
  have zX0_9_31 := X0_9_31.1
  have F32 := Sta.ext X0_9_31 SC
  have F33 := Sta.ext X0_9_31 SA1
  have F34 := Sta.ext X0_9_31 SA2
  have F35 := Sta.ext X0_9_31 SA3
  refine W21.callS (hw _ (List.mem_of_getElem? (i := 6) rfl)) (hw _ (List.mem_of_getElem? (i := 7) rfl)) (hw _ (List.mem_of_getElem? (i := 2) rfl)) (hw _ (List.mem_of_getElem? (i := 8) rfl)) (by decide) (WM.bk (wd := 0) (rmM l Z a0 hw hEL a17 k17 nB (s0F p4 u0 r0) (s1F p4 u1 r1) (s2F p4 u2 r2) zc h21 n0 W21.1.n0h F30 (s0_chr (by rw [hu0]; exact dr_chr _ _ _) (by rw [hr0]; exact dr_chr _ _ _)) (s1_chr (by rw [hu1]; exact dr_chr _ _ _) (by rw [hr1]; exact dr_chr _ _ _)) (s2_chr (by rw [hu2]; exact dr_chr _ _ _) (by rw [hr2]; exact dr_chr _ _ _)) F32 hz F33 F34 F35) W21.1.2.2.2.1 (hw _ (List.mem_of_getElem? (i := 8) rfl)) (hw _ (List.mem_of_getElem? (i := 2) rfl)) (by decide) (by decide) hEL W21.2.2.1) (hb hby at_165) (pc' := 168) rfl hml (argsL := [(.ref a17), (.int nB)]) rfl (lenOf pd_e0795182 rfl) rfl (Nat.le_of_ble_eq_true rfl) (by decide) (by decide) (ws' := []) (fun _ _ _ q => ⟨q.2.2, q.2.1⟩) all0 ?_
  intro v29 T29 h29 vm29 L29' L29 W29 Q29 K29 C29
  have z29 := K29.1
  obtain ⟨⟨a29, rfl, S29⟩, -, -⟩ := Q29
  show Go p e below _ T29 (mkF m 168 #[.val (.int p1), .val (.int p2), .val (.int p3), .val (.int p4), .val (.int nA), .val (.int nB), .val (.int u0), .val (.int u1), .val (.int u2), .val (.int (s0F p4 u0 r0)), .val (.int (s1F p4 u1 r1)), .val (.int (s2F p4 u2 r2)), .val (.ref a13), .val (.ref a17), .val (.ref a21), .unset, .unset, .unset, .unset, .unset, .unset, .unset] [(.ref a29)])
  refine W29.1.astore (Ls' := #[.val (.int p1), .val (.int p2), .val (.int p3), .val (.int p4), .val (.int nA), .val (.int nB), .val (.int u0), .val (.int u1), .val (.int u2), .val (.int (s0F p4 u0 r0)), .val (.int (s1F p4 u1 r1)), .val (.int (s2F p4 u2 r2)), .val (.ref a13), .val (.ref a17), .val (.ref a21), .val (.ref a29), .unset, .unset, .unset, .unset, .unset, .unset]) (hb hby at_168) rfl rfl (pc' := 170) rfl ?_
  refine W29.1.iconst (3 : Int32) (hb hby at_170) rfl (pc' := 171) rfl ?_
  have X4_10_37 : Ext h16 h29 := Keep.toExt (((((((Keep.refl h16 []).ext E17).trans K18 (allS (Or.inr (by have := y17; omega)) all0)).trans K19 (allS (Or.inr (by have := y17; omega)) all0)).trans K20 (allS (Or.inr (by have := y17; omega)) all0)).trans K21 all0).trans K29 all0)
  have zX4_10_37 := X4_10_37.1
  have F38 := Arv.ext V16 X4_10_37
  have lt36 := F38.lt
  have X8_10_40 : Ext h20 h29 := Keep.toExt (((Keep.refl h20 []).trans K21 all0).trans K29 all0)
  have zX8_10_40 := X8_10_40.1
  have F41 := Arv.ext V20 X8_10_40
  have lt39 := F41.lt
  refine W29.1.newP (hw _ (List.mem_of_getElem? (i := 41) rfl)) (hb hby at_171) (pc' := 173) rfl (by decide) (cap := 3) (by decide) (by decide) (by decide) (by decide) ?_
  intro T42 h42 a42 k42 g42 ge42 gn42 N42 E42 V42'
  have V42 : Arv Z h42 a42 k42 .int (3 : Int32) [(.int (0 : Int32)), (.int (0 : Int32)), (.int (0 : Int32))] (.int (0 : Int32)) := V42'
  have z42 := E42.1
  have y42 := Nat.le_of_eq g42.symm
  have W42 := W29.upE N42 E42
  have nq43 : a13 ≠ a42 := fun q => Nat.lt_irrefl _ (Nat.lt_of_lt_of_le (q ▸ lt36) y42)
  have nq44 : a17 ≠ a42 := fun q => Nat.lt_irrefl _ (Nat.lt_of_lt_of_le (q ▸ lt39) y42)
  refine W42.1.astore (Ls' := #[.val (.int p1), .val (.int p2), .val (.int p3), .val (.int p4), .val (.int nA), .val (.int nB), .val (.int u0), .val (.int u1), .val (.int u2), .val (.int (s0F p4 u0 r0)), .val (.int (s1F p4 u1 r1)), .val (.int (s2F p4 u2 r2)), .val (.ref a13), .val (.ref a17), .val (.ref a21), .val (.ref a29), .val (.ref a42), .unset, .unset, .unset, .unset, .unset]) (hb hby at_173) rfl rfl (pc' := 175) rfl ?_
  refine W42.1.iconst (3 : Int32) (hb hby at_175) rfl (pc' := 176) rfl ?_
  have X4_11_46 : Ext h16 h42 := Keep.toExt ((((((((Keep.refl h16 []).ext E17).trans K18 (allS (Or.inr (by have := y17; omega)) all0)).trans K19 (allS (Or.inr (by have := y17; omega)) all0)).trans K20 (allS (Or.inr (by have := y17; omega)) all0)).trans K21 all0).trans K29 all0).ext E42)
  have zX4_11_46 := X4_11_46.1
  have F47 := Arv.ext V16 X4_11_46
  have lt45 := F47.lt
  have X8_11_49 : Ext h20 h42 := Keep.toExt ((((Keep.refl h20 []).trans K21 all0).trans K29 all0).ext E42)
  have zX8_11_49 := X8_11_49.1
  have F50 := Arv.ext V20 X8_11_49
  have lt48 := F50.lt
  have lt51 := V42.lt
  refine W42.1.newP (hw _ (List.mem_of_getElem? (i := 41) rfl)) (hb hby at_176) (pc' := 178) rfl (by decide) (cap := 3) (by decide) (by decide) (by decide) (by decide) ?_
  intro T52 h52 a52 k52 g52 ge52 gn52 N52 E52 V52'
  have V52 : Arv Z h52 a52 k52 .int (3 : Int32) [(.int (0 : Int32)), (.int (0 : Int32)), (.int (0 : Int32))] (.int (0 : Int32)) := V52'
  have z52 := E52.1
  have y52 := Nat.le_of_eq g52.symm
  have W52 := W42.upE N52 E52
  have nq53 : a13 ≠ a52 := fun q => Nat.lt_irrefl _ (Nat.lt_of_lt_of_le (q ▸ lt45) y52)
  have nq54 : a17 ≠ a52 := fun q => Nat.lt_irrefl _ (Nat.lt_of_lt_of_le (q ▸ lt48) y52)
  have nq55 : a42 ≠ a52 := fun q => Nat.lt_irrefl _ (Nat.lt_of_lt_of_le (q ▸ lt51) y52)
  refine W52.1.astore (Ls' := #[.val (.int p1), .val (.int p2), .val (.int p3), .val (.int p4), .val (.int nA), .val (.int nB), .val (.int u0), .val (.int u1), .val (.int u2), .val (.int (s0F p4 u0 r0)), .val (.int (s1F p4 u1 r1)), .val (.int (s2F p4 u2 r2)), .val (.ref a13), .val (.ref a17), .val (.ref a21), .val (.ref a29), .val (.ref a42), .val (.ref a52), .unset, .unset, .unset, .unset]) (hb hby at_178) rfl rfl (pc' := 180) rfl ?_
  refine W52.1.aload (hb hby at_180) rfl rfl (pc' := 182) rfl ?_
  refine W52.1.iload (hb hby at_182) rfl (pc' := 184) rfl ?_
  refine W52.1.aload (hb hby at_184) rfl rfl (pc' := 186) rfl ?_
  have X4_12_57 : Ext h16 h52 := Keep.toExt (((((((((Keep.refl h16 []).ext E17).trans K18 (allS (Or.inr (by have := y17; omega)) all0)).trans K19 (allS (Or.inr (by have := y17; omega)) all0)).trans K20 (allS (Or.inr (by have := y17; omega)) all0)).trans K21 all0).trans K29 all0).ext E42).ext E52)
  have zX4_12_57 := X4_12_57.1
  have F58 := Arv.ext V16 X4_12_57
  have F59 := Arv.ext V42 E52
  refine W52.1.callS (hw _ (List.mem_of_getElem? (i := 42) rfl)) (hw _ (List.mem_of_getElem? (i := 43) rfl)) (hw _ (List.mem_of_getElem? (i := 2) rfl)) (hw _ (List.mem_of_getElem? (i := 44) rfl)) (by decide) (NM.bk (wd := 0) (rmDE l Z a0 hw a13 a42 k13 k42 nA u0 u1 u2 h52 n0 W52.1.n0h F58 F59 nq43 gn42 (and3 hnA)) W52.1.2.2.2.1 (hw _ (List.mem_of_getElem? (i := 44) rfl)) (hw _ (List.mem_of_getElem? (i := 2) rfl)) (by decide) (by decide)) (hb hby at_186) (pc' := 189) rfl hml (argsL := [(.ref a13), (.int nA), (.ref a42)]) rfl (lenOf pd_b8b7692d rfl) rfl (Nat.le_of_ble_eq_true rfl) (by decide) (by decide) (ws' := [a42]) (fun _ _ _ q => ⟨q.2.2, q.2.1⟩) (allS (Or.inr ge42) all0) ?_
  intro v56 T56 h56 L56' L56 N56 Q56 K56
  have W56 := W52.up N56 K56 (sfS (Safe.arv (EL := consts_1) W52.1.2.2.2.1.alike F59 (by decide)) sf0)
  have z56 := K56.1
  obtain ⟨⟨rfl, V56⟩, -, -⟩ := Q56
  show Go p e below _ T56 (mkF m 189 #[.val (.int p1), .val (.int p2), .val (.int p3), .val (.int p4), .val (.int nA), .val (.int nB), .val (.int u0), .val (.int u1), .val (.int u2), .val (.int (s0F p4 u0 r0)), .val (.int (s1F p4 u1 r1)), .val (.int (s2F p4 u2 r2)), .val (.ref a13), .val (.ref a17), .val (.ref a21), .val (.ref a29), .val (.ref a42), .val (.ref a52), .unset, .unset, .unset, .unset] [(.int (decF nA u0 u1 u2).1)])
  refine W56.1.istore (Ls' := #[.val (.int p1), .val (.int p2), .val (.int p3), .val (.int p4), .val (.int nA), .val (.int nB), .val (.int u0), .val (.int u1), .val (.int u2), .val (.int (s0F p4 u0 r0)), .val (.int (s1F p4 u1 r1)), .val (.int (s2F p4 u2 r2)), .val (.ref a13), .val (.ref a17), .val (.ref a21), .val (.ref a29), .val (.ref a42), .val (.ref a52), .val (.int (decF nA u0 u1 u2).1), .unset, .unset, .unset]) (hb hby at_189) rfl (pc' := 191) rfl ?_
  refine W56.1.aload (hb hby at_191) rfl rfl (pc' := 193) rfl ?_
  refine W56.1.iload (hb hby at_193) rfl (pc' := 195) rfl ?_
  refine W56.1.aload (hb hby at_195) rfl rfl (pc' := 197) rfl ?_
  have X8_13_61 : Ext h20 h56 := Keep.toExt ((((((Keep.refl h20 []).trans K21 all0).trans K29 all0).ext E42).ext E52).trans K56 (allS (Or.inr (by have := y42; omega)) all0))
  have zX8_13_61 := X8_13_61.1
  have F62 := Arv.ext V20 X8_13_61
  have F63 := (V52.keep K56 (ninS (Ne.symm nq55) nin0))
  refine W56.1.callS (hw _ (List.mem_of_getElem? (i := 42) rfl)) (hw _ (List.mem_of_getElem? (i := 43) rfl)) (hw _ (List.mem_of_getElem? (i := 2) rfl)) (hw _ (List.mem_of_getElem? (i := 44) rfl)) (by decide) (NM.bk (wd := 0) (rmDE l Z a0 hw a17 a52 k17 k52 nB (s0F p4 u0 r0) (s1F p4 u1 r1) (s2F p4 u2 r2) h56 n0 W56.1.n0h F62 F63 nq54 gn52 (and3 hnB)) W56.1.2.2.2.1 (hw _ (List.mem_of_getElem? (i := 44) rfl)) (hw _ (List.mem_of_getElem? (i := 2) rfl)) (by decide) (by decide)) (hb hby at_197) (pc' := 200) rfl hml (argsL := [(.ref a17), (.int nB), (.ref a52)]) rfl (lenOf pd_b8b7692d rfl) rfl (Nat.le_of_ble_eq_true rfl) (by decide) (by decide) (ws' := [a52]) (fun _ _ _ q => ⟨q.2.2, q.2.1⟩) (allS (Or.inr ge52) all0) ?_
  intro v60 T60 h60 L60' L60 N60 Q60 K60
  have W60 := W56.up N60 K60 (sfS (Safe.arv (EL := consts_1) W56.1.2.2.2.1.alike F63 (by decide)) sf0)
  have z60 := K60.1
  obtain ⟨⟨rfl, V60⟩, -, -⟩ := Q60
  show Go p e below _ T60 (mkF m 200 #[.val (.int p1), .val (.int p2), .val (.int p3), .val (.int p4), .val (.int nA), .val (.int nB), .val (.int u0), .val (.int u1), .val (.int u2), .val (.int (s0F p4 u0 r0)), .val (.int (s1F p4 u1 r1)), .val (.int (s2F p4 u2 r2)), .val (.ref a13), .val (.ref a17), .val (.ref a21), .val (.ref a29), .val (.ref a42), .val (.ref a52), .val (.int (decF nA u0 u1 u2).1), .unset, .unset, .unset] [(.int (decF nB (s0F p4 u0 r0) (s1F p4 u1 r1) (s2F p4 u2 r2)).1)])
  refine W60.1.istore (Ls' := #[.val (.int p1), .val (.int p2), .val (.int p3), .val (.int p4), .val (.int nA), .val (.int nB), .val (.int u0), .val (.int u1), .val (.int u2), .val (.int (s0F p4 u0 r0)), .val (.int (s1F p4 u1 r1)), .val (.int (s2F p4 u2 r2)), .val (.ref a13), .val (.ref a17), .val (.ref a21), .val (.ref a29), .val (.ref a42), .val (.ref a52), .val (.int (decF nA u0 u1 u2).1), .val (.int (decF nB (s0F p4 u0 r0) (s1F p4 u1 r1) (s2F p4 u2 r2)).1), .unset, .unset]) (hb hby at_200) rfl (pc' := 202) rfl ?_
  refine W60.1.aload (hb hby at_202) rfl rfl (pc' := 204) rfl ?_
  refine W60.1.iload (hb hby at_204) rfl (pc' := 206) rfl ?_
  refine W60.1.aload (hb hby at_206) rfl rfl (pc' := 208) rfl ?_
  refine W60.1.iload (hb hby at_208) rfl (pc' := 210) rfl ?_
  have F65 := (V56.keep K60 (ninS nq55 nin0))
  refine W60.1.callSP (hw _ (List.mem_of_getElem? (i := 51) rfl)) (hw _ (List.mem_of_getElem? (i := 52) rfl)) (hw _ (List.mem_of_getElem? (i := 2) rfl)) (hw _ (List.mem_of_getElem? (i := 53) rfl)) (by decide) (NM.bk (wd := 0) (rmLX l Z a0 hw a42 a52 k42 k52 (decF nA u0 u1 u2).1 (decF nB (s0F p4 u0 r0) (s1F p4 u1 r1) (s2F p4 u2 r2)).1 (decF nA u0 u1 u2).2.1 (decF nA u0 u1 u2).2.2.1 (decF nA u0 u1 u2).2.2.2 (decF nB (s0F p4 u0 r0) (s1F p4 u1 r1) (s2F p4 u2 r2)).2.1 (decF nB (s0F p4 u0 r0) (s1F p4 u1 r1) (s2F p4 u2 r2)).2.2.1 (decF nB (s0F p4 u0 r0) (s1F p4 u1 r1) (s2F p4 u2 r2)).2.2.2 h60 n0 W60.1.n0h F65 V60) W60.1.2.2.2.1 (hw _ (List.mem_of_getElem? (i := 53) rfl)) (hw _ (List.mem_of_getElem? (i := 2) rfl)) (by decide) (by decide)) (hb hby at_210) (pc' := 213) rfl hml (argsL := [(.ref a42), (.int (decF nA u0 u1 u2).1), (.ref a52), (.int (decF nB (s0F p4 u0 r0) (s1F p4 u1 r1) (s2F p4 u2 r2)).1)]) rfl (lenOf pd_9bf61908 rfl) rfl (Nat.le_of_ble_eq_true rfl) (by decide) (by decide) (fun _ _ _ q => pu_of q) ?_
  intro T64 L64 N64
  have W64 := W60.same N64
  show Go p e below _ T64 (mkF m 213 #[.val (.int p1), .val (.int p2), .val (.int p3), .val (.int p4), .val (.int nA), .val (.int nB), .val (.int u0), .val (.int u1), .val (.int u2), .val (.int (s0F p4 u0 r0)), .val (.int (s1F p4 u1 r1)), .val (.int (s2F p4 u2 r2)), .val (.ref a13), .val (.ref a17), .val (.ref a21), .val (.ref a29), .val (.ref a42), .val (.ref a52), .val (.int (decF nA u0 u1 u2).1), .val (.int (decF nB (s0F p4 u0 r0) (s1F p4 u1 r1) (s2F p4 u2 r2)).1), .unset, .unset] [(.int (lexF (decF nA u0 u1 u2).1 (decF nB (s0F p4 u0 r0) (s1F p4 u1 r1) (s2F p4 u2 r2)).1 (decF nA u0 u1 u2).2.1 (decF nA u0 u1 u2).2.2.1 (decF nA u0 u1 u2).2.2.2 (decF nB (s0F p4 u0 r0) (s1F p4 u1 r1) (s2F p4 u2 r2)).2.1 (decF nB (s0F p4 u0 r0) (s1F p4 u1 r1) (s2F p4 u2 r2)).2.2.1 (decF nB (s0F p4 u0 r0) (s1F p4 u1 r1) (s2F p4 u2 r2)).2.2.2))])
  refine W64.1.istore (Ls' := #[.val (.int p1), .val (.int p2), .val (.int p3), .val (.int p4), .val (.int nA), .val (.int nB), .val (.int u0), .val (.int u1), .val (.int u2), .val (.int (s0F p4 u0 r0)), .val (.int (s1F p4 u1 r1)), .val (.int (s2F p4 u2 r2)), .val (.ref a13), .val (.ref a17), .val (.ref a21), .val (.ref a29), .val (.ref a42), .val (.ref a52), .val (.int (decF nA u0 u1 u2).1), .val (.int (decF nB (s0F p4 u0 r0) (s1F p4 u1 r1) (s2F p4 u2 r2)).1), .val (.int (lexF (decF nA u0 u1 u2).1 (decF nB (s0F p4 u0 r0) (s1F p4 u1 r1) (s2F p4 u2 r2)).1 (decF nA u0 u1 u2).2.1 (decF nA u0 u1 u2).2.2.1 (decF nA u0 u1 u2).2.2.2 (decF nB (s0F p4 u0 r0) (s1F p4 u1 r1) (s2F p4 u2 r2)).2.1 (decF nB (s0F p4 u0 r0) (s1F p4 u1 r1) (s2F p4 u2 r2)).2.2.1 (decF nB (s0F p4 u0 r0) (s1F p4 u1 r1) (s2F p4 u2 r2)).2.2.2)), .unset]) (hb hby at_213) rfl (pc' := 215) rfl ?_
  refine W64.1.aload (hb hby at_215) rfl rfl (pc' := 217) rfl ?_
  refine W64.1.aload (hb hby at_217) rfl rfl (pc' := 219) rfl ?_
  have X9_14_67 : Ext h21 h60 := Keep.toExt ((((((Keep.refl h21 []).trans K29 all0).ext E42).ext E52).trans K56 (allS (Or.inr (by have := y42; omega)) all0)).trans K60 (allS (Or.inr (by have := y52; omega)) all0))
  have zX9_14_67 := X9_14_67.1
  have F68 := StrA.ext S21 X9_14_67
  have X10_14_69 : Ext h29 h60 := Keep.toExt (((((Keep.refl h29 []).ext E42).ext E52).trans K56 (allS (Or.inr (by have := y42; omega)) all0)).trans K60 (allS (Or.inr (by have := y52; omega)) all0))
  have zX10_14_69 := X10_14_69.1
  have F70 := StrA.ext S29 X10_14_69
  have X0_14_71 : Ext h0 h60 := Keep.toExt (((((((((((((((Keep.refl h0 []).ext E13).trans K14 (allS (Or.inr (by have := y13; omega)) all0)).trans K15 (allS (Or.inr (by have := y13; omega)) all0)).trans K16 (allS (Or.inr (by have := y13; omega)) all0)).ext E17).trans K18 (allS (Or.inr (by have := y17; omega)) all0)).trans K19 (allS (Or.inr (by have := y17; omega)) all0)).trans K20 (allS (Or.inr (by have := y17; omega)) all0)).trans K21 all0).trans K29 all0).ext E42).ext E52).trans K56 (allS (Or.inr (by have := y42; omega)) all0)).trans K60 (allS (Or.inr (by have := y52; omega)) all0))
  have zX0_14_71 := X0_14_71.1
  have F72 := Sta.ext X0_14_71 SC
  have F73 := Sta.ext X0_14_71 SF
  have F74 := Sta.ext X0_14_71 SA1
  have F75 := Sta.ext X0_14_71 SA2
  have F76 := Sta.ext X0_14_71 SA3
  refine W64.1.callSP (hw _ (List.mem_of_getElem? (i := 57) rfl)) (hw _ (List.mem_of_getElem? (i := 58) rfl)) (hw _ (List.mem_of_getElem? (i := 59) rfl)) (hw _ (List.mem_of_getElem? (i := 60) rfl)) (by decide) (NM.bk (wd := 0) (rmCM l Z a0 hw a21 a29 (strF nA u0 u1 u2) (strF nB (s0F p4 u0 r0) (s1F p4 u1 r1) (s2F p4 u2 r2)) zc fm h60 n0 W64.1.n0h F68 F70 F72 hz F73 rfm F74 F75 F76) W64.1.2.2.2.1 (hw _ (List.mem_of_getElem? (i := 60) rfl)) (hw _ (List.mem_of_getElem? (i := 59) rfl)) (by decide) (by decide)) (hb hby at_219) (pc' := 222) rfl hml (argsL := [(.ref a21), (.ref a29)]) rfl (lenOf pd_dafa8925 rfl) rfl (Nat.le_of_ble_eq_true rfl) (by decide) (by decide) (fun _ _ _ q => pu_of q) ?_
  intro T66 L66 N66
  have W66 := W64.same N66
  show Go p e below _ T66 (mkF m 222 #[.val (.int p1), .val (.int p2), .val (.int p3), .val (.int p4), .val (.int nA), .val (.int nB), .val (.int u0), .val (.int u1), .val (.int u2), .val (.int (s0F p4 u0 r0)), .val (.int (s1F p4 u1 r1)), .val (.int (s2F p4 u2 r2)), .val (.ref a13), .val (.ref a17), .val (.ref a21), .val (.ref a29), .val (.ref a42), .val (.ref a52), .val (.int (decF nA u0 u1 u2).1), .val (.int (decF nB (s0F p4 u0 r0) (s1F p4 u1 r1) (s2F p4 u2 r2)).1), .val (.int (lexF (decF nA u0 u1 u2).1 (decF nB (s0F p4 u0 r0) (s1F p4 u1 r1) (s2F p4 u2 r2)).1 (decF nA u0 u1 u2).2.1 (decF nA u0 u1 u2).2.2.1 (decF nA u0 u1 u2).2.2.2 (decF nB (s0F p4 u0 r0) (s1F p4 u1 r1) (s2F p4 u2 r2)).2.1 (decF nB (s0F p4 u0 r0) (s1F p4 u1 r1) (s2F p4 u2 r2)).2.2.1 (decF nB (s0F p4 u0 r0) (s1F p4 u1 r1) (s2F p4 u2 r2)).2.2.2)), .unset] [(.int (cmpL (strF nA u0 u1 u2) (strF nB (s0F p4 u0 r0) (s1F p4 u1 r1) (s2F p4 u2 r2)) 0 0 (strF nA u0 u1 u2).length))])
  refine W66.1.istore (Ls' := #[.val (.int p1), .val (.int p2), .val (.int p3), .val (.int p4), .val (.int nA), .val (.int nB), .val (.int u0), .val (.int u1), .val (.int u2), .val (.int (s0F p4 u0 r0)), .val (.int (s1F p4 u1 r1)), .val (.int (s2F p4 u2 r2)), .val (.ref a13), .val (.ref a17), .val (.ref a21), .val (.ref a29), .val (.ref a42), .val (.ref a52), .val (.int (decF nA u0 u1 u2).1), .val (.int (decF nB (s0F p4 u0 r0) (s1F p4 u1 r1) (s2F p4 u2 r2)).1), .val (.int (lexF (decF nA u0 u1 u2).1 (decF nB (s0F p4 u0 r0) (s1F p4 u1 r1) (s2F p4 u2 r2)).1 (decF nA u0 u1 u2).2.1 (decF nA u0 u1 u2).2.2.1 (decF nA u0 u1 u2).2.2.2 (decF nB (s0F p4 u0 r0) (s1F p4 u1 r1) (s2F p4 u2 r2)).2.1 (decF nB (s0F p4 u0 r0) (s1F p4 u1 r1) (s2F p4 u2 r2)).2.2.1 (decF nB (s0F p4 u0 r0) (s1F p4 u1 r1) (s2F p4 u2 r2)).2.2.2)), .val (.int (cmpL (strF nA u0 u1 u2) (strF nB (s0F p4 u0 r0) (s1F p4 u1 r1) (s2F p4 u2 r2)) 0 0 (strF nA u0 u1 u2).length))]) (hb hby at_222) rfl (pc' := 224) rfl ?_
  refine W66.1.iload (hb hby at_224) rfl (pc' := 226) rfl ?_
  refine W66.1.callSP (hw _ (List.mem_of_getElem? (i := 54) rfl)) (hw _ (List.mem_of_getElem? (i := 55) rfl)) (hw _ (List.mem_of_getElem? (i := 2) rfl)) (hw _ (List.mem_of_getElem? (i := 56) rfl)) (by decide) (NM.bk (wd := 0) (rmSG l Z a0 hw (cmpL (strF nA u0 u1 u2) (strF nB (s0F p4 u0 r0) (s1F p4 u1 r1) (s2F p4 u2 r2)) 0 0 (strF nA u0 u1 u2).length) h60 n0 W66.1.n0h ) W66.1.2.2.2.1 (hw _ (List.mem_of_getElem? (i := 56) rfl)) (hw _ (List.mem_of_getElem? (i := 2) rfl)) (by decide) (by decide)) (hb hby at_226) (pc' := 229) rfl hml (argsL := [(.int (cmpL (strF nA u0 u1 u2) (strF nB (s0F p4 u0 r0) (s1F p4 u1 r1) (s2F p4 u2 r2)) 0 0 (strF nA u0 u1 u2).length))]) rfl (lenOf pd_89c469b3 rfl) rfl (Nat.le_of_ble_eq_true rfl) (by decide) (by decide) (fun _ _ _ q => pu_of q) ?_
  intro T77 L77 N77
  have W77 := W66.same N77
  show Go p e below _ T77 (mkF m 229 #[.val (.int p1), .val (.int p2), .val (.int p3), .val (.int p4), .val (.int nA), .val (.int nB), .val (.int u0), .val (.int u1), .val (.int u2), .val (.int (s0F p4 u0 r0)), .val (.int (s1F p4 u1 r1)), .val (.int (s2F p4 u2 r2)), .val (.ref a13), .val (.ref a17), .val (.ref a21), .val (.ref a29), .val (.ref a42), .val (.ref a52), .val (.int (decF nA u0 u1 u2).1), .val (.int (decF nB (s0F p4 u0 r0) (s1F p4 u1 r1) (s2F p4 u2 r2)).1), .val (.int (lexF (decF nA u0 u1 u2).1 (decF nB (s0F p4 u0 r0) (s1F p4 u1 r1) (s2F p4 u2 r2)).1 (decF nA u0 u1 u2).2.1 (decF nA u0 u1 u2).2.2.1 (decF nA u0 u1 u2).2.2.2 (decF nB (s0F p4 u0 r0) (s1F p4 u1 r1) (s2F p4 u2 r2)).2.1 (decF nB (s0F p4 u0 r0) (s1F p4 u1 r1) (s2F p4 u2 r2)).2.2.1 (decF nB (s0F p4 u0 r0) (s1F p4 u1 r1) (s2F p4 u2 r2)).2.2.2)), .val (.int (cmpL (strF nA u0 u1 u2) (strF nB (s0F p4 u0 r0) (s1F p4 u1 r1) (s2F p4 u2 r2)) 0 0 (strF nA u0 u1 u2).length))] [(.int (sgF (cmpL (strF nA u0 u1 u2) (strF nB (s0F p4 u0 r0) (s1F p4 u1 r1) (s2F p4 u2 r2)) 0 0 (strF nA u0 u1 u2).length)))])
  refine W77.1.iload (hb hby at_229) rfl (pc' := 231) rfl ?_
  refine W77.1.icmpNo (hb hby at_231) (XT.ii_ne_f (law_eq (and3 hnA) (and3 hnB) (by rw [hu0]; exact dr_chr _ _ _) (by rw [hu1]; exact dr_chr _ _ _) (by rw [hu2]; exact dr_chr _ _ _) (s0_chr (by rw [hu0]; exact dr_chr _ _ _) (by rw [hr0]; exact dr_chr _ _ _)) (s1_chr (by rw [hu1]; exact dr_chr _ _ _) (by rw [hr1]; exact dr_chr _ _ _)) (s2_chr (by rw [hu2]; exact dr_chr _ _ _) (by rw [hr2]; exact dr_chr _ _ _)))) (pc' := 234) rfl ?_
  refine W77.1.iconst (1 : Int32) (hb hby at_234) rfl (pc' := 235) rfl ?_
  refine W77.1.goto (hb hby at_235) (by decide) (pc' := 239) (by decide) ?_
  exact W77.retZ hEL hret (hb hby at_239) (by decide) (by decide) (by decide) ⟨rfl, trivial⟩
set_option maxRecDepth 65536 in
set_option maxHeartbeats 40000000 in
theorem comes_1 {Post : Tables → Env → Array Value → State → Outcome → State → Prop} (hpost : ∀ tb e args s v u, (limb_1_1.after args s (.returned v) u = true ∧ limb_1_2.after args s (.returned v) u = true) → ReturnedEndW s (.returned v) u (Jvm.fieldLocs frame_1_writes args s ++ Jvm.arrayLocs frame_1_arrays args s ++ Jvm.staticLocs frame_1_statics s) 40 1216 → Post tb e args s (.returned v) u) :
    ArmFor flags0 classFile x code maxLocals ret World_1 tables_1 room_1 Calls_1 rest_1 Pre_1 Post := by
  intro l hfl _ _ p e ha hc hk s m args below hf hA hF happ hP
  obtain ⟨hcalls, hrest, hpre⟩ := hP
  obtain ⟨-, -, -, hnamed, -, -, -, hat⟩ := (Spec.applies_iff hf).mp happ
  obtain ⟨hg, hn⟩ := and_e (Cond.before_iff.mp (show (Jvm.Cond.and given_1 narrow_1).before args s = true from hpre))
  obtain ⟨gA1, gB1⟩ := and_e hg
  obtain ⟨gA2, gB2⟩ := and_e gB1
  obtain ⟨gA3, gB3⟩ := and_e gB2
  obtain ⟨gA4, gB4⟩ := and_e gB3
  obtain ⟨w0, w1, w2, w3, rfl⟩ : ∃ w0 w1 w2 w3 : Value, args = #[w0, w1, w2, w3] := by
    have hs : args.size = 4 := by simpa [Cond.value, given_1] using gA1
    obtain ⟨L⟩ := args
    match L, hs with
    | [w0, w1, w2, w3], _ => exact ⟨w0, w1, w2, w3, rfl⟩
  have hw := fun d (hd : d ∈ tables_1) => atoms_spec (ws := Jvm.Cond.code x code maxLocals ret :: tables_1) hat d (List.mem_cons_of_mem _ hd)
  have hfit : Fit s := fun {y c} hc i hi => by
    obtain ⟨ha, rfl⟩ := Array.getElem?_eq_some_iff.mp hc
    have q := List.all_eq_true.mp ((Array.all_eq_true_iff_forall_mem.mp hF) _ (Array.getElem_mem ha)) i (List.mem_range.mpr hi)
    simpa [Array.getElem?_eq_getElem hi] using q
  obtain ⟨hsets, hown0⟩ := atoms_of _ (rest_1_c_eq ▸ (show rest_1_c.before _ s = true from hrest))
  have hr0 := Cond.before_iff.mp hown0
  obtain ⟨i0, ei0⟩ := is_v gA2
  obtain rfl : w0 = (.int i0) := Option.some.inj ei0
  obtain ⟨i1, ei1⟩ := is_v gA3
  obtain rfl : w1 = (.int i1) := Option.some.inj ei1
  obtain ⟨i2, ei2⟩ := is_v gA4
  obtain rfl : w2 = (.int i2) := Option.some.inj ei2
  obtain ⟨i3, ei3⟩ := is_v gB4
  obtain rfl : w3 = (.int i3) := Option.some.inj ei3
  have n5 := not_v (Cond.before_iff.mp (hsets _ (List.mem_of_getElem? (i := 2) rfl)))
  obtain ⟨zc, ezc⟩ := is_v (Cond.before_iff.mp (hsets _ (List.mem_of_getElem? (i := 1) rfl)))
  have SC : Sta s s.heap "java/lang/String" "COMPACT_STRINGS" "Z" (.int zc) := Sta.start ezc (Or.inl (hsets _ (List.mem_of_getElem? (i := 0) rfl)))
  have hz : ¬ (zc = (0 : Int32)) := gotF (Cond.eq_ints ezc (Term.int_eval (0))) n5
  obtain ⟨fm, efm, rfm⟩ := isR_v (Cond.before_iff.mp (hsets _ (List.mem_of_getElem? (i := 8) rfl)))
  have SF : Sta s s.heap "jdk/internal/util/Preconditions" "SIOOBE_FORMATTER" "Ljava/util/function/BiFunction;" fm := Sta.start efm (Or.inl (hsets _ (List.mem_of_getElem? (i := 7) rfl)))
  have SA1 : Sta s s.heap "java/lang/StringUTF16" "$assertionsDisabled" "Z" (.int (1 : Int32)) := Sta.start (eqv_i (Term.int_eval _) (Cond.before_iff.mp (hsets _ (List.mem_of_getElem? (i := 12) rfl)))) (Or.inl (hsets _ (List.mem_of_getElem? (i := 11) rfl)))
  have SA2 : Sta s s.heap "java/lang/StringUTF16" "HI_BYTE_SHIFT" "I" (.int (0 : Int32)) := Sta.start (eqv_i (Term.int_eval _) (Cond.before_iff.mp (hsets _ (List.mem_of_getElem? (i := 15) rfl)))) (Or.inl (hsets _ (List.mem_of_getElem? (i := 14) rfl)))
  have SA3 : Sta s s.heap "java/lang/StringUTF16" "LO_BYTE_SHIFT" "I" (.int (8 : Int32)) := Sta.start (eqv_i (Term.int_eval _) (Cond.before_iff.mp (hsets _ (List.mem_of_getElem? (i := 18) rfl)))) (Or.inl (hsets _ (List.mem_of_getElem? (i := 17) rfl)))
  have hELs : EW s _ consts_1 := (EW.cons (hw _ (List.mem_of_getElem? (i := 38) rfl)) (by decide) EW.nil)
  have hCH : CHv s consts_1 s.vm s.heap := CHv.start hELs (fun q hq => constHeld_of (hcalls.1 q hq)) (hsets _ (List.mem_of_getElem? (i := 2) rfl)) (hw _ (List.mem_of_getElem? (i := 27) rfl)) (hw _ (List.mem_of_getElem? (i := 10) rfl))
  obtain ⟨n, o, h1, h2, h3, _, L, rfl, ⟨⟨rfl, -⟩, -, N⟩, -, hq⟩ := rmLaw l s _ hw hELs i0 i1 i2 i3 zc fm s.heap s.heap.size (Nat.le_refl _) SC hz SF rfm SA1 SA2 SA3 p e ha hc hk s m _ below hf ((Spec.applies_iff_loose hf).mp happ).1 ⟨rfl, State.Warmed39.refl s, rfl, hCH⟩ trivial
  exact ⟨n, _, h1, h2, h3, hpost _ _ _ _ _ _ ⟨Cond.after_iff.mpr rfl, Cond.after_iff.mpr (eq_i res_at (Term.int_eval (1)) rfl)⟩ ⟨hq.1, hq.2.1, hq.2.2.1, (hq.2.2.2.sift fun y hy => Or.inr (N y hy)).mono (by decide) (by decide)⟩⟩
theorem main_1_1 : Claimed_1_1 := comes_1 fun _ _ _ _ _ _ h hF => ⟨h.1, hF⟩
theorem main_1_2 : Claimed_1_2 := comes_1 fun _ _ _ _ _ _ h hF => ⟨h.2, hF⟩
end Jvm.Pilot.@@N@@
namespace Jvm.Pilot.@@N@@
open Jvm Jvm.ClassFile Sem Op Lib Jvm.Free Jvm.Stand Jvm.Pilot.@@N@@.Jvm.D
/-! MADE BY PROGRAM (witnessworld.py) out of the Statement's table words and the real class files: 23 classes; the members and pool entries that the words name. The judged class is class 1, her method 1. -/
namespace start1
open Jvm.ClassFile
def u (s : String) : CpInfo := .utf8 (stringToUtf16 s)
/-- a pool by its gaps: so many unusable entries, then the entry; so many at the end -/
def gap : Nat → List CpInfo → List CpInfo
  | 0, r => r
  | n + 1, r => .unusable :: gap n r
def poolList (es : List (Nat × CpInfo)) (last : Nat) : List CpInfo := es.foldr (fun e r => gap e.1 (e.2 :: r)) (gap last [])
def pool (es : List (Nat × CpInfo)) (last : Nat) : Array CpInfo := ⟨poolList es last⟩
def fileOf (pool : Array CpInfo) (this : Nat) (attrs : Array Attribute := #[]) (ms : Array MethodInfo := #[]) (fl : Nat := 33) (sup : Nat := 0) (ifs : Array Nat := #[]) (fds : Array FieldInfo := #[]) : ClassFile where
  minorVersion := 0
  majorVersion := 65
  constantPool := pool
  accessFlags := fl
  thisClass := this
  superClass := sup
  interfaces := ifs
  fields := fds
  methods := ms
  attributes := attrs
def plain (name : String) (sup : Option ClassId) : Class where
  name := name
  kind := .ordinary
  loader := none
  accessFlags := 33
  super := sup
  interfaces := #[]
  cf := none
  fields := #[]
  methods := #[]
  instanceTypes := #[]
  staticTypes := #[]
  resolved := #[]
  callSites := []
  init := .initialized
  statics := none
  mirror := none

def pool0 : Array CpInfo := pool [(5, u "<init>"), (0, u "()V"), (1, .class_ 10), (1, u "java/lang/Object")] 113

def k0c0 : Code := { maxStack := 0, maxLocals := 1, code := object_method_1_code, exceptionTable := #[], attributes := #[] }
def k0m0 : Method := { name := "<init>", desc := "()V", sig := { parameters := [], returnType := none }, accessFlags := 1, code := some k0c0 }
/-- java/lang/Object -/
def k0 : Class := { plain "java/lang/Object" none with
  accessFlags := 33
  interfaces := #[]
  cf := some (fileOf pool0 8 #[] #[{ accessFlags := 1, nameIndex := 5, descriptorIndex := 6, attributes := #[] }] 33 0 #[] #[])
  fields := #[]
  methods := #[k0m0]
  instanceTypes := #[]
  staticTypes := #[]
  resolved := Array.replicate 124 none
  statics := none }

def pool1 : Array CpInfo := pool [(2, .class_ 4), (1, u "java/lang/Object"), (0, u "<init>"), (0, u "()V"), (0, .methodref 8 9), (0, .class_ 10), (0, .nameAndType 11 12), (0, u "com/example/frugal_ranker/frugalranker/CodePointsComparePinLaw"), (0, u "draw"), (0, u "(III)C"), (0, .methodref 8 14), (0, .nameAndType 15 16), (0, u "str"), (0, u "([CI)Ljava/lang/String;"), (0, .methodref 8 18), (0, .nameAndType 19 20), (0, u "decode"), (0, u "([CI[I)I"), (0, .methodref 8 22), (0, .nameAndType 23 24), (0, u "lex"), (0, u "([II[II)I"), (0, .methodref 26 27), (0, .class_ 28), (0, .nameAndType 29 30), (0, u "com/example/frugal_ranker/frugalranker/CodePoints"), (0, u "compare"), (0, u "(Ljava/lang/String;Ljava/lang/String;)I"), (0, .methodref 8 32), (0, .nameAndType 33 34), (0, u "sgn"), (0, u "(I)I"), (0, .integer 65535), (0, .integer 55296), (0, .class_ 38), (0, u "java/lang/String"), (0, .methodref 37 40), (0, .nameAndType 5 41), (0, u "([C)V"), (0, .integer 56319), (0, .integer 56320), (0, .integer 57343), (0, .methodref 8 46), (0, .nameAndType 47 48), (0, u "pairAt"), (0, u "([CII)Z"), (0, .integer 65536), (0, .methodref 8 51), (0, .nameAndType 52 53), (0, u "cpAt"), (0, u "([CII)I"), (2, u "law"), (0, u "(IIII)Z")] 7

def k1m0 : Method := { name := "<init>", desc := "()V", sig := { parameters := [], returnType := none }, accessFlags := 2, code := none }
def k1c1 : Code := { maxStack := 4, maxLocals := 22, code := code, exceptionTable := #[], attributes := #[] }
def k1m1 : Method := { name := "law", desc := "(IIII)Z", sig := { parameters := [.int, .int, .int, .int], returnType := some .boolean }, accessFlags := 9, code := some k1c1 }
def k1c2 : Code := { maxStack := 3, maxLocals := 4, code := method_3_code, exceptionTable := #[], attributes := #[] }
def k1m2 : Method := { name := "draw", desc := "(III)C", sig := { parameters := [.int, .int, .int], returnType := some .char }, accessFlags := 10, code := some k1c2 }
def k1c3 : Code := { maxStack := 7, maxLocals := 2, code := method_4_code, exceptionTable := #[], attributes := #[] }
def k1m3 : Method := { name := "str", desc := "([CI)Ljava/lang/String;", sig := { parameters := [(.array .char), .int], returnType := some (.object "java/lang/String") }, accessFlags := 10, code := some k1c3 }
def k1c4 : Code := { maxStack := 3, maxLocals := 3, code := method_5_code, exceptionTable := #[], attributes := #[] }
def k1m4 : Method := { name := "pairAt", desc := "([CII)Z", sig := { parameters := [(.array .char), .int, .int], returnType := some .boolean }, accessFlags := 10, code := some k1c4 }
def k1c5 : Code := { maxStack := 4, maxLocals := 3, code := method_6_code, exceptionTable := #[], attributes := #[] }
def k1m5 : Method := { name := "cpAt", desc := "([CII)I", sig := { parameters := [(.array .char), .int, .int], returnType := some .int }, accessFlags := 10, code := some k1c5 }
def k1c6 : Code := { maxStack := 5, maxLocals := 5, code := method_7_code, exceptionTable := #[], attributes := #[] }
def k1m6 : Method := { name := "decode", desc := "([CI[I)I", sig := { parameters := [(.array .char), .int, (.array .int)], returnType := some .int }, accessFlags := 10, code := some k1c6 }
def k1c7 : Code := { maxStack := 1, maxLocals := 1, code := method_8_code, exceptionTable := #[], attributes := #[] }
def k1m7 : Method := { name := "sgn", desc := "(I)I", sig := { parameters := [.int], returnType := some .int }, accessFlags := 10, code := some k1c7 }
def k1c8 : Code := { maxStack := 3, maxLocals := 4, code := method_9_code, exceptionTable := #[], attributes := #[] }
def k1m8 : Method := { name := "lex", desc := "([II[II)I", sig := { parameters := [(.array .int), .int, (.array .int), .int], returnType := some .int }, accessFlags := 10, code := some k1c8 }
/-- com/example/frugal_ranker/frugalranker/CodePointsComparePinLaw -/
def k1 : Class := { plain "com/example/frugal_ranker/frugalranker/CodePointsComparePinLaw" (some 0) with
  accessFlags := 49
  interfaces := #[]
  cf := some (fileOf pool1 8 #[] #[{ accessFlags := 2, nameIndex := 5, descriptorIndex := 6, attributes := #[] }, { accessFlags := 9, nameIndex := 56, descriptorIndex := 57, attributes := #[] }, { accessFlags := 10, nameIndex := 11, descriptorIndex := 12, attributes := #[] }, { accessFlags := 10, nameIndex := 15, descriptorIndex := 16, attributes := #[] }, { accessFlags := 10, nameIndex := 47, descriptorIndex := 48, attributes := #[] }, { accessFlags := 10, nameIndex := 52, descriptorIndex := 53, attributes := #[] }, { accessFlags := 10, nameIndex := 19, descriptorIndex := 20, attributes := #[] }, { accessFlags := 10, nameIndex := 33, descriptorIndex := 34, attributes := #[] }, { accessFlags := 10, nameIndex := 23, descriptorIndex := 24, attributes := #[] }] 49 2 #[] #[])
  fields := #[]
  methods := #[k1m0, k1m1, k1m2, k1m3, k1m4, k1m5, k1m6, k1m7, k1m8]
  instanceTypes := #[]
  staticTypes := #[]
  resolved := Array.replicate 65 none
  statics := none }

def pool2 : Array CpInfo := pool [(1, .class_ 2), (0, u "java/io/Serializable"), (0, .class_ 4), (0, u "java/lang/Object")] 2

/-- java/io/Serializable -/
def k2 : Class := { plain "java/io/Serializable" (some 0) with
  accessFlags := 1537
  interfaces := #[]
  cf := some (fileOf pool2 1 #[] #[] 1537 3 #[] #[])
  fields := #[]
  methods := #[]
  instanceTypes := #[]
  staticTypes := #[]
  resolved := Array.replicate 7 none
  statics := none }

def pool3 : Array CpInfo := pool [(1, .class_ 2), (0, u "java/lang/Comparable"), (0, .class_ 4), (0, u "java/lang/Object")] 7

/-- java/lang/Comparable -/
def k3 : Class := { plain "java/lang/Comparable" (some 0) with
  accessFlags := 1537
  interfaces := #[]
  cf := some (fileOf pool3 1 #[] #[] 1537 3 #[] #[])
  fields := #[]
  methods := #[]
  instanceTypes := #[]
  staticTypes := #[]
  resolved := Array.replicate 12 none
  statics := none }

def pool4 : Array CpInfo := pool [(2, .class_ 4), (1, u "java/lang/CharSequence"), (42, .class_ 48), (0, u "java/lang/CharSequence$1CodePointIterator"), (10, .class_ 60), (0, u "java/lang/CharSequence$1CharIterator"), (5, .class_ 67), (0, u "java/lang/Object")] 63

/-- java/lang/CharSequence -/
def k4 : Class := { plain "java/lang/CharSequence" (some 0) with
  accessFlags := 1537
  interfaces := #[]
  cf := some (fileOf pool4 2 #[.nestMembers #[47, 59]] #[] 1537 66 #[] #[])
  fields := #[]
  methods := #[]
  instanceTypes := #[]
  staticTypes := #[]
  resolved := Array.replicate 131 none
  statics := none }

def pool5 : Array CpInfo := pool [(1, .class_ 2), (0, u "java/lang/constant/Constable"), (0, .class_ 4), (0, u "java/lang/Object")] 6

/-- java/lang/constant/Constable -/
def k5 : Class := { plain "java/lang/constant/Constable" (some 0) with
  accessFlags := 1537
  interfaces := #[]
  cf := some (fileOf pool5 1 #[] #[] 1537 3 #[] #[])
  fields := #[]
  methods := #[]
  instanceTypes := #[]
  staticTypes := #[]
  resolved := Array.replicate 11 none
  statics := none }

def pool6 : Array CpInfo := pool [(1, .class_ 2), (0, u "java/lang/constant/ConstantDesc"), (0, .class_ 4), (0, u "java/lang/Object")] 32

/-- java/lang/constant/ConstantDesc -/
def k6 : Class := { plain "java/lang/constant/ConstantDesc" (some 0) with
  accessFlags := 1537
  interfaces := #[]
  cf := some (fileOf pool6 1 #[] #[] 1537 3 #[] #[])
  fields := #[]
  methods := #[]
  instanceTypes := #[]
  staticTypes := #[]
  resolved := Array.replicate 37 none
  statics := none }

def pool7 : Array CpInfo := pool [(1, .methodref 2 3), (0, .class_ 4), (0, .nameAndType 5 6), (0, u "java/lang/Object"), (0, u "<init>"), (0, u "()V"), (0, .string 8), (0, u ""), (0, .fieldref 10 11), (0, .class_ 12), (0, .nameAndType 13 14), (0, u "java/lang/String"), (0, u "value"), (0, u "[B"), (0, .fieldref 10 16), (0, .nameAndType 17 18), (0, u "coder"), (0, u "B"), (2, u "hash"), (0, u "I"), (2, u "hashIsZero"), (0, u "Z"), (0, .methodref 10 28), (0, .nameAndType 5 29), (0, u "([CIILjava/lang/Void;)V"), (8, .fieldref 10 39), (0, .nameAndType 40 26), (0, u "COMPACT_STRINGS"), (1, .class_ 44), (1, u "java/lang/StringUTF16"), (0, u "compress"), (1, .methodref 42 48), (0, .nameAndType 49 50), (0, u "coderFromArrayLen"), (0, u "([BI)B"), (46, u "([BII)I"), (44, u "()Z"), (34, .methodref 42 178), (0, .nameAndType 45 179), (0, u "([CII)[B"), (154, u "()I"), (0, .methodref 10 336), (0, .nameAndType 17 337), (0, u "()B"), (53, u "(II)V"), (100, .methodref 10 493), (0, .nameAndType 494 142), (0, u "isLatin1"), (4, .methodref 10 500), (0, .nameAndType 501 391), (0, u "checkIndex"), (0, .methodref 42 503), (0, .nameAndType 504 97), (0, u "codePointAt"), (2, u "length"), (67, .class_ 576), (0, u "java/lang/CharSequence"), (22, u "CASE_INSENSITIVE_ORDER"), (0, u "Ljava/util/Comparator;"), (164, u "(I)I"), (244, u "([C)V"), (42, .fieldref 1054 1055), (0, .class_ 1056), (0, .nameAndType 1057 1058), (0, u "jdk/internal/util/Preconditions"), (0, u "SIOOBE_FORMATTER"), (0, u "Ljava/util/function/BiFunction;"), (0, .methodref 1054 1060), (0, .nameAndType 501 1061), (0, u "(IILjava/util/function/BiFunction;)I"), (39, u "serialPersistentFields"), (0, u "[Ljava/io/ObjectStreamField;"), (0, .class_ 1104), (0, u "java/lang/String$CaseInsensitiveComparator"), (1, .class_ 1107), (0, u "java/io/Serializable"), (0, .class_ 1109), (0, u "java/lang/Comparable"), (0, .class_ 1111), (0, u "java/lang/constant/Constable"), (0, .class_ 1113), (0, u "java/lang/constant/ConstantDesc"), (2, u "serialVersionUID"), (0, u "J"), (3, u "REPL"), (0, u "C"), (2, u "LATIN1"), (1, u "UTF16")] 323

def k7m0 : Method := { name := "<init>", desc := "()V", sig := { parameters := [], returnType := none }, accessFlags := 1, code := none }
def k7c1 : Code := { maxStack := 5, maxLocals := 2, code := jdk_42_method_3_code, exceptionTable := #[], attributes := #[] }
def k7m1 : Method := { name := "<init>", desc := "([C)V", sig := { parameters := [(.array .char)], returnType := none }, accessFlags := 1, code := some k7c1 }
def k7c2 : Code := { maxStack := 2, maxLocals := 1, code := jdk_42_method_54_code, exceptionTable := #[], attributes := #[] }
def k7m2 : Method := { name := "length", desc := "()I", sig := { parameters := [], returnType := some .int }, accessFlags := 1, code := some k7c2 }
def k7c3 : Code := { maxStack := 3, maxLocals := 3, code := jdk_42_method_57_code, exceptionTable := #[], attributes := #[] }
def k7m3 : Method := { name := "codePointAt", desc := "(I)I", sig := { parameters := [.int], returnType := some .int }, accessFlags := 1, code := some k7c3 }
def k7c4 : Code := { maxStack := 4, maxLocals := 6, code := jdk_42_method_149_code, exceptionTable := #[], attributes := #[] }
def k7m4 : Method := { name := "<init>", desc := "([CIILjava/lang/Void;)V", sig := { parameters := [(.array .char), .int, .int, (.object "java/lang/Void")], returnType := none }, accessFlags := 2, code := some k7c4 }
def k7c5 : Code := { maxStack := 1, maxLocals := 1, code := jdk_42_method_152_code, exceptionTable := #[], attributes := #[] }
def k7m5 : Method := { name := "coder", desc := "()B", sig := { parameters := [], returnType := some .byte }, accessFlags := 0, code := some k7c5 }
def k7c6 : Code := { maxStack := 1, maxLocals := 1, code := jdk_42_method_154_code, exceptionTable := #[], attributes := #[] }
def k7m6 : Method := { name := "isLatin1", desc := "()Z", sig := { parameters := [], returnType := some .boolean }, accessFlags := 0, code := some k7c6 }
def k7c7 : Code := { maxStack := 3, maxLocals := 2, code := jdk_42_method_155_code, exceptionTable := #[], attributes := #[] }
def k7m7 : Method := { name := "checkIndex", desc := "(II)V", sig := { parameters := [.int, .int], returnType := none }, accessFlags := 8, code := some k7c7 }
/-- java/lang/String -/
def k7 : Class := { plain "java/lang/String" (some 0) with
  accessFlags := 49
  interfaces := #[2, 3, 4, 5, 6]
  cf := some (fileOf pool7 10 #[.nestMembers #[1103]] #[{ accessFlags := 1, nameIndex := 5, descriptorIndex := 6, attributes := #[] }, { accessFlags := 1, nameIndex := 5, descriptorIndex := 1010, attributes := #[] }, { accessFlags := 1, nameIndex := 507, descriptorIndex := 334, attributes := #[] }, { accessFlags := 1, nameIndex := 504, descriptorIndex := 765, attributes := #[] }, { accessFlags := 2, nameIndex := 5, descriptorIndex := 29, attributes := #[] }, { accessFlags := 0, nameIndex := 17, descriptorIndex := 337, attributes := #[] }, { accessFlags := 0, nameIndex := 494, descriptorIndex := 142, attributes := #[] }, { accessFlags := 8, nameIndex := 501, descriptorIndex := 391, attributes := #[] }] 49 2 #[1106, 1108, 575, 1110, 1112] #[{ accessFlags := 18, nameIndex := 13, descriptorIndex := 14, attributes := #[] }, { accessFlags := 18, nameIndex := 17, descriptorIndex := 18, attributes := #[] }, { accessFlags := 2, nameIndex := 21, descriptorIndex := 22, attributes := #[] }, { accessFlags := 2, nameIndex := 25, descriptorIndex := 26, attributes := #[] }, { accessFlags := 26, nameIndex := 1116, descriptorIndex := 1117, attributes := #[] }, { accessFlags := 24, nameIndex := 40, descriptorIndex := 26, attributes := #[] }, { accessFlags := 26, nameIndex := 1101, descriptorIndex := 1102, attributes := #[] }, { accessFlags := 26, nameIndex := 1121, descriptorIndex := 1122, attributes := #[] }, { accessFlags := 25, nameIndex := 599, descriptorIndex := 600, attributes := #[] }, { accessFlags := 24, nameIndex := 1125, descriptorIndex := 18, attributes := #[] }, { accessFlags := 24, nameIndex := 1127, descriptorIndex := 18, attributes := #[] }])
  fields := #[{ name := "value", type := (.array .byte), accessFlags := 18, slot := 0, constantValue := 0 }, { name := "coder", type := .byte, accessFlags := 18, slot := 1, constantValue := 0 }, { name := "hash", type := .int, accessFlags := 2, slot := 2, constantValue := 0 }, { name := "hashIsZero", type := .boolean, accessFlags := 2, slot := 3, constantValue := 0 }, { name := "serialVersionUID", type := .long, accessFlags := 26, slot := 0, constantValue := 0 }, { name := "COMPACT_STRINGS", type := .boolean, accessFlags := 24, slot := 1, constantValue := 0 }, { name := "serialPersistentFields", type := (.array (.object "java/io/ObjectStreamField")), accessFlags := 26, slot := 2, constantValue := 0 }, { name := "REPL", type := .char, accessFlags := 26, slot := 3, constantValue := 0 }, { name := "CASE_INSENSITIVE_ORDER", type := (.object "java/util/Comparator"), accessFlags := 25, slot := 4, constantValue := 0 }, { name := "LATIN1", type := .byte, accessFlags := 24, slot := 5, constantValue := 0 }, { name := "UTF16", type := .byte, accessFlags := 24, slot := 6, constantValue := 0 }]
  methods := #[k7m0, k7m1, k7m2, k7m3, k7m4, k7m5, k7m6, k7m7]
  instanceTypes := #[(.array .byte), .byte, .int, .boolean]
  staticTypes := #[.long, .boolean, (.array (.object "java/io/ObjectStreamField")), .char, (.object "java/util/Comparator"), .byte, .byte]
  resolved := Array.replicate 1451 none
  statics := some 0 }

def pool8 : Array CpInfo := pool [(6, .class_ 8), (1, u "java/lang/Object"), (0, u "<init>"), (0, u "()V"), (0, .methodref 12 13), (0, .class_ 14), (0, .nameAndType 15 16), (0, u "java/lang/StringUTF16"), (0, u "newBytesLength"), (0, u "(I)I"), (3, .integer 1073741823), (23, .fieldref 12 45), (0, .nameAndType 46 47), (0, u "$assertionsDisabled"), (0, u "Z"), (11, .fieldref 12 60), (0, .nameAndType 61 62), (0, u "HI_BYTE_SHIFT"), (0, u "I"), (0, .fieldref 12 64), (0, .nameAndType 65 62), (0, u "LO_BYTE_SHIFT"), (5, .methodref 12 72), (0, .nameAndType 73 74), (0, u "getChar"), (0, u "([BI)C"), (0, .methodref 76 77), (0, .class_ 78), (0, .nameAndType 79 80), (0, u "java/lang/Character"), (0, u "isHighSurrogate"), (0, u "(C)Z"), (0, .methodref 76 82), (0, .nameAndType 83 80), (0, u "isLowSurrogate"), (0, .methodref 76 85), (0, .nameAndType 86 87), (0, u "toCodePoint"), (0, u "(CC)I"), (0, .methodref 12 89), (0, .nameAndType 90 91), (0, u "codePointAt"), (0, u "([BIIZ)I"), (15, .methodref 12 108), (0, .nameAndType 109 110), (0, u "newBytesFor"), (0, u "(I)[B"), (0, .methodref 12 112), (0, .nameAndType 113 114), (0, u "putChar"), (0, u "([BII)V"), (0, .methodref 12 116), (0, .nameAndType 117 118), (0, u "compress"), (0, u "([CI[BII)I"), (0, .methodref 12 120), (0, .nameAndType 121 122), (0, u "toBytes"), (0, u "([CII)[B"), (127, u "([BII)I"), (10, u "coderFromArrayLen"), (0, u "([BI)B"), (106, .class_ 371), (1, u "java/lang/StringUTF16$LinesSpliterator"), (58, u "MAX_LENGTH"), (196, .class_ 628), (0, u "java/lang/StringUTF16$CodePointsSpliterator"), (0, .class_ 630), (0, u "java/lang/StringUTF16$CharsSpliterator")] 4

def k8m0 : Method := { name := "<init>", desc := "()V", sig := { parameters := [], returnType := none }, accessFlags := 0, code := none }
def k8c1 : Code := { maxStack := 1, maxLocals := 1, code := jdk_52_method_2_code, exceptionTable := #[], attributes := #[] }
def k8m1 : Method := { name := "newBytesFor", desc := "(I)[B", sig := { parameters := [.int], returnType := some (.array .byte) }, accessFlags := 9, code := some k8c1 }
def k8c2 : Code := { maxStack := 4, maxLocals := 1, code := jdk_52_method_3_code, exceptionTable := #[], attributes := #[] }
def k8m2 : Method := { name := "newBytesLength", desc := "(I)I", sig := { parameters := [.int], returnType := some .int }, accessFlags := 9, code := some k8c2 }
def k8c3 : Code := { maxStack := 4, maxLocals := 3, code := jdk_52_method_4_code, exceptionTable := #[], attributes := #[] }
def k8m3 : Method := { name := "putChar", desc := "([BII)V", sig := { parameters := [(.array .byte), .int, .int], returnType := none }, accessFlags := 8, code := some k8c3 }
def k8c4 : Code := { maxStack := 3, maxLocals := 2, code := jdk_52_method_5_code, exceptionTable := #[], attributes := #[] }
def k8m4 : Method := { name := "getChar", desc := "([BI)C", sig := { parameters := [(.array .byte), .int], returnType := some .char }, accessFlags := 8, code := some k8c4 }
def k8c5 : Code := { maxStack := 2, maxLocals := 6, code := jdk_52_method_7_code, exceptionTable := #[], attributes := #[] }
def k8m5 : Method := { name := "codePointAt", desc := "([BIIZ)I", sig := { parameters := [(.array .byte), .int, .int, .boolean], returnType := some .int }, accessFlags := 10, code := some k8c5 }
def k8c6 : Code := { maxStack := 4, maxLocals := 3, code := jdk_52_method_8_code, exceptionTable := #[], attributes := #[] }
def k8m6 : Method := { name := "codePointAt", desc := "([BII)I", sig := { parameters := [(.array .byte), .int, .int], returnType := some .int }, accessFlags := 9, code := some k8c6 }
def k8c7 : Code := { maxStack := 4, maxLocals := 5, code := jdk_52_method_14_code, exceptionTable := #[], attributes := #[] }
def k8m7 : Method := { name := "toBytes", desc := "([CII)[B", sig := { parameters := [(.array .char), .int, .int], returnType := some (.array .byte) }, accessFlags := 9, code := some k8c7 }
def k8c8 : Code := { maxStack := 2, maxLocals := 2, code := jdk_52_method_15_code, exceptionTable := #[], attributes := #[] }
def k8m8 : Method := { name := "coderFromArrayLen", desc := "([BI)B", sig := { parameters := [(.array .byte), .int], returnType := some .byte }, accessFlags := 8, code := some k8c8 }
def k8c9 : Code := { maxStack := 5, maxLocals := 6, code := jdk_52_method_16_code, exceptionTable := #[], attributes := #[] }
def k8m9 : Method := { name := "compress", desc := "([CII)[B", sig := { parameters := [(.array .char), .int, .int], returnType := some (.array .byte) }, accessFlags := 9, code := some k8c9 }
def k8c10 : Code := { maxStack := 3, maxLocals := 7, code := jdk_52_method_21_code, exceptionTable := #[], attributes := #[] }
def k8m10 : Method := { name := "compress", desc := "([CI[BII)I", sig := { parameters := [(.array .char), .int, (.array .byte), .int, .int], returnType := some .int }, accessFlags := 9, code := some k8c10 }
/-- java/lang/StringUTF16 -/
def k8 : Class := { plain "java/lang/StringUTF16" (some 0) with
  accessFlags := 48
  interfaces := #[]
  cf := some (fileOf pool8 12 #[.nestMembers #[627, 629, 369]] #[{ accessFlags := 0, nameIndex := 9, descriptorIndex := 10, attributes := #[] }, { accessFlags := 9, nameIndex := 109, descriptorIndex := 110, attributes := #[] }, { accessFlags := 9, nameIndex := 15, descriptorIndex := 16, attributes := #[] }, { accessFlags := 8, nameIndex := 113, descriptorIndex := 114, attributes := #[] }, { accessFlags := 8, nameIndex := 73, descriptorIndex := 74, attributes := #[] }, { accessFlags := 10, nameIndex := 90, descriptorIndex := 91, attributes := #[] }, { accessFlags := 9, nameIndex := 90, descriptorIndex := 250, attributes := #[] }, { accessFlags := 9, nameIndex := 121, descriptorIndex := 122, attributes := #[] }, { accessFlags := 8, nameIndex := 261, descriptorIndex := 262, attributes := #[] }, { accessFlags := 9, nameIndex := 117, descriptorIndex := 122, attributes := #[] }, { accessFlags := 9, nameIndex := 117, descriptorIndex := 118, attributes := #[] }] 48 6 #[] #[{ accessFlags := 26, nameIndex := 61, descriptorIndex := 62, attributes := #[] }, { accessFlags := 26, nameIndex := 65, descriptorIndex := 62, attributes := #[] }, { accessFlags := 24, nameIndex := 430, descriptorIndex := 62, attributes := #[] }, { accessFlags := 4120, nameIndex := 46, descriptorIndex := 47, attributes := #[] }])
  fields := #[{ name := "HI_BYTE_SHIFT", type := .int, accessFlags := 26, slot := 0, constantValue := 0 }, { name := "LO_BYTE_SHIFT", type := .int, accessFlags := 26, slot := 1, constantValue := 0 }, { name := "MAX_LENGTH", type := .int, accessFlags := 24, slot := 2, constantValue := 0 }, { name := "$assertionsDisabled", type := .boolean, accessFlags := 4120, slot := 3, constantValue := 0 }]
  methods := #[k8m0, k8m1, k8m2, k8m3, k8m4, k8m5, k8m6, k8m7, k8m8, k8m9, k8m10]
  instanceTypes := #[]
  staticTypes := #[.int, .int, .int, .boolean]
  resolved := Array.replicate 635 none
  statics := some 1 }

def pool9 : Array CpInfo := pool [(2, .class_ 4), (1, u "java/lang/Object"), (0, u "<init>"), (0, u "()V"), (0, .methodref 8 9), (0, .class_ 10), (0, .nameAndType 11 12), (0, u "java/lang/String"), (0, u "length"), (0, u "()I"), (0, .methodref 8 14), (0, .nameAndType 15 16), (0, u "codePointAt"), (0, u "(I)I"), (0, .methodref 18 19), (0, .class_ 20), (0, .nameAndType 21 22), (0, u "java/lang/Integer"), (0, u "compare"), (0, u "(II)I"), (0, .methodref 24 25), (0, .class_ 26), (0, .nameAndType 27 16), (0, u "java/lang/Character"), (0, u "charCount"), (0, .class_ 29), (0, u "com/example/frugal_ranker/frugalranker/CodePoints"), (2, u "(Ljava/lang/String;Ljava/lang/String;)I")] 3

def k9m0 : Method := { name := "<init>", desc := "()V", sig := { parameters := [], returnType := none }, accessFlags := 2, code := none }
def k9c1 : Code := { maxStack := 3, maxLocals := 6, code := prog_8_method_2_code, exceptionTable := #[], attributes := #[] }
def k9m1 : Method := { name := "compare", desc := "(Ljava/lang/String;Ljava/lang/String;)I", sig := { parameters := [(.object "java/lang/String"), (.object "java/lang/String")], returnType := some .int }, accessFlags := 8, code := some k9c1 }
/-- com/example/frugal_ranker/frugalranker/CodePoints -/
def k9 : Class := { plain "com/example/frugal_ranker/frugalranker/CodePoints" (some 0) with
  accessFlags := 32
  interfaces := #[]
  cf := some (fileOf pool9 28 #[] #[{ accessFlags := 2, nameIndex := 5, descriptorIndex := 6, attributes := #[] }, { accessFlags := 8, nameIndex := 21, descriptorIndex := 32, attributes := #[] }] 32 2 #[] #[])
  fields := #[]
  methods := #[k9m0, k9m1]
  instanceTypes := #[]
  staticTypes := #[]
  resolved := Array.replicate 36 none
  statics := none }

def pool10 : Array CpInfo := pool [(2, .class_ 4), (1, u "java/lang/Object"), (0, u "<init>"), (0, u "()V"), (1, .class_ 10), (1, u "java/lang/Number"), (2, .class_ 14), (0, u "java/io/Serializable"), (0, u "serialVersionUID"), (0, u "J")] 20

def k10m0 : Method := { name := "<init>", desc := "()V", sig := { parameters := [], returnType := none }, accessFlags := 1, code := none }
/-- java/lang/Number -/
def k10 : Class := { plain "java/lang/Number" (some 0) with
  accessFlags := 1057
  interfaces := #[2]
  cf := some (fileOf pool10 8 #[] #[{ accessFlags := 1, nameIndex := 5, descriptorIndex := 6, attributes := #[] }] 1057 2 #[13] #[{ accessFlags := 26, nameIndex := 15, descriptorIndex := 16, attributes := #[] }])
  fields := #[{ name := "serialVersionUID", type := .long, accessFlags := 26, slot := 0, constantValue := 0 }]
  methods := #[k10m0]
  instanceTypes := #[]
  staticTypes := #[.long]
  resolved := Array.replicate 37 none
  statics := none }

def pool11 : Array CpInfo := pool [(1, .class_ 2), (0, u "java/lang/Integer"), (16, u "digits"), (0, u "[C"), (39, u "(II)I"), (24, u "DigitOnes"), (0, u "[B"), (2, u "DigitTens"), (99, .class_ 190), (0, u "java/lang/Integer$IntegerCache"), (3, u "I"), (8, .class_ 204), (0, u "java/lang/Number"), (2, u "value"), (53, u "compare"), (40, u "TYPE"), (0, u "Ljava/lang/Class;"), (0, .class_ 305), (0, u "java/lang/Comparable"), (0, .class_ 307), (0, u "java/lang/constant/Constable"), (0, .class_ 309), (0, u "java/lang/constant/ConstantDesc"), (0, u "MIN_VALUE"), (1, u "MAX_VALUE"), (3, u "SIZE"), (1, u "BYTES"), (1, u "serialVersionUID"), (0, u "J")] 131

def k11c0 : Code := { maxStack := 2, maxLocals := 2, code := jdk_33_method_40_code, exceptionTable := #[], attributes := #[] }
def k11m0 : Method := { name := "compare", desc := "(II)I", sig := { parameters := [.int, .int], returnType := some .int }, accessFlags := 9, code := some k11c0 }
/-- java/lang/Integer -/
def k11 : Class := { plain "java/lang/Integer" (some 10) with
  accessFlags := 49
  interfaces := #[3, 5, 6]
  cf := some (fileOf pool11 1 #[.nestMembers #[189]] #[{ accessFlags := 9, nameIndex := 261, descriptorIndex := 60, attributes := #[] }] 49 203 #[304, 306, 308] #[{ accessFlags := 25, nameIndex := 310, descriptorIndex := 194, attributes := #[] }, { accessFlags := 25, nameIndex := 312, descriptorIndex := 194, attributes := #[] }, { accessFlags := 25, nameIndex := 302, descriptorIndex := 303, attributes := #[] }, { accessFlags := 24, nameIndex := 19, descriptorIndex := 20, attributes := #[] }, { accessFlags := 24, nameIndex := 89, descriptorIndex := 86, attributes := #[] }, { accessFlags := 24, nameIndex := 85, descriptorIndex := 86, attributes := #[] }, { accessFlags := 18, nameIndex := 207, descriptorIndex := 194, attributes := #[] }, { accessFlags := 25, nameIndex := 316, descriptorIndex := 194, attributes := #[] }, { accessFlags := 25, nameIndex := 318, descriptorIndex := 194, attributes := #[] }, { accessFlags := 26, nameIndex := 320, descriptorIndex := 321, attributes := #[] }])
  fields := #[{ name := "MIN_VALUE", type := .int, accessFlags := 25, slot := 0, constantValue := 0 }, { name := "MAX_VALUE", type := .int, accessFlags := 25, slot := 1, constantValue := 0 }, { name := "TYPE", type := (.object "java/lang/Class"), accessFlags := 25, slot := 2, constantValue := 0 }, { name := "digits", type := (.array .char), accessFlags := 24, slot := 3, constantValue := 0 }, { name := "DigitTens", type := (.array .byte), accessFlags := 24, slot := 4, constantValue := 0 }, { name := "DigitOnes", type := (.array .byte), accessFlags := 24, slot := 5, constantValue := 0 }, { name := "value", type := .int, accessFlags := 18, slot := 0, constantValue := 0 }, { name := "SIZE", type := .int, accessFlags := 25, slot := 6, constantValue := 0 }, { name := "BYTES", type := .int, accessFlags := 25, slot := 7, constantValue := 0 }, { name := "serialVersionUID", type := .long, accessFlags := 26, slot := 8, constantValue := 0 }]
  methods := #[k11m0]
  instanceTypes := #[.int]
  staticTypes := #[.int, .int, (.object "java/lang/Class"), (.array .char), (.array .byte), (.array .byte), .int, .int, .long]
  resolved := Array.replicate 453 none
  statics := none }

def pool12 : Array CpInfo := pool [(2, .class_ 4), (1, u "java/lang/Object"), (0, u "<init>"), (0, u "()V"), (17, .class_ 26), (1, u "jdk/internal/util/Preconditions"), (6, u "checkIndex"), (21, .class_ 56), (0, u "jdk/internal/util/Preconditions$4"), (57, .class_ 115), (0, u "jdk/internal/util/Preconditions$1"), (7, u "SIOOBE_FORMATTER"), (0, u "Ljava/util/function/BiFunction;"), (0, .class_ 126), (0, u "jdk/internal/util/Preconditions$2"), (3, u "AIOOBE_FORMATTER"), (0, .class_ 132), (0, u "jdk/internal/util/Preconditions$3"), (3, u "IOOBE_FORMATTER"), (41, u "(IILjava/util/function/BiFunction;)I")] 15

def k12m0 : Method := { name := "<init>", desc := "()V", sig := { parameters := [], returnType := none }, accessFlags := 1, code := none }
def k12c1 : Code := { maxStack := 3, maxLocals := 3, code := jdk_41_method_11_code, exceptionTable := #[], attributes := #[] }
def k12m1 : Method := { name := "checkIndex", desc := "(IILjava/util/function/BiFunction;)I", sig := { parameters := [.int, .int, (.object "java/util/function/BiFunction")], returnType := some .int }, accessFlags := 9, code := some k12c1 }
/-- jdk/internal/util/Preconditions -/
def k12 : Class := { plain "jdk/internal/util/Preconditions" (some 0) with
  accessFlags := 33
  interfaces := #[]
  cf := some (fileOf pool12 24 #[.nestMembers #[55, 131, 125, 114]] #[{ accessFlags := 1, nameIndex := 5, descriptorIndex := 6, attributes := #[] }, { accessFlags := 9, nameIndex := 33, descriptorIndex := 178, attributes := #[] }] 33 2 #[] #[{ accessFlags := 25, nameIndex := 123, descriptorIndex := 124, attributes := #[] }, { accessFlags := 25, nameIndex := 130, descriptorIndex := 124, attributes := #[] }, { accessFlags := 25, nameIndex := 136, descriptorIndex := 124, attributes := #[] }])
  fields := #[{ name := "SIOOBE_FORMATTER", type := (.object "java/util/function/BiFunction"), accessFlags := 25, slot := 0, constantValue := 0 }, { name := "AIOOBE_FORMATTER", type := (.object "java/util/function/BiFunction"), accessFlags := 25, slot := 1, constantValue := 0 }, { name := "IOOBE_FORMATTER", type := (.object "java/util/function/BiFunction"), accessFlags := 25, slot := 2, constantValue := 0 }]
  methods := #[k12m0, k12m1]
  instanceTypes := #[]
  staticTypes := #[(.object "java/util/function/BiFunction"), (.object "java/util/function/BiFunction"), (.object "java/util/function/BiFunction")]
  resolved := Array.replicate 194 none
  statics := some 2 }

def pool13 : Array CpInfo := pool [(1, .class_ 2), (0, u "java/lang/Character"), (18, u "value"), (0, u "C"), (19, .class_ 44), (1, u "java/lang/Object"), (3, .class_ 50), (1, u "java/lang/Character$CharacterCache"), (22, .integer 65536), (1, .integer 55296), (0, .integer 56320), (0, .integer 57344), (2, u "isHighSurrogate"), (0, u "(C)Z"), (2, u "isLowSurrogate"), (0, .integer 4238353408), (12, u "toCodePoint"), (0, u "(CC)I"), (74, u "(I)I"), (109, u "$assertionsDisabled"), (0, u "Z"), (21, .class_ 309), (1, u "java/lang/Character$UnicodeBlock"), (73, u "TYPE"), (0, u "Ljava/lang/Class;"), (0, .class_ 386), (0, u "java/io/Serializable"), (0, .class_ 388), (0, u "java/lang/Comparable"), (0, .class_ 390), (0, u "java/lang/constant/Constable"), (0, u "MIN_RADIX"), (0, u "I"), (2, u "MAX_RADIX"), (1, u "MIN_VALUE"), (1, u "MAX_VALUE"), (3, u "UNASSIGNED"), (0, u "B"), (0, u "UPPERCASE_LETTER"), (1, u "LOWERCASE_LETTER"), (0, u "TITLECASE_LETTER"), (1, u "MODIFIER_LETTER"), (1, u "OTHER_LETTER"), (1, u "NON_SPACING_MARK"), (1, u "ENCLOSING_MARK"), (1, u "COMBINING_SPACING_MARK"), (1, u "DECIMAL_DIGIT_NUMBER"), (1, u "LETTER_NUMBER"), (1, u "OTHER_NUMBER"), (1, u "SPACE_SEPARATOR"), (1, u "LINE_SEPARATOR"), (1, u "PARAGRAPH_SEPARATOR"), (1, u "CONTROL"), (1, u "FORMAT"), (1, u "PRIVATE_USE"), (1, u "SURROGATE"), (1, u "DASH_PUNCTUATION"), (1, u "START_PUNCTUATION"), (1, u "END_PUNCTUATION"), (1, u "CONNECTOR_PUNCTUATION"), (1, u "OTHER_PUNCTUATION"), (1, u "MATH_SYMBOL"), (1, u "CURRENCY_SYMBOL"), (1, u "MODIFIER_SYMBOL"), (1, u "OTHER_SYMBOL"), (1, u "INITIAL_QUOTE_PUNCTUATION"), (1, u "FINAL_QUOTE_PUNCTUATION"), (1, u "ERROR"), (1, u "DIRECTIONALITY_UNDEFINED"), (0, u "DIRECTIONALITY_LEFT_TO_RIGHT"), (0, u "DIRECTIONALITY_RIGHT_TO_LEFT"), (0, u "DIRECTIONALITY_RIGHT_TO_LEFT_ARABIC"), (0, u "DIRECTIONALITY_EUROPEAN_NUMBER"), (0, u "DIRECTIONALITY_EUROPEAN_NUMBER_SEPARATOR"), (0, u "DIRECTIONALITY_EUROPEAN_NUMBER_TERMINATOR"), (0, u "DIRECTIONALITY_ARABIC_NUMBER"), (0, u "DIRECTIONALITY_COMMON_NUMBER_SEPARATOR"), (0, u "DIRECTIONALITY_NONSPACING_MARK"), (0, u "DIRECTIONALITY_BOUNDARY_NEUTRAL"), (0, u "DIRECTIONALITY_PARAGRAPH_SEPARATOR"), (0, u "DIRECTIONALITY_SEGMENT_SEPARATOR"), (0, u "DIRECTIONALITY_WHITESPACE"), (0, u "DIRECTIONALITY_OTHER_NEUTRALS"), (0, u "DIRECTIONALITY_LEFT_TO_RIGHT_EMBEDDING"), (0, u "DIRECTIONALITY_LEFT_TO_RIGHT_OVERRIDE"), (0, u "DIRECTIONALITY_RIGHT_TO_LEFT_EMBEDDING"), (0, u "DIRECTIONALITY_RIGHT_TO_LEFT_OVERRIDE"), (1, u "DIRECTIONALITY_POP_DIRECTIONAL_FORMAT"), (0, u "DIRECTIONALITY_LEFT_TO_RIGHT_ISOLATE"), (0, u "DIRECTIONALITY_RIGHT_TO_LEFT_ISOLATE"), (0, u "DIRECTIONALITY_FIRST_STRONG_ISOLATE"), (0, u "DIRECTIONALITY_POP_DIRECTIONAL_ISOLATE"), (0, u "MIN_HIGH_SURROGATE"), (0, u "MAX_HIGH_SURROGATE"), (1, u "MIN_LOW_SURROGATE"), (0, u "MAX_LOW_SURROGATE"), (1, u "MIN_SURROGATE"), (0, u "MAX_SURROGATE"), (0, u "MIN_SUPPLEMENTARY_CODE_POINT"), (0, u "MIN_CODE_POINT"), (0, u "MAX_CODE_POINT"), (1, u "serialVersionUID"), (0, u "J"), (2, u "SIZE"), (0, u "BYTES"), (29, u "charCount"), (58, .class_ 596), (0, u "java/lang/Character$UnicodeScript"), (0, .class_ 598), (0, u "java/lang/Character$Subset")] 5

def k13c0 : Code := { maxStack := 2, maxLocals := 1, code := jdk_89_method_14_code, exceptionTable := #[], attributes := #[] }
def k13m0 : Method := { name := "isHighSurrogate", desc := "(C)Z", sig := { parameters := [.char], returnType := some .boolean }, accessFlags := 9, code := some k13c0 }
def k13c1 : Code := { maxStack := 2, maxLocals := 1, code := jdk_89_method_15_code, exceptionTable := #[], attributes := #[] }
def k13m1 : Method := { name := "isLowSurrogate", desc := "(C)Z", sig := { parameters := [.char], returnType := some .boolean }, accessFlags := 9, code := some k13c1 }
def k13c2 : Code := { maxStack := 2, maxLocals := 1, code := jdk_89_method_18_code, exceptionTable := #[], attributes := #[] }
def k13m2 : Method := { name := "charCount", desc := "(I)I", sig := { parameters := [.int], returnType := some .int }, accessFlags := 9, code := some k13c2 }
def k13c3 : Code := { maxStack := 2, maxLocals := 2, code := jdk_89_method_19_code, exceptionTable := #[], attributes := #[] }
def k13m3 : Method := { name := "toCodePoint", desc := "(CC)I", sig := { parameters := [.char, .char], returnType := some .int }, accessFlags := 9, code := some k13c3 }
/-- java/lang/Character -/
def k13 : Class := { plain "java/lang/Character" (some 0) with
  accessFlags := 49
  interfaces := #[2, 3, 5]
  cf := some (fileOf pool13 1 #[.nestMembers #[48, 595, 307, 597]] #[{ accessFlags := 9, nameIndex := 80, descriptorIndex := 81, attributes := #[] }, { accessFlags := 9, nameIndex := 84, descriptorIndex := 81, attributes := #[] }, { accessFlags := 9, nameIndex := 536, descriptorIndex := 174, attributes := #[] }, { accessFlags := 9, nameIndex := 98, descriptorIndex := 99, attributes := #[] }] 49 42 #[385, 387, 389] #[{ accessFlags := 25, nameIndex := 391, descriptorIndex := 392, attributes := #[] }, { accessFlags := 25, nameIndex := 395, descriptorIndex := 392, attributes := #[] }, { accessFlags := 25, nameIndex := 397, descriptorIndex := 22, attributes := #[] }, { accessFlags := 25, nameIndex := 399, descriptorIndex := 22, attributes := #[] }, { accessFlags := 25, nameIndex := 383, descriptorIndex := 384, attributes := #[] }, { accessFlags := 25, nameIndex := 403, descriptorIndex := 404, attributes := #[] }, { accessFlags := 25, nameIndex := 405, descriptorIndex := 404, attributes := #[] }, { accessFlags := 25, nameIndex := 407, descriptorIndex := 404, attributes := #[] }, { accessFlags := 25, nameIndex := 408, descriptorIndex := 404, attributes := #[] }, { accessFlags := 25, nameIndex := 410, descriptorIndex := 404, attributes := #[] }, { accessFlags := 25, nameIndex := 412, descriptorIndex := 404, attributes := #[] }, { accessFlags := 25, nameIndex := 414, descriptorIndex := 404, attributes := #[] }, { accessFlags := 25, nameIndex := 416, descriptorIndex := 404, attributes := #[] }, { accessFlags := 25, nameIndex := 418, descriptorIndex := 404, attributes := #[] }, { accessFlags := 25, nameIndex := 420, descriptorIndex := 404, attributes := #[] }, { accessFlags := 25, nameIndex := 422, descriptorIndex := 404, attributes := #[] }, { accessFlags := 25, nameIndex := 424, descriptorIndex := 404, attributes := #[] }, { accessFlags := 25, nameIndex := 426, descriptorIndex := 404, attributes := #[] }, { accessFlags := 25, nameIndex := 428, descriptorIndex := 404, attributes := #[] }, { accessFlags := 25, nameIndex := 430, descriptorIndex := 404, attributes := #[] }, { accessFlags := 25, nameIndex := 432, descriptorIndex := 404, attributes := #[] }, { accessFlags := 25, nameIndex := 434, descriptorIndex := 404, attributes := #[] }, { accessFlags := 25, nameIndex := 436, descriptorIndex := 404, attributes := #[] }, { accessFlags := 25, nameIndex := 438, descriptorIndex := 404, attributes := #[] }, { accessFlags := 25, nameIndex := 440, descriptorIndex := 404, attributes := #[] }, { accessFlags := 25, nameIndex := 442, descriptorIndex := 404, attributes := #[] }, { accessFlags := 25, nameIndex := 444, descriptorIndex := 404, attributes := #[] }, { accessFlags := 25, nameIndex := 446, descriptorIndex := 404, attributes := #[] }, { accessFlags := 25, nameIndex := 448, descriptorIndex := 404, attributes := #[] }, { accessFlags := 25, nameIndex := 450, descriptorIndex := 404, attributes := #[] }, { accessFlags := 25, nameIndex := 452, descriptorIndex := 404, attributes := #[] }, { accessFlags := 25, nameIndex := 454, descriptorIndex := 404, attributes := #[] }, { accessFlags := 25, nameIndex := 456, descriptorIndex := 404, attributes := #[] }, { accessFlags := 25, nameIndex := 458, descriptorIndex := 404, attributes := #[] }, { accessFlags := 25, nameIndex := 460, descriptorIndex := 404, attributes := #[] }, { accessFlags := 24, nameIndex := 462, descriptorIndex := 392, attributes := #[] }, { accessFlags := 25, nameIndex := 464, descriptorIndex := 404, attributes := #[] }, { accessFlags := 25, nameIndex := 465, descriptorIndex := 404, attributes := #[] }, { accessFlags := 25, nameIndex := 466, descriptorIndex := 404, attributes := #[] }, { accessFlags := 25, nameIndex := 467, descriptorIndex := 404, attributes := #[] }, { accessFlags := 25, nameIndex := 468, descriptorIndex := 404, attributes := #[] }, { accessFlags := 25, nameIndex := 469, descriptorIndex := 404, attributes := #[] }, { accessFlags := 25, nameIndex := 470, descriptorIndex := 404, attributes := #[] }, { accessFlags := 25, nameIndex := 471, descriptorIndex := 404, attributes := #[] }, { accessFlags := 25, nameIndex := 472, descriptorIndex := 404, attributes := #[] }, { accessFlags := 25, nameIndex := 473, descriptorIndex := 404, attributes := #[] }, { accessFlags := 25, nameIndex := 474, descriptorIndex := 404, attributes := #[] }, { accessFlags := 25, nameIndex := 475, descriptorIndex := 404, attributes := #[] }, { accessFlags := 25, nameIndex := 476, descriptorIndex := 404, attributes := #[] }, { accessFlags := 25, nameIndex := 477, descriptorIndex := 404, attributes := #[] }, { accessFlags := 25, nameIndex := 478, descriptorIndex := 404, attributes := #[] }, { accessFlags := 25, nameIndex := 479, descriptorIndex := 404, attributes := #[] }, { accessFlags := 25, nameIndex := 480, descriptorIndex := 404, attributes := #[] }, { accessFlags := 25, nameIndex := 481, descriptorIndex := 404, attributes := #[] }, { accessFlags := 25, nameIndex := 482, descriptorIndex := 404, attributes := #[] }, { accessFlags := 25, nameIndex := 484, descriptorIndex := 404, attributes := #[] }, { accessFlags := 25, nameIndex := 485, descriptorIndex := 404, attributes := #[] }, { accessFlags := 25, nameIndex := 486, descriptorIndex := 404, attributes := #[] }, { accessFlags := 25, nameIndex := 487, descriptorIndex := 404, attributes := #[] }, { accessFlags := 25, nameIndex := 488, descriptorIndex := 404, attributes := #[] }, { accessFlags := 25, nameIndex := 489, descriptorIndex := 22, attributes := #[] }, { accessFlags := 25, nameIndex := 490, descriptorIndex := 22, attributes := #[] }, { accessFlags := 25, nameIndex := 492, descriptorIndex := 22, attributes := #[] }, { accessFlags := 25, nameIndex := 493, descriptorIndex := 22, attributes := #[] }, { accessFlags := 25, nameIndex := 495, descriptorIndex := 22, attributes := #[] }, { accessFlags := 25, nameIndex := 496, descriptorIndex := 22, attributes := #[] }, { accessFlags := 25, nameIndex := 497, descriptorIndex := 392, attributes := #[] }, { accessFlags := 25, nameIndex := 498, descriptorIndex := 392, attributes := #[] }, { accessFlags := 25, nameIndex := 499, descriptorIndex := 392, attributes := #[] }, { accessFlags := 18, nameIndex := 21, descriptorIndex := 22, attributes := #[] }, { accessFlags := 26, nameIndex := 501, descriptorIndex := 502, attributes := #[] }, { accessFlags := 25, nameIndex := 505, descriptorIndex := 392, attributes := #[] }, { accessFlags := 25, nameIndex := 506, descriptorIndex := 392, attributes := #[] }, { accessFlags := 4120, nameIndex := 284, descriptorIndex := 285, attributes := #[] }])
  fields := #[{ name := "MIN_RADIX", type := .int, accessFlags := 25, slot := 0, constantValue := 0 }, { name := "MAX_RADIX", type := .int, accessFlags := 25, slot := 1, constantValue := 0 }, { name := "MIN_VALUE", type := .char, accessFlags := 25, slot := 2, constantValue := 0 }, { name := "MAX_VALUE", type := .char, accessFlags := 25, slot := 3, constantValue := 0 }, { name := "TYPE", type := (.object "java/lang/Class"), accessFlags := 25, slot := 4, constantValue := 0 }, { name := "UNASSIGNED", type := .byte, accessFlags := 25, slot := 5, constantValue := 0 }, { name := "UPPERCASE_LETTER", type := .byte, accessFlags := 25, slot := 6, constantValue := 0 }, { name := "LOWERCASE_LETTER", type := .byte, accessFlags := 25, slot := 7, constantValue := 0 }, { name := "TITLECASE_LETTER", type := .byte, accessFlags := 25, slot := 8, constantValue := 0 }, { name := "MODIFIER_LETTER", type := .byte, accessFlags := 25, slot := 9, constantValue := 0 }, { name := "OTHER_LETTER", type := .byte, accessFlags := 25, slot := 10, constantValue := 0 }, { name := "NON_SPACING_MARK", type := .byte, accessFlags := 25, slot := 11, constantValue := 0 }, { name := "ENCLOSING_MARK", type := .byte, accessFlags := 25, slot := 12, constantValue := 0 }, { name := "COMBINING_SPACING_MARK", type := .byte, accessFlags := 25, slot := 13, constantValue := 0 }, { name := "DECIMAL_DIGIT_NUMBER", type := .byte, accessFlags := 25, slot := 14, constantValue := 0 }, { name := "LETTER_NUMBER", type := .byte, accessFlags := 25, slot := 15, constantValue := 0 }, { name := "OTHER_NUMBER", type := .byte, accessFlags := 25, slot := 16, constantValue := 0 }, { name := "SPACE_SEPARATOR", type := .byte, accessFlags := 25, slot := 17, constantValue := 0 }, { name := "LINE_SEPARATOR", type := .byte, accessFlags := 25, slot := 18, constantValue := 0 }, { name := "PARAGRAPH_SEPARATOR", type := .byte, accessFlags := 25, slot := 19, constantValue := 0 }, { name := "CONTROL", type := .byte, accessFlags := 25, slot := 20, constantValue := 0 }, { name := "FORMAT", type := .byte, accessFlags := 25, slot := 21, constantValue := 0 }, { name := "PRIVATE_USE", type := .byte, accessFlags := 25, slot := 22, constantValue := 0 }, { name := "SURROGATE", type := .byte, accessFlags := 25, slot := 23, constantValue := 0 }, { name := "DASH_PUNCTUATION", type := .byte, accessFlags := 25, slot := 24, constantValue := 0 }, { name := "START_PUNCTUATION", type := .byte, accessFlags := 25, slot := 25, constantValue := 0 }, { name := "END_PUNCTUATION", type := .byte, accessFlags := 25, slot := 26, constantValue := 0 }, { name := "CONNECTOR_PUNCTUATION", type := .byte, accessFlags := 25, slot := 27, constantValue := 0 }, { name := "OTHER_PUNCTUATION", type := .byte, accessFlags := 25, slot := 28, constantValue := 0 }, { name := "MATH_SYMBOL", type := .byte, accessFlags := 25, slot := 29, constantValue := 0 }, { name := "CURRENCY_SYMBOL", type := .byte, accessFlags := 25, slot := 30, constantValue := 0 }, { name := "MODIFIER_SYMBOL", type := .byte, accessFlags := 25, slot := 31, constantValue := 0 }, { name := "OTHER_SYMBOL", type := .byte, accessFlags := 25, slot := 32, constantValue := 0 }, { name := "INITIAL_QUOTE_PUNCTUATION", type := .byte, accessFlags := 25, slot := 33, constantValue := 0 }, { name := "FINAL_QUOTE_PUNCTUATION", type := .byte, accessFlags := 25, slot := 34, constantValue := 0 }, { name := "ERROR", type := .int, accessFlags := 24, slot := 35, constantValue := 0 }, { name := "DIRECTIONALITY_UNDEFINED", type := .byte, accessFlags := 25, slot := 36, constantValue := 0 }, { name := "DIRECTIONALITY_LEFT_TO_RIGHT", type := .byte, accessFlags := 25, slot := 37, constantValue := 0 }, { name := "DIRECTIONALITY_RIGHT_TO_LEFT", type := .byte, accessFlags := 25, slot := 38, constantValue := 0 }, { name := "DIRECTIONALITY_RIGHT_TO_LEFT_ARABIC", type := .byte, accessFlags := 25, slot := 39, constantValue := 0 }, { name := "DIRECTIONALITY_EUROPEAN_NUMBER", type := .byte, accessFlags := 25, slot := 40, constantValue := 0 }, { name := "DIRECTIONALITY_EUROPEAN_NUMBER_SEPARATOR", type := .byte, accessFlags := 25, slot := 41, constantValue := 0 }, { name := "DIRECTIONALITY_EUROPEAN_NUMBER_TERMINATOR", type := .byte, accessFlags := 25, slot := 42, constantValue := 0 }, { name := "DIRECTIONALITY_ARABIC_NUMBER", type := .byte, accessFlags := 25, slot := 43, constantValue := 0 }, { name := "DIRECTIONALITY_COMMON_NUMBER_SEPARATOR", type := .byte, accessFlags := 25, slot := 44, constantValue := 0 }, { name := "DIRECTIONALITY_NONSPACING_MARK", type := .byte, accessFlags := 25, slot := 45, constantValue := 0 }, { name := "DIRECTIONALITY_BOUNDARY_NEUTRAL", type := .byte, accessFlags := 25, slot := 46, constantValue := 0 }, { name := "DIRECTIONALITY_PARAGRAPH_SEPARATOR", type := .byte, accessFlags := 25, slot := 47, constantValue := 0 }, { name := "DIRECTIONALITY_SEGMENT_SEPARATOR", type := .byte, accessFlags := 25, slot := 48, constantValue := 0 }, { name := "DIRECTIONALITY_WHITESPACE", type := .byte, accessFlags := 25, slot := 49, constantValue := 0 }, { name := "DIRECTIONALITY_OTHER_NEUTRALS", type := .byte, accessFlags := 25, slot := 50, constantValue := 0 }, { name := "DIRECTIONALITY_LEFT_TO_RIGHT_EMBEDDING", type := .byte, accessFlags := 25, slot := 51, constantValue := 0 }, { name := "DIRECTIONALITY_LEFT_TO_RIGHT_OVERRIDE", type := .byte, accessFlags := 25, slot := 52, constantValue := 0 }, { name := "DIRECTIONALITY_RIGHT_TO_LEFT_EMBEDDING", type := .byte, accessFlags := 25, slot := 53, constantValue := 0 }, { name := "DIRECTIONALITY_RIGHT_TO_LEFT_OVERRIDE", type := .byte, accessFlags := 25, slot := 54, constantValue := 0 }, { name := "DIRECTIONALITY_POP_DIRECTIONAL_FORMAT", type := .byte, accessFlags := 25, slot := 55, constantValue := 0 }, { name := "DIRECTIONALITY_LEFT_TO_RIGHT_ISOLATE", type := .byte, accessFlags := 25, slot := 56, constantValue := 0 }, { name := "DIRECTIONALITY_RIGHT_TO_LEFT_ISOLATE", type := .byte, accessFlags := 25, slot := 57, constantValue := 0 }, { name := "DIRECTIONALITY_FIRST_STRONG_ISOLATE", type := .byte, accessFlags := 25, slot := 58, constantValue := 0 }, { name := "DIRECTIONALITY_POP_DIRECTIONAL_ISOLATE", type := .byte, accessFlags := 25, slot := 59, constantValue := 0 }, { name := "MIN_HIGH_SURROGATE", type := .char, accessFlags := 25, slot := 60, constantValue := 0 }, { name := "MAX_HIGH_SURROGATE", type := .char, accessFlags := 25, slot := 61, constantValue := 0 }, { name := "MIN_LOW_SURROGATE", type := .char, accessFlags := 25, slot := 62, constantValue := 0 }, { name := "MAX_LOW_SURROGATE", type := .char, accessFlags := 25, slot := 63, constantValue := 0 }, { name := "MIN_SURROGATE", type := .char, accessFlags := 25, slot := 64, constantValue := 0 }, { name := "MAX_SURROGATE", type := .char, accessFlags := 25, slot := 65, constantValue := 0 }, { name := "MIN_SUPPLEMENTARY_CODE_POINT", type := .int, accessFlags := 25, slot := 66, constantValue := 0 }, { name := "MIN_CODE_POINT", type := .int, accessFlags := 25, slot := 67, constantValue := 0 }, { name := "MAX_CODE_POINT", type := .int, accessFlags := 25, slot := 68, constantValue := 0 }, { name := "value", type := .char, accessFlags := 18, slot := 0, constantValue := 0 }, { name := "serialVersionUID", type := .long, accessFlags := 26, slot := 69, constantValue := 0 }, { name := "SIZE", type := .int, accessFlags := 25, slot := 70, constantValue := 0 }, { name := "BYTES", type := .int, accessFlags := 25, slot := 71, constantValue := 0 }, { name := "$assertionsDisabled", type := .boolean, accessFlags := 4120, slot := 72, constantValue := 0 }]
  methods := #[k13m0, k13m1, k13m2, k13m3]
  instanceTypes := #[.char]
  staticTypes := #[.int, .int, .char, .char, (.object "java/lang/Class"), .byte, .byte, .byte, .byte, .byte, .byte, .byte, .byte, .byte, .byte, .byte, .byte, .byte, .byte, .byte, .byte, .byte, .byte, .byte, .byte, .byte, .byte, .byte, .byte, .byte, .byte, .byte, .byte, .byte, .byte, .int, .byte, .byte, .byte, .byte, .byte, .byte, .byte, .byte, .byte, .byte, .byte, .byte, .byte, .byte, .byte, .byte, .byte, .byte, .byte, .byte, .byte, .byte, .byte, .byte, .char, .char, .char, .char, .char, .char, .int, .int, .int, .long, .int, .int, .boolean]
  resolved := Array.replicate 604 none
  statics := none }

def pool14 : Array CpInfo := pool [(4, .class_ 6), (1, u "java/lang/Object"), (0, u "<init>"), (0, u "()V"), (5, .class_ 16), (1, u "java/lang/StringLatin1"), (104, u "$assertionsDisabled"), (0, u "Z"), (98, .class_ 223), (1, u "java/lang/StringLatin1$LinesSpliterator"), (166, .class_ 391), (0, u "java/lang/StringLatin1$CharsSpliterator")] 3

def k14m0 : Method := { name := "<init>", desc := "()V", sig := { parameters := [], returnType := none }, accessFlags := 0, code := none }
/-- java/lang/StringLatin1 -/
def k14 : Class := { plain "java/lang/StringLatin1" (some 0) with
  accessFlags := 48
  interfaces := #[]
  cf := some (fileOf pool14 14 #[.nestMembers #[390, 221]] #[{ accessFlags := 0, nameIndex := 7, descriptorIndex := 8, attributes := #[] }] 48 4 #[] #[{ accessFlags := 4120, nameIndex := 121, descriptorIndex := 122, attributes := #[] }])
  fields := #[{ name := "$assertionsDisabled", type := .boolean, accessFlags := 4120, slot := 0, constantValue := 0 }]
  methods := #[k14m0]
  instanceTypes := #[]
  staticTypes := #[.boolean]
  resolved := Array.replicate 395 none
  statics := none }

def pool15 : Array CpInfo := pool [(9, u "<init>"), (6, .class_ 18), (1, u "java/lang/Object"), (0, u "()V"), (1, .class_ 23), (1, u "jdk/internal/util/ArraysSupport"), (0, u "LOG2_ARRAY_LONG_INDEX_SCALE"), (0, u "I"), (2, u "U"), (0, u "Ljdk/internal/misc/Unsafe;"), (8, u "BIG_ENDIAN"), (0, u "Z"), (8, u "LOG2_BYTE_BIT_SIZE"), (4, u "LOG2_ARRAY_INT_INDEX_SCALE"), (54, u "JLA"), (0, u "Ljdk/internal/access/JavaLangAccess;"), (11, u "LOG2_ARRAY_BOOLEAN_INDEX_SCALE"), (9, u "LOG2_ARRAY_BYTE_INDEX_SCALE"), (5, u "LOG2_ARRAY_CHAR_INDEX_SCALE"), (5, u "LOG2_ARRAY_SHORT_INDEX_SCALE"), (18, u "LOG2_ARRAY_FLOAT_INDEX_SCALE"), (24, u "LOG2_ARRAY_DOUBLE_INDEX_SCALE"), (89, u "T_BOOLEAN"), (2, u "T_CHAR"), (1, u "T_FLOAT"), (1, u "T_DOUBLE"), (1, u "T_BYTE"), (1, u "T_SHORT"), (1, u "T_INT"), (1, u "T_LONG"), (1, u "SOFT_MAX_ARRAY_LENGTH")] 83

def k15m0 : Method := { name := "<init>", desc := "()V", sig := { parameters := [], returnType := none }, accessFlags := 2, code := none }
/-- jdk/internal/util/ArraysSupport -/
def k15 : Class := { plain "jdk/internal/util/ArraysSupport" (some 0) with
  accessFlags := 33
  interfaces := #[]
  cf := some (fileOf pool15 21 #[] #[{ accessFlags := 2, nameIndex := 9, descriptorIndex := 19, attributes := #[] }] 33 16 #[] #[{ accessFlags := 24, nameIndex := 28, descriptorIndex := 29, attributes := #[] }, { accessFlags := 26, nameIndex := 38, descriptorIndex := 39, attributes := #[] }, { accessFlags := 25, nameIndex := 121, descriptorIndex := 25, attributes := #[] }, { accessFlags := 25, nameIndex := 131, descriptorIndex := 25, attributes := #[] }, { accessFlags := 25, nameIndex := 137, descriptorIndex := 25, attributes := #[] }, { accessFlags := 25, nameIndex := 143, descriptorIndex := 25, attributes := #[] }, { accessFlags := 25, nameIndex := 53, descriptorIndex := 25, attributes := #[] }, { accessFlags := 25, nameIndex := 24, descriptorIndex := 25, attributes := #[] }, { accessFlags := 25, nameIndex := 162, descriptorIndex := 25, attributes := #[] }, { accessFlags := 25, nameIndex := 187, descriptorIndex := 25, attributes := #[] }, { accessFlags := 26, nameIndex := 48, descriptorIndex := 25, attributes := #[] }, { accessFlags := 25, nameIndex := 277, descriptorIndex := 25, attributes := #[] }, { accessFlags := 25, nameIndex := 280, descriptorIndex := 25, attributes := #[] }, { accessFlags := 25, nameIndex := 282, descriptorIndex := 25, attributes := #[] }, { accessFlags := 25, nameIndex := 284, descriptorIndex := 25, attributes := #[] }, { accessFlags := 25, nameIndex := 286, descriptorIndex := 25, attributes := #[] }, { accessFlags := 25, nameIndex := 288, descriptorIndex := 25, attributes := #[] }, { accessFlags := 25, nameIndex := 290, descriptorIndex := 25, attributes := #[] }, { accessFlags := 25, nameIndex := 292, descriptorIndex := 25, attributes := #[] }, { accessFlags := 26, nameIndex := 108, descriptorIndex := 109, attributes := #[] }, { accessFlags := 25, nameIndex := 294, descriptorIndex := 25, attributes := #[] }])
  fields := #[{ name := "U", type := (.object "jdk/internal/misc/Unsafe"), accessFlags := 24, slot := 0, constantValue := 0 }, { name := "BIG_ENDIAN", type := .boolean, accessFlags := 26, slot := 1, constantValue := 0 }, { name := "LOG2_ARRAY_BOOLEAN_INDEX_SCALE", type := .int, accessFlags := 25, slot := 2, constantValue := 0 }, { name := "LOG2_ARRAY_BYTE_INDEX_SCALE", type := .int, accessFlags := 25, slot := 3, constantValue := 0 }, { name := "LOG2_ARRAY_CHAR_INDEX_SCALE", type := .int, accessFlags := 25, slot := 4, constantValue := 0 }, { name := "LOG2_ARRAY_SHORT_INDEX_SCALE", type := .int, accessFlags := 25, slot := 5, constantValue := 0 }, { name := "LOG2_ARRAY_INT_INDEX_SCALE", type := .int, accessFlags := 25, slot := 6, constantValue := 0 }, { name := "LOG2_ARRAY_LONG_INDEX_SCALE", type := .int, accessFlags := 25, slot := 7, constantValue := 0 }, { name := "LOG2_ARRAY_FLOAT_INDEX_SCALE", type := .int, accessFlags := 25, slot := 8, constantValue := 0 }, { name := "LOG2_ARRAY_DOUBLE_INDEX_SCALE", type := .int, accessFlags := 25, slot := 9, constantValue := 0 }, { name := "LOG2_BYTE_BIT_SIZE", type := .int, accessFlags := 26, slot := 10, constantValue := 0 }, { name := "T_BOOLEAN", type := .int, accessFlags := 25, slot := 11, constantValue := 0 }, { name := "T_CHAR", type := .int, accessFlags := 25, slot := 12, constantValue := 0 }, { name := "T_FLOAT", type := .int, accessFlags := 25, slot := 13, constantValue := 0 }, { name := "T_DOUBLE", type := .int, accessFlags := 25, slot := 14, constantValue := 0 }, { name := "T_BYTE", type := .int, accessFlags := 25, slot := 15, constantValue := 0 }, { name := "T_SHORT", type := .int, accessFlags := 25, slot := 16, constantValue := 0 }, { name := "T_INT", type := .int, accessFlags := 25, slot := 17, constantValue := 0 }, { name := "T_LONG", type := .int, accessFlags := 25, slot := 18, constantValue := 0 }, { name := "JLA", type := (.object "jdk/internal/access/JavaLangAccess"), accessFlags := 26, slot := 19, constantValue := 0 }, { name := "SOFT_MAX_ARRAY_LENGTH", type := .int, accessFlags := 25, slot := 20, constantValue := 0 }]
  methods := #[k15m0]
  instanceTypes := #[]
  staticTypes := #[(.object "jdk/internal/misc/Unsafe"), .boolean, .int, .int, .int, .int, .int, .int, .int, .int, .int, .int, .int, .int, .int, .int, .int, .int, .int, (.object "jdk/internal/access/JavaLangAccess"), .int]
  resolved := Array.replicate 378 none
  statics := none }

def pool16 : Array CpInfo := pool [(1, u "java/lang/Cloneable"), (0, .class_ 1), (0, u "java/lang/Object"), (0, .class_ 3)] 3

/-- java/lang/Cloneable -/
def k16 : Class := { plain "java/lang/Cloneable" (some 0) with
  accessFlags := 1537
  interfaces := #[]
  cf := some (fileOf pool16 2 #[] #[] 1537 4 #[] #[])
  fields := #[]
  methods := #[]
  instanceTypes := #[]
  staticTypes := #[]
  resolved := Array.replicate 8 none
  statics := none }

/-- the primitive byte -/
def k17 : Class := { plain "byte" none with kind := .primitive 'B', accessFlags := 0x411 }
/-- [B -/
def k18 : Class := { plain "[B" (some 0) with kind := .array 17 .byte, interfaces := #[16, 2], accessFlags := 1041 }

/-- the primitive char -/
def k19 : Class := { plain "char" none with kind := .primitive 'C', accessFlags := 0x411 }
/-- [C -/
def k20 : Class := { plain "[C" (some 0) with kind := .array 19 .char, interfaces := #[16, 2], accessFlags := 1041 }

/-- the primitive int -/
def k21 : Class := { plain "int" none with kind := .primitive 'I', accessFlags := 0x411 }
/-- [I -/
def k22 : Class := { plain "[I" (some 0) with kind := .array 21 .int, interfaces := #[16, 2], accessFlags := 1041 }

def heap : Heap := #[{ cls := 7, slots := #[.long 0, .int 1, .null, .int 0, .null, .int 0, .int 0], vm := .statics 7 },
  { cls := 8, slots := #[.int 0, .int 8, .int 0, .int 1], vm := .statics 8 },
  { cls := 12, slots := #[.null, .null, .null], vm := .statics 12 }]
def classes : Array Class := #[k0, k1, k2, k3, k4, k5, k6, k7, k8, k9, k10, k11, k12, k13, k14, k15, k16, k17, k18, k19, k20, k21, k22]
def interned : List (Array UInt16 × Addr) := []
def slotsUsed : Nat := 14
def theMethod : MethodId := ⟨1, 1⟩
def args0 : Array Value := #[.int 5, .int 7, .int 300, .int 9]
def aboutOver (below : List Frame) : State where
  vm := { classes := classes, interned := interned.toArray }
  heap := heap
  slotsUsed := slotsUsed
  threads := #[{ frames := .invoking theMethod args0 :: below }]
def below0 : List Frame := [.native { method := ⟨0, 0⟩, args := #[] }]
def about1 : State := aboutOver below0
def p0 : Program := .bare "" "" ""
def e0 : Env := launch0.env 0 0 0
theorem w_frames : about1.frames = Frame.invoking theMethod args0 :: below0 := rfl
set_option maxRecDepth 65536 in
theorem w_args : argsFit about1.vm theMethod args0 = true := by decide +kernel
set_option maxRecDepth 65536 in
theorem w_heap : heapFits about1 = true := by decide +kernel
set_option maxRecDepth 65536 in
theorem w_runnable : about1.curStatus? = some .runnable := by decide +kernel
set_option maxRecDepth 65536 in
theorem w_alone : about1.alone = true := by decide +kernel
set_option maxRecDepth 65536 in
theorem w_named : about1.methodNamed? x = some theMethod := by decide +kernel
set_option maxRecDepth 65536 in
theorem w_hears : about1.hears theMethod below0 = true := by decide +kernel
set_option maxRecDepth 65536 in
theorem w_ripe : about1.ripe theMethod args0 below0 = true := by decide +kernel
theorem w_running : about1.status = .running := rfl
set_option maxRecDepth 65536 in
theorem w_room : about1.hasRoom e0.platform room_1 = true :=
  launch0.hasRoom_least _ room_1 (by decide +kernel) (by decide +kernel) (by decide +kernel) (by decide +kernel) (by decide +kernel) (by decide +kernel)
theorem allAtoms_all (ts : List Jvm.Cond) (a : Array Jvm.Value) (st : Jvm.State) : (allAtoms ts).before a st = ts.all (fun c => c.before a st) := by
  induction ts with
  | nil => rfl
  | cons c t ih =>
    show (Jvm.Cond.and c (allAtoms t)).before a st = _
    rw [Jvm.Cond.before_and, ih, List.all_cons]
def words1 : List Jvm.Cond := Jvm.Cond.code x code maxLocals ret :: tables_1
/-- a 'code' word, met by the world's own term for the bytes: nothing is compared byte by byte -/
theorem code_word {y : MethodName} {bytes : ByteArray} {mx : Nat} {rt : Option FieldType} {a : Array Value} {s : State} {m : MethodId} {meth : Method} {c : Code} (h1 : s.methodNamed? y = some m) (h2 : s.vm.method? m = some meth) (h3 : meth.code = some c) (h4 : c.code = bytes)
    (h5 : (c.maxLocals == mx && c.exceptionTable.isEmpty && decide (c.maxStack ≤ mostOperands) && decide (meth.sig.returnType = rt) && !meth.locks && decide (parseMethodDescriptor y.desc = some meth.sig)) = true) : (Jvm.Cond.code y bytes mx rt).before a s = true := by
  simp only [Bool.and_eq_true, beq_iff_eq, Bool.not_eq_true', decide_eq_true_eq] at h5
  obtain ⟨⟨⟨⟨⟨g1, g2⟩, g3⟩, g4⟩, g5⟩, g6⟩ := h5
  simp [Cond.before, Cond.holds, Cond.value, h1, h2, h3, h4, g1, g2, g3, g4, g5, g6]
def isCode : Jvm.Cond → Bool
  | .code _ _ _ _ => true
  | _ => false
theorem all_split {L : List Jvm.Cond} {P : Jvm.Cond → Bool} (h1 : L.all (fun c => isCode c || P c) = true) (h2 : ∀ c ∈ L.filter isCode, P c = true) : L.all P = true := by
  refine List.all_eq_true.mpr fun c hc => ?_
  have h := List.all_eq_true.mp h1 c hc
  rcases Bool.eq_false_or_eq_true (isCode c) with hi | hi
  · exact h2 c (List.mem_filter.mpr ⟨hc, hi⟩)
  · simpa [hi] using h
set_option maxRecDepth 65536 in
theorem w_c0 : (Jvm.Cond.code x code maxLocals ret).before args0 about1 = true := code_word (m := ⟨1, 1⟩) (meth := k1m1) (c := k1c1) (by decide +kernel) rfl rfl rfl (by decide +kernel)
set_option maxRecDepth 65536 in
theorem w_c1 : (Jvm.Cond.code ({ cls := "com/example/frugal_ranker/frugalranker/CodePointsComparePinLaw", name := "draw", desc := "(III)C" } : Jvm.MethodName) method_3_code (4 : Nat) (Option.some Jvm.ClassFile.FieldType.char)).before args0 about1 = true := code_word (m := ⟨1, 2⟩) (meth := k1m2) (c := k1c2) (by decide +kernel) rfl rfl rfl (by decide +kernel)
set_option maxRecDepth 65536 in
theorem w_c2 : (Jvm.Cond.code ({ cls := "com/example/frugal_ranker/frugalranker/CodePointsComparePinLaw", name := "str", desc := "([CI)Ljava/lang/String;" } : Jvm.MethodName) method_4_code (2 : Nat) (Option.some (Jvm.ClassFile.FieldType.object "java/lang/String"))).before args0 about1 = true := code_word (m := ⟨1, 3⟩) (meth := k1m3) (c := k1c3) (by decide +kernel) rfl rfl rfl (by decide +kernel)
set_option maxRecDepth 65536 in
theorem w_c3 : (Jvm.Cond.code ({ cls := "java/lang/String", name := "<init>", desc := "([C)V" } : Jvm.MethodName) jdk_42_method_3_code (2 : Nat) (Option.none : Option Jvm.ClassFile.FieldType)).before args0 about1 = true := code_word (m := ⟨7, 1⟩) (meth := k7m1) (c := k7c1) (by decide +kernel) rfl rfl rfl (by decide +kernel)
set_option maxRecDepth 65536 in
theorem w_c4 : (Jvm.Cond.code ({ cls := "java/lang/String", name := "<init>", desc := "([CIILjava/lang/Void;)V" } : Jvm.MethodName) jdk_42_method_149_code (6 : Nat) (Option.none : Option Jvm.ClassFile.FieldType)).before args0 about1 = true := code_word (m := ⟨7, 4⟩) (meth := k7m4) (c := k7c4) (by decide +kernel) rfl rfl rfl (by decide +kernel)
set_option maxRecDepth 65536 in
theorem w_c5 : (Jvm.Cond.code ({ cls := "java/lang/Object", name := "<init>", desc := "()V" } : Jvm.MethodName) object_method_1_code (1 : Nat) (Option.none : Option Jvm.ClassFile.FieldType)).before args0 about1 = true := code_word (m := ⟨0, 0⟩) (meth := k0m0) (c := k0c0) (by decide +kernel) rfl rfl rfl (by decide +kernel)
set_option maxRecDepth 65536 in
theorem w_c6 : (Jvm.Cond.code ({ cls := "java/lang/StringUTF16", name := "compress", desc := "([CII)[B" } : Jvm.MethodName) jdk_52_method_16_code (6 : Nat) (Option.some (Jvm.ClassFile.FieldType.array Jvm.ClassFile.FieldType.byte))).before args0 about1 = true := code_word (m := ⟨8, 9⟩) (meth := k8m9) (c := k8c9) (by decide +kernel) rfl rfl rfl (by decide +kernel)
set_option maxRecDepth 65536 in
theorem w_c7 : (Jvm.Cond.code ({ cls := "java/lang/StringUTF16", name := "compress", desc := "([CI[BII)I" } : Jvm.MethodName) jdk_52_method_21_code (7 : Nat) (Option.some Jvm.ClassFile.FieldType.int)).before args0 about1 = true := code_word (m := ⟨8, 10⟩) (meth := k8m10) (c := k8c10) (by decide +kernel) rfl rfl rfl (by decide +kernel)
set_option maxRecDepth 65536 in
theorem w_c8 : (Jvm.Cond.code ({ cls := "java/lang/StringUTF16", name := "coderFromArrayLen", desc := "([BI)B" } : Jvm.MethodName) jdk_52_method_15_code (2 : Nat) (Option.some Jvm.ClassFile.FieldType.byte)).before args0 about1 = true := code_word (m := ⟨8, 8⟩) (meth := k8m8) (c := k8c8) (by decide +kernel) rfl rfl rfl (by decide +kernel)
set_option maxRecDepth 65536 in
theorem w_c9 : (Jvm.Cond.code ({ cls := "com/example/frugal_ranker/frugalranker/CodePointsComparePinLaw", name := "decode", desc := "([CI[I)I" } : Jvm.MethodName) method_7_code (5 : Nat) (Option.some Jvm.ClassFile.FieldType.int)).before args0 about1 = true := code_word (m := ⟨1, 6⟩) (meth := k1m6) (c := k1c6) (by decide +kernel) rfl rfl rfl (by decide +kernel)
set_option maxRecDepth 65536 in
theorem w_c10 : (Jvm.Cond.code ({ cls := "com/example/frugal_ranker/frugalranker/CodePointsComparePinLaw", name := "cpAt", desc := "([CII)I" } : Jvm.MethodName) method_6_code (3 : Nat) (Option.some Jvm.ClassFile.FieldType.int)).before args0 about1 = true := code_word (m := ⟨1, 5⟩) (meth := k1m5) (c := k1c5) (by decide +kernel) rfl rfl rfl (by decide +kernel)
set_option maxRecDepth 65536 in
theorem w_c11 : (Jvm.Cond.code ({ cls := "com/example/frugal_ranker/frugalranker/CodePointsComparePinLaw", name := "pairAt", desc := "([CII)Z" } : Jvm.MethodName) method_5_code (3 : Nat) (Option.some Jvm.ClassFile.FieldType.boolean)).before args0 about1 = true := code_word (m := ⟨1, 4⟩) (meth := k1m4) (c := k1c4) (by decide +kernel) rfl rfl rfl (by decide +kernel)
set_option maxRecDepth 65536 in
theorem w_c12 : (Jvm.Cond.code ({ cls := "com/example/frugal_ranker/frugalranker/CodePointsComparePinLaw", name := "lex", desc := "([II[II)I" } : Jvm.MethodName) method_9_code (4 : Nat) (Option.some Jvm.ClassFile.FieldType.int)).before args0 about1 = true := code_word (m := ⟨1, 8⟩) (meth := k1m8) (c := k1c8) (by decide +kernel) rfl rfl rfl (by decide +kernel)
set_option maxRecDepth 65536 in
theorem w_c13 : (Jvm.Cond.code ({ cls := "com/example/frugal_ranker/frugalranker/CodePointsComparePinLaw", name := "sgn", desc := "(I)I" } : Jvm.MethodName) method_8_code (1 : Nat) (Option.some Jvm.ClassFile.FieldType.int)).before args0 about1 = true := code_word (m := ⟨1, 7⟩) (meth := k1m7) (c := k1c7) (by decide +kernel) rfl rfl rfl (by decide +kernel)
set_option maxRecDepth 65536 in
theorem w_c14 : (Jvm.Cond.code ({ cls := "com/example/frugal_ranker/frugalranker/CodePoints", name := "compare", desc := "(Ljava/lang/String;Ljava/lang/String;)I" } : Jvm.MethodName) prog_8_method_2_code (6 : Nat) (Option.some Jvm.ClassFile.FieldType.int)).before args0 about1 = true := code_word (m := ⟨9, 1⟩) (meth := k9m1) (c := k9c1) (by decide +kernel) rfl rfl rfl (by decide +kernel)
set_option maxRecDepth 65536 in
theorem w_c15 : (Jvm.Cond.code ({ cls := "java/lang/String", name := "length", desc := "()I" } : Jvm.MethodName) jdk_42_method_54_code (1 : Nat) (Option.some Jvm.ClassFile.FieldType.int)).before args0 about1 = true := code_word (m := ⟨7, 2⟩) (meth := k7m2) (c := k7c2) (by decide +kernel) rfl rfl rfl (by decide +kernel)
set_option maxRecDepth 65536 in
theorem w_c16 : (Jvm.Cond.code ({ cls := "java/lang/String", name := "coder", desc := "()B" } : Jvm.MethodName) jdk_42_method_152_code (1 : Nat) (Option.some Jvm.ClassFile.FieldType.byte)).before args0 about1 = true := code_word (m := ⟨7, 5⟩) (meth := k7m5) (c := k7c5) (by decide +kernel) rfl rfl rfl (by decide +kernel)
set_option maxRecDepth 65536 in
theorem w_c17 : (Jvm.Cond.code ({ cls := "java/lang/Integer", name := "compare", desc := "(II)I" } : Jvm.MethodName) jdk_33_method_40_code (2 : Nat) (Option.some Jvm.ClassFile.FieldType.int)).before args0 about1 = true := code_word (m := ⟨11, 0⟩) (meth := k11m0) (c := k11c0) (by decide +kernel) rfl rfl rfl (by decide +kernel)
set_option maxRecDepth 65536 in
theorem w_c18 : (Jvm.Cond.code ({ cls := "java/lang/String", name := "codePointAt", desc := "(I)I" } : Jvm.MethodName) jdk_42_method_57_code (3 : Nat) (Option.some Jvm.ClassFile.FieldType.int)).before args0 about1 = true := code_word (m := ⟨7, 3⟩) (meth := k7m3) (c := k7c3) (by decide +kernel) rfl rfl rfl (by decide +kernel)
set_option maxRecDepth 65536 in
theorem w_c19 : (Jvm.Cond.code ({ cls := "java/lang/String", name := "isLatin1", desc := "()Z" } : Jvm.MethodName) jdk_42_method_154_code (1 : Nat) (Option.some Jvm.ClassFile.FieldType.boolean)).before args0 about1 = true := code_word (m := ⟨7, 6⟩) (meth := k7m6) (c := k7c6) (by decide +kernel) rfl rfl rfl (by decide +kernel)
set_option maxRecDepth 65536 in
theorem w_c20 : (Jvm.Cond.code ({ cls := "java/lang/String", name := "checkIndex", desc := "(II)V" } : Jvm.MethodName) jdk_42_method_155_code (2 : Nat) (Option.none : Option Jvm.ClassFile.FieldType)).before args0 about1 = true := code_word (m := ⟨7, 7⟩) (meth := k7m7) (c := k7c7) (by decide +kernel) rfl rfl rfl (by decide +kernel)
set_option maxRecDepth 65536 in
theorem w_c21 : (Jvm.Cond.code ({ cls := "jdk/internal/util/Preconditions", name := "checkIndex", desc := "(IILjava/util/function/BiFunction;)I" } : Jvm.MethodName) jdk_41_method_11_code (3 : Nat) (Option.some Jvm.ClassFile.FieldType.int)).before args0 about1 = true := code_word (m := ⟨12, 1⟩) (meth := k12m1) (c := k12c1) (by decide +kernel) rfl rfl rfl (by decide +kernel)
set_option maxRecDepth 65536 in
theorem w_c22 : (Jvm.Cond.code ({ cls := "java/lang/StringUTF16", name := "toBytes", desc := "([CII)[B" } : Jvm.MethodName) jdk_52_method_14_code (5 : Nat) (Option.some (Jvm.ClassFile.FieldType.array Jvm.ClassFile.FieldType.byte))).before args0 about1 = true := code_word (m := ⟨8, 7⟩) (meth := k8m7) (c := k8c7) (by decide +kernel) rfl rfl rfl (by decide +kernel)
set_option maxRecDepth 65536 in
theorem w_c23 : (Jvm.Cond.code ({ cls := "java/lang/StringUTF16", name := "newBytesFor", desc := "(I)[B" } : Jvm.MethodName) jdk_52_method_2_code (1 : Nat) (Option.some (Jvm.ClassFile.FieldType.array Jvm.ClassFile.FieldType.byte))).before args0 about1 = true := code_word (m := ⟨8, 1⟩) (meth := k8m1) (c := k8c1) (by decide +kernel) rfl rfl rfl (by decide +kernel)
set_option maxRecDepth 65536 in
theorem w_c24 : (Jvm.Cond.code ({ cls := "java/lang/StringUTF16", name := "newBytesLength", desc := "(I)I" } : Jvm.MethodName) jdk_52_method_3_code (1 : Nat) (Option.some Jvm.ClassFile.FieldType.int)).before args0 about1 = true := code_word (m := ⟨8, 2⟩) (meth := k8m2) (c := k8c2) (by decide +kernel) rfl rfl rfl (by decide +kernel)
set_option maxRecDepth 65536 in
theorem w_c25 : (Jvm.Cond.code ({ cls := "java/lang/StringUTF16", name := "putChar", desc := "([BII)V" } : Jvm.MethodName) jdk_52_method_4_code (3 : Nat) (Option.none : Option Jvm.ClassFile.FieldType)).before args0 about1 = true := code_word (m := ⟨8, 3⟩) (meth := k8m3) (c := k8c3) (by decide +kernel) rfl rfl rfl (by decide +kernel)
set_option maxRecDepth 65536 in
theorem w_c26 : (Jvm.Cond.code ({ cls := "java/lang/StringUTF16", name := "getChar", desc := "([BI)C" } : Jvm.MethodName) jdk_52_method_5_code (2 : Nat) (Option.some Jvm.ClassFile.FieldType.char)).before args0 about1 = true := code_word (m := ⟨8, 4⟩) (meth := k8m4) (c := k8c4) (by decide +kernel) rfl rfl rfl (by decide +kernel)
set_option maxRecDepth 65536 in
theorem w_c27 : (Jvm.Cond.code ({ cls := "java/lang/StringUTF16", name := "codePointAt", desc := "([BII)I" } : Jvm.MethodName) jdk_52_method_8_code (3 : Nat) (Option.some Jvm.ClassFile.FieldType.int)).before args0 about1 = true := code_word (m := ⟨8, 6⟩) (meth := k8m6) (c := k8c6) (by decide +kernel) rfl rfl rfl (by decide +kernel)
set_option maxRecDepth 65536 in
theorem w_c28 : (Jvm.Cond.code ({ cls := "java/lang/StringUTF16", name := "codePointAt", desc := "([BIIZ)I" } : Jvm.MethodName) jdk_52_method_7_code (6 : Nat) (Option.some Jvm.ClassFile.FieldType.int)).before args0 about1 = true := code_word (m := ⟨8, 5⟩) (meth := k8m5) (c := k8c5) (by decide +kernel) rfl rfl rfl (by decide +kernel)
set_option maxRecDepth 65536 in
theorem w_c29 : (Jvm.Cond.code ({ cls := "java/lang/Character", name := "isHighSurrogate", desc := "(C)Z" } : Jvm.MethodName) jdk_89_method_14_code (1 : Nat) (Option.some Jvm.ClassFile.FieldType.boolean)).before args0 about1 = true := code_word (m := ⟨13, 0⟩) (meth := k13m0) (c := k13c0) (by decide +kernel) rfl rfl rfl (by decide +kernel)
set_option maxRecDepth 65536 in
theorem w_c30 : (Jvm.Cond.code ({ cls := "java/lang/Character", name := "isLowSurrogate", desc := "(C)Z" } : Jvm.MethodName) jdk_89_method_15_code (1 : Nat) (Option.some Jvm.ClassFile.FieldType.boolean)).before args0 about1 = true := code_word (m := ⟨13, 1⟩) (meth := k13m1) (c := k13c1) (by decide +kernel) rfl rfl rfl (by decide +kernel)
set_option maxRecDepth 65536 in
theorem w_c31 : (Jvm.Cond.code ({ cls := "java/lang/Character", name := "charCount", desc := "(I)I" } : Jvm.MethodName) jdk_89_method_18_code (1 : Nat) (Option.some Jvm.ClassFile.FieldType.int)).before args0 about1 = true := code_word (m := ⟨13, 2⟩) (meth := k13m2) (c := k13c2) (by decide +kernel) rfl rfl rfl (by decide +kernel)
set_option maxRecDepth 65536 in
theorem w_c32 : (Jvm.Cond.code ({ cls := "java/lang/Character", name := "toCodePoint", desc := "(CC)I" } : Jvm.MethodName) jdk_89_method_19_code (2 : Nat) (Option.some Jvm.ClassFile.FieldType.int)).before args0 about1 = true := code_word (m := ⟨13, 3⟩) (meth := k13m3) (c := k13c3) (by decide +kernel) rfl rfl rfl (by decide +kernel)
def codes1 : List Jvm.Cond := [Jvm.Cond.code x code maxLocals ret, Jvm.Cond.code ({ cls := "com/example/frugal_ranker/frugalranker/CodePointsComparePinLaw", name := "draw", desc := "(III)C" } : Jvm.MethodName) method_3_code (4 : Nat) (Option.some Jvm.ClassFile.FieldType.char), Jvm.Cond.code ({ cls := "com/example/frugal_ranker/frugalranker/CodePointsComparePinLaw", name := "str", desc := "([CI)Ljava/lang/String;" } : Jvm.MethodName) method_4_code (2 : Nat) (Option.some (Jvm.ClassFile.FieldType.object "java/lang/String")), Jvm.Cond.code ({ cls := "java/lang/String", name := "<init>", desc := "([C)V" } : Jvm.MethodName) jdk_42_method_3_code (2 : Nat) (Option.none : Option Jvm.ClassFile.FieldType), Jvm.Cond.code ({ cls := "java/lang/String", name := "<init>", desc := "([CIILjava/lang/Void;)V" } : Jvm.MethodName) jdk_42_method_149_code (6 : Nat) (Option.none : Option Jvm.ClassFile.FieldType), Jvm.Cond.code ({ cls := "java/lang/Object", name := "<init>", desc := "()V" } : Jvm.MethodName) object_method_1_code (1 : Nat) (Option.none : Option Jvm.ClassFile.FieldType), Jvm.Cond.code ({ cls := "java/lang/StringUTF16", name := "compress", desc := "([CII)[B" } : Jvm.MethodName) jdk_52_method_16_code (6 : Nat) (Option.some (Jvm.ClassFile.FieldType.array Jvm.ClassFile.FieldType.byte)), Jvm.Cond.code ({ cls := "java/lang/StringUTF16", name := "compress", desc := "([CI[BII)I" } : Jvm.MethodName) jdk_52_method_21_code (7 : Nat) (Option.some Jvm.ClassFile.FieldType.int), Jvm.Cond.code ({ cls := "java/lang/StringUTF16", name := "coderFromArrayLen", desc := "([BI)B" } : Jvm.MethodName) jdk_52_method_15_code (2 : Nat) (Option.some Jvm.ClassFile.FieldType.byte), Jvm.Cond.code ({ cls := "com/example/frugal_ranker/frugalranker/CodePointsComparePinLaw", name := "decode", desc := "([CI[I)I" } : Jvm.MethodName) method_7_code (5 : Nat) (Option.some Jvm.ClassFile.FieldType.int), Jvm.Cond.code ({ cls := "com/example/frugal_ranker/frugalranker/CodePointsComparePinLaw", name := "cpAt", desc := "([CII)I" } : Jvm.MethodName) method_6_code (3 : Nat) (Option.some Jvm.ClassFile.FieldType.int), Jvm.Cond.code ({ cls := "com/example/frugal_ranker/frugalranker/CodePointsComparePinLaw", name := "pairAt", desc := "([CII)Z" } : Jvm.MethodName) method_5_code (3 : Nat) (Option.some Jvm.ClassFile.FieldType.boolean), Jvm.Cond.code ({ cls := "com/example/frugal_ranker/frugalranker/CodePointsComparePinLaw", name := "lex", desc := "([II[II)I" } : Jvm.MethodName) method_9_code (4 : Nat) (Option.some Jvm.ClassFile.FieldType.int), Jvm.Cond.code ({ cls := "com/example/frugal_ranker/frugalranker/CodePointsComparePinLaw", name := "sgn", desc := "(I)I" } : Jvm.MethodName) method_8_code (1 : Nat) (Option.some Jvm.ClassFile.FieldType.int), Jvm.Cond.code ({ cls := "com/example/frugal_ranker/frugalranker/CodePoints", name := "compare", desc := "(Ljava/lang/String;Ljava/lang/String;)I" } : Jvm.MethodName) prog_8_method_2_code (6 : Nat) (Option.some Jvm.ClassFile.FieldType.int), Jvm.Cond.code ({ cls := "java/lang/String", name := "length", desc := "()I" } : Jvm.MethodName) jdk_42_method_54_code (1 : Nat) (Option.some Jvm.ClassFile.FieldType.int), Jvm.Cond.code ({ cls := "java/lang/String", name := "coder", desc := "()B" } : Jvm.MethodName) jdk_42_method_152_code (1 : Nat) (Option.some Jvm.ClassFile.FieldType.byte), Jvm.Cond.code ({ cls := "java/lang/Integer", name := "compare", desc := "(II)I" } : Jvm.MethodName) jdk_33_method_40_code (2 : Nat) (Option.some Jvm.ClassFile.FieldType.int), Jvm.Cond.code ({ cls := "java/lang/String", name := "codePointAt", desc := "(I)I" } : Jvm.MethodName) jdk_42_method_57_code (3 : Nat) (Option.some Jvm.ClassFile.FieldType.int), Jvm.Cond.code ({ cls := "java/lang/String", name := "isLatin1", desc := "()Z" } : Jvm.MethodName) jdk_42_method_154_code (1 : Nat) (Option.some Jvm.ClassFile.FieldType.boolean), Jvm.Cond.code ({ cls := "java/lang/String", name := "checkIndex", desc := "(II)V" } : Jvm.MethodName) jdk_42_method_155_code (2 : Nat) (Option.none : Option Jvm.ClassFile.FieldType), Jvm.Cond.code ({ cls := "jdk/internal/util/Preconditions", name := "checkIndex", desc := "(IILjava/util/function/BiFunction;)I" } : Jvm.MethodName) jdk_41_method_11_code (3 : Nat) (Option.some Jvm.ClassFile.FieldType.int), Jvm.Cond.code ({ cls := "java/lang/StringUTF16", name := "toBytes", desc := "([CII)[B" } : Jvm.MethodName) jdk_52_method_14_code (5 : Nat) (Option.some (Jvm.ClassFile.FieldType.array Jvm.ClassFile.FieldType.byte)), Jvm.Cond.code ({ cls := "java/lang/StringUTF16", name := "newBytesFor", desc := "(I)[B" } : Jvm.MethodName) jdk_52_method_2_code (1 : Nat) (Option.some (Jvm.ClassFile.FieldType.array Jvm.ClassFile.FieldType.byte)), Jvm.Cond.code ({ cls := "java/lang/StringUTF16", name := "newBytesLength", desc := "(I)I" } : Jvm.MethodName) jdk_52_method_3_code (1 : Nat) (Option.some Jvm.ClassFile.FieldType.int), Jvm.Cond.code ({ cls := "java/lang/StringUTF16", name := "putChar", desc := "([BII)V" } : Jvm.MethodName) jdk_52_method_4_code (3 : Nat) (Option.none : Option Jvm.ClassFile.FieldType), Jvm.Cond.code ({ cls := "java/lang/StringUTF16", name := "getChar", desc := "([BI)C" } : Jvm.MethodName) jdk_52_method_5_code (2 : Nat) (Option.some Jvm.ClassFile.FieldType.char), Jvm.Cond.code ({ cls := "java/lang/StringUTF16", name := "codePointAt", desc := "([BII)I" } : Jvm.MethodName) jdk_52_method_8_code (3 : Nat) (Option.some Jvm.ClassFile.FieldType.int), Jvm.Cond.code ({ cls := "java/lang/StringUTF16", name := "codePointAt", desc := "([BIIZ)I" } : Jvm.MethodName) jdk_52_method_7_code (6 : Nat) (Option.some Jvm.ClassFile.FieldType.int), Jvm.Cond.code ({ cls := "java/lang/Character", name := "isHighSurrogate", desc := "(C)Z" } : Jvm.MethodName) jdk_89_method_14_code (1 : Nat) (Option.some Jvm.ClassFile.FieldType.boolean), Jvm.Cond.code ({ cls := "java/lang/Character", name := "isLowSurrogate", desc := "(C)Z" } : Jvm.MethodName) jdk_89_method_15_code (1 : Nat) (Option.some Jvm.ClassFile.FieldType.boolean), Jvm.Cond.code ({ cls := "java/lang/Character", name := "charCount", desc := "(I)I" } : Jvm.MethodName) jdk_89_method_18_code (1 : Nat) (Option.some Jvm.ClassFile.FieldType.int), Jvm.Cond.code ({ cls := "java/lang/Character", name := "toCodePoint", desc := "(CC)I" } : Jvm.MethodName) jdk_89_method_19_code (2 : Nat) (Option.some Jvm.ClassFile.FieldType.int)]
set_option maxRecDepth 65536 in
theorem codes_eq : words1.filter isCode = codes1 := rfl
theorem w_codes : ∀ c ∈ words1.filter isCode, c.before args0 about1 = true := by
  rw [codes_eq]
  intro c hc
  simp only [codes1, List.mem_cons, List.not_mem_nil, or_false] at hc
  rcases hc with rfl | rfl | rfl | rfl | rfl | rfl | rfl | rfl | rfl | rfl | rfl | rfl | rfl | rfl | rfl | rfl | rfl | rfl | rfl | rfl | rfl | rfl | rfl | rfl | rfl | rfl | rfl | rfl | rfl | rfl | rfl | rfl | rfl
  · exact w_c0
  · exact w_c1
  · exact w_c2
  · exact w_c3
  · exact w_c4
  · exact w_c5
  · exact w_c6
  · exact w_c7
  · exact w_c8
  · exact w_c9
  · exact w_c10
  · exact w_c11
  · exact w_c12
  · exact w_c13
  · exact w_c14
  · exact w_c15
  · exact w_c16
  · exact w_c17
  · exact w_c18
  · exact w_c19
  · exact w_c20
  · exact w_c21
  · exact w_c22
  · exact w_c23
  · exact w_c24
  · exact w_c25
  · exact w_c26
  · exact w_c27
  · exact w_c28
  · exact w_c29
  · exact w_c30
  · exact w_c31
  · exact w_c32
set_option maxRecDepth 65536 in
theorem w_t1 : (words1.take 24).all (fun c => isCode c || c.before args0 about1) = true := by decide +kernel
set_option maxRecDepth 65536 in
theorem w_t2 : ((words1.drop 24).take 24).all (fun c => isCode c || c.before args0 about1) = true := by decide +kernel
set_option maxRecDepth 65536 in
theorem w_t3 : (((words1.drop 24).drop 24).take 24).all (fun c => isCode c || c.before args0 about1) = true := by decide +kernel
set_option maxRecDepth 65536 in
theorem w_t4 : ((((words1.drop 24).drop 24).drop 24).take 24).all (fun c => isCode c || c.before args0 about1) = true := by decide +kernel
set_option maxRecDepth 65536 in
theorem w_t5 : (((((words1.drop 24).drop 24).drop 24).drop 24).take 24).all (fun c => isCode c || c.before args0 about1) = true := by decide +kernel
set_option maxRecDepth 65536 in
theorem w_t6 : (((((words1.drop 24).drop 24).drop 24).drop 24).drop 24).all (fun c => isCode c || c.before args0 about1) = true := by decide +kernel
theorem w_tables : (allAtoms (Jvm.Cond.code x code maxLocals ret :: tables_1)).before args0 about1 = true := by
  rw [allAtoms_all]
  show words1.all (fun c => c.before args0 about1) = true
  refine all_split ?_ w_codes
  rw [← List.take_append_drop 24 words1, List.all_append, w_t1, ← List.take_append_drop 24 (words1.drop 24), List.all_append, w_t2, ← List.take_append_drop 24 ((words1.drop 24).drop 24), List.all_append, w_t3, ← List.take_append_drop 24 (((words1.drop 24).drop 24).drop 24), List.all_append, w_t4, ← List.take_append_drop 24 ((((words1.drop 24).drop 24).drop 24).drop 24), List.all_append, w_t5, w_t6]
  rfl
set_option maxRecDepth 65536 in
theorem w_rest : rest_1_c.before args0 about1 = true := by decide +kernel
set_option maxRecDepth 65536 in
theorem w_case : (Jvm.Cond.and given_1 narrow_1).before args0 about1 = true := by decide +kernel
set_option maxRecDepth 65536 in
theorem w_consts : constsHeld consts_1 about1 := Jvm.Lit.constsHeldB_iff.mp (by decide +kernel)
theorem w_applies : (headSpec (Jvm.Cond.code x code maxLocals ret :: tables_1) room_1).applies x e0.platform about1 = true :=
  (Spec.applies_iff w_frames).mpr ⟨w_running, w_runnable, w_alone, w_named, w_hears, w_ripe, w_room, w_tables⟩
theorem atStart : AtStart classFile x code maxLocals ret World_1 tables_1 room_1 Calls_1 rest_1 Pre_1 launch0 p0 e0 about1 theMethod args0 below0 :=
  ⟨lists_1, trivial, launch0.admits_env _ _ _, launch0.least_env, fairChoices_fair.cas, fairChoices_fair.clock, w_frames, w_args, w_heap, w_applies, ⟨w_consts, trivial⟩, w_rest, w_case⟩
end start1
theorem witness_1 : WitnessClaimed_1 := ⟨start1.p0, start1.e0, start1.about1, start1.theMethod, start1.args0, start1.below0, start1.atStart⟩
end Jvm.Pilot.@@N@@
