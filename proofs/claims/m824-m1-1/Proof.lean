import JvmDerived
import JvmDerived.Pilot.@@N@@Statement
import JvmDerived.Pilot.@@N@@Code
set_option linter.unusedVariables false
set_option linter.unusedSimpArgs false
/- laws to paste: Road.backV, Road.codOf, shr0, shr1, Road.wide_lo, Road.wide_hi, lo8_mask (cut by pick.py; bodies as the Statement names them) -/
namespace Jvm.Pilot.@@N@@
namespace StrChars
open Jvm Sem ClassFile Op Lib Jvm.Stand Jvm.Free.XT Jvm.Free.ALB Jvm.Free.JM Jvm.Free
open Jvm.Lib.Cold (StaticIs)
/-- a char array whose places are chars -/
def Ch (a : Addr) (A : Cell) (U : State) : Prop := Arr .char a A U ∧ Typed .char A
theorem Ch.mv {a : Addr} {A : Cell} {U U' : State} (h : Ch a A U) (hal : U.vm.Alike U'.vm) (hh : U'.heap = U.heap) : Ch a A U' := ⟨h.1.mv hal hh, h.2⟩
theorem Ch.keep {a : Addr} {A : Cell} {U U' : State} (h : Ch a A U) (hal : U.vm.Alike U'.vm) (hk : U'.heap[a]? = some A) : Ch a A U' := ⟨h.1.keep hal hk, h.2⟩
/-- what place i of a char[]'s cell holds -/
def cv (A : Cell) (i : Nat) : Int32 := match A.slots[i]? with | some (.int x) => x | _ => 0
theorem Ch.get {a : Addr} {A : Cell} {U : State} (h : Ch a A U) {i : Nat} (hi : i < A.slots.size) : A.slots[i]? = some (.int (cv A i)) := by
  have e := Array.getElem?_eq_getElem hi
  have f := h.2 i _ e
  unfold cv; rw [e]
  generalize A.slots[i] = v at f
  cases v <;> simp [fits] at f ⊢
/-- the byte that i2b leaves of a char -/
def lo8 (x : Int32) : Int32 := x.toInt8.toInt32
theorem fits_lo8 (y : Int32) : fits .byte (.int (lo8 y)) = true := by
  have h1 := y.toInt8.le_toInt
  have h2 := y.toInt8.toInt_lt
  simp only [lo8, fits, Bool.and_eq_true, decide_eq_true_eq, Int32.le_iff_toInt_le, Int8.toInt_toInt32, show (-128 : Int32).toInt = -128 from by decide, show (127 : Int32).toInt = 127 from by decide]
  omega
/-- A' is A but that each place j of lo .. hi - 1 holds f j -/
def Laid (A A' : Cell) (lo hi : Nat) (f : Nat → Value) : Prop := A'.cls = A.cls ∧ A'.vm = A.vm ∧ A'.slots.size = A.slots.size ∧ ∀ i, A'.slots[i]? = if lo ≤ i ∧ i < hi then some (f i) else A.slots[i]?
theorem Laid.zero (A : Cell) (lo : Nat) (f : Nat → Value) : Laid A A lo (lo + 0) f := ⟨rfl, rfl, rfl, fun i => by rw [if_neg (by omega)]⟩
theorem Laid.step {A Ak : Cell} {lo k : Nat} {f : Nat → Value} {v : Value} (h : Laid A Ak lo k f) (hlo : lo ≤ k) (hk : k < Ak.slots.size) (hv : v = f k) : Laid A (Ak.setSlot k v) lo (k + 1) f := by
  refine ⟨h.1, h.2.1, by simpa [Cell.setSlot] using h.2.2.1, fun i => ?_⟩
  by_cases e : k = i
  · subst e; rw [Cell.slots_setSlot_self v hk, if_pos (by omega), hv]
  · rw [Cell.slots_setSlot_ne v e, h.2.2.2 i]
    by_cases q : lo ≤ i ∧ i < k
    · rw [if_pos q, if_pos (by omega)]
    · rw [if_neg q, if_neg (by omega)]
def U16 : String := "java/lang/StringUTF16"
namespace Cmp5
def yN : MethodName := ⟨"java/lang/StringUTF16", "compress", "([CI[BII)I"⟩
abbrev yB : ByteArray := jdk_52_method_21_code
theorem d0 : decode yB 0 = .ok (.iconst 0, 1) := by decide +kernel
theorem d1 : decode yB 1 = .ok (.istore 5, 2) := by decide +kernel
theorem d3 : decode yB 3 = .ok (.iload 5, 2) := by decide +kernel
theorem d5 : decode yB 5 = .ok (.iload 4, 2) := by decide +kernel
theorem d7 : decode yB 7 = .ok (.if_icmp (.ge) 37, 3) := by decide +kernel
theorem d10 : decode yB 10 = .ok (.aload_n 0, 1) := by decide +kernel
theorem d11 : decode yB 11 = .ok (.iload_n 1, 1) := by decide +kernel
theorem d12 : decode yB 12 = .ok (.caload, 1) := by decide +kernel
theorem d13 : decode yB 13 = .ok (.istore 6, 2) := by decide +kernel
theorem d15 : decode yB 15 = .ok (.iload 6, 2) := by decide +kernel
theorem d17 : decode yB 17 = .ok (.sipush 255, 3) := by decide +kernel
theorem d20 : decode yB 20 = .ok (.if_icmp (.le) 6, 3) := by decide +kernel
theorem d26 : decode yB 26 = .ok (.aload_n 2, 1) := by decide +kernel
theorem d27 : decode yB 27 = .ok (.iload_n 3, 1) := by decide +kernel
theorem d28 : decode yB 28 = .ok (.iload 6, 2) := by decide +kernel
theorem d30 : decode yB 30 = .ok (.i2b, 1) := by decide +kernel
theorem d31 : decode yB 31 = .ok (.bastore, 1) := by decide +kernel
theorem d32 : decode yB 32 = .ok (.iinc 1 1, 3) := by decide +kernel
theorem d35 : decode yB 35 = .ok (.iinc 3 1, 3) := by decide +kernel
theorem d38 : decode yB 38 = .ok (.iinc 5 1, 3) := by decide +kernel
theorem d41 : decode yB 41 = .ok (.goto (-38), 3) := by decide +kernel
theorem d44 : decode yB 44 = .ok (.iload 4, 2) := by decide +kernel
theorem d46 : decode yB 46 = .ok (.ireturn, 1) := by decide +kernel
def site : List Cond := []
def tab : Cond := tabOf yN yB 7 (some .int) site
def P (b : Addr) (A : Cell) (d : Addr) (B : Cell) (o q len : Nat) (args : Array Value) (s : State) : Prop := args = #[.ref b, .int (Int32.ofNat o), .ref d, .int (Int32.ofNat q), .int (Int32.ofNat len)] ∧ Ch b A s ∧ Arr .byte d B s ∧ b ≠ d ∧ o + len ≤ A.slots.size ∧ q + len ≤ B.slots.size ∧ ∀ i, i < len → ¬ 255 < cv A (o + i)
def E (b : Addr) (A : Cell) (d : Addr) (B : Cell) (o q len : Nat) (r : Option Value) (s u : State) : Prop := r = some (.int (Int32.ofNat len)) ∧ ∃ B', Put d B' s u ∧ Laid B B' q (q + len) (fun j => Value.int (lo8 (cv A (o + (j - q)))))
/-- no char of the range above 255: len; the places written hold each char's low byte -/
theorem law (l : Launch) (b : Addr) (A : Cell) (d : Addr) (B : Cell) (o q len : Nat) : Law l yN 5 5 0 0 yB 7 (some .int) site (P b A d B o q len) (E b A d B o q len) (copyLocs d q len) 0 0 := by
  refine Law.of_walk (plainFor_of_name (by decide +kernel)) (by decide +kernel) (by decide +kernel) (by decide) (fun _ _ h => by rw [h.1]; rfl) (fun _ U U' hal hh h => ⟨h.1, h.2.1.mv hal hh, h.2.2.1.mv hal hh, h.2.2.2⟩) (fun r U U' V V' h1 hal h2 h => ⟨h.1, h.2.elim fun B' q => ⟨B', q.1.mv h1 h2, q.2⟩⟩) ?_
  intro p e s m args below meth c s₁ X0 hexec hbytes hml hret hlk hnm hown hh0 W hP
  obtain ⟨rfl, hA, hB, hne, l1, l2, hp⟩ := hP
  have c1 : Steps p.tables e below (s₁.setTop (entryFrame m #[.ref b, .int (Int32.ofNat o), .ref d, .int (Int32.ofNat q), .int (Int32.ofNat len)] 7)) (s₁.setTop (mkF m 0 #[.val (.ref b), .val (.int (Int32.ofNat o)), .val (.ref d), .val (.int (Int32.ofNat q)), .val (.int (Int32.ofNat len)), .unset, .unset] [])) := entry rfl
  have hA0 := hA.1.mv X0.warmed.alike hh0
  have hB0 := hB.mv X0.warmed.alike hh0
  have a31 := hA.1.2.2.2
  have c2 : Steps p.tables e below (s₁.setTop (entryFrame m #[.ref b, .int (Int32.ofNat o), .ref d, .int (Int32.ofNat q), .int (Int32.ofNat len)] 7)) (s₁.setTop (mkF m 3 #[.val (.ref b), .val (.int (Int32.ofNat o)), .val (.ref d), .val (.int (Int32.ofNat q)), .val (.int (Int32.ofNat len)), .val (.int 0), .unset] [])) := c1.trans (by
    refine iconstV X0.here hexec rfl 0 (hb hbytes d0) (by decide) ?_
    refine XS.istore X0.here hexec rfl (hb hbytes d1) rfl rfl ?_
    exact Steps.refl _)
  have loop : ∀ (r i : Nat), i + r = len → ∀ (z : Slot), (z = .unset ∨ ∃ w, z = .val w ∧ w.category = 1) → ∀ (Tl : State) (Bk : Cell), Stand p l e { frames := 0, locals := 0, cells := 0, slots := 0 } s m #[.ref b, .int (Int32.ofNat o), .ref d, .int (Int32.ofNat q), .int (Int32.ofNat len)] below meth c Tl ([] ++ copyLocs d q i) 0 0 → Put d Bk s₁ Tl → Laid B Bk q (q + i) (fun j => Value.int (lo8 (cv A (o + (j - q))))) →
      Steps p.tables e below (s₁.setTop (entryFrame m #[.ref b, .int (Int32.ofNat o), .ref d, .int (Int32.ofNat q), .int (Int32.ofNat len)] 7)) (Tl.setTop (mkF m 3 #[.val (.ref b), .val (.int (Int32.ofNat (o + i))), .val (.ref d), .val (.int (Int32.ofNat (q + i))), .val (.int (Int32.ofNat len)), .val (.int (Int32.ofNat i)), z] [])) → ∃ (T' : State) (B' : Cell) (z' : Slot), Stand p l e { frames := 0, locals := 0, cells := 0, slots := 0 } s m #[.ref b, .int (Int32.ofNat o), .ref d, .int (Int32.ofNat q), .int (Int32.ofNat len)] below meth c T' ([] ++ copyLocs d q len) 0 0 ∧ Put d B' s₁ T' ∧ Laid B B' q (q + len) (fun j => Value.int (lo8 (cv A (o + (j - q))))) ∧
      Steps p.tables e below (s₁.setTop (entryFrame m #[.ref b, .int (Int32.ofNat o), .ref d, .int (Int32.ofNat q), .int (Int32.ofNat len)] 7)) (T'.setTop (mkF m 3 #[.val (.ref b), .val (.int (Int32.ofNat (o + len))), .val (.ref d), .val (.int (Int32.ofNat (q + len))), .val (.int (Int32.ofNat len)), .val (.int (Int32.ofNat len)), z'] [])) := by
    intro r
    induction r with
    | zero =>
      intro i hi z hz Tl Bk Xl pl fl cl
      have hil : i = len := by omega
      rw [hil] at Xl fl cl
      exact ⟨Tl, Bk, z, Xl, pl, fl, cl⟩
    | succ r ih =>
      intro i hi z hz Tl Bk Xl pl fl cl
      have all := X0.warmed.alike.symm.trans Xl.warmed.alike
      have hAl := hA0.keep all (pl.other hne hA0.1)
      have hBk := hB0.like all pl.1 fl.1 fl.2.1 fl.2.2.1
      have hlt : q + i < Bk.slots.size := by rw [fl.2.2.1]; omega
      have c3 : Steps p.tables e below (s₁.setTop (entryFrame m #[.ref b, .int (Int32.ofNat o), .ref d, .int (Int32.ofNat q), .int (Int32.ofNat len)] 7)) (Tl.setTop (mkF m 12 #[.val (.ref b), .val (.int (Int32.ofNat (o + i))), .val (.ref d), .val (.int (Int32.ofNat (q + i))), .val (.int (Int32.ofNat len)), .val (.int (Int32.ofNat i)), z] [.int (Int32.ofNat (o + i)), .ref b])) := cl.trans (by
        refine XS.iload Xl.here hexec rfl (hb hbytes d3) rfl ?_
        refine XS.iload Xl.here hexec rfl (hb hbytes d5) rfl ?_
        refine XS.icmpNo Xl.here hexec rfl (hb hbytes d7) rfl (ii_ge_f (lt32 (by omega) (by omega))) ?_
        refine XS.aloadN Xl.here hexec rfl (hb hbytes d10) rfl rfl ?_
        refine XS.iloadN Xl.here hexec rfl (hb hbytes d11) rfl ?_
        exact Steps.refl _)
      have c4 : Steps p.tables e below (s₁.setTop (entryFrame m #[.ref b, .int (Int32.ofNat o), .ref d, .int (Int32.ofNat q), .int (Int32.ofNat len)] 7)) (Tl.setTop (mkF m 13 #[.val (.ref b), .val (.int (Int32.ofNat (o + i))), .val (.ref d), .val (.int (Int32.ofNat (q + i))), .val (.int (Int32.ofNat len)), .val (.int (Int32.ofNat i)), z] [.int (cv A (o + i))])) := c3.trans (by
        refine Xl.aget hexec hAl rfl (hA.get (i := o + i) (by omega)) rfl rfl (hb hbytes d12) ?_
        exact Steps.refl _)
      have c5 : Steps p.tables e below (s₁.setTop (entryFrame m #[.ref b, .int (Int32.ofNat o), .ref d, .int (Int32.ofNat q), .int (Int32.ofNat len)] 7)) (Tl.setTop (mkF m 15 #[.val (.ref b), .val (.int (Int32.ofNat (o + i))), .val (.ref d), .val (.int (Int32.ofNat (q + i))), .val (.int (Int32.ofNat len)), .val (.int (Int32.ofNat i)), .val (.int (cv A (o + i)))] [])) := c4.trans (by
        refine XS.istoreS Xl.here hexec rfl (hb hbytes d13) rfl rfl hz ?_
        exact Steps.refl _)
      have c6 : Steps p.tables e below (s₁.setTop (entryFrame m #[.ref b, .int (Int32.ofNat o), .ref d, .int (Int32.ofNat q), .int (Int32.ofNat len)] 7)) (Tl.setTop (mkF m 31 #[.val (.ref b), .val (.int (Int32.ofNat (o + i))), .val (.ref d), .val (.int (Int32.ofNat (q + i))), .val (.int (Int32.ofNat len)), .val (.int (Int32.ofNat i)), .val (.int (cv A (o + i)))] [.int (lo8 (cv A (o + i))), .int (Int32.ofNat (q + i)), .ref d])) := c5.trans (by
        refine XS.iload Xl.here hexec rfl (hb hbytes d15) rfl ?_
        refine sipushV Xl.here hexec rfl 255 (hb hbytes d17) (by decide) ?_
        refine XS.icmpYes Xl.here hexec rfl (pc0 := 20) rfl (hb hbytes d20) rfl (ii_le_t (hp i (by omega))) (by decide) rfl ?_
        refine XS.aloadN Xl.here hexec rfl (hb hbytes d26) rfl rfl ?_
        refine XS.iloadN Xl.here hexec rfl (hb hbytes d27) rfl ?_
        refine XS.iload Xl.here hexec rfl (hb hbytes d28) rfl ?_
        refine i2b Xl.here hexec rfl (hb hbytes d30) rfl ?_
        exact Steps.refl _)
      obtain ⟨T7, X7, p7, st7⟩ := Xl.aput hexec hBk rfl hlt rfl (fits_lo8 (cv A (o + i))) (g := (mkF m 31 #[.val (.ref b), .val (.int (Int32.ofNat (o + i))), .val (.ref d), .val (.int (Int32.ofNat (q + i))), .val (.int (Int32.ofNat len)), .val (.int (Int32.ofNat i)), .val (.int (cv A (o + i)))] [.int (lo8 (cv A (o + i))), .int (Int32.ofNat (q + i)), .ref d])) rfl (rest := []) rfl (hb hbytes d31)
      have c8 : Steps p.tables e below (s₁.setTop (entryFrame m #[.ref b, .int (Int32.ofNat o), .ref d, .int (Int32.ofNat q), .int (Int32.ofNat len)] 7)) (T7.setTop (mkF m 32 #[.val (.ref b), .val (.int (Int32.ofNat (o + i))), .val (.ref d), .val (.int (Int32.ofNat (q + i))), .val (.int (Int32.ofNat len)), .val (.int (Int32.ofNat i)), .val (.int (cv A (o + i)))] [])) := c6.trans (st7 _ (Steps.refl _))
      have c9 : Steps p.tables e below (s₁.setTop (entryFrame m #[.ref b, .int (Int32.ofNat o), .ref d, .int (Int32.ofNat q), .int (Int32.ofNat len)] 7)) (T7.setTop (mkF m 3 #[.val (.ref b), .val (.int (Int32.ofNat (o + i) + 1)), .val (.ref d), .val (.int (Int32.ofNat (q + i) + 1)), .val (.int (Int32.ofNat len)), .val (.int (Int32.ofNat i + 1)), .val (.int (cv A (o + i)))] [])) := c8.trans (by
        refine iincV X7.here hexec rfl 1 (hb hbytes d32) (by decide) rfl rfl ?_
        refine iincV X7.here hexec rfl 1 (hb hbytes d35) (by decide) rfl rfl ?_
        refine iincV X7.here hexec rfl 1 (hb hbytes d38) (by decide) rfl rfl ?_
        refine XS.goto X7.here hexec rfl (pc0 := 41) rfl (hb hbytes d41) (by decide) rfl ?_
        exact Steps.refl _)
      have c10 : Steps p.tables e below (s₁.setTop (entryFrame m #[.ref b, .int (Int32.ofNat o), .ref d, .int (Int32.ofNat q), .int (Int32.ofNat len)] 7)) (T7.setTop (mkF m 3 #[.val (.ref b), .val (.int (Int32.ofNat (o + (i + 1)))), .val (.ref d), .val (.int (Int32.ofNat (q + (i + 1)))), .val (.int (Int32.ofNat len)), .val (.int (Int32.ofNat (i + 1))), .val (.int (cv A (o + i)))] [])) := by
        have := c9
        rw [succ32, succ32, succ32] at this
        exact this
      exact ih (i + 1) (by omega) _ (Or.inr ⟨_, rfl, rfl⟩) T7 _ (by rw [copyLocs_step, ← List.append_assoc]; exact X7) (pl.trans p7) (fl.step (by omega) hlt (by simp)) c10
  obtain ⟨T9, B9, z9, X9, p9, f9, g9⟩ := loop len 0 (by omega) .unset (Or.inl rfl) s₁ B (by simpa [copyLocs] using X0) ⟨hB0.1, fun _ _ => rfl, rfl⟩ (Laid.zero _ _ _) c2
  have c11 : Steps p.tables e below (s₁.setTop (entryFrame m #[.ref b, .int (Int32.ofNat o), .ref d, .int (Int32.ofNat q), .int (Int32.ofNat len)] 7)) (T9.setTop (mkF m 46 #[.val (.ref b), .val (.int (Int32.ofNat (o + len))), .val (.ref d), .val (.int (Int32.ofNat (q + len))), .val (.int (Int32.ofNat len)), .val (.int (Int32.ofNat len)), z9] [.int (Int32.ofNat len)])) := g9.trans (by
    refine XS.iload X9.here hexec rfl (hb hbytes d3) rfl ?_
    refine XS.iload X9.here hexec rfl (hb hbytes d5) rfl ?_
    refine XS.icmpYes X9.here hexec rfl (pc0 := 7) rfl (hb hbytes d7) rfl (ii_ge_t (nlt32 (by omega) (Nat.le_refl _))) (by decide) rfl ?_
    refine XS.iload X9.here hexec rfl (hb hbytes d44) rfl ?_
    exact Steps.refl _)
  exact ⟨T9, some (.int (Int32.ofNat len)), _, _, _, X9, by simp, rfl, rfl, (fun h => by cases h), ⟨rfl, B9, p9.from hh0, f9⟩, fun fs hl => c11.trans (X9.ireturnOut hexec hret rfl (Or.inl rfl) (hb hbytes d46) hl)⟩
end Cmp5
namespace Cmp3
def yN : MethodName := ⟨"java/lang/StringUTF16", "compress", "([CII)[B"⟩
abbrev yB : ByteArray := jdk_52_method_16_code
theorem d0 : decode yB 0 = .ok (.iload_n 2, 1) := by decide +kernel
theorem d1 : decode yB 1 = .ok (.newarray .byte, 2) := by decide +kernel
theorem d3 : decode yB 3 = .ok (.astore_n 3, 1) := by decide +kernel
theorem d4 : decode yB 4 = .ok (.aload_n 0, 1) := by decide +kernel
theorem d5 : decode yB 5 = .ok (.iload_n 1, 1) := by decide +kernel
theorem d6 : decode yB 6 = .ok (.aload_n 3, 1) := by decide +kernel
theorem d7 : decode yB 7 = .ok (.iconst 0, 1) := by decide +kernel
theorem d8 : decode yB 8 = .ok (.iload_n 2, 1) := by decide +kernel
theorem d9 : decode yB 9 = .ok (.invokestatic 115, 3) := by decide +kernel
theorem d12 : decode yB 12 = .ok (.istore 4, 2) := by decide +kernel
theorem d14 : decode yB 14 = .ok (.iload 4, 2) := by decide +kernel
theorem d16 : decode yB 16 = .ok (.iload_n 2, 1) := by decide +kernel
theorem d17 : decode yB 17 = .ok (.if_icmp (.eq) 40, 3) := by decide +kernel
theorem d57 : decode yB 57 = .ok (.aload_n 3, 1) := by decide +kernel
theorem d58 : decode yB 58 = .ok (.areturn, 1) := by decide +kernel
def site : List Cond := [.arrayClass .byte, Cmp5.tab] ++ staticW U16 115 Cmp5.yN
def tab : Cond := tabOf yN yB 6 (some (.array .byte)) site
def P (b : Addr) (A : Cell) (o len : Nat) (args : Array Value) (s : State) : Prop := args = #[.ref b, .int (Int32.ofNat o), .int (Int32.ofNat len)] ∧ Ch b A s ∧ o + len ≤ A.slots.size ∧ len ≤ 536870912 ∧ ∀ i, i < len → ¬ 255 < cv A (o + i)
def E (b : Addr) (A : Cell) (o len : Nat) (r : Option Value) (s u : State) : Prop := NewArr .byte "[B" len (fun j => .int (lo8 (cv A (o + j)))) r s u ∧ u.heap.size = s.heap.size + 1
/-- no char of the range above 255: a new byte[] of their low bytes -/
theorem law (l : Launch) (b : Addr) (A : Cell) (o len : Nat) : Law l yN 3 3 1 18 yB 6 (some (.array .byte)) site (P b A o len) (E b A o len) [] 1 len := by
  refine Law.of_walk (plainFor_of_name (by decide +kernel)) (by decide +kernel) (by decide +kernel) (by decide) (fun _ _ h => by rw [h.1]; rfl) (fun _ U U' hal hh h => ⟨h.1, h.2.1.mv hal hh, h.2.2⟩) (fun r U U' V V' h1 hal h2 h => ⟨NewArr.mv r U U' V V' h1 hal h2 h.1, by rw [h1, h2]; exact h.2⟩) ?_
  intro p e s m args below meth c s₁ X0 hexec hbytes hml hret hlk hnm hown hh0 W hP
  obtain ⟨rfl, hA, l1, l2, hp⟩ := hP
  have a31 := hA.1.2.2.2
  have c1 : Steps p.tables e below (s₁.setTop (entryFrame m #[.ref b, .int (Int32.ofNat o), .int (Int32.ofNat len)] 6)) (s₁.setTop (mkF m 0 #[.val (.ref b), .val (.int (Int32.ofNat o)), .val (.int (Int32.ofNat len)), .unset, .unset, .unset] [])) := entry rfl
  have c2 : Steps p.tables e below (s₁.setTop (entryFrame m #[.ref b, .int (Int32.ofNat o), .int (Int32.ofNat len)] 6)) (s₁.setTop (mkF m 1 #[.val (.ref b), .val (.int (Int32.ofNat o)), .val (.int (Int32.ofNat len)), .unset, .unset, .unset] [.int (Int32.ofNat len)])) := c1.trans (by
    refine XS.iloadN X0.here hexec rfl (hb hbytes d0) rfl ?_
    exact Steps.refl _)
  obtain ⟨T3, B3, X3, ba3, bs3, bv3, bh3, bf3, st3⟩ := X0.anew hexec (atype := .byte) (wk W (.arrayClass .byte)) rfl (by show len * 1 ≤ _; omega) (by omega) (g := (mkF m 1 #[.val (.ref b), .val (.int (Int32.ofNat o)), .val (.int (Int32.ofNat len)), .unset, .unset, .unset] [.int (Int32.ofNat len)])) rfl (hb hbytes d1) (rest := []) rfl (Nat.le_refl _) (by show 0 + len ≤ len; omega)
  rw [hh0] at ba3 st3
  have kp3 : XT.Kept s T3 := (XT.Kept.of_eq hh0).push bh3
  have hA3 := hA.keep X3.warmed.alike (kp3 _ _ hA.1.1)
  have hne : b ≠ s.heap.size := hA.1.ne
  have c4 : Steps p.tables e below (s₁.setTop (entryFrame m #[.ref b, .int (Int32.ofNat o), .int (Int32.ofNat len)] 6)) (T3.setTop (mkF m 3 #[.val (.ref b), .val (.int (Int32.ofNat o)), .val (.int (Int32.ofNat len)), .unset, .unset, .unset] [.ref s.heap.size])) := c2.trans (st3 _ (Steps.refl _))
  have c5 : Steps p.tables e below (s₁.setTop (entryFrame m #[.ref b, .int (Int32.ofNat o), .int (Int32.ofNat len)] 6)) (T3.setTop (mkF m 9 #[.val (.ref b), .val (.int (Int32.ofNat o)), .val (.int (Int32.ofNat len)), .val (.ref s.heap.size), .unset, .unset] [.int (Int32.ofNat len), .int 0, .ref s.heap.size, .int (Int32.ofNat o), .ref b])) := c4.trans (by
    refine XS.astoreN X3.here hexec rfl (hb hbytes d3) rfl rfl rfl ?_
    refine XS.aloadN X3.here hexec rfl (hb hbytes d4) rfl rfl ?_
    refine XS.iloadN X3.here hexec rfl (hb hbytes d5) rfl ?_
    refine XS.aloadN X3.here hexec rfl (hb hbytes d6) rfl rfl ?_
    refine iconstV X3.here hexec rfl 0 (hb hbytes d7) (by decide) ?_
    refine XS.iloadN X3.here hexec rfl (hb hbytes d8) rfl ?_
    exact Steps.refl _)
  obtain ⟨v6, T6, X6, E6, g6⟩ := X3.callS hexec (Cmp5.law l b A s.heap.size B3 o 0 len) hown (wks W (staticW U16 115 Cmp5.yN)) (wk W Cmp5.tab) (W := 0) (Nat.le_of_ble_eq_true rfl) (Nat.le_of_ble_eq_true rfl) (Nat.le_refl _) (by show 0 + len + 0 ≤ len; omega) (g := (mkF m 9 #[.val (.ref b), .val (.int (Int32.ofNat o)), .val (.int (Int32.ofNat len)), .val (.ref s.heap.size), .unset, .unset] [.int (Int32.ofNat len), .int (Int32.ofNat 0), .ref s.heap.size, .int (Int32.ofNat o), .ref b])) rfl (by rw [hml]; rfl) c5 (argsL := [.ref b, .int (Int32.ofNat o), .ref s.heap.size, .int (Int32.ofNat 0), .int (Int32.ofNat len)]) (rest := []) rfl rfl (by show 2 * 0 + 0 ≤ _; decide) (hb hbytes d9) (⟨rfl, hA3, ba3, hne, l1, by rw [bs3]; simp, hp⟩)
  obtain ⟨rfl, B6, p6, f6⟩ := E6
  have c7 : Steps p.tables e below (s₁.setTop (entryFrame m #[.ref b, .int (Int32.ofNat o), .int (Int32.ofNat len)] 6)) (T6.setTop (mkF m 12 #[.val (.ref b), .val (.int (Int32.ofNat o)), .val (.int (Int32.ofNat len)), .val (.ref s.heap.size), .unset, .unset] [.int (Int32.ofNat len)])) := g6
  have c8 : Steps p.tables e below (s₁.setTop (entryFrame m #[.ref b, .int (Int32.ofNat o), .int (Int32.ofNat len)] 6)) (T6.setTop (mkF m 58 #[.val (.ref b), .val (.int (Int32.ofNat o)), .val (.int (Int32.ofNat len)), .val (.ref s.heap.size), .val (.int (Int32.ofNat len)), .unset] [.ref s.heap.size])) := c7.trans (by
    refine XS.istore X6.here hexec rfl (hb hbytes d12) rfl rfl ?_
    refine XS.iload X6.here hexec rfl (hb hbytes d14) rfl ?_
    refine XS.iloadN X6.here hexec rfl (hb hbytes d16) rfl ?_
    refine XS.icmpYes X6.here hexec rfl (pc0 := 17) rfl (hb hbytes d17) rfl (ii_eq_t rfl) (by decide) rfl ?_
    refine XS.aloadN X6.here hexec rfl (hb hbytes d57) rfl rfl ?_
    exact Steps.refl _)
  have X8 := X6.wide (L' := []) (cells' := 1) (slots' := len) (fun x hx hlt => by
    simp only [List.nil_append, copyLocs, List.mem_map, List.mem_range] at hx
    obtain ⟨i, -, rfl⟩ := hx
    exact absurd hlt (Nat.lt_irrefl _)) (Nat.le_refl _) (by omega)
  exact ⟨T6, some (.ref s.heap.size), _, _, _, X8, rfl, rfl, rfl, (fun h => by cases h), ⟨⟨rfl, B6, ba3.like (X3.warmed.alike.symm.trans X6.warmed.alike) p6.1 f6.1 f6.2.1 f6.2.2.1, f6.2.1.trans bv3, by rw [X6.warmed.alike.findClass, f6.1]; exact bf3, by rw [f6.2.2.1, bs3]; simp, fun j hj => by rw [f6.2.2.2 j, if_pos (by omega)]; rfl, kp3.put p6 (Nat.le_refl _)⟩, by rw [p6.2.2, bh3, hh0]; simp⟩, fun fs hl => c8.trans (X8.areturnOut hexec rfl hret rfl (hb hbytes d58) hl)⟩
end Cmp3
namespace CodL
def yN : MethodName := ⟨"java/lang/StringUTF16", "coderFromArrayLen", "([BI)B"⟩
abbrev yB : ByteArray := jdk_52_method_15_code
theorem d0 : decode yB 0 = .ok (.iload_n 1, 1) := by decide +kernel
theorem d1 : decode yB 1 = .ok (.aload_n 0, 1) := by decide +kernel
theorem d2 : decode yB 2 = .ok (.arraylength, 1) := by decide +kernel
theorem d3 : decode yB 3 = .ok (.isub, 1) := by decide +kernel
theorem d4 : decode yB 4 = .ok (.bipush 31, 2) := by decide +kernel
theorem d6 : decode yB 6 = .ok (.iushr, 1) := by decide +kernel
theorem d7 : decode yB 7 = .ok (.i2b, 1) := by decide +kernel
theorem d8 : decode yB 8 = .ok (.ireturn, 1) := by decide +kernel
def site : List Cond := []
def tab : Cond := tabOf yN yB 2 (some .byte) site
def P (d : Addr) (B : Cell) (args : Array Value) (s : State) : Prop := args = #[.ref d, .int (Int32.ofNat B.slots.size)] ∧ Arr .byte d B s
def E (r : Option Value) (s u : State) : Prop := XT.PureE (some (.int 0)) r s u
/-- an array as long as the number of chars: LATIN1 -/
theorem law (l : Launch) (d : Addr) (B : Cell) : Law l yN 2 2 0 0 yB 2 (some .byte) site (P d B) E [] 0 0 := by
  refine Law.of_walk (plainFor_of_name (by decide +kernel)) (by decide +kernel) (by decide +kernel) (by decide) (fun _ _ h => by rw [h.1]; rfl) (fun _ U U' hal hh h => ⟨h.1, h.2.mv hal hh⟩) (fun r U U' V V' h1 hal h2 h => XT.PureE.mv r U U' V V' h1 hal h2 h) ?_
  intro p e s m args below meth c s₁ X0 hexec hbytes hml hret hlk hnm hown hh0 W hP
  obtain ⟨rfl, hB⟩ := hP
  have hB0 := hB.mv X0.warmed.alike hh0
  have c1 : Steps p.tables e below (s₁.setTop (entryFrame m #[.ref d, .int (Int32.ofNat B.slots.size)] 2)) (s₁.setTop (mkF m 0 #[.val (.ref d), .val (.int (Int32.ofNat B.slots.size))] [])) := entry rfl
  have c2 : Steps p.tables e below (s₁.setTop (entryFrame m #[.ref d, .int (Int32.ofNat B.slots.size)] 2)) (s₁.setTop (mkF m 2 #[.val (.ref d), .val (.int (Int32.ofNat B.slots.size))] [.ref d, .int (Int32.ofNat B.slots.size)])) := c1.trans (by
    refine XS.iloadN X0.here hexec rfl (hb hbytes d0) rfl ?_
    refine XS.aloadN X0.here hexec rfl (hb hbytes d1) rfl rfl ?_
    exact Steps.refl _)
  have c3 : Steps p.tables e below (s₁.setTop (entryFrame m #[.ref d, .int (Int32.ofNat B.slots.size)] 2)) (s₁.setTop (mkF m 8 #[.val (.ref d), .val (.int (Int32.ofNat B.slots.size))] [.int (lo8 (ushr (Int32.ofNat B.slots.size - Int32.ofNat B.slots.size) 31))])) := c2.trans (by
    refine X0.alen hexec hB0 rfl rfl (hb hbytes d2) ?_
    refine XS.isub X0.here hexec rfl (hb hbytes d3) rfl ?_
    refine bipushV X0.here hexec rfl 31 (hb hbytes d4) (by decide) ?_
    refine iushr X0.here hexec rfl (hb hbytes d6) rfl ?_
    refine i2b X0.here hexec rfl (hb hbytes d7) rfl ?_
    exact Steps.refl _)
  have e0 : lo8 (ushr (Int32.ofNat B.slots.size - Int32.ofNat B.slots.size) 31) = 0 := by rw [Int32.sub_self]; decide
  rw [e0] at c3
  exact ⟨s₁, some (.int 0), _, _, _, X0, rfl, rfl, rfl, (fun h => by cases h), ⟨rfl, hh0⟩, fun fs hl => c3.trans (X0.ireturnOut hexec hret rfl (Or.inr (Or.inr (Or.inl rfl))) (hb hbytes d8) hl)⟩
end CodL
/-- the String at a is Latin-1 over a new byte[] (the heap's one new cell): the low bytes of the len chars of A from o on; every cell but a is kept -/
def Got (a : Addr) (D : Cell) (fV fC : Field) (A : Cell) (o len : Nat) (r : Option Value) (s u : State) : Prop := r = none ∧ ∃ D' V : Cell, Blank "java/lang/String" a D' u ∧ Same D D' [fV.slot, fC.slot] ∧ D'.slots[fV.slot]? = some (.ref s.heap.size) ∧ D'.slots[fC.slot]? = some (.int 0) ∧ Arr .byte s.heap.size V u ∧ V.vm = .none ∧ u.vm.findClass "[B" = some V.cls ∧ V.slots.size = len ∧ (∀ j, j < len → V.slots[j]? = some (.int (lo8 (cv A (o + j))))) ∧ (∀ (y : Addr) (c : Cell), y ≠ a → s.heap[y]? = some c → u.heap[y]? = some c) ∧ u.heap.size = s.heap.size + 1
theorem Got.mv {a : Addr} {D A : Cell} {fV fC : Field} {o len : Nat} : ∀ r (U U' V V' : State), U'.heap = U.heap → V.vm.Alike V'.vm → V'.heap = V.heap → Got a D fV fC A o len r U V → Got a D fV fC A o len r U' V' :=
  fun r U U' V V' h1 hal h2 ⟨e0, D', X, a1, a2, a3, a4, a5, a6, a7, a8, a9, a10, a11⟩ => ⟨e0, D', X, a1.mv hal h2, a2, by rw [h1]; exact a3, a4, by rw [h1]; exact a5.mv hal h2, a6, by rw [hal.findClass]; exact a7, a8, a9, by rw [h1, h2]; exact a10, by rw [h1, h2]; exact a11⟩
namespace New4
def yN : MethodName := ⟨"java/lang/String", "<init>", "([CIILjava/lang/Void;)V"⟩
abbrev yB : ByteArray := jdk_42_method_149_code
theorem d0 : decode yB 0 = .ok (.aload_n 0, 1) := by decide +kernel
theorem d1 : decode yB 1 = .ok (.invokespecial 1, 3) := by decide +kernel
theorem d4 : decode yB 4 = .ok (.iload_n 3, 1) := by decide +kernel
theorem d5 : decode yB 5 = .ok (.ifCond (.ne) 22, 3) := by decide +kernel
theorem d27 : decode yB 27 = .ok (.getstatic 38, 3) := by decide +kernel
theorem d30 : decode yB 30 = .ok (.ifCond (.eq) 28, 3) := by decide +kernel
theorem d33 : decode yB 33 = .ok (.aload_n 1, 1) := by decide +kernel
theorem d34 : decode yB 34 = .ok (.iload_n 2, 1) := by decide +kernel
theorem d35 : decode yB 35 = .ok (.iload_n 3, 1) := by decide +kernel
theorem d36 : decode yB 36 = .ok (.invokestatic 177, 3) := by decide +kernel
theorem d39 : decode yB 39 = .ok (.astore 5, 2) := by decide +kernel
theorem d41 : decode yB 41 = .ok (.aload_n 0, 1) := by decide +kernel
theorem d42 : decode yB 42 = .ok (.aload 5, 2) := by decide +kernel
theorem d44 : decode yB 44 = .ok (.iload_n 3, 1) := by decide +kernel
theorem d45 : decode yB 45 = .ok (.invokestatic 47, 3) := by decide +kernel
theorem d48 : decode yB 48 = .ok (.putfield 15, 3) := by decide +kernel
theorem d51 : decode yB 51 = .ok (.aload_n 0, 1) := by decide +kernel
theorem d52 : decode yB 52 = .ok (.aload 5, 2) := by decide +kernel
theorem d54 : decode yB 54 = .ok (.putfield 9, 3) := by decide +kernel
theorem d57 : decode yB 57 = .ok (.return_, 1) := by decide +kernel
def site : List Cond := [.fieldLink "java/lang/String" 38 "java/lang/String" "COMPACT_STRINGS" "Z", Cmp3.tab, CodL.tab, .laysFinal "java/lang/String" "java/lang/String" "value" "[B", .fieldLink "java/lang/String" 9 "java/lang/String" "value" "[B", .laysFinal "java/lang/String" "java/lang/String" "coder" "B", .fieldLink "java/lang/String" 15 "java/lang/String" "coder" "B"] ++ objW "java/lang/String" 1 ++ staticW "java/lang/String" 177 Cmp3.yN ++ staticW "java/lang/String" 47 CodL.yN
def tab : Cond := tabOf yN yB 6 none site
def P (a : Addr) (D : Cell) (fV fC : Field) (b : Addr) (A : Cell) (z : Int32) (o len : Nat) (args : Array Value) (s : State) : Prop := args = #[.ref a, .ref b, .int (Int32.ofNat o), .int (Int32.ofNat len), .null] ∧ Blank "java/lang/String" a D s ∧ Found "java/lang/String" "value" "[B" fV s ∧ Found "java/lang/String" "coder" "B" fC s ∧ Ch b A s ∧ StaticIs s "java/lang/String" "COMPACT_STRINGS" "Z" (.int z) ∧ ¬ z = 0 ∧ 0 < len ∧ o + len ≤ A.slots.size ∧ len ≤ 536870912 ∧ ∀ i, i < len → ¬ 255 < cv A (o + i)
def E (a : Addr) (D : Cell) (fV fC : Field) (A : Cell) (o len : Nat) (r : Option Value) (s u : State) : Prop := Got a D fV fC A o len r s u
/-- len > 0, no char of the range above 255: a Latin-1 String of their low bytes -/
theorem law (l : Launch) (a : Addr) (D : Cell) (fV fC : Field) (b : Addr) (A : Cell) (z : Int32) (o len : Nat) : Law l yN 5 4 2 35 yB 6 none site (P a D fV fC b A z o len) (E a D fV fC A o len) [⟨a, fC.slot⟩, ⟨a, fV.slot⟩] 1 len := by
  refine Law.of_walk (plainFor_of_name (by decide +kernel)) (by decide +kernel) (by decide +kernel) (by decide) (fun _ _ h => by rw [h.1]; rfl) (fun _ U U' hal hh h => ⟨h.1, h.2.1.mv hal hh, h.2.2.1.al hal, h.2.2.2.1.al hal, h.2.2.2.2.1.mv hal hh, h.2.2.2.2.2.1.there hal hh, h.2.2.2.2.2.2⟩) (fun r U U' V V' h1 hal h2 h => Got.mv r U U' V V' h1 hal h2 h) ?_
  intro p e s m args below meth c s₁ X0 hexec hbytes hml hret hlk hnm hown hh0 W hP
  obtain ⟨rfl, hB, f1, f2, hA, s1, hz, l0, l1, l2, hp⟩ := hP
  have a31 := hA.1.2.2.2
  have c1 : Steps p.tables e below (s₁.setTop (entryFrame m #[.ref a, .ref b, .int (Int32.ofNat o), .int (Int32.ofNat len), .null] 6)) (s₁.setTop (mkF m 0 #[.val (.ref a), .val (.ref b), .val (.int (Int32.ofNat o)), .val (.int (Int32.ofNat len)), .val .null, .unset] [])) := entry rfl
  have c2 : Steps p.tables e below (s₁.setTop (entryFrame m #[.ref a, .ref b, .int (Int32.ofNat o), .int (Int32.ofNat len), .null] 6)) (s₁.setTop (mkF m 1 #[.val (.ref a), .val (.ref b), .val (.int (Int32.ofNat o)), .val (.int (Int32.ofNat len)), .val .null, .unset] [.ref a])) := c1.trans (by
    refine XS.aloadN X0.here hexec rfl (hb hbytes d0) rfl rfl ?_
    exact Steps.refl _)
  obtain ⟨T3, X3, q3, st3⟩ := X0.oinit hexec hown (wks W (objW "java/lang/String" 1)) (g := (mkF m 1 #[.val (.ref a), .val (.ref b), .val (.int (Int32.ofNat o)), .val (.int (Int32.ofNat len)), .val .null, .unset] [.ref a])) rfl (by rw [hml]; rfl) (rest := []) rfl (hb hbytes d1) (W := 0) (by show 2 * 0 + 0 ≤ _; decide) (Nat.le_of_ble_eq_true rfl) (Nat.le_of_ble_eq_true rfl)
  have hh3 := q3.trans hh0
  have c4 : Steps p.tables e below (s₁.setTop (entryFrame m #[.ref a, .ref b, .int (Int32.ofNat o), .int (Int32.ofNat len), .null] 6)) (T3.setTop (mkF m 27 #[.val (.ref a), .val (.ref b), .val (.int (Int32.ofNat o)), .val (.int (Int32.ofNat len)), .val .null, .unset] [])) := (c2.trans (st3 _ (Steps.refl _))).trans (by
    refine XS.iloadN X3.here hexec rfl (hb hbytes d4) rfl ?_
    refine XS.ifYes X3.here hexec rfl (pc0 := 5) rfl (hb hbytes d5) rfl (i0_ne_t (nz32 (by omega) l0)) (by decide) rfl ?_
    exact Steps.refl _)
  obtain ⟨T5, X5, q5, st5⟩ := X3.sget hexec hown (wk W (.fieldLink "java/lang/String" 38 "java/lang/String" "COMPACT_STRINGS" "Z")) s1 (fun _ _ h => by rw [hh3]; exact h) (g := (mkF m 27 #[.val (.ref a), .val (.ref b), .val (.int (Int32.ofNat o)), .val (.int (Int32.ofNat len)), .val .null, .unset] [])) rfl (hb hbytes d27)
  have hh5 := q5.trans hh3
  have c6 : Steps p.tables e below (s₁.setTop (entryFrame m #[.ref a, .ref b, .int (Int32.ofNat o), .int (Int32.ofNat len), .null] 6)) (T5.setTop (mkF m 30 #[.val (.ref a), .val (.ref b), .val (.int (Int32.ofNat o)), .val (.int (Int32.ofNat len)), .val .null, .unset] [.int z])) := c4.trans (st5 _ (Steps.refl _))
  have c7 : Steps p.tables e below (s₁.setTop (entryFrame m #[.ref a, .ref b, .int (Int32.ofNat o), .int (Int32.ofNat len), .null] 6)) (T5.setTop (mkF m 36 #[.val (.ref a), .val (.ref b), .val (.int (Int32.ofNat o)), .val (.int (Int32.ofNat len)), .val .null, .unset] [.int (Int32.ofNat len), .int (Int32.ofNat o), .ref b])) := c6.trans (by
    refine XS.ifNo X5.here hexec rfl (hb hbytes d30) rfl (i0_eq_f hz) ?_
    refine XS.aloadN X5.here hexec rfl (hb hbytes d33) rfl rfl ?_
    refine XS.iloadN X5.here hexec rfl (hb hbytes d34) rfl ?_
    refine XS.iloadN X5.here hexec rfl (hb hbytes d35) rfl ?_
    exact Steps.refl _)
  obtain ⟨v8, T8, X8, E8, g8⟩ := X5.callS hexec (Cmp3.law l b A o len) hown (wks W (staticW "java/lang/String" 177 Cmp3.yN)) (wk W Cmp3.tab) (W := 0) (Nat.le_of_ble_eq_true rfl) (Nat.le_of_ble_eq_true rfl) (Nat.le_refl _) (by show 0 + len ≤ len; omega) (g := (mkF m 36 #[.val (.ref a), .val (.ref b), .val (.int (Int32.ofNat o)), .val (.int (Int32.ofNat len)), .val .null, .unset] [.int (Int32.ofNat len), .int (Int32.ofNat o), .ref b])) rfl (by rw [hml]; rfl) c7 (argsL := [.ref b, .int (Int32.ofNat o), .int (Int32.ofNat len)]) (rest := []) rfl rfl (by show 2 * 0 + 0 ≤ _; decide) (hb hbytes d36) (⟨rfl, hA.mv X5.warmed.alike hh5, l1, l2, hp⟩)
  obtain ⟨e8, z8⟩ := E8
  obtain ⟨rfl, N, n1, n2, n3, n4, n5, n6⟩ := NewArr.mv _ T5 s _ _ hh5.symm (Vm.Alike.refl _) rfl e8
  rw [hh5] at z8
  have hB1 := hB.keep X8.warmed.alike (n6 _ _ hB.1)
  have hne : s.heap.size ≠ a := (Nat.ne_of_lt (Array.getElem?_eq_some_iff.mp hB.1).1).symm
  have c9 : Steps p.tables e below (s₁.setTop (entryFrame m #[.ref a, .ref b, .int (Int32.ofNat o), .int (Int32.ofNat len), .null] 6)) (T8.setTop (mkF m 39 #[.val (.ref a), .val (.ref b), .val (.int (Int32.ofNat o)), .val (.int (Int32.ofNat len)), .val .null, .unset] [.ref s.heap.size])) := g8
  have c10 : Steps p.tables e below (s₁.setTop (entryFrame m #[.ref a, .ref b, .int (Int32.ofNat o), .int (Int32.ofNat len), .null] 6)) (T8.setTop (mkF m 45 #[.val (.ref a), .val (.ref b), .val (.int (Int32.ofNat o)), .val (.int (Int32.ofNat len)), .val .null, .val (.ref s.heap.size)] [.int (Int32.ofNat N.slots.size), .ref s.heap.size, .ref a])) := by
    have hc : Steps p.tables e below (s₁.setTop (entryFrame m #[.ref a, .ref b, .int (Int32.ofNat o), .int (Int32.ofNat len), .null] 6)) (T8.setTop (mkF m 45 #[.val (.ref a), .val (.ref b), .val (.int (Int32.ofNat o)), .val (.int (Int32.ofNat len)), .val .null, .val (.ref s.heap.size)] [.int (Int32.ofNat len), .ref s.heap.size, .ref a])) := c9.trans (by
      refine XS.astore X8.here hexec rfl (hb hbytes d39) rfl rfl rfl ?_
      refine XS.aloadN X8.here hexec rfl (hb hbytes d41) rfl rfl ?_
      refine XS.aload X8.here hexec rfl (hb hbytes d42) rfl rfl ?_
      refine XS.iloadN X8.here hexec rfl (hb hbytes d44) rfl ?_
      exact Steps.refl _)
    rw [n4]; exact hc
  obtain ⟨v11, T11, X11, E11, g11⟩ := X8.callS hexec (CodL.law l s.heap.size N) hown (wks W (staticW "java/lang/String" 47 CodL.yN)) (wk W CodL.tab) (W := 1) (Nat.le_of_ble_eq_true rfl) (Nat.le_of_ble_eq_true rfl) (Nat.le_refl _) (by show 0 + len + 0 ≤ len; omega) (g := (mkF m 45 #[.val (.ref a), .val (.ref b), .val (.int (Int32.ofNat o)), .val (.int (Int32.ofNat len)), .val .null, .val (.ref s.heap.size)] [.int (Int32.ofNat N.slots.size), .ref s.heap.size, .ref a])) rfl (by rw [hml]; rfl) c10 (argsL := [.ref s.heap.size, .int (Int32.ofNat N.slots.size)]) (rest := [.ref a]) rfl rfl (by show 2 * 0 + (1 + 0) ≤ _; decide) (hb hbytes d45) (⟨rfl, n1⟩)
  obtain ⟨rfl, q11⟩ := E11
  have hB11 := hB1.mv (X8.warmed.alike.symm.trans X11.warmed.alike) q11
  have c12 : Steps p.tables e below (s₁.setTop (entryFrame m #[.ref a, .ref b, .int (Int32.ofNat o), .int (Int32.ofNat len), .null] 6)) (T11.setTop (mkF m 48 #[.val (.ref a), .val (.ref b), .val (.int (Int32.ofNat o)), .val (.int (Int32.ofNat len)), .val .null, .val (.ref s.heap.size)] [.int 0, .ref a])) := g11
  obtain ⟨T13, X13, p13, bl13, sl13, st13⟩ := X11.finit hexec hown (wk W (.fieldLink "java/lang/String" 15 "java/lang/String" "coder" "B")) (Or.inr ⟨_, (wk W (.laysFinal "java/lang/String" "java/lang/String" "coder" "B"))⟩) (Or.inl ⟨rfl, hnm⟩) f2 (Or.inl rfl) hB11 (t := .byte) (by decide +kernel) rfl (g := (mkF m 48 #[.val (.ref a), .val (.ref b), .val (.int (Int32.ofNat o)), .val (.int (Int32.ofNat len)), .val .null, .val (.ref s.heap.size)] [.int 0, .ref a])) rfl (rest := []) rfl (hb hbytes d48)
  have c14 : Steps p.tables e below (s₁.setTop (entryFrame m #[.ref a, .ref b, .int (Int32.ofNat o), .int (Int32.ofNat len), .null] 6)) (T13.setTop (mkF m 54 #[.val (.ref a), .val (.ref b), .val (.int (Int32.ofNat o)), .val (.int (Int32.ofNat len)), .val .null, .val (.ref s.heap.size)] [.ref s.heap.size, .ref a])) := (c12.trans (st13 _ (Steps.refl _))).trans (by
    refine XS.aloadN X13.here hexec rfl (hb hbytes d51) rfl rfl ?_
    refine XS.aload X13.here hexec rfl (hb hbytes d52) rfl rfl ?_
    exact Steps.refl _)
  obtain ⟨T15, X15, p15, bl15, sl15, st15⟩ := X13.finit hexec hown (wk W (.fieldLink "java/lang/String" 9 "java/lang/String" "value" "[B")) (Or.inr ⟨_, (wk W (.laysFinal "java/lang/String" "java/lang/String" "value" "[B"))⟩) (Or.inl ⟨rfl, hnm⟩) f1 (Or.inl rfl) bl13 (t := (.array .byte)) (by decide +kernel) rfl (g := (mkF m 54 #[.val (.ref a), .val (.ref b), .val (.int (Int32.ofNat o)), .val (.int (Int32.ofNat len)), .val .null, .val (.ref s.heap.size)] [.ref s.heap.size, .ref a])) rfl (rest := []) rfl (hb hbytes d54)
  have c16 : Steps p.tables e below (s₁.setTop (entryFrame m #[.ref a, .ref b, .int (Int32.ofNat o), .int (Int32.ofNat len), .null] 6)) (T15.setTop (mkF m 57 #[.val (.ref a), .val (.ref b), .val (.int (Int32.ofNat o)), .val (.int (Int32.ofNat len)), .val .null, .val (.ref s.heap.size)] [])) := c14.trans (st15 _ (Steps.refl _))
  have ap := apart (Or.inr ⟨_, (wk W (.laysFinal "java/lang/String" "java/lang/String" "value" "[B"))⟩) (Or.inr ⟨_, (wk W (.laysFinal "java/lang/String" "java/lang/String" "coder" "B"))⟩) f1 f2 (t₁ := .array .byte) (t₂ := .byte) (by decide +kernel) (by decide +kernel) (by decide)
  have al := X8.warmed.alike.symm.trans X15.warmed.alike
  have n7 : T11.heap[s.heap.size]? = some N := by rw [q11]; exact n1.1
  exact ⟨T15, none, _, _, _, X15, by simp, rfl, by omega, (fun _ => rfl), ⟨rfl, _, N, bl15, ((Same.refl D _).set _ (by simp)).set _ (by simp), sl15, (Cell.slots_setSlot_ne _ ap).trans sl13, n1.keep al (p15.other hne (p13.other hne n7)), n2, by rw [al.findClass]; exact n3, n4, n5, fun y c h1 h2 => p15.other h1 (p13.other h1 (by rw [q11]; exact n6 y c h2)), by rw [p15.2.2, p13.2.2, q11]; exact z8⟩, fun fs hl => c16.trans (X15.returnOut hexec hret (hb hbytes d57) hl)⟩
end New4
namespace New1
def yN : MethodName := ⟨"java/lang/String", "<init>", "([C)V"⟩
abbrev yB : ByteArray := jdk_42_method_3_code
theorem d0 : decode yB 0 = .ok (.aload_n 0, 1) := by decide +kernel
theorem d1 : decode yB 1 = .ok (.aload_n 1, 1) := by decide +kernel
theorem d2 : decode yB 2 = .ok (.iconst 0, 1) := by decide +kernel
theorem d3 : decode yB 3 = .ok (.aload_n 1, 1) := by decide +kernel
theorem d4 : decode yB 4 = .ok (.arraylength, 1) := by decide +kernel
theorem d5 : decode yB 5 = .ok (.aconst_null, 1) := by decide +kernel
theorem d6 : decode yB 6 = .ok (.invokespecial 27, 3) := by decide +kernel
theorem d9 : decode yB 9 = .ok (.return_, 1) := by decide +kernel
def site : List Cond := [New4.tab] ++ initW "java/lang/String" 27 New4.yN
def tab : Cond := tabOf yN yB 2 none site
def P (a : Addr) (D : Cell) (fV fC : Field) (b : Addr) (A : Cell) (z : Int32) (args : Array Value) (s : State) : Prop := args = #[.ref a, .ref b] ∧ Blank "java/lang/String" a D s ∧ Found "java/lang/String" "value" "[B" fV s ∧ Found "java/lang/String" "coder" "B" fC s ∧ Ch b A s ∧ StaticIs s "java/lang/String" "COMPACT_STRINGS" "Z" (.int z) ∧ ¬ z = 0 ∧ 0 < A.slots.size ∧ A.slots.size ≤ 536870912 ∧ ∀ i, i < A.slots.size → ¬ 255 < cv A i
def E (a : Addr) (D : Cell) (fV fC : Field) (A : Cell) (r : Option Value) (s u : State) : Prop := Got a D fV fC A 0 A.slots.size r s u
/-- new String(chars), not empty, no char above 255: a Latin-1 String of their low bytes -/
theorem law (l : Launch) (a : Addr) (D : Cell) (fV fC : Field) (b : Addr) (A : Cell) (z : Int32) : Law l yN 2 1 3 52 yB 2 none site (P a D fV fC b A z) (E a D fV fC A) [⟨a, fC.slot⟩, ⟨a, fV.slot⟩] 1 A.slots.size := by
  refine Law.of_walk (plainFor_of_name (by decide +kernel)) (by decide +kernel) (by decide +kernel) (by decide) (fun _ _ h => by rw [h.1]; rfl) (fun _ U U' hal hh h => ⟨h.1, h.2.1.mv hal hh, h.2.2.1.al hal, h.2.2.2.1.al hal, h.2.2.2.2.1.mv hal hh, h.2.2.2.2.2.1.there hal hh, h.2.2.2.2.2.2⟩) (fun r U U' V V' h1 hal h2 h => Got.mv r U U' V V' h1 hal h2 h) ?_
  intro p e s m args below meth c s₁ X0 hexec hbytes hml hret hlk hnm hown hh0 W hP
  obtain ⟨rfl, hB, f1, f2, hA, s1, hz, l0, l2, hp⟩ := hP
  have c1 : Steps p.tables e below (s₁.setTop (entryFrame m #[.ref a, .ref b] 2)) (s₁.setTop (mkF m 0 #[.val (.ref a), .val (.ref b)] [])) := entry rfl
  have c2 : Steps p.tables e below (s₁.setTop (entryFrame m #[.ref a, .ref b] 2)) (s₁.setTop (mkF m 6 #[.val (.ref a), .val (.ref b)] [.null, .int (Int32.ofNat A.slots.size), .int 0, .ref b, .ref a])) := c1.trans (by
    refine XS.aloadN X0.here hexec rfl (hb hbytes d0) rfl rfl ?_
    refine XS.aloadN X0.here hexec rfl (hb hbytes d1) rfl rfl ?_
    refine iconstV X0.here hexec rfl 0 (hb hbytes d2) (by decide) ?_
    refine XS.aloadN X0.here hexec rfl (hb hbytes d3) rfl rfl ?_
    refine X0.alen hexec (hA.1.mv X0.warmed.alike hh0) rfl rfl (hb hbytes d4) ?_
    refine XS.aconstNull X0.here hexec rfl (hb hbytes d5) ?_
    exact Steps.refl _)
  obtain ⟨v3, T3, X3, E3, g3⟩ := X0.callN hexec (New4.law l a D fV fC b A z 0 A.slots.size) rfl hown (wks W (initW "java/lang/String" 27 New4.yN)) (W New4.tab (by simp only [site, List.mem_cons, List.mem_append, true_or, or_true])) (W := 0) (Nat.le_of_ble_eq_true rfl) (Nat.le_of_ble_eq_true rfl) (Nat.le_refl _) (by show 0 + A.slots.size ≤ A.slots.size; omega) (g := (mkF m 6 #[.val (.ref a), .val (.ref b)] [.null, .int (Int32.ofNat A.slots.size), .int (Int32.ofNat 0), .ref b, .ref a])) rfl (by rw [hml]; rfl) c2 (argsL := [.ref b, .int (Int32.ofNat 0), .int (Int32.ofNat A.slots.size), .null]) (rest := []) rfl rfl (by show 2 * 0 + 0 ≤ _; decide) (hb hbytes d6) (⟨rfl, hB.mv X0.warmed.alike hh0, f1.al X0.warmed.alike, f2.al X0.warmed.alike, hA.mv X0.warmed.alike hh0, s1.there X0.warmed.alike hh0, hz, l0, by omega, l2, fun i hi => by rw [Nat.zero_add]; exact hp i hi⟩)
  have e0 := Got.mv _ s₁ s _ _ hh0.symm (Vm.Alike.refl _) rfl E3
  obtain rfl := e0.1
  have c4 : Steps p.tables e below (s₁.setTop (entryFrame m #[.ref a, .ref b] 2)) (T3.setTop (mkF m 9 #[.val (.ref a), .val (.ref b)] [])) := g3
  exact ⟨T3, none, _, _, _, X3, by simp, rfl, by omega, (fun _ => rfl), e0, fun fs hl => c4.trans (X3.returnOut hexec hret (hb hbytes d9) hl)⟩
theorem pays {l : Launch} {R : Room} {p : Program} {e : Env} {below : List Frame} {s : State} {sargs : Array Value} {len W : Nat} (a : Addr) (D : Cell) (fV fC : Field) (b : Addr) (A : Cell) (z : Int32) (htab : tab.before sargs s = true) (hfr : 4 ≤ R.frames) (hlo : W + 65 ≤ R.locals) :
    Back l R p e below s sargs yN len W (fun A₁ a₁ => A₁.cells + 1 ≤ R.cells ∧ A₁.slots + A.slots.size ≤ R.slots ∧ P a D fV fC b A z a₁ A₁.U) (fun A₁ _ v₁ B₁ => E a D fV fC A v₁ A₁.U B₁.U ∧ B₁.locs = A₁.locs ++ [⟨a, fC.slot⟩, ⟨a, fV.slot⟩] ∧ B₁.cells = A₁.cells + 1 ∧ B₁.slots = A₁.slots + A.slots.size) :=
  (law l a D fV fC b A z).pays htab hfr (by omega)
end New1
/-- the byte, read back as charAt reads it, is the char -/
theorem lo8_mask {x : Int32} (h0 : ¬ x < 0) (h1 : ¬ 255 < x) : lo8 x &&& 255 = x := by
  have t : ∀ k : Fin 256, lo8 (Int32.ofNat k.val) &&& 255 = Int32.ofNat k.val := by decide +kernel
  rw [Int32.lt_iff_toInt_lt] at h0 h1
  have e0 : (0 : Int32).toInt = 0 := rfl
  have e1 : (255 : Int32).toInt = 255 := rfl
  obtain ⟨k, hk⟩ : ∃ k : Nat, x.toInt = k := ⟨x.toInt.toNat, by omega⟩
  have hx : x = Int32.ofNat k := Int32.toInt_inj.mp (by rw [hk, Int32.toInt_ofNat_small (by omega)])
  rw [hx]
  exact t ⟨k, by omega⟩
end StrChars
namespace StrChars.Road
open Jvm Sem ClassFile Op Lib Jvm.Stand Jvm.Free Jvm.Free.XT
open Jvm.Lib.Cold (StaticIs)
abbrev ST : String := "java/lang/String"
/-- every table word that New1's law asks, flat -/
abbrev words : List Jvm.Cond := [.code New1.yN New1.yB 2 none, .initialized ST, .methodLink ST 27 New4.yN, .instanceMethod New4.yN,
  .code New4.yN New4.yB 6 none, .fieldLink ST 38 ST "COMPACT_STRINGS" "Z", .laysFinal ST ST "value" "[B", .fieldLink ST 9 ST "value" "[B", .laysFinal ST ST "coder" "B", .fieldLink ST 15 ST "coder" "B",
  .methodLink ST 1 Lib.objectInit, .instanceMethod Lib.objectInit, .code Lib.objectInit ⟨#[0xb1]⟩ 1 none, .methodLink ST 177 Cmp3.yN, .static Cmp3.yN, .methodLink ST 47 CodL.yN, .static CodL.yN,
  .code Cmp3.yN Cmp3.yB 6 (some (.array .byte)), .initialized U16, .arrayClass .byte, .methodLink U16 115 Cmp5.yN, .static Cmp5.yN, .code Cmp5.yN Cmp5.yB 7 (some .int), .code CodL.yN CodL.yB 2 (some .byte)]
theorem tab_of {a : Array Value} {s : State} (h : ∀ w ∈ words, w.before a s = true) : New1.tab.before a s = true := by
  have h5 : Cmp5.tab.before a s = true := unparts (wk h (.code Cmp5.yN Cmp5.yB 7 (some .int))) (wks h (.initialized Cmp5.yN.cls :: Cmp5.site))
  have hc : CodL.tab.before a s = true := unparts (wk h (.code CodL.yN CodL.yB 2 (some .byte))) (wks h (.initialized CodL.yN.cls :: CodL.site))
  have q5 : ∀ w ∈ Cmp5.tab :: words, w.before a s = true := fun w hw => (List.mem_cons.mp hw).elim (fun e => e ▸ h5) (h w)
  have h3 : Cmp3.tab.before a s = true := unparts (wk q5 (.code Cmp3.yN Cmp3.yB 6 (some (.array .byte)))) (wks q5 (.initialized Cmp3.yN.cls :: Cmp3.site))
  have q3 : ∀ w ∈ Cmp3.tab :: CodL.tab :: words, w.before a s = true := fun w hw => (List.mem_cons.mp hw).elim (fun e => e ▸ h3) fun hw => (List.mem_cons.mp hw).elim (fun e => e ▸ hc) (h w)
  have h4 : New4.tab.before a s = true := unparts (wk q3 (.code New4.yN New4.yB 6 none)) (wks q3 (.initialized New4.yN.cls :: New4.site))
  have q4 : ∀ w ∈ New4.tab :: words, w.before a s = true := fun w hw => (List.mem_cons.mp hw).elim (fun e => e ▸ h4) (h w)
  exact unparts (wk q4 (.code New1.yN New1.yB 2 none)) (wks q4 (.initialized New1.yN.cls :: New1.site))
/-- the words ride from the start Z to the walk's own state -/
theorem moved {Z s : State} {a0 args : Array Value} (hZ : Z.Warmed39 s.vm) (hw : ∀ d ∈ words, d.before a0 Z = true) : ∀ d ∈ words, d.before args s = true := fun d hd => by
  have q := hw d hd
  have t : ∀ d ∈ words, d = .arrayClass .byte ∨ (d.onTables && d.keepsFace) = true := by decide +kernel
  rcases t d hd with rfl | t
  · exact RoadKit.mvA hZ q
  · exact RoadKit.mv hZ q t
/-- WHAT COMES BACK, over the tables of the start Z: h the heap at the call, h' behind it -/
def Q (Z : State) (x : Addr) (A : Cell) (h : Heap) (v : Option Value) (h' : Heap) (L : List Loc) : Prop := v = none ∧ (∀ y ∈ L, y.base = x) ∧ RoadKit.Keep h h' [x] ∧ h'.size = h.size + 1 ∧ RoadKit.Exa Z h' x ST ∧ RoadKit.Fld Z h' x ST "value" "[B" (.ref h.size) ∧ RoadKit.Fld Z h' x ST "coder" "B" (.int 0) ∧
  (∃ V : Cell, RoadKit.Arr Z h' h.size V .byte ∧ V.vm = .none ∧ Z.vm.findClass "[B" = some V.cls ∧ V.slots.size = A.slots.size ∧ ∀ j, j < A.slots.size → V.slots[j]? = some (.int (lo8 (cv A j)))) ∧
  ∀ (O n d : String) (w : Value), RoadKit.Fld Z h x O n d w → RoadKit.slotOf Z O n d ≠ RoadKit.slotOf Z ST "value" "[B" → RoadKit.slotOf Z O n d ≠ RoadKit.slotOf Z ST "coder" "B" → RoadKit.Fld Z h' x O n d w
/-- **new String(chars) AT A CALL, IN THE ROAD'S FORM**: for specialBack behind newO: x the fresh String, b the char[] with the cell A -/
theorem back {p : Program} {l : Launch} {e : Env} {R : Room} {s : State} {args : Array Value} {below : List Frame} {len W : Nat} {Z : State} {a0 : Array Value} {h : Heap} (hZ : Z.Warmed39 s.vm) (hw : ∀ d ∈ words, d.before a0 Z = true) {kI : Nat} (wi : (Jvm.Cond.instantiable ST kI).before a0 Z = true)
    {x b : Addr} {A : Cell} {z : Int32} {v0 c0 : Value} (E : RoadKit.Exa Z h x ST) (V : RoadKit.Fld Z h x ST "value" "[B" v0) (C : RoadKit.Fld Z h x ST "coder" "B" c0) (K : RoadKit.Arr Z h b A .char) (hty : Typed .char A) (S : RoadKit.Sta Z h ST "COMPACT_STRINGS" "Z" (.int z)) (hz : ¬ z = 0)
    (l0 : 0 < A.slots.size) (l2 : A.slots.size ≤ 536870912) (hp : ∀ i, i < A.slots.size → ¬ 255 < cv A i) (hfr : 4 ≤ R.frames) (hlo : W + 65 ≤ R.locals) :
    Back l R p e below s args New1.yN len W (fun P a => a = #[.ref x, .ref b] ∧ P.U.heap = h ∧ P.cells + 1 ≤ R.cells ∧ P.slots + A.slots.size ≤ R.slots)
      (fun P _ v B => ∃ L, Q Z x A h v B.U.heap L ∧ B.locs = P.locs ++ L ∧ B.cells = P.cells + 1 ∧ B.slots = P.slots + A.slots.size) := by
  intro m meth c P g ig mk a X hg hsize hdg hW hn hp'
  obtain ⟨rfl, rfl, r1, r2⟩ := hp'
  have al : Z.vm.Alike P.U.vm := hZ.alike.trans X.warmed.alike
  obtain ⟨D, cfV, kV, iV, fV, hD, gV, stV, knV, obV, asV, slV⟩ := id V
  obtain ⟨D', cfC, kC, iC, fC, hD', gC, stC, -, -, asC, slC⟩ := id C
  cases hD.symm.trans hD'
  obtain ⟨D2, kD, e1, e2, e3, e4, e5⟩ := id E
  cases hD.symm.trans e1
  obtain ⟨c2, k2, i1, i2, i3, -⟩ := Cond.instantiable_spec wi
  cases e2.symm.trans i1
  cases e3.symm.trans i2
  obtain ⟨kU, u1, u2⟩ := al.2.2 _ _ e3
  have hB : Blank ST x D P.U := ⟨hD, ⟨knV, fun q hq => by rw [hq] at obV; cases obV⟩, by rw [al.findClass]; exact e2, kU, u1, by rw [u2]; exact i3, by rw [u2]; exact e5 i3⟩
  have F1 : Found ST "value" "[B" fV P.U := ⟨SBG.found_only al ⟨cfV, kV, iV, gV⟩, stV⟩
  have F2 : Found ST "coder" "B" fC P.U := ⟨SBG.found_only al ⟨cfC, kC, iC, gC⟩, stC⟩
  have hA : Ch b A P.U := ⟨⟨K.1, State.isArrayOf_alike al K.2.1, K.2.2, by omega⟩, hty⟩
  have hS : StaticIs P.U ST "COMPACT_STRINGS" "Z" (.int z) := by
    obtain ⟨cfS, iS, kS, fS, st, cS, t1, t2, t3, t4, t5, t6, t7⟩ := S
    exact StaticIs.there (s := { Z with heap := P.U.heap }) ⟨cfS, iS, kS, fS, st, cS, t1, t2, t3, t4, t5, (fun q => by rw [q] at t6; cases t6), t7⟩ al rfl
  obtain ⟨v, B, X', ⟨⟨hv, E', V', q1, q2, q3, q4, q5, q6, q7, q8, q9, q10, q11⟩, hl, hc, hs⟩, st⟩ := New1.pays x D fV fC b A z (tab_of (moved hZ hw)) hfr hlo m meth c P g ig mk _ X hg hsize hdg hW hn ⟨r1, r2, rfl, hB, F1, F2, hA, hS, hz, l0, l2, hp⟩
  have al' : Z.vm.Alike B.U.vm := hZ.alike.trans X'.warmed.alike
  have hsz : E'.slots.size = D.slots.size := by
    obtain ⟨-, -, -, kB, w1, w2, w3⟩ := q1
    obtain ⟨kB', y1, y2⟩ := al'.2.2 _ _ e3
    rw [q2.2.1] at w1
    cases w1.symm.trans y1
    rw [w3, e5 i3, y2]
  refine ⟨v, B, X', ⟨_, ⟨hv, ?_, ⟨by omega, fun y cy hy hn' => q10 y cy (by simpa using hn') hy, fun y cy hy => ?_⟩, q11, ⟨E', _, q1.1, by rw [q2.2.1]; exact e2, by rw [q2.2.1]; exact e3, by rw [q2.1]; exact obV, fun _ => by rw [hsz]; exact e5 i3⟩,
    ⟨E', cfV, kV, iV, fV, q1.1, gV, stV, by rw [q2.1]; exact knV, by rw [q2.1]; exact obV, by rw [q2.2.1]; exact asV, q3⟩, ⟨E', cfC, kC, iC, fC, q1.1, gC, stC, by rw [q2.1]; exact knV, by rw [q2.1]; exact obV, by rw [q2.2.1]; exact asC, q4⟩,
    ⟨V', ⟨q5.1, State.isArrayOf_alike al'.symm q5.2.1, q5.2.2.1⟩, q6, by rw [← al'.findClass]; exact q7, q8, fun j hj => by have := q9 j hj; rwa [Nat.zero_add] at this⟩, fun O n d w F n1 n2 => ?_⟩, hl, hc, hs⟩, st⟩
  · intro y hy
    simp only [List.mem_cons, List.not_mem_nil, or_false] at hy
    rcases hy with rfl | rfl <;> rfl
  · by_cases q : y = x
    · subst q
      cases hD.symm.trans hy
      exact ⟨E', q1.1, q2.2.1, q2.1, hsz⟩
    · exact ⟨cy, q10 y cy q hy, rfl, rfl, rfl⟩
  · obtain ⟨D3, cf, k, i, f, g1, g2, g3, g4, g5, g6, g7⟩ := F
    cases hD.symm.trans g1
    simp only [RoadKit.slotOf, g2, gV, gC, Option.map_some, Option.getD_some] at n1 n2
    exact ⟨E', cf, k, i, f, q1.1, g2, g3, by rw [q2.1]; exact g4, by rw [q2.1]; exact g5, by rw [q2.2.1]; exact g6, by rw [q2.2.2 f.slot (by simp [n1, n2])]; exact g7⟩
end StrChars.Road
namespace StrChars.Road
open Jvm Sem ClassFile Op Lib Jvm.Stand Jvm.Free Jvm.Free.XT
/-- WHAT COMES BACK, the byte[] as a list of values -/
def QA (Z : State) (x : Addr) (zn : Int32) (cs : List Int32) (h : Heap) (v : Option Value) (h' : Heap) (L : List Loc) : Prop := v = none ∧ (∀ y ∈ L, y.base = x) ∧ RoadKit.Keep h h' [x] ∧ h'.size = h.size + 1 ∧ RoadKit.Exa Z h' x ST ∧ RoadKit.Fld Z h' x ST "value" "[B" (.ref h.size) ∧ RoadKit.Fld Z h' x ST "coder" "B" (.int 0) ∧
  (∃ kb, Z.vm.findClass "[B" = some kb ∧ RoadKit.Arv Z h' h.size kb .byte zn (cs.map fun c => .int (lo8 c)) (.int 0)) ∧
  ∀ (O n d : String) (w : Value), RoadKit.Fld Z h x O n d w → RoadKit.slotOf Z O n d ≠ RoadKit.slotOf Z ST "value" "[B" → RoadKit.slotOf Z O n d ≠ RoadKit.slotOf Z ST "coder" "B" → RoadKit.Fld Z h' x O n d w
/-- **new String(chars) AT A CALL, THE ARRAYS AS LISTS**: the char[] at b holds cs, not empty, no char above 255 -/
theorem backArv {p : Program} {l : Launch} {e : Env} {R : Room} {s : State} {args : Array Value} {below : List Frame} {len W : Nat} {Z : State} {a0 : Array Value} {h : Heap} (hZ : Z.Warmed39 s.vm) (hw : ∀ d ∈ words, d.before a0 Z = true) {kI : Nat} (wi : (Jvm.Cond.instantiable ST kI).before a0 Z = true)
    {x b : Addr} {k : ClassId} {zn z : Int32} {cs : List Int32} {dv v0 c0 : Value} (E : RoadKit.Exa Z h x ST) (V : RoadKit.Fld Z h x ST "value" "[B" v0) (C : RoadKit.Fld Z h x ST "coder" "B" c0) (K : RoadKit.Arv Z h b k .char zn (cs.map Value.int) dv) (S : RoadKit.Sta Z h ST "COMPACT_STRINGS" "Z" (.int z)) (hz : ¬ z = 0)
    (hlen : zn.toNatClampNeg = cs.length) (h0 : 0 < cs.length) (hbig : cs.length ≤ 536870912) (hall : ∀ c ∈ cs, ¬ 255 < c) (hfr : 4 ≤ R.frames) (hlo : W + 65 ≤ R.locals) :
    Back l R p e below s args New1.yN len W (fun P a => a = #[.ref x, .ref b] ∧ P.U.heap = h ∧ P.cells + 1 ≤ R.cells ∧ P.slots + cs.length ≤ R.slots)
      (fun P _ v B => ∃ L, QA Z x zn cs h v B.U.heap L ∧ B.locs = P.locs ++ L ∧ B.cells = P.cells + 1 ∧ B.slots = P.slots + cs.length) := by
  obtain ⟨A, K1, K2, K3, K4, K5, K6⟩ := K
  have e : A.slots.size = cs.length := K3.trans hlen
  have hat : ∀ (i : Nat) (hi : i < cs.length), A.slots[i]? = some (.int cs[i]) := fun i hi => by rw [K5 i (by omega)]; simp [List.getD_eq_getElem?_getD, hi]
  have hcv : ∀ (i : Nat) (hi : i < cs.length), cv A i = cs[i] := fun i hi => by unfold cv; rw [hat i hi]
  have hty : Typed .char A := fun i v hv => by
    have hi : i < A.slots.size := (Array.getElem?_eq_some_iff.mp hv).1
    have q := K5 i hi
    rw [hv] at q
    rw [Option.some.inj q]
    exact K6 i hi
  refine Back.mono (back hZ hw wi E V C K1 hty S hz (by omega) (by omega) (fun i hi => by rw [hcv i (by omega)]; exact hall _ (List.getElem_mem _)) hfr hlo) (fun P a hp => ⟨hp.1, hp.2.1, hp.2.2.1, by rw [e]; exact hp.2.2.2⟩) (fun P a v B hp hq => ?_)
  obtain ⟨L, ⟨q1, q2, q3, q4, q5, q6, q7, ⟨V', v1, v2, v3, v4, v5⟩, q9⟩, hl, hc, hs⟩ := hq
  refine ⟨L, ⟨q1, q2, q3, q4, q5, q6, q7, ⟨V'.cls, v3, V', v1, rfl, by rw [v4, e, hlen], K4, fun i hi => ?_, fun i hi => ?_⟩, q9⟩, hl, hc, by rw [hs, e]⟩
  · have hi' : i < cs.length := by omega
    rw [v5 i (by omega), hcv i hi']; simp [List.getD_eq_getElem?_getD, hi']
  · have hi' : i < cs.length := by omega
    simp only [List.getD_eq_getElem?_getD, List.getElem?_map, List.getElem?_eq_getElem hi', Option.map_some, Option.getD_some]
    exact fits_lo8 _
end StrChars.Road
namespace StrChars.Road
open Jvm Sem ClassFile Op Lib Jvm.Stand Jvm.Free Jvm.Free.XT
/-- WHAT COMES BACK, in the writer's own shape -/
def QV (Z : State) (x : Addr) (N : Int32) (bs : List Int32) (h : Heap) (n0 : Nat) (v : Option Value) (h' : Heap) (L : List Loc) : Prop := v = none ∧ RoadKit.Fr n0 L ∧ RoadKit.Keep h h' [x] ∧ RoadKit.Exa Z h' x ST ∧ RoadKit.Fld Z h' x ST "coder" "B" (.int 0) ∧
  ∃ (t : Addr) (kb : ClassId), n0 ≤ t ∧ h.size ≤ t ∧ ¬ t = x ∧ RoadKit.Fld Z h' x ST "value" "[B" (.ref t) ∧ RoadKit.Arv Z h' t kb .byte N (bs.map Value.int) (.int 0)
/-- **new String(chars) AT A CALL, FOR THE WRITER**: a char[] of n known ints, each 0 to 255 -/
theorem backV {p : Program} {l : Launch} {e : Env} {R : Room} {s : State} {args : Array Value} {below : List Frame} {len W : Nat} {Z : State} {a0 : Array Value} {h : Heap} (hZ : Z.Warmed39 s.vm) (hw : ∀ d ∈ words, d.before a0 Z = true) {kI : Nat} (wi : (Jvm.Cond.instantiable ST kI).before a0 Z = true)
    {x b : Addr} {kC : ClassId} {cs bs : List Int32} {d v0 c0 : Value} {z N : Int32} {n n0 : Nat} (hx0 : n0 ≤ x) (hh0 : n0 ≤ h.size) (E : RoadKit.Exa Z h x ST) (V : RoadKit.Fld Z h x ST "value" "[B" v0) (C : RoadKit.Fld Z h x ST "coder" "B" c0) (K : RoadKit.Arv Z h b kC .char N (cs.map Value.int) d) (S : RoadKit.Sta Z h ST "COMPACT_STRINGS" "Z" (.int z)) (hz : ¬ z = 0)
    (hn : cs.length = n) (hN : N = Int32.ofNat n) (l0 : 0 < n) (l2 : n ≤ 4000) (hp : ∀ c ∈ cs, ¬ c < 0 ∧ ¬ (255 : Int32) < c) (hb : bs = cs.map (fun c => c.toInt8.toInt32)) (hfr : 4 ≤ R.frames) (hlo : W + 65 ≤ R.locals) :
    Back l R p e below s args (⟨"java/lang/String", "<init>", "([C)V"⟩ : MethodName) len W (fun P a => a = #[.ref x, .ref b] ∧ P.U.heap = h ∧ P.cells + 1 ≤ R.cells ∧ P.slots + n ≤ R.slots)
      (fun P _ v B => ∃ L, QV Z x N bs h n0 v B.U.heap L ∧ B.locs = P.locs ++ L ∧ B.cells = P.cells + 1 ∧ B.slots = P.slots + n) := by
  subst hn hN hb
  refine Back.mono (backArv hZ hw wi E V C K S hz (n32 (by omega)) l0 (by omega) (fun c hc => (hp c hc).2) hfr hlo) (fun P a hp => hp) (fun P a v B hp hq => ?_)
  obtain ⟨L, ⟨q1, q2, q3, q4, q5, q6, q7, ⟨kb, v1, v2⟩, q9⟩, hl, hc, hs⟩ := hq
  exact ⟨L, ⟨q1, fun y hy => by rw [q2 y hy]; exact hx0, q3, q5, q7, h.size, kb, hh0, Nat.le_refl _, Nat.ne_of_gt E.lt, q6, by rw [List.map_map]; exact v2⟩, hl, hc, hs⟩
end StrChars.Road
namespace StrChars
open Jvm Sem ClassFile Op Lib Jvm.Stand Jvm.Free.XT Jvm.Free.ALB Jvm.Free.JM Jvm.Free
open Jvm.Lib.Cold (StaticIs)
def hi8 (x : Int32) : Int32 := lo8 (x >>> ((8 : Int32) &&& 31))
theorem shr0 (c : Int32) : c >>> ((0 : Int32) &&& 31) = c := by
  have e : ((0 : Int32) &&& 31) = 0 := by decide
  rw [e]
  apply Int32.toBitVec_inj.mp
  rw [Int32.toBitVec_shiftRight]
  have e1 : ((0 : Int32).toBitVec.smod 32) = 0#32 := by decide
  rw [e1, BitVec.sshiftRight_eq']
  exact BitVec.sshiftRight_zero
end StrChars
namespace StrChars
open Jvm Sem ClassFile Op Lib Jvm.Stand Jvm.Free.XT Jvm.Free.ALB Jvm.Free.JM Jvm.Free
open Jvm.Lib.Cold (StaticIs)
theorem shr1 {n : Nat} (h : 2 * n < 2 ^ 31) : Int32.ofNat (2 * n) >>> ((1 : Int32) &&& 31) = Int32.ofNat n := by
  have e : ((1 : Int32) &&& 31) = 1 := by decide
  rw [e]
  apply Int32.toBitVec_inj.mp
  rw [Int32.toBitVec_shiftRight]
  have e1 : ((1 : Int32).toBitVec.smod 32) = 1#32 := by decide
  have hm : (BitVec.ofNat 32 (2 * n)).toNat = 2 * n := by rw [BitVec.toNat_ofNat, Nat.mod_eq_of_lt (by omega)]
  rw [e1, BitVec.sshiftRight_eq']
  apply BitVec.eq_of_toNat_eq
  show ((BitVec.ofNat 32 (2 * n)).sshiftRight 1).toNat = (BitVec.ofNat 32 n).toNat
  rw [BitVec.toNat_sshiftRight_of_msb_false (by rw [BitVec.msb_eq_false_iff_two_mul_lt, hm]; omega), hm, BitVec.toNat_ofNat, Nat.shiftRight_eq_div_pow]
  omega
end StrChars
namespace StrChars.Road
open Jvm Sem ClassFile Op Lib Jvm.Stand Jvm.Free Jvm.Free.XT
open Jvm.Lib.Cold (StaticIs)
/-- the bytes of the chars cs, low before high -/
def wideBytes : List Int32 → List Value
  | [] => []
  | c :: cs => .int (lo8 c) :: .int (hi8 c) :: wideBytes cs
theorem wide_lo (d : Value) : ∀ (cs : List Int32) (j : Nat), j < cs.length → (wideBytes cs).getD (2 * j) d = .int (lo8 (cs.getD j 0))
  | [], j, h => absurd h (Nat.not_lt_zero j)
  | c :: cs, 0, _ => rfl
  | c :: cs, j + 1, h => by
    have q := wide_lo d cs j (by simpa using h)
    rw [show 2 * (j + 1) = 2 * j + 1 + 1 from by omega]
    simpa [wideBytes] using q
theorem wide_hi (d : Value) : ∀ (cs : List Int32) (j : Nat), j < cs.length → (wideBytes cs).getD (2 * j + 1) d = .int (hi8 (cs.getD j 0))
  | [], j, h => absurd h (Nat.not_lt_zero j)
  | c :: cs, 0, _ => rfl
  | c :: cs, j + 1, h => by
    have q := wide_hi d cs j (by simpa using h)
    rw [show 2 * (j + 1) + 1 = 2 * j + 1 + 1 + 1 from by omega]
    simpa [wideBytes] using q
/-- an array of N2 bytes vs codes the chars cs by the coder cd -/
def CodA (cs : List Int32) (cd N2 : Int32) (vs : List Value) : Prop := (cd = 0 ∧ N2 = Int32.ofNat cs.length ∧ vs = (cs.map fun c => Value.int (lo8 c)) ∧ ∀ c ∈ cs, ¬ 255 < c) ∨ (cd = 1 ∧ N2 = Int32.ofNat (2 * cs.length) ∧ vs = wideBytes cs ∧ ∃ c ∈ cs, 255 < c)
end StrChars.Road
namespace StrChars.Road
open Jvm Sem ClassFile Op Lib Jvm.Stand Jvm.Free Jvm.Free.XT
open Jvm.Lib.Cold (StaticIs)
/-- what backV says of its String, as the contracts of this text ask it: cs's low bytes, coder 0 -/
theorem codOf {cs : List Int32} {n : Nat} (hn : cs.length = n) (hb : ∀ c ∈ cs, ¬ 255 < c) : CodA cs 0 (Int32.ofNat n) ((cs.map lo8).map Value.int) := Or.inl ⟨rfl, by rw [hn], by simp [List.map_map, Function.comp_def], hb⟩
end StrChars.Road
end Jvm.Pilot.@@N@@
namespace Jvm.Pilot.@@N@@
open Jvm Jvm.ClassFile Sem Op Lib Jvm.Free Jvm.Stand Jvm.LawKit Jvm.RoadKit Bundle Jvm.Pilot.@@N@@.Jvm.D
namespace Own
open Jvm Jvm.ClassFile Sem Op Lib Jvm.Free Jvm.Stand Jvm.LawKit Jvm.RoadKit Bundle
abbrev i2c (x : Int32) : Int32 := x.toUInt32.toUInt16.toUInt32.toInt32
/-- from the frame g of T the run comes to an end of which G speaks -/
def Go (p : Program) (e : Env) (below : List Frame) (G : State → Prop) (T : State) (g : JFrame) : Prop := ∃ t, Steps p.tables e below (T.setTop g) t ∧ G t
/-- where a walk stands: Stand, the run's own machine, the heap, the tables, its class, what was written, what was kept -/
def NK (p : Program) (l : Launch) (e : Env) (R : Room) (s : State) (m : MethodId) (args : Array Value) (below : List Frame) (meth : Method) (c : Code) (Z : State) (own : String) (n0 : Nat) (h0 : Heap) (ws : List Addr) (T : State) (h : Heap) (locs : List Loc) (cells slots : Nat) : Prop :=
  Stand p l e R s m args below meth c T locs cells slots ∧ p.tables.exec = Jvm.exec ∧ T.heap = h ∧ Z.Warmed39 s.vm ∧ s.vm.findClass own = some m.cls ∧ Fr n0 locs ∧ Keep h0 h ws ∧ n0 ≤ h0.size ∧ meth.locks = false
theorem Keep.toExt {h h' : Heap} (K : Keep h h' []) : Ext h h' := ⟨K.1, fun a c q => K.2.1 a c q nin0⟩
theorem Keep.ofExt {h h' : Heap} (E : Ext h h') (ws : List Addr) : Keep h h' ws := (Keep.refl h ws).ext E
theorem Ext.rfl' (h : Heap) : Ext h h := ⟨Nat.le_refl _, fun _ _ q => q⟩
theorem Ext.tr {h h' h2 : Heap} (E : Ext h h') (E' : Ext h' h2) : Ext h h2 := ⟨Nat.le_trans E.1 E'.1, fun a c q => E'.2 a c (E.2 a c q)⟩
section Steps1
variable {p : Program} {l : Launch} {e : Env} {R : Room} {s : State} {m : MethodId} {args : Array Value} {below : List Frame} {meth : Method} {c : Code} {Z : State} {own : String} {n0 : Nat} {h0 : Heap} {ws : List Addr} {T T' : State} {h h' : Heap} {locs : List Loc} {cells slots : Nat} {G : State → Prop} {g g' : JFrame} {a0 : Array Value} {pc pc' : Nat} {Ls Ls' : Array Slot} {st rest : List Value}
theorem Go.by1 (f : ∀ t, Steps p.tables e below (T'.setTop g') t → Steps p.tables e below (T.setTop g) t) (k : Go p e below G T' g') : Go p e below G T g := by
  obtain ⟨t, a, b⟩ := k
  exact ⟨t, f t a, b⟩
theorem Go.tr (f : Steps p.tables e below (T.setTop g) (T'.setTop g')) (k : Go p e below G T' g') : Go p e below G T g := by
  obtain ⟨t, a, b⟩ := k
  exact ⟨t, f.trans a, b⟩
/-- a value gets a name -/
theorem lets {α : Type} {P : α → Prop} (x : α) (k : ∀ y, y = x → P y) : P x := k x rfl
theorem NK.iloadN (W : NK p l e R s m args below meth c Z own n0 h0 ws T h locs cells slots) {k : Fin 4} {v : Int32} (hd : decode c.code pc = .ok (.iload_n k, 1)) (hl : Ls[k.val]? = some (.val (.int v))) (hp : pc + 1 = pc') (k' : Go p e below G T (mkF m pc' Ls (.int v :: st))) : Go p e below G T (mkF m pc Ls (st)) := by
  subst hp; exact Go.by1 (fun t q => XS.iloadN W.1.here W.2.1 rfl hd hl q) k'
theorem NK.iload (W : NK p l e R s m args below meth c Z own n0 h0 ws T h locs cells slots) {k : Nat} {v : Int32} (hd : decode c.code pc = .ok (.iload k, 2)) (hl : Ls[k]? = some (.val (.int v))) (hp : pc + 2 = pc') (k' : Go p e below G T (mkF m pc' Ls (.int v :: st))) : Go p e below G T (mkF m pc Ls (st)) := by
  subst hp; exact Go.by1 (fun t q => XS.iload W.1.here W.2.1 rfl hd hl q) k'
theorem NK.istoreN (W : NK p l e R s m args below meth c Z own n0 h0 ws T h locs cells slots) {k : Fin 4} {x : Int32} (hd : decode c.code pc = .ok (.istore_n k, 1)) (hl : storeLocals Ls k.val (.int x) = some Ls') (hp : pc + 1 = pc') (k' : Go p e below G T (mkF m pc' Ls' (rest))) : Go p e below G T (mkF m pc Ls (.int x :: rest)) := by
  subst hp; exact Go.by1 (fun t q => XS.istoreN W.1.here W.2.1 rfl hd rfl hl q) k'
theorem NK.istore (W : NK p l e R s m args below meth c Z own n0 h0 ws T h locs cells slots) {k : Nat} {x : Int32} (hd : decode c.code pc = .ok (.istore k, 2)) (hl : storeLocals Ls k (.int x) = some Ls') (hp : pc + 2 = pc') (k' : Go p e below G T (mkF m pc' Ls' (rest))) : Go p e below G T (mkF m pc Ls (.int x :: rest)) := by
  subst hp; exact Go.by1 (fun t q => XS.istore W.1.here W.2.1 rfl hd rfl hl q) k'
theorem NK.lloadN (W : NK p l e R s m args below meth c Z own n0 h0 ws T h locs cells slots) {k : Fin 4} {v : Int64} (hd : decode c.code pc = .ok (.lload_n k, 1)) (hl : Ls[k.val]? = some (.val (.long v))) (hp : pc + 1 = pc') (k' : Go p e below G T (mkF m pc' Ls (.long v :: st))) : Go p e below G T (mkF m pc Ls (st)) := by
  subst hp; exact Go.by1 (fun t q => XT.lloadN W.1.here W.2.1 rfl hd hl q) k'
theorem NK.lload (W : NK p l e R s m args below meth c Z own n0 h0 ws T h locs cells slots) {k : Nat} {v : Int64} (hd : decode c.code pc = .ok (.lload k, 2)) (hl : Ls[k]? = some (.val (.long v))) (hp : pc + 2 = pc') (k' : Go p e below G T (mkF m pc' Ls (.long v :: st))) : Go p e below G T (mkF m pc Ls (st)) := by
  subst hp; exact Go.by1 (fun t q => XT.lload W.1.here W.2.1 rfl hd hl q) k'
theorem NK.lstoreN (W : NK p l e R s m args below meth c Z own n0 h0 ws T h locs cells slots) {k : Fin 4} {x : Int64} (hd : decode c.code pc = .ok (.lstore_n k, 1)) (hl : storeLocals Ls k.val (.long x) = some Ls') (hp : pc + 1 = pc') (k' : Go p e below G T (mkF m pc' Ls' (rest))) : Go p e below G T (mkF m pc Ls (.long x :: rest)) := by
  subst hp; exact Go.by1 (fun t q => XT.lstoreN W.1.here W.2.1 rfl hd rfl hl q) k'
theorem NK.lstore (W : NK p l e R s m args below meth c Z own n0 h0 ws T h locs cells slots) {k : Nat} {x : Int64} (hd : decode c.code pc = .ok (.lstore k, 2)) (hl : storeLocals Ls k (.long x) = some Ls') (hp : pc + 2 = pc') (k' : Go p e below G T (mkF m pc' Ls' (rest))) : Go p e below G T (mkF m pc Ls (.long x :: rest)) := by
  subst hp; exact Go.by1 (fun t q => XT.lstore W.1.here W.2.1 rfl hd rfl hl q) k'
theorem NK.aloadN (W : NK p l e R s m args below meth c Z own n0 h0 ws T h locs cells slots) {k : Fin 4} {v : Value} (hd : decode c.code pc = .ok (.aload_n k, 1)) (hl : Ls[k.val]? = some (.val v)) (hv : v.isRef = true) (hp : pc + 1 = pc') (k' : Go p e below G T (mkF m pc' Ls (v :: st))) : Go p e below G T (mkF m pc Ls (st)) := by
  subst hp; exact Go.by1 (fun t q => XS.aloadN W.1.here W.2.1 rfl hd hl hv q) k'
theorem NK.aload (W : NK p l e R s m args below meth c Z own n0 h0 ws T h locs cells slots) {k : Nat} {v : Value} (hd : decode c.code pc = .ok (.aload k, 2)) (hl : Ls[k]? = some (.val v)) (hv : v.isRef = true) (hp : pc + 2 = pc') (k' : Go p e below G T (mkF m pc' Ls (v :: st))) : Go p e below G T (mkF m pc Ls (st)) := by
  subst hp; exact Go.by1 (fun t q => XS.aload W.1.here W.2.1 rfl hd hl hv q) k'
theorem NK.astoreN (W : NK p l e R s m args below meth c Z own n0 h0 ws T h locs cells slots) {k : Fin 4} {x : Value} (hd : decode c.code pc = .ok (.astore_n k, 1)) (hv : x.isRef = true) (hl : storeLocals Ls k.val x = some Ls') (hp : pc + 1 = pc') (k' : Go p e below G T (mkF m pc' Ls' (rest))) : Go p e below G T (mkF m pc Ls (x :: rest)) := by
  subst hp; exact Go.by1 (fun t q => XS.astoreN W.1.here W.2.1 rfl hd rfl hv hl q) k'
theorem NK.astore (W : NK p l e R s m args below meth c Z own n0 h0 ws T h locs cells slots) {k : Nat} {x : Value} (hd : decode c.code pc = .ok (.astore k, 2)) (hv : x.isRef = true) (hl : storeLocals Ls k x = some Ls') (hp : pc + 2 = pc') (k' : Go p e below G T (mkF m pc' Ls' (rest))) : Go p e below G T (mkF m pc Ls (x :: rest)) := by
  subst hp; exact Go.by1 (fun t q => XS.astore W.1.here W.2.1 rfl hd rfl hv hl q) k'
theorem NK.iconst (W : NK p l e R s m args below meth c Z own n0 h0 ws T h locs cells slots) {i : Int} (v : Int32) (hd : decode c.code pc = .ok (.iconst i, 1)) (hv : Int32.ofInt i = v) (hp : pc + 1 = pc') (k' : Go p e below G T (mkF m pc' Ls (.int v :: st))) : Go p e below G T (mkF m pc Ls (st)) := by
  subst hp; exact Go.by1 (fun t q => XT.iconstV W.1.here W.2.1 rfl v hd hv q) k'
theorem NK.bipush (W : NK p l e R s m args below meth c Z own n0 h0 ws T h locs cells slots) {i : Int} (v : Int32) (hd : decode c.code pc = .ok (.bipush i, 2)) (hv : (Int8.ofInt i).toInt32 = v) (hp : pc + 2 = pc') (k' : Go p e below G T (mkF m pc' Ls (.int v :: st))) : Go p e below G T (mkF m pc Ls (st)) := by
  subst hp; exact Go.by1 (fun t q => XT.bipushV W.1.here W.2.1 rfl v hd hv q) k'
theorem NK.sipush (W : NK p l e R s m args below meth c Z own n0 h0 ws T h locs cells slots) {i : Int} (v : Int32) (hd : decode c.code pc = .ok (.sipush i, 3)) (hv : (Int16.ofInt i).toInt32 = v) (hp : pc + 3 = pc') (k' : Go p e below G T (mkF m pc' Ls (.int v :: st))) : Go p e below G T (mkF m pc Ls (st)) := by
  subst hp; exact Go.by1 (fun t q => XT.sipushV W.1.here W.2.1 rfl v hd hv q) k'
theorem NK.lconst (W : NK p l e R s m args below meth c Z own n0 h0 ws T h locs cells slots) {k : Fin 2} (v : Int64) (hd : decode c.code pc = .ok (.lconst k, 1)) (hv : Int64.ofNat k = v) (hp : pc + 1 = pc') (k' : Go p e below G T (mkF m pc' Ls (.long v :: st))) : Go p e below G T (mkF m pc Ls (st)) := by
  subst hp; exact Go.by1 (fun t q => XT.lconstV W.1.here W.2.1 rfl v hd hv q) k'
theorem NK.aconstNull (W : NK p l e R s m args below meth c Z own n0 h0 ws T h locs cells slots)  (hd : decode c.code pc = .ok (.aconst_null, 1))  (hp : pc + 1 = pc') (k' : Go p e below G T (mkF m pc' Ls (.null :: st))) : Go p e below G T (mkF m pc Ls (st)) := by
  subst hp; exact Go.by1 (fun t q => XS.aconstNull W.1.here W.2.1 rfl hd q) k'
theorem NK.iadd (W : NK p l e R s m args below meth c Z own n0 h0 ws T h locs cells slots) {x y : Int32} (hd : decode c.code pc = .ok (.iadd, 1))  (hp : pc + 1 = pc') (k' : Go p e below G T (mkF m pc' Ls (.int (x + y) :: rest))) : Go p e below G T (mkF m pc Ls (.int y :: .int x :: rest)) := by
  subst hp; exact Go.by1 (fun t q => XS.iadd W.1.here W.2.1 rfl hd rfl q) k'
theorem NK.isub (W : NK p l e R s m args below meth c Z own n0 h0 ws T h locs cells slots) {x y : Int32} (hd : decode c.code pc = .ok (.isub, 1))  (hp : pc + 1 = pc') (k' : Go p e below G T (mkF m pc' Ls (.int (x - y) :: rest))) : Go p e below G T (mkF m pc Ls (.int y :: .int x :: rest)) := by
  subst hp; exact Go.by1 (fun t q => XS.isub W.1.here W.2.1 rfl hd rfl q) k'
theorem NK.iand (W : NK p l e R s m args below meth c Z own n0 h0 ws T h locs cells slots) {x y : Int32} (hd : decode c.code pc = .ok (.iand, 1))  (hp : pc + 1 = pc') (k' : Go p e below G T (mkF m pc' Ls (.int (x &&& y) :: rest))) : Go p e below G T (mkF m pc Ls (.int y :: .int x :: rest)) := by
  subst hp; exact Go.by1 (fun t q => XS.iand W.1.here W.2.1 rfl hd rfl q) k'
theorem NK.imul (W : NK p l e R s m args below meth c Z own n0 h0 ws T h locs cells slots) {x y : Int32} (hd : decode c.code pc = .ok (.imul, 1))  (hp : pc + 1 = pc') (k' : Go p e below G T (mkF m pc' Ls (.int (x * y) :: rest))) : Go p e below G T (mkF m pc Ls (.int y :: .int x :: rest)) := by
  subst hp; exact Go.by1 (fun t q => XS.imul W.1.here W.2.1 rfl hd rfl q) k'
theorem NK.ixor (W : NK p l e R s m args below meth c Z own n0 h0 ws T h locs cells slots) {x y : Int32} (hd : decode c.code pc = .ok (.ixor, 1))  (hp : pc + 1 = pc') (k' : Go p e below G T (mkF m pc' Ls (.int (x ^^^ y) :: rest))) : Go p e below G T (mkF m pc Ls (.int y :: .int x :: rest)) := by
  subst hp; exact Go.by1 (fun t q => XT.ixor W.1.here W.2.1 rfl hd rfl q) k'
theorem NK.ior (W : NK p l e R s m args below meth c Z own n0 h0 ws T h locs cells slots) {x y : Int32} (hd : decode c.code pc = .ok (.ior, 1))  (hp : pc + 1 = pc') (k' : Go p e below G T (mkF m pc' Ls (.int (x ||| y) :: rest))) : Go p e below G T (mkF m pc Ls (.int y :: .int x :: rest)) := by
  subst hp; exact Go.by1 (fun t q => XT.ior W.1.here W.2.1 rfl hd rfl q) k'
theorem NK.ishl (W : NK p l e R s m args below meth c Z own n0 h0 ws T h locs cells slots) {x y : Int32} (hd : decode c.code pc = .ok (.ishl, 1))  (hp : pc + 1 = pc') (k' : Go p e below G T (mkF m pc' Ls (.int (x <<< (y &&& 31)) :: rest))) : Go p e below G T (mkF m pc Ls (.int y :: .int x :: rest)) := by
  subst hp; exact Go.by1 (fun t q => XT.ishl W.1.here W.2.1 rfl hd rfl q) k'
theorem NK.ishr (W : NK p l e R s m args below meth c Z own n0 h0 ws T h locs cells slots) {x y : Int32} (hd : decode c.code pc = .ok (.ishr, 1))  (hp : pc + 1 = pc') (k' : Go p e below G T (mkF m pc' Ls (.int (x >>> (y &&& 31)) :: rest))) : Go p e below G T (mkF m pc Ls (.int y :: .int x :: rest)) := by
  subst hp; exact Go.by1 (fun t q => XT.ishr W.1.here W.2.1 rfl hd rfl q) k'
theorem NK.iushr (W : NK p l e R s m args below meth c Z own n0 h0 ws T h locs cells slots) {x y : Int32} (hd : decode c.code pc = .ok (.iushr, 1))  (hp : pc + 1 = pc') (k' : Go p e below G T (mkF m pc' Ls (.int (XT.ushr x y) :: rest))) : Go p e below G T (mkF m pc Ls (.int y :: .int x :: rest)) := by
  subst hp; exact Go.by1 (fun t q => XT.iushr W.1.here W.2.1 rfl hd rfl q) k'
theorem NK.ladd (W : NK p l e R s m args below meth c Z own n0 h0 ws T h locs cells slots) {x y : Int64} (hd : decode c.code pc = .ok (.ladd, 1))  (hp : pc + 1 = pc') (k' : Go p e below G T (mkF m pc' Ls (.long (x + y) :: rest))) : Go p e below G T (mkF m pc Ls (.long y :: .long x :: rest)) := by
  subst hp; exact Go.by1 (fun t q => XT.ladd W.1.here W.2.1 rfl hd rfl q) k'
theorem NK.lsub (W : NK p l e R s m args below meth c Z own n0 h0 ws T h locs cells slots) {x y : Int64} (hd : decode c.code pc = .ok (.lsub, 1))  (hp : pc + 1 = pc') (k' : Go p e below G T (mkF m pc' Ls (.long (x - y) :: rest))) : Go p e below G T (mkF m pc Ls (.long y :: .long x :: rest)) := by
  subst hp; exact Go.by1 (fun t q => XT.lsub W.1.here W.2.1 rfl hd rfl q) k'
theorem NK.lmul (W : NK p l e R s m args below meth c Z own n0 h0 ws T h locs cells slots) {x y : Int64} (hd : decode c.code pc = .ok (.lmul, 1))  (hp : pc + 1 = pc') (k' : Go p e below G T (mkF m pc' Ls (.long (x * y) :: rest))) : Go p e below G T (mkF m pc Ls (.long y :: .long x :: rest)) := by
  subst hp; exact Go.by1 (fun t q => XT.lmul W.1.here W.2.1 rfl hd rfl q) k'
theorem NK.land (W : NK p l e R s m args below meth c Z own n0 h0 ws T h locs cells slots) {x y : Int64} (hd : decode c.code pc = .ok (.land, 1))  (hp : pc + 1 = pc') (k' : Go p e below G T (mkF m pc' Ls (.long (x &&& y) :: rest))) : Go p e below G T (mkF m pc Ls (.long y :: .long x :: rest)) := by
  subst hp; exact Go.by1 (fun t q => XT.land W.1.here W.2.1 rfl hd rfl q) k'
theorem NK.lor (W : NK p l e R s m args below meth c Z own n0 h0 ws T h locs cells slots) {x y : Int64} (hd : decode c.code pc = .ok (.lor, 1))  (hp : pc + 1 = pc') (k' : Go p e below G T (mkF m pc' Ls (.long (x ||| y) :: rest))) : Go p e below G T (mkF m pc Ls (.long y :: .long x :: rest)) := by
  subst hp; exact Go.by1 (fun t q => XT.lor W.1.here W.2.1 rfl hd rfl q) k'
theorem NK.lxor (W : NK p l e R s m args below meth c Z own n0 h0 ws T h locs cells slots) {x y : Int64} (hd : decode c.code pc = .ok (.lxor, 1))  (hp : pc + 1 = pc') (k' : Go p e below G T (mkF m pc' Ls (.long (x ^^^ y) :: rest))) : Go p e below G T (mkF m pc Ls (.long y :: .long x :: rest)) := by
  subst hp; exact Go.by1 (fun t q => XT.lxor W.1.here W.2.1 rfl hd rfl q) k'
theorem NK.lshl (W : NK p l e R s m args below meth c Z own n0 h0 ws T h locs cells slots) {x : Int64} {y : Int32} (hd : decode c.code pc = .ok (.lshl, 1))  (hp : pc + 1 = pc') (k' : Go p e below G T (mkF m pc' Ls (.long (x <<< (y.toInt64 &&& 63)) :: rest))) : Go p e below G T (mkF m pc Ls (.int y :: .long x :: rest)) := by
  subst hp; exact Go.by1 (fun t q => XT.lshl W.1.here W.2.1 rfl hd rfl q) k'
theorem NK.lshr (W : NK p l e R s m args below meth c Z own n0 h0 ws T h locs cells slots) {x : Int64} {y : Int32} (hd : decode c.code pc = .ok (.lshr, 1))  (hp : pc + 1 = pc') (k' : Go p e below G T (mkF m pc' Ls (.long (x >>> (y.toInt64 &&& 63)) :: rest))) : Go p e below G T (mkF m pc Ls (.int y :: .long x :: rest)) := by
  subst hp; exact Go.by1 (fun t q => XT.lshr W.1.here W.2.1 rfl hd rfl q) k'
theorem NK.lushr (W : NK p l e R s m args below meth c Z own n0 h0 ws T h locs cells slots) {x : Int64} {y : Int32} (hd : decode c.code pc = .ok (.lushr, 1))  (hp : pc + 1 = pc') (k' : Go p e below G T (mkF m pc' Ls (.long (XT.ushrL x y) :: rest))) : Go p e below G T (mkF m pc Ls (.int y :: .long x :: rest)) := by
  subst hp; exact Go.by1 (fun t q => XT.lushr W.1.here W.2.1 rfl hd rfl q) k'
theorem NK.ldiv (W : NK p l e R s m args below meth c Z own n0 h0 ws T h locs cells slots) {x y : Int64} (hd : decode c.code pc = .ok (.ldiv, 1)) (hy : y ≠ 0) (hp : pc + 1 = pc') (k' : Go p e below G T (mkF m pc' Ls (.long (x / y) :: rest))) : Go p e below G T (mkF m pc Ls (.long y :: .long x :: rest)) := by
  subst hp; exact Go.by1 (fun t q => XT.ldiv W.1.here W.2.1 rfl hd rfl hy q) k'
theorem NK.lrem (W : NK p l e R s m args below meth c Z own n0 h0 ws T h locs cells slots) {x y : Int64} (hd : decode c.code pc = .ok (.lrem, 1)) (hy : y ≠ 0) (hp : pc + 1 = pc') (k' : Go p e below G T (mkF m pc' Ls (.long (x - (x / y) * y) :: rest))) : Go p e below G T (mkF m pc Ls (.long y :: .long x :: rest)) := by
  subst hp; exact Go.by1 (fun t q => XT.lrem W.1.here W.2.1 rfl hd rfl hy q) k'
theorem NK.idiv (W : NK p l e R s m args below meth c Z own n0 h0 ws T h locs cells slots) {x y : Int32} (hd : decode c.code pc = .ok (.idiv, 1)) (hy : y ≠ 0) (hp : pc + 1 = pc') (k' : Go p e below G T (mkF m pc' Ls (.int (x / y) :: rest))) : Go p e below G T (mkF m pc Ls (.int y :: .int x :: rest)) := by
  subst hp; exact Go.by1 (fun t q => XS.idiv W.1.here W.2.1 rfl hd rfl hy q) k'
theorem NK.irem (W : NK p l e R s m args below meth c Z own n0 h0 ws T h locs cells slots) {x y : Int32} (hd : decode c.code pc = .ok (.irem, 1)) (hy : y ≠ 0) (hp : pc + 1 = pc') (k' : Go p e below G T (mkF m pc' Ls (.int (x % y) :: rest))) : Go p e below G T (mkF m pc Ls (.int y :: .int x :: rest)) := by
  subst hp; exact Go.by1 (fun t q => iremM W.1 W.2.1 rfl hd rfl hy q) k'
theorem NK.ineg (W : NK p l e R s m args below meth c Z own n0 h0 ws T h locs cells slots) {x : Int32} (hd : decode c.code pc = .ok (.ineg, 1))  (hp : pc + 1 = pc') (k' : Go p e below G T (mkF m pc' Ls (.int (-x) :: rest))) : Go p e below G T (mkF m pc Ls (.int x :: rest)) := by
  subst hp; exact Go.by1 (fun t q => XS.ineg W.1.here W.2.1 rfl hd rfl q) k'
theorem NK.lneg (W : NK p l e R s m args below meth c Z own n0 h0 ws T h locs cells slots) {x : Int64} (hd : decode c.code pc = .ok (.lneg, 1))  (hp : pc + 1 = pc') (k' : Go p e below G T (mkF m pc' Ls (.long (-x) :: rest))) : Go p e below G T (mkF m pc Ls (.long x :: rest)) := by
  subst hp; exact Go.by1 (fun t q => XT.lneg W.1.here W.2.1 rfl hd rfl q) k'
theorem NK.i2l (W : NK p l e R s m args below meth c Z own n0 h0 ws T h locs cells slots) {x : Int32} (hd : decode c.code pc = .ok (.i2l, 1))  (hp : pc + 1 = pc') (k' : Go p e below G T (mkF m pc' Ls (.long x.toInt64 :: rest))) : Go p e below G T (mkF m pc Ls (.int x :: rest)) := by
  subst hp; exact Go.by1 (fun t q => XT.i2l W.1.here W.2.1 rfl hd rfl q) k'
theorem NK.l2i (W : NK p l e R s m args below meth c Z own n0 h0 ws T h locs cells slots) {x : Int64} (hd : decode c.code pc = .ok (.l2i, 1))  (hp : pc + 1 = pc') (k' : Go p e below G T (mkF m pc' Ls (.int x.toInt32 :: rest))) : Go p e below G T (mkF m pc Ls (.long x :: rest)) := by
  subst hp; exact Go.by1 (fun t q => XT.l2i W.1.here W.2.1 rfl hd rfl q) k'
theorem NK.i2b (W : NK p l e R s m args below meth c Z own n0 h0 ws T h locs cells slots) {x : Int32} (hd : decode c.code pc = .ok (.i2b, 1))  (hp : pc + 1 = pc') (k' : Go p e below G T (mkF m pc' Ls (.int x.toInt8.toInt32 :: rest))) : Go p e below G T (mkF m pc Ls (.int x :: rest)) := by
  subst hp; exact Go.by1 (fun t q => XT.i2b W.1.here W.2.1 rfl hd rfl q) k'
theorem NK.i2c (W : NK p l e R s m args below meth c Z own n0 h0 ws T h locs cells slots) {x : Int32} (hd : decode c.code pc = .ok (.i2c, 1))  (hp : pc + 1 = pc') (k' : Go p e below G T (mkF m pc' Ls (.int (i2c x) :: rest))) : Go p e below G T (mkF m pc Ls (.int x :: rest)) := by
  subst hp; exact Go.by1 (fun t q => XT.i2c W.1.here W.2.1 rfl hd rfl q) k'
theorem NK.lcmp (W : NK p l e R s m args below meth c Z own n0 h0 ws T h locs cells slots) {x y : Int64} (hd : decode c.code pc = .ok (.lcmp, 1))  (hp : pc + 1 = pc') (k' : Go p e below G T (mkF m pc' Ls (.int (XT.cmpL x y) :: rest))) : Go p e below G T (mkF m pc Ls (.long y :: .long x :: rest)) := by
  subst hp; exact Go.by1 (fun t q => XT.lcmp W.1.here W.2.1 rfl hd rfl q) k'
theorem NK.iinc (W : NK p l e R s m args below meth c Z own n0 h0 ws T h locs cells slots) {k : Nat} {i : Int} {x : Int32} (v : Int32) (hd : decode c.code pc = .ok (.iinc k i, 3)) (hv : Int32.ofInt i = v) (hl : Ls[k]? = some (.val (.int x))) (hl' : storeLocals Ls k (.int (x + v)) = some Ls') (hp : pc + 3 = pc') (k' : Go p e below G T (mkF m pc' Ls' (st))) : Go p e below G T (mkF m pc Ls (st)) := by
  subst hp; exact Go.by1 (fun t q => XT.iincV W.1.here W.2.1 rfl v hd hv hl hl' q) k'
theorem NK.dup (W : NK p l e R s m args below meth c Z own n0 h0 ws T h locs cells slots) {x : Value} (hd : decode c.code pc = .ok (.dup, 1)) (hc : x.category = 1) (hp : pc + 1 = pc') (k' : Go p e below G T (mkF m pc' Ls (x :: x :: rest))) : Go p e below G T (mkF m pc Ls (x :: rest)) := by
  subst hp; exact Go.by1 (fun t q => XS.dup W.1.here W.2.1 rfl hd rfl hc q) k'
theorem NK.pop (W : NK p l e R s m args below meth c Z own n0 h0 ws T h locs cells slots) {x : Value} (hd : decode c.code pc = .ok (.pop, 1)) (hc : x.category = 1) (hp : pc + 1 = pc') (k' : Go p e below G T (mkF m pc' Ls (rest))) : Go p e below G T (mkF m pc Ls (x :: rest)) := by
  subst hp; exact Go.by1 (fun t q => XT.pop W.1.here W.2.1 rfl hd rfl hc q) k'
theorem NK.dupX1 (W : NK p l e R s m args below meth c Z own n0 h0 ws T h locs cells slots) {x y : Value} (hd : decode c.code pc = .ok (.dup_x1, 1)) (hc : x.category = 1) (hc' : y.category = 1) (hp : pc + 1 = pc') (k' : Go p e below G T (mkF m pc' Ls (x :: y :: x :: rest))) : Go p e below G T (mkF m pc Ls (x :: y :: rest)) := by
  subst hp; exact Go.by1 (fun t q => XT.dupX1 W.1.here W.2.1 rfl hd rfl hc hc' q) k'
theorem NK.dup2 (W : NK p l e R s m args below meth c Z own n0 h0 ws T h locs cells slots) {x y : Value} (hd : decode c.code pc = .ok (.dup2, 1)) (hc : x.category = 1) (hc' : y.category = 1) (hp : pc + 1 = pc') (k' : Go p e below G T (mkF m pc' Ls (x :: y :: x :: y :: rest))) : Go p e below G T (mkF m pc Ls (x :: y :: rest)) := by
  subst hp; exact Go.by1 (fun t q => XT.dup2 W.1.here W.2.1 rfl hd rfl hc hc' q) k'
theorem NK.goto (W : NK p l e R s m args below meth c Z own n0 h0 ws T h locs cells slots)  {o : Int} (hd : decode c.code pc = .ok (.goto o, 3))  (ho : 0 ≤ (pc : Int) + o) (hp : ((pc : Int) + o).toNat = pc') (k' : Go p e below G T (mkF m pc' Ls (rest))) : Go p e below G T (mkF m pc Ls (rest)) := by
  exact Go.by1 (fun t q => XS.goto W.1.here W.2.1 rfl rfl hd ho hp q) k'
theorem NK.ifYes (W : NK p l e R s m args below meth c Z own n0 h0 ws T h locs cells slots) {cd : ClassFile.Cond} {x : Int32} {o : Int} (hd : decode c.code pc = .ok (.ifCond cd o, 3)) (hc : ifCond.holds cd x = true) (ho : 0 ≤ (pc : Int) + o) (hp : ((pc : Int) + o).toNat = pc') (k' : Go p e below G T (mkF m pc' Ls (rest))) : Go p e below G T (mkF m pc Ls (.int x :: rest)) := by
  exact Go.by1 (fun t q => XS.ifYes W.1.here W.2.1 rfl rfl hd rfl hc ho hp q) k'
theorem NK.icmpYes (W : NK p l e R s m args below meth c Z own n0 h0 ws T h locs cells slots) {cd : ClassFile.Cond} {x y : Int32} {o : Int} (hd : decode c.code pc = .ok (.if_icmp cd o, 3)) (hc : if_icmp.holds cd x y = true) (ho : 0 ≤ (pc : Int) + o) (hp : ((pc : Int) + o).toNat = pc') (k' : Go p e below G T (mkF m pc' Ls (rest))) : Go p e below G T (mkF m pc Ls (.int y :: .int x :: rest)) := by
  exact Go.by1 (fun t q => XS.icmpYes W.1.here W.2.1 rfl rfl hd rfl hc ho hp q) k'
theorem NK.ifNo (W : NK p l e R s m args below meth c Z own n0 h0 ws T h locs cells slots) {cd : ClassFile.Cond} {x : Int32} {o : Int} (hd : decode c.code pc = .ok (.ifCond cd o, 3)) (hc : ifCond.holds cd x = false) (hp : pc + 3 = pc') (k' : Go p e below G T (mkF m pc' Ls (rest))) : Go p e below G T (mkF m pc Ls (.int x :: rest)) := by
  subst hp; exact Go.by1 (fun t q => XS.ifNo W.1.here W.2.1 rfl hd rfl hc q) k'
theorem NK.icmpNo (W : NK p l e R s m args below meth c Z own n0 h0 ws T h locs cells slots) {cd : ClassFile.Cond} {x y : Int32} {o : Int} (hd : decode c.code pc = .ok (.if_icmp cd o, 3)) (hc : if_icmp.holds cd x y = false) (hp : pc + 3 = pc') (k' : Go p e below G T (mkF m pc' Ls (rest))) : Go p e below G T (mkF m pc Ls (.int y :: .int x :: rest)) := by
  subst hp; exact Go.by1 (fun t q => XS.icmpNo W.1.here W.2.1 rfl hd rfl hc q) k'
theorem NK.ifnullYes (W : NK p l e R s m args below meth c Z own n0 h0 ws T h locs cells slots)  {o : Int} (hd : decode c.code pc = .ok (.ifnull o, 3))  (ho : 0 ≤ (pc : Int) + o) (hp : ((pc : Int) + o).toNat = pc') (k' : Go p e below G T (mkF m pc' Ls (rest))) : Go p e below G T (mkF m pc Ls (.null :: rest)) := by
  exact Go.by1 (fun t q => XS.ifnullYes W.1.here W.2.1 rfl rfl hd rfl ho hp q) k'
theorem NK.ifnonnullYes (W : NK p l e R s m args below meth c Z own n0 h0 ws T h locs cells slots) {b : Addr} {o : Int} (hd : decode c.code pc = .ok (.ifnonnull o, 3))  (ho : 0 ≤ (pc : Int) + o) (hp : ((pc : Int) + o).toNat = pc') (k' : Go p e below G T (mkF m pc' Ls (rest))) : Go p e below G T (mkF m pc Ls (.ref b :: rest)) := by
  exact Go.by1 (fun t q => XT.ifnonnullYes W.1.here W.2.1 rfl rfl hd rfl ho hp q) k'
theorem NK.ifnullNo (W : NK p l e R s m args below meth c Z own n0 h0 ws T h locs cells slots) {b : Addr} {o : Int} (hd : decode c.code pc = .ok (.ifnull o, 3))  (hp : pc + 3 = pc') (k' : Go p e below G T (mkF m pc' Ls (rest))) : Go p e below G T (mkF m pc Ls (.ref b :: rest)) := by
  subst hp; exact Go.by1 (fun t q => XS.ifnullNo W.1.here W.2.1 rfl hd rfl q) k'
theorem NK.ifnonnullNo (W : NK p l e R s m args below meth c Z own n0 h0 ws T h locs cells slots) {o : Int} (hd : decode c.code pc = .ok (.ifnonnull o, 3))  (hp : pc + 3 = pc') (k' : Go p e below G T (mkF m pc' Ls (rest))) : Go p e below G T (mkF m pc Ls (.null :: rest)) := by
  subst hp; exact Go.by1 (fun t q => XT.ifnonnullNo W.1.here W.2.1 rfl hd rfl q) k'
theorem NK.acmpYes (W : NK p l e R s m args below meth c Z own n0 h0 ws T h locs cells slots) {cd : ClassFile.ACond} {x y : Value} {o : Int} (hd : decode c.code pc = .ok (.if_acmp cd o, 3)) (h1 : x.isRef = true) (h2 : y.isRef = true) (hc : XT.acmp cd x y = true) (ho : 0 ≤ (pc : Int) + o) (hp : ((pc : Int) + o).toNat = pc') (k' : Go p e below G T (mkF m pc' Ls (rest))) : Go p e below G T (mkF m pc Ls (y :: x :: rest)) := by
  exact Go.by1 (fun t q => XT.acmpYes W.1.here W.2.1 rfl rfl hd rfl h1 h2 hc ho hp q) k'
theorem NK.acmpNo (W : NK p l e R s m args below meth c Z own n0 h0 ws T h locs cells slots) {cd : ClassFile.ACond} {x y : Value} {o : Int} (hd : decode c.code pc = .ok (.if_acmp cd o, 3)) (h1 : x.isRef = true) (h2 : y.isRef = true) (hc : XT.acmp cd x y = false) (hp : pc + 3 = pc') (k' : Go p e below G T (mkF m pc' Ls (rest))) : Go p e below G T (mkF m pc Ls (y :: x :: rest)) := by
  subst hp; exact Go.by1 (fun t q => XT.acmpNo W.1.here W.2.1 rfl hd rfl h1 h2 hc q) k'
theorem NK.ldcI (W : NK p l e R s m args below meth c Z own n0 h0 ws T h locs cells slots) {index : Nat} {v : Int32} (hd : decode c.code pc = .ok (.ldc index, 2)) (w : (Cond.constant own index v).before a0 Z = true) (hp : pc + 2 = pc') (k' : Go p e below G T (mkF m pc' Ls (.int v :: st))) : Go p e below G T (mkF m pc Ls (st)) := by
  subst hp; exact Go.by1 (fun t q => W.1.ldcI W.2.1 W.2.2.2.2.1 (mv W.2.2.2.1 w) rfl hd q) k'
theorem NK.ldcWI (W : NK p l e R s m args below meth c Z own n0 h0 ws T h locs cells slots) {index : Nat} {v : Int32} (hd : decode c.code pc = .ok (.ldc_w index, 3)) (w : (Cond.constant own index v).before a0 Z = true) (hp : pc + 3 = pc') (k' : Go p e below G T (mkF m pc' Ls (.int v :: st))) : Go p e below G T (mkF m pc Ls (st)) := by
  subst hp; exact Go.by1 (fun t q => W.1.ldcWI W.2.1 W.2.2.2.2.1 (mv W.2.2.2.1 w) rfl hd q) k'
theorem NK.ldc2J (W : NK p l e R s m args below meth c Z own n0 h0 ws T h locs cells slots) {index : Nat} {v : Int64} (hd : decode c.code pc = .ok (.ldc2_w index, 3)) (w : (Cond.constantLong own index v).before a0 Z = true) (hp : pc + 3 = pc') (k' : Go p e below G T (mkF m pc' Ls (.long v :: st))) : Go p e below G T (mkF m pc Ls (st)) := by
  subst hp; exact Go.by1 (fun t q => W.1.ldc2J W.2.1 W.2.2.2.2.1 (mv W.2.2.2.1 w) rfl hd q) k'
end Steps1
section Nums1
theorem i2c_i2c (x : Int32) : i2c (i2c x) = i2c x := by simp only [i2c, UInt32.toUInt32_toInt32, UInt16.toUInt16_toUInt32]
theorem i2c_toInt (x : Int32) : (i2c x).toInt = x.toInt % 65536 := by
  have h1 : (i2c x).toBitVec = (x.toBitVec.setWidth 16).setWidth 32 := rfl
  have h2 : x.toInt = x.toBitVec.toInt := rfl
  have h3 : (i2c x).toInt = (i2c x).toBitVec.toInt := rfl
  rw [h2, h3, h1, BitVec.toInt_eq_toNat_cond, BitVec.toInt_eq_toNat_cond]
  have := x.toBitVec.isLt
  simp only [BitVec.toNat_setWidth]
  omega
theorem i2c_id {c : Int32} (h0 : ¬ c < 0) (h1 : ¬ 65535 < c) : i2c c = c := by
  apply Int32.toInt_inj.mp
  rw [i2c_toInt]
  simp only [Int32.lt_iff_toInt_lt, Int32.reduceToInt] at h0 h1
  omega
theorem i2c_lo (x : Int32) : ¬ i2c x < 0 ∧ ¬ 65535 < i2c x := by
  simp only [Int32.lt_iff_toInt_lt, Int32.reduceToInt, i2c_toInt]
  omega
theorem and_toInt (x : Int32) (k : Nat) (hk : k < 2^31): (x &&& Int32.ofNat k).toInt = ((x.toBitVec.toNat &&& k : Nat) : Int) := by
  have h3 : (x &&& Int32.ofNat k).toInt = (x.toBitVec &&& (Int32.ofNat k).toBitVec).toInt := rfl
  rw [h3, BitVec.toInt_eq_toNat_cond, BitVec.toNat_and]
  have e : (Int32.ofNat k).toBitVec.toNat = k := by
    show (BitVec.ofNat 32 k).toNat = k
    simp; omega
  rw [e]
  have : (x.toBitVec.toNat &&& k) ≤ k := Nat.and_le_right
  omega
theorem and255_lat (x : Int32) : ¬ (x &&& 255) < 0 ∧ ¬ 255 < (x &&& 255) := by
  have := and_toInt x 255 (by decide)
  have h : (x.toBitVec.toNat &&& 255) ≤ 255 := Nat.and_le_right
  have e : (Int32.ofNat 255) = (255 : Int32) := rfl
  rw [e] at this
  simp only [Int32.lt_iff_toInt_lt, Int32.reduceToInt, this]
  omega
theorem and_nonneg (x : Int32) : ¬ (x &&& 2147483647) < 0 := by
  have := and_toInt x 2147483647 (by decide)
  have e : (Int32.ofNat 2147483647) = (2147483647 : Int32) := rfl
  rw [e] at this
  simp only [Int32.lt_iff_toInt_lt, Int32.reduceToInt, this]
  omega
theorem rem_range {x : Int32} (k : Nat) (hk : 0 < k) (hk2 : k < 2^31) (hx : ¬ x < 0) : ∃ n : Nat, n < k ∧ x % Int32.ofNat k = Int32.ofNat n := by
  have e : (Int32.ofNat k).toInt = k := by
    have hz : Int32.size = 4294967296 := rfl
    rw [Int32.toInt_ofNat', Int.bmod_eq_of_le] <;> omega
  simp only [Int32.lt_iff_toInt_lt, Int32.reduceToInt] at hx
  refine ⟨(x.toInt % k).toNat, ?_, ?_⟩
  · have := Int.emod_lt_of_pos x.toInt (show (0:Int) < k by omega)
    have := Int.emod_nonneg x.toInt (show (k:Int) ≠ 0 by omega)
    omega
  · apply Int32.toInt_inj.mp
    rw [Int32.toInt_mod, e, Int32.toInt_ofNat']
    have := Int.emod_lt_of_pos x.toInt (show (0:Int) < k by omega)
    have := Int.emod_nonneg x.toInt (show (k:Int) ≠ 0 by omega)
    have hz : Int32.size = 4294967296 := rfl
    rw [Int.tmod_eq_emod_of_nonneg (by omega), Int.bmod_eq_of_le] <;> omega

theorem i2c_and255 (x : Int32) : i2c (x &&& 255) = x &&& 255 := i2c_id (and255_lat x).1 (by
  have := (and255_lat x).2
  simp only [Int32.lt_iff_toInt_lt, Int32.reduceToInt] at *; omega)
theorem lat_i2c {c : Int32} (h : ¬ c < 0 ∧ ¬ 255 < c) : i2c c = c := i2c_id h.1 (by
  have := h.2
  simp only [Int32.lt_iff_toInt_lt, Int32.reduceToInt] at *; omega)
theorem lat_and (x : Int32) : ¬ i2c (x &&& 255) < 0 ∧ ¬ 255 < i2c (x &&& 255) := by rw [i2c_and255]; exact and255_lat x
theorem nar_i2c (x : Int32) : nar .char (i2c x) = i2c x := i2c_i2c x
theorem nar_lat {c : Int32} (h : ¬ c < 0 ∧ ¬ 255 < c) : nar .char c = c := lat_i2c h
theorem nar_chr {c : Int32} (h : ¬ c < 0 ∧ ¬ 65535 < c) : nar .char c = c := i2c_id h.1 h.2
theorem nar_ret {z : Int32} (h : nar .char z = z) : narrow .char (.int z) = .int z := congrArg Value.int h
end Nums1
section Nums2
theorem getD_int (cs : List Int32) (i : Nat) : (cs.map Value.int).getD i (.int (0 : Int32)) = .int (cs.getD i 0) := by
  simp only [List.getD_eq_getElem?_getD, List.getElem?_map]
  cases cs[i]? <;> rfl
theorem getD_all {P : Int32 → Prop} {cs : List Int32} (h : ∀ c ∈ cs, P c) (h0 : P 0) (i : Nat) : P (cs.getD i 0) := by
  rw [List.getD_eq_getElem?_getD]
  cases hq : cs[i]? with
  | none => exact h0
  | some v => exact h v (List.mem_of_getElem? hq)
theorem and_le (x : Int32) (k : Nat) (hk : k < 2 ^ 31) : ¬ (x &&& Int32.ofNat k) < 0 ∧ (x &&& Int32.ofNat k).toInt ≤ k := by
  have := and_toInt x k hk
  have h : (x.toBitVec.toNat &&& k) ≤ k := Nat.and_le_right
  simp only [Int32.lt_iff_toInt_lt, Int32.reduceToInt, this]
  omega
theorem rem_nat {x : Int32} (k : Nat) (m : Nat) (hm : m < 2 ^ 31) (hk : 0 < k) (hk2 : k < 2 ^ 31) {i : Int32} (h : i = (x &&& Int32.ofNat m) % Int32.ofNat k) : ∃ n : Nat, n < k ∧ i = Int32.ofNat n := by
  obtain ⟨n, h1, h2⟩ := rem_range (x := x &&& Int32.ofNat m) k hk hk2 (and_le x m hm).1
  exact ⟨n, h1, h.trans h2⟩
theorem ofNat_toInt {n : Nat} (h : n < 2 ^ 31) : (Int32.ofNat n).toInt = n := by
  have hz : Int32.size = 4294967296 := rfl
  rw [Int32.toInt_ofNat', Int.bmod_eq_of_le] <;> omega
theorem ofNat_lt {n k : Nat} (h : n < 2 ^ 31) (h' : k < 2 ^ 31) : Int32.ofNat n < Int32.ofNat k ↔ n < k := by
  rw [Int32.lt_iff_toInt_lt, ofNat_toInt h, ofNat_toInt h']; omega
theorem ofNat_sub {n k : Nat} (h : k ≤ n) : Int32.ofNat n - Int32.ofNat k = Int32.ofNat (n - k) := by
  apply Int32.toBitVec_inj.mp
  apply BitVec.eq_of_toNat_eq
  show (BitVec.ofNat 32 n - BitVec.ofNat 32 k).toNat = (BitVec.ofNat 32 (n - k)).toNat
  simp only [BitVec.toNat_sub, BitVec.toNat_ofNat]
  omega
theorem ofNat_succ (n : Nat) : Int32.ofNat n + 1 = Int32.ofNat (n + 1) := by
  apply Int32.toBitVec_inj.mp
  apply BitVec.eq_of_toNat_eq
  show (BitVec.ofNat 32 n + 1#32).toNat = (BitVec.ofNat 32 (n + 1)).toNat
  simp only [BitVec.toNat_add, BitVec.toNat_ofNat]
  omega
end Nums2
section Heap1
variable {p : Program} {l : Launch} {e : Env} {R : Room} {s : State} {m : MethodId} {args : Array Value} {below : List Frame} {meth : Method} {c : Code} {Z : State} {own : String} {n0 : Nat} {h0 : Heap} {ws ws' : List Addr} {T T' : State} {h h' : Heap} {locs : List Loc} {cells slots : Nat} {G : State → Prop} {g g' : JFrame} {a0 : Array Value} {pc pc' : Nat} {Ls Ls' : Array Slot} {st rest : List Value}
theorem NK.newP (W : NK p l e R s m args below meth c Z own n0 h0 ws T h locs cells slots) {aty : ArrayType} (w : (Cond.arrayClass (newarray.typeOf aty)).before a0 Z = true) {n : Int32} (hd : decode c.code pc = .ok (.newarray aty, 2)) (hp : pc + 2 = pc') (hn : ¬ n < 0) {cap : Nat} (hcap : n.toNatClampNeg ≤ cap) (hb : cap * 8 ≤ 536870912) (hc : cells + 1 ≤ R.cells) (hl : slots + cap ≤ R.slots)
    (k' : ∀ (T' : State) (h' : Heap) (a : Addr) (ka : ClassId), a = h.size → h0.size ≤ a → n0 ≤ a → NK p l e R s m args below meth c Z own n0 h0 ws T' h' locs (cells + 1) (slots + cap) → Ext h h' → Arv Z h' a ka (newarray.typeOf aty) n (List.replicate cap (defaultValue (newarray.typeOf aty))) (defaultValue (newarray.typeOf aty)) → Go p e below G T' (mkF m pc' Ls (.ref a :: rest))) : Go p e below G T (mkF m pc Ls (.int n :: rest)) := by
  obtain ⟨X, hx, eT, hZ, hown, N, K, hn0, hlk⟩ := W
  obtain ⟨T', h', cA, X', e', E, A, st⟩ := RoadKit.newP X hx hZ w eT (g := mkF m pc Ls (.int n :: rest)) rfl hd rfl hn hcap hb hc hl
  subst hp
  exact Go.by1 (fun t q => st t q) (k' T' h' _ cA rfl K.1 (Nat.le_trans hn0 K.1) ⟨X', hx, e', hZ, hown, N, K.ext E, hn0, hlk⟩ E ((Arv.new A hn).pad (by simpa using pad_rep [] _ cap)))
theorem NK.newO (W : NK p l e R s m args below meth c Z own n0 h0 ws T h locs cells slots) {C : String} {index n : Nat} (w : (Cond.classLink own index C).before a0 Z = true) (wi : (Cond.instantiable C n).before a0 Z = true) (wz : (Cond.initialized C).before a0 Z = true) (hd : decode c.code pc = .ok (.new index, 3)) (hp : pc + 3 = pc') (hc : cells + 1 ≤ R.cells) (hl : slots + n ≤ R.slots)
    (k' : ∀ (T' : State) (h' : Heap) (a : Addr), a = h.size → h0.size ≤ a → n0 ≤ a → NK p l e R s m args below meth c Z own n0 h0 ws T' h' locs (cells + 1) (slots + n) → Ext h h' → Exa Z h' a C → (∀ {O nm d : String} {ty : FieldType}, Laid Z a0 C O nm d → parseFieldDescriptor d = some ty → Fld Z h' a O nm d (defaultValue ty)) → Go p e below G T' (mkF m pc' Ls (.ref a :: st))) : Go p e below G T (mkF m pc Ls st) := by
  obtain ⟨X, hx, eT, hZ, hown, N, K, hn0, hlk⟩ := W
  obtain ⟨T', h', X', e', E, A, D, -, stp⟩ := RoadKit.newO X hx hZ hown w wi wz eT (g := mkF m pc Ls st) rfl hd hc hl
  subst hp
  exact Go.by1 (fun t q => stp t q) (k' T' h' _ rfl K.1 (Nat.le_trans hn0 K.1) ⟨X', hx, e', hZ, hown, N, K.ext E, hn0, hlk⟩ E A D)
theorem NK.wrote (W : NK p l e R s m args below meth c Z own n0 h0 ws T h locs cells slots) {a : Addr} {sl : Nat} {v : Value} (X' : Stand p l e R s m args below meth c T' (locs ++ [⟨a, sl⟩]) cells slots) (e' : T'.heap = h') (Wr' : Wr h h' a sl v) (hge : a ∈ ws ∨ h0.size ≤ a) (hn : n0 ≤ a) : NK p l e R s m args below meth c Z own n0 h0 ws T' h' (locs ++ [⟨a, sl⟩]) cells slots := by
  obtain ⟨X, hx, eT, hZ, hown, N, K, hn0, hlk⟩ := W
  exact ⟨X', hx, e', hZ, hown, Fr.snoc X' N hn, K.wr Wr' hge, hn0, hlk⟩
theorem NK.stC (W : NK p l e R s m args below meth c Z own n0 h0 ws T h locs cells slots) {a : Addr} {ka : ClassId} {z : Int32} {vs : List Value} {dv : Value} (A : Arv Z h a ka .char z vs dv) {j x : Int32} (hd : decode c.code pc = .ok (.castore, 1)) (hp : pc + 1 = pc') (hx' : nar .char x = x) (i : Nat) (hj : j.toNatClampNeg = i) (hi : i < vs.length) (hb : ¬ j < 0 ∧ j < z) (hge : a ∈ ws ∨ h0.size ≤ a) (hn : n0 ≤ a)
    (k' : ∀ (T' : State) (h' : Heap) (L : List Loc), NK p l e R s m args below meth c Z own n0 h0 ws T' h' L cells slots → Keep h h' [a] → Arv Z h' a ka .char z (vs.set i (.int x)) dv → Go p e below G T' (mkF m pc' Ls rest)) : Go p e below G T (mkF m pc Ls (.int x :: .int j :: .ref a :: rest)) := by
  obtain ⟨cl, A1, q1, S1, M1, H1, U1⟩ := id A
  obtain ⟨T', h', X', e', Wr', stp⟩ := RoadKit.stC W.1 W.2.1 W.2.2.2.1 W.2.2.1 A1 (j := j) (inb_of S1 hb) (g := mkF m pc Ls (.int x :: .int j :: .ref a :: rest)) rfl rfl hd
  subst hp
  rw [hx'] at Wr'
  exact Go.by1 (fun t q => stp t q) (k' T' h' _ (W.wrote X' e' Wr' hge hn) (Keep.of_wr Wr') (Arv.set A1 q1 S1 M1 H1 U1 (hx' ▸ fits_nar_char x) Wr' i hj hi))
theorem NK.stB (W : NK p l e R s m args below meth c Z own n0 h0 ws T h locs cells slots) {a : Addr} {ka : ClassId} {z : Int32} {vs : List Value} {dv : Value} (A : Arv Z h a ka .byte z vs dv) {j x : Int32} (hd : decode c.code pc = .ok (.bastore, 1)) (hp : pc + 1 = pc') (i : Nat) (hj : j.toNatClampNeg = i) (hi : i < vs.length) (hb : ¬ j < 0 ∧ j < z) (hge : a ∈ ws ∨ h0.size ≤ a) (hn : n0 ≤ a)
    (k' : ∀ (T' : State) (h' : Heap) (L : List Loc), NK p l e R s m args below meth c Z own n0 h0 ws T' h' L cells slots → Keep h h' [a] → Arv Z h' a ka .byte z (vs.set i (.int x.toInt8.toInt32)) dv → Go p e below G T' (mkF m pc' Ls rest)) : Go p e below G T (mkF m pc Ls (.int x :: .int j :: .ref a :: rest)) := by
  obtain ⟨cl, A1, q1, S1, M1, H1, U1⟩ := id A
  obtain ⟨T', h', X', e', Wr', stp⟩ := RoadKit.stB W.1 W.2.1 W.2.2.2.1 W.2.2.1 A1 (j := j) (inb_of S1 hb) (g := mkF m pc Ls (.int x :: .int j :: .ref a :: rest)) rfl rfl hd
  subst hp
  exact Go.by1 (fun t q => stp t q) (k' T' h' _ (W.wrote X' e' Wr' hge hn) (Keep.of_wr Wr') (Arv.set A1 q1 S1 M1 H1 U1 (fits_nar_byte x) Wr' i hj hi))
theorem NK.stI (W : NK p l e R s m args below meth c Z own n0 h0 ws T h locs cells slots) {a : Addr} {ka : ClassId} {z : Int32} {vs : List Value} {dv : Value} (A : Arv Z h a ka .int z vs dv) {j x : Int32} (hd : decode c.code pc = .ok (.iastore, 1)) (hp : pc + 1 = pc') (i : Nat) (hj : j.toNatClampNeg = i) (hi : i < vs.length) (hb : ¬ j < 0 ∧ j < z) (hge : a ∈ ws ∨ h0.size ≤ a) (hn : n0 ≤ a)
    (k' : ∀ (T' : State) (h' : Heap) (L : List Loc), NK p l e R s m args below meth c Z own n0 h0 ws T' h' L cells slots → Keep h h' [a] → Arv Z h' a ka .int z (vs.set i (.int x)) dv → Go p e below G T' (mkF m pc' Ls rest)) : Go p e below G T (mkF m pc Ls (.int x :: .int j :: .ref a :: rest)) := by
  obtain ⟨cl, A1, q1, S1, M1, H1, U1⟩ := id A
  obtain ⟨T', h', X', e', Wr', stp⟩ := RoadKit.stI W.1 W.2.1 W.2.2.2.1 W.2.2.1 A1 (j := j) (inb_of S1 hb) (g := mkF m pc Ls (.int x :: .int j :: .ref a :: rest)) rfl rfl hd
  subst hp
  exact Go.by1 (fun t q => stp t q) (k' T' h' _ (W.wrote X' e' Wr' hge hn) (Keep.of_wr Wr') (Arv.set A1 q1 S1 M1 H1 U1 rfl Wr' i hj hi))
theorem NK.stJ (W : NK p l e R s m args below meth c Z own n0 h0 ws T h locs cells slots) {a : Addr} {ka : ClassId} {z : Int32} {vs : List Value} {dv : Value} (A : Arv Z h a ka .long z vs dv) {j : Int32} {x : Int64} (hd : decode c.code pc = .ok (.lastore, 1)) (hp : pc + 1 = pc') (i : Nat) (hj : j.toNatClampNeg = i) (hi : i < vs.length) (hb : ¬ j < 0 ∧ j < z) (hge : a ∈ ws ∨ h0.size ≤ a) (hn : n0 ≤ a)
    (k' : ∀ (T' : State) (h' : Heap) (L : List Loc), NK p l e R s m args below meth c Z own n0 h0 ws T' h' L cells slots → Keep h h' [a] → Arv Z h' a ka .long z (vs.set i (.long x)) dv → Go p e below G T' (mkF m pc' Ls rest)) : Go p e below G T (mkF m pc Ls (.long x :: .int j :: .ref a :: rest)) := by
  obtain ⟨cl, A1, q1, S1, M1, H1, U1⟩ := id A
  obtain ⟨T', h', X', e', Wr', stp⟩ := RoadKit.stJ W.1 W.2.1 W.2.2.2.1 W.2.2.1 A1 (j := j) (inb_of S1 hb) (g := mkF m pc Ls (.long x :: .int j :: .ref a :: rest)) rfl rfl hd
  subst hp
  exact Go.by1 (fun t q => stp t q) (k' T' h' _ (W.wrote X' e' Wr' hge hn) (Keep.of_wr Wr') (Arv.set A1 q1 S1 M1 H1 U1 rfl Wr' i hj hi))
theorem NK.caload (W : NK p l e R s m args below meth c Z own n0 h0 ws T h locs cells slots) {a : Addr} {ka : ClassId} {z : Int32} {vs : List Value} {dv : Value} (A : Arv Z h a ka .char z vs dv) {j : Int32} (v : Value) (hd : decode c.code pc = .ok (.caload, 1)) (hp : pc + 1 = pc') (hb : ¬ j < 0 ∧ j < z) (hv : vs.getD j.toNatClampNeg dv = v)
    (k' : Go p e below G T (mkF m pc' Ls (v :: rest))) : Go p e below G T (mkF m pc Ls (.int j :: .ref a :: rest)) := by
  obtain ⟨cl, A1, q1, S1, M1, H1, U1⟩ := id A
  subst hp
  exact Go.by1 (fun t q => W.1.caload W.2.1 (by rw [W.2.2.1]; exact A1.1) (State.isArrayOf_alike W.2.2.2.1.alike A1.2.1) A1.2.2 (inb_of S1 hb) (H1.at (inb_of S1 hb) hv) (g := mkF m pc Ls (.int j :: .ref a :: rest)) rfl rfl hd t q) k'
theorem NK.baload (W : NK p l e R s m args below meth c Z own n0 h0 ws T h locs cells slots) {a : Addr} {ka : ClassId} {z : Int32} {vs : List Value} {dv : Value} (A : Arv Z h a ka .byte z vs dv) {j : Int32} (v : Value) (hd : decode c.code pc = .ok (.baload, 1)) (hp : pc + 1 = pc') (hb : ¬ j < 0 ∧ j < z) (hv : vs.getD j.toNatClampNeg dv = v)
    (k' : Go p e below G T (mkF m pc' Ls (v :: rest))) : Go p e below G T (mkF m pc Ls (.int j :: .ref a :: rest)) := by
  obtain ⟨cl, A1, q1, S1, M1, H1, U1⟩ := id A
  subst hp
  exact Go.by1 (fun t q => W.1.baloadBytes W.2.1 (by rw [W.2.2.1]; exact A1.1) (State.isArrayOf_alike W.2.2.2.1.alike A1.2.1) A1.2.2 (inb_of S1 hb) (H1.at (inb_of S1 hb) hv) (g := mkF m pc Ls (.int j :: .ref a :: rest)) rfl rfl hd t q) k'
theorem NK.iaload (W : NK p l e R s m args below meth c Z own n0 h0 ws T h locs cells slots) {a : Addr} {ka : ClassId} {z : Int32} {vs : List Value} {dv : Value} (A : Arv Z h a ka .int z vs dv) {j : Int32} (v : Value) (hd : decode c.code pc = .ok (.iaload, 1)) (hp : pc + 1 = pc') (hb : ¬ j < 0 ∧ j < z) (hv : vs.getD j.toNatClampNeg dv = v)
    (k' : Go p e below G T (mkF m pc' Ls (v :: rest))) : Go p e below G T (mkF m pc Ls (.int j :: .ref a :: rest)) := by
  obtain ⟨cl, A1, q1, S1, M1, H1, U1⟩ := id A
  subst hp
  exact Go.by1 (fun t q => W.1.iaload W.2.1 (by rw [W.2.2.1]; exact A1.1) (State.isArrayOf_alike W.2.2.2.1.alike A1.2.1) A1.2.2 (inb_of S1 hb) (H1.at (inb_of S1 hb) hv) (g := mkF m pc Ls (.int j :: .ref a :: rest)) rfl rfl hd t q) k'
theorem NK.laload (W : NK p l e R s m args below meth c Z own n0 h0 ws T h locs cells slots) {a : Addr} {ka : ClassId} {z : Int32} {vs : List Value} {dv : Value} (A : Arv Z h a ka .long z vs dv) {j : Int32} (v : Value) (hd : decode c.code pc = .ok (.laload, 1)) (hp : pc + 1 = pc') (hb : ¬ j < 0 ∧ j < z) (hv : vs.getD j.toNatClampNeg dv = v)
    (k' : Go p e below G T (mkF m pc' Ls (v :: rest))) : Go p e below G T (mkF m pc Ls (.int j :: .ref a :: rest)) := by
  obtain ⟨cl, A1, q1, S1, M1, H1, U1⟩ := id A
  subst hp
  exact Go.by1 (fun t q => W.1.laload W.2.1 (by rw [W.2.2.1]; exact A1.1) (State.isArrayOf_alike W.2.2.2.1.alike A1.2.1) A1.2.2 (inb_of S1 hb) (H1.at (inb_of S1 hb) hv) (g := mkF m pc Ls (.int j :: .ref a :: rest)) rfl rfl hd t q) k'
theorem NK.arraylength (W : NK p l e R s m args below meth c Z own n0 h0 ws T h locs cells slots) {a : Addr} {ka : ClassId} {ty : FieldType} {z : Int32} {vs : List Value} {dv : Value} (A : Arv Z h a ka ty z vs dv) (hd : decode c.code pc = .ok (.arraylength, 1)) (hp : pc + 1 = pc')
    (k' : Go p e below G T (mkF m pc' Ls (.int z :: rest))) : Go p e below G T (mkF m pc Ls (.ref a :: rest)) := by
  obtain ⟨cl, A1, q1, S1, M1, H1, U1⟩ := id A
  subst hp
  exact Go.by1 (fun t q => W.1.arraylength W.2.1 (by rw [W.2.2.1]; exact A1.1) (State.isArrayOf_alike W.2.2.2.1.alike A1.2.1) (g := mkF m pc Ls (.ref a :: rest)) rfl rfl hd t (by rw [len_of S1 M1]; exact q)) k'
theorem NK.moved (W : NK p l e R s m args below meth c Z own n0 h0 ws T h locs cells slots) (X' : Stand p l e R s m args below meth c T' locs cells slots) (e' : T'.heap = h) : NK p l e R s m args below meth c Z own n0 h0 ws T' h locs cells slots := ⟨X', W.2.1, e', W.2.2.2⟩
theorem NK.getF (W : NK p l e R s m args below meth c Z own n0 h0 ws T h locs cells slots) {R0 O n d host : String} {index : Nat} (w : (Cond.fieldLink own index R0 n d).before a0 Z = true ∨ (Cond.fieldLinkNest own index R0 n d host).before a0 Z = true) (via : Via Z R0 O n d) {a : Addr} {v : Value} (F : Fld Z h a O n d v) (hd : decode c.code pc = .ok (.getfield index, 3)) (hp : pc + 3 = pc')
    (k' : ∀ T' : State, NK p l e R s m args below meth c Z own n0 h0 ws T' h locs cells slots → Go p e below G T' (mkF m pc' Ls (v :: rest))) : Go p e below G T (mkF m pc Ls (.ref a :: rest)) := by
  obtain ⟨T', X', e', stp⟩ := RoadKit.getF W.1 W.2.1 W.2.2.2.1 W.2.2.2.2.1 w via W.2.2.1 F (g := mkF m pc Ls (.ref a :: rest)) rfl rfl hd
  subst hp
  exact Go.by1 (fun t q => stp t q) (k' T' (W.moved X' e'))
theorem NK.getS (W : NK p l e R s m args below meth c Z own n0 h0 ws T h locs cells slots) {R0 O n d host : String} {index : Nat} (w : (Cond.fieldLink own index R0 n d).before a0 Z = true ∨ (Cond.fieldLinkNest own index R0 n d host).before a0 Z = true) (via : Via Z R0 O n d) {v : Value} (F : Sta Z h O n d v) (hd : decode c.code pc = .ok (.getstatic index, 3)) (hp : pc + 3 = pc')
    (k' : ∀ T' : State, NK p l e R s m args below meth c Z own n0 h0 ws T' h locs cells slots → Go p e below G T' (mkF m pc' Ls (v :: st))) : Go p e below G T (mkF m pc Ls st) := by
  obtain ⟨T', X', e', stp⟩ := RoadKit.getS2 W.1 W.2.1 W.2.2.2.1 W.2.2.2.2.1 w via W.2.2.1 F (g := mkF m pc Ls st) rfl hd
  subst hp
  exact Go.by1 (fun t q => stp t q) (k' T' (W.moved X' e'))
theorem NK.putF (W : NK p l e R s m args below meth c Z own n0 h0 ws T h locs cells slots) {R0 O n d host C : String} {index kk : Nat} {ty : FieldType} (w : (Cond.fieldLink own index R0 n d).before a0 Z = true ∨ (Cond.fieldLinkNest own index R0 n d host).before a0 Z = true) (via : Via Z R0 O n d) {a : Addr} {v old : Value} (F : Fld Z h a O n d old) (E : Exa Z h a C)
    (L : (Cond.lays C O n d).before a0 Z = true ∨ ((Cond.laysFinal C O n d).before a0 Z = true ∧ own = O ∧ meth.name = "<init>")) (wi : (Cond.instantiable C kk).before a0 Z = true) (hty : parseFieldDescriptor d = some ty) (hn : narrow ty v = v) (hf : fits ty v = true) (hd : decode c.code pc = .ok (.putfield index, 3)) (hp : pc + 3 = pc') (hge : a ∈ ws ∨ h0.size ≤ a) (hn0 : n0 ≤ a)
    (k' : ∀ (T' : State) (h' : Heap) (L' : List Loc), NK p l e R s m args below meth c Z own n0 h0 ws T' h' L' cells slots → Wr h h' a (RoadKit.slotOf Z O n d) v → Go p e below G T' (mkF m pc' Ls rest)) : Go p e below G T (mkF m pc Ls (v :: .ref a :: rest)) := by
  obtain ⟨T', h', X', e', Wr', stp⟩ := RoadKit.putF W.1 W.2.1 W.2.2.2.1 W.2.2.2.2.1 w via W.2.2.1 F E L wi hty hn hf (g := mkF m pc Ls (v :: .ref a :: rest)) rfl rfl hd
  subst hp
  exact Go.by1 (fun t q => stp t q) (k' T' h' _ (W.wrote X' e' Wr' hge hn0) Wr')
theorem NK.initO (W : NK p l e R s m args below meth c Z own n0 h0 ws T h locs cells slots) {idx : Nat} (w1 : (Cond.methodLink own idx Lib.objectInit).before a0 Z = true) (w2 : (Cond.instanceMethod Lib.objectInit).before a0 Z = true) (w3 : (Cond.code Lib.objectInit ⟨#[0xb1]⟩ 1 none).before a0 Z = true) {a : Addr} (hd : decode c.code pc = .ok (.invokespecial idx, 3)) (hp : pc + 3 = pc') (hml : c.maxLocals = Ls.size) (hf : 1 ≤ R.frames) {wd : Nat} (hW : (rest.map fun v => v.category).sum ≤ wd) (hl : wd + 12 ≤ R.locals)
    (k' : ∀ T' : State, NK p l e R s m args below meth c Z own n0 h0 ws T' h locs cells slots → Go p e below G T' (mkF m pc' Ls rest)) : Go p e below G T (mkF m pc Ls (.ref a :: rest)) := by
  obtain ⟨T', X', e', stp⟩ := RoadKit.initO W.1 W.2.1 W.2.2.2.1 W.2.2.2.2.1 w1 w2 w3 W.2.2.1 (g := mkF m pc Ls (.ref a :: rest)) rfl hml.symm rfl hd hf (W := wd) (by show 2 * 0 + _ ≤ _; omega) hl
  subst hp
  exact Go.by1 (fun t q => stp t q) (k' T' (W.moved X' e'))
/-- what a payer says, in backOf's shape -/
abbrev BK (l : Launch) (R : Room) (p : Program) (e : Env) (below : List Frame) (s : State) (args : Array Value) (y : MethodName) (len wd : Nat) (as' : Array Value) (h : Heap) (rc rs : Nat) (Q : Option Value → Heap → List Loc → Prop) : Prop :=
  Back l R p e below s args y len wd (fun A a => a = as' ∧ A.U.heap = h ∧ A.cells + rc ≤ R.cells ∧ A.slots + rs ≤ R.slots) (fun A _ v B => ∃ L, Q v B.U.heap L ∧ B.locs = A.locs ++ L ∧ B.cells = A.cells + rc ∧ B.slots = A.slots + rs)
/-- a callee's contract -/
def NM (l : Launch) (y : MethodName) (bytes : ByteArray) (maxL : Nat) (ret : Option FieldType) (xs : List Cond) (R : Room) (Z : State) (n0 : Nat) (as' : Array Value) (h0 : Heap) (ws : List Addr) (P : Option Value → Heap → Prop) : Prop :=
  MetFree l y (head1 (Cond.code y bytes maxL ret :: xs) R) (fun a U => a = as' ∧ Z.Warmed39 U.vm ∧ U.heap = h0) (fun _ _ _ _ _ => True) (fun _ U o U' => ∃ v L, o = .returned v ∧ (P v U'.heap ∧ Keep h0 U'.heap ws ∧ Fr n0 L) ∧ FrameEnd U o U' L R.cells R.slots)
def EndN (n0 : Nat) (R : Room) (s : State) (below : List Frame) (P : Option Value → Heap → Prop) (h0 : Heap) (ws : List Addr) (t : State) : Prop :=
  ∃ o, t.status = .running ∧ Ended t below o ∧ ∃ v L, o = .returned v ∧ (P v t.heap ∧ Keep h0 t.heap ws ∧ Fr n0 L) ∧ FrameEnd s o t L R.cells R.slots
theorem NM.walk {y : MethodName} {bytes : ByteArray} {maxL : Nat} {ret : Option FieldType} {xs : List Cond} {as' : Array Value} {P : Option Value → Heap → Prop} (hpl : plainFor y = true) (hn : n0 ≤ h0.size) (ef : ∀ m, entryFrame m as' maxL = mkF m 0 Ls [])
    (body : ∀ (p : Program) (e : Env) (s : State) (m : MethodId) (below : List Frame) (meth : Method) (c : Code) (s₁ : State), c.code = bytes → c.maxLocals = maxL → meth.sig.returnType = ret → meth.name = y.name → NK p l e R s m as' below meth c Z y.cls n0 h0 ws s₁ h0 [] 0 0 → Go p e below (EndN n0 R s below P h0 ws) s₁ (mkF m 0 Ls [])) : NM l y bytes maxL ret xs R Z n0 as' h0 ws P := by
  refine MetFree.of_bodySF hpl hisR ?_
  intro p e s m args below meth c s₁ Bd hml0 hP hK
  obtain ⟨rfl, hZ, hh⟩ := hP
  have X0 : Stand p l e R s m args below meth c s₁ [] 0 0 := Stand.of_body Bd
  have e0 : s₁.heap = h0 := by rw [← hh, Bd.state]; rfl
  obtain ⟨t, a, o, r1, r2, q⟩ := body p e s m below meth c s₁ Bd.bytes hml0 Bd.returns (name_of_methodNamed Bd.named Bd.method).1 ⟨X0, Bd.exec, e0, hZ, findClass_of_methodNamed Bd.named, Fr.nil n0, Keep.refl _ _, hn, BodyLoose.notSynchronized Bd⟩
  exact ⟨t, o, castTop (ef m) a, r1, r2, q⟩
theorem NK.ret (W : NK p l e R s m args below meth c Z own n0 h0 ws T h locs cells slots) {P : Option Value → Heap → Prop} {w : Value} {t : FieldType} {i : Instr} (hret : meth.sig.returnType = some t) (hn : narrow t w = w)
    (hi : (i = .ireturn ∧ (t = .int ∨ t = .boolean ∨ t = .byte ∨ t = .char ∨ t = .short) ∧ ∃ z, w = .int z) ∨ (i = .lreturn ∧ t = .long ∧ ∃ z, w = .long z) ∨ (i = .dreturn ∧ t = .double ∧ ∃ z, w = .double z) ∨ (i = .freturn ∧ t = .float ∧ ∃ z, w = .float z) ∨ (i = .areturn ∧ t.isReference = true ∧ w.isRef = true))
    (hd : decode c.code pc = .ok (i, 1)) (hc : cells ≤ R.cells) (hs : slots ≤ R.slots) (hP : P (some w) h) : Go p e below (EndN n0 R s below P h0 ws) T (mkF m pc Ls (w :: rest)) := by
  obtain ⟨X, hx, eT, hZ, hown, N, K, hn0, hlk⟩ := W
  obtain ⟨fs, hr, hrun, hended, hW, hsame⟩ := X.leave (v := some w) (fun h => by rw [hret] at h; cases h) hlk
  refine ⟨_, retOut X hx hret hn hi hd hr, _, hrun, hended, _, _, rfl, ?_, ⟨_, rfl⟩, hW, hsame.mono hc hs⟩
  have e1 : (T.setFrames fs).heap = h := eT
  rw [e1]
  exact ⟨hP, K, N⟩
theorem NK.retI (W : NK p l e R s m args below meth c Z own n0 h0 ws T h locs cells slots) {P : Option Value → Heap → Prop} {z : Int32} (hret : meth.sig.returnType = some .int) (hd : decode c.code pc = .ok (.ireturn, 1)) (hc : cells ≤ R.cells) (hs : slots ≤ R.slots) (hP : P (some (.int z)) h) : Go p e below (EndN n0 R s below P h0 ws) T (mkF m pc Ls (.int z :: rest)) :=
  W.ret hret rfl (Or.inl ⟨rfl, Or.inl rfl, _, rfl⟩) hd hc hs hP
theorem NK.retZ (W : NK p l e R s m args below meth c Z own n0 h0 ws T h locs cells slots) {P : Option Value → Heap → Prop} {z : Int32} (hret : meth.sig.returnType = some .boolean) (hd : decode c.code pc = .ok (.ireturn, 1)) (hz : z = 0 ∨ z = 1) (hc : cells ≤ R.cells) (hs : slots ≤ R.slots) (hP : P (some (.int z)) h) : Go p e below (EndN n0 R s below P h0 ws) T (mkF m pc Ls (.int z :: rest)) :=
  W.ret hret (by rcases hz with rfl | rfl <;> rfl) (Or.inl ⟨rfl, Or.inr (Or.inl rfl), _, rfl⟩) hd hc hs hP
theorem NK.retC (W : NK p l e R s m args below meth c Z own n0 h0 ws T h locs cells slots) {P : Option Value → Heap → Prop} {z : Int32} (hret : meth.sig.returnType = some .char) (hd : decode c.code pc = .ok (.ireturn, 1)) (hz : narrow .char (.int z) = .int z) (hc : cells ≤ R.cells) (hs : slots ≤ R.slots) (hP : P (some (.int z)) h) : Go p e below (EndN n0 R s below P h0 ws) T (mkF m pc Ls (.int z :: rest)) :=
  W.ret hret hz (Or.inl ⟨rfl, Or.inr (Or.inr (Or.inr (Or.inl rfl))), _, rfl⟩) hd hc hs hP
theorem NK.retB (W : NK p l e R s m args below meth c Z own n0 h0 ws T h locs cells slots) {P : Option Value → Heap → Prop} {z : Int32} (hret : meth.sig.returnType = some .byte) (hd : decode c.code pc = .ok (.ireturn, 1)) (hz : narrow .byte (.int z) = .int z) (hc : cells ≤ R.cells) (hs : slots ≤ R.slots) (hP : P (some (.int z)) h) : Go p e below (EndN n0 R s below P h0 ws) T (mkF m pc Ls (.int z :: rest)) :=
  W.ret hret hz (Or.inl ⟨rfl, Or.inr (Or.inr (Or.inl rfl)), _, rfl⟩) hd hc hs hP
theorem NK.retJ (W : NK p l e R s m args below meth c Z own n0 h0 ws T h locs cells slots) {P : Option Value → Heap → Prop} {z : Int64} (hret : meth.sig.returnType = some .long) (hd : decode c.code pc = .ok (.lreturn, 1)) (hc : cells ≤ R.cells) (hs : slots ≤ R.slots) (hP : P (some (.long z)) h) : Go p e below (EndN n0 R s below P h0 ws) T (mkF m pc Ls (.long z :: rest)) :=
  W.ret hret rfl (Or.inr (Or.inl ⟨rfl, rfl, _, rfl⟩)) hd hc hs hP
theorem NK.retA (W : NK p l e R s m args below meth c Z own n0 h0 ws T h locs cells slots) {P : Option Value → Heap → Prop} {w : Value} {t : FieldType} (hret : meth.sig.returnType = some t) (ht : t.isReference = true) (hw : w.isRef = true) (hd : decode c.code pc = .ok (.areturn, 1)) (hc : cells ≤ R.cells) (hs : slots ≤ R.slots) (hP : P (some w) h) : Go p e below (EndN n0 R s below P h0 ws) T (mkF m pc Ls (w :: rest)) :=
  W.ret hret (by cases t <;> cases w <;> first | rfl | (simp [FieldType.isReference, Value.isRef] at ht hw)) (Or.inr (Or.inr (Or.inr (Or.inr ⟨rfl, ht, hw⟩)))) hd hc hs hP
theorem NK.retV (W : NK p l e R s m args below meth c Z own n0 h0 ws T h locs cells slots) {P : Option Value → Heap → Prop} (hret : meth.sig.returnType = none) (hd : decode c.code pc = .ok (.return_, 1)) (hc : cells ≤ R.cells) (hs : slots ≤ R.slots) (hP : P none h) : Go p e below (EndN n0 R s below P h0 ws) T (mkF m pc Ls []) := by
  obtain ⟨X, hx, eT, hZ, hown, N, K, hn0, hlk⟩ := W
  obtain ⟨fs, hr, hrun, hended, hW, hsame⟩ := X.leave (v := none) (fun _ => rfl) hlk
  refine ⟨_, X.returnOut hx hret hd hr, _, hrun, hended, _, _, rfl, ?_, ⟨_, rfl⟩, hW, hsame.mono hc hs⟩
  have e1 : (T.setFrames fs).heap = h := eT
  rw [e1]
  exact ⟨hP, K, N⟩
theorem NM.bk {y : MethodName} {bytes : ByteArray} {maxL : Nat} {ret : Option FieldType} {rm : Room} {as' : Array Value} {P : Option Value → Heap → Prop} {len wd : Nat} (hM : NM l y bytes maxL ret [] rm Z n0 as' h ws' P) (hZ : Z.Warmed39 s.vm) (wc : (Cond.code y bytes maxL ret).before a0 Z = true) (wz : (Cond.initialized y.cls).before a0 Z = true) (hf : rm.frames + 1 ≤ R.frames) (hl : wd + (maxL + 11) + rm.locals ≤ R.locals) :
    BK l R p e below s args y len wd as' h rm.cells rm.slots (fun v h' L => P v h' ∧ Keep h h' ws' ∧ Fr n0 L) := backOf (Q := fun v h' L => P v h' ∧ Keep h h' ws' ∧ Fr n0 L) hM hZ wc wz hf hl
theorem NK.called (W : NK p l e R s m args below meth c Z own n0 h0 ws T h locs cells slots) {L : List Loc} {T' : State} {c2 s2 : Nat} (X' : Stand p l e R s m args below meth c T' (locs ++ L) c2 s2) (N : Fr n0 L) (K : Keep h T'.heap ws') (hws : ∀ x ∈ ws', x ∈ ws ∨ h0.size ≤ x) : NK p l e R s m args below meth c Z own n0 h0 ws T' T'.heap (locs ++ L) c2 s2 := by
  obtain ⟨X, hx, eT, hZ, hown, N0, K0, hn0, hlk⟩ := W
  exact ⟨X', hx, rfl, hZ, hown, Fr.app N0 N, K0.trans K hws, hn0, hlk⟩
theorem NK.callS (W : NK p l e R s m args below meth c Z own n0 h0 ws T h locs cells slots) {index : Nat} {y : MethodName} {bytes : ByteArray} {maxL : Nat} {ret : Option FieldType} (w1 : (Cond.methodLink own index y).before a0 Z = true) (w2 : (Cond.static y).before a0 Z = true) (w3 : (Cond.initialized y.cls).before a0 Z = true) (w4 : (Cond.code y bytes maxL ret).before a0 Z = true)
    (hy : y.cls ≠ "java/lang/invoke/MethodHandle" ∧ y.cls ≠ "java/lang/invoke/VarHandle") {wd rc rs : Nat} {as' : Array Value} {Q : Option Value → Heap → List Loc → Prop} (hK : BK l R p e below s args y 3 wd as' h rc rs Q) (hd : decode c.code pc = .ok (.invokestatic index, 3)) (hp : pc + 3 = pc') (hml : c.maxLocals = Ls.size) {argsL : List Value} (has : argsL.toArray = as') (hlen : ∀ sig, parseMethodDescriptor y.desc = some sig → argsL.length = sig.parameters.length) (hst : st = argsL.reverse ++ rest) (hW : (rest.map fun v => v.category).sum ≤ wd) (hc : cells + rc ≤ R.cells) (hs : slots + rs ≤ R.slots)
    (hq : ∀ v h' L, Q v h' L → Fr n0 L ∧ Keep h h' ws') (hws : ∀ x ∈ ws', x ∈ ws ∨ h0.size ≤ x)
    (k' : ∀ (v : Option Value) (T' : State) (h' : Heap) (L L' : List Loc), NK p l e R s m args below meth c Z own n0 h0 ws T' h' L' (cells + rc) (slots + rs) → Q v h' L → Keep h h' ws' → Go p e below G T' (mkF m pc' Ls (v.toList ++ rest))) : Go p e below G T (mkF m pc Ls st) := by
  subst hst has hp
  obtain ⟨v, vm1, ⟨T', L1, k1, n1⟩, -, X', ⟨L, hQ, e1, e2, e3⟩, stp⟩ := Jvm.LawKit.callS W.1 W.2.1 W.2.2.2.2.1 (mvT W.2.2.2.1 w1) (mvT W.2.2.2.1 w2) (mvT W.2.2.2.1 w3) (mvT W.2.2.2.1 w4) hy hK (g := mkF m pc Ls (argsL.reverse ++ rest)) rfl hml.symm (argsL := argsL) (rest := rest) hlen rfl (by show 2 * 0 + _ ≤ _; omega) hd (fun _ _ => ⟨rfl, W.2.2.1, hc, hs⟩)
  dsimp only [Pt.U, Pt.locs, Pt.cells, Pt.slots] at X' hQ e1 e2 e3 stp
  subst e1 e2 e3
  obtain ⟨N, K⟩ := hq _ _ _ hQ
  exact Go.by1 (fun t q => stp t q) (k' v T' _ L _ (W.called X' N K hws) hQ K)
theorem NK.callI (W : NK p l e R s m args below meth c Z own n0 h0 ws T h locs cells slots) {index : Nat} {y : MethodName} {bytes : ByteArray} {maxL : Nat} (hy1 : y.name = "<init>") (w1 : (Cond.methodLink own index y).before a0 Z = true) (w2 : (Cond.instanceMethod y).before a0 Z = true) (w4 : (Cond.code y bytes maxL none).before a0 Z = true)
    (hy : y.cls ≠ "java/lang/invoke/MethodHandle" ∧ y.cls ≠ "java/lang/invoke/VarHandle") {wd rc rs : Nat} {as' : Array Value} {Q : Option Value → Heap → List Loc → Prop} (hK : BK l R p e below s args y 3 wd as' h rc rs Q) (hd : decode c.code pc = .ok (.invokespecial index, 3)) (hp : pc + 3 = pc') (hml : c.maxLocals = Ls.size) {a : Addr} {argsL : List Value} (has : (Value.ref a :: argsL).toArray = as') (hlen : ∀ sig, parseMethodDescriptor y.desc = some sig → argsL.length = sig.parameters.length) (hst : st = argsL.reverse ++ .ref a :: rest) (hW : (rest.map fun v => v.category).sum ≤ wd) (hc : cells + rc ≤ R.cells) (hs : slots + rs ≤ R.slots)
    (hq : ∀ v h' L, Q v h' L → Fr n0 L ∧ Keep h h' ws') (hws : ∀ x ∈ ws', x ∈ ws ∨ h0.size ≤ x)
    (k' : ∀ (v : Option Value) (T' : State) (h' : Heap) (L L' : List Loc), NK p l e R s m args below meth c Z own n0 h0 ws T' h' L' (cells + rc) (slots + rs) → Q v h' L → Keep h h' ws' → Go p e below G T' (mkF m pc' Ls (v.toList ++ rest))) : Go p e below G T (mkF m pc Ls st) := by
  subst hst has hp
  obtain ⟨v, vm1, ⟨T', L1, k1, n1⟩, -, X', ⟨L, hQ, e1, e2, e3⟩, stp⟩ := W.1.specialBack W.2.1 hy1 W.2.2.2.2.1 (mvT W.2.2.2.1 w1) (mvT W.2.2.2.1 w2) (mvT W.2.2.2.1 w4) hy hK (g := mkF m pc Ls (argsL.reverse ++ .ref a :: rest)) rfl hml.symm (Steps.refl _) (a := a) (argsL := argsL) (rest := rest) hlen rfl (by show 2 * 0 + _ ≤ _; omega) hd (fun _ _ => ⟨rfl, W.2.2.1, hc, hs⟩)
  dsimp only [Pt.U, Pt.locs, Pt.cells, Pt.slots] at X' hQ e1 e2 e3 stp
  subst e1 e2 e3
  obtain ⟨N, K⟩ := hq _ _ _ hQ
  exact Go.tr stp (k' v T' _ L _ (W.called X' N K hws) hQ K)
theorem NK.callV (W : NK p l e R s m args below meth c Z own n0 h0 ws T h locs cells slots) {index : Nat} {C : String} {y z : MethodName} (w1 : (Cond.methodLink own index y).before a0 Z = true) (w2 : (Cond.declares y).before a0 Z = true) (w3 : (Cond.selects C y z).before a0 Z = true) {C' : String} (w3' : (Cond.selects C' y y).before a0 Z = true) (w4 : (Cond.instanceMethod z).before a0 Z = true)
    (hy : y.cls ≠ "java/lang/invoke/MethodHandle" ∧ y.cls ≠ "java/lang/invoke/VarHandle") {wd rc rs : Nat} {as' : Array Value} {Q : Option Value → Heap → List Loc → Prop} (hK : BK l R p e below s args z 3 wd as' h rc rs Q) {a : Addr} (E : Exa Z h a C) (hd : decode c.code pc = .ok (.invokevirtual index, 3)) (hp : pc + 3 = pc') (hml : c.maxLocals = Ls.size) {argsL : List Value} (has : (Value.ref a :: argsL).toArray = as') (hlen : ∀ sig, parseMethodDescriptor y.desc = some sig → argsL.length = sig.parameters.length) (hst : st = argsL.reverse ++ .ref a :: rest) (hW : (rest.map fun v => v.category).sum ≤ wd) (hc : cells + rc ≤ R.cells) (hs : slots + rs ≤ R.slots)
    (hq : ∀ v h' L, Q v h' L → Fr n0 L ∧ Keep h h' ws') (hws : ∀ x ∈ ws', x ∈ ws ∨ h0.size ≤ x)
    (k' : ∀ (v : Option Value) (T' : State) (h' : Heap) (L L' : List Loc), NK p l e R s m args below meth c Z own n0 h0 ws T' h' L' (cells + rc) (slots + rs) → Q v h' L → Keep h h' ws' → Go p e below G T' (mkF m pc' Ls (v.toList ++ rest))) : Go p e below G T (mkF m pc Ls st) := by
  subst hst has hp
  obtain ⟨cq, kq, qa, qb, qc⟩ := isOf W.2.2.2.1 W.2.2.1 E
  obtain ⟨v, vm1, ⟨T', L1, k1, n1⟩, -, X', ⟨L, hQ, e1, e2, e3⟩, stp⟩ := W.1.virtualBack W.2.1 (y := y) (z := z) W.2.2.2.2.1 (mvT W.2.2.2.1 w1) (mvT W.2.2.2.1 w2) (notFace_of_selects (args := #[]) (mvT W.2.2.2.1 w3')) (mvT W.2.2.2.1 w3) (mvT W.2.2.2.1 w4) hy hK qa qc (g := mkF m pc Ls (argsL.reverse ++ .ref a :: rest)) rfl hml.symm (Steps.refl _) (argsL := argsL) (rest := rest) hlen rfl (by show 2 * 0 + _ ≤ _; omega) hd (fun _ _ => ⟨rfl, W.2.2.1, hc, hs⟩)
  dsimp only [Pt.U, Pt.locs, Pt.cells, Pt.slots] at X' hQ e1 e2 e3 stp
  subst e1 e2 e3
  obtain ⟨N, K⟩ := hq _ _ _ hQ
  exact Go.tr stp (k' v T' _ L _ (W.called X' N K hws) hQ K)
end Heap1
section Pure1
variable {p : Program} {l : Launch} {e : Env} {R : Room} {s : State} {m : MethodId} {args : Array Value} {below : List Frame} {meth : Method} {c : Code} {Z : State} {own : String} {n0 : Nat} {h0 : Heap} {ws ws' : List Addr} {T T' : State} {h h' : Heap} {locs : List Loc} {cells slots : Nat} {G : State → Prop} {g g' : JFrame} {a0 : Array Value} {pc pc' : Nat} {Ls Ls' : Array Slot} {st rest : List Value}
/-- it returns w and leaves the heap as it was -/
abbrev Pu (w : Option Value) (h0 : Heap) : Option Value → Heap → Prop := fun v h' => v = w ∧ h' = h0
theorem NK.callSP (W : NK p l e R s m args below meth c Z own n0 h0 ws T h locs cells slots) {index : Nat} {y : MethodName} {bytes : ByteArray} {maxL : Nat} {ret : Option FieldType} (w1 : (Cond.methodLink own index y).before a0 Z = true) (w2 : (Cond.static y).before a0 Z = true) (w3 : (Cond.initialized y.cls).before a0 Z = true) (w4 : (Cond.code y bytes maxL ret).before a0 Z = true)
    (hy : y.cls ≠ "java/lang/invoke/MethodHandle" ∧ y.cls ≠ "java/lang/invoke/VarHandle") {wd rc rs : Nat} {as' : Array Value} {Q : Option Value → Heap → List Loc → Prop} (hK : BK l R p e below s args y 3 wd as' h rc rs Q) (hd : decode c.code pc = .ok (.invokestatic index, 3)) (hp : pc + 3 = pc') (hml : c.maxLocals = Ls.size) {argsL : List Value} (has : argsL.toArray = as') (hlen : ∀ sig, parseMethodDescriptor y.desc = some sig → argsL.length = sig.parameters.length) (hst : st = argsL.reverse ++ rest) (hW : (rest.map fun v => v.category).sum ≤ wd) (hc : cells + rc ≤ R.cells) (hs : slots + rs ≤ R.slots)
    {w : Option Value} (hq : ∀ v h' L, Q v h' L → Fr n0 L ∧ Pu w h v h')
    (k' : ∀ (T' : State) (L' : List Loc), NK p l e R s m args below meth c Z own n0 h0 ws T' h L' (cells + rc) (slots + rs) → Go p e below G T' (mkF m pc' Ls (w.toList ++ rest))) : Go p e below G T (mkF m pc Ls st) :=
  W.callS w1 w2 w3 w4 hy hK hd hp hml has hlen hst hW hc hs (ws' := []) (fun v h' L q => ⟨(hq v h' L q).1, by rw [(hq v h' L q).2.2]; exact Keep.refl _ _⟩) all0 (fun v T' h' L L' W' q _ => by
    obtain ⟨-, rfl, rfl⟩ := hq v h' L q
    exact k' T' L' W')
theorem NK.callIP (W : NK p l e R s m args below meth c Z own n0 h0 ws T h locs cells slots) {index : Nat} {y : MethodName} {bytes : ByteArray} {maxL : Nat} (hy1 : y.name = "<init>") (w1 : (Cond.methodLink own index y).before a0 Z = true) (w2 : (Cond.instanceMethod y).before a0 Z = true) (w4 : (Cond.code y bytes maxL none).before a0 Z = true)
    (hy : y.cls ≠ "java/lang/invoke/MethodHandle" ∧ y.cls ≠ "java/lang/invoke/VarHandle") {wd rc rs : Nat} {as' : Array Value} {Q : Option Value → Heap → List Loc → Prop} (hK : BK l R p e below s args y 3 wd as' h rc rs Q) (hd : decode c.code pc = .ok (.invokespecial index, 3)) (hp : pc + 3 = pc') (hml : c.maxLocals = Ls.size) {a : Addr} {argsL : List Value} (has : (Value.ref a :: argsL).toArray = as') (hlen : ∀ sig, parseMethodDescriptor y.desc = some sig → argsL.length = sig.parameters.length) (hst : st = argsL.reverse ++ .ref a :: rest) (hW : (rest.map fun v => v.category).sum ≤ wd) (hc : cells + rc ≤ R.cells) (hs : slots + rs ≤ R.slots)
    {w : Option Value} (hq : ∀ v h' L, Q v h' L → Fr n0 L ∧ Pu w h v h')
    (k' : ∀ (T' : State) (L' : List Loc), NK p l e R s m args below meth c Z own n0 h0 ws T' h L' (cells + rc) (slots + rs) → Go p e below G T' (mkF m pc' Ls (w.toList ++ rest))) : Go p e below G T (mkF m pc Ls st) :=
  W.callI hy1 w1 w2 w4 hy hK hd hp hml has hlen hst hW hc hs (ws' := []) (fun v h' L q => ⟨(hq v h' L q).1, by rw [(hq v h' L q).2.2]; exact Keep.refl _ _⟩) all0 (fun v T' h' L L' W' q _ => by
    obtain ⟨-, rfl, rfl⟩ := hq v h' L q
    exact k' T' L' W')
theorem NK.callVP (W : NK p l e R s m args below meth c Z own n0 h0 ws T h locs cells slots) {index : Nat} {C : String} {y z : MethodName} (w1 : (Cond.methodLink own index y).before a0 Z = true) (w2 : (Cond.declares y).before a0 Z = true) (w3 : (Cond.selects C y z).before a0 Z = true) {C' : String} (w3' : (Cond.selects C' y y).before a0 Z = true) (w4 : (Cond.instanceMethod z).before a0 Z = true)
    (hy : y.cls ≠ "java/lang/invoke/MethodHandle" ∧ y.cls ≠ "java/lang/invoke/VarHandle") {wd rc rs : Nat} {as' : Array Value} {Q : Option Value → Heap → List Loc → Prop} (hK : BK l R p e below s args z 3 wd as' h rc rs Q) {a : Addr} (E : Exa Z h a C) (hd : decode c.code pc = .ok (.invokevirtual index, 3)) (hp : pc + 3 = pc') (hml : c.maxLocals = Ls.size) {argsL : List Value} (has : (Value.ref a :: argsL).toArray = as') (hlen : ∀ sig, parseMethodDescriptor y.desc = some sig → argsL.length = sig.parameters.length) (hst : st = argsL.reverse ++ .ref a :: rest) (hW : (rest.map fun v => v.category).sum ≤ wd) (hc : cells + rc ≤ R.cells) (hs : slots + rs ≤ R.slots)
    {w : Option Value} (hq : ∀ v h' L, Q v h' L → Fr n0 L ∧ Pu w h v h')
    (k' : ∀ (T' : State) (L' : List Loc), NK p l e R s m args below meth c Z own n0 h0 ws T' h L' (cells + rc) (slots + rs) → Go p e below G T' (mkF m pc' Ls (w.toList ++ rest))) : Go p e below G T (mkF m pc Ls st) :=
  W.callV w1 w2 w3 w3' w4 hy hK E hd hp hml has hlen hst hW hc hs (ws' := []) (fun v h' L q => ⟨(hq v h' L q).1, by rw [(hq v h' L q).2.2]; exact Keep.refl _ _⟩) all0 (fun v T' h' L L' W' q _ => by
    obtain ⟨-, rfl, rfl⟩ := hq v h' L q
    exact k' T' L' W')
/-- what a pure contract's payer says -/
theorem pu_of {w : Option Value} {L : List Loc} {v : Option Value} (q : Pu w h v h' ∧ Keep h h' [] ∧ Fr n0 L) : Fr n0 L ∧ Pu w h v h' := ⟨q.2.2, q.1⟩
theorem pu_nil {w : Option Value} {L : List Loc} {v : Option Value} (q : v = w ∧ L = [] ∧ h' = h) : Fr n0 L ∧ Pu w h v h' := ⟨by rw [q.2.1]; exact Fr.nil n0, q.1, q.2.2⟩
end Pure1
section Small1
variable {p : Program} {l : Launch} {e : Env} {R : Room} {s : State} {m : MethodId} {args : Array Value} {below : List Frame} {meth : Method} {c : Code} {Z : State} {own : String} {n0 : Nat} {h0 : Heap} {ws : List Addr} {T : State} {h : Heap} {locs : List Loc} {cells slots : Nat}
theorem NK.n0h (W : NK p l e R s m args below meth c Z own n0 h0 ws T h locs cells slots) : n0 ≤ h.size := Nat.le_trans W.2.2.2.2.2.2.2.1 W.2.2.2.2.2.2.1.1
theorem mem0 {P : Int32 → Prop} : ∀ x ∈ ([] : List Int32), P x := fun _ q => nomatch q
theorem memS {P : Int32 → Prop} {y : Int32} {L : List Int32} (q : P y) (r : ∀ x ∈ L, P x) : ∀ x ∈ y :: L, P x := fun x z => (List.mem_cons.mp z).elim (fun u => u ▸ q) (r x)
variable {G : State → Prop} {a0 : Array Value} {pc pc' : Nat} {Ls : Array Slot} {rest : List Value}
theorem NK.instNull (W : NK p l e R s m args below meth c Z own n0 h0 ws T h locs cells slots) {index : Nat} (hd : decode c.code pc = .ok (.instanceof index, 3)) (hp : pc + 3 = pc') (k' : Go p e below G T (mkF m pc' Ls (.int 0 :: rest))) : Go p e below G T (mkF m pc Ls (.null :: rest)) := by
  subst hp
  exact Go.by1 (fun t q => W.1.instanceofNull W.2.1 (g := mkF m pc Ls (.null :: rest)) rfl rfl hd t q) k'
theorem NK.castNull (W : NK p l e R s m args below meth c Z own n0 h0 ws T h locs cells slots) {index : Nat} (hd : decode c.code pc = .ok (.checkcast index, 3)) (hp : pc + 3 = pc') (k' : Go p e below G T (mkF m pc' Ls (.null :: rest))) : Go p e below G T (mkF m pc Ls (.null :: rest)) := by
  subst hp
  exact Go.by1 (fun t q => W.1.checkcastNull W.2.1 (g := mkF m pc Ls (.null :: rest)) rfl rfl hd t q) k'
theorem NK.castY (W : NK p l e R s m args below meth c Z own n0 h0 ws T h locs cells slots) {K : String} {index : Nat} (w : (Cond.classLink own index K).before a0 Z = true) {a : Addr} (F : Ins Z h a K true) (hd : decode c.code pc = .ok (.checkcast index, 3)) (hp : pc + 3 = pc')
    (k' : ∀ T' : State, NK p l e R s m args below meth c Z own n0 h0 ws T' h locs cells slots → Go p e below G T' (mkF m pc' Ls (.ref a :: rest))) : Go p e below G T (mkF m pc Ls (.ref a :: rest)) := by
  obtain ⟨T', X', e', stp⟩ := RoadKit.castY W.1 W.2.1 W.2.2.2.1 W.2.2.2.2.1 w W.2.2.1 F (g := mkF m pc Ls (.ref a :: rest)) rfl rfl hd
  subst hp
  exact Go.by1 (fun t q => stp t q) (k' T' (W.moved X' e'))
theorem NK.instY (W : NK p l e R s m args below meth c Z own n0 h0 ws T h locs cells slots) {K : String} {index : Nat} (w : (Cond.classLink own index K).before a0 Z = true) {a : Addr} (F : Ins Z h a K true) (hd : decode c.code pc = .ok (.instanceof index, 3)) (hp : pc + 3 = pc')
    (k' : ∀ T' : State, NK p l e R s m args below meth c Z own n0 h0 ws T' h locs cells slots → Go p e below G T' (mkF m pc' Ls (.int 1 :: rest))) : Go p e below G T (mkF m pc Ls (.ref a :: rest)) := by
  obtain ⟨T', X', e', stp⟩ := RoadKit.instY W.1 W.2.1 W.2.2.2.1 W.2.2.2.2.1 w W.2.2.1 F (g := mkF m pc Ls (.ref a :: rest)) rfl rfl hd
  subst hp
  exact Go.by1 (fun t q => stp t q) (k' T' (W.moved X' e'))
end Small1
section Wide1
variable {p : Program} {l : Launch} {e : Env} {R : Room} {s : State} {m : MethodId} {args : Array Value} {below : List Frame} {meth : Method} {c : Code} {Z : State} {EL : List (String × Nat)} {own : String} {n0 : Nat} {h0 : Heap} {ws ws' : List Addr} {T T' : State} {h h' : Heap} {vm : Vm} {locs locs' : List Loc} {cells slots cells' slots' : Nat} {G : State → Prop} {g g' : JFrame} {a0 : Array Value} {pc pc' : Nat} {Ls Ls' : Array Slot} {st rest : List Value}
/-- the wide walk: NK over the start with the tables vm, which may have interned since -/
def WK (EL : List (String × Nat)) (p : Program) (l : Launch) (e : Env) (R : Room) (s : State) (m : MethodId) (args : Array Value) (below : List Frame) (meth : Method) (c : Code) (Z : State) (own : String) (n0 : Nat) (h0 : Heap) (ws : List Addr) (T : State) (h : Heap) (vm : Vm) (locs : List Loc) (cells slots : Nat) : Prop :=
  NK p l e R (s.setVm vm) m args below meth c Z own n0 h0 ws T h locs cells slots ∧ s.Since vm h.size ∧ CHr Z EL s.vm h0 vm h
theorem since_grow {n n' : Nat} (S : s.Since vm n) (q : n ≤ n') : s.Since vm n' := ⟨S.1, fun j p hj hp => ⟨(S.2 j p hj hp).1, Nat.lt_of_lt_of_le (S.2 j p hj hp).2 q⟩⟩
theorem WK.up (W : WK EL p l e R s m args below meth c Z own n0 h0 ws T h vm locs cells slots) (N : NK p l e R (s.setVm vm) m args below meth c Z own n0 h0 ws T' h' locs' cells' slots') (K : Keep h h' ws') (S : ∀ x ∈ ws', Safe Z EL vm h x) : WK EL p l e R s m args below meth c Z own n0 h0 ws T' h' vm locs' cells' slots' :=
  ⟨N, since_grow W.2.1 K.1, W.2.2.trans (CHr.keep K S W.2.2.1)⟩
theorem WK.upE (W : WK EL p l e R s m args below meth c Z own n0 h0 ws T h vm locs cells slots) (N : NK p l e R (s.setVm vm) m args below meth c Z own n0 h0 ws T' h' locs' cells' slots') (E : Ext h h') : WK EL p l e R s m args below meth c Z own n0 h0 ws T' h' vm locs' cells' slots' :=
  ⟨N, since_grow W.2.1 E.1, W.2.2.trans (CHr.ext E W.2.2.1)⟩
theorem WK.same (W : WK EL p l e R s m args below meth c Z own n0 h0 ws T h vm locs cells slots) (N : NK p l e R (s.setVm vm) m args below meth c Z own n0 h0 ws T' h locs' cells' slots') : WK EL p l e R s m args below meth c Z own n0 h0 ws T' h vm locs' cells' slots' := ⟨N, W.2⟩
/-- a fresh cell is no booked one -/
theorem WK.safeNew (W : WK EL p l e R s m args below meth c Z own n0 h0 ws T h vm locs cells slots) {a : Addr} (ha : a = h.size) (E : Ext h h') : Safe Z EL vm h' a := Safe.ext E W.2.2.1 (Safe.new (Nat.le_of_eq ha.symm))
theorem WK.safeE (W : WK EL p l e R s m args below meth c Z own n0 h0 ws T h vm locs cells slots) {a : Addr} (S : Safe Z EL vm h a) (E : Ext h h') : Safe Z EL vm h' a := Safe.ext E W.2.2.1 S
theorem WK.safeK (W : WK EL p l e R s m args below meth c Z own n0 h0 ws T h vm locs cells slots) {a : Addr} (S : Safe Z EL vm h a) (K : Keep h h' ws') (hs : ∀ x ∈ ws', Safe Z EL vm h x) : Safe Z EL vm h' a := Safe.keep K hs W.2.2.1 S
def WM (l : Launch) (y : MethodName) (bytes : ByteArray) (maxL : Nat) (ret : Option FieldType) (xs : List Cond) (R : Room) (Z : State) (EL : List (String × Nat)) (n0 : Nat) (as' : Array Value) (h0 : Heap) (ws : List Addr) (P : Option Value → Heap → Prop) : Prop :=
  MetFree l y (head1 (Cond.code y bytes maxL ret :: xs) R) (fun a U => a = as' ∧ Z.Warmed39 U.vm ∧ U.heap = h0 ∧ CHv Z EL U.vm h0) (fun _ _ _ _ _ => True) (fun _ U o U' => ∃ v L, o = .returned v ∧ (P v U'.heap ∧ Keep h0 U'.heap ws ∧ Fr n0 L) ∧ CHr Z EL U.vm U.heap U'.vm U'.heap ∧ ReturnedEndW U o U' L R.cells R.slots)
def EndW (Z : State) (EL : List (String × Nat)) (n0 : Nat) (R : Room) (s : State) (below : List Frame) (P : Option Value → Heap → Prop) (h0 : Heap) (ws : List Addr) (t : State) : Prop :=
  ∃ o, t.status = .running ∧ Ended t below o ∧ ∃ v L, o = .returned v ∧ (P v t.heap ∧ Keep h0 t.heap ws ∧ Fr n0 L) ∧ CHr Z EL s.vm h0 t.vm t.heap ∧ ReturnedEndW s o t L R.cells R.slots
theorem WM.walk {y : MethodName} {bytes : ByteArray} {maxL : Nat} {ret : Option FieldType} {xs : List Cond} {as' : Array Value} {P : Option Value → Heap → Prop} (hpl : plainFor y = true) (hn : n0 ≤ h0.size) (ef : ∀ m, entryFrame m as' maxL = mkF m 0 Ls [])
    (body : ∀ (p : Program) (e : Env) (s : State) (m : MethodId) (below : List Frame) (meth : Method) (c : Code) (s₁ : State), c.code = bytes → c.maxLocals = maxL → meth.sig.returnType = ret → meth.name = y.name → WK EL p l e R s m as' below meth c Z y.cls n0 h0 ws s₁ h0 s.vm [] 0 0 → Go p e below (EndW Z EL n0 R s below P h0 ws) s₁ (mkF m 0 Ls [])) : WM l y bytes maxL ret xs R Z EL n0 as' h0 ws P := by
  refine MetFree.of_bodySF hpl hisR ?_
  intro p e s m args below meth c s₁ Bd hml0 hP hK
  obtain ⟨rfl, hZ, hh, hC⟩ := hP
  have X0 : Stand p l e R s m args below meth c s₁ [] 0 0 := Stand.of_body Bd
  have e0 : s₁.heap = h0 := by rw [← hh, Bd.state]; rfl
  have N0 : NK p l e R (s.setVm s.vm) m args below meth c Z y.cls n0 h0 ws s₁ h0 [] 0 0 := ⟨X0, Bd.exec, e0, hZ, findClass_of_methodNamed Bd.named, Fr.nil n0, Keep.refl _ _, hn, BodyLoose.notSynchronized Bd⟩
  obtain ⟨t, a, o, r1, r2, v, L, q1, q2, q3, q4⟩ := body p e s m below meth c s₁ Bd.bytes hml0 Bd.returns (name_of_methodNamed Bd.named Bd.method).1 ⟨N0, (State.WarmedH.refl s).since _, CHr.refl hC⟩
  exact ⟨t, o, castTop (ef m) a, r1, r2, v, L, q1, q2, by rw [hh]; exact q3, q4⟩
theorem WK.ends (W : WK EL p l e R s m args below meth c Z own n0 h0 ws T h vm locs cells slots) (hEL : EW Z a0 EL) {P : Option Value → Heap → Prop} {v : Option Value} (hv : meth.sig.returnType = none → v = none) (hc : cells ≤ R.cells) (hs : slots ≤ R.slots) (hP : P v h)
    (stp : ∀ fs, (∀ (f : JFrame) (acts : List Action), f.method = m → f.locked = none → f.entered = [] → (doReturn e (T.setTop f) acts v).1 = T.setFrames fs) → Steps p.tables e below (T.setTop g) (T.setFrames fs)) : Go p e below (EndW Z EL n0 R s below P h0 ws) T g := by
  obtain ⟨⟨X, hx, eT, hZ, hown, N, K, hn0, hlk⟩, S, C⟩ := W
  obtain ⟨fs, hr, hrun, hended, hW, hsame⟩ := X.leave hv hlk
  have e1 : (T.setFrames fs).heap = h := eT
  obtain ⟨q1, q2, q3⟩ := S.ended hW (by rw [e1]; exact Nat.le_refl _) hsame
  refine ⟨_, stp fs hr, _, hrun, hended, _, _, rfl, ?_, ?_, ⟨_, rfl⟩, q1, q2, q3.mono hc hs⟩
  · rw [e1]; exact ⟨hP, K, N⟩
  · rw [e1]
    have A := CHv.at X hZ hEL C.1
    exact C.trans A
theorem WK.ret (W : WK EL p l e R s m args below meth c Z own n0 h0 ws T h vm locs cells slots) (hEL : EW Z a0 EL) {P : Option Value → Heap → Prop} {w : Value} {t : FieldType} {i : Instr} (hret : meth.sig.returnType = some t) (hn : narrow t w = w)
    (hi : (i = .ireturn ∧ (t = .int ∨ t = .boolean ∨ t = .byte ∨ t = .char ∨ t = .short) ∧ ∃ z, w = .int z) ∨ (i = .lreturn ∧ t = .long ∧ ∃ z, w = .long z) ∨ (i = .dreturn ∧ t = .double ∧ ∃ z, w = .double z) ∨ (i = .freturn ∧ t = .float ∧ ∃ z, w = .float z) ∨ (i = .areturn ∧ t.isReference = true ∧ w.isRef = true))
    (hd : decode c.code pc = .ok (i, 1)) (hc : cells ≤ R.cells) (hs : slots ≤ R.slots) (hP : P (some w) h) : Go p e below (EndW Z EL n0 R s below P h0 ws) T (mkF m pc Ls (w :: rest)) :=
  W.ends hEL (fun h => by rw [hret] at h; cases h) hc hs hP (fun fs hr => retOut W.1.1 W.1.2.1 hret hn hi hd hr)
theorem WK.retI (W : WK EL p l e R s m args below meth c Z own n0 h0 ws T h vm locs cells slots) (hEL : EW Z a0 EL) {P : Option Value → Heap → Prop} {z : Int32} (hret : meth.sig.returnType = some .int) (hd : decode c.code pc = .ok (.ireturn, 1)) (hc : cells ≤ R.cells) (hs : slots ≤ R.slots) (hP : P (some (.int z)) h) : Go p e below (EndW Z EL n0 R s below P h0 ws) T (mkF m pc Ls (.int z :: rest)) :=
  W.ret hEL hret rfl (Or.inl ⟨rfl, Or.inl rfl, _, rfl⟩) hd hc hs hP
theorem WK.retZ (W : WK EL p l e R s m args below meth c Z own n0 h0 ws T h vm locs cells slots) (hEL : EW Z a0 EL) {P : Option Value → Heap → Prop} {z : Int32} (hret : meth.sig.returnType = some .boolean) (hd : decode c.code pc = .ok (.ireturn, 1)) (hz : z = 0 ∨ z = 1) (hc : cells ≤ R.cells) (hs : slots ≤ R.slots) (hP : P (some (.int z)) h) : Go p e below (EndW Z EL n0 R s below P h0 ws) T (mkF m pc Ls (.int z :: rest)) :=
  W.ret hEL hret (by rcases hz with rfl | rfl <;> rfl) (Or.inl ⟨rfl, Or.inr (Or.inl rfl), _, rfl⟩) hd hc hs hP
theorem WK.retC (W : WK EL p l e R s m args below meth c Z own n0 h0 ws T h vm locs cells slots) (hEL : EW Z a0 EL) {P : Option Value → Heap → Prop} {z : Int32} (hret : meth.sig.returnType = some .char) (hd : decode c.code pc = .ok (.ireturn, 1)) (hz : narrow .char (.int z) = .int z) (hc : cells ≤ R.cells) (hs : slots ≤ R.slots) (hP : P (some (.int z)) h) : Go p e below (EndW Z EL n0 R s below P h0 ws) T (mkF m pc Ls (.int z :: rest)) :=
  W.ret hEL hret hz (Or.inl ⟨rfl, Or.inr (Or.inr (Or.inr (Or.inl rfl))), _, rfl⟩) hd hc hs hP
theorem WK.retJ (W : WK EL p l e R s m args below meth c Z own n0 h0 ws T h vm locs cells slots) (hEL : EW Z a0 EL) {P : Option Value → Heap → Prop} {z : Int64} (hret : meth.sig.returnType = some .long) (hd : decode c.code pc = .ok (.lreturn, 1)) (hc : cells ≤ R.cells) (hs : slots ≤ R.slots) (hP : P (some (.long z)) h) : Go p e below (EndW Z EL n0 R s below P h0 ws) T (mkF m pc Ls (.long z :: rest)) :=
  W.ret hEL hret rfl (Or.inr (Or.inl ⟨rfl, rfl, _, rfl⟩)) hd hc hs hP
theorem WK.retA (W : WK EL p l e R s m args below meth c Z own n0 h0 ws T h vm locs cells slots) (hEL : EW Z a0 EL) {P : Option Value → Heap → Prop} {w : Value} {t : FieldType} (hret : meth.sig.returnType = some t) (ht : t.isReference = true) (hw : w.isRef = true) (hd : decode c.code pc = .ok (.areturn, 1)) (hc : cells ≤ R.cells) (hs : slots ≤ R.slots) (hP : P (some w) h) : Go p e below (EndW Z EL n0 R s below P h0 ws) T (mkF m pc Ls (w :: rest)) :=
  W.ret hEL hret (by cases t <;> cases w <;> first | rfl | (simp [FieldType.isReference, Value.isRef] at ht hw)) (Or.inr (Or.inr (Or.inr (Or.inr ⟨rfl, ht, hw⟩)))) hd hc hs hP
theorem WK.retV (W : WK EL p l e R s m args below meth c Z own n0 h0 ws T h vm locs cells slots) (hEL : EW Z a0 EL) {P : Option Value → Heap → Prop} (hret : meth.sig.returnType = none) (hd : decode c.code pc = .ok (.return_, 1)) (hc : cells ≤ R.cells) (hs : slots ≤ R.slots) (hP : P none h) : Go p e below (EndW Z EL n0 R s below P h0 ws) T (mkF m pc Ls []) :=
  W.ends hEL (fun _ => rfl) hc hs hP (fun fs hr => W.1.1.returnOut W.1.2.1 hret hd hr)
/-- a wide payer -/
abbrev BKS (EL : List (String × Nat)) (l : Launch) (R : Room) (p : Program) (e : Env) (below : List Frame) (s : State) (args : Array Value) (Z : State) (vm : Vm) (y : MethodName) (len wd : Nat) (as' : Array Value) (h : Heap) (rc rs : Nat) (Q : Option Value → Heap → List Loc → Prop) : Prop :=
  BackS l R p e below (s.setVm vm) args y len wd (fun A a => a = as' ∧ A.U.heap = h ∧ A.cells + rc ≤ R.cells ∧ A.slots + rs ≤ R.slots) (fun A _ v B => ∃ L, Q v B.U.heap L ∧ B.locs = A.locs ++ L ∧ B.cells = A.cells + rc ∧ B.slots = A.slots + rs ∧ CHr Z EL vm h B.U.vm B.U.heap)
theorem WM.bk {y : MethodName} {bytes : ByteArray} {maxL : Nat} {ret : Option FieldType} {rm : Room} {as' : Array Value} {P : Option Value → Heap → Prop} {len wd : Nat} (hM : WM l y bytes maxL ret [] rm Z EL n0 as' h ws' P) (hZ : Z.Warmed39 vm) (wc : (Cond.code y bytes maxL ret).before a0 Z = true) (wz : (Cond.initialized y.cls).before a0 Z = true) (hf : rm.frames + 1 ≤ R.frames) (hl : wd + (maxL + 11) + rm.locals ≤ R.locals) (hEL : EW Z a0 EL) (H : CHv Z EL vm h) :
    BKS EL l R p e below s args Z vm y len wd as' h rm.cells rm.slots (fun v h' L => P v h' ∧ Keep h h' ws' ∧ Fr n0 L) := backOfSH (Q := fun v h' L => P v h' ∧ Keep h h' ws' ∧ Fr n0 L) hM hZ wc wz hf hl hEL H
theorem WK.called (W : WK EL p l e R s m args below meth c Z own n0 h0 ws T h vm locs cells slots) {L : List Loc} {T' : State} {c2 s2 : Nat} (X' : Stand p l e R ((s.setVm vm).setVm T'.vm) m args below meth c T' (locs ++ L) c2 s2) (S' : (s.setVm vm).Since T'.vm T'.heap.size) (gr : h.size ≤ T'.heap.size) (C' : CHr Z EL vm h T'.vm T'.heap) (N : Fr n0 L) (K : Keep h T'.heap ws') (hws : ∀ x ∈ ws', x ∈ ws ∨ h0.size ≤ x) :
    WK EL p l e R s m args below meth c Z own n0 h0 ws T' T'.heap T'.vm (locs ++ L) c2 s2 := by
  obtain ⟨⟨X, hx, eT, hZ, hown, N0, K0, hn0, hlk⟩, S, C⟩ := W
  have hZ' : Z.Warmed39 T'.vm := State.Warmed39.trans (t := s.setVm vm) hZ S'.1
  have ho : T'.vm.findClass own = some m.cls := by rw [S'.1.alike.findClass]; exact hown
  exact ⟨⟨X', hx, rfl, hZ', ho, Fr.app N0 N, K0.trans K hws, hn0, hlk⟩, S.trans S' gr, C.trans C'⟩
theorem WK.callS (W : WK EL p l e R s m args below meth c Z own n0 h0 ws T h vm locs cells slots) {index : Nat} {y : MethodName} {bytes : ByteArray} {maxL : Nat} {ret : Option FieldType} (w1 : (Cond.methodLink own index y).before a0 Z = true) (w2 : (Cond.static y).before a0 Z = true) (w3 : (Cond.initialized y.cls).before a0 Z = true) (w4 : (Cond.code y bytes maxL ret).before a0 Z = true)
    (hy : y.cls ≠ "java/lang/invoke/MethodHandle" ∧ y.cls ≠ "java/lang/invoke/VarHandle") {wd rc rs : Nat} {as' : Array Value} {Q : Option Value → Heap → List Loc → Prop} (hK : BKS EL l R p e below s args Z vm y 3 wd as' h rc rs Q) (hd : decode c.code pc = .ok (.invokestatic index, 3)) (hp : pc + 3 = pc') (hml : c.maxLocals = Ls.size) {argsL : List Value} (has : argsL.toArray = as') (hlen : ∀ sig, parseMethodDescriptor y.desc = some sig → argsL.length = sig.parameters.length) (hst : st = argsL.reverse ++ rest) (hW : (rest.map fun v => v.category).sum ≤ wd) (hc : cells + rc ≤ R.cells) (hs : slots + rs ≤ R.slots)
    (hq : ∀ v h' L, Q v h' L → Fr n0 L ∧ Keep h h' ws') (hws : ∀ x ∈ ws', x ∈ ws ∨ h0.size ≤ x)
    (k' : ∀ (v : Option Value) (T' : State) (h' : Heap) (vm' : Vm) (L L' : List Loc), WK EL p l e R s m args below meth c Z own n0 h0 ws T' h' vm' L' (cells + rc) (slots + rs) → Q v h' L → Keep h h' ws' → CHr Z EL vm h vm' h' → Go p e below G T' (mkF m pc' Ls (v.toList ++ rest))) : Go p e below G T (mkF m pc Ls st) := by
  subst hst has hp
  obtain ⟨v, vm1, ⟨T', L1, k1, n1⟩, -, X', S', gr, ⟨L, hQ, e1, e2, e3, C'⟩, stp⟩ := callSS W.1.1 W.1.2.1 W.1.2.2.2.2.1 (mvT W.1.2.2.2.1 w1) (mvT W.1.2.2.2.1 w2) (mvT W.1.2.2.2.1 w3) (mvT W.1.2.2.2.1 w4) hy hK (g := mkF m pc Ls (argsL.reverse ++ rest)) rfl hml.symm (argsL := argsL) (rest := rest) hlen rfl (by show 2 * 0 + _ ≤ _; omega) hd (fun _ _ => ⟨rfl, W.1.2.2.1, hc, hs⟩)
  dsimp only [Pt.U, Pt.locs, Pt.cells, Pt.slots] at X' hQ e1 e2 e3 stp S' gr C'
  subst e1 e2 e3
  obtain ⟨N, K⟩ := hq _ _ _ hQ
  exact Go.tr stp (k' v T' _ _ L _ (W.called X' S' K.1 C' N K hws) hQ K C')
theorem WK.callI (W : WK EL p l e R s m args below meth c Z own n0 h0 ws T h vm locs cells slots) {index : Nat} {y : MethodName} {bytes : ByteArray} {maxL : Nat} (hy1 : y.name = "<init>") (w1 : (Cond.methodLink own index y).before a0 Z = true) (w2 : (Cond.instanceMethod y).before a0 Z = true) (w4 : (Cond.code y bytes maxL none).before a0 Z = true)
    (hy : y.cls ≠ "java/lang/invoke/MethodHandle" ∧ y.cls ≠ "java/lang/invoke/VarHandle") {wd rc rs : Nat} {as' : Array Value} {Q : Option Value → Heap → List Loc → Prop} (hK : BKS EL l R p e below s args Z vm y 3 wd as' h rc rs Q) (hd : decode c.code pc = .ok (.invokespecial index, 3)) (hp : pc + 3 = pc') (hml : c.maxLocals = Ls.size) {a : Addr} {argsL : List Value} (has : (Value.ref a :: argsL).toArray = as') (hlen : ∀ sig, parseMethodDescriptor y.desc = some sig → argsL.length = sig.parameters.length) (hst : st = argsL.reverse ++ .ref a :: rest) (hW : (rest.map fun v => v.category).sum ≤ wd) (hc : cells + rc ≤ R.cells) (hs : slots + rs ≤ R.slots)
    (hq : ∀ v h' L, Q v h' L → Fr n0 L ∧ Keep h h' ws') (hws : ∀ x ∈ ws', x ∈ ws ∨ h0.size ≤ x)
    (k' : ∀ (v : Option Value) (T' : State) (h' : Heap) (vm' : Vm) (L L' : List Loc), WK EL p l e R s m args below meth c Z own n0 h0 ws T' h' vm' L' (cells + rc) (slots + rs) → Q v h' L → Keep h h' ws' → CHr Z EL vm h vm' h' → Go p e below G T' (mkF m pc' Ls (v.toList ++ rest))) : Go p e below G T (mkF m pc Ls st) := by
  subst hst has hp
  obtain ⟨v, vm1, ⟨T', L1, k1, n1⟩, -, X', S', gr, ⟨L, hQ, e1, e2, e3, C'⟩, stp⟩ := W.1.1.specialBackS W.1.2.1 hy1 W.1.2.2.2.2.1 (mvT W.1.2.2.2.1 w1) (mvT W.1.2.2.2.1 w2) (mvT W.1.2.2.2.1 w4) hy hK (g := mkF m pc Ls (argsL.reverse ++ .ref a :: rest)) rfl hml.symm (Steps.refl _) (a := a) (argsL := argsL) (rest := rest) hlen rfl (by show 2 * 0 + _ ≤ _; omega) hd (fun _ _ => ⟨rfl, W.1.2.2.1, hc, hs⟩)
  dsimp only [Pt.U, Pt.locs, Pt.cells, Pt.slots] at X' hQ e1 e2 e3 stp S' gr C'
  subst e1 e2 e3
  obtain ⟨N, K⟩ := hq _ _ _ hQ
  exact Go.tr stp (k' v T' _ _ L _ (W.called X' S' K.1 C' N K hws) hQ K C')
theorem WK.callV (W : WK EL p l e R s m args below meth c Z own n0 h0 ws T h vm locs cells slots) {index : Nat} {C : String} {y z : MethodName} (w1 : (Cond.methodLink own index y).before a0 Z = true) (w2 : (Cond.declares y).before a0 Z = true) (w3 : (Cond.selects C y z).before a0 Z = true) {C' : String} (w3' : (Cond.selects C' y y).before a0 Z = true) (w4 : (Cond.instanceMethod z).before a0 Z = true)
    (hy : y.cls ≠ "java/lang/invoke/MethodHandle" ∧ y.cls ≠ "java/lang/invoke/VarHandle") {wd rc rs : Nat} {as' : Array Value} {Q : Option Value → Heap → List Loc → Prop} (hK : BKS EL l R p e below s args Z vm z 3 wd as' h rc rs Q) {a : Addr} (E : Exa Z h a C) (hd : decode c.code pc = .ok (.invokevirtual index, 3)) (hp : pc + 3 = pc') (hml : c.maxLocals = Ls.size) {argsL : List Value} (has : (Value.ref a :: argsL).toArray = as') (hlen : ∀ sig, parseMethodDescriptor y.desc = some sig → argsL.length = sig.parameters.length) (hst : st = argsL.reverse ++ .ref a :: rest) (hW : (rest.map fun v => v.category).sum ≤ wd) (hc : cells + rc ≤ R.cells) (hs : slots + rs ≤ R.slots)
    (hq : ∀ v h' L, Q v h' L → Fr n0 L ∧ Keep h h' ws') (hws : ∀ x ∈ ws', x ∈ ws ∨ h0.size ≤ x)
    (k' : ∀ (v : Option Value) (T' : State) (h' : Heap) (vm' : Vm) (L L' : List Loc), WK EL p l e R s m args below meth c Z own n0 h0 ws T' h' vm' L' (cells + rc) (slots + rs) → Q v h' L → Keep h h' ws' → CHr Z EL vm h vm' h' → Go p e below G T' (mkF m pc' Ls (v.toList ++ rest))) : Go p e below G T (mkF m pc Ls st) := by
  subst hst has hp
  obtain ⟨cq, kq, qa, qb, qc⟩ := isOf W.1.2.2.2.1 W.1.2.2.1 E
  obtain ⟨v, vm1, ⟨T', L1, k1, n1⟩, -, X', S', gr, ⟨L, hQ, e1, e2, e3, C'⟩, stp⟩ := W.1.1.virtualBackS W.1.2.1 (y := y) (z := z) W.1.2.2.2.2.1 (mvT W.1.2.2.2.1 w1) (mvT W.1.2.2.2.1 w2) (notFace_of_selects (args := #[]) (mvT W.1.2.2.2.1 w3')) (mvT W.1.2.2.2.1 w3) (mvT W.1.2.2.2.1 w4) hy hK qa qc (g := mkF m pc Ls (argsL.reverse ++ .ref a :: rest)) rfl hml.symm (Steps.refl _) (argsL := argsL) (rest := rest) hlen rfl (by show 2 * 0 + _ ≤ _; omega) hd (fun _ _ => ⟨rfl, W.1.2.2.1, hc, hs⟩)
  dsimp only [Pt.U, Pt.locs, Pt.cells, Pt.slots] at X' hQ e1 e2 e3 stp S' gr C'
  subst e1 e2 e3
  obtain ⟨N, K⟩ := hq _ _ _ hQ
  exact Go.tr stp (k' v T' _ _ L _ (W.called X' S' K.1 C' N K hws) hQ K C')
/-- a String whose value is null is no booked one -/
theorem safe_null {x : Addr} (hal : Z.vm.Alike vm) (E : Exa Z h x "java/lang/String") (F : Fld Z h x "java/lang/String" "value" "[B" .null) : Safe Z EL vm h x := fun B => by
  obtain ⟨q0, -, u, a, -, q, -, S, rfl | rfl⟩ := B
  · obtain ⟨cell, cf, k, i, f, f1, f2, -, -, -, -, f7⟩ := F
    cases (show h[q.sa]? = some q.sC from S.ha).symm.trans f1
    obtain ⟨cS, ⟨⟨-, -, -, ⟨c1, k1, i1, g1, -⟩, -, -, -, v1, -⟩, -⟩, -⟩ := S
    obtain ⟨k3, e3⟩ := ff_back (U := Wst Z vm h) hal g1
    cases f2.symm.trans e3
    rw [f7] at v1; cases v1
  · obtain ⟨cell, k, e1, e2, e3, -, -⟩ := E
    cases (show h[q.sd]? = some q.SA from S.hd).symm.trans e1
    obtain ⟨cS, -, -, f, -⟩ := S
    have f' : vm.findClass "[B" = some q.SA.cls := f
    rw [hal.findClass] at f'
    obtain ⟨k1, q1, q2⟩ := Vm.findClass_spec f'
    obtain ⟨k2, q3, q4⟩ := Vm.findClass_spec e2
    cases q1.symm.trans q3
    exact absurd (q2.symm.trans q4) (by decide)
/-- ldc of a String constant of EL -/
theorem WK.ldcS (W : WK EL p l e R s m args below meth c Z own n0 h0 ws T h vm locs cells slots) (hEL : EW Z a0 EL) {text : String} {index : Nat} (w : (Cond.stringLink own index text).before a0 Z = true) (wS : ∀ a ∈ Bundle.stringAtoms, a.before a0 Z = true) (hmem : (own, index) ∈ EL) {vs : List Value} {z : Int32} (ht : (∀ c ∈ text.toList, c.toNat < 256) ∧ text.toList.map (fun c => Value.int (Jvm.Lit.byteI c.toNat.toUInt16)) = vs) (hz : ¬ z < 0) (hl : z.toNatClampNeg = vs.length)
    (hd : decode c.code pc = .ok (.ldc index, 2)) (hp : pc + 2 = pc') {n : Nat} (hn : 4 * text.toList.length ≤ n) (hbig : n ≤ 536870912) (hc : cells + 2 ≤ R.cells) (hs : slots + (n + 4) ≤ R.slots)
    (k' : ∀ (T' : State) (h' : Heap) (vm' : Vm) (a b : Addr) (kb : ClassId), WK EL p l e R s m args below meth c Z own n0 h0 ws T' h' vm' locs (cells + 2) (slots + (n + 4)) → Ext h h' → CHr Z EL vm h vm' h' → Exa Z h' a "java/lang/String" → Fld Z h' a "java/lang/String" "coder" "B" (.int 0) → Fld Z h' a "java/lang/String" "value" "[B" (.ref b) → Arv Z h' b kb .byte z vs (.int 0) → (∀ x, Safe Z EL vm' h' x → x ≠ a ∧ x ≠ b) → Go p e below G T' (mkF m pc' Ls (.ref a :: st))) : Go p e below G T (mkF m pc Ls st) := by
  obtain ⟨⟨X, hx, eT, hZ, hown, N0, K0, hn0, hlk⟩, S, C⟩ := W
  obtain ⟨a, T', h', k1, b, kb, X', e', E, S', hk, hZ', ho, F1, F2, F3, F4, -, -, C', -, hne, stp⟩ := ldcCH X hx hZ hown w wS eT S (Nat.le_refl _) hEL hmem C.1 ht hz hl (g := mkF m pc Ls st) rfl hd hn hbig hc hs
  subst hp
  exact Go.by1 (fun t q => stp t q) (k' T' h' T'.vm a b kb ⟨⟨X', hx, e', hZ', ho, N0, K0.ext E, hn0, hlk⟩, since_grow S' hk, C.trans C'⟩ E C' F1 F2 F3 F4 hne)
end Wide1
section Str1
variable {p : Program} {l : Launch} {e : Env} {R : Room} {s : State} {args : Array Value} {below : List Frame} {Z : State} {h h' : Heap} {a : Addr} {cs : List Int32} {a0 : Array Value} {len wd : Nat}
/-- the object at a is a String whose chars are cs -/
def StrA (Z : State) (h : Heap) (a : Addr) (cs : List Int32) : Prop := Exa Z h a "java/lang/String" ∧ (∀ c ∈ cs, ¬ c < 0 ∧ ¬ (65535 : Int32) < c) ∧ cs.length ≤ 4000 ∧ ∃ (t : Addr) (kb : ClassId) (cd N2 : Int32) (vs : List Value), Fld Z h a "java/lang/String" "value" "[B" (.ref t) ∧ Fld Z h a "java/lang/String" "coder" "B" (.int cd) ∧ Arv Z h t kb .byte N2 vs (.int 0) ∧ StrChars.Road.CodA cs cd N2 vs
theorem StrA.ext (F : StrA Z h a cs) (E : Ext h h') : StrA Z h' a cs := by
  obtain ⟨f, b, n, t, kb, cd, N2, vs, v, c, k, q⟩ := F
  exact ⟨f.ext E, b, n, t, kb, cd, N2, vs, v.ext E, c.ext E, k.ext E, q⟩
theorem lat_up {c : Int32} (q : ¬ c < 0 ∧ ¬ (255 : Int32) < c) : ¬ c < 0 ∧ ¬ (65535 : Int32) < c := ⟨q.1, fun z => q.2 (Int32.lt_trans (by decide) z)⟩
theorem StrA.make {t : Addr} {kb : ClassId} {N : Int32} (A : Exa Z h a "java/lang/String") (B : Fld Z h a "java/lang/String" "coder" "B" (.int 0)) (V : Fld Z h a "java/lang/String" "value" "[B" (.ref t)) (K : Arv Z h t kb .byte N ((cs.map (fun c => c.toInt8.toInt32)).map Value.int) (.int 0)) (hN : N = Int32.ofNat cs.length) (hl : cs.length ≤ 4000) (hp : ∀ c ∈ cs, ¬ c < 0 ∧ ¬ (255 : Int32) < c) : StrA Z h a cs :=
  ⟨A, fun c hc => lat_up (hp c hc), hl, t, kb, 0, N, _, V, B, K, by rw [hN]; exact StrChars.Road.codOf rfl (fun c hc => (hp c hc).2)⟩
theorem StrA.keepExa {x : Addr} {C : String} {k : Nat} (F : StrA Z h a cs) (K : Keep h h' [x]) (X : Exa Z h x C) (hC : C ≠ "java/lang/String") (wi : (Jvm.Cond.instantiable C k).before a0 Z = true) : StrA Z h' a cs := by
  obtain ⟨f, b, n, t, kb, cd, N2, vs, v, c, q, r⟩ := F
  have n1 : a ≠ x := ne_exa f X (fun z => hC z.symm)
  have n2 : t ≠ x := fun z => Exa.neArv X q wi z.symm
  exact ⟨f.keep K, b, n, t, kb, cd, N2, vs, v.keep K (ninS n1 nin0), c.keep K (ninS n1 nin0), q.keep K (ninS n2 nin0), r⟩
theorem Sta.keepExa {x : Addr} {C O n d : String} {v : Value} (F : Sta Z h O n d v) (K : Keep h h' [x]) (X : Exa Z h x C) : Sta Z h' O n d v := by
  obtain ⟨cf, i, k, f, st, cell, h1, h2, h3, h4, h5, h6, h7⟩ := F
  obtain ⟨cx, kx, x1, -, -, x4, -⟩ := X
  have ne : st ≠ x := fun z => by
    subst z
    cases h5.symm.trans x1
    rw [h6] at x4; cases x4
  exact ⟨cf, i, k, f, st, cell, h1, h2, h3, h4, K.2.1 _ _ h5 (ninS ne nin0), h6, h7⟩
end Str1
section Str1b
theorem Sta.keepArv {Z : State} {h h' : Heap} {x : Addr} {O n d : String} {v : Value} {k : ClassId} {ty : FieldType} {z : Int32} {vs : List Value} {dv : Value} (F : Sta Z h O n d v) (K : Keep h h' [x]) (X : Arv Z h x k ty z vs dv) : Sta Z h' O n d v := by
  obtain ⟨cf, i, kk, f, st, cell, h1, h2, h3, h4, h5, h6, h7⟩ := F
  have ne : st ≠ x := fun q => by
    subst q
    have := X.nostat cell h5
    rw [h6] at this; cases this
  exact ⟨cf, i, kk, f, st, cell, h1, h2, h3, h4, K.2.1 _ _ h5 (ninS ne nin0), h6, h7⟩
end Str1b
section Utf1
open StrChars StrChars.Road
theorem clN {n : Nat} (h : n < 2 ^ 31) : (Int32.ofNat n).toNatClampNeg = n := by
  rw [Int32.toNatClampNeg, ofNat_toInt h]; rfl
theorem ofNat_nn {n : Nat} (h : n < 2 ^ 31) : ¬ Int32.ofNat n < 0 := by
  rw [Int32.lt_iff_toInt_lt, ofNat_toInt h]
  show ¬ (n : Int) < 0
  omega
theorem shl1 (n : Nat) : Int32.ofNat n <<< ((1 : Int32) &&& 31) = Int32.ofNat (2 * n) := by
  apply Int32.toBitVec_inj.mp
  apply BitVec.eq_of_toNat_eq
  show (BitVec.ofNat 32 n <<< (1#32)).toNat = (BitVec.ofNat 32 (2 * n)).toNat
  simp only [BitVec.shiftLeft_eq', BitVec.toNat_shiftLeft, BitVec.toNat_ofNat, Nat.shiftLeft_eq, show 2 ^ (1 % 2 ^ 32) = 2 from rfl]
  omega
theorem getD_rep (n i : Nat) (v : Value) : (List.replicate n v).getD i v = v := by
  rw [List.getD_eq_getElem?_getD, List.getElem?_replicate]; split <;> rfl
theorem b8 (x : Int32) : x.toInt8.toInt32.toInt8.toInt32 = x.toInt8.toInt32 := by rw [Int8.toInt8_toInt32]
/-- the bytes of cs laid one char after the other -/
def fw (cs : List Int32) : Nat → Nat → List Value → List Value
  | _, 0, vs => vs
  | i, k + 1, vs => fw cs (i + 1) k ((vs.set (2 * i) (.int (lo8 (cs.getD i 0)))).set (2 * i + 1) (.int (hi8 (cs.getD i 0))))
theorem wide_len : ∀ cs : List Int32, (wideBytes cs).length = 2 * cs.length
  | [] => rfl
  | c :: cs => by simp only [wideBytes, List.length_cons, wide_len cs]; omega
theorem wide_app : ∀ (cs ds : List Int32), wideBytes (cs ++ ds) = wideBytes cs ++ wideBytes ds
  | [], ds => rfl
  | c :: cs, ds => by simp only [List.cons_append, wideBytes, wide_app cs ds]
theorem fw_go (z : Value) : ∀ (r pre : List Int32), fw (pre ++ r) pre.length r.length (wideBytes pre ++ List.replicate (2 * r.length) z) = wideBytes (pre ++ r)
  | [], pre => by simp [fw]
  | c :: r, pre => by
    have e1 : (pre ++ c :: r).getD pre.length 0 = c := by simp [List.getD_eq_getElem?_getD]
    have e2 : List.replicate (2 * (c :: r).length) z = z :: z :: List.replicate (2 * r.length) z := by
      rw [List.length_cons, show 2 * (r.length + 1) = 2 * r.length + 1 + 1 from by omega]; rfl
    have e3 : ∀ (A B : List Value) (x y u v : Value), ((A ++ u :: v :: B).set A.length x).set (A.length + 1) y = A ++ x :: y :: B := by
      intro A B x y u v
      rw [List.set_append_right _ _ (Nat.le_refl _), List.set_append_right _ _ (by omega), Nat.sub_self, Nat.add_sub_cancel_left]; rfl
    have ih := fw_go z r (pre ++ [c])
    rw [List.length_append, List.append_assoc] at ih
    show fw (pre ++ c :: r) pre.length (r.length + 1) _ = _
    rw [fw, e1, e2, ← wide_len pre, e3]
    have e4 : wideBytes (pre ++ [c]) ++ List.replicate (2 * r.length) z = wideBytes pre ++ .int (lo8 c) :: .int (hi8 c) :: List.replicate (2 * r.length) z := by
      rw [wide_app, List.append_assoc]; rfl
    rw [e4] at ih
    exact ih
theorem fw_all (z : Value) (cs : List Int32) : fw cs 0 cs.length (List.replicate (2 * cs.length) z) = wideBytes cs := by
  have := fw_go z cs []
  simpa [wideBytes] using this
theorem set2_len (vs : List Value) (a b : Nat) (x y : Value) : ((vs.set a x).set b y).length = vs.length := by simp
theorem codL {n : Nat} (h0 : 0 < n) (h : n ≤ 4000) : (XT.ushr (Int32.ofNat n - Int32.ofNat (2 * n)) (31 : Int32)).toInt8.toInt32 = 1 := by
  have e : XT.ushr (Int32.ofNat n - Int32.ofNat (2 * n)) (31 : Int32) = 1 := by
    apply Int32.toBitVec_inj.mp
    apply BitVec.eq_of_toNat_eq
    show ((BitVec.ofNat 32 n - BitVec.ofNat 32 (2 * n)) >>> (31#32)).toNat = (1#32).toNat
    simp only [BitVec.ushiftRight_eq', BitVec.toNat_ushiftRight, BitVec.toNat_sub, BitVec.toNat_ofNat, Nat.shiftRight_eq_div_pow, show 2 ^ (31 % 2 ^ 32) = 2147483648 from rfl]
    omega
  rw [e]; rfl
theorem big_mem {cs : List Int32} (h : ∃ j, j < cs.length ∧ (255 : Int32) < cs.getD j 0) : ∃ c ∈ cs, (255 : Int32) < c := by
  obtain ⟨j, j1, j2⟩ := h
  rw [List.getD_eq_getElem?_getD, List.getElem?_eq_getElem j1] at j2
  exact ⟨cs[j], List.getElem_mem j1, j2⟩
end Utf1
section Ref1
variable {p : Program} {l : Launch} {e : Env} {R : Room} {s : State} {m : MethodId} {args : Array Value} {below : List Frame} {meth : Method} {c : Code} {Z : State} {EL : List (String × Nat)} {own : String} {n0 : Nat} {h0 : Heap} {ws : List Addr} {T : State} {h : Heap} {vm : Vm} {locs : List Loc} {cells slots cells' slots' : Nat} {G : State → Prop} {a0 : Array Value} {pc pc' : Nat} {Ls : Array Slot} {rest : List Value}
theorem NK.aaload (W : NK p l e R s m args below meth c Z own n0 h0 ws T h locs cells slots) {a : Addr} {ka : ClassId} {ty : FieldType} {z : Int32} {vs : List Value} {dv : Value} (A : Arv Z h a ka ty z vs dv) (hty : ty.isReference = true) {j : Int32} (v : Value) (hd : decode c.code pc = .ok (.aaload, 1)) (hp : pc + 1 = pc') (hb : ¬ j < 0 ∧ j < z) (hv : vs.getD j.toNatClampNeg dv = v)
    (k' : Go p e below G T (mkF m pc' Ls (v :: rest))) : Go p e below G T (mkF m pc Ls (.int j :: .ref a :: rest)) := by
  obtain ⟨cl, A1, q1, S1, M1, H1, U1⟩ := id A
  subst hp
  exact Go.by1 (fun t q => W.1.aaload W.2.1 (by rw [W.2.2.1]; exact A1.1) (State.isArrayOf_alike W.2.2.2.1.alike A1.2.1) hty A1.2.2 (inb_of S1 hb) (H1.at (inb_of S1 hb) hv) (g := mkF m pc Ls (.int j :: .ref a :: rest)) rfl rfl hd t q) k'
theorem NK.cloneA (W : NK p l e R s m args below meth c Z own n0 h0 ws T h locs cells slots) {ad : String} {index : Nat}
    (w1 : (Cond.methodLink own index ⟨ad, "clone", "()Ljava/lang/Object;"⟩).before a0 Z = true) (w2 : (Cond.sameMethod ad "java/lang/Object" "clone" "()Ljava/lang/Object;").before a0 Z = true) (w3 : (Cond.native ⟨"java/lang/Object", "clone", "()Ljava/lang/Object;"⟩).before a0 Z = true)
    (w4 : (Cond.instanceMethod ⟨"java/lang/Object", "clone", "()Ljava/lang/Object;"⟩).before a0 Z = true) (w5 : (Cond.selects ad ⟨ad, "clone", "()Ljava/lang/Object;"⟩ ⟨"java/lang/Object", "clone", "()Ljava/lang/Object;"⟩).before a0 Z = true) (w6 : (Cond.castable ad "java/lang/Cloneable").before a0 Z = true)
    {a : Addr} {ka : ClassId} {ty : FieldType} {z : Int32} {vs : List Value} {dv : Value} (A : Arv Z h a ka ty z vs dv) (E : Exa Z h a ad) (hd : decode c.code pc = .ok (.invokevirtual index, 3)) (hp : pc + 3 = pc') (hml : c.maxLocals = Ls.size) (hf : 1 ≤ R.frames) {wd cap : Nat} (hW : (rest.map fun v => v.category).sum ≤ wd) (hlo : wd + 14 ≤ R.locals) (hcap : z.toNatClampNeg ≤ cap) (hc : cells + 1 ≤ R.cells) (hsl : slots + cap ≤ R.slots)
    (k' : ∀ (T' : State) (h' : Heap) (b : Addr), b = h.size → h0.size ≤ b → n0 ≤ b → NK p l e R s m args below meth c Z own n0 h0 ws T' h' locs (cells + 1) (slots + cap) → Ext h h' → Arv Z h' b ka ty z vs dv → Exa Z h' b ad → Go p e below G T' (mkF m pc' Ls (.ref b :: rest))) : Go p e below G T (mkF m pc Ls (.ref a :: rest)) := by
  obtain ⟨X, hx, eT, hZ, hown, N, K, hn0, hlk⟩ := W
  obtain ⟨T', h', X', e', E', F, E2, stp⟩ := RoadKit.cloneH X hx hZ hown w1 w2 w3 w4 w5 w6 eT (Arv.arh A) E (g := mkF m pc Ls (.ref a :: rest)) rfl hml.symm rfl hd hf (W := wd) (cap := cap) (by show 2 * 0 + _ ≤ _; omega) hlo hcap hc hsl
  subst hp
  exact Go.by1 (fun t q => stp t q) (k' T' h' _ rfl K.1 (Nat.le_trans hn0 K.1) ⟨X', hx, e', hZ, hown, N, K.ext E', hn0, hlk⟩ E' F E2)
theorem WK.mono (W : WK EL p l e R s m args below meth c Z own n0 h0 ws T h vm locs cells slots) (hc : cells ≤ cells') (hs : slots ≤ slots') : WK EL p l e R s m args below meth c Z own n0 h0 ws T h vm locs cells' slots' := ⟨⟨W.1.1.mono hc hs, W.1.2⟩, W.2⟩
theorem hasL_of {c : Cell} {dv : Value} : ∀ (vs : List Value) (i : Nat), (∀ j, j < vs.length → c.slots[i + j]? = some (vs.getD j dv)) → HasL c i vs
  | [], _, _ => trivial
  | v :: r, i, H => ⟨H 0 (Nat.succ_pos _), hasL_of r (i + 1) fun j hj => by have := H (j + 1) (Nat.succ_lt_succ hj); rw [show i + 1 + j = i + (j + 1) by omega]; exact this⟩
/-- an array that stood before -/
theorem arr_start {args : Array Value} (hf : Fit s) {t : Term} {x : Addr} {ty : FieldType} {n : Nat} {vs : List Value} {dv : Value} (ev : t.eval args s none [] s = some (.ref x)) (hA : (Cond.arrayOf t ty).value args s none s [] = some true) (hlen : (Cond.eq (Term.length t) (Term.int (Int32.ofNat n))).value args s none s [] = some true) (hn : n ≤ 4000) (hl : vs.length = n)
    (H : ∀ j, j < n → (Term.elem t (Term.int (Int32.ofNat j))).eval args s none [] s = some (vs.getD j dv)) : ∃ k, Arv s s.heap x k ty (Int32.ofNat n) vs dv := by
  obtain ⟨c, A⟩ := Arr.start ev hA
  have q := eqv_i (Term.int_eval _) hlen
  have ha : s.arrayAt? x = some c := IntBox.arrayAt_of A.1 A.2.1 A.2.2
  have e3 : c.slots.size < 2 ^ 31 := Classical.byContradiction fun hn => by
    simp only [Term.eval, ev, ha, Option.bind_eq_bind, Option.bind_some] at q
    rw [if_neg hn] at q; cases q
  rw [len_f ev ha e3] at q
  have e4 := Value.int.inj (Option.some.inj q)
  refine ⟨_, Arv.start hf A e3 e4 (ofNat_nn (by omega)) (by rw [clN (by omega), hl]) (hasL_of (dv := dv) vs 0 fun j hj => ?_)⟩
  have := (elem_in (H j (by omega)) ev (Term.int_eval _) A.1).2
  rw [clN (by omega)] at this
  rw [Nat.zero_add]; exact this
theorem eqv_ref {args : Array Value} {X F : Term} {y : Value} (hF : F.eval args s none [] s = some y) (hy : y.isRef = true) (h : (Cond.eq X F).value args s none s [] = some true) : X.eval args s none [] s = some y := (Cond.eq_refs (Cond.before_iff.mpr h) hF hy)
end Ref1
section Face1
variable {p : Program} {l : Launch} {e : Env} {R : Room} {s : State} {m : MethodId} {args : Array Value} {below : List Frame} {meth : Method} {c : Code} {Z : State} {EL : List (String × Nat)} {own : String} {n0 : Nat} {h0 : Heap} {ws ws' : List Addr} {T : State} {h : Heap} {vm : Vm} {locs : List Loc} {cells slots : Nat} {G : State → Prop} {a0 : Array Value} {pc pc' : Nat} {Ls : Array Slot} {st rest : List Value}
theorem NK.callFP (W : NK p l e R s m args below meth c Z own n0 h0 ws T h locs cells slots) {index count : Nat} {C : String} {y z : MethodName} (w1 : (Cond.methodLink own index y).before a0 Z = true) (w2 : (Cond.declares y).before a0 Z = true) (wf : (Cond.interfaceMethod y.cls y.cls y.name y.desc).before a0 Z = true) (hfa : (Cond.interfaceMethod y.cls y.cls y.name y.desc).faceAtom = true) (w3 : (Cond.selects C y z).before a0 Z = true) (w4 : (Cond.instanceMethod z).before a0 Z = true) (w5 : (Cond.publicMethod z).before a0 Z = true) (w6 : (Cond.unhidden C y.name y.desc).before a0 Z = true) (w7 : (Cond.castable C y.cls).before a0 Z = true)
    (hy : y.cls ≠ "java/lang/invoke/MethodHandle" ∧ y.cls ≠ "java/lang/invoke/VarHandle") {wd rc rs : Nat} {as' : Array Value} {Q : Option Value → Heap → List Loc → Prop} (hK : BK l R p e below s args z 5 wd as' h rc rs Q) {a : Addr} (E : Exa Z h a C) (hd : decode c.code pc = .ok (.invokeinterface index count, 5)) (hp : pc + 5 = pc') (hml : c.maxLocals = Ls.size) {argsL : List Value} (has : (Value.ref a :: argsL).toArray = as') (hlen : ∀ sig, parseMethodDescriptor y.desc = some sig → argsL.length = sig.parameters.length) (hst : st = argsL.reverse ++ .ref a :: rest) (hW : (rest.map fun v => v.category).sum ≤ wd) (hc : cells + rc ≤ R.cells) (hs : slots + rs ≤ R.slots)
    {w : Option Value} (hq : ∀ v h' L, Q v h' L → Fr n0 L ∧ Pu w h v h')
    (k' : ∀ (T' : State) (L' : List Loc), NK p l e R s m args below meth c Z own n0 h0 ws T' h L' (cells + rc) (slots + rs) → Go p e below G T' (mkF m pc' Ls (w.toList ++ rest))) : Go p e below G T (mkF m pc Ls st) := by
  subst hst has hp
  obtain ⟨cq, kq, qa, qb, qc⟩ := isOf W.2.2.2.1 W.2.2.1 E
  obtain ⟨v, vm1, ⟨T', L1, k1, n1⟩, -, X', ⟨L, hQ, e1, e2, e3⟩, stp⟩ := W.1.interfaceBack W.2.1 (xi := y) (y := z) W.2.2.2.2.1 (mvT W.2.2.2.1 w1) (mvT W.2.2.2.1 w2) (mvT W.2.2.2.1 wf (by simp [Cond.onTables, Cond.keepsFace, Cond.keeps, Cond.steady, hfa])) (mvT W.2.2.2.1 w3) (mvT W.2.2.2.1 w4) (mvT W.2.2.2.1 w5) (mvT W.2.2.2.1 w6) (mvT W.2.2.2.1 w7) hy hK qa qb qc (g := mkF m pc Ls (argsL.reverse ++ .ref a :: rest)) rfl hml.symm (Steps.refl _) (argsL := argsL) (rest := rest) hlen rfl (by show 2 * 0 + _ ≤ _; omega) hd (fun _ _ => ⟨rfl, W.2.2.1, hc, hs⟩)
  dsimp only [Pt.U, Pt.locs, Pt.cells, Pt.slots] at X' hQ e1 e2 e3 stp
  subst e1 e2 e3
  obtain ⟨N, P⟩ := hq _ _ _ hQ
  have K : Keep h T'.heap [] := by rw [P.2]; exact Keep.refl _ _
  obtain ⟨rfl, eh⟩ := P
  have W' := W.called X' N K all0
  rw [eh] at W'
  exact Go.tr stp (k' T' _ W')
/-- ldc of a String constant, opaque -/
theorem WK.ldcO (W : WK EL p l e R s m args below meth c Z own n0 h0 ws T h vm locs cells slots) (hEL : EW Z a0 EL) {text : String} {index : Nat} (w : (Cond.stringLink own index text).before a0 Z = true) (wS : ∀ a ∈ Bundle.stringAtoms, a.before a0 Z = true)
    (hd : decode c.code pc = .ok (.ldc index, 2)) (hp : pc + 2 = pc') {n : Nat} (hn : 4 * text.toList.length ≤ n) (hbig : n ≤ 536870912) (hc : cells + 2 ≤ R.cells) (hs : slots + (n + 4) ≤ R.slots)
    (k' : ∀ (T' : State) (h' : Heap) (vm' : Vm) (a : Addr), WK EL p l e R s m args below meth c Z own n0 h0 ws T' h' vm' locs (cells + 2) (slots + (n + 4)) → Ext h h' → Go p e below G T' (mkF m pc' Ls (.ref a :: st))) : Go p e below G T (mkF m pc Ls st) := by
  obtain ⟨⟨X, hx, eT, hZ, hown, N0, K0, hn0, hlk⟩, S, C⟩ := W
  obtain ⟨a, T', h', k1, X', e', E, S', hk, hZ', ho, C', -, stp⟩ := ldcOH X hx hZ hown w wS eT S (Nat.le_refl _) hEL C.1 (g := mkF m pc Ls st) rfl hd hn hbig hc hs
  subst hp
  exact Go.by1 (fun t q => stp t q) (k' T' h' T'.vm a ⟨⟨X', hx, e', hZ', ho, N0, K0.ext E, hn0, hlk⟩, since_grow S' hk, C.trans C'⟩ E)
end Face1
end Own
open Own
--CUT base
def consts_0 : List (String × Nat) := []
theorem hwAtoms : ∀ d ∈ Bundle.stringAtoms, d ∈ tables_1 := by decide +kernel
theorem hwords : ∀ d ∈ StrChars.Road.words, d ∈ tables_1 := by decide +kernel
theorem dSI_0 : decode jdk_42_method_151_code 0 = .ok (.aload_n 0, 1) := by decide +kernel
theorem dSI_1 : decode jdk_42_method_151_code 1 = .ok (.invokespecial 1, 3) := by decide +kernel
theorem dSI_4 : decode jdk_42_method_151_code 4 = .ok (.aload_n 0, 1) := by decide +kernel
theorem dSI_5 : decode jdk_42_method_151_code 5 = .ok (.aload_n 1, 1) := by decide +kernel
theorem dSI_6 : decode jdk_42_method_151_code 6 = .ok (.putfield 9, 3) := by decide +kernel
theorem dSI_9 : decode jdk_42_method_151_code 9 = .ok (.aload_n 0, 1) := by decide +kernel
theorem dSI_10 : decode jdk_42_method_151_code 10 = .ok (.iload_n 2, 1) := by decide +kernel
theorem dSI_11 : decode jdk_42_method_151_code 11 = .ok (.putfield 15, 3) := by decide +kernel
theorem dSI_14 : decode jdk_42_method_151_code 14 = .ok (.return_, 1) := by decide +kernel
theorem pn_SI : plainFor (⟨"java/lang/String", "<init>", "([BB)V"⟩ : MethodName) = true := by first | exact plainFor_of_name (by first | (simp [plainName, overriddenIn]; done) | decide +kernel) | decide +kernel
set_option maxRecDepth 65536 in
set_option maxHeartbeats 40000000 in
theorem rmSI (l : Launch) (Z : State) (a0 : Array Value) (hw : ∀ d ∈ tables_1, d.before a0 Z = true) (a t : Addr) (h0 : Heap) (n0 : Nat) (Z0 : n0 ≤ h0.size) (ga : n0 ≤ a) (EX : Exa Z h0 a "java/lang/String") (FV : Fld Z h0 a "java/lang/String" "value" "[B" .null) (FC : Fld Z h0 a "java/lang/String" "coder" "B" (.int (0 : Int32))) :
    NM l (⟨"java/lang/String", "<init>", "([BB)V"⟩ : MethodName) jdk_42_method_151_code 3 none [] ({ frames := 1, cells := 0, slots := 0, locals := 13 } : Room) Z n0 #[(.ref a), (.ref t), (.int (0 : Int32))] h0 [a] (fun v h => v = none ∧ Exa Z h a "java/lang/String" ∧ Fld Z h a "java/lang/String" "value" "[B" (.ref t) ∧ Fld Z h a "java/lang/String" "coder" "B" (.int (0 : Int32))) := by
  refine NM.walk (Ls := #[.val (.ref a), .val (.ref t), .val (.int (0 : Int32))]) pn_SI Z0 (fun m => by first | (simp [entryFrame, mkF, argsToLocals, Value.category]; done) | rfl) ?_
  intro p e s m below meth c s₁ hby hml hret hnm W0
  refine W0.aloadN (hb hby dSI_0) rfl rfl (pc' := 1) rfl ?_
  refine W0.initO (hw _ (List.mem_of_getElem? (i := 20) rfl)) (hw _ (List.mem_of_getElem? (i := 21) rfl)) (hw _ (List.mem_of_getElem? (i := 22) rfl)) (hb hby dSI_1) (pc' := 4) rfl hml (by decide) (wd := 0) (Nat.le_of_ble_eq_true rfl) (by decide) ?_
  intro T1 W1
  refine W1.aloadN (hb hby dSI_4) rfl rfl (pc' := 5) rfl ?_
  refine W1.aloadN (hb hby dSI_5) rfl rfl (pc' := 6) rfl ?_
  refine W1.putF (host := "") (Or.inl (hw _ (List.mem_of_getElem? (i := 23) rfl))) Via.refl FV EX (Or.inr ⟨(hw _ (List.mem_of_getElem? (i := 24) rfl)), rfl, hnm⟩) (hw _ (List.mem_of_getElem? (i := 11) rfl)) (ty := (.array .byte)) (by decide) rfl rfl (hb hby dSI_6) (pc' := 9) rfl (Or.inl (List.mem_of_getElem? (i := 0) rfl)) ga ?_
  intro T2 h2 L2 W2 Q2
  have K2 := Keep.of_wr Q2
  have z2 := K2.1
  have A2 := Exa.wr Q2 EX
  have B2 := Fld.same Q2 FV
  have B2_coder := Fld.other Q2 FC (Or.inr (slot_ne (Or.inr (hw _ (List.mem_of_getElem? (i := 26) rfl))) (Or.inr (hw _ (List.mem_of_getElem? (i := 24) rfl))) (by decide) (t := .byte) (t' := (.array .byte)) (by decide) (by decide)))
  refine W2.aloadN (hb hby dSI_9) rfl rfl (pc' := 10) rfl ?_
  refine W2.iloadN (hb hby dSI_10) rfl (pc' := 11) rfl ?_
  refine W2.putF (host := "") (Or.inl (hw _ (List.mem_of_getElem? (i := 25) rfl))) Via.refl B2_coder A2 (Or.inr ⟨(hw _ (List.mem_of_getElem? (i := 26) rfl)), rfl, hnm⟩) (hw _ (List.mem_of_getElem? (i := 11) rfl)) (ty := .byte) (by decide) rfl rfl (hb hby dSI_11) (pc' := 14) rfl (Or.inl (List.mem_of_getElem? (i := 0) rfl)) ga ?_
  intro T3 h3 L3 W3 Q3
  have K3 := Keep.of_wr Q3
  have z3 := K3.1
  have A3 := Exa.wr Q3 A2
  have B3 := Fld.same Q3 B2_coder
  have B3_value := Fld.other Q3 B2 (Or.inr (slot_ne (Or.inr (hw _ (List.mem_of_getElem? (i := 24) rfl))) (Or.inr (hw _ (List.mem_of_getElem? (i := 26) rfl))) (by decide) (t := (.array .byte)) (t' := .byte) (by decide) (by decide)))
  exact W3.retV hret (hb hby dSI_14) (by decide) (by decide) ⟨rfl, A3, B3_value, B3⟩
--CUT own
def ceF (q : Int32) : Int32 := (if (255 : Int32) < q then (0 : Int32) else (1 : Int32))
theorem dCE_0 : decode jdk_43_method_3_code 0 = .ok (.iload_n 0, 1) := by decide +kernel
theorem dCE_1 : decode jdk_43_method_3_code 1 = .ok (.sipush 255, 3) := by decide +kernel
theorem dCE_4 : decode jdk_43_method_3_code 4 = .ok (.if_icmp .gt 7, 3) := by decide +kernel
theorem dCE_11 : decode jdk_43_method_3_code 11 = .ok (.iconst 0, 1) := by decide +kernel
theorem dCE_12 : decode jdk_43_method_3_code 12 = .ok (.ireturn, 1) := by decide +kernel
theorem dCE_7 : decode jdk_43_method_3_code 7 = .ok (.iconst 1, 1) := by decide +kernel
theorem dCE_8 : decode jdk_43_method_3_code 8 = .ok (.goto 4, 3) := by decide +kernel
theorem pn_CE : plainFor (⟨"java/lang/StringLatin1", "canEncode", "(C)Z"⟩ : MethodName) = true := by first | exact plainFor_of_name (by first | (simp [plainName, overriddenIn]; done) | decide +kernel) | decide +kernel
set_option maxRecDepth 65536 in
set_option maxHeartbeats 40000000 in
theorem rmCE (l : Launch) (Z : State) (a0 : Array Value) (hw : ∀ d ∈ tables_1, d.before a0 Z = true) (q : Int32) (h0 : Heap) (n0 : Nat) (Z0 : n0 ≤ h0.size)  :
    NM l (⟨"java/lang/StringLatin1", "canEncode", "(C)Z"⟩ : MethodName) jdk_43_method_3_code 1 (some .boolean) [] ({ frames := 0, cells := 0, slots := 0, locals := 0 } : Room) Z n0 #[(.int q)] h0 [] (Pu (some (.int (ceF q))) h0) := by
  refine NM.walk (Ls := #[.val (.int q)]) pn_CE Z0 (fun m => by first | (simp [entryFrame, mkF, argsToLocals, Value.category]; done) | rfl) ?_
  intro p e s m below meth c s₁ hby hml hret hnm W0
  refine W0.iloadN (hb hby dCE_0) rfl (pc' := 1) rfl ?_
  refine W0.sipush (255 : Int32) (hb hby dCE_1) rfl (pc' := 4) rfl ?_
  by_cases hc1 : (255 : Int32) < q
  · refine W0.icmpYes (hb hby dCE_4) (XT.ii_gt_t hc1) (by decide) (pc' := 11) (by decide) ?_
    refine W0.iconst (0 : Int32) (hb hby dCE_11) rfl (pc' := 12) rfl ?_
    exact W0.retZ hret (hb hby dCE_12) (by decide) (by decide) (by decide) ⟨congrArg (fun z => some (Value.int z)) (by rw [ceF, if_pos hc1]), rfl⟩
  · refine W0.icmpNo (hb hby dCE_4) (XT.ii_gt_f hc1) (pc' := 7) rfl ?_
    refine W0.iconst (1 : Int32) (hb hby dCE_7) rfl (pc' := 8) rfl ?_
    refine W0.goto (hb hby dCE_8) (by decide) (pc' := 12) (by decide) ?_
    exact W0.retZ hret (hb hby dCE_12) (by decide) (by decide) (by decide) ⟨congrArg (fun z => some (Value.int z)) (by rw [ceF, if_neg hc1]), rfl⟩
theorem dTB_0 : decode jdk_43_method_46_code 0 = .ok (.iconst 1, 1) := by decide +kernel
theorem dTB_1 : decode jdk_43_method_46_code 1 = .ok (.newarray .byte, 2) := by decide +kernel
theorem dTB_3 : decode jdk_43_method_46_code 3 = .ok (.dup, 1) := by decide +kernel
theorem dTB_4 : decode jdk_43_method_46_code 4 = .ok (.iconst 0, 1) := by decide +kernel
theorem dTB_5 : decode jdk_43_method_46_code 5 = .ok (.iload_n 0, 1) := by decide +kernel
theorem dTB_6 : decode jdk_43_method_46_code 6 = .ok (.i2b, 1) := by decide +kernel
theorem dTB_7 : decode jdk_43_method_46_code 7 = .ok (.bastore, 1) := by decide +kernel
theorem dTB_8 : decode jdk_43_method_46_code 8 = .ok (.areturn, 1) := by decide +kernel
theorem pn_TB : plainFor (⟨"java/lang/StringLatin1", "toBytes", "(C)[B"⟩ : MethodName) = true := by first | exact plainFor_of_name (by first | (simp [plainName, overriddenIn]; done) | decide +kernel) | decide +kernel
set_option maxRecDepth 65536 in
set_option maxHeartbeats 40000000 in
theorem rmTB (l : Launch) (Z : State) (a0 : Array Value) (hw : ∀ d ∈ tables_1, d.before a0 Z = true) (q : Int32) (h0 : Heap) (n0 : Nat) (Z0 : n0 ≤ h0.size)  :
    NM l (⟨"java/lang/StringLatin1", "toBytes", "(C)[B"⟩ : MethodName) jdk_43_method_46_code 1 (some (.array .byte)) [] ({ frames := 0, cells := 1, slots := 1, locals := 0 } : Room) Z n0 #[(.int q)] h0 [] (fun v h => ∃ b, v = some (.ref b)) := by
  refine NM.walk (Ls := #[.val (.int q)]) pn_TB Z0 (fun m => by first | (simp [entryFrame, mkF, argsToLocals, Value.category]; done) | rfl) ?_
  intro p e s m below meth c s₁ hby hml hret hnm W0
  refine W0.iconst (1 : Int32) (hb hby dTB_0) rfl (pc' := 1) rfl ?_
  refine W0.newP (hw _ (List.mem_of_getElem? (i := 15) rfl)) (hb hby dTB_1) (pc' := 3) rfl (by decide) (cap := 1) (by decide) (by decide) (by decide) (by decide) ?_
  intro T1 h1 a1 k1 g1 ge1 gn1 W1 E1 V1'
  have V1 : Arv Z h1 a1 k1 .byte (1 : Int32) [(.int (0 : Int32))] (.int (0 : Int32)) := V1'
  have z1 := E1.1
  have y1 := Nat.le_of_eq g1.symm
  refine W1.dup (hb hby dTB_3) rfl (pc' := 4) rfl ?_
  refine W1.iconst (0 : Int32) (hb hby dTB_4) rfl (pc' := 5) rfl ?_
  refine W1.iloadN (hb hby dTB_5) rfl (pc' := 6) rfl ?_
  refine W1.i2b (hb hby dTB_6) (pc' := 7) rfl ?_
  refine W1.stB V1 (hb hby dTB_7) (pc' := 8) rfl 0 rfl (Nat.le_of_ble_eq_true rfl) (by decide) (Or.inr ge1) gn1 ?_
  intro T2 h2 L2 W2 K2 V2'
  have V2 : Arv Z h2 a1 k1 .byte (1 : Int32) [(.int q.toInt8.toInt32.toInt8.toInt32)] (.int (0 : Int32)) := V2'
  have z2 := K2.1
  exact W2.retA hret rfl rfl (hb hby dTB_8) (by decide) (by decide) ⟨a1, rfl⟩
theorem dVO_0 : decode jdk_42_method_139_code 0 = .ok (.getstatic 38, 3) := by decide +kernel
theorem dVO_3 : decode jdk_42_method_139_code 3 = .ok (.ifCond .eq 23, 3) := by decide +kernel
theorem dVO_6 : decode jdk_42_method_139_code 6 = .ok (.iload_n 0, 1) := by decide +kernel
theorem dVO_7 : decode jdk_42_method_139_code 7 = .ok (.invokestatic 1015, 3) := by decide +kernel
theorem pd_ba645060 : parseMethodDescriptor "(C)Z" = some ⟨[.char], some .boolean⟩ := by decide +kernel
theorem dVO_10 : decode jdk_42_method_139_code 10 = .ok (.ifCond .eq 16, 3) := by decide +kernel
theorem dVO_13 : decode jdk_42_method_139_code 13 = .ok (.new 10, 3) := by decide +kernel
theorem dVO_16 : decode jdk_42_method_139_code 16 = .ok (.dup, 1) := by decide +kernel
theorem dVO_17 : decode jdk_42_method_139_code 17 = .ok (.iload_n 0, 1) := by decide +kernel
theorem dVO_18 : decode jdk_42_method_139_code 18 = .ok (.invokestatic 1018, 3) := by decide +kernel
theorem pd_e6a9798c : parseMethodDescriptor "(C)[B" = some ⟨[.char], some (.array .byte)⟩ := by decide +kernel
theorem dVO_21 : decode jdk_42_method_139_code 21 = .ok (.iconst 0, 1) := by decide +kernel
theorem dVO_22 : decode jdk_42_method_139_code 22 = .ok (.invokespecial 209, 3) := by decide +kernel
theorem pd_52d55324 : parseMethodDescriptor "([BB)V" = some ⟨[(.array .byte), .byte], none⟩ := by decide +kernel
theorem dVO_25 : decode jdk_42_method_139_code 25 = .ok (.areturn, 1) := by decide +kernel
theorem pn_VO : plainFor (⟨"java/lang/String", "valueOf", "(C)Ljava/lang/String;"⟩ : MethodName) = true := by first | exact plainFor_of_name (by first | (simp [plainName, overriddenIn]; done) | decide +kernel) | decide +kernel
set_option maxRecDepth 65536 in
set_option maxHeartbeats 40000000 in
theorem rmVO (l : Launch) (Z : State) (a0 : Array Value) (hw : ∀ d ∈ tables_1, d.before a0 Z = true) (q zc : Int32) (h0 : Heap) (n0 : Nat) (Z0 : n0 ≤ h0.size) (LQ : ¬ q < 0 ∧ ¬ (255 : Int32) < q) (SC : Sta Z h0 "java/lang/String" "COMPACT_STRINGS" "Z" (.int zc)) (hz : ¬ zc = 0) :
    NM l (⟨"java/lang/String", "valueOf", "(C)Ljava/lang/String;"⟩ : MethodName) jdk_42_method_139_code 1 (some (.object "java/lang/String")) [] ({ frames := 2, cells := 2, slots := 5, locals := 30 } : Room) Z n0 #[(.int q)] h0 [] (fun v h => ∃ a, v = some (.ref a)) := by
  refine NM.walk (Ls := #[.val (.int q)]) pn_VO Z0 (fun m => by first | (simp [entryFrame, mkF, argsToLocals, Value.category]; done) | rfl) ?_
  intro p e s m below meth c s₁ hby hml hret hnm W0
  refine W0.getS (host := "") (Or.inl (hw _ (List.mem_of_getElem? (i := 5) rfl))) Via.refl SC (hb hby dVO_0) (pc' := 3) rfl ?_
  intro T1 W1
  refine W1.ifNo (hb hby dVO_3) (XT.i0_eq_f hz) (pc' := 6) rfl ?_
  refine W1.iloadN (hb hby dVO_6) rfl (pc' := 7) rfl ?_
  refine W1.callSP (hw _ (List.mem_of_getElem? (i := 6) rfl)) (hw _ (List.mem_of_getElem? (i := 7) rfl)) (hw _ (List.mem_of_getElem? (i := 8) rfl)) (hw _ (List.mem_of_getElem? (i := 9) rfl)) (by decide) (NM.bk (wd := 0) (rmCE l Z a0 hw q h0 n0 W1.n0h ) W1.2.2.2.1 (hw _ (List.mem_of_getElem? (i := 9) rfl)) (hw _ (List.mem_of_getElem? (i := 8) rfl)) (by decide) (by decide)) (hb hby dVO_7) (pc' := 10) rfl hml (argsL := [(.int q)]) rfl (lenOf pd_ba645060 rfl) rfl (Nat.le_of_ble_eq_true rfl) (by decide) (by decide) (fun _ _ _ q => pu_of q) ?_
  intro T2 L2 W2
  show Go p e below _ T2 (mkF m 10 #[.val (.int q)] [(.int (ceF q))])
  refine W2.ifNo (hb hby dVO_10) (XT.i0_eq_f (by rw [ceF, if_neg LQ.2]; decide)) (pc' := 13) rfl ?_
  refine W2.newO (hw _ (List.mem_of_getElem? (i := 10) rfl)) (hw _ (List.mem_of_getElem? (i := 11) rfl)) (hw _ (List.mem_of_getElem? (i := 3) rfl)) (hb hby dVO_13) (pc' := 16) rfl (by decide) (by decide) ?_
  intro T3 h3 a3 g3 ge3 gn3 W3 E3 A3 D3
  have z3 := E3.1
  have y3 := Nat.le_of_eq g3.symm
  have D3_value := D3 (Or.inr (hw _ (List.mem_of_getElem? (i := 24) rfl))) (ty := (.array .byte)) (by decide)
  have D3_coder := D3 (Or.inr (hw _ (List.mem_of_getElem? (i := 26) rfl))) (ty := .byte) (by decide)
  refine W3.dup (hb hby dVO_16) rfl (pc' := 17) rfl ?_
  refine W3.iloadN (hb hby dVO_17) rfl (pc' := 18) rfl ?_
  refine W3.callS (hw _ (List.mem_of_getElem? (i := 12) rfl)) (hw _ (List.mem_of_getElem? (i := 13) rfl)) (hw _ (List.mem_of_getElem? (i := 8) rfl)) (hw _ (List.mem_of_getElem? (i := 14) rfl)) (by decide) (NM.bk (wd := 2) (rmTB l Z a0 hw q h3 n0 W3.n0h ) W3.2.2.2.1 (hw _ (List.mem_of_getElem? (i := 14) rfl)) (hw _ (List.mem_of_getElem? (i := 8) rfl)) (by decide) (by decide)) (hb hby dVO_18) (pc' := 21) rfl hml (argsL := [(.int q)]) rfl (lenOf pd_e6a9798c rfl) rfl (Nat.le_of_ble_eq_true rfl) (by decide) (by decide) (ws' := []) (fun _ _ _ q => ⟨q.2.2, q.2.1⟩) all0 ?_
  intro v4 T4 h4 L4' L4 W4 Q4 K4
  have z4 := K4.1
  obtain ⟨⟨b4, rfl⟩, -, -⟩ := Q4
  show Go p e below _ T4 (mkF m 21 #[.val (.int q)] [(.ref b4), (.ref a3), (.ref a3)])
  refine W4.iconst (0 : Int32) (hb hby dVO_21) rfl (pc' := 22) rfl ?_
  have F6 := Exa.ext (Keep.toExt K4) A3
  have F7 := Fld.ext (Keep.toExt K4) D3_value
  have F8 := Fld.ext (Keep.toExt K4) D3_coder
  refine W4.callI (y := (⟨"java/lang/String", "<init>", "([BB)V"⟩ : MethodName)) rfl (hw _ (List.mem_of_getElem? (i := 16) rfl)) (hw _ (List.mem_of_getElem? (i := 17) rfl)) (hw _ (List.mem_of_getElem? (i := 19) rfl)) (by decide) (NM.bk (wd := 1) (rmSI l Z a0 hw a3 b4 h4 n0 W4.n0h gn3 F6 F7 F8) W4.2.2.2.1 (hw _ (List.mem_of_getElem? (i := 19) rfl)) (hw _ (List.mem_of_getElem? (i := 3) rfl)) (by decide) (by decide)) (hb hby dVO_22) (pc' := 25) rfl hml (a := a3) (argsL := [(.ref b4), (.int (0 : Int32))]) rfl (lenOf pd_52d55324 rfl) rfl (Nat.le_of_ble_eq_true rfl) (by decide) (by decide) (ws' := [a3]) (fun _ _ _ q => ⟨q.2.2, q.2.1⟩) (allS (Or.inr ge3) all0) ?_
  intro v5 T5 h5 L5' L5 W5 Q5 K5
  have z5 := K5.1
  obtain ⟨⟨rfl, A5, B5, C5⟩, -, -⟩ := Q5
  show Go p e below _ T5 (mkF m 25 #[.val (.int q)] [(.ref a3)])
  exact W5.retA hret rfl rfl (hb hby dVO_25) (by decide) (by decide) ⟨a3, rfl⟩
theorem dMO_0 : decode jdk_72_method_26_code 0 = .ok (.getstatic 81, 3) := by decide +kernel
theorem dMO_3 : decode jdk_72_method_26_code 3 = .ok (.areturn, 1) := by decide +kernel
theorem pn_MO : plainFor (⟨"java/util/Map", "of", "()Ljava/util/Map;"⟩ : MethodName) = true := by first | exact plainFor_of_name (by first | (simp [plainName, overriddenIn]; done) | decide +kernel) | decide +kernel
set_option maxRecDepth 65536 in
set_option maxHeartbeats 40000000 in
theorem rmMO (l : Launch) (Z : State) (a0 : Array Value) (hw : ∀ d ∈ tables_1, d.before a0 Z = true) (em : Addr) (h0 : Heap) (n0 : Nat) (Z0 : n0 ≤ h0.size) (SX : Sta Z h0 "java/util/ImmutableCollections" "EMPTY_MAP" "Ljava/util/ImmutableCollections$MapN;" (.ref em)) :
    NM l (⟨"java/util/Map", "of", "()Ljava/util/Map;"⟩ : MethodName) jdk_72_method_26_code 0 (some (.object "java/util/Map")) [] ({ frames := 0, cells := 0, slots := 0, locals := 0 } : Room) Z n0 #[] h0 [] (Pu (some (.ref em)) h0) := by
  refine NM.walk (Ls := #[]) pn_MO Z0 (fun m => by first | (simp [entryFrame, mkF, argsToLocals, Value.category]; done) | rfl) ?_
  intro p e s m below meth c s₁ hby hml hret hnm W0
  refine W0.getS (host := "") (Or.inl (hw _ (List.mem_of_getElem? (i := 37) rfl))) Via.refl SX (hb hby dMO_0) (pc' := 3) rfl ?_
  intro T1 W1
  exact W1.retA hret rfl rfl (hb hby dMO_3) (by decide) (by decide) ⟨rfl, rfl⟩
theorem dLO_0 : decode jdk_40_method_36_code 0 = .ok (.getstatic 90, 3) := by decide +kernel
theorem dLO_3 : decode jdk_40_method_36_code 3 = .ok (.areturn, 1) := by decide +kernel
theorem pn_LO : plainFor (⟨"java/util/List", "of", "()Ljava/util/List;"⟩ : MethodName) = true := by first | exact plainFor_of_name (by first | (simp [plainName, overriddenIn]; done) | decide +kernel) | decide +kernel
set_option maxRecDepth 65536 in
set_option maxHeartbeats 40000000 in
theorem rmLO (l : Launch) (Z : State) (a0 : Array Value) (hw : ∀ d ∈ tables_1, d.before a0 Z = true) (ei : Addr) (h0 : Heap) (n0 : Nat) (Z0 : n0 ≤ h0.size) (SX : Sta Z h0 "java/util/ImmutableCollections" "EMPTY_LIST" "Ljava/util/ImmutableCollections$ListN;" (.ref ei)) :
    NM l (⟨"java/util/List", "of", "()Ljava/util/List;"⟩ : MethodName) jdk_40_method_36_code 0 (some (.object "java/util/List")) [] ({ frames := 0, cells := 0, slots := 0, locals := 0 } : Room) Z n0 #[] h0 [] (Pu (some (.ref ei)) h0) := by
  refine NM.walk (Ls := #[]) pn_LO Z0 (fun m => by first | (simp [entryFrame, mkF, argsToLocals, Value.category]; done) | rfl) ?_
  intro p e s m below meth c s₁ hby hml hret hnm W0
  refine W0.getS (host := "") (Or.inl (hw _ (List.mem_of_getElem? (i := 43) rfl))) Via.refl SX (hb hby dLO_0) (pc' := 3) rfl ?_
  intro T1 W1
  exact W1.retA hret rfl rfl (hb hby dLO_3) (by decide) (by decide) ⟨rfl, rfl⟩
theorem dSO_0 : decode jdk_96_method_17_code 0 = .ok (.getstatic 9, 3) := by decide +kernel
theorem dSO_3 : decode jdk_96_method_17_code 3 = .ok (.areturn, 1) := by decide +kernel
theorem pn_SO : plainFor (⟨"java/util/Set", "of", "()Ljava/util/Set;"⟩ : MethodName) = true := by first | exact plainFor_of_name (by first | (simp [plainName, overriddenIn]; done) | decide +kernel) | decide +kernel
set_option maxRecDepth 65536 in
set_option maxHeartbeats 40000000 in
theorem rmSO (l : Launch) (Z : State) (a0 : Array Value) (hw : ∀ d ∈ tables_1, d.before a0 Z = true) (es : Addr) (h0 : Heap) (n0 : Nat) (Z0 : n0 ≤ h0.size) (SX : Sta Z h0 "java/util/ImmutableCollections" "EMPTY_SET" "Ljava/util/ImmutableCollections$SetN;" (.ref es)) :
    NM l (⟨"java/util/Set", "of", "()Ljava/util/Set;"⟩ : MethodName) jdk_96_method_17_code 0 (some (.object "java/util/Set")) [] ({ frames := 0, cells := 0, slots := 0, locals := 0 } : Room) Z n0 #[] h0 [] (Pu (some (.ref es)) h0) := by
  refine NM.walk (Ls := #[]) pn_SO Z0 (fun m => by first | (simp [entryFrame, mkF, argsToLocals, Value.category]; done) | rfl) ?_
  intro p e s m below meth c s₁ hby hml hret hnm W0
  refine W0.getS (host := "") (Or.inl (hw _ (List.mem_of_getElem? (i := 48) rfl))) Via.refl SX (hb hby dSO_0) (pc' := 3) rfl ?_
  intro T1 W1
  exact W1.retA hret rfl rfl (hb hby dSO_3) (by decide) (by decide) ⟨rfl, rfl⟩
theorem dCI_0 : decode prog_23_method_1_code 0 = .ok (.aload_n 0, 1) := by decide +kernel
theorem dCI_1 : decode prog_23_method_1_code 1 = .ok (.invokespecial 1, 3) := by decide +kernel
theorem dCI_4 : decode prog_23_method_1_code 4 = .ok (.aload_n 0, 1) := by decide +kernel
theorem dCI_5 : decode prog_23_method_1_code 5 = .ok (.iload_n 1, 1) := by decide +kernel
theorem dCI_6 : decode prog_23_method_1_code 6 = .ok (.putfield 7, 3) := by decide +kernel
theorem dCI_9 : decode prog_23_method_1_code 9 = .ok (.aload_n 0, 1) := by decide +kernel
theorem dCI_10 : decode prog_23_method_1_code 10 = .ok (.aload_n 2, 1) := by decide +kernel
theorem dCI_11 : decode prog_23_method_1_code 11 = .ok (.putfield 13, 3) := by decide +kernel
theorem dCI_14 : decode prog_23_method_1_code 14 = .ok (.aload_n 0, 1) := by decide +kernel
theorem dCI_15 : decode prog_23_method_1_code 15 = .ok (.aload_n 3, 1) := by decide +kernel
theorem dCI_16 : decode prog_23_method_1_code 16 = .ok (.putfield 17, 3) := by decide +kernel
theorem dCI_19 : decode prog_23_method_1_code 19 = .ok (.aload_n 0, 1) := by decide +kernel
theorem dCI_20 : decode prog_23_method_1_code 20 = .ok (.aload 4, 2) := by decide +kernel
theorem dCI_22 : decode prog_23_method_1_code 22 = .ok (.putfield 21, 3) := by decide +kernel
theorem dCI_25 : decode prog_23_method_1_code 25 = .ok (.aload_n 0, 1) := by decide +kernel
theorem dCI_26 : decode prog_23_method_1_code 26 = .ok (.aload 5, 2) := by decide +kernel
theorem dCI_28 : decode prog_23_method_1_code 28 = .ok (.putfield 24, 3) := by decide +kernel
theorem dCI_31 : decode prog_23_method_1_code 31 = .ok (.return_, 1) := by decide +kernel
theorem pn_CI : plainFor (⟨"com/example/mandible/mandible/property/CallScope", "<init>", "(ZLjava/util/Map;Ljava/util/List;Ljava/util/Map;Ljava/util/Set;)V"⟩ : MethodName) = true := by first | exact plainFor_of_name (by first | (simp [plainName, overriddenIn]; done) | decide +kernel) | decide +kernel
set_option maxRecDepth 65536 in
set_option maxHeartbeats 40000000 in
theorem rmCI (l : Launch) (Z : State) (a0 : Array Value) (hw : ∀ d ∈ tables_1, d.before a0 Z = true) (a m1 l1 m2 s1 : Addr) (z : Int32) (h0 : Heap) (n0 : Nat) (Z0 : n0 ≤ h0.size) (ga : n0 ≤ a) (EX : Exa Z h0 a "com/example/mandible/mandible/property/CallScope") (FI0 : Fld Z h0 a "com/example/mandible/mandible/property/CallScope" "inheritAll" "Z" (.int (0 : Int32))) (FI1 : Fld Z h0 a "com/example/mandible/mandible/property/CallScope" "fixed" "Ljava/util/Map;" .null) (FI2 : Fld Z h0 a "com/example/mandible/mandible/property/CallScope" "parameters" "Ljava/util/List;" .null) (FI3 : Fld Z h0 a "com/example/mandible/mandible/property/CallScope" "fromSets" "Ljava/util/Map;" .null) (FI4 : Fld Z h0 a "com/example/mandible/mandible/property/CallScope" "notInherited" "Ljava/util/Set;" .null) (hzb : z = 0 ∨ z = 1) :
    NM l (⟨"com/example/mandible/mandible/property/CallScope", "<init>", "(ZLjava/util/Map;Ljava/util/List;Ljava/util/Map;Ljava/util/Set;)V"⟩ : MethodName) prog_23_method_1_code 6 none [] ({ frames := 1, cells := 0, slots := 0, locals := 12 } : Room) Z n0 #[(.ref a), (.int z), (.ref m1), (.ref l1), (.ref m2), (.ref s1)] h0 [a] (fun v h => v = none ∧ Exa Z h a "com/example/mandible/mandible/property/CallScope" ∧ Fld Z h a "com/example/mandible/mandible/property/CallScope" "inheritAll" "Z" (.int z) ∧ Fld Z h a "com/example/mandible/mandible/property/CallScope" "fixed" "Ljava/util/Map;" (.ref m1) ∧ Fld Z h a "com/example/mandible/mandible/property/CallScope" "parameters" "Ljava/util/List;" (.ref l1) ∧ Fld Z h a "com/example/mandible/mandible/property/CallScope" "fromSets" "Ljava/util/Map;" (.ref m2) ∧ Fld Z h a "com/example/mandible/mandible/property/CallScope" "notInherited" "Ljava/util/Set;" (.ref s1)) := by
  refine NM.walk (Ls := #[.val (.ref a), .val (.int z), .val (.ref m1), .val (.ref l1), .val (.ref m2), .val (.ref s1)]) pn_CI Z0 (fun m => by first | (simp [entryFrame, mkF, argsToLocals, Value.category]; done) | rfl) ?_
  intro p e s m below meth c s₁ hby hml hret hnm W0
  refine W0.aloadN (hb hby dCI_0) rfl rfl (pc' := 1) rfl ?_
  refine W0.initO (hw _ (List.mem_of_getElem? (i := 52) rfl)) (hw _ (List.mem_of_getElem? (i := 21) rfl)) (hw _ (List.mem_of_getElem? (i := 22) rfl)) (hb hby dCI_1) (pc' := 4) rfl hml (by decide) (wd := 0) (Nat.le_of_ble_eq_true rfl) (by decide) ?_
  intro T1 W1
  refine W1.aloadN (hb hby dCI_4) rfl rfl (pc' := 5) rfl ?_
  refine W1.iloadN (hb hby dCI_5) rfl (pc' := 6) rfl ?_
  refine W1.putF (host := "") (Or.inl (hw _ (List.mem_of_getElem? (i := 53) rfl))) Via.refl FI0 EX (Or.inr ⟨(hw _ (List.mem_of_getElem? (i := 54) rfl)), rfl, hnm⟩) (hw _ (List.mem_of_getElem? (i := 32) rfl)) (ty := .boolean) (by decide) (by rcases hzb with rfl | rfl <;> rfl) (by rcases hzb with rfl | rfl <;> rfl) (hb hby dCI_6) (pc' := 9) rfl (Or.inl (List.mem_of_getElem? (i := 0) rfl)) ga ?_
  intro T2 h2 L2 W2 Q2
  have K2 := Keep.of_wr Q2
  have z2 := K2.1
  have A2 := Exa.wr Q2 EX
  have B2 := Fld.same Q2 FI0
  have B2_fixed := Fld.other Q2 FI1 (Or.inr (slot_ne (Or.inr (hw _ (List.mem_of_getElem? (i := 56) rfl))) (Or.inr (hw _ (List.mem_of_getElem? (i := 54) rfl))) (by decide) (t := (.object "java/util/Map")) (t' := .boolean) (by decide) (by decide)))
  have B2_parameters := Fld.other Q2 FI2 (Or.inr (slot_ne (Or.inr (hw _ (List.mem_of_getElem? (i := 58) rfl))) (Or.inr (hw _ (List.mem_of_getElem? (i := 54) rfl))) (by decide) (t := (.object "java/util/List")) (t' := .boolean) (by decide) (by decide)))
  have B2_fromSets := Fld.other Q2 FI3 (Or.inr (slot_ne (Or.inr (hw _ (List.mem_of_getElem? (i := 60) rfl))) (Or.inr (hw _ (List.mem_of_getElem? (i := 54) rfl))) (by decide) (t := (.object "java/util/Map")) (t' := .boolean) (by decide) (by decide)))
  have B2_notInherited := Fld.other Q2 FI4 (Or.inr (slot_ne (Or.inr (hw _ (List.mem_of_getElem? (i := 62) rfl))) (Or.inr (hw _ (List.mem_of_getElem? (i := 54) rfl))) (by decide) (t := (.object "java/util/Set")) (t' := .boolean) (by decide) (by decide)))
  refine W2.aloadN (hb hby dCI_9) rfl rfl (pc' := 10) rfl ?_
  refine W2.aloadN (hb hby dCI_10) rfl rfl (pc' := 11) rfl ?_
  refine W2.putF (host := "") (Or.inl (hw _ (List.mem_of_getElem? (i := 55) rfl))) Via.refl B2_fixed A2 (Or.inr ⟨(hw _ (List.mem_of_getElem? (i := 56) rfl)), rfl, hnm⟩) (hw _ (List.mem_of_getElem? (i := 32) rfl)) (ty := (.object "java/util/Map")) (by decide) rfl rfl (hb hby dCI_11) (pc' := 14) rfl (Or.inl (List.mem_of_getElem? (i := 0) rfl)) ga ?_
  intro T3 h3 L3 W3 Q3
  have K3 := Keep.of_wr Q3
  have z3 := K3.1
  have A3 := Exa.wr Q3 A2
  have B3 := Fld.same Q3 B2_fixed
  have B3_inheritAll := Fld.other Q3 B2 (Or.inr (slot_ne (Or.inr (hw _ (List.mem_of_getElem? (i := 54) rfl))) (Or.inr (hw _ (List.mem_of_getElem? (i := 56) rfl))) (by decide) (t := .boolean) (t' := (.object "java/util/Map")) (by decide) (by decide)))
  have B3_parameters := Fld.other Q3 B2_parameters (Or.inr (slot_ne (Or.inr (hw _ (List.mem_of_getElem? (i := 58) rfl))) (Or.inr (hw _ (List.mem_of_getElem? (i := 56) rfl))) (by decide) (t := (.object "java/util/List")) (t' := (.object "java/util/Map")) (by decide) (by decide)))
  have B3_fromSets := Fld.other Q3 B2_fromSets (Or.inr (slot_ne (Or.inr (hw _ (List.mem_of_getElem? (i := 60) rfl))) (Or.inr (hw _ (List.mem_of_getElem? (i := 56) rfl))) (by decide) (t := (.object "java/util/Map")) (t' := (.object "java/util/Map")) (by decide) (by decide)))
  have B3_notInherited := Fld.other Q3 B2_notInherited (Or.inr (slot_ne (Or.inr (hw _ (List.mem_of_getElem? (i := 62) rfl))) (Or.inr (hw _ (List.mem_of_getElem? (i := 56) rfl))) (by decide) (t := (.object "java/util/Set")) (t' := (.object "java/util/Map")) (by decide) (by decide)))
  refine W3.aloadN (hb hby dCI_14) rfl rfl (pc' := 15) rfl ?_
  refine W3.aloadN (hb hby dCI_15) rfl rfl (pc' := 16) rfl ?_
  refine W3.putF (host := "") (Or.inl (hw _ (List.mem_of_getElem? (i := 57) rfl))) Via.refl B3_parameters A3 (Or.inr ⟨(hw _ (List.mem_of_getElem? (i := 58) rfl)), rfl, hnm⟩) (hw _ (List.mem_of_getElem? (i := 32) rfl)) (ty := (.object "java/util/List")) (by decide) rfl rfl (hb hby dCI_16) (pc' := 19) rfl (Or.inl (List.mem_of_getElem? (i := 0) rfl)) ga ?_
  intro T4 h4 L4 W4 Q4
  have K4 := Keep.of_wr Q4
  have z4 := K4.1
  have A4 := Exa.wr Q4 A3
  have B4 := Fld.same Q4 B3_parameters
  have B4_inheritAll := Fld.other Q4 B3_inheritAll (Or.inr (slot_ne (Or.inr (hw _ (List.mem_of_getElem? (i := 54) rfl))) (Or.inr (hw _ (List.mem_of_getElem? (i := 58) rfl))) (by decide) (t := .boolean) (t' := (.object "java/util/List")) (by decide) (by decide)))
  have B4_fixed := Fld.other Q4 B3 (Or.inr (slot_ne (Or.inr (hw _ (List.mem_of_getElem? (i := 56) rfl))) (Or.inr (hw _ (List.mem_of_getElem? (i := 58) rfl))) (by decide) (t := (.object "java/util/Map")) (t' := (.object "java/util/List")) (by decide) (by decide)))
  have B4_fromSets := Fld.other Q4 B3_fromSets (Or.inr (slot_ne (Or.inr (hw _ (List.mem_of_getElem? (i := 60) rfl))) (Or.inr (hw _ (List.mem_of_getElem? (i := 58) rfl))) (by decide) (t := (.object "java/util/Map")) (t' := (.object "java/util/List")) (by decide) (by decide)))
  have B4_notInherited := Fld.other Q4 B3_notInherited (Or.inr (slot_ne (Or.inr (hw _ (List.mem_of_getElem? (i := 62) rfl))) (Or.inr (hw _ (List.mem_of_getElem? (i := 58) rfl))) (by decide) (t := (.object "java/util/Set")) (t' := (.object "java/util/List")) (by decide) (by decide)))
  refine W4.aloadN (hb hby dCI_19) rfl rfl (pc' := 20) rfl ?_
  refine W4.aload (hb hby dCI_20) rfl rfl (pc' := 22) rfl ?_
  refine W4.putF (host := "") (Or.inl (hw _ (List.mem_of_getElem? (i := 59) rfl))) Via.refl B4_fromSets A4 (Or.inr ⟨(hw _ (List.mem_of_getElem? (i := 60) rfl)), rfl, hnm⟩) (hw _ (List.mem_of_getElem? (i := 32) rfl)) (ty := (.object "java/util/Map")) (by decide) rfl rfl (hb hby dCI_22) (pc' := 25) rfl (Or.inl (List.mem_of_getElem? (i := 0) rfl)) ga ?_
  intro T5 h5 L5 W5 Q5
  have K5 := Keep.of_wr Q5
  have z5 := K5.1
  have A5 := Exa.wr Q5 A4
  have B5 := Fld.same Q5 B4_fromSets
  have B5_inheritAll := Fld.other Q5 B4_inheritAll (Or.inr (slot_ne (Or.inr (hw _ (List.mem_of_getElem? (i := 54) rfl))) (Or.inr (hw _ (List.mem_of_getElem? (i := 60) rfl))) (by decide) (t := .boolean) (t' := (.object "java/util/Map")) (by decide) (by decide)))
  have B5_fixed := Fld.other Q5 B4_fixed (Or.inr (slot_ne (Or.inr (hw _ (List.mem_of_getElem? (i := 56) rfl))) (Or.inr (hw _ (List.mem_of_getElem? (i := 60) rfl))) (by decide) (t := (.object "java/util/Map")) (t' := (.object "java/util/Map")) (by decide) (by decide)))
  have B5_parameters := Fld.other Q5 B4 (Or.inr (slot_ne (Or.inr (hw _ (List.mem_of_getElem? (i := 58) rfl))) (Or.inr (hw _ (List.mem_of_getElem? (i := 60) rfl))) (by decide) (t := (.object "java/util/List")) (t' := (.object "java/util/Map")) (by decide) (by decide)))
  have B5_notInherited := Fld.other Q5 B4_notInherited (Or.inr (slot_ne (Or.inr (hw _ (List.mem_of_getElem? (i := 62) rfl))) (Or.inr (hw _ (List.mem_of_getElem? (i := 60) rfl))) (by decide) (t := (.object "java/util/Set")) (t' := (.object "java/util/Map")) (by decide) (by decide)))
  refine W5.aloadN (hb hby dCI_25) rfl rfl (pc' := 26) rfl ?_
  refine W5.aload (hb hby dCI_26) rfl rfl (pc' := 28) rfl ?_
  refine W5.putF (host := "") (Or.inl (hw _ (List.mem_of_getElem? (i := 61) rfl))) Via.refl B5_notInherited A5 (Or.inr ⟨(hw _ (List.mem_of_getElem? (i := 62) rfl)), rfl, hnm⟩) (hw _ (List.mem_of_getElem? (i := 32) rfl)) (ty := (.object "java/util/Set")) (by decide) rfl rfl (hb hby dCI_28) (pc' := 31) rfl (Or.inl (List.mem_of_getElem? (i := 0) rfl)) ga ?_
  intro T6 h6 L6 W6 Q6
  have K6 := Keep.of_wr Q6
  have z6 := K6.1
  have A6 := Exa.wr Q6 A5
  have B6 := Fld.same Q6 B5_notInherited
  have B6_inheritAll := Fld.other Q6 B5_inheritAll (Or.inr (slot_ne (Or.inr (hw _ (List.mem_of_getElem? (i := 54) rfl))) (Or.inr (hw _ (List.mem_of_getElem? (i := 62) rfl))) (by decide) (t := .boolean) (t' := (.object "java/util/Set")) (by decide) (by decide)))
  have B6_fixed := Fld.other Q6 B5_fixed (Or.inr (slot_ne (Or.inr (hw _ (List.mem_of_getElem? (i := 56) rfl))) (Or.inr (hw _ (List.mem_of_getElem? (i := 62) rfl))) (by decide) (t := (.object "java/util/Map")) (t' := (.object "java/util/Set")) (by decide) (by decide)))
  have B6_parameters := Fld.other Q6 B5_parameters (Or.inr (slot_ne (Or.inr (hw _ (List.mem_of_getElem? (i := 58) rfl))) (Or.inr (hw _ (List.mem_of_getElem? (i := 62) rfl))) (by decide) (t := (.object "java/util/List")) (t' := (.object "java/util/Set")) (by decide) (by decide)))
  have B6_fromSets := Fld.other Q6 B5 (Or.inr (slot_ne (Or.inr (hw _ (List.mem_of_getElem? (i := 60) rfl))) (Or.inr (hw _ (List.mem_of_getElem? (i := 62) rfl))) (by decide) (t := (.object "java/util/Map")) (t' := (.object "java/util/Set")) (by decide) (by decide)))
  exact W6.retV hret (hb hby dCI_31) (by decide) (by decide) ⟨rfl, A6, B6_inheritAll, B6_fixed, B6_parameters, B6_fromSets, B6⟩
theorem dCO_0 : decode prog_23_method_2_code 0 = .ok (.new 8, 3) := by decide +kernel
theorem dCO_3 : decode prog_23_method_2_code 3 = .ok (.dup, 1) := by decide +kernel
theorem dCO_4 : decode prog_23_method_2_code 4 = .ok (.iload_n 0, 1) := by decide +kernel
theorem dCO_5 : decode prog_23_method_2_code 5 = .ok (.invokestatic 28, 3) := by decide +kernel
theorem pd_a9b6f80b : parseMethodDescriptor "()Ljava/util/Map;" = some ⟨[], some (.object "java/util/Map")⟩ := by decide +kernel
theorem dCO_8 : decode prog_23_method_2_code 8 = .ok (.invokestatic 34, 3) := by decide +kernel
theorem pd_2fce99d9 : parseMethodDescriptor "()Ljava/util/List;" = some ⟨[], some (.object "java/util/List")⟩ := by decide +kernel
theorem dCO_11 : decode prog_23_method_2_code 11 = .ok (.invokestatic 28, 3) := by decide +kernel
theorem dCO_14 : decode prog_23_method_2_code 14 = .ok (.invokestatic 39, 3) := by decide +kernel
theorem pd_9078d8d4 : parseMethodDescriptor "()Ljava/util/Set;" = some ⟨[], some (.object "java/util/Set")⟩ := by decide +kernel
theorem dCO_17 : decode prog_23_method_2_code 17 = .ok (.invokespecial 44, 3) := by decide +kernel
theorem pd_c44af172 : parseMethodDescriptor "(ZLjava/util/Map;Ljava/util/List;Ljava/util/Map;Ljava/util/Set;)V" = some ⟨[.boolean, (.object "java/util/Map"), (.object "java/util/List"), (.object "java/util/Map"), (.object "java/util/Set")], none⟩ := by decide +kernel
theorem dCO_20 : decode prog_23_method_2_code 20 = .ok (.areturn, 1) := by decide +kernel
theorem pn_CO : plainFor (⟨"com/example/mandible/mandible/property/CallScope", "of", "(Z)Lcom/example/mandible/mandible/property/CallScope;"⟩ : MethodName) = true := by first | exact plainFor_of_name (by first | (simp [plainName, overriddenIn]; done) | decide +kernel) | decide +kernel
set_option maxRecDepth 65536 in
set_option maxHeartbeats 40000000 in
theorem rmCO (l : Launch) (Z : State) (a0 : Array Value) (hw : ∀ d ∈ tables_1, d.before a0 Z = true) (z : Int32) (em ei es ea : Addr) (ke : ClassId) (h0 : Heap) (n0 : Nat) (Z0 : n0 ≤ h0.size) (hzb : z = 0 ∨ z = 1) (Sem : Sta Z h0 "java/util/ImmutableCollections" "EMPTY_MAP" "Ljava/util/ImmutableCollections$MapN;" (.ref em)) (Eem : Exa Z h0 em "java/util/ImmutableCollections$MapN") (Sei : Sta Z h0 "java/util/ImmutableCollections" "EMPTY_LIST" "Ljava/util/ImmutableCollections$ListN;" (.ref ei)) (Eei : Exa Z h0 ei "java/util/ImmutableCollections$ListN") (Ses : Sta Z h0 "java/util/ImmutableCollections" "EMPTY_SET" "Ljava/util/ImmutableCollections$SetN;" (.ref es)) (Ees : Exa Z h0 es "java/util/ImmutableCollections$SetN") (Fem : Fld Z h0 em "java/util/ImmutableCollections$MapN" "size" "I" (.int (0 : Int32))) (Fes : Fld Z h0 es "java/util/ImmutableCollections$SetN" "size" "I" (.int (0 : Int32))) (Fei : Fld Z h0 ei "java/util/ImmutableCollections$ListN" "elements" "[Ljava/lang/Object;" (.ref ea)) (Aea : Arv Z h0 ea ke (.object "java/lang/Object") (0 : Int32) [] .null) :
    NM l (⟨"com/example/mandible/mandible/property/CallScope", "of", "(Z)Lcom/example/mandible/mandible/property/CallScope;"⟩ : MethodName) prog_23_method_2_code 1 (some (.object "com/example/mandible/mandible/property/CallScope")) [] ({ frames := 2, cells := 1, slots := 8, locals := 40 } : Room) Z n0 #[(.int z)] h0 [] (fun v h => ∃ a, v = some (.ref a) ∧ Exa Z h a "com/example/mandible/mandible/property/CallScope" ∧ Fld Z h a "com/example/mandible/mandible/property/CallScope" "inheritAll" "Z" (.int z) ∧ Fld Z h a "com/example/mandible/mandible/property/CallScope" "fixed" "Ljava/util/Map;" (.ref em) ∧ Fld Z h a "com/example/mandible/mandible/property/CallScope" "parameters" "Ljava/util/List;" (.ref ei) ∧ Fld Z h a "com/example/mandible/mandible/property/CallScope" "fromSets" "Ljava/util/Map;" (.ref em) ∧ Fld Z h a "com/example/mandible/mandible/property/CallScope" "notInherited" "Ljava/util/Set;" (.ref es)) := by
  refine NM.walk (Ls := #[.val (.int z)]) pn_CO Z0 (fun m => by first | (simp [entryFrame, mkF, argsToLocals, Value.category]; done) | rfl) ?_
  intro p e s m below meth c s₁ hby hml hret hnm W0
  refine W0.newO (hw _ (List.mem_of_getElem? (i := 31) rfl)) (hw _ (List.mem_of_getElem? (i := 32) rfl)) (hw _ (List.mem_of_getElem? (i := 29) rfl)) (hb hby dCO_0) (pc' := 3) rfl (by decide) (by decide) ?_
  intro T1 h1 a1 g1 ge1 gn1 W1 E1 A1 D1
  have z1 := E1.1
  have y1 := Nat.le_of_eq g1.symm
  have D1_inheritAll := D1 (Or.inr (hw _ (List.mem_of_getElem? (i := 54) rfl))) (ty := .boolean) (by decide)
  have D1_fixed := D1 (Or.inr (hw _ (List.mem_of_getElem? (i := 56) rfl))) (ty := (.object "java/util/Map")) (by decide)
  have D1_parameters := D1 (Or.inr (hw _ (List.mem_of_getElem? (i := 58) rfl))) (ty := (.object "java/util/List")) (by decide)
  have D1_fromSets := D1 (Or.inr (hw _ (List.mem_of_getElem? (i := 60) rfl))) (ty := (.object "java/util/Map")) (by decide)
  have D1_notInherited := D1 (Or.inr (hw _ (List.mem_of_getElem? (i := 62) rfl))) (ty := (.object "java/util/Set")) (by decide)
  refine W1.dup (hb hby dCO_3) rfl (pc' := 4) rfl ?_
  refine W1.iloadN (hb hby dCO_4) rfl (pc' := 5) rfl ?_
  have F3 := Sta.ext E1 Sem
  refine W1.callSP (hw _ (List.mem_of_getElem? (i := 33) rfl)) (hw _ (List.mem_of_getElem? (i := 34) rfl)) (hw _ (List.mem_of_getElem? (i := 35) rfl)) (hw _ (List.mem_of_getElem? (i := 36) rfl)) (by decide) (NM.bk (wd := 3) (rmMO l Z a0 hw em h1 n0 W1.n0h F3) W1.2.2.2.1 (hw _ (List.mem_of_getElem? (i := 36) rfl)) (hw _ (List.mem_of_getElem? (i := 35) rfl)) (by decide) (by decide)) (hb hby dCO_5) (pc' := 8) rfl hml (argsL := []) rfl (lenOf pd_a9b6f80b rfl) rfl (Nat.le_of_ble_eq_true rfl) (by decide) (by decide) (fun _ _ _ q => pu_of q) ?_
  intro T2 L2 W2
  show Go p e below _ T2 (mkF m 8 #[.val (.int z)] [(.ref em), (.int z), (.ref a1), (.ref a1)])
  have F5 := Sta.ext E1 Sei
  refine W2.callSP (hw _ (List.mem_of_getElem? (i := 39) rfl)) (hw _ (List.mem_of_getElem? (i := 40) rfl)) (hw _ (List.mem_of_getElem? (i := 41) rfl)) (hw _ (List.mem_of_getElem? (i := 42) rfl)) (by decide) (NM.bk (wd := 4) (rmLO l Z a0 hw ei h1 n0 W2.n0h F5) W2.2.2.2.1 (hw _ (List.mem_of_getElem? (i := 42) rfl)) (hw _ (List.mem_of_getElem? (i := 41) rfl)) (by decide) (by decide)) (hb hby dCO_8) (pc' := 11) rfl hml (argsL := []) rfl (lenOf pd_2fce99d9 rfl) rfl (Nat.le_of_ble_eq_true rfl) (by decide) (by decide) (fun _ _ _ q => pu_of q) ?_
  intro T4 L4 W4
  show Go p e below _ T4 (mkF m 11 #[.val (.int z)] [(.ref ei), (.ref em), (.int z), (.ref a1), (.ref a1)])
  refine W4.callSP (hw _ (List.mem_of_getElem? (i := 33) rfl)) (hw _ (List.mem_of_getElem? (i := 34) rfl)) (hw _ (List.mem_of_getElem? (i := 35) rfl)) (hw _ (List.mem_of_getElem? (i := 36) rfl)) (by decide) (NM.bk (wd := 5) (rmMO l Z a0 hw em h1 n0 W4.n0h F3) W4.2.2.2.1 (hw _ (List.mem_of_getElem? (i := 36) rfl)) (hw _ (List.mem_of_getElem? (i := 35) rfl)) (by decide) (by decide)) (hb hby dCO_11) (pc' := 14) rfl hml (argsL := []) rfl (lenOf pd_a9b6f80b rfl) rfl (Nat.le_of_ble_eq_true rfl) (by decide) (by decide) (fun _ _ _ q => pu_of q) ?_
  intro T6 L6 W6
  show Go p e below _ T6 (mkF m 14 #[.val (.int z)] [(.ref em), (.ref ei), (.ref em), (.int z), (.ref a1), (.ref a1)])
  have F8 := Sta.ext E1 Ses
  refine W6.callSP (hw _ (List.mem_of_getElem? (i := 44) rfl)) (hw _ (List.mem_of_getElem? (i := 45) rfl)) (hw _ (List.mem_of_getElem? (i := 46) rfl)) (hw _ (List.mem_of_getElem? (i := 47) rfl)) (by decide) (NM.bk (wd := 6) (rmSO l Z a0 hw es h1 n0 W6.n0h F8) W6.2.2.2.1 (hw _ (List.mem_of_getElem? (i := 47) rfl)) (hw _ (List.mem_of_getElem? (i := 46) rfl)) (by decide) (by decide)) (hb hby dCO_14) (pc' := 17) rfl hml (argsL := []) rfl (lenOf pd_9078d8d4 rfl) rfl (Nat.le_of_ble_eq_true rfl) (by decide) (by decide) (fun _ _ _ q => pu_of q) ?_
  intro T7 L7 W7
  show Go p e below _ T7 (mkF m 17 #[.val (.int z)] [(.ref es), (.ref em), (.ref ei), (.ref em), (.int z), (.ref a1), (.ref a1)])
  refine W7.callI (y := (⟨"com/example/mandible/mandible/property/CallScope", "<init>", "(ZLjava/util/Map;Ljava/util/List;Ljava/util/Map;Ljava/util/Set;)V"⟩ : MethodName)) rfl (hw _ (List.mem_of_getElem? (i := 49) rfl)) (hw _ (List.mem_of_getElem? (i := 50) rfl)) (hw _ (List.mem_of_getElem? (i := 51) rfl)) (by decide) (NM.bk (wd := 1) (rmCI l Z a0 hw a1 em ei em es z h1 n0 W7.n0h gn1 A1 D1_inheritAll D1_fixed D1_parameters D1_fromSets D1_notInherited hzb) W7.2.2.2.1 (hw _ (List.mem_of_getElem? (i := 51) rfl)) (hw _ (List.mem_of_getElem? (i := 29) rfl)) (by decide) (by decide)) (hb hby dCO_17) (pc' := 20) rfl hml (a := a1) (argsL := [(.int z), (.ref em), (.ref ei), (.ref em), (.ref es)]) rfl (lenOf pd_c44af172 rfl) rfl (Nat.le_of_ble_eq_true rfl) (by decide) (by decide) (ws' := [a1]) (fun _ _ _ q => ⟨q.2.2, q.2.1⟩) (allS (Or.inr ge1) all0) ?_
  intro v9 T9 h9 L9' L9 W9 Q9 K9
  have z9 := K9.1
  obtain ⟨⟨rfl, A9, B9_0, B9_1, B9_2, B9_3, B9_4⟩, -, -⟩ := Q9
  show Go p e below _ T9 (mkF m 20 #[.val (.int z)] [(.ref a1)])
  exact W9.retA hret rfl rfl (hb hby dCO_20) (by decide) (by decide) ⟨a1, rfl, A9, B9_0, B9_1, B9_2, B9_3, B9_4⟩
theorem dIA_0 : decode prog_23_method_7_code 0 = .ok (.aload_n 0, 1) := by decide +kernel
theorem dIA_1 : decode prog_23_method_7_code 1 = .ok (.getfield 7, 3) := by decide +kernel
theorem dIA_4 : decode prog_23_method_7_code 4 = .ok (.ireturn, 1) := by decide +kernel
theorem pn_IA : plainFor (⟨"com/example/mandible/mandible/property/CallScope", "inheritsAll", "()Z"⟩ : MethodName) = true := by first | exact plainFor_of_name (by first | (simp [plainName, overriddenIn]; done) | decide +kernel) | decide +kernel
set_option maxRecDepth 65536 in
set_option maxHeartbeats 40000000 in
theorem rmIA (l : Launch) (Z : State) (a0 : Array Value) (hw : ∀ d ∈ tables_1, d.before a0 Z = true) (a : Addr) (z : Int32) (h0 : Heap) (n0 : Nat) (Z0 : n0 ≤ h0.size) (FG : Fld Z h0 a "com/example/mandible/mandible/property/CallScope" "inheritAll" "Z" (.int z)) (hzb : z = 0 ∨ z = 1) :
    NM l (⟨"com/example/mandible/mandible/property/CallScope", "inheritsAll", "()Z"⟩ : MethodName) prog_23_method_7_code 1 (some .boolean) [] ({ frames := 0, cells := 0, slots := 0, locals := 0 } : Room) Z n0 #[(.ref a)] h0 [] (Pu (some (.int z)) h0) := by
  refine NM.walk (Ls := #[.val (.ref a)]) pn_IA Z0 (fun m => by first | (simp [entryFrame, mkF, argsToLocals, Value.category]; done) | rfl) ?_
  intro p e s m below meth c s₁ hby hml hret hnm W0
  refine W0.aloadN (hb hby dIA_0) rfl rfl (pc' := 1) rfl ?_
  refine W0.getF (host := "") (Or.inl (hw _ (List.mem_of_getElem? (i := 53) rfl))) Via.refl FG (hb hby dIA_1) (pc' := 4) rfl ?_
  intro T1 W1
  exact W1.retZ hret (hb hby dIA_4) hzb (by decide) (by decide) ⟨rfl, rfl⟩
theorem dGF_0 : decode prog_23_method_8_code 0 = .ok (.aload_n 0, 1) := by decide +kernel
theorem dGF_1 : decode prog_23_method_8_code 1 = .ok (.getfield 13, 3) := by decide +kernel
theorem dGF_4 : decode prog_23_method_8_code 4 = .ok (.areturn, 1) := by decide +kernel
theorem pn_GF : plainFor (⟨"com/example/mandible/mandible/property/CallScope", "fixed", "()Ljava/util/Map;"⟩ : MethodName) = true := by first | exact plainFor_of_name (by first | (simp [plainName, overriddenIn]; done) | decide +kernel) | decide +kernel
set_option maxRecDepth 65536 in
set_option maxHeartbeats 40000000 in
theorem rmGF (l : Launch) (Z : State) (a0 : Array Value) (hw : ∀ d ∈ tables_1, d.before a0 Z = true) (a x : Addr) (h0 : Heap) (n0 : Nat) (Z0 : n0 ≤ h0.size) (FG : Fld Z h0 a "com/example/mandible/mandible/property/CallScope" "fixed" "Ljava/util/Map;" (.ref x)) :
    NM l (⟨"com/example/mandible/mandible/property/CallScope", "fixed", "()Ljava/util/Map;"⟩ : MethodName) prog_23_method_8_code 1 (some (.object "java/util/Map")) [] ({ frames := 0, cells := 0, slots := 0, locals := 0 } : Room) Z n0 #[(.ref a)] h0 [] (Pu (some (.ref x)) h0) := by
  refine NM.walk (Ls := #[.val (.ref a)]) pn_GF Z0 (fun m => by first | (simp [entryFrame, mkF, argsToLocals, Value.category]; done) | rfl) ?_
  intro p e s m below meth c s₁ hby hml hret hnm W0
  refine W0.aloadN (hb hby dGF_0) rfl rfl (pc' := 1) rfl ?_
  refine W0.getF (host := "") (Or.inl (hw _ (List.mem_of_getElem? (i := 55) rfl))) Via.refl FG (hb hby dGF_1) (pc' := 4) rfl ?_
  intro T1 W1
  exact W1.retA hret rfl rfl (hb hby dGF_4) (by decide) (by decide) ⟨rfl, rfl⟩
theorem dGP_0 : decode prog_23_method_9_code 0 = .ok (.aload_n 0, 1) := by decide +kernel
theorem dGP_1 : decode prog_23_method_9_code 1 = .ok (.getfield 17, 3) := by decide +kernel
theorem dGP_4 : decode prog_23_method_9_code 4 = .ok (.areturn, 1) := by decide +kernel
theorem pn_GP : plainFor (⟨"com/example/mandible/mandible/property/CallScope", "parameters", "()Ljava/util/List;"⟩ : MethodName) = true := by first | exact plainFor_of_name (by first | (simp [plainName, overriddenIn]; done) | decide +kernel) | decide +kernel
set_option maxRecDepth 65536 in
set_option maxHeartbeats 40000000 in
theorem rmGP (l : Launch) (Z : State) (a0 : Array Value) (hw : ∀ d ∈ tables_1, d.before a0 Z = true) (a x : Addr) (h0 : Heap) (n0 : Nat) (Z0 : n0 ≤ h0.size) (FG : Fld Z h0 a "com/example/mandible/mandible/property/CallScope" "parameters" "Ljava/util/List;" (.ref x)) :
    NM l (⟨"com/example/mandible/mandible/property/CallScope", "parameters", "()Ljava/util/List;"⟩ : MethodName) prog_23_method_9_code 1 (some (.object "java/util/List")) [] ({ frames := 0, cells := 0, slots := 0, locals := 0 } : Room) Z n0 #[(.ref a)] h0 [] (Pu (some (.ref x)) h0) := by
  refine NM.walk (Ls := #[.val (.ref a)]) pn_GP Z0 (fun m => by first | (simp [entryFrame, mkF, argsToLocals, Value.category]; done) | rfl) ?_
  intro p e s m below meth c s₁ hby hml hret hnm W0
  refine W0.aloadN (hb hby dGP_0) rfl rfl (pc' := 1) rfl ?_
  refine W0.getF (host := "") (Or.inl (hw _ (List.mem_of_getElem? (i := 57) rfl))) Via.refl FG (hb hby dGP_1) (pc' := 4) rfl ?_
  intro T1 W1
  exact W1.retA hret rfl rfl (hb hby dGP_4) (by decide) (by decide) ⟨rfl, rfl⟩
theorem dGS_0 : decode prog_23_method_10_code 0 = .ok (.aload_n 0, 1) := by decide +kernel
theorem dGS_1 : decode prog_23_method_10_code 1 = .ok (.getfield 21, 3) := by decide +kernel
theorem dGS_4 : decode prog_23_method_10_code 4 = .ok (.areturn, 1) := by decide +kernel
theorem pn_GS : plainFor (⟨"com/example/mandible/mandible/property/CallScope", "fromSets", "()Ljava/util/Map;"⟩ : MethodName) = true := by first | exact plainFor_of_name (by first | (simp [plainName, overriddenIn]; done) | decide +kernel) | decide +kernel
set_option maxRecDepth 65536 in
set_option maxHeartbeats 40000000 in
theorem rmGS (l : Launch) (Z : State) (a0 : Array Value) (hw : ∀ d ∈ tables_1, d.before a0 Z = true) (a x : Addr) (h0 : Heap) (n0 : Nat) (Z0 : n0 ≤ h0.size) (FG : Fld Z h0 a "com/example/mandible/mandible/property/CallScope" "fromSets" "Ljava/util/Map;" (.ref x)) :
    NM l (⟨"com/example/mandible/mandible/property/CallScope", "fromSets", "()Ljava/util/Map;"⟩ : MethodName) prog_23_method_10_code 1 (some (.object "java/util/Map")) [] ({ frames := 0, cells := 0, slots := 0, locals := 0 } : Room) Z n0 #[(.ref a)] h0 [] (Pu (some (.ref x)) h0) := by
  refine NM.walk (Ls := #[.val (.ref a)]) pn_GS Z0 (fun m => by first | (simp [entryFrame, mkF, argsToLocals, Value.category]; done) | rfl) ?_
  intro p e s m below meth c s₁ hby hml hret hnm W0
  refine W0.aloadN (hb hby dGS_0) rfl rfl (pc' := 1) rfl ?_
  refine W0.getF (host := "") (Or.inl (hw _ (List.mem_of_getElem? (i := 59) rfl))) Via.refl FG (hb hby dGS_1) (pc' := 4) rfl ?_
  intro T1 W1
  exact W1.retA hret rfl rfl (hb hby dGS_4) (by decide) (by decide) ⟨rfl, rfl⟩
theorem dRN_0 : decode jdk_31_method_10_code 0 = .ok (.aload_n 0, 1) := by decide +kernel
theorem dRN_1 : decode jdk_31_method_10_code 1 = .ok (.ifnonnull 11, 3) := by decide +kernel
theorem dRN_12 : decode jdk_31_method_10_code 12 = .ok (.aload_n 0, 1) := by decide +kernel
theorem dRN_13 : decode jdk_31_method_10_code 13 = .ok (.areturn, 1) := by decide +kernel
theorem pn_RN : plainFor (⟨"java/util/Objects", "requireNonNull", "(Ljava/lang/Object;)Ljava/lang/Object;"⟩ : MethodName) = true := by first | exact plainFor_of_name (by first | (simp [plainName, overriddenIn]; done) | decide +kernel) | decide +kernel
set_option maxRecDepth 65536 in
set_option maxHeartbeats 40000000 in
theorem rmRN (l : Launch) (Z : State) (a0 : Array Value) (hw : ∀ d ∈ tables_1, d.before a0 Z = true) (a : Addr) (h0 : Heap) (n0 : Nat) (Z0 : n0 ≤ h0.size)  :
    NM l (⟨"java/util/Objects", "requireNonNull", "(Ljava/lang/Object;)Ljava/lang/Object;"⟩ : MethodName) jdk_31_method_10_code 1 (some (.object "java/lang/Object")) [] ({ frames := 0, cells := 0, slots := 0, locals := 0 } : Room) Z n0 #[(.ref a)] h0 [] (Pu (some (.ref a)) h0) := by
  refine NM.walk (Ls := #[.val (.ref a)]) pn_RN Z0 (fun m => by first | (simp [entryFrame, mkF, argsToLocals, Value.category]; done) | rfl) ?_
  intro p e s m below meth c s₁ hby hml hret hnm W0
  refine W0.aloadN (hb hby dRN_0) rfl rfl (pc' := 1) rfl ?_
  refine W0.ifnonnullYes (hb hby dRN_1) (by decide) (pc' := 12) (by decide) ?_
  refine W0.aloadN (hb hby dRN_12) rfl rfl (pc' := 13) rfl ?_
  exact W0.retA hret rfl rfl (hb hby dRN_13) (by decide) (by decide) ⟨rfl, rfl⟩
theorem dCT_0 : decode jdk_132_method_4_code 0 = .ok (.aload_n 1, 1) := by decide +kernel
theorem dCT_1 : decode jdk_132_method_4_code 1 = .ok (.invokestatic 46, 3) := by decide +kernel
theorem pd_c2743d7f : parseMethodDescriptor "(Ljava/lang/Object;)Ljava/lang/Object;" = some ⟨[(.object "java/lang/Object")], some (.object "java/lang/Object")⟩ := by decide +kernel
theorem dCT_4 : decode jdk_132_method_4_code 4 = .ok (.pop, 1) := by decide +kernel
theorem dCT_5 : decode jdk_132_method_4_code 5 = .ok (.aload_n 0, 1) := by decide +kernel
theorem dCT_6 : decode jdk_132_method_4_code 6 = .ok (.getfield 9, 3) := by decide +kernel
theorem dCT_9 : decode jdk_132_method_4_code 9 = .ok (.ifCond .le 15, 3) := by decide +kernel
theorem dCT_24 : decode jdk_132_method_4_code 24 = .ok (.iconst 0, 1) := by decide +kernel
theorem dCT_25 : decode jdk_132_method_4_code 25 = .ok (.ireturn, 1) := by decide +kernel
theorem pn_CT : plainFor (⟨"java/util/ImmutableCollections$SetN", "contains", "(Ljava/lang/Object;)Z"⟩ : MethodName) = true := by first | exact plainFor_of_name (by first | (simp [plainName, overriddenIn]; done) | decide +kernel) | decide +kernel
set_option maxRecDepth 65536 in
set_option maxHeartbeats 40000000 in
theorem rmCT (l : Launch) (Z : State) (a0 : Array Value) (hw : ∀ d ∈ tables_1, d.before a0 Z = true) (es x : Addr) (h0 : Heap) (n0 : Nat) (Z0 : n0 ≤ h0.size) (Fes : Fld Z h0 es "java/util/ImmutableCollections$SetN" "size" "I" (.int (0 : Int32))) :
    NM l (⟨"java/util/ImmutableCollections$SetN", "contains", "(Ljava/lang/Object;)Z"⟩ : MethodName) jdk_132_method_4_code 2 (some .boolean) [] ({ frames := 1, cells := 0, slots := 0, locals := 13 } : Room) Z n0 #[(.ref es), (.ref x)] h0 [] (Pu (some (.int (0 : Int32))) h0) := by
  refine NM.walk (Ls := #[.val (.ref es), .val (.ref x)]) pn_CT Z0 (fun m => by first | (simp [entryFrame, mkF, argsToLocals, Value.category]; done) | rfl) ?_
  intro p e s m below meth c s₁ hby hml hret hnm W0
  refine W0.aloadN (hb hby dCT_0) rfl rfl (pc' := 1) rfl ?_
  refine W0.callSP (hw _ (List.mem_of_getElem? (i := 83) rfl)) (hw _ (List.mem_of_getElem? (i := 84) rfl)) (hw _ (List.mem_of_getElem? (i := 85) rfl)) (hw _ (List.mem_of_getElem? (i := 86) rfl)) (by decide) (NM.bk (wd := 0) (rmRN l Z a0 hw x h0 n0 W0.n0h ) W0.2.2.2.1 (hw _ (List.mem_of_getElem? (i := 86) rfl)) (hw _ (List.mem_of_getElem? (i := 85) rfl)) (by decide) (by decide)) (hb hby dCT_1) (pc' := 4) rfl hml (argsL := [(.ref x)]) rfl (lenOf pd_c2743d7f rfl) rfl (Nat.le_of_ble_eq_true rfl) (by decide) (by decide) (fun _ _ _ q => pu_of q) ?_
  intro T1 L1 W1
  show Go p e below _ T1 (mkF m 4 #[.val (.ref es), .val (.ref x)] [(.ref x)])
  refine W1.pop (hb hby dCT_4) rfl (pc' := 5) rfl ?_
  refine W1.aloadN (hb hby dCT_5) rfl rfl (pc' := 6) rfl ?_
  refine W1.getF (host := "") (Or.inl (hw _ (List.mem_of_getElem? (i := 87) rfl))) Via.refl Fes (hb hby dCT_6) (pc' := 9) rfl ?_
  intro T2 W2
  refine W2.ifYes (hb hby dCT_9) (XT.i0_le_t (by decide)) (by decide) (pc' := 24) (by decide) ?_
  refine W2.iconst (0 : Int32) (hb hby dCT_24) rfl (pc' := 25) rfl ?_
  exact W2.retZ hret (hb hby dCT_25) (by decide) (by decide) (by decide) ⟨rfl, rfl⟩
theorem dME_0 : decode jdk_2605_method_7_code 0 = .ok (.aload_n 0, 1) := by decide +kernel
theorem dME_1 : decode jdk_2605_method_7_code 1 = .ok (.getfield 16, 3) := by decide +kernel
theorem dME_4 : decode jdk_2605_method_7_code 4 = .ok (.ifCond .ne 7, 3) := by decide +kernel
theorem dME_7 : decode jdk_2605_method_7_code 7 = .ok (.iconst 1, 1) := by decide +kernel
theorem dME_8 : decode jdk_2605_method_7_code 8 = .ok (.goto 4, 3) := by decide +kernel
theorem dME_12 : decode jdk_2605_method_7_code 12 = .ok (.ireturn, 1) := by decide +kernel
theorem pn_ME : plainFor (⟨"java/util/ImmutableCollections$MapN", "isEmpty", "()Z"⟩ : MethodName) = true := by first | exact plainFor_of_name (by first | (simp [plainName, overriddenIn]; done) | decide +kernel) | decide +kernel
set_option maxRecDepth 65536 in
set_option maxHeartbeats 40000000 in
theorem rmME (l : Launch) (Z : State) (a0 : Array Value) (hw : ∀ d ∈ tables_1, d.before a0 Z = true) (em : Addr) (h0 : Heap) (n0 : Nat) (Z0 : n0 ≤ h0.size) (Fem : Fld Z h0 em "java/util/ImmutableCollections$MapN" "size" "I" (.int (0 : Int32))) :
    NM l (⟨"java/util/ImmutableCollections$MapN", "isEmpty", "()Z"⟩ : MethodName) jdk_2605_method_7_code 1 (some .boolean) [] ({ frames := 0, cells := 0, slots := 0, locals := 0 } : Room) Z n0 #[(.ref em)] h0 [] (Pu (some (.int (1 : Int32))) h0) := by
  refine NM.walk (Ls := #[.val (.ref em)]) pn_ME Z0 (fun m => by first | (simp [entryFrame, mkF, argsToLocals, Value.category]; done) | rfl) ?_
  intro p e s m below meth c s₁ hby hml hret hnm W0
  refine W0.aloadN (hb hby dME_0) rfl rfl (pc' := 1) rfl ?_
  refine W0.getF (host := "") (Or.inl (hw _ (List.mem_of_getElem? (i := 104) rfl))) Via.refl Fem (hb hby dME_1) (pc' := 4) rfl ?_
  intro T1 W1
  refine W1.ifNo (hb hby dME_4) (XT.i0_ne_f (by decide)) (pc' := 7) rfl ?_
  refine W1.iconst (1 : Int32) (hb hby dME_7) rfl (pc' := 8) rfl ?_
  refine W1.goto (hb hby dME_8) (by decide) (pc' := 12) (by decide) ?_
  exact W1.retZ hret (hb hby dME_12) (by decide) (by decide) (by decide) ⟨rfl, rfl⟩
theorem dLZ_0 : decode jdk_45_method_3_code 0 = .ok (.aload_n 0, 1) := by decide +kernel
theorem dLZ_1 : decode jdk_45_method_3_code 1 = .ok (.getfield 7, 3) := by decide +kernel
theorem dLZ_4 : decode jdk_45_method_3_code 4 = .ok (.arraylength, 1) := by decide +kernel
theorem dLZ_5 : decode jdk_45_method_3_code 5 = .ok (.ireturn, 1) := by decide +kernel
theorem pn_LZ : plainFor (⟨"java/util/ImmutableCollections$ListN", "size", "()I"⟩ : MethodName) = true := by first | exact plainFor_of_name (by first | (simp [plainName, overriddenIn]; done) | decide +kernel) | decide +kernel
set_option maxRecDepth 65536 in
set_option maxHeartbeats 40000000 in
theorem rmLZ (l : Launch) (Z : State) (a0 : Array Value) (hw : ∀ d ∈ tables_1, d.before a0 Z = true) (ei ea : Addr) (ke : ClassId) (h0 : Heap) (n0 : Nat) (Z0 : n0 ≤ h0.size) (Fei : Fld Z h0 ei "java/util/ImmutableCollections$ListN" "elements" "[Ljava/lang/Object;" (.ref ea)) (Aea : Arv Z h0 ea ke (.object "java/lang/Object") (0 : Int32) [] .null) :
    NM l (⟨"java/util/ImmutableCollections$ListN", "size", "()I"⟩ : MethodName) jdk_45_method_3_code 1 (some .int) [] ({ frames := 0, cells := 0, slots := 0, locals := 0 } : Room) Z n0 #[(.ref ei)] h0 [] (Pu (some (.int (0 : Int32))) h0) := by
  refine NM.walk (Ls := #[.val (.ref ei)]) pn_LZ Z0 (fun m => by first | (simp [entryFrame, mkF, argsToLocals, Value.category]; done) | rfl) ?_
  intro p e s m below meth c s₁ hby hml hret hnm W0
  refine W0.aloadN (hb hby dLZ_0) rfl rfl (pc' := 1) rfl ?_
  refine W0.getF (host := "") (Or.inl (hw _ (List.mem_of_getElem? (i := 121) rfl))) Via.refl Fei (hb hby dLZ_1) (pc' := 4) rfl ?_
  intro T1 W1
  refine W1.arraylength Aea (hb hby dLZ_4) (pc' := 5) rfl ?_
  exact W1.retI hret (hb hby dLZ_5) (by decide) (by decide) ⟨rfl, rfl⟩
theorem dIH_0 : decode prog_23_method_11_code 0 = .ok (.aload_n 0, 1) := by decide +kernel
theorem dIH_1 : decode prog_23_method_11_code 1 = .ok (.getfield 24, 3) := by decide +kernel
theorem dIH_4 : decode prog_23_method_11_code 4 = .ok (.aload_n 1, 1) := by decide +kernel
theorem dIH_5 : decode prog_23_method_11_code 5 = .ok (.invokeinterface 66 2, 5) := by decide +kernel
theorem pd_67f3b2e8 : parseMethodDescriptor "(Ljava/lang/Object;)Z" = some ⟨[(.object "java/lang/Object")], some .boolean⟩ := by decide +kernel
theorem dIH_10 : decode prog_23_method_11_code 10 = .ok (.ifCond .ne 7, 3) := by decide +kernel
theorem dIH_13 : decode prog_23_method_11_code 13 = .ok (.iconst 1, 1) := by decide +kernel
theorem dIH_14 : decode prog_23_method_11_code 14 = .ok (.goto 4, 3) := by decide +kernel
theorem dIH_18 : decode prog_23_method_11_code 18 = .ok (.ireturn, 1) := by decide +kernel
theorem pn_IH : plainFor (⟨"com/example/mandible/mandible/property/CallScope", "inherits", "(Ljava/lang/String;)Z"⟩ : MethodName) = true := by first | exact plainFor_of_name (by first | (simp [plainName, overriddenIn]; done) | decide +kernel) | decide +kernel
set_option maxRecDepth 65536 in
set_option maxHeartbeats 40000000 in
theorem rmIH (l : Launch) (Z : State) (a0 : Array Value) (hw : ∀ d ∈ tables_1, d.before a0 Z = true) (a x es : Addr) (h0 : Heap) (n0 : Nat) (Z0 : n0 ≤ h0.size) (FG : Fld Z h0 a "com/example/mandible/mandible/property/CallScope" "notInherited" "Ljava/util/Set;" (.ref es)) (Ees : Exa Z h0 es "java/util/ImmutableCollections$SetN") (Fes : Fld Z h0 es "java/util/ImmutableCollections$SetN" "size" "I" (.int (0 : Int32))) :
    NM l (⟨"com/example/mandible/mandible/property/CallScope", "inherits", "(Ljava/lang/String;)Z"⟩ : MethodName) prog_23_method_11_code 2 (some .boolean) [] ({ frames := 2, cells := 0, slots := 0, locals := 28 } : Room) Z n0 #[(.ref a), (.ref x)] h0 [] (Pu (some (.int (1 : Int32))) h0) := by
  refine NM.walk (Ls := #[.val (.ref a), .val (.ref x)]) pn_IH Z0 (fun m => by first | (simp [entryFrame, mkF, argsToLocals, Value.category]; done) | rfl) ?_
  intro p e s m below meth c s₁ hby hml hret hnm W0
  refine W0.aloadN (hb hby dIH_0) rfl rfl (pc' := 1) rfl ?_
  refine W0.getF (host := "") (Or.inl (hw _ (List.mem_of_getElem? (i := 61) rfl))) Via.refl FG (hb hby dIH_1) (pc' := 4) rfl ?_
  intro T1 W1
  refine W1.aloadN (hb hby dIH_4) rfl rfl (pc' := 5) rfl ?_
  refine W1.callFP (C := "java/util/ImmutableCollections$SetN") (y := (⟨"java/util/Set", "contains", "(Ljava/lang/Object;)Z"⟩ : MethodName)) (z := (⟨"java/util/ImmutableCollections$SetN", "contains", "(Ljava/lang/Object;)Z"⟩ : MethodName)) (hw _ (List.mem_of_getElem? (i := 73) rfl)) (hw _ (List.mem_of_getElem? (i := 74) rfl)) (hw _ (List.mem_of_getElem? (i := 75) rfl)) (by decide) (hw _ (List.mem_of_getElem? (i := 76) rfl)) (hw _ (List.mem_of_getElem? (i := 77) rfl)) (hw _ (List.mem_of_getElem? (i := 78) rfl)) (hw _ (List.mem_of_getElem? (i := 79) rfl)) (hw _ (List.mem_of_getElem? (i := 80) rfl)) (by decide) (NM.bk (wd := 0) (rmCT l Z a0 hw es x h0 n0 W1.n0h Fes) W1.2.2.2.1 (hw _ (List.mem_of_getElem? (i := 82) rfl)) (hw _ (List.mem_of_getElem? (i := 81) rfl)) (by decide) (by decide)) Ees (hb hby dIH_5) (pc' := 10) rfl hml (argsL := [(.ref x)]) rfl (lenOf pd_67f3b2e8 rfl) rfl (Nat.le_of_ble_eq_true rfl) (by decide) (by decide) (fun _ _ _ q => pu_of q) ?_
  intro T2 L2 W2
  show Go p e below _ T2 (mkF m 10 #[.val (.ref a), .val (.ref x)] [(.int (0 : Int32))])
  refine W2.ifNo (hb hby dIH_10) (XT.i0_ne_f (by decide)) (pc' := 13) rfl ?_
  refine W2.iconst (1 : Int32) (hb hby dIH_13) rfl (pc' := 14) rfl ?_
  refine W2.goto (hb hby dIH_14) (by decide) (pc' := 18) (by decide) ?_
  exact W2.retZ hret (hb hby dIH_18) (by decide) (by decide) (by decide) ⟨rfl, rfl⟩
def inhF (p1 : Int32) : Int32 := (if (p1 &&& (1 : Int32)) = (0 : Int32) then (0 : Int32) else (1 : Int32))
theorem inh_b (p1 : Int32) : inhF p1 = 0 ∨ inhF p1 = 1 := by
  rw [inhF]; split
  · exact Or.inl rfl
  · exact Or.inr rfl
--CUT law
theorem pd_1563fcf4 : parseMethodDescriptor "(Z)Lcom/example/mandible/mandible/property/CallScope;" = some ⟨[.boolean], some (.object "com/example/mandible/mandible/property/CallScope")⟩ := by decide +kernel
theorem pd_bfe1a59d : parseMethodDescriptor "()Z" = some ⟨[], some .boolean⟩ := by decide +kernel
theorem pd_896d4e2b : parseMethodDescriptor "(Ljava/lang/String;)Z" = some ⟨[(.object "java/lang/String")], some .boolean⟩ := by decide +kernel
theorem pd_368a4b19 : parseMethodDescriptor "()I" = some ⟨[], some .int⟩ := by decide +kernel
theorem pd_abaf74b6 : parseMethodDescriptor "(C)Ljava/lang/String;" = some ⟨[.char], some (.object "java/lang/String")⟩ := by decide +kernel
theorem pd_827e2587 : parseMethodDescriptor "([C)V" = some ⟨[(.array .char)], none⟩ := by decide +kernel
theorem pn_Law : plainFor (⟨"com/example/mandible/mandible/property/CallScopeOfPinLaw", "law", "(IIII)Z"⟩ : MethodName) = true := by first | exact plainFor_of_name (by first | (simp [plainName, overriddenIn]; done) | decide +kernel) | decide +kernel
set_option maxRecDepth 65536 in
set_option maxHeartbeats 40000000 in
theorem rmLaw (l : Launch) (Z : State) (a0 : Array Value) (hw : ∀ d ∈ tables_1, d.before a0 Z = true) (hEL : EW Z a0 consts_0) (p1 p2 p3 p4 zc : Int32) (em ei es ea : Addr) (ke : ClassId) (h0 : Heap) (n0 : Nat) (Z0 : n0 ≤ h0.size)  (SC : Sta Z h0 "java/lang/String" "COMPACT_STRINGS" "Z" (.int zc)) (hz : ¬ zc = 0) (Sem : Sta Z h0 "java/util/ImmutableCollections" "EMPTY_MAP" "Ljava/util/ImmutableCollections$MapN;" (.ref em)) (Eem : Exa Z h0 em "java/util/ImmutableCollections$MapN") (Sei : Sta Z h0 "java/util/ImmutableCollections" "EMPTY_LIST" "Ljava/util/ImmutableCollections$ListN;" (.ref ei)) (Eei : Exa Z h0 ei "java/util/ImmutableCollections$ListN") (Ses : Sta Z h0 "java/util/ImmutableCollections" "EMPTY_SET" "Ljava/util/ImmutableCollections$SetN;" (.ref es)) (Ees : Exa Z h0 es "java/util/ImmutableCollections$SetN") (Fem : Fld Z h0 em "java/util/ImmutableCollections$MapN" "size" "I" (.int (0 : Int32))) (Fes : Fld Z h0 es "java/util/ImmutableCollections$SetN" "size" "I" (.int (0 : Int32))) (Fei : Fld Z h0 ei "java/util/ImmutableCollections$ListN" "elements" "[Ljava/lang/Object;" (.ref ea)) (Aea : Arv Z h0 ea ke (.object "java/lang/Object") (0 : Int32) [] .null) :
    WM l x code maxLocals ret tables_1 room_1 Z consts_0 n0 #[(.int p1), (.int p2), (.int p3), (.int p4)] h0 [] (fun v h => v = some (.int 1) ∧ True) := by
  refine WM.walk (Ls := #[.val (.int p1), .val (.int p2), .val (.int p3), .val (.int p4), .unset, .unset, .unset, .unset, .unset, .unset, .unset]) pn_Law Z0 (fun m => by first | (simp [entryFrame, mkF, argsToLocals, Value.category, maxLocals]; done) | rfl) ?_
  intro p e s m below meth c s₁ hby hml hret hnm W0
  have hwS : ∀ d ∈ Bundle.stringAtoms, d.before a0 Z = true := fun d hd => hw d (hwAtoms d hd)
  have hws : ∀ d ∈ StrChars.Road.words, d.before a0 Z = true := fun d hd => hw d (hwords d hd)
  suffices kk1 : ∀ (T' : State) (L' : List Loc), WK consts_0 p l e room_1 s m #[(.int p1), (.int p2), (.int p3), (.int p4)] below meth c Z "com/example/mandible/mandible/property/CallScopeOfPinLaw" n0 h0 [] T' h0 s.vm L' 0 0 → Go p e below _ T' (mkF m 11 #[.val (.int p1), .val (.int p2), .val (.int p3), .val (.int p4), .unset, .unset, .unset, .unset, .unset, .unset, .unset] [(.int (inhF p1))]) by
    refine W0.1.iloadN (hb hby at_0) rfl (pc' := 1) rfl ?_
    refine W0.1.iconst (1 : Int32) (hb hby at_1) rfl (pc' := 2) rfl ?_
    refine W0.1.iand (hb hby at_2) (pc' := 3) rfl ?_
    by_cases hc2 : (p1 &&& (1 : Int32)) = (0 : Int32)
    · refine W0.1.ifYes (hb hby at_3) (XT.i0_eq_t hc2) (by decide) (pc' := 10) (by decide) ?_
      refine W0.1.iconst (0 : Int32) (hb hby at_10) rfl (pc' := 11) rfl ?_
      have q1 := kk1 _ _ W0
      rw [show (inhF p1) = (0 : Int32) from by rw [inhF, if_pos hc2]] at q1
      exact q1
    · refine W0.1.ifNo (hb hby at_3) (XT.i0_eq_f hc2) (pc' := 6) rfl ?_
      refine W0.1.iconst (1 : Int32) (hb hby at_6) rfl (pc' := 7) rfl ?_
      refine W0.1.goto (hb hby at_7) (by decide) (pc' := 11) (by decide) ?_
      have q1 := kk1 _ _ W0
      rw [show (inhF p1) = (1 : Int32) from by rw [inhF, if_neg hc2]] at q1
      exact q1
  intro T1 L1 W1
  refine W1.1.istore (Ls' := #[.val (.int p1), .val (.int p2), .val (.int p3), .val (.int p4), .val (.int (inhF p1)), .unset, .unset, .unset, .unset, .unset, .unset]) (hb hby at_11) rfl (pc' := 13) rfl ?_
  refine W1.1.iloadN (hb hby at_13) rfl (pc' := 14) rfl ?_
  refine W1.1.sipush (255 : Int32) (hb hby at_14) rfl (pc' := 17) rfl ?_
  refine W1.1.iand (hb hby at_17) (pc' := 18) rfl ?_
  refine W1.1.i2c (hb hby at_18) (pc' := 19) rfl ?_
  refine lets (P := fun z => Go _ _ _ _ _ (mkF m 19 #[.val (.int p1), .val (.int p2), .val (.int p3), .val (.int p4), .val (.int (inhF p1)), .unset, .unset, .unset, .unset, .unset, .unset] [(.int z)])) (i2c (p2 &&& (255 : Int32))) ?_
  intro u0 hu0
  refine W1.1.istore (Ls' := #[.val (.int p1), .val (.int p2), .val (.int p3), .val (.int p4), .val (.int (inhF p1)), .val (.int u0), .unset, .unset, .unset, .unset, .unset]) (hb hby at_19) rfl (pc' := 21) rfl ?_
  refine W1.1.iloadN (hb hby at_21) rfl (pc' := 22) rfl ?_
  refine W1.1.sipush (255 : Int32) (hb hby at_22) rfl (pc' := 25) rfl ?_
  refine W1.1.iand (hb hby at_25) (pc' := 26) rfl ?_
  refine W1.1.i2c (hb hby at_26) (pc' := 27) rfl ?_
  refine lets (P := fun z => Go _ _ _ _ _ (mkF m 27 #[.val (.int p1), .val (.int p2), .val (.int p3), .val (.int p4), .val (.int (inhF p1)), .val (.int u0), .unset, .unset, .unset, .unset, .unset] [(.int z)])) (i2c (p3 &&& (255 : Int32))) ?_
  intro u1 hu1
  refine W1.1.istore (Ls' := #[.val (.int p1), .val (.int p2), .val (.int p3), .val (.int p4), .val (.int (inhF p1)), .val (.int u0), .val (.int u1), .unset, .unset, .unset, .unset]) (hb hby at_27) rfl (pc' := 29) rfl ?_
  refine W1.1.iconst (2 : Int32) (hb hby at_29) rfl (pc' := 30) rfl ?_
  refine W1.1.newP (hw _ (List.mem_of_getElem? (i := 0) rfl)) (hb hby at_30) (pc' := 32) rfl (by decide) (cap := 2) (by decide) (by decide) (by decide) (by decide) ?_
  intro T3 h3 a3 k3 g3 ge3 gn3 N3 E3 V3'
  have V3 : Arv Z h3 a3 k3 .char (2 : Int32) [(.int (0 : Int32)), (.int (0 : Int32))] (.int (0 : Int32)) := V3'
  have z3 := E3.1
  have y3 := Nat.le_of_eq g3.symm
  have W3 := W1.upE N3 E3
  refine W3.1.dup (hb hby at_32) rfl (pc' := 33) rfl ?_
  refine W3.1.iconst (0 : Int32) (hb hby at_33) rfl (pc' := 34) rfl ?_
  refine W3.1.iload (hb hby at_34) rfl (pc' := 36) rfl ?_
  refine W3.1.stC V3 (hb hby at_36) (pc' := 37) rfl (by rw [hu0]; exact nar_lat (lat_and _)) 0 rfl (Nat.le_of_ble_eq_true rfl) (by decide) (Or.inr ge3) gn3 ?_
  intro T4 h4 L4 N4 K4 V4'
  have V4 : Arv Z h4 a3 k3 .char (2 : Int32) [(.int u0), (.int (0 : Int32))] (.int (0 : Int32)) := V4'
  have z4 := K4.1
  have W4 := W3.up N4 K4 (sfS (Safe.arv (EL := consts_0) W3.1.2.2.2.1.alike V3 (by decide)) sf0)
  refine W4.1.dup (hb hby at_37) rfl (pc' := 38) rfl ?_
  refine W4.1.iconst (1 : Int32) (hb hby at_38) rfl (pc' := 39) rfl ?_
  refine W4.1.iload (hb hby at_39) rfl (pc' := 41) rfl ?_
  refine W4.1.stC V4 (hb hby at_41) (pc' := 42) rfl (by rw [hu1]; exact nar_lat (lat_and _)) 1 rfl (Nat.le_of_ble_eq_true rfl) (by decide) (Or.inr ge3) gn3 ?_
  intro T5 h5 L5 N5 K5 V5'
  have V5 : Arv Z h5 a3 k3 .char (2 : Int32) [(.int u0), (.int u1)] (.int (0 : Int32)) := V5'
  have z5 := K5.1
  have W5 := W4.up N5 K5 (sfS (Safe.arv (EL := consts_0) W4.1.2.2.2.1.alike V4 (by decide)) sf0)
  refine W5.1.astore (Ls' := #[.val (.int p1), .val (.int p2), .val (.int p3), .val (.int p4), .val (.int (inhF p1)), .val (.int u0), .val (.int u1), .val (.ref a3), .unset, .unset, .unset]) (hb hby at_42) rfl rfl (pc' := 44) rfl ?_
  refine W5.1.iloadN (hb hby at_44) rfl (pc' := 45) rfl ?_
  refine W5.1.iconst (3 : Int32) (hb hby at_45) rfl (pc' := 46) rfl ?_
  refine W5.1.iand (hb hby at_46) (pc' := 47) rfl ?_
  refine lets (P := fun z => Go _ _ _ _ _ (mkF m 47 #[.val (.int p1), .val (.int p2), .val (.int p3), .val (.int p4), .val (.int (inhF p1)), .val (.int u0), .val (.int u1), .val (.ref a3), .unset, .unset, .unset] [(.int z)])) (p4 &&& (3 : Int32)) ?_
  intro k hk
  refine W5.1.istore (Ls' := #[.val (.int p1), .val (.int p2), .val (.int p3), .val (.int p4), .val (.int (inhF p1)), .val (.int u0), .val (.int u1), .val (.ref a3), .val (.int k), .unset, .unset]) (hb hby at_47) rfl (pc' := 49) rfl ?_
  refine W5.1.iload (hb hby at_49) rfl (pc' := 51) rfl ?_
  by_cases hc6 : k = (0 : Int32)
  · refine W5.1.ifNo (hb hby at_51) (XT.i0_ne_f hc6) (pc' := 54) rfl ?_
    refine W5.ldcO hEL (hw _ (List.mem_of_getElem? (i := 145) rfl)) hwS (hb hby at_54) (pc' := 56) rfl (n := 0) (by decide) (by decide) (by decide) (by decide) ?_
    intro T7 h7 vm7 a7 W7 E7
    have z7 := E7.1
    refine W7.1.astore (Ls' := #[.val (.int p1), .val (.int p2), .val (.int p3), .val (.int p4), .val (.int (inhF p1)), .val (.int u0), .val (.int u1), .val (.ref a3), .val (.int k), .val (.ref a7), .unset]) (hb hby at_56) rfl rfl (pc' := 58) rfl ?_
    refine W7.1.goto (hb hby at_58) (by decide) (pc' := 88) (by decide) ?_
    refine W7.1.iload (hb hby at_88) rfl (pc' := 90) rfl ?_
    have X0_4_9 : Ext h0 h7 := Keep.toExt (((((Keep.refl h0 []).ext E3).trans K4 (allS (Or.inr (by have := y3; omega)) all0)).trans K5 (allS (Or.inr (by have := y3; omega)) all0)).ext E7)
    have zX0_4_9 := X0_4_9.1
    have F10 := Sta.ext X0_4_9 Sem
    have F11 := Exa.ext X0_4_9 Eem
    have F12 := Sta.ext X0_4_9 Sei
    have F13 := Exa.ext X0_4_9 Eei
    have F14 := Sta.ext X0_4_9 Ses
    have F15 := Exa.ext X0_4_9 Ees
    have F16 := Fld.ext X0_4_9 Fem
    have F17 := Fld.ext X0_4_9 Fes
    have F18 := Fld.ext X0_4_9 Fei
    have F19 := Arv.ext Aea X0_4_9
    refine W7.1.callS (hw _ (List.mem_of_getElem? (i := 27) rfl)) (hw _ (List.mem_of_getElem? (i := 28) rfl)) (hw _ (List.mem_of_getElem? (i := 29) rfl)) (hw _ (List.mem_of_getElem? (i := 30) rfl)) (by decide) (NM.bk (wd := 0) (rmCO l Z a0 hw (inhF p1) em ei es ea ke h7 n0 W7.1.n0h (inh_b p1) F10 F11 F12 F13 F14 F15 F16 F17 F18 F19) W7.1.2.2.2.1 (hw _ (List.mem_of_getElem? (i := 30) rfl)) (hw _ (List.mem_of_getElem? (i := 29) rfl)) (by decide) (by decide)) (hb hby at_90) (pc' := 93) rfl hml (argsL := [(.int (inhF p1))]) rfl (lenOf pd_1563fcf4 rfl) rfl (Nat.le_of_ble_eq_true rfl) (by decide) (by decide) (ws' := []) (fun _ _ _ q => ⟨q.2.2, q.2.1⟩) all0 ?_
    intro v8 T8 h8 L8' L8 N8 Q8 K8
    have W8 := W7.up N8 K8 sf0
    have z8 := K8.1
    obtain ⟨⟨a8, rfl, A8, B8_0, B8_1, B8_2, B8_3, B8_4⟩, -, -⟩ := Q8
    show Go p e below _ T8 (mkF m 93 #[.val (.int p1), .val (.int p2), .val (.int p3), .val (.int p4), .val (.int (inhF p1)), .val (.int u0), .val (.int u1), .val (.ref a3), .val (.int k), .val (.ref a7), .unset] [(.ref a8)])
    refine W8.1.astore (Ls' := #[.val (.int p1), .val (.int p2), .val (.int p3), .val (.int p4), .val (.int (inhF p1)), .val (.int u0), .val (.int u1), .val (.ref a3), .val (.int k), .val (.ref a7), .val (.ref a8)]) (hb hby at_93) rfl rfl (pc' := 95) rfl ?_
    refine W8.1.aload (hb hby at_95) rfl rfl (pc' := 97) rfl ?_
    refine W8.1.callVP (y := (⟨"com/example/mandible/mandible/property/CallScope", "inheritsAll", "()Z"⟩ : MethodName)) (z := (⟨"com/example/mandible/mandible/property/CallScope", "inheritsAll", "()Z"⟩ : MethodName)) (hw _ (List.mem_of_getElem? (i := 63) rfl)) (hw _ (List.mem_of_getElem? (i := 64) rfl)) (hw _ (List.mem_of_getElem? (i := 66) rfl)) (hw _ (List.mem_of_getElem? (i := 66) rfl)) (hw _ (List.mem_of_getElem? (i := 65) rfl)) (by decide) (NM.bk (wd := 0) (rmIA l Z a0 hw a8 (inhF p1) h8 n0 W8.1.n0h B8_0 (inh_b p1)) W8.1.2.2.2.1 (hw _ (List.mem_of_getElem? (i := 67) rfl)) (hw _ (List.mem_of_getElem? (i := 29) rfl)) (by decide) (by decide)) A8 (hb hby at_97) (pc' := 100) rfl hml (argsL := []) rfl (lenOf pd_bfe1a59d rfl) rfl (Nat.le_of_ble_eq_true rfl) (by decide) (by decide) (fun _ _ _ q => pu_of q) ?_
    intro T20 L20 N20
    have W20 := W8.same N20
    show Go p e below _ T20 (mkF m 100 #[.val (.int p1), .val (.int p2), .val (.int p3), .val (.int p4), .val (.int (inhF p1)), .val (.int u0), .val (.int u1), .val (.ref a3), .val (.int k), .val (.ref a7), .val (.ref a8)] [(.int (inhF p1))])
    refine W20.1.iload (hb hby at_100) rfl (pc' := 102) rfl ?_
    refine W20.1.icmpNo (hb hby at_102) (XT.ii_ne_f rfl) (pc' := 105) rfl ?_
    refine W20.1.aload (hb hby at_105) rfl rfl (pc' := 107) rfl ?_
    refine W20.1.aload (hb hby at_107) rfl rfl (pc' := 109) rfl ?_
    have X0_5_22 : Ext h0 h8 := Keep.toExt ((((((Keep.refl h0 []).ext E3).trans K4 (allS (Or.inr (by have := y3; omega)) all0)).trans K5 (allS (Or.inr (by have := y3; omega)) all0)).ext E7).trans K8 all0)
    have zX0_5_22 := X0_5_22.1
    have F23 := Exa.ext X0_5_22 Ees
    have F24 := Fld.ext X0_5_22 Fes
    refine W20.1.callVP (y := (⟨"com/example/mandible/mandible/property/CallScope", "inherits", "(Ljava/lang/String;)Z"⟩ : MethodName)) (z := (⟨"com/example/mandible/mandible/property/CallScope", "inherits", "(Ljava/lang/String;)Z"⟩ : MethodName)) (hw _ (List.mem_of_getElem? (i := 68) rfl)) (hw _ (List.mem_of_getElem? (i := 69) rfl)) (hw _ (List.mem_of_getElem? (i := 71) rfl)) (hw _ (List.mem_of_getElem? (i := 71) rfl)) (hw _ (List.mem_of_getElem? (i := 70) rfl)) (by decide) (NM.bk (wd := 0) (rmIH l Z a0 hw a8 a7 es h8 n0 W20.1.n0h B8_4 F23 F24) W20.1.2.2.2.1 (hw _ (List.mem_of_getElem? (i := 72) rfl)) (hw _ (List.mem_of_getElem? (i := 29) rfl)) (by decide) (by decide)) A8 (hb hby at_109) (pc' := 112) rfl hml (argsL := [(.ref a7)]) rfl (lenOf pd_896d4e2b rfl) rfl (Nat.le_of_ble_eq_true rfl) (by decide) (by decide) (fun _ _ _ q => pu_of q) ?_
    intro T21 L21 N21
    have W21 := W20.same N21
    show Go p e below _ T21 (mkF m 112 #[.val (.int p1), .val (.int p2), .val (.int p3), .val (.int p4), .val (.int (inhF p1)), .val (.int u0), .val (.int u1), .val (.ref a3), .val (.int k), .val (.ref a7), .val (.ref a8)] [(.int (1 : Int32))])
    refine W21.1.ifNo (hb hby at_112) (XT.i0_eq_f (by decide)) (pc' := 115) rfl ?_
    refine W21.1.aload (hb hby at_115) rfl rfl (pc' := 117) rfl ?_
    refine W21.1.callVP (y := (⟨"com/example/mandible/mandible/property/CallScope", "fixed", "()Ljava/util/Map;"⟩ : MethodName)) (z := (⟨"com/example/mandible/mandible/property/CallScope", "fixed", "()Ljava/util/Map;"⟩ : MethodName)) (hw _ (List.mem_of_getElem? (i := 89) rfl)) (hw _ (List.mem_of_getElem? (i := 90) rfl)) (hw _ (List.mem_of_getElem? (i := 92) rfl)) (hw _ (List.mem_of_getElem? (i := 92) rfl)) (hw _ (List.mem_of_getElem? (i := 91) rfl)) (by decide) (NM.bk (wd := 0) (rmGF l Z a0 hw a8 em h8 n0 W21.1.n0h B8_1) W21.1.2.2.2.1 (hw _ (List.mem_of_getElem? (i := 93) rfl)) (hw _ (List.mem_of_getElem? (i := 29) rfl)) (by decide) (by decide)) A8 (hb hby at_117) (pc' := 120) rfl hml (argsL := []) rfl (lenOf pd_a9b6f80b rfl) rfl (Nat.le_of_ble_eq_true rfl) (by decide) (by decide) (fun _ _ _ q => pu_of q) ?_
    intro T25 L25 N25
    have W25 := W21.same N25
    show Go p e below _ T25 (mkF m 120 #[.val (.int p1), .val (.int p2), .val (.int p3), .val (.int p4), .val (.int (inhF p1)), .val (.int u0), .val (.int u1), .val (.ref a3), .val (.int k), .val (.ref a7), .val (.ref a8)] [(.ref em)])
    have F27 := Fld.ext X0_5_22 Fem
    have F28 := Exa.ext X0_5_22 Eem
    refine W25.1.callFP (C := "java/util/ImmutableCollections$MapN") (y := (⟨"java/util/Map", "isEmpty", "()Z"⟩ : MethodName)) (z := (⟨"java/util/ImmutableCollections$MapN", "isEmpty", "()Z"⟩ : MethodName)) (hw _ (List.mem_of_getElem? (i := 94) rfl)) (hw _ (List.mem_of_getElem? (i := 95) rfl)) (hw _ (List.mem_of_getElem? (i := 96) rfl)) (by decide) (hw _ (List.mem_of_getElem? (i := 97) rfl)) (hw _ (List.mem_of_getElem? (i := 98) rfl)) (hw _ (List.mem_of_getElem? (i := 99) rfl)) (hw _ (List.mem_of_getElem? (i := 100) rfl)) (hw _ (List.mem_of_getElem? (i := 101) rfl)) (by decide) (NM.bk (wd := 0) (rmME l Z a0 hw em h8 n0 W25.1.n0h F27) W25.1.2.2.2.1 (hw _ (List.mem_of_getElem? (i := 103) rfl)) (hw _ (List.mem_of_getElem? (i := 102) rfl)) (by decide) (by decide)) F28 (hb hby at_120) (pc' := 125) rfl hml (argsL := []) rfl (lenOf pd_bfe1a59d rfl) rfl (Nat.le_of_ble_eq_true rfl) (by decide) (by decide) (fun _ _ _ q => pu_of q) ?_
    intro T26 L26 N26
    have W26 := W25.same N26
    show Go p e below _ T26 (mkF m 125 #[.val (.int p1), .val (.int p2), .val (.int p3), .val (.int p4), .val (.int (inhF p1)), .val (.int u0), .val (.int u1), .val (.ref a3), .val (.int k), .val (.ref a7), .val (.ref a8)] [(.int (1 : Int32))])
    refine W26.1.ifNo (hb hby at_125) (XT.i0_eq_f (by decide)) (pc' := 128) rfl ?_
    refine W26.1.aload (hb hby at_128) rfl rfl (pc' := 130) rfl ?_
    refine W26.1.callVP (y := (⟨"com/example/mandible/mandible/property/CallScope", "parameters", "()Ljava/util/List;"⟩ : MethodName)) (z := (⟨"com/example/mandible/mandible/property/CallScope", "parameters", "()Ljava/util/List;"⟩ : MethodName)) (hw _ (List.mem_of_getElem? (i := 106) rfl)) (hw _ (List.mem_of_getElem? (i := 107) rfl)) (hw _ (List.mem_of_getElem? (i := 109) rfl)) (hw _ (List.mem_of_getElem? (i := 109) rfl)) (hw _ (List.mem_of_getElem? (i := 108) rfl)) (by decide) (NM.bk (wd := 0) (rmGP l Z a0 hw a8 ei h8 n0 W26.1.n0h B8_2) W26.1.2.2.2.1 (hw _ (List.mem_of_getElem? (i := 110) rfl)) (hw _ (List.mem_of_getElem? (i := 29) rfl)) (by decide) (by decide)) A8 (hb hby at_130) (pc' := 133) rfl hml (argsL := []) rfl (lenOf pd_2fce99d9 rfl) rfl (Nat.le_of_ble_eq_true rfl) (by decide) (by decide) (fun _ _ _ q => pu_of q) ?_
    intro T29 L29 N29
    have W29 := W26.same N29
    show Go p e below _ T29 (mkF m 133 #[.val (.int p1), .val (.int p2), .val (.int p3), .val (.int p4), .val (.int (inhF p1)), .val (.int u0), .val (.int u1), .val (.ref a3), .val (.int k), .val (.ref a7), .val (.ref a8)] [(.ref ei)])
    have F31 := Fld.ext X0_5_22 Fei
    have F32 := Arv.ext Aea X0_5_22
    have F33 := Exa.ext X0_5_22 Eei
    refine W29.1.callFP (C := "java/util/ImmutableCollections$ListN") (y := (⟨"java/util/List", "size", "()I"⟩ : MethodName)) (z := (⟨"java/util/ImmutableCollections$ListN", "size", "()I"⟩ : MethodName)) (hw _ (List.mem_of_getElem? (i := 111) rfl)) (hw _ (List.mem_of_getElem? (i := 112) rfl)) (hw _ (List.mem_of_getElem? (i := 113) rfl)) (by decide) (hw _ (List.mem_of_getElem? (i := 114) rfl)) (hw _ (List.mem_of_getElem? (i := 115) rfl)) (hw _ (List.mem_of_getElem? (i := 116) rfl)) (hw _ (List.mem_of_getElem? (i := 117) rfl)) (hw _ (List.mem_of_getElem? (i := 118) rfl)) (by decide) (NM.bk (wd := 0) (rmLZ l Z a0 hw ei ea ke h8 n0 W29.1.n0h F31 F32) W29.1.2.2.2.1 (hw _ (List.mem_of_getElem? (i := 120) rfl)) (hw _ (List.mem_of_getElem? (i := 119) rfl)) (by decide) (by decide)) F33 (hb hby at_133) (pc' := 138) rfl hml (argsL := []) rfl (lenOf pd_368a4b19 rfl) rfl (Nat.le_of_ble_eq_true rfl) (by decide) (by decide) (fun _ _ _ q => pu_of q) ?_
    intro T30 L30 N30
    have W30 := W29.same N30
    show Go p e below _ T30 (mkF m 138 #[.val (.int p1), .val (.int p2), .val (.int p3), .val (.int p4), .val (.int (inhF p1)), .val (.int u0), .val (.int u1), .val (.ref a3), .val (.int k), .val (.ref a7), .val (.ref a8)] [(.int (0 : Int32))])
    refine W30.1.ifNo (hb hby at_138) (XT.i0_ne_f (by decide)) (pc' := 141) rfl ?_
    refine W30.1.aload (hb hby at_141) rfl rfl (pc' := 143) rfl ?_
    refine W30.1.callVP (y := (⟨"com/example/mandible/mandible/property/CallScope", "fromSets", "()Ljava/util/Map;"⟩ : MethodName)) (z := (⟨"com/example/mandible/mandible/property/CallScope", "fromSets", "()Ljava/util/Map;"⟩ : MethodName)) (hw _ (List.mem_of_getElem? (i := 123) rfl)) (hw _ (List.mem_of_getElem? (i := 124) rfl)) (hw _ (List.mem_of_getElem? (i := 126) rfl)) (hw _ (List.mem_of_getElem? (i := 126) rfl)) (hw _ (List.mem_of_getElem? (i := 125) rfl)) (by decide) (NM.bk (wd := 0) (rmGS l Z a0 hw a8 em h8 n0 W30.1.n0h B8_3) W30.1.2.2.2.1 (hw _ (List.mem_of_getElem? (i := 127) rfl)) (hw _ (List.mem_of_getElem? (i := 29) rfl)) (by decide) (by decide)) A8 (hb hby at_143) (pc' := 146) rfl hml (argsL := []) rfl (lenOf pd_a9b6f80b rfl) rfl (Nat.le_of_ble_eq_true rfl) (by decide) (by decide) (fun _ _ _ q => pu_of q) ?_
    intro T34 L34 N34
    have W34 := W30.same N34
    show Go p e below _ T34 (mkF m 146 #[.val (.int p1), .val (.int p2), .val (.int p3), .val (.int p4), .val (.int (inhF p1)), .val (.int u0), .val (.int u1), .val (.ref a3), .val (.int k), .val (.ref a7), .val (.ref a8)] [(.ref em)])
    refine W34.1.callFP (C := "java/util/ImmutableCollections$MapN") (y := (⟨"java/util/Map", "isEmpty", "()Z"⟩ : MethodName)) (z := (⟨"java/util/ImmutableCollections$MapN", "isEmpty", "()Z"⟩ : MethodName)) (hw _ (List.mem_of_getElem? (i := 94) rfl)) (hw _ (List.mem_of_getElem? (i := 95) rfl)) (hw _ (List.mem_of_getElem? (i := 96) rfl)) (by decide) (hw _ (List.mem_of_getElem? (i := 97) rfl)) (hw _ (List.mem_of_getElem? (i := 98) rfl)) (hw _ (List.mem_of_getElem? (i := 99) rfl)) (hw _ (List.mem_of_getElem? (i := 100) rfl)) (hw _ (List.mem_of_getElem? (i := 101) rfl)) (by decide) (NM.bk (wd := 0) (rmME l Z a0 hw em h8 n0 W34.1.n0h F27) W34.1.2.2.2.1 (hw _ (List.mem_of_getElem? (i := 103) rfl)) (hw _ (List.mem_of_getElem? (i := 102) rfl)) (by decide) (by decide)) F28 (hb hby at_146) (pc' := 151) rfl hml (argsL := []) rfl (lenOf pd_bfe1a59d rfl) rfl (Nat.le_of_ble_eq_true rfl) (by decide) (by decide) (fun _ _ _ q => pu_of q) ?_
    intro T35 L35 N35
    have W35 := W34.same N35
    show Go p e below _ T35 (mkF m 151 #[.val (.int p1), .val (.int p2), .val (.int p3), .val (.int p4), .val (.int (inhF p1)), .val (.int u0), .val (.int u1), .val (.ref a3), .val (.int k), .val (.ref a7), .val (.ref a8)] [(.int (1 : Int32))])
    refine W35.1.ifNo (hb hby at_151) (XT.i0_eq_f (by decide)) (pc' := 154) rfl ?_
    refine W35.1.iconst (1 : Int32) (hb hby at_154) rfl (pc' := 155) rfl ?_
    refine W35.1.goto (hb hby at_155) (by decide) (pc' := 159) (by decide) ?_
    exact W35.retZ hEL hret (hb hby at_159) (by decide) (by decide) (by decide) ⟨rfl, trivial⟩
  · refine W5.1.ifYes (hb hby at_51) (XT.i0_ne_t hc6) (by decide) (pc' := 61) (by decide) ?_
    refine W5.1.iload (hb hby at_61) rfl (pc' := 63) rfl ?_
    refine W5.1.iconst (1 : Int32) (hb hby at_63) rfl (pc' := 64) rfl ?_
    by_cases hc36 : k = (1 : Int32)
    · refine W5.1.icmpNo (hb hby at_64) (XT.ii_ne_f hc36) (pc' := 67) rfl ?_
      refine W5.1.iload (hb hby at_67) rfl (pc' := 69) rfl ?_
      have X0_3_38 : Ext h0 h5 := Keep.toExt ((((Keep.refl h0 []).ext E3).trans K4 (allS (Or.inr (by have := y3; omega)) all0)).trans K5 (allS (Or.inr (by have := y3; omega)) all0))
      have zX0_3_38 := X0_3_38.1
      have F39 := Sta.ext X0_3_38 SC
      refine W5.1.callS (hw _ (List.mem_of_getElem? (i := 1) rfl)) (hw _ (List.mem_of_getElem? (i := 2) rfl)) (hw _ (List.mem_of_getElem? (i := 3) rfl)) (hw _ (List.mem_of_getElem? (i := 4) rfl)) (by decide) (NM.bk (wd := 0) (rmVO l Z a0 hw u0 zc h5 n0 W5.1.n0h (by rw [hu0]; exact lat_and _) F39 hz) W5.1.2.2.2.1 (hw _ (List.mem_of_getElem? (i := 4) rfl)) (hw _ (List.mem_of_getElem? (i := 3) rfl)) (by decide) (by decide)) (hb hby at_69) (pc' := 72) rfl hml (argsL := [(.int u0)]) rfl (lenOf pd_abaf74b6 rfl) rfl (Nat.le_of_ble_eq_true rfl) (by decide) (by decide) (ws' := []) (fun _ _ _ q => ⟨q.2.2, q.2.1⟩) all0 ?_
      intro v37 T37 h37 L37' L37 N37 Q37 K37
      have W37 := W5.up N37 K37 sf0
      have z37 := K37.1
      obtain ⟨⟨a37, rfl⟩, -, -⟩ := Q37
      show Go p e below _ T37 (mkF m 72 #[.val (.int p1), .val (.int p2), .val (.int p3), .val (.int p4), .val (.int (inhF p1)), .val (.int u0), .val (.int u1), .val (.ref a3), .val (.int k), .unset, .unset] [(.ref a37)])
      refine W37.1.astore (Ls' := #[.val (.int p1), .val (.int p2), .val (.int p3), .val (.int p4), .val (.int (inhF p1)), .val (.int u0), .val (.int u1), .val (.ref a3), .val (.int k), .val (.ref a37), .unset]) (hb hby at_72) rfl rfl (pc' := 74) rfl ?_
      refine W37.1.goto (hb hby at_74) (by decide) (pc' := 88) (by decide) ?_
      refine W37.1.iload (hb hby at_88) rfl (pc' := 90) rfl ?_
      have X0_4_41 : Ext h0 h37 := Keep.toExt (((((Keep.refl h0 []).ext E3).trans K4 (allS (Or.inr (by have := y3; omega)) all0)).trans K5 (allS (Or.inr (by have := y3; omega)) all0)).trans K37 all0)
      have zX0_4_41 := X0_4_41.1
      have F42 := Sta.ext X0_4_41 Sem
      have F43 := Exa.ext X0_4_41 Eem
      have F44 := Sta.ext X0_4_41 Sei
      have F45 := Exa.ext X0_4_41 Eei
      have F46 := Sta.ext X0_4_41 Ses
      have F47 := Exa.ext X0_4_41 Ees
      have F48 := Fld.ext X0_4_41 Fem
      have F49 := Fld.ext X0_4_41 Fes
      have F50 := Fld.ext X0_4_41 Fei
      have F51 := Arv.ext Aea X0_4_41
      refine W37.1.callS (hw _ (List.mem_of_getElem? (i := 27) rfl)) (hw _ (List.mem_of_getElem? (i := 28) rfl)) (hw _ (List.mem_of_getElem? (i := 29) rfl)) (hw _ (List.mem_of_getElem? (i := 30) rfl)) (by decide) (NM.bk (wd := 0) (rmCO l Z a0 hw (inhF p1) em ei es ea ke h37 n0 W37.1.n0h (inh_b p1) F42 F43 F44 F45 F46 F47 F48 F49 F50 F51) W37.1.2.2.2.1 (hw _ (List.mem_of_getElem? (i := 30) rfl)) (hw _ (List.mem_of_getElem? (i := 29) rfl)) (by decide) (by decide)) (hb hby at_90) (pc' := 93) rfl hml (argsL := [(.int (inhF p1))]) rfl (lenOf pd_1563fcf4 rfl) rfl (Nat.le_of_ble_eq_true rfl) (by decide) (by decide) (ws' := []) (fun _ _ _ q => ⟨q.2.2, q.2.1⟩) all0 ?_
      intro v40 T40 h40 L40' L40 N40 Q40 K40
      have W40 := W37.up N40 K40 sf0
      have z40 := K40.1
      obtain ⟨⟨a40, rfl, A40, B40_0, B40_1, B40_2, B40_3, B40_4⟩, -, -⟩ := Q40
      show Go p e below _ T40 (mkF m 93 #[.val (.int p1), .val (.int p2), .val (.int p3), .val (.int p4), .val (.int (inhF p1)), .val (.int u0), .val (.int u1), .val (.ref a3), .val (.int k), .val (.ref a37), .unset] [(.ref a40)])
      refine W40.1.astore (Ls' := #[.val (.int p1), .val (.int p2), .val (.int p3), .val (.int p4), .val (.int (inhF p1)), .val (.int u0), .val (.int u1), .val (.ref a3), .val (.int k), .val (.ref a37), .val (.ref a40)]) (hb hby at_93) rfl rfl (pc' := 95) rfl ?_
      refine W40.1.aload (hb hby at_95) rfl rfl (pc' := 97) rfl ?_
      refine W40.1.callVP (y := (⟨"com/example/mandible/mandible/property/CallScope", "inheritsAll", "()Z"⟩ : MethodName)) (z := (⟨"com/example/mandible/mandible/property/CallScope", "inheritsAll", "()Z"⟩ : MethodName)) (hw _ (List.mem_of_getElem? (i := 63) rfl)) (hw _ (List.mem_of_getElem? (i := 64) rfl)) (hw _ (List.mem_of_getElem? (i := 66) rfl)) (hw _ (List.mem_of_getElem? (i := 66) rfl)) (hw _ (List.mem_of_getElem? (i := 65) rfl)) (by decide) (NM.bk (wd := 0) (rmIA l Z a0 hw a40 (inhF p1) h40 n0 W40.1.n0h B40_0 (inh_b p1)) W40.1.2.2.2.1 (hw _ (List.mem_of_getElem? (i := 67) rfl)) (hw _ (List.mem_of_getElem? (i := 29) rfl)) (by decide) (by decide)) A40 (hb hby at_97) (pc' := 100) rfl hml (argsL := []) rfl (lenOf pd_bfe1a59d rfl) rfl (Nat.le_of_ble_eq_true rfl) (by decide) (by decide) (fun _ _ _ q => pu_of q) ?_
      intro T52 L52 N52
      have W52 := W40.same N52
      show Go p e below _ T52 (mkF m 100 #[.val (.int p1), .val (.int p2), .val (.int p3), .val (.int p4), .val (.int (inhF p1)), .val (.int u0), .val (.int u1), .val (.ref a3), .val (.int k), .val (.ref a37), .val (.ref a40)] [(.int (inhF p1))])
      refine W52.1.iload (hb hby at_100) rfl (pc' := 102) rfl ?_
      refine W52.1.icmpNo (hb hby at_102) (XT.ii_ne_f rfl) (pc' := 105) rfl ?_
      refine W52.1.aload (hb hby at_105) rfl rfl (pc' := 107) rfl ?_
      refine W52.1.aload (hb hby at_107) rfl rfl (pc' := 109) rfl ?_
      have X0_5_54 : Ext h0 h40 := Keep.toExt ((((((Keep.refl h0 []).ext E3).trans K4 (allS (Or.inr (by have := y3; omega)) all0)).trans K5 (allS (Or.inr (by have := y3; omega)) all0)).trans K37 all0).trans K40 all0)
      have zX0_5_54 := X0_5_54.1
      have F55 := Exa.ext X0_5_54 Ees
      have F56 := Fld.ext X0_5_54 Fes
      refine W52.1.callVP (y := (⟨"com/example/mandible/mandible/property/CallScope", "inherits", "(Ljava/lang/String;)Z"⟩ : MethodName)) (z := (⟨"com/example/mandible/mandible/property/CallScope", "inherits", "(Ljava/lang/String;)Z"⟩ : MethodName)) (hw _ (List.mem_of_getElem? (i := 68) rfl)) (hw _ (List.mem_of_getElem? (i := 69) rfl)) (hw _ (List.mem_of_getElem? (i := 71) rfl)) (hw _ (List.mem_of_getElem? (i := 71) rfl)) (hw _ (List.mem_of_getElem? (i := 70) rfl)) (by decide) (NM.bk (wd := 0) (rmIH l Z a0 hw a40 a37 es h40 n0 W52.1.n0h B40_4 F55 F56) W52.1.2.2.2.1 (hw _ (List.mem_of_getElem? (i := 72) rfl)) (hw _ (List.mem_of_getElem? (i := 29) rfl)) (by decide) (by decide)) A40 (hb hby at_109) (pc' := 112) rfl hml (argsL := [(.ref a37)]) rfl (lenOf pd_896d4e2b rfl) rfl (Nat.le_of_ble_eq_true rfl) (by decide) (by decide) (fun _ _ _ q => pu_of q) ?_
      intro T53 L53 N53
      have W53 := W52.same N53
      show Go p e below _ T53 (mkF m 112 #[.val (.int p1), .val (.int p2), .val (.int p3), .val (.int p4), .val (.int (inhF p1)), .val (.int u0), .val (.int u1), .val (.ref a3), .val (.int k), .val (.ref a37), .val (.ref a40)] [(.int (1 : Int32))])
      refine W53.1.ifNo (hb hby at_112) (XT.i0_eq_f (by decide)) (pc' := 115) rfl ?_
      refine W53.1.aload (hb hby at_115) rfl rfl (pc' := 117) rfl ?_
      refine W53.1.callVP (y := (⟨"com/example/mandible/mandible/property/CallScope", "fixed", "()Ljava/util/Map;"⟩ : MethodName)) (z := (⟨"com/example/mandible/mandible/property/CallScope", "fixed", "()Ljava/util/Map;"⟩ : MethodName)) (hw _ (List.mem_of_getElem? (i := 89) rfl)) (hw _ (List.mem_of_getElem? (i := 90) rfl)) (hw _ (List.mem_of_getElem? (i := 92) rfl)) (hw _ (List.mem_of_getElem? (i := 92) rfl)) (hw _ (List.mem_of_getElem? (i := 91) rfl)) (by decide) (NM.bk (wd := 0) (rmGF l Z a0 hw a40 em h40 n0 W53.1.n0h B40_1) W53.1.2.2.2.1 (hw _ (List.mem_of_getElem? (i := 93) rfl)) (hw _ (List.mem_of_getElem? (i := 29) rfl)) (by decide) (by decide)) A40 (hb hby at_117) (pc' := 120) rfl hml (argsL := []) rfl (lenOf pd_a9b6f80b rfl) rfl (Nat.le_of_ble_eq_true rfl) (by decide) (by decide) (fun _ _ _ q => pu_of q) ?_
      intro T57 L57 N57
      have W57 := W53.same N57
      show Go p e below _ T57 (mkF m 120 #[.val (.int p1), .val (.int p2), .val (.int p3), .val (.int p4), .val (.int (inhF p1)), .val (.int u0), .val (.int u1), .val (.ref a3), .val (.int k), .val (.ref a37), .val (.ref a40)] [(.ref em)])
      have F59 := Fld.ext X0_5_54 Fem
      have F60 := Exa.ext X0_5_54 Eem
      refine W57.1.callFP (C := "java/util/ImmutableCollections$MapN") (y := (⟨"java/util/Map", "isEmpty", "()Z"⟩ : MethodName)) (z := (⟨"java/util/ImmutableCollections$MapN", "isEmpty", "()Z"⟩ : MethodName)) (hw _ (List.mem_of_getElem? (i := 94) rfl)) (hw _ (List.mem_of_getElem? (i := 95) rfl)) (hw _ (List.mem_of_getElem? (i := 96) rfl)) (by decide) (hw _ (List.mem_of_getElem? (i := 97) rfl)) (hw _ (List.mem_of_getElem? (i := 98) rfl)) (hw _ (List.mem_of_getElem? (i := 99) rfl)) (hw _ (List.mem_of_getElem? (i := 100) rfl)) (hw _ (List.mem_of_getElem? (i := 101) rfl)) (by decide) (NM.bk (wd := 0) (rmME l Z a0 hw em h40 n0 W57.1.n0h F59) W57.1.2.2.2.1 (hw _ (List.mem_of_getElem? (i := 103) rfl)) (hw _ (List.mem_of_getElem? (i := 102) rfl)) (by decide) (by decide)) F60 (hb hby at_120) (pc' := 125) rfl hml (argsL := []) rfl (lenOf pd_bfe1a59d rfl) rfl (Nat.le_of_ble_eq_true rfl) (by decide) (by decide) (fun _ _ _ q => pu_of q) ?_
      intro T58 L58 N58
      have W58 := W57.same N58
      show Go p e below _ T58 (mkF m 125 #[.val (.int p1), .val (.int p2), .val (.int p3), .val (.int p4), .val (.int (inhF p1)), .val (.int u0), .val (.int u1), .val (.ref a3), .val (.int k), .val (.ref a37), .val (.ref a40)] [(.int (1 : Int32))])
      refine W58.1.ifNo (hb hby at_125) (XT.i0_eq_f (by decide)) (pc' := 128) rfl ?_
      refine W58.1.aload (hb hby at_128) rfl rfl (pc' := 130) rfl ?_
      refine W58.1.callVP (y := (⟨"com/example/mandible/mandible/property/CallScope", "parameters", "()Ljava/util/List;"⟩ : MethodName)) (z := (⟨"com/example/mandible/mandible/property/CallScope", "parameters", "()Ljava/util/List;"⟩ : MethodName)) (hw _ (List.mem_of_getElem? (i := 106) rfl)) (hw _ (List.mem_of_getElem? (i := 107) rfl)) (hw _ (List.mem_of_getElem? (i := 109) rfl)) (hw _ (List.mem_of_getElem? (i := 109) rfl)) (hw _ (List.mem_of_getElem? (i := 108) rfl)) (by decide) (NM.bk (wd := 0) (rmGP l Z a0 hw a40 ei h40 n0 W58.1.n0h B40_2) W58.1.2.2.2.1 (hw _ (List.mem_of_getElem? (i := 110) rfl)) (hw _ (List.mem_of_getElem? (i := 29) rfl)) (by decide) (by decide)) A40 (hb hby at_130) (pc' := 133) rfl hml (argsL := []) rfl (lenOf pd_2fce99d9 rfl) rfl (Nat.le_of_ble_eq_true rfl) (by decide) (by decide) (fun _ _ _ q => pu_of q) ?_
      intro T61 L61 N61
      have W61 := W58.same N61
      show Go p e below _ T61 (mkF m 133 #[.val (.int p1), .val (.int p2), .val (.int p3), .val (.int p4), .val (.int (inhF p1)), .val (.int u0), .val (.int u1), .val (.ref a3), .val (.int k), .val (.ref a37), .val (.ref a40)] [(.ref ei)])
      have F63 := Fld.ext X0_5_54 Fei
      have F64 := Arv.ext Aea X0_5_54
      have F65 := Exa.ext X0_5_54 Eei
      refine W61.1.callFP (C := "java/util/ImmutableCollections$ListN") (y := (⟨"java/util/List", "size", "()I"⟩ : MethodName)) (z := (⟨"java/util/ImmutableCollections$ListN", "size", "()I"⟩ : MethodName)) (hw _ (List.mem_of_getElem? (i := 111) rfl)) (hw _ (List.mem_of_getElem? (i := 112) rfl)) (hw _ (List.mem_of_getElem? (i := 113) rfl)) (by decide) (hw _ (List.mem_of_getElem? (i := 114) rfl)) (hw _ (List.mem_of_getElem? (i := 115) rfl)) (hw _ (List.mem_of_getElem? (i := 116) rfl)) (hw _ (List.mem_of_getElem? (i := 117) rfl)) (hw _ (List.mem_of_getElem? (i := 118) rfl)) (by decide) (NM.bk (wd := 0) (rmLZ l Z a0 hw ei ea ke h40 n0 W61.1.n0h F63 F64) W61.1.2.2.2.1 (hw _ (List.mem_of_getElem? (i := 120) rfl)) (hw _ (List.mem_of_getElem? (i := 119) rfl)) (by decide) (by decide)) F65 (hb hby at_133) (pc' := 138) rfl hml (argsL := []) rfl (lenOf pd_368a4b19 rfl) rfl (Nat.le_of_ble_eq_true rfl) (by decide) (by decide) (fun _ _ _ q => pu_of q) ?_
      intro T62 L62 N62
      have W62 := W61.same N62
      show Go p e below _ T62 (mkF m 138 #[.val (.int p1), .val (.int p2), .val (.int p3), .val (.int p4), .val (.int (inhF p1)), .val (.int u0), .val (.int u1), .val (.ref a3), .val (.int k), .val (.ref a37), .val (.ref a40)] [(.int (0 : Int32))])
      refine W62.1.ifNo (hb hby at_138) (XT.i0_ne_f (by decide)) (pc' := 141) rfl ?_
      refine W62.1.aload (hb hby at_141) rfl rfl (pc' := 143) rfl ?_
      refine W62.1.callVP (y := (⟨"com/example/mandible/mandible/property/CallScope", "fromSets", "()Ljava/util/Map;"⟩ : MethodName)) (z := (⟨"com/example/mandible/mandible/property/CallScope", "fromSets", "()Ljava/util/Map;"⟩ : MethodName)) (hw _ (List.mem_of_getElem? (i := 123) rfl)) (hw _ (List.mem_of_getElem? (i := 124) rfl)) (hw _ (List.mem_of_getElem? (i := 126) rfl)) (hw _ (List.mem_of_getElem? (i := 126) rfl)) (hw _ (List.mem_of_getElem? (i := 125) rfl)) (by decide) (NM.bk (wd := 0) (rmGS l Z a0 hw a40 em h40 n0 W62.1.n0h B40_3) W62.1.2.2.2.1 (hw _ (List.mem_of_getElem? (i := 127) rfl)) (hw _ (List.mem_of_getElem? (i := 29) rfl)) (by decide) (by decide)) A40 (hb hby at_143) (pc' := 146) rfl hml (argsL := []) rfl (lenOf pd_a9b6f80b rfl) rfl (Nat.le_of_ble_eq_true rfl) (by decide) (by decide) (fun _ _ _ q => pu_of q) ?_
      intro T66 L66 N66
      have W66 := W62.same N66
      show Go p e below _ T66 (mkF m 146 #[.val (.int p1), .val (.int p2), .val (.int p3), .val (.int p4), .val (.int (inhF p1)), .val (.int u0), .val (.int u1), .val (.ref a3), .val (.int k), .val (.ref a37), .val (.ref a40)] [(.ref em)])
      refine W66.1.callFP (C := "java/util/ImmutableCollections$MapN") (y := (⟨"java/util/Map", "isEmpty", "()Z"⟩ : MethodName)) (z := (⟨"java/util/ImmutableCollections$MapN", "isEmpty", "()Z"⟩ : MethodName)) (hw _ (List.mem_of_getElem? (i := 94) rfl)) (hw _ (List.mem_of_getElem? (i := 95) rfl)) (hw _ (List.mem_of_getElem? (i := 96) rfl)) (by decide) (hw _ (List.mem_of_getElem? (i := 97) rfl)) (hw _ (List.mem_of_getElem? (i := 98) rfl)) (hw _ (List.mem_of_getElem? (i := 99) rfl)) (hw _ (List.mem_of_getElem? (i := 100) rfl)) (hw _ (List.mem_of_getElem? (i := 101) rfl)) (by decide) (NM.bk (wd := 0) (rmME l Z a0 hw em h40 n0 W66.1.n0h F59) W66.1.2.2.2.1 (hw _ (List.mem_of_getElem? (i := 103) rfl)) (hw _ (List.mem_of_getElem? (i := 102) rfl)) (by decide) (by decide)) F60 (hb hby at_146) (pc' := 151) rfl hml (argsL := []) rfl (lenOf pd_bfe1a59d rfl) rfl (Nat.le_of_ble_eq_true rfl) (by decide) (by decide) (fun _ _ _ q => pu_of q) ?_
      intro T67 L67 N67
      have W67 := W66.same N67
      show Go p e below _ T67 (mkF m 151 #[.val (.int p1), .val (.int p2), .val (.int p3), .val (.int p4), .val (.int (inhF p1)), .val (.int u0), .val (.int u1), .val (.ref a3), .val (.int k), .val (.ref a37), .val (.ref a40)] [(.int (1 : Int32))])
      refine W67.1.ifNo (hb hby at_151) (XT.i0_eq_f (by decide)) (pc' := 154) rfl ?_
      refine W67.1.iconst (1 : Int32) (hb hby at_154) rfl (pc' := 155) rfl ?_
      refine W67.1.goto (hb hby at_155) (by decide) (pc' := 159) (by decide) ?_
      exact W67.retZ hEL hret (hb hby at_159) (by decide) (by decide) (by decide) ⟨rfl, trivial⟩
    · refine W5.1.icmpYes (hb hby at_64) (XT.ii_ne_t hc36) (by decide) (pc' := 77) (by decide) ?_
      refine W5.1.newO (hw _ (List.mem_of_getElem? (i := 128) rfl)) (hw _ (List.mem_of_getElem? (i := 11) rfl)) (hw _ (List.mem_of_getElem? (i := 3) rfl)) (hb hby at_77) (pc' := 80) rfl (by decide) (by decide) ?_
      intro T68 h68 a68 g68 ge68 gn68 N68 E68 A68 D68
      have z68 := E68.1
      have y68 := Nat.le_of_eq g68.symm
      have W68 := W5.upE N68 E68
      have D68_value := D68 (Or.inr (hw _ (List.mem_of_getElem? (i := 24) rfl))) (ty := (.array .byte)) (by decide)
      have D68_coder := D68 (Or.inr (hw _ (List.mem_of_getElem? (i := 26) rfl))) (ty := .byte) (by decide)
      refine W68.1.dup (hb hby at_80) rfl (pc' := 81) rfl ?_
      refine W68.1.aload (hb hby at_81) rfl rfl (pc' := 83) rfl ?_
      have F70 := Arv.ext V5 E68
      have X0_4_71 : Ext h0 h68 := Keep.toExt (((((Keep.refl h0 []).ext E3).trans K4 (allS (Or.inr (by have := y3; omega)) all0)).trans K5 (allS (Or.inr (by have := y3; omega)) all0)).ext E68)
      have zX0_4_71 := X0_4_71.1
      have F72 := Sta.ext X0_4_71 SC
      refine W68.1.callI (y := (⟨"java/lang/String", "<init>", "([C)V"⟩ : MethodName)) rfl (hw _ (List.mem_of_getElem? (i := 129) rfl)) (hw _ (List.mem_of_getElem? (i := 130) rfl)) (hw _ (List.mem_of_getElem? (i := 131) rfl)) (by decide) (StrChars.Road.backV (W := 1) W68.1.2.2.2.1 hws (kI := 4) (hw _ (List.mem_of_getElem? (i := 11) rfl)) (cs := ([u0, u1] : List Int32)) (bs := (([u0, u1] : List Int32)).map (fun c => c.toInt8.toInt32)) (n := 2) gn68 W68.1.n0h A68 D68_value D68_coder F70 F72 hz rfl rfl (by decide) (by decide) (memS (by rw [hu0]; exact lat_and _) (memS (by rw [hu1]; exact lat_and _) mem0)) rfl (by decide) (by decide)) (hb hby at_83) (pc' := 86) rfl hml (a := a68) (argsL := [(.ref a3)]) rfl (lenOf pd_827e2587 rfl) rfl (Nat.le_of_ble_eq_true rfl) (by decide) (by decide) (ws' := [a68]) (fun _ _ _ q => ⟨q.2.1, q.2.2.1⟩) (allS (Or.inr ge68) all0) ?_
      intro v69 T69 h69 L69' L69 N69 Q69 K69
      have W69 := W68.up N69 K69 (sfS (safe_null (EL := consts_0) W68.1.2.2.2.1.alike A68 D68_value) sf0)
      have z69 := K69.1
      obtain ⟨rfl, -, -, A69, B69, t69, kb69, tn69, tg69, te69, C69', V69⟩ := Q69
      show Go p e below _ T69 (mkF m 86 #[.val (.int p1), .val (.int p2), .val (.int p3), .val (.int p4), .val (.int (inhF p1)), .val (.int u0), .val (.int u1), .val (.ref a3), .val (.int k), .unset, .unset] [(.ref a68)])
      refine W69.1.astore (Ls' := #[.val (.int p1), .val (.int p2), .val (.int p3), .val (.int p4), .val (.int (inhF p1)), .val (.int u0), .val (.int u1), .val (.ref a3), .val (.int k), .val (.ref a68), .unset]) (hb hby at_86) rfl rfl (pc' := 88) rfl ?_
      refine W69.1.iload (hb hby at_88) rfl (pc' := 90) rfl ?_
      have X0_5_74 : Ext h0 h69 := Keep.toExt ((((((Keep.refl h0 []).ext E3).trans K4 (allS (Or.inr (by have := y3; omega)) all0)).trans K5 (allS (Or.inr (by have := y3; omega)) all0)).ext E68).trans K69 (allS (Or.inr (by have := y68; omega)) all0))
      have zX0_5_74 := X0_5_74.1
      have F75 := Sta.ext X0_5_74 Sem
      have F76 := Exa.ext X0_5_74 Eem
      have F77 := Sta.ext X0_5_74 Sei
      have F78 := Exa.ext X0_5_74 Eei
      have F79 := Sta.ext X0_5_74 Ses
      have F80 := Exa.ext X0_5_74 Ees
      have F81 := Fld.ext X0_5_74 Fem
      have F82 := Fld.ext X0_5_74 Fes
      have F83 := Fld.ext X0_5_74 Fei
      have F84 := Arv.ext Aea X0_5_74
      refine W69.1.callS (hw _ (List.mem_of_getElem? (i := 27) rfl)) (hw _ (List.mem_of_getElem? (i := 28) rfl)) (hw _ (List.mem_of_getElem? (i := 29) rfl)) (hw _ (List.mem_of_getElem? (i := 30) rfl)) (by decide) (NM.bk (wd := 0) (rmCO l Z a0 hw (inhF p1) em ei es ea ke h69 n0 W69.1.n0h (inh_b p1) F75 F76 F77 F78 F79 F80 F81 F82 F83 F84) W69.1.2.2.2.1 (hw _ (List.mem_of_getElem? (i := 30) rfl)) (hw _ (List.mem_of_getElem? (i := 29) rfl)) (by decide) (by decide)) (hb hby at_90) (pc' := 93) rfl hml (argsL := [(.int (inhF p1))]) rfl (lenOf pd_1563fcf4 rfl) rfl (Nat.le_of_ble_eq_true rfl) (by decide) (by decide) (ws' := []) (fun _ _ _ q => ⟨q.2.2, q.2.1⟩) all0 ?_
      intro v73 T73 h73 L73' L73 N73 Q73 K73
      have W73 := W69.up N73 K73 sf0
      have z73 := K73.1
      obtain ⟨⟨a73, rfl, A73, B73_0, B73_1, B73_2, B73_3, B73_4⟩, -, -⟩ := Q73
      show Go p e below _ T73 (mkF m 93 #[.val (.int p1), .val (.int p2), .val (.int p3), .val (.int p4), .val (.int (inhF p1)), .val (.int u0), .val (.int u1), .val (.ref a3), .val (.int k), .val (.ref a68), .unset] [(.ref a73)])
      refine W73.1.astore (Ls' := #[.val (.int p1), .val (.int p2), .val (.int p3), .val (.int p4), .val (.int (inhF p1)), .val (.int u0), .val (.int u1), .val (.ref a3), .val (.int k), .val (.ref a68), .val (.ref a73)]) (hb hby at_93) rfl rfl (pc' := 95) rfl ?_
      refine W73.1.aload (hb hby at_95) rfl rfl (pc' := 97) rfl ?_
      refine W73.1.callVP (y := (⟨"com/example/mandible/mandible/property/CallScope", "inheritsAll", "()Z"⟩ : MethodName)) (z := (⟨"com/example/mandible/mandible/property/CallScope", "inheritsAll", "()Z"⟩ : MethodName)) (hw _ (List.mem_of_getElem? (i := 63) rfl)) (hw _ (List.mem_of_getElem? (i := 64) rfl)) (hw _ (List.mem_of_getElem? (i := 66) rfl)) (hw _ (List.mem_of_getElem? (i := 66) rfl)) (hw _ (List.mem_of_getElem? (i := 65) rfl)) (by decide) (NM.bk (wd := 0) (rmIA l Z a0 hw a73 (inhF p1) h73 n0 W73.1.n0h B73_0 (inh_b p1)) W73.1.2.2.2.1 (hw _ (List.mem_of_getElem? (i := 67) rfl)) (hw _ (List.mem_of_getElem? (i := 29) rfl)) (by decide) (by decide)) A73 (hb hby at_97) (pc' := 100) rfl hml (argsL := []) rfl (lenOf pd_bfe1a59d rfl) rfl (Nat.le_of_ble_eq_true rfl) (by decide) (by decide) (fun _ _ _ q => pu_of q) ?_
      intro T85 L85 N85
      have W85 := W73.same N85
      show Go p e below _ T85 (mkF m 100 #[.val (.int p1), .val (.int p2), .val (.int p3), .val (.int p4), .val (.int (inhF p1)), .val (.int u0), .val (.int u1), .val (.ref a3), .val (.int k), .val (.ref a68), .val (.ref a73)] [(.int (inhF p1))])
      refine W85.1.iload (hb hby at_100) rfl (pc' := 102) rfl ?_
      refine W85.1.icmpNo (hb hby at_102) (XT.ii_ne_f rfl) (pc' := 105) rfl ?_
      refine W85.1.aload (hb hby at_105) rfl rfl (pc' := 107) rfl ?_
      refine W85.1.aload (hb hby at_107) rfl rfl (pc' := 109) rfl ?_
      have X0_6_87 : Ext h0 h73 := Keep.toExt (((((((Keep.refl h0 []).ext E3).trans K4 (allS (Or.inr (by have := y3; omega)) all0)).trans K5 (allS (Or.inr (by have := y3; omega)) all0)).ext E68).trans K69 (allS (Or.inr (by have := y68; omega)) all0)).trans K73 all0)
      have zX0_6_87 := X0_6_87.1
      have F88 := Exa.ext X0_6_87 Ees
      have F89 := Fld.ext X0_6_87 Fes
      refine W85.1.callVP (y := (⟨"com/example/mandible/mandible/property/CallScope", "inherits", "(Ljava/lang/String;)Z"⟩ : MethodName)) (z := (⟨"com/example/mandible/mandible/property/CallScope", "inherits", "(Ljava/lang/String;)Z"⟩ : MethodName)) (hw _ (List.mem_of_getElem? (i := 68) rfl)) (hw _ (List.mem_of_getElem? (i := 69) rfl)) (hw _ (List.mem_of_getElem? (i := 71) rfl)) (hw _ (List.mem_of_getElem? (i := 71) rfl)) (hw _ (List.mem_of_getElem? (i := 70) rfl)) (by decide) (NM.bk (wd := 0) (rmIH l Z a0 hw a73 a68 es h73 n0 W85.1.n0h B73_4 F88 F89) W85.1.2.2.2.1 (hw _ (List.mem_of_getElem? (i := 72) rfl)) (hw _ (List.mem_of_getElem? (i := 29) rfl)) (by decide) (by decide)) A73 (hb hby at_109) (pc' := 112) rfl hml (argsL := [(.ref a68)]) rfl (lenOf pd_896d4e2b rfl) rfl (Nat.le_of_ble_eq_true rfl) (by decide) (by decide) (fun _ _ _ q => pu_of q) ?_
      intro T86 L86 N86
      have W86 := W85.same N86
      show Go p e below _ T86 (mkF m 112 #[.val (.int p1), .val (.int p2), .val (.int p3), .val (.int p4), .val (.int (inhF p1)), .val (.int u0), .val (.int u1), .val (.ref a3), .val (.int k), .val (.ref a68), .val (.ref a73)] [(.int (1 : Int32))])
      refine W86.1.ifNo (hb hby at_112) (XT.i0_eq_f (by decide)) (pc' := 115) rfl ?_
      refine W86.1.aload (hb hby at_115) rfl rfl (pc' := 117) rfl ?_
      refine W86.1.callVP (y := (⟨"com/example/mandible/mandible/property/CallScope", "fixed", "()Ljava/util/Map;"⟩ : MethodName)) (z := (⟨"com/example/mandible/mandible/property/CallScope", "fixed", "()Ljava/util/Map;"⟩ : MethodName)) (hw _ (List.mem_of_getElem? (i := 89) rfl)) (hw _ (List.mem_of_getElem? (i := 90) rfl)) (hw _ (List.mem_of_getElem? (i := 92) rfl)) (hw _ (List.mem_of_getElem? (i := 92) rfl)) (hw _ (List.mem_of_getElem? (i := 91) rfl)) (by decide) (NM.bk (wd := 0) (rmGF l Z a0 hw a73 em h73 n0 W86.1.n0h B73_1) W86.1.2.2.2.1 (hw _ (List.mem_of_getElem? (i := 93) rfl)) (hw _ (List.mem_of_getElem? (i := 29) rfl)) (by decide) (by decide)) A73 (hb hby at_117) (pc' := 120) rfl hml (argsL := []) rfl (lenOf pd_a9b6f80b rfl) rfl (Nat.le_of_ble_eq_true rfl) (by decide) (by decide) (fun _ _ _ q => pu_of q) ?_
      intro T90 L90 N90
      have W90 := W86.same N90
      show Go p e below _ T90 (mkF m 120 #[.val (.int p1), .val (.int p2), .val (.int p3), .val (.int p4), .val (.int (inhF p1)), .val (.int u0), .val (.int u1), .val (.ref a3), .val (.int k), .val (.ref a68), .val (.ref a73)] [(.ref em)])
      have F92 := Fld.ext X0_6_87 Fem
      have F93 := Exa.ext X0_6_87 Eem
      refine W90.1.callFP (C := "java/util/ImmutableCollections$MapN") (y := (⟨"java/util/Map", "isEmpty", "()Z"⟩ : MethodName)) (z := (⟨"java/util/ImmutableCollections$MapN", "isEmpty", "()Z"⟩ : MethodName)) (hw _ (List.mem_of_getElem? (i := 94) rfl)) (hw _ (List.mem_of_getElem? (i := 95) rfl)) (hw _ (List.mem_of_getElem? (i := 96) rfl)) (by decide) (hw _ (List.mem_of_getElem? (i := 97) rfl)) (hw _ (List.mem_of_getElem? (i := 98) rfl)) (hw _ (List.mem_of_getElem? (i := 99) rfl)) (hw _ (List.mem_of_getElem? (i := 100) rfl)) (hw _ (List.mem_of_getElem? (i := 101) rfl)) (by decide) (NM.bk (wd := 0) (rmME l Z a0 hw em h73 n0 W90.1.n0h F92) W90.1.2.2.2.1 (hw _ (List.mem_of_getElem? (i := 103) rfl)) (hw _ (List.mem_of_getElem? (i := 102) rfl)) (by decide) (by decide)) F93 (hb hby at_120) (pc' := 125) rfl hml (argsL := []) rfl (lenOf pd_bfe1a59d rfl) rfl (Nat.le_of_ble_eq_true rfl) (by decide) (by decide) (fun _ _ _ q => pu_of q) ?_
      intro T91 L91 N91
      have W91 := W90.same N91
      show Go p e below _ T91 (mkF m 125 #[.val (.int p1), .val (.int p2), .val (.int p3), .val (.int p4), .val (.int (inhF p1)), .val (.int u0), .val (.int u1), .val (.ref a3), .val (.int k), .val (.ref a68), .val (.ref a73)] [(.int (1 : Int32))])
      refine W91.1.ifNo (hb hby at_125) (XT.i0_eq_f (by decide)) (pc' := 128) rfl ?_
      refine W91.1.aload (hb hby at_128) rfl rfl (pc' := 130) rfl ?_
      refine W91.1.callVP (y := (⟨"com/example/mandible/mandible/property/CallScope", "parameters", "()Ljava/util/List;"⟩ : MethodName)) (z := (⟨"com/example/mandible/mandible/property/CallScope", "parameters", "()Ljava/util/List;"⟩ : MethodName)) (hw _ (List.mem_of_getElem? (i := 106) rfl)) (hw _ (List.mem_of_getElem? (i := 107) rfl)) (hw _ (List.mem_of_getElem? (i := 109) rfl)) (hw _ (List.mem_of_getElem? (i := 109) rfl)) (hw _ (List.mem_of_getElem? (i := 108) rfl)) (by decide) (NM.bk (wd := 0) (rmGP l Z a0 hw a73 ei h73 n0 W91.1.n0h B73_2) W91.1.2.2.2.1 (hw _ (List.mem_of_getElem? (i := 110) rfl)) (hw _ (List.mem_of_getElem? (i := 29) rfl)) (by decide) (by decide)) A73 (hb hby at_130) (pc' := 133) rfl hml (argsL := []) rfl (lenOf pd_2fce99d9 rfl) rfl (Nat.le_of_ble_eq_true rfl) (by decide) (by decide) (fun _ _ _ q => pu_of q) ?_
      intro T94 L94 N94
      have W94 := W91.same N94
      show Go p e below _ T94 (mkF m 133 #[.val (.int p1), .val (.int p2), .val (.int p3), .val (.int p4), .val (.int (inhF p1)), .val (.int u0), .val (.int u1), .val (.ref a3), .val (.int k), .val (.ref a68), .val (.ref a73)] [(.ref ei)])
      have F96 := Fld.ext X0_6_87 Fei
      have F97 := Arv.ext Aea X0_6_87
      have F98 := Exa.ext X0_6_87 Eei
      refine W94.1.callFP (C := "java/util/ImmutableCollections$ListN") (y := (⟨"java/util/List", "size", "()I"⟩ : MethodName)) (z := (⟨"java/util/ImmutableCollections$ListN", "size", "()I"⟩ : MethodName)) (hw _ (List.mem_of_getElem? (i := 111) rfl)) (hw _ (List.mem_of_getElem? (i := 112) rfl)) (hw _ (List.mem_of_getElem? (i := 113) rfl)) (by decide) (hw _ (List.mem_of_getElem? (i := 114) rfl)) (hw _ (List.mem_of_getElem? (i := 115) rfl)) (hw _ (List.mem_of_getElem? (i := 116) rfl)) (hw _ (List.mem_of_getElem? (i := 117) rfl)) (hw _ (List.mem_of_getElem? (i := 118) rfl)) (by decide) (NM.bk (wd := 0) (rmLZ l Z a0 hw ei ea ke h73 n0 W94.1.n0h F96 F97) W94.1.2.2.2.1 (hw _ (List.mem_of_getElem? (i := 120) rfl)) (hw _ (List.mem_of_getElem? (i := 119) rfl)) (by decide) (by decide)) F98 (hb hby at_133) (pc' := 138) rfl hml (argsL := []) rfl (lenOf pd_368a4b19 rfl) rfl (Nat.le_of_ble_eq_true rfl) (by decide) (by decide) (fun _ _ _ q => pu_of q) ?_
      intro T95 L95 N95
      have W95 := W94.same N95
      show Go p e below _ T95 (mkF m 138 #[.val (.int p1), .val (.int p2), .val (.int p3), .val (.int p4), .val (.int (inhF p1)), .val (.int u0), .val (.int u1), .val (.ref a3), .val (.int k), .val (.ref a68), .val (.ref a73)] [(.int (0 : Int32))])
      refine W95.1.ifNo (hb hby at_138) (XT.i0_ne_f (by decide)) (pc' := 141) rfl ?_
      refine W95.1.aload (hb hby at_141) rfl rfl (pc' := 143) rfl ?_
      refine W95.1.callVP (y := (⟨"com/example/mandible/mandible/property/CallScope", "fromSets", "()Ljava/util/Map;"⟩ : MethodName)) (z := (⟨"com/example/mandible/mandible/property/CallScope", "fromSets", "()Ljava/util/Map;"⟩ : MethodName)) (hw _ (List.mem_of_getElem? (i := 123) rfl)) (hw _ (List.mem_of_getElem? (i := 124) rfl)) (hw _ (List.mem_of_getElem? (i := 126) rfl)) (hw _ (List.mem_of_getElem? (i := 126) rfl)) (hw _ (List.mem_of_getElem? (i := 125) rfl)) (by decide) (NM.bk (wd := 0) (rmGS l Z a0 hw a73 em h73 n0 W95.1.n0h B73_3) W95.1.2.2.2.1 (hw _ (List.mem_of_getElem? (i := 127) rfl)) (hw _ (List.mem_of_getElem? (i := 29) rfl)) (by decide) (by decide)) A73 (hb hby at_143) (pc' := 146) rfl hml (argsL := []) rfl (lenOf pd_a9b6f80b rfl) rfl (Nat.le_of_ble_eq_true rfl) (by decide) (by decide) (fun _ _ _ q => pu_of q) ?_
      intro T99 L99 N99
      have W99 := W95.same N99
      show Go p e below _ T99 (mkF m 146 #[.val (.int p1), .val (.int p2), .val (.int p3), .val (.int p4), .val (.int (inhF p1)), .val (.int u0), .val (.int u1), .val (.ref a3), .val (.int k), .val (.ref a68), .val (.ref a73)] [(.ref em)])
      refine W99.1.callFP (C := "java/util/ImmutableCollections$MapN") (y := (⟨"java/util/Map", "isEmpty", "()Z"⟩ : MethodName)) (z := (⟨"java/util/ImmutableCollections$MapN", "isEmpty", "()Z"⟩ : MethodName)) (hw _ (List.mem_of_getElem? (i := 94) rfl)) (hw _ (List.mem_of_getElem? (i := 95) rfl)) (hw _ (List.mem_of_getElem? (i := 96) rfl)) (by decide) (hw _ (List.mem_of_getElem? (i := 97) rfl)) (hw _ (List.mem_of_getElem? (i := 98) rfl)) (hw _ (List.mem_of_getElem? (i := 99) rfl)) (hw _ (List.mem_of_getElem? (i := 100) rfl)) (hw _ (List.mem_of_getElem? (i := 101) rfl)) (by decide) (NM.bk (wd := 0) (rmME l Z a0 hw em h73 n0 W99.1.n0h F92) W99.1.2.2.2.1 (hw _ (List.mem_of_getElem? (i := 103) rfl)) (hw _ (List.mem_of_getElem? (i := 102) rfl)) (by decide) (by decide)) F93 (hb hby at_146) (pc' := 151) rfl hml (argsL := []) rfl (lenOf pd_bfe1a59d rfl) rfl (Nat.le_of_ble_eq_true rfl) (by decide) (by decide) (fun _ _ _ q => pu_of q) ?_
      intro T100 L100 N100
      have W100 := W99.same N100
      show Go p e below _ T100 (mkF m 151 #[.val (.int p1), .val (.int p2), .val (.int p3), .val (.int p4), .val (.int (inhF p1)), .val (.int u0), .val (.int u1), .val (.ref a3), .val (.int k), .val (.ref a68), .val (.ref a73)] [(.int (1 : Int32))])
      refine W100.1.ifNo (hb hby at_151) (XT.i0_eq_f (by decide)) (pc' := 154) rfl ?_
      refine W100.1.iconst (1 : Int32) (hb hby at_154) rfl (pc' := 155) rfl ?_
      refine W100.1.goto (hb hby at_155) (by decide) (pc' := 159) (by decide) ?_
      exact W100.retZ hEL hret (hb hby at_159) (by decide) (by decide) (by decide) ⟨rfl, trivial⟩
set_option maxRecDepth 65536 in
set_option maxHeartbeats 40000000 in
theorem comes_1 {Post : Tables → Env → Array Value → State → Outcome → State → Prop} (hpost : ∀ tb e args s v u, (limb_1_1.after args s (.returned v) u = true ∧ limb_1_2.after args s (.returned v) u = true) → ReturnedEndW s (.returned v) u (Jvm.fieldLocs frame_1_writes args s ++ Jvm.arrayLocs frame_1_arrays args s ++ Jvm.staticLocs frame_1_statics s) 24 1152 → Post tb e args s (.returned v) u) :
    ArmFor flags0 classFile x code maxLocals ret World_1 tables_1 room_1 Calls_1 rest_1 Pre_1 Post := by
  intro l hfl _ _ p e ha hc hk s m args below hf hA hF happ hP
  obtain ⟨hcalls, hrest, hpre⟩ := hP
  obtain ⟨-, -, -, hnamed, -, -, -, hat⟩ := (Spec.applies_iff hf).mp happ
  obtain ⟨hg, hn⟩ := and_e (Cond.before_iff.mp (show (Jvm.Cond.and given_1 narrow_1).before args s = true from hpre))
  obtain ⟨gA1, gB1⟩ := and_e hg
  obtain ⟨gA2, gB2⟩ := and_e gB1
  obtain ⟨gA3, gB3⟩ := and_e gB2
  obtain ⟨gA4, gB4⟩ := and_e gB3
  obtain ⟨w0, w1, w2, w3, rfl⟩ : ∃ w0 w1 w2 w3 : Value, args = #[w0, w1, w2, w3] := by
    have hs : args.size = 4 := by simpa [Cond.value, given_1] using gA1
    obtain ⟨L⟩ := args
    match L, hs with
    | [w0, w1, w2, w3], _ => exact ⟨w0, w1, w2, w3, rfl⟩
  have hw := fun d (hd : d ∈ tables_1) => atoms_spec (ws := Jvm.Cond.code x code maxLocals ret :: tables_1) hat d (List.mem_cons_of_mem _ hd)
  have hfit : Fit s := fun {y c} hc i hi => by
    obtain ⟨ha, rfl⟩ := Array.getElem?_eq_some_iff.mp hc
    have q := List.all_eq_true.mp ((Array.all_eq_true_iff_forall_mem.mp hF) _ (Array.getElem_mem ha)) i (List.mem_range.mpr hi)
    simpa [Array.getElem?_eq_getElem hi] using q
  obtain ⟨hsets, hown0⟩ := atoms_of _ (rest_1_c_eq ▸ (show rest_1_c.before _ s = true from hrest))
  have hr0 := Cond.before_iff.mp hown0
  obtain ⟨i0, ei0⟩ := is_v gA2
  obtain rfl : w0 = (.int i0) := Option.some.inj ei0
  obtain ⟨i1, ei1⟩ := is_v gA3
  obtain rfl : w1 = (.int i1) := Option.some.inj ei1
  obtain ⟨i2, ei2⟩ := is_v gA4
  obtain rfl : w2 = (.int i2) := Option.some.inj ei2
  obtain ⟨i3, ei3⟩ := is_v gB4
  obtain rfl : w3 = (.int i3) := Option.some.inj ei3
  obtain ⟨em, -, -, -, evem, -⟩ := Cond.exactly_spec (hsets _ (List.mem_of_getElem? (i := 11) rfl))
  have Sem : Sta s s.heap "java/util/ImmutableCollections" "EMPTY_MAP" "Ljava/util/ImmutableCollections$MapN;" (.ref em) := Sta.start evem (Or.inl (hsets _ (List.mem_of_getElem? (i := 10) rfl)))
  have Eem := Exa.start evem (Cond.before_iff.mp (hsets _ (List.mem_of_getElem? (i := 11) rfl)))
  obtain ⟨ei, -, -, -, evei, -⟩ := Cond.exactly_spec (hsets _ (List.mem_of_getElem? (i := 18) rfl))
  have Sei : Sta s s.heap "java/util/ImmutableCollections" "EMPTY_LIST" "Ljava/util/ImmutableCollections$ListN;" (.ref ei) := Sta.start evei (Or.inl (hsets _ (List.mem_of_getElem? (i := 17) rfl)))
  have Eei := Exa.start evei (Cond.before_iff.mp (hsets _ (List.mem_of_getElem? (i := 18) rfl)))
  obtain ⟨es, -, -, -, eves, -⟩ := Cond.exactly_spec (hsets _ (List.mem_of_getElem? (i := 25) rfl))
  have Ses : Sta s s.heap "java/util/ImmutableCollections" "EMPTY_SET" "Ljava/util/ImmutableCollections$SetN;" (.ref es) := Sta.start eves (Or.inl (hsets _ (List.mem_of_getElem? (i := 24) rfl)))
  have Ees := Exa.start eves (Cond.before_iff.mp (hsets _ (List.mem_of_getElem? (i := 25) rfl)))
  have Fem : Fld s s.heap em "java/util/ImmutableCollections$MapN" "size" "I" (.int (0 : Int32)) := Fld.start (by have q := eqv_i (Term.int_eval _) (Cond.before_iff.mp (hsets _ (List.mem_of_getElem? (i := 15) rfl))); rw [fld_at evem] at q; exact q)
  have Fes : Fld s s.heap es "java/util/ImmutableCollections$SetN" "size" "I" (.int (0 : Int32)) := Fld.start (by have q := eqv_i (Term.int_eval _) (Cond.before_iff.mp (hsets _ (List.mem_of_getElem? (i := 29) rfl))); rw [fld_at eves] at q; exact q)
  obtain ⟨ea, eva⟩ := arr_v (Cond.before_iff.mp (hsets _ (List.mem_of_getElem? (i := 19) rfl)))
  have Fei : Fld s s.heap ei "java/util/ImmutableCollections$ListN" "elements" "[Ljava/lang/Object;" (.ref ea) := Fld.start (by have q := eva; rw [fld_at evei] at q; exact q)
  obtain ⟨ke, Aea⟩ := arr_start (n := 0) (vs := []) (dv := .null) hfit eva (Cond.before_iff.mp (hsets _ (List.mem_of_getElem? (i := 19) rfl))) (Cond.before_iff.mp (hsets _ (List.mem_of_getElem? (i := 21) rfl))) (by decide) rfl (by intro j hj; omega)
  have n5 := not_v (Cond.before_iff.mp (hsets _ (List.mem_of_getElem? (i := 2) rfl)))
  obtain ⟨zc, ezc⟩ := is_v (Cond.before_iff.mp (hsets _ (List.mem_of_getElem? (i := 1) rfl)))
  have SC : Sta s s.heap "java/lang/String" "COMPACT_STRINGS" "Z" (.int zc) := Sta.start ezc (Or.inl (hsets _ (List.mem_of_getElem? (i := 0) rfl)))
  have hz : ¬ (zc = (0 : Int32)) := gotF (Cond.eq_ints ezc (Term.int_eval (0))) n5
  have hELs : EW s #[Value.int i0, Value.int i1, Value.int i2, Value.int i3] consts_0 := EW.nil
  have hCH : CHv s consts_0 s.vm s.heap := CHv.start hELs (fun q hq => nomatch hq) (hsets _ (List.mem_of_getElem? (i := 2) rfl)) (hw _ (List.mem_of_getElem? (i := 15) rfl)) (hw _ (List.mem_of_getElem? (i := 11) rfl))
  obtain ⟨n, o, h1, h2, h3, _, L, rfl, ⟨⟨rfl, -⟩, -, N⟩, -, hq⟩ := rmLaw l s _ hw hELs i0 i1 i2 i3 zc em ei es ea ke s.heap s.heap.size (Nat.le_refl _) SC hz Sem Eem Sei Eei Ses Ees Fem Fes Fei Aea p e ha hc hk s m _ below hf ((Spec.applies_iff_loose hf).mp happ).1 ⟨rfl, State.Warmed39.refl s, rfl, hCH⟩ trivial
  exact ⟨n, _, h1, h2, h3, hpost _ _ _ _ _ _ ⟨Cond.after_iff.mpr rfl, Cond.after_iff.mpr (eq_i res_at (Term.int_eval (1)) rfl)⟩ ⟨hq.1, hq.2.1, hq.2.2.1, (hq.2.2.2.sift fun y hy => Or.inr (N y hy)).mono (by decide) (by decide)⟩⟩
theorem main_1_1 : Claimed_1_1 := comes_1 fun _ _ _ _ _ _ h hF => ⟨h.1, hF⟩
theorem main_1_2 : Claimed_1_2 := comes_1 fun _ _ _ _ _ _ h hF => ⟨h.2, hF⟩
end Jvm.Pilot.@@N@@
namespace Jvm.Pilot.@@N@@
open Jvm Jvm.ClassFile Sem Op Lib Jvm.Free Jvm.Stand Jvm.Pilot.@@N@@.Jvm.D
/-! MADE BY PROGRAM (witnessworld.py) out of the Statement's table words and the real class files: 39 classes; the members and pool entries that the words name. The judged class is class 1, her method 1. -/
namespace start1
open Jvm.ClassFile
def u (s : String) : CpInfo := .utf8 (stringToUtf16 s)
/-- a pool by its gaps: so many unusable entries, then the entry; so many at the end -/
def gap : Nat → List CpInfo → List CpInfo
  | 0, r => r
  | n + 1, r => .unusable :: gap n r
def poolList (es : List (Nat × CpInfo)) (last : Nat) : List CpInfo := es.foldr (fun e r => gap e.1 (e.2 :: r)) (gap last [])
def pool (es : List (Nat × CpInfo)) (last : Nat) : Array CpInfo := ⟨poolList es last⟩
def fileOf (pool : Array CpInfo) (this : Nat) (attrs : Array Attribute := #[]) (ms : Array MethodInfo := #[]) (fl : Nat := 33) (sup : Nat := 0) (ifs : Array Nat := #[]) (fds : Array FieldInfo := #[]) : ClassFile where
  minorVersion := 0
  majorVersion := 65
  constantPool := pool
  accessFlags := fl
  thisClass := this
  superClass := sup
  interfaces := ifs
  fields := fds
  methods := ms
  attributes := attrs
def plain (name : String) (sup : Option ClassId) : Class where
  name := name
  kind := .ordinary
  loader := none
  accessFlags := 33
  super := sup
  interfaces := #[]
  cf := none
  fields := #[]
  methods := #[]
  instanceTypes := #[]
  staticTypes := #[]
  resolved := #[]
  callSites := []
  init := .initialized
  statics := none
  mirror := none

def pool0 : Array CpInfo := pool [(5, u "<init>"), (0, u "()V"), (1, .class_ 10), (1, u "java/lang/Object")] 113

def k0c0 : Code := { maxStack := 0, maxLocals := 1, code := object_method_1_code, exceptionTable := #[], attributes := #[] }
def k0m0 : Method := { name := "<init>", desc := "()V", sig := { parameters := [], returnType := none }, accessFlags := 1, code := some k0c0 }
/-- java/lang/Object -/
def k0 : Class := { plain "java/lang/Object" none with
  accessFlags := 33
  interfaces := #[]
  cf := some (fileOf pool0 8 #[] #[{ accessFlags := 1, nameIndex := 5, descriptorIndex := 6, attributes := #[] }] 33 0 #[] #[])
  fields := #[]
  methods := #[k0m0]
  instanceTypes := #[]
  staticTypes := #[]
  resolved := Array.replicate 124 none
  statics := none }

def pool1 : Array CpInfo := pool [(2, .class_ 4), (1, u "java/lang/Object"), (0, u "<init>"), (0, u "()V"), (0, .string 8), (0, u ""), (0, .methodref 10 11), (0, .class_ 12), (0, .nameAndType 13 14), (0, u "java/lang/String"), (0, u "valueOf"), (0, u "(C)Ljava/lang/String;"), (0, .methodref 10 16), (0, .nameAndType 5 17), (0, u "([C)V"), (0, .methodref 19 20), (0, .class_ 21), (0, .nameAndType 22 23), (0, u "com/example/mandible/mandible/property/CallScope"), (0, u "of"), (0, u "(Z)Lcom/example/mandible/mandible/property/CallScope;"), (0, .methodref 19 25), (0, .nameAndType 26 27), (0, u "inheritsAll"), (0, u "()Z"), (0, .methodref 19 29), (0, .nameAndType 30 31), (0, u "inherits"), (0, u "(Ljava/lang/String;)Z"), (0, .methodref 19 33), (0, .nameAndType 34 35), (0, u "fixed"), (0, u "()Ljava/util/Map;"), (0, .interfaceMethodref 37 38), (0, .class_ 39), (0, .nameAndType 40 27), (0, u "java/util/Map"), (0, u "isEmpty"), (0, .methodref 19 42), (0, .nameAndType 43 44), (0, u "parameters"), (0, u "()Ljava/util/List;"), (0, .interfaceMethodref 46 47), (0, .class_ 48), (0, .nameAndType 49 50), (0, u "java/util/List"), (0, u "size"), (0, u "()I"), (0, .methodref 19 52), (0, .nameAndType 53 35), (0, u "fromSets"), (0, .class_ 55), (0, u "com/example/mandible/mandible/property/CallScopeOfPinLaw"), (2, u "law"), (0, u "(IIII)Z")] 5

def k1m0 : Method := { name := "<init>", desc := "()V", sig := { parameters := [], returnType := none }, accessFlags := 1, code := none }
def k1c1 : Code := { maxStack := 4, maxLocals := 11, code := code, exceptionTable := #[], attributes := #[] }
def k1m1 : Method := { name := "law", desc := "(IIII)Z", sig := { parameters := [.int, .int, .int, .int], returnType := some .boolean }, accessFlags := 9, code := some k1c1 }
/-- com/example/mandible/mandible/property/CallScopeOfPinLaw -/
def k1 : Class := { plain "com/example/mandible/mandible/property/CallScopeOfPinLaw" (some 0) with
  accessFlags := 49
  interfaces := #[]
  cf := some (fileOf pool1 54 #[] #[{ accessFlags := 1, nameIndex := 5, descriptorIndex := 6, attributes := #[] }, { accessFlags := 9, nameIndex := 58, descriptorIndex := 59, attributes := #[] }] 49 2 #[] #[])
  fields := #[]
  methods := #[k1m0, k1m1]
  instanceTypes := #[]
  staticTypes := #[]
  resolved := Array.replicate 65 none
  statics := none }

def pool2 : Array CpInfo := pool [(1, .class_ 2), (0, u "java/io/Serializable"), (0, .class_ 4), (0, u "java/lang/Object")] 2

/-- java/io/Serializable -/
def k2 : Class := { plain "java/io/Serializable" (some 0) with
  accessFlags := 1537
  interfaces := #[]
  cf := some (fileOf pool2 1 #[] #[] 1537 3 #[] #[])
  fields := #[]
  methods := #[]
  instanceTypes := #[]
  staticTypes := #[]
  resolved := Array.replicate 7 none
  statics := none }

def pool3 : Array CpInfo := pool [(1, .class_ 2), (0, u "java/lang/Comparable"), (0, .class_ 4), (0, u "java/lang/Object")] 7

/-- java/lang/Comparable -/
def k3 : Class := { plain "java/lang/Comparable" (some 0) with
  accessFlags := 1537
  interfaces := #[]
  cf := some (fileOf pool3 1 #[] #[] 1537 3 #[] #[])
  fields := #[]
  methods := #[]
  instanceTypes := #[]
  staticTypes := #[]
  resolved := Array.replicate 12 none
  statics := none }

def pool4 : Array CpInfo := pool [(2, .class_ 4), (1, u "java/lang/CharSequence"), (42, .class_ 48), (0, u "java/lang/CharSequence$1CodePointIterator"), (10, .class_ 60), (0, u "java/lang/CharSequence$1CharIterator"), (5, .class_ 67), (0, u "java/lang/Object")] 63

/-- java/lang/CharSequence -/
def k4 : Class := { plain "java/lang/CharSequence" (some 0) with
  accessFlags := 1537
  interfaces := #[]
  cf := some (fileOf pool4 2 #[.nestMembers #[47, 59]] #[] 1537 66 #[] #[])
  fields := #[]
  methods := #[]
  instanceTypes := #[]
  staticTypes := #[]
  resolved := Array.replicate 131 none
  statics := none }

def pool5 : Array CpInfo := pool [(1, .class_ 2), (0, u "java/lang/constant/Constable"), (0, .class_ 4), (0, u "java/lang/Object")] 6

/-- java/lang/constant/Constable -/
def k5 : Class := { plain "java/lang/constant/Constable" (some 0) with
  accessFlags := 1537
  interfaces := #[]
  cf := some (fileOf pool5 1 #[] #[] 1537 3 #[] #[])
  fields := #[]
  methods := #[]
  instanceTypes := #[]
  staticTypes := #[]
  resolved := Array.replicate 11 none
  statics := none }

def pool6 : Array CpInfo := pool [(1, .class_ 2), (0, u "java/lang/constant/ConstantDesc"), (0, .class_ 4), (0, u "java/lang/Object")] 32

/-- java/lang/constant/ConstantDesc -/
def k6 : Class := { plain "java/lang/constant/ConstantDesc" (some 0) with
  accessFlags := 1537
  interfaces := #[]
  cf := some (fileOf pool6 1 #[] #[] 1537 3 #[] #[])
  fields := #[]
  methods := #[]
  instanceTypes := #[]
  staticTypes := #[]
  resolved := Array.replicate 37 none
  statics := none }

def pool7 : Array CpInfo := pool [(1, .methodref 2 3), (0, .class_ 4), (0, .nameAndType 5 6), (0, u "java/lang/Object"), (0, u "<init>"), (0, u "()V"), (2, .fieldref 10 11), (0, .class_ 12), (0, .nameAndType 13 14), (0, u "java/lang/String"), (0, u "value"), (0, u "[B"), (0, .fieldref 10 16), (0, .nameAndType 17 18), (0, u "coder"), (0, u "B"), (2, u "hash"), (0, u "I"), (2, u "hashIsZero"), (0, u "Z"), (0, .methodref 10 28), (0, .nameAndType 5 29), (0, u "([CIILjava/lang/Void;)V"), (8, .fieldref 10 39), (0, .nameAndType 40 26), (0, u "COMPACT_STRINGS"), (1, .class_ 44), (1, u "java/lang/StringUTF16"), (0, u "compress"), (1, .methodref 42 48), (0, .nameAndType 49 50), (0, u "coderFromArrayLen"), (0, u "([BI)B"), (2, u "toBytes"), (53, .class_ 109), (1, u "java/lang/StringLatin1"), (67, .methodref 42 178), (0, .nameAndType 45 179), (0, u "([CII)[B"), (29, .methodref 10 210), (0, .nameAndType 5 211), (0, u "([BB)V"), (157, u "(C)Z"), (205, .class_ 576), (0, u "java/lang/CharSequence"), (22, u "CASE_INSENSITIVE_ORDER"), (0, u "Ljava/util/Comparator;"), (181, u "valueOf"), (0, u "(C)Ljava/lang/String;"), (226, u "([C)V"), (4, .methodref 107 1016), (0, .nameAndType 1017 369), (0, u "canEncode"), (0, .methodref 107 1019), (0, .nameAndType 53 1020), (0, u "(C)[B"), (80, u "serialPersistentFields"), (0, u "[Ljava/io/ObjectStreamField;"), (0, .class_ 1104), (0, u "java/lang/String$CaseInsensitiveComparator"), (1, .class_ 1107), (0, u "java/io/Serializable"), (0, .class_ 1109), (0, u "java/lang/Comparable"), (0, .class_ 1111), (0, u "java/lang/constant/Constable"), (0, .class_ 1113), (0, u "java/lang/constant/ConstantDesc"), (2, u "serialVersionUID"), (0, u "J"), (3, u "REPL"), (0, u "C"), (2, u "LATIN1"), (1, u "UTF16")] 323

def k7m0 : Method := { name := "<init>", desc := "()V", sig := { parameters := [], returnType := none }, accessFlags := 1, code := none }
def k7c1 : Code := { maxStack := 5, maxLocals := 2, code := jdk_42_method_3_code, exceptionTable := #[], attributes := #[] }
def k7m1 : Method := { name := "<init>", desc := "([C)V", sig := { parameters := [(.array .char)], returnType := none }, accessFlags := 1, code := some k7c1 }
def k7c2 : Code := { maxStack := 4, maxLocals := 1, code := jdk_42_method_139_code, exceptionTable := #[], attributes := #[] }
def k7m2 : Method := { name := "valueOf", desc := "(C)Ljava/lang/String;", sig := { parameters := [.char], returnType := some (.object "java/lang/String") }, accessFlags := 9, code := some k7c2 }
def k7c3 : Code := { maxStack := 4, maxLocals := 6, code := jdk_42_method_149_code, exceptionTable := #[], attributes := #[] }
def k7m3 : Method := { name := "<init>", desc := "([CIILjava/lang/Void;)V", sig := { parameters := [(.array .char), .int, .int, (.object "java/lang/Void")], returnType := none }, accessFlags := 2, code := some k7c3 }
def k7c4 : Code := { maxStack := 2, maxLocals := 3, code := jdk_42_method_151_code, exceptionTable := #[], attributes := #[] }
def k7m4 : Method := { name := "<init>", desc := "([BB)V", sig := { parameters := [(.array .byte), .byte], returnType := none }, accessFlags := 0, code := some k7c4 }
/-- java/lang/String -/
def k7 : Class := { plain "java/lang/String" (some 0) with
  accessFlags := 49
  interfaces := #[2, 3, 4, 5, 6]
  cf := some (fileOf pool7 10 #[.nestMembers #[1103]] #[{ accessFlags := 1, nameIndex := 5, descriptorIndex := 6, attributes := #[] }, { accessFlags := 1, nameIndex := 5, descriptorIndex := 1010, attributes := #[] }, { accessFlags := 9, nameIndex := 782, descriptorIndex := 783, attributes := #[] }, { accessFlags := 2, nameIndex := 5, descriptorIndex := 29, attributes := #[] }, { accessFlags := 0, nameIndex := 5, descriptorIndex := 211, attributes := #[] }] 49 2 #[1106, 1108, 575, 1110, 1112] #[{ accessFlags := 18, nameIndex := 13, descriptorIndex := 14, attributes := #[] }, { accessFlags := 18, nameIndex := 17, descriptorIndex := 18, attributes := #[] }, { accessFlags := 2, nameIndex := 21, descriptorIndex := 22, attributes := #[] }, { accessFlags := 2, nameIndex := 25, descriptorIndex := 26, attributes := #[] }, { accessFlags := 26, nameIndex := 1116, descriptorIndex := 1117, attributes := #[] }, { accessFlags := 24, nameIndex := 40, descriptorIndex := 26, attributes := #[] }, { accessFlags := 26, nameIndex := 1101, descriptorIndex := 1102, attributes := #[] }, { accessFlags := 26, nameIndex := 1121, descriptorIndex := 1122, attributes := #[] }, { accessFlags := 25, nameIndex := 599, descriptorIndex := 600, attributes := #[] }, { accessFlags := 24, nameIndex := 1125, descriptorIndex := 18, attributes := #[] }, { accessFlags := 24, nameIndex := 1127, descriptorIndex := 18, attributes := #[] }])
  fields := #[{ name := "value", type := (.array .byte), accessFlags := 18, slot := 0, constantValue := 0 }, { name := "coder", type := .byte, accessFlags := 18, slot := 1, constantValue := 0 }, { name := "hash", type := .int, accessFlags := 2, slot := 2, constantValue := 0 }, { name := "hashIsZero", type := .boolean, accessFlags := 2, slot := 3, constantValue := 0 }, { name := "serialVersionUID", type := .long, accessFlags := 26, slot := 0, constantValue := 0 }, { name := "COMPACT_STRINGS", type := .boolean, accessFlags := 24, slot := 1, constantValue := 0 }, { name := "serialPersistentFields", type := (.array (.object "java/io/ObjectStreamField")), accessFlags := 26, slot := 2, constantValue := 0 }, { name := "REPL", type := .char, accessFlags := 26, slot := 3, constantValue := 0 }, { name := "CASE_INSENSITIVE_ORDER", type := (.object "java/util/Comparator"), accessFlags := 25, slot := 4, constantValue := 0 }, { name := "LATIN1", type := .byte, accessFlags := 24, slot := 5, constantValue := 0 }, { name := "UTF16", type := .byte, accessFlags := 24, slot := 6, constantValue := 0 }]
  methods := #[k7m0, k7m1, k7m2, k7m3, k7m4]
  instanceTypes := #[(.array .byte), .byte, .int, .boolean]
  staticTypes := #[.long, .boolean, (.array (.object "java/io/ObjectStreamField")), .char, (.object "java/util/Comparator"), .byte, .byte]
  resolved := Array.replicate 1451 none
  statics := some 0 }

def pool8 : Array CpInfo := pool [(4, .class_ 6), (1, u "java/lang/Object"), (0, u "<init>"), (0, u "()V"), (5, .class_ 16), (1, u "java/lang/StringLatin1"), (73, u "canEncode"), (14, u "(C)Z"), (15, u "$assertionsDisabled"), (0, u "Z"), (98, .class_ 223), (1, u "java/lang/StringLatin1$LinesSpliterator"), (156, u "toBytes"), (1, u "(C)[B"), (7, .class_ 391), (0, u "java/lang/StringLatin1$CharsSpliterator")] 3

def k8m0 : Method := { name := "<init>", desc := "()V", sig := { parameters := [], returnType := none }, accessFlags := 0, code := none }
def k8c1 : Code := { maxStack := 2, maxLocals := 1, code := jdk_43_method_3_code, exceptionTable := #[], attributes := #[] }
def k8m1 : Method := { name := "canEncode", desc := "(C)Z", sig := { parameters := [.char], returnType := some .boolean }, accessFlags := 9, code := some k8c1 }
def k8c2 : Code := { maxStack := 4, maxLocals := 1, code := jdk_43_method_46_code, exceptionTable := #[], attributes := #[] }
def k8m2 : Method := { name := "toBytes", desc := "(C)[B", sig := { parameters := [.char], returnType := some (.array .byte) }, accessFlags := 9, code := some k8c2 }
/-- java/lang/StringLatin1 -/
def k8 : Class := { plain "java/lang/StringLatin1" (some 0) with
  accessFlags := 48
  interfaces := #[]
  cf := some (fileOf pool8 14 #[.nestMembers #[390, 221]] #[{ accessFlags := 0, nameIndex := 7, descriptorIndex := 8, attributes := #[] }, { accessFlags := 9, nameIndex := 90, descriptorIndex := 105, attributes := #[] }, { accessFlags := 9, nameIndex := 380, descriptorIndex := 382, attributes := #[] }] 48 4 #[] #[{ accessFlags := 4120, nameIndex := 121, descriptorIndex := 122, attributes := #[] }])
  fields := #[{ name := "$assertionsDisabled", type := .boolean, accessFlags := 4120, slot := 0, constantValue := 0 }]
  methods := #[k8m0, k8m1, k8m2]
  instanceTypes := #[]
  staticTypes := #[.boolean]
  resolved := Array.replicate 395 none
  statics := none }

def pool9 : Array CpInfo := pool [(1, .methodref 2 3), (0, .class_ 4), (0, .nameAndType 5 6), (0, u "java/lang/Object"), (0, u "<init>"), (0, u "()V"), (0, .fieldref 8 9), (0, .class_ 10), (0, .nameAndType 11 12), (0, u "com/example/mandible/mandible/property/CallScope"), (0, u "inheritAll"), (0, u "Z"), (0, .fieldref 8 14), (0, .nameAndType 15 16), (0, u "fixed"), (0, u "Ljava/util/Map;"), (0, .fieldref 8 18), (0, .nameAndType 19 20), (0, u "parameters"), (0, u "Ljava/util/List;"), (0, .fieldref 8 22), (0, .nameAndType 23 16), (0, u "fromSets"), (0, .fieldref 8 25), (0, .nameAndType 26 27), (0, u "notInherited"), (0, u "Ljava/util/Set;"), (0, .interfaceMethodref 29 30), (0, .class_ 31), (0, .nameAndType 32 33), (0, u "java/util/Map"), (0, u "of"), (0, u "()Ljava/util/Map;"), (0, .interfaceMethodref 35 36), (0, .class_ 37), (0, .nameAndType 32 38), (0, u "java/util/List"), (0, u "()Ljava/util/List;"), (0, .interfaceMethodref 40 41), (0, .class_ 42), (0, .nameAndType 32 43), (0, u "java/util/Set"), (0, u "()Ljava/util/Set;"), (0, .methodref 8 45), (0, .nameAndType 5 46), (0, u "(ZLjava/util/Map;Ljava/util/List;Ljava/util/Map;Ljava/util/Set;)V"), (15, u "(Ljava/lang/Object;)Z"), (3, .interfaceMethodref 40 67), (0, .nameAndType 68 62), (0, u "contains"), (7, u "(Z)Lcom/example/mandible/mandible/property/CallScope;"), (9, u "inheritsAll"), (0, u "()Z"), (2, u "inherits"), (0, u "(Ljava/lang/String;)Z")] 3

def k9c0 : Code := { maxStack := 2, maxLocals := 6, code := prog_23_method_1_code, exceptionTable := #[], attributes := #[] }
def k9m0 : Method := { name := "<init>", desc := "(ZLjava/util/Map;Ljava/util/List;Ljava/util/Map;Ljava/util/Set;)V", sig := { parameters := [.boolean, (.object "java/util/Map"), (.object "java/util/List"), (.object "java/util/Map"), (.object "java/util/Set")], returnType := none }, accessFlags := 2, code := some k9c0 }
def k9c1 : Code := { maxStack := 7, maxLocals := 1, code := prog_23_method_2_code, exceptionTable := #[], attributes := #[] }
def k9m1 : Method := { name := "of", desc := "(Z)Lcom/example/mandible/mandible/property/CallScope;", sig := { parameters := [.boolean], returnType := some (.object "com/example/mandible/mandible/property/CallScope") }, accessFlags := 9, code := some k9c1 }
def k9c2 : Code := { maxStack := 1, maxLocals := 1, code := prog_23_method_7_code, exceptionTable := #[], attributes := #[] }
def k9m2 : Method := { name := "inheritsAll", desc := "()Z", sig := { parameters := [], returnType := some .boolean }, accessFlags := 0, code := some k9c2 }
def k9c3 : Code := { maxStack := 1, maxLocals := 1, code := prog_23_method_8_code, exceptionTable := #[], attributes := #[] }
def k9m3 : Method := { name := "fixed", desc := "()Ljava/util/Map;", sig := { parameters := [], returnType := some (.object "java/util/Map") }, accessFlags := 0, code := some k9c3 }
def k9c4 : Code := { maxStack := 1, maxLocals := 1, code := prog_23_method_9_code, exceptionTable := #[], attributes := #[] }
def k9m4 : Method := { name := "parameters", desc := "()Ljava/util/List;", sig := { parameters := [], returnType := some (.object "java/util/List") }, accessFlags := 0, code := some k9c4 }
def k9c5 : Code := { maxStack := 1, maxLocals := 1, code := prog_23_method_10_code, exceptionTable := #[], attributes := #[] }
def k9m5 : Method := { name := "fromSets", desc := "()Ljava/util/Map;", sig := { parameters := [], returnType := some (.object "java/util/Map") }, accessFlags := 0, code := some k9c5 }
def k9c6 : Code := { maxStack := 2, maxLocals := 2, code := prog_23_method_11_code, exceptionTable := #[], attributes := #[] }
def k9m6 : Method := { name := "inherits", desc := "(Ljava/lang/String;)Z", sig := { parameters := [(.object "java/lang/String")], returnType := some .boolean }, accessFlags := 0, code := some k9c6 }
/-- com/example/mandible/mandible/property/CallScope -/
def k9 : Class := { plain "com/example/mandible/mandible/property/CallScope" (some 0) with
  accessFlags := 49
  interfaces := #[]
  cf := some (fileOf pool9 8 #[] #[{ accessFlags := 2, nameIndex := 5, descriptorIndex := 46, attributes := #[] }, { accessFlags := 9, nameIndex := 32, descriptorIndex := 76, attributes := #[] }, { accessFlags := 0, nameIndex := 86, descriptorIndex := 87, attributes := #[] }, { accessFlags := 0, nameIndex := 15, descriptorIndex := 33, attributes := #[] }, { accessFlags := 0, nameIndex := 19, descriptorIndex := 38, attributes := #[] }, { accessFlags := 0, nameIndex := 23, descriptorIndex := 33, attributes := #[] }, { accessFlags := 0, nameIndex := 90, descriptorIndex := 91, attributes := #[] }] 49 2 #[] #[{ accessFlags := 18, nameIndex := 11, descriptorIndex := 12, attributes := #[] }, { accessFlags := 18, nameIndex := 15, descriptorIndex := 16, attributes := #[] }, { accessFlags := 18, nameIndex := 19, descriptorIndex := 20, attributes := #[] }, { accessFlags := 18, nameIndex := 23, descriptorIndex := 16, attributes := #[] }, { accessFlags := 18, nameIndex := 26, descriptorIndex := 27, attributes := #[] }])
  fields := #[{ name := "inheritAll", type := .boolean, accessFlags := 18, slot := 0, constantValue := 0 }, { name := "fixed", type := (.object "java/util/Map"), accessFlags := 18, slot := 1, constantValue := 0 }, { name := "parameters", type := (.object "java/util/List"), accessFlags := 18, slot := 2, constantValue := 0 }, { name := "fromSets", type := (.object "java/util/Map"), accessFlags := 18, slot := 3, constantValue := 0 }, { name := "notInherited", type := (.object "java/util/Set"), accessFlags := 18, slot := 4, constantValue := 0 }]
  methods := #[k9m0, k9m1, k9m2, k9m3, k9m4, k9m5, k9m6]
  instanceTypes := #[.boolean, (.object "java/util/Map"), (.object "java/util/List"), (.object "java/util/Map"), (.object "java/util/Set")]
  staticTypes := #[]
  resolved := Array.replicate 95 none
  statics := none }

def pool10 : Array CpInfo := pool [(2, .class_ 4), (1, u "java/util/Map"), (26, u "()Z"), (4, .class_ 37), (0, u "java/util/Map$Entry"), (43, .fieldref 82 83), (0, .class_ 84), (0, .nameAndType 85 86), (0, u "java/util/ImmutableCollections"), (0, u "EMPTY_MAP"), (0, u "Ljava/util/ImmutableCollections$MapN;"), (6, .class_ 94), (0, u "java/lang/Object"), (10, u "isEmpty"), (2, u "of"), (0, u "()Ljava/util/Map;")] 153

def k10m0 : Method := { name := "isEmpty", desc := "()Z", sig := { parameters := [], returnType := some .boolean }, accessFlags := 1025, code := none }
def k10c1 : Code := { maxStack := 1, maxLocals := 0, code := jdk_72_method_26_code, exceptionTable := #[], attributes := #[] }
def k10m1 : Method := { name := "of", desc := "()Ljava/util/Map;", sig := { parameters := [], returnType := some (.object "java/util/Map") }, accessFlags := 9, code := some k10c1 }
/-- java/util/Map -/
def k10 : Class := { plain "java/util/Map" (some 0) with
  accessFlags := 1537
  interfaces := #[]
  cf := some (fileOf pool10 2 #[.nestMembers #[36]] #[{ accessFlags := 1025, nameIndex := 105, descriptorIndex := 31, attributes := #[] }, { accessFlags := 9, nameIndex := 108, descriptorIndex := 109, attributes := #[] }] 1537 93 #[] #[])
  fields := #[]
  methods := #[k10m0, k10m1]
  instanceTypes := #[]
  staticTypes := #[]
  resolved := Array.replicate 263 none
  statics := none }

def pool11 : Array CpInfo := pool [(2, .class_ 4), (1, u "java/lang/Object"), (0, u "<init>"), (0, u "()V"), (3, .class_ 11), (0, u "java/util/ImmutableCollections$List12"), (0, .class_ 13), (0, u "java/util/ImmutableCollections$ListN"), (3, u "Z"), (29, .class_ 49), (1, u "java/util/ImmutableCollections"), (0, u "$assertionsDisabled"), (5, u "[Ljava/lang/Object;"), (5, u "EMPTY_LIST"), (0, u "Ljava/util/ImmutableCollections$ListN;"), (8, u "EMPTY_LIST_NULLS"), (22, u "SALT32L"), (0, u "J"), (2, u "REVERSE"), (6, u "archivedObjects"), (2, u "EMPTY"), (0, u "Ljava/lang/Object;"), (0, .class_ 112), (0, u "java/util/ImmutableCollections$SetN"), (5, u "EMPTY_SET"), (0, u "Ljava/util/ImmutableCollections$SetN;"), (0, .class_ 121), (0, u "java/util/ImmutableCollections$MapN"), (3, u "EMPTY_MAP"), (0, u "Ljava/util/ImmutableCollections$MapN;"), (4, u "EXPAND_FACTOR"), (0, u "I"), (36, .class_ 170), (0, u "java/util/ImmutableCollections$MapN$MapNIterator"), (0, .class_ 172), (0, u "java/util/ImmutableCollections$MapN$1"), (0, .class_ 174), (0, u "java/util/ImmutableCollections$Map1"), (0, .class_ 176), (0, u "java/util/ImmutableCollections$AbstractImmutableMap"), (0, .class_ 178), (0, u "java/util/ImmutableCollections$SetN$SetNIterator"), (0, .class_ 180), (0, u "java/util/ImmutableCollections$Set12"), (0, .class_ 182), (0, u "java/util/ImmutableCollections$Set12$1"), (0, .class_ 184), (0, u "java/util/ImmutableCollections$AbstractImmutableSet"), (0, .class_ 186), (0, u "java/util/ImmutableCollections$SubList"), (0, .class_ 188), (0, u "java/util/ImmutableCollections$ListItr"), (0, .class_ 190), (0, u "java/util/ImmutableCollections$AbstractImmutableList"), (0, .class_ 192), (0, u "java/util/ImmutableCollections$AbstractImmutableCollection"), (0, .class_ 194), (0, u "java/util/ImmutableCollections$Access"), (0, .class_ 196), (0, u "java/util/ImmutableCollections$Access$1")] 16

def k11m0 : Method := { name := "<init>", desc := "()V", sig := { parameters := [], returnType := none }, accessFlags := 2, code := none }
/-- java/util/ImmutableCollections -/
def k11 : Class := { plain "java/util/ImmutableCollections" (some 0) with
  accessFlags := 32
  interfaces := #[]
  cf := some (fileOf pool11 47 #[.nestMembers #[120, 169, 171, 173, 175, 111, 177, 179, 181, 183, 12, 10, 185, 187, 189, 191, 193, 195]] #[{ accessFlags := 2, nameIndex := 5, descriptorIndex := 6, attributes := #[] }] 32 2 #[] #[{ accessFlags := 26, nameIndex := 95, descriptorIndex := 96, attributes := #[] }, { accessFlags := 26, nameIndex := 99, descriptorIndex := 17, attributes := #[] }, { accessFlags := 10, nameIndex := 106, descriptorIndex := 56, attributes := #[] }, { accessFlags := 26, nameIndex := 109, descriptorIndex := 110, attributes := #[] }, { accessFlags := 24, nameIndex := 62, descriptorIndex := 63, attributes := #[] }, { accessFlags := 24, nameIndex := 72, descriptorIndex := 63, attributes := #[] }, { accessFlags := 24, nameIndex := 118, descriptorIndex := 119, attributes := #[] }, { accessFlags := 24, nameIndex := 125, descriptorIndex := 126, attributes := #[] }, { accessFlags := 24, nameIndex := 131, descriptorIndex := 132, attributes := #[] }, { accessFlags := 4120, nameIndex := 50, descriptorIndex := 17, attributes := #[] }])
  fields := #[{ name := "SALT32L", type := .long, accessFlags := 26, slot := 0, constantValue := 0 }, { name := "REVERSE", type := .boolean, accessFlags := 26, slot := 1, constantValue := 0 }, { name := "archivedObjects", type := (.array (.object "java/lang/Object")), accessFlags := 10, slot := 2, constantValue := 0 }, { name := "EMPTY", type := (.object "java/lang/Object"), accessFlags := 26, slot := 3, constantValue := 0 }, { name := "EMPTY_LIST", type := (.object "java/util/ImmutableCollections$ListN"), accessFlags := 24, slot := 4, constantValue := 0 }, { name := "EMPTY_LIST_NULLS", type := (.object "java/util/ImmutableCollections$ListN"), accessFlags := 24, slot := 5, constantValue := 0 }, { name := "EMPTY_SET", type := (.object "java/util/ImmutableCollections$SetN"), accessFlags := 24, slot := 6, constantValue := 0 }, { name := "EMPTY_MAP", type := (.object "java/util/ImmutableCollections$MapN"), accessFlags := 24, slot := 7, constantValue := 0 }, { name := "EXPAND_FACTOR", type := .int, accessFlags := 24, slot := 8, constantValue := 0 }, { name := "$assertionsDisabled", type := .boolean, accessFlags := 4120, slot := 9, constantValue := 0 }]
  methods := #[k11m0]
  instanceTypes := #[]
  staticTypes := #[.long, .boolean, (.array (.object "java/lang/Object")), (.object "java/lang/Object"), (.object "java/util/ImmutableCollections$ListN"), (.object "java/util/ImmutableCollections$ListN"), (.object "java/util/ImmutableCollections$SetN"), (.object "java/util/ImmutableCollections$MapN"), .int, .boolean]
  resolved := Array.replicate 213 none
  statics := some 1 }

def pool12 : Array CpInfo := pool [(8, .class_ 10), (1, u "java/lang/Iterable"), (24, .class_ 36), (0, u "java/lang/Object")] 25

/-- java/lang/Iterable -/
def k12 : Class := { plain "java/lang/Iterable" (some 0) with
  accessFlags := 1537
  interfaces := #[]
  cf := some (fileOf pool12 8 #[] #[] 1537 35 #[] #[])
  fields := #[]
  methods := #[]
  instanceTypes := #[]
  staticTypes := #[]
  resolved := Array.replicate 62 none
  statics := none }

def pool13 : Array CpInfo := pool [(10, .class_ 12), (1, u "java/util/Collection"), (47, .class_ 61), (0, u "java/lang/Object"), (0, .class_ 63), (0, u "java/lang/Iterable")] 51

/-- java/util/Collection -/
def k13 : Class := { plain "java/util/Collection" (some 0) with
  accessFlags := 1537
  interfaces := #[12]
  cf := some (fileOf pool13 10 #[] #[] 1537 60 #[62] #[])
  fields := #[]
  methods := #[]
  instanceTypes := #[]
  staticTypes := #[]
  resolved := Array.replicate 115 none
  statics := none }

def pool14 : Array CpInfo := pool [(8, .class_ 10), (1, u "java/util/SequencedCollection"), (15, .class_ 27), (0, u "java/lang/Object"), (0, .class_ 29), (0, u "java/util/Collection")] 27

/-- java/util/SequencedCollection -/
def k14 : Class := { plain "java/util/SequencedCollection" (some 0) with
  accessFlags := 1537
  interfaces := #[13]
  cf := some (fileOf pool14 8 #[] #[] 1537 26 #[28] #[])
  fields := #[]
  methods := #[]
  instanceTypes := #[]
  staticTypes := #[]
  resolved := Array.replicate 57 none
  statics := none }

def pool15 : Array CpInfo := pool [(8, .class_ 10), (1, u "java/util/List"), (68, u "size"), (0, u "()I"), (7, u "of"), (1, .fieldref 91 92), (0, .class_ 93), (0, .nameAndType 94 95), (0, u "java/util/ImmutableCollections"), (0, u "EMPTY_LIST"), (0, u "Ljava/util/ImmutableCollections$ListN;"), (7, .class_ 104), (0, u "java/lang/Object"), (14, u "()Ljava/util/List;"), (0, .class_ 121), (0, u "java/util/SequencedCollection")] 129

def k15m0 : Method := { name := "size", desc := "()I", sig := { parameters := [], returnType := some .int }, accessFlags := 1025, code := none }
def k15c1 : Code := { maxStack := 1, maxLocals := 0, code := jdk_40_method_36_code, exceptionTable := #[], attributes := #[] }
def k15m1 : Method := { name := "of", desc := "()Ljava/util/List;", sig := { parameters := [], returnType := some (.object "java/util/List") }, accessFlags := 9, code := some k15c1 }
/-- java/util/List -/
def k15 : Class := { plain "java/util/List" (some 0) with
  accessFlags := 1537
  interfaces := #[14]
  cf := some (fileOf pool15 8 #[] #[{ accessFlags := 1025, nameIndex := 79, descriptorIndex := 80, attributes := #[] }, { accessFlags := 9, nameIndex := 88, descriptorIndex := 119, attributes := #[] }] 1537 103 #[120] #[])
  fields := #[]
  methods := #[k15m0, k15m1]
  instanceTypes := #[]
  staticTypes := #[]
  resolved := Array.replicate 251 none
  statics := none }

def pool16 : Array CpInfo := pool [(9, .fieldref 10 11), (0, .class_ 12), (0, .nameAndType 13 14), (0, u "java/util/ImmutableCollections"), (0, u "EMPTY_SET"), (0, u "Ljava/util/ImmutableCollections$SetN;"), (11, .class_ 27), (0, u "java/lang/Object"), (5, .class_ 34), (0, u "java/util/Set"), (1, .class_ 38), (1, u "java/util/Collection"), (4, u "of"), (0, u "()Ljava/util/Set;"), (14, u "contains"), (0, u "(Ljava/lang/Object;)Z")] 83

def k16m0 : Method := { name := "contains", desc := "(Ljava/lang/Object;)Z", sig := { parameters := [(.object "java/lang/Object")], returnType := some .boolean }, accessFlags := 1025, code := none }
def k16c1 : Code := { maxStack := 1, maxLocals := 0, code := jdk_96_method_17_code, exceptionTable := #[], attributes := #[] }
def k16m1 : Method := { name := "of", desc := "()Ljava/util/Set;", sig := { parameters := [], returnType := some (.object "java/util/Set") }, accessFlags := 9, code := some k16c1 }
/-- java/util/Set -/
def k16 : Class := { plain "java/util/Set" (some 0) with
  accessFlags := 1537
  interfaces := #[13]
  cf := some (fileOf pool16 33 #[] #[{ accessFlags := 1025, nameIndex := 59, descriptorIndex := 60, attributes := #[] }, { accessFlags := 9, nameIndex := 43, descriptorIndex := 44, attributes := #[] }] 1537 26 #[36] #[])
  fields := #[]
  methods := #[k16m0, k16m1]
  instanceTypes := #[]
  staticTypes := #[]
  resolved := Array.replicate 144 none
  statics := none }

def pool17 : Array CpInfo := pool [(2, .class_ 4), (1, u "java/lang/Object"), (0, u "<init>"), (0, u "()V"), (1, .class_ 10), (1, u "java/util/AbstractCollection"), (66, .class_ 78), (0, u "java/util/Collection")] 81

def k17m0 : Method := { name := "<init>", desc := "()V", sig := { parameters := [], returnType := none }, accessFlags := 4, code := none }
/-- java/util/AbstractCollection -/
def k17 : Class := { plain "java/util/AbstractCollection" (some 0) with
  accessFlags := 1057
  interfaces := #[13]
  cf := some (fileOf pool17 8 #[] #[{ accessFlags := 4, nameIndex := 5, descriptorIndex := 6, attributes := #[] }] 1057 2 #[77] #[])
  fields := #[]
  methods := #[k17m0]
  instanceTypes := #[]
  staticTypes := #[]
  resolved := Array.replicate 160 none
  statics := none }

def pool18 : Array CpInfo := pool [(2, .class_ 4), (1, u "java/util/AbstractCollection"), (0, u "<init>"), (0, u "()V"), (1, .class_ 10), (1, u "java/util/ImmutableCollections"), (2, .class_ 14), (0, u "java/util/ImmutableCollections$AbstractImmutableCollection")] 41

def k18m0 : Method := { name := "<init>", desc := "()V", sig := { parameters := [], returnType := none }, accessFlags := 0, code := none }
/-- java/util/ImmutableCollections$AbstractImmutableCollection -/
def k18 : Class := { plain "java/util/ImmutableCollections$AbstractImmutableCollection" (some 17) with
  accessFlags := 1056
  interfaces := #[]
  cf := some (fileOf pool18 13 #[.nestHost 8] #[{ accessFlags := 0, nameIndex := 5, descriptorIndex := 6, attributes := #[] }] 1056 2 #[] #[])
  fields := #[]
  methods := #[k18m0]
  instanceTypes := #[]
  staticTypes := #[]
  resolved := Array.replicate 56 none
  statics := none }

def pool19 : Array CpInfo := pool [(2, .class_ 4), (1, u "java/util/ImmutableCollections$AbstractImmutableCollection"), (0, u "<init>"), (0, u "()V"), (0, .class_ 8), (0, u "java/util/Set"), (7, .class_ 17), (0, u "java/util/ImmutableCollections$AbstractImmutableSet"), (43, .class_ 62), (0, u "java/util/ImmutableCollections")] 3

def k19m0 : Method := { name := "<init>", desc := "()V", sig := { parameters := [], returnType := none }, accessFlags := 0, code := none }
/-- java/util/ImmutableCollections$AbstractImmutableSet -/
def k19 : Class := { plain "java/util/ImmutableCollections$AbstractImmutableSet" (some 18) with
  accessFlags := 1056
  interfaces := #[16]
  cf := some (fileOf pool19 16 #[.nestHost 61] #[{ accessFlags := 0, nameIndex := 5, descriptorIndex := 6, attributes := #[] }] 1056 2 #[7] #[])
  fields := #[]
  methods := #[k19m0]
  instanceTypes := #[]
  staticTypes := #[]
  resolved := Array.replicate 66 none
  statics := none }

def pool20 : Array CpInfo := pool [(1, .class_ 2), (0, u "java/util/ImmutableCollections"), (1, .class_ 6), (1, u "java/util/ImmutableCollections$AbstractImmutableSet"), (2, .fieldref 10 11), (0, .class_ 12), (0, .nameAndType 13 14), (0, u "java/util/ImmutableCollections$SetN"), (0, u "size"), (0, u "I"), (4, u "elements"), (0, u "[Ljava/lang/Object;"), (25, .methodref 47 48), (0, .class_ 49), (0, .nameAndType 50 51), (0, u "java/util/Objects"), (0, u "requireNonNull"), (0, u "(Ljava/lang/Object;)Ljava/lang/Object;"), (18, u "(Ljava/lang/Object;)Z"), (36, .class_ 108), (0, u "java/io/Serializable"), (23, u "contains")] 35

def k20c0 : Code := { maxStack := 2, maxLocals := 2, code := jdk_132_method_4_code, exceptionTable := #[], attributes := #[] }
def k20m0 : Method := { name := "contains", desc := "(Ljava/lang/Object;)Z", sig := { parameters := [(.object "java/lang/Object")], returnType := some .boolean }, accessFlags := 1, code := some k20c0 }
/-- java/util/ImmutableCollections$SetN -/
def k20 : Class := { plain "java/util/ImmutableCollections$SetN" (some 19) with
  accessFlags := 48
  interfaces := #[2]
  cf := some (fileOf pool20 10 #[.nestHost 1] #[{ accessFlags := 1, nameIndex := 132, descriptorIndex := 70, attributes := #[] }] 48 4 #[107] #[{ accessFlags := 16, nameIndex := 19, descriptorIndex := 20, attributes := #[] }, { accessFlags := 16, nameIndex := 13, descriptorIndex := 14, attributes := #[] }])
  fields := #[{ name := "elements", type := (.array (.object "java/lang/Object")), accessFlags := 16, slot := 0, constantValue := 0 }, { name := "size", type := .int, accessFlags := 16, slot := 1, constantValue := 0 }]
  methods := #[k20m0]
  instanceTypes := #[(.array (.object "java/lang/Object")), .int]
  staticTypes := #[]
  resolved := Array.replicate 168 none
  statics := none }

def pool21 : Array CpInfo := pool [(2, .class_ 4), (1, u "java/lang/Object"), (0, u "<init>"), (0, u "()V"), (35, .class_ 44), (1, u "java/util/Objects"), (0, u "requireNonNull"), (0, u "(Ljava/lang/Object;)Ljava/lang/Object;")] 137

def k21m0 : Method := { name := "<init>", desc := "()V", sig := { parameters := [], returnType := none }, accessFlags := 2, code := none }
def k21c1 : Code := { maxStack := 2, maxLocals := 1, code := jdk_31_method_10_code, exceptionTable := #[], attributes := #[] }
def k21m1 : Method := { name := "requireNonNull", desc := "(Ljava/lang/Object;)Ljava/lang/Object;", sig := { parameters := [(.object "java/lang/Object")], returnType := some (.object "java/lang/Object") }, accessFlags := 9, code := some k21c1 }
/-- java/util/Objects -/
def k21 : Class := { plain "java/util/Objects" (some 0) with
  accessFlags := 49
  interfaces := #[]
  cf := some (fileOf pool21 42 #[] #[{ accessFlags := 2, nameIndex := 5, descriptorIndex := 6, attributes := #[] }, { accessFlags := 9, nameIndex := 45, descriptorIndex := 46, attributes := #[] }] 49 2 #[] #[])
  fields := #[]
  methods := #[k21m0, k21m1]
  instanceTypes := #[]
  staticTypes := #[]
  resolved := Array.replicate 184 none
  statics := none }

def pool22 : Array CpInfo := pool [(2, .class_ 4), (1, u "java/lang/Object"), (0, u "<init>"), (0, u "()V"), (1, .class_ 10), (1, u "java/util/AbstractMap"), (42, .class_ 54), (0, u "java/util/Map"), (9, u "keySet"), (0, u "Ljava/util/Set;"), (0, .class_ 67), (0, u "java/util/AbstractMap$1"), (5, u "values"), (0, u "Ljava/util/Collection;"), (0, .class_ 76), (0, u "java/util/AbstractMap$2"), (104, .class_ 182), (0, u "java/util/AbstractMap$ViewCollection"), (0, .class_ 184), (0, u "java/util/AbstractMap$SimpleImmutableEntry"), (0, .class_ 186), (0, u "java/util/AbstractMap$SimpleEntry"), (0, .class_ 188), (0, u "java/util/AbstractMap$2$1"), (0, .class_ 190), (0, u "java/util/AbstractMap$1$1")] 5

def k22m0 : Method := { name := "<init>", desc := "()V", sig := { parameters := [], returnType := none }, accessFlags := 4, code := none }
/-- java/util/AbstractMap -/
def k22 : Class := { plain "java/util/AbstractMap" (some 0) with
  accessFlags := 1057
  interfaces := #[10]
  cf := some (fileOf pool22 8 #[.nestMembers #[181, 183, 185, 75, 187, 66, 189]] #[{ accessFlags := 4, nameIndex := 5, descriptorIndex := 6, attributes := #[] }] 1057 2 #[53] #[{ accessFlags := 128, nameIndex := 64, descriptorIndex := 65, attributes := #[] }, { accessFlags := 128, nameIndex := 73, descriptorIndex := 74, attributes := #[] }])
  fields := #[{ name := "keySet", type := (.object "java/util/Set"), accessFlags := 128, slot := 0, constantValue := 0 }, { name := "values", type := (.object "java/util/Collection"), accessFlags := 128, slot := 1, constantValue := 0 }]
  methods := #[k22m0]
  instanceTypes := #[(.object "java/util/Set"), (.object "java/util/Collection")]
  staticTypes := #[]
  resolved := Array.replicate 196 none
  statics := none }

def pool23 : Array CpInfo := pool [(2, .class_ 4), (1, u "java/util/AbstractMap"), (0, u "<init>"), (0, u "()V"), (1, .class_ 10), (1, u "java/util/ImmutableCollections"), (3, .class_ 16), (1, u "java/util/ImmutableCollections$AbstractImmutableMap"), (2, .class_ 20), (0, u "java/io/Serializable")] 66

def k23m0 : Method := { name := "<init>", desc := "()V", sig := { parameters := [], returnType := none }, accessFlags := 0, code := none }
/-- java/util/ImmutableCollections$AbstractImmutableMap -/
def k23 : Class := { plain "java/util/ImmutableCollections$AbstractImmutableMap" (some 22) with
  accessFlags := 1056
  interfaces := #[2]
  cf := some (fileOf pool23 14 #[.nestHost 8] #[{ accessFlags := 0, nameIndex := 5, descriptorIndex := 6, attributes := #[] }] 1056 2 #[19] #[])
  fields := #[]
  methods := #[k23m0]
  instanceTypes := #[(.object "java/util/Set"), (.object "java/util/Collection")]
  staticTypes := #[]
  resolved := Array.replicate 87 none
  statics := none }

def pool24 : Array CpInfo := pool [(1, .class_ 2), (0, u "java/util/ImmutableCollections"), (1, .class_ 6), (1, u "java/util/ImmutableCollections$AbstractImmutableMap"), (9, .fieldref 17 18), (0, .class_ 19), (0, .nameAndType 20 21), (0, u "java/util/ImmutableCollections$MapN"), (0, u "size"), (0, u "I"), (4, u "table"), (0, u "[Ljava/lang/Object;"), (87, u "isEmpty"), (0, u "()Z")] 32

def k24c0 : Code := { maxStack := 1, maxLocals := 1, code := jdk_2605_method_7_code, exceptionTable := #[], attributes := #[] }
def k24m0 : Method := { name := "isEmpty", desc := "()Z", sig := { parameters := [], returnType := some .boolean }, accessFlags := 1, code := some k24c0 }
/-- java/util/ImmutableCollections$MapN -/
def k24 : Class := { plain "java/util/ImmutableCollections$MapN" (some 23) with
  accessFlags := 48
  interfaces := #[]
  cf := some (fileOf pool24 17 #[.nestHost 1] #[{ accessFlags := 1, nameIndex := 115, descriptorIndex := 116, attributes := #[] }] 48 4 #[] #[{ accessFlags := 16, nameIndex := 26, descriptorIndex := 27, attributes := #[] }, { accessFlags := 16, nameIndex := 20, descriptorIndex := 21, attributes := #[] }])
  fields := #[{ name := "table", type := (.array (.object "java/lang/Object")), accessFlags := 16, slot := 2, constantValue := 0 }, { name := "size", type := .int, accessFlags := 16, slot := 3, constantValue := 0 }]
  methods := #[k24m0]
  instanceTypes := #[(.object "java/util/Set"), (.object "java/util/Collection"), (.array (.object "java/lang/Object")), .int]
  staticTypes := #[]
  resolved := Array.replicate 149 none
  statics := none }

def pool25 : Array CpInfo := pool [(1, .class_ 2), (0, u "java/util/RandomAccess"), (0, .class_ 4), (0, u "java/lang/Object")] 2

/-- java/util/RandomAccess -/
def k25 : Class := { plain "java/util/RandomAccess" (some 0) with
  accessFlags := 1537
  interfaces := #[]
  cf := some (fileOf pool25 1 #[] #[] 1537 3 #[] #[])
  fields := #[]
  methods := #[]
  instanceTypes := #[]
  staticTypes := #[]
  resolved := Array.replicate 7 none
  statics := none }

def pool26 : Array CpInfo := pool [(2, .class_ 4), (1, u "java/util/ImmutableCollections$AbstractImmutableCollection"), (0, u "<init>"), (0, u "()V"), (1, .class_ 10), (1, u "java/util/ImmutableCollections"), (3, .class_ 16), (1, u "java/util/ImmutableCollections$AbstractImmutableList"), (60, .class_ 78), (0, u "java/util/List"), (45, .class_ 125), (0, u "java/util/RandomAccess")] 70

def k26m0 : Method := { name := "<init>", desc := "()V", sig := { parameters := [], returnType := none }, accessFlags := 0, code := none }
/-- java/util/ImmutableCollections$AbstractImmutableList -/
def k26 : Class := { plain "java/util/ImmutableCollections$AbstractImmutableList" (some 18) with
  accessFlags := 1056
  interfaces := #[15, 25]
  cf := some (fileOf pool26 14 #[.nestHost 8] #[{ accessFlags := 0, nameIndex := 5, descriptorIndex := 6, attributes := #[] }] 1056 2 #[77, 124] #[])
  fields := #[]
  methods := #[k26m0]
  instanceTypes := #[]
  staticTypes := #[]
  resolved := Array.replicate 196 none
  statics := none }

def pool27 : Array CpInfo := pool [(2, .class_ 4), (1, u "java/util/ImmutableCollections$AbstractImmutableList"), (2, .fieldref 8 9), (0, .class_ 10), (0, .nameAndType 11 12), (0, u "java/util/ImmutableCollections$ListN"), (0, u "elements"), (0, u "[Ljava/lang/Object;"), (2, u "allowNulls"), (0, u "Z"), (42, .class_ 60), (0, u "java/io/Serializable"), (16, u "size"), (0, u "()I"), (35, .class_ 115), (0, u "java/util/ImmutableCollections")] 3

def k27c0 : Code := { maxStack := 1, maxLocals := 1, code := jdk_45_method_3_code, exceptionTable := #[], attributes := #[] }
def k27m0 : Method := { name := "size", desc := "()I", sig := { parameters := [], returnType := some .int }, accessFlags := 1, code := some k27c0 }
/-- java/util/ImmutableCollections$ListN -/
def k27 : Class := { plain "java/util/ImmutableCollections$ListN" (some 26) with
  accessFlags := 48
  interfaces := #[2]
  cf := some (fileOf pool27 8 #[.nestHost 114] #[{ accessFlags := 1, nameIndex := 77, descriptorIndex := 78, attributes := #[] }] 48 2 #[59] #[{ accessFlags := 18, nameIndex := 11, descriptorIndex := 12, attributes := #[] }, { accessFlags := 18, nameIndex := 15, descriptorIndex := 16, attributes := #[] }])
  fields := #[{ name := "elements", type := (.array (.object "java/lang/Object")), accessFlags := 18, slot := 0, constantValue := 0 }, { name := "allowNulls", type := .boolean, accessFlags := 18, slot := 1, constantValue := 0 }]
  methods := #[k27m0]
  instanceTypes := #[(.array (.object "java/lang/Object")), .boolean]
  staticTypes := #[]
  resolved := Array.replicate 119 none
  statics := none }

def pool28 : Array CpInfo := pool [(6, .class_ 8), (1, u "java/lang/Object"), (0, u "<init>"), (0, u "()V"), (1, .class_ 14), (1, u "java/lang/StringUTF16"), (31, u "$assertionsDisabled"), (0, u "Z"), (13, u "HI_BYTE_SHIFT"), (0, u "I"), (2, u "LO_BYTE_SHIFT"), (49, .methodref 12 116), (0, .nameAndType 117 118), (0, u "compress"), (0, u "([CI[BII)I"), (3, u "([CII)[B"), (138, u "coderFromArrayLen"), (0, u "([BI)B"), (106, .class_ 371), (1, u "java/lang/StringUTF16$LinesSpliterator"), (58, u "MAX_LENGTH"), (196, .class_ 628), (0, u "java/lang/StringUTF16$CodePointsSpliterator"), (0, .class_ 630), (0, u "java/lang/StringUTF16$CharsSpliterator")] 4

def k28m0 : Method := { name := "<init>", desc := "()V", sig := { parameters := [], returnType := none }, accessFlags := 0, code := none }
def k28c1 : Code := { maxStack := 2, maxLocals := 2, code := jdk_52_method_15_code, exceptionTable := #[], attributes := #[] }
def k28m1 : Method := { name := "coderFromArrayLen", desc := "([BI)B", sig := { parameters := [(.array .byte), .int], returnType := some .byte }, accessFlags := 8, code := some k28c1 }
def k28c2 : Code := { maxStack := 5, maxLocals := 6, code := jdk_52_method_16_code, exceptionTable := #[], attributes := #[] }
def k28m2 : Method := { name := "compress", desc := "([CII)[B", sig := { parameters := [(.array .char), .int, .int], returnType := some (.array .byte) }, accessFlags := 9, code := some k28c2 }
def k28c3 : Code := { maxStack := 3, maxLocals := 7, code := jdk_52_method_21_code, exceptionTable := #[], attributes := #[] }
def k28m3 : Method := { name := "compress", desc := "([CI[BII)I", sig := { parameters := [(.array .char), .int, (.array .byte), .int, .int], returnType := some .int }, accessFlags := 9, code := some k28c3 }
/-- java/lang/StringUTF16 -/
def k28 : Class := { plain "java/lang/StringUTF16" (some 0) with
  accessFlags := 48
  interfaces := #[]
  cf := some (fileOf pool28 12 #[.nestMembers #[627, 629, 369]] #[{ accessFlags := 0, nameIndex := 9, descriptorIndex := 10, attributes := #[] }, { accessFlags := 8, nameIndex := 261, descriptorIndex := 262, attributes := #[] }, { accessFlags := 9, nameIndex := 117, descriptorIndex := 122, attributes := #[] }, { accessFlags := 9, nameIndex := 117, descriptorIndex := 118, attributes := #[] }] 48 6 #[] #[{ accessFlags := 26, nameIndex := 61, descriptorIndex := 62, attributes := #[] }, { accessFlags := 26, nameIndex := 65, descriptorIndex := 62, attributes := #[] }, { accessFlags := 24, nameIndex := 430, descriptorIndex := 62, attributes := #[] }, { accessFlags := 4120, nameIndex := 46, descriptorIndex := 47, attributes := #[] }])
  fields := #[{ name := "HI_BYTE_SHIFT", type := .int, accessFlags := 26, slot := 0, constantValue := 0 }, { name := "LO_BYTE_SHIFT", type := .int, accessFlags := 26, slot := 1, constantValue := 0 }, { name := "MAX_LENGTH", type := .int, accessFlags := 24, slot := 2, constantValue := 0 }, { name := "$assertionsDisabled", type := .boolean, accessFlags := 4120, slot := 3, constantValue := 0 }]
  methods := #[k28m0, k28m1, k28m2, k28m3]
  instanceTypes := #[]
  staticTypes := #[.int, .int, .int, .boolean]
  resolved := Array.replicate 635 none
  statics := none }

def pool29 : Array CpInfo := pool [(2, .class_ 4), (1, u "java/lang/Object"), (0, u "<init>"), (0, u "()V"), (17, .class_ 26), (1, u "jdk/internal/util/Preconditions"), (28, .class_ 56), (0, u "jdk/internal/util/Preconditions$4"), (57, .class_ 115), (0, u "jdk/internal/util/Preconditions$1"), (7, u "SIOOBE_FORMATTER"), (0, u "Ljava/util/function/BiFunction;"), (0, .class_ 126), (0, u "jdk/internal/util/Preconditions$2"), (3, u "AIOOBE_FORMATTER"), (0, .class_ 132), (0, u "jdk/internal/util/Preconditions$3"), (3, u "IOOBE_FORMATTER")] 57

def k29m0 : Method := { name := "<init>", desc := "()V", sig := { parameters := [], returnType := none }, accessFlags := 1, code := none }
/-- jdk/internal/util/Preconditions -/
def k29 : Class := { plain "jdk/internal/util/Preconditions" (some 0) with
  accessFlags := 33
  interfaces := #[]
  cf := some (fileOf pool29 24 #[.nestMembers #[55, 131, 125, 114]] #[{ accessFlags := 1, nameIndex := 5, descriptorIndex := 6, attributes := #[] }] 33 2 #[] #[{ accessFlags := 25, nameIndex := 123, descriptorIndex := 124, attributes := #[] }, { accessFlags := 25, nameIndex := 130, descriptorIndex := 124, attributes := #[] }, { accessFlags := 25, nameIndex := 136, descriptorIndex := 124, attributes := #[] }])
  fields := #[{ name := "SIOOBE_FORMATTER", type := (.object "java/util/function/BiFunction"), accessFlags := 25, slot := 0, constantValue := 0 }, { name := "AIOOBE_FORMATTER", type := (.object "java/util/function/BiFunction"), accessFlags := 25, slot := 1, constantValue := 0 }, { name := "IOOBE_FORMATTER", type := (.object "java/util/function/BiFunction"), accessFlags := 25, slot := 2, constantValue := 0 }]
  methods := #[k29m0]
  instanceTypes := #[]
  staticTypes := #[(.object "java/util/function/BiFunction"), (.object "java/util/function/BiFunction"), (.object "java/util/function/BiFunction")]
  resolved := Array.replicate 194 none
  statics := some 2 }

def pool30 : Array CpInfo := pool [(9, u "<init>"), (6, .class_ 18), (1, u "java/lang/Object"), (0, u "()V"), (1, .class_ 23), (1, u "jdk/internal/util/ArraysSupport"), (0, u "LOG2_ARRAY_LONG_INDEX_SCALE"), (0, u "I"), (2, u "U"), (0, u "Ljdk/internal/misc/Unsafe;"), (8, u "BIG_ENDIAN"), (0, u "Z"), (8, u "LOG2_BYTE_BIT_SIZE"), (4, u "LOG2_ARRAY_INT_INDEX_SCALE"), (54, u "JLA"), (0, u "Ljdk/internal/access/JavaLangAccess;"), (11, u "LOG2_ARRAY_BOOLEAN_INDEX_SCALE"), (9, u "LOG2_ARRAY_BYTE_INDEX_SCALE"), (5, u "LOG2_ARRAY_CHAR_INDEX_SCALE"), (5, u "LOG2_ARRAY_SHORT_INDEX_SCALE"), (18, u "LOG2_ARRAY_FLOAT_INDEX_SCALE"), (24, u "LOG2_ARRAY_DOUBLE_INDEX_SCALE"), (89, u "T_BOOLEAN"), (2, u "T_CHAR"), (1, u "T_FLOAT"), (1, u "T_DOUBLE"), (1, u "T_BYTE"), (1, u "T_SHORT"), (1, u "T_INT"), (1, u "T_LONG"), (1, u "SOFT_MAX_ARRAY_LENGTH")] 83

def k30m0 : Method := { name := "<init>", desc := "()V", sig := { parameters := [], returnType := none }, accessFlags := 2, code := none }
/-- jdk/internal/util/ArraysSupport -/
def k30 : Class := { plain "jdk/internal/util/ArraysSupport" (some 0) with
  accessFlags := 33
  interfaces := #[]
  cf := some (fileOf pool30 21 #[] #[{ accessFlags := 2, nameIndex := 9, descriptorIndex := 19, attributes := #[] }] 33 16 #[] #[{ accessFlags := 24, nameIndex := 28, descriptorIndex := 29, attributes := #[] }, { accessFlags := 26, nameIndex := 38, descriptorIndex := 39, attributes := #[] }, { accessFlags := 25, nameIndex := 121, descriptorIndex := 25, attributes := #[] }, { accessFlags := 25, nameIndex := 131, descriptorIndex := 25, attributes := #[] }, { accessFlags := 25, nameIndex := 137, descriptorIndex := 25, attributes := #[] }, { accessFlags := 25, nameIndex := 143, descriptorIndex := 25, attributes := #[] }, { accessFlags := 25, nameIndex := 53, descriptorIndex := 25, attributes := #[] }, { accessFlags := 25, nameIndex := 24, descriptorIndex := 25, attributes := #[] }, { accessFlags := 25, nameIndex := 162, descriptorIndex := 25, attributes := #[] }, { accessFlags := 25, nameIndex := 187, descriptorIndex := 25, attributes := #[] }, { accessFlags := 26, nameIndex := 48, descriptorIndex := 25, attributes := #[] }, { accessFlags := 25, nameIndex := 277, descriptorIndex := 25, attributes := #[] }, { accessFlags := 25, nameIndex := 280, descriptorIndex := 25, attributes := #[] }, { accessFlags := 25, nameIndex := 282, descriptorIndex := 25, attributes := #[] }, { accessFlags := 25, nameIndex := 284, descriptorIndex := 25, attributes := #[] }, { accessFlags := 25, nameIndex := 286, descriptorIndex := 25, attributes := #[] }, { accessFlags := 25, nameIndex := 288, descriptorIndex := 25, attributes := #[] }, { accessFlags := 25, nameIndex := 290, descriptorIndex := 25, attributes := #[] }, { accessFlags := 25, nameIndex := 292, descriptorIndex := 25, attributes := #[] }, { accessFlags := 26, nameIndex := 108, descriptorIndex := 109, attributes := #[] }, { accessFlags := 25, nameIndex := 294, descriptorIndex := 25, attributes := #[] }])
  fields := #[{ name := "U", type := (.object "jdk/internal/misc/Unsafe"), accessFlags := 24, slot := 0, constantValue := 0 }, { name := "BIG_ENDIAN", type := .boolean, accessFlags := 26, slot := 1, constantValue := 0 }, { name := "LOG2_ARRAY_BOOLEAN_INDEX_SCALE", type := .int, accessFlags := 25, slot := 2, constantValue := 0 }, { name := "LOG2_ARRAY_BYTE_INDEX_SCALE", type := .int, accessFlags := 25, slot := 3, constantValue := 0 }, { name := "LOG2_ARRAY_CHAR_INDEX_SCALE", type := .int, accessFlags := 25, slot := 4, constantValue := 0 }, { name := "LOG2_ARRAY_SHORT_INDEX_SCALE", type := .int, accessFlags := 25, slot := 5, constantValue := 0 }, { name := "LOG2_ARRAY_INT_INDEX_SCALE", type := .int, accessFlags := 25, slot := 6, constantValue := 0 }, { name := "LOG2_ARRAY_LONG_INDEX_SCALE", type := .int, accessFlags := 25, slot := 7, constantValue := 0 }, { name := "LOG2_ARRAY_FLOAT_INDEX_SCALE", type := .int, accessFlags := 25, slot := 8, constantValue := 0 }, { name := "LOG2_ARRAY_DOUBLE_INDEX_SCALE", type := .int, accessFlags := 25, slot := 9, constantValue := 0 }, { name := "LOG2_BYTE_BIT_SIZE", type := .int, accessFlags := 26, slot := 10, constantValue := 0 }, { name := "T_BOOLEAN", type := .int, accessFlags := 25, slot := 11, constantValue := 0 }, { name := "T_CHAR", type := .int, accessFlags := 25, slot := 12, constantValue := 0 }, { name := "T_FLOAT", type := .int, accessFlags := 25, slot := 13, constantValue := 0 }, { name := "T_DOUBLE", type := .int, accessFlags := 25, slot := 14, constantValue := 0 }, { name := "T_BYTE", type := .int, accessFlags := 25, slot := 15, constantValue := 0 }, { name := "T_SHORT", type := .int, accessFlags := 25, slot := 16, constantValue := 0 }, { name := "T_INT", type := .int, accessFlags := 25, slot := 17, constantValue := 0 }, { name := "T_LONG", type := .int, accessFlags := 25, slot := 18, constantValue := 0 }, { name := "JLA", type := (.object "jdk/internal/access/JavaLangAccess"), accessFlags := 26, slot := 19, constantValue := 0 }, { name := "SOFT_MAX_ARRAY_LENGTH", type := .int, accessFlags := 25, slot := 20, constantValue := 0 }]
  methods := #[k30m0]
  instanceTypes := #[]
  staticTypes := #[(.object "jdk/internal/misc/Unsafe"), .boolean, .int, .int, .int, .int, .int, .int, .int, .int, .int, .int, .int, .int, .int, .int, .int, .int, .int, (.object "jdk/internal/access/JavaLangAccess"), .int]
  resolved := Array.replicate 378 none
  statics := none }

def pool31 : Array CpInfo := pool [(1, u "java/lang/Cloneable"), (0, .class_ 1), (0, u "java/lang/Object"), (0, .class_ 3)] 3

/-- java/lang/Cloneable -/
def k31 : Class := { plain "java/lang/Cloneable" (some 0) with
  accessFlags := 1537
  interfaces := #[]
  cf := some (fileOf pool31 2 #[] #[] 1537 4 #[] #[])
  fields := #[]
  methods := #[]
  instanceTypes := #[]
  staticTypes := #[]
  resolved := Array.replicate 8 none
  statics := none }

/-- the primitive byte -/
def k32 : Class := { plain "byte" none with kind := .primitive 'B', accessFlags := 0x411 }
/-- [B -/
def k33 : Class := { plain "[B" (some 0) with kind := .array 32 .byte, interfaces := #[31, 2], accessFlags := 1041 }

/-- the primitive char -/
def k34 : Class := { plain "char" none with kind := .primitive 'C', accessFlags := 0x411 }
/-- [C -/
def k35 : Class := { plain "[C" (some 0) with kind := .array 34 .char, interfaces := #[31, 2], accessFlags := 1041 }

/-- the primitive int -/
def k36 : Class := { plain "int" none with kind := .primitive 'I', accessFlags := 0x411 }
/-- [I -/
def k37 : Class := { plain "[I" (some 0) with kind := .array 36 .int, interfaces := #[31, 2], accessFlags := 1041 }

/-- [Ljava/lang/Object; -/
def k38 : Class := { plain "[Ljava/lang/Object;" (some 0) with kind := .array 0 (.object "java/lang/Object"), interfaces := #[31, 2], accessFlags := 1041 }

def heap : Heap := #[{ cls := 7, slots := #[.long 0, .int 1, .null, .int 0, .null, .int 0, .int 0], vm := .statics 7 },
  { cls := 11, slots := #[.long 0, .int 0, .null, .null, .ref 5, .null, .ref 6, .ref 4, .int 0, .int 0], vm := .statics 11 },
  { cls := 29, slots := #[.null, .null, .null], vm := .statics 29 },
  { cls := 38, slots := #[], vm := .none },
  { cls := 24, slots := #[.null, .null, .ref 3, .int 0], vm := .none },
  { cls := 27, slots := #[.ref 3, .int 0], vm := .none },
  { cls := 20, slots := #[.ref 3, .int 0], vm := .none }]
def classes : Array Class := #[k0, k1, k2, k3, k4, k5, k6, k7, k8, k9, k10, k11, k12, k13, k14, k15, k16, k17, k18, k19, k20, k21, k22, k23, k24, k25, k26, k27, k28, k29, k30, k31, k32, k33, k34, k35, k36, k37, k38]
def interned : List (Array UInt16 × Addr) := []
def slotsUsed : Nat := 28
def theMethod : MethodId := ⟨1, 1⟩
def args0 : Array Value := #[.int 5, .int 7, .int 300, .int 9]
def aboutOver (below : List Frame) : State where
  vm := { classes := classes, interned := interned.toArray }
  heap := heap
  slotsUsed := slotsUsed
  threads := #[{ frames := .invoking theMethod args0 :: below }]
def below0 : List Frame := [.native { method := ⟨0, 0⟩, args := #[] }]
def about1 : State := aboutOver below0
def p0 : Program := .bare "" "" ""
def e0 : Env := launch0.env 0 0 0
theorem w_frames : about1.frames = Frame.invoking theMethod args0 :: below0 := rfl
set_option maxRecDepth 65536 in
theorem w_args : argsFit about1.vm theMethod args0 = true := by decide +kernel
set_option maxRecDepth 65536 in
theorem w_heap : heapFits about1 = true := by decide +kernel
set_option maxRecDepth 65536 in
theorem w_runnable : about1.curStatus? = some .runnable := by decide +kernel
set_option maxRecDepth 65536 in
theorem w_alone : about1.alone = true := by decide +kernel
set_option maxRecDepth 65536 in
theorem w_named : about1.methodNamed? x = some theMethod := by decide +kernel
set_option maxRecDepth 65536 in
theorem w_hears : about1.hears theMethod below0 = true := by decide +kernel
set_option maxRecDepth 65536 in
theorem w_ripe : about1.ripe theMethod args0 below0 = true := by decide +kernel
theorem w_running : about1.status = .running := rfl
set_option maxRecDepth 65536 in
theorem w_room : about1.hasRoom e0.platform room_1 = true :=
  launch0.hasRoom_least _ room_1 (by decide +kernel) (by decide +kernel) (by decide +kernel) (by decide +kernel) (by decide +kernel) (by decide +kernel)
theorem allAtoms_all (ts : List Jvm.Cond) (a : Array Jvm.Value) (st : Jvm.State) : (allAtoms ts).before a st = ts.all (fun c => c.before a st) := by
  induction ts with
  | nil => rfl
  | cons c t ih =>
    show (Jvm.Cond.and c (allAtoms t)).before a st = _
    rw [Jvm.Cond.before_and, ih, List.all_cons]
def words1 : List Jvm.Cond := Jvm.Cond.code x code maxLocals ret :: tables_1
/-- a 'code' word, met by the world's own term for the bytes: nothing is compared byte by byte -/
theorem code_word {y : MethodName} {bytes : ByteArray} {mx : Nat} {rt : Option FieldType} {a : Array Value} {s : State} {m : MethodId} {meth : Method} {c : Code} (h1 : s.methodNamed? y = some m) (h2 : s.vm.method? m = some meth) (h3 : meth.code = some c) (h4 : c.code = bytes)
    (h5 : (c.maxLocals == mx && c.exceptionTable.isEmpty && decide (c.maxStack ≤ mostOperands) && decide (meth.sig.returnType = rt) && !meth.locks && decide (parseMethodDescriptor y.desc = some meth.sig)) = true) : (Jvm.Cond.code y bytes mx rt).before a s = true := by
  simp only [Bool.and_eq_true, beq_iff_eq, Bool.not_eq_true', decide_eq_true_eq] at h5
  obtain ⟨⟨⟨⟨⟨g1, g2⟩, g3⟩, g4⟩, g5⟩, g6⟩ := h5
  simp [Cond.before, Cond.holds, Cond.value, h1, h2, h3, h4, g1, g2, g3, g4, g5, g6]
def isCode : Jvm.Cond → Bool
  | .code _ _ _ _ => true
  | _ => false
theorem all_split {L : List Jvm.Cond} {P : Jvm.Cond → Bool} (h1 : L.all (fun c => isCode c || P c) = true) (h2 : ∀ c ∈ L.filter isCode, P c = true) : L.all P = true := by
  refine List.all_eq_true.mpr fun c hc => ?_
  have h := List.all_eq_true.mp h1 c hc
  rcases Bool.eq_false_or_eq_true (isCode c) with hi | hi
  · exact h2 c (List.mem_filter.mpr ⟨hc, hi⟩)
  · simpa [hi] using h
set_option maxRecDepth 65536 in
theorem w_c0 : (Jvm.Cond.code x code maxLocals ret).before args0 about1 = true := code_word (m := ⟨1, 1⟩) (meth := k1m1) (c := k1c1) (by decide +kernel) rfl rfl rfl (by decide +kernel)
set_option maxRecDepth 65536 in
theorem w_c1 : (Jvm.Cond.code ({ cls := "java/lang/String", name := "valueOf", desc := "(C)Ljava/lang/String;" } : Jvm.MethodName) jdk_42_method_139_code (1 : Nat) (Option.some (Jvm.ClassFile.FieldType.object "java/lang/String"))).before args0 about1 = true := code_word (m := ⟨7, 2⟩) (meth := k7m2) (c := k7c2) (by decide +kernel) rfl rfl rfl (by decide +kernel)
set_option maxRecDepth 65536 in
theorem w_c2 : (Jvm.Cond.code ({ cls := "java/lang/StringLatin1", name := "canEncode", desc := "(C)Z" } : Jvm.MethodName) jdk_43_method_3_code (1 : Nat) (Option.some Jvm.ClassFile.FieldType.boolean)).before args0 about1 = true := code_word (m := ⟨8, 1⟩) (meth := k8m1) (c := k8c1) (by decide +kernel) rfl rfl rfl (by decide +kernel)
set_option maxRecDepth 65536 in
theorem w_c3 : (Jvm.Cond.code ({ cls := "java/lang/StringLatin1", name := "toBytes", desc := "(C)[B" } : Jvm.MethodName) jdk_43_method_46_code (1 : Nat) (Option.some (Jvm.ClassFile.FieldType.array Jvm.ClassFile.FieldType.byte))).before args0 about1 = true := code_word (m := ⟨8, 2⟩) (meth := k8m2) (c := k8c2) (by decide +kernel) rfl rfl rfl (by decide +kernel)
set_option maxRecDepth 65536 in
theorem w_c4 : (Jvm.Cond.code ({ cls := "java/lang/String", name := "<init>", desc := "([BB)V" } : Jvm.MethodName) jdk_42_method_151_code (3 : Nat) (Option.none : Option Jvm.ClassFile.FieldType)).before args0 about1 = true := code_word (m := ⟨7, 4⟩) (meth := k7m4) (c := k7c4) (by decide +kernel) rfl rfl rfl (by decide +kernel)
set_option maxRecDepth 65536 in
theorem w_c5 : (Jvm.Cond.code ({ cls := "java/lang/Object", name := "<init>", desc := "()V" } : Jvm.MethodName) object_method_1_code (1 : Nat) (Option.none : Option Jvm.ClassFile.FieldType)).before args0 about1 = true := code_word (m := ⟨0, 0⟩) (meth := k0m0) (c := k0c0) (by decide +kernel) rfl rfl rfl (by decide +kernel)
set_option maxRecDepth 65536 in
theorem w_c6 : (Jvm.Cond.code ({ cls := "com/example/mandible/mandible/property/CallScope", name := "of", desc := "(Z)Lcom/example/mandible/mandible/property/CallScope;" } : Jvm.MethodName) prog_23_method_2_code (1 : Nat) (Option.some (Jvm.ClassFile.FieldType.object "com/example/mandible/mandible/property/CallScope"))).before args0 about1 = true := code_word (m := ⟨9, 1⟩) (meth := k9m1) (c := k9c1) (by decide +kernel) rfl rfl rfl (by decide +kernel)
set_option maxRecDepth 65536 in
theorem w_c7 : (Jvm.Cond.code ({ cls := "java/util/Map", name := "of", desc := "()Ljava/util/Map;" } : Jvm.MethodName) jdk_72_method_26_code (0 : Nat) (Option.some (Jvm.ClassFile.FieldType.object "java/util/Map"))).before args0 about1 = true := code_word (m := ⟨10, 1⟩) (meth := k10m1) (c := k10c1) (by decide +kernel) rfl rfl rfl (by decide +kernel)
set_option maxRecDepth 65536 in
theorem w_c8 : (Jvm.Cond.code ({ cls := "java/util/List", name := "of", desc := "()Ljava/util/List;" } : Jvm.MethodName) jdk_40_method_36_code (0 : Nat) (Option.some (Jvm.ClassFile.FieldType.object "java/util/List"))).before args0 about1 = true := code_word (m := ⟨15, 1⟩) (meth := k15m1) (c := k15c1) (by decide +kernel) rfl rfl rfl (by decide +kernel)
set_option maxRecDepth 65536 in
theorem w_c9 : (Jvm.Cond.code ({ cls := "java/util/Set", name := "of", desc := "()Ljava/util/Set;" } : Jvm.MethodName) jdk_96_method_17_code (0 : Nat) (Option.some (Jvm.ClassFile.FieldType.object "java/util/Set"))).before args0 about1 = true := code_word (m := ⟨16, 1⟩) (meth := k16m1) (c := k16c1) (by decide +kernel) rfl rfl rfl (by decide +kernel)
set_option maxRecDepth 65536 in
theorem w_c10 : (Jvm.Cond.code ({ cls := "com/example/mandible/mandible/property/CallScope", name := "<init>", desc := "(ZLjava/util/Map;Ljava/util/List;Ljava/util/Map;Ljava/util/Set;)V" } : Jvm.MethodName) prog_23_method_1_code (6 : Nat) (Option.none : Option Jvm.ClassFile.FieldType)).before args0 about1 = true := code_word (m := ⟨9, 0⟩) (meth := k9m0) (c := k9c0) (by decide +kernel) rfl rfl rfl (by decide +kernel)
set_option maxRecDepth 65536 in
theorem w_c11 : (Jvm.Cond.code ({ cls := "com/example/mandible/mandible/property/CallScope", name := "inheritsAll", desc := "()Z" } : Jvm.MethodName) prog_23_method_7_code (1 : Nat) (Option.some Jvm.ClassFile.FieldType.boolean)).before args0 about1 = true := code_word (m := ⟨9, 2⟩) (meth := k9m2) (c := k9c2) (by decide +kernel) rfl rfl rfl (by decide +kernel)
set_option maxRecDepth 65536 in
theorem w_c12 : (Jvm.Cond.code ({ cls := "com/example/mandible/mandible/property/CallScope", name := "inherits", desc := "(Ljava/lang/String;)Z" } : Jvm.MethodName) prog_23_method_11_code (2 : Nat) (Option.some Jvm.ClassFile.FieldType.boolean)).before args0 about1 = true := code_word (m := ⟨9, 6⟩) (meth := k9m6) (c := k9c6) (by decide +kernel) rfl rfl rfl (by decide +kernel)
set_option maxRecDepth 65536 in
theorem w_c13 : (Jvm.Cond.code ({ cls := "java/util/ImmutableCollections$SetN", name := "contains", desc := "(Ljava/lang/Object;)Z" } : Jvm.MethodName) jdk_132_method_4_code (2 : Nat) (Option.some Jvm.ClassFile.FieldType.boolean)).before args0 about1 = true := code_word (m := ⟨20, 0⟩) (meth := k20m0) (c := k20c0) (by decide +kernel) rfl rfl rfl (by decide +kernel)
set_option maxRecDepth 65536 in
theorem w_c14 : (Jvm.Cond.code ({ cls := "java/util/Objects", name := "requireNonNull", desc := "(Ljava/lang/Object;)Ljava/lang/Object;" } : Jvm.MethodName) jdk_31_method_10_code (1 : Nat) (Option.some (Jvm.ClassFile.FieldType.object "java/lang/Object"))).before args0 about1 = true := code_word (m := ⟨21, 1⟩) (meth := k21m1) (c := k21c1) (by decide +kernel) rfl rfl rfl (by decide +kernel)
set_option maxRecDepth 65536 in
theorem w_c15 : (Jvm.Cond.code ({ cls := "com/example/mandible/mandible/property/CallScope", name := "fixed", desc := "()Ljava/util/Map;" } : Jvm.MethodName) prog_23_method_8_code (1 : Nat) (Option.some (Jvm.ClassFile.FieldType.object "java/util/Map"))).before args0 about1 = true := code_word (m := ⟨9, 3⟩) (meth := k9m3) (c := k9c3) (by decide +kernel) rfl rfl rfl (by decide +kernel)
set_option maxRecDepth 65536 in
theorem w_c16 : (Jvm.Cond.code ({ cls := "java/util/ImmutableCollections$MapN", name := "isEmpty", desc := "()Z" } : Jvm.MethodName) jdk_2605_method_7_code (1 : Nat) (Option.some Jvm.ClassFile.FieldType.boolean)).before args0 about1 = true := code_word (m := ⟨24, 0⟩) (meth := k24m0) (c := k24c0) (by decide +kernel) rfl rfl rfl (by decide +kernel)
set_option maxRecDepth 65536 in
theorem w_c17 : (Jvm.Cond.code ({ cls := "com/example/mandible/mandible/property/CallScope", name := "parameters", desc := "()Ljava/util/List;" } : Jvm.MethodName) prog_23_method_9_code (1 : Nat) (Option.some (Jvm.ClassFile.FieldType.object "java/util/List"))).before args0 about1 = true := code_word (m := ⟨9, 4⟩) (meth := k9m4) (c := k9c4) (by decide +kernel) rfl rfl rfl (by decide +kernel)
set_option maxRecDepth 65536 in
theorem w_c18 : (Jvm.Cond.code ({ cls := "java/util/ImmutableCollections$ListN", name := "size", desc := "()I" } : Jvm.MethodName) jdk_45_method_3_code (1 : Nat) (Option.some Jvm.ClassFile.FieldType.int)).before args0 about1 = true := code_word (m := ⟨27, 0⟩) (meth := k27m0) (c := k27c0) (by decide +kernel) rfl rfl rfl (by decide +kernel)
set_option maxRecDepth 65536 in
theorem w_c19 : (Jvm.Cond.code ({ cls := "com/example/mandible/mandible/property/CallScope", name := "fromSets", desc := "()Ljava/util/Map;" } : Jvm.MethodName) prog_23_method_10_code (1 : Nat) (Option.some (Jvm.ClassFile.FieldType.object "java/util/Map"))).before args0 about1 = true := code_word (m := ⟨9, 5⟩) (meth := k9m5) (c := k9c5) (by decide +kernel) rfl rfl rfl (by decide +kernel)
set_option maxRecDepth 65536 in
theorem w_c20 : (Jvm.Cond.code ({ cls := "java/lang/String", name := "<init>", desc := "([C)V" } : Jvm.MethodName) jdk_42_method_3_code (2 : Nat) (Option.none : Option Jvm.ClassFile.FieldType)).before args0 about1 = true := code_word (m := ⟨7, 1⟩) (meth := k7m1) (c := k7c1) (by decide +kernel) rfl rfl rfl (by decide +kernel)
set_option maxRecDepth 65536 in
theorem w_c21 : (Jvm.Cond.code ({ cls := "java/lang/String", name := "<init>", desc := "([CIILjava/lang/Void;)V" } : Jvm.MethodName) jdk_42_method_149_code (6 : Nat) (Option.none : Option Jvm.ClassFile.FieldType)).before args0 about1 = true := code_word (m := ⟨7, 3⟩) (meth := k7m3) (c := k7c3) (by decide +kernel) rfl rfl rfl (by decide +kernel)
set_option maxRecDepth 65536 in
theorem w_c22 : (Jvm.Cond.code ({ cls := "java/lang/StringUTF16", name := "compress", desc := "([CII)[B" } : Jvm.MethodName) jdk_52_method_16_code (6 : Nat) (Option.some (Jvm.ClassFile.FieldType.array Jvm.ClassFile.FieldType.byte))).before args0 about1 = true := code_word (m := ⟨28, 2⟩) (meth := k28m2) (c := k28c2) (by decide +kernel) rfl rfl rfl (by decide +kernel)
set_option maxRecDepth 65536 in
theorem w_c23 : (Jvm.Cond.code ({ cls := "java/lang/StringUTF16", name := "compress", desc := "([CI[BII)I" } : Jvm.MethodName) jdk_52_method_21_code (7 : Nat) (Option.some Jvm.ClassFile.FieldType.int)).before args0 about1 = true := code_word (m := ⟨28, 3⟩) (meth := k28m3) (c := k28c3) (by decide +kernel) rfl rfl rfl (by decide +kernel)
set_option maxRecDepth 65536 in
theorem w_c24 : (Jvm.Cond.code ({ cls := "java/lang/StringUTF16", name := "coderFromArrayLen", desc := "([BI)B" } : Jvm.MethodName) jdk_52_method_15_code (2 : Nat) (Option.some Jvm.ClassFile.FieldType.byte)).before args0 about1 = true := code_word (m := ⟨28, 1⟩) (meth := k28m1) (c := k28c1) (by decide +kernel) rfl rfl rfl (by decide +kernel)
def codes1 : List Jvm.Cond := [Jvm.Cond.code x code maxLocals ret, Jvm.Cond.code ({ cls := "java/lang/String", name := "valueOf", desc := "(C)Ljava/lang/String;" } : Jvm.MethodName) jdk_42_method_139_code (1 : Nat) (Option.some (Jvm.ClassFile.FieldType.object "java/lang/String")), Jvm.Cond.code ({ cls := "java/lang/StringLatin1", name := "canEncode", desc := "(C)Z" } : Jvm.MethodName) jdk_43_method_3_code (1 : Nat) (Option.some Jvm.ClassFile.FieldType.boolean), Jvm.Cond.code ({ cls := "java/lang/StringLatin1", name := "toBytes", desc := "(C)[B" } : Jvm.MethodName) jdk_43_method_46_code (1 : Nat) (Option.some (Jvm.ClassFile.FieldType.array Jvm.ClassFile.FieldType.byte)), Jvm.Cond.code ({ cls := "java/lang/String", name := "<init>", desc := "([BB)V" } : Jvm.MethodName) jdk_42_method_151_code (3 : Nat) (Option.none : Option Jvm.ClassFile.FieldType), Jvm.Cond.code ({ cls := "java/lang/Object", name := "<init>", desc := "()V" } : Jvm.MethodName) object_method_1_code (1 : Nat) (Option.none : Option Jvm.ClassFile.FieldType), Jvm.Cond.code ({ cls := "com/example/mandible/mandible/property/CallScope", name := "of", desc := "(Z)Lcom/example/mandible/mandible/property/CallScope;" } : Jvm.MethodName) prog_23_method_2_code (1 : Nat) (Option.some (Jvm.ClassFile.FieldType.object "com/example/mandible/mandible/property/CallScope")), Jvm.Cond.code ({ cls := "java/util/Map", name := "of", desc := "()Ljava/util/Map;" } : Jvm.MethodName) jdk_72_method_26_code (0 : Nat) (Option.some (Jvm.ClassFile.FieldType.object "java/util/Map")), Jvm.Cond.code ({ cls := "java/util/List", name := "of", desc := "()Ljava/util/List;" } : Jvm.MethodName) jdk_40_method_36_code (0 : Nat) (Option.some (Jvm.ClassFile.FieldType.object "java/util/List")), Jvm.Cond.code ({ cls := "java/util/Set", name := "of", desc := "()Ljava/util/Set;" } : Jvm.MethodName) jdk_96_method_17_code (0 : Nat) (Option.some (Jvm.ClassFile.FieldType.object "java/util/Set")), Jvm.Cond.code ({ cls := "com/example/mandible/mandible/property/CallScope", name := "<init>", desc := "(ZLjava/util/Map;Ljava/util/List;Ljava/util/Map;Ljava/util/Set;)V" } : Jvm.MethodName) prog_23_method_1_code (6 : Nat) (Option.none : Option Jvm.ClassFile.FieldType), Jvm.Cond.code ({ cls := "com/example/mandible/mandible/property/CallScope", name := "inheritsAll", desc := "()Z" } : Jvm.MethodName) prog_23_method_7_code (1 : Nat) (Option.some Jvm.ClassFile.FieldType.boolean), Jvm.Cond.code ({ cls := "com/example/mandible/mandible/property/CallScope", name := "inherits", desc := "(Ljava/lang/String;)Z" } : Jvm.MethodName) prog_23_method_11_code (2 : Nat) (Option.some Jvm.ClassFile.FieldType.boolean), Jvm.Cond.code ({ cls := "java/util/ImmutableCollections$SetN", name := "contains", desc := "(Ljava/lang/Object;)Z" } : Jvm.MethodName) jdk_132_method_4_code (2 : Nat) (Option.some Jvm.ClassFile.FieldType.boolean), Jvm.Cond.code ({ cls := "java/util/Objects", name := "requireNonNull", desc := "(Ljava/lang/Object;)Ljava/lang/Object;" } : Jvm.MethodName) jdk_31_method_10_code (1 : Nat) (Option.some (Jvm.ClassFile.FieldType.object "java/lang/Object")), Jvm.Cond.code ({ cls := "com/example/mandible/mandible/property/CallScope", name := "fixed", desc := "()Ljava/util/Map;" } : Jvm.MethodName) prog_23_method_8_code (1 : Nat) (Option.some (Jvm.ClassFile.FieldType.object "java/util/Map")), Jvm.Cond.code ({ cls := "java/util/ImmutableCollections$MapN", name := "isEmpty", desc := "()Z" } : Jvm.MethodName) jdk_2605_method_7_code (1 : Nat) (Option.some Jvm.ClassFile.FieldType.boolean), Jvm.Cond.code ({ cls := "com/example/mandible/mandible/property/CallScope", name := "parameters", desc := "()Ljava/util/List;" } : Jvm.MethodName) prog_23_method_9_code (1 : Nat) (Option.some (Jvm.ClassFile.FieldType.object "java/util/List")), Jvm.Cond.code ({ cls := "java/util/ImmutableCollections$ListN", name := "size", desc := "()I" } : Jvm.MethodName) jdk_45_method_3_code (1 : Nat) (Option.some Jvm.ClassFile.FieldType.int), Jvm.Cond.code ({ cls := "com/example/mandible/mandible/property/CallScope", name := "fromSets", desc := "()Ljava/util/Map;" } : Jvm.MethodName) prog_23_method_10_code (1 : Nat) (Option.some (Jvm.ClassFile.FieldType.object "java/util/Map")), Jvm.Cond.code ({ cls := "java/lang/String", name := "<init>", desc := "([C)V" } : Jvm.MethodName) jdk_42_method_3_code (2 : Nat) (Option.none : Option Jvm.ClassFile.FieldType), Jvm.Cond.code ({ cls := "java/lang/String", name := "<init>", desc := "([CIILjava/lang/Void;)V" } : Jvm.MethodName) jdk_42_method_149_code (6 : Nat) (Option.none : Option Jvm.ClassFile.FieldType), Jvm.Cond.code ({ cls := "java/lang/StringUTF16", name := "compress", desc := "([CII)[B" } : Jvm.MethodName) jdk_52_method_16_code (6 : Nat) (Option.some (Jvm.ClassFile.FieldType.array Jvm.ClassFile.FieldType.byte)), Jvm.Cond.code ({ cls := "java/lang/StringUTF16", name := "compress", desc := "([CI[BII)I" } : Jvm.MethodName) jdk_52_method_21_code (7 : Nat) (Option.some Jvm.ClassFile.FieldType.int), Jvm.Cond.code ({ cls := "java/lang/StringUTF16", name := "coderFromArrayLen", desc := "([BI)B" } : Jvm.MethodName) jdk_52_method_15_code (2 : Nat) (Option.some Jvm.ClassFile.FieldType.byte)]
set_option maxRecDepth 65536 in
theorem codes_eq : words1.filter isCode = codes1 := rfl
theorem w_codes : ∀ c ∈ words1.filter isCode, c.before args0 about1 = true := by
  rw [codes_eq]
  intro c hc
  simp only [codes1, List.mem_cons, List.not_mem_nil, or_false] at hc
  rcases hc with rfl | rfl | rfl | rfl | rfl | rfl | rfl | rfl | rfl | rfl | rfl | rfl | rfl | rfl | rfl | rfl | rfl | rfl | rfl | rfl | rfl | rfl | rfl | rfl | rfl
  · exact w_c0
  · exact w_c1
  · exact w_c2
  · exact w_c3
  · exact w_c4
  · exact w_c5
  · exact w_c6
  · exact w_c7
  · exact w_c8
  · exact w_c9
  · exact w_c10
  · exact w_c11
  · exact w_c12
  · exact w_c13
  · exact w_c14
  · exact w_c15
  · exact w_c16
  · exact w_c17
  · exact w_c18
  · exact w_c19
  · exact w_c20
  · exact w_c21
  · exact w_c22
  · exact w_c23
  · exact w_c24
set_option maxRecDepth 65536 in
theorem w_t1 : (words1.take 24).all (fun c => isCode c || c.before args0 about1) = true := by decide +kernel
set_option maxRecDepth 65536 in
theorem w_t2 : ((words1.drop 24).take 24).all (fun c => isCode c || c.before args0 about1) = true := by decide +kernel
set_option maxRecDepth 65536 in
theorem w_t3 : (((words1.drop 24).drop 24).take 24).all (fun c => isCode c || c.before args0 about1) = true := by decide +kernel
set_option maxRecDepth 65536 in
theorem w_t4 : ((((words1.drop 24).drop 24).drop 24).take 24).all (fun c => isCode c || c.before args0 about1) = true := by decide +kernel
set_option maxRecDepth 65536 in
theorem w_t5 : (((((words1.drop 24).drop 24).drop 24).drop 24).take 24).all (fun c => isCode c || c.before args0 about1) = true := by decide +kernel
set_option maxRecDepth 65536 in
theorem w_t6 : ((((((words1.drop 24).drop 24).drop 24).drop 24).drop 24).take 24).all (fun c => isCode c || c.before args0 about1) = true := by decide +kernel
set_option maxRecDepth 65536 in
theorem w_t7 : ((((((words1.drop 24).drop 24).drop 24).drop 24).drop 24).drop 24).all (fun c => isCode c || c.before args0 about1) = true := by decide +kernel
theorem w_tables : (allAtoms (Jvm.Cond.code x code maxLocals ret :: tables_1)).before args0 about1 = true := by
  rw [allAtoms_all]
  show words1.all (fun c => c.before args0 about1) = true
  refine all_split ?_ w_codes
  rw [← List.take_append_drop 24 words1, List.all_append, w_t1, ← List.take_append_drop 24 (words1.drop 24), List.all_append, w_t2, ← List.take_append_drop 24 ((words1.drop 24).drop 24), List.all_append, w_t3, ← List.take_append_drop 24 (((words1.drop 24).drop 24).drop 24), List.all_append, w_t4, ← List.take_append_drop 24 ((((words1.drop 24).drop 24).drop 24).drop 24), List.all_append, w_t5, ← List.take_append_drop 24 (((((words1.drop 24).drop 24).drop 24).drop 24).drop 24), List.all_append, w_t6, w_t7]
  rfl
set_option maxRecDepth 65536 in
theorem w_rest : rest_1_c.before args0 about1 = true := by decide +kernel
set_option maxRecDepth 65536 in
theorem w_case : (Jvm.Cond.and given_1 narrow_1).before args0 about1 = true := by decide +kernel
theorem w_applies : (headSpec (Jvm.Cond.code x code maxLocals ret :: tables_1) room_1).applies x e0.platform about1 = true :=
  (Spec.applies_iff w_frames).mpr ⟨w_running, w_runnable, w_alone, w_named, w_hears, w_ripe, w_room, w_tables⟩
theorem atStart : AtStart classFile x code maxLocals ret World_1 tables_1 room_1 Calls_1 rest_1 Pre_1 launch0 p0 e0 about1 theMethod args0 below0 :=
  ⟨lists_1, trivial, launch0.admits_env _ _ _, launch0.least_env, fairChoices_fair.cas, fairChoices_fair.clock, w_frames, w_args, w_heap, w_applies, trivial, w_rest, w_case⟩
end start1
theorem witness_1 : WitnessClaimed_1 := ⟨start1.p0, start1.e0, start1.about1, start1.theMethod, start1.args0, start1.below0, start1.atStart⟩
end Jvm.Pilot.@@N@@
