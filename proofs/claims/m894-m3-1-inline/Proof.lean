import JvmDerived
import JvmDerived.Pilot.@@N@@Statement
import JvmDerived.Pilot.@@N@@Code
set_option linter.unusedVariables false
set_option linter.unusedSimpArgs false
/- laws to paste: Road.backV, Road.lenW, Road.chN, Road.codOf, shr0, shr1, Road.wide_lo, Road.wide_hi, lo8_mask (cut by pick.py; bodies as the Statement names them) -/
namespace Jvm.Pilot.@@N@@
namespace StrChars
open Jvm Sem ClassFile Op Lib Jvm.Stand Jvm.Free.XT Jvm.Free.ALB Jvm.Free.JM Jvm.Free
open Jvm.Lib.Cold (StaticIs)
/-- a char array whose places are chars -/
def Ch (a : Addr) (A : Cell) (U : State) : Prop := Arr .char a A U ∧ Typed .char A
theorem Ch.mv {a : Addr} {A : Cell} {U U' : State} (h : Ch a A U) (hal : U.vm.Alike U'.vm) (hh : U'.heap = U.heap) : Ch a A U' := ⟨h.1.mv hal hh, h.2⟩
theorem Ch.keep {a : Addr} {A : Cell} {U U' : State} (h : Ch a A U) (hal : U.vm.Alike U'.vm) (hk : U'.heap[a]? = some A) : Ch a A U' := ⟨h.1.keep hal hk, h.2⟩
/-- what place i of a char[]'s cell holds -/
def cv (A : Cell) (i : Nat) : Int32 := match A.slots[i]? with | some (.int x) => x | _ => 0
theorem Ch.get {a : Addr} {A : Cell} {U : State} (h : Ch a A U) {i : Nat} (hi : i < A.slots.size) : A.slots[i]? = some (.int (cv A i)) := by
  have e := Array.getElem?_eq_getElem hi
  have f := h.2 i _ e
  unfold cv; rw [e]
  generalize A.slots[i] = v at f
  cases v <;> simp [fits] at f ⊢
/-- the byte that i2b leaves of a char -/
def lo8 (x : Int32) : Int32 := x.toInt8.toInt32
theorem fits_lo8 (y : Int32) : fits .byte (.int (lo8 y)) = true := by
  have h1 := y.toInt8.le_toInt
  have h2 := y.toInt8.toInt_lt
  simp only [lo8, fits, Bool.and_eq_true, decide_eq_true_eq, Int32.le_iff_toInt_le, Int8.toInt_toInt32, show (-128 : Int32).toInt = -128 from by decide, show (127 : Int32).toInt = 127 from by decide]
  omega
/-- A' is A but that each place j of lo .. hi - 1 holds f j -/
def Laid (A A' : Cell) (lo hi : Nat) (f : Nat → Value) : Prop := A'.cls = A.cls ∧ A'.vm = A.vm ∧ A'.slots.size = A.slots.size ∧ ∀ i, A'.slots[i]? = if lo ≤ i ∧ i < hi then some (f i) else A.slots[i]?
theorem Laid.zero (A : Cell) (lo : Nat) (f : Nat → Value) : Laid A A lo (lo + 0) f := ⟨rfl, rfl, rfl, fun i => by rw [if_neg (by omega)]⟩
theorem Laid.step {A Ak : Cell} {lo k : Nat} {f : Nat → Value} {v : Value} (h : Laid A Ak lo k f) (hlo : lo ≤ k) (hk : k < Ak.slots.size) (hv : v = f k) : Laid A (Ak.setSlot k v) lo (k + 1) f := by
  refine ⟨h.1, h.2.1, by simpa [Cell.setSlot] using h.2.2.1, fun i => ?_⟩
  by_cases e : k = i
  · subst e; rw [Cell.slots_setSlot_self v hk, if_pos (by omega), hv]
  · rw [Cell.slots_setSlot_ne v e, h.2.2.2 i]
    by_cases q : lo ≤ i ∧ i < k
    · rw [if_pos q, if_pos (by omega)]
    · rw [if_neg q, if_neg (by omega)]
def U16 : String := "java/lang/StringUTF16"
namespace Cmp5
def yN : MethodName := ⟨"java/lang/StringUTF16", "compress", "([CI[BII)I"⟩
abbrev yB : ByteArray := jdk_52_method_21_code
theorem d0 : decode yB 0 = .ok (.iconst 0, 1) := by decide +kernel
theorem d1 : decode yB 1 = .ok (.istore 5, 2) := by decide +kernel
theorem d3 : decode yB 3 = .ok (.iload 5, 2) := by decide +kernel
theorem d5 : decode yB 5 = .ok (.iload 4, 2) := by decide +kernel
theorem d7 : decode yB 7 = .ok (.if_icmp (.ge) 37, 3) := by decide +kernel
theorem d10 : decode yB 10 = .ok (.aload_n 0, 1) := by decide +kernel
theorem d11 : decode yB 11 = .ok (.iload_n 1, 1) := by decide +kernel
theorem d12 : decode yB 12 = .ok (.caload, 1) := by decide +kernel
theorem d13 : decode yB 13 = .ok (.istore 6, 2) := by decide +kernel
theorem d15 : decode yB 15 = .ok (.iload 6, 2) := by decide +kernel
theorem d17 : decode yB 17 = .ok (.sipush 255, 3) := by decide +kernel
theorem d20 : decode yB 20 = .ok (.if_icmp (.le) 6, 3) := by decide +kernel
theorem d26 : decode yB 26 = .ok (.aload_n 2, 1) := by decide +kernel
theorem d27 : decode yB 27 = .ok (.iload_n 3, 1) := by decide +kernel
theorem d28 : decode yB 28 = .ok (.iload 6, 2) := by decide +kernel
theorem d30 : decode yB 30 = .ok (.i2b, 1) := by decide +kernel
theorem d31 : decode yB 31 = .ok (.bastore, 1) := by decide +kernel
theorem d32 : decode yB 32 = .ok (.iinc 1 1, 3) := by decide +kernel
theorem d35 : decode yB 35 = .ok (.iinc 3 1, 3) := by decide +kernel
theorem d38 : decode yB 38 = .ok (.iinc 5 1, 3) := by decide +kernel
theorem d41 : decode yB 41 = .ok (.goto (-38), 3) := by decide +kernel
theorem d44 : decode yB 44 = .ok (.iload 4, 2) := by decide +kernel
theorem d46 : decode yB 46 = .ok (.ireturn, 1) := by decide +kernel
def site : List Cond := []
def tab : Cond := tabOf yN yB 7 (some .int) site
def P (b : Addr) (A : Cell) (d : Addr) (B : Cell) (o q len : Nat) (args : Array Value) (s : State) : Prop := args = #[.ref b, .int (Int32.ofNat o), .ref d, .int (Int32.ofNat q), .int (Int32.ofNat len)] ∧ Ch b A s ∧ Arr .byte d B s ∧ b ≠ d ∧ o + len ≤ A.slots.size ∧ q + len ≤ B.slots.size ∧ ∀ i, i < len → ¬ 255 < cv A (o + i)
def E (b : Addr) (A : Cell) (d : Addr) (B : Cell) (o q len : Nat) (r : Option Value) (s u : State) : Prop := r = some (.int (Int32.ofNat len)) ∧ ∃ B', Put d B' s u ∧ Laid B B' q (q + len) (fun j => Value.int (lo8 (cv A (o + (j - q)))))
/-- no char of the range above 255: len; the places written hold each char's low byte -/
theorem law (l : Launch) (b : Addr) (A : Cell) (d : Addr) (B : Cell) (o q len : Nat) : Law l yN 5 5 0 0 yB 7 (some .int) site (P b A d B o q len) (E b A d B o q len) (copyLocs d q len) 0 0 := by
  refine Law.of_walk (plainFor_of_name (by decide +kernel)) (by decide +kernel) (by decide +kernel) (by decide) (fun _ _ h => by rw [h.1]; rfl) (fun _ U U' hal hh h => ⟨h.1, h.2.1.mv hal hh, h.2.2.1.mv hal hh, h.2.2.2⟩) (fun r U U' V V' h1 hal h2 h => ⟨h.1, h.2.elim fun B' q => ⟨B', q.1.mv h1 h2, q.2⟩⟩) ?_
  intro p e s m args below meth c s₁ X0 hexec hbytes hml hret hlk hnm hown hh0 W hP
  obtain ⟨rfl, hA, hB, hne, l1, l2, hp⟩ := hP
  have c1 : Steps p.tables e below (s₁.setTop (entryFrame m #[.ref b, .int (Int32.ofNat o), .ref d, .int (Int32.ofNat q), .int (Int32.ofNat len)] 7)) (s₁.setTop (mkF m 0 #[.val (.ref b), .val (.int (Int32.ofNat o)), .val (.ref d), .val (.int (Int32.ofNat q)), .val (.int (Int32.ofNat len)), .unset, .unset] [])) := entry rfl
  have hA0 := hA.1.mv X0.warmed.alike hh0
  have hB0 := hB.mv X0.warmed.alike hh0
  have a31 := hA.1.2.2.2
  have c2 : Steps p.tables e below (s₁.setTop (entryFrame m #[.ref b, .int (Int32.ofNat o), .ref d, .int (Int32.ofNat q), .int (Int32.ofNat len)] 7)) (s₁.setTop (mkF m 3 #[.val (.ref b), .val (.int (Int32.ofNat o)), .val (.ref d), .val (.int (Int32.ofNat q)), .val (.int (Int32.ofNat len)), .val (.int 0), .unset] [])) := c1.trans (by
    refine iconstV X0.here hexec rfl 0 (hb hbytes d0) (by decide) ?_
    refine XS.istore X0.here hexec rfl (hb hbytes d1) rfl rfl ?_
    exact Steps.refl _)
  have loop : ∀ (r i : Nat), i + r = len → ∀ (z : Slot), (z = .unset ∨ ∃ w, z = .val w ∧ w.category = 1) → ∀ (Tl : State) (Bk : Cell), Stand p l e { frames := 0, locals := 0, cells := 0, slots := 0 } s m #[.ref b, .int (Int32.ofNat o), .ref d, .int (Int32.ofNat q), .int (Int32.ofNat len)] below meth c Tl ([] ++ copyLocs d q i) 0 0 → Put d Bk s₁ Tl → Laid B Bk q (q + i) (fun j => Value.int (lo8 (cv A (o + (j - q))))) →
      Steps p.tables e below (s₁.setTop (entryFrame m #[.ref b, .int (Int32.ofNat o), .ref d, .int (Int32.ofNat q), .int (Int32.ofNat len)] 7)) (Tl.setTop (mkF m 3 #[.val (.ref b), .val (.int (Int32.ofNat (o + i))), .val (.ref d), .val (.int (Int32.ofNat (q + i))), .val (.int (Int32.ofNat len)), .val (.int (Int32.ofNat i)), z] [])) → ∃ (T' : State) (B' : Cell) (z' : Slot), Stand p l e { frames := 0, locals := 0, cells := 0, slots := 0 } s m #[.ref b, .int (Int32.ofNat o), .ref d, .int (Int32.ofNat q), .int (Int32.ofNat len)] below meth c T' ([] ++ copyLocs d q len) 0 0 ∧ Put d B' s₁ T' ∧ Laid B B' q (q + len) (fun j => Value.int (lo8 (cv A (o + (j - q))))) ∧
      Steps p.tables e below (s₁.setTop (entryFrame m #[.ref b, .int (Int32.ofNat o), .ref d, .int (Int32.ofNat q), .int (Int32.ofNat len)] 7)) (T'.setTop (mkF m 3 #[.val (.ref b), .val (.int (Int32.ofNat (o + len))), .val (.ref d), .val (.int (Int32.ofNat (q + len))), .val (.int (Int32.ofNat len)), .val (.int (Int32.ofNat len)), z'] [])) := by
    intro r
    induction r with
    | zero =>
      intro i hi z hz Tl Bk Xl pl fl cl
      have hil : i = len := by omega
      rw [hil] at Xl fl cl
      exact ⟨Tl, Bk, z, Xl, pl, fl, cl⟩
    | succ r ih =>
      intro i hi z hz Tl Bk Xl pl fl cl
      have all := X0.warmed.alike.symm.trans Xl.warmed.alike
      have hAl := hA0.keep all (pl.other hne hA0.1)
      have hBk := hB0.like all pl.1 fl.1 fl.2.1 fl.2.2.1
      have hlt : q + i < Bk.slots.size := by rw [fl.2.2.1]; omega
      have c3 : Steps p.tables e below (s₁.setTop (entryFrame m #[.ref b, .int (Int32.ofNat o), .ref d, .int (Int32.ofNat q), .int (Int32.ofNat len)] 7)) (Tl.setTop (mkF m 12 #[.val (.ref b), .val (.int (Int32.ofNat (o + i))), .val (.ref d), .val (.int (Int32.ofNat (q + i))), .val (.int (Int32.ofNat len)), .val (.int (Int32.ofNat i)), z] [.int (Int32.ofNat (o + i)), .ref b])) := cl.trans (by
        refine XS.iload Xl.here hexec rfl (hb hbytes d3) rfl ?_
        refine XS.iload Xl.here hexec rfl (hb hbytes d5) rfl ?_
        refine XS.icmpNo Xl.here hexec rfl (hb hbytes d7) rfl (ii_ge_f (lt32 (by omega) (by omega))) ?_
        refine XS.aloadN Xl.here hexec rfl (hb hbytes d10) rfl rfl ?_
        refine XS.iloadN Xl.here hexec rfl (hb hbytes d11) rfl ?_
        exact Steps.refl _)
      have c4 : Steps p.tables e below (s₁.setTop (entryFrame m #[.ref b, .int (Int32.ofNat o), .ref d, .int (Int32.ofNat q), .int (Int32.ofNat len)] 7)) (Tl.setTop (mkF m 13 #[.val (.ref b), .val (.int (Int32.ofNat (o + i))), .val (.ref d), .val (.int (Int32.ofNat (q + i))), .val (.int (Int32.ofNat len)), .val (.int (Int32.ofNat i)), z] [.int (cv A (o + i))])) := c3.trans (by
        refine Xl.aget hexec hAl rfl (hA.get (i := o + i) (by omega)) rfl rfl (hb hbytes d12) ?_
        exact Steps.refl _)
      have c5 : Steps p.tables e below (s₁.setTop (entryFrame m #[.ref b, .int (Int32.ofNat o), .ref d, .int (Int32.ofNat q), .int (Int32.ofNat len)] 7)) (Tl.setTop (mkF m 15 #[.val (.ref b), .val (.int (Int32.ofNat (o + i))), .val (.ref d), .val (.int (Int32.ofNat (q + i))), .val (.int (Int32.ofNat len)), .val (.int (Int32.ofNat i)), .val (.int (cv A (o + i)))] [])) := c4.trans (by
        refine XS.istoreS Xl.here hexec rfl (hb hbytes d13) rfl rfl hz ?_
        exact Steps.refl _)
      have c6 : Steps p.tables e below (s₁.setTop (entryFrame m #[.ref b, .int (Int32.ofNat o), .ref d, .int (Int32.ofNat q), .int (Int32.ofNat len)] 7)) (Tl.setTop (mkF m 31 #[.val (.ref b), .val (.int (Int32.ofNat (o + i))), .val (.ref d), .val (.int (Int32.ofNat (q + i))), .val (.int (Int32.ofNat len)), .val (.int (Int32.ofNat i)), .val (.int (cv A (o + i)))] [.int (lo8 (cv A (o + i))), .int (Int32.ofNat (q + i)), .ref d])) := c5.trans (by
        refine XS.iload Xl.here hexec rfl (hb hbytes d15) rfl ?_
        refine sipushV Xl.here hexec rfl 255 (hb hbytes d17) (by decide) ?_
        refine XS.icmpYes Xl.here hexec rfl (pc0 := 20) rfl (hb hbytes d20) rfl (ii_le_t (hp i (by omega))) (by decide) rfl ?_
        refine XS.aloadN Xl.here hexec rfl (hb hbytes d26) rfl rfl ?_
        refine XS.iloadN Xl.here hexec rfl (hb hbytes d27) rfl ?_
        refine XS.iload Xl.here hexec rfl (hb hbytes d28) rfl ?_
        refine i2b Xl.here hexec rfl (hb hbytes d30) rfl ?_
        exact Steps.refl _)
      obtain ⟨T7, X7, p7, st7⟩ := Xl.aput hexec hBk rfl hlt rfl (fits_lo8 (cv A (o + i))) (g := (mkF m 31 #[.val (.ref b), .val (.int (Int32.ofNat (o + i))), .val (.ref d), .val (.int (Int32.ofNat (q + i))), .val (.int (Int32.ofNat len)), .val (.int (Int32.ofNat i)), .val (.int (cv A (o + i)))] [.int (lo8 (cv A (o + i))), .int (Int32.ofNat (q + i)), .ref d])) rfl (rest := []) rfl (hb hbytes d31)
      have c8 : Steps p.tables e below (s₁.setTop (entryFrame m #[.ref b, .int (Int32.ofNat o), .ref d, .int (Int32.ofNat q), .int (Int32.ofNat len)] 7)) (T7.setTop (mkF m 32 #[.val (.ref b), .val (.int (Int32.ofNat (o + i))), .val (.ref d), .val (.int (Int32.ofNat (q + i))), .val (.int (Int32.ofNat len)), .val (.int (Int32.ofNat i)), .val (.int (cv A (o + i)))] [])) := c6.trans (st7 _ (Steps.refl _))
      have c9 : Steps p.tables e below (s₁.setTop (entryFrame m #[.ref b, .int (Int32.ofNat o), .ref d, .int (Int32.ofNat q), .int (Int32.ofNat len)] 7)) (T7.setTop (mkF m 3 #[.val (.ref b), .val (.int (Int32.ofNat (o + i) + 1)), .val (.ref d), .val (.int (Int32.ofNat (q + i) + 1)), .val (.int (Int32.ofNat len)), .val (.int (Int32.ofNat i + 1)), .val (.int (cv A (o + i)))] [])) := c8.trans (by
        refine iincV X7.here hexec rfl 1 (hb hbytes d32) (by decide) rfl rfl ?_
        refine iincV X7.here hexec rfl 1 (hb hbytes d35) (by decide) rfl rfl ?_
        refine iincV X7.here hexec rfl 1 (hb hbytes d38) (by decide) rfl rfl ?_
        refine XS.goto X7.here hexec rfl (pc0 := 41) rfl (hb hbytes d41) (by decide) rfl ?_
        exact Steps.refl _)
      have c10 : Steps p.tables e below (s₁.setTop (entryFrame m #[.ref b, .int (Int32.ofNat o), .ref d, .int (Int32.ofNat q), .int (Int32.ofNat len)] 7)) (T7.setTop (mkF m 3 #[.val (.ref b), .val (.int (Int32.ofNat (o + (i + 1)))), .val (.ref d), .val (.int (Int32.ofNat (q + (i + 1)))), .val (.int (Int32.ofNat len)), .val (.int (Int32.ofNat (i + 1))), .val (.int (cv A (o + i)))] [])) := by
        have := c9
        rw [succ32, succ32, succ32] at this
        exact this
      exact ih (i + 1) (by omega) _ (Or.inr ⟨_, rfl, rfl⟩) T7 _ (by rw [copyLocs_step, ← List.append_assoc]; exact X7) (pl.trans p7) (fl.step (by omega) hlt (by simp)) c10
  obtain ⟨T9, B9, z9, X9, p9, f9, g9⟩ := loop len 0 (by omega) .unset (Or.inl rfl) s₁ B (by simpa [copyLocs] using X0) ⟨hB0.1, fun _ _ => rfl, rfl⟩ (Laid.zero _ _ _) c2
  have c11 : Steps p.tables e below (s₁.setTop (entryFrame m #[.ref b, .int (Int32.ofNat o), .ref d, .int (Int32.ofNat q), .int (Int32.ofNat len)] 7)) (T9.setTop (mkF m 46 #[.val (.ref b), .val (.int (Int32.ofNat (o + len))), .val (.ref d), .val (.int (Int32.ofNat (q + len))), .val (.int (Int32.ofNat len)), .val (.int (Int32.ofNat len)), z9] [.int (Int32.ofNat len)])) := g9.trans (by
    refine XS.iload X9.here hexec rfl (hb hbytes d3) rfl ?_
    refine XS.iload X9.here hexec rfl (hb hbytes d5) rfl ?_
    refine XS.icmpYes X9.here hexec rfl (pc0 := 7) rfl (hb hbytes d7) rfl (ii_ge_t (nlt32 (by omega) (Nat.le_refl _))) (by decide) rfl ?_
    refine XS.iload X9.here hexec rfl (hb hbytes d44) rfl ?_
    exact Steps.refl _)
  exact ⟨T9, some (.int (Int32.ofNat len)), _, _, _, X9, by simp, rfl, rfl, (fun h => by cases h), ⟨rfl, B9, p9.from hh0, f9⟩, fun fs hl => c11.trans (X9.ireturnOut hexec hret rfl (Or.inl rfl) (hb hbytes d46) hl)⟩
end Cmp5
namespace Cmp3
def yN : MethodName := ⟨"java/lang/StringUTF16", "compress", "([CII)[B"⟩
abbrev yB : ByteArray := jdk_52_method_16_code
theorem d0 : decode yB 0 = .ok (.iload_n 2, 1) := by decide +kernel
theorem d1 : decode yB 1 = .ok (.newarray .byte, 2) := by decide +kernel
theorem d3 : decode yB 3 = .ok (.astore_n 3, 1) := by decide +kernel
theorem d4 : decode yB 4 = .ok (.aload_n 0, 1) := by decide +kernel
theorem d5 : decode yB 5 = .ok (.iload_n 1, 1) := by decide +kernel
theorem d6 : decode yB 6 = .ok (.aload_n 3, 1) := by decide +kernel
theorem d7 : decode yB 7 = .ok (.iconst 0, 1) := by decide +kernel
theorem d8 : decode yB 8 = .ok (.iload_n 2, 1) := by decide +kernel
theorem d9 : decode yB 9 = .ok (.invokestatic 115, 3) := by decide +kernel
theorem d12 : decode yB 12 = .ok (.istore 4, 2) := by decide +kernel
theorem d14 : decode yB 14 = .ok (.iload 4, 2) := by decide +kernel
theorem d16 : decode yB 16 = .ok (.iload_n 2, 1) := by decide +kernel
theorem d17 : decode yB 17 = .ok (.if_icmp (.eq) 40, 3) := by decide +kernel
theorem d57 : decode yB 57 = .ok (.aload_n 3, 1) := by decide +kernel
theorem d58 : decode yB 58 = .ok (.areturn, 1) := by decide +kernel
def site : List Cond := [.arrayClass .byte, Cmp5.tab] ++ staticW U16 115 Cmp5.yN
def tab : Cond := tabOf yN yB 6 (some (.array .byte)) site
def P (b : Addr) (A : Cell) (o len : Nat) (args : Array Value) (s : State) : Prop := args = #[.ref b, .int (Int32.ofNat o), .int (Int32.ofNat len)] ∧ Ch b A s ∧ o + len ≤ A.slots.size ∧ len ≤ 536870912 ∧ ∀ i, i < len → ¬ 255 < cv A (o + i)
def E (b : Addr) (A : Cell) (o len : Nat) (r : Option Value) (s u : State) : Prop := NewArr .byte "[B" len (fun j => .int (lo8 (cv A (o + j)))) r s u ∧ u.heap.size = s.heap.size + 1
/-- no char of the range above 255: a new byte[] of their low bytes -/
theorem law (l : Launch) (b : Addr) (A : Cell) (o len : Nat) : Law l yN 3 3 1 18 yB 6 (some (.array .byte)) site (P b A o len) (E b A o len) [] 1 len := by
  refine Law.of_walk (plainFor_of_name (by decide +kernel)) (by decide +kernel) (by decide +kernel) (by decide) (fun _ _ h => by rw [h.1]; rfl) (fun _ U U' hal hh h => ⟨h.1, h.2.1.mv hal hh, h.2.2⟩) (fun r U U' V V' h1 hal h2 h => ⟨NewArr.mv r U U' V V' h1 hal h2 h.1, by rw [h1, h2]; exact h.2⟩) ?_
  intro p e s m args below meth c s₁ X0 hexec hbytes hml hret hlk hnm hown hh0 W hP
  obtain ⟨rfl, hA, l1, l2, hp⟩ := hP
  have a31 := hA.1.2.2.2
  have c1 : Steps p.tables e below (s₁.setTop (entryFrame m #[.ref b, .int (Int32.ofNat o), .int (Int32.ofNat len)] 6)) (s₁.setTop (mkF m 0 #[.val (.ref b), .val (.int (Int32.ofNat o)), .val (.int (Int32.ofNat len)), .unset, .unset, .unset] [])) := entry rfl
  have c2 : Steps p.tables e below (s₁.setTop (entryFrame m #[.ref b, .int (Int32.ofNat o), .int (Int32.ofNat len)] 6)) (s₁.setTop (mkF m 1 #[.val (.ref b), .val (.int (Int32.ofNat o)), .val (.int (Int32.ofNat len)), .unset, .unset, .unset] [.int (Int32.ofNat len)])) := c1.trans (by
    refine XS.iloadN X0.here hexec rfl (hb hbytes d0) rfl ?_
    exact Steps.refl _)
  obtain ⟨T3, B3, X3, ba3, bs3, bv3, bh3, bf3, st3⟩ := X0.anew hexec (atype := .byte) (wk W (.arrayClass .byte)) rfl (by show len * 1 ≤ _; omega) (by omega) (g := (mkF m 1 #[.val (.ref b), .val (.int (Int32.ofNat o)), .val (.int (Int32.ofNat len)), .unset, .unset, .unset] [.int (Int32.ofNat len)])) rfl (hb hbytes d1) (rest := []) rfl (Nat.le_refl _) (by show 0 + len ≤ len; omega)
  rw [hh0] at ba3 st3
  have kp3 : XT.Kept s T3 := (XT.Kept.of_eq hh0).push bh3
  have hA3 := hA.keep X3.warmed.alike (kp3 _ _ hA.1.1)
  have hne : b ≠ s.heap.size := hA.1.ne
  have c4 : Steps p.tables e below (s₁.setTop (entryFrame m #[.ref b, .int (Int32.ofNat o), .int (Int32.ofNat len)] 6)) (T3.setTop (mkF m 3 #[.val (.ref b), .val (.int (Int32.ofNat o)), .val (.int (Int32.ofNat len)), .unset, .unset, .unset] [.ref s.heap.size])) := c2.trans (st3 _ (Steps.refl _))
  have c5 : Steps p.tables e below (s₁.setTop (entryFrame m #[.ref b, .int (Int32.ofNat o), .int (Int32.ofNat len)] 6)) (T3.setTop (mkF m 9 #[.val (.ref b), .val (.int (Int32.ofNat o)), .val (.int (Int32.ofNat len)), .val (.ref s.heap.size), .unset, .unset] [.int (Int32.ofNat len), .int 0, .ref s.heap.size, .int (Int32.ofNat o), .ref b])) := c4.trans (by
    refine XS.astoreN X3.here hexec rfl (hb hbytes d3) rfl rfl rfl ?_
    refine XS.aloadN X3.here hexec rfl (hb hbytes d4) rfl rfl ?_
    refine XS.iloadN X3.here hexec rfl (hb hbytes d5) rfl ?_
    refine XS.aloadN X3.here hexec rfl (hb hbytes d6) rfl rfl ?_
    refine iconstV X3.here hexec rfl 0 (hb hbytes d7) (by decide) ?_
    refine XS.iloadN X3.here hexec rfl (hb hbytes d8) rfl ?_
    exact Steps.refl _)
  obtain ⟨v6, T6, X6, E6, g6⟩ := X3.callS hexec (Cmp5.law l b A s.heap.size B3 o 0 len) hown (wks W (staticW U16 115 Cmp5.yN)) (wk W Cmp5.tab) (W := 0) (Nat.le_of_ble_eq_true rfl) (Nat.le_of_ble_eq_true rfl) (Nat.le_refl _) (by show 0 + len + 0 ≤ len; omega) (g := (mkF m 9 #[.val (.ref b), .val (.int (Int32.ofNat o)), .val (.int (Int32.ofNat len)), .val (.ref s.heap.size), .unset, .unset] [.int (Int32.ofNat len), .int (Int32.ofNat 0), .ref s.heap.size, .int (Int32.ofNat o), .ref b])) rfl (by rw [hml]; rfl) c5 (argsL := [.ref b, .int (Int32.ofNat o), .ref s.heap.size, .int (Int32.ofNat 0), .int (Int32.ofNat len)]) (rest := []) rfl rfl (by show 2 * 0 + 0 ≤ _; decide) (hb hbytes d9) (⟨rfl, hA3, ba3, hne, l1, by rw [bs3]; simp, hp⟩)
  obtain ⟨rfl, B6, p6, f6⟩ := E6
  have c7 : Steps p.tables e below (s₁.setTop (entryFrame m #[.ref b, .int (Int32.ofNat o), .int (Int32.ofNat len)] 6)) (T6.setTop (mkF m 12 #[.val (.ref b), .val (.int (Int32.ofNat o)), .val (.int (Int32.ofNat len)), .val (.ref s.heap.size), .unset, .unset] [.int (Int32.ofNat len)])) := g6
  have c8 : Steps p.tables e below (s₁.setTop (entryFrame m #[.ref b, .int (Int32.ofNat o), .int (Int32.ofNat len)] 6)) (T6.setTop (mkF m 58 #[.val (.ref b), .val (.int (Int32.ofNat o)), .val (.int (Int32.ofNat len)), .val (.ref s.heap.size), .val (.int (Int32.ofNat len)), .unset] [.ref s.heap.size])) := c7.trans (by
    refine XS.istore X6.here hexec rfl (hb hbytes d12) rfl rfl ?_
    refine XS.iload X6.here hexec rfl (hb hbytes d14) rfl ?_
    refine XS.iloadN X6.here hexec rfl (hb hbytes d16) rfl ?_
    refine XS.icmpYes X6.here hexec rfl (pc0 := 17) rfl (hb hbytes d17) rfl (ii_eq_t rfl) (by decide) rfl ?_
    refine XS.aloadN X6.here hexec rfl (hb hbytes d57) rfl rfl ?_
    exact Steps.refl _)
  have X8 := X6.wide (L' := []) (cells' := 1) (slots' := len) (fun x hx hlt => by
    simp only [List.nil_append, copyLocs, List.mem_map, List.mem_range] at hx
    obtain ⟨i, -, rfl⟩ := hx
    exact absurd hlt (Nat.lt_irrefl _)) (Nat.le_refl _) (by omega)
  exact ⟨T6, some (.ref s.heap.size), _, _, _, X8, rfl, rfl, rfl, (fun h => by cases h), ⟨⟨rfl, B6, ba3.like (X3.warmed.alike.symm.trans X6.warmed.alike) p6.1 f6.1 f6.2.1 f6.2.2.1, f6.2.1.trans bv3, by rw [X6.warmed.alike.findClass, f6.1]; exact bf3, by rw [f6.2.2.1, bs3]; simp, fun j hj => by rw [f6.2.2.2 j, if_pos (by omega)]; rfl, kp3.put p6 (Nat.le_refl _)⟩, by rw [p6.2.2, bh3, hh0]; simp⟩, fun fs hl => c8.trans (X8.areturnOut hexec rfl hret rfl (hb hbytes d58) hl)⟩
end Cmp3
namespace CodL
def yN : MethodName := ⟨"java/lang/StringUTF16", "coderFromArrayLen", "([BI)B"⟩
abbrev yB : ByteArray := jdk_52_method_15_code
theorem d0 : decode yB 0 = .ok (.iload_n 1, 1) := by decide +kernel
theorem d1 : decode yB 1 = .ok (.aload_n 0, 1) := by decide +kernel
theorem d2 : decode yB 2 = .ok (.arraylength, 1) := by decide +kernel
theorem d3 : decode yB 3 = .ok (.isub, 1) := by decide +kernel
theorem d4 : decode yB 4 = .ok (.bipush 31, 2) := by decide +kernel
theorem d6 : decode yB 6 = .ok (.iushr, 1) := by decide +kernel
theorem d7 : decode yB 7 = .ok (.i2b, 1) := by decide +kernel
theorem d8 : decode yB 8 = .ok (.ireturn, 1) := by decide +kernel
def site : List Cond := []
def tab : Cond := tabOf yN yB 2 (some .byte) site
def P (d : Addr) (B : Cell) (args : Array Value) (s : State) : Prop := args = #[.ref d, .int (Int32.ofNat B.slots.size)] ∧ Arr .byte d B s
def E (r : Option Value) (s u : State) : Prop := XT.PureE (some (.int 0)) r s u
/-- an array as long as the number of chars: LATIN1 -/
theorem law (l : Launch) (d : Addr) (B : Cell) : Law l yN 2 2 0 0 yB 2 (some .byte) site (P d B) E [] 0 0 := by
  refine Law.of_walk (plainFor_of_name (by decide +kernel)) (by decide +kernel) (by decide +kernel) (by decide) (fun _ _ h => by rw [h.1]; rfl) (fun _ U U' hal hh h => ⟨h.1, h.2.mv hal hh⟩) (fun r U U' V V' h1 hal h2 h => XT.PureE.mv r U U' V V' h1 hal h2 h) ?_
  intro p e s m args below meth c s₁ X0 hexec hbytes hml hret hlk hnm hown hh0 W hP
  obtain ⟨rfl, hB⟩ := hP
  have hB0 := hB.mv X0.warmed.alike hh0
  have c1 : Steps p.tables e below (s₁.setTop (entryFrame m #[.ref d, .int (Int32.ofNat B.slots.size)] 2)) (s₁.setTop (mkF m 0 #[.val (.ref d), .val (.int (Int32.ofNat B.slots.size))] [])) := entry rfl
  have c2 : Steps p.tables e below (s₁.setTop (entryFrame m #[.ref d, .int (Int32.ofNat B.slots.size)] 2)) (s₁.setTop (mkF m 2 #[.val (.ref d), .val (.int (Int32.ofNat B.slots.size))] [.ref d, .int (Int32.ofNat B.slots.size)])) := c1.trans (by
    refine XS.iloadN X0.here hexec rfl (hb hbytes d0) rfl ?_
    refine XS.aloadN X0.here hexec rfl (hb hbytes d1) rfl rfl ?_
    exact Steps.refl _)
  have c3 : Steps p.tables e below (s₁.setTop (entryFrame m #[.ref d, .int (Int32.ofNat B.slots.size)] 2)) (s₁.setTop (mkF m 8 #[.val (.ref d), .val (.int (Int32.ofNat B.slots.size))] [.int (lo8 (ushr (Int32.ofNat B.slots.size - Int32.ofNat B.slots.size) 31))])) := c2.trans (by
    refine X0.alen hexec hB0 rfl rfl (hb hbytes d2) ?_
    refine XS.isub X0.here hexec rfl (hb hbytes d3) rfl ?_
    refine bipushV X0.here hexec rfl 31 (hb hbytes d4) (by decide) ?_
    refine iushr X0.here hexec rfl (hb hbytes d6) rfl ?_
    refine i2b X0.here hexec rfl (hb hbytes d7) rfl ?_
    exact Steps.refl _)
  have e0 : lo8 (ushr (Int32.ofNat B.slots.size - Int32.ofNat B.slots.size) 31) = 0 := by rw [Int32.sub_self]; decide
  rw [e0] at c3
  exact ⟨s₁, some (.int 0), _, _, _, X0, rfl, rfl, rfl, (fun h => by cases h), ⟨rfl, hh0⟩, fun fs hl => c3.trans (X0.ireturnOut hexec hret rfl (Or.inr (Or.inr (Or.inl rfl))) (hb hbytes d8) hl)⟩
end CodL
/-- the String at a is Latin-1 over a new byte[] (the heap's one new cell): the low bytes of the len chars of A from o on; every cell but a is kept -/
def Got (a : Addr) (D : Cell) (fV fC : Field) (A : Cell) (o len : Nat) (r : Option Value) (s u : State) : Prop := r = none ∧ ∃ D' V : Cell, Blank "java/lang/String" a D' u ∧ Same D D' [fV.slot, fC.slot] ∧ D'.slots[fV.slot]? = some (.ref s.heap.size) ∧ D'.slots[fC.slot]? = some (.int 0) ∧ Arr .byte s.heap.size V u ∧ V.vm = .none ∧ u.vm.findClass "[B" = some V.cls ∧ V.slots.size = len ∧ (∀ j, j < len → V.slots[j]? = some (.int (lo8 (cv A (o + j))))) ∧ (∀ (y : Addr) (c : Cell), y ≠ a → s.heap[y]? = some c → u.heap[y]? = some c) ∧ u.heap.size = s.heap.size + 1
theorem Got.mv {a : Addr} {D A : Cell} {fV fC : Field} {o len : Nat} : ∀ r (U U' V V' : State), U'.heap = U.heap → V.vm.Alike V'.vm → V'.heap = V.heap → Got a D fV fC A o len r U V → Got a D fV fC A o len r U' V' :=
  fun r U U' V V' h1 hal h2 ⟨e0, D', X, a1, a2, a3, a4, a5, a6, a7, a8, a9, a10, a11⟩ => ⟨e0, D', X, a1.mv hal h2, a2, by rw [h1]; exact a3, a4, by rw [h1]; exact a5.mv hal h2, a6, by rw [hal.findClass]; exact a7, a8, a9, by rw [h1, h2]; exact a10, by rw [h1, h2]; exact a11⟩
namespace New4
def yN : MethodName := ⟨"java/lang/String", "<init>", "([CIILjava/lang/Void;)V"⟩
abbrev yB : ByteArray := jdk_42_method_149_code
theorem d0 : decode yB 0 = .ok (.aload_n 0, 1) := by decide +kernel
theorem d1 : decode yB 1 = .ok (.invokespecial 1, 3) := by decide +kernel
theorem d4 : decode yB 4 = .ok (.iload_n 3, 1) := by decide +kernel
theorem d5 : decode yB 5 = .ok (.ifCond (.ne) 22, 3) := by decide +kernel
theorem d27 : decode yB 27 = .ok (.getstatic 38, 3) := by decide +kernel
theorem d30 : decode yB 30 = .ok (.ifCond (.eq) 28, 3) := by decide +kernel
theorem d33 : decode yB 33 = .ok (.aload_n 1, 1) := by decide +kernel
theorem d34 : decode yB 34 = .ok (.iload_n 2, 1) := by decide +kernel
theorem d35 : decode yB 35 = .ok (.iload_n 3, 1) := by decide +kernel
theorem d36 : decode yB 36 = .ok (.invokestatic 177, 3) := by decide +kernel
theorem d39 : decode yB 39 = .ok (.astore 5, 2) := by decide +kernel
theorem d41 : decode yB 41 = .ok (.aload_n 0, 1) := by decide +kernel
theorem d42 : decode yB 42 = .ok (.aload 5, 2) := by decide +kernel
theorem d44 : decode yB 44 = .ok (.iload_n 3, 1) := by decide +kernel
theorem d45 : decode yB 45 = .ok (.invokestatic 47, 3) := by decide +kernel
theorem d48 : decode yB 48 = .ok (.putfield 15, 3) := by decide +kernel
theorem d51 : decode yB 51 = .ok (.aload_n 0, 1) := by decide +kernel
theorem d52 : decode yB 52 = .ok (.aload 5, 2) := by decide +kernel
theorem d54 : decode yB 54 = .ok (.putfield 9, 3) := by decide +kernel
theorem d57 : decode yB 57 = .ok (.return_, 1) := by decide +kernel
def site : List Cond := [.fieldLink "java/lang/String" 38 "java/lang/String" "COMPACT_STRINGS" "Z", Cmp3.tab, CodL.tab, .laysFinal "java/lang/String" "java/lang/String" "value" "[B", .fieldLink "java/lang/String" 9 "java/lang/String" "value" "[B", .laysFinal "java/lang/String" "java/lang/String" "coder" "B", .fieldLink "java/lang/String" 15 "java/lang/String" "coder" "B"] ++ objW "java/lang/String" 1 ++ staticW "java/lang/String" 177 Cmp3.yN ++ staticW "java/lang/String" 47 CodL.yN
def tab : Cond := tabOf yN yB 6 none site
def P (a : Addr) (D : Cell) (fV fC : Field) (b : Addr) (A : Cell) (z : Int32) (o len : Nat) (args : Array Value) (s : State) : Prop := args = #[.ref a, .ref b, .int (Int32.ofNat o), .int (Int32.ofNat len), .null] ∧ Blank "java/lang/String" a D s ∧ Found "java/lang/String" "value" "[B" fV s ∧ Found "java/lang/String" "coder" "B" fC s ∧ Ch b A s ∧ StaticIs s "java/lang/String" "COMPACT_STRINGS" "Z" (.int z) ∧ ¬ z = 0 ∧ 0 < len ∧ o + len ≤ A.slots.size ∧ len ≤ 536870912 ∧ ∀ i, i < len → ¬ 255 < cv A (o + i)
def E (a : Addr) (D : Cell) (fV fC : Field) (A : Cell) (o len : Nat) (r : Option Value) (s u : State) : Prop := Got a D fV fC A o len r s u
/-- len > 0, no char of the range above 255: a Latin-1 String of their low bytes -/
theorem law (l : Launch) (a : Addr) (D : Cell) (fV fC : Field) (b : Addr) (A : Cell) (z : Int32) (o len : Nat) : Law l yN 5 4 2 35 yB 6 none site (P a D fV fC b A z o len) (E a D fV fC A o len) [⟨a, fC.slot⟩, ⟨a, fV.slot⟩] 1 len := by
  refine Law.of_walk (plainFor_of_name (by decide +kernel)) (by decide +kernel) (by decide +kernel) (by decide) (fun _ _ h => by rw [h.1]; rfl) (fun _ U U' hal hh h => ⟨h.1, h.2.1.mv hal hh, h.2.2.1.al hal, h.2.2.2.1.al hal, h.2.2.2.2.1.mv hal hh, h.2.2.2.2.2.1.there hal hh, h.2.2.2.2.2.2⟩) (fun r U U' V V' h1 hal h2 h => Got.mv r U U' V V' h1 hal h2 h) ?_
  intro p e s m args below meth c s₁ X0 hexec hbytes hml hret hlk hnm hown hh0 W hP
  obtain ⟨rfl, hB, f1, f2, hA, s1, hz, l0, l1, l2, hp⟩ := hP
  have a31 := hA.1.2.2.2
  have c1 : Steps p.tables e below (s₁.setTop (entryFrame m #[.ref a, .ref b, .int (Int32.ofNat o), .int (Int32.ofNat len), .null] 6)) (s₁.setTop (mkF m 0 #[.val (.ref a), .val (.ref b), .val (.int (Int32.ofNat o)), .val (.int (Int32.ofNat len)), .val .null, .unset] [])) := entry rfl
  have c2 : Steps p.tables e below (s₁.setTop (entryFrame m #[.ref a, .ref b, .int (Int32.ofNat o), .int (Int32.ofNat len), .null] 6)) (s₁.setTop (mkF m 1 #[.val (.ref a), .val (.ref b), .val (.int (Int32.ofNat o)), .val (.int (Int32.ofNat len)), .val .null, .unset] [.ref a])) := c1.trans (by
    refine XS.aloadN X0.here hexec rfl (hb hbytes d0) rfl rfl ?_
    exact Steps.refl _)
  obtain ⟨T3, X3, q3, st3⟩ := X0.oinit hexec hown (wks W (objW "java/lang/String" 1)) (g := (mkF m 1 #[.val (.ref a), .val (.ref b), .val (.int (Int32.ofNat o)), .val (.int (Int32.ofNat len)), .val .null, .unset] [.ref a])) rfl (by rw [hml]; rfl) (rest := []) rfl (hb hbytes d1) (W := 0) (by show 2 * 0 + 0 ≤ _; decide) (Nat.le_of_ble_eq_true rfl) (Nat.le_of_ble_eq_true rfl)
  have hh3 := q3.trans hh0
  have c4 : Steps p.tables e below (s₁.setTop (entryFrame m #[.ref a, .ref b, .int (Int32.ofNat o), .int (Int32.ofNat len), .null] 6)) (T3.setTop (mkF m 27 #[.val (.ref a), .val (.ref b), .val (.int (Int32.ofNat o)), .val (.int (Int32.ofNat len)), .val .null, .unset] [])) := (c2.trans (st3 _ (Steps.refl _))).trans (by
    refine XS.iloadN X3.here hexec rfl (hb hbytes d4) rfl ?_
    refine XS.ifYes X3.here hexec rfl (pc0 := 5) rfl (hb hbytes d5) rfl (i0_ne_t (nz32 (by omega) l0)) (by decide) rfl ?_
    exact Steps.refl _)
  obtain ⟨T5, X5, q5, st5⟩ := X3.sget hexec hown (wk W (.fieldLink "java/lang/String" 38 "java/lang/String" "COMPACT_STRINGS" "Z")) s1 (fun _ _ h => by rw [hh3]; exact h) (g := (mkF m 27 #[.val (.ref a), .val (.ref b), .val (.int (Int32.ofNat o)), .val (.int (Int32.ofNat len)), .val .null, .unset] [])) rfl (hb hbytes d27)
  have hh5 := q5.trans hh3
  have c6 : Steps p.tables e below (s₁.setTop (entryFrame m #[.ref a, .ref b, .int (Int32.ofNat o), .int (Int32.ofNat len), .null] 6)) (T5.setTop (mkF m 30 #[.val (.ref a), .val (.ref b), .val (.int (Int32.ofNat o)), .val (.int (Int32.ofNat len)), .val .null, .unset] [.int z])) := c4.trans (st5 _ (Steps.refl _))
  have c7 : Steps p.tables e below (s₁.setTop (entryFrame m #[.ref a, .ref b, .int (Int32.ofNat o), .int (Int32.ofNat len), .null] 6)) (T5.setTop (mkF m 36 #[.val (.ref a), .val (.ref b), .val (.int (Int32.ofNat o)), .val (.int (Int32.ofNat len)), .val .null, .unset] [.int (Int32.ofNat len), .int (Int32.ofNat o), .ref b])) := c6.trans (by
    refine XS.ifNo X5.here hexec rfl (hb hbytes d30) rfl (i0_eq_f hz) ?_
    refine XS.aloadN X5.here hexec rfl (hb hbytes d33) rfl rfl ?_
    refine XS.iloadN X5.here hexec rfl (hb hbytes d34) rfl ?_
    refine XS.iloadN X5.here hexec rfl (hb hbytes d35) rfl ?_
    exact Steps.refl _)
  obtain ⟨v8, T8, X8, E8, g8⟩ := X5.callS hexec (Cmp3.law l b A o len) hown (wks W (staticW "java/lang/String" 177 Cmp3.yN)) (wk W Cmp3.tab) (W := 0) (Nat.le_of_ble_eq_true rfl) (Nat.le_of_ble_eq_true rfl) (Nat.le_refl _) (by show 0 + len ≤ len; omega) (g := (mkF m 36 #[.val (.ref a), .val (.ref b), .val (.int (Int32.ofNat o)), .val (.int (Int32.ofNat len)), .val .null, .unset] [.int (Int32.ofNat len), .int (Int32.ofNat o), .ref b])) rfl (by rw [hml]; rfl) c7 (argsL := [.ref b, .int (Int32.ofNat o), .int (Int32.ofNat len)]) (rest := []) rfl rfl (by show 2 * 0 + 0 ≤ _; decide) (hb hbytes d36) (⟨rfl, hA.mv X5.warmed.alike hh5, l1, l2, hp⟩)
  obtain ⟨e8, z8⟩ := E8
  obtain ⟨rfl, N, n1, n2, n3, n4, n5, n6⟩ := NewArr.mv _ T5 s _ _ hh5.symm (Vm.Alike.refl _) rfl e8
  rw [hh5] at z8
  have hB1 := hB.keep X8.warmed.alike (n6 _ _ hB.1)
  have hne : s.heap.size ≠ a := (Nat.ne_of_lt (Array.getElem?_eq_some_iff.mp hB.1).1).symm
  have c9 : Steps p.tables e below (s₁.setTop (entryFrame m #[.ref a, .ref b, .int (Int32.ofNat o), .int (Int32.ofNat len), .null] 6)) (T8.setTop (mkF m 39 #[.val (.ref a), .val (.ref b), .val (.int (Int32.ofNat o)), .val (.int (Int32.ofNat len)), .val .null, .unset] [.ref s.heap.size])) := g8
  have c10 : Steps p.tables e below (s₁.setTop (entryFrame m #[.ref a, .ref b, .int (Int32.ofNat o), .int (Int32.ofNat len), .null] 6)) (T8.setTop (mkF m 45 #[.val (.ref a), .val (.ref b), .val (.int (Int32.ofNat o)), .val (.int (Int32.ofNat len)), .val .null, .val (.ref s.heap.size)] [.int (Int32.ofNat N.slots.size), .ref s.heap.size, .ref a])) := by
    have hc : Steps p.tables e below (s₁.setTop (entryFrame m #[.ref a, .ref b, .int (Int32.ofNat o), .int (Int32.ofNat len), .null] 6)) (T8.setTop (mkF m 45 #[.val (.ref a), .val (.ref b), .val (.int (Int32.ofNat o)), .val (.int (Int32.ofNat len)), .val .null, .val (.ref s.heap.size)] [.int (Int32.ofNat len), .ref s.heap.size, .ref a])) := c9.trans (by
      refine XS.astore X8.here hexec rfl (hb hbytes d39) rfl rfl rfl ?_
      refine XS.aloadN X8.here hexec rfl (hb hbytes d41) rfl rfl ?_
      refine XS.aload X8.here hexec rfl (hb hbytes d42) rfl rfl ?_
      refine XS.iloadN X8.here hexec rfl (hb hbytes d44) rfl ?_
      exact Steps.refl _)
    rw [n4]; exact hc
  obtain ⟨v11, T11, X11, E11, g11⟩ := X8.callS hexec (CodL.law l s.heap.size N) hown (wks W (staticW "java/lang/String" 47 CodL.yN)) (wk W CodL.tab) (W := 1) (Nat.le_of_ble_eq_true rfl) (Nat.le_of_ble_eq_true rfl) (Nat.le_refl _) (by show 0 + len + 0 ≤ len; omega) (g := (mkF m 45 #[.val (.ref a), .val (.ref b), .val (.int (Int32.ofNat o)), .val (.int (Int32.ofNat len)), .val .null, .val (.ref s.heap.size)] [.int (Int32.ofNat N.slots.size), .ref s.heap.size, .ref a])) rfl (by rw [hml]; rfl) c10 (argsL := [.ref s.heap.size, .int (Int32.ofNat N.slots.size)]) (rest := [.ref a]) rfl rfl (by show 2 * 0 + (1 + 0) ≤ _; decide) (hb hbytes d45) (⟨rfl, n1⟩)
  obtain ⟨rfl, q11⟩ := E11
  have hB11 := hB1.mv (X8.warmed.alike.symm.trans X11.warmed.alike) q11
  have c12 : Steps p.tables e below (s₁.setTop (entryFrame m #[.ref a, .ref b, .int (Int32.ofNat o), .int (Int32.ofNat len), .null] 6)) (T11.setTop (mkF m 48 #[.val (.ref a), .val (.ref b), .val (.int (Int32.ofNat o)), .val (.int (Int32.ofNat len)), .val .null, .val (.ref s.heap.size)] [.int 0, .ref a])) := g11
  obtain ⟨T13, X13, p13, bl13, sl13, st13⟩ := X11.finit hexec hown (wk W (.fieldLink "java/lang/String" 15 "java/lang/String" "coder" "B")) (Or.inr ⟨_, (wk W (.laysFinal "java/lang/String" "java/lang/String" "coder" "B"))⟩) (Or.inl ⟨rfl, hnm⟩) f2 (Or.inl rfl) hB11 (t := .byte) (by decide +kernel) rfl (g := (mkF m 48 #[.val (.ref a), .val (.ref b), .val (.int (Int32.ofNat o)), .val (.int (Int32.ofNat len)), .val .null, .val (.ref s.heap.size)] [.int 0, .ref a])) rfl (rest := []) rfl (hb hbytes d48)
  have c14 : Steps p.tables e below (s₁.setTop (entryFrame m #[.ref a, .ref b, .int (Int32.ofNat o), .int (Int32.ofNat len), .null] 6)) (T13.setTop (mkF m 54 #[.val (.ref a), .val (.ref b), .val (.int (Int32.ofNat o)), .val (.int (Int32.ofNat len)), .val .null, .val (.ref s.heap.size)] [.ref s.heap.size, .ref a])) := (c12.trans (st13 _ (Steps.refl _))).trans (by
    refine XS.aloadN X13.here hexec rfl (hb hbytes d51) rfl rfl ?_
    refine XS.aload X13.here hexec rfl (hb hbytes d52) rfl rfl ?_
    exact Steps.refl _)
  obtain ⟨T15, X15, p15, bl15, sl15, st15⟩ := X13.finit hexec hown (wk W (.fieldLink "java/lang/String" 9 "java/lang/String" "value" "[B")) (Or.inr ⟨_, (wk W (.laysFinal "java/lang/String" "java/lang/String" "value" "[B"))⟩) (Or.inl ⟨rfl, hnm⟩) f1 (Or.inl rfl) bl13 (t := (.array .byte)) (by decide +kernel) rfl (g := (mkF m 54 #[.val (.ref a), .val (.ref b), .val (.int (Int32.ofNat o)), .val (.int (Int32.ofNat len)), .val .null, .val (.ref s.heap.size)] [.ref s.heap.size, .ref a])) rfl (rest := []) rfl (hb hbytes d54)
  have c16 : Steps p.tables e below (s₁.setTop (entryFrame m #[.ref a, .ref b, .int (Int32.ofNat o), .int (Int32.ofNat len), .null] 6)) (T15.setTop (mkF m 57 #[.val (.ref a), .val (.ref b), .val (.int (Int32.ofNat o)), .val (.int (Int32.ofNat len)), .val .null, .val (.ref s.heap.size)] [])) := c14.trans (st15 _ (Steps.refl _))
  have ap := apart (Or.inr ⟨_, (wk W (.laysFinal "java/lang/String" "java/lang/String" "value" "[B"))⟩) (Or.inr ⟨_, (wk W (.laysFinal "java/lang/String" "java/lang/String" "coder" "B"))⟩) f1 f2 (t₁ := .array .byte) (t₂ := .byte) (by decide +kernel) (by decide +kernel) (by decide)
  have al := X8.warmed.alike.symm.trans X15.warmed.alike
  have n7 : T11.heap[s.heap.size]? = some N := by rw [q11]; exact n1.1
  exact ⟨T15, none, _, _, _, X15, by simp, rfl, by omega, (fun _ => rfl), ⟨rfl, _, N, bl15, ((Same.refl D _).set _ (by simp)).set _ (by simp), sl15, (Cell.slots_setSlot_ne _ ap).trans sl13, n1.keep al (p15.other hne (p13.other hne n7)), n2, by rw [al.findClass]; exact n3, n4, n5, fun y c h1 h2 => p15.other h1 (p13.other h1 (by rw [q11]; exact n6 y c h2)), by rw [p15.2.2, p13.2.2, q11]; exact z8⟩, fun fs hl => c16.trans (X15.returnOut hexec hret (hb hbytes d57) hl)⟩
end New4
namespace New1
def yN : MethodName := ⟨"java/lang/String", "<init>", "([C)V"⟩
abbrev yB : ByteArray := jdk_42_method_3_code
theorem d0 : decode yB 0 = .ok (.aload_n 0, 1) := by decide +kernel
theorem d1 : decode yB 1 = .ok (.aload_n 1, 1) := by decide +kernel
theorem d2 : decode yB 2 = .ok (.iconst 0, 1) := by decide +kernel
theorem d3 : decode yB 3 = .ok (.aload_n 1, 1) := by decide +kernel
theorem d4 : decode yB 4 = .ok (.arraylength, 1) := by decide +kernel
theorem d5 : decode yB 5 = .ok (.aconst_null, 1) := by decide +kernel
theorem d6 : decode yB 6 = .ok (.invokespecial 27, 3) := by decide +kernel
theorem d9 : decode yB 9 = .ok (.return_, 1) := by decide +kernel
def site : List Cond := [New4.tab] ++ initW "java/lang/String" 27 New4.yN
def tab : Cond := tabOf yN yB 2 none site
def P (a : Addr) (D : Cell) (fV fC : Field) (b : Addr) (A : Cell) (z : Int32) (args : Array Value) (s : State) : Prop := args = #[.ref a, .ref b] ∧ Blank "java/lang/String" a D s ∧ Found "java/lang/String" "value" "[B" fV s ∧ Found "java/lang/String" "coder" "B" fC s ∧ Ch b A s ∧ StaticIs s "java/lang/String" "COMPACT_STRINGS" "Z" (.int z) ∧ ¬ z = 0 ∧ 0 < A.slots.size ∧ A.slots.size ≤ 536870912 ∧ ∀ i, i < A.slots.size → ¬ 255 < cv A i
def E (a : Addr) (D : Cell) (fV fC : Field) (A : Cell) (r : Option Value) (s u : State) : Prop := Got a D fV fC A 0 A.slots.size r s u
/-- new String(chars), not empty, no char above 255: a Latin-1 String of their low bytes -/
theorem law (l : Launch) (a : Addr) (D : Cell) (fV fC : Field) (b : Addr) (A : Cell) (z : Int32) : Law l yN 2 1 3 52 yB 2 none site (P a D fV fC b A z) (E a D fV fC A) [⟨a, fC.slot⟩, ⟨a, fV.slot⟩] 1 A.slots.size := by
  refine Law.of_walk (plainFor_of_name (by decide +kernel)) (by decide +kernel) (by decide +kernel) (by decide) (fun _ _ h => by rw [h.1]; rfl) (fun _ U U' hal hh h => ⟨h.1, h.2.1.mv hal hh, h.2.2.1.al hal, h.2.2.2.1.al hal, h.2.2.2.2.1.mv hal hh, h.2.2.2.2.2.1.there hal hh, h.2.2.2.2.2.2⟩) (fun r U U' V V' h1 hal h2 h => Got.mv r U U' V V' h1 hal h2 h) ?_
  intro p e s m args below meth c s₁ X0 hexec hbytes hml hret hlk hnm hown hh0 W hP
  obtain ⟨rfl, hB, f1, f2, hA, s1, hz, l0, l2, hp⟩ := hP
  have c1 : Steps p.tables e below (s₁.setTop (entryFrame m #[.ref a, .ref b] 2)) (s₁.setTop (mkF m 0 #[.val (.ref a), .val (.ref b)] [])) := entry rfl
  have c2 : Steps p.tables e below (s₁.setTop (entryFrame m #[.ref a, .ref b] 2)) (s₁.setTop (mkF m 6 #[.val (.ref a), .val (.ref b)] [.null, .int (Int32.ofNat A.slots.size), .int 0, .ref b, .ref a])) := c1.trans (by
    refine XS.aloadN X0.here hexec rfl (hb hbytes d0) rfl rfl ?_
    refine XS.aloadN X0.here hexec rfl (hb hbytes d1) rfl rfl ?_
    refine iconstV X0.here hexec rfl 0 (hb hbytes d2) (by decide) ?_
    refine XS.aloadN X0.here hexec rfl (hb hbytes d3) rfl rfl ?_
    refine X0.alen hexec (hA.1.mv X0.warmed.alike hh0) rfl rfl (hb hbytes d4) ?_
    refine XS.aconstNull X0.here hexec rfl (hb hbytes d5) ?_
    exact Steps.refl _)
  obtain ⟨v3, T3, X3, E3, g3⟩ := X0.callN hexec (New4.law l a D fV fC b A z 0 A.slots.size) rfl hown (wks W (initW "java/lang/String" 27 New4.yN)) (W New4.tab (by simp only [site, List.mem_cons, List.mem_append, true_or, or_true])) (W := 0) (Nat.le_of_ble_eq_true rfl) (Nat.le_of_ble_eq_true rfl) (Nat.le_refl _) (by show 0 + A.slots.size ≤ A.slots.size; omega) (g := (mkF m 6 #[.val (.ref a), .val (.ref b)] [.null, .int (Int32.ofNat A.slots.size), .int (Int32.ofNat 0), .ref b, .ref a])) rfl (by rw [hml]; rfl) c2 (argsL := [.ref b, .int (Int32.ofNat 0), .int (Int32.ofNat A.slots.size), .null]) (rest := []) rfl rfl (by show 2 * 0 + 0 ≤ _; decide) (hb hbytes d6) (⟨rfl, hB.mv X0.warmed.alike hh0, f1.al X0.warmed.alike, f2.al X0.warmed.alike, hA.mv X0.warmed.alike hh0, s1.there X0.warmed.alike hh0, hz, l0, by omega, l2, fun i hi => by rw [Nat.zero_add]; exact hp i hi⟩)
  have e0 := Got.mv _ s₁ s _ _ hh0.symm (Vm.Alike.refl _) rfl E3
  obtain rfl := e0.1
  have c4 : Steps p.tables e below (s₁.setTop (entryFrame m #[.ref a, .ref b] 2)) (T3.setTop (mkF m 9 #[.val (.ref a), .val (.ref b)] [])) := g3
  exact ⟨T3, none, _, _, _, X3, by simp, rfl, by omega, (fun _ => rfl), e0, fun fs hl => c4.trans (X3.returnOut hexec hret (hb hbytes d9) hl)⟩
theorem pays {l : Launch} {R : Room} {p : Program} {e : Env} {below : List Frame} {s : State} {sargs : Array Value} {len W : Nat} (a : Addr) (D : Cell) (fV fC : Field) (b : Addr) (A : Cell) (z : Int32) (htab : tab.before sargs s = true) (hfr : 4 ≤ R.frames) (hlo : W + 65 ≤ R.locals) :
    Back l R p e below s sargs yN len W (fun A₁ a₁ => A₁.cells + 1 ≤ R.cells ∧ A₁.slots + A.slots.size ≤ R.slots ∧ P a D fV fC b A z a₁ A₁.U) (fun A₁ _ v₁ B₁ => E a D fV fC A v₁ A₁.U B₁.U ∧ B₁.locs = A₁.locs ++ [⟨a, fC.slot⟩, ⟨a, fV.slot⟩] ∧ B₁.cells = A₁.cells + 1 ∧ B₁.slots = A₁.slots + A.slots.size) :=
  (law l a D fV fC b A z).pays htab hfr (by omega)
end New1
/-- the byte, read back as charAt reads it, is the char -/
theorem lo8_mask {x : Int32} (h0 : ¬ x < 0) (h1 : ¬ 255 < x) : lo8 x &&& 255 = x := by
  have t : ∀ k : Fin 256, lo8 (Int32.ofNat k.val) &&& 255 = Int32.ofNat k.val := by decide +kernel
  rw [Int32.lt_iff_toInt_lt] at h0 h1
  have e0 : (0 : Int32).toInt = 0 := rfl
  have e1 : (255 : Int32).toInt = 255 := rfl
  obtain ⟨k, hk⟩ : ∃ k : Nat, x.toInt = k := ⟨x.toInt.toNat, by omega⟩
  have hx : x = Int32.ofNat k := Int32.toInt_inj.mp (by rw [hk, Int32.toInt_ofNat_small (by omega)])
  rw [hx]
  exact t ⟨k, by omega⟩
end StrChars
namespace StrChars.Road
open Jvm Sem ClassFile Op Lib Jvm.Stand Jvm.Free Jvm.Free.XT
open Jvm.Lib.Cold (StaticIs)
abbrev ST : String := "java/lang/String"
/-- every table word that New1's law asks, flat -/
abbrev words : List Jvm.Cond := [.code New1.yN New1.yB 2 none, .initialized ST, .methodLink ST 27 New4.yN, .instanceMethod New4.yN,
  .code New4.yN New4.yB 6 none, .fieldLink ST 38 ST "COMPACT_STRINGS" "Z", .laysFinal ST ST "value" "[B", .fieldLink ST 9 ST "value" "[B", .laysFinal ST ST "coder" "B", .fieldLink ST 15 ST "coder" "B",
  .methodLink ST 1 Lib.objectInit, .instanceMethod Lib.objectInit, .code Lib.objectInit ⟨#[0xb1]⟩ 1 none, .methodLink ST 177 Cmp3.yN, .static Cmp3.yN, .methodLink ST 47 CodL.yN, .static CodL.yN,
  .code Cmp3.yN Cmp3.yB 6 (some (.array .byte)), .initialized U16, .arrayClass .byte, .methodLink U16 115 Cmp5.yN, .static Cmp5.yN, .code Cmp5.yN Cmp5.yB 7 (some .int), .code CodL.yN CodL.yB 2 (some .byte)]
theorem tab_of {a : Array Value} {s : State} (h : ∀ w ∈ words, w.before a s = true) : New1.tab.before a s = true := by
  have h5 : Cmp5.tab.before a s = true := unparts (wk h (.code Cmp5.yN Cmp5.yB 7 (some .int))) (wks h (.initialized Cmp5.yN.cls :: Cmp5.site))
  have hc : CodL.tab.before a s = true := unparts (wk h (.code CodL.yN CodL.yB 2 (some .byte))) (wks h (.initialized CodL.yN.cls :: CodL.site))
  have q5 : ∀ w ∈ Cmp5.tab :: words, w.before a s = true := fun w hw => (List.mem_cons.mp hw).elim (fun e => e ▸ h5) (h w)
  have h3 : Cmp3.tab.before a s = true := unparts (wk q5 (.code Cmp3.yN Cmp3.yB 6 (some (.array .byte)))) (wks q5 (.initialized Cmp3.yN.cls :: Cmp3.site))
  have q3 : ∀ w ∈ Cmp3.tab :: CodL.tab :: words, w.before a s = true := fun w hw => (List.mem_cons.mp hw).elim (fun e => e ▸ h3) fun hw => (List.mem_cons.mp hw).elim (fun e => e ▸ hc) (h w)
  have h4 : New4.tab.before a s = true := unparts (wk q3 (.code New4.yN New4.yB 6 none)) (wks q3 (.initialized New4.yN.cls :: New4.site))
  have q4 : ∀ w ∈ New4.tab :: words, w.before a s = true := fun w hw => (List.mem_cons.mp hw).elim (fun e => e ▸ h4) (h w)
  exact unparts (wk q4 (.code New1.yN New1.yB 2 none)) (wks q4 (.initialized New1.yN.cls :: New1.site))
/-- the words ride from the start Z to the walk's own state -/
theorem moved {Z s : State} {a0 args : Array Value} (hZ : Z.Warmed39 s.vm) (hw : ∀ d ∈ words, d.before a0 Z = true) : ∀ d ∈ words, d.before args s = true := fun d hd => by
  have q := hw d hd
  have t : ∀ d ∈ words, d = .arrayClass .byte ∨ (d.onTables && d.keepsFace) = true := by decide +kernel
  rcases t d hd with rfl | t
  · exact RoadKit.mvA hZ q
  · exact RoadKit.mv hZ q t
/-- WHAT COMES BACK, over the tables of the start Z: h the heap at the call, h' behind it -/
def Q (Z : State) (x : Addr) (A : Cell) (h : Heap) (v : Option Value) (h' : Heap) (L : List Loc) : Prop := v = none ∧ (∀ y ∈ L, y.base = x) ∧ RoadKit.Keep h h' [x] ∧ h'.size = h.size + 1 ∧ RoadKit.Exa Z h' x ST ∧ RoadKit.Fld Z h' x ST "value" "[B" (.ref h.size) ∧ RoadKit.Fld Z h' x ST "coder" "B" (.int 0) ∧
  (∃ V : Cell, RoadKit.Arr Z h' h.size V .byte ∧ V.vm = .none ∧ Z.vm.findClass "[B" = some V.cls ∧ V.slots.size = A.slots.size ∧ ∀ j, j < A.slots.size → V.slots[j]? = some (.int (lo8 (cv A j)))) ∧
  ∀ (O n d : String) (w : Value), RoadKit.Fld Z h x O n d w → RoadKit.slotOf Z O n d ≠ RoadKit.slotOf Z ST "value" "[B" → RoadKit.slotOf Z O n d ≠ RoadKit.slotOf Z ST "coder" "B" → RoadKit.Fld Z h' x O n d w
/-- **new String(chars) AT A CALL, IN THE ROAD'S FORM**: for specialBack behind newO: x the fresh String, b the char[] with the cell A -/
theorem back {p : Program} {l : Launch} {e : Env} {R : Room} {s : State} {args : Array Value} {below : List Frame} {len W : Nat} {Z : State} {a0 : Array Value} {h : Heap} (hZ : Z.Warmed39 s.vm) (hw : ∀ d ∈ words, d.before a0 Z = true) {kI : Nat} (wi : (Jvm.Cond.instantiable ST kI).before a0 Z = true)
    {x b : Addr} {A : Cell} {z : Int32} {v0 c0 : Value} (E : RoadKit.Exa Z h x ST) (V : RoadKit.Fld Z h x ST "value" "[B" v0) (C : RoadKit.Fld Z h x ST "coder" "B" c0) (K : RoadKit.Arr Z h b A .char) (hty : Typed .char A) (S : RoadKit.Sta Z h ST "COMPACT_STRINGS" "Z" (.int z)) (hz : ¬ z = 0)
    (l0 : 0 < A.slots.size) (l2 : A.slots.size ≤ 536870912) (hp : ∀ i, i < A.slots.size → ¬ 255 < cv A i) (hfr : 4 ≤ R.frames) (hlo : W + 65 ≤ R.locals) :
    Back l R p e below s args New1.yN len W (fun P a => a = #[.ref x, .ref b] ∧ P.U.heap = h ∧ P.cells + 1 ≤ R.cells ∧ P.slots + A.slots.size ≤ R.slots)
      (fun P _ v B => ∃ L, Q Z x A h v B.U.heap L ∧ B.locs = P.locs ++ L ∧ B.cells = P.cells + 1 ∧ B.slots = P.slots + A.slots.size) := by
  intro m meth c P g ig mk a X hg hsize hdg hW hn hp'
  obtain ⟨rfl, rfl, r1, r2⟩ := hp'
  have al : Z.vm.Alike P.U.vm := hZ.alike.trans X.warmed.alike
  obtain ⟨D, cfV, kV, iV, fV, hD, gV, stV, knV, obV, asV, slV⟩ := id V
  obtain ⟨D', cfC, kC, iC, fC, hD', gC, stC, -, -, asC, slC⟩ := id C
  cases hD.symm.trans hD'
  obtain ⟨D2, kD, e1, e2, e3, e4, e5⟩ := id E
  cases hD.symm.trans e1
  obtain ⟨c2, k2, i1, i2, i3, -⟩ := Cond.instantiable_spec wi
  cases e2.symm.trans i1
  cases e3.symm.trans i2
  obtain ⟨kU, u1, u2⟩ := al.2.2 _ _ e3
  have hB : Blank ST x D P.U := ⟨hD, ⟨knV, fun q hq => by rw [hq] at obV; cases obV⟩, by rw [al.findClass]; exact e2, kU, u1, by rw [u2]; exact i3, by rw [u2]; exact e5 i3⟩
  have F1 : Found ST "value" "[B" fV P.U := ⟨SBG.found_only al ⟨cfV, kV, iV, gV⟩, stV⟩
  have F2 : Found ST "coder" "B" fC P.U := ⟨SBG.found_only al ⟨cfC, kC, iC, gC⟩, stC⟩
  have hA : Ch b A P.U := ⟨⟨K.1, State.isArrayOf_alike al K.2.1, K.2.2, by omega⟩, hty⟩
  have hS : StaticIs P.U ST "COMPACT_STRINGS" "Z" (.int z) := by
    obtain ⟨cfS, iS, kS, fS, st, cS, t1, t2, t3, t4, t5, t6, t7⟩ := S
    exact StaticIs.there (s := { Z with heap := P.U.heap }) ⟨cfS, iS, kS, fS, st, cS, t1, t2, t3, t4, t5, (fun q => by rw [q] at t6; cases t6), t7⟩ al rfl
  obtain ⟨v, B, X', ⟨⟨hv, E', V', q1, q2, q3, q4, q5, q6, q7, q8, q9, q10, q11⟩, hl, hc, hs⟩, st⟩ := New1.pays x D fV fC b A z (tab_of (moved hZ hw)) hfr hlo m meth c P g ig mk _ X hg hsize hdg hW hn ⟨r1, r2, rfl, hB, F1, F2, hA, hS, hz, l0, l2, hp⟩
  have al' : Z.vm.Alike B.U.vm := hZ.alike.trans X'.warmed.alike
  have hsz : E'.slots.size = D.slots.size := by
    obtain ⟨-, -, -, kB, w1, w2, w3⟩ := q1
    obtain ⟨kB', y1, y2⟩ := al'.2.2 _ _ e3
    rw [q2.2.1] at w1
    cases w1.symm.trans y1
    rw [w3, e5 i3, y2]
  refine ⟨v, B, X', ⟨_, ⟨hv, ?_, ⟨by omega, fun y cy hy hn' => q10 y cy (by simpa using hn') hy, fun y cy hy => ?_⟩, q11, ⟨E', _, q1.1, by rw [q2.2.1]; exact e2, by rw [q2.2.1]; exact e3, by rw [q2.1]; exact obV, fun _ => by rw [hsz]; exact e5 i3⟩,
    ⟨E', cfV, kV, iV, fV, q1.1, gV, stV, by rw [q2.1]; exact knV, by rw [q2.1]; exact obV, by rw [q2.2.1]; exact asV, q3⟩, ⟨E', cfC, kC, iC, fC, q1.1, gC, stC, by rw [q2.1]; exact knV, by rw [q2.1]; exact obV, by rw [q2.2.1]; exact asC, q4⟩,
    ⟨V', ⟨q5.1, State.isArrayOf_alike al'.symm q5.2.1, q5.2.2.1⟩, q6, by rw [← al'.findClass]; exact q7, q8, fun j hj => by have := q9 j hj; rwa [Nat.zero_add] at this⟩, fun O n d w F n1 n2 => ?_⟩, hl, hc, hs⟩, st⟩
  · intro y hy
    simp only [List.mem_cons, List.not_mem_nil, or_false] at hy
    rcases hy with rfl | rfl <;> rfl
  · by_cases q : y = x
    · subst q
      cases hD.symm.trans hy
      exact ⟨E', q1.1, q2.2.1, q2.1, hsz⟩
    · exact ⟨cy, q10 y cy q hy, rfl, rfl, rfl⟩
  · obtain ⟨D3, cf, k, i, f, g1, g2, g3, g4, g5, g6, g7⟩ := F
    cases hD.symm.trans g1
    simp only [RoadKit.slotOf, g2, gV, gC, Option.map_some, Option.getD_some] at n1 n2
    exact ⟨E', cf, k, i, f, q1.1, g2, g3, by rw [q2.1]; exact g4, by rw [q2.1]; exact g5, by rw [q2.2.1]; exact g6, by rw [q2.2.2 f.slot (by simp [n1, n2])]; exact g7⟩
end StrChars.Road
namespace StrChars.Road
open Jvm Sem ClassFile Op Lib Jvm.Stand Jvm.Free Jvm.Free.XT
/-- WHAT COMES BACK, the byte[] as a list of values -/
def QA (Z : State) (x : Addr) (zn : Int32) (cs : List Int32) (h : Heap) (v : Option Value) (h' : Heap) (L : List Loc) : Prop := v = none ∧ (∀ y ∈ L, y.base = x) ∧ RoadKit.Keep h h' [x] ∧ h'.size = h.size + 1 ∧ RoadKit.Exa Z h' x ST ∧ RoadKit.Fld Z h' x ST "value" "[B" (.ref h.size) ∧ RoadKit.Fld Z h' x ST "coder" "B" (.int 0) ∧
  (∃ kb, Z.vm.findClass "[B" = some kb ∧ RoadKit.Arv Z h' h.size kb .byte zn (cs.map fun c => .int (lo8 c)) (.int 0)) ∧
  ∀ (O n d : String) (w : Value), RoadKit.Fld Z h x O n d w → RoadKit.slotOf Z O n d ≠ RoadKit.slotOf Z ST "value" "[B" → RoadKit.slotOf Z O n d ≠ RoadKit.slotOf Z ST "coder" "B" → RoadKit.Fld Z h' x O n d w
/-- **new String(chars) AT A CALL, THE ARRAYS AS LISTS**: the char[] at b holds cs, not empty, no char above 255 -/
theorem backArv {p : Program} {l : Launch} {e : Env} {R : Room} {s : State} {args : Array Value} {below : List Frame} {len W : Nat} {Z : State} {a0 : Array Value} {h : Heap} (hZ : Z.Warmed39 s.vm) (hw : ∀ d ∈ words, d.before a0 Z = true) {kI : Nat} (wi : (Jvm.Cond.instantiable ST kI).before a0 Z = true)
    {x b : Addr} {k : ClassId} {zn z : Int32} {cs : List Int32} {dv v0 c0 : Value} (E : RoadKit.Exa Z h x ST) (V : RoadKit.Fld Z h x ST "value" "[B" v0) (C : RoadKit.Fld Z h x ST "coder" "B" c0) (K : RoadKit.Arv Z h b k .char zn (cs.map Value.int) dv) (S : RoadKit.Sta Z h ST "COMPACT_STRINGS" "Z" (.int z)) (hz : ¬ z = 0)
    (hlen : zn.toNatClampNeg = cs.length) (h0 : 0 < cs.length) (hbig : cs.length ≤ 536870912) (hall : ∀ c ∈ cs, ¬ 255 < c) (hfr : 4 ≤ R.frames) (hlo : W + 65 ≤ R.locals) :
    Back l R p e below s args New1.yN len W (fun P a => a = #[.ref x, .ref b] ∧ P.U.heap = h ∧ P.cells + 1 ≤ R.cells ∧ P.slots + cs.length ≤ R.slots)
      (fun P _ v B => ∃ L, QA Z x zn cs h v B.U.heap L ∧ B.locs = P.locs ++ L ∧ B.cells = P.cells + 1 ∧ B.slots = P.slots + cs.length) := by
  obtain ⟨A, K1, K2, K3, K4, K5, K6⟩ := K
  have e : A.slots.size = cs.length := K3.trans hlen
  have hat : ∀ (i : Nat) (hi : i < cs.length), A.slots[i]? = some (.int cs[i]) := fun i hi => by rw [K5 i (by omega)]; simp [List.getD_eq_getElem?_getD, hi]
  have hcv : ∀ (i : Nat) (hi : i < cs.length), cv A i = cs[i] := fun i hi => by unfold cv; rw [hat i hi]
  have hty : Typed .char A := fun i v hv => by
    have hi : i < A.slots.size := (Array.getElem?_eq_some_iff.mp hv).1
    have q := K5 i hi
    rw [hv] at q
    rw [Option.some.inj q]
    exact K6 i hi
  refine Back.mono (back hZ hw wi E V C K1 hty S hz (by omega) (by omega) (fun i hi => by rw [hcv i (by omega)]; exact hall _ (List.getElem_mem _)) hfr hlo) (fun P a hp => ⟨hp.1, hp.2.1, hp.2.2.1, by rw [e]; exact hp.2.2.2⟩) (fun P a v B hp hq => ?_)
  obtain ⟨L, ⟨q1, q2, q3, q4, q5, q6, q7, ⟨V', v1, v2, v3, v4, v5⟩, q9⟩, hl, hc, hs⟩ := hq
  refine ⟨L, ⟨q1, q2, q3, q4, q5, q6, q7, ⟨V'.cls, v3, V', v1, rfl, by rw [v4, e, hlen], K4, fun i hi => ?_, fun i hi => ?_⟩, q9⟩, hl, hc, by rw [hs, e]⟩
  · have hi' : i < cs.length := by omega
    rw [v5 i (by omega), hcv i hi']; simp [List.getD_eq_getElem?_getD, hi']
  · have hi' : i < cs.length := by omega
    simp only [List.getD_eq_getElem?_getD, List.getElem?_map, List.getElem?_eq_getElem hi', Option.map_some, Option.getD_some]
    exact fits_lo8 _
end StrChars.Road
namespace StrChars.Road
open Jvm Sem ClassFile Op Lib Jvm.Stand Jvm.Free Jvm.Free.XT
/-- WHAT COMES BACK, in the writer's own shape -/
def QV (Z : State) (x : Addr) (N : Int32) (bs : List Int32) (h : Heap) (n0 : Nat) (v : Option Value) (h' : Heap) (L : List Loc) : Prop := v = none ∧ RoadKit.Fr n0 L ∧ RoadKit.Keep h h' [x] ∧ RoadKit.Exa Z h' x ST ∧ RoadKit.Fld Z h' x ST "coder" "B" (.int 0) ∧
  ∃ (t : Addr) (kb : ClassId), n0 ≤ t ∧ h.size ≤ t ∧ ¬ t = x ∧ RoadKit.Fld Z h' x ST "value" "[B" (.ref t) ∧ RoadKit.Arv Z h' t kb .byte N (bs.map Value.int) (.int 0)
/-- **new String(chars) AT A CALL, FOR THE WRITER**: a char[] of n known ints, each 0 to 255 -/
theorem backV {p : Program} {l : Launch} {e : Env} {R : Room} {s : State} {args : Array Value} {below : List Frame} {len W : Nat} {Z : State} {a0 : Array Value} {h : Heap} (hZ : Z.Warmed39 s.vm) (hw : ∀ d ∈ words, d.before a0 Z = true) {kI : Nat} (wi : (Jvm.Cond.instantiable ST kI).before a0 Z = true)
    {x b : Addr} {kC : ClassId} {cs bs : List Int32} {d v0 c0 : Value} {z N : Int32} {n n0 : Nat} (hx0 : n0 ≤ x) (hh0 : n0 ≤ h.size) (E : RoadKit.Exa Z h x ST) (V : RoadKit.Fld Z h x ST "value" "[B" v0) (C : RoadKit.Fld Z h x ST "coder" "B" c0) (K : RoadKit.Arv Z h b kC .char N (cs.map Value.int) d) (S : RoadKit.Sta Z h ST "COMPACT_STRINGS" "Z" (.int z)) (hz : ¬ z = 0)
    (hn : cs.length = n) (hN : N = Int32.ofNat n) (l0 : 0 < n) (l2 : n ≤ 4000) (hp : ∀ c ∈ cs, ¬ c < 0 ∧ ¬ (255 : Int32) < c) (hb : bs = cs.map (fun c => c.toInt8.toInt32)) (hfr : 4 ≤ R.frames) (hlo : W + 65 ≤ R.locals) :
    Back l R p e below s args (⟨"java/lang/String", "<init>", "([C)V"⟩ : MethodName) len W (fun P a => a = #[.ref x, .ref b] ∧ P.U.heap = h ∧ P.cells + 1 ≤ R.cells ∧ P.slots + n ≤ R.slots)
      (fun P _ v B => ∃ L, QV Z x N bs h n0 v B.U.heap L ∧ B.locs = P.locs ++ L ∧ B.cells = P.cells + 1 ∧ B.slots = P.slots + n) := by
  subst hn hN hb
  refine Back.mono (backArv hZ hw wi E V C K S hz (n32 (by omega)) l0 (by omega) (fun c hc => (hp c hc).2) hfr hlo) (fun P a hp => hp) (fun P a v B hp hq => ?_)
  obtain ⟨L, ⟨q1, q2, q3, q4, q5, q6, q7, ⟨kb, v1, v2⟩, q9⟩, hl, hc, hs⟩ := hq
  exact ⟨L, ⟨q1, fun y hy => by rw [q2 y hy]; exact hx0, q3, q5, q7, h.size, kb, hh0, Nat.le_refl _, Nat.ne_of_gt E.lt, q6, by rw [List.map_map]; exact v2⟩, hl, hc, hs⟩
end StrChars.Road
namespace StrChars
open Jvm Sem ClassFile Op Lib Jvm.Stand Jvm.Free.XT Jvm.Free.ALB Jvm.Free.JM Jvm.Free
open Jvm.Lib.Cold (StaticIs)
def hi8 (x : Int32) : Int32 := lo8 (x >>> ((8 : Int32) &&& 31))
/-- what StringUTF16.getChar makes of two bytes -/
def pairCh (u v : Int32) : Int32 := (((u &&& 255) <<< ((0 : Int32) &&& 31)) ||| ((v &&& 255) <<< ((8 : Int32) &&& 31))).toUInt32.toUInt16.toUInt32.toInt32
theorem shr0 (c : Int32) : c >>> ((0 : Int32) &&& 31) = c := by
  have e : ((0 : Int32) &&& 31) = 0 := by decide
  rw [e]
  apply Int32.toBitVec_inj.mp
  rw [Int32.toBitVec_shiftRight]
  have e1 : ((0 : Int32).toBitVec.smod 32) = 0#32 := by decide
  rw [e1, BitVec.sshiftRight_eq']
  exact BitVec.sshiftRight_zero
theorem lo8_and (x : Int32) : (lo8 x &&& 255).toBitVec.toNat = x.toBitVec.toNat % 256 := by
  have h : (lo8 x).toBitVec = (x.toBitVec.signExtend 8).signExtend 32 := by rw [lo8, Int8.toBitVec_toInt32, Int32.toBitVec_toInt8]
  rw [Int32.toBitVec_and, BitVec.toNat_and, h]
  have e : ((x.toBitVec.signExtend 8).signExtend 32).toNat % 256 = x.toBitVec.toNat % 256 := by
    rw [BitVec.toNat_signExtend]
    have hlt := x.toBitVec.isLt
    simp only [BitVec.toNat_setWidth, BitVec.toNat_signExtend]
    split <;> split <;> omega
  rw [← e]
  exact Nat.and_two_pow_sub_one_eq_mod _ 8
theorem pair_says {c : Int32} (h0 : ¬ c < 0) (h1 : ¬ 65535 < c) : pairCh (lo8 c) (hi8 c) = c := by
  rw [Int32.lt_iff_toInt_lt] at h0 h1
  have e0 : (0 : Int32).toInt = 0 := rfl
  have e1 : (65535 : Int32).toInt = 65535 := rfl
  have hc : c.toInt = c.toBitVec.toNat := by
    have := c.toBitVec.isLt
    have e : c.toInt = c.toBitVec.toInt := rfl
    rw [e] at h0 h1
    rw [e]
    rw [BitVec.toInt_eq_toNat_cond] at h0 h1 ⊢
    split at h0 <;> split <;> omega
  have hn : c.toBitVec.toNat < 65536 := by omega
  have a1 := lo8_and c
  have a2 : (hi8 c &&& 255).toBitVec.toNat = c.toBitVec.toNat / 256 := by
    rw [hi8, lo8_and]
    have e : ((8 : Int32) &&& 31) = 8 := by decide
    rw [e, Int32.toBitVec_shiftRight]
    have e2 : ((8 : Int32).toBitVec.smod 32) = 8#32 := by decide
    rw [e2, BitVec.sshiftRight_eq', BitVec.toNat_sshiftRight_of_msb_false (by rw [BitVec.msb_eq_false_iff_two_mul_lt]; omega)]
    show c.toBitVec.toNat >>> 8 % 256 = _
    rw [Nat.shiftRight_eq_div_pow]
    omega
  unfold pairCh
  apply Int32.toBitVec_inj.mp
  apply BitVec.eq_of_toNat_eq
  have f0 : ((0 : Int32) &&& 31) = 0 := by decide
  have f8 : ((8 : Int32) &&& 31) = 8 := by decide
  rw [f0, f8]
  have g : (((lo8 c &&& 255) <<< (0 : Int32)) ||| ((hi8 c &&& 255) <<< (8 : Int32))).toBitVec.toNat = c.toBitVec.toNat := by
    rw [Int32.toBitVec_or, Int32.toBitVec_shiftLeft, Int32.toBitVec_shiftLeft]
    have s0 : ((0 : Int32).toBitVec.smod 32) = 0#32 := by decide
    have s8 : ((8 : Int32).toBitVec.smod 32) = 8#32 := by decide
    rw [s0, s8, BitVec.toNat_or]
    simp only [BitVec.shiftLeft_eq', BitVec.toNat_shiftLeft, a1, a2]
    show (c.toBitVec.toNat % 256) <<< 0 % 2 ^ 32 ||| (c.toBitVec.toNat / 256) <<< 8 % 2 ^ 32 = _
    rw [Nat.shiftLeft_zero, Nat.mod_eq_of_lt (show c.toBitVec.toNat % 256 < 2 ^ 32 by omega), Nat.mod_eq_of_lt (show (c.toBitVec.toNat / 256) <<< 8 < 2 ^ 32 by rw [Nat.shiftLeft_eq]; omega), Nat.or_comm, ← Nat.shiftLeft_add_eq_or_of_lt (by omega), Nat.shiftLeft_eq]
    omega
  show BitVec.toNat (((((lo8 c &&& 255) <<< (0 : Int32)) ||| ((hi8 c &&& 255) <<< (8 : Int32))).toBitVec.setWidth 16).setWidth 32) = _
  rw [BitVec.toNat_setWidth, BitVec.toNat_setWidth, g]
  omega
end StrChars
namespace StrChars
open Jvm Sem ClassFile Op Lib Jvm.Stand Jvm.Free.XT Jvm.Free.ALB Jvm.Free.JM Jvm.Free
open Jvm.Lib.Cold (StaticIs)
theorem shr1 {n : Nat} (h : 2 * n < 2 ^ 31) : Int32.ofNat (2 * n) >>> ((1 : Int32) &&& 31) = Int32.ofNat n := by
  have e : ((1 : Int32) &&& 31) = 1 := by decide
  rw [e]
  apply Int32.toBitVec_inj.mp
  rw [Int32.toBitVec_shiftRight]
  have e1 : ((1 : Int32).toBitVec.smod 32) = 1#32 := by decide
  have hm : (BitVec.ofNat 32 (2 * n)).toNat = 2 * n := by rw [BitVec.toNat_ofNat, Nat.mod_eq_of_lt (by omega)]
  rw [e1, BitVec.sshiftRight_eq']
  apply BitVec.eq_of_toNat_eq
  show ((BitVec.ofNat 32 (2 * n)).sshiftRight 1).toNat = (BitVec.ofNat 32 n).toNat
  rw [BitVec.toNat_sshiftRight_of_msb_false (by rw [BitVec.msb_eq_false_iff_two_mul_lt, hm]; omega), hm, BitVec.toNat_ofNat, Nat.shiftRight_eq_div_pow]
  omega
/-- charAt's cast of a byte read back -/
def chr8 (u : Int32) : Int32 := (u &&& 255).toUInt32.toUInt16.toUInt32.toInt32
theorem chr8_lo8 {c : Int32} (h0 : ¬ c < 0) (h1 : ¬ 255 < c) : chr8 (lo8 c) = c := by
  have t : ∀ k : Fin 256, (Int32.ofNat k.val).toUInt32.toUInt16.toUInt32.toInt32 = Int32.ofNat k.val := by decide +kernel
  unfold chr8
  rw [lo8_mask h0 h1]
  rw [Int32.lt_iff_toInt_lt] at h0 h1
  have e0 : (0 : Int32).toInt = 0 := rfl
  have e1 : (255 : Int32).toInt = 255 := rfl
  obtain ⟨k, hk⟩ : ∃ k : Nat, c.toInt = k := ⟨c.toInt.toNat, by omega⟩
  have hx : c = Int32.ofNat k := Int32.toInt_inj.mp (by rw [hk, Int32.toInt_ofNat_small (by omega)])
  rw [hx]
  exact t ⟨k, by omega⟩
theorem narrow_ch {c : Int32} (h0 : ¬ c < 0) (h1 : ¬ 65535 < c) : narrow .char (.int c) = .int c := by
  have q : narrow .char (.int (pairCh (lo8 c) (hi8 c))) = .int (pairCh (lo8 c) (hi8 c)) := narrow_c _
  rwa [pair_says h0 h1] at q
/-- the array's cell V codes the n chars f 0 .. f (n - 1) by the coder cd, as the JDK does: coder 1 just where some char is above 255 -/
def Cod (cd : Int32) (n : Nat) (f : Nat → Int32) (V : Cell) : Prop := (cd = 0 ∧ V.slots.size = n ∧ ∀ j, j < n → V.slots[j]? = some (.int (lo8 (f j))) ∧ ¬ 255 < f j) ∨ (cd = 1 ∧ V.slots.size = 2 * n ∧ (∀ j, j < n → V.slots[2 * j]? = some (.int (lo8 (f j))) ∧ V.slots[2 * j + 1]? = some (.int (hi8 (f j)))) ∧ ∃ j, j < n ∧ 255 < f j)
theorem Cod.cd {cd : Int32} {n : Nat} {f : Nat → Int32} {V : Cell} (h : Cod cd n f V) : cd = 0 ∨ cd = 1 := h.imp (fun q => q.1) fun q => q.1
theorem Cod.len {cd : Int32} {n : Nat} {f : Nat → Int32} {V : Cell} (h : Cod cd n f V) (hs : V.slots.size < 2 ^ 31) : Int32.ofNat V.slots.size >>> (cd &&& 31) = Int32.ofNat n := by
  rcases h with ⟨rfl, h, -⟩ | ⟨rfl, h, -⟩
  · rw [shr0, h]
  · rw [h, shr1 (by omega)]
/-- **x is a String of the n chars f 0 .. f (n - 1)**, Latin-1 or UTF-16; its array at t has the cell V -/
def Txt (x t : Addr) (V : Cell) (cd : Int32) (n : Nat) (f : Nat → Int32) (U : State) : Prop := Exact "java/lang/String" x U ∧ Has x "java/lang/String" "value" "[B" (.ref t) U ∧ Has x "java/lang/String" "coder" "B" (.int cd) U ∧ XT.Arr .byte t V U ∧ Cod cd n f V ∧ ∀ j, j < n → ¬ f j < 0 ∧ ¬ 65535 < f j
theorem Txt.mv {x t : Addr} {V : Cell} {cd : Int32} {n : Nat} {f : Nat → Int32} {U U' : State} (h : Txt x t V cd n f U) (hal : U.vm.Alike U'.vm) (hh : U'.heap = U.heap) : Txt x t V cd n f U' := ⟨h.1.mv hal hh, h.2.1.mv hal hh, h.2.2.1.mv hal hh, h.2.2.2.1.mv hal hh, h.2.2.2.2⟩
namespace Cdr
def yN : MethodName := ⟨"java/lang/String", "coder", "()B"⟩
abbrev yB : ByteArray := jdk_42_method_152_code
theorem d0 : decode yB 0 = .ok (.getstatic 38, 3) := by decide +kernel
theorem d3 : decode yB 3 = .ok (.ifCond (.eq) 10, 3) := by decide +kernel
theorem d6 : decode yB 6 = .ok (.aload_n 0, 1) := by decide +kernel
theorem d7 : decode yB 7 = .ok (.getfield 15, 3) := by decide +kernel
theorem d10 : decode yB 10 = .ok (.goto 4, 3) := by decide +kernel
theorem d14 : decode yB 14 = .ok (.ireturn, 1) := by decide +kernel
def site : List Cond := [.fieldLink "java/lang/String" 38 "java/lang/String" "COMPACT_STRINGS" "Z", .fieldLink "java/lang/String" 15 "java/lang/String" "coder" "B"]
def tab : Cond := tabOf yN yB 1 (some .byte) site
def P (x : Addr) (cd z : Int32) (args : Array Value) (s : State) : Prop := args = #[.ref x] ∧ Has x "java/lang/String" "coder" "B" (.int cd) s ∧ (cd = 0 ∨ cd = 1) ∧ StaticIs s "java/lang/String" "COMPACT_STRINGS" "Z" (.int z) ∧ ¬ z = 0
def E (cd : Int32) (r : Option Value) (s u : State) : Prop := XT.PureE (some (.int cd)) r s u
theorem law (l : Launch) (x : Addr) (cd z : Int32) : Law l yN 1 0 0 0 yB 1 (some .byte) site (P x cd z) (E cd) [] 0 0 := by
  refine Law.of_walk (plainFor_of_name (by decide +kernel)) (by decide +kernel) (by decide +kernel) (by decide) (fun _ _ h => by rw [h.1]; rfl) (fun _ U U' hal hh h => ⟨h.1, h.2.1.mv hal hh, h.2.2.1, h.2.2.2.1.there hal hh, h.2.2.2.2⟩) (fun r U U' V V' h1 hal h2 h => XT.PureE.mv r U U' V V' h1 hal h2 h) ?_
  intro p e s m args below meth c s₁ X0 hexec hbytes hml hret hlk hnm hown hh0 W hP
  obtain ⟨rfl, hx, hc, s1, hz⟩ := hP
  have c1 : Steps p.tables e below (s₁.setTop (entryFrame m #[.ref x] 1)) (s₁.setTop (mkF m 0 #[.val (.ref x)] [])) := entry rfl
  obtain ⟨T2, X2, q2, st2⟩ := X0.sget hexec hown (wk W (.fieldLink "java/lang/String" 38 "java/lang/String" "COMPACT_STRINGS" "Z")) s1 (fun _ _ h => by rw [hh0]; exact h) (g := (mkF m 0 #[.val (.ref x)] [])) rfl (hb hbytes d0)
  have hh2 := q2.trans hh0
  have c3 : Steps p.tables e below (s₁.setTop (entryFrame m #[.ref x] 1)) (T2.setTop (mkF m 7 #[.val (.ref x)] [.ref x])) := (c1.trans (st2 _ (Steps.refl _))).trans (by
    refine XS.ifNo X2.here hexec rfl (hb hbytes d3) rfl (i0_eq_f hz) ?_
    refine XS.aloadN X2.here hexec rfl (hb hbytes d6) rfl rfl ?_
    exact Steps.refl _)
  obtain ⟨T4, X4, q4, st4⟩ := X2.hget hexec hown (wk W (.fieldLink "java/lang/String" 15 "java/lang/String" "coder" "B")) (hx.mv X2.warmed.alike hh2) (g := (mkF m 7 #[.val (.ref x)] [.ref x])) rfl (rest := []) rfl (hb hbytes d7)
  have c5 : Steps p.tables e below (s₁.setTop (entryFrame m #[.ref x] 1)) (T4.setTop (mkF m 14 #[.val (.ref x)] [.int cd])) := (c3.trans (st4 _ (Steps.refl _))).trans (by
    refine XS.goto X4.here hexec rfl (pc0 := 10) rfl (hb hbytes d10) (by decide) rfl ?_
    exact Steps.refl _)
  exact ⟨T4, some (.int cd), _, _, _, X4, rfl, rfl, rfl, (fun h => by cases h), ⟨rfl, q4.trans hh2⟩, fun fs hl => c5.trans (X4.ireturnOut hexec hret (by rcases hc with rfl | rfl <;> rfl) (Or.inr (Or.inr (Or.inl rfl))) (hb hbytes d14) hl)⟩
end Cdr
namespace Len
def yN : MethodName := ⟨"java/lang/String", "length", "()I"⟩
abbrev yB : ByteArray := jdk_42_method_54_code
theorem d0 : decode yB 0 = .ok (.aload_n 0, 1) := by decide +kernel
theorem d1 : decode yB 1 = .ok (.getfield 9, 3) := by decide +kernel
theorem d4 : decode yB 4 = .ok (.arraylength, 1) := by decide +kernel
theorem d5 : decode yB 5 = .ok (.aload_n 0, 1) := by decide +kernel
theorem d6 : decode yB 6 = .ok (.invokevirtual 335, 3) := by decide +kernel
theorem d9 : decode yB 9 = .ok (.ishr, 1) := by decide +kernel
theorem d10 : decode yB 10 = .ok (.ireturn, 1) := by decide +kernel
def site : List Cond := [.fieldLink "java/lang/String" 9 "java/lang/String" "value" "[B", Cdr.tab] ++ virtW "java/lang/String" 335 "java/lang/String" Cdr.yN Cdr.yN
def tab : Cond := tabOf yN yB 1 (some .int) site
def P (x t : Addr) (V : Cell) (cd : Int32) (n : Nat) (f : Nat → Int32) (z : Int32) (args : Array Value) (s : State) : Prop := args = #[.ref x] ∧ Txt x t V cd n f s ∧ StaticIs s "java/lang/String" "COMPACT_STRINGS" "Z" (.int z) ∧ ¬ z = 0
def E (n : Nat) (r : Option Value) (s u : State) : Prop := XT.PureE (some (.int (Int32.ofNat n))) r s u
/-- length() of a String of n chars, in either coding -/
theorem law (l : Launch) (x t : Addr) (V : Cell) (cd : Int32) (n : Nat) (f : Nat → Int32) (z : Int32) : Law l yN 1 0 1 13 yB 1 (some .int) site (P x t V cd n f z) (E n) [] 0 0 := by
  refine Law.of_walk (plainFor_of_name (by decide +kernel)) (by decide +kernel) (by decide +kernel) (by decide) (fun _ _ h => by rw [h.1]; rfl) (fun _ U U' hal hh h => ⟨h.1, h.2.1.mv hal hh, h.2.2.1.there hal hh, h.2.2.2⟩) (fun r U U' V V' h1 hal h2 h => XT.PureE.mv r U U' V V' h1 hal h2 h) ?_
  intro p e s m args below meth c s₁ X0 hexec hbytes hml hret hlk hnm hown hh0 W hP
  obtain ⟨rfl, hx, s1, hz⟩ := hP
  have v31 := hx.2.2.2.1.2.2.2
  have c1 : Steps p.tables e below (s₁.setTop (entryFrame m #[.ref x] 1)) (s₁.setTop (mkF m 1 #[.val (.ref x)] [.ref x])) := Steps.trans (entry rfl) (by
    show Steps p.tables e below (s₁.setTop (mkF m 0 #[.val (.ref x)] [])) _
    refine XS.aloadN X0.here hexec rfl (hb hbytes d0) rfl rfl ?_
    exact Steps.refl _)
  obtain ⟨T2, X2, q2, st2⟩ := X0.hget hexec hown (wk W (.fieldLink "java/lang/String" 9 "java/lang/String" "value" "[B")) (hx.mv X0.warmed.alike hh0).2.1 (g := (mkF m 1 #[.val (.ref x)] [.ref x])) rfl (rest := []) rfl (hb hbytes d1)
  have hh2 := q2.trans hh0
  have hx2 := hx.mv X2.warmed.alike hh2
  have c3 : Steps p.tables e below (s₁.setTop (entryFrame m #[.ref x] 1)) (T2.setTop (mkF m 6 #[.val (.ref x)] [.ref x, .int (Int32.ofNat V.slots.size)])) := (c1.trans (st2 _ (Steps.refl _))).trans (by
    refine X2.alen hexec hx2.2.2.2.1 rfl rfl (hb hbytes d4) ?_
    refine XS.aloadN X2.here hexec rfl (hb hbytes d5) rfl rfl ?_
    exact Steps.refl _)
  obtain ⟨v4, T4, X4, E4, g4⟩ := X2.callV hexec (Cdr.law l x cd z) hown (wks W (virtW "java/lang/String" 335 "java/lang/String" Cdr.yN Cdr.yN)) rfl (by decide) (wk W Cdr.tab) (W := 1) (Nat.le_of_ble_eq_true rfl) (Nat.le_of_ble_eq_true rfl) (Nat.le_refl _) (Nat.le_refl _) (hx2.1.fc X2.warmed.alike) hx2.1.is (g := (mkF m 6 #[.val (.ref x)] [.ref x, .int (Int32.ofNat V.slots.size)])) rfl (by rw [hml]; rfl) c3 (argsL := []) (rest := [.int (Int32.ofNat V.slots.size)]) rfl rfl (by show 2 * 0 + (1 + 0) ≤ _; decide) (hb hbytes d6) (⟨rfl, hx2.2.2.1, hx.2.2.2.2.1.cd, s1.there X2.warmed.alike hh2, hz⟩)
  obtain ⟨rfl, q4⟩ := E4
  have c5 : Steps p.tables e below (s₁.setTop (entryFrame m #[.ref x] 1)) (T4.setTop (mkF m 10 #[.val (.ref x)] [.int (Int32.ofNat V.slots.size >>> (cd &&& 31))])) := Steps.trans g4 (by
    refine ishr X4.here hexec rfl (hb hbytes d9) rfl ?_
    exact Steps.refl _)
  rw [hx.2.2.2.2.1.len v31] at c5
  exact ⟨T4, some (.int (Int32.ofNat n)), _, _, _, X4, rfl, rfl, rfl, (fun h => by cases h), ⟨rfl, q4.trans hh2⟩, fun fs hl => c5.trans (X4.ireturnOut hexec hret rfl (Or.inl rfl) (hb hbytes d10) hl)⟩
theorem pays {l : Launch} {R : Room} {p : Program} {e : Env} {below : List Frame} {s : State} {sargs : Array Value} {len W : Nat} (x t : Addr) (V : Cell) (cd : Int32) (n : Nat) (f : Nat → Int32) (z : Int32) (htab : tab.before sargs s = true) (hfr : 2 ≤ R.frames) (hlo : W + 25 ≤ R.locals) :
    Back l R p e below s sargs yN len W (fun A₁ a₁ => A₁.cells + 0 ≤ R.cells ∧ A₁.slots + 0 ≤ R.slots ∧ P x t V cd n f z a₁ A₁.U) (fun A₁ _ v₁ B₁ => E n v₁ A₁.U B₁.U ∧ B₁.locs = A₁.locs ++ [] ∧ B₁.cells = A₁.cells + 0 ∧ B₁.slots = A₁.slots + 0) :=
  (law l x t V cd n f z).pays htab hfr (by omega)
end Len
namespace IsL
def yN : MethodName := ⟨"java/lang/String", "isLatin1", "()Z"⟩
abbrev yB : ByteArray := jdk_42_method_154_code
theorem d0 : decode yB 0 = .ok (.getstatic 38, 3) := by decide +kernel
theorem d3 : decode yB 3 = .ok (.ifCond (.eq) 14, 3) := by decide +kernel
theorem d6 : decode yB 6 = .ok (.aload_n 0, 1) := by decide +kernel
theorem d7 : decode yB 7 = .ok (.getfield 15, 3) := by decide +kernel
theorem d10 : decode yB 10 = .ok (.ifCond (.ne) 7, 3) := by decide +kernel
theorem d13 : decode yB 13 = .ok (.iconst 1, 1) := by decide +kernel
theorem d14 : decode yB 14 = .ok (.goto 4, 3) := by decide +kernel
theorem d17 : decode yB 17 = .ok (.iconst 0, 1) := by decide +kernel
theorem d18 : decode yB 18 = .ok (.ireturn, 1) := by decide +kernel
def site : List Cond := [.fieldLink "java/lang/String" 38 "java/lang/String" "COMPACT_STRINGS" "Z", .fieldLink "java/lang/String" 15 "java/lang/String" "coder" "B"]
def tab : Cond := tabOf yN yB 1 (some .boolean) site
def P (x : Addr) (cd z : Int32) (args : Array Value) (s : State) : Prop := args = #[.ref x] ∧ Has x "java/lang/String" "coder" "B" (.int cd) s ∧ (cd = 0 ∨ cd = 1) ∧ StaticIs s "java/lang/String" "COMPACT_STRINGS" "Z" (.int z) ∧ ¬ z = 0
def E (cd : Int32) (r : Option Value) (s u : State) : Prop := XT.PureE (some (.int (1 - cd))) r s u
theorem law (l : Launch) (x : Addr) (cd z : Int32) : Law l yN 1 0 0 0 yB 1 (some .boolean) site (P x cd z) (E cd) [] 0 0 := by
  refine Law.of_walk (plainFor_of_name (by decide +kernel)) (by decide +kernel) (by decide +kernel) (by decide) (fun _ _ h => by rw [h.1]; rfl) (fun _ U U' hal hh h => ⟨h.1, h.2.1.mv hal hh, h.2.2.1, h.2.2.2.1.there hal hh, h.2.2.2.2⟩) (fun r U U' V V' h1 hal h2 h => XT.PureE.mv r U U' V V' h1 hal h2 h) ?_
  intro p e s m args below meth c s₁ X0 hexec hbytes hml hret hlk hnm hown hh0 W hP
  obtain ⟨rfl, hx, hc, s1, hz⟩ := hP
  have c1 : Steps p.tables e below (s₁.setTop (entryFrame m #[.ref x] 1)) (s₁.setTop (mkF m 0 #[.val (.ref x)] [])) := entry rfl
  obtain ⟨T2, X2, q2, st2⟩ := X0.sget hexec hown (wk W (.fieldLink "java/lang/String" 38 "java/lang/String" "COMPACT_STRINGS" "Z")) s1 (fun _ _ h => by rw [hh0]; exact h) (g := (mkF m 0 #[.val (.ref x)] [])) rfl (hb hbytes d0)
  have hh2 := q2.trans hh0
  have c3 : Steps p.tables e below (s₁.setTop (entryFrame m #[.ref x] 1)) (T2.setTop (mkF m 7 #[.val (.ref x)] [.ref x])) := (c1.trans (st2 _ (Steps.refl _))).trans (by
    refine XS.ifNo X2.here hexec rfl (hb hbytes d3) rfl (i0_eq_f hz) ?_
    refine XS.aloadN X2.here hexec rfl (hb hbytes d6) rfl rfl ?_
    exact Steps.refl _)
  obtain ⟨T4, X4, q4, st4⟩ := X2.hget hexec hown (wk W (.fieldLink "java/lang/String" 15 "java/lang/String" "coder" "B")) (hx.mv X2.warmed.alike hh2) (g := (mkF m 7 #[.val (.ref x)] [.ref x])) rfl (rest := []) rfl (hb hbytes d7)
  have c5 : Steps p.tables e below (s₁.setTop (entryFrame m #[.ref x] 1)) (T4.setTop (mkF m 10 #[.val (.ref x)] [.int cd])) := c3.trans (st4 _ (Steps.refl _))
  have c6 : Steps p.tables e below (s₁.setTop (entryFrame m #[.ref x] 1)) (T4.setTop (mkF m 18 #[.val (.ref x)] [.int (1 - cd)])) := by
    rcases hc with rfl | rfl
    · exact c5.trans (by
        refine XS.ifNo X4.here hexec rfl (hb hbytes d10) rfl (i0_ne_f rfl) ?_
        refine iconstV X4.here hexec rfl 1 (hb hbytes d13) (by decide) ?_
        refine XS.goto X4.here hexec rfl (pc0 := 14) rfl (hb hbytes d14) (by decide) rfl ?_
        exact Steps.refl _)
    · exact c5.trans (by
        refine XS.ifYes X4.here hexec rfl (pc0 := 10) rfl (hb hbytes d10) rfl (i0_ne_t (by decide)) (by decide) rfl ?_
        refine iconstV X4.here hexec rfl 0 (hb hbytes d17) (by decide) ?_
        exact Steps.refl _)
  exact ⟨T4, some (.int (1 - cd)), _, _, _, X4, rfl, rfl, rfl, (fun h => by cases h), ⟨rfl, q4.trans hh2⟩, fun fs hl => c6.trans (X4.ireturnOut hexec hret (by rcases hc with rfl | rfl <;> rfl) (Or.inr (Or.inl rfl)) (hb hbytes d18) hl)⟩
end IsL
namespace LChA
def yN : MethodName := ⟨"java/lang/StringLatin1", "charAt", "([BI)C"⟩
abbrev yB : ByteArray := jdk_43_method_2_code
theorem d0 : decode yB 0 = .ok (.iload_n 1, 1) := by decide +kernel
theorem d1 : decode yB 1 = .ok (.aload_n 0, 1) := by decide +kernel
theorem d2 : decode yB 2 = .ok (.arraylength, 1) := by decide +kernel
theorem d3 : decode yB 3 = .ok (.invokestatic 9, 3) := by decide +kernel
theorem d6 : decode yB 6 = .ok (.aload_n 0, 1) := by decide +kernel
theorem d7 : decode yB 7 = .ok (.iload_n 1, 1) := by decide +kernel
theorem d8 : decode yB 8 = .ok (.baload, 1) := by decide +kernel
theorem d9 : decode yB 9 = .ok (.sipush 255, 3) := by decide +kernel
theorem d12 : decode yB 12 = .ok (.iand, 1) := by decide +kernel
theorem d13 : decode yB 13 = .ok (.i2c, 1) := by decide +kernel
theorem d14 : decode yB 14 = .ok (.ireturn, 1) := by decide +kernel
def site : List Cond := [JO.Str_checkIndex.tab] ++ staticW "java/lang/StringLatin1" 9 JO.Str_checkIndex.yN
def tab : Cond := tabOf yN yB 2 (some .char) site
def P (t : Addr) (V : Cell) (i : Nat) (u : Int32) (fm : Value) (args : Array Value) (s : State) : Prop := args = #[.ref t, .int (Int32.ofNat i)] ∧ XT.Arr .byte t V s ∧ V.slots[i]? = some (.int u) ∧ (StaticIs s "jdk/internal/util/Preconditions" "SIOOBE_FORMATTER" "Ljava/util/function/BiFunction;" fm ∧ fm.isRef = true)
def E (u : Int32) (r : Option Value) (s w : State) : Prop := XT.PureE (some (.int (chr8 u))) r s w
theorem law (l : Launch) (t : Addr) (V : Cell) (i : Nat) (u : Int32) (fm : Value) : Law l yN 2 2 2 27 yB 2 (some .char) site (P t V i u fm) (E u) [] 0 0 := by
  refine Law.of_walk (plainFor_of_name (by decide +kernel)) (by decide +kernel) (by decide +kernel) (by decide) (fun _ _ h => by rw [h.1]; rfl) (fun _ U U' hal hh h => ⟨h.1, h.2.1.mv hal hh, h.2.2.1, h.2.2.2.1.there hal hh, h.2.2.2.2⟩) (fun r U U' V V' h1 hal h2 h => XT.PureE.mv r U U' V V' h1 hal h2 h) ?_
  intro p e s m args below meth c s₁ X0 hexec hbytes hml hret hlk hnm hown hh0 W hP
  obtain ⟨rfl, hV, hu, s1, rf⟩ := hP
  have v31 := hV.2.2.2
  have hi : i < V.slots.size := (Array.getElem?_eq_some_iff.mp hu).1
  have c1 : Steps p.tables e below (s₁.setTop (entryFrame m #[.ref t, .int (Int32.ofNat i)] 2)) (s₁.setTop (mkF m 0 #[.val (.ref t), .val (.int (Int32.ofNat i))] [])) := entry rfl
  have c2 : Steps p.tables e below (s₁.setTop (entryFrame m #[.ref t, .int (Int32.ofNat i)] 2)) (s₁.setTop (mkF m 3 #[.val (.ref t), .val (.int (Int32.ofNat i))] [.int (Int32.ofNat V.slots.size), .int (Int32.ofNat i)])) := c1.trans (by
    refine XS.iloadN X0.here hexec rfl (hb hbytes d0) rfl ?_
    refine XS.aloadN X0.here hexec rfl (hb hbytes d1) rfl rfl ?_
    refine X0.alen hexec (hV.mv X0.warmed.alike hh0) rfl rfl (hb hbytes d2) ?_
    exact Steps.refl _)
  obtain ⟨v3, T3, X3, E3, g3⟩ := X0.callS hexec (JO.Str_checkIndex.law l (Int32.ofNat i) (Int32.ofNat V.slots.size) fm) hown (wks W (staticW "java/lang/StringLatin1" 9 JO.Str_checkIndex.yN)) (wk W JO.Str_checkIndex.tab) (W := 0) (Nat.le_of_ble_eq_true rfl) (Nat.le_of_ble_eq_true rfl) (Nat.le_refl _) (Nat.le_refl _) (g := (mkF m 3 #[.val (.ref t), .val (.int (Int32.ofNat i))] [.int (Int32.ofNat V.slots.size), .int (Int32.ofNat i)])) rfl (by rw [hml]; rfl) c2 (argsL := [.int (Int32.ofNat i), .int (Int32.ofNat V.slots.size)]) (rest := []) rfl rfl (by show 2 * 0 + 0 ≤ _; decide) (hb hbytes d3) (⟨rfl, rf, s1.there X0.warmed.alike hh0, Int32.ofNat_not_neg (by omega), lt32 v31 hi⟩)
  obtain ⟨rfl, q3⟩ := E3
  have hh3 := q3.trans hh0
  have c4 : Steps p.tables e below (s₁.setTop (entryFrame m #[.ref t, .int (Int32.ofNat i)] 2)) (T3.setTop (mkF m 14 #[.val (.ref t), .val (.int (Int32.ofNat i))] [.int (chr8 u)])) := Steps.trans g3 (by
    refine XS.aloadN X3.here hexec rfl (hb hbytes d6) rfl rfl ?_
    refine XS.iloadN X3.here hexec rfl (hb hbytes d7) rfl ?_
    refine X3.aget hexec (hV.mv X3.warmed.alike hh3) rfl hu rfl rfl (hb hbytes d8) ?_
    refine sipushV X3.here hexec rfl 255 (hb hbytes d9) (by decide) ?_
    refine XS.iand X3.here hexec rfl (hb hbytes d12) rfl ?_
    refine i2c X3.here hexec rfl (hb hbytes d13) rfl ?_
    exact Steps.refl _)
  exact ⟨T3, some (.int (chr8 u)), _, _, _, X3, rfl, rfl, rfl, (fun h => by cases h), ⟨rfl, hh3⟩, fun fs hl => c4.trans (X3.ireturnOut hexec hret (narrow_c _) (Or.inr (Or.inr (Or.inr (Or.inl rfl)))) (hb hbytes d14) hl)⟩
end LChA
end StrChars
namespace StrChars.Road
open Jvm Sem ClassFile Op Lib Jvm.Stand Jvm.Free Jvm.Free.XT
open Jvm.Lib.Cold (StaticIs)
theorem consq {a : Array Value} {s : State} {c : Jvm.Cond} {L : List Jvm.Cond} (h0 : c.before a s = true) (h : ∀ w ∈ L, w.before a s = true) : ∀ w ∈ c :: L, w.before a s = true := fun w hw => (List.mem_cons.mp hw).elim (fun e => e ▸ h0) (h w)
/-- the words of String.length(), either coding -/
abbrev wordsLen : List Jvm.Cond := [.code Len.yN Len.yB 1 (some .int), .initialized ST, .fieldLink ST 9 ST "value" "[B", .fieldLink ST 38 ST "COMPACT_STRINGS" "Z", .fieldLink ST 15 ST "coder" "B", .code Cdr.yN Cdr.yB 1 (some .byte), .methodLink ST 335 Cdr.yN, .declares Cdr.yN, .selects ST Cdr.yN Cdr.yN, .instanceMethod Cdr.yN]
theorem tabLen_of {a : Array Value} {s : State} (h : ∀ w ∈ wordsLen, w.before a s = true) : Len.tab.before a s = true := by
  have hc : Cdr.tab.before a s = true := unparts (wk h (.code Cdr.yN Cdr.yB 1 (some .byte))) (wks h (.initialized Cdr.yN.cls :: Cdr.site))
  have q := consq hc h
  exact unparts (wk q (.code Len.yN Len.yB 1 (some .int))) (wks q (.initialized Len.yN.cls :: Len.site))
theorem movedLen {Z s : State} {a0 args : Array Value} (hZ : Z.Warmed39 s.vm) (hw : ∀ d ∈ wordsLen, d.before a0 Z = true) : ∀ d ∈ wordsLen, d.before args s = true := fun d hd => by
  have q := hw d hd
  have t : ∀ d ∈ wordsLen, d = .arrayClass .byte ∨ (d.onTables && d.keepsFace) = true := by decide +kernel
  rcases t d hd with rfl | t
  · exact RoadKit.mvA hZ q
  · exact RoadKit.mv hZ q t
/-- the bytes of the chars cs, low before high -/
def wideBytes : List Int32 → List Value
  | [] => []
  | c :: cs => .int (lo8 c) :: .int (hi8 c) :: wideBytes cs
theorem wide_lo (d : Value) : ∀ (cs : List Int32) (j : Nat), j < cs.length → (wideBytes cs).getD (2 * j) d = .int (lo8 (cs.getD j 0))
  | [], j, h => absurd h (Nat.not_lt_zero j)
  | c :: cs, 0, _ => rfl
  | c :: cs, j + 1, h => by
    have q := wide_lo d cs j (by simpa using h)
    rw [show 2 * (j + 1) = 2 * j + 1 + 1 from by omega]
    simpa [wideBytes] using q
theorem wide_hi (d : Value) : ∀ (cs : List Int32) (j : Nat), j < cs.length → (wideBytes cs).getD (2 * j + 1) d = .int (hi8 (cs.getD j 0))
  | [], j, h => absurd h (Nat.not_lt_zero j)
  | c :: cs, 0, _ => rfl
  | c :: cs, j + 1, h => by
    have q := wide_hi d cs j (by simpa using h)
    rw [show 2 * (j + 1) + 1 = 2 * j + 1 + 1 + 1 from by omega]
    simpa [wideBytes] using q
theorem low_at (d : Value) (cs : List Int32) (j : Nat) (h : j < cs.length) : (cs.map fun c => Value.int (lo8 c)).getD j d = .int (lo8 (cs.getD j 0)) := by
  simp [List.getD_eq_getElem?_getD, h]
/-- an array of N2 bytes vs codes the chars cs by the coder cd -/
def CodA (cs : List Int32) (cd N2 : Int32) (vs : List Value) : Prop := (cd = 0 ∧ N2 = Int32.ofNat cs.length ∧ vs = (cs.map fun c => Value.int (lo8 c)) ∧ ∀ c ∈ cs, ¬ 255 < c) ∨ (cd = 1 ∧ N2 = Int32.ofNat (2 * cs.length) ∧ vs = wideBytes cs ∧ ∃ c ∈ cs, 255 < c)
theorem CodA.cod {cs : List Int32} {cd N2 : Int32} {vs : List Value} {V : Cell} (h : CodA cs cd N2 vs) (hn : 2 * cs.length < 2 ^ 31) (hs : V.slots.size = N2.toNatClampNeg) (hv : RoadKit.Has V vs (.int 0)) : Cod cd cs.length (fun j => cs.getD j 0) V := by
  rcases h with ⟨rfl, rfl, rfl, h⟩ | ⟨rfl, rfl, rfl, c, hc, hw⟩
  · rw [n32 (by omega)] at hs
    exact Or.inl ⟨rfl, hs, fun j hj => ⟨by rw [hv j (by omega), low_at _ _ _ hj], by
      have e : cs.getD j 0 = cs[j] := by simp [List.getD_eq_getElem?_getD, hj]
      show ¬ 255 < cs.getD j 0
      rw [e]; exact h _ (List.getElem_mem _)⟩⟩
  · rw [n32 (by omega)] at hs
    obtain ⟨j, hj, rfl⟩ := List.getElem_of_mem hc
    exact Or.inr ⟨rfl, hs, fun j hj => ⟨by rw [hv _ (by omega), wide_lo _ _ _ hj], by rw [hv _ (by omega), wide_hi _ _ _ hj]⟩, j, hj, by
      have e : cs.getD j 0 = cs[j] := by simp [List.getD_eq_getElem?_getD, hj]
      show 255 < cs.getD j 0
      rw [e]; exact hw⟩
/-- an object of exactly java/lang/String, its two fields found: as the laws ask it -/
theorem strObj {Z U : State} {a0 : Array Value} {kI : Nat} (wi : (Jvm.Cond.instantiable ST kI).before a0 Z = true) (al : Z.vm.Alike U.vm) {x : Addr} {v0 c0 : Value} (E : RoadKit.Exa Z U.heap x ST) (V : RoadKit.Fld Z U.heap x ST "value" "[B" v0) (C : RoadKit.Fld Z U.heap x ST "coder" "B" c0) :
    ∃ (D : Cell) (fV fC : Field), Blank ST x D U ∧ Found ST "value" "[B" fV U ∧ Found ST "coder" "B" fC U ∧ D.slots[fV.slot]? = some v0 ∧ D.slots[fC.slot]? = some c0 ∧ RoadKit.slotOf Z ST "value" "[B" = fV.slot ∧ RoadKit.slotOf Z ST "coder" "B" = fC.slot := by
  obtain ⟨D, cfV, kV, iV, fV, hD, gV, stV, knV, obV, asV, slV⟩ := V
  obtain ⟨D', cfC, kC, iC, fC, hD', gC, stC, -, -, asC, slC⟩ := C
  cases hD.symm.trans hD'
  obtain ⟨D2, kD, e1, e2, e3, e4, e5⟩ := E
  cases hD.symm.trans e1
  obtain ⟨c2, k2, i1, i2, i3, -⟩ := Cond.instantiable_spec wi
  cases e2.symm.trans i1
  cases e3.symm.trans i2
  obtain ⟨kU, u1, u2⟩ := al.2.2 _ _ e3
  exact ⟨D, fV, fC, ⟨hD, ⟨knV, fun q hq => by rw [hq] at obV; cases obV⟩, by rw [al.findClass]; exact e2, kU, u1, by rw [u2]; exact i3, by rw [u2]; exact e5 i3⟩, ⟨SBG.found_only al ⟨cfV, kV, iV, gV⟩, stV⟩, ⟨SBG.found_only al ⟨cfC, kC, iC, gC⟩, stC⟩, slV, slC, by simp [RoadKit.slotOf, gV], by simp [RoadKit.slotOf, gC]⟩
theorem sta_is {Z U : State} (al : Z.vm.Alike U.vm) {C n d : String} {v : Value} (S : RoadKit.Sta Z U.heap C n d v) : StaticIs U C n d v := by
  obtain ⟨cfS, iS, kS, fS, st, cS, t1, t2, t3, t4, t5, t6, t7⟩ := S
  exact StaticIs.there (s := { Z with heap := U.heap }) ⟨cfS, iS, kS, fS, st, cS, t1, t2, t3, t4, t5, (fun q => by rw [q] at t6; cases t6), t7⟩ al rfl
/-- **length() OF SUCH A STRING** -/
theorem lenW {p : Program} {l : Launch} {e : Env} {R : Room} {s : State} {args : Array Value} {below : List Frame} {len W : Nat} {Z : State} {a0 : Array Value} {h : Heap} (hZ : Z.Warmed39 s.vm) (hw : ∀ d ∈ wordsLen, d.before a0 Z = true) {kI : Nat} (wi : (Jvm.Cond.instantiable ST kI).before a0 Z = true)
    {x t : Addr} {kb : ClassId} {cs : List Int32} {cd N2 z : Int32} {vs : List Value} (E : RoadKit.Exa Z h x ST) (V : RoadKit.Fld Z h x ST "value" "[B" (.ref t)) (C : RoadKit.Fld Z h x ST "coder" "B" (.int cd)) (K : RoadKit.Arv Z h t kb .byte N2 vs (.int 0)) (hc : CodA cs cd N2 vs) (hb : ∀ c ∈ cs, ¬ c < 0 ∧ ¬ (65535 : Int32) < c)
    (S : RoadKit.Sta Z h ST "COMPACT_STRINGS" "Z" (.int z)) (hz : ¬ z = 0) (l2 : cs.length ≤ 4000) (hfr : 2 ≤ R.frames) (hlo : W + 25 ≤ R.locals) :
    Back l R p e below s args (⟨"java/lang/String", "length", "()I"⟩ : MethodName) len W (fun P a => a = #[.ref x] ∧ P.U.heap = h ∧ P.cells + 0 ≤ R.cells ∧ P.slots + 0 ≤ R.slots)
      (fun P _ v B => ∃ L, (v = some (.int (Int32.ofNat cs.length)) ∧ L = [] ∧ B.U.heap = h) ∧ B.locs = P.locs ++ L ∧ B.cells = P.cells + 0 ∧ B.slots = P.slots + 0) := by
  obtain ⟨A, K1, K2, K3, K4, K5, K6⟩ := K
  have hcod := hc.cod (by omega) K3 K5
  intro m meth c P g ig mk a X hg hsize hdg hW hn hp'
  obtain ⟨rfl, rfl, r1, r2⟩ := hp'
  have al : Z.vm.Alike P.U.vm := hZ.alike.trans X.warmed.alike
  obtain ⟨D, fV, fC, hB, F1, F2, g1, g2, -, -⟩ := strObj wi al E V C
  have hx : Txt x t A cd cs.length (fun j => cs.getD j 0) P.U := ⟨⟨_, hB.2.2.1, D, hB.1, rfl, by cases q : D.vm <;> first | rfl | exact absurd q (hB.2.1.2 _)⟩, Has.of hB F1 g1, Has.of hB F2 g2, ⟨K1.1, State.isArrayOf_alike al K1.2.1, K1.2.2, by rcases hcod with ⟨-, q, -⟩ | ⟨-, q, -⟩ <;> omega⟩, hcod, fun j hj => by
    have e : cs.getD j 0 = cs[j] := by simp [List.getD_eq_getElem?_getD, hj]
    show ¬ cs.getD j 0 < 0 ∧ ¬ 65535 < cs.getD j 0
    rw [e]; exact hb _ (List.getElem_mem _)⟩
  obtain ⟨v, B, X', ⟨⟨hv, hh⟩, hl, hk, hs⟩, st⟩ := Len.pays x t A cd cs.length (fun j => cs.getD j 0) z (tabLen_of (movedLen hZ hw)) hfr hlo m meth c P g ig mk _ X hg hsize hdg hW hn ⟨r1, r2, rfl, hx, sta_is al S, hz⟩
  exact ⟨v, B, X', ⟨[], ⟨hv, rfl, hh⟩, hl, hk, hs⟩, st⟩
end StrChars.Road
namespace StrChars.Road
open Jvm Sem ClassFile Op Lib Jvm.Stand Jvm.Free Jvm.Free.XT
open Jvm.Lib.Cold (StaticIs)
/-- the road's facts of a String, as the laws ask it -/
theorem txt_of {Z U : State} {a0 : Array Value} {kI : Nat} (wi : (Jvm.Cond.instantiable ST kI).before a0 Z = true) (al : Z.vm.Alike U.vm) {x t : Addr} {kb : ClassId} {cs : List Int32} {cd N2 : Int32} {vs : List Value} (E : RoadKit.Exa Z U.heap x ST) (V : RoadKit.Fld Z U.heap x ST "value" "[B" (.ref t)) (C : RoadKit.Fld Z U.heap x ST "coder" "B" (.int cd)) (K : RoadKit.Arv Z U.heap t kb .byte N2 vs (.int 0)) (hc : CodA cs cd N2 vs) (hb : ∀ c ∈ cs, ¬ c < 0 ∧ ¬ (65535 : Int32) < c) (l2 : cs.length ≤ 4000) :
    ∃ A, Txt x t A cd cs.length (fun j => cs.getD j 0) U := by
  obtain ⟨A, K1, K2, K3, K4, K5, K6⟩ := K
  have hcod := hc.cod (by omega) K3 K5
  obtain ⟨D, fV, fC, hB, F1, F2, g1, g2, -, -⟩ := strObj wi al E V C
  exact ⟨A, ⟨_, hB.2.2.1, D, hB.1, rfl, by cases q : D.vm <;> first | rfl | exact absurd q (hB.2.1.2 _)⟩, Has.of hB F1 g1, Has.of hB F2 g2, ⟨K1.1, State.isArrayOf_alike al K1.2.1, K1.2.2, by rcases hcod with ⟨-, q, -⟩ | ⟨-, q, -⟩ <;> omega⟩, hcod, fun j hj => by
    have e : cs.getD j 0 = cs[j] := by simp [List.getD_eq_getElem?_getD, hj]
    show ¬ cs.getD j 0 < 0 ∧ ¬ 65535 < cs.getD j 0
    rw [e]; exact hb _ (List.getElem_mem _)⟩
end StrChars.Road
namespace StrChars
open Jvm Sem ClassFile Op Lib Jvm.Stand Jvm.Free.XT Jvm.Free.ALB Jvm.Free.JM Jvm.Free
open Jvm.Lib.Cold (StaticIs)
namespace ChN
def yN : MethodName := ⟨"java/lang/String", "charAt", "(I)C"⟩
abbrev yB : ByteArray := jdk_42_method_56_code
theorem d0 : decode yB 0 = .ok (.aload_n 0, 1) := by decide +kernel
theorem d1 : decode yB 1 = .ok (.invokevirtual 492, 3) := by decide +kernel
theorem d4 : decode yB 4 = .ok (.ifCond (.eq) 12, 3) := by decide +kernel
theorem d7 : decode yB 7 = .ok (.aload_n 0, 1) := by decide +kernel
theorem d8 : decode yB 8 = .ok (.getfield 9, 3) := by decide +kernel
theorem d11 : decode yB 11 = .ok (.iload_n 1, 1) := by decide +kernel
theorem d12 : decode yB 12 = .ok (.invokestatic 495, 3) := by decide +kernel
theorem d15 : decode yB 15 = .ok (.ireturn, 1) := by decide +kernel
def site : List Cond := [.fieldLink "java/lang/String" 9 "java/lang/String" "value" "[B", IsL.tab, LChA.tab] ++ virtW "java/lang/String" 492 "java/lang/String" IsL.yN IsL.yN ++ staticW "java/lang/String" 495 LChA.yN
def tab : Cond := tabOf yN yB 2 (some .char) site
def P (x t : Addr) (V : Cell) (n : Nat) (f : Nat → Int32) (z : Int32) (fm : Value) (i : Nat) (args : Array Value) (s : State) : Prop := args = #[.ref x, .int (Int32.ofNat i)] ∧ Txt x t V 0 n f s ∧ i < n ∧ StaticIs s "java/lang/String" "COMPACT_STRINGS" "Z" (.int z) ∧ ¬ z = 0 ∧ StaticIs s "jdk/internal/util/Preconditions" "SIOOBE_FORMATTER" "Ljava/util/function/BiFunction;" fm ∧ fm.isRef = true
def E (f : Nat → Int32) (i : Nat) (r : Option Value) (s u : State) : Prop := XT.PureE (some (.int (f i))) r s u
/-- charAt(i) of a Latin-1 String of n chars, i < n: f i -/
theorem law (l : Launch) (x t : Addr) (V : Cell) (n : Nat) (f : Nat → Int32) (z : Int32) (fm : Value) (i : Nat) : Law l yN 2 1 3 40 yB 2 (some .char) site (P x t V n f z fm i) (E f i) [] 0 0 := by
  refine Law.of_walk (plainFor_of_name (by decide +kernel)) (by decide +kernel) (by decide +kernel) (by decide) (fun _ _ h => by rw [h.1]; rfl) (fun _ U U' hal hh h => ⟨h.1, h.2.1.mv hal hh, h.2.2.1, h.2.2.2.1.there hal hh, h.2.2.2.2.1, h.2.2.2.2.2.1.there hal hh, h.2.2.2.2.2.2⟩) (fun r U U' V V' h1 hal h2 h => XT.PureE.mv r U U' V V' h1 hal h2 h) ?_
  intro p e s m args below meth c s₁ X0 hexec hbytes hml hret hlk hnm hown hh0 W hP
  obtain ⟨rfl, hx, hi, s1, hz, s3, rf⟩ := hP
  have v31 := hx.2.2.2.1.2.2.2
  have hr := hx.2.2.2.2.2 i hi
  have hx0 := hx.mv X0.warmed.alike hh0
  have c1 : Steps p.tables e below (s₁.setTop (entryFrame m #[.ref x, .int (Int32.ofNat i)] 2)) (s₁.setTop (mkF m 1 #[.val (.ref x), .val (.int (Int32.ofNat i))] [.ref x])) := Steps.trans (entry rfl) (by
    show Steps p.tables e below (s₁.setTop (mkF m 0 #[.val (.ref x), .val (.int (Int32.ofNat i))] [])) _
    refine XS.aloadN X0.here hexec rfl (hb hbytes d0) rfl rfl ?_
    exact Steps.refl _)
  obtain ⟨v2, T2, X2, E2, g2⟩ := X0.callV hexec (IsL.law l x 0 z) hown (wks W (virtW "java/lang/String" 492 "java/lang/String" IsL.yN IsL.yN)) rfl (by decide) (wk W IsL.tab) (W := 0) (Nat.le_of_ble_eq_true rfl) (Nat.le_of_ble_eq_true rfl) (Nat.le_refl _) (Nat.le_refl _) (hx0.1.fc X0.warmed.alike) hx0.1.is (g := (mkF m 1 #[.val (.ref x), .val (.int (Int32.ofNat i))] [.ref x])) rfl (by rw [hml]; rfl) c1 (argsL := []) (rest := []) rfl rfl (by show 2 * 0 + 0 ≤ _; decide) (hb hbytes d1) (⟨rfl, hx0.2.2.1, hx.2.2.2.2.1.cd, s1.there X0.warmed.alike hh0, hz⟩)
  obtain ⟨rfl, q2⟩ := E2
  have hh2 := q2.trans hh0
  have hx2 := hx.mv X2.warmed.alike hh2
  obtain ⟨-, k1, k2⟩ | ⟨k0, -⟩ := hx.2.2.2.2.1
  · have c3 : Steps p.tables e below (s₁.setTop (entryFrame m #[.ref x, .int (Int32.ofNat i)] 2)) (T2.setTop (mkF m 8 #[.val (.ref x), .val (.int (Int32.ofNat i))] [.ref x])) := Steps.trans g2 (by
      refine XS.ifNo X2.here hexec rfl (hb hbytes d4) rfl (i0_eq_f (by decide)) ?_
      refine XS.aloadN X2.here hexec rfl (hb hbytes d7) rfl rfl ?_
      exact Steps.refl _)
    obtain ⟨T4, X4, q4, st4⟩ := X2.hget hexec hown (wk W (.fieldLink "java/lang/String" 9 "java/lang/String" "value" "[B")) hx2.2.1 (g := (mkF m 8 #[.val (.ref x), .val (.int (Int32.ofNat i))] [.ref x])) rfl (rest := []) rfl (hb hbytes d8)
    have hh4 := q4.trans hh2
    have c5 : Steps p.tables e below (s₁.setTop (entryFrame m #[.ref x, .int (Int32.ofNat i)] 2)) (T4.setTop (mkF m 12 #[.val (.ref x), .val (.int (Int32.ofNat i))] [.int (Int32.ofNat i), .ref t])) := (c3.trans (st4 _ (Steps.refl _))).trans (by
      refine XS.iloadN X4.here hexec rfl (hb hbytes d11) rfl ?_
      exact Steps.refl _)
    obtain ⟨v6, T6, X6, E6, g6⟩ := X4.callS hexec (LChA.law l t V i (lo8 (f i)) fm) hown (wks W (staticW "java/lang/String" 495 LChA.yN)) (wk W LChA.tab) (W := 0) (Nat.le_of_ble_eq_true rfl) (Nat.le_of_ble_eq_true rfl) (Nat.le_refl _) (Nat.le_refl _) (g := (mkF m 12 #[.val (.ref x), .val (.int (Int32.ofNat i))] [.int (Int32.ofNat i), .ref t])) rfl (by rw [hml]; rfl) c5 (argsL := [.ref t, .int (Int32.ofNat i)]) (rest := []) rfl rfl (by show 2 * 0 + 0 ≤ _; decide) (hb hbytes d12) (⟨rfl, hx.2.2.2.1.mv X4.warmed.alike hh4, (k2 i hi).1, s3.there X4.warmed.alike hh4, rf⟩)
    obtain ⟨rfl, q6⟩ := E6
    rw [chr8_lo8 hr.1 (k2 i hi).2] at g6
    exact ⟨T6, some (.int (f i)), _, _, _, X6, rfl, rfl, rfl, (fun h => by cases h), ⟨rfl, q6.trans hh4⟩, fun fs hl => Steps.trans g6 (X6.ireturnOut hexec hret (narrow_ch hr.1 hr.2) (Or.inr (Or.inr (Or.inr (Or.inl rfl)))) (hb hbytes d15) hl)⟩
  · exact absurd k0 (by decide)
theorem pays {l : Launch} {R : Room} {p : Program} {e : Env} {below : List Frame} {s : State} {sargs : Array Value} {len W : Nat} (x t : Addr) (V : Cell) (n : Nat) (f : Nat → Int32) (z : Int32) (fm : Value) (i : Nat) (htab : tab.before sargs s = true) (hfr : 4 ≤ R.frames) (hlo : W + 53 ≤ R.locals) :
    Back l R p e below s sargs yN len W (fun A₁ a₁ => A₁.cells + 0 ≤ R.cells ∧ A₁.slots + 0 ≤ R.slots ∧ P x t V n f z fm i a₁ A₁.U) (fun A₁ _ v₁ B₁ => E f i v₁ A₁.U B₁.U ∧ B₁.locs = A₁.locs ++ [] ∧ B₁.cells = A₁.cells + 0 ∧ B₁.slots = A₁.slots + 0) :=
  (law l x t V n f z fm i).pays htab hfr (by omega)
end ChN
end StrChars
namespace StrChars.Road
open Jvm Sem ClassFile Op Lib Jvm.Stand Jvm.Free Jvm.Free.XT
open Jvm.Lib.Cold (StaticIs)
/-- the words of String.charAt(int), the Latin-1 road alone -/
abbrev wordsChN : List Jvm.Cond := [.code ChN.yN ChN.yB 2 (some .char), .initialized ST, .fieldLink ST 9 ST "value" "[B", .fieldLink ST 38 ST "COMPACT_STRINGS" "Z", .fieldLink ST 15 ST "coder" "B", .code IsL.yN IsL.yB 1 (some .boolean), .methodLink ST 492 IsL.yN, .declares IsL.yN, .selects ST IsL.yN IsL.yN, .instanceMethod IsL.yN,
  .methodLink ST 495 LChA.yN, .static LChA.yN, .code LChA.yN LChA.yB 2 (some .char), .initialized "java/lang/StringLatin1", .methodLink "java/lang/StringLatin1" 9 JO.Str_checkIndex.yN, .static JO.Str_checkIndex.yN, .code JO.Str_checkIndex.yN JO.Str_checkIndex.yB 2 none,
  .fieldLink ST 1053 "jdk/internal/util/Preconditions" "SIOOBE_FORMATTER" "Ljava/util/function/BiFunction;", .methodLink ST 1059 JC.PreCheck.yN, .static JC.PreCheck.yN, .code JC.PreCheck.yN JC.PreCheck.yB 3 (some .int), .initialized "jdk/internal/util/Preconditions"]
theorem tabChN_of {a : Array Value} {s : State} (h : ∀ w ∈ wordsChN, w.before a s = true) : ChN.tab.before a s = true := by
  have hp : JC.PreCheck.tab.before a s = true := unparts (wk h (.code JC.PreCheck.yN JC.PreCheck.yB 3 (some .int))) (wks h (.initialized JC.PreCheck.yN.cls :: JC.PreCheck.site))
  have qk := consq hp h
  have hk : JO.Str_checkIndex.tab.before a s = true := unparts (wk qk (.code JO.Str_checkIndex.yN JO.Str_checkIndex.yB 2 none)) (wks qk (.initialized JO.Str_checkIndex.yN.cls :: JO.Str_checkIndex.site))
  have ql := consq hk h
  have hl : LChA.tab.before a s = true := unparts (wk ql (.code LChA.yN LChA.yB 2 (some .char))) (wks ql (.initialized LChA.yN.cls :: LChA.site))
  have hi : IsL.tab.before a s = true := unparts (wk h (.code IsL.yN IsL.yB 1 (some .boolean))) (wks h (.initialized IsL.yN.cls :: IsL.site))
  have q := consq hi (consq hl h)
  exact unparts (wk q (.code ChN.yN ChN.yB 2 (some .char))) (wks q (.initialized ChN.yN.cls :: ChN.site))
theorem movedChN {Z s : State} {a0 args : Array Value} (hZ : Z.Warmed39 s.vm) (hw : ∀ d ∈ wordsChN, d.before a0 Z = true) : ∀ d ∈ wordsChN, d.before args s = true := fun d hd => by
  have t : ∀ d ∈ wordsChN, (d.onTables && d.keepsFace) = true := by decide +kernel
  exact RoadKit.mv hZ (hw d hd) (t d hd)
/-- **charAt(i) OF A LATIN-1 STRING**, i < n: the char -/
theorem chN {p : Program} {l : Launch} {e : Env} {R : Room} {s : State} {args : Array Value} {below : List Frame} {len W : Nat} {Z : State} {a0 : Array Value} {h : Heap} (hZ : Z.Warmed39 s.vm) (hw : ∀ d ∈ wordsChN, d.before a0 Z = true) {kI : Nat} (wi : (Jvm.Cond.instantiable ST kI).before a0 Z = true)
    {x t : Addr} {kb : ClassId} {cs : List Int32} {N2 z : Int32} {vs : List Value} {fm : Value} {i : Nat} {j : Int32} (E : RoadKit.Exa Z h x ST) (V : RoadKit.Fld Z h x ST "value" "[B" (.ref t)) (C : RoadKit.Fld Z h x ST "coder" "B" (.int 0)) (K : RoadKit.Arv Z h t kb .byte N2 vs (.int 0)) (hc : CodA cs 0 N2 vs) (hb : ∀ c ∈ cs, ¬ c < 0 ∧ ¬ (65535 : Int32) < c)
    (S : RoadKit.Sta Z h ST "COMPACT_STRINGS" "Z" (.int z)) (hz : ¬ z = 0) (F : RoadKit.Sta Z h "jdk/internal/util/Preconditions" "SIOOBE_FORMATTER" "Ljava/util/function/BiFunction;" fm) (rf : fm.isRef = true) (l2 : cs.length ≤ 4000) (hi : i < cs.length) (hj : j = Int32.ofNat i) (hfr : 4 ≤ R.frames) (hlo : W + 53 ≤ R.locals) :
    Back l R p e below s args (⟨"java/lang/String", "charAt", "(I)C"⟩ : MethodName) len W (fun P a => a = #[.ref x, .int j] ∧ P.U.heap = h ∧ P.cells + 0 ≤ R.cells ∧ P.slots + 0 ≤ R.slots)
      (fun P _ v B => ∃ L, (v = some (.int (cs.getD i 0)) ∧ L = [] ∧ B.U.heap = h) ∧ B.locs = P.locs ++ L ∧ B.cells = P.cells + 0 ∧ B.slots = P.slots + 0) := by
  subst hj
  intro m meth c P g ig mk a X hg hsize hdg hW hn hp'
  obtain ⟨rfl, rfl, r1, r2⟩ := hp'
  have al : Z.vm.Alike P.U.vm := hZ.alike.trans X.warmed.alike
  obtain ⟨A, hx⟩ := txt_of wi al E V C K hc hb l2
  obtain ⟨v, B, X', ⟨⟨hv, hh⟩, hl, hk, hs⟩, st⟩ := ChN.pays x t A cs.length (fun j => cs.getD j 0) z fm i (tabChN_of (movedChN hZ hw)) hfr hlo m meth c P g ig mk _ X hg hsize hdg hW hn ⟨r1, r2, rfl, hx, hi, sta_is al S, hz, sta_is al F, rf⟩
  exact ⟨v, B, X', ⟨[], ⟨hv, rfl, hh⟩, hl, hk, hs⟩, st⟩
/-- what backV says of its String, as the contracts of this text ask it: cs's low bytes, coder 0 -/
theorem codOf {cs : List Int32} {n : Nat} (hn : cs.length = n) (hb : ∀ c ∈ cs, ¬ 255 < c) : CodA cs 0 (Int32.ofNat n) ((cs.map lo8).map Value.int) := Or.inl ⟨rfl, by rw [hn], by simp [List.map_map, Function.comp_def], hb⟩
end StrChars.Road
end Jvm.Pilot.@@N@@
namespace Jvm.Pilot.@@N@@
open Jvm Jvm.ClassFile Sem Op Lib Jvm.Free Jvm.Stand Jvm.LawKit Jvm.RoadKit Bundle Jvm.Pilot.@@N@@.Jvm.D
namespace Own
open Jvm Jvm.ClassFile Sem Op Lib Jvm.Free Jvm.Stand Jvm.LawKit Jvm.RoadKit Bundle
abbrev i2c (x : Int32) : Int32 := x.toUInt32.toUInt16.toUInt32.toInt32
/-- from the frame g of T the run comes to an end of which G speaks -/
def Go (p : Program) (e : Env) (below : List Frame) (G : State → Prop) (T : State) (g : JFrame) : Prop := ∃ t, Steps p.tables e below (T.setTop g) t ∧ G t
/-- where a walk stands: Stand, the run's own machine, the heap, the tables, its class, what was written, what was kept -/
def NK (p : Program) (l : Launch) (e : Env) (R : Room) (s : State) (m : MethodId) (args : Array Value) (below : List Frame) (meth : Method) (c : Code) (Z : State) (own : String) (n0 : Nat) (h0 : Heap) (ws : List Addr) (T : State) (h : Heap) (locs : List Loc) (cells slots : Nat) : Prop :=
  Stand p l e R s m args below meth c T locs cells slots ∧ p.tables.exec = Jvm.exec ∧ T.heap = h ∧ Z.Warmed39 s.vm ∧ s.vm.findClass own = some m.cls ∧ Fr n0 locs ∧ Keep h0 h ws ∧ n0 ≤ h0.size ∧ meth.locks = false
theorem Keep.toExt {h h' : Heap} (K : Keep h h' []) : Ext h h' := ⟨K.1, fun a c q => K.2.1 a c q nin0⟩
theorem Keep.ofExt {h h' : Heap} (E : Ext h h') (ws : List Addr) : Keep h h' ws := (Keep.refl h ws).ext E
theorem Ext.rfl' (h : Heap) : Ext h h := ⟨Nat.le_refl _, fun _ _ q => q⟩
theorem Ext.tr {h h' h2 : Heap} (E : Ext h h') (E' : Ext h' h2) : Ext h h2 := ⟨Nat.le_trans E.1 E'.1, fun a c q => E'.2 a c (E.2 a c q)⟩
section Steps1
variable {p : Program} {l : Launch} {e : Env} {R : Room} {s : State} {m : MethodId} {args : Array Value} {below : List Frame} {meth : Method} {c : Code} {Z : State} {own : String} {n0 : Nat} {h0 : Heap} {ws : List Addr} {T T' : State} {h h' : Heap} {locs : List Loc} {cells slots : Nat} {G : State → Prop} {g g' : JFrame} {a0 : Array Value} {pc pc' : Nat} {Ls Ls' : Array Slot} {st rest : List Value}
theorem Go.by1 (f : ∀ t, Steps p.tables e below (T'.setTop g') t → Steps p.tables e below (T.setTop g) t) (k : Go p e below G T' g') : Go p e below G T g := by
  obtain ⟨t, a, b⟩ := k
  exact ⟨t, f t a, b⟩
theorem Go.tr (f : Steps p.tables e below (T.setTop g) (T'.setTop g')) (k : Go p e below G T' g') : Go p e below G T g := by
  obtain ⟨t, a, b⟩ := k
  exact ⟨t, f.trans a, b⟩
/-- a value gets a name -/
theorem lets {α : Type} {P : α → Prop} (x : α) (k : ∀ y, y = x → P y) : P x := k x rfl
theorem NK.iloadN (W : NK p l e R s m args below meth c Z own n0 h0 ws T h locs cells slots) {k : Fin 4} {v : Int32} (hd : decode c.code pc = .ok (.iload_n k, 1)) (hl : Ls[k.val]? = some (.val (.int v))) (hp : pc + 1 = pc') (k' : Go p e below G T (mkF m pc' Ls (.int v :: st))) : Go p e below G T (mkF m pc Ls (st)) := by
  subst hp; exact Go.by1 (fun t q => XS.iloadN W.1.here W.2.1 rfl hd hl q) k'
theorem NK.iload (W : NK p l e R s m args below meth c Z own n0 h0 ws T h locs cells slots) {k : Nat} {v : Int32} (hd : decode c.code pc = .ok (.iload k, 2)) (hl : Ls[k]? = some (.val (.int v))) (hp : pc + 2 = pc') (k' : Go p e below G T (mkF m pc' Ls (.int v :: st))) : Go p e below G T (mkF m pc Ls (st)) := by
  subst hp; exact Go.by1 (fun t q => XS.iload W.1.here W.2.1 rfl hd hl q) k'
theorem NK.istoreN (W : NK p l e R s m args below meth c Z own n0 h0 ws T h locs cells slots) {k : Fin 4} {x : Int32} (hd : decode c.code pc = .ok (.istore_n k, 1)) (hl : storeLocals Ls k.val (.int x) = some Ls') (hp : pc + 1 = pc') (k' : Go p e below G T (mkF m pc' Ls' (rest))) : Go p e below G T (mkF m pc Ls (.int x :: rest)) := by
  subst hp; exact Go.by1 (fun t q => XS.istoreN W.1.here W.2.1 rfl hd rfl hl q) k'
theorem NK.istore (W : NK p l e R s m args below meth c Z own n0 h0 ws T h locs cells slots) {k : Nat} {x : Int32} (hd : decode c.code pc = .ok (.istore k, 2)) (hl : storeLocals Ls k (.int x) = some Ls') (hp : pc + 2 = pc') (k' : Go p e below G T (mkF m pc' Ls' (rest))) : Go p e below G T (mkF m pc Ls (.int x :: rest)) := by
  subst hp; exact Go.by1 (fun t q => XS.istore W.1.here W.2.1 rfl hd rfl hl q) k'
theorem NK.lloadN (W : NK p l e R s m args below meth c Z own n0 h0 ws T h locs cells slots) {k : Fin 4} {v : Int64} (hd : decode c.code pc = .ok (.lload_n k, 1)) (hl : Ls[k.val]? = some (.val (.long v))) (hp : pc + 1 = pc') (k' : Go p e below G T (mkF m pc' Ls (.long v :: st))) : Go p e below G T (mkF m pc Ls (st)) := by
  subst hp; exact Go.by1 (fun t q => XT.lloadN W.1.here W.2.1 rfl hd hl q) k'
theorem NK.lload (W : NK p l e R s m args below meth c Z own n0 h0 ws T h locs cells slots) {k : Nat} {v : Int64} (hd : decode c.code pc = .ok (.lload k, 2)) (hl : Ls[k]? = some (.val (.long v))) (hp : pc + 2 = pc') (k' : Go p e below G T (mkF m pc' Ls (.long v :: st))) : Go p e below G T (mkF m pc Ls (st)) := by
  subst hp; exact Go.by1 (fun t q => XT.lload W.1.here W.2.1 rfl hd hl q) k'
theorem NK.lstoreN (W : NK p l e R s m args below meth c Z own n0 h0 ws T h locs cells slots) {k : Fin 4} {x : Int64} (hd : decode c.code pc = .ok (.lstore_n k, 1)) (hl : storeLocals Ls k.val (.long x) = some Ls') (hp : pc + 1 = pc') (k' : Go p e below G T (mkF m pc' Ls' (rest))) : Go p e below G T (mkF m pc Ls (.long x :: rest)) := by
  subst hp; exact Go.by1 (fun t q => XT.lstoreN W.1.here W.2.1 rfl hd rfl hl q) k'
theorem NK.lstore (W : NK p l e R s m args below meth c Z own n0 h0 ws T h locs cells slots) {k : Nat} {x : Int64} (hd : decode c.code pc = .ok (.lstore k, 2)) (hl : storeLocals Ls k (.long x) = some Ls') (hp : pc + 2 = pc') (k' : Go p e below G T (mkF m pc' Ls' (rest))) : Go p e below G T (mkF m pc Ls (.long x :: rest)) := by
  subst hp; exact Go.by1 (fun t q => XT.lstore W.1.here W.2.1 rfl hd rfl hl q) k'
theorem NK.aloadN (W : NK p l e R s m args below meth c Z own n0 h0 ws T h locs cells slots) {k : Fin 4} {v : Value} (hd : decode c.code pc = .ok (.aload_n k, 1)) (hl : Ls[k.val]? = some (.val v)) (hv : v.isRef = true) (hp : pc + 1 = pc') (k' : Go p e below G T (mkF m pc' Ls (v :: st))) : Go p e below G T (mkF m pc Ls (st)) := by
  subst hp; exact Go.by1 (fun t q => XS.aloadN W.1.here W.2.1 rfl hd hl hv q) k'
theorem NK.aload (W : NK p l e R s m args below meth c Z own n0 h0 ws T h locs cells slots) {k : Nat} {v : Value} (hd : decode c.code pc = .ok (.aload k, 2)) (hl : Ls[k]? = some (.val v)) (hv : v.isRef = true) (hp : pc + 2 = pc') (k' : Go p e below G T (mkF m pc' Ls (v :: st))) : Go p e below G T (mkF m pc Ls (st)) := by
  subst hp; exact Go.by1 (fun t q => XS.aload W.1.here W.2.1 rfl hd hl hv q) k'
theorem NK.astoreN (W : NK p l e R s m args below meth c Z own n0 h0 ws T h locs cells slots) {k : Fin 4} {x : Value} (hd : decode c.code pc = .ok (.astore_n k, 1)) (hv : x.isRef = true) (hl : storeLocals Ls k.val x = some Ls') (hp : pc + 1 = pc') (k' : Go p e below G T (mkF m pc' Ls' (rest))) : Go p e below G T (mkF m pc Ls (x :: rest)) := by
  subst hp; exact Go.by1 (fun t q => XS.astoreN W.1.here W.2.1 rfl hd rfl hv hl q) k'
theorem NK.astore (W : NK p l e R s m args below meth c Z own n0 h0 ws T h locs cells slots) {k : Nat} {x : Value} (hd : decode c.code pc = .ok (.astore k, 2)) (hv : x.isRef = true) (hl : storeLocals Ls k x = some Ls') (hp : pc + 2 = pc') (k' : Go p e below G T (mkF m pc' Ls' (rest))) : Go p e below G T (mkF m pc Ls (x :: rest)) := by
  subst hp; exact Go.by1 (fun t q => XS.astore W.1.here W.2.1 rfl hd rfl hv hl q) k'
theorem NK.iconst (W : NK p l e R s m args below meth c Z own n0 h0 ws T h locs cells slots) {i : Int} (v : Int32) (hd : decode c.code pc = .ok (.iconst i, 1)) (hv : Int32.ofInt i = v) (hp : pc + 1 = pc') (k' : Go p e below G T (mkF m pc' Ls (.int v :: st))) : Go p e below G T (mkF m pc Ls (st)) := by
  subst hp; exact Go.by1 (fun t q => XT.iconstV W.1.here W.2.1 rfl v hd hv q) k'
theorem NK.bipush (W : NK p l e R s m args below meth c Z own n0 h0 ws T h locs cells slots) {i : Int} (v : Int32) (hd : decode c.code pc = .ok (.bipush i, 2)) (hv : (Int8.ofInt i).toInt32 = v) (hp : pc + 2 = pc') (k' : Go p e below G T (mkF m pc' Ls (.int v :: st))) : Go p e below G T (mkF m pc Ls (st)) := by
  subst hp; exact Go.by1 (fun t q => XT.bipushV W.1.here W.2.1 rfl v hd hv q) k'
theorem NK.sipush (W : NK p l e R s m args below meth c Z own n0 h0 ws T h locs cells slots) {i : Int} (v : Int32) (hd : decode c.code pc = .ok (.sipush i, 3)) (hv : (Int16.ofInt i).toInt32 = v) (hp : pc + 3 = pc') (k' : Go p e below G T (mkF m pc' Ls (.int v :: st))) : Go p e below G T (mkF m pc Ls (st)) := by
  subst hp; exact Go.by1 (fun t q => XT.sipushV W.1.here W.2.1 rfl v hd hv q) k'
theorem NK.lconst (W : NK p l e R s m args below meth c Z own n0 h0 ws T h locs cells slots) {k : Fin 2} (v : Int64) (hd : decode c.code pc = .ok (.lconst k, 1)) (hv : Int64.ofNat k = v) (hp : pc + 1 = pc') (k' : Go p e below G T (mkF m pc' Ls (.long v :: st))) : Go p e below G T (mkF m pc Ls (st)) := by
  subst hp; exact Go.by1 (fun t q => XT.lconstV W.1.here W.2.1 rfl v hd hv q) k'
theorem NK.aconstNull (W : NK p l e R s m args below meth c Z own n0 h0 ws T h locs cells slots)  (hd : decode c.code pc = .ok (.aconst_null, 1))  (hp : pc + 1 = pc') (k' : Go p e below G T (mkF m pc' Ls (.null :: st))) : Go p e below G T (mkF m pc Ls (st)) := by
  subst hp; exact Go.by1 (fun t q => XS.aconstNull W.1.here W.2.1 rfl hd q) k'
theorem NK.iadd (W : NK p l e R s m args below meth c Z own n0 h0 ws T h locs cells slots) {x y : Int32} (hd : decode c.code pc = .ok (.iadd, 1))  (hp : pc + 1 = pc') (k' : Go p e below G T (mkF m pc' Ls (.int (x + y) :: rest))) : Go p e below G T (mkF m pc Ls (.int y :: .int x :: rest)) := by
  subst hp; exact Go.by1 (fun t q => XS.iadd W.1.here W.2.1 rfl hd rfl q) k'
theorem NK.isub (W : NK p l e R s m args below meth c Z own n0 h0 ws T h locs cells slots) {x y : Int32} (hd : decode c.code pc = .ok (.isub, 1))  (hp : pc + 1 = pc') (k' : Go p e below G T (mkF m pc' Ls (.int (x - y) :: rest))) : Go p e below G T (mkF m pc Ls (.int y :: .int x :: rest)) := by
  subst hp; exact Go.by1 (fun t q => XS.isub W.1.here W.2.1 rfl hd rfl q) k'
theorem NK.iand (W : NK p l e R s m args below meth c Z own n0 h0 ws T h locs cells slots) {x y : Int32} (hd : decode c.code pc = .ok (.iand, 1))  (hp : pc + 1 = pc') (k' : Go p e below G T (mkF m pc' Ls (.int (x &&& y) :: rest))) : Go p e below G T (mkF m pc Ls (.int y :: .int x :: rest)) := by
  subst hp; exact Go.by1 (fun t q => XS.iand W.1.here W.2.1 rfl hd rfl q) k'
theorem NK.imul (W : NK p l e R s m args below meth c Z own n0 h0 ws T h locs cells slots) {x y : Int32} (hd : decode c.code pc = .ok (.imul, 1))  (hp : pc + 1 = pc') (k' : Go p e below G T (mkF m pc' Ls (.int (x * y) :: rest))) : Go p e below G T (mkF m pc Ls (.int y :: .int x :: rest)) := by
  subst hp; exact Go.by1 (fun t q => XS.imul W.1.here W.2.1 rfl hd rfl q) k'
theorem NK.ixor (W : NK p l e R s m args below meth c Z own n0 h0 ws T h locs cells slots) {x y : Int32} (hd : decode c.code pc = .ok (.ixor, 1))  (hp : pc + 1 = pc') (k' : Go p e below G T (mkF m pc' Ls (.int (x ^^^ y) :: rest))) : Go p e below G T (mkF m pc Ls (.int y :: .int x :: rest)) := by
  subst hp; exact Go.by1 (fun t q => XT.ixor W.1.here W.2.1 rfl hd rfl q) k'
theorem NK.ior (W : NK p l e R s m args below meth c Z own n0 h0 ws T h locs cells slots) {x y : Int32} (hd : decode c.code pc = .ok (.ior, 1))  (hp : pc + 1 = pc') (k' : Go p e below G T (mkF m pc' Ls (.int (x ||| y) :: rest))) : Go p e below G T (mkF m pc Ls (.int y :: .int x :: rest)) := by
  subst hp; exact Go.by1 (fun t q => XT.ior W.1.here W.2.1 rfl hd rfl q) k'
theorem NK.ishl (W : NK p l e R s m args below meth c Z own n0 h0 ws T h locs cells slots) {x y : Int32} (hd : decode c.code pc = .ok (.ishl, 1))  (hp : pc + 1 = pc') (k' : Go p e below G T (mkF m pc' Ls (.int (x <<< (y &&& 31)) :: rest))) : Go p e below G T (mkF m pc Ls (.int y :: .int x :: rest)) := by
  subst hp; exact Go.by1 (fun t q => XT.ishl W.1.here W.2.1 rfl hd rfl q) k'
theorem NK.ishr (W : NK p l e R s m args below meth c Z own n0 h0 ws T h locs cells slots) {x y : Int32} (hd : decode c.code pc = .ok (.ishr, 1))  (hp : pc + 1 = pc') (k' : Go p e below G T (mkF m pc' Ls (.int (x >>> (y &&& 31)) :: rest))) : Go p e below G T (mkF m pc Ls (.int y :: .int x :: rest)) := by
  subst hp; exact Go.by1 (fun t q => XT.ishr W.1.here W.2.1 rfl hd rfl q) k'
theorem NK.iushr (W : NK p l e R s m args below meth c Z own n0 h0 ws T h locs cells slots) {x y : Int32} (hd : decode c.code pc = .ok (.iushr, 1))  (hp : pc + 1 = pc') (k' : Go p e below G T (mkF m pc' Ls (.int (XT.ushr x y) :: rest))) : Go p e below G T (mkF m pc Ls (.int y :: .int x :: rest)) := by
  subst hp; exact Go.by1 (fun t q => XT.iushr W.1.here W.2.1 rfl hd rfl q) k'
theorem NK.ladd (W : NK p l e R s m args below meth c Z own n0 h0 ws T h locs cells slots) {x y : Int64} (hd : decode c.code pc = .ok (.ladd, 1))  (hp : pc + 1 = pc') (k' : Go p e below G T (mkF m pc' Ls (.long (x + y) :: rest))) : Go p e below G T (mkF m pc Ls (.long y :: .long x :: rest)) := by
  subst hp; exact Go.by1 (fun t q => XT.ladd W.1.here W.2.1 rfl hd rfl q) k'
theorem NK.lsub (W : NK p l e R s m args below meth c Z own n0 h0 ws T h locs cells slots) {x y : Int64} (hd : decode c.code pc = .ok (.lsub, 1))  (hp : pc + 1 = pc') (k' : Go p e below G T (mkF m pc' Ls (.long (x - y) :: rest))) : Go p e below G T (mkF m pc Ls (.long y :: .long x :: rest)) := by
  subst hp; exact Go.by1 (fun t q => XT.lsub W.1.here W.2.1 rfl hd rfl q) k'
theorem NK.lmul (W : NK p l e R s m args below meth c Z own n0 h0 ws T h locs cells slots) {x y : Int64} (hd : decode c.code pc = .ok (.lmul, 1))  (hp : pc + 1 = pc') (k' : Go p e below G T (mkF m pc' Ls (.long (x * y) :: rest))) : Go p e below G T (mkF m pc Ls (.long y :: .long x :: rest)) := by
  subst hp; exact Go.by1 (fun t q => XT.lmul W.1.here W.2.1 rfl hd rfl q) k'
theorem NK.land (W : NK p l e R s m args below meth c Z own n0 h0 ws T h locs cells slots) {x y : Int64} (hd : decode c.code pc = .ok (.land, 1))  (hp : pc + 1 = pc') (k' : Go p e below G T (mkF m pc' Ls (.long (x &&& y) :: rest))) : Go p e below G T (mkF m pc Ls (.long y :: .long x :: rest)) := by
  subst hp; exact Go.by1 (fun t q => XT.land W.1.here W.2.1 rfl hd rfl q) k'
theorem NK.lor (W : NK p l e R s m args below meth c Z own n0 h0 ws T h locs cells slots) {x y : Int64} (hd : decode c.code pc = .ok (.lor, 1))  (hp : pc + 1 = pc') (k' : Go p e below G T (mkF m pc' Ls (.long (x ||| y) :: rest))) : Go p e below G T (mkF m pc Ls (.long y :: .long x :: rest)) := by
  subst hp; exact Go.by1 (fun t q => XT.lor W.1.here W.2.1 rfl hd rfl q) k'
theorem NK.lxor (W : NK p l e R s m args below meth c Z own n0 h0 ws T h locs cells slots) {x y : Int64} (hd : decode c.code pc = .ok (.lxor, 1))  (hp : pc + 1 = pc') (k' : Go p e below G T (mkF m pc' Ls (.long (x ^^^ y) :: rest))) : Go p e below G T (mkF m pc Ls (.long y :: .long x :: rest)) := by
  subst hp; exact Go.by1 (fun t q => XT.lxor W.1.here W.2.1 rfl hd rfl q) k'
theorem NK.lshl (W : NK p l e R s m args below meth c Z own n0 h0 ws T h locs cells slots) {x : Int64} {y : Int32} (hd : decode c.code pc = .ok (.lshl, 1))  (hp : pc + 1 = pc') (k' : Go p e below G T (mkF m pc' Ls (.long (x <<< (y.toInt64 &&& 63)) :: rest))) : Go p e below G T (mkF m pc Ls (.int y :: .long x :: rest)) := by
  subst hp; exact Go.by1 (fun t q => XT.lshl W.1.here W.2.1 rfl hd rfl q) k'
theorem NK.lshr (W : NK p l e R s m args below meth c Z own n0 h0 ws T h locs cells slots) {x : Int64} {y : Int32} (hd : decode c.code pc = .ok (.lshr, 1))  (hp : pc + 1 = pc') (k' : Go p e below G T (mkF m pc' Ls (.long (x >>> (y.toInt64 &&& 63)) :: rest))) : Go p e below G T (mkF m pc Ls (.int y :: .long x :: rest)) := by
  subst hp; exact Go.by1 (fun t q => XT.lshr W.1.here W.2.1 rfl hd rfl q) k'
theorem NK.lushr (W : NK p l e R s m args below meth c Z own n0 h0 ws T h locs cells slots) {x : Int64} {y : Int32} (hd : decode c.code pc = .ok (.lushr, 1))  (hp : pc + 1 = pc') (k' : Go p e below G T (mkF m pc' Ls (.long (XT.ushrL x y) :: rest))) : Go p e below G T (mkF m pc Ls (.int y :: .long x :: rest)) := by
  subst hp; exact Go.by1 (fun t q => XT.lushr W.1.here W.2.1 rfl hd rfl q) k'
theorem NK.ldiv (W : NK p l e R s m args below meth c Z own n0 h0 ws T h locs cells slots) {x y : Int64} (hd : decode c.code pc = .ok (.ldiv, 1)) (hy : y ≠ 0) (hp : pc + 1 = pc') (k' : Go p e below G T (mkF m pc' Ls (.long (x / y) :: rest))) : Go p e below G T (mkF m pc Ls (.long y :: .long x :: rest)) := by
  subst hp; exact Go.by1 (fun t q => XT.ldiv W.1.here W.2.1 rfl hd rfl hy q) k'
theorem NK.lrem (W : NK p l e R s m args below meth c Z own n0 h0 ws T h locs cells slots) {x y : Int64} (hd : decode c.code pc = .ok (.lrem, 1)) (hy : y ≠ 0) (hp : pc + 1 = pc') (k' : Go p e below G T (mkF m pc' Ls (.long (x - (x / y) * y) :: rest))) : Go p e below G T (mkF m pc Ls (.long y :: .long x :: rest)) := by
  subst hp; exact Go.by1 (fun t q => XT.lrem W.1.here W.2.1 rfl hd rfl hy q) k'
theorem NK.idiv (W : NK p l e R s m args below meth c Z own n0 h0 ws T h locs cells slots) {x y : Int32} (hd : decode c.code pc = .ok (.idiv, 1)) (hy : y ≠ 0) (hp : pc + 1 = pc') (k' : Go p e below G T (mkF m pc' Ls (.int (x / y) :: rest))) : Go p e below G T (mkF m pc Ls (.int y :: .int x :: rest)) := by
  subst hp; exact Go.by1 (fun t q => XS.idiv W.1.here W.2.1 rfl hd rfl hy q) k'
theorem NK.irem (W : NK p l e R s m args below meth c Z own n0 h0 ws T h locs cells slots) {x y : Int32} (hd : decode c.code pc = .ok (.irem, 1)) (hy : y ≠ 0) (hp : pc + 1 = pc') (k' : Go p e below G T (mkF m pc' Ls (.int (x % y) :: rest))) : Go p e below G T (mkF m pc Ls (.int y :: .int x :: rest)) := by
  subst hp; exact Go.by1 (fun t q => iremM W.1 W.2.1 rfl hd rfl hy q) k'
theorem NK.ineg (W : NK p l e R s m args below meth c Z own n0 h0 ws T h locs cells slots) {x : Int32} (hd : decode c.code pc = .ok (.ineg, 1))  (hp : pc + 1 = pc') (k' : Go p e below G T (mkF m pc' Ls (.int (-x) :: rest))) : Go p e below G T (mkF m pc Ls (.int x :: rest)) := by
  subst hp; exact Go.by1 (fun t q => XS.ineg W.1.here W.2.1 rfl hd rfl q) k'
theorem NK.lneg (W : NK p l e R s m args below meth c Z own n0 h0 ws T h locs cells slots) {x : Int64} (hd : decode c.code pc = .ok (.lneg, 1))  (hp : pc + 1 = pc') (k' : Go p e below G T (mkF m pc' Ls (.long (-x) :: rest))) : Go p e below G T (mkF m pc Ls (.long x :: rest)) := by
  subst hp; exact Go.by1 (fun t q => XT.lneg W.1.here W.2.1 rfl hd rfl q) k'
theorem NK.i2l (W : NK p l e R s m args below meth c Z own n0 h0 ws T h locs cells slots) {x : Int32} (hd : decode c.code pc = .ok (.i2l, 1))  (hp : pc + 1 = pc') (k' : Go p e below G T (mkF m pc' Ls (.long x.toInt64 :: rest))) : Go p e below G T (mkF m pc Ls (.int x :: rest)) := by
  subst hp; exact Go.by1 (fun t q => XT.i2l W.1.here W.2.1 rfl hd rfl q) k'
theorem NK.l2i (W : NK p l e R s m args below meth c Z own n0 h0 ws T h locs cells slots) {x : Int64} (hd : decode c.code pc = .ok (.l2i, 1))  (hp : pc + 1 = pc') (k' : Go p e below G T (mkF m pc' Ls (.int x.toInt32 :: rest))) : Go p e below G T (mkF m pc Ls (.long x :: rest)) := by
  subst hp; exact Go.by1 (fun t q => XT.l2i W.1.here W.2.1 rfl hd rfl q) k'
theorem NK.i2b (W : NK p l e R s m args below meth c Z own n0 h0 ws T h locs cells slots) {x : Int32} (hd : decode c.code pc = .ok (.i2b, 1))  (hp : pc + 1 = pc') (k' : Go p e below G T (mkF m pc' Ls (.int x.toInt8.toInt32 :: rest))) : Go p e below G T (mkF m pc Ls (.int x :: rest)) := by
  subst hp; exact Go.by1 (fun t q => XT.i2b W.1.here W.2.1 rfl hd rfl q) k'
theorem NK.i2c (W : NK p l e R s m args below meth c Z own n0 h0 ws T h locs cells slots) {x : Int32} (hd : decode c.code pc = .ok (.i2c, 1))  (hp : pc + 1 = pc') (k' : Go p e below G T (mkF m pc' Ls (.int (i2c x) :: rest))) : Go p e below G T (mkF m pc Ls (.int x :: rest)) := by
  subst hp; exact Go.by1 (fun t q => XT.i2c W.1.here W.2.1 rfl hd rfl q) k'
theorem NK.lcmp (W : NK p l e R s m args below meth c Z own n0 h0 ws T h locs cells slots) {x y : Int64} (hd : decode c.code pc = .ok (.lcmp, 1))  (hp : pc + 1 = pc') (k' : Go p e below G T (mkF m pc' Ls (.int (XT.cmpL x y) :: rest))) : Go p e below G T (mkF m pc Ls (.long y :: .long x :: rest)) := by
  subst hp; exact Go.by1 (fun t q => XT.lcmp W.1.here W.2.1 rfl hd rfl q) k'
theorem NK.iinc (W : NK p l e R s m args below meth c Z own n0 h0 ws T h locs cells slots) {k : Nat} {i : Int} {x : Int32} (v : Int32) (hd : decode c.code pc = .ok (.iinc k i, 3)) (hv : Int32.ofInt i = v) (hl : Ls[k]? = some (.val (.int x))) (hl' : storeLocals Ls k (.int (x + v)) = some Ls') (hp : pc + 3 = pc') (k' : Go p e below G T (mkF m pc' Ls' (st))) : Go p e below G T (mkF m pc Ls (st)) := by
  subst hp; exact Go.by1 (fun t q => XT.iincV W.1.here W.2.1 rfl v hd hv hl hl' q) k'
theorem NK.dup (W : NK p l e R s m args below meth c Z own n0 h0 ws T h locs cells slots) {x : Value} (hd : decode c.code pc = .ok (.dup, 1)) (hc : x.category = 1) (hp : pc + 1 = pc') (k' : Go p e below G T (mkF m pc' Ls (x :: x :: rest))) : Go p e below G T (mkF m pc Ls (x :: rest)) := by
  subst hp; exact Go.by1 (fun t q => XS.dup W.1.here W.2.1 rfl hd rfl hc q) k'
theorem NK.pop (W : NK p l e R s m args below meth c Z own n0 h0 ws T h locs cells slots) {x : Value} (hd : decode c.code pc = .ok (.pop, 1)) (hc : x.category = 1) (hp : pc + 1 = pc') (k' : Go p e below G T (mkF m pc' Ls (rest))) : Go p e below G T (mkF m pc Ls (x :: rest)) := by
  subst hp; exact Go.by1 (fun t q => XT.pop W.1.here W.2.1 rfl hd rfl hc q) k'
theorem NK.dupX1 (W : NK p l e R s m args below meth c Z own n0 h0 ws T h locs cells slots) {x y : Value} (hd : decode c.code pc = .ok (.dup_x1, 1)) (hc : x.category = 1) (hc' : y.category = 1) (hp : pc + 1 = pc') (k' : Go p e below G T (mkF m pc' Ls (x :: y :: x :: rest))) : Go p e below G T (mkF m pc Ls (x :: y :: rest)) := by
  subst hp; exact Go.by1 (fun t q => XT.dupX1 W.1.here W.2.1 rfl hd rfl hc hc' q) k'
theorem NK.dup2 (W : NK p l e R s m args below meth c Z own n0 h0 ws T h locs cells slots) {x y : Value} (hd : decode c.code pc = .ok (.dup2, 1)) (hc : x.category = 1) (hc' : y.category = 1) (hp : pc + 1 = pc') (k' : Go p e below G T (mkF m pc' Ls (x :: y :: x :: y :: rest))) : Go p e below G T (mkF m pc Ls (x :: y :: rest)) := by
  subst hp; exact Go.by1 (fun t q => XT.dup2 W.1.here W.2.1 rfl hd rfl hc hc' q) k'
theorem NK.goto (W : NK p l e R s m args below meth c Z own n0 h0 ws T h locs cells slots)  {o : Int} (hd : decode c.code pc = .ok (.goto o, 3))  (ho : 0 ≤ (pc : Int) + o) (hp : ((pc : Int) + o).toNat = pc') (k' : Go p e below G T (mkF m pc' Ls (rest))) : Go p e below G T (mkF m pc Ls (rest)) := by
  exact Go.by1 (fun t q => XS.goto W.1.here W.2.1 rfl rfl hd ho hp q) k'
theorem NK.ifYes (W : NK p l e R s m args below meth c Z own n0 h0 ws T h locs cells slots) {cd : ClassFile.Cond} {x : Int32} {o : Int} (hd : decode c.code pc = .ok (.ifCond cd o, 3)) (hc : ifCond.holds cd x = true) (ho : 0 ≤ (pc : Int) + o) (hp : ((pc : Int) + o).toNat = pc') (k' : Go p e below G T (mkF m pc' Ls (rest))) : Go p e below G T (mkF m pc Ls (.int x :: rest)) := by
  exact Go.by1 (fun t q => XS.ifYes W.1.here W.2.1 rfl rfl hd rfl hc ho hp q) k'
theorem NK.icmpYes (W : NK p l e R s m args below meth c Z own n0 h0 ws T h locs cells slots) {cd : ClassFile.Cond} {x y : Int32} {o : Int} (hd : decode c.code pc = .ok (.if_icmp cd o, 3)) (hc : if_icmp.holds cd x y = true) (ho : 0 ≤ (pc : Int) + o) (hp : ((pc : Int) + o).toNat = pc') (k' : Go p e below G T (mkF m pc' Ls (rest))) : Go p e below G T (mkF m pc Ls (.int y :: .int x :: rest)) := by
  exact Go.by1 (fun t q => XS.icmpYes W.1.here W.2.1 rfl rfl hd rfl hc ho hp q) k'
theorem NK.ifNo (W : NK p l e R s m args below meth c Z own n0 h0 ws T h locs cells slots) {cd : ClassFile.Cond} {x : Int32} {o : Int} (hd : decode c.code pc = .ok (.ifCond cd o, 3)) (hc : ifCond.holds cd x = false) (hp : pc + 3 = pc') (k' : Go p e below G T (mkF m pc' Ls (rest))) : Go p e below G T (mkF m pc Ls (.int x :: rest)) := by
  subst hp; exact Go.by1 (fun t q => XS.ifNo W.1.here W.2.1 rfl hd rfl hc q) k'
theorem NK.icmpNo (W : NK p l e R s m args below meth c Z own n0 h0 ws T h locs cells slots) {cd : ClassFile.Cond} {x y : Int32} {o : Int} (hd : decode c.code pc = .ok (.if_icmp cd o, 3)) (hc : if_icmp.holds cd x y = false) (hp : pc + 3 = pc') (k' : Go p e below G T (mkF m pc' Ls (rest))) : Go p e below G T (mkF m pc Ls (.int y :: .int x :: rest)) := by
  subst hp; exact Go.by1 (fun t q => XS.icmpNo W.1.here W.2.1 rfl hd rfl hc q) k'
theorem NK.ifnullYes (W : NK p l e R s m args below meth c Z own n0 h0 ws T h locs cells slots)  {o : Int} (hd : decode c.code pc = .ok (.ifnull o, 3))  (ho : 0 ≤ (pc : Int) + o) (hp : ((pc : Int) + o).toNat = pc') (k' : Go p e below G T (mkF m pc' Ls (rest))) : Go p e below G T (mkF m pc Ls (.null :: rest)) := by
  exact Go.by1 (fun t q => XS.ifnullYes W.1.here W.2.1 rfl rfl hd rfl ho hp q) k'
theorem NK.ifnonnullYes (W : NK p l e R s m args below meth c Z own n0 h0 ws T h locs cells slots) {b : Addr} {o : Int} (hd : decode c.code pc = .ok (.ifnonnull o, 3))  (ho : 0 ≤ (pc : Int) + o) (hp : ((pc : Int) + o).toNat = pc') (k' : Go p e below G T (mkF m pc' Ls (rest))) : Go p e below G T (mkF m pc Ls (.ref b :: rest)) := by
  exact Go.by1 (fun t q => XT.ifnonnullYes W.1.here W.2.1 rfl rfl hd rfl ho hp q) k'
theorem NK.ifnullNo (W : NK p l e R s m args below meth c Z own n0 h0 ws T h locs cells slots) {b : Addr} {o : Int} (hd : decode c.code pc = .ok (.ifnull o, 3))  (hp : pc + 3 = pc') (k' : Go p e below G T (mkF m pc' Ls (rest))) : Go p e below G T (mkF m pc Ls (.ref b :: rest)) := by
  subst hp; exact Go.by1 (fun t q => XS.ifnullNo W.1.here W.2.1 rfl hd rfl q) k'
theorem NK.ifnonnullNo (W : NK p l e R s m args below meth c Z own n0 h0 ws T h locs cells slots) {o : Int} (hd : decode c.code pc = .ok (.ifnonnull o, 3))  (hp : pc + 3 = pc') (k' : Go p e below G T (mkF m pc' Ls (rest))) : Go p e below G T (mkF m pc Ls (.null :: rest)) := by
  subst hp; exact Go.by1 (fun t q => XT.ifnonnullNo W.1.here W.2.1 rfl hd rfl q) k'
theorem NK.acmpYes (W : NK p l e R s m args below meth c Z own n0 h0 ws T h locs cells slots) {cd : ClassFile.ACond} {x y : Value} {o : Int} (hd : decode c.code pc = .ok (.if_acmp cd o, 3)) (h1 : x.isRef = true) (h2 : y.isRef = true) (hc : XT.acmp cd x y = true) (ho : 0 ≤ (pc : Int) + o) (hp : ((pc : Int) + o).toNat = pc') (k' : Go p e below G T (mkF m pc' Ls (rest))) : Go p e below G T (mkF m pc Ls (y :: x :: rest)) := by
  exact Go.by1 (fun t q => XT.acmpYes W.1.here W.2.1 rfl rfl hd rfl h1 h2 hc ho hp q) k'
theorem NK.acmpNo (W : NK p l e R s m args below meth c Z own n0 h0 ws T h locs cells slots) {cd : ClassFile.ACond} {x y : Value} {o : Int} (hd : decode c.code pc = .ok (.if_acmp cd o, 3)) (h1 : x.isRef = true) (h2 : y.isRef = true) (hc : XT.acmp cd x y = false) (hp : pc + 3 = pc') (k' : Go p e below G T (mkF m pc' Ls (rest))) : Go p e below G T (mkF m pc Ls (y :: x :: rest)) := by
  subst hp; exact Go.by1 (fun t q => XT.acmpNo W.1.here W.2.1 rfl hd rfl h1 h2 hc q) k'
theorem NK.ldcI (W : NK p l e R s m args below meth c Z own n0 h0 ws T h locs cells slots) {index : Nat} {v : Int32} (hd : decode c.code pc = .ok (.ldc index, 2)) (w : (Cond.constant own index v).before a0 Z = true) (hp : pc + 2 = pc') (k' : Go p e below G T (mkF m pc' Ls (.int v :: st))) : Go p e below G T (mkF m pc Ls (st)) := by
  subst hp; exact Go.by1 (fun t q => W.1.ldcI W.2.1 W.2.2.2.2.1 (mv W.2.2.2.1 w) rfl hd q) k'
theorem NK.ldcWI (W : NK p l e R s m args below meth c Z own n0 h0 ws T h locs cells slots) {index : Nat} {v : Int32} (hd : decode c.code pc = .ok (.ldc_w index, 3)) (w : (Cond.constant own index v).before a0 Z = true) (hp : pc + 3 = pc') (k' : Go p e below G T (mkF m pc' Ls (.int v :: st))) : Go p e below G T (mkF m pc Ls (st)) := by
  subst hp; exact Go.by1 (fun t q => W.1.ldcWI W.2.1 W.2.2.2.2.1 (mv W.2.2.2.1 w) rfl hd q) k'
theorem NK.ldc2J (W : NK p l e R s m args below meth c Z own n0 h0 ws T h locs cells slots) {index : Nat} {v : Int64} (hd : decode c.code pc = .ok (.ldc2_w index, 3)) (w : (Cond.constantLong own index v).before a0 Z = true) (hp : pc + 3 = pc') (k' : Go p e below G T (mkF m pc' Ls (.long v :: st))) : Go p e below G T (mkF m pc Ls (st)) := by
  subst hp; exact Go.by1 (fun t q => W.1.ldc2J W.2.1 W.2.2.2.2.1 (mv W.2.2.2.1 w) rfl hd q) k'
end Steps1
section Nums1
theorem i2c_i2c (x : Int32) : i2c (i2c x) = i2c x := by simp only [i2c, UInt32.toUInt32_toInt32, UInt16.toUInt16_toUInt32]
theorem i2c_toInt (x : Int32) : (i2c x).toInt = x.toInt % 65536 := by
  have h1 : (i2c x).toBitVec = (x.toBitVec.setWidth 16).setWidth 32 := rfl
  have h2 : x.toInt = x.toBitVec.toInt := rfl
  have h3 : (i2c x).toInt = (i2c x).toBitVec.toInt := rfl
  rw [h2, h3, h1, BitVec.toInt_eq_toNat_cond, BitVec.toInt_eq_toNat_cond]
  have := x.toBitVec.isLt
  simp only [BitVec.toNat_setWidth]
  omega
theorem i2c_id {c : Int32} (h0 : ¬ c < 0) (h1 : ¬ 65535 < c) : i2c c = c := by
  apply Int32.toInt_inj.mp
  rw [i2c_toInt]
  simp only [Int32.lt_iff_toInt_lt, Int32.reduceToInt] at h0 h1
  omega
theorem i2c_lo (x : Int32) : ¬ i2c x < 0 ∧ ¬ 65535 < i2c x := by
  simp only [Int32.lt_iff_toInt_lt, Int32.reduceToInt, i2c_toInt]
  omega
theorem and_toInt (x : Int32) (k : Nat) (hk : k < 2^31): (x &&& Int32.ofNat k).toInt = ((x.toBitVec.toNat &&& k : Nat) : Int) := by
  have h3 : (x &&& Int32.ofNat k).toInt = (x.toBitVec &&& (Int32.ofNat k).toBitVec).toInt := rfl
  rw [h3, BitVec.toInt_eq_toNat_cond, BitVec.toNat_and]
  have e : (Int32.ofNat k).toBitVec.toNat = k := by
    show (BitVec.ofNat 32 k).toNat = k
    simp; omega
  rw [e]
  have : (x.toBitVec.toNat &&& k) ≤ k := Nat.and_le_right
  omega
theorem and255_lat (x : Int32) : ¬ (x &&& 255) < 0 ∧ ¬ 255 < (x &&& 255) := by
  have := and_toInt x 255 (by decide)
  have h : (x.toBitVec.toNat &&& 255) ≤ 255 := Nat.and_le_right
  have e : (Int32.ofNat 255) = (255 : Int32) := rfl
  rw [e] at this
  simp only [Int32.lt_iff_toInt_lt, Int32.reduceToInt, this]
  omega
theorem and_nonneg (x : Int32) : ¬ (x &&& 2147483647) < 0 := by
  have := and_toInt x 2147483647 (by decide)
  have e : (Int32.ofNat 2147483647) = (2147483647 : Int32) := rfl
  rw [e] at this
  simp only [Int32.lt_iff_toInt_lt, Int32.reduceToInt, this]
  omega
theorem rem_range {x : Int32} (k : Nat) (hk : 0 < k) (hk2 : k < 2^31) (hx : ¬ x < 0) : ∃ n : Nat, n < k ∧ x % Int32.ofNat k = Int32.ofNat n := by
  have e : (Int32.ofNat k).toInt = k := by
    have hz : Int32.size = 4294967296 := rfl
    rw [Int32.toInt_ofNat', Int.bmod_eq_of_le] <;> omega
  simp only [Int32.lt_iff_toInt_lt, Int32.reduceToInt] at hx
  refine ⟨(x.toInt % k).toNat, ?_, ?_⟩
  · have := Int.emod_lt_of_pos x.toInt (show (0:Int) < k by omega)
    have := Int.emod_nonneg x.toInt (show (k:Int) ≠ 0 by omega)
    omega
  · apply Int32.toInt_inj.mp
    rw [Int32.toInt_mod, e, Int32.toInt_ofNat']
    have := Int.emod_lt_of_pos x.toInt (show (0:Int) < k by omega)
    have := Int.emod_nonneg x.toInt (show (k:Int) ≠ 0 by omega)
    have hz : Int32.size = 4294967296 := rfl
    rw [Int.tmod_eq_emod_of_nonneg (by omega), Int.bmod_eq_of_le] <;> omega

theorem i2c_and255 (x : Int32) : i2c (x &&& 255) = x &&& 255 := i2c_id (and255_lat x).1 (by
  have := (and255_lat x).2
  simp only [Int32.lt_iff_toInt_lt, Int32.reduceToInt] at *; omega)
theorem lat_i2c {c : Int32} (h : ¬ c < 0 ∧ ¬ 255 < c) : i2c c = c := i2c_id h.1 (by
  have := h.2
  simp only [Int32.lt_iff_toInt_lt, Int32.reduceToInt] at *; omega)
theorem lat_and (x : Int32) : ¬ i2c (x &&& 255) < 0 ∧ ¬ 255 < i2c (x &&& 255) := by rw [i2c_and255]; exact and255_lat x
theorem nar_i2c (x : Int32) : nar .char (i2c x) = i2c x := i2c_i2c x
theorem nar_lat {c : Int32} (h : ¬ c < 0 ∧ ¬ 255 < c) : nar .char c = c := lat_i2c h
theorem nar_chr {c : Int32} (h : ¬ c < 0 ∧ ¬ 65535 < c) : nar .char c = c := i2c_id h.1 h.2
theorem nar_ret {z : Int32} (h : nar .char z = z) : narrow .char (.int z) = .int z := congrArg Value.int h
end Nums1
section Nums2
theorem getD_int (cs : List Int32) (i : Nat) : (cs.map Value.int).getD i (.int (0 : Int32)) = .int (cs.getD i 0) := by
  simp only [List.getD_eq_getElem?_getD, List.getElem?_map]
  cases cs[i]? <;> rfl
theorem getD_all {P : Int32 → Prop} {cs : List Int32} (h : ∀ c ∈ cs, P c) (h0 : P 0) (i : Nat) : P (cs.getD i 0) := by
  rw [List.getD_eq_getElem?_getD]
  cases hq : cs[i]? with
  | none => exact h0
  | some v => exact h v (List.mem_of_getElem? hq)
theorem and_le (x : Int32) (k : Nat) (hk : k < 2 ^ 31) : ¬ (x &&& Int32.ofNat k) < 0 ∧ (x &&& Int32.ofNat k).toInt ≤ k := by
  have := and_toInt x k hk
  have h : (x.toBitVec.toNat &&& k) ≤ k := Nat.and_le_right
  simp only [Int32.lt_iff_toInt_lt, Int32.reduceToInt, this]
  omega
theorem rem_nat {x : Int32} (k : Nat) (m : Nat) (hm : m < 2 ^ 31) (hk : 0 < k) (hk2 : k < 2 ^ 31) {i : Int32} (h : i = (x &&& Int32.ofNat m) % Int32.ofNat k) : ∃ n : Nat, n < k ∧ i = Int32.ofNat n := by
  obtain ⟨n, h1, h2⟩ := rem_range (x := x &&& Int32.ofNat m) k hk hk2 (and_le x m hm).1
  exact ⟨n, h1, h.trans h2⟩
theorem ofNat_toInt {n : Nat} (h : n < 2 ^ 31) : (Int32.ofNat n).toInt = n := by
  have hz : Int32.size = 4294967296 := rfl
  rw [Int32.toInt_ofNat', Int.bmod_eq_of_le] <;> omega
theorem ofNat_lt {n k : Nat} (h : n < 2 ^ 31) (h' : k < 2 ^ 31) : Int32.ofNat n < Int32.ofNat k ↔ n < k := by
  rw [Int32.lt_iff_toInt_lt, ofNat_toInt h, ofNat_toInt h']; omega
theorem ofNat_sub {n k : Nat} (h : k ≤ n) : Int32.ofNat n - Int32.ofNat k = Int32.ofNat (n - k) := by
  apply Int32.toBitVec_inj.mp
  apply BitVec.eq_of_toNat_eq
  show (BitVec.ofNat 32 n - BitVec.ofNat 32 k).toNat = (BitVec.ofNat 32 (n - k)).toNat
  simp only [BitVec.toNat_sub, BitVec.toNat_ofNat]
  omega
theorem ofNat_succ (n : Nat) : Int32.ofNat n + 1 = Int32.ofNat (n + 1) := by
  apply Int32.toBitVec_inj.mp
  apply BitVec.eq_of_toNat_eq
  show (BitVec.ofNat 32 n + 1#32).toNat = (BitVec.ofNat 32 (n + 1)).toNat
  simp only [BitVec.toNat_add, BitVec.toNat_ofNat]
  omega
end Nums2
section Heap1
variable {p : Program} {l : Launch} {e : Env} {R : Room} {s : State} {m : MethodId} {args : Array Value} {below : List Frame} {meth : Method} {c : Code} {Z : State} {own : String} {n0 : Nat} {h0 : Heap} {ws ws' : List Addr} {T T' : State} {h h' : Heap} {locs : List Loc} {cells slots : Nat} {G : State → Prop} {g g' : JFrame} {a0 : Array Value} {pc pc' : Nat} {Ls Ls' : Array Slot} {st rest : List Value}
theorem NK.newP (W : NK p l e R s m args below meth c Z own n0 h0 ws T h locs cells slots) {aty : ArrayType} (w : (Cond.arrayClass (newarray.typeOf aty)).before a0 Z = true) {n : Int32} (hd : decode c.code pc = .ok (.newarray aty, 2)) (hp : pc + 2 = pc') (hn : ¬ n < 0) {cap : Nat} (hcap : n.toNatClampNeg ≤ cap) (hb : cap * 8 ≤ 536870912) (hc : cells + 1 ≤ R.cells) (hl : slots + cap ≤ R.slots)
    (k' : ∀ (T' : State) (h' : Heap) (a : Addr) (ka : ClassId), a = h.size → h0.size ≤ a → n0 ≤ a → NK p l e R s m args below meth c Z own n0 h0 ws T' h' locs (cells + 1) (slots + cap) → Ext h h' → Arv Z h' a ka (newarray.typeOf aty) n (List.replicate cap (defaultValue (newarray.typeOf aty))) (defaultValue (newarray.typeOf aty)) → Go p e below G T' (mkF m pc' Ls (.ref a :: rest))) : Go p e below G T (mkF m pc Ls (.int n :: rest)) := by
  obtain ⟨X, hx, eT, hZ, hown, N, K, hn0, hlk⟩ := W
  obtain ⟨T', h', cA, X', e', E, A, st⟩ := RoadKit.newP X hx hZ w eT (g := mkF m pc Ls (.int n :: rest)) rfl hd rfl hn hcap hb hc hl
  subst hp
  exact Go.by1 (fun t q => st t q) (k' T' h' _ cA rfl K.1 (Nat.le_trans hn0 K.1) ⟨X', hx, e', hZ, hown, N, K.ext E, hn0, hlk⟩ E ((Arv.new A hn).pad (by simpa using pad_rep [] _ cap)))
theorem NK.newO (W : NK p l e R s m args below meth c Z own n0 h0 ws T h locs cells slots) {C : String} {index n : Nat} (w : (Cond.classLink own index C).before a0 Z = true) (wi : (Cond.instantiable C n).before a0 Z = true) (wz : (Cond.initialized C).before a0 Z = true) (hd : decode c.code pc = .ok (.new index, 3)) (hp : pc + 3 = pc') (hc : cells + 1 ≤ R.cells) (hl : slots + n ≤ R.slots)
    (k' : ∀ (T' : State) (h' : Heap) (a : Addr), a = h.size → h0.size ≤ a → n0 ≤ a → NK p l e R s m args below meth c Z own n0 h0 ws T' h' locs (cells + 1) (slots + n) → Ext h h' → Exa Z h' a C → (∀ {O nm d : String} {ty : FieldType}, Laid Z a0 C O nm d → parseFieldDescriptor d = some ty → Fld Z h' a O nm d (defaultValue ty)) → Go p e below G T' (mkF m pc' Ls (.ref a :: st))) : Go p e below G T (mkF m pc Ls st) := by
  obtain ⟨X, hx, eT, hZ, hown, N, K, hn0, hlk⟩ := W
  obtain ⟨T', h', X', e', E, A, D, -, stp⟩ := RoadKit.newO X hx hZ hown w wi wz eT (g := mkF m pc Ls st) rfl hd hc hl
  subst hp
  exact Go.by1 (fun t q => stp t q) (k' T' h' _ rfl K.1 (Nat.le_trans hn0 K.1) ⟨X', hx, e', hZ, hown, N, K.ext E, hn0, hlk⟩ E A D)
theorem NK.wrote (W : NK p l e R s m args below meth c Z own n0 h0 ws T h locs cells slots) {a : Addr} {sl : Nat} {v : Value} (X' : Stand p l e R s m args below meth c T' (locs ++ [⟨a, sl⟩]) cells slots) (e' : T'.heap = h') (Wr' : Wr h h' a sl v) (hge : a ∈ ws ∨ h0.size ≤ a) (hn : n0 ≤ a) : NK p l e R s m args below meth c Z own n0 h0 ws T' h' (locs ++ [⟨a, sl⟩]) cells slots := by
  obtain ⟨X, hx, eT, hZ, hown, N, K, hn0, hlk⟩ := W
  exact ⟨X', hx, e', hZ, hown, Fr.snoc X' N hn, K.wr Wr' hge, hn0, hlk⟩
theorem NK.stC (W : NK p l e R s m args below meth c Z own n0 h0 ws T h locs cells slots) {a : Addr} {ka : ClassId} {z : Int32} {vs : List Value} {dv : Value} (A : Arv Z h a ka .char z vs dv) {j x : Int32} (hd : decode c.code pc = .ok (.castore, 1)) (hp : pc + 1 = pc') (hx' : nar .char x = x) (i : Nat) (hj : j.toNatClampNeg = i) (hi : i < vs.length) (hb : ¬ j < 0 ∧ j < z) (hge : a ∈ ws ∨ h0.size ≤ a) (hn : n0 ≤ a)
    (k' : ∀ (T' : State) (h' : Heap) (L : List Loc), NK p l e R s m args below meth c Z own n0 h0 ws T' h' L cells slots → Keep h h' [a] → Arv Z h' a ka .char z (vs.set i (.int x)) dv → Go p e below G T' (mkF m pc' Ls rest)) : Go p e below G T (mkF m pc Ls (.int x :: .int j :: .ref a :: rest)) := by
  obtain ⟨cl, A1, q1, S1, M1, H1, U1⟩ := id A
  obtain ⟨T', h', X', e', Wr', stp⟩ := RoadKit.stC W.1 W.2.1 W.2.2.2.1 W.2.2.1 A1 (j := j) (inb_of S1 hb) (g := mkF m pc Ls (.int x :: .int j :: .ref a :: rest)) rfl rfl hd
  subst hp
  rw [hx'] at Wr'
  exact Go.by1 (fun t q => stp t q) (k' T' h' _ (W.wrote X' e' Wr' hge hn) (Keep.of_wr Wr') (Arv.set A1 q1 S1 M1 H1 U1 (hx' ▸ fits_nar_char x) Wr' i hj hi))
theorem NK.stB (W : NK p l e R s m args below meth c Z own n0 h0 ws T h locs cells slots) {a : Addr} {ka : ClassId} {z : Int32} {vs : List Value} {dv : Value} (A : Arv Z h a ka .byte z vs dv) {j x : Int32} (hd : decode c.code pc = .ok (.bastore, 1)) (hp : pc + 1 = pc') (i : Nat) (hj : j.toNatClampNeg = i) (hi : i < vs.length) (hb : ¬ j < 0 ∧ j < z) (hge : a ∈ ws ∨ h0.size ≤ a) (hn : n0 ≤ a)
    (k' : ∀ (T' : State) (h' : Heap) (L : List Loc), NK p l e R s m args below meth c Z own n0 h0 ws T' h' L cells slots → Keep h h' [a] → Arv Z h' a ka .byte z (vs.set i (.int x.toInt8.toInt32)) dv → Go p e below G T' (mkF m pc' Ls rest)) : Go p e below G T (mkF m pc Ls (.int x :: .int j :: .ref a :: rest)) := by
  obtain ⟨cl, A1, q1, S1, M1, H1, U1⟩ := id A
  obtain ⟨T', h', X', e', Wr', stp⟩ := RoadKit.stB W.1 W.2.1 W.2.2.2.1 W.2.2.1 A1 (j := j) (inb_of S1 hb) (g := mkF m pc Ls (.int x :: .int j :: .ref a :: rest)) rfl rfl hd
  subst hp
  exact Go.by1 (fun t q => stp t q) (k' T' h' _ (W.wrote X' e' Wr' hge hn) (Keep.of_wr Wr') (Arv.set A1 q1 S1 M1 H1 U1 (fits_nar_byte x) Wr' i hj hi))
theorem NK.stI (W : NK p l e R s m args below meth c Z own n0 h0 ws T h locs cells slots) {a : Addr} {ka : ClassId} {z : Int32} {vs : List Value} {dv : Value} (A : Arv Z h a ka .int z vs dv) {j x : Int32} (hd : decode c.code pc = .ok (.iastore, 1)) (hp : pc + 1 = pc') (i : Nat) (hj : j.toNatClampNeg = i) (hi : i < vs.length) (hb : ¬ j < 0 ∧ j < z) (hge : a ∈ ws ∨ h0.size ≤ a) (hn : n0 ≤ a)
    (k' : ∀ (T' : State) (h' : Heap) (L : List Loc), NK p l e R s m args below meth c Z own n0 h0 ws T' h' L cells slots → Keep h h' [a] → Arv Z h' a ka .int z (vs.set i (.int x)) dv → Go p e below G T' (mkF m pc' Ls rest)) : Go p e below G T (mkF m pc Ls (.int x :: .int j :: .ref a :: rest)) := by
  obtain ⟨cl, A1, q1, S1, M1, H1, U1⟩ := id A
  obtain ⟨T', h', X', e', Wr', stp⟩ := RoadKit.stI W.1 W.2.1 W.2.2.2.1 W.2.2.1 A1 (j := j) (inb_of S1 hb) (g := mkF m pc Ls (.int x :: .int j :: .ref a :: rest)) rfl rfl hd
  subst hp
  exact Go.by1 (fun t q => stp t q) (k' T' h' _ (W.wrote X' e' Wr' hge hn) (Keep.of_wr Wr') (Arv.set A1 q1 S1 M1 H1 U1 rfl Wr' i hj hi))
theorem NK.stJ (W : NK p l e R s m args below meth c Z own n0 h0 ws T h locs cells slots) {a : Addr} {ka : ClassId} {z : Int32} {vs : List Value} {dv : Value} (A : Arv Z h a ka .long z vs dv) {j : Int32} {x : Int64} (hd : decode c.code pc = .ok (.lastore, 1)) (hp : pc + 1 = pc') (i : Nat) (hj : j.toNatClampNeg = i) (hi : i < vs.length) (hb : ¬ j < 0 ∧ j < z) (hge : a ∈ ws ∨ h0.size ≤ a) (hn : n0 ≤ a)
    (k' : ∀ (T' : State) (h' : Heap) (L : List Loc), NK p l e R s m args below meth c Z own n0 h0 ws T' h' L cells slots → Keep h h' [a] → Arv Z h' a ka .long z (vs.set i (.long x)) dv → Go p e below G T' (mkF m pc' Ls rest)) : Go p e below G T (mkF m pc Ls (.long x :: .int j :: .ref a :: rest)) := by
  obtain ⟨cl, A1, q1, S1, M1, H1, U1⟩ := id A
  obtain ⟨T', h', X', e', Wr', stp⟩ := RoadKit.stJ W.1 W.2.1 W.2.2.2.1 W.2.2.1 A1 (j := j) (inb_of S1 hb) (g := mkF m pc Ls (.long x :: .int j :: .ref a :: rest)) rfl rfl hd
  subst hp
  exact Go.by1 (fun t q => stp t q) (k' T' h' _ (W.wrote X' e' Wr' hge hn) (Keep.of_wr Wr') (Arv.set A1 q1 S1 M1 H1 U1 rfl Wr' i hj hi))
theorem NK.caload (W : NK p l e R s m args below meth c Z own n0 h0 ws T h locs cells slots) {a : Addr} {ka : ClassId} {z : Int32} {vs : List Value} {dv : Value} (A : Arv Z h a ka .char z vs dv) {j : Int32} (v : Value) (hd : decode c.code pc = .ok (.caload, 1)) (hp : pc + 1 = pc') (hb : ¬ j < 0 ∧ j < z) (hv : vs.getD j.toNatClampNeg dv = v)
    (k' : Go p e below G T (mkF m pc' Ls (v :: rest))) : Go p e below G T (mkF m pc Ls (.int j :: .ref a :: rest)) := by
  obtain ⟨cl, A1, q1, S1, M1, H1, U1⟩ := id A
  subst hp
  exact Go.by1 (fun t q => W.1.caload W.2.1 (by rw [W.2.2.1]; exact A1.1) (State.isArrayOf_alike W.2.2.2.1.alike A1.2.1) A1.2.2 (inb_of S1 hb) (H1.at (inb_of S1 hb) hv) (g := mkF m pc Ls (.int j :: .ref a :: rest)) rfl rfl hd t q) k'
theorem NK.baload (W : NK p l e R s m args below meth c Z own n0 h0 ws T h locs cells slots) {a : Addr} {ka : ClassId} {z : Int32} {vs : List Value} {dv : Value} (A : Arv Z h a ka .byte z vs dv) {j : Int32} (v : Value) (hd : decode c.code pc = .ok (.baload, 1)) (hp : pc + 1 = pc') (hb : ¬ j < 0 ∧ j < z) (hv : vs.getD j.toNatClampNeg dv = v)
    (k' : Go p e below G T (mkF m pc' Ls (v :: rest))) : Go p e below G T (mkF m pc Ls (.int j :: .ref a :: rest)) := by
  obtain ⟨cl, A1, q1, S1, M1, H1, U1⟩ := id A
  subst hp
  exact Go.by1 (fun t q => W.1.baloadBytes W.2.1 (by rw [W.2.2.1]; exact A1.1) (State.isArrayOf_alike W.2.2.2.1.alike A1.2.1) A1.2.2 (inb_of S1 hb) (H1.at (inb_of S1 hb) hv) (g := mkF m pc Ls (.int j :: .ref a :: rest)) rfl rfl hd t q) k'
theorem NK.iaload (W : NK p l e R s m args below meth c Z own n0 h0 ws T h locs cells slots) {a : Addr} {ka : ClassId} {z : Int32} {vs : List Value} {dv : Value} (A : Arv Z h a ka .int z vs dv) {j : Int32} (v : Value) (hd : decode c.code pc = .ok (.iaload, 1)) (hp : pc + 1 = pc') (hb : ¬ j < 0 ∧ j < z) (hv : vs.getD j.toNatClampNeg dv = v)
    (k' : Go p e below G T (mkF m pc' Ls (v :: rest))) : Go p e below G T (mkF m pc Ls (.int j :: .ref a :: rest)) := by
  obtain ⟨cl, A1, q1, S1, M1, H1, U1⟩ := id A
  subst hp
  exact Go.by1 (fun t q => W.1.iaload W.2.1 (by rw [W.2.2.1]; exact A1.1) (State.isArrayOf_alike W.2.2.2.1.alike A1.2.1) A1.2.2 (inb_of S1 hb) (H1.at (inb_of S1 hb) hv) (g := mkF m pc Ls (.int j :: .ref a :: rest)) rfl rfl hd t q) k'
theorem NK.laload (W : NK p l e R s m args below meth c Z own n0 h0 ws T h locs cells slots) {a : Addr} {ka : ClassId} {z : Int32} {vs : List Value} {dv : Value} (A : Arv Z h a ka .long z vs dv) {j : Int32} (v : Value) (hd : decode c.code pc = .ok (.laload, 1)) (hp : pc + 1 = pc') (hb : ¬ j < 0 ∧ j < z) (hv : vs.getD j.toNatClampNeg dv = v)
    (k' : Go p e below G T (mkF m pc' Ls (v :: rest))) : Go p e below G T (mkF m pc Ls (.int j :: .ref a :: rest)) := by
  obtain ⟨cl, A1, q1, S1, M1, H1, U1⟩ := id A
  subst hp
  exact Go.by1 (fun t q => W.1.laload W.2.1 (by rw [W.2.2.1]; exact A1.1) (State.isArrayOf_alike W.2.2.2.1.alike A1.2.1) A1.2.2 (inb_of S1 hb) (H1.at (inb_of S1 hb) hv) (g := mkF m pc Ls (.int j :: .ref a :: rest)) rfl rfl hd t q) k'
theorem NK.arraylength (W : NK p l e R s m args below meth c Z own n0 h0 ws T h locs cells slots) {a : Addr} {ka : ClassId} {ty : FieldType} {z : Int32} {vs : List Value} {dv : Value} (A : Arv Z h a ka ty z vs dv) (hd : decode c.code pc = .ok (.arraylength, 1)) (hp : pc + 1 = pc')
    (k' : Go p e below G T (mkF m pc' Ls (.int z :: rest))) : Go p e below G T (mkF m pc Ls (.ref a :: rest)) := by
  obtain ⟨cl, A1, q1, S1, M1, H1, U1⟩ := id A
  subst hp
  exact Go.by1 (fun t q => W.1.arraylength W.2.1 (by rw [W.2.2.1]; exact A1.1) (State.isArrayOf_alike W.2.2.2.1.alike A1.2.1) (g := mkF m pc Ls (.ref a :: rest)) rfl rfl hd t (by rw [len_of S1 M1]; exact q)) k'
theorem NK.moved (W : NK p l e R s m args below meth c Z own n0 h0 ws T h locs cells slots) (X' : Stand p l e R s m args below meth c T' locs cells slots) (e' : T'.heap = h) : NK p l e R s m args below meth c Z own n0 h0 ws T' h locs cells slots := ⟨X', W.2.1, e', W.2.2.2⟩
theorem NK.getF (W : NK p l e R s m args below meth c Z own n0 h0 ws T h locs cells slots) {R0 O n d host : String} {index : Nat} (w : (Cond.fieldLink own index R0 n d).before a0 Z = true ∨ (Cond.fieldLinkNest own index R0 n d host).before a0 Z = true) (via : Via Z R0 O n d) {a : Addr} {v : Value} (F : Fld Z h a O n d v) (hd : decode c.code pc = .ok (.getfield index, 3)) (hp : pc + 3 = pc')
    (k' : ∀ T' : State, NK p l e R s m args below meth c Z own n0 h0 ws T' h locs cells slots → Go p e below G T' (mkF m pc' Ls (v :: rest))) : Go p e below G T (mkF m pc Ls (.ref a :: rest)) := by
  obtain ⟨T', X', e', stp⟩ := RoadKit.getF W.1 W.2.1 W.2.2.2.1 W.2.2.2.2.1 w via W.2.2.1 F (g := mkF m pc Ls (.ref a :: rest)) rfl rfl hd
  subst hp
  exact Go.by1 (fun t q => stp t q) (k' T' (W.moved X' e'))
theorem NK.getS (W : NK p l e R s m args below meth c Z own n0 h0 ws T h locs cells slots) {R0 O n d host : String} {index : Nat} (w : (Cond.fieldLink own index R0 n d).before a0 Z = true ∨ (Cond.fieldLinkNest own index R0 n d host).before a0 Z = true) (via : Via Z R0 O n d) {v : Value} (F : Sta Z h O n d v) (hd : decode c.code pc = .ok (.getstatic index, 3)) (hp : pc + 3 = pc')
    (k' : ∀ T' : State, NK p l e R s m args below meth c Z own n0 h0 ws T' h locs cells slots → Go p e below G T' (mkF m pc' Ls (v :: st))) : Go p e below G T (mkF m pc Ls st) := by
  obtain ⟨T', X', e', stp⟩ := RoadKit.getS2 W.1 W.2.1 W.2.2.2.1 W.2.2.2.2.1 w via W.2.2.1 F (g := mkF m pc Ls st) rfl hd
  subst hp
  exact Go.by1 (fun t q => stp t q) (k' T' (W.moved X' e'))
theorem NK.putF (W : NK p l e R s m args below meth c Z own n0 h0 ws T h locs cells slots) {R0 O n d host C : String} {index kk : Nat} {ty : FieldType} (w : (Cond.fieldLink own index R0 n d).before a0 Z = true ∨ (Cond.fieldLinkNest own index R0 n d host).before a0 Z = true) (via : Via Z R0 O n d) {a : Addr} {v old : Value} (F : Fld Z h a O n d old) (E : Exa Z h a C)
    (L : (Cond.lays C O n d).before a0 Z = true ∨ ((Cond.laysFinal C O n d).before a0 Z = true ∧ own = O ∧ meth.name = "<init>")) (wi : (Cond.instantiable C kk).before a0 Z = true) (hty : parseFieldDescriptor d = some ty) (hn : narrow ty v = v) (hf : fits ty v = true) (hd : decode c.code pc = .ok (.putfield index, 3)) (hp : pc + 3 = pc') (hge : a ∈ ws ∨ h0.size ≤ a) (hn0 : n0 ≤ a)
    (k' : ∀ (T' : State) (h' : Heap) (L' : List Loc), NK p l e R s m args below meth c Z own n0 h0 ws T' h' L' cells slots → Wr h h' a (RoadKit.slotOf Z O n d) v → Go p e below G T' (mkF m pc' Ls rest)) : Go p e below G T (mkF m pc Ls (v :: .ref a :: rest)) := by
  obtain ⟨T', h', X', e', Wr', stp⟩ := RoadKit.putF W.1 W.2.1 W.2.2.2.1 W.2.2.2.2.1 w via W.2.2.1 F E L wi hty hn hf (g := mkF m pc Ls (v :: .ref a :: rest)) rfl rfl hd
  subst hp
  exact Go.by1 (fun t q => stp t q) (k' T' h' _ (W.wrote X' e' Wr' hge hn0) Wr')
theorem NK.initO (W : NK p l e R s m args below meth c Z own n0 h0 ws T h locs cells slots) {idx : Nat} (w1 : (Cond.methodLink own idx Lib.objectInit).before a0 Z = true) (w2 : (Cond.instanceMethod Lib.objectInit).before a0 Z = true) (w3 : (Cond.code Lib.objectInit ⟨#[0xb1]⟩ 1 none).before a0 Z = true) {a : Addr} (hd : decode c.code pc = .ok (.invokespecial idx, 3)) (hp : pc + 3 = pc') (hml : c.maxLocals = Ls.size) (hf : 1 ≤ R.frames) {wd : Nat} (hW : (rest.map fun v => v.category).sum ≤ wd) (hl : wd + 12 ≤ R.locals)
    (k' : ∀ T' : State, NK p l e R s m args below meth c Z own n0 h0 ws T' h locs cells slots → Go p e below G T' (mkF m pc' Ls rest)) : Go p e below G T (mkF m pc Ls (.ref a :: rest)) := by
  obtain ⟨T', X', e', stp⟩ := RoadKit.initO W.1 W.2.1 W.2.2.2.1 W.2.2.2.2.1 w1 w2 w3 W.2.2.1 (g := mkF m pc Ls (.ref a :: rest)) rfl hml.symm rfl hd hf (W := wd) (by show 2 * 0 + _ ≤ _; omega) hl
  subst hp
  exact Go.by1 (fun t q => stp t q) (k' T' (W.moved X' e'))
/-- what a payer says, in backOf's shape -/
abbrev BK (l : Launch) (R : Room) (p : Program) (e : Env) (below : List Frame) (s : State) (args : Array Value) (y : MethodName) (len wd : Nat) (as' : Array Value) (h : Heap) (rc rs : Nat) (Q : Option Value → Heap → List Loc → Prop) : Prop :=
  Back l R p e below s args y len wd (fun A a => a = as' ∧ A.U.heap = h ∧ A.cells + rc ≤ R.cells ∧ A.slots + rs ≤ R.slots) (fun A _ v B => ∃ L, Q v B.U.heap L ∧ B.locs = A.locs ++ L ∧ B.cells = A.cells + rc ∧ B.slots = A.slots + rs)
/-- a callee's contract -/
def NM (l : Launch) (y : MethodName) (bytes : ByteArray) (maxL : Nat) (ret : Option FieldType) (xs : List Cond) (R : Room) (Z : State) (n0 : Nat) (as' : Array Value) (h0 : Heap) (ws : List Addr) (P : Option Value → Heap → Prop) : Prop :=
  MetFree l y (head1 (Cond.code y bytes maxL ret :: xs) R) (fun a U => a = as' ∧ Z.Warmed39 U.vm ∧ U.heap = h0) (fun _ _ _ _ _ => True) (fun _ U o U' => ∃ v L, o = .returned v ∧ (P v U'.heap ∧ Keep h0 U'.heap ws ∧ Fr n0 L) ∧ FrameEnd U o U' L R.cells R.slots)
def EndN (n0 : Nat) (R : Room) (s : State) (below : List Frame) (P : Option Value → Heap → Prop) (h0 : Heap) (ws : List Addr) (t : State) : Prop :=
  ∃ o, t.status = .running ∧ Ended t below o ∧ ∃ v L, o = .returned v ∧ (P v t.heap ∧ Keep h0 t.heap ws ∧ Fr n0 L) ∧ FrameEnd s o t L R.cells R.slots
theorem NM.walk {y : MethodName} {bytes : ByteArray} {maxL : Nat} {ret : Option FieldType} {xs : List Cond} {as' : Array Value} {P : Option Value → Heap → Prop} (hpl : plainFor y = true) (hn : n0 ≤ h0.size) (ef : ∀ m, entryFrame m as' maxL = mkF m 0 Ls [])
    (body : ∀ (p : Program) (e : Env) (s : State) (m : MethodId) (below : List Frame) (meth : Method) (c : Code) (s₁ : State), c.code = bytes → c.maxLocals = maxL → meth.sig.returnType = ret → meth.name = y.name → NK p l e R s m as' below meth c Z y.cls n0 h0 ws s₁ h0 [] 0 0 → Go p e below (EndN n0 R s below P h0 ws) s₁ (mkF m 0 Ls [])) : NM l y bytes maxL ret xs R Z n0 as' h0 ws P := by
  refine MetFree.of_bodySF hpl hisR ?_
  intro p e s m args below meth c s₁ Bd hml0 hP hK
  obtain ⟨rfl, hZ, hh⟩ := hP
  have X0 : Stand p l e R s m args below meth c s₁ [] 0 0 := Stand.of_body Bd
  have e0 : s₁.heap = h0 := by rw [← hh, Bd.state]; rfl
  obtain ⟨t, a, o, r1, r2, q⟩ := body p e s m below meth c s₁ Bd.bytes hml0 Bd.returns (name_of_methodNamed Bd.named Bd.method).1 ⟨X0, Bd.exec, e0, hZ, findClass_of_methodNamed Bd.named, Fr.nil n0, Keep.refl _ _, hn, BodyLoose.notSynchronized Bd⟩
  exact ⟨t, o, castTop (ef m) a, r1, r2, q⟩
theorem NK.ret (W : NK p l e R s m args below meth c Z own n0 h0 ws T h locs cells slots) {P : Option Value → Heap → Prop} {w : Value} {t : FieldType} {i : Instr} (hret : meth.sig.returnType = some t) (hn : narrow t w = w)
    (hi : (i = .ireturn ∧ (t = .int ∨ t = .boolean ∨ t = .byte ∨ t = .char ∨ t = .short) ∧ ∃ z, w = .int z) ∨ (i = .lreturn ∧ t = .long ∧ ∃ z, w = .long z) ∨ (i = .dreturn ∧ t = .double ∧ ∃ z, w = .double z) ∨ (i = .freturn ∧ t = .float ∧ ∃ z, w = .float z) ∨ (i = .areturn ∧ t.isReference = true ∧ w.isRef = true))
    (hd : decode c.code pc = .ok (i, 1)) (hc : cells ≤ R.cells) (hs : slots ≤ R.slots) (hP : P (some w) h) : Go p e below (EndN n0 R s below P h0 ws) T (mkF m pc Ls (w :: rest)) := by
  obtain ⟨X, hx, eT, hZ, hown, N, K, hn0, hlk⟩ := W
  obtain ⟨fs, hr, hrun, hended, hW, hsame⟩ := X.leave (v := some w) (fun h => by rw [hret] at h; cases h) hlk
  refine ⟨_, retOut X hx hret hn hi hd hr, _, hrun, hended, _, _, rfl, ?_, ⟨_, rfl⟩, hW, hsame.mono hc hs⟩
  have e1 : (T.setFrames fs).heap = h := eT
  rw [e1]
  exact ⟨hP, K, N⟩
theorem NK.retI (W : NK p l e R s m args below meth c Z own n0 h0 ws T h locs cells slots) {P : Option Value → Heap → Prop} {z : Int32} (hret : meth.sig.returnType = some .int) (hd : decode c.code pc = .ok (.ireturn, 1)) (hc : cells ≤ R.cells) (hs : slots ≤ R.slots) (hP : P (some (.int z)) h) : Go p e below (EndN n0 R s below P h0 ws) T (mkF m pc Ls (.int z :: rest)) :=
  W.ret hret rfl (Or.inl ⟨rfl, Or.inl rfl, _, rfl⟩) hd hc hs hP
theorem NK.retZ (W : NK p l e R s m args below meth c Z own n0 h0 ws T h locs cells slots) {P : Option Value → Heap → Prop} {z : Int32} (hret : meth.sig.returnType = some .boolean) (hd : decode c.code pc = .ok (.ireturn, 1)) (hz : z = 0 ∨ z = 1) (hc : cells ≤ R.cells) (hs : slots ≤ R.slots) (hP : P (some (.int z)) h) : Go p e below (EndN n0 R s below P h0 ws) T (mkF m pc Ls (.int z :: rest)) :=
  W.ret hret (by rcases hz with rfl | rfl <;> rfl) (Or.inl ⟨rfl, Or.inr (Or.inl rfl), _, rfl⟩) hd hc hs hP
theorem NK.retC (W : NK p l e R s m args below meth c Z own n0 h0 ws T h locs cells slots) {P : Option Value → Heap → Prop} {z : Int32} (hret : meth.sig.returnType = some .char) (hd : decode c.code pc = .ok (.ireturn, 1)) (hz : narrow .char (.int z) = .int z) (hc : cells ≤ R.cells) (hs : slots ≤ R.slots) (hP : P (some (.int z)) h) : Go p e below (EndN n0 R s below P h0 ws) T (mkF m pc Ls (.int z :: rest)) :=
  W.ret hret hz (Or.inl ⟨rfl, Or.inr (Or.inr (Or.inr (Or.inl rfl))), _, rfl⟩) hd hc hs hP
theorem NK.retB (W : NK p l e R s m args below meth c Z own n0 h0 ws T h locs cells slots) {P : Option Value → Heap → Prop} {z : Int32} (hret : meth.sig.returnType = some .byte) (hd : decode c.code pc = .ok (.ireturn, 1)) (hz : narrow .byte (.int z) = .int z) (hc : cells ≤ R.cells) (hs : slots ≤ R.slots) (hP : P (some (.int z)) h) : Go p e below (EndN n0 R s below P h0 ws) T (mkF m pc Ls (.int z :: rest)) :=
  W.ret hret hz (Or.inl ⟨rfl, Or.inr (Or.inr (Or.inl rfl)), _, rfl⟩) hd hc hs hP
theorem NK.retJ (W : NK p l e R s m args below meth c Z own n0 h0 ws T h locs cells slots) {P : Option Value → Heap → Prop} {z : Int64} (hret : meth.sig.returnType = some .long) (hd : decode c.code pc = .ok (.lreturn, 1)) (hc : cells ≤ R.cells) (hs : slots ≤ R.slots) (hP : P (some (.long z)) h) : Go p e below (EndN n0 R s below P h0 ws) T (mkF m pc Ls (.long z :: rest)) :=
  W.ret hret rfl (Or.inr (Or.inl ⟨rfl, rfl, _, rfl⟩)) hd hc hs hP
theorem NK.retA (W : NK p l e R s m args below meth c Z own n0 h0 ws T h locs cells slots) {P : Option Value → Heap → Prop} {w : Value} {t : FieldType} (hret : meth.sig.returnType = some t) (ht : t.isReference = true) (hw : w.isRef = true) (hd : decode c.code pc = .ok (.areturn, 1)) (hc : cells ≤ R.cells) (hs : slots ≤ R.slots) (hP : P (some w) h) : Go p e below (EndN n0 R s below P h0 ws) T (mkF m pc Ls (w :: rest)) :=
  W.ret hret (by cases t <;> cases w <;> first | rfl | (simp [FieldType.isReference, Value.isRef] at ht hw)) (Or.inr (Or.inr (Or.inr (Or.inr ⟨rfl, ht, hw⟩)))) hd hc hs hP
theorem NK.retV (W : NK p l e R s m args below meth c Z own n0 h0 ws T h locs cells slots) {P : Option Value → Heap → Prop} (hret : meth.sig.returnType = none) (hd : decode c.code pc = .ok (.return_, 1)) (hc : cells ≤ R.cells) (hs : slots ≤ R.slots) (hP : P none h) : Go p e below (EndN n0 R s below P h0 ws) T (mkF m pc Ls []) := by
  obtain ⟨X, hx, eT, hZ, hown, N, K, hn0, hlk⟩ := W
  obtain ⟨fs, hr, hrun, hended, hW, hsame⟩ := X.leave (v := none) (fun _ => rfl) hlk
  refine ⟨_, X.returnOut hx hret hd hr, _, hrun, hended, _, _, rfl, ?_, ⟨_, rfl⟩, hW, hsame.mono hc hs⟩
  have e1 : (T.setFrames fs).heap = h := eT
  rw [e1]
  exact ⟨hP, K, N⟩
theorem NM.bk {y : MethodName} {bytes : ByteArray} {maxL : Nat} {ret : Option FieldType} {rm : Room} {as' : Array Value} {P : Option Value → Heap → Prop} {len wd : Nat} (hM : NM l y bytes maxL ret [] rm Z n0 as' h ws' P) (hZ : Z.Warmed39 s.vm) (wc : (Cond.code y bytes maxL ret).before a0 Z = true) (wz : (Cond.initialized y.cls).before a0 Z = true) (hf : rm.frames + 1 ≤ R.frames) (hl : wd + (maxL + 11) + rm.locals ≤ R.locals) :
    BK l R p e below s args y len wd as' h rm.cells rm.slots (fun v h' L => P v h' ∧ Keep h h' ws' ∧ Fr n0 L) := backOf (Q := fun v h' L => P v h' ∧ Keep h h' ws' ∧ Fr n0 L) hM hZ wc wz hf hl
theorem NK.called (W : NK p l e R s m args below meth c Z own n0 h0 ws T h locs cells slots) {L : List Loc} {T' : State} {c2 s2 : Nat} (X' : Stand p l e R s m args below meth c T' (locs ++ L) c2 s2) (N : Fr n0 L) (K : Keep h T'.heap ws') (hws : ∀ x ∈ ws', x ∈ ws ∨ h0.size ≤ x) : NK p l e R s m args below meth c Z own n0 h0 ws T' T'.heap (locs ++ L) c2 s2 := by
  obtain ⟨X, hx, eT, hZ, hown, N0, K0, hn0, hlk⟩ := W
  exact ⟨X', hx, rfl, hZ, hown, Fr.app N0 N, K0.trans K hws, hn0, hlk⟩
theorem NK.callS (W : NK p l e R s m args below meth c Z own n0 h0 ws T h locs cells slots) {index : Nat} {y : MethodName} {bytes : ByteArray} {maxL : Nat} {ret : Option FieldType} (w1 : (Cond.methodLink own index y).before a0 Z = true) (w2 : (Cond.static y).before a0 Z = true) (w3 : (Cond.initialized y.cls).before a0 Z = true) (w4 : (Cond.code y bytes maxL ret).before a0 Z = true)
    (hy : y.cls ≠ "java/lang/invoke/MethodHandle" ∧ y.cls ≠ "java/lang/invoke/VarHandle") {wd rc rs : Nat} {as' : Array Value} {Q : Option Value → Heap → List Loc → Prop} (hK : BK l R p e below s args y 3 wd as' h rc rs Q) (hd : decode c.code pc = .ok (.invokestatic index, 3)) (hp : pc + 3 = pc') (hml : c.maxLocals = Ls.size) {argsL : List Value} (has : argsL.toArray = as') (hlen : ∀ sig, parseMethodDescriptor y.desc = some sig → argsL.length = sig.parameters.length) (hst : st = argsL.reverse ++ rest) (hW : (rest.map fun v => v.category).sum ≤ wd) (hc : cells + rc ≤ R.cells) (hs : slots + rs ≤ R.slots)
    (hq : ∀ v h' L, Q v h' L → Fr n0 L ∧ Keep h h' ws') (hws : ∀ x ∈ ws', x ∈ ws ∨ h0.size ≤ x)
    (k' : ∀ (v : Option Value) (T' : State) (h' : Heap) (L L' : List Loc), NK p l e R s m args below meth c Z own n0 h0 ws T' h' L' (cells + rc) (slots + rs) → Q v h' L → Keep h h' ws' → Go p e below G T' (mkF m pc' Ls (v.toList ++ rest))) : Go p e below G T (mkF m pc Ls st) := by
  subst hst has hp
  obtain ⟨v, vm1, ⟨T', L1, k1, n1⟩, -, X', ⟨L, hQ, e1, e2, e3⟩, stp⟩ := Jvm.LawKit.callS W.1 W.2.1 W.2.2.2.2.1 (mvT W.2.2.2.1 w1) (mvT W.2.2.2.1 w2) (mvT W.2.2.2.1 w3) (mvT W.2.2.2.1 w4) hy hK (g := mkF m pc Ls (argsL.reverse ++ rest)) rfl hml.symm (argsL := argsL) (rest := rest) hlen rfl (by show 2 * 0 + _ ≤ _; omega) hd (fun _ _ => ⟨rfl, W.2.2.1, hc, hs⟩)
  dsimp only [Pt.U, Pt.locs, Pt.cells, Pt.slots] at X' hQ e1 e2 e3 stp
  subst e1 e2 e3
  obtain ⟨N, K⟩ := hq _ _ _ hQ
  exact Go.by1 (fun t q => stp t q) (k' v T' _ L _ (W.called X' N K hws) hQ K)
theorem NK.callI (W : NK p l e R s m args below meth c Z own n0 h0 ws T h locs cells slots) {index : Nat} {y : MethodName} {bytes : ByteArray} {maxL : Nat} (hy1 : y.name = "<init>") (w1 : (Cond.methodLink own index y).before a0 Z = true) (w2 : (Cond.instanceMethod y).before a0 Z = true) (w4 : (Cond.code y bytes maxL none).before a0 Z = true)
    (hy : y.cls ≠ "java/lang/invoke/MethodHandle" ∧ y.cls ≠ "java/lang/invoke/VarHandle") {wd rc rs : Nat} {as' : Array Value} {Q : Option Value → Heap → List Loc → Prop} (hK : BK l R p e below s args y 3 wd as' h rc rs Q) (hd : decode c.code pc = .ok (.invokespecial index, 3)) (hp : pc + 3 = pc') (hml : c.maxLocals = Ls.size) {a : Addr} {argsL : List Value} (has : (Value.ref a :: argsL).toArray = as') (hlen : ∀ sig, parseMethodDescriptor y.desc = some sig → argsL.length = sig.parameters.length) (hst : st = argsL.reverse ++ .ref a :: rest) (hW : (rest.map fun v => v.category).sum ≤ wd) (hc : cells + rc ≤ R.cells) (hs : slots + rs ≤ R.slots)
    (hq : ∀ v h' L, Q v h' L → Fr n0 L ∧ Keep h h' ws') (hws : ∀ x ∈ ws', x ∈ ws ∨ h0.size ≤ x)
    (k' : ∀ (v : Option Value) (T' : State) (h' : Heap) (L L' : List Loc), NK p l e R s m args below meth c Z own n0 h0 ws T' h' L' (cells + rc) (slots + rs) → Q v h' L → Keep h h' ws' → Go p e below G T' (mkF m pc' Ls (v.toList ++ rest))) : Go p e below G T (mkF m pc Ls st) := by
  subst hst has hp
  obtain ⟨v, vm1, ⟨T', L1, k1, n1⟩, -, X', ⟨L, hQ, e1, e2, e3⟩, stp⟩ := W.1.specialBack W.2.1 hy1 W.2.2.2.2.1 (mvT W.2.2.2.1 w1) (mvT W.2.2.2.1 w2) (mvT W.2.2.2.1 w4) hy hK (g := mkF m pc Ls (argsL.reverse ++ .ref a :: rest)) rfl hml.symm (Steps.refl _) (a := a) (argsL := argsL) (rest := rest) hlen rfl (by show 2 * 0 + _ ≤ _; omega) hd (fun _ _ => ⟨rfl, W.2.2.1, hc, hs⟩)
  dsimp only [Pt.U, Pt.locs, Pt.cells, Pt.slots] at X' hQ e1 e2 e3 stp
  subst e1 e2 e3
  obtain ⟨N, K⟩ := hq _ _ _ hQ
  exact Go.tr stp (k' v T' _ L _ (W.called X' N K hws) hQ K)
theorem NK.callV (W : NK p l e R s m args below meth c Z own n0 h0 ws T h locs cells slots) {index : Nat} {C : String} {y z : MethodName} (w1 : (Cond.methodLink own index y).before a0 Z = true) (w2 : (Cond.declares y).before a0 Z = true) (w3 : (Cond.selects C y z).before a0 Z = true) {C' : String} (w3' : (Cond.selects C' y y).before a0 Z = true) (w4 : (Cond.instanceMethod z).before a0 Z = true)
    (hy : y.cls ≠ "java/lang/invoke/MethodHandle" ∧ y.cls ≠ "java/lang/invoke/VarHandle") {wd rc rs : Nat} {as' : Array Value} {Q : Option Value → Heap → List Loc → Prop} (hK : BK l R p e below s args z 3 wd as' h rc rs Q) {a : Addr} (E : Exa Z h a C) (hd : decode c.code pc = .ok (.invokevirtual index, 3)) (hp : pc + 3 = pc') (hml : c.maxLocals = Ls.size) {argsL : List Value} (has : (Value.ref a :: argsL).toArray = as') (hlen : ∀ sig, parseMethodDescriptor y.desc = some sig → argsL.length = sig.parameters.length) (hst : st = argsL.reverse ++ .ref a :: rest) (hW : (rest.map fun v => v.category).sum ≤ wd) (hc : cells + rc ≤ R.cells) (hs : slots + rs ≤ R.slots)
    (hq : ∀ v h' L, Q v h' L → Fr n0 L ∧ Keep h h' ws') (hws : ∀ x ∈ ws', x ∈ ws ∨ h0.size ≤ x)
    (k' : ∀ (v : Option Value) (T' : State) (h' : Heap) (L L' : List Loc), NK p l e R s m args below meth c Z own n0 h0 ws T' h' L' (cells + rc) (slots + rs) → Q v h' L → Keep h h' ws' → Go p e below G T' (mkF m pc' Ls (v.toList ++ rest))) : Go p e below G T (mkF m pc Ls st) := by
  subst hst has hp
  obtain ⟨cq, kq, qa, qb, qc⟩ := isOf W.2.2.2.1 W.2.2.1 E
  obtain ⟨v, vm1, ⟨T', L1, k1, n1⟩, -, X', ⟨L, hQ, e1, e2, e3⟩, stp⟩ := W.1.virtualBack W.2.1 (y := y) (z := z) W.2.2.2.2.1 (mvT W.2.2.2.1 w1) (mvT W.2.2.2.1 w2) (notFace_of_selects (args := #[]) (mvT W.2.2.2.1 w3')) (mvT W.2.2.2.1 w3) (mvT W.2.2.2.1 w4) hy hK qa qc (g := mkF m pc Ls (argsL.reverse ++ .ref a :: rest)) rfl hml.symm (Steps.refl _) (argsL := argsL) (rest := rest) hlen rfl (by show 2 * 0 + _ ≤ _; omega) hd (fun _ _ => ⟨rfl, W.2.2.1, hc, hs⟩)
  dsimp only [Pt.U, Pt.locs, Pt.cells, Pt.slots] at X' hQ e1 e2 e3 stp
  subst e1 e2 e3
  obtain ⟨N, K⟩ := hq _ _ _ hQ
  exact Go.tr stp (k' v T' _ L _ (W.called X' N K hws) hQ K)
end Heap1
section Pure1
variable {p : Program} {l : Launch} {e : Env} {R : Room} {s : State} {m : MethodId} {args : Array Value} {below : List Frame} {meth : Method} {c : Code} {Z : State} {own : String} {n0 : Nat} {h0 : Heap} {ws ws' : List Addr} {T T' : State} {h h' : Heap} {locs : List Loc} {cells slots : Nat} {G : State → Prop} {g g' : JFrame} {a0 : Array Value} {pc pc' : Nat} {Ls Ls' : Array Slot} {st rest : List Value}
/-- it returns w and leaves the heap as it was -/
abbrev Pu (w : Option Value) (h0 : Heap) : Option Value → Heap → Prop := fun v h' => v = w ∧ h' = h0
theorem NK.callSP (W : NK p l e R s m args below meth c Z own n0 h0 ws T h locs cells slots) {index : Nat} {y : MethodName} {bytes : ByteArray} {maxL : Nat} {ret : Option FieldType} (w1 : (Cond.methodLink own index y).before a0 Z = true) (w2 : (Cond.static y).before a0 Z = true) (w3 : (Cond.initialized y.cls).before a0 Z = true) (w4 : (Cond.code y bytes maxL ret).before a0 Z = true)
    (hy : y.cls ≠ "java/lang/invoke/MethodHandle" ∧ y.cls ≠ "java/lang/invoke/VarHandle") {wd rc rs : Nat} {as' : Array Value} {Q : Option Value → Heap → List Loc → Prop} (hK : BK l R p e below s args y 3 wd as' h rc rs Q) (hd : decode c.code pc = .ok (.invokestatic index, 3)) (hp : pc + 3 = pc') (hml : c.maxLocals = Ls.size) {argsL : List Value} (has : argsL.toArray = as') (hlen : ∀ sig, parseMethodDescriptor y.desc = some sig → argsL.length = sig.parameters.length) (hst : st = argsL.reverse ++ rest) (hW : (rest.map fun v => v.category).sum ≤ wd) (hc : cells + rc ≤ R.cells) (hs : slots + rs ≤ R.slots)
    {w : Option Value} (hq : ∀ v h' L, Q v h' L → Fr n0 L ∧ Pu w h v h')
    (k' : ∀ (T' : State) (L' : List Loc), NK p l e R s m args below meth c Z own n0 h0 ws T' h L' (cells + rc) (slots + rs) → Go p e below G T' (mkF m pc' Ls (w.toList ++ rest))) : Go p e below G T (mkF m pc Ls st) :=
  W.callS w1 w2 w3 w4 hy hK hd hp hml has hlen hst hW hc hs (ws' := []) (fun v h' L q => ⟨(hq v h' L q).1, by rw [(hq v h' L q).2.2]; exact Keep.refl _ _⟩) all0 (fun v T' h' L L' W' q _ => by
    obtain ⟨-, rfl, rfl⟩ := hq v h' L q
    exact k' T' L' W')
theorem NK.callIP (W : NK p l e R s m args below meth c Z own n0 h0 ws T h locs cells slots) {index : Nat} {y : MethodName} {bytes : ByteArray} {maxL : Nat} (hy1 : y.name = "<init>") (w1 : (Cond.methodLink own index y).before a0 Z = true) (w2 : (Cond.instanceMethod y).before a0 Z = true) (w4 : (Cond.code y bytes maxL none).before a0 Z = true)
    (hy : y.cls ≠ "java/lang/invoke/MethodHandle" ∧ y.cls ≠ "java/lang/invoke/VarHandle") {wd rc rs : Nat} {as' : Array Value} {Q : Option Value → Heap → List Loc → Prop} (hK : BK l R p e below s args y 3 wd as' h rc rs Q) (hd : decode c.code pc = .ok (.invokespecial index, 3)) (hp : pc + 3 = pc') (hml : c.maxLocals = Ls.size) {a : Addr} {argsL : List Value} (has : (Value.ref a :: argsL).toArray = as') (hlen : ∀ sig, parseMethodDescriptor y.desc = some sig → argsL.length = sig.parameters.length) (hst : st = argsL.reverse ++ .ref a :: rest) (hW : (rest.map fun v => v.category).sum ≤ wd) (hc : cells + rc ≤ R.cells) (hs : slots + rs ≤ R.slots)
    {w : Option Value} (hq : ∀ v h' L, Q v h' L → Fr n0 L ∧ Pu w h v h')
    (k' : ∀ (T' : State) (L' : List Loc), NK p l e R s m args below meth c Z own n0 h0 ws T' h L' (cells + rc) (slots + rs) → Go p e below G T' (mkF m pc' Ls (w.toList ++ rest))) : Go p e below G T (mkF m pc Ls st) :=
  W.callI hy1 w1 w2 w4 hy hK hd hp hml has hlen hst hW hc hs (ws' := []) (fun v h' L q => ⟨(hq v h' L q).1, by rw [(hq v h' L q).2.2]; exact Keep.refl _ _⟩) all0 (fun v T' h' L L' W' q _ => by
    obtain ⟨-, rfl, rfl⟩ := hq v h' L q
    exact k' T' L' W')
theorem NK.callVP (W : NK p l e R s m args below meth c Z own n0 h0 ws T h locs cells slots) {index : Nat} {C : String} {y z : MethodName} (w1 : (Cond.methodLink own index y).before a0 Z = true) (w2 : (Cond.declares y).before a0 Z = true) (w3 : (Cond.selects C y z).before a0 Z = true) {C' : String} (w3' : (Cond.selects C' y y).before a0 Z = true) (w4 : (Cond.instanceMethod z).before a0 Z = true)
    (hy : y.cls ≠ "java/lang/invoke/MethodHandle" ∧ y.cls ≠ "java/lang/invoke/VarHandle") {wd rc rs : Nat} {as' : Array Value} {Q : Option Value → Heap → List Loc → Prop} (hK : BK l R p e below s args z 3 wd as' h rc rs Q) {a : Addr} (E : Exa Z h a C) (hd : decode c.code pc = .ok (.invokevirtual index, 3)) (hp : pc + 3 = pc') (hml : c.maxLocals = Ls.size) {argsL : List Value} (has : (Value.ref a :: argsL).toArray = as') (hlen : ∀ sig, parseMethodDescriptor y.desc = some sig → argsL.length = sig.parameters.length) (hst : st = argsL.reverse ++ .ref a :: rest) (hW : (rest.map fun v => v.category).sum ≤ wd) (hc : cells + rc ≤ R.cells) (hs : slots + rs ≤ R.slots)
    {w : Option Value} (hq : ∀ v h' L, Q v h' L → Fr n0 L ∧ Pu w h v h')
    (k' : ∀ (T' : State) (L' : List Loc), NK p l e R s m args below meth c Z own n0 h0 ws T' h L' (cells + rc) (slots + rs) → Go p e below G T' (mkF m pc' Ls (w.toList ++ rest))) : Go p e below G T (mkF m pc Ls st) :=
  W.callV w1 w2 w3 w3' w4 hy hK E hd hp hml has hlen hst hW hc hs (ws' := []) (fun v h' L q => ⟨(hq v h' L q).1, by rw [(hq v h' L q).2.2]; exact Keep.refl _ _⟩) all0 (fun v T' h' L L' W' q _ => by
    obtain ⟨-, rfl, rfl⟩ := hq v h' L q
    exact k' T' L' W')
/-- what a pure contract's payer says -/
theorem pu_of {w : Option Value} {L : List Loc} {v : Option Value} (q : Pu w h v h' ∧ Keep h h' [] ∧ Fr n0 L) : Fr n0 L ∧ Pu w h v h' := ⟨q.2.2, q.1⟩
theorem pu_nil {w : Option Value} {L : List Loc} {v : Option Value} (q : v = w ∧ L = [] ∧ h' = h) : Fr n0 L ∧ Pu w h v h' := ⟨by rw [q.2.1]; exact Fr.nil n0, q.1, q.2.2⟩
end Pure1
section Small1
variable {p : Program} {l : Launch} {e : Env} {R : Room} {s : State} {m : MethodId} {args : Array Value} {below : List Frame} {meth : Method} {c : Code} {Z : State} {own : String} {n0 : Nat} {h0 : Heap} {ws : List Addr} {T : State} {h : Heap} {locs : List Loc} {cells slots : Nat}
theorem NK.n0h (W : NK p l e R s m args below meth c Z own n0 h0 ws T h locs cells slots) : n0 ≤ h.size := Nat.le_trans W.2.2.2.2.2.2.2.1 W.2.2.2.2.2.2.1.1
theorem mem0 {P : Int32 → Prop} : ∀ x ∈ ([] : List Int32), P x := fun _ q => nomatch q
theorem memS {P : Int32 → Prop} {y : Int32} {L : List Int32} (q : P y) (r : ∀ x ∈ L, P x) : ∀ x ∈ y :: L, P x := fun x z => (List.mem_cons.mp z).elim (fun u => u ▸ q) (r x)
variable {G : State → Prop} {a0 : Array Value} {pc pc' : Nat} {Ls : Array Slot} {rest : List Value}
theorem NK.instNull (W : NK p l e R s m args below meth c Z own n0 h0 ws T h locs cells slots) {index : Nat} (hd : decode c.code pc = .ok (.instanceof index, 3)) (hp : pc + 3 = pc') (k' : Go p e below G T (mkF m pc' Ls (.int 0 :: rest))) : Go p e below G T (mkF m pc Ls (.null :: rest)) := by
  subst hp
  exact Go.by1 (fun t q => W.1.instanceofNull W.2.1 (g := mkF m pc Ls (.null :: rest)) rfl rfl hd t q) k'
theorem NK.castNull (W : NK p l e R s m args below meth c Z own n0 h0 ws T h locs cells slots) {index : Nat} (hd : decode c.code pc = .ok (.checkcast index, 3)) (hp : pc + 3 = pc') (k' : Go p e below G T (mkF m pc' Ls (.null :: rest))) : Go p e below G T (mkF m pc Ls (.null :: rest)) := by
  subst hp
  exact Go.by1 (fun t q => W.1.checkcastNull W.2.1 (g := mkF m pc Ls (.null :: rest)) rfl rfl hd t q) k'
theorem NK.castY (W : NK p l e R s m args below meth c Z own n0 h0 ws T h locs cells slots) {K : String} {index : Nat} (w : (Cond.classLink own index K).before a0 Z = true) {a : Addr} (F : Ins Z h a K true) (hd : decode c.code pc = .ok (.checkcast index, 3)) (hp : pc + 3 = pc')
    (k' : ∀ T' : State, NK p l e R s m args below meth c Z own n0 h0 ws T' h locs cells slots → Go p e below G T' (mkF m pc' Ls (.ref a :: rest))) : Go p e below G T (mkF m pc Ls (.ref a :: rest)) := by
  obtain ⟨T', X', e', stp⟩ := RoadKit.castY W.1 W.2.1 W.2.2.2.1 W.2.2.2.2.1 w W.2.2.1 F (g := mkF m pc Ls (.ref a :: rest)) rfl rfl hd
  subst hp
  exact Go.by1 (fun t q => stp t q) (k' T' (W.moved X' e'))
theorem NK.instY (W : NK p l e R s m args below meth c Z own n0 h0 ws T h locs cells slots) {K : String} {index : Nat} (w : (Cond.classLink own index K).before a0 Z = true) {a : Addr} (F : Ins Z h a K true) (hd : decode c.code pc = .ok (.instanceof index, 3)) (hp : pc + 3 = pc')
    (k' : ∀ T' : State, NK p l e R s m args below meth c Z own n0 h0 ws T' h locs cells slots → Go p e below G T' (mkF m pc' Ls (.int 1 :: rest))) : Go p e below G T (mkF m pc Ls (.ref a :: rest)) := by
  obtain ⟨T', X', e', stp⟩ := RoadKit.instY W.1 W.2.1 W.2.2.2.1 W.2.2.2.2.1 w W.2.2.1 F (g := mkF m pc Ls (.ref a :: rest)) rfl rfl hd
  subst hp
  exact Go.by1 (fun t q => stp t q) (k' T' (W.moved X' e'))
end Small1
section Wide1
variable {p : Program} {l : Launch} {e : Env} {R : Room} {s : State} {m : MethodId} {args : Array Value} {below : List Frame} {meth : Method} {c : Code} {Z : State} {EL : List (String × Nat)} {own : String} {n0 : Nat} {h0 : Heap} {ws ws' : List Addr} {T T' : State} {h h' : Heap} {vm : Vm} {locs locs' : List Loc} {cells slots cells' slots' : Nat} {G : State → Prop} {g g' : JFrame} {a0 : Array Value} {pc pc' : Nat} {Ls Ls' : Array Slot} {st rest : List Value}
/-- the wide walk: NK over the start with the tables vm, which may have interned since -/
def WK (EL : List (String × Nat)) (p : Program) (l : Launch) (e : Env) (R : Room) (s : State) (m : MethodId) (args : Array Value) (below : List Frame) (meth : Method) (c : Code) (Z : State) (own : String) (n0 : Nat) (h0 : Heap) (ws : List Addr) (T : State) (h : Heap) (vm : Vm) (locs : List Loc) (cells slots : Nat) : Prop :=
  NK p l e R (s.setVm vm) m args below meth c Z own n0 h0 ws T h locs cells slots ∧ s.Since vm h.size ∧ CHr Z EL s.vm h0 vm h
theorem since_grow {n n' : Nat} (S : s.Since vm n) (q : n ≤ n') : s.Since vm n' := ⟨S.1, fun j p hj hp => ⟨(S.2 j p hj hp).1, Nat.lt_of_lt_of_le (S.2 j p hj hp).2 q⟩⟩
theorem WK.up (W : WK EL p l e R s m args below meth c Z own n0 h0 ws T h vm locs cells slots) (N : NK p l e R (s.setVm vm) m args below meth c Z own n0 h0 ws T' h' locs' cells' slots') (K : Keep h h' ws') (S : ∀ x ∈ ws', Safe Z EL vm h x) : WK EL p l e R s m args below meth c Z own n0 h0 ws T' h' vm locs' cells' slots' :=
  ⟨N, since_grow W.2.1 K.1, W.2.2.trans (CHr.keep K S W.2.2.1)⟩
theorem WK.upE (W : WK EL p l e R s m args below meth c Z own n0 h0 ws T h vm locs cells slots) (N : NK p l e R (s.setVm vm) m args below meth c Z own n0 h0 ws T' h' locs' cells' slots') (E : Ext h h') : WK EL p l e R s m args below meth c Z own n0 h0 ws T' h' vm locs' cells' slots' :=
  ⟨N, since_grow W.2.1 E.1, W.2.2.trans (CHr.ext E W.2.2.1)⟩
theorem WK.same (W : WK EL p l e R s m args below meth c Z own n0 h0 ws T h vm locs cells slots) (N : NK p l e R (s.setVm vm) m args below meth c Z own n0 h0 ws T' h locs' cells' slots') : WK EL p l e R s m args below meth c Z own n0 h0 ws T' h vm locs' cells' slots' := ⟨N, W.2⟩
/-- a fresh cell is no booked one -/
theorem WK.safeNew (W : WK EL p l e R s m args below meth c Z own n0 h0 ws T h vm locs cells slots) {a : Addr} (ha : a = h.size) (E : Ext h h') : Safe Z EL vm h' a := Safe.ext E W.2.2.1 (Safe.new (Nat.le_of_eq ha.symm))
theorem WK.safeE (W : WK EL p l e R s m args below meth c Z own n0 h0 ws T h vm locs cells slots) {a : Addr} (S : Safe Z EL vm h a) (E : Ext h h') : Safe Z EL vm h' a := Safe.ext E W.2.2.1 S
theorem WK.safeK (W : WK EL p l e R s m args below meth c Z own n0 h0 ws T h vm locs cells slots) {a : Addr} (S : Safe Z EL vm h a) (K : Keep h h' ws') (hs : ∀ x ∈ ws', Safe Z EL vm h x) : Safe Z EL vm h' a := Safe.keep K hs W.2.2.1 S
def WM (l : Launch) (y : MethodName) (bytes : ByteArray) (maxL : Nat) (ret : Option FieldType) (xs : List Cond) (R : Room) (Z : State) (EL : List (String × Nat)) (n0 : Nat) (as' : Array Value) (h0 : Heap) (ws : List Addr) (P : Option Value → Heap → Prop) : Prop :=
  MetFree l y (head1 (Cond.code y bytes maxL ret :: xs) R) (fun a U => a = as' ∧ Z.Warmed39 U.vm ∧ U.heap = h0 ∧ CHv Z EL U.vm h0) (fun _ _ _ _ _ => True) (fun _ U o U' => ∃ v L, o = .returned v ∧ (P v U'.heap ∧ Keep h0 U'.heap ws ∧ Fr n0 L) ∧ CHr Z EL U.vm U.heap U'.vm U'.heap ∧ ReturnedEndW U o U' L R.cells R.slots)
def EndW (Z : State) (EL : List (String × Nat)) (n0 : Nat) (R : Room) (s : State) (below : List Frame) (P : Option Value → Heap → Prop) (h0 : Heap) (ws : List Addr) (t : State) : Prop :=
  ∃ o, t.status = .running ∧ Ended t below o ∧ ∃ v L, o = .returned v ∧ (P v t.heap ∧ Keep h0 t.heap ws ∧ Fr n0 L) ∧ CHr Z EL s.vm h0 t.vm t.heap ∧ ReturnedEndW s o t L R.cells R.slots
theorem WM.walk {y : MethodName} {bytes : ByteArray} {maxL : Nat} {ret : Option FieldType} {xs : List Cond} {as' : Array Value} {P : Option Value → Heap → Prop} (hpl : plainFor y = true) (hn : n0 ≤ h0.size) (ef : ∀ m, entryFrame m as' maxL = mkF m 0 Ls [])
    (body : ∀ (p : Program) (e : Env) (s : State) (m : MethodId) (below : List Frame) (meth : Method) (c : Code) (s₁ : State), c.code = bytes → c.maxLocals = maxL → meth.sig.returnType = ret → meth.name = y.name → WK EL p l e R s m as' below meth c Z y.cls n0 h0 ws s₁ h0 s.vm [] 0 0 → Go p e below (EndW Z EL n0 R s below P h0 ws) s₁ (mkF m 0 Ls [])) : WM l y bytes maxL ret xs R Z EL n0 as' h0 ws P := by
  refine MetFree.of_bodySF hpl hisR ?_
  intro p e s m args below meth c s₁ Bd hml0 hP hK
  obtain ⟨rfl, hZ, hh, hC⟩ := hP
  have X0 : Stand p l e R s m args below meth c s₁ [] 0 0 := Stand.of_body Bd
  have e0 : s₁.heap = h0 := by rw [← hh, Bd.state]; rfl
  have N0 : NK p l e R (s.setVm s.vm) m args below meth c Z y.cls n0 h0 ws s₁ h0 [] 0 0 := ⟨X0, Bd.exec, e0, hZ, findClass_of_methodNamed Bd.named, Fr.nil n0, Keep.refl _ _, hn, BodyLoose.notSynchronized Bd⟩
  obtain ⟨t, a, o, r1, r2, v, L, q1, q2, q3, q4⟩ := body p e s m below meth c s₁ Bd.bytes hml0 Bd.returns (name_of_methodNamed Bd.named Bd.method).1 ⟨N0, (State.WarmedH.refl s).since _, CHr.refl hC⟩
  exact ⟨t, o, castTop (ef m) a, r1, r2, v, L, q1, q2, by rw [hh]; exact q3, q4⟩
theorem WK.ends (W : WK EL p l e R s m args below meth c Z own n0 h0 ws T h vm locs cells slots) (hEL : EW Z a0 EL) {P : Option Value → Heap → Prop} {v : Option Value} (hv : meth.sig.returnType = none → v = none) (hc : cells ≤ R.cells) (hs : slots ≤ R.slots) (hP : P v h)
    (stp : ∀ fs, (∀ (f : JFrame) (acts : List Action), f.method = m → f.locked = none → f.entered = [] → (doReturn e (T.setTop f) acts v).1 = T.setFrames fs) → Steps p.tables e below (T.setTop g) (T.setFrames fs)) : Go p e below (EndW Z EL n0 R s below P h0 ws) T g := by
  obtain ⟨⟨X, hx, eT, hZ, hown, N, K, hn0, hlk⟩, S, C⟩ := W
  obtain ⟨fs, hr, hrun, hended, hW, hsame⟩ := X.leave hv hlk
  have e1 : (T.setFrames fs).heap = h := eT
  obtain ⟨q1, q2, q3⟩ := S.ended hW (by rw [e1]; exact Nat.le_refl _) hsame
  refine ⟨_, stp fs hr, _, hrun, hended, _, _, rfl, ?_, ?_, ⟨_, rfl⟩, q1, q2, q3.mono hc hs⟩
  · rw [e1]; exact ⟨hP, K, N⟩
  · rw [e1]
    have A := CHv.at X hZ hEL C.1
    exact C.trans A
theorem WK.ret (W : WK EL p l e R s m args below meth c Z own n0 h0 ws T h vm locs cells slots) (hEL : EW Z a0 EL) {P : Option Value → Heap → Prop} {w : Value} {t : FieldType} {i : Instr} (hret : meth.sig.returnType = some t) (hn : narrow t w = w)
    (hi : (i = .ireturn ∧ (t = .int ∨ t = .boolean ∨ t = .byte ∨ t = .char ∨ t = .short) ∧ ∃ z, w = .int z) ∨ (i = .lreturn ∧ t = .long ∧ ∃ z, w = .long z) ∨ (i = .dreturn ∧ t = .double ∧ ∃ z, w = .double z) ∨ (i = .freturn ∧ t = .float ∧ ∃ z, w = .float z) ∨ (i = .areturn ∧ t.isReference = true ∧ w.isRef = true))
    (hd : decode c.code pc = .ok (i, 1)) (hc : cells ≤ R.cells) (hs : slots ≤ R.slots) (hP : P (some w) h) : Go p e below (EndW Z EL n0 R s below P h0 ws) T (mkF m pc Ls (w :: rest)) :=
  W.ends hEL (fun h => by rw [hret] at h; cases h) hc hs hP (fun fs hr => retOut W.1.1 W.1.2.1 hret hn hi hd hr)
theorem WK.retI (W : WK EL p l e R s m args below meth c Z own n0 h0 ws T h vm locs cells slots) (hEL : EW Z a0 EL) {P : Option Value → Heap → Prop} {z : Int32} (hret : meth.sig.returnType = some .int) (hd : decode c.code pc = .ok (.ireturn, 1)) (hc : cells ≤ R.cells) (hs : slots ≤ R.slots) (hP : P (some (.int z)) h) : Go p e below (EndW Z EL n0 R s below P h0 ws) T (mkF m pc Ls (.int z :: rest)) :=
  W.ret hEL hret rfl (Or.inl ⟨rfl, Or.inl rfl, _, rfl⟩) hd hc hs hP
theorem WK.retZ (W : WK EL p l e R s m args below meth c Z own n0 h0 ws T h vm locs cells slots) (hEL : EW Z a0 EL) {P : Option Value → Heap → Prop} {z : Int32} (hret : meth.sig.returnType = some .boolean) (hd : decode c.code pc = .ok (.ireturn, 1)) (hz : z = 0 ∨ z = 1) (hc : cells ≤ R.cells) (hs : slots ≤ R.slots) (hP : P (some (.int z)) h) : Go p e below (EndW Z EL n0 R s below P h0 ws) T (mkF m pc Ls (.int z :: rest)) :=
  W.ret hEL hret (by rcases hz with rfl | rfl <;> rfl) (Or.inl ⟨rfl, Or.inr (Or.inl rfl), _, rfl⟩) hd hc hs hP
theorem WK.retC (W : WK EL p l e R s m args below meth c Z own n0 h0 ws T h vm locs cells slots) (hEL : EW Z a0 EL) {P : Option Value → Heap → Prop} {z : Int32} (hret : meth.sig.returnType = some .char) (hd : decode c.code pc = .ok (.ireturn, 1)) (hz : narrow .char (.int z) = .int z) (hc : cells ≤ R.cells) (hs : slots ≤ R.slots) (hP : P (some (.int z)) h) : Go p e below (EndW Z EL n0 R s below P h0 ws) T (mkF m pc Ls (.int z :: rest)) :=
  W.ret hEL hret hz (Or.inl ⟨rfl, Or.inr (Or.inr (Or.inr (Or.inl rfl))), _, rfl⟩) hd hc hs hP
theorem WK.retJ (W : WK EL p l e R s m args below meth c Z own n0 h0 ws T h vm locs cells slots) (hEL : EW Z a0 EL) {P : Option Value → Heap → Prop} {z : Int64} (hret : meth.sig.returnType = some .long) (hd : decode c.code pc = .ok (.lreturn, 1)) (hc : cells ≤ R.cells) (hs : slots ≤ R.slots) (hP : P (some (.long z)) h) : Go p e below (EndW Z EL n0 R s below P h0 ws) T (mkF m pc Ls (.long z :: rest)) :=
  W.ret hEL hret rfl (Or.inr (Or.inl ⟨rfl, rfl, _, rfl⟩)) hd hc hs hP
theorem WK.retA (W : WK EL p l e R s m args below meth c Z own n0 h0 ws T h vm locs cells slots) (hEL : EW Z a0 EL) {P : Option Value → Heap → Prop} {w : Value} {t : FieldType} (hret : meth.sig.returnType = some t) (ht : t.isReference = true) (hw : w.isRef = true) (hd : decode c.code pc = .ok (.areturn, 1)) (hc : cells ≤ R.cells) (hs : slots ≤ R.slots) (hP : P (some w) h) : Go p e below (EndW Z EL n0 R s below P h0 ws) T (mkF m pc Ls (w :: rest)) :=
  W.ret hEL hret (by cases t <;> cases w <;> first | rfl | (simp [FieldType.isReference, Value.isRef] at ht hw)) (Or.inr (Or.inr (Or.inr (Or.inr ⟨rfl, ht, hw⟩)))) hd hc hs hP
theorem WK.retV (W : WK EL p l e R s m args below meth c Z own n0 h0 ws T h vm locs cells slots) (hEL : EW Z a0 EL) {P : Option Value → Heap → Prop} (hret : meth.sig.returnType = none) (hd : decode c.code pc = .ok (.return_, 1)) (hc : cells ≤ R.cells) (hs : slots ≤ R.slots) (hP : P none h) : Go p e below (EndW Z EL n0 R s below P h0 ws) T (mkF m pc Ls []) :=
  W.ends hEL (fun _ => rfl) hc hs hP (fun fs hr => W.1.1.returnOut W.1.2.1 hret hd hr)
/-- a wide payer -/
abbrev BKS (EL : List (String × Nat)) (l : Launch) (R : Room) (p : Program) (e : Env) (below : List Frame) (s : State) (args : Array Value) (Z : State) (vm : Vm) (y : MethodName) (len wd : Nat) (as' : Array Value) (h : Heap) (rc rs : Nat) (Q : Option Value → Heap → List Loc → Prop) : Prop :=
  BackS l R p e below (s.setVm vm) args y len wd (fun A a => a = as' ∧ A.U.heap = h ∧ A.cells + rc ≤ R.cells ∧ A.slots + rs ≤ R.slots) (fun A _ v B => ∃ L, Q v B.U.heap L ∧ B.locs = A.locs ++ L ∧ B.cells = A.cells + rc ∧ B.slots = A.slots + rs ∧ CHr Z EL vm h B.U.vm B.U.heap)
theorem WM.bk {y : MethodName} {bytes : ByteArray} {maxL : Nat} {ret : Option FieldType} {rm : Room} {as' : Array Value} {P : Option Value → Heap → Prop} {len wd : Nat} (hM : WM l y bytes maxL ret [] rm Z EL n0 as' h ws' P) (hZ : Z.Warmed39 vm) (wc : (Cond.code y bytes maxL ret).before a0 Z = true) (wz : (Cond.initialized y.cls).before a0 Z = true) (hf : rm.frames + 1 ≤ R.frames) (hl : wd + (maxL + 11) + rm.locals ≤ R.locals) (hEL : EW Z a0 EL) (H : CHv Z EL vm h) :
    BKS EL l R p e below s args Z vm y len wd as' h rm.cells rm.slots (fun v h' L => P v h' ∧ Keep h h' ws' ∧ Fr n0 L) := backOfSH (Q := fun v h' L => P v h' ∧ Keep h h' ws' ∧ Fr n0 L) hM hZ wc wz hf hl hEL H
theorem WK.called (W : WK EL p l e R s m args below meth c Z own n0 h0 ws T h vm locs cells slots) {L : List Loc} {T' : State} {c2 s2 : Nat} (X' : Stand p l e R ((s.setVm vm).setVm T'.vm) m args below meth c T' (locs ++ L) c2 s2) (S' : (s.setVm vm).Since T'.vm T'.heap.size) (gr : h.size ≤ T'.heap.size) (C' : CHr Z EL vm h T'.vm T'.heap) (N : Fr n0 L) (K : Keep h T'.heap ws') (hws : ∀ x ∈ ws', x ∈ ws ∨ h0.size ≤ x) :
    WK EL p l e R s m args below meth c Z own n0 h0 ws T' T'.heap T'.vm (locs ++ L) c2 s2 := by
  obtain ⟨⟨X, hx, eT, hZ, hown, N0, K0, hn0, hlk⟩, S, C⟩ := W
  have hZ' : Z.Warmed39 T'.vm := State.Warmed39.trans (t := s.setVm vm) hZ S'.1
  have ho : T'.vm.findClass own = some m.cls := by rw [S'.1.alike.findClass]; exact hown
  exact ⟨⟨X', hx, rfl, hZ', ho, Fr.app N0 N, K0.trans K hws, hn0, hlk⟩, S.trans S' gr, C.trans C'⟩
theorem WK.callS (W : WK EL p l e R s m args below meth c Z own n0 h0 ws T h vm locs cells slots) {index : Nat} {y : MethodName} {bytes : ByteArray} {maxL : Nat} {ret : Option FieldType} (w1 : (Cond.methodLink own index y).before a0 Z = true) (w2 : (Cond.static y).before a0 Z = true) (w3 : (Cond.initialized y.cls).before a0 Z = true) (w4 : (Cond.code y bytes maxL ret).before a0 Z = true)
    (hy : y.cls ≠ "java/lang/invoke/MethodHandle" ∧ y.cls ≠ "java/lang/invoke/VarHandle") {wd rc rs : Nat} {as' : Array Value} {Q : Option Value → Heap → List Loc → Prop} (hK : BKS EL l R p e below s args Z vm y 3 wd as' h rc rs Q) (hd : decode c.code pc = .ok (.invokestatic index, 3)) (hp : pc + 3 = pc') (hml : c.maxLocals = Ls.size) {argsL : List Value} (has : argsL.toArray = as') (hlen : ∀ sig, parseMethodDescriptor y.desc = some sig → argsL.length = sig.parameters.length) (hst : st = argsL.reverse ++ rest) (hW : (rest.map fun v => v.category).sum ≤ wd) (hc : cells + rc ≤ R.cells) (hs : slots + rs ≤ R.slots)
    (hq : ∀ v h' L, Q v h' L → Fr n0 L ∧ Keep h h' ws') (hws : ∀ x ∈ ws', x ∈ ws ∨ h0.size ≤ x)
    (k' : ∀ (v : Option Value) (T' : State) (h' : Heap) (vm' : Vm) (L L' : List Loc), WK EL p l e R s m args below meth c Z own n0 h0 ws T' h' vm' L' (cells + rc) (slots + rs) → Q v h' L → Keep h h' ws' → CHr Z EL vm h vm' h' → Go p e below G T' (mkF m pc' Ls (v.toList ++ rest))) : Go p e below G T (mkF m pc Ls st) := by
  subst hst has hp
  obtain ⟨v, vm1, ⟨T', L1, k1, n1⟩, -, X', S', gr, ⟨L, hQ, e1, e2, e3, C'⟩, stp⟩ := callSS W.1.1 W.1.2.1 W.1.2.2.2.2.1 (mvT W.1.2.2.2.1 w1) (mvT W.1.2.2.2.1 w2) (mvT W.1.2.2.2.1 w3) (mvT W.1.2.2.2.1 w4) hy hK (g := mkF m pc Ls (argsL.reverse ++ rest)) rfl hml.symm (argsL := argsL) (rest := rest) hlen rfl (by show 2 * 0 + _ ≤ _; omega) hd (fun _ _ => ⟨rfl, W.1.2.2.1, hc, hs⟩)
  dsimp only [Pt.U, Pt.locs, Pt.cells, Pt.slots] at X' hQ e1 e2 e3 stp S' gr C'
  subst e1 e2 e3
  obtain ⟨N, K⟩ := hq _ _ _ hQ
  exact Go.tr stp (k' v T' _ _ L _ (W.called X' S' K.1 C' N K hws) hQ K C')
theorem WK.callI (W : WK EL p l e R s m args below meth c Z own n0 h0 ws T h vm locs cells slots) {index : Nat} {y : MethodName} {bytes : ByteArray} {maxL : Nat} (hy1 : y.name = "<init>") (w1 : (Cond.methodLink own index y).before a0 Z = true) (w2 : (Cond.instanceMethod y).before a0 Z = true) (w4 : (Cond.code y bytes maxL none).before a0 Z = true)
    (hy : y.cls ≠ "java/lang/invoke/MethodHandle" ∧ y.cls ≠ "java/lang/invoke/VarHandle") {wd rc rs : Nat} {as' : Array Value} {Q : Option Value → Heap → List Loc → Prop} (hK : BKS EL l R p e below s args Z vm y 3 wd as' h rc rs Q) (hd : decode c.code pc = .ok (.invokespecial index, 3)) (hp : pc + 3 = pc') (hml : c.maxLocals = Ls.size) {a : Addr} {argsL : List Value} (has : (Value.ref a :: argsL).toArray = as') (hlen : ∀ sig, parseMethodDescriptor y.desc = some sig → argsL.length = sig.parameters.length) (hst : st = argsL.reverse ++ .ref a :: rest) (hW : (rest.map fun v => v.category).sum ≤ wd) (hc : cells + rc ≤ R.cells) (hs : slots + rs ≤ R.slots)
    (hq : ∀ v h' L, Q v h' L → Fr n0 L ∧ Keep h h' ws') (hws : ∀ x ∈ ws', x ∈ ws ∨ h0.size ≤ x)
    (k' : ∀ (v : Option Value) (T' : State) (h' : Heap) (vm' : Vm) (L L' : List Loc), WK EL p l e R s m args below meth c Z own n0 h0 ws T' h' vm' L' (cells + rc) (slots + rs) → Q v h' L → Keep h h' ws' → CHr Z EL vm h vm' h' → Go p e below G T' (mkF m pc' Ls (v.toList ++ rest))) : Go p e below G T (mkF m pc Ls st) := by
  subst hst has hp
  obtain ⟨v, vm1, ⟨T', L1, k1, n1⟩, -, X', S', gr, ⟨L, hQ, e1, e2, e3, C'⟩, stp⟩ := W.1.1.specialBackS W.1.2.1 hy1 W.1.2.2.2.2.1 (mvT W.1.2.2.2.1 w1) (mvT W.1.2.2.2.1 w2) (mvT W.1.2.2.2.1 w4) hy hK (g := mkF m pc Ls (argsL.reverse ++ .ref a :: rest)) rfl hml.symm (Steps.refl _) (a := a) (argsL := argsL) (rest := rest) hlen rfl (by show 2 * 0 + _ ≤ _; omega) hd (fun _ _ => ⟨rfl, W.1.2.2.1, hc, hs⟩)
  dsimp only [Pt.U, Pt.locs, Pt.cells, Pt.slots] at X' hQ e1 e2 e3 stp S' gr C'
  subst e1 e2 e3
  obtain ⟨N, K⟩ := hq _ _ _ hQ
  exact Go.tr stp (k' v T' _ _ L _ (W.called X' S' K.1 C' N K hws) hQ K C')
theorem WK.callV (W : WK EL p l e R s m args below meth c Z own n0 h0 ws T h vm locs cells slots) {index : Nat} {C : String} {y z : MethodName} (w1 : (Cond.methodLink own index y).before a0 Z = true) (w2 : (Cond.declares y).before a0 Z = true) (w3 : (Cond.selects C y z).before a0 Z = true) {C' : String} (w3' : (Cond.selects C' y y).before a0 Z = true) (w4 : (Cond.instanceMethod z).before a0 Z = true)
    (hy : y.cls ≠ "java/lang/invoke/MethodHandle" ∧ y.cls ≠ "java/lang/invoke/VarHandle") {wd rc rs : Nat} {as' : Array Value} {Q : Option Value → Heap → List Loc → Prop} (hK : BKS EL l R p e below s args Z vm z 3 wd as' h rc rs Q) {a : Addr} (E : Exa Z h a C) (hd : decode c.code pc = .ok (.invokevirtual index, 3)) (hp : pc + 3 = pc') (hml : c.maxLocals = Ls.size) {argsL : List Value} (has : (Value.ref a :: argsL).toArray = as') (hlen : ∀ sig, parseMethodDescriptor y.desc = some sig → argsL.length = sig.parameters.length) (hst : st = argsL.reverse ++ .ref a :: rest) (hW : (rest.map fun v => v.category).sum ≤ wd) (hc : cells + rc ≤ R.cells) (hs : slots + rs ≤ R.slots)
    (hq : ∀ v h' L, Q v h' L → Fr n0 L ∧ Keep h h' ws') (hws : ∀ x ∈ ws', x ∈ ws ∨ h0.size ≤ x)
    (k' : ∀ (v : Option Value) (T' : State) (h' : Heap) (vm' : Vm) (L L' : List Loc), WK EL p l e R s m args below meth c Z own n0 h0 ws T' h' vm' L' (cells + rc) (slots + rs) → Q v h' L → Keep h h' ws' → CHr Z EL vm h vm' h' → Go p e below G T' (mkF m pc' Ls (v.toList ++ rest))) : Go p e below G T (mkF m pc Ls st) := by
  subst hst has hp
  obtain ⟨cq, kq, qa, qb, qc⟩ := isOf W.1.2.2.2.1 W.1.2.2.1 E
  obtain ⟨v, vm1, ⟨T', L1, k1, n1⟩, -, X', S', gr, ⟨L, hQ, e1, e2, e3, C'⟩, stp⟩ := W.1.1.virtualBackS W.1.2.1 (y := y) (z := z) W.1.2.2.2.2.1 (mvT W.1.2.2.2.1 w1) (mvT W.1.2.2.2.1 w2) (notFace_of_selects (args := #[]) (mvT W.1.2.2.2.1 w3')) (mvT W.1.2.2.2.1 w3) (mvT W.1.2.2.2.1 w4) hy hK qa qc (g := mkF m pc Ls (argsL.reverse ++ .ref a :: rest)) rfl hml.symm (Steps.refl _) (argsL := argsL) (rest := rest) hlen rfl (by show 2 * 0 + _ ≤ _; omega) hd (fun _ _ => ⟨rfl, W.1.2.2.1, hc, hs⟩)
  dsimp only [Pt.U, Pt.locs, Pt.cells, Pt.slots] at X' hQ e1 e2 e3 stp S' gr C'
  subst e1 e2 e3
  obtain ⟨N, K⟩ := hq _ _ _ hQ
  exact Go.tr stp (k' v T' _ _ L _ (W.called X' S' K.1 C' N K hws) hQ K C')
/-- a String whose value is null is no booked one -/
theorem safe_null {x : Addr} (hal : Z.vm.Alike vm) (E : Exa Z h x "java/lang/String") (F : Fld Z h x "java/lang/String" "value" "[B" .null) : Safe Z EL vm h x := fun B => by
  obtain ⟨q0, -, u, a, -, q, -, S, rfl | rfl⟩ := B
  · obtain ⟨cell, cf, k, i, f, f1, f2, -, -, -, -, f7⟩ := F
    cases (show h[q.sa]? = some q.sC from S.ha).symm.trans f1
    obtain ⟨cS, ⟨⟨-, -, -, ⟨c1, k1, i1, g1, -⟩, -, -, -, v1, -⟩, -⟩, -⟩ := S
    obtain ⟨k3, e3⟩ := ff_back (U := Wst Z vm h) hal g1
    cases f2.symm.trans e3
    rw [f7] at v1; cases v1
  · obtain ⟨cell, k, e1, e2, e3, -, -⟩ := E
    cases (show h[q.sd]? = some q.SA from S.hd).symm.trans e1
    obtain ⟨cS, -, -, f, -⟩ := S
    have f' : vm.findClass "[B" = some q.SA.cls := f
    rw [hal.findClass] at f'
    obtain ⟨k1, q1, q2⟩ := Vm.findClass_spec f'
    obtain ⟨k2, q3, q4⟩ := Vm.findClass_spec e2
    cases q1.symm.trans q3
    exact absurd (q2.symm.trans q4) (by decide)
/-- ldc of a String constant of EL -/
theorem WK.ldcS (W : WK EL p l e R s m args below meth c Z own n0 h0 ws T h vm locs cells slots) (hEL : EW Z a0 EL) {text : String} {index : Nat} (w : (Cond.stringLink own index text).before a0 Z = true) (wS : ∀ a ∈ Bundle.stringAtoms, a.before a0 Z = true) (hmem : (own, index) ∈ EL) {vs : List Value} {z : Int32} (ht : (∀ c ∈ text.toList, c.toNat < 256) ∧ text.toList.map (fun c => Value.int (Jvm.Lit.byteI c.toNat.toUInt16)) = vs) (hz : ¬ z < 0) (hl : z.toNatClampNeg = vs.length)
    (hd : decode c.code pc = .ok (.ldc index, 2)) (hp : pc + 2 = pc') {n : Nat} (hn : 4 * text.toList.length ≤ n) (hbig : n ≤ 536870912) (hc : cells + 2 ≤ R.cells) (hs : slots + (n + 4) ≤ R.slots)
    (k' : ∀ (T' : State) (h' : Heap) (vm' : Vm) (a b : Addr) (kb : ClassId), WK EL p l e R s m args below meth c Z own n0 h0 ws T' h' vm' locs (cells + 2) (slots + (n + 4)) → Ext h h' → CHr Z EL vm h vm' h' → Exa Z h' a "java/lang/String" → Fld Z h' a "java/lang/String" "coder" "B" (.int 0) → Fld Z h' a "java/lang/String" "value" "[B" (.ref b) → Arv Z h' b kb .byte z vs (.int 0) → (∀ x, Safe Z EL vm' h' x → x ≠ a ∧ x ≠ b) → Go p e below G T' (mkF m pc' Ls (.ref a :: st))) : Go p e below G T (mkF m pc Ls st) := by
  obtain ⟨⟨X, hx, eT, hZ, hown, N0, K0, hn0, hlk⟩, S, C⟩ := W
  obtain ⟨a, T', h', k1, b, kb, X', e', E, S', hk, hZ', ho, F1, F2, F3, F4, -, -, C', -, hne, stp⟩ := ldcCH X hx hZ hown w wS eT S (Nat.le_refl _) hEL hmem C.1 ht hz hl (g := mkF m pc Ls st) rfl hd hn hbig hc hs
  subst hp
  exact Go.by1 (fun t q => stp t q) (k' T' h' T'.vm a b kb ⟨⟨X', hx, e', hZ', ho, N0, K0.ext E, hn0, hlk⟩, since_grow S' hk, C.trans C'⟩ E C' F1 F2 F3 F4 hne)
end Wide1
section Str1
variable {p : Program} {l : Launch} {e : Env} {R : Room} {s : State} {args : Array Value} {below : List Frame} {Z : State} {h h' : Heap} {a : Addr} {cs : List Int32} {a0 : Array Value} {len wd : Nat}
/-- the object at a is a String whose chars are cs -/
def StrA (Z : State) (h : Heap) (a : Addr) (cs : List Int32) : Prop := Exa Z h a "java/lang/String" ∧ (∀ c ∈ cs, ¬ c < 0 ∧ ¬ (65535 : Int32) < c) ∧ cs.length ≤ 4000 ∧ ∃ (t : Addr) (kb : ClassId) (cd N2 : Int32) (vs : List Value), Fld Z h a "java/lang/String" "value" "[B" (.ref t) ∧ Fld Z h a "java/lang/String" "coder" "B" (.int cd) ∧ Arv Z h t kb .byte N2 vs (.int 0) ∧ StrChars.Road.CodA cs cd N2 vs
theorem StrA.ext (F : StrA Z h a cs) (E : Ext h h') : StrA Z h' a cs := by
  obtain ⟨f, b, n, t, kb, cd, N2, vs, v, c, k, q⟩ := F
  exact ⟨f.ext E, b, n, t, kb, cd, N2, vs, v.ext E, c.ext E, k.ext E, q⟩
theorem lat_up {c : Int32} (q : ¬ c < 0 ∧ ¬ (255 : Int32) < c) : ¬ c < 0 ∧ ¬ (65535 : Int32) < c := ⟨q.1, fun z => q.2 (Int32.lt_trans (by decide) z)⟩
theorem StrA.make {t : Addr} {kb : ClassId} {N : Int32} (A : Exa Z h a "java/lang/String") (B : Fld Z h a "java/lang/String" "coder" "B" (.int 0)) (V : Fld Z h a "java/lang/String" "value" "[B" (.ref t)) (K : Arv Z h t kb .byte N ((cs.map (fun c => c.toInt8.toInt32)).map Value.int) (.int 0)) (hN : N = Int32.ofNat cs.length) (hl : cs.length ≤ 4000) (hp : ∀ c ∈ cs, ¬ c < 0 ∧ ¬ (255 : Int32) < c) : StrA Z h a cs :=
  ⟨A, fun c hc => lat_up (hp c hc), hl, t, kb, 0, N, _, V, B, K, by rw [hN]; exact StrChars.Road.codOf rfl (fun c hc => (hp c hc).2)⟩
theorem StrA.keepExa {x : Addr} {C : String} {k : Nat} (F : StrA Z h a cs) (K : Keep h h' [x]) (X : Exa Z h x C) (hC : C ≠ "java/lang/String") (wi : (Jvm.Cond.instantiable C k).before a0 Z = true) : StrA Z h' a cs := by
  obtain ⟨f, b, n, t, kb, cd, N2, vs, v, c, q, r⟩ := F
  have n1 : a ≠ x := ne_exa f X (fun z => hC z.symm)
  have n2 : t ≠ x := fun z => Exa.neArv X q wi z.symm
  exact ⟨f.keep K, b, n, t, kb, cd, N2, vs, v.keep K (ninS n1 nin0), c.keep K (ninS n1 nin0), q.keep K (ninS n2 nin0), r⟩
theorem Sta.keepExa {x : Addr} {C O n d : String} {v : Value} (F : Sta Z h O n d v) (K : Keep h h' [x]) (X : Exa Z h x C) : Sta Z h' O n d v := by
  obtain ⟨cf, i, k, f, st, cell, h1, h2, h3, h4, h5, h6, h7⟩ := F
  obtain ⟨cx, kx, x1, -, -, x4, -⟩ := X
  have ne : st ≠ x := fun z => by
    subst z
    cases h5.symm.trans x1
    rw [h6] at x4; cases x4
  exact ⟨cf, i, k, f, st, cell, h1, h2, h3, h4, K.2.1 _ _ h5 (ninS ne nin0), h6, h7⟩
end Str1
section Str1b
theorem Sta.keepArv {Z : State} {h h' : Heap} {x : Addr} {O n d : String} {v : Value} {k : ClassId} {ty : FieldType} {z : Int32} {vs : List Value} {dv : Value} (F : Sta Z h O n d v) (K : Keep h h' [x]) (X : Arv Z h x k ty z vs dv) : Sta Z h' O n d v := by
  obtain ⟨cf, i, kk, f, st, cell, h1, h2, h3, h4, h5, h6, h7⟩ := F
  have ne : st ≠ x := fun q => by
    subst q
    have := X.nostat cell h5
    rw [h6] at this; cases this
  exact ⟨cf, i, kk, f, st, cell, h1, h2, h3, h4, K.2.1 _ _ h5 (ninS ne nin0), h6, h7⟩
end Str1b
section Str2
variable {p : Program} {l : Launch} {e : Env} {R : Room} {s : State} {args : Array Value} {below : List Frame} {Z : State} {h h' : Heap} {a : Addr} {cs : List Int32} {a0 : Array Value} {len wd : Nat} {z : Int32}
theorem hwLen : ∀ d ∈ StrChars.Road.wordsLen, d ∈ tables_1 := by decide +kernel
theorem StrA.lenB (F : StrA Z h a cs) (hZ : Z.Warmed39 s.vm) (hw : ∀ d ∈ tables_1, d.before a0 Z = true) (wi : (Jvm.Cond.instantiable "java/lang/String" 4).before a0 Z = true) (S : Sta Z h "java/lang/String" "COMPACT_STRINGS" "Z" (.int z)) (hz : ¬ z = 0) (hfr : 2 ≤ R.frames) (hlo : wd + 25 ≤ R.locals) :
    BK l R p e below s args (⟨"java/lang/String", "length", "()I"⟩ : MethodName) len wd #[.ref a] h 0 0 (fun v h' L => v = some (.int (Int32.ofNat cs.length)) ∧ L = [] ∧ h' = h) := by
  obtain ⟨f, b, n, t, kb, cd, N2, vs, v, c, k, q⟩ := F
  exact StrChars.Road.lenW hZ (fun d hd => hw d (hwLen d hd)) (kI := 4) wi f v c k q b S hz n hfr hlo
end Str2
section Str3
variable {p : Program} {l : Launch} {e : Env} {R : Room} {s : State} {args : Array Value} {below : List Frame} {Z : State} {h h' : Heap} {a : Addr} {cs : List Int32} {a0 : Array Value} {len wd : Nat} {z : Int32} {fm : Value}
theorem hwChr : ∀ d ∈ StrChars.Road.wordsChN, d ∈ tables_1 := by decide +kernel
theorem StrA.chr (F : StrA Z h a cs) (hlat : ∀ c ∈ cs, ¬ (255 : Int32) < c) (hZ : Z.Warmed39 s.vm) (hw : ∀ d ∈ tables_1, d.before a0 Z = true) (wi : (Jvm.Cond.instantiable "java/lang/String" 4).before a0 Z = true) (S : Sta Z h "java/lang/String" "COMPACT_STRINGS" "Z" (.int z)) (hz : ¬ z = 0) (S2 : Sta Z h "jdk/internal/util/Preconditions" "SIOOBE_FORMATTER" "Ljava/util/function/BiFunction;" fm) (rf : fm.isRef = true) (hfr : 4 ≤ R.frames) (hlo : wd + 53 ≤ R.locals) {i : Nat} {j : Int32} (hi : i < cs.length) (hj : j = Int32.ofNat i) :
    BK l R p e below s args (⟨"java/lang/String", "charAt", "(I)C"⟩ : MethodName) len wd #[.ref a, .int j] h 0 0 (fun v h' L => v = some (.int (cs.getD i 0)) ∧ L = [] ∧ h' = h) := by
  obtain ⟨f, b, n, t, kb, cd, N2, vs, v, c, k, q⟩ := F
  have hcd : cd = 0 := by
    rcases q with ⟨q1, -⟩ | ⟨-, -, -, c1, q2, q3⟩
    · exact q1
    · exact absurd q3 (hlat c1 q2)
  subst hcd
  exact StrChars.Road.chN hZ (fun d hd => hw d (hwChr d hd)) (kI := 4) wi f v c k q b S hz S2 rf n hi hj hfr hlo
end Str3
section Utf1
open StrChars StrChars.Road
theorem clN {n : Nat} (h : n < 2 ^ 31) : (Int32.ofNat n).toNatClampNeg = n := by
  rw [Int32.toNatClampNeg, ofNat_toInt h]; rfl
theorem ofNat_nn {n : Nat} (h : n < 2 ^ 31) : ¬ Int32.ofNat n < 0 := by
  rw [Int32.lt_iff_toInt_lt, ofNat_toInt h]
  show ¬ (n : Int) < 0
  omega
theorem shl1 (n : Nat) : Int32.ofNat n <<< ((1 : Int32) &&& 31) = Int32.ofNat (2 * n) := by
  apply Int32.toBitVec_inj.mp
  apply BitVec.eq_of_toNat_eq
  show (BitVec.ofNat 32 n <<< (1#32)).toNat = (BitVec.ofNat 32 (2 * n)).toNat
  simp only [BitVec.shiftLeft_eq', BitVec.toNat_shiftLeft, BitVec.toNat_ofNat, Nat.shiftLeft_eq, show 2 ^ (1 % 2 ^ 32) = 2 from rfl]
  omega
theorem getD_rep (n i : Nat) (v : Value) : (List.replicate n v).getD i v = v := by
  rw [List.getD_eq_getElem?_getD, List.getElem?_replicate]; split <;> rfl
theorem b8 (x : Int32) : x.toInt8.toInt32.toInt8.toInt32 = x.toInt8.toInt32 := by rw [Int8.toInt8_toInt32]
/-- the bytes of cs laid one char after the other -/
def fw (cs : List Int32) : Nat → Nat → List Value → List Value
  | _, 0, vs => vs
  | i, k + 1, vs => fw cs (i + 1) k ((vs.set (2 * i) (.int (lo8 (cs.getD i 0)))).set (2 * i + 1) (.int (hi8 (cs.getD i 0))))
theorem wide_len : ∀ cs : List Int32, (wideBytes cs).length = 2 * cs.length
  | [] => rfl
  | c :: cs => by simp only [wideBytes, List.length_cons, wide_len cs]; omega
theorem wide_app : ∀ (cs ds : List Int32), wideBytes (cs ++ ds) = wideBytes cs ++ wideBytes ds
  | [], ds => rfl
  | c :: cs, ds => by simp only [List.cons_append, wideBytes, wide_app cs ds]
theorem fw_go (z : Value) : ∀ (r pre : List Int32), fw (pre ++ r) pre.length r.length (wideBytes pre ++ List.replicate (2 * r.length) z) = wideBytes (pre ++ r)
  | [], pre => by simp [fw]
  | c :: r, pre => by
    have e1 : (pre ++ c :: r).getD pre.length 0 = c := by simp [List.getD_eq_getElem?_getD]
    have e2 : List.replicate (2 * (c :: r).length) z = z :: z :: List.replicate (2 * r.length) z := by
      rw [List.length_cons, show 2 * (r.length + 1) = 2 * r.length + 1 + 1 from by omega]; rfl
    have e3 : ∀ (A B : List Value) (x y u v : Value), ((A ++ u :: v :: B).set A.length x).set (A.length + 1) y = A ++ x :: y :: B := by
      intro A B x y u v
      rw [List.set_append_right _ _ (Nat.le_refl _), List.set_append_right _ _ (by omega), Nat.sub_self, Nat.add_sub_cancel_left]; rfl
    have ih := fw_go z r (pre ++ [c])
    rw [List.length_append, List.append_assoc] at ih
    show fw (pre ++ c :: r) pre.length (r.length + 1) _ = _
    rw [fw, e1, e2, ← wide_len pre, e3]
    have e4 : wideBytes (pre ++ [c]) ++ List.replicate (2 * r.length) z = wideBytes pre ++ .int (lo8 c) :: .int (hi8 c) :: List.replicate (2 * r.length) z := by
      rw [wide_app, List.append_assoc]; rfl
    rw [e4] at ih
    exact ih
theorem fw_all (z : Value) (cs : List Int32) : fw cs 0 cs.length (List.replicate (2 * cs.length) z) = wideBytes cs := by
  have := fw_go z cs []
  simpa [wideBytes] using this
theorem set2_len (vs : List Value) (a b : Nat) (x y : Value) : ((vs.set a x).set b y).length = vs.length := by simp
theorem codL {n : Nat} (h0 : 0 < n) (h : n ≤ 4000) : (XT.ushr (Int32.ofNat n - Int32.ofNat (2 * n)) (31 : Int32)).toInt8.toInt32 = 1 := by
  have e : XT.ushr (Int32.ofNat n - Int32.ofNat (2 * n)) (31 : Int32) = 1 := by
    apply Int32.toBitVec_inj.mp
    apply BitVec.eq_of_toNat_eq
    show ((BitVec.ofNat 32 n - BitVec.ofNat 32 (2 * n)) >>> (31#32)).toNat = (1#32).toNat
    simp only [BitVec.ushiftRight_eq', BitVec.toNat_ushiftRight, BitVec.toNat_sub, BitVec.toNat_ofNat, Nat.shiftRight_eq_div_pow, show 2 ^ (31 % 2 ^ 32) = 2147483648 from rfl]
    omega
  rw [e]; rfl
theorem big_mem {cs : List Int32} (h : ∃ j, j < cs.length ∧ (255 : Int32) < cs.getD j 0) : ∃ c ∈ cs, (255 : Int32) < c := by
  obtain ⟨j, j1, j2⟩ := h
  rw [List.getD_eq_getElem?_getD, List.getElem?_eq_getElem j1] at j2
  exact ⟨cs[j], List.getElem_mem j1, j2⟩
end Utf1
section Sub1
variable {p : Program} {l : Launch} {e : Env} {R : Room} {s : State} {m : MethodId} {args : Array Value} {below : List Frame} {meth : Method} {c : Code} {Z : State} {own : String} {n0 : Nat} {h0 : Heap} {ws : List Addr} {T : State} {h : Heap} {locs : List Loc} {cells slots : Nat} {G : State → Prop} {a0 : Array Value} {pc pc' : Nat} {Ls : Array Slot} {rest : List Value}
/-- System.arraycopy between two arrays of one primitive kind -/
theorem NK.acopy (W : NK p l e R s m args below meth c Z own n0 h0 ws T h locs cells slots) {index : Nat} (w1 : (Cond.methodLink own index Jvm.Stand.acN).before a0 Z = true) (w2 : (Cond.native Jvm.Stand.acN).before a0 Z = true) (w3 : (Cond.static Jvm.Stand.acN).before a0 Z = true) (w4 : (Cond.initialized "java/lang/System").before a0 Z = true)
    {a b : Addr} {ka kb : ClassId} {ty : FieldType} {z z' sp dp nn : Int32} {vs vd : List Value} {dv dd : Value} (A : Arv Z h a ka ty z vs dv) (B : Arv Z h b kb ty z' vd dd) (hty : refKind ty = false)
    (h1 : ¬ sp < 0) (h2 : ¬ dp < 0) (h3 : ¬ nn < 0) (h4 : sp.toNatClampNeg + nn.toNatClampNeg ≤ z.toNatClampNeg) (h5 : dp.toNatClampNeg + nn.toNatClampNeg ≤ z'.toNatClampNeg) (hl : dp.toNatClampNeg + nn.toNatClampNeg ≤ vd.length)
    (hd : decode c.code pc = .ok (.invokestatic index, 3)) (hp : pc + 3 = pc') (hml : c.maxLocals = Ls.size) (hge : b ∈ ws ∨ h0.size ≤ b) (hn : n0 ≤ b) (hf : 1 ≤ R.frames) {wd : Nat} (hW : (rest.map fun v => v.category).sum ≤ wd) (hlo : wd + (nativeFrameWords "java/lang/System" "arraycopy" 5 + 11) ≤ R.locals)
    (k' : ∀ (T' : State) (h' : Heap) (L : List Loc), NK p l e R s m args below meth c Z own n0 h0 ws T' h' L cells slots → Keep h h' [b] → Arv Z h' b kb ty z' (vd.take dp.toNatClampNeg ++ ((List.range nn.toNatClampNeg).map fun i => vs.getD (sp.toNatClampNeg + i) dv) ++ vd.drop (dp.toNatClampNeg + nn.toNatClampNeg)) dd → Go p e below G T' (mkF m pc' Ls rest)) :
    Go p e below G T (mkF m pc Ls (.int nn :: .int dp :: .ref b :: .int sp :: .ref a :: rest)) := by
  obtain ⟨X, hx, eT, hZ, hown, N, K, hn0, hlk⟩ := W
  obtain ⟨T', h', L, X', e', N', K', V, stp⟩ := RoadKit.cpA X hx hZ hown w1 w2 w3 w4 eT A B (Or.inl ⟨rfl, hty⟩) h1 h2 h3 h4 h5 rfl hl N hn (g := mkF m pc Ls (.int nn :: .int dp :: .ref b :: .int sp :: .ref a :: rest)) rfl hml.symm rfl hd hf (W := wd) (by show 2 * 0 + _ ≤ _; omega) hlo
  subst hp
  exact Go.by1 (fun t q => stp t q) (k' T' h' L ⟨X', hx, e', hZ, hown, N', K.trans K' (allS hge all0), hn0, hlk⟩ K' V)
end Sub1
theorem ofNat_add (n k : Nat) : Int32.ofNat n + Int32.ofNat k = Int32.ofNat (n + k) := by
  apply Int32.toBitVec_inj.mp
  apply BitVec.eq_of_toNat_eq
  show (BitVec.ofNat 32 n + BitVec.ofNat 32 k).toNat = (BitVec.ofNat 32 (n + k)).toNat
  simp only [BitVec.toNat_add, BitVec.toNat_ofNat]
  omega
/-- the bytes of a Latin-1 string -/
def lob (cs : List Int32) : List Value := cs.map fun c => Value.int (StrChars.lo8 c)
theorem lob_at (cs : List Int32) (i : Nat) : (lob cs).getD i (.int (0 : Int32)) = .int (StrChars.lo8 (cs.getD i 0)) := by
  simp only [lob, List.getD_eq_getElem?_getD, List.getElem?_map]
  cases cs[i]? <;> rfl
theorem sub_bytes (cs : List Int32) {i j : Nat} (h : j ≤ cs.length) (hc : j - i ≤ 8) (t : Nat) : (lob ((cs.drop i).take (j - i))).getD t (.int (0 : Int32)) = ((List.replicate 8 (Value.int (0 : Int32))).take 0 ++ ((List.range (j - i)).map fun t => (lob cs).getD (i + t) (.int (0 : Int32))) ++ (List.replicate 8 (Value.int (0 : Int32))).drop (0 + (j - i))).getD t (.int (0 : Int32)) := by
  rw [List.take_zero, List.nil_append, lob_at]
  simp only [List.getD_eq_getElem?_getD]
  by_cases q : t < j - i
  · rw [List.getElem?_append_left (by simpa using q), List.getElem?_map, List.getElem?_range q, List.getElem?_take_of_lt q, List.getElem?_drop]
    show _ = (lob cs)[i + t]?.getD _
    rw [← List.getD_eq_getElem?_getD (l := lob cs), lob_at, List.getD_eq_getElem?_getD]
  · rw [List.getElem?_append_right (by simpa using Nat.le_of_not_lt q), List.getElem?_take_eq_none (Nat.le_of_not_lt q)]
    have := getD_rep (8 - (0 + (j - i))) (t - ((List.range (j - i)).map fun t => (lob cs).getD (i + t) (.int (0 : Int32))).length) (Value.int (0 : Int32))
    rw [List.getD_eq_getElem?_getD] at this
    rw [List.drop_replicate]
    simp only [List.getD_eq_getElem?_getD] at this
    exact Eq.trans rfl this.symm
theorem sub_lat {cs : List Int32} {P : Int32 → Prop} (h : ∀ c ∈ cs, P c) (i j : Nat) : ∀ c ∈ (cs.drop i).take j, P c := fun c hc => h c (List.mem_of_mem_drop (List.mem_of_mem_take hc))
theorem sub_len (cs : List Int32) {i j : Nat} (h : j ≤ cs.length) : ((cs.drop i).take (j - i)).length = j - i := by
  rw [List.length_take, List.length_drop]; omega
section Ref1
variable {p : Program} {l : Launch} {e : Env} {R : Room} {s : State} {m : MethodId} {args : Array Value} {below : List Frame} {meth : Method} {c : Code} {Z : State} {EL : List (String × Nat)} {own : String} {n0 : Nat} {h0 : Heap} {ws : List Addr} {T : State} {h : Heap} {vm : Vm} {locs : List Loc} {cells slots cells' slots' : Nat} {G : State → Prop} {a0 : Array Value} {pc pc' : Nat} {Ls : Array Slot} {rest : List Value}
theorem NK.aaload (W : NK p l e R s m args below meth c Z own n0 h0 ws T h locs cells slots) {a : Addr} {ka : ClassId} {ty : FieldType} {z : Int32} {vs : List Value} {dv : Value} (A : Arv Z h a ka ty z vs dv) (hty : ty.isReference = true) {j : Int32} (v : Value) (hd : decode c.code pc = .ok (.aaload, 1)) (hp : pc + 1 = pc') (hb : ¬ j < 0 ∧ j < z) (hv : vs.getD j.toNatClampNeg dv = v)
    (k' : Go p e below G T (mkF m pc' Ls (v :: rest))) : Go p e below G T (mkF m pc Ls (.int j :: .ref a :: rest)) := by
  obtain ⟨cl, A1, q1, S1, M1, H1, U1⟩ := id A
  subst hp
  exact Go.by1 (fun t q => W.1.aaload W.2.1 (by rw [W.2.2.1]; exact A1.1) (State.isArrayOf_alike W.2.2.2.1.alike A1.2.1) hty A1.2.2 (inb_of S1 hb) (H1.at (inb_of S1 hb) hv) (g := mkF m pc Ls (.int j :: .ref a :: rest)) rfl rfl hd t q) k'
theorem NK.cloneA (W : NK p l e R s m args below meth c Z own n0 h0 ws T h locs cells slots) {ad : String} {index : Nat}
    (w1 : (Cond.methodLink own index ⟨ad, "clone", "()Ljava/lang/Object;"⟩).before a0 Z = true) (w2 : (Cond.sameMethod ad "java/lang/Object" "clone" "()Ljava/lang/Object;").before a0 Z = true) (w3 : (Cond.native ⟨"java/lang/Object", "clone", "()Ljava/lang/Object;"⟩).before a0 Z = true)
    (w4 : (Cond.instanceMethod ⟨"java/lang/Object", "clone", "()Ljava/lang/Object;"⟩).before a0 Z = true) (w5 : (Cond.selects ad ⟨ad, "clone", "()Ljava/lang/Object;"⟩ ⟨"java/lang/Object", "clone", "()Ljava/lang/Object;"⟩).before a0 Z = true) (w6 : (Cond.castable ad "java/lang/Cloneable").before a0 Z = true)
    {a : Addr} {ka : ClassId} {ty : FieldType} {z : Int32} {vs : List Value} {dv : Value} (A : Arv Z h a ka ty z vs dv) (E : Exa Z h a ad) (hd : decode c.code pc = .ok (.invokevirtual index, 3)) (hp : pc + 3 = pc') (hml : c.maxLocals = Ls.size) (hf : 1 ≤ R.frames) {wd cap : Nat} (hW : (rest.map fun v => v.category).sum ≤ wd) (hlo : wd + 14 ≤ R.locals) (hcap : z.toNatClampNeg ≤ cap) (hc : cells + 1 ≤ R.cells) (hsl : slots + cap ≤ R.slots)
    (k' : ∀ (T' : State) (h' : Heap) (b : Addr), b = h.size → h0.size ≤ b → n0 ≤ b → NK p l e R s m args below meth c Z own n0 h0 ws T' h' locs (cells + 1) (slots + cap) → Ext h h' → Arv Z h' b ka ty z vs dv → Exa Z h' b ad → Go p e below G T' (mkF m pc' Ls (.ref b :: rest))) : Go p e below G T (mkF m pc Ls (.ref a :: rest)) := by
  obtain ⟨X, hx, eT, hZ, hown, N, K, hn0, hlk⟩ := W
  obtain ⟨T', h', X', e', E', F, E2, stp⟩ := RoadKit.cloneH X hx hZ hown w1 w2 w3 w4 w5 w6 eT (Arv.arh A) E (g := mkF m pc Ls (.ref a :: rest)) rfl hml.symm rfl hd hf (W := wd) (cap := cap) (by show 2 * 0 + _ ≤ _; omega) hlo hcap hc hsl
  subst hp
  exact Go.by1 (fun t q => stp t q) (k' T' h' _ rfl K.1 (Nat.le_trans hn0 K.1) ⟨X', hx, e', hZ, hown, N, K.ext E', hn0, hlk⟩ E' F E2)
theorem WK.mono (W : WK EL p l e R s m args below meth c Z own n0 h0 ws T h vm locs cells slots) (hc : cells ≤ cells') (hs : slots ≤ slots') : WK EL p l e R s m args below meth c Z own n0 h0 ws T h vm locs cells' slots' := ⟨⟨W.1.1.mono hc hs, W.1.2⟩, W.2⟩
theorem hasL_of {c : Cell} {dv : Value} : ∀ (vs : List Value) (i : Nat), (∀ j, j < vs.length → c.slots[i + j]? = some (vs.getD j dv)) → HasL c i vs
  | [], _, _ => trivial
  | v :: r, i, H => ⟨H 0 (Nat.succ_pos _), hasL_of r (i + 1) fun j hj => by have := H (j + 1) (Nat.succ_lt_succ hj); rw [show i + 1 + j = i + (j + 1) by omega]; exact this⟩
/-- an array that stood before -/
theorem arr_start {args : Array Value} (hf : Fit s) {t : Term} {x : Addr} {ty : FieldType} {n : Nat} {vs : List Value} {dv : Value} (ev : t.eval args s none [] s = some (.ref x)) (hA : (Cond.arrayOf t ty).value args s none s [] = some true) (hlen : (Cond.eq (Term.length t) (Term.int (Int32.ofNat n))).value args s none s [] = some true) (hn : n ≤ 4000) (hl : vs.length = n)
    (H : ∀ j, j < n → (Term.elem t (Term.int (Int32.ofNat j))).eval args s none [] s = some (vs.getD j dv)) : ∃ k, Arv s s.heap x k ty (Int32.ofNat n) vs dv := by
  obtain ⟨c, A⟩ := Arr.start ev hA
  have q := eqv_i (Term.int_eval _) hlen
  have ha : s.arrayAt? x = some c := IntBox.arrayAt_of A.1 A.2.1 A.2.2
  have e3 : c.slots.size < 2 ^ 31 := Classical.byContradiction fun hn => by
    simp only [Term.eval, ev, ha, Option.bind_eq_bind, Option.bind_some] at q
    rw [if_neg hn] at q; cases q
  rw [len_f ev ha e3] at q
  have e4 := Value.int.inj (Option.some.inj q)
  refine ⟨_, Arv.start hf A e3 e4 (ofNat_nn (by omega)) (by rw [clN (by omega), hl]) (hasL_of (dv := dv) vs 0 fun j hj => ?_)⟩
  have := (elem_in (H j (by omega)) ev (Term.int_eval _) A.1).2
  rw [clN (by omega)] at this
  rw [Nat.zero_add]; exact this
theorem eqv_ref {args : Array Value} {X F : Term} {y : Value} (hF : F.eval args s none [] s = some y) (hy : y.isRef = true) (h : (Cond.eq X F).value args s none s [] = some true) : X.eval args s none [] s = some y := (Cond.eq_refs (Cond.before_iff.mpr h) hF hy)
end Ref1
section Sb1
variable {p : Program} {l : Launch} {e : Env} {R : Room} {s : State} {m : MethodId} {args : Array Value} {below : List Frame} {meth : Method} {c : Code} {Z : State} {EL : List (String × Nat)} {own : String} {n0 : Nat} {h0 : Heap} {ws ws' : List Addr} {T : State} {h : Heap} {vm : Vm} {locs : List Loc} {cells slots : Nat} {G : State → Prop} {a0 : Array Value} {pc pc' : Nat} {Ls : Array Slot} {st rest : List Value}
/-- a class that is named as another's and declares a method: the method of its own name is its own -/
theorem same_of {y y' : MethodName} {C' : String} (wd : (Cond.declares y).before a0 Z = true) (w3' : (Cond.selects C' y' y').before a0 Z = true) (hc : y'.cls = y.cls) (hy : y.cls ≠ "java/lang/invoke/MethodHandle" ∧ y.cls ≠ "java/lang/invoke/VarHandle") : (Cond.sameMethod y.cls y.cls y.name y.desc).before a0 Z = true := by
  obtain ⟨mm, meth', h1, h2, h3, h4⟩ := Cond.declares_spec wd
  have hf := State.methodFound?_of_named h1 hy
  have hcls := findClass_of_methodNamed h1
  obtain ⟨c2, r2, m2, q1, q2, q3, q4, kP, hkP, hkPi⟩ := Cond.selects_spec w3'
  have e1 := findClass_of_methodNamed q3
  rw [hc] at e1
  have e2 : m2.cls = mm.cls := Option.some.inj (e1.symm.trans hcls)
  have hk : Z.vm.classes[mm.cls]? = some kP := by rw [← e2]; exact hkP
  simp [Cond.before, Cond.holds, Cond.value, hcls, hf, h1, hk, hkPi]
/-- super.method(..) -/
theorem NK.callU (W : NK p l e R s m args below meth c Z own n0 h0 ws T h locs cells slots) {index : Nat} {K : String} {y : MethodName} {bytes : ByteArray} {maxL : Nat} {ret : Option FieldType} (w1 : (Cond.methodLink own index y).before a0 Z = true) (w2 : (Cond.sameMethod y.cls y.cls y.name y.desc).before a0 Z = true) (w3 : (Cond.instanceMethod y).before a0 Z = true) (w4 : (Cond.superclass own y.cls).before a0 Z = true) (hn : y.name ≠ "<init>") (wc : (Cond.code y bytes maxL ret).before a0 Z = true)
    {wd rc rs : Nat} {as' : Array Value} {Q : Option Value → Heap → List Loc → Prop} (hK : BK l R p e below s args y 3 wd as' h rc rs Q) {a : Addr} (F : Exa Z h a K) (hd : decode c.code pc = .ok (.invokespecial index, 3)) (hp : pc + 3 = pc') (hml : c.maxLocals = Ls.size) {argsL : List Value} (has : (Value.ref a :: argsL).toArray = as') (hlen : ∀ sig, parseMethodDescriptor y.desc = some sig → argsL.length = sig.parameters.length) (hst : st = argsL.reverse ++ .ref a :: rest) (hW : (rest.map fun v => v.category).sum ≤ wd) (hc : cells + rc ≤ R.cells) (hs : slots + rs ≤ R.slots)
    (hq : ∀ v h' L, Q v h' L → Fr n0 L ∧ Keep h h' ws') (hws : ∀ x ∈ ws', x ∈ ws ∨ h0.size ≤ x)
    (k' : ∀ (v : Option Value) (T' : State) (h' : Heap) (L L' : List Loc), NK p l e R s m args below meth c Z own n0 h0 ws T' h' L' (cells + rc) (slots + rs) → Q v h' L → Keep h h' ws' → Go p e below G T' (mkF m pc' Ls (v.toList ++ rest))) : Go p e below G T (mkF m pc Ls st) := by
  subst hst has hp
  obtain ⟨v, vm1, ⟨T', L1, k1, n1⟩, -, X', ⟨L, hQ, e1, e2, e3⟩, stp⟩ := RoadKit.superBack W.1 W.2.1 W.2.2.2.1 W.2.2.2.2.1 w1 w2 w3 w4 hn hK W.2.2.1 (Ins.self F) (g := mkF m pc Ls (argsL.reverse ++ .ref a :: rest)) rfl hml.symm wc (argsL := argsL) (rest := rest) hlen rfl (by show 2 * 0 + _ ≤ _; omega) hd (fun _ _ => ⟨rfl, W.2.2.1, hc, hs⟩)
  dsimp only [Pt.U, Pt.locs, Pt.cells, Pt.slots] at X' hQ e1 e2 e3 stp
  subst e1 e2 e3
  obtain ⟨N, K⟩ := hq _ _ _ hQ
  exact Go.tr stp (k' v T' _ L _ (W.called X' N K hws) hQ K)
/-- a private method, by invokevirtual -/
theorem NK.callX (W : NK p l e R s m args below meth c Z own n0 h0 ws T h locs cells slots) {index : Nat} {K C' : String} {y : MethodName} {bytes : ByteArray} {maxL : Nat} {ret : Option FieldType} (w1 : (Cond.methodLink own index y).before a0 Z = true) (w2 : (Cond.instanceMethod y).before a0 Z = true) (w3 : (Cond.privateMethod y).before a0 Z = true) (w3' : (Cond.selects C' y y).before a0 Z = true) (wc : (Cond.code y bytes maxL ret).before a0 Z = true) (hy : y.cls ≠ "java/lang/invoke/MethodHandle" ∧ y.cls ≠ "java/lang/invoke/VarHandle")
    {wd rc rs : Nat} {as' : Array Value} {Q : Option Value → Heap → List Loc → Prop} (hK : BK l R p e below s args y 3 wd as' h rc rs Q) {a : Addr} (F : Exa Z h a K) (hd : decode c.code pc = .ok (.invokevirtual index, 3)) (hp : pc + 3 = pc') (hml : c.maxLocals = Ls.size) {argsL : List Value} (has : (Value.ref a :: argsL).toArray = as') (hlen : ∀ sig, parseMethodDescriptor y.desc = some sig → argsL.length = sig.parameters.length) (hst : st = argsL.reverse ++ .ref a :: rest) (hW : (rest.map fun v => v.category).sum ≤ wd) (hc : cells + rc ≤ R.cells) (hs : slots + rs ≤ R.slots)
    (hq : ∀ v h' L, Q v h' L → Fr n0 L ∧ Keep h h' ws') (hws : ∀ x ∈ ws', x ∈ ws ∨ h0.size ≤ x)
    (k' : ∀ (v : Option Value) (T' : State) (h' : Heap) (L L' : List Loc), NK p l e R s m args below meth c Z own n0 h0 ws T' h' L' (cells + rc) (slots + rs) → Q v h' L → Keep h h' ws' → Go p e below G T' (mkF m pc' Ls (v.toList ++ rest))) : Go p e below G T (mkF m pc Ls st) := by
  subst hst has hp
  have hpr : s.PrivateAt y := Cond.privateMethod_at (args := args) (mvP W.2.2.2.1 w3)
  have hi : (Cond.instanceMethod y).before args s = true := mvT W.2.2.2.1 w2
  obtain ⟨mk, methM, hnamed, -, -, -⟩ := Cond.instanceMethod_spec hi
  obtain ⟨kr, hkr, hni⟩ := notFace_of_selects (args := args) (mvT W.2.2.2.1 w3') mk hnamed
  have hsel := selects_self_of_private (findClass_of_methodNamed hnamed) hkr hni hpr hi hy
  obtain ⟨cl, hcl, hno⟩ := F.cell
  obtain ⟨v, vm1, ⟨T', L1, k1, n1⟩, -, X', ⟨L, hQ, e1, e2, e3⟩, stp⟩ := W.1.privateBack W.2.1 W.2.2.2.2.1 (mvT W.2.2.2.1 w1) hi hsel hpr (mvT W.2.2.2.1 wc) hy hK (g := mkF m pc Ls (argsL.reverse ++ .ref a :: rest)) rfl hml.symm (Steps.refl _) (a := a) (cell := cl) (by rw [W.2.2.1]; exact hcl) hno (argsL := argsL) (rest := rest) hlen rfl (by show 2 * 0 + _ ≤ _; omega) hd (fun _ _ => ⟨rfl, W.2.2.1, hc, hs⟩)
  dsimp only [Pt.U, Pt.locs, Pt.cells, Pt.slots] at X' hQ e1 e2 e3 stp
  subst e1 e2 e3
  obtain ⟨N, K⟩ := hq _ _ _ hQ
  exact Go.tr stp (k' v T' _ L _ (W.called X' N K hws) hQ K)
theorem nf_of {s : State} {args : Array Value} {y y' : MethodName} {C' : String} (w : (Cond.selects C' y' y').before args s = true) (hc : y'.cls = y.cls) : NotFace s y := fun r0 h0 => by
  obtain ⟨c2, r2, m2, q1, q2, q3, q4, kP, hkP, hkPi⟩ := Cond.selects_spec w
  have e1 := findClass_of_methodNamed q3
  rw [hc] at e1
  have e2 : m2.cls = r0.cls := Option.some.inj (e1.symm.trans (findClass_of_methodNamed h0))
  exact ⟨kP, by rw [← e2]; exact hkP, hkPi⟩
theorem NK.callVP2 (W : NK p l e R s m args below meth c Z own n0 h0 ws T h locs cells slots) {index : Nat} {C : String} {y z y' : MethodName} (w1 : (Cond.methodLink own index y).before a0 Z = true) (w2 : (Cond.declares y).before a0 Z = true) (w3 : (Cond.selects C y z).before a0 Z = true) {C' : String} (w3' : (Cond.selects C' y' y').before a0 Z = true) (hc' : y'.cls = y.cls) (w4 : (Cond.instanceMethod z).before a0 Z = true)
    (hy : y.cls ≠ "java/lang/invoke/MethodHandle" ∧ y.cls ≠ "java/lang/invoke/VarHandle") {wd rc rs : Nat} {as' : Array Value} {Q : Option Value → Heap → List Loc → Prop} (hK : BK l R p e below s args z 3 wd as' h rc rs Q) {a : Addr} (E : Exa Z h a C) (hd : decode c.code pc = .ok (.invokevirtual index, 3)) (hp : pc + 3 = pc') (hml : c.maxLocals = Ls.size) {argsL : List Value} (has : (Value.ref a :: argsL).toArray = as') (hlen : ∀ sig, parseMethodDescriptor y.desc = some sig → argsL.length = sig.parameters.length) (hst : st = argsL.reverse ++ .ref a :: rest) (hW : (rest.map fun v => v.category).sum ≤ wd) (hc : cells + rc ≤ R.cells) (hs : slots + rs ≤ R.slots)
    {w : Option Value} (hq : ∀ v h' L, Q v h' L → Fr n0 L ∧ Pu w h v h')
    (k' : ∀ (T' : State) (L' : List Loc), NK p l e R s m args below meth c Z own n0 h0 ws T' h L' (cells + rc) (slots + rs) → Go p e below G T' (mkF m pc' Ls (w.toList ++ rest))) : Go p e below G T (mkF m pc Ls st) := by
  subst hst has hp
  obtain ⟨cq, kq, qa, qb, qc⟩ := isOf W.2.2.2.1 W.2.2.1 E
  obtain ⟨v, vm1, ⟨T', L1, k1, n1⟩, -, X', ⟨L, hQ, e1, e2, e3⟩, stp⟩ := W.1.virtualBack W.2.1 (y := y) (z := z) W.2.2.2.2.1 (mvT W.2.2.2.1 w1) (mvT W.2.2.2.1 w2) (nf_of (args := #[]) (mvT W.2.2.2.1 w3') hc') (mvT W.2.2.2.1 w3) (mvT W.2.2.2.1 w4) hy hK qa qc (g := mkF m pc Ls (argsL.reverse ++ .ref a :: rest)) rfl hml.symm (Steps.refl _) (argsL := argsL) (rest := rest) hlen rfl (by show 2 * 0 + _ ≤ _; omega) hd (fun _ _ => ⟨rfl, W.2.2.1, hc, hs⟩)
  dsimp only [Pt.U, Pt.locs, Pt.cells, Pt.slots] at X' hQ e1 e2 e3 stp
  subst e1 e2 e3
  obtain ⟨N, P⟩ := hq _ _ _ hQ
  have K : Keep h T'.heap [] := by rw [P.2]; exact Keep.refl _ _
  obtain ⟨rfl, eh⟩ := P
  have W' := W.called X' N K all0
  rw [eh] at W'
  exact Go.tr stp (k' T' _ W')
theorem NK.newPE (W : NK p l e R s m args below meth c Z own n0 h0 ws T h locs cells slots) {aty : ArrayType} (w : (Cond.arrayClass (newarray.typeOf aty)).before a0 Z = true) {n : Int32} (hd : decode c.code pc = .ok (.newarray aty, 2)) (hp : pc + 2 = pc') (hn : ¬ n < 0) {cap : Nat} (hcap : n.toNatClampNeg ≤ cap) (hb : cap * 8 ≤ 536870912) (hc : cells + 1 ≤ R.cells) (hl : slots + cap ≤ R.slots) {ad : String} (had : "[" ++ (newarray.typeOf aty).toString = ad)
    (k' : ∀ (T' : State) (h' : Heap) (a : Addr) (ka : ClassId), a = h.size → h0.size ≤ a → n0 ≤ a → NK p l e R s m args below meth c Z own n0 h0 ws T' h' locs (cells + 1) (slots + cap) → Ext h h' → Arv Z h' a ka (newarray.typeOf aty) n (List.replicate cap (defaultValue (newarray.typeOf aty))) (defaultValue (newarray.typeOf aty)) → Exa Z h' a ad → Go p e below G T' (mkF m pc' Ls (.ref a :: rest))) : Go p e below G T (mkF m pc Ls (.int n :: rest)) := by
  obtain ⟨X, hx, eT, hZ, hown, N, K, hn0, hlk⟩ := W
  obtain ⟨T', h', cA, X', e', E, A, EA, st⟩ := RoadKit.newPE X hx hZ w eT (g := mkF m pc Ls (.int n :: rest)) rfl hd rfl hn hcap hb hc hl had
  subst hp
  exact Go.by1 (fun t q => st t q) (k' T' h' _ cA rfl K.1 (Nat.le_trans hn0 K.1) ⟨X', hx, e', hZ, hown, N, K.ext E, hn0, hlk⟩ E ((Arv.new A hn).pad (by simpa using pad_rep [] _ cap)) EA)
end Sb1
theorem Arv.padB {Z : State} {h : Heap} {a : Addr} {k : ClassId} {ty : FieldType} {z : Int32} {vs vs' : List Value} {dv : Value} (F : Arv Z h a k ty z vs dv) (q : ∀ i, i < z.toNatClampNeg → vs'.getD i dv = vs.getD i dv) : Arv Z h a k ty z vs' dv := by
  obtain ⟨c, A, r1, r2, r3, H, G⟩ := F
  exact ⟨c, A, r1, r2, r3, fun i hi => by rw [q i (by omega)]; exact H i hi, fun i hi => by rw [q i (by omega)]; exact G i hi⟩
theorem shl0 (x : Int32) : x <<< ((0 : Int32) &&& 31) = x := by
  apply Int32.toBitVec_inj.mp
  show x.toBitVec <<< (0#32) = x.toBitVec
  simp
theorem sub_pos {M N : Nat} (hM : M ≤ 4000) (hN : N ≤ 4000) : (0 : Int32) < Int32.ofNat M - Int32.ofNat N ↔ N < M := by
  rw [Int32.lt_iff_toInt_lt, Int32.toInt_sub, ofNat_toInt (by omega), ofNat_toInt (by omega), Int.bmod_eq_of_le (by omega) (by omega)]
  have : (0 : Int32).toInt = 0 := rfl
  omega
/-- a StringBuilder at a over the bytes t that holds the Latin-1 text cs -/
def SbA (Z : State) (h : Heap) (a t : Addr) (cs : List Int32) : Prop := Exa Z h a "java/lang/StringBuilder" ∧ Exa Z h t "[B" ∧ Fld Z h a "java/lang/AbstractStringBuilder" "value" "[B" (.ref t) ∧ Fld Z h a "java/lang/AbstractStringBuilder" "coder" "B" (.int (0 : Int32)) ∧ Fld Z h a "java/lang/AbstractStringBuilder" "count" "I" (.int (Int32.ofNat cs.length)) ∧ (∀ c ∈ cs, ¬ c < 0 ∧ ¬ (255 : Int32) < c) ∧ ∃ (kt : ClassId) (N : Nat) (vs : List Value), Arv Z h t kt .byte (Int32.ofNat N) vs (.int (0 : Int32)) ∧ cs.length ≤ N ∧ N ≤ 62 ∧ N ≤ vs.length ∧ ∀ i, i < cs.length → vs.getD i (.int (0 : Int32)) = .int (StrChars.lo8 (cs.getD i 0))
theorem SbA.ext {Z : State} {h h' : Heap} {a t : Addr} {cs : List Int32} (F : SbA Z h a t cs) (E : Ext h h') : SbA Z h' a t cs := by
  obtain ⟨f1, f0, f2, f3, f4, f5, kt, N, vs, f6, r⟩ := F
  exact ⟨f1.ext E, f0.ext E, f2.ext E, f3.ext E, f4.ext E, f5, kt, N, vs, f6.ext E, r⟩
theorem SbA.ltT {Z : State} {h : Heap} {a t : Addr} {cs : List Int32} (F : SbA Z h a t cs) : t < h.size := by
  obtain ⟨f1, f0, f2, f3, f4, f5, kt, N, vs, f6, r⟩ := F; exact f6.lt
theorem sb_app {vs : List Value} {cs ds : List Int32} {k : Nat} (hk : k = cs.length) (hv : k + ds.length ≤ vs.length) (H : ∀ i, i < cs.length → vs.getD i (.int (0 : Int32)) = .int (StrChars.lo8 (cs.getD i 0))) (i : Nat) (hi : i < (cs ++ ds).length) :
    (vs.take k ++ ((List.range ds.length).map fun j => (lob ds).getD (0 + j) (.int (0 : Int32))) ++ vs.drop (k + ds.length)).getD i (.int (0 : Int32)) = .int (StrChars.lo8 ((cs ++ ds).getD i 0)) := by
  subst hk
  rw [List.length_append] at hi
  have l1 : (vs.take cs.length).length = cs.length := by rw [List.length_take]; omega
  have l2 : (vs.take cs.length ++ ((List.range ds.length).map fun j => (lob ds).getD (0 + j) (.int (0 : Int32)))).length = cs.length + ds.length := by rw [List.length_append, l1]; simp
  rw [List.getD_eq_getElem?_getD, List.getElem?_append_left (by rw [l2]; exact hi)]
  by_cases q : i < cs.length
  · rw [List.getElem?_append_left (by rw [l1]; exact q), List.getElem?_take_of_lt q, ← List.getD_eq_getElem?_getD, H i q, List.getD_eq_getElem?_getD, List.getD_eq_getElem?_getD, List.getElem?_append_left q]
  · rw [List.getElem?_append_right (by rw [l1]; omega), l1, List.getElem?_map, List.getElem?_range (by omega)]
    simp only [Option.map_some, Option.getD_some, Nat.zero_add]
    rw [lob_at, List.getD_eq_getElem?_getD, List.getD_eq_getElem?_getD, List.getElem?_append_right (by omega)]
theorem sb_len {vs : List Value} {ds : List Int32} {k N : Nat} (hv : k + ds.length ≤ N) (hN : N ≤ vs.length) : N ≤ (vs.take k ++ ((List.range ds.length).map fun j => (lob ds).getD (0 + j) (.int (0 : Int32))) ++ vs.drop (k + ds.length)).length := by
  rw [List.length_append, List.length_append, List.length_take, List.length_drop, List.length_map, List.length_range]; omega
section Dig1
/-- the magnitude and the sign of an int -/
def mag (q : Int32) : Nat := q.toInt.natAbs
def sgnN (q : Int32) : Nat := if q < 0 then 1 else 0
theorem mag_le (q : Int32) : mag q ≤ 2 ^ 31 := by
  have h1 := Int32.le_toInt q; have h2 := Int32.toInt_lt q
  unfold mag; omega
theorem neg_mag {q : Int32} (h : q < 0) : q = SBG.negI (mag q) := by
  apply Int32.toInt_inj.mp
  rw [SBG.negI_toInt (mag_le q)]
  rw [Int32.lt_iff_toInt_lt] at h
  have z0 : (0 : Int32).toInt = 0 := by decide
  unfold mag; omega
theorem pos_mag {q : Int32} (h : ¬ q < 0) : -q = SBG.negI (mag q) := by
  apply Int32.toInt_inj.mp
  have h1 := Int32.le_toInt q; have h2 := Int32.toInt_lt q
  rw [Int32.lt_iff_toInt_lt] at h
  have z0 : (0 : Int32).toInt = 0 := by decide
  rw [SBG.negI_toInt (mag_le q), Int32.toInt_neg, SBG.bm (by omega) (by omega)]
  unfold mag; omega
theorem sgn_pos {q : Int32} (h : q < 0) : sgnN q = 1 := if_pos h
theorem sgn_neg {q : Int32} (h : ¬ q < 0) : sgnN q = 0 := if_neg h
/-- the decimal text of a number -/
def dec (n : Nat) : List Int32 := (List.range (SBG.digits n)).map fun j => Int32.ofNat (48 + n / 10 ^ (SBG.digits n - 1 - j) % 10)
def itx (q : Int32) : List Int32 := (if q < 0 then [(45 : Int32)] else []) ++ dec (mag q)
theorem dec_len (n : Nat) : (dec n).length = SBG.digits n := by simp [dec]
theorem dec_at {n j : Nat} (h : j < SBG.digits n) : (dec n).getD j 0 = Int32.ofNat (48 + n / 10 ^ (SBG.digits n - 1 - j) % 10) := by
  rw [dec, List.getD_eq_getElem?_getD, List.getElem?_map, List.getElem?_range h]; rfl
theorem itx_neg {q : Int32} (h : q < 0) : itx q = 45 :: dec (mag q) := by rw [itx, if_pos h]; rfl
theorem itx_pos {q : Int32} (h : ¬ q < 0) : itx q = dec (mag q) := by rw [itx, if_neg h]; rfl
theorem itx_len (q : Int32) : (itx q).length = SBG.digits (mag q) + sgnN q := by
  by_cases h : q < 0
  · rw [itx_neg h, sgn_pos h, List.length_cons, dec_len]
  · rw [itx_pos h, sgn_neg h, dec_len]; rfl
theorem itx_le (q : Int32) : 1 ≤ (itx q).length ∧ (itx q).length ≤ 11 := by
  have := SBG.digits_pos (mag q)
  rw [itx_len]; unfold sgnN; split <;> omega
theorem ones_num : ∀ r, r < 100 → (48 : Int32) + Int32.ofNat r % 10 = Int32.ofNat (48 + r % 10) := by decide +kernel
theorem tens_num : ∀ r, r < 100 → (48 : Int32) + Int32.ofNat r / 10 = Int32.ofNat (48 + r / 10) := by decide +kernel
theorem nar7 : ∀ k, k < 128 → (Int32.ofNat k).toInt8.toInt32 = Int32.ofNat k := by decide +kernel
theorem lat7 (k : Nat) (h : k < 128) : ¬ Int32.ofNat k < 0 ∧ ¬ (255 : Int32) < Int32.ofNat k := by
  have z0 : (0 : Int32).toInt = 0 := by decide
  have z1 : (255 : Int32).toInt = 255 := by decide
  rw [Int32.lt_iff_toInt_lt, Int32.lt_iff_toInt_lt, ofNat_toInt (by omega), z0, z1]; omega
theorem dec_mem {n : Nat} {c : Int32} (h : c ∈ dec n) : ∃ k, k < 128 ∧ c = Int32.ofNat k := by
  obtain ⟨j, -, rfl⟩ := List.mem_map.mp h
  exact ⟨_, by omega, rfl⟩
theorem itx_mem {q c : Int32} (h : c ∈ itx q) : ∃ k, k < 128 ∧ c = Int32.ofNat k := by
  by_cases hq : q < 0
  · rw [itx_neg hq] at h
    rcases List.mem_cons.mp h with rfl | h
    · exact ⟨45, by decide, rfl⟩
    · exact dec_mem h
  · rw [itx_pos hq] at h; exact dec_mem h
theorem itx_lat {q c : Int32} (h : c ∈ itx q) : ¬ c < 0 ∧ ¬ (255 : Int32) < c := by
  obtain ⟨k, hk, rfl⟩ := itx_mem h; exact lat7 k hk
theorem dec1 {E : Nat} (h : 1 ≤ E) : Int32.ofNat E + (-1 : Int32) = Int32.ofNat (E - 1) := by
  obtain ⟨k, rfl⟩ : ∃ k, E = k + 1 := ⟨E - 1, by omega⟩
  rw [← ofNat_succ, Int32.add_assoc, show (1 : Int32) + -1 = 0 from by decide, Int32.add_zero, Nat.add_sub_cancel]
theorem dig_div {n : Nat} (h : 100 ≤ n) (h2 : n ≤ 2 ^ 31) : SBG.digits n = SBG.digits (n / 100) + 2 := by
  have e1 : ¬ n < 10 := by omega
  have e2 : ¬ n < 100 := by omega
  have hm : n / 100 ≤ 21474836 := by omega
  have f : ∀ k, (n < 100 * k) = (n / 100 < k) := fun k => propext (by omega)
  have f1 := f 10; have f2 := f 100; have f3 := f 1000; have f4 := f 10000; have f5 := f 100000; have f6 := f 1000000; have f7 := f 10000000
  simp only [Nat.reduceMul] at f1 f2 f3 f4 f5 f6 f7
  unfold SBG.digits
  rw [if_neg e1, if_neg e2]
  simp only [f1, f2, f3, f4, f5, f6, f7]
  generalize n / 100 = m at hm
  by_cases g1 : m < 10
  · rw [if_pos g1, if_pos g1]
  rw [if_neg g1, if_neg g1]
  by_cases g2 : m < 100
  · rw [if_pos g2, if_pos g2]
  rw [if_neg g2, if_neg g2]
  by_cases g3 : m < 1000
  · rw [if_pos g3, if_pos g3]
  rw [if_neg g3, if_neg g3]
  by_cases g4 : m < 10000
  · rw [if_pos g4, if_pos g4]
  rw [if_neg g4, if_neg g4]
  by_cases g5 : m < 100000
  · rw [if_pos g5, if_pos g5]
  rw [if_neg g5, if_neg g5]
  by_cases g6 : m < 1000000
  · rw [if_pos g6, if_pos g6]
  rw [if_neg g6, if_neg g6]
  by_cases g7 : m < 10000000
  · rw [if_pos g7, if_pos g7]
  rw [if_neg g7, if_neg g7, if_pos (by omega)]
/-- the digits of n stand ahead of E, all else is as it was -/
def Wrote (n E : Nat) (vs vs' : List Value) : Prop := vs'.length = vs.length ∧ (∀ i, (i < E - SBG.digits n ∨ E ≤ i) → vs'.getD i (.int (0 : Int32)) = vs.getD i (.int (0 : Int32))) ∧ ∀ k, k < SBG.digits n → vs'.getD (E - 1 - k) (.int (0 : Int32)) = .int (Int32.ofNat (48 + n / 10 ^ k % 10))
theorem set_same {vs : List Value} {i : Nat} {v d : Value} (h : i < vs.length) : (vs.set i v).getD i d = v := by
  rw [List.getD_eq_getElem?_getD, List.getElem?_set_self h]; rfl
theorem set_ne {vs : List Value} {i j : Nat} {v d : Value} (h : i ≠ j) : (vs.set i v).getD j d = vs.getD j d := by
  rw [List.getD_eq_getElem?_getD, List.getD_eq_getElem?_getD, List.getElem?_set_ne h]
theorem dig_lt10 {n : Nat} (h : n < 10) : SBG.digits n = 1 := if_pos h
theorem dig_lt100 {n : Nat} (h : 9 < n) (h' : n < 100) : SBG.digits n = 2 := by
  unfold SBG.digits; rw [if_neg (by omega), if_pos h']
theorem wr1 {n E : Nat} {vs : List Value} (h : ¬ 9 < n) (hE : 1 ≤ E) (hl : E ≤ vs.length) : Wrote n E vs (vs.set (E - 1) (.int ((Int32.ofNat (48 + n % 10)).toInt8.toInt32))) := by
  have hd := dig_lt10 (show n < 10 by omega)
  refine ⟨List.length_set, fun i hi => set_ne (by omega), fun k hk => ?_⟩
  obtain rfl : k = 0 := by omega
  rw [Nat.sub_zero, set_same (by omega), nar7 _ (by omega), Nat.pow_zero, Nat.div_one]
theorem wr2 {n E : Nat} {vs : List Value} (h : 9 < n) (h' : n < 100) (hE : 2 ≤ E) (hl : E ≤ vs.length) : Wrote n E vs ((vs.set (E - 1) (.int ((Int32.ofNat (48 + n % 10)).toInt8.toInt32))).set (E - 1 - 1) (.int ((Int32.ofNat (48 + n / 10)).toInt8.toInt32))) := by
  have hd := dig_lt100 h h'
  refine ⟨by rw [List.length_set, List.length_set], fun i hi => by rw [set_ne (by omega), set_ne (by omega)], fun k hk => ?_⟩
  match k, hk with
  | 0, _ => rw [Nat.sub_zero, set_ne (by omega), set_same (by omega), nar7 _ (by omega), Nat.pow_zero, Nat.div_one]
  | 1, _ => rw [set_same (by rw [List.length_set]; omega), nar7 _ (by omega), Nat.pow_one, Nat.mod_eq_of_lt (show n / 10 < 10 by omega)]
  | k + 2, hk => omega
theorem wr3 {n E : Nat} {vs vs' : List Value} (h : 100 ≤ n) (h2 : n ≤ 2 ^ 31) (hE : SBG.digits n ≤ E) (hl : E ≤ vs.length) (W : Wrote (n / 100) (E - 1 - 1) ((vs.set (E - 1) (.int ((Int32.ofNat (48 + n % 100 % 10)).toInt8.toInt32))).set (E - 1 - 1) (.int ((Int32.ofNat (48 + n % 100 / 10)).toInt8.toInt32))) vs') : Wrote n E vs vs' := by
  have hd := dig_div h h2
  have hp := SBG.digits_pos (n / 100)
  obtain ⟨w1, w2, w3⟩ := W
  refine ⟨by rw [w1, List.length_set, List.length_set], fun i hi => by rw [w2 i (by omega), set_ne (by omega), set_ne (by omega)], fun k hk => ?_⟩
  match k, hk with
  | 0, _ => rw [Nat.sub_zero, w2 _ (by omega), set_ne (by omega), set_same (by omega), nar7 _ (by omega), Nat.pow_zero, Nat.div_one, show n % 100 % 10 = n % 10 from by omega]
  | 1, _ => rw [w2 _ (by omega), set_same (by rw [List.length_set]; omega), nar7 _ (by omega), Nat.pow_one, show n % 100 / 10 = n / 10 % 10 from by omega]
  | k + 2, hk =>
    have q := w3 k (by omega)
    rw [show E - 1 - 1 - 1 - k = E - 1 - (k + 2) from by omega] at q
    rw [q, Nat.div_div_eq_div_mul, show 100 * 10 ^ k = 10 ^ (k + 2) from by rw [Nat.pow_add]; omega]
/-- the text of q stands ahead of E -/
def WroteI (q : Int32) (E : Nat) (vs vs' : List Value) : Prop := vs'.length = vs.length ∧ (∀ i, i < E - (itx q).length → vs'.getD i (.int (0 : Int32)) = vs.getD i (.int (0 : Int32))) ∧ ∀ j, j < (itx q).length → vs'.getD (E - (itx q).length + j) (.int (0 : Int32)) = .int ((itx q).getD j 0)
theorem WI_pos {q : Int32} {E : Nat} {vs vs' : List Value} (h : ¬ q < 0) (hE : (itx q).length ≤ E) (W : Wrote (mag q) E vs vs') : WroteI q E vs vs' := by
  obtain ⟨w1, w2, w3⟩ := W
  have hl := itx_len q
  rw [sgn_neg h, Nat.add_zero] at hl
  refine ⟨w1, fun i hi => w2 i (by omega), fun j hj => ?_⟩
  have q3 := w3 (SBG.digits (mag q) - 1 - j) (by omega)
  rw [show E - 1 - (SBG.digits (mag q) - 1 - j) = E - (itx q).length + j from by omega] at q3
  rw [q3, itx_pos h, dec_at (by omega)]
theorem WI_neg {q : Int32} {E : Nat} {vs vs' : List Value} (h : q < 0) (hE : (itx q).length ≤ E) (hv : E ≤ vs.length) (W : Wrote (mag q) E vs vs') : WroteI q E vs (vs'.set (E - SBG.digits (mag q) - 1) (.int ((45 : Int32).toInt8.toInt32))) := by
  obtain ⟨w1, w2, w3⟩ := W
  have hl := itx_len q
  rw [sgn_pos h] at hl
  refine ⟨by rw [List.length_set, w1], fun i hi => by rw [set_ne (by omega), w2 i (by omega)], fun j hj => ?_⟩
  rw [itx_neg h] at hl hE hj ⊢
  match j, hj with
  | 0, _ =>
    rw [show E - (45 :: dec (mag q)).length + 0 = E - SBG.digits (mag q) - 1 from by omega, set_same (by omega)]; rfl
  | j + 1, hj =>
    have hd := dec_len (mag q)
    rw [List.length_cons] at hj
    have q3 := w3 (SBG.digits (mag q) - 1 - j) (by omega)
    rw [show E - 1 - (SBG.digits (mag q) - 1 - j) = E - (45 :: dec (mag q)).length + (j + 1) from by omega] at q3
    rw [set_ne (by omega), q3, List.getD_cons_succ, dec_at (by omega)]
end Dig1
section Dig2
def onesV : List Value := (List.range 100).map fun i => .int (Int32.ofNat (48 + i % 10))
def tensV : List Value := (List.range 100).map fun i => .int (Int32.ofNat (48 + i / 10))
theorem onesV_at {r : Nat} (h : r < 100) : onesV.getD (Int32.ofNat r).toNatClampNeg (.int (0 : Int32)) = .int (Int32.ofNat (48 + r % 10)) := by
  rw [clN (by omega), onesV, List.getD_eq_getElem?_getD, List.getElem?_map, List.getElem?_range h]; rfl
theorem tensV_at {r : Nat} (h : r < 100) : tensV.getD (Int32.ofNat r).toNatClampNeg (.int (0 : Int32)) = .int (Int32.ofNat (48 + r / 10)) := by
  rw [clN (by omega), tensV, List.getD_eq_getElem?_getD, List.getElem?_map, List.getElem?_range h]; rfl
theorem lt100 {r : Nat} (h : r < 100) : ¬ Int32.ofNat r < 0 ∧ Int32.ofNat r < (100 : Int32) := ⟨ofNat_nn (by omega), (ofNat_lt (k := 100) (by omega) (by omega)).mpr h⟩
theorem sb_appI {vs vs' : List Value} {cs : List Int32} {q : Int32} {k : Nat} (hk : k = cs.length) (W : WroteI q (k + (itx q).length) vs vs') (H : ∀ i, i < cs.length → vs.getD i (.int (0 : Int32)) = .int (StrChars.lo8 (cs.getD i 0))) (i : Nat) (hi : i < (cs ++ itx q).length) :
    vs'.getD i (.int (0 : Int32)) = .int (StrChars.lo8 ((cs ++ itx q).getD i 0)) := by
  subst hk
  rw [List.length_append] at hi
  by_cases c : i < cs.length
  · rw [W.2.1 i (by omega), H i c, List.getD_eq_getElem?_getD, List.getD_eq_getElem?_getD, List.getElem?_append_left c]
  · have e := W.2.2 (i - cs.length) (by omega)
    rw [show cs.length + (itx q).length - (itx q).length + (i - cs.length) = i from by omega] at e
    have g : (cs ++ itx q).getD i 0 = (itx q).getD (i - cs.length) 0 := by rw [List.getD_eq_getElem?_getD, List.getD_eq_getElem?_getD, List.getElem?_append_right (by omega)]
    rw [e, g]
    obtain ⟨z, hz, ez⟩ := getD_all (P := fun c => ∃ z, z < 128 ∧ c = Int32.ofNat z) (fun c hc => itx_mem hc) ⟨0, by omega, rfl⟩ (i - cs.length)
    rw [ez, StrChars.lo8, nar7 z hz]
theorem len_small {s : State} {args : Array Value} {t : Term} {d : Addr} {D : Cell} {v : Value} (hev : t.eval args s none [] s = some (.ref d)) (ha : s.arrayAt? d = some D) (hl : (Term.length t).eval args s none [] s = some v) : D.slots.size < 2 ^ 31 := Classical.byContradiction fun hn => by
  simp only [Term.eval, hev, ha, Option.bind_eq_bind, Option.bind_some] at hl
  rw [if_neg hn] at hl; cases hl
/-- a table of digits at the start -/
theorem tab_start {s : State} {args : Array Value} (hf : Fit s) {nm : String} {rhs : Term} {F : Nat → Int32} (hi : (Cond.initializedFor "java/lang/Integer" nm "[B").before args s = true) (hx : (Cond.exactly (Term.static "java/lang/Integer" nm "[B") "[B").value args s none s [] = some true)
    (hl : (Cond.eq (Term.length (Term.static "java/lang/Integer" nm "[B")) (Term.int (100 : Int32))).value args s none s [] = some true) (ha : (Cond.all (Term.static "java/lang/Integer" nm "[B") (Cond.eq (Term.elem (Term.static "java/lang/Integer" nm "[B") (Term.index 0)) rhs)).value args s none s [] = some true)
    (wA : (Cond.arrayClass .byte).before args s = true) (hr : ∀ r, r < 100 → rhs.eval args s none [r] s = some (.int (F r))) :
    ∃ d k, Sta s s.heap "java/lang/Integer" nm "[B" (.ref d) ∧ Arv s s.heap d k .byte (100 : Int32) ((List.range 100).map fun i => .int (F i)) (.int (0 : Int32)) ∧ d < s.heap.size := by
  obtain ⟨d, cB, D, kB, hev, hfcB, hcellD, hkB, hstatD, hclsD, -⟩ := Cond.exactly_spec (Cond.before_iff.mpr hx)
  have hev' : ∀ idx, (Term.static "java/lang/Integer" nm "[B").eval args s none idx s = some (.ref d) := fun idx => by
    have : (Term.static "java/lang/Integer" nm "[B").eval args s none idx s = (Term.static "java/lang/Integer" nm "[B").eval args s none [] s := by simp only [Term.eval]
    rw [this]; exact hev
  obtain ⟨cB', kB', comp, hnameB, hkB', hkindB⟩ := Cond.arrayClass_spec wA
  have eBA : ("[" ++ FieldType.toString .byte) = "[B" := by decide
  rw [eBA] at hnameB
  cases hfcB.symm.trans hnameB
  cases hkB.symm.trans hkB'
  have hl' := eqv_i (Term.int_eval _) hl
  obtain ⟨d', D', hev2, harrAt, hlen⟩ := Term.length_spec hl'
  cases hev.symm.trans hev2
  obtain ⟨hcellD', hknD, -, -⟩ := State.arrayAt?_spec harrAt
  cases hcellD.symm.trans hcellD'
  have A : Arr s s.heap d D .byte := ⟨hcellD, ⟨(fun q h => by rw [h] at hstatD; cases hstatD), kB, (by rw [hclsD]; exact hkB), comp, hkindB⟩, hknD⟩
  have e3 : D.slots.size < 2 ^ 31 := len_small hev harrAt hl'
  have hl2 := hl'
  rw [len_f hev harrAt e3] at hl2
  have e4 : D.slots.size.toInt32 = (100 : Int32) := Value.int.inj (Option.some.inj hl2)
  have hsz : D.slots.size = 100 := by
    have := congrArg Int32.toInt e4
    rw [show D.slots.size.toInt32 = Int32.ofNat D.slots.size from rfl, ofNat_toInt e3] at this
    have e5 : (100 : Int32).toInt = 100 := by decide
    omega
  refine ⟨d, D.cls, Sta.start hev (Or.inl hi), Arv.start hf A e3 e4 (by decide) (by simp) (hasL_of (dv := .int (0 : Int32)) _ 0 fun j hj => ?_), ?_⟩
  · rw [List.length_map, List.length_range] at hj
    have h := Cond.all_elim hev harrAt ha j (by omega)
    have h2 := eqv_i (hr j hj) h
    have h3 := (elem_in h2 (hev' [j]) (j := Int32.ofNat j) rfl hcellD).2
    rw [clN (by omega)] at h3
    rw [Nat.zero_add, h3, List.getD_eq_getElem?_getD, List.getElem?_map, List.getElem?_range hj]; rfl
  · obtain ⟨q, -⟩ := Array.getElem?_eq_some_iff.mp hcellD; exact q
end Dig2
section Num64
theorem ofNat64_toInt {n : Nat} (h : n < 2 ^ 62) : (Int64.ofNat n).toInt = n := by
  have hz : Int64.size = 18446744073709551616 := rfl
  rw [Int64.toInt_ofNat', Int.bmod_eq_of_le] <;> omega
theorem lt64 {n k : Nat} (h : n < 2 ^ 62) (h' : k < 2 ^ 62) : Int64.ofNat n < Int64.ofNat k ↔ n < k := by
  rw [Int64.lt_iff_toInt_lt, ofNat64_toInt h, ofNat64_toInt h']; omega
theorem abs_mag (q : Int32) : (if q.toInt64 < (0 : Int64) then (-q.toInt64) else q.toInt64) = Int64.ofNat (mag q) := by
  have h1 := Int32.le_toInt q; have h2 := Int32.toInt_lt q
  have hm := mag_le q
  have z0 : (0 : Int64).toInt = 0 := by decide
  apply Int64.toInt_inj.mp
  rw [ofNat64_toInt (by omega)]
  by_cases c : q.toInt64 < (0 : Int64)
  · rw [if_pos c, Int64.toInt_neg, Int32.toInt_toInt64, Int.bmod_eq_of_le (by omega) (by omega)]
    rw [Int64.lt_iff_toInt_lt, Int32.toInt_toInt64, z0] at c
    unfold mag; omega
  · rw [if_neg c, Int32.toInt_toInt64]
    rw [Int64.lt_iff_toInt_lt, Int32.toInt_toInt64, z0] at c
    unfold mag; omega
theorem div64 {a b : Nat} (ha : a < 2 ^ 62) (hb : b < 2 ^ 62) (h0 : 0 < b) : Int64.ofNat a / Int64.ofNat b = Int64.ofNat (a / b) := by
  have hle : a / b ≤ a := Nat.div_le_self _ _
  apply Int64.toInt_inj.mp
  rw [Int64.toInt_div, ofNat64_toInt ha, ofNat64_toInt hb, ofNat64_toInt (by omega)]
  rw [Int.tdiv_eq_ediv_of_nonneg (by omega)]
  have e : ((a : Int) / (b : Int)) = ((a / b : Nat) : Int) := (Int.natCast_ediv a b).symm
  rw [e]
  generalize a / b = r at hle ⊢
  exact Int.bmod_eq_of_le (by omega) (by omega)
theorem rem64 {a : Nat} (ha : a < 2 ^ 62) : Int64.ofNat a - Int64.ofNat a / (10 : Int64) * (10 : Int64) = Int64.ofNat (a % 10) := by
  have e10 : (10 : Int64) = Int64.ofNat 10 := rfl
  rw [e10, div64 ha (by omega) (by omega)]
  apply Int64.toInt_inj.mp
  have h1 : (Int64.ofNat (a / 10) * Int64.ofNat 10).toInt = ((a / 10 * 10 : Nat) : Int) := by
    rw [Int64.toInt_mul, ofNat64_toInt (by omega), ofNat64_toInt (by omega), Int.bmod_eq_of_le (by omega) (by omega)]; omega
  rw [Int64.toInt_sub, h1, ofNat64_toInt ha, ofNat64_toInt (by omega), Int.bmod_eq_of_le (by omega) (by omega)]
  omega
theorem l2i_nat {a : Nat} (ha : a < 2 ^ 31) : (Int64.ofNat a).toInt32 = Int32.ofNat a := by
  apply Int32.toInt_inj.mp
  rw [Int64.toInt_toInt32, ofNat64_toInt (by omega), ofNat_toInt ha, Int.bmod_eq_of_le (by omega) (by omega)]
theorem pow_pos10 (e : Nat) : 0 < 10 ^ e := Nat.pow_pos (by omega)
theorem pow_le10 {e : Nat} (h : e < 10) : 10 ^ e ≤ 1000000000 := by
  have := Nat.pow_le_pow_right (n := 10) (by omega) (show e ≤ 9 by omega)
  simpa using this
theorem ne64 {e : Nat} (h : e < 10) : Int64.ofNat (10 ^ e) ≠ 0 := fun q => by
  have := congrArg Int64.toInt q
  have h2 := pow_le10 h; have h3 := pow_pos10 e
  rw [ofNat64_toInt (by omega)] at this
  have z0 : (0 : Int64).toInt = 0 := by decide
  omega
theorem ofNat_add2 (n : Nat) : Int32.ofNat n + (2 : Int32) = Int32.ofNat (n + 2) := by
  rw [show (2 : Int32) = 1 + 1 from by decide, ← Int32.add_assoc, ofNat_succ, ofNat_succ]
theorem at_app_l {xs ys : List Int32} {i : Nat} (h : i < xs.length) : (xs ++ ys).getD i 0 = xs.getD i 0 := by
  rw [List.getD_eq_getElem?_getD, List.getD_eq_getElem?_getD, List.getElem?_append_left h]
theorem at_app_r {xs ys : List Int32} {i j : Nat} (h : i = xs.length + j) : (xs ++ ys).getD i 0 = ys.getD j 0 := by
  subst h
  rw [List.getD_eq_getElem?_getD, List.getD_eq_getElem?_getD, List.getElem?_append_right (by omega), Nat.add_sub_cancel_left]
end Num64
end Own
open Own
--CUT base
theorem constHeld_of {s : State} {own : String} {index : Nat} (h : constHeld s own index) : Jvm.Lit.constHeld s own index := h
theorem hwAtoms : ∀ d ∈ Bundle.stringAtoms, d ∈ tables_1 := by decide +kernel
theorem hwords : ∀ d ∈ StrChars.Road.words, d ∈ tables_1 := by decide +kernel
section StrNewL
variable {p : Program} {l : Launch} {e : Env} {R : Room} {s : State} {args : Array Value} {below : List Frame} {Z : State} {h : Heap} {a0 : Array Value} {len wd : Nat} {n0 : Nat}
theorem BK.padL {y : MethodName} {as' : Array Value} {rc rs rc' rs' : Nat} {Q : Option Value → Heap → List Loc → Prop} (hK : BK l R p e below s args y len wd as' h rc rs Q) (h1 : rc ≤ rc') (h2 : rs ≤ rs') : BK l R p e below s args y len wd as' h rc' rs' Q := by
  intro m meth c A g ig mk a X hg hsize hdg hW hn hp
  obtain ⟨v, B, X', ⟨L, q, e1, e2, e3⟩, st⟩ := hK m meth c A g ig mk a X hg hsize hdg hW hn ⟨hp.1, hp.2.1, Nat.le_trans (Nat.add_le_add_left h1 _) hp.2.2.1, Nat.le_trans (Nat.add_le_add_left h2 _) hp.2.2.2⟩
  exact ⟨v, ⟨B.U, B.locs, A.cells + rc', A.slots + rs'⟩, X'.mono (by rw [e2]; exact Nat.add_le_add_left h1 _) (by rw [e3]; exact Nat.add_le_add_left h2 _), ⟨L, q, e1, rfl, rfl⟩, st⟩
/-- new String(chars), of 1 to 8 chars, each 0 to 255; the chars need not be known -/
theorem newStrL (hZ : Z.Warmed39 s.vm) (hw : ∀ d ∈ tables_1, d.before a0 Z = true) {x b : Addr} {kb : ClassId} {cs : List Int32} {zc : Int32} (wi : (Jvm.Cond.instantiable "java/lang/String" 4).before a0 Z = true)
    (gx : n0 ≤ x) (hn0 : n0 ≤ h.size) (EX : Exa Z h x "java/lang/String") (FV : Fld Z h x "java/lang/String" "value" "[B" .null) (FC : Fld Z h x "java/lang/String" "coder" "B" (.int (0 : Int32))) (AB : Arv Z h b kb .char (Int32.ofNat cs.length) (cs.map Value.int) (.int (0 : Int32))) (hn8 : cs.length ≤ 8) (h1 : 0 < cs.length) (hp : ∀ c ∈ cs, ¬ c < 0 ∧ ¬ (255 : Int32) < c)
    (SC : Sta Z h "java/lang/String" "COMPACT_STRINGS" "Z" (.int zc)) (hz : ¬ zc = 0) (hfr : 5 ≤ R.frames) (hlo : wd + 80 ≤ R.locals) :
    BK l R p e below s args (⟨"java/lang/String", "<init>", "([C)V"⟩ : MethodName) len wd #[.ref x, .ref b] h 1 8 (fun v h' L => (v = none ∧ StrA Z h' x cs) ∧ Keep h h' [x] ∧ Fr n0 L) := by
  refine BK.padL (rc := 1) (rs := cs.length) (Back.mono (StrChars.Road.backV (W := wd) (len := len) hZ (fun d hd => hw d (hwords d hd)) (kI := 4) wi (cs := cs) (bs := cs.map (fun c => c.toInt8.toInt32)) (n := cs.length) gx hn0 EX FV FC AB SC hz rfl rfl h1 (by omega) hp rfl (by omega) (by omega)) (fun A a hp => hp) (fun A a v B hp' hq => ?_)) (by omega) (by omega)
  obtain ⟨L, ⟨q1, q2, q3, q4, q5, t, kb', -, -, -, q6, q7⟩, r⟩ := hq
  exact ⟨L, ⟨⟨q1, StrA.make q4 q5 q6 q7 rfl (by omega) hp⟩, q3, q2⟩, r⟩
end StrNewL
theorem dE4_0 : decode jdk_42_method_149_code 0 = .ok (.aload_n 0, 1) := by decide +kernel
theorem dE4_1 : decode jdk_42_method_149_code 1 = .ok (.invokespecial 1, 3) := by decide +kernel
theorem dE4_4 : decode jdk_42_method_149_code 4 = .ok (.iload_n 3, 1) := by decide +kernel
theorem dE4_5 : decode jdk_42_method_149_code 5 = .ok (.ifCond .ne 22, 3) := by decide +kernel
theorem dE4_8 : decode jdk_42_method_149_code 8 = .ok (.aload_n 0, 1) := by decide +kernel
theorem dE4_9 : decode jdk_42_method_149_code 9 = .ok (.ldc 7, 2) := by decide +kernel
theorem dE4_11 : decode jdk_42_method_149_code 11 = .ok (.getfield 9, 3) := by decide +kernel
theorem dE4_14 : decode jdk_42_method_149_code 14 = .ok (.putfield 9, 3) := by decide +kernel
theorem dE4_17 : decode jdk_42_method_149_code 17 = .ok (.aload_n 0, 1) := by decide +kernel
theorem dE4_18 : decode jdk_42_method_149_code 18 = .ok (.ldc 7, 2) := by decide +kernel
theorem dE4_20 : decode jdk_42_method_149_code 20 = .ok (.getfield 15, 3) := by decide +kernel
theorem dE4_23 : decode jdk_42_method_149_code 23 = .ok (.putfield 15, 3) := by decide +kernel
theorem dE4_26 : decode jdk_42_method_149_code 26 = .ok (.return_, 1) := by decide +kernel
theorem pn_E4 : plainFor (⟨"java/lang/String", "<init>", "([CIILjava/lang/Void;)V"⟩ : MethodName) = true := by first | exact plainFor_of_name (by first | (simp [plainName, overriddenIn]; done) | decide +kernel) | decide +kernel
set_option maxRecDepth 65536 in
set_option maxHeartbeats 40000000 in
theorem rmE4 (l : Launch) (Z : State) (a0 : Array Value) (hw : ∀ d ∈ tables_1, d.before a0 Z = true) (hEL : EW Z a0 consts_1) (a b : Addr) (h0 : Heap) (n0 : Nat) (Z0 : n0 ≤ h0.size) (ga : n0 ≤ a) (EX : Exa Z h0 a "java/lang/String") (FV : Fld Z h0 a "java/lang/String" "value" "[B" .null) (FC : Fld Z h0 a "java/lang/String" "coder" "B" (.int (0 : Int32))) :
    WM l (⟨"java/lang/String", "<init>", "([CIILjava/lang/Void;)V"⟩ : MethodName) jdk_42_method_149_code 6 none [] ({ frames := 1, cells := 4, slots := 8, locals := 13 } : Room) Z consts_1 n0 #[(.ref a), (.ref b), (.int (0 : Int32)), (.int (0 : Int32)), .null] h0 [a] (fun v h => v = none ∧ StrA Z h a []) := by
  refine WM.walk (Ls := #[.val (.ref a), .val (.ref b), .val (.int (0 : Int32)), .val (.int (0 : Int32)), .val .null, .unset]) pn_E4 Z0 (fun m => by first | (simp [entryFrame, mkF, argsToLocals, Value.category]; done) | rfl) ?_
  intro p e s m below meth c s₁ hby hml hret hnm W0
  have hwS : ∀ d ∈ Bundle.stringAtoms, d.before a0 Z = true := fun d hd => hw d (hwAtoms d hd)
  refine W0.1.aloadN (hb hby dE4_0) rfl rfl (pc' := 1) rfl ?_
  refine W0.1.initO (hw _ (List.mem_of_getElem? (i := 15) rfl)) (hw _ (List.mem_of_getElem? (i := 16) rfl)) (hw _ (List.mem_of_getElem? (i := 17) rfl)) (hb hby dE4_1) (pc' := 4) rfl hml (by decide) (wd := 0) (Nat.le_of_ble_eq_true rfl) (by decide) ?_
  intro T1 N1
  have W1 := W0.same N1
  refine W1.1.iloadN (hb hby dE4_4) rfl (pc' := 5) rfl ?_
  refine W1.1.ifNo (hb hby dE4_5) (XT.i0_ne_f (by decide)) (pc' := 8) rfl ?_
  refine W1.1.aloadN (hb hby dE4_8) rfl rfl (pc' := 9) rfl ?_
  refine W1.ldcS hEL (hw _ (List.mem_of_getElem? (i := 18) rfl)) hwS (by decide) (vs := []) (z := (0 : Int32)) ⟨by decide, by decide⟩ (by decide) rfl (hb hby dE4_9) (pc' := 11) rfl (n := 0) (by decide) (by decide) (by decide) (by decide) ?_
  intro T2 h2 vm2 a2 b2 k2 W2 E2 C2 A2 B2 D2 V2 hne2
  have z2 := E2.1
  have F3 := Exa.ext E2 EX
  have F4 := Fld.ext E2 FV
  have Sf2_a := (safe_null (EL := consts_1) W2.1.2.2.2.1.alike F3 F4)
  refine W2.1.getF (host := "") (Or.inl (hw _ (List.mem_of_getElem? (i := 24) rfl))) Via.refl D2 (hb hby dE4_11) (pc' := 14) rfl ?_
  intro T5 N5
  have W5 := W2.same N5
  have F7 := Fld.ext E2 FC
  refine W5.1.putF (host := "") (Or.inl (hw _ (List.mem_of_getElem? (i := 24) rfl))) Via.refl F4 F3 (Or.inr ⟨(hw _ (List.mem_of_getElem? (i := 20) rfl)), rfl, hnm⟩) (hw _ (List.mem_of_getElem? (i := 5) rfl)) (ty := (.array .byte)) (by decide) rfl rfl (hb hby dE4_14) (pc' := 17) rfl (Or.inl (List.mem_of_getElem? (i := 0) rfl)) ga ?_
  intro T6 h6 L6 N6 Q6
  have K6 := Keep.of_wr Q6
  have z6 := K6.1
  have W6 := W5.up N6 K6 (sfS Sf2_a sf0)
  have Sf6 := W5.safeK Sf2_a K6 (sfS Sf2_a sf0)
  have A6 := Exa.wr Q6 F3
  have B6 := Fld.same Q6 F4
  have B6_coder := Fld.other Q6 F7 (Or.inr (slot_ne (Or.inr (hw _ (List.mem_of_getElem? (i := 21) rfl))) (Or.inr (hw _ (List.mem_of_getElem? (i := 20) rfl))) (by decide) (t := .byte) (t' := (.array .byte)) (by decide) (by decide)))
  refine W6.1.aloadN (hb hby dE4_17) rfl rfl (pc' := 18) rfl ?_
  refine W6.ldcS hEL (hw _ (List.mem_of_getElem? (i := 18) rfl)) hwS (by decide) (vs := []) (z := (0 : Int32)) ⟨by decide, by decide⟩ (by decide) rfl (hb hby dE4_18) (pc' := 20) rfl (n := 0) (by decide) (by decide) (by decide) (by decide) ?_
  intro T8 h8 vm8 a8 b8 k8 W8 E8 C8 A8 B8 D8 V8 hne8
  have z8 := E8.1
  have Sf8_a := C8.safe (A6.lt) Sf6
  refine W8.1.getF (host := "") (Or.inl (hw _ (List.mem_of_getElem? (i := 25) rfl))) Via.refl B8 (hb hby dE4_20) (pc' := 23) rfl ?_
  intro T9 N9
  have W9 := W8.same N9
  have F11 := Fld.ext E8 B6_coder
  have F12 := Exa.ext E8 A6
  have F13 := Fld.ext E8 B6
  refine W9.1.putF (host := "") (Or.inl (hw _ (List.mem_of_getElem? (i := 25) rfl))) Via.refl F11 F12 (Or.inr ⟨(hw _ (List.mem_of_getElem? (i := 21) rfl)), rfl, hnm⟩) (hw _ (List.mem_of_getElem? (i := 5) rfl)) (ty := .byte) (by decide) rfl rfl (hb hby dE4_23) (pc' := 26) rfl (Or.inl (List.mem_of_getElem? (i := 0) rfl)) ga ?_
  intro T10 h10 L10 N10 Q10
  have K10 := Keep.of_wr Q10
  have z10 := K10.1
  have W10 := W9.up N10 K10 (sfS Sf8_a sf0)
  have Sf10 := W9.safeK Sf8_a K10 (sfS Sf8_a sf0)
  have A10 := Exa.wr Q10 F12
  have B10 := Fld.same Q10 F11
  have B10_value := Fld.other Q10 F13 (Or.inr (slot_ne (Or.inr (hw _ (List.mem_of_getElem? (i := 20) rfl))) (Or.inr (hw _ (List.mem_of_getElem? (i := 21) rfl))) (by decide) (t := (.array .byte)) (t' := .byte) (by decide) (by decide)))
  have F14 := (((V2.keep K6 (ninS (Ne.symm (hne2 _ Sf2_a).2) nin0)).ext E8).keep K10 (ninS (Ne.symm (hne2 _ Sf2_a).2) nin0))
  exact W10.retV hEL hret (hb hby dE4_26) (by decide) (by decide) ⟨rfl, StrA.make A10 B10 B10_value F14 rfl (by decide) mem0⟩
theorem dE1_0 : decode jdk_42_method_3_code 0 = .ok (.aload_n 0, 1) := by decide +kernel
theorem dE1_1 : decode jdk_42_method_3_code 1 = .ok (.aload_n 1, 1) := by decide +kernel
theorem dE1_2 : decode jdk_42_method_3_code 2 = .ok (.iconst 0, 1) := by decide +kernel
theorem dE1_3 : decode jdk_42_method_3_code 3 = .ok (.aload_n 1, 1) := by decide +kernel
theorem dE1_4 : decode jdk_42_method_3_code 4 = .ok (.arraylength, 1) := by decide +kernel
theorem dE1_5 : decode jdk_42_method_3_code 5 = .ok (.aconst_null, 1) := by decide +kernel
theorem dE1_6 : decode jdk_42_method_3_code 6 = .ok (.invokespecial 27, 3) := by decide +kernel
theorem pd_2d3984e9 : parseMethodDescriptor "([CIILjava/lang/Void;)V" = some ⟨[(.array .char), .int, .int, (.object "java/lang/Void")], none⟩ := by decide +kernel
theorem dE1_9 : decode jdk_42_method_3_code 9 = .ok (.return_, 1) := by decide +kernel
theorem pn_E1 : plainFor (⟨"java/lang/String", "<init>", "([C)V"⟩ : MethodName) = true := by first | exact plainFor_of_name (by first | (simp [plainName, overriddenIn]; done) | decide +kernel) | decide +kernel
set_option maxRecDepth 65536 in
set_option maxHeartbeats 40000000 in
theorem rmE1 (l : Launch) (Z : State) (a0 : Array Value) (hw : ∀ d ∈ tables_1, d.before a0 Z = true) (hEL : EW Z a0 consts_1) (a b : Addr) (kb : ClassId) (h0 : Heap) (n0 : Nat) (Z0 : n0 ≤ h0.size) (ga : n0 ≤ a) (EX : Exa Z h0 a "java/lang/String") (FV : Fld Z h0 a "java/lang/String" "value" "[B" .null) (FC : Fld Z h0 a "java/lang/String" "coder" "B" (.int (0 : Int32))) (AB : Arv Z h0 b kb .char (0 : Int32) [] (.int (0 : Int32))) :
    WM l (⟨"java/lang/String", "<init>", "([C)V"⟩ : MethodName) jdk_42_method_3_code 2 none [] ({ frames := 2, cells := 4, slots := 8, locals := 30 } : Room) Z consts_1 n0 #[(.ref a), (.ref b)] h0 [a] (fun v h => v = none ∧ StrA Z h a []) := by
  refine WM.walk (Ls := #[.val (.ref a), .val (.ref b)]) pn_E1 Z0 (fun m => by first | (simp [entryFrame, mkF, argsToLocals, Value.category]; done) | rfl) ?_
  intro p e s m below meth c s₁ hby hml hret hnm W0
  refine W0.1.aloadN (hb hby dE1_0) rfl rfl (pc' := 1) rfl ?_
  refine W0.1.aloadN (hb hby dE1_1) rfl rfl (pc' := 2) rfl ?_
  refine W0.1.iconst (0 : Int32) (hb hby dE1_2) rfl (pc' := 3) rfl ?_
  refine W0.1.aloadN (hb hby dE1_3) rfl rfl (pc' := 4) rfl ?_
  refine W0.1.arraylength AB (hb hby dE1_4) (pc' := 5) rfl ?_
  refine W0.1.aconstNull (hb hby dE1_5) (pc' := 6) rfl ?_
  refine W0.callI (y := (⟨"java/lang/String", "<init>", "([CIILjava/lang/Void;)V"⟩ : MethodName)) rfl (hw _ (List.mem_of_getElem? (i := 11) rfl)) (hw _ (List.mem_of_getElem? (i := 12) rfl)) (hw _ (List.mem_of_getElem? (i := 14) rfl)) (by decide) (WM.bk (wd := 0) (rmE4 l Z a0 hw hEL a b h0 n0 W0.1.n0h ga EX FV FC) W0.1.2.2.2.1 (hw _ (List.mem_of_getElem? (i := 14) rfl)) (hw _ (List.mem_of_getElem? (i := 6) rfl)) (by decide) (by decide) hEL W0.2.2.1) (hb hby dE1_6) (pc' := 9) rfl hml (a := a) (argsL := [(.ref b), (.int (0 : Int32)), (.int (0 : Int32)), .null]) rfl (lenOf pd_2d3984e9 rfl) rfl (Nat.le_of_ble_eq_true rfl) (by decide) (by decide) (ws' := [a]) (fun _ _ _ q => ⟨q.2.2, q.2.1⟩) (allS (Or.inl (List.mem_of_getElem? (i := 0) rfl)) all0) ?_
  intro v1 T1 h1 vm1 L1' L1 W1 Q1 K1 C1
  have z1 := K1.1
  obtain ⟨⟨rfl, S1⟩, -, -⟩ := Q1
  show Go p e below _ T1 (mkF m 9 #[.val (.ref a), .val (.ref b)] [])
  exact W1.retV hEL hret (hb hby dE1_9) (by decide) (by decide) ⟨rfl, S1⟩
--CUT sb
def maxF (q r : Int32) : Int32 := (if q < r then r else q)
theorem dMX_0 : decode jdk_29_method_65_code 0 = .ok (.iload_n 0, 1) := by decide +kernel
theorem dMX_1 : decode jdk_29_method_65_code 1 = .ok (.iload_n 1, 1) := by decide +kernel
theorem dMX_2 : decode jdk_29_method_65_code 2 = .ok (.if_icmp .lt 7, 3) := by decide +kernel
theorem dMX_9 : decode jdk_29_method_65_code 9 = .ok (.iload_n 1, 1) := by decide +kernel
theorem dMX_10 : decode jdk_29_method_65_code 10 = .ok (.ireturn, 1) := by decide +kernel
theorem dMX_5 : decode jdk_29_method_65_code 5 = .ok (.iload_n 0, 1) := by decide +kernel
theorem dMX_6 : decode jdk_29_method_65_code 6 = .ok (.goto 4, 3) := by decide +kernel
set_option maxRecDepth 65536 in
set_option maxHeartbeats 40000000 in
theorem rmMX (l : Launch) (Z : State) (a0 : Array Value) (hw : ∀ d ∈ tables_1, d.before a0 Z = true) (q r : Int32) (h0 : Heap) (n0 : Nat) (Z0 : n0 ≤ h0.size)  :
    NM l (⟨"java/lang/Math", "max", "(II)I"⟩ : MethodName) jdk_29_method_65_code 2 (some .int) [] ({ frames := 0, cells := 0, slots := 0, locals := 0 } : Room) Z n0 #[(.int q), (.int r)] h0 [] (Pu (some (.int (maxF q r))) h0) := by
  refine NM.walk (Ls := #[.val (.int q), .val (.int r)]) (Jvm.Free.JP.mathPlain rfl (by decide +kernel)) Z0 (fun m => by first | (simp [entryFrame, mkF, argsToLocals, Value.category]; done) | rfl) ?_
  intro p e s m below meth c s₁ hby hml hret hnm W0
  refine W0.iloadN (hb hby dMX_0) rfl (pc' := 1) rfl ?_
  refine W0.iloadN (hb hby dMX_1) rfl (pc' := 2) rfl ?_
  by_cases hc1 : q < r
  · refine W0.icmpYes (hb hby dMX_2) (XT.ii_lt_t hc1) (by decide) (pc' := 9) (by decide) ?_
    refine W0.iloadN (hb hby dMX_9) rfl (pc' := 10) rfl ?_
    exact W0.retI hret (hb hby dMX_10) (by decide) (by decide) ⟨congrArg (fun z => some (Value.int z)) (by rw [maxF, if_pos hc1]), rfl⟩
  · refine W0.icmpNo (hb hby dMX_2) (XT.ii_lt_f hc1) (pc' := 5) rfl ?_
    refine W0.iloadN (hb hby dMX_5) rfl (pc' := 6) rfl ?_
    refine W0.goto (hb hby dMX_6) (by decide) (pc' := 10) (by decide) ?_
    exact W0.retI hret (hb hby dMX_10) (by decide) (by decide) ⟨congrArg (fun z => some (Value.int z)) (by rw [maxF, if_neg hc1]), rfl⟩
theorem max_nat {a b : Nat} (ha : a < 2 ^ 31) (hb : b < 2 ^ 31) : maxF (Int32.ofNat a) (Int32.ofNat b) = Int32.ofNat (max a b) := by
  rw [maxF]
  by_cases q : Int32.ofNat a < Int32.ofNat b
  · rw [if_pos q]; rw [ofNat_lt ha hb] at q; congr 1; omega
  · rw [if_neg q]; rw [ofNat_lt ha hb] at q; congr 1; omega
theorem dNL_0 : decode jdk_48_method_27_code 0 = .ok (.iload_n 0, 1) := by decide +kernel
theorem dNL_1 : decode jdk_48_method_27_code 1 = .ok (.iload_n 1, 1) := by decide +kernel
theorem dNL_2 : decode jdk_48_method_27_code 2 = .ok (.iload_n 2, 1) := by decide +kernel
theorem dNL_3 : decode jdk_48_method_27_code 3 = .ok (.invokestatic 194, 3) := by decide +kernel
theorem pd_d33b191e : parseMethodDescriptor "(II)I" = some ⟨[.int, .int], some .int⟩ := by decide +kernel
theorem dNL_6 : decode jdk_48_method_27_code 6 = .ok (.iadd, 1) := by decide +kernel
theorem dNL_7 : decode jdk_48_method_27_code 7 = .ok (.istore_n 3, 1) := by decide +kernel
theorem dNL_8 : decode jdk_48_method_27_code 8 = .ok (.iconst 0, 1) := by decide +kernel
theorem dNL_9 : decode jdk_48_method_27_code 9 = .ok (.iload_n 3, 1) := by decide +kernel
theorem dNL_10 : decode jdk_48_method_27_code 10 = .ok (.if_icmp .ge 11, 3) := by decide +kernel
theorem dNL_13 : decode jdk_48_method_27_code 13 = .ok (.iload_n 3, 1) := by decide +kernel
theorem dNL_14 : decode jdk_48_method_27_code 14 = .ok (.ldc 200, 2) := by decide +kernel
theorem dNL_16 : decode jdk_48_method_27_code 16 = .ok (.if_icmp .gt 5, 3) := by decide +kernel
theorem dNL_19 : decode jdk_48_method_27_code 19 = .ok (.iload_n 3, 1) := by decide +kernel
theorem dNL_20 : decode jdk_48_method_27_code 20 = .ok (.ireturn, 1) := by decide +kernel
theorem pn_NL : plainFor (⟨"jdk/internal/util/ArraysSupport", "newLength", "(III)I"⟩ : MethodName) = true := by first | exact plainFor_of_name (by first | (simp [plainName, overriddenIn]; done) | decide +kernel) | decide +kernel
set_option maxRecDepth 65536 in
set_option maxHeartbeats 40000000 in
theorem rmNL (l : Launch) (Z : State) (a0 : Array Value) (hw : ∀ d ∈ tables_1, d.before a0 Z = true) (N D P : Nat) (h0 : Heap) (n0 : Nat) (Z0 : n0 ≤ h0.size) (hN : N ≤ 4000) (hD : D ≤ 4000) (hP : P ≤ 4000) (h1 : 0 < P) :
    NM l (⟨"jdk/internal/util/ArraysSupport", "newLength", "(III)I"⟩ : MethodName) jdk_48_method_27_code 4 (some .int) [] ({ frames := 1, cells := 0, slots := 0, locals := 16 } : Room) Z n0 #[(.int (Int32.ofNat N)), (.int (Int32.ofNat D)), (.int (Int32.ofNat P))] h0 [] (Pu (some (.int (Int32.ofNat (N + max D P)))) h0) := by
  refine NM.walk (Ls := #[.val (.int (Int32.ofNat N)), .val (.int (Int32.ofNat D)), .val (.int (Int32.ofNat P)), .unset]) pn_NL Z0 (fun m => by first | (simp [entryFrame, mkF, argsToLocals, Value.category]; done) | rfl) ?_
  intro p e s m below meth c s₁ hby hml hret hnm W0
  refine W0.iloadN (hb hby dNL_0) rfl (pc' := 1) rfl ?_
  refine W0.iloadN (hb hby dNL_1) rfl (pc' := 2) rfl ?_
  refine W0.iloadN (hb hby dNL_2) rfl (pc' := 3) rfl ?_
  refine W0.callSP (hw _ (List.mem_of_getElem? (i := 222) rfl)) (hw _ (List.mem_of_getElem? (i := 223) rfl)) (hw _ (List.mem_of_getElem? (i := 158) rfl)) (hw _ (List.mem_of_getElem? (i := 224) rfl)) (by decide) (NM.bk (wd := 1) (rmMX l Z a0 hw (Int32.ofNat D) (Int32.ofNat P) h0 n0 W0.n0h ) W0.2.2.2.1 (hw _ (List.mem_of_getElem? (i := 224) rfl)) (hw _ (List.mem_of_getElem? (i := 158) rfl)) (by decide) (by decide)) (hb hby dNL_3) (pc' := 6) rfl hml (argsL := [(.int (Int32.ofNat D)), (.int (Int32.ofNat P))]) rfl (lenOf pd_d33b191e rfl) rfl (Nat.le_of_ble_eq_true rfl) (by decide) (by decide) (fun _ _ _ q => pu_of q) ?_
  intro T1 L1 W1
  show Go p e below _ T1 (mkF m 6 #[.val (.int (Int32.ofNat N)), .val (.int (Int32.ofNat D)), .val (.int (Int32.ofNat P)), .unset] [(.int (maxF (Int32.ofNat D) (Int32.ofNat P))), (.int (Int32.ofNat N))])
  rw [max_nat (by omega) (by omega)]
  refine W1.iadd (hb hby dNL_6) (pc' := 7) rfl ?_
  rw [ofNat_add]
  refine W1.istoreN (Ls' := #[.val (.int (Int32.ofNat N)), .val (.int (Int32.ofNat D)), .val (.int (Int32.ofNat P)), .val (.int (Int32.ofNat (N + max D P)))]) (hb hby dNL_7) rfl (pc' := 8) rfl ?_
  refine W1.iconst (0 : Int32) (hb hby dNL_8) rfl (pc' := 9) rfl ?_
  refine W1.iloadN (hb hby dNL_9) rfl (pc' := 10) rfl ?_
  refine W1.icmpNo (hb hby dNL_10) (XT.ii_ge_f ((ofNat_lt (n := 0) (by omega) (by omega)).mpr (by omega))) (pc' := 13) rfl ?_
  refine W1.iloadN (hb hby dNL_13) rfl (pc' := 14) rfl ?_
  refine W1.ldcI (hb hby dNL_14) (hw _ (List.mem_of_getElem? (i := 225) rfl)) (pc' := 16) rfl ?_
  refine W1.icmpNo (hb hby dNL_16) (XT.ii_gt_f (by rw [show (2147483639 : Int32) = Int32.ofNat 2147483639 from rfl, ofNat_lt (by decide) (by omega)]; omega)) (pc' := 19) rfl ?_
  refine W1.iloadN (hb hby dNL_19) rfl (pc' := 20) rfl ?_
  exact W1.retI hret (hb hby dNL_20) (by decide) (by decide) ⟨rfl, rfl⟩
theorem dNC_0 : decode jdk_68_method_10_code 0 = .ok (.aload_n 0, 1) := by decide +kernel
theorem dNC_1 : decode jdk_68_method_10_code 1 = .ok (.getfield 15, 3) := by decide +kernel
theorem dNC_4 : decode jdk_68_method_10_code 4 = .ok (.arraylength, 1) := by decide +kernel
theorem dNC_5 : decode jdk_68_method_10_code 5 = .ok (.istore_n 2, 1) := by decide +kernel
theorem dNC_6 : decode jdk_68_method_10_code 6 = .ok (.iload_n 1, 1) := by decide +kernel
theorem dNC_7 : decode jdk_68_method_10_code 7 = .ok (.aload_n 0, 1) := by decide +kernel
theorem dNC_8 : decode jdk_68_method_10_code 8 = .ok (.getfield 22, 3) := by decide +kernel
theorem dNC_11 : decode jdk_68_method_10_code 11 = .ok (.ishl, 1) := by decide +kernel
theorem dNC_12 : decode jdk_68_method_10_code 12 = .ok (.istore_n 3, 1) := by decide +kernel
theorem dNC_13 : decode jdk_68_method_10_code 13 = .ok (.iload_n 3, 1) := by decide +kernel
theorem dNC_14 : decode jdk_68_method_10_code 14 = .ok (.iload_n 2, 1) := by decide +kernel
theorem dNC_15 : decode jdk_68_method_10_code 15 = .ok (.isub, 1) := by decide +kernel
theorem dNC_16 : decode jdk_68_method_10_code 16 = .ok (.istore 4, 2) := by decide +kernel
theorem dNC_18 : decode jdk_68_method_10_code 18 = .ok (.iload_n 2, 1) := by decide +kernel
theorem dNC_19 : decode jdk_68_method_10_code 19 = .ok (.iload 4, 2) := by decide +kernel
theorem dNC_21 : decode jdk_68_method_10_code 21 = .ok (.iload_n 2, 1) := by decide +kernel
theorem dNC_22 : decode jdk_68_method_10_code 22 = .ok (.iconst 2, 1) := by decide +kernel
theorem dNC_23 : decode jdk_68_method_10_code 23 = .ok (.aload_n 0, 1) := by decide +kernel
theorem dNC_24 : decode jdk_68_method_10_code 24 = .ok (.getfield 22, 3) := by decide +kernel
theorem dNC_27 : decode jdk_68_method_10_code 27 = .ok (.ishl, 1) := by decide +kernel
theorem dNC_28 : decode jdk_68_method_10_code 28 = .ok (.iadd, 1) := by decide +kernel
theorem dNC_29 : decode jdk_68_method_10_code 29 = .ok (.invokestatic 114, 3) := by decide +kernel
theorem pd_9e707d42 : parseMethodDescriptor "(III)I" = some ⟨[.int, .int, .int], some .int⟩ := by decide +kernel
theorem dNC_32 : decode jdk_68_method_10_code 32 = .ok (.istore 5, 2) := by decide +kernel
theorem dNC_34 : decode jdk_68_method_10_code 34 = .ok (.iload 5, 2) := by decide +kernel
theorem dNC_36 : decode jdk_68_method_10_code 36 = .ok (.ldc 39, 2) := by decide +kernel
theorem dNC_38 : decode jdk_68_method_10_code 38 = .ok (.if_icmp .ne 13, 3) := by decide +kernel
theorem dNC_51 : decode jdk_68_method_10_code 51 = .ok (.iload 5, 2) := by decide +kernel
theorem dNC_53 : decode jdk_68_method_10_code 53 = .ok (.aload_n 0, 1) := by decide +kernel
theorem dNC_54 : decode jdk_68_method_10_code 54 = .ok (.getfield 22, 3) := by decide +kernel
theorem dNC_57 : decode jdk_68_method_10_code 57 = .ok (.ishr, 1) := by decide +kernel
theorem dNC_58 : decode jdk_68_method_10_code 58 = .ok (.ireturn, 1) := by decide +kernel
theorem pn_NC : plainFor (⟨"java/lang/AbstractStringBuilder", "newCapacity", "(I)I"⟩ : MethodName) = true := by first | exact plainFor_of_name (by first | (simp [plainName, overriddenIn]; done) | decide +kernel) | decide +kernel
set_option maxRecDepth 65536 in
set_option maxHeartbeats 40000000 in
theorem rmNC (l : Launch) (Z : State) (a0 : Array Value) (hw : ∀ d ∈ tables_1, d.before a0 Z = true) (a t : Addr) (kt : ClassId) (k N : Nat) (vs : List Value) (M : Nat) (h0 : Heap) (n0 : Nat) (Z0 : n0 ≤ h0.size) (EX : Exa Z h0 a "java/lang/StringBuilder") (FV : Fld Z h0 a "java/lang/AbstractStringBuilder" "value" "[B" (.ref t)) (FC : Fld Z h0 a "java/lang/AbstractStringBuilder" "coder" "B" (.int (0 : Int32))) (FN : Fld Z h0 a "java/lang/AbstractStringBuilder" "count" "I" (.int (Int32.ofNat k))) (AT : Arv Z h0 t kt .byte (Int32.ofNat N) vs (.int (0 : Int32))) (ET : Exa Z h0 t "[B") (hMN : N < M) (hM : M ≤ 30) :
    NM l (⟨"java/lang/AbstractStringBuilder", "newCapacity", "(I)I"⟩ : MethodName) jdk_68_method_10_code 6 (some .int) [] ({ frames := 2, cells := 0, slots := 0, locals := 34 } : Room) Z n0 #[(.ref a), (.int (Int32.ofNat M))] h0 [] (Pu (some (.int (Int32.ofNat (N + max (M - N) (N + 2))))) h0) := by
  refine NM.walk (Ls := #[.val (.ref a), .val (.int (Int32.ofNat M)), .unset, .unset, .unset, .unset]) pn_NC Z0 (fun m => by first | (simp [entryFrame, mkF, argsToLocals, Value.category]; done) | rfl) ?_
  intro p e s m below meth c s₁ hby hml hret hnm W0
  refine W0.aloadN (hb hby dNC_0) rfl rfl (pc' := 1) rfl ?_
  refine W0.getF (host := "") (Or.inl (hw _ (List.mem_of_getElem? (i := 44) rfl))) Via.refl FV (hb hby dNC_1) (pc' := 4) rfl ?_
  intro T1 W1
  refine W1.arraylength AT (hb hby dNC_4) (pc' := 5) rfl ?_
  refine W1.istoreN (Ls' := #[.val (.ref a), .val (.int (Int32.ofNat M)), .val (.int (Int32.ofNat N)), .unset, .unset, .unset]) (hb hby dNC_5) rfl (pc' := 6) rfl ?_
  refine W1.iloadN (hb hby dNC_6) rfl (pc' := 7) rfl ?_
  refine W1.aloadN (hb hby dNC_7) rfl rfl (pc' := 8) rfl ?_
  refine W1.getF (host := "") (Or.inl (hw _ (List.mem_of_getElem? (i := 46) rfl))) Via.refl FC (hb hby dNC_8) (pc' := 11) rfl ?_
  intro T2 W2
  refine W2.ishl (hb hby dNC_11) (pc' := 12) rfl ?_
  rw [shl0]
  refine W2.istoreN (Ls' := #[.val (.ref a), .val (.int (Int32.ofNat M)), .val (.int (Int32.ofNat N)), .val (.int (Int32.ofNat M)), .unset, .unset]) (hb hby dNC_12) rfl (pc' := 13) rfl ?_
  refine W2.iloadN (hb hby dNC_13) rfl (pc' := 14) rfl ?_
  refine W2.iloadN (hb hby dNC_14) rfl (pc' := 15) rfl ?_
  refine W2.isub (hb hby dNC_15) (pc' := 16) rfl ?_
  rw [ofNat_sub (show N ≤ M by omega)]
  refine W2.istore (Ls' := #[.val (.ref a), .val (.int (Int32.ofNat M)), .val (.int (Int32.ofNat N)), .val (.int (Int32.ofNat M)), .val (.int (Int32.ofNat (M - N))), .unset]) (hb hby dNC_16) rfl (pc' := 18) rfl ?_
  refine W2.iloadN (hb hby dNC_18) rfl (pc' := 19) rfl ?_
  refine W2.iload (hb hby dNC_19) rfl (pc' := 21) rfl ?_
  refine W2.iloadN (hb hby dNC_21) rfl (pc' := 22) rfl ?_
  refine W2.iconst (2 : Int32) (hb hby dNC_22) rfl (pc' := 23) rfl ?_
  refine W2.aloadN (hb hby dNC_23) rfl rfl (pc' := 24) rfl ?_
  refine W2.getF (host := "") (Or.inl (hw _ (List.mem_of_getElem? (i := 46) rfl))) Via.refl FC (hb hby dNC_24) (pc' := 27) rfl ?_
  intro T3 W3
  refine W3.ishl (hb hby dNC_27) (pc' := 28) rfl ?_
  rw [show ((2 : Int32) <<< ((0 : Int32) &&& 31)) = Int32.ofNat 2 from rfl]
  refine W3.iadd (hb hby dNC_28) (pc' := 29) rfl ?_
  rw [ofNat_add]
  refine W3.callSP (hw _ (List.mem_of_getElem? (i := 218) rfl)) (hw _ (List.mem_of_getElem? (i := 219) rfl)) (hw _ (List.mem_of_getElem? (i := 220) rfl)) (hw _ (List.mem_of_getElem? (i := 221) rfl)) (by decide) (NM.bk (wd := 0) (rmNL l Z a0 hw N (M - N) (N + 2) h0 n0 W3.n0h (by omega) (by omega) (by omega) (by omega)) W3.2.2.2.1 (hw _ (List.mem_of_getElem? (i := 221) rfl)) (hw _ (List.mem_of_getElem? (i := 220) rfl)) (by decide) (by decide)) (hb hby dNC_29) (pc' := 32) rfl hml (argsL := [(.int (Int32.ofNat N)), (.int (Int32.ofNat (M - N))), (.int (Int32.ofNat (N + 2)))]) rfl (lenOf pd_9e707d42 rfl) rfl (Nat.le_of_ble_eq_true rfl) (by decide) (by decide) (fun _ _ _ q => pu_of q) ?_
  intro T4 L4 W4
  show Go p e below _ T4 (mkF m 32 #[.val (.ref a), .val (.int (Int32.ofNat M)), .val (.int (Int32.ofNat N)), .val (.int (Int32.ofNat M)), .val (.int (Int32.ofNat (M - N))), .unset] [(.int (Int32.ofNat (N + max (M - N) (N + 2))))])
  refine W4.istore (Ls' := #[.val (.ref a), .val (.int (Int32.ofNat M)), .val (.int (Int32.ofNat N)), .val (.int (Int32.ofNat M)), .val (.int (Int32.ofNat (M - N))), .val (.int (Int32.ofNat (N + max (M - N) (N + 2))))]) (hb hby dNC_32) rfl (pc' := 34) rfl ?_
  refine W4.iload (hb hby dNC_34) rfl (pc' := 36) rfl ?_
  refine W4.ldcI (hb hby dNC_36) (hw _ (List.mem_of_getElem? (i := 226) rfl)) (pc' := 38) rfl ?_
  refine W4.icmpYes (hb hby dNC_38) (XT.ii_ne_t (fun q => by have e := congrArg Int32.toInt q; rw [ofNat_toInt (by omega)] at e; have e2 : (2147483647 : Int32).toInt = 2147483647 := rfl; omega)) (by decide) (pc' := 51) (by decide) ?_
  refine W4.iload (hb hby dNC_51) rfl (pc' := 53) rfl ?_
  refine W4.aloadN (hb hby dNC_53) rfl rfl (pc' := 54) rfl ?_
  refine W4.getF (host := "") (Or.inl (hw _ (List.mem_of_getElem? (i := 46) rfl))) Via.refl FC (hb hby dNC_54) (pc' := 57) rfl ?_
  intro T5 W5
  refine W5.ishr (hb hby dNC_57) (pc' := 58) rfl ?_
  rw [StrChars.shr0]
  exact W5.retI hret (hb hby dNC_58) (by decide) (by decide) ⟨rfl, rfl⟩
theorem nat_eq {n k : Nat} (h : n < 2 ^ 31) (h' : k < 2 ^ 31) (q : Int32.ofNat n = Int32.ofNat k) : n = k := by
  have e := congrArg Int32.toInt q; rw [ofNat_toInt h, ofNat_toInt h'] at e; exact Int.ofNat.inj e
def minF (q r : Int32) : Int32 := (if r < q then r else q)
theorem dMN_0 : decode jdk_29_method_69_code 0 = .ok (.iload_n 0, 1) := by decide +kernel
theorem dMN_1 : decode jdk_29_method_69_code 1 = .ok (.iload_n 1, 1) := by decide +kernel
theorem dMN_2 : decode jdk_29_method_69_code 2 = .ok (.if_icmp .gt 7, 3) := by decide +kernel
theorem dMN_9 : decode jdk_29_method_69_code 9 = .ok (.iload_n 1, 1) := by decide +kernel
theorem dMN_10 : decode jdk_29_method_69_code 10 = .ok (.ireturn, 1) := by decide +kernel
theorem dMN_5 : decode jdk_29_method_69_code 5 = .ok (.iload_n 0, 1) := by decide +kernel
theorem dMN_6 : decode jdk_29_method_69_code 6 = .ok (.goto 4, 3) := by decide +kernel
set_option maxRecDepth 65536 in
set_option maxHeartbeats 40000000 in
theorem rmMN (l : Launch) (Z : State) (a0 : Array Value) (hw : ∀ d ∈ tables_1, d.before a0 Z = true) (q r : Int32) (h0 : Heap) (n0 : Nat) (Z0 : n0 ≤ h0.size)  :
    NM l (⟨"java/lang/Math", "min", "(II)I"⟩ : MethodName) jdk_29_method_69_code 2 (some .int) [] ({ frames := 0, cells := 0, slots := 0, locals := 0 } : Room) Z n0 #[(.int q), (.int r)] h0 [] (Pu (some (.int (minF q r))) h0) := by
  refine NM.walk (Ls := #[.val (.int q), .val (.int r)]) (Jvm.Free.JP.mathPlain rfl (by decide +kernel)) Z0 (fun m => by first | (simp [entryFrame, mkF, argsToLocals, Value.category]; done) | rfl) ?_
  intro p e s m below meth c s₁ hby hml hret hnm W0
  refine W0.iloadN (hb hby dMN_0) rfl (pc' := 1) rfl ?_
  refine W0.iloadN (hb hby dMN_1) rfl (pc' := 2) rfl ?_
  by_cases hc1 : r < q
  · refine W0.icmpYes (hb hby dMN_2) (XT.ii_gt_t hc1) (by decide) (pc' := 9) (by decide) ?_
    refine W0.iloadN (hb hby dMN_9) rfl (pc' := 10) rfl ?_
    exact W0.retI hret (hb hby dMN_10) (by decide) (by decide) ⟨congrArg (fun z => some (Value.int z)) (by rw [minF, if_pos hc1]), rfl⟩
  · refine W0.icmpNo (hb hby dMN_2) (XT.ii_gt_f hc1) (pc' := 5) rfl ?_
    refine W0.iloadN (hb hby dMN_5) rfl (pc' := 6) rfl ?_
    refine W0.goto (hb hby dMN_6) (by decide) (pc' := 10) (by decide) ?_
    exact W0.retI hret (hb hby dMN_10) (by decide) (by decide) ⟨congrArg (fun z => some (Value.int z)) (by rw [minF, if_neg hc1]), rfl⟩
theorem min_nat {a b : Nat} (ha : a < 2 ^ 31) (hb : b < 2 ^ 31) : minF (Int32.ofNat a) (Int32.ofNat b) = Int32.ofNat (min a b) := by
  rw [minF]
  by_cases q : Int32.ofNat b < Int32.ofNat a
  · rw [if_pos q]; rw [ofNat_lt hb ha] at q; congr 1; omega
  · rw [if_neg q]; rw [ofNat_lt hb ha] at q; congr 1; omega
theorem cp_at {vs : List Value} {dv : Value} {N c : Nat} (hc : N ≤ c) (i : Nat) (hi : i < N) : ((List.replicate c dv).take 0 ++ ((List.range N).map fun j => vs.getD (0 + j) dv) ++ (List.replicate c dv).drop (0 + N)).getD i dv = vs.getD i dv := by
  rw [List.take_zero, List.nil_append, List.getD_eq_getElem?_getD, List.getElem?_append_left (by simpa using hi), List.getElem?_map, List.getElem?_range hi]
  simp only [Option.map_some, Option.getD_some, Nat.zero_add]
theorem cp_len {vs : List Value} {dv : Value} {N c : Nat} (hc : N ≤ c) : ((List.replicate c dv).take 0 ++ ((List.range N).map fun j => vs.getD (0 + j) dv) ++ (List.replicate c dv).drop (0 + N)).length = c := by
  simp; omega
theorem dCP_0 : decode jdk_65_method_121_code 0 = .ok (.iload_n 1, 1) := by decide +kernel
theorem dCP_1 : decode jdk_65_method_121_code 1 = .ok (.aload_n 0, 1) := by decide +kernel
theorem dCP_2 : decode jdk_65_method_121_code 2 = .ok (.arraylength, 1) := by decide +kernel
theorem dCP_3 : decode jdk_65_method_121_code 3 = .ok (.if_icmp .ne 11, 3) := by decide +kernel
theorem dCP_14 : decode jdk_65_method_121_code 14 = .ok (.iload_n 1, 1) := by decide +kernel
theorem dCP_15 : decode jdk_65_method_121_code 15 = .ok (.newarray .byte, 2) := by decide +kernel
theorem dCP_17 : decode jdk_65_method_121_code 17 = .ok (.astore_n 2, 1) := by decide +kernel
theorem dCP_18 : decode jdk_65_method_121_code 18 = .ok (.aload_n 0, 1) := by decide +kernel
theorem dCP_19 : decode jdk_65_method_121_code 19 = .ok (.iconst 0, 1) := by decide +kernel
theorem dCP_20 : decode jdk_65_method_121_code 20 = .ok (.aload_n 2, 1) := by decide +kernel
theorem dCP_21 : decode jdk_65_method_121_code 21 = .ok (.iconst 0, 1) := by decide +kernel
theorem dCP_22 : decode jdk_65_method_121_code 22 = .ok (.aload_n 0, 1) := by decide +kernel
theorem dCP_23 : decode jdk_65_method_121_code 23 = .ok (.arraylength, 1) := by decide +kernel
theorem dCP_24 : decode jdk_65_method_121_code 24 = .ok (.iload_n 1, 1) := by decide +kernel
theorem dCP_25 : decode jdk_65_method_121_code 25 = .ok (.invokestatic 304, 3) := by decide +kernel
theorem dCP_28 : decode jdk_65_method_121_code 28 = .ok (.invokestatic 150, 3) := by decide +kernel
theorem dCP_31 : decode jdk_65_method_121_code 31 = .ok (.aload_n 2, 1) := by decide +kernel
theorem dCP_32 : decode jdk_65_method_121_code 32 = .ok (.areturn, 1) := by decide +kernel
theorem pn_CP : plainFor (⟨"java/util/Arrays", "copyOf", "([BI)[B"⟩ : MethodName) = true := by first | exact plainFor_of_name (by first | (simp [plainName, overriddenIn]; done) | decide +kernel) | decide +kernel
set_option maxRecDepth 65536 in
set_option maxHeartbeats 40000000 in
theorem rmCP (l : Launch) (Z : State) (a0 : Array Value) (hw : ∀ d ∈ tables_1, d.before a0 Z = true) (t : Addr) (kt : ClassId) (N M : Nat) (vs : List Value) (h0 : Heap) (n0 : Nat) (Z0 : n0 ≤ h0.size) (AT : Arv Z h0 t kt .byte (Int32.ofNat N) vs (.int (0 : Int32))) (hNM : N < M) (hM : M ≤ 64) :
    NM l (⟨"java/util/Arrays", "copyOf", "([BI)[B"⟩ : MethodName) jdk_65_method_121_code 3 (some (.array .byte)) [] ({ frames := 1, cells := 1, slots := 64, locals := 40 } : Room) Z n0 #[(.ref t), (.int (Int32.ofNat M))] h0 [] (fun v h => ∃ d kd vs', v = some (.ref d) ∧ h0.size ≤ d ∧ Exa Z h d "[B" ∧ Arv Z h d kd .byte (Int32.ofNat M) vs' (.int (0 : Int32)) ∧ M ≤ vs'.length ∧ ∀ i, i < N → vs'.getD i (.int (0 : Int32)) = vs.getD i (.int (0 : Int32))) := by
  refine NM.walk (Ls := #[.val (.ref t), .val (.int (Int32.ofNat M)), .unset]) pn_CP Z0 (fun m => by first | (simp [entryFrame, mkF, argsToLocals, Value.category]; done) | rfl) ?_
  intro p e s m below meth c s₁ hby hml hret hnm W0
  refine W0.iloadN (hb hby dCP_0) rfl (pc' := 1) rfl ?_
  refine W0.aloadN (hb hby dCP_1) rfl rfl (pc' := 2) rfl ?_
  refine W0.arraylength AT (hb hby dCP_2) (pc' := 3) rfl ?_
  refine W0.icmpYes (hb hby dCP_3) (XT.ii_ne_t (fun q => absurd (nat_eq (by omega) (by omega) q) (by omega))) (by decide) (pc' := 14) (by decide) ?_
  refine W0.iloadN (hb hby dCP_14) rfl (pc' := 15) rfl ?_
  refine W0.newPE (hw _ (List.mem_of_getElem? (i := 19) rfl)) (hb hby dCP_15) (pc' := 17) rfl (ofNat_nn (by omega)) (cap := 64) (by rw [clN (by omega)]; omega) (by decide) (by decide) (by decide) (ad := "[B") (by decide) ?_
  intro T2 h2 a2 k2 g2 ge2 gn2 W2 E2 V2' X2
  have V2 : Arv Z h2 a2 k2 .byte (Int32.ofNat M) (List.replicate 64 (.int (0 : Int32))) (.int (0 : Int32)) := V2'
  have z2 := E2.1
  have y2 := Nat.le_of_eq g2.symm
  refine W2.astoreN (Ls' := #[.val (.ref t), .val (.int (Int32.ofNat M)), .val (.ref a2)]) (hb hby dCP_17) rfl rfl (pc' := 18) rfl ?_
  refine W2.aloadN (hb hby dCP_18) rfl rfl (pc' := 19) rfl ?_
  refine W2.iconst (0 : Int32) (hb hby dCP_19) rfl (pc' := 20) rfl ?_
  refine W2.aloadN (hb hby dCP_20) rfl rfl (pc' := 21) rfl ?_
  refine W2.iconst (0 : Int32) (hb hby dCP_21) rfl (pc' := 22) rfl ?_
  refine W2.aloadN (hb hby dCP_22) rfl rfl (pc' := 23) rfl ?_
  have F3 := Arv.ext AT E2
  refine W2.arraylength F3 (hb hby dCP_23) (pc' := 24) rfl ?_
  refine W2.iloadN (hb hby dCP_24) rfl (pc' := 25) rfl ?_
  refine W2.callSP (hw _ (List.mem_of_getElem? (i := 156) rfl)) (hw _ (List.mem_of_getElem? (i := 157) rfl)) (hw _ (List.mem_of_getElem? (i := 158) rfl)) (hw _ (List.mem_of_getElem? (i := 159) rfl)) (by decide) (NM.bk (wd := 4) (rmMN l Z a0 hw (Int32.ofNat N) (Int32.ofNat M) h2 n0 W2.n0h ) W2.2.2.2.1 (hw _ (List.mem_of_getElem? (i := 159) rfl)) (hw _ (List.mem_of_getElem? (i := 158) rfl)) (by decide) (by decide)) (hb hby dCP_25) (pc' := 28) rfl hml (argsL := [(.int (Int32.ofNat N)), (.int (Int32.ofNat M))]) rfl (lenOf pd_d33b191e rfl) rfl (Nat.le_of_ble_eq_true rfl) (by decide) (by decide) (fun _ _ _ q => pu_of q) ?_
  intro T4 L4 W4
  show Go p e below _ T4 (mkF m 28 #[.val (.ref t), .val (.int (Int32.ofNat M)), .val (.ref a2)] [(.int (minF (Int32.ofNat N) (Int32.ofNat M))), (.int (0 : Int32)), (.ref a2), (.int (0 : Int32)), (.ref t)])
  rw [min_nat (by omega) (by omega), show min N M = N from by omega]
  refine W4.acopy (hw _ (List.mem_of_getElem? (i := 160) rfl)) (hw _ (List.mem_of_getElem? (i := 95) rfl)) (hw _ (List.mem_of_getElem? (i := 93) rfl)) (hw _ (List.mem_of_getElem? (i := 94) rfl)) F3 V2 rfl (by decide) (by decide) (ofNat_nn (by omega)) (by rw [clN (by omega)]; show 0 + _ ≤ _; omega) (by rw [clN (by omega), clN (by omega)]; show 0 + _ ≤ _; omega) (by rw [clN (by omega), List.length_replicate]; show 0 + _ ≤ _; omega) (hb hby dCP_28) (pc' := 31) rfl hml (Or.inr ge2) gn2 (by decide) (wd := 0) (Nat.le_of_ble_eq_true rfl) (by decide) ?_
  intro T5 h5 L5 W5 K5 V5
  have z5 := K5.1
  refine W5.aloadN (hb hby dCP_31) rfl rfl (pc' := 32) rfl ?_
  have F6 := (X2.keep K5)
  exact W5.retA hret rfl rfl (hb hby dCP_32) (by decide) (by decide) ⟨a2, k2, _, rfl, ge2, F6, V5, by rw [clN (by omega)]; exact Nat.le_trans hM (Nat.le_of_eq (cp_len (by omega)).symm), fun i hi => by rw [clN (by omega)]; exact cp_at (by omega) i hi⟩
theorem dEC0_0 : decode jdk_68_method_9_code 0 = .ok (.aload_n 0, 1) := by decide +kernel
theorem dEC0_1 : decode jdk_68_method_9_code 1 = .ok (.getfield 15, 3) := by decide +kernel
theorem dEC0_4 : decode jdk_68_method_9_code 4 = .ok (.arraylength, 1) := by decide +kernel
theorem dEC0_5 : decode jdk_68_method_9_code 5 = .ok (.aload_n 0, 1) := by decide +kernel
theorem dEC0_6 : decode jdk_68_method_9_code 6 = .ok (.getfield 22, 3) := by decide +kernel
theorem dEC0_9 : decode jdk_68_method_9_code 9 = .ok (.ishr, 1) := by decide +kernel
theorem dEC0_10 : decode jdk_68_method_9_code 10 = .ok (.istore_n 2, 1) := by decide +kernel
theorem dEC0_11 : decode jdk_68_method_9_code 11 = .ok (.iload_n 1, 1) := by decide +kernel
theorem dEC0_12 : decode jdk_68_method_9_code 12 = .ok (.iload_n 2, 1) := by decide +kernel
theorem dEC0_13 : decode jdk_68_method_9_code 13 = .ok (.isub, 1) := by decide +kernel
theorem dEC0_14 : decode jdk_68_method_9_code 14 = .ok (.ifCond .le 24, 3) := by decide +kernel
theorem dEC0_38 : decode jdk_68_method_9_code 38 = .ok (.return_, 1) := by decide +kernel
theorem pn_EC0 : plainFor (⟨"java/lang/AbstractStringBuilder", "ensureCapacityInternal", "(I)V"⟩ : MethodName) = true := by first | exact plainFor_of_name (by first | (simp [plainName, overriddenIn]; done) | decide +kernel) | decide +kernel
set_option maxRecDepth 65536 in
set_option maxHeartbeats 40000000 in
theorem rmEC0 (l : Launch) (Z : State) (a0 : Array Value) (hw : ∀ d ∈ tables_1, d.before a0 Z = true) (a t : Addr) (kt : ClassId) (k N : Nat) (vs : List Value) (M : Nat) (h0 : Heap) (n0 : Nat) (Z0 : n0 ≤ h0.size) (EX : Exa Z h0 a "java/lang/StringBuilder") (FV : Fld Z h0 a "java/lang/AbstractStringBuilder" "value" "[B" (.ref t)) (FC : Fld Z h0 a "java/lang/AbstractStringBuilder" "coder" "B" (.int (0 : Int32))) (FN : Fld Z h0 a "java/lang/AbstractStringBuilder" "count" "I" (.int (Int32.ofNat k))) (AT : Arv Z h0 t kt .byte (Int32.ofNat N) vs (.int (0 : Int32))) (ET : Exa Z h0 t "[B") (hMN : M ≤ N) (hN : N ≤ 62) :
    NM l (⟨"java/lang/AbstractStringBuilder", "ensureCapacityInternal", "(I)V"⟩ : MethodName) jdk_68_method_9_code 3 none [] ({ frames := 0, cells := 0, slots := 0, locals := 0 } : Room) Z n0 #[(.ref a), (.int (Int32.ofNat M))] h0 [] (Pu none h0) := by
  refine NM.walk (Ls := #[.val (.ref a), .val (.int (Int32.ofNat M)), .unset]) pn_EC0 Z0 (fun m => by first | (simp [entryFrame, mkF, argsToLocals, Value.category]; done) | rfl) ?_
  intro p e s m below meth c s₁ hby hml hret hnm W0
  refine W0.aloadN (hb hby dEC0_0) rfl rfl (pc' := 1) rfl ?_
  refine W0.getF (host := "") (Or.inl (hw _ (List.mem_of_getElem? (i := 44) rfl))) Via.refl FV (hb hby dEC0_1) (pc' := 4) rfl ?_
  intro T1 W1
  refine W1.arraylength AT (hb hby dEC0_4) (pc' := 5) rfl ?_
  refine W1.aloadN (hb hby dEC0_5) rfl rfl (pc' := 6) rfl ?_
  refine W1.getF (host := "") (Or.inl (hw _ (List.mem_of_getElem? (i := 46) rfl))) Via.refl FC (hb hby dEC0_6) (pc' := 9) rfl ?_
  intro T2 W2
  refine W2.ishr (hb hby dEC0_9) (pc' := 10) rfl ?_
  rw [StrChars.shr0]
  refine W2.istoreN (Ls' := #[.val (.ref a), .val (.int (Int32.ofNat M)), .val (.int (Int32.ofNat N))]) (hb hby dEC0_10) rfl (pc' := 11) rfl ?_
  refine W2.iloadN (hb hby dEC0_11) rfl (pc' := 12) rfl ?_
  refine W2.iloadN (hb hby dEC0_12) rfl (pc' := 13) rfl ?_
  refine W2.isub (hb hby dEC0_13) (pc' := 14) rfl ?_
  refine W2.ifYes (hb hby dEC0_14) (XT.i0_le_t (by rw [sub_pos (by omega) (by omega)]; omega)) (by decide) (pc' := 38) (by decide) ?_
  exact W2.retV hret (hb hby dEC0_38) (by decide) (by decide) ⟨rfl, rfl⟩
theorem dEC1_0 : decode jdk_68_method_9_code 0 = .ok (.aload_n 0, 1) := by decide +kernel
theorem dEC1_1 : decode jdk_68_method_9_code 1 = .ok (.getfield 15, 3) := by decide +kernel
theorem dEC1_4 : decode jdk_68_method_9_code 4 = .ok (.arraylength, 1) := by decide +kernel
theorem dEC1_5 : decode jdk_68_method_9_code 5 = .ok (.aload_n 0, 1) := by decide +kernel
theorem dEC1_6 : decode jdk_68_method_9_code 6 = .ok (.getfield 22, 3) := by decide +kernel
theorem dEC1_9 : decode jdk_68_method_9_code 9 = .ok (.ishr, 1) := by decide +kernel
theorem dEC1_10 : decode jdk_68_method_9_code 10 = .ok (.istore_n 2, 1) := by decide +kernel
theorem dEC1_11 : decode jdk_68_method_9_code 11 = .ok (.iload_n 1, 1) := by decide +kernel
theorem dEC1_12 : decode jdk_68_method_9_code 12 = .ok (.iload_n 2, 1) := by decide +kernel
theorem dEC1_13 : decode jdk_68_method_9_code 13 = .ok (.isub, 1) := by decide +kernel
theorem dEC1_14 : decode jdk_68_method_9_code 14 = .ok (.ifCond .le 24, 3) := by decide +kernel
theorem dEC1_17 : decode jdk_68_method_9_code 17 = .ok (.aload_n 0, 1) := by decide +kernel
theorem dEC1_18 : decode jdk_68_method_9_code 18 = .ok (.aload_n 0, 1) := by decide +kernel
theorem dEC1_19 : decode jdk_68_method_9_code 19 = .ok (.getfield 15, 3) := by decide +kernel
theorem dEC1_22 : decode jdk_68_method_9_code 22 = .ok (.aload_n 0, 1) := by decide +kernel
theorem dEC1_23 : decode jdk_68_method_9_code 23 = .ok (.iload_n 1, 1) := by decide +kernel
theorem dEC1_24 : decode jdk_68_method_9_code 24 = .ok (.invokevirtual 104, 3) := by decide +kernel
theorem pd_89c469b3 : parseMethodDescriptor "(I)I" = some ⟨[.int], some .int⟩ := by decide +kernel
theorem dEC1_27 : decode jdk_68_method_9_code 27 = .ok (.aload_n 0, 1) := by decide +kernel
theorem dEC1_28 : decode jdk_68_method_9_code 28 = .ok (.getfield 22, 3) := by decide +kernel
theorem dEC1_31 : decode jdk_68_method_9_code 31 = .ok (.ishl, 1) := by decide +kernel
theorem dEC1_32 : decode jdk_68_method_9_code 32 = .ok (.invokestatic 108, 3) := by decide +kernel
theorem pd_d22a5758 : parseMethodDescriptor "([BI)[B" = some ⟨[(.array .byte), .int], some (.array .byte)⟩ := by decide +kernel
theorem dEC1_35 : decode jdk_68_method_9_code 35 = .ok (.putfield 15, 3) := by decide +kernel
theorem dEC1_38 : decode jdk_68_method_9_code 38 = .ok (.return_, 1) := by decide +kernel
theorem pn_EC1 : plainFor (⟨"java/lang/AbstractStringBuilder", "ensureCapacityInternal", "(I)V"⟩ : MethodName) = true := by first | exact plainFor_of_name (by first | (simp [plainName, overriddenIn]; done) | decide +kernel) | decide +kernel
set_option maxRecDepth 65536 in
set_option maxHeartbeats 40000000 in
theorem rmEC1 (l : Launch) (Z : State) (a0 : Array Value) (hw : ∀ d ∈ tables_1, d.before a0 Z = true) (a t : Addr) (kt : ClassId) (k N : Nat) (vs : List Value) (M : Nat) (h0 : Heap) (n0 : Nat) (Z0 : n0 ≤ h0.size) (ga : n0 ≤ a) (EX : Exa Z h0 a "java/lang/StringBuilder") (FV : Fld Z h0 a "java/lang/AbstractStringBuilder" "value" "[B" (.ref t)) (FC : Fld Z h0 a "java/lang/AbstractStringBuilder" "coder" "B" (.int (0 : Int32))) (FN : Fld Z h0 a "java/lang/AbstractStringBuilder" "count" "I" (.int (Int32.ofNat k))) (AT : Arv Z h0 t kt .byte (Int32.ofNat N) vs (.int (0 : Int32))) (ET : Exa Z h0 t "[B") (hMN : N < M) (hM : M ≤ 30) :
    NM l (⟨"java/lang/AbstractStringBuilder", "ensureCapacityInternal", "(I)V"⟩ : MethodName) jdk_68_method_9_code 3 none [] ({ frames := 3, cells := 1, slots := 64, locals := 60 } : Room) Z n0 #[(.ref a), (.int (Int32.ofNat M))] h0 [a] (fun v h => ∃ d kd vs', v = none ∧ Exa Z h a "java/lang/StringBuilder" ∧ Exa Z h d "[B" ∧ Fld Z h a "java/lang/AbstractStringBuilder" "value" "[B" (.ref d) ∧ Fld Z h a "java/lang/AbstractStringBuilder" "coder" "B" (.int (0 : Int32)) ∧ Fld Z h a "java/lang/AbstractStringBuilder" "count" "I" (.int (Int32.ofNat k)) ∧ h0.size ≤ d ∧ Arv Z h d kd .byte (Int32.ofNat (N + max (M - N) (N + 2))) vs' (.int (0 : Int32)) ∧ (N + max (M - N) (N + 2)) ≤ vs'.length ∧ ∀ i, i < N → vs'.getD i (.int (0 : Int32)) = vs.getD i (.int (0 : Int32))) := by
  refine NM.walk (Ls := #[.val (.ref a), .val (.int (Int32.ofNat M)), .unset]) pn_EC1 Z0 (fun m => by first | (simp [entryFrame, mkF, argsToLocals, Value.category]; done) | rfl) ?_
  intro p e s m below meth c s₁ hby hml hret hnm W0
  refine W0.aloadN (hb hby dEC1_0) rfl rfl (pc' := 1) rfl ?_
  refine W0.getF (host := "") (Or.inl (hw _ (List.mem_of_getElem? (i := 44) rfl))) Via.refl FV (hb hby dEC1_1) (pc' := 4) rfl ?_
  intro T1 W1
  refine W1.arraylength AT (hb hby dEC1_4) (pc' := 5) rfl ?_
  refine W1.aloadN (hb hby dEC1_5) rfl rfl (pc' := 6) rfl ?_
  refine W1.getF (host := "") (Or.inl (hw _ (List.mem_of_getElem? (i := 46) rfl))) Via.refl FC (hb hby dEC1_6) (pc' := 9) rfl ?_
  intro T2 W2
  refine W2.ishr (hb hby dEC1_9) (pc' := 10) rfl ?_
  rw [StrChars.shr0]
  refine W2.istoreN (Ls' := #[.val (.ref a), .val (.int (Int32.ofNat M)), .val (.int (Int32.ofNat N))]) (hb hby dEC1_10) rfl (pc' := 11) rfl ?_
  refine W2.iloadN (hb hby dEC1_11) rfl (pc' := 12) rfl ?_
  refine W2.iloadN (hb hby dEC1_12) rfl (pc' := 13) rfl ?_
  refine W2.isub (hb hby dEC1_13) (pc' := 14) rfl ?_
  refine W2.ifNo (hb hby dEC1_14) (XT.i0_le_f ((sub_pos (by omega) (by omega)).mpr (by omega))) (pc' := 17) rfl ?_
  refine W2.aloadN (hb hby dEC1_17) rfl rfl (pc' := 18) rfl ?_
  refine W2.aloadN (hb hby dEC1_18) rfl rfl (pc' := 19) rfl ?_
  refine W2.getF (host := "") (Or.inl (hw _ (List.mem_of_getElem? (i := 44) rfl))) Via.refl FV (hb hby dEC1_19) (pc' := 22) rfl ?_
  intro T3 W3
  refine W3.aloadN (hb hby dEC1_22) rfl rfl (pc' := 23) rfl ?_
  refine W3.iloadN (hb hby dEC1_23) rfl (pc' := 24) rfl ?_
  refine W3.callX (y := (⟨"java/lang/AbstractStringBuilder", "newCapacity", "(I)I"⟩ : MethodName)) (hw _ (List.mem_of_getElem? (i := 213) rfl)) (hw _ (List.mem_of_getElem? (i := 214) rfl)) (hw _ (List.mem_of_getElem? (i := 215) rfl)) (hw _ (List.mem_of_getElem? (i := 216) rfl)) (hw _ (List.mem_of_getElem? (i := 217) rfl)) (by decide) (NM.bk (wd := 2) (rmNC l Z a0 hw a t kt k N vs M h0 n0 W3.n0h EX FV FC FN AT ET hMN hM) W3.2.2.2.1 (hw _ (List.mem_of_getElem? (i := 217) rfl)) (hw _ (List.mem_of_getElem? (i := 40) rfl)) (by decide) (by decide)) EX (hb hby dEC1_24) (pc' := 27) rfl hml (argsL := [(.int (Int32.ofNat M))]) rfl (lenOf pd_89c469b3 rfl) rfl (Nat.le_of_ble_eq_true rfl) (by decide) (by decide) (ws' := []) (fun _ _ _ q => ⟨q.2.2, q.2.1⟩) all0 ?_
  intro v4 T4 h4 L4' L4 W4 Q4 K4
  have z4 := K4.1
  obtain ⟨⟨rfl, -⟩, -, -⟩ := Q4
  show Go p e below _ T4 (mkF m 27 #[.val (.ref a), .val (.int (Int32.ofNat M)), .val (.int (Int32.ofNat N))] [(.int (Int32.ofNat (N + max (M - N) (N + 2)))), (.ref t), (.ref a)])
  refine W4.aloadN (hb hby dEC1_27) rfl rfl (pc' := 28) rfl ?_
  have F6 := Fld.ext (Keep.toExt K4) FC
  refine W4.getF (host := "") (Or.inl (hw _ (List.mem_of_getElem? (i := 46) rfl))) Via.refl F6 (hb hby dEC1_28) (pc' := 31) rfl ?_
  intro T5 W5
  refine W5.ishl (hb hby dEC1_31) (pc' := 32) rfl ?_
  rw [shl0]
  have F8 := Arv.ext AT (Keep.toExt K4)
  refine W5.callS (hw _ (List.mem_of_getElem? (i := 227) rfl)) (hw _ (List.mem_of_getElem? (i := 228) rfl)) (hw _ (List.mem_of_getElem? (i := 148) rfl)) (hw _ (List.mem_of_getElem? (i := 229) rfl)) (by decide) (NM.bk (wd := 1) (rmCP l Z a0 hw t kt N (N + max (M - N) (N + 2)) vs h4 n0 W5.n0h F8 (by omega) (by omega)) W5.2.2.2.1 (hw _ (List.mem_of_getElem? (i := 229) rfl)) (hw _ (List.mem_of_getElem? (i := 148) rfl)) (by decide) (by decide)) (hb hby dEC1_32) (pc' := 35) rfl hml (argsL := [(.ref t), (.int (Int32.ofNat (N + max (M - N) (N + 2))))]) rfl (lenOf pd_d22a5758 rfl) rfl (Nat.le_of_ble_eq_true rfl) (by decide) (by decide) (ws' := []) (fun _ _ _ q => ⟨q.2.2, q.2.1⟩) all0 ?_
  intro v7 T7 h7 L7' L7 W7 Q7 K7
  have z7 := K7.1
  obtain ⟨⟨d7, kd7, ws7, rfl, ge7, X7, V7, len7, same7⟩, -, -⟩ := Q7
  show Go p e below _ T7 (mkF m 35 #[.val (.ref a), .val (.int (Int32.ofNat M)), .val (.int (Int32.ofNat N))] [(.ref d7), (.ref a)])
  have X0_2_10 : Ext h0 h7 := Keep.toExt (((Keep.refl h0 []).trans K4 all0).trans K7 all0)
  have zX0_2_10 := X0_2_10.1
  have F11 := Fld.ext X0_2_10 FV
  have F12 := Exa.ext X0_2_10 EX
  have F13 := Fld.ext X0_2_10 FC
  have F14 := Fld.ext X0_2_10 FN
  refine W7.putF (host := "") (Or.inl (hw _ (List.mem_of_getElem? (i := 44) rfl))) Via.refl F11 F12 (Or.inl (hw _ (List.mem_of_getElem? (i := 45) rfl))) (hw _ (List.mem_of_getElem? (i := 31) rfl)) (ty := (.array .byte)) (by decide) rfl rfl (hb hby dEC1_35) (pc' := 38) rfl (Or.inl (List.mem_of_getElem? (i := 0) rfl)) ga ?_
  intro T9 h9 L9 W9 Q9
  have K9 := Keep.of_wr Q9
  have z9 := K9.1
  have A9 := Exa.wr Q9 F12
  have B9 := Fld.same Q9 F11
  have B9_coder := Fld.other Q9 F13 (Or.inr (slot_ne (Or.inl (hw _ (List.mem_of_getElem? (i := 47) rfl))) (Or.inl (hw _ (List.mem_of_getElem? (i := 45) rfl))) (by decide) (t := .byte) (t' := (.array .byte)) (by decide) (by decide)))
  have B9_count := Fld.other Q9 F14 (Or.inr (slot_ne (Or.inl (hw _ (List.mem_of_getElem? (i := 70) rfl))) (Or.inl (hw _ (List.mem_of_getElem? (i := 45) rfl))) (by decide) (t := .int) (t' := (.array .byte)) (by decide) (by decide)))
  have F15 := (X7.keep K9)
  have F16 := (V7.keep K9 (ninS (Ne.symm (Exa.neArv F12 V7 (hw _ (List.mem_of_getElem? (i := 31) rfl)))) nin0))
  exact W9.retV hret (hb hby dEC1_38) (by decide) (by decide) ⟨d7, kd7, ws7, rfl, A9, F15, B9, B9_coder, B9_count, by omega, F16, len7, same7⟩
--CUT app
theorem dCO_0 : decode jdk_42_method_152_code 0 = .ok (.getstatic 38, 3) := by decide +kernel
theorem dCO_3 : decode jdk_42_method_152_code 3 = .ok (.ifCond .eq 10, 3) := by decide +kernel
theorem dCO_6 : decode jdk_42_method_152_code 6 = .ok (.aload_n 0, 1) := by decide +kernel
theorem dCO_7 : decode jdk_42_method_152_code 7 = .ok (.getfield 15, 3) := by decide +kernel
theorem dCO_10 : decode jdk_42_method_152_code 10 = .ok (.goto 4, 3) := by decide +kernel
theorem dCO_14 : decode jdk_42_method_152_code 14 = .ok (.ireturn, 1) := by decide +kernel
theorem pn_CO : plainFor (⟨"java/lang/String", "coder", "()B"⟩ : MethodName) = true := by first | exact plainFor_of_name (by first | (simp [plainName, overriddenIn]; done) | decide +kernel) | decide +kernel
set_option maxRecDepth 65536 in
set_option maxHeartbeats 40000000 in
theorem rmCO (l : Launch) (Z : State) (a0 : Array Value) (hw : ∀ d ∈ tables_1, d.before a0 Z = true) (a : Addr) (zc : Int32) (h0 : Heap) (n0 : Nat) (Z0 : n0 ≤ h0.size) (FC : Fld Z h0 a "java/lang/String" "coder" "B" (.int (0 : Int32)))  (SC : Sta Z h0 "java/lang/String" "COMPACT_STRINGS" "Z" (.int zc)) (hz : ¬ zc = 0) :
    NM l (⟨"java/lang/String", "coder", "()B"⟩ : MethodName) jdk_42_method_152_code 1 (some .byte) [] ({ frames := 0, cells := 0, slots := 0, locals := 0 } : Room) Z n0 #[(.ref a)] h0 [] (Pu (some (.int (0 : Int32))) h0) := by
  refine NM.walk (Ls := #[.val (.ref a)]) pn_CO Z0 (fun m => by first | (simp [entryFrame, mkF, argsToLocals, Value.category]; done) | rfl) ?_
  intro p e s m below meth c s₁ hby hml hret hnm W0
  refine W0.getS (host := "") (Or.inl (hw _ (List.mem_of_getElem? (i := 68) rfl))) Via.refl SC (hb hby dCO_0) (pc' := 3) rfl ?_
  intro T1 W1
  refine W1.ifNo (hb hby dCO_3) (XT.i0_eq_f hz) (pc' := 6) rfl ?_
  refine W1.aloadN (hb hby dCO_6) rfl rfl (pc' := 7) rfl ?_
  refine W1.getF (host := "") (Or.inl (hw _ (List.mem_of_getElem? (i := 25) rfl))) Via.refl FC (hb hby dCO_7) (pc' := 10) rfl ?_
  intro T2 W2
  refine W2.goto (hb hby dCO_10) (by decide) (pc' := 14) (by decide) ?_
  exact W2.retB hret (hb hby dCO_14) rfl (by decide) (by decide) ⟨rfl, rfl⟩
theorem dIF_0 : decode jdk_68_method_71_code 0 = .ok (.getstatic 18, 3) := by decide +kernel
theorem dIF_3 : decode jdk_68_method_71_code 3 = .ok (.ifCond .eq 18, 3) := by decide +kernel
theorem dIF_6 : decode jdk_68_method_71_code 6 = .ok (.aload_n 0, 1) := by decide +kernel
theorem dIF_7 : decode jdk_68_method_71_code 7 = .ok (.getfield 22, 3) := by decide +kernel
theorem dIF_10 : decode jdk_68_method_71_code 10 = .ok (.aload_n 1, 1) := by decide +kernel
theorem dIF_11 : decode jdk_68_method_71_code 11 = .ok (.invokevirtual 40, 3) := by decide +kernel
theorem pd_ef5c102f : parseMethodDescriptor "()B" = some ⟨[], some .byte⟩ := by decide +kernel
theorem dIF_14 : decode jdk_68_method_71_code 14 = .ok (.if_icmp .eq 7, 3) := by decide +kernel
theorem dIF_21 : decode jdk_68_method_71_code 21 = .ok (.return_, 1) := by decide +kernel
theorem pn_IF : plainFor (⟨"java/lang/AbstractStringBuilder", "inflateIfNeededFor", "(Ljava/lang/String;)V"⟩ : MethodName) = true := by first | exact plainFor_of_name (by first | (simp [plainName, overriddenIn]; done) | decide +kernel) | decide +kernel
set_option maxRecDepth 65536 in
set_option maxHeartbeats 40000000 in
theorem rmIF (l : Launch) (Z : State) (a0 : Array Value) (hw : ∀ d ∈ tables_1, d.before a0 Z = true) (a t : Addr) (kt : ClassId) (k N : Nat) (vs : List Value) (s1 d1 : Addr) (k1 : ClassId) (ds : List Int32) (zc : Int32) (h0 : Heap) (n0 : Nat) (Z0 : n0 ≤ h0.size) (EX : Exa Z h0 a "java/lang/StringBuilder") (FV : Fld Z h0 a "java/lang/AbstractStringBuilder" "value" "[B" (.ref t)) (FC : Fld Z h0 a "java/lang/AbstractStringBuilder" "coder" "B" (.int (0 : Int32))) (FN : Fld Z h0 a "java/lang/AbstractStringBuilder" "count" "I" (.int (Int32.ofNat k))) (AT : Arv Z h0 t kt .byte (Int32.ofNat N) vs (.int (0 : Int32))) (ET : Exa Z h0 t "[B") (EX2 : Exa Z h0 s1 "java/lang/String") (FC2 : Fld Z h0 s1 "java/lang/String" "coder" "B" (.int (0 : Int32))) (FV2 : Fld Z h0 s1 "java/lang/String" "value" "[B" (.ref d1)) (AD2 : Arv Z h0 d1 k1 .byte (Int32.ofNat ds.length) (lob ds) (.int (0 : Int32))) (SC : Sta Z h0 "java/lang/String" "COMPACT_STRINGS" "Z" (.int zc)) (hz : ¬ zc = 0) :
    NM l (⟨"java/lang/AbstractStringBuilder", "inflateIfNeededFor", "(Ljava/lang/String;)V"⟩ : MethodName) jdk_68_method_71_code 2 none [] ({ frames := 1, cells := 0, slots := 0, locals := 13 } : Room) Z n0 #[(.ref a), (.ref s1)] h0 [] (Pu none h0) := by
  refine NM.walk (Ls := #[.val (.ref a), .val (.ref s1)]) pn_IF Z0 (fun m => by first | (simp [entryFrame, mkF, argsToLocals, Value.category]; done) | rfl) ?_
  intro p e s m below meth c s₁ hby hml hret hnm W0
  refine W0.getS (host := "") (Or.inl (hw _ (List.mem_of_getElem? (i := 43) rfl))) Via.refl SC (hb hby dIF_0) (pc' := 3) rfl ?_
  intro T1 W1
  refine W1.ifNo (hb hby dIF_3) (XT.i0_eq_f hz) (pc' := 6) rfl ?_
  refine W1.aloadN (hb hby dIF_6) rfl rfl (pc' := 7) rfl ?_
  refine W1.getF (host := "") (Or.inl (hw _ (List.mem_of_getElem? (i := 46) rfl))) Via.refl FC (hb hby dIF_7) (pc' := 10) rfl ?_
  intro T2 W2
  refine W2.aloadN (hb hby dIF_10) rfl rfl (pc' := 11) rfl ?_
  refine W2.callVP (y := (⟨"java/lang/String", "coder", "()B"⟩ : MethodName)) (z := (⟨"java/lang/String", "coder", "()B"⟩ : MethodName)) (hw _ (List.mem_of_getElem? (i := 86) rfl)) (hw _ (List.mem_of_getElem? (i := 64) rfl)) (hw _ (List.mem_of_getElem? (i := 66) rfl)) (hw _ (List.mem_of_getElem? (i := 66) rfl)) (hw _ (List.mem_of_getElem? (i := 65) rfl)) (by decide) (NM.bk (wd := 1) (rmCO l Z a0 hw s1 zc h0 n0 W2.n0h FC2 SC hz) W2.2.2.2.1 (hw _ (List.mem_of_getElem? (i := 67) rfl)) (hw _ (List.mem_of_getElem? (i := 6) rfl)) (by decide) (by decide)) EX2 (hb hby dIF_11) (pc' := 14) rfl hml (argsL := []) rfl (lenOf pd_ef5c102f rfl) rfl (Nat.le_of_ble_eq_true rfl) (by decide) (by decide) (fun _ _ _ q => pu_of q) ?_
  intro T3 L3 W3
  show Go p e below _ T3 (mkF m 14 #[.val (.ref a), .val (.ref s1)] [(.int (0 : Int32)), (.int (0 : Int32))])
  refine W3.icmpYes (hb hby dIF_14) (XT.ii_eq_t (by decide)) (by decide) (pc' := 21) (by decide) ?_
  exact W3.retV hret (hb hby dIF_21) (by decide) (by decide) ⟨rfl, rfl⟩
theorem dGB_0 : decode jdk_42_method_147_code 0 = .ok (.aload_n 0, 1) := by decide +kernel
theorem dGB_1 : decode jdk_42_method_147_code 1 = .ok (.invokevirtual 335, 3) := by decide +kernel
theorem dGB_4 : decode jdk_42_method_147_code 4 = .ok (.iload_n 3, 1) := by decide +kernel
theorem dGB_5 : decode jdk_42_method_147_code 5 = .ok (.if_icmp .ne 23, 3) := by decide +kernel
theorem dGB_8 : decode jdk_42_method_147_code 8 = .ok (.aload_n 0, 1) := by decide +kernel
theorem dGB_9 : decode jdk_42_method_147_code 9 = .ok (.getfield 9, 3) := by decide +kernel
theorem dGB_12 : decode jdk_42_method_147_code 12 = .ok (.iconst 0, 1) := by decide +kernel
theorem dGB_13 : decode jdk_42_method_147_code 13 = .ok (.aload_n 1, 1) := by decide +kernel
theorem dGB_14 : decode jdk_42_method_147_code 14 = .ok (.iload_n 2, 1) := by decide +kernel
theorem dGB_15 : decode jdk_42_method_147_code 15 = .ok (.iload_n 3, 1) := by decide +kernel
theorem dGB_16 : decode jdk_42_method_147_code 16 = .ok (.ishl, 1) := by decide +kernel
theorem dGB_17 : decode jdk_42_method_147_code 17 = .ok (.aload_n 0, 1) := by decide +kernel
theorem dGB_18 : decode jdk_42_method_147_code 18 = .ok (.getfield 9, 3) := by decide +kernel
theorem dGB_21 : decode jdk_42_method_147_code 21 = .ok (.arraylength, 1) := by decide +kernel
theorem dGB_22 : decode jdk_42_method_147_code 22 = .ok (.invokestatic 212, 3) := by decide +kernel
theorem dGB_25 : decode jdk_42_method_147_code 25 = .ok (.goto 18, 3) := by decide +kernel
theorem dGB_43 : decode jdk_42_method_147_code 43 = .ok (.return_, 1) := by decide +kernel
theorem pn_GB : plainFor (⟨"java/lang/String", "getBytes", "([BIB)V"⟩ : MethodName) = true := by first | exact plainFor_of_name (by first | (simp [plainName, overriddenIn]; done) | decide +kernel) | decide +kernel
set_option maxRecDepth 65536 in
set_option maxHeartbeats 40000000 in
theorem rmGB (l : Launch) (Z : State) (a0 : Array Value) (hw : ∀ d ∈ tables_1, d.before a0 Z = true) (t : Addr) (kt : ClassId) (k N : Nat) (vs : List Value) (s1 d1 : Addr) (k1 : ClassId) (ds : List Int32) (zc : Int32) (h0 : Heap) (n0 : Nat) (Z0 : n0 ≤ h0.size) (gt : n0 ≤ t) (AT : Arv Z h0 t kt .byte (Int32.ofNat N) vs (.int (0 : Int32))) (EX2 : Exa Z h0 s1 "java/lang/String") (FC2 : Fld Z h0 s1 "java/lang/String" "coder" "B" (.int (0 : Int32))) (FV2 : Fld Z h0 s1 "java/lang/String" "value" "[B" (.ref d1)) (AD2 : Arv Z h0 d1 k1 .byte (Int32.ofNat ds.length) (lob ds) (.int (0 : Int32))) (hk : k + ds.length ≤ N) (hN : N ≤ 62) (hv : N ≤ vs.length) (SC : Sta Z h0 "java/lang/String" "COMPACT_STRINGS" "Z" (.int zc)) (hz : ¬ zc = 0) :
    NM l (⟨"java/lang/String", "getBytes", "([BIB)V"⟩ : MethodName) jdk_42_method_147_code 4 none [] ({ frames := 1, cells := 0, slots := 0, locals := 30 } : Room) Z n0 #[(.ref s1), (.ref t), (.int (Int32.ofNat k)), (.int (0 : Int32))] h0 [t] (fun v h => v = none ∧ Arv Z h t kt .byte (Int32.ofNat N) (vs.take k ++ ((List.range ds.length).map fun j => (lob ds).getD (0 + j) (.int (0 : Int32))) ++ vs.drop (k + ds.length)) (.int (0 : Int32))) := by
  refine NM.walk (Ls := #[.val (.ref s1), .val (.ref t), .val (.int (Int32.ofNat k)), .val (.int (0 : Int32))]) pn_GB Z0 (fun m => by first | (simp [entryFrame, mkF, argsToLocals, Value.category]; done) | rfl) ?_
  intro p e s m below meth c s₁ hby hml hret hnm W0
  refine W0.aloadN (hb hby dGB_0) rfl rfl (pc' := 1) rfl ?_
  refine W0.callVP (y := (⟨"java/lang/String", "coder", "()B"⟩ : MethodName)) (z := (⟨"java/lang/String", "coder", "()B"⟩ : MethodName)) (hw _ (List.mem_of_getElem? (i := 63) rfl)) (hw _ (List.mem_of_getElem? (i := 64) rfl)) (hw _ (List.mem_of_getElem? (i := 66) rfl)) (hw _ (List.mem_of_getElem? (i := 66) rfl)) (hw _ (List.mem_of_getElem? (i := 65) rfl)) (by decide) (NM.bk (wd := 0) (rmCO l Z a0 hw s1 zc h0 n0 W0.n0h FC2 SC hz) W0.2.2.2.1 (hw _ (List.mem_of_getElem? (i := 67) rfl)) (hw _ (List.mem_of_getElem? (i := 6) rfl)) (by decide) (by decide)) EX2 (hb hby dGB_1) (pc' := 4) rfl hml (argsL := []) rfl (lenOf pd_ef5c102f rfl) rfl (Nat.le_of_ble_eq_true rfl) (by decide) (by decide) (fun _ _ _ q => pu_of q) ?_
  intro T1 L1 W1
  show Go p e below _ T1 (mkF m 4 #[.val (.ref s1), .val (.ref t), .val (.int (Int32.ofNat k)), .val (.int (0 : Int32))] [(.int (0 : Int32))])
  refine W1.iloadN (hb hby dGB_4) rfl (pc' := 5) rfl ?_
  refine W1.icmpNo (hb hby dGB_5) (XT.ii_ne_f (by decide)) (pc' := 8) rfl ?_
  refine W1.aloadN (hb hby dGB_8) rfl rfl (pc' := 9) rfl ?_
  refine W1.getF (host := "") (Or.inl (hw _ (List.mem_of_getElem? (i := 24) rfl))) Via.refl FV2 (hb hby dGB_9) (pc' := 12) rfl ?_
  intro T2 W2
  refine W2.iconst (0 : Int32) (hb hby dGB_12) rfl (pc' := 13) rfl ?_
  refine W2.aloadN (hb hby dGB_13) rfl rfl (pc' := 14) rfl ?_
  refine W2.iloadN (hb hby dGB_14) rfl (pc' := 15) rfl ?_
  refine W2.iloadN (hb hby dGB_15) rfl (pc' := 16) rfl ?_
  refine W2.ishl (hb hby dGB_16) (pc' := 17) rfl ?_
  rw [shl0]
  refine W2.aloadN (hb hby dGB_17) rfl rfl (pc' := 18) rfl ?_
  refine W2.getF (host := "") (Or.inl (hw _ (List.mem_of_getElem? (i := 24) rfl))) Via.refl FV2 (hb hby dGB_18) (pc' := 21) rfl ?_
  intro T3 W3
  refine W3.arraylength AD2 (hb hby dGB_21) (pc' := 22) rfl ?_
  refine W3.acopy (hw _ (List.mem_of_getElem? (i := 92) rfl)) (hw _ (List.mem_of_getElem? (i := 95) rfl)) (hw _ (List.mem_of_getElem? (i := 93) rfl)) (hw _ (List.mem_of_getElem? (i := 94) rfl)) AD2 AT rfl (by decide) (ofNat_nn (by omega)) (ofNat_nn (by omega)) (by rw [clN (by omega)]; show 0 + _ ≤ _; omega) (by rw [clN (by omega), clN (by omega), clN (by omega)]; omega) (by rw [clN (by omega), clN (by omega)]; omega) (hb hby dGB_22) (pc' := 25) rfl hml (Or.inl (List.mem_of_getElem? (i := 0) rfl)) gt (by decide) (wd := 0) (Nat.le_of_ble_eq_true rfl) (by decide) ?_
  intro T4 h4 L4 W4 K4 V4
  have z4 := K4.1
  refine W4.goto (hb hby dGB_25) (by decide) (pc' := 43) (by decide) ?_
  exact W4.retV hret (hb hby dGB_43) (by decide) (by decide) ⟨rfl, by have q := V4; rw [clN (by omega), clN (by omega)] at q; exact q⟩
theorem dPS_0 : decode jdk_68_method_73_code 0 = .ok (.aload_n 0, 1) := by decide +kernel
theorem dPS_1 : decode jdk_68_method_73_code 1 = .ok (.aload_n 2, 1) := by decide +kernel
theorem dPS_2 : decode jdk_68_method_73_code 2 = .ok (.invokevirtual 397, 3) := by decide +kernel
theorem pd_ab706b0c : parseMethodDescriptor "(Ljava/lang/String;)V" = some ⟨[(.object "java/lang/String")], none⟩ := by decide +kernel
theorem dPS_5 : decode jdk_68_method_73_code 5 = .ok (.aload_n 2, 1) := by decide +kernel
theorem dPS_6 : decode jdk_68_method_73_code 6 = .ok (.aload_n 0, 1) := by decide +kernel
theorem dPS_7 : decode jdk_68_method_73_code 7 = .ok (.getfield 15, 3) := by decide +kernel
theorem dPS_10 : decode jdk_68_method_73_code 10 = .ok (.iload_n 1, 1) := by decide +kernel
theorem dPS_11 : decode jdk_68_method_73_code 11 = .ok (.aload_n 0, 1) := by decide +kernel
theorem dPS_12 : decode jdk_68_method_73_code 12 = .ok (.getfield 22, 3) := by decide +kernel
theorem dPS_15 : decode jdk_68_method_73_code 15 = .ok (.invokevirtual 399, 3) := by decide +kernel
theorem pd_b25073f8 : parseMethodDescriptor "([BIB)V" = some ⟨[(.array .byte), .int, .byte], none⟩ := by decide +kernel
theorem dPS_18 : decode jdk_68_method_73_code 18 = .ok (.return_, 1) := by decide +kernel
theorem pn_PS : plainFor (⟨"java/lang/AbstractStringBuilder", "putStringAt", "(ILjava/lang/String;)V"⟩ : MethodName) = true := by first | exact plainFor_of_name (by first | (simp [plainName, overriddenIn]; done) | decide +kernel) | decide +kernel
set_option maxRecDepth 65536 in
set_option maxHeartbeats 40000000 in
theorem rmPS (l : Launch) (Z : State) (a0 : Array Value) (hw : ∀ d ∈ tables_1, d.before a0 Z = true) (a t : Addr) (kt : ClassId) (k N : Nat) (vs : List Value) (s1 d1 : Addr) (k1 : ClassId) (ds : List Int32) (zc : Int32) (h0 : Heap) (n0 : Nat) (Z0 : n0 ≤ h0.size) (gt : n0 ≤ t) (EX : Exa Z h0 a "java/lang/StringBuilder") (FV : Fld Z h0 a "java/lang/AbstractStringBuilder" "value" "[B" (.ref t)) (FC : Fld Z h0 a "java/lang/AbstractStringBuilder" "coder" "B" (.int (0 : Int32))) (FN : Fld Z h0 a "java/lang/AbstractStringBuilder" "count" "I" (.int (Int32.ofNat k))) (AT : Arv Z h0 t kt .byte (Int32.ofNat N) vs (.int (0 : Int32))) (ET : Exa Z h0 t "[B") (EX2 : Exa Z h0 s1 "java/lang/String") (FC2 : Fld Z h0 s1 "java/lang/String" "coder" "B" (.int (0 : Int32))) (FV2 : Fld Z h0 s1 "java/lang/String" "value" "[B" (.ref d1)) (AD2 : Arv Z h0 d1 k1 .byte (Int32.ofNat ds.length) (lob ds) (.int (0 : Int32))) (hk : k + ds.length ≤ N) (hN : N ≤ 62) (hv : N ≤ vs.length) (SC : Sta Z h0 "java/lang/String" "COMPACT_STRINGS" "Z" (.int zc)) (hz : ¬ zc = 0) :
    NM l (⟨"java/lang/AbstractStringBuilder", "putStringAt", "(ILjava/lang/String;)V"⟩ : MethodName) jdk_68_method_73_code 3 none [] ({ frames := 2, cells := 0, slots := 0, locals := 50 } : Room) Z n0 #[(.ref a), (.int (Int32.ofNat k)), (.ref s1)] h0 [t] (fun v h => v = none ∧ Arv Z h t kt .byte (Int32.ofNat N) (vs.take k ++ ((List.range ds.length).map fun j => (lob ds).getD (0 + j) (.int (0 : Int32))) ++ vs.drop (k + ds.length)) (.int (0 : Int32))) := by
  refine NM.walk (Ls := #[.val (.ref a), .val (.int (Int32.ofNat k)), .val (.ref s1)]) pn_PS Z0 (fun m => by first | (simp [entryFrame, mkF, argsToLocals, Value.category]; done) | rfl) ?_
  intro p e s m below meth c s₁ hby hml hret hnm W0
  refine W0.aloadN (hb hby dPS_0) rfl rfl (pc' := 1) rfl ?_
  refine W0.aloadN (hb hby dPS_1) rfl rfl (pc' := 2) rfl ?_
  refine W0.callX (y := (⟨"java/lang/AbstractStringBuilder", "inflateIfNeededFor", "(Ljava/lang/String;)V"⟩ : MethodName)) (hw _ (List.mem_of_getElem? (i := 81) rfl)) (hw _ (List.mem_of_getElem? (i := 82) rfl)) (hw _ (List.mem_of_getElem? (i := 83) rfl)) (hw _ (List.mem_of_getElem? (i := 84) rfl)) (hw _ (List.mem_of_getElem? (i := 85) rfl)) (by decide) (NM.bk (wd := 0) (rmIF l Z a0 hw a t kt k N vs s1 d1 k1 ds zc h0 n0 W0.n0h EX FV FC FN AT ET EX2 FC2 FV2 AD2 SC hz) W0.2.2.2.1 (hw _ (List.mem_of_getElem? (i := 85) rfl)) (hw _ (List.mem_of_getElem? (i := 40) rfl)) (by decide) (by decide)) EX (hb hby dPS_2) (pc' := 5) rfl hml (argsL := [(.ref s1)]) rfl (lenOf pd_ab706b0c rfl) rfl (Nat.le_of_ble_eq_true rfl) (by decide) (by decide) (ws' := []) (fun _ _ _ q => ⟨q.2.2, q.2.1⟩) all0 ?_
  intro v1 T1 h1 L1' L1 W1 Q1 K1
  have z1 := K1.1
  obtain ⟨⟨rfl, -⟩, -, -⟩ := Q1
  show Go p e below _ T1 (mkF m 5 #[.val (.ref a), .val (.int (Int32.ofNat k)), .val (.ref s1)] [])
  refine W1.aloadN (hb hby dPS_5) rfl rfl (pc' := 6) rfl ?_
  refine W1.aloadN (hb hby dPS_6) rfl rfl (pc' := 7) rfl ?_
  have F3 := Fld.ext (Keep.toExt K1) FV
  refine W1.getF (host := "") (Or.inl (hw _ (List.mem_of_getElem? (i := 44) rfl))) Via.refl F3 (hb hby dPS_7) (pc' := 10) rfl ?_
  intro T2 W2
  refine W2.iloadN (hb hby dPS_10) rfl (pc' := 11) rfl ?_
  refine W2.aloadN (hb hby dPS_11) rfl rfl (pc' := 12) rfl ?_
  have F5 := Fld.ext (Keep.toExt K1) FC
  refine W2.getF (host := "") (Or.inl (hw _ (List.mem_of_getElem? (i := 46) rfl))) Via.refl F5 (hb hby dPS_12) (pc' := 15) rfl ?_
  intro T4 W4
  have F7 := Arv.ext AT (Keep.toExt K1)
  have F8 := Exa.ext (Keep.toExt K1) EX2
  have F9 := Fld.ext (Keep.toExt K1) FC2
  have F10 := Fld.ext (Keep.toExt K1) FV2
  have F11 := Arv.ext AD2 (Keep.toExt K1)
  have F12 := Sta.ext (Keep.toExt K1) SC
  refine W4.callV (y := (⟨"java/lang/String", "getBytes", "([BIB)V"⟩ : MethodName)) (z := (⟨"java/lang/String", "getBytes", "([BIB)V"⟩ : MethodName)) (hw _ (List.mem_of_getElem? (i := 87) rfl)) (hw _ (List.mem_of_getElem? (i := 88) rfl)) (hw _ (List.mem_of_getElem? (i := 90) rfl)) (hw _ (List.mem_of_getElem? (i := 90) rfl)) (hw _ (List.mem_of_getElem? (i := 89) rfl)) (by decide) (NM.bk (wd := 0) (rmGB l Z a0 hw t kt k N vs s1 d1 k1 ds zc h1 n0 W4.n0h gt F7 F8 F9 F10 F11 hk hN hv F12 hz) W4.2.2.2.1 (hw _ (List.mem_of_getElem? (i := 91) rfl)) (hw _ (List.mem_of_getElem? (i := 6) rfl)) (by decide) (by decide)) F8 (hb hby dPS_15) (pc' := 18) rfl hml (argsL := [(.ref t), (.int (Int32.ofNat k)), (.int (0 : Int32))]) rfl (lenOf pd_b25073f8 rfl) rfl (Nat.le_of_ble_eq_true rfl) (by decide) (by decide) (ws' := [t]) (fun _ _ _ q => ⟨q.2.2, q.2.1⟩) (allS (Or.inl (List.mem_of_getElem? (i := 0) rfl)) all0) ?_
  intro v6 T6 h6 L6' L6 W6 Q6 K6
  have z6 := K6.1
  obtain ⟨⟨rfl, V6⟩, -, -⟩ := Q6
  show Go p e below _ T6 (mkF m 18 #[.val (.ref a), .val (.int (Int32.ofNat k)), .val (.ref s1)] [])
  exact W6.retV hret (hb hby dPS_18) (by decide) (by decide) ⟨rfl, V6⟩
theorem dAP0_0 : decode jdk_68_method_22_code 0 = .ok (.aload_n 1, 1) := by decide +kernel
theorem dAP0_1 : decode jdk_68_method_22_code 1 = .ok (.ifnonnull 8, 3) := by decide +kernel
theorem dAP0_9 : decode jdk_68_method_22_code 9 = .ok (.aload_n 1, 1) := by decide +kernel
theorem dAP0_10 : decode jdk_68_method_22_code 10 = .ok (.invokevirtual 32, 3) := by decide +kernel
theorem pd_368a4b19 : parseMethodDescriptor "()I" = some ⟨[], some .int⟩ := by decide +kernel
theorem dAP0_13 : decode jdk_68_method_22_code 13 = .ok (.istore_n 2, 1) := by decide +kernel
theorem dAP0_14 : decode jdk_68_method_22_code 14 = .ok (.aload_n 0, 1) := by decide +kernel
theorem dAP0_15 : decode jdk_68_method_22_code 15 = .ok (.aload_n 0, 1) := by decide +kernel
theorem dAP0_16 : decode jdk_68_method_22_code 16 = .ok (.getfield 79, 3) := by decide +kernel
theorem dAP0_19 : decode jdk_68_method_22_code 19 = .ok (.iload_n 2, 1) := by decide +kernel
theorem dAP0_20 : decode jdk_68_method_22_code 20 = .ok (.iadd, 1) := by decide +kernel
theorem dAP0_21 : decode jdk_68_method_22_code 21 = .ok (.invokevirtual 100, 3) := by decide +kernel
theorem pd_c76b354f : parseMethodDescriptor "(I)V" = some ⟨[.int], none⟩ := by decide +kernel
theorem dAP0_24 : decode jdk_68_method_22_code 24 = .ok (.aload_n 0, 1) := by decide +kernel
theorem dAP0_25 : decode jdk_68_method_22_code 25 = .ok (.aload_n 0, 1) := by decide +kernel
theorem dAP0_26 : decode jdk_68_method_22_code 26 = .ok (.getfield 79, 3) := by decide +kernel
theorem dAP0_29 : decode jdk_68_method_22_code 29 = .ok (.aload_n 1, 1) := by decide +kernel
theorem dAP0_30 : decode jdk_68_method_22_code 30 = .ok (.invokevirtual 208, 3) := by decide +kernel
theorem pd_d2b67caf : parseMethodDescriptor "(ILjava/lang/String;)V" = some ⟨[.int, (.object "java/lang/String")], none⟩ := by decide +kernel
theorem dAP0_33 : decode jdk_68_method_22_code 33 = .ok (.aload_n 0, 1) := by decide +kernel
theorem dAP0_34 : decode jdk_68_method_22_code 34 = .ok (.dup, 1) := by decide +kernel
theorem dAP0_35 : decode jdk_68_method_22_code 35 = .ok (.getfield 79, 3) := by decide +kernel
theorem dAP0_38 : decode jdk_68_method_22_code 38 = .ok (.iload_n 2, 1) := by decide +kernel
theorem dAP0_39 : decode jdk_68_method_22_code 39 = .ok (.iadd, 1) := by decide +kernel
theorem dAP0_40 : decode jdk_68_method_22_code 40 = .ok (.putfield 79, 3) := by decide +kernel
theorem dAP0_43 : decode jdk_68_method_22_code 43 = .ok (.aload_n 0, 1) := by decide +kernel
theorem dAP0_44 : decode jdk_68_method_22_code 44 = .ok (.areturn, 1) := by decide +kernel
theorem pn_AP0 : plainFor (⟨"java/lang/AbstractStringBuilder", "append", "(Ljava/lang/String;)Ljava/lang/AbstractStringBuilder;"⟩ : MethodName) = true := by first | exact plainFor_of_name (by first | (simp [plainName, overriddenIn]; done) | decide +kernel) | decide +kernel
set_option maxRecDepth 65536 in
set_option maxHeartbeats 40000000 in
theorem rmAP0 (l : Launch) (Z : State) (a0 : Array Value) (hw : ∀ d ∈ tables_1, d.before a0 Z = true) (a t : Addr) (kt : ClassId) (k N : Nat) (vs : List Value) (s1 d1 : Addr) (k1 : ClassId) (ds : List Int32) (cs : List Int32) (zc : Int32) (h0 : Heap) (n0 : Nat) (Z0 : n0 ≤ h0.size) (ga : n0 ≤ a) (gt : n0 ≤ t) (EX : Exa Z h0 a "java/lang/StringBuilder") (FV : Fld Z h0 a "java/lang/AbstractStringBuilder" "value" "[B" (.ref t)) (FC : Fld Z h0 a "java/lang/AbstractStringBuilder" "coder" "B" (.int (0 : Int32))) (FN : Fld Z h0 a "java/lang/AbstractStringBuilder" "count" "I" (.int (Int32.ofNat k))) (AT : Arv Z h0 t kt .byte (Int32.ofNat N) vs (.int (0 : Int32))) (ET : Exa Z h0 t "[B") (EX2 : Exa Z h0 s1 "java/lang/String") (FC2 : Fld Z h0 s1 "java/lang/String" "coder" "B" (.int (0 : Int32))) (FV2 : Fld Z h0 s1 "java/lang/String" "value" "[B" (.ref d1)) (AD2 : Arv Z h0 d1 k1 .byte (Int32.ofNat ds.length) (lob ds) (.int (0 : Int32))) (TS : StrA Z h0 s1 ds) (hkc : k = cs.length) (hk0 : k ≤ N) (hN : N ≤ 62) (hv : N ≤ vs.length) (hM : k + ds.length ≤ 30) (H : ∀ i, i < cs.length → vs.getD i (.int (0 : Int32)) = .int (StrChars.lo8 (cs.getD i 0))) (HL : ∀ c ∈ cs, ¬ c < 0 ∧ ¬ (255 : Int32) < c) (HM : ∀ c ∈ ds, ¬ c < 0 ∧ ¬ (255 : Int32) < c) (SC : Sta Z h0 "java/lang/String" "COMPACT_STRINGS" "Z" (.int zc)) (hz : ¬ zc = 0) :
    NM l (⟨"java/lang/AbstractStringBuilder", "append", "(Ljava/lang/String;)Ljava/lang/AbstractStringBuilder;"⟩ : MethodName) jdk_68_method_22_code 3 (some (.object "java/lang/AbstractStringBuilder")) [] ({ frames := 4, cells := 1, slots := 64, locals := 80 } : Room) Z n0 #[(.ref a), (.ref s1)] h0 [a, t] (fun v h => ∃ t', v = some (.ref a) ∧ (t' = t ∨ h0.size ≤ t') ∧ SbA Z h a t' (cs ++ ds)) := by
  refine NM.walk (Ls := #[.val (.ref a), .val (.ref s1), .unset]) pn_AP0 Z0 (fun m => by first | (simp [entryFrame, mkF, argsToLocals, Value.category]; done) | rfl) ?_
  intro p e s m below meth c s₁ hby hml hret hnm W0
  refine W0.aloadN (hb hby dAP0_0) rfl rfl (pc' := 1) rfl ?_
  refine W0.ifnonnullYes (hb hby dAP0_1) (by decide) (pc' := 9) (by decide) ?_
  refine W0.aloadN (hb hby dAP0_9) rfl rfl (pc' := 10) rfl ?_
  refine W0.callVP (y := (⟨"java/lang/String", "length", "()I"⟩ : MethodName)) (z := (⟨"java/lang/String", "length", "()I"⟩ : MethodName)) (hw _ (List.mem_of_getElem? (i := 58) rfl)) (hw _ (List.mem_of_getElem? (i := 59) rfl)) (hw _ (List.mem_of_getElem? (i := 61) rfl)) (hw _ (List.mem_of_getElem? (i := 61) rfl)) (hw _ (List.mem_of_getElem? (i := 60) rfl)) (by decide) (StrA.lenB (wd := 0) TS W0.2.2.2.1 hw (hw _ (List.mem_of_getElem? (i := 5) rfl)) SC hz (by decide) (by decide)) TS.1 (hb hby dAP0_10) (pc' := 13) rfl hml (argsL := []) rfl (lenOf pd_368a4b19 rfl) rfl (Nat.le_of_ble_eq_true rfl) (by decide) (by decide) (fun _ _ _ q => pu_nil q) ?_
  intro T1 L1 W1
  show Go p e below _ T1 (mkF m 13 #[.val (.ref a), .val (.ref s1), .unset] [(.int (Int32.ofNat ds.length))])
  refine W1.istoreN (Ls' := #[.val (.ref a), .val (.ref s1), .val (.int (Int32.ofNat ds.length))]) (hb hby dAP0_13) rfl (pc' := 14) rfl ?_
  refine W1.aloadN (hb hby dAP0_14) rfl rfl (pc' := 15) rfl ?_
  refine W1.aloadN (hb hby dAP0_15) rfl rfl (pc' := 16) rfl ?_
  refine W1.getF (host := "") (Or.inl (hw _ (List.mem_of_getElem? (i := 69) rfl))) Via.refl FN (hb hby dAP0_16) (pc' := 19) rfl ?_
  intro T2 W2
  refine W2.iloadN (hb hby dAP0_19) rfl (pc' := 20) rfl ?_
  refine W2.iadd (hb hby dAP0_20) (pc' := 21) rfl ?_
  rw [ofNat_add]
  by_cases hMN : k + ds.length ≤ N
  · refine W2.callX (y := (⟨"java/lang/AbstractStringBuilder", "ensureCapacityInternal", "(I)V"⟩ : MethodName)) (hw _ (List.mem_of_getElem? (i := 71) rfl)) (hw _ (List.mem_of_getElem? (i := 72) rfl)) (hw _ (List.mem_of_getElem? (i := 73) rfl)) (hw _ (List.mem_of_getElem? (i := 74) rfl)) (hw _ (List.mem_of_getElem? (i := 75) rfl)) (by decide) (NM.bk (wd := 0) (rmEC0 l Z a0 hw a t kt k N vs (k + ds.length) h0 n0 W2.n0h EX FV FC FN AT ET hMN hN) W2.2.2.2.1 (hw _ (List.mem_of_getElem? (i := 75) rfl)) (hw _ (List.mem_of_getElem? (i := 40) rfl)) (by decide) (by decide)) EX (hb hby dAP0_21) (pc' := 24) rfl hml (argsL := [(.int (Int32.ofNat (k + ds.length)))]) rfl (lenOf pd_c76b354f rfl) rfl (Nat.le_of_ble_eq_true rfl) (by decide) (by decide) (ws' := []) (fun _ _ _ q => ⟨q.2.2, q.2.1⟩) all0 ?_
    intro v3 T3 h3 L3' L3 W3 Q3 K3
    have z3 := K3.1
    obtain ⟨⟨rfl, -⟩, -, -⟩ := Q3
    show Go p e below _ T3 (mkF m 24 #[.val (.ref a), .val (.ref s1), .val (.int (Int32.ofNat ds.length))] [])
    refine W3.aloadN (hb hby dAP0_24) rfl rfl (pc' := 25) rfl ?_
    refine W3.aloadN (hb hby dAP0_25) rfl rfl (pc' := 26) rfl ?_
    have F5 := Fld.ext (Keep.toExt K3) FN
    refine W3.getF (host := "") (Or.inl (hw _ (List.mem_of_getElem? (i := 69) rfl))) Via.refl F5 (hb hby dAP0_26) (pc' := 29) rfl ?_
    intro T4 W4
    refine W4.aloadN (hb hby dAP0_29) rfl rfl (pc' := 30) rfl ?_
    have F6 := Exa.ext (Keep.toExt K3) EX
    have F7 := Fld.ext (Keep.toExt K3) FV
    have F8 := Fld.ext (Keep.toExt K3) FC
    have F9 := Arv.ext AT (Keep.toExt K3)
    have F10 := Exa.ext (Keep.toExt K3) ET
    have F11 := Exa.ext (Keep.toExt K3) EX2
    have F12 := Fld.ext (Keep.toExt K3) FC2
    have F13 := Fld.ext (Keep.toExt K3) FV2
    have F14 := Arv.ext AD2 (Keep.toExt K3)
    have F15 := Sta.ext (Keep.toExt K3) SC
    have na16 : a ≠ t := Exa.neArv F6 F9 (hw _ (List.mem_of_getElem? (i := 31) rfl))
    refine W4.callX (y := (⟨"java/lang/AbstractStringBuilder", "putStringAt", "(ILjava/lang/String;)V"⟩ : MethodName)) (hw _ (List.mem_of_getElem? (i := 76) rfl)) (hw _ (List.mem_of_getElem? (i := 77) rfl)) (hw _ (List.mem_of_getElem? (i := 78) rfl)) (hw _ (List.mem_of_getElem? (i := 79) rfl)) (hw _ (List.mem_of_getElem? (i := 80) rfl)) (by decide) (NM.bk (wd := 0) (rmPS l Z a0 hw a t kt k N vs s1 d1 k1 ds zc h3 n0 W4.n0h gt F6 F7 F8 F5 F9 F10 F11 F12 F13 F14 hMN hN hv F15 hz) W4.2.2.2.1 (hw _ (List.mem_of_getElem? (i := 80) rfl)) (hw _ (List.mem_of_getElem? (i := 40) rfl)) (by decide) (by decide)) F6 (hb hby dAP0_30) (pc' := 33) rfl hml (argsL := [(.int (Int32.ofNat k)), (.ref s1)]) rfl (lenOf pd_d2b67caf rfl) rfl (Nat.le_of_ble_eq_true rfl) (by decide) (by decide) (ws' := [t]) (fun _ _ _ q => ⟨q.2.2, q.2.1⟩) (allS (Or.inl (List.mem_of_getElem? (i := 1) rfl)) all0) ?_
    intro v17 T17 h17 L17' L17 W17 Q17 K17
    have z17 := K17.1
    obtain ⟨⟨rfl, V17⟩, -, -⟩ := Q17
    show Go p e below _ T17 (mkF m 33 #[.val (.ref a), .val (.ref s1), .val (.int (Int32.ofNat ds.length))] [])
    refine W17.aloadN (hb hby dAP0_33) rfl rfl (pc' := 34) rfl ?_
    refine W17.dup (hb hby dAP0_34) rfl (pc' := 35) rfl ?_
    have F19 := ((FN.ext (Keep.toExt K3)).keep K17 (ninS na16 nin0))
    refine W17.getF (host := "") (Or.inl (hw _ (List.mem_of_getElem? (i := 69) rfl))) Via.refl F19 (hb hby dAP0_35) (pc' := 38) rfl ?_
    intro T18 W18
    refine W18.iloadN (hb hby dAP0_38) rfl (pc' := 39) rfl ?_
    refine W18.iadd (hb hby dAP0_39) (pc' := 40) rfl ?_
    rw [ofNat_add]
    have F21 := ((EX.ext (Keep.toExt K3)).keep K17)
    have F22 := ((FV.ext (Keep.toExt K3)).keep K17 (ninS na16 nin0))
    have F23 := ((FC.ext (Keep.toExt K3)).keep K17 (ninS na16 nin0))
    refine W18.putF (host := "") (Or.inl (hw _ (List.mem_of_getElem? (i := 69) rfl))) Via.refl F19 F21 (Or.inl (hw _ (List.mem_of_getElem? (i := 70) rfl))) (hw _ (List.mem_of_getElem? (i := 31) rfl)) (ty := .int) (by decide) rfl rfl (hb hby dAP0_40) (pc' := 43) rfl (Or.inl (List.mem_of_getElem? (i := 0) rfl)) ga ?_
    intro T20 h20 L20 W20 Q20
    have K20 := Keep.of_wr Q20
    have z20 := K20.1
    have A20 := Exa.wr Q20 F21
    have B20 := Fld.same Q20 F19
    have B20_value := Fld.other Q20 F22 (Or.inr (slot_ne (Or.inl (hw _ (List.mem_of_getElem? (i := 45) rfl))) (Or.inl (hw _ (List.mem_of_getElem? (i := 70) rfl))) (by decide) (t := (.array .byte)) (t' := .int) (by decide) (by decide)))
    have B20_coder := Fld.other Q20 F23 (Or.inr (slot_ne (Or.inl (hw _ (List.mem_of_getElem? (i := 47) rfl))) (Or.inl (hw _ (List.mem_of_getElem? (i := 70) rfl))) (by decide) (t := .byte) (t' := .int) (by decide) (by decide)))
    refine W20.aloadN (hb hby dAP0_43) rfl rfl (pc' := 44) rfl ?_
    have F24 := (((ET.ext (Keep.toExt K3)).keep K17).keep K20)
    have F25 := (V17.keep K20 (ninS (Ne.symm (Exa.neArv F21 V17 (hw _ (List.mem_of_getElem? (i := 31) rfl)))) nin0))
    exact W20.retA hret rfl rfl (hb hby dAP0_44) (by decide) (by decide) ⟨t, rfl, Or.inl rfl, A20, F24, B20_value, B20_coder, by rw [List.length_append, ← hkc]; exact B20, fun c hc => (List.mem_append.mp hc).elim (HL c) (HM c), kt, N, _, F25, by rw [List.length_append]; omega, hN, sb_len hMN hv, sb_app hkc (Nat.le_trans hMN hv) H⟩
  · refine W2.callX (y := (⟨"java/lang/AbstractStringBuilder", "ensureCapacityInternal", "(I)V"⟩ : MethodName)) (hw _ (List.mem_of_getElem? (i := 71) rfl)) (hw _ (List.mem_of_getElem? (i := 72) rfl)) (hw _ (List.mem_of_getElem? (i := 73) rfl)) (hw _ (List.mem_of_getElem? (i := 74) rfl)) (hw _ (List.mem_of_getElem? (i := 75) rfl)) (by decide) (NM.bk (wd := 0) (rmEC1 l Z a0 hw a t kt k N vs (k + ds.length) h0 n0 W2.n0h ga EX FV FC FN AT ET (by omega) hM) W2.2.2.2.1 (hw _ (List.mem_of_getElem? (i := 75) rfl)) (hw _ (List.mem_of_getElem? (i := 40) rfl)) (by decide) (by decide)) EX (hb hby dAP0_21) (pc' := 24) rfl hml (argsL := [(.int (Int32.ofNat (k + ds.length)))]) rfl (lenOf pd_c76b354f rfl) rfl (Nat.le_of_ble_eq_true rfl) (by decide) (by decide) (ws' := [a]) (fun _ _ _ q => ⟨q.2.2, q.2.1⟩) (allS (Or.inl (List.mem_of_getElem? (i := 0) rfl)) all0) ?_
    intro v26 T26 h26 L26' L26 W26 Q26 K26
    have z26 := K26.1
    obtain ⟨⟨d26, kd26, us26, rfl, A26, X26, B26, C26, D26, ge26, V26, len26, same26⟩, -, -⟩ := Q26
    show Go p e below _ T26 (mkF m 24 #[.val (.ref a), .val (.ref s1), .val (.int (Int32.ofNat ds.length))] [])
    refine W26.aloadN (hb hby dAP0_24) rfl rfl (pc' := 25) rfl ?_
    refine W26.aloadN (hb hby dAP0_25) rfl rfl (pc' := 26) rfl ?_
    refine W26.getF (host := "") (Or.inl (hw _ (List.mem_of_getElem? (i := 69) rfl))) Via.refl D26 (hb hby dAP0_26) (pc' := 29) rfl ?_
    intro T27 W27
    refine W27.aloadN (hb hby dAP0_29) rfl rfl (pc' := 30) rfl ?_
    have F28 := (EX2.keep K26)
    have F29 := (FC2.keep K26 (ninS (ne_exa EX2 EX (by decide)) nin0))
    have F30 := (FV2.keep K26 (ninS (ne_exa EX2 EX (by decide)) nin0))
    have F31 := (AD2.keep K26 (ninS (Ne.symm (Exa.neArv EX AD2 (hw _ (List.mem_of_getElem? (i := 31) rfl)))) nin0))
    have F32 := (Sta.keepExa SC K26 EX)
    have na33 : a ≠ d26 := Exa.neArv A26 V26 (hw _ (List.mem_of_getElem? (i := 31) rfl))
    refine W27.callX (y := (⟨"java/lang/AbstractStringBuilder", "putStringAt", "(ILjava/lang/String;)V"⟩ : MethodName)) (hw _ (List.mem_of_getElem? (i := 76) rfl)) (hw _ (List.mem_of_getElem? (i := 77) rfl)) (hw _ (List.mem_of_getElem? (i := 78) rfl)) (hw _ (List.mem_of_getElem? (i := 79) rfl)) (hw _ (List.mem_of_getElem? (i := 80) rfl)) (by decide) (NM.bk (wd := 0) (rmPS l Z a0 hw a d26 kd26 k (N + max (k + ds.length - N) (N + 2)) us26 s1 d1 k1 ds zc h26 n0 W27.n0h (Nat.le_trans Z0 ge26) A26 B26 C26 D26 V26 X26 F28 F29 F30 F31 (by omega) (by omega) len26 F32 hz) W27.2.2.2.1 (hw _ (List.mem_of_getElem? (i := 80) rfl)) (hw _ (List.mem_of_getElem? (i := 40) rfl)) (by decide) (by decide)) A26 (hb hby dAP0_30) (pc' := 33) rfl hml (argsL := [(.int (Int32.ofNat k)), (.ref s1)]) rfl (lenOf pd_d2b67caf rfl) rfl (Nat.le_of_ble_eq_true rfl) (by decide) (by decide) (ws' := [d26]) (fun _ _ _ q => ⟨q.2.2, q.2.1⟩) (allS (Or.inr ge26) all0) ?_
    intro v34 T34 h34 L34' L34 W34 Q34 K34
    have z34 := K34.1
    obtain ⟨⟨rfl, V34⟩, -, -⟩ := Q34
    show Go p e below _ T34 (mkF m 33 #[.val (.ref a), .val (.ref s1), .val (.int (Int32.ofNat ds.length))] [])
    refine W34.aloadN (hb hby dAP0_33) rfl rfl (pc' := 34) rfl ?_
    refine W34.dup (hb hby dAP0_34) rfl (pc' := 35) rfl ?_
    have F36 := (D26.keep K34 (ninS na33 nin0))
    refine W34.getF (host := "") (Or.inl (hw _ (List.mem_of_getElem? (i := 69) rfl))) Via.refl F36 (hb hby dAP0_35) (pc' := 38) rfl ?_
    intro T35 W35
    refine W35.iloadN (hb hby dAP0_38) rfl (pc' := 39) rfl ?_
    refine W35.iadd (hb hby dAP0_39) (pc' := 40) rfl ?_
    rw [ofNat_add]
    have F38 := (A26.keep K34)
    have F39 := (B26.keep K34 (ninS na33 nin0))
    have F40 := (C26.keep K34 (ninS na33 nin0))
    refine W35.putF (host := "") (Or.inl (hw _ (List.mem_of_getElem? (i := 69) rfl))) Via.refl F36 F38 (Or.inl (hw _ (List.mem_of_getElem? (i := 70) rfl))) (hw _ (List.mem_of_getElem? (i := 31) rfl)) (ty := .int) (by decide) rfl rfl (hb hby dAP0_40) (pc' := 43) rfl (Or.inl (List.mem_of_getElem? (i := 0) rfl)) ga ?_
    intro T37 h37 L37 W37 Q37
    have K37 := Keep.of_wr Q37
    have z37 := K37.1
    have A37 := Exa.wr Q37 F38
    have B37 := Fld.same Q37 F36
    have B37_value := Fld.other Q37 F39 (Or.inr (slot_ne (Or.inl (hw _ (List.mem_of_getElem? (i := 45) rfl))) (Or.inl (hw _ (List.mem_of_getElem? (i := 70) rfl))) (by decide) (t := (.array .byte)) (t' := .int) (by decide) (by decide)))
    have B37_coder := Fld.other Q37 F40 (Or.inr (slot_ne (Or.inl (hw _ (List.mem_of_getElem? (i := 47) rfl))) (Or.inl (hw _ (List.mem_of_getElem? (i := 70) rfl))) (by decide) (t := .byte) (t' := .int) (by decide) (by decide)))
    refine W37.aloadN (hb hby dAP0_43) rfl rfl (pc' := 44) rfl ?_
    have F41 := ((X26.keep K34).keep K37)
    have F42 := (V34.keep K37 (ninS (Ne.symm (Exa.neArv F38 V34 (hw _ (List.mem_of_getElem? (i := 31) rfl)))) nin0))
    exact W37.retA hret rfl rfl (hb hby dAP0_44) (by decide) (by decide) ⟨d26, rfl, Or.inr ge26, A37, F41, B37_value, B37_coder, by rw [List.length_append, ← hkc]; exact B37, fun c hc => (List.mem_append.mp hc).elim (HL c) (HM c), kd26, (N + max (k + ds.length - N) (N + 2)), _, F42, by rw [List.length_append]; omega, (by omega), sb_len (by omega) len26, sb_app hkc (Nat.le_trans (by omega) len26) (fun i hi => (same26 i (by omega)).trans (H i hi))⟩
--CUT wrap
theorem rmAP (l : Launch) (Z : State) (a0 : Array Value) (hw : ∀ d ∈ tables_1, d.before a0 Z = true) (a t s1 : Addr) (cs ds : List Int32) (zc : Int32) (h0 : Heap) (n0 : Nat) (Z0 : n0 ≤ h0.size) (ga : n0 ≤ a) (gt : n0 ≤ t) (SBX : SbA Z h0 a t cs) (TS : StrA Z h0 s1 ds) (HM : ∀ c ∈ ds, ¬ (255 : Int32) < c) (hM : cs.length + ds.length ≤ 30) (SC : Sta Z h0 "java/lang/String" "COMPACT_STRINGS" "Z" (.int zc)) (hz : ¬ zc = 0) :
    NM l (⟨"java/lang/AbstractStringBuilder", "append", "(Ljava/lang/String;)Ljava/lang/AbstractStringBuilder;"⟩ : MethodName) jdk_68_method_22_code 3 (some (.object "java/lang/AbstractStringBuilder")) [] ({ frames := 4, cells := 1, slots := 64, locals := 80 } : Room) Z n0 #[.ref a, .ref s1] h0 [a, t] (fun v h => ∃ t', v = some (.ref a) ∧ (t' = t ∨ h0.size ≤ t') ∧ SbA Z h a t' (cs ++ ds)) := by
  obtain ⟨e1, e0, e2, e3, e4, e5, kt, N, vs, e6, e7, e8, e9, e10⟩ := SBX
  obtain ⟨f, b, n, t1, kb, cd, N2, us, v, c, k, q⟩ := id TS
  rcases q with ⟨rfl, rfl, rfl, q4⟩ | ⟨-, -, -, c1, q2, q3⟩
  · exact rmAP0 l Z a0 hw a t kt cs.length N vs s1 t1 kb ds cs zc h0 n0 Z0 ga gt e1 e2 e3 e4 e6 e0 f c v k TS rfl e7 e8 e9 hM e10 e5 (fun c hc => ⟨(b c hc).1, HM c hc⟩) SC hz
  · exact absurd q3 (HM c1 q2)
theorem dSA_0 : decode jdk_67_method_7_code 0 = .ok (.aload_n 0, 1) := by decide +kernel
theorem dSA_1 : decode jdk_67_method_7_code 1 = .ok (.aload_n 1, 1) := by decide +kernel
theorem dSA_2 : decode jdk_67_method_7_code 2 = .ok (.invokespecial 29, 3) := by decide +kernel
theorem pd_a22519e0 : parseMethodDescriptor "(Ljava/lang/String;)Ljava/lang/AbstractStringBuilder;" = some ⟨[(.object "java/lang/String")], some (.object "java/lang/AbstractStringBuilder")⟩ := by decide +kernel
theorem dSA_5 : decode jdk_67_method_7_code 5 = .ok (.pop, 1) := by decide +kernel
theorem dSA_6 : decode jdk_67_method_7_code 6 = .ok (.aload_n 0, 1) := by decide +kernel
theorem dSA_7 : decode jdk_67_method_7_code 7 = .ok (.areturn, 1) := by decide +kernel
theorem pn_SA : plainFor (⟨"java/lang/StringBuilder", "append", "(Ljava/lang/String;)Ljava/lang/StringBuilder;"⟩ : MethodName) = true := by first | exact plainFor_of_name (by first | (simp [plainName, overriddenIn]; done) | decide +kernel) | decide +kernel
set_option maxRecDepth 65536 in
set_option maxHeartbeats 40000000 in
theorem rmSA (l : Launch) (Z : State) (a0 : Array Value) (hw : ∀ d ∈ tables_1, d.before a0 Z = true) (a t s1 : Addr) (cs ds : List Int32) (zc : Int32) (h0 : Heap) (n0 : Nat) (Z0 : n0 ≤ h0.size) (ga : n0 ≤ a) (gt : n0 ≤ t) (SBX : SbA Z h0 a t cs) (TS : StrA Z h0 s1 ds) (HM : ∀ c ∈ ds, ¬ (255 : Int32) < c) (hM : cs.length + ds.length ≤ 30) (SC : Sta Z h0 "java/lang/String" "COMPACT_STRINGS" "Z" (.int zc)) (hz : ¬ zc = 0) :
    NM l (⟨"java/lang/StringBuilder", "append", "(Ljava/lang/String;)Ljava/lang/StringBuilder;"⟩ : MethodName) jdk_67_method_7_code 2 (some (.object "java/lang/StringBuilder")) [] ({ frames := 5, cells := 1, slots := 64, locals := 96 } : Room) Z n0 #[(.ref a), (.ref s1)] h0 [a, t] (fun v h => ∃ t', v = some (.ref a) ∧ (t' = t ∨ h0.size ≤ t') ∧ SbA Z h a t' (cs ++ ds)) := by
  refine NM.walk (Ls := #[.val (.ref a), .val (.ref s1)]) pn_SA Z0 (fun m => by first | (simp [entryFrame, mkF, argsToLocals, Value.category]; done) | rfl) ?_
  intro p e s m below meth c s₁ hby hml hret hnm W0
  refine W0.aloadN (hb hby dSA_0) rfl rfl (pc' := 1) rfl ?_
  refine W0.aloadN (hb hby dSA_1) rfl rfl (pc' := 2) rfl ?_
  refine W0.callU (y := (⟨"java/lang/AbstractStringBuilder", "append", "(Ljava/lang/String;)Ljava/lang/AbstractStringBuilder;"⟩ : MethodName)) (hw _ (List.mem_of_getElem? (i := 53) rfl)) (same_of (y' := (⟨"java/lang/AbstractStringBuilder", "ensureCapacityInternal", "(I)V"⟩ : MethodName)) (hw _ (List.mem_of_getElem? (i := 56) rfl)) (hw _ (List.mem_of_getElem? (i := 74) rfl)) rfl (by decide)) (hw _ (List.mem_of_getElem? (i := 54) rfl)) (hw _ (List.mem_of_getElem? (i := 55) rfl)) (by decide) (hw _ (List.mem_of_getElem? (i := 57) rfl)) (NM.bk (wd := 0) (rmAP l Z a0 hw a t s1 cs ds zc h0 n0 W0.n0h ga gt SBX TS HM hM SC hz) W0.2.2.2.1 (hw _ (List.mem_of_getElem? (i := 57) rfl)) (hw _ (List.mem_of_getElem? (i := 40) rfl)) (by decide) (by decide)) SBX.1 (hb hby dSA_2) (pc' := 5) rfl hml (argsL := [(.ref s1)]) rfl (lenOf pd_a22519e0 rfl) rfl (Nat.le_of_ble_eq_true rfl) (by decide) (by decide) (ws' := [a, t]) (fun _ _ _ q => ⟨q.2.2, q.2.1⟩) (allS (Or.inl (List.mem_of_getElem? (i := 0) rfl)) (allS (Or.inl (List.mem_of_getElem? (i := 1) rfl)) all0)) ?_
  intro v1 T1 h1 L1' L1 W1 Q1 K1
  have z1 := K1.1
  obtain ⟨⟨t1, rfl, or1, S1⟩, -, -⟩ := Q1
  show Go p e below _ T1 (mkF m 5 #[.val (.ref a), .val (.ref s1)] [(.ref a)])
  refine W1.pop (hb hby dSA_5) rfl (pc' := 6) rfl ?_
  refine W1.aloadN (hb hby dSA_6) rfl rfl (pc' := 7) rfl ?_
  exact W1.retA hret rfl rfl (hb hby dSA_7) (by decide) (by decide) ⟨t1, rfl, or1, S1⟩
theorem dAI_0 : decode jdk_68_method_2_code 0 = .ok (.aload_n 0, 1) := by decide +kernel
theorem dAI_1 : decode jdk_68_method_2_code 1 = .ok (.invokespecial 3, 3) := by decide +kernel
theorem dAI_4 : decode jdk_68_method_2_code 4 = .ok (.getstatic 18, 3) := by decide +kernel
theorem dAI_7 : decode jdk_68_method_2_code 7 = .ok (.ifCond .eq 18, 3) := by decide +kernel
theorem dAI_10 : decode jdk_68_method_2_code 10 = .ok (.aload_n 0, 1) := by decide +kernel
theorem dAI_11 : decode jdk_68_method_2_code 11 = .ok (.iload_n 1, 1) := by decide +kernel
theorem dAI_12 : decode jdk_68_method_2_code 12 = .ok (.newarray .byte, 2) := by decide +kernel
theorem dAI_14 : decode jdk_68_method_2_code 14 = .ok (.putfield 15, 3) := by decide +kernel
theorem dAI_17 : decode jdk_68_method_2_code 17 = .ok (.aload_n 0, 1) := by decide +kernel
theorem dAI_18 : decode jdk_68_method_2_code 18 = .ok (.iconst 0, 1) := by decide +kernel
theorem dAI_19 : decode jdk_68_method_2_code 19 = .ok (.putfield 22, 3) := by decide +kernel
theorem dAI_22 : decode jdk_68_method_2_code 22 = .ok (.goto 16, 3) := by decide +kernel
theorem dAI_38 : decode jdk_68_method_2_code 38 = .ok (.return_, 1) := by decide +kernel
theorem pn_AI : plainFor (⟨"java/lang/AbstractStringBuilder", "<init>", "(I)V"⟩ : MethodName) = true := by first | exact plainFor_of_name (by first | (simp [plainName, overriddenIn]; done) | decide +kernel) | decide +kernel
set_option maxRecDepth 65536 in
set_option maxHeartbeats 40000000 in
theorem rmAI (l : Launch) (Z : State) (a0 : Array Value) (hw : ∀ d ∈ tables_1, d.before a0 Z = true) (a : Addr) (zc : Int32) (h0 : Heap) (n0 : Nat) (Z0 : n0 ≤ h0.size) (ga : n0 ≤ a) (EX : Exa Z h0 a "java/lang/StringBuilder") (FV : Fld Z h0 a "java/lang/AbstractStringBuilder" "value" "[B" .null) (FC : Fld Z h0 a "java/lang/AbstractStringBuilder" "coder" "B" (.int (0 : Int32))) (FN : Fld Z h0 a "java/lang/AbstractStringBuilder" "count" "I" (.int (0 : Int32))) (SC : Sta Z h0 "java/lang/String" "COMPACT_STRINGS" "Z" (.int zc)) (hz : ¬ zc = 0) :
    NM l (⟨"java/lang/AbstractStringBuilder", "<init>", "(I)V"⟩ : MethodName) jdk_68_method_2_code 2 none [] ({ frames := 1, cells := 1, slots := 16, locals := 14 } : Room) Z n0 #[(.ref a), (.int (16 : Int32))] h0 [a] (fun v h => ∃ t, v = none ∧ h0.size ≤ t ∧ SbA Z h a t []) := by
  refine NM.walk (Ls := #[.val (.ref a), .val (.int (16 : Int32))]) pn_AI Z0 (fun m => by first | (simp [entryFrame, mkF, argsToLocals, Value.category]; done) | rfl) ?_
  intro p e s m below meth c s₁ hby hml hret hnm W0
  refine W0.aloadN (hb hby dAI_0) rfl rfl (pc' := 1) rfl ?_
  refine W0.initO (hw _ (List.mem_of_getElem? (i := 42) rfl)) (hw _ (List.mem_of_getElem? (i := 16) rfl)) (hw _ (List.mem_of_getElem? (i := 17) rfl)) (hb hby dAI_1) (pc' := 4) rfl hml (by decide) (wd := 0) (Nat.le_of_ble_eq_true rfl) (by decide) ?_
  intro T1 W1
  refine W1.getS (host := "") (Or.inl (hw _ (List.mem_of_getElem? (i := 43) rfl))) Via.refl SC (hb hby dAI_4) (pc' := 7) rfl ?_
  intro T2 W2
  refine W2.ifNo (hb hby dAI_7) (XT.i0_eq_f hz) (pc' := 10) rfl ?_
  refine W2.aloadN (hb hby dAI_10) rfl rfl (pc' := 11) rfl ?_
  refine W2.iloadN (hb hby dAI_11) rfl (pc' := 12) rfl ?_
  refine W2.newPE (hw _ (List.mem_of_getElem? (i := 19) rfl)) (hb hby dAI_12) (pc' := 14) rfl (by decide) (cap := 16) (by decide) (by decide) (by decide) (by decide) (ad := "[B") (by decide) ?_
  intro T3 h3 a3 k3 g3 ge3 gn3 W3 E3 V3' X3
  have V3 : Arv Z h3 a3 k3 .byte (16 : Int32) (List.replicate 16 (.int (0 : Int32))) (.int (0 : Int32)) := V3'
  have z3 := E3.1
  have y3 := Nat.le_of_eq g3.symm
  have F5 := Fld.ext E3 FV
  have F6 := Exa.ext E3 EX
  have F7 := Fld.ext E3 FC
  have F8 := Fld.ext E3 FN
  refine W3.putF (host := "") (Or.inl (hw _ (List.mem_of_getElem? (i := 44) rfl))) Via.refl F5 F6 (Or.inl (hw _ (List.mem_of_getElem? (i := 45) rfl))) (hw _ (List.mem_of_getElem? (i := 31) rfl)) (ty := (.array .byte)) (by decide) rfl rfl (hb hby dAI_14) (pc' := 17) rfl (Or.inl (List.mem_of_getElem? (i := 0) rfl)) ga ?_
  intro T4 h4 L4 W4 Q4
  have K4 := Keep.of_wr Q4
  have z4 := K4.1
  have A4 := Exa.wr Q4 F6
  have B4 := Fld.same Q4 F5
  have B4_coder := Fld.other Q4 F7 (Or.inr (slot_ne (Or.inl (hw _ (List.mem_of_getElem? (i := 47) rfl))) (Or.inl (hw _ (List.mem_of_getElem? (i := 45) rfl))) (by decide) (t := .byte) (t' := (.array .byte)) (by decide) (by decide)))
  have B4_count := Fld.other Q4 F8 (Or.inr (slot_ne (Or.inl (hw _ (List.mem_of_getElem? (i := 70) rfl))) (Or.inl (hw _ (List.mem_of_getElem? (i := 45) rfl))) (by decide) (t := .int) (t' := (.array .byte)) (by decide) (by decide)))
  refine W4.aloadN (hb hby dAI_17) rfl rfl (pc' := 18) rfl ?_
  refine W4.iconst (0 : Int32) (hb hby dAI_18) rfl (pc' := 19) rfl ?_
  refine W4.putF (host := "") (Or.inl (hw _ (List.mem_of_getElem? (i := 46) rfl))) Via.refl B4_coder A4 (Or.inl (hw _ (List.mem_of_getElem? (i := 47) rfl))) (hw _ (List.mem_of_getElem? (i := 31) rfl)) (ty := .byte) (by decide) rfl rfl (hb hby dAI_19) (pc' := 22) rfl (Or.inl (List.mem_of_getElem? (i := 0) rfl)) ga ?_
  intro T9 h9 L9 W9 Q9
  have K9 := Keep.of_wr Q9
  have z9 := K9.1
  have A9 := Exa.wr Q9 A4
  have B9 := Fld.same Q9 B4_coder
  have B9_value := Fld.other Q9 B4 (Or.inr (slot_ne (Or.inl (hw _ (List.mem_of_getElem? (i := 45) rfl))) (Or.inl (hw _ (List.mem_of_getElem? (i := 47) rfl))) (by decide) (t := (.array .byte)) (t' := .byte) (by decide) (by decide)))
  have B9_count := Fld.other Q9 B4_count (Or.inr (slot_ne (Or.inl (hw _ (List.mem_of_getElem? (i := 70) rfl))) (Or.inl (hw _ (List.mem_of_getElem? (i := 47) rfl))) (by decide) (t := .int) (t' := .byte) (by decide) (by decide)))
  refine W9.goto (hb hby dAI_22) (by decide) (pc' := 38) (by decide) ?_
  have F10 := ((X3.keep K4).keep K9)
  have F11 := ((V3.keep K4 (ninS (Ne.symm (Exa.neArv F6 V3 (hw _ (List.mem_of_getElem? (i := 31) rfl)))) nin0)).keep K9 (ninS (Ne.symm (Exa.neArv A4 (V3.keep K4 (ninS (Ne.symm (Exa.neArv F6 V3 (hw _ (List.mem_of_getElem? (i := 31) rfl)))) nin0)) (hw _ (List.mem_of_getElem? (i := 31) rfl)))) nin0))
  exact W9.retV hret (hb hby dAI_38) (by decide) (by decide) ⟨a3, rfl, ge3, A9, F10, B9_value, B9, B9_count, mem0, k3, 16, _, F11, Nat.zero_le _, (by decide), (by decide), fun i hi => absurd hi (Nat.not_lt_zero _)⟩
theorem dBI_0 : decode jdk_67_method_1_code 0 = .ok (.aload_n 0, 1) := by decide +kernel
theorem dBI_1 : decode jdk_67_method_1_code 1 = .ok (.bipush 16, 2) := by decide +kernel
theorem dBI_3 : decode jdk_67_method_1_code 3 = .ok (.invokespecial 1, 3) := by decide +kernel
theorem dBI_6 : decode jdk_67_method_1_code 6 = .ok (.return_, 1) := by decide +kernel
theorem pn_BI : plainFor (⟨"java/lang/StringBuilder", "<init>", "()V"⟩ : MethodName) = true := by first | exact plainFor_of_name (by first | (simp [plainName, overriddenIn]; done) | decide +kernel) | decide +kernel
set_option maxRecDepth 65536 in
set_option maxHeartbeats 40000000 in
theorem rmBI (l : Launch) (Z : State) (a0 : Array Value) (hw : ∀ d ∈ tables_1, d.before a0 Z = true) (a : Addr) (zc : Int32) (h0 : Heap) (n0 : Nat) (Z0 : n0 ≤ h0.size) (ga : n0 ≤ a) (EX : Exa Z h0 a "java/lang/StringBuilder") (FV : Fld Z h0 a "java/lang/AbstractStringBuilder" "value" "[B" .null) (FC : Fld Z h0 a "java/lang/AbstractStringBuilder" "coder" "B" (.int (0 : Int32))) (FN : Fld Z h0 a "java/lang/AbstractStringBuilder" "count" "I" (.int (0 : Int32))) (SC : Sta Z h0 "java/lang/String" "COMPACT_STRINGS" "Z" (.int zc)) (hz : ¬ zc = 0) :
    NM l (⟨"java/lang/StringBuilder", "<init>", "()V"⟩ : MethodName) jdk_67_method_1_code 1 none [] ({ frames := 2, cells := 1, slots := 16, locals := 30 } : Room) Z n0 #[(.ref a)] h0 [a] (fun v h => ∃ t, v = none ∧ h0.size ≤ t ∧ SbA Z h a t []) := by
  refine NM.walk (Ls := #[.val (.ref a)]) pn_BI Z0 (fun m => by first | (simp [entryFrame, mkF, argsToLocals, Value.category]; done) | rfl) ?_
  intro p e s m below meth c s₁ hby hml hret hnm W0
  refine W0.aloadN (hb hby dBI_0) rfl rfl (pc' := 1) rfl ?_
  refine W0.bipush (16 : Int32) (hb hby dBI_1) rfl (pc' := 3) rfl ?_
  refine W0.callI (y := (⟨"java/lang/AbstractStringBuilder", "<init>", "(I)V"⟩ : MethodName)) rfl (hw _ (List.mem_of_getElem? (i := 36) rfl)) (hw _ (List.mem_of_getElem? (i := 37) rfl)) (hw _ (List.mem_of_getElem? (i := 41) rfl)) (by decide) (NM.bk (wd := 0) (rmAI l Z a0 hw a zc h0 n0 W0.n0h ga EX FV FC FN SC hz) W0.2.2.2.1 (hw _ (List.mem_of_getElem? (i := 41) rfl)) (hw _ (List.mem_of_getElem? (i := 40) rfl)) (by decide) (by decide)) (hb hby dBI_3) (pc' := 6) rfl hml (a := a) (argsL := [(.int (16 : Int32))]) rfl (lenOf pd_c76b354f rfl) rfl (Nat.le_of_ble_eq_true rfl) (by decide) (by decide) (ws' := [a]) (fun _ _ _ q => ⟨q.2.2, q.2.1⟩) (allS (Or.inl (List.mem_of_getElem? (i := 0) rfl)) all0) ?_
  intro v1 T1 h1 L1' L1 W1 Q1 K1
  have z1 := K1.1
  obtain ⟨⟨t1, rfl, ge1, S1⟩, -, -⟩ := Q1
  show Go p e below _ T1 (mkF m 6 #[.val (.ref a)] [])
  exact W1.retV hret (hb hby dBI_6) (by decide) (by decide) ⟨t1, rfl, ge1, S1⟩
--CUT tos
theorem dGV_0 : decode jdk_68_method_64_code 0 = .ok (.aload_n 0, 1) := by decide +kernel
theorem dGV_1 : decode jdk_68_method_64_code 1 = .ok (.getfield 15, 3) := by decide +kernel
theorem dGV_4 : decode jdk_68_method_64_code 4 = .ok (.areturn, 1) := by decide +kernel
theorem pn_GV : plainFor (⟨"java/lang/AbstractStringBuilder", "getValue", "()[B"⟩ : MethodName) = true := by first | exact plainFor_of_name (by first | (simp [plainName, overriddenIn]; done) | decide +kernel) | decide +kernel
set_option maxRecDepth 65536 in
set_option maxHeartbeats 40000000 in
theorem rmGV (l : Launch) (Z : State) (a0 : Array Value) (hw : ∀ d ∈ tables_1, d.before a0 Z = true) (a t : Addr) (kt : ClassId) (k N : Nat) (vs : List Value) (h0 : Heap) (n0 : Nat) (Z0 : n0 ≤ h0.size) (EX : Exa Z h0 a "java/lang/StringBuilder") (FV : Fld Z h0 a "java/lang/AbstractStringBuilder" "value" "[B" (.ref t)) (FC : Fld Z h0 a "java/lang/AbstractStringBuilder" "coder" "B" (.int (0 : Int32))) (FN : Fld Z h0 a "java/lang/AbstractStringBuilder" "count" "I" (.int (Int32.ofNat k))) (AT : Arv Z h0 t kt .byte (Int32.ofNat N) vs (.int (0 : Int32))) (ET : Exa Z h0 t "[B") :
    NM l (⟨"java/lang/AbstractStringBuilder", "getValue", "()[B"⟩ : MethodName) jdk_68_method_64_code 1 (some (.array .byte)) [] ({ frames := 0, cells := 0, slots := 0, locals := 0 } : Room) Z n0 #[(.ref a)] h0 [] (Pu (some (.ref t)) h0) := by
  refine NM.walk (Ls := #[.val (.ref a)]) pn_GV Z0 (fun m => by first | (simp [entryFrame, mkF, argsToLocals, Value.category]; done) | rfl) ?_
  intro p e s m below meth c s₁ hby hml hret hnm W0
  refine W0.aloadN (hb hby dGV_0) rfl rfl (pc' := 1) rfl ?_
  refine W0.getF (host := "") (Or.inl (hw _ (List.mem_of_getElem? (i := 44) rfl))) Via.refl FV (hb hby dGV_1) (pc' := 4) rfl ?_
  intro T1 W1
  exact W1.retA hret rfl rfl (hb hby dGV_4) (by decide) (by decide) ⟨rfl, rfl⟩
theorem dAL_0 : decode jdk_68_method_6_code 0 = .ok (.aload_n 0, 1) := by decide +kernel
theorem dAL_1 : decode jdk_68_method_6_code 1 = .ok (.getfield 79, 3) := by decide +kernel
theorem dAL_4 : decode jdk_68_method_6_code 4 = .ok (.ireturn, 1) := by decide +kernel
theorem pn_AL : plainFor (⟨"java/lang/AbstractStringBuilder", "length", "()I"⟩ : MethodName) = true := by first | exact plainFor_of_name (by first | (simp [plainName, overriddenIn]; done) | decide +kernel) | decide +kernel
set_option maxRecDepth 65536 in
set_option maxHeartbeats 40000000 in
theorem rmAL (l : Launch) (Z : State) (a0 : Array Value) (hw : ∀ d ∈ tables_1, d.before a0 Z = true) (a t : Addr) (kt : ClassId) (k N : Nat) (vs : List Value) (h0 : Heap) (n0 : Nat) (Z0 : n0 ≤ h0.size) (EX : Exa Z h0 a "java/lang/StringBuilder") (FV : Fld Z h0 a "java/lang/AbstractStringBuilder" "value" "[B" (.ref t)) (FC : Fld Z h0 a "java/lang/AbstractStringBuilder" "coder" "B" (.int (0 : Int32))) (FN : Fld Z h0 a "java/lang/AbstractStringBuilder" "count" "I" (.int (Int32.ofNat k))) (AT : Arv Z h0 t kt .byte (Int32.ofNat N) vs (.int (0 : Int32))) (ET : Exa Z h0 t "[B") :
    NM l (⟨"java/lang/AbstractStringBuilder", "length", "()I"⟩ : MethodName) jdk_68_method_6_code 1 (some .int) [] ({ frames := 0, cells := 0, slots := 0, locals := 0 } : Room) Z n0 #[(.ref a)] h0 [] (Pu (some (.int (Int32.ofNat k))) h0) := by
  refine NM.walk (Ls := #[.val (.ref a)]) pn_AL Z0 (fun m => by first | (simp [entryFrame, mkF, argsToLocals, Value.category]; done) | rfl) ?_
  intro p e s m below meth c s₁ hby hml hret hnm W0
  refine W0.aloadN (hb hby dAL_0) rfl rfl (pc' := 1) rfl ?_
  refine W0.getF (host := "") (Or.inl (hw _ (List.mem_of_getElem? (i := 69) rfl))) Via.refl FN (hb hby dAL_1) (pc' := 4) rfl ?_
  intro T1 W1
  exact W1.retI hret (hb hby dAL_4) (by decide) (by decide) ⟨rfl, rfl⟩
theorem dBL_0 : decode jdk_67_method_93_code 0 = .ok (.aload_n 0, 1) := by decide +kernel
theorem dBL_1 : decode jdk_67_method_93_code 1 = .ok (.invokespecial 343, 3) := by decide +kernel
theorem dBL_4 : decode jdk_67_method_93_code 4 = .ok (.ireturn, 1) := by decide +kernel
theorem pn_BL : plainFor (⟨"java/lang/StringBuilder", "length", "()I"⟩ : MethodName) = true := by first | exact plainFor_of_name (by first | (simp [plainName, overriddenIn]; done) | decide +kernel) | decide +kernel
set_option maxRecDepth 65536 in
set_option maxHeartbeats 40000000 in
theorem rmBL (l : Launch) (Z : State) (a0 : Array Value) (hw : ∀ d ∈ tables_1, d.before a0 Z = true) (a t : Addr) (kt : ClassId) (k N : Nat) (vs : List Value) (h0 : Heap) (n0 : Nat) (Z0 : n0 ≤ h0.size) (EX : Exa Z h0 a "java/lang/StringBuilder") (FV : Fld Z h0 a "java/lang/AbstractStringBuilder" "value" "[B" (.ref t)) (FC : Fld Z h0 a "java/lang/AbstractStringBuilder" "coder" "B" (.int (0 : Int32))) (FN : Fld Z h0 a "java/lang/AbstractStringBuilder" "count" "I" (.int (Int32.ofNat k))) (AT : Arv Z h0 t kt .byte (Int32.ofNat N) vs (.int (0 : Int32))) (ET : Exa Z h0 t "[B") :
    NM l (⟨"java/lang/StringBuilder", "length", "()I"⟩ : MethodName) jdk_67_method_93_code 1 (some .int) [] ({ frames := 1, cells := 0, slots := 0, locals := 13 } : Room) Z n0 #[(.ref a)] h0 [] (Pu (some (.int (Int32.ofNat k))) h0) := by
  refine NM.walk (Ls := #[.val (.ref a)]) pn_BL Z0 (fun m => by first | (simp [entryFrame, mkF, argsToLocals, Value.category]; done) | rfl) ?_
  intro p e s m below meth c s₁ hby hml hret hnm W0
  refine W0.aloadN (hb hby dBL_0) rfl rfl (pc' := 1) rfl ?_
  refine W0.callU (y := (⟨"java/lang/AbstractStringBuilder", "length", "()I"⟩ : MethodName)) (hw _ (List.mem_of_getElem? (i := 143) rfl)) (same_of (y' := (⟨"java/lang/AbstractStringBuilder", "ensureCapacityInternal", "(I)V"⟩ : MethodName)) (hw _ (List.mem_of_getElem? (i := 138) rfl)) (hw _ (List.mem_of_getElem? (i := 74) rfl)) rfl (by decide)) (hw _ (List.mem_of_getElem? (i := 139) rfl)) (hw _ (List.mem_of_getElem? (i := 55) rfl)) (by decide) (hw _ (List.mem_of_getElem? (i := 144) rfl)) (NM.bk (wd := 0) (rmAL l Z a0 hw a t kt k N vs h0 n0 W0.n0h EX FV FC FN AT ET) W0.2.2.2.1 (hw _ (List.mem_of_getElem? (i := 144) rfl)) (hw _ (List.mem_of_getElem? (i := 40) rfl)) (by decide) (by decide)) EX (hb hby dBL_1) (pc' := 4) rfl hml (argsL := []) rfl (lenOf pd_368a4b19 rfl) rfl (Nat.le_of_ble_eq_true rfl) (by decide) (by decide) (ws' := []) (fun _ _ _ q => ⟨q.2.2, q.2.1⟩) all0 ?_
  intro v1 T1 h1 L1' L1 W1 Q1 K1
  have z1 := K1.1
  obtain ⟨⟨rfl, hp⟩, -, -⟩ := Q1
  show Go p e below _ T1 (mkF m 4 #[.val (.ref a)] [(.int (Int32.ofNat k))])
  exact W1.retI hret (hb hby dBL_4) (by decide) (by decide) ⟨rfl, hp⟩
theorem dIA_0 : decode jdk_68_method_68_code 0 = .ok (.getstatic 18, 3) := by decide +kernel
theorem dIA_3 : decode jdk_68_method_68_code 3 = .ok (.ifCond .eq 14, 3) := by decide +kernel
theorem dIA_6 : decode jdk_68_method_68_code 6 = .ok (.aload_n 0, 1) := by decide +kernel
theorem dIA_7 : decode jdk_68_method_68_code 7 = .ok (.getfield 22, 3) := by decide +kernel
theorem dIA_10 : decode jdk_68_method_68_code 10 = .ok (.ifCond .ne 7, 3) := by decide +kernel
theorem dIA_13 : decode jdk_68_method_68_code 13 = .ok (.iconst 1, 1) := by decide +kernel
theorem dIA_14 : decode jdk_68_method_68_code 14 = .ok (.goto 4, 3) := by decide +kernel
theorem dIA_18 : decode jdk_68_method_68_code 18 = .ok (.ireturn, 1) := by decide +kernel
theorem pn_IA : plainFor (⟨"java/lang/AbstractStringBuilder", "isLatin1", "()Z"⟩ : MethodName) = true := by first | exact plainFor_of_name (by first | (simp [plainName, overriddenIn]; done) | decide +kernel) | decide +kernel
set_option maxRecDepth 65536 in
set_option maxHeartbeats 40000000 in
theorem rmIA (l : Launch) (Z : State) (a0 : Array Value) (hw : ∀ d ∈ tables_1, d.before a0 Z = true) (a t : Addr) (kt : ClassId) (k N : Nat) (vs : List Value) (zc : Int32) (h0 : Heap) (n0 : Nat) (Z0 : n0 ≤ h0.size) (EX : Exa Z h0 a "java/lang/StringBuilder") (FV : Fld Z h0 a "java/lang/AbstractStringBuilder" "value" "[B" (.ref t)) (FC : Fld Z h0 a "java/lang/AbstractStringBuilder" "coder" "B" (.int (0 : Int32))) (FN : Fld Z h0 a "java/lang/AbstractStringBuilder" "count" "I" (.int (Int32.ofNat k))) (AT : Arv Z h0 t kt .byte (Int32.ofNat N) vs (.int (0 : Int32))) (ET : Exa Z h0 t "[B") (SC : Sta Z h0 "java/lang/String" "COMPACT_STRINGS" "Z" (.int zc)) (hz : ¬ zc = 0) :
    NM l (⟨"java/lang/AbstractStringBuilder", "isLatin1", "()Z"⟩ : MethodName) jdk_68_method_68_code 1 (some .boolean) [] ({ frames := 0, cells := 0, slots := 0, locals := 0 } : Room) Z n0 #[(.ref a)] h0 [] (Pu (some (.int (1 : Int32))) h0) := by
  refine NM.walk (Ls := #[.val (.ref a)]) pn_IA Z0 (fun m => by first | (simp [entryFrame, mkF, argsToLocals, Value.category]; done) | rfl) ?_
  intro p e s m below meth c s₁ hby hml hret hnm W0
  refine W0.getS (host := "") (Or.inl (hw _ (List.mem_of_getElem? (i := 43) rfl))) Via.refl SC (hb hby dIA_0) (pc' := 3) rfl ?_
  intro T1 W1
  refine W1.ifNo (hb hby dIA_3) (XT.i0_eq_f hz) (pc' := 6) rfl ?_
  refine W1.aloadN (hb hby dIA_6) rfl rfl (pc' := 7) rfl ?_
  refine W1.getF (host := "") (Or.inl (hw _ (List.mem_of_getElem? (i := 46) rfl))) Via.refl FC (hb hby dIA_7) (pc' := 10) rfl ?_
  intro T2 W2
  refine W2.ifNo (hb hby dIA_10) (XT.i0_ne_f (by decide)) (pc' := 13) rfl ?_
  refine W2.iconst (1 : Int32) (hb hby dIA_13) rfl (pc' := 14) rfl ?_
  refine W2.goto (hb hby dIA_14) (by decide) (pc' := 18) (by decide) ?_
  exact W2.retZ hret (hb hby dIA_18) (by decide) (by decide) (by decide) ⟨rfl, rfl⟩
theorem dCL_0 : decode jdk_65_method_131_code 0 = .ok (.iload_n 1, 1) := by decide +kernel
theorem dCL_1 : decode jdk_65_method_131_code 1 = .ok (.iload_n 0, 1) := by decide +kernel
theorem dCL_2 : decode jdk_65_method_131_code 2 = .ok (.if_icmp .ge 35, 3) := by decide +kernel
theorem dCL_37 : decode jdk_65_method_131_code 37 = .ok (.return_, 1) := by decide +kernel
theorem pn_CL : plainFor (⟨"java/util/Arrays", "checkLength", "(II)V"⟩ : MethodName) = true := by first | exact plainFor_of_name (by first | (simp [plainName, overriddenIn]; done) | decide +kernel) | decide +kernel
set_option maxRecDepth 65536 in
set_option maxHeartbeats 40000000 in
theorem rmCL (l : Launch) (Z : State) (a0 : Array Value) (hw : ∀ d ∈ tables_1, d.before a0 Z = true) (k : Nat) (h0 : Heap) (n0 : Nat) (Z0 : n0 ≤ h0.size) (hk : k ≤ 4000) :
    NM l (⟨"java/util/Arrays", "checkLength", "(II)V"⟩ : MethodName) jdk_65_method_131_code 2 none [] ({ frames := 0, cells := 0, slots := 0, locals := 0 } : Room) Z n0 #[(.int (0 : Int32)), (.int (Int32.ofNat k))] h0 [] (Pu none h0) := by
  refine NM.walk (Ls := #[.val (.int (0 : Int32)), .val (.int (Int32.ofNat k))]) pn_CL Z0 (fun m => by first | (simp [entryFrame, mkF, argsToLocals, Value.category]; done) | rfl) ?_
  intro p e s m below meth c s₁ hby hml hret hnm W0
  refine W0.iloadN (hb hby dCL_0) rfl (pc' := 1) rfl ?_
  refine W0.iloadN (hb hby dCL_1) rfl (pc' := 2) rfl ?_
  refine W0.icmpYes (hb hby dCL_2) (XT.ii_ge_t (ofNat_nn (by omega))) (by decide) (pc' := 37) (by decide) ?_
  exact W0.retV hret (hb hby dCL_37) (by decide) (by decide) ⟨rfl, rfl⟩
theorem dRB_0 : decode jdk_65_method_133_code 0 = .ok (.iload_n 1, 1) := by decide +kernel
theorem dRB_1 : decode jdk_65_method_133_code 1 = .ok (.iload_n 2, 1) := by decide +kernel
theorem dRB_2 : decode jdk_65_method_133_code 2 = .ok (.invokestatic 343, 3) := by decide +kernel
theorem pd_4d0c4db6 : parseMethodDescriptor "(II)V" = some ⟨[.int, .int], none⟩ := by decide +kernel
theorem dRB_5 : decode jdk_65_method_133_code 5 = .ok (.iload_n 2, 1) := by decide +kernel
theorem dRB_6 : decode jdk_65_method_133_code 6 = .ok (.iload_n 1, 1) := by decide +kernel
theorem dRB_7 : decode jdk_65_method_133_code 7 = .ok (.isub, 1) := by decide +kernel
theorem dRB_8 : decode jdk_65_method_133_code 8 = .ok (.istore_n 3, 1) := by decide +kernel
theorem dRB_9 : decode jdk_65_method_133_code 9 = .ok (.iload_n 3, 1) := by decide +kernel
theorem dRB_10 : decode jdk_65_method_133_code 10 = .ok (.newarray .byte, 2) := by decide +kernel
theorem dRB_12 : decode jdk_65_method_133_code 12 = .ok (.astore 4, 2) := by decide +kernel
theorem dRB_14 : decode jdk_65_method_133_code 14 = .ok (.aload_n 0, 1) := by decide +kernel
theorem dRB_15 : decode jdk_65_method_133_code 15 = .ok (.iload_n 1, 1) := by decide +kernel
theorem dRB_16 : decode jdk_65_method_133_code 16 = .ok (.aload 4, 2) := by decide +kernel
theorem dRB_18 : decode jdk_65_method_133_code 18 = .ok (.iconst 0, 1) := by decide +kernel
theorem dRB_19 : decode jdk_65_method_133_code 19 = .ok (.aload_n 0, 1) := by decide +kernel
theorem dRB_20 : decode jdk_65_method_133_code 20 = .ok (.arraylength, 1) := by decide +kernel
theorem dRB_21 : decode jdk_65_method_133_code 21 = .ok (.iload_n 1, 1) := by decide +kernel
theorem dRB_22 : decode jdk_65_method_133_code 22 = .ok (.isub, 1) := by decide +kernel
theorem dRB_23 : decode jdk_65_method_133_code 23 = .ok (.iload_n 3, 1) := by decide +kernel
theorem dRB_24 : decode jdk_65_method_133_code 24 = .ok (.invokestatic 304, 3) := by decide +kernel
theorem dRB_27 : decode jdk_65_method_133_code 27 = .ok (.invokestatic 150, 3) := by decide +kernel
theorem dRB_30 : decode jdk_65_method_133_code 30 = .ok (.aload 4, 2) := by decide +kernel
theorem dRB_32 : decode jdk_65_method_133_code 32 = .ok (.areturn, 1) := by decide +kernel
theorem pn_RB : plainFor (⟨"java/util/Arrays", "copyOfRangeByte", "([BII)[B"⟩ : MethodName) = true := by first | exact plainFor_of_name (by first | (simp [plainName, overriddenIn]; done) | decide +kernel) | decide +kernel
set_option maxRecDepth 65536 in
set_option maxHeartbeats 40000000 in
theorem rmRB (l : Launch) (Z : State) (a0 : Array Value) (hw : ∀ d ∈ tables_1, d.before a0 Z = true) (t : Addr) (kt : ClassId) (k N : Nat) (vs : List Value) (cs : List Int32) (h0 : Heap) (n0 : Nat) (Z0 : n0 ≤ h0.size) (AT : Arv Z h0 t kt .byte (Int32.ofNat N) vs (.int (0 : Int32))) (ET : Exa Z h0 t "[B") (hkc : k = cs.length) (hk : k ≤ N) (hN : N ≤ 62) (H : ∀ i, i < cs.length → vs.getD i (.int (0 : Int32)) = .int (StrChars.lo8 (cs.getD i 0))) :
    NM l (⟨"java/util/Arrays", "copyOfRangeByte", "([BII)[B"⟩ : MethodName) jdk_65_method_133_code 5 (some (.array .byte)) [] ({ frames := 1, cells := 1, slots := 64, locals := 40 } : Room) Z n0 #[(.ref t), (.int (0 : Int32)), (.int (Int32.ofNat k))] h0 [] (fun v h => ∃ d kd, v = some (.ref d) ∧ h0.size ≤ d ∧ Arv Z h d kd .byte (Int32.ofNat k) (lob cs) (.int (0 : Int32))) := by
  refine NM.walk (Ls := #[.val (.ref t), .val (.int (0 : Int32)), .val (.int (Int32.ofNat k)), .unset, .unset]) pn_RB Z0 (fun m => by first | (simp [entryFrame, mkF, argsToLocals, Value.category]; done) | rfl) ?_
  intro p e s m below meth c s₁ hby hml hret hnm W0
  refine W0.iloadN (hb hby dRB_0) rfl (pc' := 1) rfl ?_
  refine W0.iloadN (hb hby dRB_1) rfl (pc' := 2) rfl ?_
  refine W0.callSP (hw _ (List.mem_of_getElem? (i := 153) rfl)) (hw _ (List.mem_of_getElem? (i := 154) rfl)) (hw _ (List.mem_of_getElem? (i := 148) rfl)) (hw _ (List.mem_of_getElem? (i := 155) rfl)) (by decide) (NM.bk (wd := 0) (rmCL l Z a0 hw k h0 n0 W0.n0h (by omega)) W0.2.2.2.1 (hw _ (List.mem_of_getElem? (i := 155) rfl)) (hw _ (List.mem_of_getElem? (i := 148) rfl)) (by decide) (by decide)) (hb hby dRB_2) (pc' := 5) rfl hml (argsL := [(.int (0 : Int32)), (.int (Int32.ofNat k))]) rfl (lenOf pd_4d0c4db6 rfl) rfl (Nat.le_of_ble_eq_true rfl) (by decide) (by decide) (fun _ _ _ q => pu_of q) ?_
  intro T1 L1 W1
  show Go p e below _ T1 (mkF m 5 #[.val (.ref t), .val (.int (0 : Int32)), .val (.int (Int32.ofNat k)), .unset, .unset] [])
  refine W1.iloadN (hb hby dRB_5) rfl (pc' := 6) rfl ?_
  refine W1.iloadN (hb hby dRB_6) rfl (pc' := 7) rfl ?_
  refine W1.isub (hb hby dRB_7) (pc' := 8) rfl ?_
  rw [Int32.sub_zero]
  refine W1.istoreN (Ls' := #[.val (.ref t), .val (.int (0 : Int32)), .val (.int (Int32.ofNat k)), .val (.int (Int32.ofNat k)), .unset]) (hb hby dRB_8) rfl (pc' := 9) rfl ?_
  refine W1.iloadN (hb hby dRB_9) rfl (pc' := 10) rfl ?_
  refine W1.newPE (hw _ (List.mem_of_getElem? (i := 19) rfl)) (hb hby dRB_10) (pc' := 12) rfl (ofNat_nn (by omega)) (cap := 64) (by rw [clN (by omega)]; omega) (by decide) (by decide) (by decide) (ad := "[B") (by decide) ?_
  intro T3 h3 a3 k3 g3 ge3 gn3 W3 E3 V3' X3
  have V3 : Arv Z h3 a3 k3 .byte (Int32.ofNat k) (List.replicate 64 (.int (0 : Int32))) (.int (0 : Int32)) := V3'
  have z3 := E3.1
  have y3 := Nat.le_of_eq g3.symm
  refine W3.astore (Ls' := #[.val (.ref t), .val (.int (0 : Int32)), .val (.int (Int32.ofNat k)), .val (.int (Int32.ofNat k)), .val (.ref a3)]) (hb hby dRB_12) rfl rfl (pc' := 14) rfl ?_
  refine W3.aloadN (hb hby dRB_14) rfl rfl (pc' := 15) rfl ?_
  refine W3.iloadN (hb hby dRB_15) rfl (pc' := 16) rfl ?_
  refine W3.aload (hb hby dRB_16) rfl rfl (pc' := 18) rfl ?_
  refine W3.iconst (0 : Int32) (hb hby dRB_18) rfl (pc' := 19) rfl ?_
  refine W3.aloadN (hb hby dRB_19) rfl rfl (pc' := 20) rfl ?_
  have F4 := Arv.ext AT E3
  refine W3.arraylength F4 (hb hby dRB_20) (pc' := 21) rfl ?_
  refine W3.iloadN (hb hby dRB_21) rfl (pc' := 22) rfl ?_
  refine W3.isub (hb hby dRB_22) (pc' := 23) rfl ?_
  rw [Int32.sub_zero]
  refine W3.iloadN (hb hby dRB_23) rfl (pc' := 24) rfl ?_
  refine W3.callSP (hw _ (List.mem_of_getElem? (i := 156) rfl)) (hw _ (List.mem_of_getElem? (i := 157) rfl)) (hw _ (List.mem_of_getElem? (i := 158) rfl)) (hw _ (List.mem_of_getElem? (i := 159) rfl)) (by decide) (NM.bk (wd := 4) (rmMN l Z a0 hw (Int32.ofNat N) (Int32.ofNat k) h3 n0 W3.n0h ) W3.2.2.2.1 (hw _ (List.mem_of_getElem? (i := 159) rfl)) (hw _ (List.mem_of_getElem? (i := 158) rfl)) (by decide) (by decide)) (hb hby dRB_24) (pc' := 27) rfl hml (argsL := [(.int (Int32.ofNat N)), (.int (Int32.ofNat k))]) rfl (lenOf pd_d33b191e rfl) rfl (Nat.le_of_ble_eq_true rfl) (by decide) (by decide) (fun _ _ _ q => pu_of q) ?_
  intro T5 L5 W5
  show Go p e below _ T5 (mkF m 27 #[.val (.ref t), .val (.int (0 : Int32)), .val (.int (Int32.ofNat k)), .val (.int (Int32.ofNat k)), .val (.ref a3)] [(.int (minF (Int32.ofNat N) (Int32.ofNat k))), (.int (0 : Int32)), (.ref a3), (.int (0 : Int32)), (.ref t)])
  rw [min_nat (by omega) (by omega), show min N k = k from by omega]
  refine W5.acopy (hw _ (List.mem_of_getElem? (i := 160) rfl)) (hw _ (List.mem_of_getElem? (i := 95) rfl)) (hw _ (List.mem_of_getElem? (i := 93) rfl)) (hw _ (List.mem_of_getElem? (i := 94) rfl)) F4 V3 rfl (by decide) (by decide) (ofNat_nn (by omega)) (by rw [clN (by omega), clN (by omega)]; show 0 + _ ≤ _; omega) (by rw [clN (by omega)]; show 0 + _ ≤ _; omega) (by rw [clN (by omega), List.length_replicate]; show 0 + _ ≤ _; omega) (hb hby dRB_27) (pc' := 30) rfl hml (Or.inr ge3) gn3 (by decide) (wd := 0) (Nat.le_of_ble_eq_true rfl) (by decide) ?_
  intro T6 h6 L6 W6 K6 V6
  have z6 := K6.1
  refine W6.aload (hb hby dRB_30) rfl rfl (pc' := 32) rfl ?_
  exact W6.retA hret rfl rfl (hb hby dRB_32) (by decide) (by decide) ⟨a3, k3, rfl, ge3, Arv.padB V6 (fun i hi => by rw [clN (by omega)] at hi; rw [clN (by omega), lob_at, ← H i (by omega)]; exact (cp_at (by omega) i hi).symm)⟩
theorem dCR_0 : decode jdk_65_method_132_code 0 = .ok (.iload_n 1, 1) := by decide +kernel
theorem dCR_1 : decode jdk_65_method_132_code 1 = .ok (.ifCond .ne 9, 3) := by decide +kernel
theorem dCR_4 : decode jdk_65_method_132_code 4 = .ok (.iload_n 2, 1) := by decide +kernel
theorem dCR_5 : decode jdk_65_method_132_code 5 = .ok (.aload_n 0, 1) := by decide +kernel
theorem dCR_6 : decode jdk_65_method_132_code 6 = .ok (.arraylength, 1) := by decide +kernel
theorem dCR_7 : decode jdk_65_method_132_code 7 = .ok (.if_icmp .eq 10, 3) := by decide +kernel
theorem dCR_17 : decode jdk_65_method_132_code 17 = .ok (.aload_n 0, 1) := by decide +kernel
theorem dCR_18 : decode jdk_65_method_132_code 18 = .ok (.invokevirtual 310, 3) := by decide +kernel
theorem dCR_21 : decode jdk_65_method_132_code 21 = .ok (.checkcast 311, 3) := by decide +kernel
theorem dCR_24 : decode jdk_65_method_132_code 24 = .ok (.areturn, 1) := by decide +kernel
theorem dCR_10 : decode jdk_65_method_132_code 10 = .ok (.aload_n 0, 1) := by decide +kernel
theorem dCR_11 : decode jdk_65_method_132_code 11 = .ok (.iload_n 1, 1) := by decide +kernel
theorem dCR_12 : decode jdk_65_method_132_code 12 = .ok (.iload_n 2, 1) := by decide +kernel
theorem dCR_13 : decode jdk_65_method_132_code 13 = .ok (.invokestatic 339, 3) := by decide +kernel
theorem pd_9c05a64f : parseMethodDescriptor "([BII)[B" = some ⟨[(.array .byte), .int, .int], some (.array .byte)⟩ := by decide +kernel
theorem dCR_16 : decode jdk_65_method_132_code 16 = .ok (.areturn, 1) := by decide +kernel
theorem pn_CR : plainFor (⟨"java/util/Arrays", "copyOfRange", "([BII)[B"⟩ : MethodName) = true := by first | exact plainFor_of_name (by first | (simp [plainName, overriddenIn]; done) | decide +kernel) | decide +kernel
set_option maxRecDepth 65536 in
set_option maxHeartbeats 40000000 in
theorem rmCR (l : Launch) (Z : State) (a0 : Array Value) (hw : ∀ d ∈ tables_1, d.before a0 Z = true) (t : Addr) (kt : ClassId) (k N : Nat) (vs : List Value) (cs : List Int32) (h0 : Heap) (n0 : Nat) (Z0 : n0 ≤ h0.size) (AT : Arv Z h0 t kt .byte (Int32.ofNat N) vs (.int (0 : Int32))) (ET : Exa Z h0 t "[B") (hkc : k = cs.length) (hk : k ≤ N) (hN : N ≤ 62) (H : ∀ i, i < cs.length → vs.getD i (.int (0 : Int32)) = .int (StrChars.lo8 (cs.getD i 0))) :
    NM l (⟨"java/util/Arrays", "copyOfRange", "([BII)[B"⟩ : MethodName) jdk_65_method_132_code 3 (some (.array .byte)) [] ({ frames := 2, cells := 1, slots := 64, locals := 58 } : Room) Z n0 #[(.ref t), (.int (0 : Int32)), (.int (Int32.ofNat k))] h0 [] (fun v h => ∃ d kd, v = some (.ref d) ∧ h0.size ≤ d ∧ Arv Z h d kd .byte (Int32.ofNat k) (lob cs) (.int (0 : Int32))) := by
  refine NM.walk (Ls := #[.val (.ref t), .val (.int (0 : Int32)), .val (.int (Int32.ofNat k))]) pn_CR Z0 (fun m => by first | (simp [entryFrame, mkF, argsToLocals, Value.category]; done) | rfl) ?_
  intro p e s m below meth c s₁ hby hml hret hnm W0
  refine W0.iloadN (hb hby dCR_0) rfl (pc' := 1) rfl ?_
  refine W0.ifNo (hb hby dCR_1) (XT.i0_ne_f (by decide)) (pc' := 4) rfl ?_
  refine W0.iloadN (hb hby dCR_4) rfl (pc' := 5) rfl ?_
  refine W0.aloadN (hb hby dCR_5) rfl rfl (pc' := 6) rfl ?_
  refine W0.arraylength AT (hb hby dCR_6) (pc' := 7) rfl ?_
  by_cases hc1 : (Int32.ofNat k) = (Int32.ofNat N)
  · refine W0.icmpYes (hb hby dCR_7) (XT.ii_eq_t hc1) (by decide) (pc' := 17) (by decide) ?_
    refine W0.aloadN (hb hby dCR_17) rfl rfl (pc' := 18) rfl ?_
    refine W0.cloneA (hw _ (List.mem_of_getElem? (i := 230) rfl)) (hw _ (List.mem_of_getElem? (i := 231) rfl)) (hw _ (List.mem_of_getElem? (i := 235) rfl)) (hw _ (List.mem_of_getElem? (i := 233) rfl)) (hw _ (List.mem_of_getElem? (i := 234) rfl)) (hw _ (List.mem_of_getElem? (i := 236) rfl)) AT ET (hb hby dCR_18) (pc' := 21) rfl hml (by decide) (wd := 0) (cap := 64) (Nat.le_of_ble_eq_true rfl) (by decide) (by rw [clN (by omega)]; omega) (by decide) (by decide) ?_
    intro T2 h2 b2 g2 ge2 gn2 W2 E2 V2 X2
    have z2 := E2.1
    have y2 := Nat.le_of_eq g2.symm
    refine W2.castY (hw _ (List.mem_of_getElem? (i := 237) rfl)) (Ins.self X2) (hb hby dCR_21) (pc' := 24) rfl ?_
    intro T3 W3
    exact W3.retA hret rfl rfl (hb hby dCR_24) (by decide) (by decide) ⟨b2, kt, rfl, ge2, by have e := nat_eq (by omega) (by omega) hc1; rw [e]; exact Arv.padB V2 (fun i hi => by rw [clN (by omega)] at hi; rw [lob_at, ← H i (by omega)])⟩
  · refine W0.icmpNo (hb hby dCR_7) (XT.ii_eq_f hc1) (pc' := 10) rfl ?_
    refine W0.aloadN (hb hby dCR_10) rfl rfl (pc' := 11) rfl ?_
    refine W0.iloadN (hb hby dCR_11) rfl (pc' := 12) rfl ?_
    refine W0.iloadN (hb hby dCR_12) rfl (pc' := 13) rfl ?_
    refine W0.callS (hw _ (List.mem_of_getElem? (i := 150) rfl)) (hw _ (List.mem_of_getElem? (i := 151) rfl)) (hw _ (List.mem_of_getElem? (i := 148) rfl)) (hw _ (List.mem_of_getElem? (i := 152) rfl)) (by decide) (NM.bk (wd := 0) (rmRB l Z a0 hw t kt k N vs cs h0 n0 W0.n0h AT ET hkc hk hN H) W0.2.2.2.1 (hw _ (List.mem_of_getElem? (i := 152) rfl)) (hw _ (List.mem_of_getElem? (i := 148) rfl)) (by decide) (by decide)) (hb hby dCR_13) (pc' := 16) rfl hml (argsL := [(.ref t), (.int (0 : Int32)), (.int (Int32.ofNat k))]) rfl (lenOf pd_9c05a64f rfl) rfl (Nat.le_of_ble_eq_true rfl) (by decide) (by decide) (ws' := []) (fun _ _ _ q => ⟨q.2.2, q.2.1⟩) all0 ?_
    intro v4 T4 h4 L4' L4 W4 Q4 K4
    have z4 := K4.1
    obtain ⟨⟨b4, kb4, rfl, ge4, V4⟩, -, -⟩ := Q4
    show Go p e below _ T4 (mkF m 16 #[.val (.ref t), .val (.int (0 : Int32)), .val (.int (Int32.ofNat k))] [(.ref b4)])
    exact W4.retA hret rfl rfl (hb hby dCR_16) (by decide) (by decide) ⟨b4, kb4, rfl, ge4, V4⟩
--CUT tos2
theorem dSV_0 : decode jdk_42_method_150_code 0 = .ok (.aload_n 0, 1) := by decide +kernel
theorem dSV_1 : decode jdk_42_method_150_code 1 = .ok (.invokespecial 1, 3) := by decide +kernel
theorem dSV_4 : decode jdk_42_method_150_code 4 = .ok (.aload_n 1, 1) := by decide +kernel
theorem dSV_5 : decode jdk_42_method_150_code 5 = .ok (.invokevirtual 552, 3) := by decide +kernel
theorem pd_4585f47b : parseMethodDescriptor "()[B" = some ⟨[], some (.array .byte)⟩ := by decide +kernel
theorem dSV_8 : decode jdk_42_method_150_code 8 = .ok (.astore_n 3, 1) := by decide +kernel
theorem dSV_9 : decode jdk_42_method_150_code 9 = .ok (.aload_n 1, 1) := by decide +kernel
theorem dSV_10 : decode jdk_42_method_150_code 10 = .ok (.invokevirtual 549, 3) := by decide +kernel
theorem dSV_13 : decode jdk_42_method_150_code 13 = .ok (.istore 4, 2) := by decide +kernel
theorem dSV_15 : decode jdk_42_method_150_code 15 = .ok (.aload_n 1, 1) := by decide +kernel
theorem dSV_16 : decode jdk_42_method_150_code 16 = .ok (.invokevirtual 1047, 3) := by decide +kernel
theorem pd_bfe1a59d : parseMethodDescriptor "()Z" = some ⟨[], some .boolean⟩ := by decide +kernel
theorem dSV_19 : decode jdk_42_method_150_code 19 = .ok (.ifCond .eq 22, 3) := by decide +kernel
theorem dSV_22 : decode jdk_42_method_150_code 22 = .ok (.aload_n 0, 1) := by decide +kernel
theorem dSV_23 : decode jdk_42_method_150_code 23 = .ok (.iconst 0, 1) := by decide +kernel
theorem dSV_24 : decode jdk_42_method_150_code 24 = .ok (.putfield 15, 3) := by decide +kernel
theorem dSV_27 : decode jdk_42_method_150_code 27 = .ok (.aload_n 0, 1) := by decide +kernel
theorem dSV_28 : decode jdk_42_method_150_code 28 = .ok (.aload_n 3, 1) := by decide +kernel
theorem dSV_29 : decode jdk_42_method_150_code 29 = .ok (.iconst 0, 1) := by decide +kernel
theorem dSV_30 : decode jdk_42_method_150_code 30 = .ok (.iload 4, 2) := by decide +kernel
theorem dSV_32 : decode jdk_42_method_150_code 32 = .ok (.invokestatic 54, 3) := by decide +kernel
theorem dSV_35 : decode jdk_42_method_150_code 35 = .ok (.putfield 9, 3) := by decide +kernel
theorem dSV_38 : decode jdk_42_method_150_code 38 = .ok (.goto 59, 3) := by decide +kernel
theorem dSV_97 : decode jdk_42_method_150_code 97 = .ok (.return_, 1) := by decide +kernel
theorem pn_SV : plainFor (⟨"java/lang/String", "<init>", "(Ljava/lang/AbstractStringBuilder;Ljava/lang/Void;)V"⟩ : MethodName) = true := by first | exact plainFor_of_name (by first | (simp [plainName, overriddenIn]; done) | decide +kernel) | decide +kernel
set_option maxRecDepth 65536 in
set_option maxHeartbeats 40000000 in
theorem rmSV (l : Launch) (Z : State) (a0 : Array Value) (hw : ∀ d ∈ tables_1, d.before a0 Z = true) (x : Addr) (a t : Addr) (kt : ClassId) (k N : Nat) (vs : List Value) (cs : List Int32) (zc : Int32) (h0 : Heap) (n0 : Nat) (Z0 : n0 ≤ h0.size) (gx : n0 ≤ x) (XX : Exa Z h0 x "java/lang/String") (XV : Fld Z h0 x "java/lang/String" "value" "[B" .null) (XC : Fld Z h0 x "java/lang/String" "coder" "B" (.int (0 : Int32))) (EX : Exa Z h0 a "java/lang/StringBuilder") (FV : Fld Z h0 a "java/lang/AbstractStringBuilder" "value" "[B" (.ref t)) (FC : Fld Z h0 a "java/lang/AbstractStringBuilder" "coder" "B" (.int (0 : Int32))) (FN : Fld Z h0 a "java/lang/AbstractStringBuilder" "count" "I" (.int (Int32.ofNat k))) (AT : Arv Z h0 t kt .byte (Int32.ofNat N) vs (.int (0 : Int32))) (ET : Exa Z h0 t "[B") (hkc : k = cs.length) (hk : k ≤ N) (hN : N ≤ 62) (H : ∀ i, i < cs.length → vs.getD i (.int (0 : Int32)) = .int (StrChars.lo8 (cs.getD i 0))) (HL : ∀ c ∈ cs, ¬ c < 0 ∧ ¬ (255 : Int32) < c) (SC : Sta Z h0 "java/lang/String" "COMPACT_STRINGS" "Z" (.int zc)) (hz : ¬ zc = 0) :
    NM l (⟨"java/lang/String", "<init>", "(Ljava/lang/AbstractStringBuilder;Ljava/lang/Void;)V"⟩ : MethodName) jdk_42_method_150_code 5 none [] ({ frames := 3, cells := 1, slots := 64, locals := 78 } : Room) Z n0 #[(.ref x), (.ref a), .null] h0 [x] (fun v h => v = none ∧ StrA Z h x cs) := by
  refine NM.walk (Ls := #[.val (.ref x), .val (.ref a), .val .null, .unset, .unset]) pn_SV Z0 (fun m => by first | (simp [entryFrame, mkF, argsToLocals, Value.category]; done) | rfl) ?_
  intro p e s m below meth c s₁ hby hml hret hnm W0
  refine W0.aloadN (hb hby dSV_0) rfl rfl (pc' := 1) rfl ?_
  refine W0.initO (hw _ (List.mem_of_getElem? (i := 15) rfl)) (hw _ (List.mem_of_getElem? (i := 16) rfl)) (hw _ (List.mem_of_getElem? (i := 17) rfl)) (hb hby dSV_1) (pc' := 4) rfl hml (by decide) (wd := 0) (Nat.le_of_ble_eq_true rfl) (by decide) ?_
  intro T1 W1
  refine W1.aloadN (hb hby dSV_4) rfl rfl (pc' := 5) rfl ?_
  refine W1.callVP (y := (⟨"java/lang/AbstractStringBuilder", "getValue", "()[B"⟩ : MethodName)) (z := (⟨"java/lang/AbstractStringBuilder", "getValue", "()[B"⟩ : MethodName)) (hw _ (List.mem_of_getElem? (i := 132) rfl)) (hw _ (List.mem_of_getElem? (i := 133) rfl)) (hw _ (List.mem_of_getElem? (i := 135) rfl)) (hw _ (List.mem_of_getElem? (i := 135) rfl)) (hw _ (List.mem_of_getElem? (i := 134) rfl)) (by decide) (NM.bk (wd := 0) (rmGV l Z a0 hw a t kt k N vs h0 n0 W1.n0h EX FV FC FN AT ET) W1.2.2.2.1 (hw _ (List.mem_of_getElem? (i := 136) rfl)) (hw _ (List.mem_of_getElem? (i := 40) rfl)) (by decide) (by decide)) EX (hb hby dSV_5) (pc' := 8) rfl hml (argsL := []) rfl (lenOf pd_4585f47b rfl) rfl (Nat.le_of_ble_eq_true rfl) (by decide) (by decide) (fun _ _ _ q => pu_of q) ?_
  intro T2 L2 W2
  show Go p e below _ T2 (mkF m 8 #[.val (.ref x), .val (.ref a), .val .null, .unset, .unset] [(.ref t)])
  refine W2.astoreN (Ls' := #[.val (.ref x), .val (.ref a), .val .null, .val (.ref t), .unset]) (hb hby dSV_8) rfl rfl (pc' := 9) rfl ?_
  refine W2.aloadN (hb hby dSV_9) rfl rfl (pc' := 10) rfl ?_
  refine W2.callVP2 (y := (⟨"java/lang/AbstractStringBuilder", "length", "()I"⟩ : MethodName)) (z := (⟨"java/lang/StringBuilder", "length", "()I"⟩ : MethodName)) (y' := (⟨"java/lang/AbstractStringBuilder", "ensureCapacityInternal", "(I)V"⟩ : MethodName)) (hw _ (List.mem_of_getElem? (i := 137) rfl)) (hw _ (List.mem_of_getElem? (i := 138) rfl)) (hw _ (List.mem_of_getElem? (i := 140) rfl)) (hw _ (List.mem_of_getElem? (i := 74) rfl)) rfl (hw _ (List.mem_of_getElem? (i := 141) rfl)) (by decide) (NM.bk (wd := 0) (rmBL l Z a0 hw a t kt k N vs h0 n0 W2.n0h EX FV FC FN AT ET) W2.2.2.2.1 (hw _ (List.mem_of_getElem? (i := 142) rfl)) (hw _ (List.mem_of_getElem? (i := 32) rfl)) (by decide) (by decide)) EX (hb hby dSV_10) (pc' := 13) rfl hml (argsL := []) rfl (lenOf pd_368a4b19 rfl) rfl (Nat.le_of_ble_eq_true rfl) (by decide) (by decide) (fun _ _ _ q => pu_of q) ?_
  intro T3 L3 W3
  show Go p e below _ T3 (mkF m 13 #[.val (.ref x), .val (.ref a), .val .null, .val (.ref t), .unset] [(.int (Int32.ofNat k))])
  refine W3.istore (Ls' := #[.val (.ref x), .val (.ref a), .val .null, .val (.ref t), .val (.int (Int32.ofNat k))]) (hb hby dSV_13) rfl (pc' := 15) rfl ?_
  refine W3.aloadN (hb hby dSV_15) rfl rfl (pc' := 16) rfl ?_
  refine W3.callVP (y := (⟨"java/lang/AbstractStringBuilder", "isLatin1", "()Z"⟩ : MethodName)) (z := (⟨"java/lang/AbstractStringBuilder", "isLatin1", "()Z"⟩ : MethodName)) (hw _ (List.mem_of_getElem? (i := 145) rfl)) (hw _ (List.mem_of_getElem? (i := 112) rfl)) (hw _ (List.mem_of_getElem? (i := 114) rfl)) (hw _ (List.mem_of_getElem? (i := 114) rfl)) (hw _ (List.mem_of_getElem? (i := 113) rfl)) (by decide) (NM.bk (wd := 0) (rmIA l Z a0 hw a t kt k N vs zc h0 n0 W3.n0h EX FV FC FN AT ET SC hz) W3.2.2.2.1 (hw _ (List.mem_of_getElem? (i := 115) rfl)) (hw _ (List.mem_of_getElem? (i := 40) rfl)) (by decide) (by decide)) EX (hb hby dSV_16) (pc' := 19) rfl hml (argsL := []) rfl (lenOf pd_bfe1a59d rfl) rfl (Nat.le_of_ble_eq_true rfl) (by decide) (by decide) (fun _ _ _ q => pu_of q) ?_
  intro T4 L4 W4
  show Go p e below _ T4 (mkF m 19 #[.val (.ref x), .val (.ref a), .val .null, .val (.ref t), .val (.int (Int32.ofNat k))] [(.int (1 : Int32))])
  refine W4.ifNo (hb hby dSV_19) (XT.i0_eq_f (by decide)) (pc' := 22) rfl ?_
  refine W4.aloadN (hb hby dSV_22) rfl rfl (pc' := 23) rfl ?_
  refine W4.iconst (0 : Int32) (hb hby dSV_23) rfl (pc' := 24) rfl ?_
  refine W4.putF (host := "") (Or.inl (hw _ (List.mem_of_getElem? (i := 25) rfl))) Via.refl XC XX (Or.inr ⟨(hw _ (List.mem_of_getElem? (i := 21) rfl)), rfl, hnm⟩) (hw _ (List.mem_of_getElem? (i := 5) rfl)) (ty := .byte) (by decide) rfl rfl (hb hby dSV_24) (pc' := 27) rfl (Or.inl (List.mem_of_getElem? (i := 0) rfl)) gx ?_
  intro T5 h5 L5 W5 Q5
  have K5 := Keep.of_wr Q5
  have z5 := K5.1
  have A5 := Exa.wr Q5 XX
  have B5 := Fld.same Q5 XC
  have B5_value := Fld.other Q5 XV (Or.inr (slot_ne (Or.inr (hw _ (List.mem_of_getElem? (i := 20) rfl))) (Or.inr (hw _ (List.mem_of_getElem? (i := 21) rfl))) (by decide) (t := (.array .byte)) (t' := .byte) (by decide) (by decide)))
  refine W5.aloadN (hb hby dSV_27) rfl rfl (pc' := 28) rfl ?_
  refine W5.aloadN (hb hby dSV_28) rfl rfl (pc' := 29) rfl ?_
  refine W5.iconst (0 : Int32) (hb hby dSV_29) rfl (pc' := 30) rfl ?_
  refine W5.iload (hb hby dSV_30) rfl (pc' := 32) rfl ?_
  have F7 := (AT.keep K5 (ninS (fun q => Exa.neArv XX AT (hw _ (List.mem_of_getElem? (i := 5) rfl)) q.symm) nin0))
  have F8 := (ET.keep K5)
  refine W5.callS (hw _ (List.mem_of_getElem? (i := 146) rfl)) (hw _ (List.mem_of_getElem? (i := 147) rfl)) (hw _ (List.mem_of_getElem? (i := 148) rfl)) (hw _ (List.mem_of_getElem? (i := 149) rfl)) (by decide) (NM.bk (wd := 1) (rmCR l Z a0 hw t kt k N vs cs h5 n0 W5.n0h F7 F8 hkc hk hN H) W5.2.2.2.1 (hw _ (List.mem_of_getElem? (i := 149) rfl)) (hw _ (List.mem_of_getElem? (i := 148) rfl)) (by decide) (by decide)) (hb hby dSV_32) (pc' := 35) rfl hml (argsL := [(.ref t), (.int (0 : Int32)), (.int (Int32.ofNat k))]) rfl (lenOf pd_9c05a64f rfl) rfl (Nat.le_of_ble_eq_true rfl) (by decide) (by decide) (ws' := []) (fun _ _ _ q => ⟨q.2.2, q.2.1⟩) all0 ?_
  intro v6 T6 h6 L6' L6 W6 Q6 K6
  have z6 := K6.1
  obtain ⟨⟨b6, kb6, rfl, ge6, V6⟩, -, -⟩ := Q6
  show Go p e below _ T6 (mkF m 35 #[.val (.ref x), .val (.ref a), .val .null, .val (.ref t), .val (.int (Int32.ofNat k))] [(.ref b6), (.ref x)])
  have F10 := Fld.ext (Keep.toExt K6) B5_value
  have F11 := Exa.ext (Keep.toExt K6) A5
  have F12 := Fld.ext (Keep.toExt K6) B5
  refine W6.putF (host := "") (Or.inl (hw _ (List.mem_of_getElem? (i := 24) rfl))) Via.refl F10 F11 (Or.inr ⟨(hw _ (List.mem_of_getElem? (i := 20) rfl)), rfl, hnm⟩) (hw _ (List.mem_of_getElem? (i := 5) rfl)) (ty := (.array .byte)) (by decide) rfl rfl (hb hby dSV_35) (pc' := 38) rfl (Or.inl (List.mem_of_getElem? (i := 0) rfl)) gx ?_
  intro T9 h9 L9 W9 Q9
  have K9 := Keep.of_wr Q9
  have z9 := K9.1
  have A9 := Exa.wr Q9 F11
  have B9 := Fld.same Q9 F10
  have B9_coder := Fld.other Q9 F12 (Or.inr (slot_ne (Or.inr (hw _ (List.mem_of_getElem? (i := 21) rfl))) (Or.inr (hw _ (List.mem_of_getElem? (i := 20) rfl))) (by decide) (t := .byte) (t' := (.array .byte)) (by decide) (by decide)))
  refine W9.goto (hb hby dSV_38) (by decide) (pc' := 97) (by decide) ?_
  have F13 := (V6.keep K9 (ninS (Ne.symm (Exa.neArv F11 V6 (hw _ (List.mem_of_getElem? (i := 5) rfl)))) nin0))
  exact W9.retV hret (hb hby dSV_97) (by decide) (by decide) ⟨rfl, A9, fun c hc => lat_up (HL c hc), by omega, b6, kb6, 0, _, _, B9, B9_coder, F13, Or.inl ⟨rfl, by rw [hkc], rfl, fun c hc => (HL c hc).2⟩⟩
theorem dS1_0 : decode jdk_42_method_53_code 0 = .ok (.aload_n 0, 1) := by decide +kernel
theorem dS1_1 : decode jdk_42_method_53_code 1 = .ok (.aload_n 1, 1) := by decide +kernel
theorem dS1_2 : decode jdk_42_method_53_code 2 = .ok (.aconst_null, 1) := by decide +kernel
theorem dS1_3 : decode jdk_42_method_53_code 3 = .ok (.invokespecial 489, 3) := by decide +kernel
theorem pd_79c1663f : parseMethodDescriptor "(Ljava/lang/AbstractStringBuilder;Ljava/lang/Void;)V" = some ⟨[(.object "java/lang/AbstractStringBuilder"), (.object "java/lang/Void")], none⟩ := by decide +kernel
theorem dS1_6 : decode jdk_42_method_53_code 6 = .ok (.return_, 1) := by decide +kernel
theorem pn_S1 : plainFor (⟨"java/lang/String", "<init>", "(Ljava/lang/StringBuilder;)V"⟩ : MethodName) = true := by first | exact plainFor_of_name (by first | (simp [plainName, overriddenIn]; done) | decide +kernel) | decide +kernel
set_option maxRecDepth 65536 in
set_option maxHeartbeats 40000000 in
theorem rmS1 (l : Launch) (Z : State) (a0 : Array Value) (hw : ∀ d ∈ tables_1, d.before a0 Z = true) (x : Addr) (a t : Addr) (kt : ClassId) (k N : Nat) (vs : List Value) (cs : List Int32) (zc : Int32) (h0 : Heap) (n0 : Nat) (Z0 : n0 ≤ h0.size) (gx : n0 ≤ x) (XX : Exa Z h0 x "java/lang/String") (XV : Fld Z h0 x "java/lang/String" "value" "[B" .null) (XC : Fld Z h0 x "java/lang/String" "coder" "B" (.int (0 : Int32))) (EX : Exa Z h0 a "java/lang/StringBuilder") (FV : Fld Z h0 a "java/lang/AbstractStringBuilder" "value" "[B" (.ref t)) (FC : Fld Z h0 a "java/lang/AbstractStringBuilder" "coder" "B" (.int (0 : Int32))) (FN : Fld Z h0 a "java/lang/AbstractStringBuilder" "count" "I" (.int (Int32.ofNat k))) (AT : Arv Z h0 t kt .byte (Int32.ofNat N) vs (.int (0 : Int32))) (ET : Exa Z h0 t "[B") (hkc : k = cs.length) (hk : k ≤ N) (hN : N ≤ 62) (H : ∀ i, i < cs.length → vs.getD i (.int (0 : Int32)) = .int (StrChars.lo8 (cs.getD i 0))) (HL : ∀ c ∈ cs, ¬ c < 0 ∧ ¬ (255 : Int32) < c) (SC : Sta Z h0 "java/lang/String" "COMPACT_STRINGS" "Z" (.int zc)) (hz : ¬ zc = 0) :
    NM l (⟨"java/lang/String", "<init>", "(Ljava/lang/StringBuilder;)V"⟩ : MethodName) jdk_42_method_53_code 2 none [] ({ frames := 4, cells := 1, slots := 64, locals := 96 } : Room) Z n0 #[(.ref x), (.ref a)] h0 [x] (fun v h => v = none ∧ StrA Z h x cs) := by
  refine NM.walk (Ls := #[.val (.ref x), .val (.ref a)]) pn_S1 Z0 (fun m => by first | (simp [entryFrame, mkF, argsToLocals, Value.category]; done) | rfl) ?_
  intro p e s m below meth c s₁ hby hml hret hnm W0
  refine W0.aloadN (hb hby dS1_0) rfl rfl (pc' := 1) rfl ?_
  refine W0.aloadN (hb hby dS1_1) rfl rfl (pc' := 2) rfl ?_
  refine W0.aconstNull (hb hby dS1_2) (pc' := 3) rfl ?_
  refine W0.callI (y := (⟨"java/lang/String", "<init>", "(Ljava/lang/AbstractStringBuilder;Ljava/lang/Void;)V"⟩ : MethodName)) rfl (hw _ (List.mem_of_getElem? (i := 129) rfl)) (hw _ (List.mem_of_getElem? (i := 130) rfl)) (hw _ (List.mem_of_getElem? (i := 131) rfl)) (by decide) (NM.bk (wd := 0) (rmSV l Z a0 hw x a t kt k N vs cs zc h0 n0 W0.n0h gx XX XV XC EX FV FC FN AT ET hkc hk hN H HL SC hz) W0.2.2.2.1 (hw _ (List.mem_of_getElem? (i := 131) rfl)) (hw _ (List.mem_of_getElem? (i := 6) rfl)) (by decide) (by decide)) (hb hby dS1_3) (pc' := 6) rfl hml (a := x) (argsL := [(.ref a), .null]) rfl (lenOf pd_79c1663f rfl) rfl (Nat.le_of_ble_eq_true rfl) (by decide) (by decide) (ws' := [x]) (fun _ _ _ q => ⟨q.2.2, q.2.1⟩) (allS (Or.inl (List.mem_of_getElem? (i := 0) rfl)) all0) ?_
  intro v1 T1 h1 L1' L1 W1 Q1 K1
  have z1 := K1.1
  obtain ⟨⟨rfl, S1⟩, -, -⟩ := Q1
  show Go p e below _ T1 (mkF m 6 #[.val (.ref x), .val (.ref a)] [])
  exact W1.retV hret (hb hby dS1_6) (by decide) (by decide) ⟨rfl, S1⟩
theorem dTS0_0 : decode jdk_67_method_42_code 0 = .ok (.new 18, 3) := by decide +kernel
theorem dTS0_3 : decode jdk_67_method_42_code 3 = .ok (.dup, 1) := by decide +kernel
theorem dTS0_4 : decode jdk_67_method_42_code 4 = .ok (.aload_n 0, 1) := by decide +kernel
theorem dTS0_5 : decode jdk_67_method_42_code 5 = .ok (.invokespecial 137, 3) := by decide +kernel
theorem pd_d8ceaa16 : parseMethodDescriptor "(Ljava/lang/StringBuilder;)V" = some ⟨[(.object "java/lang/StringBuilder")], none⟩ := by decide +kernel
theorem dTS0_8 : decode jdk_67_method_42_code 8 = .ok (.areturn, 1) := by decide +kernel
theorem pn_TS0 : plainFor (⟨"java/lang/StringBuilder", "toString", "()Ljava/lang/String;"⟩ : MethodName) = true := by first | exact plainFor_of_name (by first | (simp [plainName, overriddenIn]; done) | decide +kernel) | decide +kernel
set_option maxRecDepth 65536 in
set_option maxHeartbeats 40000000 in
theorem rmTS0 (l : Launch) (Z : State) (a0 : Array Value) (hw : ∀ d ∈ tables_1, d.before a0 Z = true) (a t : Addr) (kt : ClassId) (k N : Nat) (vs : List Value) (cs : List Int32) (zc : Int32) (h0 : Heap) (n0 : Nat) (Z0 : n0 ≤ h0.size) (EX : Exa Z h0 a "java/lang/StringBuilder") (FV : Fld Z h0 a "java/lang/AbstractStringBuilder" "value" "[B" (.ref t)) (FC : Fld Z h0 a "java/lang/AbstractStringBuilder" "coder" "B" (.int (0 : Int32))) (FN : Fld Z h0 a "java/lang/AbstractStringBuilder" "count" "I" (.int (Int32.ofNat k))) (AT : Arv Z h0 t kt .byte (Int32.ofNat N) vs (.int (0 : Int32))) (ET : Exa Z h0 t "[B") (hkc : k = cs.length) (hk : k ≤ N) (hN : N ≤ 62) (H : ∀ i, i < cs.length → vs.getD i (.int (0 : Int32)) = .int (StrChars.lo8 (cs.getD i 0))) (HL : ∀ c ∈ cs, ¬ c < 0 ∧ ¬ (255 : Int32) < c) (SC : Sta Z h0 "java/lang/String" "COMPACT_STRINGS" "Z" (.int zc)) (hz : ¬ zc = 0) :
    NM l (⟨"java/lang/StringBuilder", "toString", "()Ljava/lang/String;"⟩ : MethodName) jdk_67_method_42_code 1 (some (.object "java/lang/String")) [] ({ frames := 5, cells := 2, slots := 68, locals := 112 } : Room) Z n0 #[(.ref a)] h0 [] (fun v h => ∃ x, v = some (.ref x) ∧ StrA Z h x cs) := by
  refine NM.walk (Ls := #[.val (.ref a)]) pn_TS0 Z0 (fun m => by first | (simp [entryFrame, mkF, argsToLocals, Value.category]; done) | rfl) ?_
  intro p e s m below meth c s₁ hby hml hret hnm W0
  refine W0.newO (hw _ (List.mem_of_getElem? (i := 125) rfl)) (hw _ (List.mem_of_getElem? (i := 5) rfl)) (hw _ (List.mem_of_getElem? (i := 6) rfl)) (hb hby dTS0_0) (pc' := 3) rfl (by decide) (by decide) ?_
  intro T1 h1 a1 g1 ge1 gn1 W1 E1 A1 D1
  have z1 := E1.1
  have y1 := Nat.le_of_eq g1.symm
  have D1_value := D1 (Or.inr (hw _ (List.mem_of_getElem? (i := 20) rfl))) (ty := (.array .byte)) (by decide)
  have D1_coder := D1 (Or.inr (hw _ (List.mem_of_getElem? (i := 21) rfl))) (ty := .byte) (by decide)
  refine W1.dup (hb hby dTS0_3) rfl (pc' := 4) rfl ?_
  refine W1.aloadN (hb hby dTS0_4) rfl rfl (pc' := 5) rfl ?_
  have F3 := Exa.ext E1 EX
  have F4 := Fld.ext E1 FV
  have F5 := Fld.ext E1 FC
  have F6 := Fld.ext E1 FN
  have F7 := Arv.ext AT E1
  have F8 := Exa.ext E1 ET
  have F9 := Sta.ext E1 SC
  refine W1.callI (y := (⟨"java/lang/String", "<init>", "(Ljava/lang/StringBuilder;)V"⟩ : MethodName)) rfl (hw _ (List.mem_of_getElem? (i := 126) rfl)) (hw _ (List.mem_of_getElem? (i := 127) rfl)) (hw _ (List.mem_of_getElem? (i := 128) rfl)) (by decide) (NM.bk (wd := 1) (rmS1 l Z a0 hw a1 a t kt k N vs cs zc h1 n0 W1.n0h gn1 A1 D1_value D1_coder F3 F4 F5 F6 F7 F8 hkc hk hN H HL F9 hz) W1.2.2.2.1 (hw _ (List.mem_of_getElem? (i := 128) rfl)) (hw _ (List.mem_of_getElem? (i := 6) rfl)) (by decide) (by decide)) (hb hby dTS0_5) (pc' := 8) rfl hml (a := a1) (argsL := [(.ref a)]) rfl (lenOf pd_d8ceaa16 rfl) rfl (Nat.le_of_ble_eq_true rfl) (by decide) (by decide) (ws' := [a1]) (fun _ _ _ q => ⟨q.2.2, q.2.1⟩) (allS (Or.inr ge1) all0) ?_
  intro v2 T2 h2 L2' L2 W2 Q2 K2
  have z2 := K2.1
  obtain ⟨⟨rfl, S2⟩, -, -⟩ := Q2
  show Go p e below _ T2 (mkF m 8 #[.val (.ref a)] [(.ref a1)])
  exact W2.retA hret rfl rfl (hb hby dTS0_8) (by decide) (by decide) ⟨a1, rfl, S2⟩
theorem rmTS (l : Launch) (Z : State) (a0 : Array Value) (hw : ∀ d ∈ tables_1, d.before a0 Z = true) (a t : Addr) (cs : List Int32) (zc : Int32) (h0 : Heap) (n0 : Nat) (Z0 : n0 ≤ h0.size) (SBX : SbA Z h0 a t cs) (SC : Sta Z h0 "java/lang/String" "COMPACT_STRINGS" "Z" (.int zc)) (hz : ¬ zc = 0) :
    NM l (⟨"java/lang/StringBuilder", "toString", "()Ljava/lang/String;"⟩ : MethodName) jdk_67_method_42_code 1 (some (.object "java/lang/String")) [] ({ frames := 5, cells := 2, slots := 68, locals := 112 } : Room) Z n0 #[.ref a] h0 [] (fun v h => ∃ x, v = some (.ref x) ∧ StrA Z h x cs) := by
  obtain ⟨e1, e0, e2, e3, e4, e5, kt, N, vs, e6, e7, e8, e9, e10⟩ := SBX
  exact rmTS0 l Z a0 hw a t kt cs.length N vs cs zc h0 n0 Z0 e1 e2 e3 e4 e6 e0 rfl e7 e8 e10 e5 SC hz
--CUT ss
def ssF (q : Int32) : Int32 := (if q < (0 : Int32) then (if (-10 : Int32) < q then (2 : Int32) else (if (-100 : Int32) < q then (3 : Int32) else (if (-1000 : Int32) < q then (4 : Int32) else (if (-10000 : Int32) < q then (5 : Int32) else (if (-100000 : Int32) < q then (6 : Int32) else (if (-1000000 : Int32) < q then (7 : Int32) else (if (-10000000 : Int32) < q then (8 : Int32) else (if (-100000000 : Int32) < q then (9 : Int32) else (if (-1000000000 : Int32) < q then (10 : Int32) else (11 : Int32)))))))))) else (if (-10 : Int32) < (-q) then (1 : Int32) else (if (-100 : Int32) < (-q) then (2 : Int32) else (if (-1000 : Int32) < (-q) then (3 : Int32) else (if (-10000 : Int32) < (-q) then (4 : Int32) else (if (-100000 : Int32) < (-q) then (5 : Int32) else (if (-1000000 : Int32) < (-q) then (6 : Int32) else (if (-10000000 : Int32) < (-q) then (7 : Int32) else (if (-100000000 : Int32) < (-q) then (8 : Int32) else (if (-1000000000 : Int32) < (-q) then (9 : Int32) else (10 : Int32)))))))))))
theorem dSS_0 : decode jdk_33_method_13_code 0 = .ok (.iconst 1, 1) := by decide +kernel
theorem dSS_1 : decode jdk_33_method_13_code 1 = .ok (.istore_n 1, 1) := by decide +kernel
theorem dSS_2 : decode jdk_33_method_13_code 2 = .ok (.iload_n 0, 1) := by decide +kernel
theorem dSS_3 : decode jdk_33_method_13_code 3 = .ok (.ifCond .lt 8, 3) := by decide +kernel
theorem dSS_11 : decode jdk_33_method_13_code 11 = .ok (.bipush (-10), 2) := by decide +kernel
theorem dSS_13 : decode jdk_33_method_13_code 13 = .ok (.istore_n 2, 1) := by decide +kernel
theorem dSS_14 : decode jdk_33_method_13_code 14 = .ok (.iconst 1, 1) := by decide +kernel
theorem dSS_15 : decode jdk_33_method_13_code 15 = .ok (.istore_n 3, 1) := by decide +kernel
theorem dSS_16 : decode jdk_33_method_13_code 16 = .ok (.iload_n 3, 1) := by decide +kernel
theorem dSS_17 : decode jdk_33_method_13_code 17 = .ok (.bipush 10, 2) := by decide +kernel
theorem dSS_19 : decode jdk_33_method_13_code 19 = .ok (.if_icmp .ge 23, 3) := by decide +kernel
theorem dSS_22 : decode jdk_33_method_13_code 22 = .ok (.iload_n 0, 1) := by decide +kernel
theorem dSS_23 : decode jdk_33_method_13_code 23 = .ok (.iload_n 2, 1) := by decide +kernel
theorem dSS_24 : decode jdk_33_method_13_code 24 = .ok (.if_icmp .le 7, 3) := by decide +kernel
theorem dSS_27 : decode jdk_33_method_13_code 27 = .ok (.iload_n 3, 1) := by decide +kernel
theorem dSS_28 : decode jdk_33_method_13_code 28 = .ok (.iload_n 1, 1) := by decide +kernel
theorem dSS_29 : decode jdk_33_method_13_code 29 = .ok (.iadd, 1) := by decide +kernel
theorem dSS_30 : decode jdk_33_method_13_code 30 = .ok (.ireturn, 1) := by decide +kernel
theorem dSS_31 : decode jdk_33_method_13_code 31 = .ok (.bipush 10, 2) := by decide +kernel
theorem dSS_33 : decode jdk_33_method_13_code 33 = .ok (.iload_n 2, 1) := by decide +kernel
theorem dSS_34 : decode jdk_33_method_13_code 34 = .ok (.imul, 1) := by decide +kernel
theorem dSS_35 : decode jdk_33_method_13_code 35 = .ok (.istore_n 2, 1) := by decide +kernel
theorem dSS_36 : decode jdk_33_method_13_code 36 = .ok (.iinc 3 1, 3) := by decide +kernel
theorem dSS_39 : decode jdk_33_method_13_code 39 = .ok (.goto (-23), 3) := by decide +kernel
theorem dSS_42 : decode jdk_33_method_13_code 42 = .ok (.bipush 10, 2) := by decide +kernel
theorem dSS_44 : decode jdk_33_method_13_code 44 = .ok (.iload_n 1, 1) := by decide +kernel
theorem dSS_45 : decode jdk_33_method_13_code 45 = .ok (.iadd, 1) := by decide +kernel
theorem dSS_46 : decode jdk_33_method_13_code 46 = .ok (.ireturn, 1) := by decide +kernel
theorem dSS_6 : decode jdk_33_method_13_code 6 = .ok (.iconst 0, 1) := by decide +kernel
theorem dSS_7 : decode jdk_33_method_13_code 7 = .ok (.istore_n 1, 1) := by decide +kernel
theorem dSS_8 : decode jdk_33_method_13_code 8 = .ok (.iload_n 0, 1) := by decide +kernel
theorem dSS_9 : decode jdk_33_method_13_code 9 = .ok (.ineg, 1) := by decide +kernel
theorem dSS_10 : decode jdk_33_method_13_code 10 = .ok (.istore_n 0, 1) := by decide +kernel
theorem pn_SS : plainFor (⟨"java/lang/Integer", "stringSize", "(I)I"⟩ : MethodName) = true := by first | exact plainFor_of_name (by first | (simp [plainName, overriddenIn]; done) | decide +kernel) | decide +kernel
set_option maxRecDepth 65536 in
set_option maxHeartbeats 40000000 in
theorem rmSS (l : Launch) (Z : State) (a0 : Array Value) (hw : ∀ d ∈ tables_1, d.before a0 Z = true) (q : Int32) (h0 : Heap) (n0 : Nat) (Z0 : n0 ≤ h0.size)  :
    NM l (⟨"java/lang/Integer", "stringSize", "(I)I"⟩ : MethodName) jdk_33_method_13_code 4 (some .int) [] ({ frames := 0, cells := 0, slots := 0, locals := 0 } : Room) Z n0 #[(.int q)] h0 [] (Pu (some (.int (ssF q))) h0) := by
  refine NM.walk (Ls := #[.val (.int q), .unset, .unset, .unset]) pn_SS Z0 (fun m => by first | (simp [entryFrame, mkF, argsToLocals, Value.category]; done) | rfl) ?_
  intro p e s m below meth c s₁ hby hml hret hnm W0
  refine W0.iconst (1 : Int32) (hb hby dSS_0) rfl (pc' := 1) rfl ?_
  refine W0.istoreN (Ls' := #[.val (.int q), .val (.int (1 : Int32)), .unset, .unset]) (hb hby dSS_1) rfl (pc' := 2) rfl ?_
  refine W0.iloadN (hb hby dSS_2) rfl (pc' := 3) rfl ?_
  by_cases hc1 : q < (0 : Int32)
  · refine W0.ifYes (hb hby dSS_3) (XT.i0_lt_t hc1) (by decide) (pc' := 11) (by decide) ?_
    refine W0.bipush (-10 : Int32) (hb hby dSS_11) rfl (pc' := 13) rfl ?_
    refine W0.istoreN (Ls' := #[.val (.int q), .val (.int (1 : Int32)), .val (.int (-10 : Int32)), .unset]) (hb hby dSS_13) rfl (pc' := 14) rfl ?_
    refine W0.iconst (1 : Int32) (hb hby dSS_14) rfl (pc' := 15) rfl ?_
    refine W0.istoreN (Ls' := #[.val (.int q), .val (.int (1 : Int32)), .val (.int (-10 : Int32)), .val (.int (1 : Int32))]) (hb hby dSS_15) rfl (pc' := 16) rfl ?_
    refine W0.iloadN (hb hby dSS_16) rfl (pc' := 17) rfl ?_
    refine W0.bipush (10 : Int32) (hb hby dSS_17) rfl (pc' := 19) rfl ?_
    refine W0.icmpNo (hb hby dSS_19) (XT.ii_ge_f (by decide)) (pc' := 22) rfl ?_
    refine W0.iloadN (hb hby dSS_22) rfl (pc' := 23) rfl ?_
    refine W0.iloadN (hb hby dSS_23) rfl (pc' := 24) rfl ?_
    by_cases hc2 : (-10 : Int32) < q
    · refine W0.icmpNo (hb hby dSS_24) (XT.ii_le_f hc2) (pc' := 27) rfl ?_
      refine W0.iloadN (hb hby dSS_27) rfl (pc' := 28) rfl ?_
      refine W0.iloadN (hb hby dSS_28) rfl (pc' := 29) rfl ?_
      refine W0.iadd (hb hby dSS_29) (pc' := 30) rfl ?_
      show Go p e below _ _ (mkF m 30 #[.val (.int q), .val (.int (1 : Int32)), .val (.int (-10 : Int32)), .val (.int (1 : Int32))] [(.int (2 : Int32))])
      exact W0.retI hret (hb hby dSS_30) (by decide) (by decide) ⟨congrArg (fun z => some (Value.int z)) (by rw [ssF, if_pos hc1, if_pos hc2]), rfl⟩
    · refine W0.icmpYes (hb hby dSS_24) (XT.ii_le_t hc2) (by decide) (pc' := 31) (by decide) ?_
      refine W0.bipush (10 : Int32) (hb hby dSS_31) rfl (pc' := 33) rfl ?_
      refine W0.iloadN (hb hby dSS_33) rfl (pc' := 34) rfl ?_
      refine W0.imul (hb hby dSS_34) (pc' := 35) rfl ?_
      show Go p e below _ _ (mkF m 35 #[.val (.int q), .val (.int (1 : Int32)), .val (.int (-10 : Int32)), .val (.int (1 : Int32))] [(.int (-100 : Int32))])
      refine W0.istoreN (Ls' := #[.val (.int q), .val (.int (1 : Int32)), .val (.int (-100 : Int32)), .val (.int (1 : Int32))]) (hb hby dSS_35) rfl (pc' := 36) rfl ?_
      refine W0.iinc (Ls' := #[.val (.int q), .val (.int (1 : Int32)), .val (.int (-100 : Int32)), .val (.int ((1 : Int32) + (1 : Int32)))]) (1 : Int32) (hb hby dSS_36) rfl rfl rfl (pc' := 39) rfl ?_
      show Go p e below _ _ (mkF m 39 #[.val (.int q), .val (.int (1 : Int32)), .val (.int (-100 : Int32)), .val (.int (2 : Int32))] [])
      refine W0.goto (hb hby dSS_39) (by decide) (pc' := 16) (by decide) ?_
      refine W0.iloadN (hb hby dSS_16) rfl (pc' := 17) rfl ?_
      refine W0.bipush (10 : Int32) (hb hby dSS_17) rfl (pc' := 19) rfl ?_
      refine W0.icmpNo (hb hby dSS_19) (XT.ii_ge_f (by decide)) (pc' := 22) rfl ?_
      refine W0.iloadN (hb hby dSS_22) rfl (pc' := 23) rfl ?_
      refine W0.iloadN (hb hby dSS_23) rfl (pc' := 24) rfl ?_
      by_cases hc3 : (-100 : Int32) < q
      · refine W0.icmpNo (hb hby dSS_24) (XT.ii_le_f hc3) (pc' := 27) rfl ?_
        refine W0.iloadN (hb hby dSS_27) rfl (pc' := 28) rfl ?_
        refine W0.iloadN (hb hby dSS_28) rfl (pc' := 29) rfl ?_
        refine W0.iadd (hb hby dSS_29) (pc' := 30) rfl ?_
        show Go p e below _ _ (mkF m 30 #[.val (.int q), .val (.int (1 : Int32)), .val (.int (-100 : Int32)), .val (.int (2 : Int32))] [(.int (3 : Int32))])
        exact W0.retI hret (hb hby dSS_30) (by decide) (by decide) ⟨congrArg (fun z => some (Value.int z)) (by rw [ssF, if_pos hc1, if_neg hc2, if_pos hc3]), rfl⟩
      · refine W0.icmpYes (hb hby dSS_24) (XT.ii_le_t hc3) (by decide) (pc' := 31) (by decide) ?_
        refine W0.bipush (10 : Int32) (hb hby dSS_31) rfl (pc' := 33) rfl ?_
        refine W0.iloadN (hb hby dSS_33) rfl (pc' := 34) rfl ?_
        refine W0.imul (hb hby dSS_34) (pc' := 35) rfl ?_
        show Go p e below _ _ (mkF m 35 #[.val (.int q), .val (.int (1 : Int32)), .val (.int (-100 : Int32)), .val (.int (2 : Int32))] [(.int (-1000 : Int32))])
        refine W0.istoreN (Ls' := #[.val (.int q), .val (.int (1 : Int32)), .val (.int (-1000 : Int32)), .val (.int (2 : Int32))]) (hb hby dSS_35) rfl (pc' := 36) rfl ?_
        refine W0.iinc (Ls' := #[.val (.int q), .val (.int (1 : Int32)), .val (.int (-1000 : Int32)), .val (.int ((2 : Int32) + (1 : Int32)))]) (1 : Int32) (hb hby dSS_36) rfl rfl rfl (pc' := 39) rfl ?_
        show Go p e below _ _ (mkF m 39 #[.val (.int q), .val (.int (1 : Int32)), .val (.int (-1000 : Int32)), .val (.int (3 : Int32))] [])
        refine W0.goto (hb hby dSS_39) (by decide) (pc' := 16) (by decide) ?_
        refine W0.iloadN (hb hby dSS_16) rfl (pc' := 17) rfl ?_
        refine W0.bipush (10 : Int32) (hb hby dSS_17) rfl (pc' := 19) rfl ?_
        refine W0.icmpNo (hb hby dSS_19) (XT.ii_ge_f (by decide)) (pc' := 22) rfl ?_
        refine W0.iloadN (hb hby dSS_22) rfl (pc' := 23) rfl ?_
        refine W0.iloadN (hb hby dSS_23) rfl (pc' := 24) rfl ?_
        by_cases hc4 : (-1000 : Int32) < q
        · refine W0.icmpNo (hb hby dSS_24) (XT.ii_le_f hc4) (pc' := 27) rfl ?_
          refine W0.iloadN (hb hby dSS_27) rfl (pc' := 28) rfl ?_
          refine W0.iloadN (hb hby dSS_28) rfl (pc' := 29) rfl ?_
          refine W0.iadd (hb hby dSS_29) (pc' := 30) rfl ?_
          show Go p e below _ _ (mkF m 30 #[.val (.int q), .val (.int (1 : Int32)), .val (.int (-1000 : Int32)), .val (.int (3 : Int32))] [(.int (4 : Int32))])
          exact W0.retI hret (hb hby dSS_30) (by decide) (by decide) ⟨congrArg (fun z => some (Value.int z)) (by rw [ssF, if_pos hc1, if_neg hc2, if_neg hc3, if_pos hc4]), rfl⟩
        · refine W0.icmpYes (hb hby dSS_24) (XT.ii_le_t hc4) (by decide) (pc' := 31) (by decide) ?_
          refine W0.bipush (10 : Int32) (hb hby dSS_31) rfl (pc' := 33) rfl ?_
          refine W0.iloadN (hb hby dSS_33) rfl (pc' := 34) rfl ?_
          refine W0.imul (hb hby dSS_34) (pc' := 35) rfl ?_
          show Go p e below _ _ (mkF m 35 #[.val (.int q), .val (.int (1 : Int32)), .val (.int (-1000 : Int32)), .val (.int (3 : Int32))] [(.int (-10000 : Int32))])
          refine W0.istoreN (Ls' := #[.val (.int q), .val (.int (1 : Int32)), .val (.int (-10000 : Int32)), .val (.int (3 : Int32))]) (hb hby dSS_35) rfl (pc' := 36) rfl ?_
          refine W0.iinc (Ls' := #[.val (.int q), .val (.int (1 : Int32)), .val (.int (-10000 : Int32)), .val (.int ((3 : Int32) + (1 : Int32)))]) (1 : Int32) (hb hby dSS_36) rfl rfl rfl (pc' := 39) rfl ?_
          show Go p e below _ _ (mkF m 39 #[.val (.int q), .val (.int (1 : Int32)), .val (.int (-10000 : Int32)), .val (.int (4 : Int32))] [])
          refine W0.goto (hb hby dSS_39) (by decide) (pc' := 16) (by decide) ?_
          refine W0.iloadN (hb hby dSS_16) rfl (pc' := 17) rfl ?_
          refine W0.bipush (10 : Int32) (hb hby dSS_17) rfl (pc' := 19) rfl ?_
          refine W0.icmpNo (hb hby dSS_19) (XT.ii_ge_f (by decide)) (pc' := 22) rfl ?_
          refine W0.iloadN (hb hby dSS_22) rfl (pc' := 23) rfl ?_
          refine W0.iloadN (hb hby dSS_23) rfl (pc' := 24) rfl ?_
          by_cases hc5 : (-10000 : Int32) < q
          · refine W0.icmpNo (hb hby dSS_24) (XT.ii_le_f hc5) (pc' := 27) rfl ?_
            refine W0.iloadN (hb hby dSS_27) rfl (pc' := 28) rfl ?_
            refine W0.iloadN (hb hby dSS_28) rfl (pc' := 29) rfl ?_
            refine W0.iadd (hb hby dSS_29) (pc' := 30) rfl ?_
            show Go p e below _ _ (mkF m 30 #[.val (.int q), .val (.int (1 : Int32)), .val (.int (-10000 : Int32)), .val (.int (4 : Int32))] [(.int (5 : Int32))])
            exact W0.retI hret (hb hby dSS_30) (by decide) (by decide) ⟨congrArg (fun z => some (Value.int z)) (by rw [ssF, if_pos hc1, if_neg hc2, if_neg hc3, if_neg hc4, if_pos hc5]), rfl⟩
          · refine W0.icmpYes (hb hby dSS_24) (XT.ii_le_t hc5) (by decide) (pc' := 31) (by decide) ?_
            refine W0.bipush (10 : Int32) (hb hby dSS_31) rfl (pc' := 33) rfl ?_
            refine W0.iloadN (hb hby dSS_33) rfl (pc' := 34) rfl ?_
            refine W0.imul (hb hby dSS_34) (pc' := 35) rfl ?_
            show Go p e below _ _ (mkF m 35 #[.val (.int q), .val (.int (1 : Int32)), .val (.int (-10000 : Int32)), .val (.int (4 : Int32))] [(.int (-100000 : Int32))])
            refine W0.istoreN (Ls' := #[.val (.int q), .val (.int (1 : Int32)), .val (.int (-100000 : Int32)), .val (.int (4 : Int32))]) (hb hby dSS_35) rfl (pc' := 36) rfl ?_
            refine W0.iinc (Ls' := #[.val (.int q), .val (.int (1 : Int32)), .val (.int (-100000 : Int32)), .val (.int ((4 : Int32) + (1 : Int32)))]) (1 : Int32) (hb hby dSS_36) rfl rfl rfl (pc' := 39) rfl ?_
            show Go p e below _ _ (mkF m 39 #[.val (.int q), .val (.int (1 : Int32)), .val (.int (-100000 : Int32)), .val (.int (5 : Int32))] [])
            refine W0.goto (hb hby dSS_39) (by decide) (pc' := 16) (by decide) ?_
            refine W0.iloadN (hb hby dSS_16) rfl (pc' := 17) rfl ?_
            refine W0.bipush (10 : Int32) (hb hby dSS_17) rfl (pc' := 19) rfl ?_
            refine W0.icmpNo (hb hby dSS_19) (XT.ii_ge_f (by decide)) (pc' := 22) rfl ?_
            refine W0.iloadN (hb hby dSS_22) rfl (pc' := 23) rfl ?_
            refine W0.iloadN (hb hby dSS_23) rfl (pc' := 24) rfl ?_
            by_cases hc6 : (-100000 : Int32) < q
            · refine W0.icmpNo (hb hby dSS_24) (XT.ii_le_f hc6) (pc' := 27) rfl ?_
              refine W0.iloadN (hb hby dSS_27) rfl (pc' := 28) rfl ?_
              refine W0.iloadN (hb hby dSS_28) rfl (pc' := 29) rfl ?_
              refine W0.iadd (hb hby dSS_29) (pc' := 30) rfl ?_
              show Go p e below _ _ (mkF m 30 #[.val (.int q), .val (.int (1 : Int32)), .val (.int (-100000 : Int32)), .val (.int (5 : Int32))] [(.int (6 : Int32))])
              exact W0.retI hret (hb hby dSS_30) (by decide) (by decide) ⟨congrArg (fun z => some (Value.int z)) (by rw [ssF, if_pos hc1, if_neg hc2, if_neg hc3, if_neg hc4, if_neg hc5, if_pos hc6]), rfl⟩
            · refine W0.icmpYes (hb hby dSS_24) (XT.ii_le_t hc6) (by decide) (pc' := 31) (by decide) ?_
              refine W0.bipush (10 : Int32) (hb hby dSS_31) rfl (pc' := 33) rfl ?_
              refine W0.iloadN (hb hby dSS_33) rfl (pc' := 34) rfl ?_
              refine W0.imul (hb hby dSS_34) (pc' := 35) rfl ?_
              show Go p e below _ _ (mkF m 35 #[.val (.int q), .val (.int (1 : Int32)), .val (.int (-100000 : Int32)), .val (.int (5 : Int32))] [(.int (-1000000 : Int32))])
              refine W0.istoreN (Ls' := #[.val (.int q), .val (.int (1 : Int32)), .val (.int (-1000000 : Int32)), .val (.int (5 : Int32))]) (hb hby dSS_35) rfl (pc' := 36) rfl ?_
              refine W0.iinc (Ls' := #[.val (.int q), .val (.int (1 : Int32)), .val (.int (-1000000 : Int32)), .val (.int ((5 : Int32) + (1 : Int32)))]) (1 : Int32) (hb hby dSS_36) rfl rfl rfl (pc' := 39) rfl ?_
              show Go p e below _ _ (mkF m 39 #[.val (.int q), .val (.int (1 : Int32)), .val (.int (-1000000 : Int32)), .val (.int (6 : Int32))] [])
              refine W0.goto (hb hby dSS_39) (by decide) (pc' := 16) (by decide) ?_
              refine W0.iloadN (hb hby dSS_16) rfl (pc' := 17) rfl ?_
              refine W0.bipush (10 : Int32) (hb hby dSS_17) rfl (pc' := 19) rfl ?_
              refine W0.icmpNo (hb hby dSS_19) (XT.ii_ge_f (by decide)) (pc' := 22) rfl ?_
              refine W0.iloadN (hb hby dSS_22) rfl (pc' := 23) rfl ?_
              refine W0.iloadN (hb hby dSS_23) rfl (pc' := 24) rfl ?_
              by_cases hc7 : (-1000000 : Int32) < q
              · refine W0.icmpNo (hb hby dSS_24) (XT.ii_le_f hc7) (pc' := 27) rfl ?_
                refine W0.iloadN (hb hby dSS_27) rfl (pc' := 28) rfl ?_
                refine W0.iloadN (hb hby dSS_28) rfl (pc' := 29) rfl ?_
                refine W0.iadd (hb hby dSS_29) (pc' := 30) rfl ?_
                show Go p e below _ _ (mkF m 30 #[.val (.int q), .val (.int (1 : Int32)), .val (.int (-1000000 : Int32)), .val (.int (6 : Int32))] [(.int (7 : Int32))])
                exact W0.retI hret (hb hby dSS_30) (by decide) (by decide) ⟨congrArg (fun z => some (Value.int z)) (by rw [ssF, if_pos hc1, if_neg hc2, if_neg hc3, if_neg hc4, if_neg hc5, if_neg hc6, if_pos hc7]), rfl⟩
              · refine W0.icmpYes (hb hby dSS_24) (XT.ii_le_t hc7) (by decide) (pc' := 31) (by decide) ?_
                refine W0.bipush (10 : Int32) (hb hby dSS_31) rfl (pc' := 33) rfl ?_
                refine W0.iloadN (hb hby dSS_33) rfl (pc' := 34) rfl ?_
                refine W0.imul (hb hby dSS_34) (pc' := 35) rfl ?_
                show Go p e below _ _ (mkF m 35 #[.val (.int q), .val (.int (1 : Int32)), .val (.int (-1000000 : Int32)), .val (.int (6 : Int32))] [(.int (-10000000 : Int32))])
                refine W0.istoreN (Ls' := #[.val (.int q), .val (.int (1 : Int32)), .val (.int (-10000000 : Int32)), .val (.int (6 : Int32))]) (hb hby dSS_35) rfl (pc' := 36) rfl ?_
                refine W0.iinc (Ls' := #[.val (.int q), .val (.int (1 : Int32)), .val (.int (-10000000 : Int32)), .val (.int ((6 : Int32) + (1 : Int32)))]) (1 : Int32) (hb hby dSS_36) rfl rfl rfl (pc' := 39) rfl ?_
                show Go p e below _ _ (mkF m 39 #[.val (.int q), .val (.int (1 : Int32)), .val (.int (-10000000 : Int32)), .val (.int (7 : Int32))] [])
                refine W0.goto (hb hby dSS_39) (by decide) (pc' := 16) (by decide) ?_
                refine W0.iloadN (hb hby dSS_16) rfl (pc' := 17) rfl ?_
                refine W0.bipush (10 : Int32) (hb hby dSS_17) rfl (pc' := 19) rfl ?_
                refine W0.icmpNo (hb hby dSS_19) (XT.ii_ge_f (by decide)) (pc' := 22) rfl ?_
                refine W0.iloadN (hb hby dSS_22) rfl (pc' := 23) rfl ?_
                refine W0.iloadN (hb hby dSS_23) rfl (pc' := 24) rfl ?_
                by_cases hc8 : (-10000000 : Int32) < q
                · refine W0.icmpNo (hb hby dSS_24) (XT.ii_le_f hc8) (pc' := 27) rfl ?_
                  refine W0.iloadN (hb hby dSS_27) rfl (pc' := 28) rfl ?_
                  refine W0.iloadN (hb hby dSS_28) rfl (pc' := 29) rfl ?_
                  refine W0.iadd (hb hby dSS_29) (pc' := 30) rfl ?_
                  show Go p e below _ _ (mkF m 30 #[.val (.int q), .val (.int (1 : Int32)), .val (.int (-10000000 : Int32)), .val (.int (7 : Int32))] [(.int (8 : Int32))])
                  exact W0.retI hret (hb hby dSS_30) (by decide) (by decide) ⟨congrArg (fun z => some (Value.int z)) (by rw [ssF, if_pos hc1, if_neg hc2, if_neg hc3, if_neg hc4, if_neg hc5, if_neg hc6, if_neg hc7, if_pos hc8]), rfl⟩
                · refine W0.icmpYes (hb hby dSS_24) (XT.ii_le_t hc8) (by decide) (pc' := 31) (by decide) ?_
                  refine W0.bipush (10 : Int32) (hb hby dSS_31) rfl (pc' := 33) rfl ?_
                  refine W0.iloadN (hb hby dSS_33) rfl (pc' := 34) rfl ?_
                  refine W0.imul (hb hby dSS_34) (pc' := 35) rfl ?_
                  show Go p e below _ _ (mkF m 35 #[.val (.int q), .val (.int (1 : Int32)), .val (.int (-10000000 : Int32)), .val (.int (7 : Int32))] [(.int (-100000000 : Int32))])
                  refine W0.istoreN (Ls' := #[.val (.int q), .val (.int (1 : Int32)), .val (.int (-100000000 : Int32)), .val (.int (7 : Int32))]) (hb hby dSS_35) rfl (pc' := 36) rfl ?_
                  refine W0.iinc (Ls' := #[.val (.int q), .val (.int (1 : Int32)), .val (.int (-100000000 : Int32)), .val (.int ((7 : Int32) + (1 : Int32)))]) (1 : Int32) (hb hby dSS_36) rfl rfl rfl (pc' := 39) rfl ?_
                  show Go p e below _ _ (mkF m 39 #[.val (.int q), .val (.int (1 : Int32)), .val (.int (-100000000 : Int32)), .val (.int (8 : Int32))] [])
                  refine W0.goto (hb hby dSS_39) (by decide) (pc' := 16) (by decide) ?_
                  refine W0.iloadN (hb hby dSS_16) rfl (pc' := 17) rfl ?_
                  refine W0.bipush (10 : Int32) (hb hby dSS_17) rfl (pc' := 19) rfl ?_
                  refine W0.icmpNo (hb hby dSS_19) (XT.ii_ge_f (by decide)) (pc' := 22) rfl ?_
                  refine W0.iloadN (hb hby dSS_22) rfl (pc' := 23) rfl ?_
                  refine W0.iloadN (hb hby dSS_23) rfl (pc' := 24) rfl ?_
                  by_cases hc9 : (-100000000 : Int32) < q
                  · refine W0.icmpNo (hb hby dSS_24) (XT.ii_le_f hc9) (pc' := 27) rfl ?_
                    refine W0.iloadN (hb hby dSS_27) rfl (pc' := 28) rfl ?_
                    refine W0.iloadN (hb hby dSS_28) rfl (pc' := 29) rfl ?_
                    refine W0.iadd (hb hby dSS_29) (pc' := 30) rfl ?_
                    show Go p e below _ _ (mkF m 30 #[.val (.int q), .val (.int (1 : Int32)), .val (.int (-100000000 : Int32)), .val (.int (8 : Int32))] [(.int (9 : Int32))])
                    exact W0.retI hret (hb hby dSS_30) (by decide) (by decide) ⟨congrArg (fun z => some (Value.int z)) (by rw [ssF, if_pos hc1, if_neg hc2, if_neg hc3, if_neg hc4, if_neg hc5, if_neg hc6, if_neg hc7, if_neg hc8, if_pos hc9]), rfl⟩
                  · refine W0.icmpYes (hb hby dSS_24) (XT.ii_le_t hc9) (by decide) (pc' := 31) (by decide) ?_
                    refine W0.bipush (10 : Int32) (hb hby dSS_31) rfl (pc' := 33) rfl ?_
                    refine W0.iloadN (hb hby dSS_33) rfl (pc' := 34) rfl ?_
                    refine W0.imul (hb hby dSS_34) (pc' := 35) rfl ?_
                    show Go p e below _ _ (mkF m 35 #[.val (.int q), .val (.int (1 : Int32)), .val (.int (-100000000 : Int32)), .val (.int (8 : Int32))] [(.int (-1000000000 : Int32))])
                    refine W0.istoreN (Ls' := #[.val (.int q), .val (.int (1 : Int32)), .val (.int (-1000000000 : Int32)), .val (.int (8 : Int32))]) (hb hby dSS_35) rfl (pc' := 36) rfl ?_
                    refine W0.iinc (Ls' := #[.val (.int q), .val (.int (1 : Int32)), .val (.int (-1000000000 : Int32)), .val (.int ((8 : Int32) + (1 : Int32)))]) (1 : Int32) (hb hby dSS_36) rfl rfl rfl (pc' := 39) rfl ?_
                    show Go p e below _ _ (mkF m 39 #[.val (.int q), .val (.int (1 : Int32)), .val (.int (-1000000000 : Int32)), .val (.int (9 : Int32))] [])
                    refine W0.goto (hb hby dSS_39) (by decide) (pc' := 16) (by decide) ?_
                    refine W0.iloadN (hb hby dSS_16) rfl (pc' := 17) rfl ?_
                    refine W0.bipush (10 : Int32) (hb hby dSS_17) rfl (pc' := 19) rfl ?_
                    refine W0.icmpNo (hb hby dSS_19) (XT.ii_ge_f (by decide)) (pc' := 22) rfl ?_
                    refine W0.iloadN (hb hby dSS_22) rfl (pc' := 23) rfl ?_
                    refine W0.iloadN (hb hby dSS_23) rfl (pc' := 24) rfl ?_
                    by_cases hc10 : (-1000000000 : Int32) < q
                    · refine W0.icmpNo (hb hby dSS_24) (XT.ii_le_f hc10) (pc' := 27) rfl ?_
                      refine W0.iloadN (hb hby dSS_27) rfl (pc' := 28) rfl ?_
                      refine W0.iloadN (hb hby dSS_28) rfl (pc' := 29) rfl ?_
                      refine W0.iadd (hb hby dSS_29) (pc' := 30) rfl ?_
                      show Go p e below _ _ (mkF m 30 #[.val (.int q), .val (.int (1 : Int32)), .val (.int (-1000000000 : Int32)), .val (.int (9 : Int32))] [(.int (10 : Int32))])
                      exact W0.retI hret (hb hby dSS_30) (by decide) (by decide) ⟨congrArg (fun z => some (Value.int z)) (by rw [ssF, if_pos hc1, if_neg hc2, if_neg hc3, if_neg hc4, if_neg hc5, if_neg hc6, if_neg hc7, if_neg hc8, if_neg hc9, if_pos hc10]), rfl⟩
                    · refine W0.icmpYes (hb hby dSS_24) (XT.ii_le_t hc10) (by decide) (pc' := 31) (by decide) ?_
                      refine W0.bipush (10 : Int32) (hb hby dSS_31) rfl (pc' := 33) rfl ?_
                      refine W0.iloadN (hb hby dSS_33) rfl (pc' := 34) rfl ?_
                      refine W0.imul (hb hby dSS_34) (pc' := 35) rfl ?_
                      show Go p e below _ _ (mkF m 35 #[.val (.int q), .val (.int (1 : Int32)), .val (.int (-1000000000 : Int32)), .val (.int (9 : Int32))] [(.int (-10000000000 : Int32))])
                      refine W0.istoreN (Ls' := #[.val (.int q), .val (.int (1 : Int32)), .val (.int (-10000000000 : Int32)), .val (.int (9 : Int32))]) (hb hby dSS_35) rfl (pc' := 36) rfl ?_
                      refine W0.iinc (Ls' := #[.val (.int q), .val (.int (1 : Int32)), .val (.int (-10000000000 : Int32)), .val (.int ((9 : Int32) + (1 : Int32)))]) (1 : Int32) (hb hby dSS_36) rfl rfl rfl (pc' := 39) rfl ?_
                      show Go p e below _ _ (mkF m 39 #[.val (.int q), .val (.int (1 : Int32)), .val (.int (-10000000000 : Int32)), .val (.int (10 : Int32))] [])
                      refine W0.goto (hb hby dSS_39) (by decide) (pc' := 16) (by decide) ?_
                      refine W0.iloadN (hb hby dSS_16) rfl (pc' := 17) rfl ?_
                      refine W0.bipush (10 : Int32) (hb hby dSS_17) rfl (pc' := 19) rfl ?_
                      refine W0.icmpYes (hb hby dSS_19) (XT.ii_ge_t (by decide)) (by decide) (pc' := 42) (by decide) ?_
                      refine W0.bipush (10 : Int32) (hb hby dSS_42) rfl (pc' := 44) rfl ?_
                      refine W0.iloadN (hb hby dSS_44) rfl (pc' := 45) rfl ?_
                      refine W0.iadd (hb hby dSS_45) (pc' := 46) rfl ?_
                      show Go p e below _ _ (mkF m 46 #[.val (.int q), .val (.int (1 : Int32)), .val (.int (-10000000000 : Int32)), .val (.int (10 : Int32))] [(.int (11 : Int32))])
                      exact W0.retI hret (hb hby dSS_46) (by decide) (by decide) ⟨congrArg (fun z => some (Value.int z)) (by rw [ssF, if_pos hc1, if_neg hc2, if_neg hc3, if_neg hc4, if_neg hc5, if_neg hc6, if_neg hc7, if_neg hc8, if_neg hc9, if_neg hc10]), rfl⟩
  · refine W0.ifNo (hb hby dSS_3) (XT.i0_lt_f hc1) (pc' := 6) rfl ?_
    refine W0.iconst (0 : Int32) (hb hby dSS_6) rfl (pc' := 7) rfl ?_
    refine W0.istoreN (Ls' := #[.val (.int q), .val (.int (0 : Int32)), .unset, .unset]) (hb hby dSS_7) rfl (pc' := 8) rfl ?_
    refine W0.iloadN (hb hby dSS_8) rfl (pc' := 9) rfl ?_
    refine W0.ineg (hb hby dSS_9) (pc' := 10) rfl ?_
    refine W0.istoreN (Ls' := #[.val (.int (-q)), .val (.int (0 : Int32)), .unset, .unset]) (hb hby dSS_10) rfl (pc' := 11) rfl ?_
    refine W0.bipush (-10 : Int32) (hb hby dSS_11) rfl (pc' := 13) rfl ?_
    refine W0.istoreN (Ls' := #[.val (.int (-q)), .val (.int (0 : Int32)), .val (.int (-10 : Int32)), .unset]) (hb hby dSS_13) rfl (pc' := 14) rfl ?_
    refine W0.iconst (1 : Int32) (hb hby dSS_14) rfl (pc' := 15) rfl ?_
    refine W0.istoreN (Ls' := #[.val (.int (-q)), .val (.int (0 : Int32)), .val (.int (-10 : Int32)), .val (.int (1 : Int32))]) (hb hby dSS_15) rfl (pc' := 16) rfl ?_
    refine W0.iloadN (hb hby dSS_16) rfl (pc' := 17) rfl ?_
    refine W0.bipush (10 : Int32) (hb hby dSS_17) rfl (pc' := 19) rfl ?_
    refine W0.icmpNo (hb hby dSS_19) (XT.ii_ge_f (by decide)) (pc' := 22) rfl ?_
    refine W0.iloadN (hb hby dSS_22) rfl (pc' := 23) rfl ?_
    refine W0.iloadN (hb hby dSS_23) rfl (pc' := 24) rfl ?_
    by_cases hc11 : (-10 : Int32) < (-q)
    · refine W0.icmpNo (hb hby dSS_24) (XT.ii_le_f hc11) (pc' := 27) rfl ?_
      refine W0.iloadN (hb hby dSS_27) rfl (pc' := 28) rfl ?_
      refine W0.iloadN (hb hby dSS_28) rfl (pc' := 29) rfl ?_
      refine W0.iadd (hb hby dSS_29) (pc' := 30) rfl ?_
      show Go p e below _ _ (mkF m 30 #[.val (.int (-q)), .val (.int (0 : Int32)), .val (.int (-10 : Int32)), .val (.int (1 : Int32))] [(.int (1 : Int32))])
      exact W0.retI hret (hb hby dSS_30) (by decide) (by decide) ⟨congrArg (fun z => some (Value.int z)) (by rw [ssF, if_neg hc1, if_pos hc11]), rfl⟩
    · refine W0.icmpYes (hb hby dSS_24) (XT.ii_le_t hc11) (by decide) (pc' := 31) (by decide) ?_
      refine W0.bipush (10 : Int32) (hb hby dSS_31) rfl (pc' := 33) rfl ?_
      refine W0.iloadN (hb hby dSS_33) rfl (pc' := 34) rfl ?_
      refine W0.imul (hb hby dSS_34) (pc' := 35) rfl ?_
      show Go p e below _ _ (mkF m 35 #[.val (.int (-q)), .val (.int (0 : Int32)), .val (.int (-10 : Int32)), .val (.int (1 : Int32))] [(.int (-100 : Int32))])
      refine W0.istoreN (Ls' := #[.val (.int (-q)), .val (.int (0 : Int32)), .val (.int (-100 : Int32)), .val (.int (1 : Int32))]) (hb hby dSS_35) rfl (pc' := 36) rfl ?_
      refine W0.iinc (Ls' := #[.val (.int (-q)), .val (.int (0 : Int32)), .val (.int (-100 : Int32)), .val (.int ((1 : Int32) + (1 : Int32)))]) (1 : Int32) (hb hby dSS_36) rfl rfl rfl (pc' := 39) rfl ?_
      show Go p e below _ _ (mkF m 39 #[.val (.int (-q)), .val (.int (0 : Int32)), .val (.int (-100 : Int32)), .val (.int (2 : Int32))] [])
      refine W0.goto (hb hby dSS_39) (by decide) (pc' := 16) (by decide) ?_
      refine W0.iloadN (hb hby dSS_16) rfl (pc' := 17) rfl ?_
      refine W0.bipush (10 : Int32) (hb hby dSS_17) rfl (pc' := 19) rfl ?_
      refine W0.icmpNo (hb hby dSS_19) (XT.ii_ge_f (by decide)) (pc' := 22) rfl ?_
      refine W0.iloadN (hb hby dSS_22) rfl (pc' := 23) rfl ?_
      refine W0.iloadN (hb hby dSS_23) rfl (pc' := 24) rfl ?_
      by_cases hc12 : (-100 : Int32) < (-q)
      · refine W0.icmpNo (hb hby dSS_24) (XT.ii_le_f hc12) (pc' := 27) rfl ?_
        refine W0.iloadN (hb hby dSS_27) rfl (pc' := 28) rfl ?_
        refine W0.iloadN (hb hby dSS_28) rfl (pc' := 29) rfl ?_
        refine W0.iadd (hb hby dSS_29) (pc' := 30) rfl ?_
        show Go p e below _ _ (mkF m 30 #[.val (.int (-q)), .val (.int (0 : Int32)), .val (.int (-100 : Int32)), .val (.int (2 : Int32))] [(.int (2 : Int32))])
        exact W0.retI hret (hb hby dSS_30) (by decide) (by decide) ⟨congrArg (fun z => some (Value.int z)) (by rw [ssF, if_neg hc1, if_neg hc11, if_pos hc12]), rfl⟩
      · refine W0.icmpYes (hb hby dSS_24) (XT.ii_le_t hc12) (by decide) (pc' := 31) (by decide) ?_
        refine W0.bipush (10 : Int32) (hb hby dSS_31) rfl (pc' := 33) rfl ?_
        refine W0.iloadN (hb hby dSS_33) rfl (pc' := 34) rfl ?_
        refine W0.imul (hb hby dSS_34) (pc' := 35) rfl ?_
        show Go p e below _ _ (mkF m 35 #[.val (.int (-q)), .val (.int (0 : Int32)), .val (.int (-100 : Int32)), .val (.int (2 : Int32))] [(.int (-1000 : Int32))])
        refine W0.istoreN (Ls' := #[.val (.int (-q)), .val (.int (0 : Int32)), .val (.int (-1000 : Int32)), .val (.int (2 : Int32))]) (hb hby dSS_35) rfl (pc' := 36) rfl ?_
        refine W0.iinc (Ls' := #[.val (.int (-q)), .val (.int (0 : Int32)), .val (.int (-1000 : Int32)), .val (.int ((2 : Int32) + (1 : Int32)))]) (1 : Int32) (hb hby dSS_36) rfl rfl rfl (pc' := 39) rfl ?_
        show Go p e below _ _ (mkF m 39 #[.val (.int (-q)), .val (.int (0 : Int32)), .val (.int (-1000 : Int32)), .val (.int (3 : Int32))] [])
        refine W0.goto (hb hby dSS_39) (by decide) (pc' := 16) (by decide) ?_
        refine W0.iloadN (hb hby dSS_16) rfl (pc' := 17) rfl ?_
        refine W0.bipush (10 : Int32) (hb hby dSS_17) rfl (pc' := 19) rfl ?_
        refine W0.icmpNo (hb hby dSS_19) (XT.ii_ge_f (by decide)) (pc' := 22) rfl ?_
        refine W0.iloadN (hb hby dSS_22) rfl (pc' := 23) rfl ?_
        refine W0.iloadN (hb hby dSS_23) rfl (pc' := 24) rfl ?_
        by_cases hc13 : (-1000 : Int32) < (-q)
        · refine W0.icmpNo (hb hby dSS_24) (XT.ii_le_f hc13) (pc' := 27) rfl ?_
          refine W0.iloadN (hb hby dSS_27) rfl (pc' := 28) rfl ?_
          refine W0.iloadN (hb hby dSS_28) rfl (pc' := 29) rfl ?_
          refine W0.iadd (hb hby dSS_29) (pc' := 30) rfl ?_
          show Go p e below _ _ (mkF m 30 #[.val (.int (-q)), .val (.int (0 : Int32)), .val (.int (-1000 : Int32)), .val (.int (3 : Int32))] [(.int (3 : Int32))])
          exact W0.retI hret (hb hby dSS_30) (by decide) (by decide) ⟨congrArg (fun z => some (Value.int z)) (by rw [ssF, if_neg hc1, if_neg hc11, if_neg hc12, if_pos hc13]), rfl⟩
        · refine W0.icmpYes (hb hby dSS_24) (XT.ii_le_t hc13) (by decide) (pc' := 31) (by decide) ?_
          refine W0.bipush (10 : Int32) (hb hby dSS_31) rfl (pc' := 33) rfl ?_
          refine W0.iloadN (hb hby dSS_33) rfl (pc' := 34) rfl ?_
          refine W0.imul (hb hby dSS_34) (pc' := 35) rfl ?_
          show Go p e below _ _ (mkF m 35 #[.val (.int (-q)), .val (.int (0 : Int32)), .val (.int (-1000 : Int32)), .val (.int (3 : Int32))] [(.int (-10000 : Int32))])
          refine W0.istoreN (Ls' := #[.val (.int (-q)), .val (.int (0 : Int32)), .val (.int (-10000 : Int32)), .val (.int (3 : Int32))]) (hb hby dSS_35) rfl (pc' := 36) rfl ?_
          refine W0.iinc (Ls' := #[.val (.int (-q)), .val (.int (0 : Int32)), .val (.int (-10000 : Int32)), .val (.int ((3 : Int32) + (1 : Int32)))]) (1 : Int32) (hb hby dSS_36) rfl rfl rfl (pc' := 39) rfl ?_
          show Go p e below _ _ (mkF m 39 #[.val (.int (-q)), .val (.int (0 : Int32)), .val (.int (-10000 : Int32)), .val (.int (4 : Int32))] [])
          refine W0.goto (hb hby dSS_39) (by decide) (pc' := 16) (by decide) ?_
          refine W0.iloadN (hb hby dSS_16) rfl (pc' := 17) rfl ?_
          refine W0.bipush (10 : Int32) (hb hby dSS_17) rfl (pc' := 19) rfl ?_
          refine W0.icmpNo (hb hby dSS_19) (XT.ii_ge_f (by decide)) (pc' := 22) rfl ?_
          refine W0.iloadN (hb hby dSS_22) rfl (pc' := 23) rfl ?_
          refine W0.iloadN (hb hby dSS_23) rfl (pc' := 24) rfl ?_
          by_cases hc14 : (-10000 : Int32) < (-q)
          · refine W0.icmpNo (hb hby dSS_24) (XT.ii_le_f hc14) (pc' := 27) rfl ?_
            refine W0.iloadN (hb hby dSS_27) rfl (pc' := 28) rfl ?_
            refine W0.iloadN (hb hby dSS_28) rfl (pc' := 29) rfl ?_
            refine W0.iadd (hb hby dSS_29) (pc' := 30) rfl ?_
            show Go p e below _ _ (mkF m 30 #[.val (.int (-q)), .val (.int (0 : Int32)), .val (.int (-10000 : Int32)), .val (.int (4 : Int32))] [(.int (4 : Int32))])
            exact W0.retI hret (hb hby dSS_30) (by decide) (by decide) ⟨congrArg (fun z => some (Value.int z)) (by rw [ssF, if_neg hc1, if_neg hc11, if_neg hc12, if_neg hc13, if_pos hc14]), rfl⟩
          · refine W0.icmpYes (hb hby dSS_24) (XT.ii_le_t hc14) (by decide) (pc' := 31) (by decide) ?_
            refine W0.bipush (10 : Int32) (hb hby dSS_31) rfl (pc' := 33) rfl ?_
            refine W0.iloadN (hb hby dSS_33) rfl (pc' := 34) rfl ?_
            refine W0.imul (hb hby dSS_34) (pc' := 35) rfl ?_
            show Go p e below _ _ (mkF m 35 #[.val (.int (-q)), .val (.int (0 : Int32)), .val (.int (-10000 : Int32)), .val (.int (4 : Int32))] [(.int (-100000 : Int32))])
            refine W0.istoreN (Ls' := #[.val (.int (-q)), .val (.int (0 : Int32)), .val (.int (-100000 : Int32)), .val (.int (4 : Int32))]) (hb hby dSS_35) rfl (pc' := 36) rfl ?_
            refine W0.iinc (Ls' := #[.val (.int (-q)), .val (.int (0 : Int32)), .val (.int (-100000 : Int32)), .val (.int ((4 : Int32) + (1 : Int32)))]) (1 : Int32) (hb hby dSS_36) rfl rfl rfl (pc' := 39) rfl ?_
            show Go p e below _ _ (mkF m 39 #[.val (.int (-q)), .val (.int (0 : Int32)), .val (.int (-100000 : Int32)), .val (.int (5 : Int32))] [])
            refine W0.goto (hb hby dSS_39) (by decide) (pc' := 16) (by decide) ?_
            refine W0.iloadN (hb hby dSS_16) rfl (pc' := 17) rfl ?_
            refine W0.bipush (10 : Int32) (hb hby dSS_17) rfl (pc' := 19) rfl ?_
            refine W0.icmpNo (hb hby dSS_19) (XT.ii_ge_f (by decide)) (pc' := 22) rfl ?_
            refine W0.iloadN (hb hby dSS_22) rfl (pc' := 23) rfl ?_
            refine W0.iloadN (hb hby dSS_23) rfl (pc' := 24) rfl ?_
            by_cases hc15 : (-100000 : Int32) < (-q)
            · refine W0.icmpNo (hb hby dSS_24) (XT.ii_le_f hc15) (pc' := 27) rfl ?_
              refine W0.iloadN (hb hby dSS_27) rfl (pc' := 28) rfl ?_
              refine W0.iloadN (hb hby dSS_28) rfl (pc' := 29) rfl ?_
              refine W0.iadd (hb hby dSS_29) (pc' := 30) rfl ?_
              show Go p e below _ _ (mkF m 30 #[.val (.int (-q)), .val (.int (0 : Int32)), .val (.int (-100000 : Int32)), .val (.int (5 : Int32))] [(.int (5 : Int32))])
              exact W0.retI hret (hb hby dSS_30) (by decide) (by decide) ⟨congrArg (fun z => some (Value.int z)) (by rw [ssF, if_neg hc1, if_neg hc11, if_neg hc12, if_neg hc13, if_neg hc14, if_pos hc15]), rfl⟩
            · refine W0.icmpYes (hb hby dSS_24) (XT.ii_le_t hc15) (by decide) (pc' := 31) (by decide) ?_
              refine W0.bipush (10 : Int32) (hb hby dSS_31) rfl (pc' := 33) rfl ?_
              refine W0.iloadN (hb hby dSS_33) rfl (pc' := 34) rfl ?_
              refine W0.imul (hb hby dSS_34) (pc' := 35) rfl ?_
              show Go p e below _ _ (mkF m 35 #[.val (.int (-q)), .val (.int (0 : Int32)), .val (.int (-100000 : Int32)), .val (.int (5 : Int32))] [(.int (-1000000 : Int32))])
              refine W0.istoreN (Ls' := #[.val (.int (-q)), .val (.int (0 : Int32)), .val (.int (-1000000 : Int32)), .val (.int (5 : Int32))]) (hb hby dSS_35) rfl (pc' := 36) rfl ?_
              refine W0.iinc (Ls' := #[.val (.int (-q)), .val (.int (0 : Int32)), .val (.int (-1000000 : Int32)), .val (.int ((5 : Int32) + (1 : Int32)))]) (1 : Int32) (hb hby dSS_36) rfl rfl rfl (pc' := 39) rfl ?_
              show Go p e below _ _ (mkF m 39 #[.val (.int (-q)), .val (.int (0 : Int32)), .val (.int (-1000000 : Int32)), .val (.int (6 : Int32))] [])
              refine W0.goto (hb hby dSS_39) (by decide) (pc' := 16) (by decide) ?_
              refine W0.iloadN (hb hby dSS_16) rfl (pc' := 17) rfl ?_
              refine W0.bipush (10 : Int32) (hb hby dSS_17) rfl (pc' := 19) rfl ?_
              refine W0.icmpNo (hb hby dSS_19) (XT.ii_ge_f (by decide)) (pc' := 22) rfl ?_
              refine W0.iloadN (hb hby dSS_22) rfl (pc' := 23) rfl ?_
              refine W0.iloadN (hb hby dSS_23) rfl (pc' := 24) rfl ?_
              by_cases hc16 : (-1000000 : Int32) < (-q)
              · refine W0.icmpNo (hb hby dSS_24) (XT.ii_le_f hc16) (pc' := 27) rfl ?_
                refine W0.iloadN (hb hby dSS_27) rfl (pc' := 28) rfl ?_
                refine W0.iloadN (hb hby dSS_28) rfl (pc' := 29) rfl ?_
                refine W0.iadd (hb hby dSS_29) (pc' := 30) rfl ?_
                show Go p e below _ _ (mkF m 30 #[.val (.int (-q)), .val (.int (0 : Int32)), .val (.int (-1000000 : Int32)), .val (.int (6 : Int32))] [(.int (6 : Int32))])
                exact W0.retI hret (hb hby dSS_30) (by decide) (by decide) ⟨congrArg (fun z => some (Value.int z)) (by rw [ssF, if_neg hc1, if_neg hc11, if_neg hc12, if_neg hc13, if_neg hc14, if_neg hc15, if_pos hc16]), rfl⟩
              · refine W0.icmpYes (hb hby dSS_24) (XT.ii_le_t hc16) (by decide) (pc' := 31) (by decide) ?_
                refine W0.bipush (10 : Int32) (hb hby dSS_31) rfl (pc' := 33) rfl ?_
                refine W0.iloadN (hb hby dSS_33) rfl (pc' := 34) rfl ?_
                refine W0.imul (hb hby dSS_34) (pc' := 35) rfl ?_
                show Go p e below _ _ (mkF m 35 #[.val (.int (-q)), .val (.int (0 : Int32)), .val (.int (-1000000 : Int32)), .val (.int (6 : Int32))] [(.int (-10000000 : Int32))])
                refine W0.istoreN (Ls' := #[.val (.int (-q)), .val (.int (0 : Int32)), .val (.int (-10000000 : Int32)), .val (.int (6 : Int32))]) (hb hby dSS_35) rfl (pc' := 36) rfl ?_
                refine W0.iinc (Ls' := #[.val (.int (-q)), .val (.int (0 : Int32)), .val (.int (-10000000 : Int32)), .val (.int ((6 : Int32) + (1 : Int32)))]) (1 : Int32) (hb hby dSS_36) rfl rfl rfl (pc' := 39) rfl ?_
                show Go p e below _ _ (mkF m 39 #[.val (.int (-q)), .val (.int (0 : Int32)), .val (.int (-10000000 : Int32)), .val (.int (7 : Int32))] [])
                refine W0.goto (hb hby dSS_39) (by decide) (pc' := 16) (by decide) ?_
                refine W0.iloadN (hb hby dSS_16) rfl (pc' := 17) rfl ?_
                refine W0.bipush (10 : Int32) (hb hby dSS_17) rfl (pc' := 19) rfl ?_
                refine W0.icmpNo (hb hby dSS_19) (XT.ii_ge_f (by decide)) (pc' := 22) rfl ?_
                refine W0.iloadN (hb hby dSS_22) rfl (pc' := 23) rfl ?_
                refine W0.iloadN (hb hby dSS_23) rfl (pc' := 24) rfl ?_
                by_cases hc17 : (-10000000 : Int32) < (-q)
                · refine W0.icmpNo (hb hby dSS_24) (XT.ii_le_f hc17) (pc' := 27) rfl ?_
                  refine W0.iloadN (hb hby dSS_27) rfl (pc' := 28) rfl ?_
                  refine W0.iloadN (hb hby dSS_28) rfl (pc' := 29) rfl ?_
                  refine W0.iadd (hb hby dSS_29) (pc' := 30) rfl ?_
                  show Go p e below _ _ (mkF m 30 #[.val (.int (-q)), .val (.int (0 : Int32)), .val (.int (-10000000 : Int32)), .val (.int (7 : Int32))] [(.int (7 : Int32))])
                  exact W0.retI hret (hb hby dSS_30) (by decide) (by decide) ⟨congrArg (fun z => some (Value.int z)) (by rw [ssF, if_neg hc1, if_neg hc11, if_neg hc12, if_neg hc13, if_neg hc14, if_neg hc15, if_neg hc16, if_pos hc17]), rfl⟩
                · refine W0.icmpYes (hb hby dSS_24) (XT.ii_le_t hc17) (by decide) (pc' := 31) (by decide) ?_
                  refine W0.bipush (10 : Int32) (hb hby dSS_31) rfl (pc' := 33) rfl ?_
                  refine W0.iloadN (hb hby dSS_33) rfl (pc' := 34) rfl ?_
                  refine W0.imul (hb hby dSS_34) (pc' := 35) rfl ?_
                  show Go p e below _ _ (mkF m 35 #[.val (.int (-q)), .val (.int (0 : Int32)), .val (.int (-10000000 : Int32)), .val (.int (7 : Int32))] [(.int (-100000000 : Int32))])
                  refine W0.istoreN (Ls' := #[.val (.int (-q)), .val (.int (0 : Int32)), .val (.int (-100000000 : Int32)), .val (.int (7 : Int32))]) (hb hby dSS_35) rfl (pc' := 36) rfl ?_
                  refine W0.iinc (Ls' := #[.val (.int (-q)), .val (.int (0 : Int32)), .val (.int (-100000000 : Int32)), .val (.int ((7 : Int32) + (1 : Int32)))]) (1 : Int32) (hb hby dSS_36) rfl rfl rfl (pc' := 39) rfl ?_
                  show Go p e below _ _ (mkF m 39 #[.val (.int (-q)), .val (.int (0 : Int32)), .val (.int (-100000000 : Int32)), .val (.int (8 : Int32))] [])
                  refine W0.goto (hb hby dSS_39) (by decide) (pc' := 16) (by decide) ?_
                  refine W0.iloadN (hb hby dSS_16) rfl (pc' := 17) rfl ?_
                  refine W0.bipush (10 : Int32) (hb hby dSS_17) rfl (pc' := 19) rfl ?_
                  refine W0.icmpNo (hb hby dSS_19) (XT.ii_ge_f (by decide)) (pc' := 22) rfl ?_
                  refine W0.iloadN (hb hby dSS_22) rfl (pc' := 23) rfl ?_
                  refine W0.iloadN (hb hby dSS_23) rfl (pc' := 24) rfl ?_
                  by_cases hc18 : (-100000000 : Int32) < (-q)
                  · refine W0.icmpNo (hb hby dSS_24) (XT.ii_le_f hc18) (pc' := 27) rfl ?_
                    refine W0.iloadN (hb hby dSS_27) rfl (pc' := 28) rfl ?_
                    refine W0.iloadN (hb hby dSS_28) rfl (pc' := 29) rfl ?_
                    refine W0.iadd (hb hby dSS_29) (pc' := 30) rfl ?_
                    show Go p e below _ _ (mkF m 30 #[.val (.int (-q)), .val (.int (0 : Int32)), .val (.int (-100000000 : Int32)), .val (.int (8 : Int32))] [(.int (8 : Int32))])
                    exact W0.retI hret (hb hby dSS_30) (by decide) (by decide) ⟨congrArg (fun z => some (Value.int z)) (by rw [ssF, if_neg hc1, if_neg hc11, if_neg hc12, if_neg hc13, if_neg hc14, if_neg hc15, if_neg hc16, if_neg hc17, if_pos hc18]), rfl⟩
                  · refine W0.icmpYes (hb hby dSS_24) (XT.ii_le_t hc18) (by decide) (pc' := 31) (by decide) ?_
                    refine W0.bipush (10 : Int32) (hb hby dSS_31) rfl (pc' := 33) rfl ?_
                    refine W0.iloadN (hb hby dSS_33) rfl (pc' := 34) rfl ?_
                    refine W0.imul (hb hby dSS_34) (pc' := 35) rfl ?_
                    show Go p e below _ _ (mkF m 35 #[.val (.int (-q)), .val (.int (0 : Int32)), .val (.int (-100000000 : Int32)), .val (.int (8 : Int32))] [(.int (-1000000000 : Int32))])
                    refine W0.istoreN (Ls' := #[.val (.int (-q)), .val (.int (0 : Int32)), .val (.int (-1000000000 : Int32)), .val (.int (8 : Int32))]) (hb hby dSS_35) rfl (pc' := 36) rfl ?_
                    refine W0.iinc (Ls' := #[.val (.int (-q)), .val (.int (0 : Int32)), .val (.int (-1000000000 : Int32)), .val (.int ((8 : Int32) + (1 : Int32)))]) (1 : Int32) (hb hby dSS_36) rfl rfl rfl (pc' := 39) rfl ?_
                    show Go p e below _ _ (mkF m 39 #[.val (.int (-q)), .val (.int (0 : Int32)), .val (.int (-1000000000 : Int32)), .val (.int (9 : Int32))] [])
                    refine W0.goto (hb hby dSS_39) (by decide) (pc' := 16) (by decide) ?_
                    refine W0.iloadN (hb hby dSS_16) rfl (pc' := 17) rfl ?_
                    refine W0.bipush (10 : Int32) (hb hby dSS_17) rfl (pc' := 19) rfl ?_
                    refine W0.icmpNo (hb hby dSS_19) (XT.ii_ge_f (by decide)) (pc' := 22) rfl ?_
                    refine W0.iloadN (hb hby dSS_22) rfl (pc' := 23) rfl ?_
                    refine W0.iloadN (hb hby dSS_23) rfl (pc' := 24) rfl ?_
                    by_cases hc19 : (-1000000000 : Int32) < (-q)
                    · refine W0.icmpNo (hb hby dSS_24) (XT.ii_le_f hc19) (pc' := 27) rfl ?_
                      refine W0.iloadN (hb hby dSS_27) rfl (pc' := 28) rfl ?_
                      refine W0.iloadN (hb hby dSS_28) rfl (pc' := 29) rfl ?_
                      refine W0.iadd (hb hby dSS_29) (pc' := 30) rfl ?_
                      show Go p e below _ _ (mkF m 30 #[.val (.int (-q)), .val (.int (0 : Int32)), .val (.int (-1000000000 : Int32)), .val (.int (9 : Int32))] [(.int (9 : Int32))])
                      exact W0.retI hret (hb hby dSS_30) (by decide) (by decide) ⟨congrArg (fun z => some (Value.int z)) (by rw [ssF, if_neg hc1, if_neg hc11, if_neg hc12, if_neg hc13, if_neg hc14, if_neg hc15, if_neg hc16, if_neg hc17, if_neg hc18, if_pos hc19]), rfl⟩
                    · refine W0.icmpYes (hb hby dSS_24) (XT.ii_le_t hc19) (by decide) (pc' := 31) (by decide) ?_
                      refine W0.bipush (10 : Int32) (hb hby dSS_31) rfl (pc' := 33) rfl ?_
                      refine W0.iloadN (hb hby dSS_33) rfl (pc' := 34) rfl ?_
                      refine W0.imul (hb hby dSS_34) (pc' := 35) rfl ?_
                      show Go p e below _ _ (mkF m 35 #[.val (.int (-q)), .val (.int (0 : Int32)), .val (.int (-1000000000 : Int32)), .val (.int (9 : Int32))] [(.int (-10000000000 : Int32))])
                      refine W0.istoreN (Ls' := #[.val (.int (-q)), .val (.int (0 : Int32)), .val (.int (-10000000000 : Int32)), .val (.int (9 : Int32))]) (hb hby dSS_35) rfl (pc' := 36) rfl ?_
                      refine W0.iinc (Ls' := #[.val (.int (-q)), .val (.int (0 : Int32)), .val (.int (-10000000000 : Int32)), .val (.int ((9 : Int32) + (1 : Int32)))]) (1 : Int32) (hb hby dSS_36) rfl rfl rfl (pc' := 39) rfl ?_
                      show Go p e below _ _ (mkF m 39 #[.val (.int (-q)), .val (.int (0 : Int32)), .val (.int (-10000000000 : Int32)), .val (.int (10 : Int32))] [])
                      refine W0.goto (hb hby dSS_39) (by decide) (pc' := 16) (by decide) ?_
                      refine W0.iloadN (hb hby dSS_16) rfl (pc' := 17) rfl ?_
                      refine W0.bipush (10 : Int32) (hb hby dSS_17) rfl (pc' := 19) rfl ?_
                      refine W0.icmpYes (hb hby dSS_19) (XT.ii_ge_t (by decide)) (by decide) (pc' := 42) (by decide) ?_
                      refine W0.bipush (10 : Int32) (hb hby dSS_42) rfl (pc' := 44) rfl ?_
                      refine W0.iloadN (hb hby dSS_44) rfl (pc' := 45) rfl ?_
                      refine W0.iadd (hb hby dSS_45) (pc' := 46) rfl ?_
                      show Go p e below _ _ (mkF m 46 #[.val (.int (-q)), .val (.int (0 : Int32)), .val (.int (-10000000000 : Int32)), .val (.int (10 : Int32))] [(.int (10 : Int32))])
                      exact W0.retI hret (hb hby dSS_46) (by decide) (by decide) ⟨congrArg (fun z => some (Value.int z)) (by rw [ssF, if_neg hc1, if_neg hc11, if_neg hc12, if_neg hc13, if_neg hc14, if_neg hc15, if_neg hc16, if_neg hc17, if_neg hc18, if_neg hc19]), rfl⟩
theorem ss_dig (q : Int32) : ssF q = Int32.ofNat (itx q).length := by
  rw [itx_len]
  have hm := mag_le q
  by_cases h : q < 0
  · rw [ssF, if_pos h, sgn_pos h]
    have e := neg_mag h
    generalize mag q = n at hm e
    have f1 : ((-10 : Int32) < q) = (n < 10) := propext (by rw [show (-10 : Int32) = SBG.negI 10 from by decide +kernel, e, SBG.negI_lt hm 10 (by omega)])
    have f2 : ((-100 : Int32) < q) = (n < 100) := propext (by rw [show (-100 : Int32) = SBG.negI 100 from by decide +kernel, e, SBG.negI_lt hm 100 (by omega)])
    have f3 : ((-1000 : Int32) < q) = (n < 1000) := propext (by rw [show (-1000 : Int32) = SBG.negI 1000 from by decide +kernel, e, SBG.negI_lt hm 1000 (by omega)])
    have f4 : ((-10000 : Int32) < q) = (n < 10000) := propext (by rw [show (-10000 : Int32) = SBG.negI 10000 from by decide +kernel, e, SBG.negI_lt hm 10000 (by omega)])
    have f5 : ((-100000 : Int32) < q) = (n < 100000) := propext (by rw [show (-100000 : Int32) = SBG.negI 100000 from by decide +kernel, e, SBG.negI_lt hm 100000 (by omega)])
    have f6 : ((-1000000 : Int32) < q) = (n < 1000000) := propext (by rw [show (-1000000 : Int32) = SBG.negI 1000000 from by decide +kernel, e, SBG.negI_lt hm 1000000 (by omega)])
    have f7 : ((-10000000 : Int32) < q) = (n < 10000000) := propext (by rw [show (-10000000 : Int32) = SBG.negI 10000000 from by decide +kernel, e, SBG.negI_lt hm 10000000 (by omega)])
    have f8 : ((-100000000 : Int32) < q) = (n < 100000000) := propext (by rw [show (-100000000 : Int32) = SBG.negI 100000000 from by decide +kernel, e, SBG.negI_lt hm 100000000 (by omega)])
    have f9 : ((-1000000000 : Int32) < q) = (n < 1000000000) := propext (by rw [show (-1000000000 : Int32) = SBG.negI 1000000000 from by decide +kernel, e, SBG.negI_lt hm 1000000000 (by omega)])
    simp only [f1, f2, f3, f4, f5, f6, f7, f8, f9]
    unfold SBG.digits
    by_cases g1 : n < 10
    · rw [if_pos g1, if_pos g1]; rfl
    rw [if_neg g1, if_neg g1]
    by_cases g2 : n < 100
    · rw [if_pos g2, if_pos g2]; rfl
    rw [if_neg g2, if_neg g2]
    by_cases g3 : n < 1000
    · rw [if_pos g3, if_pos g3]; rfl
    rw [if_neg g3, if_neg g3]
    by_cases g4 : n < 10000
    · rw [if_pos g4, if_pos g4]; rfl
    rw [if_neg g4, if_neg g4]
    by_cases g5 : n < 100000
    · rw [if_pos g5, if_pos g5]; rfl
    rw [if_neg g5, if_neg g5]
    by_cases g6 : n < 1000000
    · rw [if_pos g6, if_pos g6]; rfl
    rw [if_neg g6, if_neg g6]
    by_cases g7 : n < 10000000
    · rw [if_pos g7, if_pos g7]; rfl
    rw [if_neg g7, if_neg g7]
    by_cases g8 : n < 100000000
    · rw [if_pos g8, if_pos g8]; rfl
    rw [if_neg g8, if_neg g8]
    by_cases g9 : n < 1000000000
    · rw [if_pos g9, if_pos g9]; rfl
    rw [if_neg g9, if_neg g9]
    rfl
  · rw [ssF, if_neg h, sgn_neg h]
    have e := pos_mag h
    generalize mag q = n at hm e
    have f1 : ((-10 : Int32) < (-q)) = (n < 10) := propext (by rw [show (-10 : Int32) = SBG.negI 10 from by decide +kernel, e, SBG.negI_lt hm 10 (by omega)])
    have f2 : ((-100 : Int32) < (-q)) = (n < 100) := propext (by rw [show (-100 : Int32) = SBG.negI 100 from by decide +kernel, e, SBG.negI_lt hm 100 (by omega)])
    have f3 : ((-1000 : Int32) < (-q)) = (n < 1000) := propext (by rw [show (-1000 : Int32) = SBG.negI 1000 from by decide +kernel, e, SBG.negI_lt hm 1000 (by omega)])
    have f4 : ((-10000 : Int32) < (-q)) = (n < 10000) := propext (by rw [show (-10000 : Int32) = SBG.negI 10000 from by decide +kernel, e, SBG.negI_lt hm 10000 (by omega)])
    have f5 : ((-100000 : Int32) < (-q)) = (n < 100000) := propext (by rw [show (-100000 : Int32) = SBG.negI 100000 from by decide +kernel, e, SBG.negI_lt hm 100000 (by omega)])
    have f6 : ((-1000000 : Int32) < (-q)) = (n < 1000000) := propext (by rw [show (-1000000 : Int32) = SBG.negI 1000000 from by decide +kernel, e, SBG.negI_lt hm 1000000 (by omega)])
    have f7 : ((-10000000 : Int32) < (-q)) = (n < 10000000) := propext (by rw [show (-10000000 : Int32) = SBG.negI 10000000 from by decide +kernel, e, SBG.negI_lt hm 10000000 (by omega)])
    have f8 : ((-100000000 : Int32) < (-q)) = (n < 100000000) := propext (by rw [show (-100000000 : Int32) = SBG.negI 100000000 from by decide +kernel, e, SBG.negI_lt hm 100000000 (by omega)])
    have f9 : ((-1000000000 : Int32) < (-q)) = (n < 1000000000) := propext (by rw [show (-1000000000 : Int32) = SBG.negI 1000000000 from by decide +kernel, e, SBG.negI_lt hm 1000000000 (by omega)])
    simp only [f1, f2, f3, f4, f5, f6, f7, f8, f9]
    unfold SBG.digits
    by_cases g1 : n < 10
    · rw [if_pos g1, if_pos g1]; rfl
    rw [if_neg g1, if_neg g1]
    by_cases g2 : n < 100
    · rw [if_pos g2, if_pos g2]; rfl
    rw [if_neg g2, if_neg g2]
    by_cases g3 : n < 1000
    · rw [if_pos g3, if_pos g3]; rfl
    rw [if_neg g3, if_neg g3]
    by_cases g4 : n < 10000
    · rw [if_pos g4, if_pos g4]; rfl
    rw [if_neg g4, if_neg g4]
    by_cases g5 : n < 100000
    · rw [if_pos g5, if_pos g5]; rfl
    rw [if_neg g5, if_neg g5]
    by_cases g6 : n < 1000000
    · rw [if_pos g6, if_pos g6]; rfl
    rw [if_neg g6, if_neg g6]
    by_cases g7 : n < 10000000
    · rw [if_pos g7, if_pos g7]; rfl
    rw [if_neg g7, if_neg g7]
    by_cases g8 : n < 100000000
    · rw [if_pos g8, if_pos g8]; rfl
    rw [if_neg g8, if_neg g8]
    by_cases g9 : n < 1000000000
    · rw [if_pos g9, if_pos g9]; rfl
    rw [if_neg g9, if_neg g9]
    rfl
--CUT gc
theorem dGC_0 : decode jdk_33_method_12_code 0 = .ok (.iload_n 1, 1) := by decide +kernel
theorem dGC_1 : decode jdk_33_method_12_code 1 = .ok (.istore 5, 2) := by decide +kernel
theorem dGC_3 : decode jdk_33_method_12_code 3 = .ok (.iload_n 0, 1) := by decide +kernel
theorem dGC_4 : decode jdk_33_method_12_code 4 = .ok (.ifCond .ge 7, 3) := by decide +kernel
theorem dGC_7 : decode jdk_33_method_12_code 7 = .ok (.iconst 1, 1) := by decide +kernel
theorem dGC_8 : decode jdk_33_method_12_code 8 = .ok (.goto 4, 3) := by decide +kernel
theorem dGC_12 : decode jdk_33_method_12_code 12 = .ok (.istore 6, 2) := by decide +kernel
theorem dGC_14 : decode jdk_33_method_12_code 14 = .ok (.iload 6, 2) := by decide +kernel
theorem dGC_16 : decode jdk_33_method_12_code 16 = .ok (.ifCond .ne 6, 3) := by decide +kernel
theorem dGC_104 : decode jdk_33_method_12_code 104 = .ok (.iload 6, 2) := by decide +kernel
theorem dGC_106 : decode jdk_33_method_12_code 106 = .ok (.ifCond .eq 12, 3) := by decide +kernel
theorem dGC_109 : decode jdk_33_method_12_code 109 = .ok (.aload_n 2, 1) := by decide +kernel
theorem dGC_110 : decode jdk_33_method_12_code 110 = .ok (.iinc 5 (-1), 3) := by decide +kernel
theorem dGC_113 : decode jdk_33_method_12_code 113 = .ok (.iload 5, 2) := by decide +kernel
theorem dGC_115 : decode jdk_33_method_12_code 115 = .ok (.bipush 45, 2) := by decide +kernel
theorem dGC_117 : decode jdk_33_method_12_code 117 = .ok (.bastore, 1) := by decide +kernel
theorem dGC_118 : decode jdk_33_method_12_code 118 = .ok (.iload 5, 2) := by decide +kernel
theorem dGC_120 : decode jdk_33_method_12_code 120 = .ok (.ireturn, 1) := by decide +kernel
theorem dGC_22 : decode jdk_33_method_12_code 22 = .ok (.iload_n 0, 1) := by decide +kernel
theorem dGC_23 : decode jdk_33_method_12_code 23 = .ok (.bipush (-100), 2) := by decide +kernel
theorem dGC_25 : decode jdk_33_method_12_code 25 = .ok (.if_icmp .gt 47, 3) := by decide +kernel
theorem dGC_28 : decode jdk_33_method_12_code 28 = .ok (.iload_n 0, 1) := by decide +kernel
theorem dGC_29 : decode jdk_33_method_12_code 29 = .ok (.bipush 100, 2) := by decide +kernel
theorem dGC_31 : decode jdk_33_method_12_code 31 = .ok (.idiv, 1) := by decide +kernel
theorem dGC_32 : decode jdk_33_method_12_code 32 = .ok (.istore_n 3, 1) := by decide +kernel
theorem dGC_33 : decode jdk_33_method_12_code 33 = .ok (.iload_n 3, 1) := by decide +kernel
theorem dGC_34 : decode jdk_33_method_12_code 34 = .ok (.bipush 100, 2) := by decide +kernel
theorem dGC_36 : decode jdk_33_method_12_code 36 = .ok (.imul, 1) := by decide +kernel
theorem dGC_37 : decode jdk_33_method_12_code 37 = .ok (.iload_n 0, 1) := by decide +kernel
theorem dGC_38 : decode jdk_33_method_12_code 38 = .ok (.isub, 1) := by decide +kernel
theorem dGC_39 : decode jdk_33_method_12_code 39 = .ok (.istore 4, 2) := by decide +kernel
theorem dGC_41 : decode jdk_33_method_12_code 41 = .ok (.iload_n 3, 1) := by decide +kernel
theorem dGC_42 : decode jdk_33_method_12_code 42 = .ok (.istore_n 0, 1) := by decide +kernel
theorem dGC_43 : decode jdk_33_method_12_code 43 = .ok (.aload_n 2, 1) := by decide +kernel
theorem dGC_44 : decode jdk_33_method_12_code 44 = .ok (.iinc 5 (-1), 3) := by decide +kernel
theorem dGC_47 : decode jdk_33_method_12_code 47 = .ok (.iload 5, 2) := by decide +kernel
theorem dGC_49 : decode jdk_33_method_12_code 49 = .ok (.getstatic 83, 3) := by decide +kernel
theorem dGC_52 : decode jdk_33_method_12_code 52 = .ok (.iload 4, 2) := by decide +kernel
theorem dGC_54 : decode jdk_33_method_12_code 54 = .ok (.baload, 1) := by decide +kernel
theorem dGC_55 : decode jdk_33_method_12_code 55 = .ok (.bastore, 1) := by decide +kernel
theorem dGC_56 : decode jdk_33_method_12_code 56 = .ok (.aload_n 2, 1) := by decide +kernel
theorem dGC_57 : decode jdk_33_method_12_code 57 = .ok (.iinc 5 (-1), 3) := by decide +kernel
theorem dGC_60 : decode jdk_33_method_12_code 60 = .ok (.iload 5, 2) := by decide +kernel
theorem dGC_62 : decode jdk_33_method_12_code 62 = .ok (.getstatic 87, 3) := by decide +kernel
theorem dGC_65 : decode jdk_33_method_12_code 65 = .ok (.iload 4, 2) := by decide +kernel
theorem dGC_67 : decode jdk_33_method_12_code 67 = .ok (.baload, 1) := by decide +kernel
theorem dGC_68 : decode jdk_33_method_12_code 68 = .ok (.bastore, 1) := by decide +kernel
theorem dGC_69 : decode jdk_33_method_12_code 69 = .ok (.goto (-47), 3) := by decide +kernel
theorem dGC_72 : decode jdk_33_method_12_code 72 = .ok (.aload_n 2, 1) := by decide +kernel
theorem dGC_73 : decode jdk_33_method_12_code 73 = .ok (.iinc 5 (-1), 3) := by decide +kernel
theorem dGC_76 : decode jdk_33_method_12_code 76 = .ok (.iload 5, 2) := by decide +kernel
theorem dGC_78 : decode jdk_33_method_12_code 78 = .ok (.getstatic 83, 3) := by decide +kernel
theorem dGC_81 : decode jdk_33_method_12_code 81 = .ok (.iload_n 0, 1) := by decide +kernel
theorem dGC_82 : decode jdk_33_method_12_code 82 = .ok (.ineg, 1) := by decide +kernel
theorem dGC_83 : decode jdk_33_method_12_code 83 = .ok (.baload, 1) := by decide +kernel
theorem dGC_84 : decode jdk_33_method_12_code 84 = .ok (.bastore, 1) := by decide +kernel
theorem dGC_85 : decode jdk_33_method_12_code 85 = .ok (.iload_n 0, 1) := by decide +kernel
theorem dGC_86 : decode jdk_33_method_12_code 86 = .ok (.bipush (-9), 2) := by decide +kernel
theorem dGC_88 : decode jdk_33_method_12_code 88 = .ok (.if_icmp .ge 16, 3) := by decide +kernel
theorem dGC_91 : decode jdk_33_method_12_code 91 = .ok (.aload_n 2, 1) := by decide +kernel
theorem dGC_92 : decode jdk_33_method_12_code 92 = .ok (.iinc 5 (-1), 3) := by decide +kernel
theorem dGC_95 : decode jdk_33_method_12_code 95 = .ok (.iload 5, 2) := by decide +kernel
theorem dGC_97 : decode jdk_33_method_12_code 97 = .ok (.getstatic 87, 3) := by decide +kernel
theorem dGC_100 : decode jdk_33_method_12_code 100 = .ok (.iload_n 0, 1) := by decide +kernel
theorem dGC_101 : decode jdk_33_method_12_code 101 = .ok (.ineg, 1) := by decide +kernel
theorem dGC_102 : decode jdk_33_method_12_code 102 = .ok (.baload, 1) := by decide +kernel
theorem dGC_103 : decode jdk_33_method_12_code 103 = .ok (.bastore, 1) := by decide +kernel
theorem dGC_11 : decode jdk_33_method_12_code 11 = .ok (.iconst 0, 1) := by decide +kernel
theorem dGC_19 : decode jdk_33_method_12_code 19 = .ok (.iload_n 0, 1) := by decide +kernel
theorem dGC_20 : decode jdk_33_method_12_code 20 = .ok (.ineg, 1) := by decide +kernel
theorem dGC_21 : decode jdk_33_method_12_code 21 = .ok (.istore_n 0, 1) := by decide +kernel
theorem pn_GC : plainFor (⟨"java/lang/Integer", "getChars", "(II[B)I"⟩ : MethodName) = true := by first | exact plainFor_of_name (by first | (simp [plainName, overriddenIn]; done) | decide +kernel) | decide +kernel
set_option maxRecDepth 65536 in
set_option maxHeartbeats 40000000 in
theorem rmGC (l : Launch) (Z : State) (a0 : Array Value) (hw : ∀ d ∈ tables_1, d.before a0 Z = true) (q : Int32) (t : Addr) (kt : ClassId) (dO dT : Addr) (kO kT : ClassId) (E0 N : Nat) (vs0 : List Value) (h0 : Heap) (n0 : Nat) (Z0 : n0 ≤ h0.size) (gt : n0 ≤ t) (AT : Arv Z h0 t kt .byte (Int32.ofNat N) vs0 (.int (0 : Int32))) (ET : Exa Z h0 t "[B") (gO : dO < n0) (gT : dT < n0) (TSO : Sta Z h0 "java/lang/Integer" "DigitOnes" "[B" (.ref dO)) (TAO : Arv Z h0 dO kO .byte (100 : Int32) onesV (.int (0 : Int32))) (TST : Sta Z h0 "java/lang/Integer" "DigitTens" "[B" (.ref dT)) (TAT : Arv Z h0 dT kT .byte (100 : Int32) tensV (.int (0 : Int32))) (hE : (itx q).length ≤ E0) (hEN : E0 ≤ N) (hN : N ≤ 62) (hv : N ≤ vs0.length) :
    NM l (⟨"java/lang/Integer", "getChars", "(II[B)I"⟩ : MethodName) jdk_33_method_12_code 7 (some .int) [] ({ frames := 0, cells := 0, slots := 0, locals := 0 } : Room) Z n0 #[(.int q), (.int (Int32.ofNat E0)), (.ref t)] h0 [t] (fun v h => ∃ vs', v = some (.int (Int32.ofNat (E0 - (itx q).length))) ∧ Arv Z h t kt .byte (Int32.ofNat N) vs' (.int (0 : Int32)) ∧ WroteI q E0 vs0 vs') := by
  refine NM.walk (Ls := #[.val (.int q), .val (.int (Int32.ofNat E0)), .val (.ref t), .unset, .unset, .unset, .unset]) pn_GC Z0 (fun m => by first | (simp [entryFrame, mkF, argsToLocals, Value.category]; done) | rfl) ?_
  intro p e s m below meth c s₁ hby hml hret hnm W0
  refine W0.iloadN (hb hby dGC_0) rfl (pc' := 1) rfl ?_
  refine W0.istore (Ls' := #[.val (.int q), .val (.int (Int32.ofNat E0)), .val (.ref t), .unset, .unset, .val (.int (Int32.ofNat E0)), .unset]) (hb hby dGC_1) rfl (pc' := 3) rfl ?_
  refine W0.iloadN (hb hby dGC_3) rfl (pc' := 4) rfl ?_
  by_cases hc1 : q < (0 : Int32)
  · refine W0.ifNo (hb hby dGC_4) (XT.i0_ge_f hc1) (pc' := 7) rfl ?_
    refine W0.iconst (1 : Int32) (hb hby dGC_7) rfl (pc' := 8) rfl ?_
    refine W0.goto (hb hby dGC_8) (by decide) (pc' := 12) (by decide) ?_
    refine W0.istore (Ls' := #[.val (.int q), .val (.int (Int32.ofNat E0)), .val (.ref t), .unset, .unset, .val (.int (Int32.ofNat E0)), .val (.int (1 : Int32))]) (hb hby dGC_12) rfl (pc' := 14) rfl ?_
    refine W0.iload (hb hby dGC_14) rfl (pc' := 16) rfl ?_
    refine W0.ifYes (hb hby dGC_16) (XT.i0_ne_t (by decide)) (by decide) (pc' := 22) (by decide) ?_
    have hil := itx_len q
    have hdp := SBG.digits_pos (mag q)
    have hsg := sgn_pos hc1
    have fin : ∀ (vs : List Value) (T : State) (h : Heap) (Lo : List Loc) (z0 : Int32) (sl3 sl4 : Slot), NK p l e ({ frames := 0, cells := 0, slots := 0, locals := 0 } : Room) s m #[(.int q), (.int (Int32.ofNat E0)), (.ref t)] below meth c Z "java/lang/Integer" n0 h0 [t] T h Lo 0 0 → Arv Z h t kt .byte (Int32.ofNat N) vs (.int (0 : Int32)) → Wrote (mag q) E0 vs0 vs → Go p e below (EndN n0 ({ frames := 0, cells := 0, slots := 0, locals := 0 } : Room) s below (fun v h => ∃ vs', v = some (.int (Int32.ofNat (E0 - (itx q).length))) ∧ Arv Z h t kt .byte (Int32.ofNat N) vs' (.int (0 : Int32)) ∧ WroteI q E0 vs0 vs') h0 [t]) T (mkF m 104 #[.val (.int z0), .val (.int (Int32.ofNat E0)), .val (.ref t), sl3, sl4, .val (.int (Int32.ofNat (E0 - SBG.digits (mag q)))), .val (.int (1 : Int32))] []) := by
      intro vs T h Lo z0 sl3 sl4 Wk AV HW
      have hwl := HW.1
      have KK := Wk.2.2.2.2.2.2.1
      refine Wk.iload (hb hby dGC_104) rfl (pc' := 106) rfl ?_
      refine Wk.ifNo (hb hby dGC_106) (XT.i0_eq_f (by decide)) (pc' := 109) rfl ?_
      refine Wk.aloadN (hb hby dGC_109) rfl rfl (pc' := 110) rfl ?_
      refine Wk.iinc (Ls' := #[.val (.int z0), .val (.int (Int32.ofNat E0)), .val (.ref t), sl3, sl4, .val (.int ((Int32.ofNat (E0 - SBG.digits (mag q))) + (-1 : Int32))), .val (.int (1 : Int32))]) (-1 : Int32) (hb hby dGC_110) rfl rfl rfl (pc' := 113) rfl ?_
      rw [dec1 (E := (E0 - SBG.digits (mag q))) (by omega)]
      refine Wk.iload (hb hby dGC_113) rfl (pc' := 115) rfl ?_
      refine Wk.bipush (45 : Int32) (hb hby dGC_115) rfl (pc' := 117) rfl ?_
      have F4 := (ET.keep KK)
      have ln3 : (vs).length = vs.length := by rfl
      refine Wk.stB AV (hb hby dGC_117) (pc' := 118) rfl ((E0 - SBG.digits (mag q)) - 1) (clN (by omega)) (by omega) ⟨ofNat_nn (by omega), (ofNat_lt (by omega) (by omega)).mpr (by omega)⟩ (Or.inl (List.mem_of_getElem? (i := 0) rfl)) gt ?_
      intro T3 h3 L3 W3 K3 V3
      have z3 := K3.1
      refine W3.iload (hb hby dGC_118) rfl (pc' := 120) rfl ?_
      exact W3.retI hret (hb hby dGC_120) (by decide) (by decide) ⟨_, congrArg (fun z => some (Value.int (Int32.ofNat z))) (by omega), V3, WI_neg hc1 hE (by omega) HW⟩
    have loop : ∀ (n E : Nat) (vs : List Value) (T : State) (h : Heap) (Lo : List Loc) (sl3 sl4 : Slot), n ≤ 2 ^ 31 → SBG.digits n ≤ E → E ≤ N → N ≤ vs.length → (sl3 = .unset ∨ ∃ z : Int32, sl3 = .val (.int z)) → (sl4 = .unset ∨ ∃ z : Int32, sl4 = .val (.int z)) → NK p l e ({ frames := 0, cells := 0, slots := 0, locals := 0 } : Room) s m #[(.int q), (.int (Int32.ofNat E0)), (.ref t)] below meth c Z "java/lang/Integer" n0 h0 [t] T h Lo 0 0 → Arv Z h t kt .byte (Int32.ofNat N) vs (.int (0 : Int32)) → (∀ (vs' : List Value) (T : State) (h : Heap) (Lo : List Loc) (z0 : Int32) (sl3 sl4 : Slot), NK p l e ({ frames := 0, cells := 0, slots := 0, locals := 0 } : Room) s m #[(.int q), (.int (Int32.ofNat E0)), (.ref t)] below meth c Z "java/lang/Integer" n0 h0 [t] T h Lo 0 0 → Arv Z h t kt .byte (Int32.ofNat N) vs' (.int (0 : Int32)) → Wrote n E vs vs' → Go p e below (EndN n0 ({ frames := 0, cells := 0, slots := 0, locals := 0 } : Room) s below (fun v h => ∃ vs', v = some (.int (Int32.ofNat (E0 - (itx q).length))) ∧ Arv Z h t kt .byte (Int32.ofNat N) vs' (.int (0 : Int32)) ∧ WroteI q E0 vs0 vs') h0 [t]) T (mkF m 104 #[.val (.int z0), .val (.int (Int32.ofNat E0)), .val (.ref t), sl3, sl4, .val (.int (Int32.ofNat (E - SBG.digits n))), .val (.int (1 : Int32))] [])) → Go p e below (EndN n0 ({ frames := 0, cells := 0, slots := 0, locals := 0 } : Room) s below (fun v h => ∃ vs', v = some (.int (Int32.ofNat (E0 - (itx q).length))) ∧ Arv Z h t kt .byte (Int32.ofNat N) vs' (.int (0 : Int32)) ∧ WroteI q E0 vs0 vs') h0 [t]) T (mkF m 22 #[.val (.int (SBG.negI n)), .val (.int (Int32.ofNat E0)), .val (.ref t), sl3, sl4, .val (.int (Int32.ofNat E)), .val (.int (1 : Int32))] []) := by
      intro n
      induction n using Nat.strongRecOn with
      | ind n ih =>
        intro E vs T h Lo sl3 sl4 hn hd hE hv hs3 hs4 Wk AV kk
        have KK := Wk.2.2.2.2.2.2.1
        have hdp2 := SBG.digits_pos n
        refine Wk.iloadN (hb hby dGC_22) rfl (pc' := 23) rfl ?_
        refine Wk.bipush (-100 : Int32) (hb hby dGC_23) rfl (pc' := 25) rfl ?_
        by_cases hhun : 100 ≤ n
        · have hdd := dig_div hhun hn
          refine Wk.icmpNo (hb hby dGC_25) (XT.ii_gt_f (by rw [show (-100 : Int32) = SBG.negI 100 from by decide +kernel, SBG.negI_lt hn 100 (by omega)]; omega)) (pc' := 28) rfl ?_
          refine Wk.iloadN (hb hby dGC_28) rfl (pc' := 29) rfl ?_
          refine Wk.bipush (100 : Int32) (hb hby dGC_29) rfl (pc' := 31) rfl ?_
          refine Wk.idiv (hb hby dGC_31) (by decide) (pc' := 32) rfl ?_
          rw [SBG.negI_div100 hn]
          refine Wk.istoreN (Ls' := #[.val (.int (SBG.negI n)), .val (.int (Int32.ofNat E0)), .val (.ref t), .val (.int (SBG.negI (n / 100))), sl4, .val (.int (Int32.ofNat E)), .val (.int (1 : Int32))]) (hb hby dGC_32) (by rcases hs3 with rfl | ⟨z, rfl⟩ <;> rfl) (pc' := 33) rfl ?_
          refine Wk.iloadN (hb hby dGC_33) rfl (pc' := 34) rfl ?_
          refine Wk.bipush (100 : Int32) (hb hby dGC_34) rfl (pc' := 36) rfl ?_
          refine Wk.imul (hb hby dGC_36) (pc' := 37) rfl ?_
          refine Wk.iloadN (hb hby dGC_37) rfl (pc' := 38) rfl ?_
          refine Wk.isub (hb hby dGC_38) (pc' := 39) rfl ?_
          rw [SBG.negI_rem hn]
          refine Wk.istore (Ls' := #[.val (.int (SBG.negI n)), .val (.int (Int32.ofNat E0)), .val (.ref t), .val (.int (SBG.negI (n / 100))), .val (.int (Int32.ofNat (n % 100))), .val (.int (Int32.ofNat E)), .val (.int (1 : Int32))]) (hb hby dGC_39) (by rcases hs4 with rfl | ⟨z, rfl⟩ <;> rfl) (pc' := 41) rfl ?_
          refine Wk.iloadN (hb hby dGC_41) rfl (pc' := 42) rfl ?_
          refine Wk.istoreN (Ls' := #[.val (.int (SBG.negI (n / 100))), .val (.int (Int32.ofNat E0)), .val (.ref t), .val (.int (SBG.negI (n / 100))), .val (.int (Int32.ofNat (n % 100))), .val (.int (Int32.ofNat E)), .val (.int (1 : Int32))]) (hb hby dGC_42) rfl (pc' := 43) rfl ?_
          refine Wk.aloadN (hb hby dGC_43) rfl rfl (pc' := 44) rfl ?_
          refine Wk.iinc (Ls' := #[.val (.int (SBG.negI (n / 100))), .val (.int (Int32.ofNat E0)), .val (.ref t), .val (.int (SBG.negI (n / 100))), .val (.int (Int32.ofNat (n % 100))), .val (.int ((Int32.ofNat E) + (-1 : Int32))), .val (.int (1 : Int32))]) (-1 : Int32) (hb hby dGC_44) rfl rfl rfl (pc' := 47) rfl ?_
          rw [dec1 (E := E) (by omega)]
          refine Wk.iload (hb hby dGC_47) rfl (pc' := 49) rfl ?_
          have F6 := (Sta.keepExa TSO KK ET)
          refine Wk.getS (host := "") (Or.inl (hw _ (List.mem_of_getElem? (i := 119) rfl))) Via.refl F6 (hb hby dGC_49) (pc' := 52) rfl ?_
          intro T5 W5
          refine W5.iload (hb hby dGC_52) rfl (pc' := 54) rfl ?_
          have F7 := (TAO.keep KK (ninS (fun q => absurd (q ▸ gO) (Nat.not_lt.mpr gt)) nin0))
          refine W5.baload F7 (.int (Int32.ofNat (48 + (n % 100) % 10))) (hb hby dGC_54) (pc' := 55) rfl (lt100 (by omega)) (onesV_at (by omega)) ?_
          have F10 := (ET.keep KK)
          have ln9 : (vs).length = vs.length := by rfl
          refine W5.stB AV (hb hby dGC_55) (pc' := 56) rfl (E - 1) (clN (by omega)) (by omega) ⟨ofNat_nn (by omega), (ofNat_lt (by omega) (by omega)).mpr (by omega)⟩ (Or.inl (List.mem_of_getElem? (i := 0) rfl)) gt ?_
          intro T9 h9 L9 W9 K9 V9
          have z9 := K9.1
          refine W9.aloadN (hb hby dGC_56) rfl rfl (pc' := 57) rfl ?_
          refine W9.iinc (Ls' := #[.val (.int (SBG.negI (n / 100))), .val (.int (Int32.ofNat E0)), .val (.ref t), .val (.int (SBG.negI (n / 100))), .val (.int (Int32.ofNat (n % 100))), .val (.int ((Int32.ofNat (E - 1)) + (-1 : Int32))), .val (.int (1 : Int32))]) (-1 : Int32) (hb hby dGC_57) rfl rfl rfl (pc' := 60) rfl ?_
          rw [dec1 (E := (E - 1)) (by omega)]
          refine W9.iload (hb hby dGC_60) rfl (pc' := 62) rfl ?_
          have F12 := (Sta.keepExa (Sta.keepExa TST KK ET) K9 F10)
          refine W9.getS (host := "") (Or.inl (hw _ (List.mem_of_getElem? (i := 212) rfl))) Via.refl F12 (hb hby dGC_62) (pc' := 65) rfl ?_
          intro T11 W11
          refine W11.iload (hb hby dGC_65) rfl (pc' := 67) rfl ?_
          have F13 := ((TAT.keep KK (ninS (fun q => absurd (q ▸ gT) (Nat.not_lt.mpr gt)) nin0)).keep K9 (ninS (fun q => absurd (q ▸ gT) (Nat.not_lt.mpr gt)) nin0))
          refine W11.baload F13 (.int (Int32.ofNat (48 + (n % 100) / 10))) (hb hby dGC_67) (pc' := 68) rfl (lt100 (by omega)) (tensV_at (by omega)) ?_
          have F16 := ((ET.keep KK).keep K9)
          have ln15 : ((vs.set (E - 1) (.int (Int32.ofNat (48 + (n % 100) % 10)).toInt8.toInt32))).length = vs.length := by simp only [List.length_set]
          refine W11.stB V9 (hb hby dGC_68) (pc' := 69) rfl (E - 1 - 1) (clN (by omega)) (by omega) ⟨ofNat_nn (by omega), (ofNat_lt (by omega) (by omega)).mpr (by omega)⟩ (Or.inl (List.mem_of_getElem? (i := 0) rfl)) gt ?_
          intro T15 h15 L15 W15 K15 V15
          have z15 := K15.1
          refine W15.goto (hb hby dGC_69) (by decide) (pc' := 22) (by decide) ?_
          refine ih (n / 100) (by omega) (E - 1 - 1) _ _ _ _ _ _ (by omega) (by omega) (by omega) (by simp only [List.length_set]; omega) (Or.inr ⟨_, rfl⟩) (Or.inr ⟨_, rfl⟩) W15 V15 (fun vs' T' h' Lo' z0 sl3' sl4' W' A' H' => ?_)
          have q9 := kk vs' T' h' Lo' z0 sl3' sl4' W' A' (wr3 hhun hn hd (by omega) H')
          rw [show E - SBG.digits n = E - 1 - 1 - SBG.digits (n / 100) from by omega] at q9
          exact q9
        · refine Wk.icmpYes (hb hby dGC_25) (XT.ii_gt_t (by rw [show (-100 : Int32) = SBG.negI 100 from by decide +kernel, SBG.negI_lt hn 100 (by omega)]; omega)) (by decide) (pc' := 72) (by decide) ?_
          refine Wk.aloadN (hb hby dGC_72) rfl rfl (pc' := 73) rfl ?_
          refine Wk.iinc (Ls' := #[.val (.int (SBG.negI n)), .val (.int (Int32.ofNat E0)), .val (.ref t), sl3, sl4, .val (.int ((Int32.ofNat E) + (-1 : Int32))), .val (.int (1 : Int32))]) (-1 : Int32) (hb hby dGC_73) rfl rfl rfl (pc' := 76) rfl ?_
          rw [dec1 (E := E) (by omega)]
          refine Wk.iload (hb hby dGC_76) rfl (pc' := 78) rfl ?_
          have F18 := (Sta.keepExa TSO KK ET)
          refine Wk.getS (host := "") (Or.inl (hw _ (List.mem_of_getElem? (i := 119) rfl))) Via.refl F18 (hb hby dGC_78) (pc' := 81) rfl ?_
          intro T17 W17
          refine W17.iloadN (hb hby dGC_81) rfl (pc' := 82) rfl ?_
          refine W17.ineg (hb hby dGC_82) (pc' := 83) rfl ?_
          rw [SBG.neg_negI (n := n) (by omega)]
          have F19 := (TAO.keep KK (ninS (fun q => absurd (q ▸ gO) (Nat.not_lt.mpr gt)) nin0))
          refine W17.baload F19 (.int (Int32.ofNat (48 + n % 10))) (hb hby dGC_83) (pc' := 84) rfl (lt100 (by omega)) (onesV_at (by omega)) ?_
          have F22 := (ET.keep KK)
          have ln21 : (vs).length = vs.length := by rfl
          refine W17.stB AV (hb hby dGC_84) (pc' := 85) rfl (E - 1) (clN (by omega)) (by omega) ⟨ofNat_nn (by omega), (ofNat_lt (by omega) (by omega)).mpr (by omega)⟩ (Or.inl (List.mem_of_getElem? (i := 0) rfl)) gt ?_
          intro T21 h21 L21 W21 K21 V21
          have z21 := K21.1
          refine W21.iloadN (hb hby dGC_85) rfl (pc' := 86) rfl ?_
          refine W21.bipush (-9 : Int32) (hb hby dGC_86) rfl (pc' := 88) rfl ?_
          by_cases hten : 9 < n
          · have hd8 := dig_lt100 hten (by omega)
            refine W21.icmpNo (hb hby dGC_88) (XT.ii_ge_f (by rw [show (-9 : Int32) = SBG.negI 9 from by decide +kernel, SBG.negI_lt (by omega) n hn]; omega)) (pc' := 91) rfl ?_
            refine W21.aloadN (hb hby dGC_91) rfl rfl (pc' := 92) rfl ?_
            refine W21.iinc (Ls' := #[.val (.int (SBG.negI n)), .val (.int (Int32.ofNat E0)), .val (.ref t), sl3, sl4, .val (.int ((Int32.ofNat (E - 1)) + (-1 : Int32))), .val (.int (1 : Int32))]) (-1 : Int32) (hb hby dGC_92) rfl rfl rfl (pc' := 95) rfl ?_
            rw [dec1 (E := (E - 1)) (by omega)]
            refine W21.iload (hb hby dGC_95) rfl (pc' := 97) rfl ?_
            have F24 := (Sta.keepExa (Sta.keepExa TST KK ET) K21 F22)
            refine W21.getS (host := "") (Or.inl (hw _ (List.mem_of_getElem? (i := 212) rfl))) Via.refl F24 (hb hby dGC_97) (pc' := 100) rfl ?_
            intro T23 W23
            refine W23.iloadN (hb hby dGC_100) rfl (pc' := 101) rfl ?_
            refine W23.ineg (hb hby dGC_101) (pc' := 102) rfl ?_
            rw [SBG.neg_negI (n := n) (by omega)]
            have F25 := ((TAT.keep KK (ninS (fun q => absurd (q ▸ gT) (Nat.not_lt.mpr gt)) nin0)).keep K21 (ninS (fun q => absurd (q ▸ gT) (Nat.not_lt.mpr gt)) nin0))
            refine W23.baload F25 (.int (Int32.ofNat (48 + n / 10))) (hb hby dGC_102) (pc' := 103) rfl (lt100 (by omega)) (tensV_at (by omega)) ?_
            have F28 := ((ET.keep KK).keep K21)
            have ln27 : ((vs.set (E - 1) (.int (Int32.ofNat (48 + n % 10)).toInt8.toInt32))).length = vs.length := by simp only [List.length_set]
            refine W23.stB V21 (hb hby dGC_103) (pc' := 104) rfl (E - 1 - 1) (clN (by omega)) (by omega) ⟨ofNat_nn (by omega), (ofNat_lt (by omega) (by omega)).mpr (by omega)⟩ (Or.inl (List.mem_of_getElem? (i := 0) rfl)) gt ?_
            intro T27 h27 L27 W27 K27 V27
            have z27 := K27.1
            have hd9 := dig_lt100 hten (by omega)
            have q9 := kk _ _ _ _ (SBG.negI n) sl3 sl4 W27 V27 (wr2 hten (by omega) (by omega) (by omega))
            rw [show E - SBG.digits n = E - 1 - 1 from by omega] at q9
            exact q9
          · refine W21.icmpYes (hb hby dGC_88) (XT.ii_ge_t (by rw [show (-9 : Int32) = SBG.negI 9 from by decide +kernel, SBG.negI_lt (by omega) n hn]; omega)) (by decide) (pc' := 104) (by decide) ?_
            have hd9 := dig_lt10 (show n < 10 by omega)
            have q9 := kk _ _ _ _ (SBG.negI n) sl3 sl4 W21 V21 (wr1 hten (by omega) (by omega))
            rw [show E - SBG.digits n = E - 1 from by omega] at q9
            exact q9
    have q9 := loop (mag q) E0 vs0 _ _ _ _ _ (mag_le q) (by omega) hEN hv (Or.inl rfl) (Or.inl rfl) W0 AT fin
    have e9 : q = SBG.negI (mag q) := neg_mag hc1
    rw [← e9] at q9
    exact q9
  · refine W0.ifYes (hb hby dGC_4) (XT.i0_ge_t hc1) (by decide) (pc' := 11) (by decide) ?_
    refine W0.iconst (0 : Int32) (hb hby dGC_11) rfl (pc' := 12) rfl ?_
    refine W0.istore (Ls' := #[.val (.int q), .val (.int (Int32.ofNat E0)), .val (.ref t), .unset, .unset, .val (.int (Int32.ofNat E0)), .val (.int (0 : Int32))]) (hb hby dGC_12) rfl (pc' := 14) rfl ?_
    refine W0.iload (hb hby dGC_14) rfl (pc' := 16) rfl ?_
    refine W0.ifNo (hb hby dGC_16) (XT.i0_ne_f (by decide)) (pc' := 19) rfl ?_
    refine W0.iloadN (hb hby dGC_19) rfl (pc' := 20) rfl ?_
    refine W0.ineg (hb hby dGC_20) (pc' := 21) rfl ?_
    refine W0.istoreN (Ls' := #[.val (.int (-q)), .val (.int (Int32.ofNat E0)), .val (.ref t), .unset, .unset, .val (.int (Int32.ofNat E0)), .val (.int (0 : Int32))]) (hb hby dGC_21) rfl (pc' := 22) rfl ?_
    have hil := itx_len q
    have hdp := SBG.digits_pos (mag q)
    have hsg := sgn_neg hc1
    have fin : ∀ (vs : List Value) (T : State) (h : Heap) (Lo : List Loc) (z0 : Int32) (sl3 sl4 : Slot), NK p l e ({ frames := 0, cells := 0, slots := 0, locals := 0 } : Room) s m #[(.int q), (.int (Int32.ofNat E0)), (.ref t)] below meth c Z "java/lang/Integer" n0 h0 [t] T h Lo 0 0 → Arv Z h t kt .byte (Int32.ofNat N) vs (.int (0 : Int32)) → Wrote (mag q) E0 vs0 vs → Go p e below (EndN n0 ({ frames := 0, cells := 0, slots := 0, locals := 0 } : Room) s below (fun v h => ∃ vs', v = some (.int (Int32.ofNat (E0 - (itx q).length))) ∧ Arv Z h t kt .byte (Int32.ofNat N) vs' (.int (0 : Int32)) ∧ WroteI q E0 vs0 vs') h0 [t]) T (mkF m 104 #[.val (.int z0), .val (.int (Int32.ofNat E0)), .val (.ref t), sl3, sl4, .val (.int (Int32.ofNat (E0 - SBG.digits (mag q)))), .val (.int (0 : Int32))] []) := by
      intro vs T h Lo z0 sl3 sl4 Wk AV HW
      have hwl := HW.1
      have KK := Wk.2.2.2.2.2.2.1
      refine Wk.iload (hb hby dGC_104) rfl (pc' := 106) rfl ?_
      refine Wk.ifYes (hb hby dGC_106) (XT.i0_eq_t (by decide)) (by decide) (pc' := 118) (by decide) ?_
      refine Wk.iload (hb hby dGC_118) rfl (pc' := 120) rfl ?_
      exact Wk.retI hret (hb hby dGC_120) (by decide) (by decide) ⟨_, congrArg (fun z => some (Value.int (Int32.ofNat z))) (by omega), AV, WI_pos hc1 hE HW⟩
    have loop : ∀ (n E : Nat) (vs : List Value) (T : State) (h : Heap) (Lo : List Loc) (sl3 sl4 : Slot), n ≤ 2 ^ 31 → SBG.digits n ≤ E → E ≤ N → N ≤ vs.length → (sl3 = .unset ∨ ∃ z : Int32, sl3 = .val (.int z)) → (sl4 = .unset ∨ ∃ z : Int32, sl4 = .val (.int z)) → NK p l e ({ frames := 0, cells := 0, slots := 0, locals := 0 } : Room) s m #[(.int q), (.int (Int32.ofNat E0)), (.ref t)] below meth c Z "java/lang/Integer" n0 h0 [t] T h Lo 0 0 → Arv Z h t kt .byte (Int32.ofNat N) vs (.int (0 : Int32)) → (∀ (vs' : List Value) (T : State) (h : Heap) (Lo : List Loc) (z0 : Int32) (sl3 sl4 : Slot), NK p l e ({ frames := 0, cells := 0, slots := 0, locals := 0 } : Room) s m #[(.int q), (.int (Int32.ofNat E0)), (.ref t)] below meth c Z "java/lang/Integer" n0 h0 [t] T h Lo 0 0 → Arv Z h t kt .byte (Int32.ofNat N) vs' (.int (0 : Int32)) → Wrote n E vs vs' → Go p e below (EndN n0 ({ frames := 0, cells := 0, slots := 0, locals := 0 } : Room) s below (fun v h => ∃ vs', v = some (.int (Int32.ofNat (E0 - (itx q).length))) ∧ Arv Z h t kt .byte (Int32.ofNat N) vs' (.int (0 : Int32)) ∧ WroteI q E0 vs0 vs') h0 [t]) T (mkF m 104 #[.val (.int z0), .val (.int (Int32.ofNat E0)), .val (.ref t), sl3, sl4, .val (.int (Int32.ofNat (E - SBG.digits n))), .val (.int (0 : Int32))] [])) → Go p e below (EndN n0 ({ frames := 0, cells := 0, slots := 0, locals := 0 } : Room) s below (fun v h => ∃ vs', v = some (.int (Int32.ofNat (E0 - (itx q).length))) ∧ Arv Z h t kt .byte (Int32.ofNat N) vs' (.int (0 : Int32)) ∧ WroteI q E0 vs0 vs') h0 [t]) T (mkF m 22 #[.val (.int (SBG.negI n)), .val (.int (Int32.ofNat E0)), .val (.ref t), sl3, sl4, .val (.int (Int32.ofNat E)), .val (.int (0 : Int32))] []) := by
      intro n
      induction n using Nat.strongRecOn with
      | ind n ih =>
        intro E vs T h Lo sl3 sl4 hn hd hE hv hs3 hs4 Wk AV kk
        have KK := Wk.2.2.2.2.2.2.1
        have hdp2 := SBG.digits_pos n
        refine Wk.iloadN (hb hby dGC_22) rfl (pc' := 23) rfl ?_
        refine Wk.bipush (-100 : Int32) (hb hby dGC_23) rfl (pc' := 25) rfl ?_
        by_cases hhun : 100 ≤ n
        · have hdd := dig_div hhun hn
          refine Wk.icmpNo (hb hby dGC_25) (XT.ii_gt_f (by rw [show (-100 : Int32) = SBG.negI 100 from by decide +kernel, SBG.negI_lt hn 100 (by omega)]; omega)) (pc' := 28) rfl ?_
          refine Wk.iloadN (hb hby dGC_28) rfl (pc' := 29) rfl ?_
          refine Wk.bipush (100 : Int32) (hb hby dGC_29) rfl (pc' := 31) rfl ?_
          refine Wk.idiv (hb hby dGC_31) (by decide) (pc' := 32) rfl ?_
          rw [SBG.negI_div100 hn]
          refine Wk.istoreN (Ls' := #[.val (.int (SBG.negI n)), .val (.int (Int32.ofNat E0)), .val (.ref t), .val (.int (SBG.negI (n / 100))), sl4, .val (.int (Int32.ofNat E)), .val (.int (0 : Int32))]) (hb hby dGC_32) (by rcases hs3 with rfl | ⟨z, rfl⟩ <;> rfl) (pc' := 33) rfl ?_
          refine Wk.iloadN (hb hby dGC_33) rfl (pc' := 34) rfl ?_
          refine Wk.bipush (100 : Int32) (hb hby dGC_34) rfl (pc' := 36) rfl ?_
          refine Wk.imul (hb hby dGC_36) (pc' := 37) rfl ?_
          refine Wk.iloadN (hb hby dGC_37) rfl (pc' := 38) rfl ?_
          refine Wk.isub (hb hby dGC_38) (pc' := 39) rfl ?_
          rw [SBG.negI_rem hn]
          refine Wk.istore (Ls' := #[.val (.int (SBG.negI n)), .val (.int (Int32.ofNat E0)), .val (.ref t), .val (.int (SBG.negI (n / 100))), .val (.int (Int32.ofNat (n % 100))), .val (.int (Int32.ofNat E)), .val (.int (0 : Int32))]) (hb hby dGC_39) (by rcases hs4 with rfl | ⟨z, rfl⟩ <;> rfl) (pc' := 41) rfl ?_
          refine Wk.iloadN (hb hby dGC_41) rfl (pc' := 42) rfl ?_
          refine Wk.istoreN (Ls' := #[.val (.int (SBG.negI (n / 100))), .val (.int (Int32.ofNat E0)), .val (.ref t), .val (.int (SBG.negI (n / 100))), .val (.int (Int32.ofNat (n % 100))), .val (.int (Int32.ofNat E)), .val (.int (0 : Int32))]) (hb hby dGC_42) rfl (pc' := 43) rfl ?_
          refine Wk.aloadN (hb hby dGC_43) rfl rfl (pc' := 44) rfl ?_
          refine Wk.iinc (Ls' := #[.val (.int (SBG.negI (n / 100))), .val (.int (Int32.ofNat E0)), .val (.ref t), .val (.int (SBG.negI (n / 100))), .val (.int (Int32.ofNat (n % 100))), .val (.int ((Int32.ofNat E) + (-1 : Int32))), .val (.int (0 : Int32))]) (-1 : Int32) (hb hby dGC_44) rfl rfl rfl (pc' := 47) rfl ?_
          rw [dec1 (E := E) (by omega)]
          refine Wk.iload (hb hby dGC_47) rfl (pc' := 49) rfl ?_
          have F30 := (Sta.keepExa TSO KK ET)
          refine Wk.getS (host := "") (Or.inl (hw _ (List.mem_of_getElem? (i := 119) rfl))) Via.refl F30 (hb hby dGC_49) (pc' := 52) rfl ?_
          intro T29 W29
          refine W29.iload (hb hby dGC_52) rfl (pc' := 54) rfl ?_
          have F31 := (TAO.keep KK (ninS (fun q => absurd (q ▸ gO) (Nat.not_lt.mpr gt)) nin0))
          refine W29.baload F31 (.int (Int32.ofNat (48 + (n % 100) % 10))) (hb hby dGC_54) (pc' := 55) rfl (lt100 (by omega)) (onesV_at (by omega)) ?_
          have F34 := (ET.keep KK)
          have ln33 : (vs).length = vs.length := by rfl
          refine W29.stB AV (hb hby dGC_55) (pc' := 56) rfl (E - 1) (clN (by omega)) (by omega) ⟨ofNat_nn (by omega), (ofNat_lt (by omega) (by omega)).mpr (by omega)⟩ (Or.inl (List.mem_of_getElem? (i := 0) rfl)) gt ?_
          intro T33 h33 L33 W33 K33 V33
          have z33 := K33.1
          refine W33.aloadN (hb hby dGC_56) rfl rfl (pc' := 57) rfl ?_
          refine W33.iinc (Ls' := #[.val (.int (SBG.negI (n / 100))), .val (.int (Int32.ofNat E0)), .val (.ref t), .val (.int (SBG.negI (n / 100))), .val (.int (Int32.ofNat (n % 100))), .val (.int ((Int32.ofNat (E - 1)) + (-1 : Int32))), .val (.int (0 : Int32))]) (-1 : Int32) (hb hby dGC_57) rfl rfl rfl (pc' := 60) rfl ?_
          rw [dec1 (E := (E - 1)) (by omega)]
          refine W33.iload (hb hby dGC_60) rfl (pc' := 62) rfl ?_
          have F36 := (Sta.keepExa (Sta.keepExa TST KK ET) K33 F34)
          refine W33.getS (host := "") (Or.inl (hw _ (List.mem_of_getElem? (i := 212) rfl))) Via.refl F36 (hb hby dGC_62) (pc' := 65) rfl ?_
          intro T35 W35
          refine W35.iload (hb hby dGC_65) rfl (pc' := 67) rfl ?_
          have F37 := ((TAT.keep KK (ninS (fun q => absurd (q ▸ gT) (Nat.not_lt.mpr gt)) nin0)).keep K33 (ninS (fun q => absurd (q ▸ gT) (Nat.not_lt.mpr gt)) nin0))
          refine W35.baload F37 (.int (Int32.ofNat (48 + (n % 100) / 10))) (hb hby dGC_67) (pc' := 68) rfl (lt100 (by omega)) (tensV_at (by omega)) ?_
          have F40 := ((ET.keep KK).keep K33)
          have ln39 : ((vs.set (E - 1) (.int (Int32.ofNat (48 + (n % 100) % 10)).toInt8.toInt32))).length = vs.length := by simp only [List.length_set]
          refine W35.stB V33 (hb hby dGC_68) (pc' := 69) rfl (E - 1 - 1) (clN (by omega)) (by omega) ⟨ofNat_nn (by omega), (ofNat_lt (by omega) (by omega)).mpr (by omega)⟩ (Or.inl (List.mem_of_getElem? (i := 0) rfl)) gt ?_
          intro T39 h39 L39 W39 K39 V39
          have z39 := K39.1
          refine W39.goto (hb hby dGC_69) (by decide) (pc' := 22) (by decide) ?_
          refine ih (n / 100) (by omega) (E - 1 - 1) _ _ _ _ _ _ (by omega) (by omega) (by omega) (by simp only [List.length_set]; omega) (Or.inr ⟨_, rfl⟩) (Or.inr ⟨_, rfl⟩) W39 V39 (fun vs' T' h' Lo' z0 sl3' sl4' W' A' H' => ?_)
          have q9 := kk vs' T' h' Lo' z0 sl3' sl4' W' A' (wr3 hhun hn hd (by omega) H')
          rw [show E - SBG.digits n = E - 1 - 1 - SBG.digits (n / 100) from by omega] at q9
          exact q9
        · refine Wk.icmpYes (hb hby dGC_25) (XT.ii_gt_t (by rw [show (-100 : Int32) = SBG.negI 100 from by decide +kernel, SBG.negI_lt hn 100 (by omega)]; omega)) (by decide) (pc' := 72) (by decide) ?_
          refine Wk.aloadN (hb hby dGC_72) rfl rfl (pc' := 73) rfl ?_
          refine Wk.iinc (Ls' := #[.val (.int (SBG.negI n)), .val (.int (Int32.ofNat E0)), .val (.ref t), sl3, sl4, .val (.int ((Int32.ofNat E) + (-1 : Int32))), .val (.int (0 : Int32))]) (-1 : Int32) (hb hby dGC_73) rfl rfl rfl (pc' := 76) rfl ?_
          rw [dec1 (E := E) (by omega)]
          refine Wk.iload (hb hby dGC_76) rfl (pc' := 78) rfl ?_
          have F42 := (Sta.keepExa TSO KK ET)
          refine Wk.getS (host := "") (Or.inl (hw _ (List.mem_of_getElem? (i := 119) rfl))) Via.refl F42 (hb hby dGC_78) (pc' := 81) rfl ?_
          intro T41 W41
          refine W41.iloadN (hb hby dGC_81) rfl (pc' := 82) rfl ?_
          refine W41.ineg (hb hby dGC_82) (pc' := 83) rfl ?_
          rw [SBG.neg_negI (n := n) (by omega)]
          have F43 := (TAO.keep KK (ninS (fun q => absurd (q ▸ gO) (Nat.not_lt.mpr gt)) nin0))
          refine W41.baload F43 (.int (Int32.ofNat (48 + n % 10))) (hb hby dGC_83) (pc' := 84) rfl (lt100 (by omega)) (onesV_at (by omega)) ?_
          have F46 := (ET.keep KK)
          have ln45 : (vs).length = vs.length := by rfl
          refine W41.stB AV (hb hby dGC_84) (pc' := 85) rfl (E - 1) (clN (by omega)) (by omega) ⟨ofNat_nn (by omega), (ofNat_lt (by omega) (by omega)).mpr (by omega)⟩ (Or.inl (List.mem_of_getElem? (i := 0) rfl)) gt ?_
          intro T45 h45 L45 W45 K45 V45
          have z45 := K45.1
          refine W45.iloadN (hb hby dGC_85) rfl (pc' := 86) rfl ?_
          refine W45.bipush (-9 : Int32) (hb hby dGC_86) rfl (pc' := 88) rfl ?_
          by_cases hten : 9 < n
          · have hd8 := dig_lt100 hten (by omega)
            refine W45.icmpNo (hb hby dGC_88) (XT.ii_ge_f (by rw [show (-9 : Int32) = SBG.negI 9 from by decide +kernel, SBG.negI_lt (by omega) n hn]; omega)) (pc' := 91) rfl ?_
            refine W45.aloadN (hb hby dGC_91) rfl rfl (pc' := 92) rfl ?_
            refine W45.iinc (Ls' := #[.val (.int (SBG.negI n)), .val (.int (Int32.ofNat E0)), .val (.ref t), sl3, sl4, .val (.int ((Int32.ofNat (E - 1)) + (-1 : Int32))), .val (.int (0 : Int32))]) (-1 : Int32) (hb hby dGC_92) rfl rfl rfl (pc' := 95) rfl ?_
            rw [dec1 (E := (E - 1)) (by omega)]
            refine W45.iload (hb hby dGC_95) rfl (pc' := 97) rfl ?_
            have F48 := (Sta.keepExa (Sta.keepExa TST KK ET) K45 F46)
            refine W45.getS (host := "") (Or.inl (hw _ (List.mem_of_getElem? (i := 212) rfl))) Via.refl F48 (hb hby dGC_97) (pc' := 100) rfl ?_
            intro T47 W47
            refine W47.iloadN (hb hby dGC_100) rfl (pc' := 101) rfl ?_
            refine W47.ineg (hb hby dGC_101) (pc' := 102) rfl ?_
            rw [SBG.neg_negI (n := n) (by omega)]
            have F49 := ((TAT.keep KK (ninS (fun q => absurd (q ▸ gT) (Nat.not_lt.mpr gt)) nin0)).keep K45 (ninS (fun q => absurd (q ▸ gT) (Nat.not_lt.mpr gt)) nin0))
            refine W47.baload F49 (.int (Int32.ofNat (48 + n / 10))) (hb hby dGC_102) (pc' := 103) rfl (lt100 (by omega)) (tensV_at (by omega)) ?_
            have F52 := ((ET.keep KK).keep K45)
            have ln51 : ((vs.set (E - 1) (.int (Int32.ofNat (48 + n % 10)).toInt8.toInt32))).length = vs.length := by simp only [List.length_set]
            refine W47.stB V45 (hb hby dGC_103) (pc' := 104) rfl (E - 1 - 1) (clN (by omega)) (by omega) ⟨ofNat_nn (by omega), (ofNat_lt (by omega) (by omega)).mpr (by omega)⟩ (Or.inl (List.mem_of_getElem? (i := 0) rfl)) gt ?_
            intro T51 h51 L51 W51 K51 V51
            have z51 := K51.1
            have hd9 := dig_lt100 hten (by omega)
            have q9 := kk _ _ _ _ (SBG.negI n) sl3 sl4 W51 V51 (wr2 hten (by omega) (by omega) (by omega))
            rw [show E - SBG.digits n = E - 1 - 1 from by omega] at q9
            exact q9
          · refine W45.icmpYes (hb hby dGC_88) (XT.ii_ge_t (by rw [show (-9 : Int32) = SBG.negI 9 from by decide +kernel, SBG.negI_lt (by omega) n hn]; omega)) (by decide) (pc' := 104) (by decide) ?_
            have hd9 := dig_lt10 (show n < 10 by omega)
            have q9 := kk _ _ _ _ (SBG.negI n) sl3 sl4 W45 V45 (wr1 hten (by omega) (by omega))
            rw [show E - SBG.digits n = E - 1 from by omega] at q9
            exact q9
    have q9 := loop (mag q) E0 vs0 _ _ _ _ _ (mag_le q) (by omega) hEN hv (Or.inl rfl) (Or.inl rfl) W0 AT fin
    have e9 : (-q) = SBG.negI (mag q) := pos_mag hc1
    rw [← e9] at q9
    exact q9
--CUT ni
theorem dNI0_0 : decode jdk_68_method_32_code 0 = .ok (.aload_n 0, 1) := by decide +kernel
theorem dNI0_1 : decode jdk_68_method_32_code 1 = .ok (.getfield 79, 3) := by decide +kernel
theorem dNI0_4 : decode jdk_68_method_32_code 4 = .ok (.istore_n 2, 1) := by decide +kernel
theorem dNI0_5 : decode jdk_68_method_32_code 5 = .ok (.iload_n 2, 1) := by decide +kernel
theorem dNI0_6 : decode jdk_68_method_32_code 6 = .ok (.iload_n 1, 1) := by decide +kernel
theorem dNI0_7 : decode jdk_68_method_32_code 7 = .ok (.invokestatic 245, 3) := by decide +kernel
theorem dNI0_10 : decode jdk_68_method_32_code 10 = .ok (.iadd, 1) := by decide +kernel
theorem dNI0_11 : decode jdk_68_method_32_code 11 = .ok (.istore_n 3, 1) := by decide +kernel
theorem dNI0_12 : decode jdk_68_method_32_code 12 = .ok (.aload_n 0, 1) := by decide +kernel
theorem dNI0_13 : decode jdk_68_method_32_code 13 = .ok (.iload_n 3, 1) := by decide +kernel
theorem dNI0_14 : decode jdk_68_method_32_code 14 = .ok (.invokevirtual 100, 3) := by decide +kernel
theorem dNI0_17 : decode jdk_68_method_32_code 17 = .ok (.aload_n 0, 1) := by decide +kernel
theorem dNI0_18 : decode jdk_68_method_32_code 18 = .ok (.invokevirtual 83, 3) := by decide +kernel
theorem dNI0_21 : decode jdk_68_method_32_code 21 = .ok (.ifCond .eq 16, 3) := by decide +kernel
theorem dNI0_24 : decode jdk_68_method_32_code 24 = .ok (.iload_n 1, 1) := by decide +kernel
theorem dNI0_25 : decode jdk_68_method_32_code 25 = .ok (.iload_n 3, 1) := by decide +kernel
theorem dNI0_26 : decode jdk_68_method_32_code 26 = .ok (.aload_n 0, 1) := by decide +kernel
theorem dNI0_27 : decode jdk_68_method_32_code 27 = .ok (.getfield 15, 3) := by decide +kernel
theorem dNI0_30 : decode jdk_68_method_32_code 30 = .ok (.invokestatic 248, 3) := by decide +kernel
theorem pd_ca675bd5 : parseMethodDescriptor "(II[B)I" = some ⟨[.int, .int, (.array .byte)], some .int⟩ := by decide +kernel
theorem dNI0_33 : decode jdk_68_method_32_code 33 = .ok (.pop, 1) := by decide +kernel
theorem dNI0_34 : decode jdk_68_method_32_code 34 = .ok (.goto 14, 3) := by decide +kernel
theorem dNI0_48 : decode jdk_68_method_32_code 48 = .ok (.aload_n 0, 1) := by decide +kernel
theorem dNI0_49 : decode jdk_68_method_32_code 49 = .ok (.iload_n 3, 1) := by decide +kernel
theorem dNI0_50 : decode jdk_68_method_32_code 50 = .ok (.putfield 79, 3) := by decide +kernel
theorem dNI0_53 : decode jdk_68_method_32_code 53 = .ok (.aload_n 0, 1) := by decide +kernel
theorem dNI0_54 : decode jdk_68_method_32_code 54 = .ok (.areturn, 1) := by decide +kernel
theorem pn_NI0 : plainFor (⟨"java/lang/AbstractStringBuilder", "append", "(I)Ljava/lang/AbstractStringBuilder;"⟩ : MethodName) = true := by first | exact plainFor_of_name (by first | (simp [plainName, overriddenIn]; done) | decide +kernel) | decide +kernel
set_option maxRecDepth 65536 in
set_option maxHeartbeats 40000000 in
theorem rmNI0 (l : Launch) (Z : State) (a0 : Array Value) (hw : ∀ d ∈ tables_1, d.before a0 Z = true) (a t : Addr) (kt : ClassId) (k N : Nat) (vs : List Value) (q : Int32) (dO dT : Addr) (kO kT : ClassId) (cs : List Int32) (zc : Int32) (h0 : Heap) (n0 : Nat) (Z0 : n0 ≤ h0.size) (ga : n0 ≤ a) (gt : n0 ≤ t) (EX : Exa Z h0 a "java/lang/StringBuilder") (FV : Fld Z h0 a "java/lang/AbstractStringBuilder" "value" "[B" (.ref t)) (FC : Fld Z h0 a "java/lang/AbstractStringBuilder" "coder" "B" (.int (0 : Int32))) (FN : Fld Z h0 a "java/lang/AbstractStringBuilder" "count" "I" (.int (Int32.ofNat k))) (AT : Arv Z h0 t kt .byte (Int32.ofNat N) vs (.int (0 : Int32))) (ET : Exa Z h0 t "[B") (gO : dO < n0) (gT : dT < n0) (TSO : Sta Z h0 "java/lang/Integer" "DigitOnes" "[B" (.ref dO)) (TAO : Arv Z h0 dO kO .byte (100 : Int32) onesV (.int (0 : Int32))) (TST : Sta Z h0 "java/lang/Integer" "DigitTens" "[B" (.ref dT)) (TAT : Arv Z h0 dT kT .byte (100 : Int32) tensV (.int (0 : Int32))) (hkc : k = cs.length) (hk0 : k ≤ N) (hN : N ≤ 62) (hv : N ≤ vs.length) (hM : k + (itx q).length ≤ 30) (H : ∀ i, i < cs.length → vs.getD i (.int (0 : Int32)) = .int (StrChars.lo8 (cs.getD i 0))) (HL : ∀ c ∈ cs, ¬ c < 0 ∧ ¬ (255 : Int32) < c) (SC : Sta Z h0 "java/lang/String" "COMPACT_STRINGS" "Z" (.int zc)) (hz : ¬ zc = 0) :
    NM l (⟨"java/lang/AbstractStringBuilder", "append", "(I)Ljava/lang/AbstractStringBuilder;"⟩ : MethodName) jdk_68_method_32_code 4 (some (.object "java/lang/AbstractStringBuilder")) [] ({ frames := 4, cells := 1, slots := 64, locals := 80 } : Room) Z n0 #[(.ref a), (.int q)] h0 [a, t] (fun v h => ∃ t', v = some (.ref a) ∧ (t' = t ∨ h0.size ≤ t') ∧ SbA Z h a t' (cs ++ itx q)) := by
  refine NM.walk (Ls := #[.val (.ref a), .val (.int q), .unset, .unset]) pn_NI0 Z0 (fun m => by first | (simp [entryFrame, mkF, argsToLocals, Value.category]; done) | rfl) ?_
  intro p e s m below meth c s₁ hby hml hret hnm W0
  refine W0.aloadN (hb hby dNI0_0) rfl rfl (pc' := 1) rfl ?_
  refine W0.getF (host := "") (Or.inl (hw _ (List.mem_of_getElem? (i := 69) rfl))) Via.refl FN (hb hby dNI0_1) (pc' := 4) rfl ?_
  intro T1 W1
  refine W1.istoreN (Ls' := #[.val (.ref a), .val (.int q), .val (.int (Int32.ofNat k)), .unset]) (hb hby dNI0_4) rfl (pc' := 5) rfl ?_
  refine W1.iloadN (hb hby dNI0_5) rfl (pc' := 6) rfl ?_
  refine W1.iloadN (hb hby dNI0_6) rfl (pc' := 7) rfl ?_
  refine W1.callSP (hw _ (List.mem_of_getElem? (i := 107) rfl)) (hw _ (List.mem_of_getElem? (i := 108) rfl)) (hw _ (List.mem_of_getElem? (i := 109) rfl)) (hw _ (List.mem_of_getElem? (i := 110) rfl)) (by decide) (NM.bk (wd := 1) (rmSS l Z a0 hw q h0 n0 W1.n0h ) W1.2.2.2.1 (hw _ (List.mem_of_getElem? (i := 110) rfl)) (hw _ (List.mem_of_getElem? (i := 109) rfl)) (by decide) (by decide)) (hb hby dNI0_7) (pc' := 10) rfl hml (argsL := [(.int q)]) rfl (lenOf pd_89c469b3 rfl) rfl (Nat.le_of_ble_eq_true rfl) (by decide) (by decide) (fun _ _ _ q => pu_of q) ?_
  intro T2 L2 W2
  show Go p e below _ T2 (mkF m 10 #[.val (.ref a), .val (.int q), .val (.int (Int32.ofNat k)), .unset] [(.int (ssF q)), (.int (Int32.ofNat k))])
  rw [ss_dig]
  refine W2.iadd (hb hby dNI0_10) (pc' := 11) rfl ?_
  rw [ofNat_add]
  refine W2.istoreN (Ls' := #[.val (.ref a), .val (.int q), .val (.int (Int32.ofNat k)), .val (.int (Int32.ofNat (k + (itx q).length)))]) (hb hby dNI0_11) rfl (pc' := 12) rfl ?_
  refine W2.aloadN (hb hby dNI0_12) rfl rfl (pc' := 13) rfl ?_
  refine W2.iloadN (hb hby dNI0_13) rfl (pc' := 14) rfl ?_
  by_cases hMN : k + (itx q).length ≤ N
  · refine W2.callX (y := (⟨"java/lang/AbstractStringBuilder", "ensureCapacityInternal", "(I)V"⟩ : MethodName)) (hw _ (List.mem_of_getElem? (i := 71) rfl)) (hw _ (List.mem_of_getElem? (i := 72) rfl)) (hw _ (List.mem_of_getElem? (i := 73) rfl)) (hw _ (List.mem_of_getElem? (i := 74) rfl)) (hw _ (List.mem_of_getElem? (i := 75) rfl)) (by decide) (NM.bk (wd := 0) (rmEC0 l Z a0 hw a t kt k N vs (k + (itx q).length) h0 n0 W2.n0h EX FV FC FN AT ET hMN hN) W2.2.2.2.1 (hw _ (List.mem_of_getElem? (i := 75) rfl)) (hw _ (List.mem_of_getElem? (i := 40) rfl)) (by decide) (by decide)) EX (hb hby dNI0_14) (pc' := 17) rfl hml (argsL := [(.int (Int32.ofNat (k + (itx q).length)))]) rfl (lenOf pd_c76b354f rfl) rfl (Nat.le_of_ble_eq_true rfl) (by decide) (by decide) (ws' := []) (fun _ _ _ q => ⟨q.2.2, q.2.1⟩) all0 ?_
    intro v3 T3 h3 L3' L3 W3 Q3 K3
    have z3 := K3.1
    obtain ⟨⟨rfl, -⟩, -, -⟩ := Q3
    show Go p e below _ T3 (mkF m 17 #[.val (.ref a), .val (.int q), .val (.int (Int32.ofNat k)), .val (.int (Int32.ofNat (k + (itx q).length)))] [])
    refine W3.aloadN (hb hby dNI0_17) rfl rfl (pc' := 18) rfl ?_
    have F5 := Exa.ext (Keep.toExt K3) EX
    have F6 := Fld.ext (Keep.toExt K3) FV
    have F7 := Fld.ext (Keep.toExt K3) FC
    have F8 := Fld.ext (Keep.toExt K3) FN
    have F9 := Arv.ext AT (Keep.toExt K3)
    have F10 := Exa.ext (Keep.toExt K3) ET
    have F11 := Sta.ext (Keep.toExt K3) SC
    refine W3.callVP (y := (⟨"java/lang/AbstractStringBuilder", "isLatin1", "()Z"⟩ : MethodName)) (z := (⟨"java/lang/AbstractStringBuilder", "isLatin1", "()Z"⟩ : MethodName)) (hw _ (List.mem_of_getElem? (i := 111) rfl)) (hw _ (List.mem_of_getElem? (i := 112) rfl)) (hw _ (List.mem_of_getElem? (i := 114) rfl)) (hw _ (List.mem_of_getElem? (i := 114) rfl)) (hw _ (List.mem_of_getElem? (i := 113) rfl)) (by decide) (NM.bk (wd := 0) (rmIA l Z a0 hw a t kt k N vs zc h3 n0 W3.n0h F5 F6 F7 F8 F9 F10 F11 hz) W3.2.2.2.1 (hw _ (List.mem_of_getElem? (i := 115) rfl)) (hw _ (List.mem_of_getElem? (i := 40) rfl)) (by decide) (by decide)) F5 (hb hby dNI0_18) (pc' := 21) rfl hml (argsL := []) rfl (lenOf pd_bfe1a59d rfl) rfl (Nat.le_of_ble_eq_true rfl) (by decide) (by decide) (fun _ _ _ q => pu_of q) ?_
    intro T4 L4 W4
    show Go p e below _ T4 (mkF m 21 #[.val (.ref a), .val (.int q), .val (.int (Int32.ofNat k)), .val (.int (Int32.ofNat (k + (itx q).length)))] [(.int (1 : Int32))])
    refine W4.ifNo (hb hby dNI0_21) (XT.i0_eq_f (by decide)) (pc' := 24) rfl ?_
    refine W4.iloadN (hb hby dNI0_24) rfl (pc' := 25) rfl ?_
    refine W4.iloadN (hb hby dNI0_25) rfl (pc' := 26) rfl ?_
    refine W4.aloadN (hb hby dNI0_26) rfl rfl (pc' := 27) rfl ?_
    refine W4.getF (host := "") (Or.inl (hw _ (List.mem_of_getElem? (i := 44) rfl))) Via.refl F6 (hb hby dNI0_27) (pc' := 30) rfl ?_
    intro T12 W12
    have na13 : a ≠ t := Exa.neArv F5 F9 (hw _ (List.mem_of_getElem? (i := 31) rfl))
    have F15 := Sta.ext (Keep.toExt K3) TSO
    have F16 := Arv.ext TAO (Keep.toExt K3)
    have F17 := Sta.ext (Keep.toExt K3) TST
    have F18 := Arv.ext TAT (Keep.toExt K3)
    refine W12.callS (hw _ (List.mem_of_getElem? (i := 116) rfl)) (hw _ (List.mem_of_getElem? (i := 117) rfl)) (hw _ (List.mem_of_getElem? (i := 109) rfl)) (hw _ (List.mem_of_getElem? (i := 118) rfl)) (by decide) (NM.bk (wd := 0) (rmGC l Z a0 hw q t kt dO dT kO kT (k + (itx q).length) N vs h3 n0 W12.n0h gt F9 F10 gO gT F15 F16 F17 F18 (by omega) hMN hN hv) W12.2.2.2.1 (hw _ (List.mem_of_getElem? (i := 118) rfl)) (hw _ (List.mem_of_getElem? (i := 109) rfl)) (by decide) (by decide)) (hb hby dNI0_30) (pc' := 33) rfl hml (argsL := [(.int q), (.int (Int32.ofNat (k + (itx q).length))), (.ref t)]) rfl (lenOf pd_ca675bd5 rfl) rfl (Nat.le_of_ble_eq_true rfl) (by decide) (by decide) (ws' := [t]) (fun _ _ _ q => ⟨q.2.2, q.2.1⟩) (allS (Or.inl (List.mem_of_getElem? (i := 1) rfl)) all0) ?_
    intro v14 T14 h14 L14' L14 W14 Q14 K14
    have z14 := K14.1
    obtain ⟨⟨us14, rfl, V14, HW14⟩, -, -⟩ := Q14
    show Go p e below _ T14 (mkF m 33 #[.val (.ref a), .val (.int q), .val (.int (Int32.ofNat k)), .val (.int (Int32.ofNat (k + (itx q).length)))] [(.int (Int32.ofNat (k + (itx q).length - (itx q).length)))])
    refine W14.pop (hb hby dNI0_33) rfl (pc' := 34) rfl ?_
    refine W14.goto (hb hby dNI0_34) (by decide) (pc' := 48) (by decide) ?_
    refine W14.aloadN (hb hby dNI0_48) rfl rfl (pc' := 49) rfl ?_
    refine W14.iloadN (hb hby dNI0_49) rfl (pc' := 50) rfl ?_
    have F20 := ((FN.ext (Keep.toExt K3)).keep K14 (ninS na13 nin0))
    have F21 := ((EX.ext (Keep.toExt K3)).keep K14)
    have F22 := ((FV.ext (Keep.toExt K3)).keep K14 (ninS na13 nin0))
    have F23 := ((FC.ext (Keep.toExt K3)).keep K14 (ninS na13 nin0))
    refine W14.putF (host := "") (Or.inl (hw _ (List.mem_of_getElem? (i := 69) rfl))) Via.refl F20 F21 (Or.inl (hw _ (List.mem_of_getElem? (i := 70) rfl))) (hw _ (List.mem_of_getElem? (i := 31) rfl)) (ty := .int) (by decide) rfl rfl (hb hby dNI0_50) (pc' := 53) rfl (Or.inl (List.mem_of_getElem? (i := 0) rfl)) ga ?_
    intro T19 h19 L19 W19 Q19
    have K19 := Keep.of_wr Q19
    have z19 := K19.1
    have A19 := Exa.wr Q19 F21
    have B19 := Fld.same Q19 F20
    have B19_value := Fld.other Q19 F22 (Or.inr (slot_ne (Or.inl (hw _ (List.mem_of_getElem? (i := 45) rfl))) (Or.inl (hw _ (List.mem_of_getElem? (i := 70) rfl))) (by decide) (t := (.array .byte)) (t' := .int) (by decide) (by decide)))
    have B19_coder := Fld.other Q19 F23 (Or.inr (slot_ne (Or.inl (hw _ (List.mem_of_getElem? (i := 47) rfl))) (Or.inl (hw _ (List.mem_of_getElem? (i := 70) rfl))) (by decide) (t := .byte) (t' := .int) (by decide) (by decide)))
    refine W19.aloadN (hb hby dNI0_53) rfl rfl (pc' := 54) rfl ?_
    have F24 := (((ET.ext (Keep.toExt K3)).keep K14).keep K19)
    have F25 := (V14.keep K19 (ninS (Ne.symm (Exa.neArv F21 V14 (hw _ (List.mem_of_getElem? (i := 31) rfl)))) nin0))
    exact W19.retA hret rfl rfl (hb hby dNI0_54) (by decide) (by decide) ⟨t, rfl, Or.inl rfl, A19, F24, B19_value, B19_coder, by rw [List.length_append, ← hkc]; exact B19, fun c hc => (List.mem_append.mp hc).elim (HL c) itx_lat, kt, N, _, F25, by rw [List.length_append, ← hkc]; exact hMN, hN, Nat.le_trans hv (Nat.le_of_eq HW14.1.symm), sb_appI hkc HW14 H⟩
  · refine W2.callX (y := (⟨"java/lang/AbstractStringBuilder", "ensureCapacityInternal", "(I)V"⟩ : MethodName)) (hw _ (List.mem_of_getElem? (i := 71) rfl)) (hw _ (List.mem_of_getElem? (i := 72) rfl)) (hw _ (List.mem_of_getElem? (i := 73) rfl)) (hw _ (List.mem_of_getElem? (i := 74) rfl)) (hw _ (List.mem_of_getElem? (i := 75) rfl)) (by decide) (NM.bk (wd := 0) (rmEC1 l Z a0 hw a t kt k N vs (k + (itx q).length) h0 n0 W2.n0h ga EX FV FC FN AT ET (by omega) hM) W2.2.2.2.1 (hw _ (List.mem_of_getElem? (i := 75) rfl)) (hw _ (List.mem_of_getElem? (i := 40) rfl)) (by decide) (by decide)) EX (hb hby dNI0_14) (pc' := 17) rfl hml (argsL := [(.int (Int32.ofNat (k + (itx q).length)))]) rfl (lenOf pd_c76b354f rfl) rfl (Nat.le_of_ble_eq_true rfl) (by decide) (by decide) (ws' := [a]) (fun _ _ _ q => ⟨q.2.2, q.2.1⟩) (allS (Or.inl (List.mem_of_getElem? (i := 0) rfl)) all0) ?_
    intro v26 T26 h26 L26' L26 W26 Q26 K26
    have z26 := K26.1
    obtain ⟨⟨d26, kd26, us26, rfl, A26, X26, B26, C26, D26, ge26, V26, len26, same26⟩, -, -⟩ := Q26
    show Go p e below _ T26 (mkF m 17 #[.val (.ref a), .val (.int q), .val (.int (Int32.ofNat k)), .val (.int (Int32.ofNat (k + (itx q).length)))] [])
    refine W26.aloadN (hb hby dNI0_17) rfl rfl (pc' := 18) rfl ?_
    have F28 := (Sta.keepExa SC K26 EX)
    refine W26.callVP (y := (⟨"java/lang/AbstractStringBuilder", "isLatin1", "()Z"⟩ : MethodName)) (z := (⟨"java/lang/AbstractStringBuilder", "isLatin1", "()Z"⟩ : MethodName)) (hw _ (List.mem_of_getElem? (i := 111) rfl)) (hw _ (List.mem_of_getElem? (i := 112) rfl)) (hw _ (List.mem_of_getElem? (i := 114) rfl)) (hw _ (List.mem_of_getElem? (i := 114) rfl)) (hw _ (List.mem_of_getElem? (i := 113) rfl)) (by decide) (NM.bk (wd := 0) (rmIA l Z a0 hw a d26 kd26 k (N + max (k + (itx q).length - N) (N + 2)) us26 zc h26 n0 W26.n0h A26 B26 C26 D26 V26 X26 F28 hz) W26.2.2.2.1 (hw _ (List.mem_of_getElem? (i := 115) rfl)) (hw _ (List.mem_of_getElem? (i := 40) rfl)) (by decide) (by decide)) A26 (hb hby dNI0_18) (pc' := 21) rfl hml (argsL := []) rfl (lenOf pd_bfe1a59d rfl) rfl (Nat.le_of_ble_eq_true rfl) (by decide) (by decide) (fun _ _ _ q => pu_of q) ?_
    intro T27 L27 W27
    show Go p e below _ T27 (mkF m 21 #[.val (.ref a), .val (.int q), .val (.int (Int32.ofNat k)), .val (.int (Int32.ofNat (k + (itx q).length)))] [(.int (1 : Int32))])
    refine W27.ifNo (hb hby dNI0_21) (XT.i0_eq_f (by decide)) (pc' := 24) rfl ?_
    refine W27.iloadN (hb hby dNI0_24) rfl (pc' := 25) rfl ?_
    refine W27.iloadN (hb hby dNI0_25) rfl (pc' := 26) rfl ?_
    refine W27.aloadN (hb hby dNI0_26) rfl rfl (pc' := 27) rfl ?_
    refine W27.getF (host := "") (Or.inl (hw _ (List.mem_of_getElem? (i := 44) rfl))) Via.refl B26 (hb hby dNI0_27) (pc' := 30) rfl ?_
    intro T29 W29
    have na30 : a ≠ d26 := Exa.neArv A26 V26 (hw _ (List.mem_of_getElem? (i := 31) rfl))
    have F32 := (Sta.keepExa TSO K26 EX)
    have F33 := (TAO.keep K26 (ninS (Ne.symm (Exa.neArv EX TAO (hw _ (List.mem_of_getElem? (i := 31) rfl)))) nin0))
    have F34 := (Sta.keepExa TST K26 EX)
    have F35 := (TAT.keep K26 (ninS (Ne.symm (Exa.neArv EX TAT (hw _ (List.mem_of_getElem? (i := 31) rfl)))) nin0))
    refine W29.callS (hw _ (List.mem_of_getElem? (i := 116) rfl)) (hw _ (List.mem_of_getElem? (i := 117) rfl)) (hw _ (List.mem_of_getElem? (i := 109) rfl)) (hw _ (List.mem_of_getElem? (i := 118) rfl)) (by decide) (NM.bk (wd := 0) (rmGC l Z a0 hw q d26 kd26 dO dT kO kT (k + (itx q).length) (N + max (k + (itx q).length - N) (N + 2)) us26 h26 n0 W29.n0h (Nat.le_trans Z0 ge26) V26 X26 gO gT F32 F33 F34 F35 (by omega) (by omega) (by omega) len26) W29.2.2.2.1 (hw _ (List.mem_of_getElem? (i := 118) rfl)) (hw _ (List.mem_of_getElem? (i := 109) rfl)) (by decide) (by decide)) (hb hby dNI0_30) (pc' := 33) rfl hml (argsL := [(.int q), (.int (Int32.ofNat (k + (itx q).length))), (.ref d26)]) rfl (lenOf pd_ca675bd5 rfl) rfl (Nat.le_of_ble_eq_true rfl) (by decide) (by decide) (ws' := [d26]) (fun _ _ _ q => ⟨q.2.2, q.2.1⟩) (allS (Or.inr ge26) all0) ?_
    intro v31 T31 h31 L31' L31 W31 Q31 K31
    have z31 := K31.1
    obtain ⟨⟨us31, rfl, V31, HW31⟩, -, -⟩ := Q31
    show Go p e below _ T31 (mkF m 33 #[.val (.ref a), .val (.int q), .val (.int (Int32.ofNat k)), .val (.int (Int32.ofNat (k + (itx q).length)))] [(.int (Int32.ofNat (k + (itx q).length - (itx q).length)))])
    refine W31.pop (hb hby dNI0_33) rfl (pc' := 34) rfl ?_
    refine W31.goto (hb hby dNI0_34) (by decide) (pc' := 48) (by decide) ?_
    refine W31.aloadN (hb hby dNI0_48) rfl rfl (pc' := 49) rfl ?_
    refine W31.iloadN (hb hby dNI0_49) rfl (pc' := 50) rfl ?_
    have F37 := (D26.keep K31 (ninS na30 nin0))
    have F38 := (A26.keep K31)
    have F39 := (B26.keep K31 (ninS na30 nin0))
    have F40 := (C26.keep K31 (ninS na30 nin0))
    refine W31.putF (host := "") (Or.inl (hw _ (List.mem_of_getElem? (i := 69) rfl))) Via.refl F37 F38 (Or.inl (hw _ (List.mem_of_getElem? (i := 70) rfl))) (hw _ (List.mem_of_getElem? (i := 31) rfl)) (ty := .int) (by decide) rfl rfl (hb hby dNI0_50) (pc' := 53) rfl (Or.inl (List.mem_of_getElem? (i := 0) rfl)) ga ?_
    intro T36 h36 L36 W36 Q36
    have K36 := Keep.of_wr Q36
    have z36 := K36.1
    have A36 := Exa.wr Q36 F38
    have B36 := Fld.same Q36 F37
    have B36_value := Fld.other Q36 F39 (Or.inr (slot_ne (Or.inl (hw _ (List.mem_of_getElem? (i := 45) rfl))) (Or.inl (hw _ (List.mem_of_getElem? (i := 70) rfl))) (by decide) (t := (.array .byte)) (t' := .int) (by decide) (by decide)))
    have B36_coder := Fld.other Q36 F40 (Or.inr (slot_ne (Or.inl (hw _ (List.mem_of_getElem? (i := 47) rfl))) (Or.inl (hw _ (List.mem_of_getElem? (i := 70) rfl))) (by decide) (t := .byte) (t' := .int) (by decide) (by decide)))
    refine W36.aloadN (hb hby dNI0_53) rfl rfl (pc' := 54) rfl ?_
    have F41 := ((X26.keep K31).keep K36)
    have F42 := (V31.keep K36 (ninS (Ne.symm (Exa.neArv F38 V31 (hw _ (List.mem_of_getElem? (i := 31) rfl)))) nin0))
    exact W36.retA hret rfl rfl (hb hby dNI0_54) (by decide) (by decide) ⟨d26, rfl, Or.inr ge26, A36, F41, B36_value, B36_coder, by rw [List.length_append, ← hkc]; exact B36, fun c hc => (List.mem_append.mp hc).elim (HL c) itx_lat, kd26, (N + max (k + (itx q).length - N) (N + 2)), _, F42, by rw [List.length_append, ← hkc]; exact (by omega), (by omega), Nat.le_trans len26 (Nat.le_of_eq HW31.1.symm), sb_appI hkc HW31 (fun i hi => (same26 i (by omega)).trans (H i hi))⟩
theorem rmNI (l : Launch) (Z : State) (a0 : Array Value) (hw : ∀ d ∈ tables_1, d.before a0 Z = true) (a t : Addr) (q : Int32) (dO dT : Addr) (kO kT : ClassId) (cs : List Int32) (zc : Int32) (h0 : Heap) (n0 : Nat) (Z0 : n0 ≤ h0.size) (ga : n0 ≤ a) (gt : n0 ≤ t) (SBX : SbA Z h0 a t cs) (gO : dO < n0) (gT : dT < n0) (TSO : Sta Z h0 "java/lang/Integer" "DigitOnes" "[B" (.ref dO)) (TAO : Arv Z h0 dO kO .byte (100 : Int32) onesV (.int (0 : Int32))) (TST : Sta Z h0 "java/lang/Integer" "DigitTens" "[B" (.ref dT)) (TAT : Arv Z h0 dT kT .byte (100 : Int32) tensV (.int (0 : Int32))) (hM : cs.length + (itx q).length ≤ 30) (SC : Sta Z h0 "java/lang/String" "COMPACT_STRINGS" "Z" (.int zc)) (hz : ¬ zc = 0) :
    NM l (⟨"java/lang/AbstractStringBuilder", "append", "(I)Ljava/lang/AbstractStringBuilder;"⟩ : MethodName) jdk_68_method_32_code 4 (some (.object "java/lang/AbstractStringBuilder")) [] ({ frames := 4, cells := 1, slots := 64, locals := 80 } : Room) Z n0 #[.ref a, .int q] h0 [a, t] (fun v h => ∃ t', v = some (.ref a) ∧ (t' = t ∨ h0.size ≤ t') ∧ SbA Z h a t' (cs ++ itx q)) := by
  obtain ⟨e1, e0, e2, e3, e4, e5, kt, N, vs, e6, e7, e8, e9, e10⟩ := SBX
  exact rmNI0 l Z a0 hw a t kt cs.length N vs q dO dT kO kT cs zc h0 n0 Z0 ga gt e1 e2 e3 e4 e6 e0 gO gT TSO TAO TST TAT rfl e7 e8 e9 hM e10 e5 SC hz
theorem dBN_0 : decode jdk_67_method_15_code 0 = .ok (.aload_n 0, 1) := by decide +kernel
theorem dBN_1 : decode jdk_67_method_15_code 1 = .ok (.iload_n 1, 1) := by decide +kernel
theorem dBN_2 : decode jdk_67_method_15_code 2 = .ok (.invokespecial 53, 3) := by decide +kernel
theorem pd_75792431 : parseMethodDescriptor "(I)Ljava/lang/AbstractStringBuilder;" = some ⟨[.int], some (.object "java/lang/AbstractStringBuilder")⟩ := by decide +kernel
theorem dBN_5 : decode jdk_67_method_15_code 5 = .ok (.pop, 1) := by decide +kernel
theorem dBN_6 : decode jdk_67_method_15_code 6 = .ok (.aload_n 0, 1) := by decide +kernel
theorem dBN_7 : decode jdk_67_method_15_code 7 = .ok (.areturn, 1) := by decide +kernel
theorem pn_BN : plainFor (⟨"java/lang/StringBuilder", "append", "(I)Ljava/lang/StringBuilder;"⟩ : MethodName) = true := by first | exact plainFor_of_name (by first | (simp [plainName, overriddenIn]; done) | decide +kernel) | decide +kernel
set_option maxRecDepth 65536 in
set_option maxHeartbeats 40000000 in
theorem rmBN (l : Launch) (Z : State) (a0 : Array Value) (hw : ∀ d ∈ tables_1, d.before a0 Z = true) (a t : Addr) (q : Int32) (dO dT : Addr) (kO kT : ClassId) (cs : List Int32) (zc : Int32) (h0 : Heap) (n0 : Nat) (Z0 : n0 ≤ h0.size) (ga : n0 ≤ a) (gt : n0 ≤ t) (SBX : SbA Z h0 a t cs) (gO : dO < n0) (gT : dT < n0) (TSO : Sta Z h0 "java/lang/Integer" "DigitOnes" "[B" (.ref dO)) (TAO : Arv Z h0 dO kO .byte (100 : Int32) onesV (.int (0 : Int32))) (TST : Sta Z h0 "java/lang/Integer" "DigitTens" "[B" (.ref dT)) (TAT : Arv Z h0 dT kT .byte (100 : Int32) tensV (.int (0 : Int32))) (hM : cs.length + (itx q).length ≤ 30) (SC : Sta Z h0 "java/lang/String" "COMPACT_STRINGS" "Z" (.int zc)) (hz : ¬ zc = 0) :
    NM l (⟨"java/lang/StringBuilder", "append", "(I)Ljava/lang/StringBuilder;"⟩ : MethodName) jdk_67_method_15_code 2 (some (.object "java/lang/StringBuilder")) [] ({ frames := 5, cells := 1, slots := 64, locals := 96 } : Room) Z n0 #[(.ref a), (.int q)] h0 [a, t] (fun v h => ∃ t', v = some (.ref a) ∧ (t' = t ∨ h0.size ≤ t') ∧ SbA Z h a t' (cs ++ itx q)) := by
  refine NM.walk (Ls := #[.val (.ref a), .val (.int q)]) pn_BN Z0 (fun m => by first | (simp [entryFrame, mkF, argsToLocals, Value.category]; done) | rfl) ?_
  intro p e s m below meth c s₁ hby hml hret hnm W0
  refine W0.aloadN (hb hby dBN_0) rfl rfl (pc' := 1) rfl ?_
  refine W0.iloadN (hb hby dBN_1) rfl (pc' := 2) rfl ?_
  refine W0.callU (y := (⟨"java/lang/AbstractStringBuilder", "append", "(I)Ljava/lang/AbstractStringBuilder;"⟩ : MethodName)) (hw _ (List.mem_of_getElem? (i := 103) rfl)) (same_of (y' := (⟨"java/lang/AbstractStringBuilder", "ensureCapacityInternal", "(I)V"⟩ : MethodName)) (hw _ (List.mem_of_getElem? (i := 105) rfl)) (hw _ (List.mem_of_getElem? (i := 74) rfl)) rfl (by decide)) (hw _ (List.mem_of_getElem? (i := 104) rfl)) (hw _ (List.mem_of_getElem? (i := 55) rfl)) (by decide) (hw _ (List.mem_of_getElem? (i := 106) rfl)) (NM.bk (wd := 0) (rmNI l Z a0 hw a t q dO dT kO kT cs zc h0 n0 W0.n0h ga gt SBX gO gT TSO TAO TST TAT hM SC hz) W0.2.2.2.1 (hw _ (List.mem_of_getElem? (i := 106) rfl)) (hw _ (List.mem_of_getElem? (i := 40) rfl)) (by decide) (by decide)) SBX.1 (hb hby dBN_2) (pc' := 5) rfl hml (argsL := [(.int q)]) rfl (lenOf pd_75792431 rfl) rfl (Nat.le_of_ble_eq_true rfl) (by decide) (by decide) (ws' := [a, t]) (fun _ _ _ q => ⟨q.2.2, q.2.1⟩) (allS (Or.inl (List.mem_of_getElem? (i := 0) rfl)) (allS (Or.inl (List.mem_of_getElem? (i := 1) rfl)) all0)) ?_
  intro v1 T1 h1 L1' L1 W1 Q1 K1
  have z1 := K1.1
  obtain ⟨⟨t1, rfl, or1, S1⟩, -, -⟩ := Q1
  show Go p e below _ T1 (mkF m 5 #[.val (.ref a), .val (.int q)] [(.ref a)])
  refine W1.pop (hb hby dBN_5) rfl (pc' := 6) rfl ?_
  refine W1.aloadN (hb hby dBN_6) rfl rfl (pc' := 7) rfl ?_
  exact W1.retA hret rfl rfl (hb hby dBN_7) (by decide) (by decide) ⟨t1, rfl, or1, S1⟩
--CUT line
theorem itx_sign {q : Int32} (h : q < 0) : (itx q).getD 0 0 = 45 := by rw [itx_neg h]; rfl
/-- the line of TrecRun -/
def linT (c1 c2 : List Int32) (q : Int32) (c3 c4 : List Int32) : List Int32 := (((((((([] ++ c1) ++ [(32 : Int32), (81 : Int32), (48 : Int32), (32 : Int32)]) ++ c2) ++ [(32 : Int32)]) ++ itx q) ++ [(32 : Int32)]) ++ c3) ++ [(32 : Int32)]) ++ c4
section Lin
variable {c1 c2 c3 c4 ys : List Int32} {q : Int32}
theorem at_q (j : Nat) : ([(32 : Int32), (81 : Int32), (48 : Int32), (32 : Int32)] ++ ys).getD (4 + j) 0 = ys.getD j 0 := at_app_r (xs := [(32 : Int32), (81 : Int32), (48 : Int32), (32 : Int32)]) rfl
theorem at_s (j : Nat) : ([(32 : Int32)] ++ ys).getD (1 + j) 0 = ys.getD j 0 := at_app_r (xs := [(32 : Int32)]) rfl
theorem at_v (xs : List Int32) (j : Nat) : (xs ++ ys).getD (xs.length + j) 0 = ys.getD j 0 := at_app_r rfl
theorem at_v0 (xs : List Int32) : (xs ++ ys).getD xs.length 0 = ys.getD 0 0 := at_app_r (j := 0) rfl
theorem linT_eq : linT c1 c2 q c3 c4 = c1 ++ ([(32 : Int32), (81 : Int32), (48 : Int32), (32 : Int32)] ++ (c2 ++ ([(32 : Int32)] ++ (itx q ++ ([(32 : Int32)] ++ (c3 ++ ([(32 : Int32)] ++ c4))))))) := by
  simp only [linT, List.nil_append, List.append_assoc]
theorem linT_len : (linT c1 c2 q c3 c4).length = c1.length + 4 + c2.length + 1 + (itx q).length + 1 + c3.length + 1 + c4.length := by
  rw [linT_eq]; simp only [List.length_append, List.length_cons, List.length_nil]; omega
theorem lin_1 {i : Nat} (h : i < c1.length) : (linT c1 c2 q c3 c4).getD i 0 = c1.getD i 0 := by rw [linT_eq, at_app_l h]
theorem lin_2 {i : Nat} (j : Nat) (h : i = c1.length + j) (hj : j < 4) : (linT c1 c2 q c3 c4).getD i 0 = [(32 : Int32), (81 : Int32), (48 : Int32), (32 : Int32)].getD j 0 := by
  rw [linT_eq, at_app_r h, at_app_l hj]
theorem lin_3 {i : Nat} (j : Nat) (h : i = c1.length + 4 + j) (hj : j < c2.length) : (linT c1 c2 q c3 c4).getD i 0 = c2.getD j 0 := by
  rw [linT_eq, at_app_r (j := 4 + j) (by omega), at_q, at_app_l hj]
theorem lin_4 {i : Nat} (h : i = c1.length + 4 + c2.length) : (linT c1 c2 q c3 c4).getD i 0 = 32 := by
  rw [linT_eq, at_app_r (j := 4 + c2.length) (by omega), at_q, at_v0]; rfl
theorem lin_5 {i : Nat} (j : Nat) (h : i = c1.length + 4 + c2.length + 1 + j) (hj : j < (itx q).length) : (linT c1 c2 q c3 c4).getD i 0 = (itx q).getD j 0 := by
  rw [linT_eq, at_app_r (j := 4 + (c2.length + (1 + j))) (by omega), at_q, at_v, at_s, at_app_l hj]
theorem lin_6 {i : Nat} (h : i = c1.length + 4 + c2.length + 1 + (itx q).length) : (linT c1 c2 q c3 c4).getD i 0 = 32 := by
  rw [linT_eq, at_app_r (j := 4 + (c2.length + (1 + (itx q).length))) (by omega), at_q, at_v, at_s, at_v0]; rfl
theorem lin_7 {i : Nat} (j : Nat) (h : i = c1.length + 4 + c2.length + 1 + (itx q).length + 1 + j) (hj : j < c3.length) : (linT c1 c2 q c3 c4).getD i 0 = c3.getD j 0 := by
  rw [linT_eq, at_app_r (j := 4 + (c2.length + (1 + ((itx q).length + (1 + j))))) (by omega), at_q, at_v, at_s, at_v, at_s, at_app_l hj]
theorem lin_8 {i : Nat} (h : i = c1.length + 4 + c2.length + 1 + (itx q).length + 1 + c3.length) : (linT c1 c2 q c3 c4).getD i 0 = 32 := by
  rw [linT_eq, at_app_r (j := 4 + (c2.length + (1 + ((itx q).length + (1 + c3.length))))) (by omega), at_q, at_v, at_s, at_v, at_s, at_v0]; rfl
theorem lin_9 {i : Nat} (j : Nat) (h : i = c1.length + 4 + c2.length + 1 + (itx q).length + 1 + c3.length + 1 + j) : (linT c1 c2 q c3 c4).getD i 0 = c4.getD j 0 := by
  rw [linT_eq, at_app_r (j := 4 + (c2.length + (1 + ((itx q).length + (1 + (c3.length + (1 + j))))))) (by omega), at_q, at_v, at_s, at_v, at_s, at_v, at_s]
theorem linT_lat (H1 : ∀ c ∈ c1, ¬ (255 : Int32) < c) (H2 : ∀ c ∈ c2, ¬ (255 : Int32) < c) (H3 : ∀ c ∈ c3, ¬ (255 : Int32) < c) (H4 : ∀ c ∈ c4, ¬ (255 : Int32) < c) : ∀ c ∈ linT c1 c2 q c3 c4, ¬ (255 : Int32) < c := fun c hc => by
  have hs : ∀ c ∈ [(32 : Int32)], ¬ (255 : Int32) < c := by decide
  have hq : ∀ c ∈ [(32 : Int32), (81 : Int32), (48 : Int32), (32 : Int32)], ¬ (255 : Int32) < c := by decide
  rw [linT_eq] at hc
  rcases List.mem_append.mp hc with h | h
  · exact H1 c h
  rcases List.mem_append.mp h with h | h
  · exact hq c h
  rcases List.mem_append.mp h with h | h
  · exact H2 c h
  rcases List.mem_append.mp h with h | h
  · exact hs c h
  rcases List.mem_append.mp h with h | h
  · exact (itx_lat h).2
  rcases List.mem_append.mp h with h | h
  · exact hs c h
  rcases List.mem_append.mp h with h | h
  · exact H3 c h
  rcases List.mem_append.mp h with h | h
  · exact hs c h
  · exact H4 c h
end Lin
/-- the digit k places ahead of the end of the number -/
theorem itx_end {q : Int32} {k : Nat} (hk : k < SBG.digits (mag q)) : (itx q).getD ((itx q).length - 1 - k) 0 = Int32.ofNat (48 + mag q / 10 ^ k % 10) := by
  have hl := itx_len q
  by_cases h : q < 0
  · rw [sgn_pos h] at hl
    rw [hl, itx_neg h, show SBG.digits (mag q) + 1 - 1 - k = (SBG.digits (mag q) - 1 - k) + 1 from by omega, List.getD_cons_succ, dec_at (by omega), show SBG.digits (mag q) - 1 - (SBG.digits (mag q) - 1 - k) = k from by omega]
  · rw [sgn_neg h] at hl
    rw [hl, itx_pos h, show SBG.digits (mag q) + 0 - 1 - k = SBG.digits (mag q) - 1 - k from by omega, dec_at (by omega), show SBG.digits (mag q) - 1 - (SBG.digits (mag q) - 1 - k) = k from by omega]
theorem dLN_0 : decode prog_88_method_3_code 0 = .ok (.new 25, 3) := by decide +kernel
theorem dLN_3 : decode prog_88_method_3_code 3 = .ok (.dup, 1) := by decide +kernel
theorem dLN_4 : decode prog_88_method_3_code 4 = .ok (.invokespecial 27, 3) := by decide +kernel
theorem pd_62febe83 : parseMethodDescriptor "()V" = some ⟨[], none⟩ := by decide +kernel
theorem dLN_7 : decode prog_88_method_3_code 7 = .ok (.aload_n 0, 1) := by decide +kernel
theorem dLN_8 : decode prog_88_method_3_code 8 = .ok (.invokevirtual 28, 3) := by decide +kernel
theorem pd_59ea1a33 : parseMethodDescriptor "(Ljava/lang/String;)Ljava/lang/StringBuilder;" = some ⟨[(.object "java/lang/String")], some (.object "java/lang/StringBuilder")⟩ := by decide +kernel
theorem dLN_11 : decode prog_88_method_3_code 11 = .ok (.ldc 32, 2) := by decide +kernel
theorem dLN_13 : decode prog_88_method_3_code 13 = .ok (.invokevirtual 28, 3) := by decide +kernel
theorem dLN_16 : decode prog_88_method_3_code 16 = .ok (.aload_n 1, 1) := by decide +kernel
theorem dLN_17 : decode prog_88_method_3_code 17 = .ok (.invokevirtual 28, 3) := by decide +kernel
theorem dLN_20 : decode prog_88_method_3_code 20 = .ok (.ldc 34, 2) := by decide +kernel
theorem dLN_22 : decode prog_88_method_3_code 22 = .ok (.invokevirtual 28, 3) := by decide +kernel
theorem dLN_25 : decode prog_88_method_3_code 25 = .ok (.iload_n 2, 1) := by decide +kernel
theorem dLN_26 : decode prog_88_method_3_code 26 = .ok (.invokevirtual 36, 3) := by decide +kernel
theorem pd_7d34f62b : parseMethodDescriptor "(I)Ljava/lang/StringBuilder;" = some ⟨[.int], some (.object "java/lang/StringBuilder")⟩ := by decide +kernel
theorem dLN_29 : decode prog_88_method_3_code 29 = .ok (.ldc 34, 2) := by decide +kernel
theorem dLN_31 : decode prog_88_method_3_code 31 = .ok (.invokevirtual 28, 3) := by decide +kernel
theorem dLN_34 : decode prog_88_method_3_code 34 = .ok (.aload_n 3, 1) := by decide +kernel
theorem dLN_35 : decode prog_88_method_3_code 35 = .ok (.invokevirtual 28, 3) := by decide +kernel
theorem dLN_38 : decode prog_88_method_3_code 38 = .ok (.ldc 34, 2) := by decide +kernel
theorem dLN_40 : decode prog_88_method_3_code 40 = .ok (.invokevirtual 28, 3) := by decide +kernel
theorem dLN_43 : decode prog_88_method_3_code 43 = .ok (.aload 4, 2) := by decide +kernel
theorem dLN_45 : decode prog_88_method_3_code 45 = .ok (.invokevirtual 28, 3) := by decide +kernel
theorem dLN_48 : decode prog_88_method_3_code 48 = .ok (.invokevirtual 39, 3) := by decide +kernel
theorem pd_af964ff8 : parseMethodDescriptor "()Ljava/lang/String;" = some ⟨[], some (.object "java/lang/String")⟩ := by decide +kernel
theorem dLN_51 : decode prog_88_method_3_code 51 = .ok (.areturn, 1) := by decide +kernel
theorem pn_LN : plainFor (⟨"com/example/frugal_ranker/frugalranker/TrecRun", "line", "(Ljava/lang/String;Ljava/lang/String;ILjava/lang/String;Ljava/lang/String;)Ljava/lang/String;"⟩ : MethodName) = true := by first | exact plainFor_of_name (by first | (simp [plainName, overriddenIn]; done) | decide +kernel) | decide +kernel
set_option maxRecDepth 65536 in
set_option maxHeartbeats 40000000 in
theorem rmLN (l : Launch) (Z : State) (a0 : Array Value) (hw : ∀ d ∈ tables_1, d.before a0 Z = true) (hEL : EW Z a0 consts_1) (s1 s2 s3 s4 : Addr) (q : Int32) (c1 c2 c3 c4 : List Int32) (dO dT : Addr) (kO kT : ClassId) (zc : Int32) (h0 : Heap) (n0 : Nat) (Z0 : n0 ≤ h0.size) (TX1 : StrA Z h0 s1 c1) (HM1 : ∀ c ∈ c1, ¬ (255 : Int32) < c) (hl1 : c1.length ≤ 2) (TX2 : StrA Z h0 s2 c2) (HM2 : ∀ c ∈ c2, ¬ (255 : Int32) < c) (hl2 : c2.length ≤ 2) (TX3 : StrA Z h0 s3 c3) (HM3 : ∀ c ∈ c3, ¬ (255 : Int32) < c) (hl3 : c3.length ≤ 2) (TX4 : StrA Z h0 s4 c4) (HM4 : ∀ c ∈ c4, ¬ (255 : Int32) < c) (hl4 : c4.length ≤ 2) (gO : dO < n0) (gT : dT < n0) (TSO : Sta Z h0 "java/lang/Integer" "DigitOnes" "[B" (.ref dO)) (TAO : Arv Z h0 dO kO .byte (100 : Int32) onesV (.int (0 : Int32))) (TST : Sta Z h0 "java/lang/Integer" "DigitTens" "[B" (.ref dT)) (TAT : Arv Z h0 dT kT .byte (100 : Int32) tensV (.int (0 : Int32))) (SC : Sta Z h0 "java/lang/String" "COMPACT_STRINGS" "Z" (.int zc)) (hz : ¬ zc = 0) :
    WM l (⟨"com/example/frugal_ranker/frugalranker/TrecRun", "line", "(Ljava/lang/String;Ljava/lang/String;ILjava/lang/String;Ljava/lang/String;)Ljava/lang/String;"⟩ : MethodName) prog_88_method_3_code 5 (some (.object "java/lang/String")) [] ({ frames := 6, cells := 21, slots := 708, locals := 124 } : Room) Z consts_1 n0 #[(.ref s1), (.ref s2), (.int q), (.ref s3), (.ref s4)] h0 [] (fun v h => ∃ x, v = some (.ref x) ∧ StrA Z h x (linT c1 c2 q c3 c4)) := by
  refine WM.walk (Ls := #[.val (.ref s1), .val (.ref s2), .val (.int q), .val (.ref s3), .val (.ref s4)]) pn_LN Z0 (fun m => by first | (simp [entryFrame, mkF, argsToLocals, Value.category]; done) | rfl) ?_
  intro p e s m below meth c s₁ hby hml hret hnm W0
  have hwS : ∀ d ∈ Bundle.stringAtoms, d.before a0 Z = true := fun d hd => hw d (hwAtoms d hd)
  have hil := itx_le q
  refine W0.1.newO (hw _ (List.mem_of_getElem? (i := 30) rfl)) (hw _ (List.mem_of_getElem? (i := 31) rfl)) (hw _ (List.mem_of_getElem? (i := 32) rfl)) (hb hby dLN_0) (pc' := 3) rfl (by decide) (by decide) ?_
  intro T1 h1 a1 g1 ge1 gn1 N1 E1 A1 D1
  have z1 := E1.1
  have y1 := Nat.le_of_eq g1.symm
  have W1 := W0.upE N1 E1
  have D1_value := D1 (Or.inl (hw _ (List.mem_of_getElem? (i := 45) rfl))) (ty := (.array .byte)) (by decide)
  have D1_coder := D1 (Or.inl (hw _ (List.mem_of_getElem? (i := 47) rfl))) (ty := .byte) (by decide)
  have D1_count := D1 (Or.inl (hw _ (List.mem_of_getElem? (i := 70) rfl))) (ty := .int) (by decide)
  refine W1.1.dup (hb hby dLN_3) rfl (pc' := 4) rfl ?_
  have F3 := Sta.ext E1 SC
  refine W1.1.callI (y := (⟨"java/lang/StringBuilder", "<init>", "()V"⟩ : MethodName)) rfl (hw _ (List.mem_of_getElem? (i := 33) rfl)) (hw _ (List.mem_of_getElem? (i := 34) rfl)) (hw _ (List.mem_of_getElem? (i := 35) rfl)) (by decide) (NM.bk (wd := 1) (rmBI l Z a0 hw a1 zc h1 n0 W1.1.n0h gn1 A1 D1_value D1_coder D1_count F3 hz) W1.1.2.2.2.1 (hw _ (List.mem_of_getElem? (i := 35) rfl)) (hw _ (List.mem_of_getElem? (i := 32) rfl)) (by decide) (by decide)) (hb hby dLN_4) (pc' := 7) rfl hml (a := a1) (argsL := []) rfl (lenOf pd_62febe83 rfl) rfl (Nat.le_of_ble_eq_true rfl) (by decide) (by decide) (ws' := [a1]) (fun _ _ _ q => ⟨q.2.2, q.2.1⟩) (allS (Or.inr ge1) all0) ?_
  intro v2 T2 h2 L2' L2 N2 Q2 K2
  have W2 := W1.up N2 K2 (sfS (Safe.exa (EL := consts_1) W1.1.2.2.2.1.alike A1 (by decide) (by decide)) sf0)
  have z2 := K2.1
  obtain ⟨⟨t2, rfl, ge2, S2⟩, -, -⟩ := Q2
  have Sf2_t := W1.safeK (Safe.new ge2) K2 (sfS (Safe.exa (EL := consts_1) W1.1.2.2.2.1.alike A1 (by decide) (by decide)) sf0)
  have gh2 : h0.size ≤ t2 := by have := ge2; omega
  show Go p e below _ T2 (mkF m 7 #[.val (.ref s1), .val (.ref s2), .val (.int q), .val (.ref s3), .val (.ref s4)] [(.ref a1)])
  refine W2.1.aloadN (hb hby dLN_7) rfl rfl (pc' := 8) rfl ?_
  have X0_2_4 : Ext h0 h2 := Keep.toExt (((Keep.refl h0 []).ext E1).trans K2 (allS (Or.inr (by have := y1; omega)) all0))
  have zX0_2_4 := X0_2_4.1
  have F5 := StrA.ext TX1 X0_2_4
  have F6 := Sta.ext X0_2_4 SC
  refine W2.1.callV (y := (⟨"java/lang/StringBuilder", "append", "(Ljava/lang/String;)Ljava/lang/StringBuilder;"⟩ : MethodName)) (z := (⟨"java/lang/StringBuilder", "append", "(Ljava/lang/String;)Ljava/lang/StringBuilder;"⟩ : MethodName)) (hw _ (List.mem_of_getElem? (i := 48) rfl)) (hw _ (List.mem_of_getElem? (i := 49) rfl)) (hw _ (List.mem_of_getElem? (i := 51) rfl)) (hw _ (List.mem_of_getElem? (i := 51) rfl)) (hw _ (List.mem_of_getElem? (i := 50) rfl)) (by decide) (NM.bk (wd := 0) (rmSA l Z a0 hw a1 t2 s1 ([] : List Int32) c1 zc h2 n0 W2.1.n0h gn1 (Nat.le_trans Z0 gh2) S2 F5 HM1 (by simp only [List.length_append, List.length_nil, List.length_cons]; omega) F6 hz) W2.1.2.2.2.1 (hw _ (List.mem_of_getElem? (i := 52) rfl)) (hw _ (List.mem_of_getElem? (i := 32) rfl)) (by decide) (by decide)) S2.1 (hb hby dLN_8) (pc' := 11) rfl hml (argsL := [(.ref s1)]) rfl (lenOf pd_59ea1a33 rfl) rfl (Nat.le_of_ble_eq_true rfl) (by decide) (by decide) (ws' := [a1, t2]) (fun _ _ _ q => ⟨q.2.2, q.2.1⟩) (allS (Or.inr ge1) (allS (Or.inr gh2) all0)) ?_
  intro v7 T7 h7 L7' L7 N7 Q7 K7
  have W7 := W2.up N7 K7 (sfS (Safe.exa (EL := consts_1) W2.1.2.2.2.1.alike S2.1 (by decide) (by decide)) (sfS Sf2_t sf0))
  have z7 := K7.1
  obtain ⟨⟨t7, rfl, or7, S7⟩, -, -⟩ := Q7
  have Sf7_t := W2.safeK (or7.elim (fun e => by rw [e]; exact Sf2_t) (fun g => Safe.new g)) K7 (sfS (Safe.exa (EL := consts_1) W2.1.2.2.2.1.alike S2.1 (by decide) (by decide)) (sfS Sf2_t sf0))
  have gb7 : h1.size ≤ t7 := by
    rcases or7 with e | g
    · rw [e]; exact ge2
    · omega
  have gh7 : h0.size ≤ t7 := by have := gb7; omega
  show Go p e below _ T7 (mkF m 11 #[.val (.ref s1), .val (.ref s2), .val (.int q), .val (.ref s3), .val (.ref s4)] [(.ref a1)])
  refine W7.ldcS hEL (hw _ (List.mem_of_getElem? (i := 96) rfl)) hwS (by decide) (vs := [(.int (32 : Int32)), (.int (81 : Int32)), (.int (48 : Int32)), (.int (32 : Int32))]) (z := (4 : Int32)) ⟨by decide, by decide⟩ (by decide) rfl (hb hby dLN_11) (pc' := 13) rfl (n := 16) (by decide) (by decide) (by decide) (by decide) ?_
  intro T8 h8 vm8 a8 b8 k8 W8 E8 C8 A8 B8 D8 V8 hne8
  have z8 := E8.1
  have Sf8_t7 := C8.safe (SbA.ltT S7) Sf7_t
  have S8 : StrA Z h8 a8 ([(32 : Int32), (81 : Int32), (48 : Int32), (32 : Int32)] : List Int32) := StrA.make A8 B8 D8 V8 rfl (Nat.le_of_ble_eq_true rfl) (by decide)
  have F9 := Exa.ext E8 S7.1
  have F10 := SbA.ext S7 E8
  have X0_4_11 : Ext h0 h8 := Keep.toExt (((((Keep.refl h0 []).ext E1).trans K2 (allS (Or.inr (by have := y1; omega)) all0)).trans K7 (allS (Or.inr (by have := y1; omega)) (allS (Or.inr (by have := ge2; omega)) all0))).ext E8)
  have zX0_4_11 := X0_4_11.1
  have F12 := Sta.ext X0_4_11 SC
  refine W8.1.callV (y := (⟨"java/lang/StringBuilder", "append", "(Ljava/lang/String;)Ljava/lang/StringBuilder;"⟩ : MethodName)) (z := (⟨"java/lang/StringBuilder", "append", "(Ljava/lang/String;)Ljava/lang/StringBuilder;"⟩ : MethodName)) (hw _ (List.mem_of_getElem? (i := 48) rfl)) (hw _ (List.mem_of_getElem? (i := 49) rfl)) (hw _ (List.mem_of_getElem? (i := 51) rfl)) (hw _ (List.mem_of_getElem? (i := 51) rfl)) (hw _ (List.mem_of_getElem? (i := 50) rfl)) (by decide) (NM.bk (wd := 0) (rmSA l Z a0 hw a1 t7 a8 (([] : List Int32) ++ c1) ([(32 : Int32), (81 : Int32), (48 : Int32), (32 : Int32)] : List Int32) zc h8 n0 W8.1.n0h gn1 (Nat.le_trans Z0 gh7) F10 S8 (by decide) (by simp only [List.length_append, List.length_nil, List.length_cons]; omega) F12 hz) W8.1.2.2.2.1 (hw _ (List.mem_of_getElem? (i := 52) rfl)) (hw _ (List.mem_of_getElem? (i := 32) rfl)) (by decide) (by decide)) F9 (hb hby dLN_13) (pc' := 16) rfl hml (argsL := [(.ref a8)]) rfl (lenOf pd_59ea1a33 rfl) rfl (Nat.le_of_ble_eq_true rfl) (by decide) (by decide) (ws' := [a1, t7]) (fun _ _ _ q => ⟨q.2.2, q.2.1⟩) (allS (Or.inr ge1) (allS (Or.inr gh7) all0)) ?_
  intro v13 T13 h13 L13' L13 N13 Q13 K13
  have W13 := W8.up N13 K13 (sfS (Safe.exa (EL := consts_1) W8.1.2.2.2.1.alike F9 (by decide) (by decide)) (sfS Sf8_t7 sf0))
  have z13 := K13.1
  obtain ⟨⟨t13, rfl, or13, S13⟩, -, -⟩ := Q13
  have Sf13_t := W8.safeK (or13.elim (fun e => by rw [e]; exact Sf8_t7) (fun g => Safe.new g)) K13 (sfS (Safe.exa (EL := consts_1) W8.1.2.2.2.1.alike F9 (by decide) (by decide)) (sfS Sf8_t7 sf0))
  have gb13 : h1.size ≤ t13 := by
    rcases or13 with e | g
    · rw [e]; exact gb7
    · omega
  have gh13 : h0.size ≤ t13 := by have := gb13; omega
  show Go p e below _ T13 (mkF m 16 #[.val (.ref s1), .val (.ref s2), .val (.int q), .val (.ref s3), .val (.ref s4)] [(.ref a1)])
  refine W13.1.aloadN (hb hby dLN_16) rfl rfl (pc' := 17) rfl ?_
  have X0_5_14 : Ext h0 h13 := Keep.toExt ((((((Keep.refl h0 []).ext E1).trans K2 (allS (Or.inr (by have := y1; omega)) all0)).trans K7 (allS (Or.inr (by have := y1; omega)) (allS (Or.inr (by have := ge2; omega)) all0))).ext E8).trans K13 (allS (Or.inr (by have := y1; omega)) (allS (Or.inr (by have := gb7; omega)) all0)))
  have zX0_5_14 := X0_5_14.1
  have F15 := StrA.ext TX2 X0_5_14
  have F16 := Sta.ext X0_5_14 SC
  refine W13.1.callV (y := (⟨"java/lang/StringBuilder", "append", "(Ljava/lang/String;)Ljava/lang/StringBuilder;"⟩ : MethodName)) (z := (⟨"java/lang/StringBuilder", "append", "(Ljava/lang/String;)Ljava/lang/StringBuilder;"⟩ : MethodName)) (hw _ (List.mem_of_getElem? (i := 48) rfl)) (hw _ (List.mem_of_getElem? (i := 49) rfl)) (hw _ (List.mem_of_getElem? (i := 51) rfl)) (hw _ (List.mem_of_getElem? (i := 51) rfl)) (hw _ (List.mem_of_getElem? (i := 50) rfl)) (by decide) (NM.bk (wd := 0) (rmSA l Z a0 hw a1 t13 s2 ((([] : List Int32) ++ c1) ++ ([(32 : Int32), (81 : Int32), (48 : Int32), (32 : Int32)] : List Int32)) c2 zc h13 n0 W13.1.n0h gn1 (Nat.le_trans Z0 gh13) S13 F15 HM2 (by simp only [List.length_append, List.length_nil, List.length_cons]; omega) F16 hz) W13.1.2.2.2.1 (hw _ (List.mem_of_getElem? (i := 52) rfl)) (hw _ (List.mem_of_getElem? (i := 32) rfl)) (by decide) (by decide)) S13.1 (hb hby dLN_17) (pc' := 20) rfl hml (argsL := [(.ref s2)]) rfl (lenOf pd_59ea1a33 rfl) rfl (Nat.le_of_ble_eq_true rfl) (by decide) (by decide) (ws' := [a1, t13]) (fun _ _ _ q => ⟨q.2.2, q.2.1⟩) (allS (Or.inr ge1) (allS (Or.inr gh13) all0)) ?_
  intro v17 T17 h17 L17' L17 N17 Q17 K17
  have W17 := W13.up N17 K17 (sfS (Safe.exa (EL := consts_1) W13.1.2.2.2.1.alike S13.1 (by decide) (by decide)) (sfS Sf13_t sf0))
  have z17 := K17.1
  obtain ⟨⟨t17, rfl, or17, S17⟩, -, -⟩ := Q17
  have Sf17_t := W13.safeK (or17.elim (fun e => by rw [e]; exact Sf13_t) (fun g => Safe.new g)) K17 (sfS (Safe.exa (EL := consts_1) W13.1.2.2.2.1.alike S13.1 (by decide) (by decide)) (sfS Sf13_t sf0))
  have gb17 : h1.size ≤ t17 := by
    rcases or17 with e | g
    · rw [e]; exact gb13
    · omega
  have gh17 : h0.size ≤ t17 := by have := gb17; omega
  show Go p e below _ T17 (mkF m 20 #[.val (.ref s1), .val (.ref s2), .val (.int q), .val (.ref s3), .val (.ref s4)] [(.ref a1)])
  refine W17.ldcS hEL (hw _ (List.mem_of_getElem? (i := 97) rfl)) hwS (by decide) (vs := [(.int (32 : Int32))]) (z := (1 : Int32)) ⟨by decide, by decide⟩ (by decide) rfl (hb hby dLN_20) (pc' := 22) rfl (n := 4) (by decide) (by decide) (by decide) (by decide) ?_
  intro T18 h18 vm18 a18 b18 k18 W18 E18 C18 A18 B18 D18 V18 hne18
  have z18 := E18.1
  have Sf18_t17 := C18.safe (SbA.ltT S17) Sf17_t
  have S18 : StrA Z h18 a18 ([(32 : Int32)] : List Int32) := StrA.make A18 B18 D18 V18 rfl (Nat.le_of_ble_eq_true rfl) (by decide)
  have F19 := Exa.ext E18 S17.1
  have F20 := SbA.ext S17 E18
  have X0_7_21 : Ext h0 h18 := Keep.toExt ((((((((Keep.refl h0 []).ext E1).trans K2 (allS (Or.inr (by have := y1; omega)) all0)).trans K7 (allS (Or.inr (by have := y1; omega)) (allS (Or.inr (by have := ge2; omega)) all0))).ext E8).trans K13 (allS (Or.inr (by have := y1; omega)) (allS (Or.inr (by have := gb7; omega)) all0))).trans K17 (allS (Or.inr (by have := y1; omega)) (allS (Or.inr (by have := gb13; omega)) all0))).ext E18)
  have zX0_7_21 := X0_7_21.1
  have F22 := Sta.ext X0_7_21 SC
  refine W18.1.callV (y := (⟨"java/lang/StringBuilder", "append", "(Ljava/lang/String;)Ljava/lang/StringBuilder;"⟩ : MethodName)) (z := (⟨"java/lang/StringBuilder", "append", "(Ljava/lang/String;)Ljava/lang/StringBuilder;"⟩ : MethodName)) (hw _ (List.mem_of_getElem? (i := 48) rfl)) (hw _ (List.mem_of_getElem? (i := 49) rfl)) (hw _ (List.mem_of_getElem? (i := 51) rfl)) (hw _ (List.mem_of_getElem? (i := 51) rfl)) (hw _ (List.mem_of_getElem? (i := 50) rfl)) (by decide) (NM.bk (wd := 0) (rmSA l Z a0 hw a1 t17 a18 (((([] : List Int32) ++ c1) ++ ([(32 : Int32), (81 : Int32), (48 : Int32), (32 : Int32)] : List Int32)) ++ c2) ([(32 : Int32)] : List Int32) zc h18 n0 W18.1.n0h gn1 (Nat.le_trans Z0 gh17) F20 S18 (by decide) (by simp only [List.length_append, List.length_nil, List.length_cons]; omega) F22 hz) W18.1.2.2.2.1 (hw _ (List.mem_of_getElem? (i := 52) rfl)) (hw _ (List.mem_of_getElem? (i := 32) rfl)) (by decide) (by decide)) F19 (hb hby dLN_22) (pc' := 25) rfl hml (argsL := [(.ref a18)]) rfl (lenOf pd_59ea1a33 rfl) rfl (Nat.le_of_ble_eq_true rfl) (by decide) (by decide) (ws' := [a1, t17]) (fun _ _ _ q => ⟨q.2.2, q.2.1⟩) (allS (Or.inr ge1) (allS (Or.inr gh17) all0)) ?_
  intro v23 T23 h23 L23' L23 N23 Q23 K23
  have W23 := W18.up N23 K23 (sfS (Safe.exa (EL := consts_1) W18.1.2.2.2.1.alike F19 (by decide) (by decide)) (sfS Sf18_t17 sf0))
  have z23 := K23.1
  obtain ⟨⟨t23, rfl, or23, S23⟩, -, -⟩ := Q23
  have Sf23_t := W18.safeK (or23.elim (fun e => by rw [e]; exact Sf18_t17) (fun g => Safe.new g)) K23 (sfS (Safe.exa (EL := consts_1) W18.1.2.2.2.1.alike F19 (by decide) (by decide)) (sfS Sf18_t17 sf0))
  have gb23 : h1.size ≤ t23 := by
    rcases or23 with e | g
    · rw [e]; exact gb17
    · omega
  have gh23 : h0.size ≤ t23 := by have := gb23; omega
  show Go p e below _ T23 (mkF m 25 #[.val (.ref s1), .val (.ref s2), .val (.int q), .val (.ref s3), .val (.ref s4)] [(.ref a1)])
  refine W23.1.iloadN (hb hby dLN_25) rfl (pc' := 26) rfl ?_
  have X0_8_24 : Ext h0 h23 := Keep.toExt (((((((((Keep.refl h0 []).ext E1).trans K2 (allS (Or.inr (by have := y1; omega)) all0)).trans K7 (allS (Or.inr (by have := y1; omega)) (allS (Or.inr (by have := ge2; omega)) all0))).ext E8).trans K13 (allS (Or.inr (by have := y1; omega)) (allS (Or.inr (by have := gb7; omega)) all0))).trans K17 (allS (Or.inr (by have := y1; omega)) (allS (Or.inr (by have := gb13; omega)) all0))).ext E18).trans K23 (allS (Or.inr (by have := y1; omega)) (allS (Or.inr (by have := gb17; omega)) all0)))
  have zX0_8_24 := X0_8_24.1
  have F25 := Sta.ext X0_8_24 TSO
  have F26 := Arv.ext TAO X0_8_24
  have F27 := Sta.ext X0_8_24 TST
  have F28 := Arv.ext TAT X0_8_24
  have F29 := Sta.ext X0_8_24 SC
  refine W23.1.callV (y := (⟨"java/lang/StringBuilder", "append", "(I)Ljava/lang/StringBuilder;"⟩ : MethodName)) (z := (⟨"java/lang/StringBuilder", "append", "(I)Ljava/lang/StringBuilder;"⟩ : MethodName)) (hw _ (List.mem_of_getElem? (i := 98) rfl)) (hw _ (List.mem_of_getElem? (i := 99) rfl)) (hw _ (List.mem_of_getElem? (i := 101) rfl)) (hw _ (List.mem_of_getElem? (i := 101) rfl)) (hw _ (List.mem_of_getElem? (i := 100) rfl)) (by decide) (NM.bk (wd := 0) (rmBN l Z a0 hw a1 t23 q dO dT kO kT ((((([] : List Int32) ++ c1) ++ ([(32 : Int32), (81 : Int32), (48 : Int32), (32 : Int32)] : List Int32)) ++ c2) ++ ([(32 : Int32)] : List Int32)) zc h23 n0 W23.1.n0h gn1 (Nat.le_trans Z0 gh23) S23 gO gT F25 F26 F27 F28 (by simp only [List.length_append, List.length_nil, List.length_cons]; omega) F29 hz) W23.1.2.2.2.1 (hw _ (List.mem_of_getElem? (i := 102) rfl)) (hw _ (List.mem_of_getElem? (i := 32) rfl)) (by decide) (by decide)) S23.1 (hb hby dLN_26) (pc' := 29) rfl hml (argsL := [(.int q)]) rfl (lenOf pd_7d34f62b rfl) rfl (Nat.le_of_ble_eq_true rfl) (by decide) (by decide) (ws' := [a1, t23]) (fun _ _ _ q => ⟨q.2.2, q.2.1⟩) (allS (Or.inr ge1) (allS (Or.inr gh23) all0)) ?_
  intro v30 T30 h30 L30' L30 N30 Q30 K30
  have W30 := W23.up N30 K30 (sfS (Safe.exa (EL := consts_1) W23.1.2.2.2.1.alike S23.1 (by decide) (by decide)) (sfS Sf23_t sf0))
  have z30 := K30.1
  obtain ⟨⟨t30, rfl, or30, S30⟩, -, -⟩ := Q30
  have Sf30_t := W23.safeK (or30.elim (fun e => by rw [e]; exact Sf23_t) (fun g => Safe.new g)) K30 (sfS (Safe.exa (EL := consts_1) W23.1.2.2.2.1.alike S23.1 (by decide) (by decide)) (sfS Sf23_t sf0))
  have gb30 : h1.size ≤ t30 := by
    rcases or30 with e | g
    · rw [e]; exact gb23
    · omega
  have gh30 : h0.size ≤ t30 := by have := gb30; omega
  show Go p e below _ T30 (mkF m 29 #[.val (.ref s1), .val (.ref s2), .val (.int q), .val (.ref s3), .val (.ref s4)] [(.ref a1)])
  refine W30.ldcS hEL (hw _ (List.mem_of_getElem? (i := 97) rfl)) hwS (by decide) (vs := [(.int (32 : Int32))]) (z := (1 : Int32)) ⟨by decide, by decide⟩ (by decide) rfl (hb hby dLN_29) (pc' := 31) rfl (n := 4) (by decide) (by decide) (by decide) (by decide) ?_
  intro T31 h31 vm31 a31 b31 k31 W31 E31 C31 A31 B31 D31 V31 hne31
  have z31 := E31.1
  have Sf31_t30 := C31.safe (SbA.ltT S30) Sf30_t
  have S31 : StrA Z h31 a31 ([(32 : Int32)] : List Int32) := StrA.make A31 B31 D31 V31 rfl (Nat.le_of_ble_eq_true rfl) (by decide)
  have F32 := Exa.ext E31 S30.1
  have F33 := SbA.ext S30 E31
  have X0_10_34 : Ext h0 h31 := Keep.toExt (((((((((((Keep.refl h0 []).ext E1).trans K2 (allS (Or.inr (by have := y1; omega)) all0)).trans K7 (allS (Or.inr (by have := y1; omega)) (allS (Or.inr (by have := ge2; omega)) all0))).ext E8).trans K13 (allS (Or.inr (by have := y1; omega)) (allS (Or.inr (by have := gb7; omega)) all0))).trans K17 (allS (Or.inr (by have := y1; omega)) (allS (Or.inr (by have := gb13; omega)) all0))).ext E18).trans K23 (allS (Or.inr (by have := y1; omega)) (allS (Or.inr (by have := gb17; omega)) all0))).trans K30 (allS (Or.inr (by have := y1; omega)) (allS (Or.inr (by have := gb23; omega)) all0))).ext E31)
  have zX0_10_34 := X0_10_34.1
  have F35 := Sta.ext X0_10_34 SC
  refine W31.1.callV (y := (⟨"java/lang/StringBuilder", "append", "(Ljava/lang/String;)Ljava/lang/StringBuilder;"⟩ : MethodName)) (z := (⟨"java/lang/StringBuilder", "append", "(Ljava/lang/String;)Ljava/lang/StringBuilder;"⟩ : MethodName)) (hw _ (List.mem_of_getElem? (i := 48) rfl)) (hw _ (List.mem_of_getElem? (i := 49) rfl)) (hw _ (List.mem_of_getElem? (i := 51) rfl)) (hw _ (List.mem_of_getElem? (i := 51) rfl)) (hw _ (List.mem_of_getElem? (i := 50) rfl)) (by decide) (NM.bk (wd := 0) (rmSA l Z a0 hw a1 t30 a31 (((((([] : List Int32) ++ c1) ++ ([(32 : Int32), (81 : Int32), (48 : Int32), (32 : Int32)] : List Int32)) ++ c2) ++ ([(32 : Int32)] : List Int32)) ++ itx q) ([(32 : Int32)] : List Int32) zc h31 n0 W31.1.n0h gn1 (Nat.le_trans Z0 gh30) F33 S31 (by decide) (by simp only [List.length_append, List.length_nil, List.length_cons]; omega) F35 hz) W31.1.2.2.2.1 (hw _ (List.mem_of_getElem? (i := 52) rfl)) (hw _ (List.mem_of_getElem? (i := 32) rfl)) (by decide) (by decide)) F32 (hb hby dLN_31) (pc' := 34) rfl hml (argsL := [(.ref a31)]) rfl (lenOf pd_59ea1a33 rfl) rfl (Nat.le_of_ble_eq_true rfl) (by decide) (by decide) (ws' := [a1, t30]) (fun _ _ _ q => ⟨q.2.2, q.2.1⟩) (allS (Or.inr ge1) (allS (Or.inr gh30) all0)) ?_
  intro v36 T36 h36 L36' L36 N36 Q36 K36
  have W36 := W31.up N36 K36 (sfS (Safe.exa (EL := consts_1) W31.1.2.2.2.1.alike F32 (by decide) (by decide)) (sfS Sf31_t30 sf0))
  have z36 := K36.1
  obtain ⟨⟨t36, rfl, or36, S36⟩, -, -⟩ := Q36
  have Sf36_t := W31.safeK (or36.elim (fun e => by rw [e]; exact Sf31_t30) (fun g => Safe.new g)) K36 (sfS (Safe.exa (EL := consts_1) W31.1.2.2.2.1.alike F32 (by decide) (by decide)) (sfS Sf31_t30 sf0))
  have gb36 : h1.size ≤ t36 := by
    rcases or36 with e | g
    · rw [e]; exact gb30
    · omega
  have gh36 : h0.size ≤ t36 := by have := gb36; omega
  show Go p e below _ T36 (mkF m 34 #[.val (.ref s1), .val (.ref s2), .val (.int q), .val (.ref s3), .val (.ref s4)] [(.ref a1)])
  refine W36.1.aloadN (hb hby dLN_34) rfl rfl (pc' := 35) rfl ?_
  have X0_11_37 : Ext h0 h36 := Keep.toExt ((((((((((((Keep.refl h0 []).ext E1).trans K2 (allS (Or.inr (by have := y1; omega)) all0)).trans K7 (allS (Or.inr (by have := y1; omega)) (allS (Or.inr (by have := ge2; omega)) all0))).ext E8).trans K13 (allS (Or.inr (by have := y1; omega)) (allS (Or.inr (by have := gb7; omega)) all0))).trans K17 (allS (Or.inr (by have := y1; omega)) (allS (Or.inr (by have := gb13; omega)) all0))).ext E18).trans K23 (allS (Or.inr (by have := y1; omega)) (allS (Or.inr (by have := gb17; omega)) all0))).trans K30 (allS (Or.inr (by have := y1; omega)) (allS (Or.inr (by have := gb23; omega)) all0))).ext E31).trans K36 (allS (Or.inr (by have := y1; omega)) (allS (Or.inr (by have := gb30; omega)) all0)))
  have zX0_11_37 := X0_11_37.1
  have F38 := StrA.ext TX3 X0_11_37
  have F39 := Sta.ext X0_11_37 SC
  refine W36.1.callV (y := (⟨"java/lang/StringBuilder", "append", "(Ljava/lang/String;)Ljava/lang/StringBuilder;"⟩ : MethodName)) (z := (⟨"java/lang/StringBuilder", "append", "(Ljava/lang/String;)Ljava/lang/StringBuilder;"⟩ : MethodName)) (hw _ (List.mem_of_getElem? (i := 48) rfl)) (hw _ (List.mem_of_getElem? (i := 49) rfl)) (hw _ (List.mem_of_getElem? (i := 51) rfl)) (hw _ (List.mem_of_getElem? (i := 51) rfl)) (hw _ (List.mem_of_getElem? (i := 50) rfl)) (by decide) (NM.bk (wd := 0) (rmSA l Z a0 hw a1 t36 s3 ((((((([] : List Int32) ++ c1) ++ ([(32 : Int32), (81 : Int32), (48 : Int32), (32 : Int32)] : List Int32)) ++ c2) ++ ([(32 : Int32)] : List Int32)) ++ itx q) ++ ([(32 : Int32)] : List Int32)) c3 zc h36 n0 W36.1.n0h gn1 (Nat.le_trans Z0 gh36) S36 F38 HM3 (by simp only [List.length_append, List.length_nil, List.length_cons]; omega) F39 hz) W36.1.2.2.2.1 (hw _ (List.mem_of_getElem? (i := 52) rfl)) (hw _ (List.mem_of_getElem? (i := 32) rfl)) (by decide) (by decide)) S36.1 (hb hby dLN_35) (pc' := 38) rfl hml (argsL := [(.ref s3)]) rfl (lenOf pd_59ea1a33 rfl) rfl (Nat.le_of_ble_eq_true rfl) (by decide) (by decide) (ws' := [a1, t36]) (fun _ _ _ q => ⟨q.2.2, q.2.1⟩) (allS (Or.inr ge1) (allS (Or.inr gh36) all0)) ?_
  intro v40 T40 h40 L40' L40 N40 Q40 K40
  have W40 := W36.up N40 K40 (sfS (Safe.exa (EL := consts_1) W36.1.2.2.2.1.alike S36.1 (by decide) (by decide)) (sfS Sf36_t sf0))
  have z40 := K40.1
  obtain ⟨⟨t40, rfl, or40, S40⟩, -, -⟩ := Q40
  have Sf40_t := W36.safeK (or40.elim (fun e => by rw [e]; exact Sf36_t) (fun g => Safe.new g)) K40 (sfS (Safe.exa (EL := consts_1) W36.1.2.2.2.1.alike S36.1 (by decide) (by decide)) (sfS Sf36_t sf0))
  have gb40 : h1.size ≤ t40 := by
    rcases or40 with e | g
    · rw [e]; exact gb36
    · omega
  have gh40 : h0.size ≤ t40 := by have := gb40; omega
  show Go p e below _ T40 (mkF m 38 #[.val (.ref s1), .val (.ref s2), .val (.int q), .val (.ref s3), .val (.ref s4)] [(.ref a1)])
  refine W40.ldcS hEL (hw _ (List.mem_of_getElem? (i := 97) rfl)) hwS (by decide) (vs := [(.int (32 : Int32))]) (z := (1 : Int32)) ⟨by decide, by decide⟩ (by decide) rfl (hb hby dLN_38) (pc' := 40) rfl (n := 4) (by decide) (by decide) (by decide) (by decide) ?_
  intro T41 h41 vm41 a41 b41 k41 W41 E41 C41 A41 B41 D41 V41 hne41
  have z41 := E41.1
  have Sf41_t40 := C41.safe (SbA.ltT S40) Sf40_t
  have S41 : StrA Z h41 a41 ([(32 : Int32)] : List Int32) := StrA.make A41 B41 D41 V41 rfl (Nat.le_of_ble_eq_true rfl) (by decide)
  have F42 := Exa.ext E41 S40.1
  have F43 := SbA.ext S40 E41
  have X0_13_44 : Ext h0 h41 := Keep.toExt ((((((((((((((Keep.refl h0 []).ext E1).trans K2 (allS (Or.inr (by have := y1; omega)) all0)).trans K7 (allS (Or.inr (by have := y1; omega)) (allS (Or.inr (by have := ge2; omega)) all0))).ext E8).trans K13 (allS (Or.inr (by have := y1; omega)) (allS (Or.inr (by have := gb7; omega)) all0))).trans K17 (allS (Or.inr (by have := y1; omega)) (allS (Or.inr (by have := gb13; omega)) all0))).ext E18).trans K23 (allS (Or.inr (by have := y1; omega)) (allS (Or.inr (by have := gb17; omega)) all0))).trans K30 (allS (Or.inr (by have := y1; omega)) (allS (Or.inr (by have := gb23; omega)) all0))).ext E31).trans K36 (allS (Or.inr (by have := y1; omega)) (allS (Or.inr (by have := gb30; omega)) all0))).trans K40 (allS (Or.inr (by have := y1; omega)) (allS (Or.inr (by have := gb36; omega)) all0))).ext E41)
  have zX0_13_44 := X0_13_44.1
  have F45 := Sta.ext X0_13_44 SC
  refine W41.1.callV (y := (⟨"java/lang/StringBuilder", "append", "(Ljava/lang/String;)Ljava/lang/StringBuilder;"⟩ : MethodName)) (z := (⟨"java/lang/StringBuilder", "append", "(Ljava/lang/String;)Ljava/lang/StringBuilder;"⟩ : MethodName)) (hw _ (List.mem_of_getElem? (i := 48) rfl)) (hw _ (List.mem_of_getElem? (i := 49) rfl)) (hw _ (List.mem_of_getElem? (i := 51) rfl)) (hw _ (List.mem_of_getElem? (i := 51) rfl)) (hw _ (List.mem_of_getElem? (i := 50) rfl)) (by decide) (NM.bk (wd := 0) (rmSA l Z a0 hw a1 t40 a41 (((((((([] : List Int32) ++ c1) ++ ([(32 : Int32), (81 : Int32), (48 : Int32), (32 : Int32)] : List Int32)) ++ c2) ++ ([(32 : Int32)] : List Int32)) ++ itx q) ++ ([(32 : Int32)] : List Int32)) ++ c3) ([(32 : Int32)] : List Int32) zc h41 n0 W41.1.n0h gn1 (Nat.le_trans Z0 gh40) F43 S41 (by decide) (by simp only [List.length_append, List.length_nil, List.length_cons]; omega) F45 hz) W41.1.2.2.2.1 (hw _ (List.mem_of_getElem? (i := 52) rfl)) (hw _ (List.mem_of_getElem? (i := 32) rfl)) (by decide) (by decide)) F42 (hb hby dLN_40) (pc' := 43) rfl hml (argsL := [(.ref a41)]) rfl (lenOf pd_59ea1a33 rfl) rfl (Nat.le_of_ble_eq_true rfl) (by decide) (by decide) (ws' := [a1, t40]) (fun _ _ _ q => ⟨q.2.2, q.2.1⟩) (allS (Or.inr ge1) (allS (Or.inr gh40) all0)) ?_
  intro v46 T46 h46 L46' L46 N46 Q46 K46
  have W46 := W41.up N46 K46 (sfS (Safe.exa (EL := consts_1) W41.1.2.2.2.1.alike F42 (by decide) (by decide)) (sfS Sf41_t40 sf0))
  have z46 := K46.1
  obtain ⟨⟨t46, rfl, or46, S46⟩, -, -⟩ := Q46
  have Sf46_t := W41.safeK (or46.elim (fun e => by rw [e]; exact Sf41_t40) (fun g => Safe.new g)) K46 (sfS (Safe.exa (EL := consts_1) W41.1.2.2.2.1.alike F42 (by decide) (by decide)) (sfS Sf41_t40 sf0))
  have gb46 : h1.size ≤ t46 := by
    rcases or46 with e | g
    · rw [e]; exact gb40
    · omega
  have gh46 : h0.size ≤ t46 := by have := gb46; omega
  show Go p e below _ T46 (mkF m 43 #[.val (.ref s1), .val (.ref s2), .val (.int q), .val (.ref s3), .val (.ref s4)] [(.ref a1)])
  refine W46.1.aload (hb hby dLN_43) rfl rfl (pc' := 45) rfl ?_
  have X0_14_47 : Ext h0 h46 := Keep.toExt (((((((((((((((Keep.refl h0 []).ext E1).trans K2 (allS (Or.inr (by have := y1; omega)) all0)).trans K7 (allS (Or.inr (by have := y1; omega)) (allS (Or.inr (by have := ge2; omega)) all0))).ext E8).trans K13 (allS (Or.inr (by have := y1; omega)) (allS (Or.inr (by have := gb7; omega)) all0))).trans K17 (allS (Or.inr (by have := y1; omega)) (allS (Or.inr (by have := gb13; omega)) all0))).ext E18).trans K23 (allS (Or.inr (by have := y1; omega)) (allS (Or.inr (by have := gb17; omega)) all0))).trans K30 (allS (Or.inr (by have := y1; omega)) (allS (Or.inr (by have := gb23; omega)) all0))).ext E31).trans K36 (allS (Or.inr (by have := y1; omega)) (allS (Or.inr (by have := gb30; omega)) all0))).trans K40 (allS (Or.inr (by have := y1; omega)) (allS (Or.inr (by have := gb36; omega)) all0))).ext E41).trans K46 (allS (Or.inr (by have := y1; omega)) (allS (Or.inr (by have := gb40; omega)) all0)))
  have zX0_14_47 := X0_14_47.1
  have F48 := StrA.ext TX4 X0_14_47
  have F49 := Sta.ext X0_14_47 SC
  refine W46.1.callV (y := (⟨"java/lang/StringBuilder", "append", "(Ljava/lang/String;)Ljava/lang/StringBuilder;"⟩ : MethodName)) (z := (⟨"java/lang/StringBuilder", "append", "(Ljava/lang/String;)Ljava/lang/StringBuilder;"⟩ : MethodName)) (hw _ (List.mem_of_getElem? (i := 48) rfl)) (hw _ (List.mem_of_getElem? (i := 49) rfl)) (hw _ (List.mem_of_getElem? (i := 51) rfl)) (hw _ (List.mem_of_getElem? (i := 51) rfl)) (hw _ (List.mem_of_getElem? (i := 50) rfl)) (by decide) (NM.bk (wd := 0) (rmSA l Z a0 hw a1 t46 s4 ((((((((([] : List Int32) ++ c1) ++ ([(32 : Int32), (81 : Int32), (48 : Int32), (32 : Int32)] : List Int32)) ++ c2) ++ ([(32 : Int32)] : List Int32)) ++ itx q) ++ ([(32 : Int32)] : List Int32)) ++ c3) ++ ([(32 : Int32)] : List Int32)) c4 zc h46 n0 W46.1.n0h gn1 (Nat.le_trans Z0 gh46) S46 F48 HM4 (by simp only [List.length_append, List.length_nil, List.length_cons]; omega) F49 hz) W46.1.2.2.2.1 (hw _ (List.mem_of_getElem? (i := 52) rfl)) (hw _ (List.mem_of_getElem? (i := 32) rfl)) (by decide) (by decide)) S46.1 (hb hby dLN_45) (pc' := 48) rfl hml (argsL := [(.ref s4)]) rfl (lenOf pd_59ea1a33 rfl) rfl (Nat.le_of_ble_eq_true rfl) (by decide) (by decide) (ws' := [a1, t46]) (fun _ _ _ q => ⟨q.2.2, q.2.1⟩) (allS (Or.inr ge1) (allS (Or.inr gh46) all0)) ?_
  intro v50 T50 h50 L50' L50 N50 Q50 K50
  have W50 := W46.up N50 K50 (sfS (Safe.exa (EL := consts_1) W46.1.2.2.2.1.alike S46.1 (by decide) (by decide)) (sfS Sf46_t sf0))
  have z50 := K50.1
  obtain ⟨⟨t50, rfl, or50, S50⟩, -, -⟩ := Q50
  have Sf50_t := W46.safeK (or50.elim (fun e => by rw [e]; exact Sf46_t) (fun g => Safe.new g)) K50 (sfS (Safe.exa (EL := consts_1) W46.1.2.2.2.1.alike S46.1 (by decide) (by decide)) (sfS Sf46_t sf0))
  have gb50 : h1.size ≤ t50 := by
    rcases or50 with e | g
    · rw [e]; exact gb46
    · omega
  have gh50 : h0.size ≤ t50 := by have := gb50; omega
  show Go p e below _ T50 (mkF m 48 #[.val (.ref s1), .val (.ref s2), .val (.int q), .val (.ref s3), .val (.ref s4)] [(.ref a1)])
  have X0_15_52 : Ext h0 h50 := Keep.toExt ((((((((((((((((Keep.refl h0 []).ext E1).trans K2 (allS (Or.inr (by have := y1; omega)) all0)).trans K7 (allS (Or.inr (by have := y1; omega)) (allS (Or.inr (by have := ge2; omega)) all0))).ext E8).trans K13 (allS (Or.inr (by have := y1; omega)) (allS (Or.inr (by have := gb7; omega)) all0))).trans K17 (allS (Or.inr (by have := y1; omega)) (allS (Or.inr (by have := gb13; omega)) all0))).ext E18).trans K23 (allS (Or.inr (by have := y1; omega)) (allS (Or.inr (by have := gb17; omega)) all0))).trans K30 (allS (Or.inr (by have := y1; omega)) (allS (Or.inr (by have := gb23; omega)) all0))).ext E31).trans K36 (allS (Or.inr (by have := y1; omega)) (allS (Or.inr (by have := gb30; omega)) all0))).trans K40 (allS (Or.inr (by have := y1; omega)) (allS (Or.inr (by have := gb36; omega)) all0))).ext E41).trans K46 (allS (Or.inr (by have := y1; omega)) (allS (Or.inr (by have := gb40; omega)) all0))).trans K50 (allS (Or.inr (by have := y1; omega)) (allS (Or.inr (by have := gb46; omega)) all0)))
  have zX0_15_52 := X0_15_52.1
  have F53 := Sta.ext X0_15_52 SC
  refine W50.1.callV (y := (⟨"java/lang/StringBuilder", "toString", "()Ljava/lang/String;"⟩ : MethodName)) (z := (⟨"java/lang/StringBuilder", "toString", "()Ljava/lang/String;"⟩ : MethodName)) (hw _ (List.mem_of_getElem? (i := 120) rfl)) (hw _ (List.mem_of_getElem? (i := 121) rfl)) (hw _ (List.mem_of_getElem? (i := 123) rfl)) (hw _ (List.mem_of_getElem? (i := 123) rfl)) (hw _ (List.mem_of_getElem? (i := 122) rfl)) (by decide) (NM.bk (wd := 0) (rmTS l Z a0 hw a1 t50 (((((((((([] : List Int32) ++ c1) ++ ([(32 : Int32), (81 : Int32), (48 : Int32), (32 : Int32)] : List Int32)) ++ c2) ++ ([(32 : Int32)] : List Int32)) ++ itx q) ++ ([(32 : Int32)] : List Int32)) ++ c3) ++ ([(32 : Int32)] : List Int32)) ++ c4) zc h50 n0 W50.1.n0h S50 F53 hz) W50.1.2.2.2.1 (hw _ (List.mem_of_getElem? (i := 124) rfl)) (hw _ (List.mem_of_getElem? (i := 32) rfl)) (by decide) (by decide)) S50.1 (hb hby dLN_48) (pc' := 51) rfl hml (argsL := []) rfl (lenOf pd_af964ff8 rfl) rfl (Nat.le_of_ble_eq_true rfl) (by decide) (by decide) (ws' := []) (fun _ _ _ q => ⟨q.2.2, q.2.1⟩) all0 ?_
  intro v51 T51 h51 L51' L51 N51 Q51 K51
  have W51 := W50.up N51 K51 sf0
  have z51 := K51.1
  obtain ⟨⟨x51, rfl, R51⟩, -, -⟩ := Q51
  show Go p e below _ T51 (mkF m 51 #[.val (.ref s1), .val (.ref s2), .val (.int q), .val (.ref s3), .val (.ref s4)] [(.ref x51)])
  exact W51.retA hEL hret rfl rfl (hb hby dLN_51) (by decide) (by decide) ⟨x51, rfl, R51⟩
--CUT help
def ablF (v : Int64) : Int64 := (if v < (0 : Int64) then (-v) else v)
theorem dAB_0 : decode jdk_29_method_61_code 0 = .ok (.lload_n 0, 1) := by decide +kernel
theorem dAB_1 : decode jdk_29_method_61_code 1 = .ok (.lconst 0, 1) := by decide +kernel
theorem dAB_2 : decode jdk_29_method_61_code 2 = .ok (.lcmp, 1) := by decide +kernel
theorem dAB_3 : decode jdk_29_method_61_code 3 = .ok (.ifCond .ge 8, 3) := by decide +kernel
theorem dAB_6 : decode jdk_29_method_61_code 6 = .ok (.lload_n 0, 1) := by decide +kernel
theorem dAB_7 : decode jdk_29_method_61_code 7 = .ok (.lneg, 1) := by decide +kernel
theorem dAB_8 : decode jdk_29_method_61_code 8 = .ok (.goto 4, 3) := by decide +kernel
theorem dAB_12 : decode jdk_29_method_61_code 12 = .ok (.lreturn, 1) := by decide +kernel
theorem dAB_11 : decode jdk_29_method_61_code 11 = .ok (.lload_n 0, 1) := by decide +kernel
set_option maxRecDepth 65536 in
set_option maxHeartbeats 40000000 in
theorem rmAB (l : Launch) (Z : State) (a0 : Array Value) (hw : ∀ d ∈ tables_1, d.before a0 Z = true) (v : Int64) (h0 : Heap) (n0 : Nat) (Z0 : n0 ≤ h0.size)  :
    NM l (⟨"java/lang/Math", "abs", "(J)J"⟩ : MethodName) jdk_29_method_61_code 2 (some .long) [] ({ frames := 0, cells := 0, slots := 0, locals := 0 } : Room) Z n0 #[(.long v)] h0 [] (Pu (some (.long (ablF v))) h0) := by
  refine NM.walk (Ls := #[.val (.long v), .second]) (Jvm.Free.JP.mathPlain rfl (by decide +kernel)) Z0 (fun m => by first | (simp [entryFrame, mkF, argsToLocals, Value.category]; done) | rfl) ?_
  intro p e s m below meth c s₁ hby hml hret hnm W0
  refine W0.lloadN (hb hby dAB_0) rfl (pc' := 1) rfl ?_
  refine W0.lconst (0 : Int64) (hb hby dAB_1) rfl (pc' := 2) rfl ?_
  refine W0.lcmp (hb hby dAB_2) (pc' := 3) rfl ?_
  by_cases hc1 : v < (0 : Int64)
  · refine W0.ifNo (hb hby dAB_3) (XT.ll_ge_f hc1) (pc' := 6) rfl ?_
    refine W0.lloadN (hb hby dAB_6) rfl (pc' := 7) rfl ?_
    refine W0.lneg (hb hby dAB_7) (pc' := 8) rfl ?_
    refine W0.goto (hb hby dAB_8) (by decide) (pc' := 12) (by decide) ?_
    exact W0.retJ hret (hb hby dAB_12) (by decide) (by decide) ⟨congrArg (fun z => some (Value.long z)) (by rw [ablF, if_pos hc1]), rfl⟩
  · refine W0.ifYes (hb hby dAB_3) (XT.ll_ge_t hc1) (by decide) (pc' := 11) (by decide) ?_
    refine W0.lloadN (hb hby dAB_11) rfl (pc' := 12) rfl ?_
    exact W0.retJ hret (hb hby dAB_12) (by decide) (by decide) ⟨congrArg (fun z => some (Value.long z)) (by rw [ablF, if_neg hc1]), rfl⟩
def strF (x ln : Int32) : List Int32 := (if ln = (0 : Int32) then ([] : List Int32) else (if ln = (1 : Int32) then ([(i2c (x &&& (255 : Int32)))] : List Int32) else ([(i2c (x &&& (255 : Int32))), (i2c ((XT.ushr x (8 : Int32)) &&& (255 : Int32)))] : List Int32)))
theorem dSTR_0 : decode method_3_code 0 = .ok (.iload_n 0, 1) := by decide +kernel
theorem dSTR_1 : decode method_3_code 1 = .ok (.sipush 255, 3) := by decide +kernel
theorem dSTR_4 : decode method_3_code 4 = .ok (.iand, 1) := by decide +kernel
theorem dSTR_5 : decode method_3_code 5 = .ok (.i2c, 1) := by decide +kernel
theorem dSTR_6 : decode method_3_code 6 = .ok (.istore_n 2, 1) := by decide +kernel
theorem dSTR_7 : decode method_3_code 7 = .ok (.iload_n 0, 1) := by decide +kernel
theorem dSTR_8 : decode method_3_code 8 = .ok (.bipush 8, 2) := by decide +kernel
theorem dSTR_10 : decode method_3_code 10 = .ok (.iushr, 1) := by decide +kernel
theorem dSTR_11 : decode method_3_code 11 = .ok (.sipush 255, 3) := by decide +kernel
theorem dSTR_14 : decode method_3_code 14 = .ok (.iand, 1) := by decide +kernel
theorem dSTR_15 : decode method_3_code 15 = .ok (.i2c, 1) := by decide +kernel
theorem dSTR_16 : decode method_3_code 16 = .ok (.istore_n 3, 1) := by decide +kernel
theorem dSTR_17 : decode method_3_code 17 = .ok (.iload_n 1, 1) := by decide +kernel
theorem dSTR_18 : decode method_3_code 18 = .ok (.ifCond .ne 14, 3) := by decide +kernel
theorem dSTR_21 : decode method_3_code 21 = .ok (.new 44, 3) := by decide +kernel
theorem dSTR_24 : decode method_3_code 24 = .ok (.dup, 1) := by decide +kernel
theorem dSTR_25 : decode method_3_code 25 = .ok (.iconst 0, 1) := by decide +kernel
theorem dSTR_26 : decode method_3_code 26 = .ok (.newarray .char, 2) := by decide +kernel
theorem dSTR_28 : decode method_3_code 28 = .ok (.invokespecial 61, 3) := by decide +kernel
theorem pd_827e2587 : parseMethodDescriptor "([C)V" = some ⟨[(.array .char)], none⟩ := by decide +kernel
theorem dSTR_31 : decode method_3_code 31 = .ok (.areturn, 1) := by decide +kernel
theorem dSTR_32 : decode method_3_code 32 = .ok (.iload_n 1, 1) := by decide +kernel
theorem dSTR_33 : decode method_3_code 33 = .ok (.iconst 1, 1) := by decide +kernel
theorem dSTR_34 : decode method_3_code 34 = .ok (.if_icmp .ne 18, 3) := by decide +kernel
theorem dSTR_37 : decode method_3_code 37 = .ok (.new 44, 3) := by decide +kernel
theorem dSTR_40 : decode method_3_code 40 = .ok (.dup, 1) := by decide +kernel
theorem dSTR_41 : decode method_3_code 41 = .ok (.iconst 1, 1) := by decide +kernel
theorem dSTR_42 : decode method_3_code 42 = .ok (.newarray .char, 2) := by decide +kernel
theorem dSTR_44 : decode method_3_code 44 = .ok (.dup, 1) := by decide +kernel
theorem dSTR_45 : decode method_3_code 45 = .ok (.iconst 0, 1) := by decide +kernel
theorem dSTR_46 : decode method_3_code 46 = .ok (.iload_n 2, 1) := by decide +kernel
theorem dSTR_47 : decode method_3_code 47 = .ok (.castore, 1) := by decide +kernel
theorem dSTR_48 : decode method_3_code 48 = .ok (.invokespecial 61, 3) := by decide +kernel
theorem dSTR_51 : decode method_3_code 51 = .ok (.areturn, 1) := by decide +kernel
theorem dSTR_52 : decode method_3_code 52 = .ok (.new 44, 3) := by decide +kernel
theorem dSTR_55 : decode method_3_code 55 = .ok (.dup, 1) := by decide +kernel
theorem dSTR_56 : decode method_3_code 56 = .ok (.iconst 2, 1) := by decide +kernel
theorem dSTR_57 : decode method_3_code 57 = .ok (.newarray .char, 2) := by decide +kernel
theorem dSTR_59 : decode method_3_code 59 = .ok (.dup, 1) := by decide +kernel
theorem dSTR_60 : decode method_3_code 60 = .ok (.iconst 0, 1) := by decide +kernel
theorem dSTR_61 : decode method_3_code 61 = .ok (.iload_n 2, 1) := by decide +kernel
theorem dSTR_62 : decode method_3_code 62 = .ok (.castore, 1) := by decide +kernel
theorem dSTR_63 : decode method_3_code 63 = .ok (.dup, 1) := by decide +kernel
theorem dSTR_64 : decode method_3_code 64 = .ok (.iconst 1, 1) := by decide +kernel
theorem dSTR_65 : decode method_3_code 65 = .ok (.iload_n 3, 1) := by decide +kernel
theorem dSTR_66 : decode method_3_code 66 = .ok (.castore, 1) := by decide +kernel
theorem dSTR_67 : decode method_3_code 67 = .ok (.invokespecial 61, 3) := by decide +kernel
theorem dSTR_70 : decode method_3_code 70 = .ok (.areturn, 1) := by decide +kernel
theorem pn_STR : plainFor (⟨"com/example/frugal_ranker/frugalranker/TrecRunLinePinLaw", "str", "(II)Ljava/lang/String;"⟩ : MethodName) = true := by first | exact plainFor_of_name (by first | (simp [plainName, overriddenIn]; done) | decide +kernel) | decide +kernel
set_option maxRecDepth 65536 in
set_option maxHeartbeats 40000000 in
theorem rmSTR (l : Launch) (Z : State) (a0 : Array Value) (hw : ∀ d ∈ tables_1, d.before a0 Z = true) (hEL : EW Z a0 consts_1) (x ln : Int32) (zc : Int32) (h0 : Heap) (n0 : Nat) (Z0 : n0 ≤ h0.size)  (SC : Sta Z h0 "java/lang/String" "COMPACT_STRINGS" "Z" (.int zc)) (hz : ¬ zc = 0) :
    WM l (⟨"com/example/frugal_ranker/frugalranker/TrecRunLinePinLaw", "str", "(II)Ljava/lang/String;"⟩ : MethodName) method_3_code 4 (some (.object "java/lang/String")) [] ({ frames := 4, cells := 6, slots := 16, locals := 70 } : Room) Z consts_1 n0 #[(.int x), (.int ln)] h0 [] (fun v h => ∃ a, v = some (.ref a) ∧ StrA Z h a (strF x ln)) := by
  refine WM.walk (Ls := #[.val (.int x), .val (.int ln), .unset, .unset]) pn_STR Z0 (fun m => by first | (simp [entryFrame, mkF, argsToLocals, Value.category]; done) | rfl) ?_
  intro p e s m below meth c s₁ hby hml hret hnm W0
  have hws : ∀ d ∈ StrChars.Road.words, d.before a0 Z = true := fun d hd => hw d (hwords d hd)
  refine W0.1.iloadN (hb hby dSTR_0) rfl (pc' := 1) rfl ?_
  refine W0.1.sipush (255 : Int32) (hb hby dSTR_1) rfl (pc' := 4) rfl ?_
  refine W0.1.iand (hb hby dSTR_4) (pc' := 5) rfl ?_
  refine W0.1.i2c (hb hby dSTR_5) (pc' := 6) rfl ?_
  refine W0.1.istoreN (Ls' := #[.val (.int x), .val (.int ln), .val (.int (i2c (x &&& (255 : Int32)))), .unset]) (hb hby dSTR_6) rfl (pc' := 7) rfl ?_
  refine W0.1.iloadN (hb hby dSTR_7) rfl (pc' := 8) rfl ?_
  refine W0.1.bipush (8 : Int32) (hb hby dSTR_8) rfl (pc' := 10) rfl ?_
  refine W0.1.iushr (hb hby dSTR_10) (pc' := 11) rfl ?_
  refine W0.1.sipush (255 : Int32) (hb hby dSTR_11) rfl (pc' := 14) rfl ?_
  refine W0.1.iand (hb hby dSTR_14) (pc' := 15) rfl ?_
  refine W0.1.i2c (hb hby dSTR_15) (pc' := 16) rfl ?_
  refine W0.1.istoreN (Ls' := #[.val (.int x), .val (.int ln), .val (.int (i2c (x &&& (255 : Int32)))), .val (.int (i2c ((XT.ushr x (8 : Int32)) &&& (255 : Int32))))]) (hb hby dSTR_16) rfl (pc' := 17) rfl ?_
  refine W0.1.iloadN (hb hby dSTR_17) rfl (pc' := 18) rfl ?_
  by_cases hc1 : ln = (0 : Int32)
  · refine W0.1.ifNo (hb hby dSTR_18) (XT.i0_ne_f hc1) (pc' := 21) rfl ?_
    refine W0.1.newO (hw _ (List.mem_of_getElem? (i := 4) rfl)) (hw _ (List.mem_of_getElem? (i := 5) rfl)) (hw _ (List.mem_of_getElem? (i := 6) rfl)) (hb hby dSTR_21) (pc' := 24) rfl (by decide) (by decide) ?_
    intro T2 h2 a2 g2 ge2 gn2 N2 E2 A2 D2
    have z2 := E2.1
    have y2 := Nat.le_of_eq g2.symm
    have W2 := W0.upE N2 E2
    have D2_value := D2 (Or.inr (hw _ (List.mem_of_getElem? (i := 20) rfl))) (ty := (.array .byte)) (by decide)
    have D2_coder := D2 (Or.inr (hw _ (List.mem_of_getElem? (i := 21) rfl))) (ty := .byte) (by decide)
    refine W2.1.dup (hb hby dSTR_24) rfl (pc' := 25) rfl ?_
    refine W2.1.iconst (0 : Int32) (hb hby dSTR_25) rfl (pc' := 26) rfl ?_
    refine W2.1.newP (hw _ (List.mem_of_getElem? (i := 7) rfl)) (hb hby dSTR_26) (pc' := 28) rfl (by decide) (cap := 0) (by decide) (by decide) (by decide) (by decide) ?_
    intro T3 h3 a3 k3 g3 ge3 gn3 N3 E3 V3'
    have V3 : Arv Z h3 a3 k3 .char (0 : Int32) [] (.int (0 : Int32)) := V3'
    have z3 := E3.1
    have y3 := Nat.le_of_eq g3.symm
    have W3 := W2.upE N3 E3
    have F5 := Exa.ext E3 A2
    have F6 := Fld.ext E3 D2_value
    have F7 := Fld.ext E3 D2_coder
    refine W3.callI (y := (⟨"java/lang/String", "<init>", "([C)V"⟩ : MethodName)) rfl (hw _ (List.mem_of_getElem? (i := 8) rfl)) (hw _ (List.mem_of_getElem? (i := 9) rfl)) (hw _ (List.mem_of_getElem? (i := 10) rfl)) (by decide) (WM.bk (wd := 1) (rmE1 l Z a0 hw hEL a2 a3 k3 h3 n0 W3.1.n0h gn2 F5 F6 F7 V3) W3.1.2.2.2.1 (hw _ (List.mem_of_getElem? (i := 10) rfl)) (hw _ (List.mem_of_getElem? (i := 6) rfl)) (by decide) (by decide) hEL W3.2.2.1) (hb hby dSTR_28) (pc' := 31) rfl hml (a := a2) (argsL := [(.ref a3)]) rfl (lenOf pd_827e2587 rfl) rfl (Nat.le_of_ble_eq_true rfl) (by decide) (by decide) (ws' := [a2]) (fun _ _ _ q => ⟨q.2.2, q.2.1⟩) (allS (Or.inr ge2) all0) ?_
    intro v4 T4 h4 vm4 L4' L4 W4 Q4 K4 C4
    have z4 := K4.1
    obtain ⟨⟨rfl, S4⟩, -, -⟩ := Q4
    show Go p e below _ T4 (mkF m 31 #[.val (.int x), .val (.int ln), .val (.int (i2c (x &&& (255 : Int32)))), .val (.int (i2c ((XT.ushr x (8 : Int32)) &&& (255 : Int32))))] [(.ref a2)])
    exact W4.retA hEL hret rfl rfl (hb hby dSTR_31) (by decide) (by decide) ⟨a2, rfl, by rw [strF, if_pos hc1]; exact S4⟩
  · refine W0.1.ifYes (hb hby dSTR_18) (XT.i0_ne_t hc1) (by decide) (pc' := 32) (by decide) ?_
    refine W0.1.iloadN (hb hby dSTR_32) rfl (pc' := 33) rfl ?_
    refine W0.1.iconst (1 : Int32) (hb hby dSTR_33) rfl (pc' := 34) rfl ?_
    by_cases hc8 : ln = (1 : Int32)
    · refine W0.1.icmpNo (hb hby dSTR_34) (XT.ii_ne_f hc8) (pc' := 37) rfl ?_
      refine W0.1.newO (hw _ (List.mem_of_getElem? (i := 4) rfl)) (hw _ (List.mem_of_getElem? (i := 5) rfl)) (hw _ (List.mem_of_getElem? (i := 6) rfl)) (hb hby dSTR_37) (pc' := 40) rfl (by decide) (by decide) ?_
      intro T9 h9 a9 g9 ge9 gn9 N9 E9 A9 D9
      have z9 := E9.1
      have y9 := Nat.le_of_eq g9.symm
      have W9 := W0.upE N9 E9
      have D9_value := D9 (Or.inr (hw _ (List.mem_of_getElem? (i := 20) rfl))) (ty := (.array .byte)) (by decide)
      have D9_coder := D9 (Or.inr (hw _ (List.mem_of_getElem? (i := 21) rfl))) (ty := .byte) (by decide)
      refine W9.1.dup (hb hby dSTR_40) rfl (pc' := 41) rfl ?_
      refine W9.1.iconst (1 : Int32) (hb hby dSTR_41) rfl (pc' := 42) rfl ?_
      refine W9.1.newP (hw _ (List.mem_of_getElem? (i := 7) rfl)) (hb hby dSTR_42) (pc' := 44) rfl (by decide) (cap := 1) (by decide) (by decide) (by decide) (by decide) ?_
      intro T10 h10 a10 k10 g10 ge10 gn10 N10 E10 V10'
      have V10 : Arv Z h10 a10 k10 .char (1 : Int32) [(.int (0 : Int32))] (.int (0 : Int32)) := V10'
      have z10 := E10.1
      have y10 := Nat.le_of_eq g10.symm
      have W10 := W9.upE N10 E10
      refine W10.1.dup (hb hby dSTR_44) rfl (pc' := 45) rfl ?_
      refine W10.1.iconst (0 : Int32) (hb hby dSTR_45) rfl (pc' := 46) rfl ?_
      refine W10.1.iloadN (hb hby dSTR_46) rfl (pc' := 47) rfl ?_
      refine W10.1.stC V10 (hb hby dSTR_47) (pc' := 48) rfl (nar_i2c _) 0 rfl (Nat.le_of_ble_eq_true rfl) (by decide) (Or.inr ge10) gn10 ?_
      intro T11 h11 L11 N11 K11 V11'
      have V11 : Arv Z h11 a10 k10 .char (1 : Int32) [(.int (i2c (x &&& (255 : Int32))))] (.int (0 : Int32)) := V11'
      have z11 := K11.1
      have W11 := W10.up N11 K11 (sfS (Safe.arv (EL := consts_1) W10.1.2.2.2.1.alike V10 (by decide)) sf0)
      have X1_3_13 : Ext h9 h11 := Keep.toExt (((Keep.refl h9 []).ext E10).trans K11 (allS (Or.inr (by have := y10; omega)) all0))
      have zX1_3_13 := X1_3_13.1
      have F14 := Exa.ext X1_3_13 A9
      have F15 := Fld.ext X1_3_13 D9_value
      have F16 := Fld.ext X1_3_13 D9_coder
      have X0_3_17 : Ext h0 h11 := Keep.toExt ((((Keep.refl h0 []).ext E9).ext E10).trans K11 (allS (Or.inr (by have := y10; omega)) all0))
      have zX0_3_17 := X0_3_17.1
      have F18 := Sta.ext X0_3_17 SC
      refine W11.1.callI (y := (⟨"java/lang/String", "<init>", "([C)V"⟩ : MethodName)) rfl (hw _ (List.mem_of_getElem? (i := 8) rfl)) (hw _ (List.mem_of_getElem? (i := 9) rfl)) (hw _ (List.mem_of_getElem? (i := 10) rfl)) (by decide) (StrChars.Road.backV (W := 1) W11.1.2.2.2.1 hws (kI := 4) (hw _ (List.mem_of_getElem? (i := 5) rfl)) (cs := ([(i2c (x &&& (255 : Int32)))] : List Int32)) (bs := (([(i2c (x &&& (255 : Int32)))] : List Int32)).map (fun c => c.toInt8.toInt32)) (n := 1) gn9 W11.1.n0h F14 F15 F16 V11 F18 hz rfl rfl (by decide) (by decide) (memS (lat_and _) mem0) rfl (by decide) (by decide)) (hb hby dSTR_48) (pc' := 51) rfl hml (a := a9) (argsL := [(.ref a10)]) rfl (lenOf pd_827e2587 rfl) rfl (Nat.le_of_ble_eq_true rfl) (by decide) (by decide) (ws' := [a9]) (fun _ _ _ q => ⟨q.2.1, q.2.2.1⟩) (allS (Or.inr ge9) all0) ?_
      intro v12 T12 h12 L12' L12 N12 Q12 K12
      have W12 := W11.up N12 K12 (sfS (safe_null (EL := consts_1) W11.1.2.2.2.1.alike F14 F15) sf0)
      have z12 := K12.1
      obtain ⟨rfl, -, -, A12, B12, t12, kb12, tn12, tg12, te12, C12', V12⟩ := Q12
      have S12 : StrA Z h12 a9 ([(i2c (x &&& (255 : Int32)))] : List Int32) := StrA.make A12 B12 C12' V12 rfl (Nat.le_of_ble_eq_true rfl) (memS (lat_and _) mem0)
      show Go p e below _ T12 (mkF m 51 #[.val (.int x), .val (.int ln), .val (.int (i2c (x &&& (255 : Int32)))), .val (.int (i2c ((XT.ushr x (8 : Int32)) &&& (255 : Int32))))] [(.ref a9)])
      exact W12.retA hEL hret rfl rfl (hb hby dSTR_51) (by decide) (by decide) ⟨a9, rfl, by rw [strF, if_neg hc1, if_pos hc8]; exact S12⟩
    · refine W0.1.icmpYes (hb hby dSTR_34) (XT.ii_ne_t hc8) (by decide) (pc' := 52) (by decide) ?_
      refine W0.1.newO (hw _ (List.mem_of_getElem? (i := 4) rfl)) (hw _ (List.mem_of_getElem? (i := 5) rfl)) (hw _ (List.mem_of_getElem? (i := 6) rfl)) (hb hby dSTR_52) (pc' := 55) rfl (by decide) (by decide) ?_
      intro T19 h19 a19 g19 ge19 gn19 N19 E19 A19 D19
      have z19 := E19.1
      have y19 := Nat.le_of_eq g19.symm
      have W19 := W0.upE N19 E19
      have D19_value := D19 (Or.inr (hw _ (List.mem_of_getElem? (i := 20) rfl))) (ty := (.array .byte)) (by decide)
      have D19_coder := D19 (Or.inr (hw _ (List.mem_of_getElem? (i := 21) rfl))) (ty := .byte) (by decide)
      refine W19.1.dup (hb hby dSTR_55) rfl (pc' := 56) rfl ?_
      refine W19.1.iconst (2 : Int32) (hb hby dSTR_56) rfl (pc' := 57) rfl ?_
      refine W19.1.newP (hw _ (List.mem_of_getElem? (i := 7) rfl)) (hb hby dSTR_57) (pc' := 59) rfl (by decide) (cap := 2) (by decide) (by decide) (by decide) (by decide) ?_
      intro T20 h20 a20 k20 g20 ge20 gn20 N20 E20 V20'
      have V20 : Arv Z h20 a20 k20 .char (2 : Int32) [(.int (0 : Int32)), (.int (0 : Int32))] (.int (0 : Int32)) := V20'
      have z20 := E20.1
      have y20 := Nat.le_of_eq g20.symm
      have W20 := W19.upE N20 E20
      refine W20.1.dup (hb hby dSTR_59) rfl (pc' := 60) rfl ?_
      refine W20.1.iconst (0 : Int32) (hb hby dSTR_60) rfl (pc' := 61) rfl ?_
      refine W20.1.iloadN (hb hby dSTR_61) rfl (pc' := 62) rfl ?_
      refine W20.1.stC V20 (hb hby dSTR_62) (pc' := 63) rfl (nar_i2c _) 0 rfl (Nat.le_of_ble_eq_true rfl) (by decide) (Or.inr ge20) gn20 ?_
      intro T21 h21 L21 N21 K21 V21'
      have V21 : Arv Z h21 a20 k20 .char (2 : Int32) [(.int (i2c (x &&& (255 : Int32)))), (.int (0 : Int32))] (.int (0 : Int32)) := V21'
      have z21 := K21.1
      have W21 := W20.up N21 K21 (sfS (Safe.arv (EL := consts_1) W20.1.2.2.2.1.alike V20 (by decide)) sf0)
      refine W21.1.dup (hb hby dSTR_63) rfl (pc' := 64) rfl ?_
      refine W21.1.iconst (1 : Int32) (hb hby dSTR_64) rfl (pc' := 65) rfl ?_
      refine W21.1.iloadN (hb hby dSTR_65) rfl (pc' := 66) rfl ?_
      refine W21.1.stC V21 (hb hby dSTR_66) (pc' := 67) rfl (nar_i2c _) 1 rfl (Nat.le_of_ble_eq_true rfl) (by decide) (Or.inr ge20) gn20 ?_
      intro T22 h22 L22 N22 K22 V22'
      have V22 : Arv Z h22 a20 k20 .char (2 : Int32) [(.int (i2c (x &&& (255 : Int32)))), (.int (i2c ((XT.ushr x (8 : Int32)) &&& (255 : Int32))))] (.int (0 : Int32)) := V22'
      have z22 := K22.1
      have W22 := W21.up N22 K22 (sfS (Safe.arv (EL := consts_1) W21.1.2.2.2.1.alike V21 (by decide)) sf0)
      have X1_4_24 : Ext h19 h22 := Keep.toExt ((((Keep.refl h19 []).ext E20).trans K21 (allS (Or.inr (by have := y20; omega)) all0)).trans K22 (allS (Or.inr (by have := y20; omega)) all0))
      have zX1_4_24 := X1_4_24.1
      have F25 := Exa.ext X1_4_24 A19
      have F26 := Fld.ext X1_4_24 D19_value
      have F27 := Fld.ext X1_4_24 D19_coder
      have X0_4_28 : Ext h0 h22 := Keep.toExt (((((Keep.refl h0 []).ext E19).ext E20).trans K21 (allS (Or.inr (by have := y20; omega)) all0)).trans K22 (allS (Or.inr (by have := y20; omega)) all0))
      have zX0_4_28 := X0_4_28.1
      have F29 := Sta.ext X0_4_28 SC
      refine W22.1.callI (y := (⟨"java/lang/String", "<init>", "([C)V"⟩ : MethodName)) rfl (hw _ (List.mem_of_getElem? (i := 8) rfl)) (hw _ (List.mem_of_getElem? (i := 9) rfl)) (hw _ (List.mem_of_getElem? (i := 10) rfl)) (by decide) (StrChars.Road.backV (W := 1) W22.1.2.2.2.1 hws (kI := 4) (hw _ (List.mem_of_getElem? (i := 5) rfl)) (cs := ([(i2c (x &&& (255 : Int32))), (i2c ((XT.ushr x (8 : Int32)) &&& (255 : Int32)))] : List Int32)) (bs := (([(i2c (x &&& (255 : Int32))), (i2c ((XT.ushr x (8 : Int32)) &&& (255 : Int32)))] : List Int32)).map (fun c => c.toInt8.toInt32)) (n := 2) gn19 W22.1.n0h F25 F26 F27 V22 F29 hz rfl rfl (by decide) (by decide) (memS (lat_and _) (memS (lat_and _) mem0)) rfl (by decide) (by decide)) (hb hby dSTR_67) (pc' := 70) rfl hml (a := a19) (argsL := [(.ref a20)]) rfl (lenOf pd_827e2587 rfl) rfl (Nat.le_of_ble_eq_true rfl) (by decide) (by decide) (ws' := [a19]) (fun _ _ _ q => ⟨q.2.1, q.2.2.1⟩) (allS (Or.inr ge19) all0) ?_
      intro v23 T23 h23 L23' L23 N23 Q23 K23
      have W23 := W22.up N23 K23 (sfS (safe_null (EL := consts_1) W22.1.2.2.2.1.alike F25 F26) sf0)
      have z23 := K23.1
      obtain ⟨rfl, -, -, A23, B23, t23, kb23, tn23, tg23, te23, C23', V23⟩ := Q23
      have S23 : StrA Z h23 a19 ([(i2c (x &&& (255 : Int32))), (i2c ((XT.ushr x (8 : Int32)) &&& (255 : Int32)))] : List Int32) := StrA.make A23 B23 C23' V23 rfl (Nat.le_of_ble_eq_true rfl) (memS (lat_and _) (memS (lat_and _) mem0))
      show Go p e below _ T23 (mkF m 70 #[.val (.int x), .val (.int ln), .val (.int (i2c (x &&& (255 : Int32)))), .val (.int (i2c ((XT.ushr x (8 : Int32)) &&& (255 : Int32))))] [(.ref a19)])
      exact W23.retA hEL hret rfl rfl (hb hby dSTR_70) (by decide) (by decide) ⟨a19, rfl, by rw [strF, if_neg hc1, if_neg hc8]; exact S23⟩
theorem strF_0 (x : Int32) : strF x (Int32.ofNat 0) = [] := by exact if_pos rfl
theorem strF_1 (x : Int32) : strF x (Int32.ofNat 1) = [i2c (x &&& 255)] := by rw [strF, if_neg (by decide)]; exact if_pos rfl
theorem strF_2 (x : Int32) : strF x (Int32.ofNat 2) = [i2c (x &&& 255), i2c (XT.ushr x 8 &&& 255)] := by rw [strF, if_neg (by decide), if_neg (by decide)]
theorem strF_all (x : Int32) {n : Nat} (h : n < 3) : (strF x (Int32.ofNat n)).length = n ∧ (∀ c ∈ strF x (Int32.ofNat n), ¬ (255 : Int32) < c) ∧ (0 < n → (strF x (Int32.ofNat n)).getD 0 0 = i2c (x &&& 255)) ∧ (1 < n → (strF x (Int32.ofNat n)).getD 1 0 = i2c (XT.ushr x 8 &&& 255)) := by
  match n, h with
  | 0, _ => rw [strF_0]; exact ⟨rfl, (fun _ q => nomatch q), (fun q => nomatch q), (fun q => nomatch q)⟩
  | 1, _ => rw [strF_1]; exact ⟨rfl, (fun c q => by rw [List.mem_singleton.mp q]; exact (lat_and _).2), (fun _ => rfl), (fun q => absurd q (by omega))⟩
  | 2, _ =>
    rw [strF_2]
    refine ⟨rfl, (fun c q => ?_), (fun _ => rfl), (fun _ => rfl)⟩
    simp only [List.mem_cons, List.not_mem_nil, or_false] at q
    rcases q with rfl | rfl <;> exact (lat_and _).2
theorem dSM_0 : decode method_4_code 0 = .ok (.iload_n 2, 1) := by decide +kernel
theorem dSM_1 : decode method_4_code 1 = .ok (.sipush 255, 3) := by decide +kernel
theorem dSM_4 : decode method_4_code 4 = .ok (.iand, 1) := by decide +kernel
theorem dSM_5 : decode method_4_code 5 = .ok (.i2c, 1) := by decide +kernel
theorem dSM_6 : decode method_4_code 6 = .ok (.istore 4, 2) := by decide +kernel
theorem dSM_8 : decode method_4_code 8 = .ok (.iload_n 2, 1) := by decide +kernel
theorem dSM_9 : decode method_4_code 9 = .ok (.bipush 8, 2) := by decide +kernel
theorem dSM_11 : decode method_4_code 11 = .ok (.iushr, 1) := by decide +kernel
theorem dSM_12 : decode method_4_code 12 = .ok (.sipush 255, 3) := by decide +kernel
theorem dSM_15 : decode method_4_code 15 = .ok (.iand, 1) := by decide +kernel
theorem dSM_16 : decode method_4_code 16 = .ok (.i2c, 1) := by decide +kernel
theorem dSM_17 : decode method_4_code 17 = .ok (.istore 5, 2) := by decide +kernel
theorem dSM_19 : decode method_4_code 19 = .ok (.iload_n 3, 1) := by decide +kernel
theorem dSM_20 : decode method_4_code 20 = .ok (.iconst 1, 1) := by decide +kernel
theorem dSM_21 : decode method_4_code 21 = .ok (.if_icmp .lt 13, 3) := by decide +kernel
theorem dSM_24 : decode method_4_code 24 = .ok (.aload_n 0, 1) := by decide +kernel
theorem dSM_25 : decode method_4_code 25 = .ok (.iload_n 1, 1) := by decide +kernel
theorem dSM_26 : decode method_4_code 26 = .ok (.invokevirtual 53, 3) := by decide +kernel
theorem pd_32dd484b : parseMethodDescriptor "(I)C" = some ⟨[.int], some .char⟩ := by decide +kernel
theorem dSM_29 : decode method_4_code 29 = .ok (.iload 4, 2) := by decide +kernel
theorem dSM_31 : decode method_4_code 31 = .ok (.if_icmp .ne 24, 3) := by decide +kernel
theorem dSM_34 : decode method_4_code 34 = .ok (.iload_n 3, 1) := by decide +kernel
theorem dSM_35 : decode method_4_code 35 = .ok (.iconst 2, 1) := by decide +kernel
theorem dSM_36 : decode method_4_code 36 = .ok (.if_icmp .lt 15, 3) := by decide +kernel
theorem dSM_39 : decode method_4_code 39 = .ok (.aload_n 0, 1) := by decide +kernel
theorem dSM_40 : decode method_4_code 40 = .ok (.iload_n 1, 1) := by decide +kernel
theorem dSM_41 : decode method_4_code 41 = .ok (.iconst 1, 1) := by decide +kernel
theorem dSM_42 : decode method_4_code 42 = .ok (.iadd, 1) := by decide +kernel
theorem dSM_43 : decode method_4_code 43 = .ok (.invokevirtual 53, 3) := by decide +kernel
theorem dSM_46 : decode method_4_code 46 = .ok (.iload 5, 2) := by decide +kernel
theorem dSM_48 : decode method_4_code 48 = .ok (.if_icmp .ne 7, 3) := by decide +kernel
theorem dSM_51 : decode method_4_code 51 = .ok (.iconst 1, 1) := by decide +kernel
theorem dSM_52 : decode method_4_code 52 = .ok (.goto 4, 3) := by decide +kernel
theorem dSM_56 : decode method_4_code 56 = .ok (.ireturn, 1) := by decide +kernel
theorem pn_SM : plainFor (⟨"com/example/frugal_ranker/frugalranker/TrecRunLinePinLaw", "same", "(Ljava/lang/String;III)Z"⟩ : MethodName) = true := by first | exact plainFor_of_name (by first | (simp [plainName, overriddenIn]; done) | decide +kernel) | decide +kernel
set_option maxRecDepth 65536 in
set_option maxHeartbeats 40000000 in
theorem rmSM (l : Launch) (Z : State) (a0 : Array Value) (hw : ∀ d ∈ tables_1, d.before a0 Z = true) (a : Addr) (rs : List Int32) (P L : Nat) (x zc : Int32) (fm : Value) (h0 : Heap) (n0 : Nat) (Z0 : n0 ≤ h0.size) (TS : StrA Z h0 a rs) (HM : ∀ c ∈ rs, ¬ (255 : Int32) < c) (hL3 : L < 3) (hL : P + L ≤ rs.length) (hL2 : rs.length ≤ 4000) (hb0 : 0 < L → rs.getD P 0 = (i2c (x &&& (255 : Int32)))) (hb1 : 1 < L → rs.getD (P + 1) 0 = (i2c ((XT.ushr x (8 : Int32)) &&& (255 : Int32)))) (SC : Sta Z h0 "java/lang/String" "COMPACT_STRINGS" "Z" (.int zc)) (hz : ¬ zc = 0) (SF : Sta Z h0 "jdk/internal/util/Preconditions" "SIOOBE_FORMATTER" "Ljava/util/function/BiFunction;" fm) (rfm : fm.isRef = true) :
    NM l (⟨"com/example/frugal_ranker/frugalranker/TrecRunLinePinLaw", "same", "(Ljava/lang/String;III)Z"⟩ : MethodName) method_4_code 6 (some .boolean) [] ({ frames := 4, cells := 0, slots := 0, locals := 60 } : Room) Z n0 #[(.ref a), (.int (Int32.ofNat P)), (.int x), (.int (Int32.ofNat L))] h0 [] (Pu (some (.int (1 : Int32))) h0) := by
  refine NM.walk (Ls := #[.val (.ref a), .val (.int (Int32.ofNat P)), .val (.int x), .val (.int (Int32.ofNat L)), .unset, .unset]) pn_SM Z0 (fun m => by first | (simp [entryFrame, mkF, argsToLocals, Value.category]; done) | rfl) ?_
  intro p e s m below meth c s₁ hby hml hret hnm W0
  refine W0.iloadN (hb hby dSM_0) rfl (pc' := 1) rfl ?_
  refine W0.sipush (255 : Int32) (hb hby dSM_1) rfl (pc' := 4) rfl ?_
  refine W0.iand (hb hby dSM_4) (pc' := 5) rfl ?_
  refine W0.i2c (hb hby dSM_5) (pc' := 6) rfl ?_
  refine W0.istore (Ls' := #[.val (.ref a), .val (.int (Int32.ofNat P)), .val (.int x), .val (.int (Int32.ofNat L)), .val (.int (i2c (x &&& (255 : Int32)))), .unset]) (hb hby dSM_6) rfl (pc' := 8) rfl ?_
  refine W0.iloadN (hb hby dSM_8) rfl (pc' := 9) rfl ?_
  refine W0.bipush (8 : Int32) (hb hby dSM_9) rfl (pc' := 11) rfl ?_
  refine W0.iushr (hb hby dSM_11) (pc' := 12) rfl ?_
  refine W0.sipush (255 : Int32) (hb hby dSM_12) rfl (pc' := 15) rfl ?_
  refine W0.iand (hb hby dSM_15) (pc' := 16) rfl ?_
  refine W0.i2c (hb hby dSM_16) (pc' := 17) rfl ?_
  refine W0.istore (Ls' := #[.val (.ref a), .val (.int (Int32.ofNat P)), .val (.int x), .val (.int (Int32.ofNat L)), .val (.int (i2c (x &&& (255 : Int32)))), .val (.int (i2c ((XT.ushr x (8 : Int32)) &&& (255 : Int32))))]) (hb hby dSM_17) rfl (pc' := 19) rfl ?_
  refine W0.iloadN (hb hby dSM_19) rfl (pc' := 20) rfl ?_
  refine W0.iconst (1 : Int32) (hb hby dSM_20) rfl (pc' := 21) rfl ?_
  by_cases hl1 : 0 < L
  · refine W0.icmpNo (hb hby dSM_21) (XT.ii_lt_f (fun q => absurd ((ofNat_lt (k := 1) (by omega) (by omega)).mp q) (by omega))) (pc' := 24) rfl ?_
    refine W0.aloadN (hb hby dSM_24) rfl rfl (pc' := 25) rfl ?_
    refine W0.iloadN (hb hby dSM_25) rfl (pc' := 26) rfl ?_
    refine W0.callVP (y := (⟨"java/lang/String", "charAt", "(I)C"⟩ : MethodName)) (z := (⟨"java/lang/String", "charAt", "(I)C"⟩ : MethodName)) (hw _ (List.mem_of_getElem? (i := 177) rfl)) (hw _ (List.mem_of_getElem? (i := 178) rfl)) (hw _ (List.mem_of_getElem? (i := 180) rfl)) (hw _ (List.mem_of_getElem? (i := 180) rfl)) (hw _ (List.mem_of_getElem? (i := 179) rfl)) (by decide) (StrA.chr (wd := 0) TS HM W0.2.2.2.1 hw (hw _ (List.mem_of_getElem? (i := 5) rfl)) SC hz SF rfm (by decide) (by decide) (i := P) (j := (Int32.ofNat P)) (by omega) rfl) TS.1 (hb hby dSM_26) (pc' := 29) rfl hml (argsL := [(.int (Int32.ofNat P))]) rfl (lenOf pd_32dd484b rfl) rfl (Nat.le_of_ble_eq_true rfl) (by decide) (by decide) (fun _ _ _ q => pu_nil q) ?_
    intro T1 L1 W1
    show Go p e below _ T1 (mkF m 29 #[.val (.ref a), .val (.int (Int32.ofNat P)), .val (.int x), .val (.int (Int32.ofNat L)), .val (.int (i2c (x &&& (255 : Int32)))), .val (.int (i2c ((XT.ushr x (8 : Int32)) &&& (255 : Int32))))] [(.int (rs.getD P 0))])
    refine W1.iload (hb hby dSM_29) rfl (pc' := 31) rfl ?_
    refine W1.icmpNo (hb hby dSM_31) (XT.ii_ne_f (hb0 hl1)) (pc' := 34) rfl ?_
    refine W1.iloadN (hb hby dSM_34) rfl (pc' := 35) rfl ?_
    refine W1.iconst (2 : Int32) (hb hby dSM_35) rfl (pc' := 36) rfl ?_
    by_cases hl2 : 1 < L
    · refine W1.icmpNo (hb hby dSM_36) (XT.ii_lt_f (fun q => absurd ((ofNat_lt (k := 2) (by omega) (by omega)).mp q) (by omega))) (pc' := 39) rfl ?_
      refine W1.aloadN (hb hby dSM_39) rfl rfl (pc' := 40) rfl ?_
      refine W1.iloadN (hb hby dSM_40) rfl (pc' := 41) rfl ?_
      refine W1.iconst (1 : Int32) (hb hby dSM_41) rfl (pc' := 42) rfl ?_
      refine W1.iadd (hb hby dSM_42) (pc' := 43) rfl ?_
      rw [show (Int32.ofNat P) + (1 : Int32) = Int32.ofNat (P + 1) from ofNat_add (P) (1)]
      refine W1.callVP (y := (⟨"java/lang/String", "charAt", "(I)C"⟩ : MethodName)) (z := (⟨"java/lang/String", "charAt", "(I)C"⟩ : MethodName)) (hw _ (List.mem_of_getElem? (i := 177) rfl)) (hw _ (List.mem_of_getElem? (i := 178) rfl)) (hw _ (List.mem_of_getElem? (i := 180) rfl)) (hw _ (List.mem_of_getElem? (i := 180) rfl)) (hw _ (List.mem_of_getElem? (i := 179) rfl)) (by decide) (StrA.chr (wd := 0) TS HM W1.2.2.2.1 hw (hw _ (List.mem_of_getElem? (i := 5) rfl)) SC hz SF rfm (by decide) (by decide) (i := (P + 1)) (j := (Int32.ofNat (P + 1))) (by omega) rfl) TS.1 (hb hby dSM_43) (pc' := 46) rfl hml (argsL := [(.int (Int32.ofNat (P + 1)))]) rfl (lenOf pd_32dd484b rfl) rfl (Nat.le_of_ble_eq_true rfl) (by decide) (by decide) (fun _ _ _ q => pu_nil q) ?_
      intro T2 L2 W2
      show Go p e below _ T2 (mkF m 46 #[.val (.ref a), .val (.int (Int32.ofNat P)), .val (.int x), .val (.int (Int32.ofNat L)), .val (.int (i2c (x &&& (255 : Int32)))), .val (.int (i2c ((XT.ushr x (8 : Int32)) &&& (255 : Int32))))] [(.int (rs.getD (P + 1) 0))])
      refine W2.iload (hb hby dSM_46) rfl (pc' := 48) rfl ?_
      refine W2.icmpNo (hb hby dSM_48) (XT.ii_ne_f (hb1 hl2)) (pc' := 51) rfl ?_
      refine W2.iconst (1 : Int32) (hb hby dSM_51) rfl (pc' := 52) rfl ?_
      refine W2.goto (hb hby dSM_52) (by decide) (pc' := 56) (by decide) ?_
      exact W2.retZ hret (hb hby dSM_56) (by decide) (by decide) (by decide) ⟨rfl, rfl⟩
    · refine W1.icmpYes (hb hby dSM_36) (XT.ii_lt_t ((ofNat_lt (k := 2) (by omega) (by omega)).mpr (by omega))) (by decide) (pc' := 51) (by decide) ?_
      refine W1.iconst (1 : Int32) (hb hby dSM_51) rfl (pc' := 52) rfl ?_
      refine W1.goto (hb hby dSM_52) (by decide) (pc' := 56) (by decide) ?_
      exact W1.retZ hret (hb hby dSM_56) (by decide) (by decide) (by decide) ⟨rfl, rfl⟩
  · refine W0.icmpYes (hb hby dSM_21) (XT.ii_lt_t ((ofNat_lt (k := 1) (by omega) (by omega)).mpr (by omega))) (by decide) (pc' := 34) (by decide) ?_
    refine W0.iloadN (hb hby dSM_34) rfl (pc' := 35) rfl ?_
    refine W0.iconst (2 : Int32) (hb hby dSM_35) rfl (pc' := 36) rfl ?_
    by_cases hl2 : 1 < L
    · refine W0.icmpNo (hb hby dSM_36) (XT.ii_lt_f (fun q => absurd ((ofNat_lt (k := 2) (by omega) (by omega)).mp q) (by omega))) (pc' := 39) rfl ?_
      refine W0.aloadN (hb hby dSM_39) rfl rfl (pc' := 40) rfl ?_
      refine W0.iloadN (hb hby dSM_40) rfl (pc' := 41) rfl ?_
      refine W0.iconst (1 : Int32) (hb hby dSM_41) rfl (pc' := 42) rfl ?_
      refine W0.iadd (hb hby dSM_42) (pc' := 43) rfl ?_
      rw [show (Int32.ofNat P) + (1 : Int32) = Int32.ofNat (P + 1) from ofNat_add (P) (1)]
      refine W0.callVP (y := (⟨"java/lang/String", "charAt", "(I)C"⟩ : MethodName)) (z := (⟨"java/lang/String", "charAt", "(I)C"⟩ : MethodName)) (hw _ (List.mem_of_getElem? (i := 177) rfl)) (hw _ (List.mem_of_getElem? (i := 178) rfl)) (hw _ (List.mem_of_getElem? (i := 180) rfl)) (hw _ (List.mem_of_getElem? (i := 180) rfl)) (hw _ (List.mem_of_getElem? (i := 179) rfl)) (by decide) (StrA.chr (wd := 0) TS HM W0.2.2.2.1 hw (hw _ (List.mem_of_getElem? (i := 5) rfl)) SC hz SF rfm (by decide) (by decide) (i := (P + 1)) (j := (Int32.ofNat (P + 1))) (by omega) rfl) TS.1 (hb hby dSM_43) (pc' := 46) rfl hml (argsL := [(.int (Int32.ofNat (P + 1)))]) rfl (lenOf pd_32dd484b rfl) rfl (Nat.le_of_ble_eq_true rfl) (by decide) (by decide) (fun _ _ _ q => pu_nil q) ?_
      intro T3 L3 W3
      show Go p e below _ T3 (mkF m 46 #[.val (.ref a), .val (.int (Int32.ofNat P)), .val (.int x), .val (.int (Int32.ofNat L)), .val (.int (i2c (x &&& (255 : Int32)))), .val (.int (i2c ((XT.ushr x (8 : Int32)) &&& (255 : Int32))))] [(.int (rs.getD (P + 1) 0))])
      refine W3.iload (hb hby dSM_46) rfl (pc' := 48) rfl ?_
      refine W3.icmpNo (hb hby dSM_48) (XT.ii_ne_f (hb1 hl2)) (pc' := 51) rfl ?_
      refine W3.iconst (1 : Int32) (hb hby dSM_51) rfl (pc' := 52) rfl ?_
      refine W3.goto (hb hby dSM_52) (by decide) (pc' := 56) (by decide) ?_
      exact W3.retZ hret (hb hby dSM_56) (by decide) (by decide) (by decide) ⟨rfl, rfl⟩
    · refine W0.icmpYes (hb hby dSM_36) (XT.ii_lt_t ((ofNat_lt (k := 2) (by omega) (by omega)).mpr (by omega))) (by decide) (pc' := 51) (by decide) ?_
      refine W0.iconst (1 : Int32) (hb hby dSM_51) rfl (pc' := 52) rfl ?_
      refine W0.goto (hb hby dSM_52) (by decide) (pc' := 56) (by decide) ?_
      exact W0.retZ hret (hb hby dSM_56) (by decide) (by decide) (by decide) ⟨rfl, rfl⟩
theorem dDK_0 : decode method_5_code 0 = .ok (.iload 5, 2) := by decide +kernel
theorem dDK_2 : decode method_5_code 2 = .ok (.iload 4, 2) := by decide +kernel
theorem dDK_4 : decode method_5_code 4 = .ok (.if_icmp .ge 29, 3) := by decide +kernel
theorem dDK_7 : decode method_5_code 7 = .ok (.aload_n 0, 1) := by decide +kernel
theorem dDK_8 : decode method_5_code 8 = .ok (.iload_n 1, 1) := by decide +kernel
theorem dDK_9 : decode method_5_code 9 = .ok (.iconst 1, 1) := by decide +kernel
theorem dDK_10 : decode method_5_code 10 = .ok (.isub, 1) := by decide +kernel
theorem dDK_11 : decode method_5_code 11 = .ok (.iload 5, 2) := by decide +kernel
theorem dDK_13 : decode method_5_code 13 = .ok (.isub, 1) := by decide +kernel
theorem dDK_14 : decode method_5_code 14 = .ok (.invokevirtual 53, 3) := by decide +kernel
theorem dDK_17 : decode method_5_code 17 = .ok (.bipush 48, 2) := by decide +kernel
theorem dDK_19 : decode method_5_code 19 = .ok (.lload_n 2, 1) := by decide +kernel
theorem dDK_20 : decode method_5_code 20 = .ok (.lload 6, 2) := by decide +kernel
theorem dDK_22 : decode method_5_code 22 = .ok (.ldiv, 1) := by decide +kernel
theorem dDK_23 : decode method_5_code 23 = .ok (.ldc2_w 25, 3) := by decide +kernel
theorem dDK_26 : decode method_5_code 26 = .ok (.lrem, 1) := by decide +kernel
theorem dDK_27 : decode method_5_code 27 = .ok (.l2i, 1) := by decide +kernel
theorem dDK_28 : decode method_5_code 28 = .ok (.iadd, 1) := by decide +kernel
theorem dDK_29 : decode method_5_code 29 = .ok (.i2c, 1) := by decide +kernel
theorem dDK_30 : decode method_5_code 30 = .ok (.if_icmp .ne 7, 3) := by decide +kernel
theorem dDK_33 : decode method_5_code 33 = .ok (.iconst 1, 1) := by decide +kernel
theorem dDK_34 : decode method_5_code 34 = .ok (.goto 4, 3) := by decide +kernel
theorem dDK_38 : decode method_5_code 38 = .ok (.ireturn, 1) := by decide +kernel
theorem pn_DK : plainFor (⟨"com/example/frugal_ranker/frugalranker/TrecRunLinePinLaw", "digit", "(Ljava/lang/String;IJIIJ)Z"⟩ : MethodName) = true := by first | exact plainFor_of_name (by first | (simp [plainName, overriddenIn]; done) | decide +kernel) | decide +kernel
set_option maxRecDepth 65536 in
set_option maxHeartbeats 40000000 in
theorem rmDK (l : Launch) (Z : State) (a0 : Array Value) (hw : ∀ d ∈ tables_1, d.before a0 Z = true) (a : Addr) (rs : List Int32) (E D K n : Nat) (zc : Int32) (fm : Value) (h0 : Heap) (n0 : Nat) (Z0 : n0 ≤ h0.size) (TS : StrA Z h0 a rs) (HM : ∀ c ∈ rs, ¬ (255 : Int32) < c) (hn : n ≤ 2 ^ 31) (hD2 : D ≤ 10) (hK : K < 10) (hDE : D ≤ E) (hL : E ≤ rs.length) (hL2 : rs.length ≤ 4000) (hd : K < D → rs.getD (E - 1 - K) 0 = Int32.ofNat (48 + (n / 10 ^ K) % 10)) (SC : Sta Z h0 "java/lang/String" "COMPACT_STRINGS" "Z" (.int zc)) (hz : ¬ zc = 0) (SF : Sta Z h0 "jdk/internal/util/Preconditions" "SIOOBE_FORMATTER" "Ljava/util/function/BiFunction;" fm) (rfm : fm.isRef = true) :
    NM l (⟨"com/example/frugal_ranker/frugalranker/TrecRunLinePinLaw", "digit", "(Ljava/lang/String;IJIIJ)Z"⟩ : MethodName) method_5_code 8 (some .boolean) [] ({ frames := 4, cells := 0, slots := 0, locals := 60 } : Room) Z n0 #[(.ref a), (.int (Int32.ofNat E)), (.long (Int64.ofNat n)), (.int (Int32.ofNat D)), (.int (Int32.ofNat K)), (.long (Int64.ofNat (10 ^ K)))] h0 [] (Pu (some (.int (1 : Int32))) h0) := by
  refine NM.walk (Ls := #[.val (.ref a), .val (.int (Int32.ofNat E)), .val (.long (Int64.ofNat n)), .second, .val (.int (Int32.ofNat D)), .val (.int (Int32.ofNat K)), .val (.long (Int64.ofNat (10 ^ K))), .second]) pn_DK Z0 (fun m => by first | (simp [entryFrame, mkF, argsToLocals, Value.category]; done) | rfl) ?_
  intro p e s m below meth c s₁ hby hml hret hnm W0
  have hpl := pow_le10 (e := K) (by omega)
  have hpp := pow_pos10 K
  have hdl : (n / 10 ^ K) ≤ n := Nat.div_le_self _ _
  refine W0.iload (hb hby dDK_0) rfl (pc' := 2) rfl ?_
  refine W0.iload (hb hby dDK_2) rfl (pc' := 4) rfl ?_
  by_cases hkd : K < D
  · refine W0.icmpNo (hb hby dDK_4) (XT.ii_ge_f ((ofNat_lt (by omega) (by omega)).mpr hkd)) (pc' := 7) rfl ?_
    refine W0.aloadN (hb hby dDK_7) rfl rfl (pc' := 8) rfl ?_
    refine W0.iloadN (hb hby dDK_8) rfl (pc' := 9) rfl ?_
    refine W0.iconst (1 : Int32) (hb hby dDK_9) rfl (pc' := 10) rfl ?_
    refine W0.isub (hb hby dDK_10) (pc' := 11) rfl ?_
    rw [show (Int32.ofNat E) - (1 : Int32) = Int32.ofNat (E - 1) from ofNat_sub (n := E) (k := 1) (by omega)]
    refine W0.iload (hb hby dDK_11) rfl (pc' := 13) rfl ?_
    refine W0.isub (hb hby dDK_13) (pc' := 14) rfl ?_
    rw [show (Int32.ofNat (E - 1)) - (Int32.ofNat K) = Int32.ofNat ((E - 1) - K) from ofNat_sub (n := (E - 1)) (k := K) (by omega)]
    refine W0.callVP (y := (⟨"java/lang/String", "charAt", "(I)C"⟩ : MethodName)) (z := (⟨"java/lang/String", "charAt", "(I)C"⟩ : MethodName)) (hw _ (List.mem_of_getElem? (i := 177) rfl)) (hw _ (List.mem_of_getElem? (i := 178) rfl)) (hw _ (List.mem_of_getElem? (i := 180) rfl)) (hw _ (List.mem_of_getElem? (i := 180) rfl)) (hw _ (List.mem_of_getElem? (i := 179) rfl)) (by decide) (StrA.chr (wd := 0) TS HM W0.2.2.2.1 hw (hw _ (List.mem_of_getElem? (i := 5) rfl)) SC hz SF rfm (by decide) (by decide) (i := (E - 1 - K)) (j := (Int32.ofNat ((E - 1) - K))) (by omega) rfl) TS.1 (hb hby dDK_14) (pc' := 17) rfl hml (argsL := [(.int (Int32.ofNat ((E - 1) - K)))]) rfl (lenOf pd_32dd484b rfl) rfl (Nat.le_of_ble_eq_true rfl) (by decide) (by decide) (fun _ _ _ q => pu_nil q) ?_
    intro T1 L1 W1
    show Go p e below _ T1 (mkF m 17 #[.val (.ref a), .val (.int (Int32.ofNat E)), .val (.long (Int64.ofNat n)), .second, .val (.int (Int32.ofNat D)), .val (.int (Int32.ofNat K)), .val (.long (Int64.ofNat (10 ^ K))), .second] [(.int (rs.getD (E - 1 - K) 0))])
    refine W1.bipush (48 : Int32) (hb hby dDK_17) rfl (pc' := 19) rfl ?_
    refine W1.lloadN (hb hby dDK_19) rfl (pc' := 20) rfl ?_
    refine W1.lload (hb hby dDK_20) rfl (pc' := 22) rfl ?_
    refine W1.ldiv (hb hby dDK_22) (ne64 (by omega)) (pc' := 23) rfl ?_
    rw [div64 (a := n) (b := 10 ^ K) (by omega) (by omega) (by omega)]
    refine W1.ldc2J (hb hby dDK_23) (hw _ (List.mem_of_getElem? (i := 164) rfl)) (pc' := 26) rfl ?_
    refine W1.lrem (hb hby dDK_26) (by decide) (pc' := 27) rfl ?_
    rw [rem64 (a := (n / 10 ^ K)) (by omega)]
    refine W1.l2i (hb hby dDK_27) (pc' := 28) rfl ?_
    rw [l2i_nat (a := (n / 10 ^ K) % 10) (by omega)]
    refine W1.iadd (hb hby dDK_28) (pc' := 29) rfl ?_
    rw [show (48 : Int32) + (Int32.ofNat ((n / 10 ^ K) % 10)) = Int32.ofNat (48 + ((n / 10 ^ K) % 10)) from ofNat_add (48) (((n / 10 ^ K) % 10))]
    refine W1.i2c (hb hby dDK_29) (pc' := 30) rfl ?_
    rw [lat_i2c (lat7 (48 + (n / 10 ^ K) % 10) (by omega))]
    refine W1.icmpNo (hb hby dDK_30) (XT.ii_ne_f (hd hkd)) (pc' := 33) rfl ?_
    refine W1.iconst (1 : Int32) (hb hby dDK_33) rfl (pc' := 34) rfl ?_
    refine W1.goto (hb hby dDK_34) (by decide) (pc' := 38) (by decide) ?_
    exact W1.retZ hret (hb hby dDK_38) (by decide) (by decide) (by decide) ⟨rfl, rfl⟩
  · refine W0.icmpYes (hb hby dDK_4) (XT.ii_ge_t (fun q => hkd ((ofNat_lt (by omega) (by omega)).mp q))) (by decide) (pc' := 33) (by decide) ?_
    refine W0.iconst (1 : Int32) (hb hby dDK_33) rfl (pc' := 34) rfl ?_
    refine W0.goto (hb hby dDK_34) (by decide) (pc' := 38) (by decide) ?_
    exact W0.retZ hret (hb hby dDK_38) (by decide) (by decide) (by decide) ⟨rfl, rfl⟩
--CUT law
def geF1 (p3 : Int32) : Int32 := (if (Int64.ofNat (mag p3)) < (10 : Int64) then (0 : Int32) else (1 : Int32))
def geF2 (p3 : Int32) : Int32 := (if (Int64.ofNat (mag p3)) < (100 : Int64) then (0 : Int32) else (1 : Int32))
def geF3 (p3 : Int32) : Int32 := (if (Int64.ofNat (mag p3)) < (1000 : Int64) then (0 : Int32) else (1 : Int32))
def geF4 (p3 : Int32) : Int32 := (if (Int64.ofNat (mag p3)) < (10000 : Int64) then (0 : Int32) else (1 : Int32))
def geF5 (p3 : Int32) : Int32 := (if (Int64.ofNat (mag p3)) < (100000 : Int64) then (0 : Int32) else (1 : Int32))
def geF6 (p3 : Int32) : Int32 := (if (Int64.ofNat (mag p3)) < (1000000 : Int64) then (0 : Int32) else (1 : Int32))
def geF7 (p3 : Int32) : Int32 := (if (Int64.ofNat (mag p3)) < (10000000 : Int64) then (0 : Int32) else (1 : Int32))
def geF8 (p3 : Int32) : Int32 := (if (Int64.ofNat (mag p3)) < (100000000 : Int64) then (0 : Int32) else (1 : Int32))
def geF9 (p3 : Int32) : Int32 := (if (Int64.ofNat (mag p3)) < (1000000000 : Int64) then (0 : Int32) else (1 : Int32))
theorem nd_mag (q : Int32) : (((((((((1 : Int32) + geF1 q) + geF2 q) + geF3 q) + geF4 q) + geF5 q) + geF6 q) + geF7 q) + geF8 q) + geF9 q = Int32.ofNat (SBG.digits (mag q)) := by
  have hn := mag_le q
  unfold geF1 geF2 geF3 geF4 geF5 geF6 geF7 geF8 geF9 SBG.digits
  generalize mag q = n at hn
  have f1 : (Int64.ofNat n < (10 : Int64)) = (n < 10) := propext (by rw [show (10 : Int64) = Int64.ofNat 10 from rfl, lt64 (by omega) (by omega)])
  have f2 : (Int64.ofNat n < (100 : Int64)) = (n < 100) := propext (by rw [show (100 : Int64) = Int64.ofNat 100 from rfl, lt64 (by omega) (by omega)])
  have f3 : (Int64.ofNat n < (1000 : Int64)) = (n < 1000) := propext (by rw [show (1000 : Int64) = Int64.ofNat 1000 from rfl, lt64 (by omega) (by omega)])
  have f4 : (Int64.ofNat n < (10000 : Int64)) = (n < 10000) := propext (by rw [show (10000 : Int64) = Int64.ofNat 10000 from rfl, lt64 (by omega) (by omega)])
  have f5 : (Int64.ofNat n < (100000 : Int64)) = (n < 100000) := propext (by rw [show (100000 : Int64) = Int64.ofNat 100000 from rfl, lt64 (by omega) (by omega)])
  have f6 : (Int64.ofNat n < (1000000 : Int64)) = (n < 1000000) := propext (by rw [show (1000000 : Int64) = Int64.ofNat 1000000 from rfl, lt64 (by omega) (by omega)])
  have f7 : (Int64.ofNat n < (10000000 : Int64)) = (n < 10000000) := propext (by rw [show (10000000 : Int64) = Int64.ofNat 10000000 from rfl, lt64 (by omega) (by omega)])
  have f8 : (Int64.ofNat n < (100000000 : Int64)) = (n < 100000000) := propext (by rw [show (100000000 : Int64) = Int64.ofNat 100000000 from rfl, lt64 (by omega) (by omega)])
  have f9 : (Int64.ofNat n < (1000000000 : Int64)) = (n < 1000000000) := propext (by rw [show (1000000000 : Int64) = Int64.ofNat 1000000000 from rfl, lt64 (by omega) (by omega)])
  simp only [f1, f2, f3, f4, f5, f6, f7, f8, f9]
  by_cases g1 : n < 10
  · simp only [if_pos (show n < 10 from by omega), if_pos (show n < 100 from by omega), if_pos (show n < 1000 from by omega), if_pos (show n < 10000 from by omega), if_pos (show n < 100000 from by omega), if_pos (show n < 1000000 from by omega), if_pos (show n < 10000000 from by omega), if_pos (show n < 100000000 from by omega), if_pos (show n < 1000000000 from by omega)]; rfl
  by_cases g2 : n < 100
  · simp only [if_neg g1, if_pos (show n < 100 from by omega), if_pos (show n < 1000 from by omega), if_pos (show n < 10000 from by omega), if_pos (show n < 100000 from by omega), if_pos (show n < 1000000 from by omega), if_pos (show n < 10000000 from by omega), if_pos (show n < 100000000 from by omega), if_pos (show n < 1000000000 from by omega)]; rfl
  by_cases g3 : n < 1000
  · simp only [if_neg g1, if_neg g2, if_pos (show n < 1000 from by omega), if_pos (show n < 10000 from by omega), if_pos (show n < 100000 from by omega), if_pos (show n < 1000000 from by omega), if_pos (show n < 10000000 from by omega), if_pos (show n < 100000000 from by omega), if_pos (show n < 1000000000 from by omega)]; rfl
  by_cases g4 : n < 10000
  · simp only [if_neg g1, if_neg g2, if_neg g3, if_pos (show n < 10000 from by omega), if_pos (show n < 100000 from by omega), if_pos (show n < 1000000 from by omega), if_pos (show n < 10000000 from by omega), if_pos (show n < 100000000 from by omega), if_pos (show n < 1000000000 from by omega)]; rfl
  by_cases g5 : n < 100000
  · simp only [if_neg g1, if_neg g2, if_neg g3, if_neg g4, if_pos (show n < 100000 from by omega), if_pos (show n < 1000000 from by omega), if_pos (show n < 10000000 from by omega), if_pos (show n < 100000000 from by omega), if_pos (show n < 1000000000 from by omega)]; rfl
  by_cases g6 : n < 1000000
  · simp only [if_neg g1, if_neg g2, if_neg g3, if_neg g4, if_neg g5, if_pos (show n < 1000000 from by omega), if_pos (show n < 10000000 from by omega), if_pos (show n < 100000000 from by omega), if_pos (show n < 1000000000 from by omega)]; rfl
  by_cases g7 : n < 10000000
  · simp only [if_neg g1, if_neg g2, if_neg g3, if_neg g4, if_neg g5, if_neg g6, if_pos (show n < 10000000 from by omega), if_pos (show n < 100000000 from by omega), if_pos (show n < 1000000000 from by omega)]; rfl
  by_cases g8 : n < 100000000
  · simp only [if_neg g1, if_neg g2, if_neg g3, if_neg g4, if_neg g5, if_neg g6, if_neg g7, if_pos (show n < 100000000 from by omega), if_pos (show n < 1000000000 from by omega)]; rfl
  by_cases g9 : n < 1000000000
  · simp only [if_neg g1, if_neg g2, if_neg g3, if_neg g4, if_neg g5, if_neg g6, if_neg g7, if_neg g8, if_pos (show n < 1000000000 from by omega)]; rfl
  simp only [if_neg g1, if_neg g2, if_neg g3, if_neg g4, if_neg g5, if_neg g6, if_neg g7, if_neg g8, if_neg g9]; rfl
theorem pd_6bdac434 : parseMethodDescriptor "(II)Ljava/lang/String;" = some ⟨[.int, .int], some (.object "java/lang/String")⟩ := by decide +kernel
theorem pd_3a369773 : parseMethodDescriptor "(Ljava/lang/String;Ljava/lang/String;ILjava/lang/String;Ljava/lang/String;)Ljava/lang/String;" = some ⟨[(.object "java/lang/String"), (.object "java/lang/String"), .int, (.object "java/lang/String"), (.object "java/lang/String")], some (.object "java/lang/String")⟩ := by decide +kernel
theorem pd_251770d4 : parseMethodDescriptor "(J)J" = some ⟨[.long], some .long⟩ := by decide +kernel
theorem pd_79bde991 : parseMethodDescriptor "(Ljava/lang/String;III)Z" = some ⟨[(.object "java/lang/String"), .int, .int, .int], some .boolean⟩ := by decide +kernel
theorem pd_27029474 : parseMethodDescriptor "(Ljava/lang/String;IJIIJ)Z" = some ⟨[(.object "java/lang/String"), .int, .long, .int, .int, .long], some .boolean⟩ := by decide +kernel
theorem pn_Law : plainFor (⟨"com/example/frugal_ranker/frugalranker/TrecRunLinePinLaw", "law", "(IIIIII)Z"⟩ : MethodName) = true := by first | exact plainFor_of_name (by first | (simp [plainName, overriddenIn]; done) | decide +kernel) | decide +kernel
set_option maxRecDepth 65536 in
set_option maxHeartbeats 40000000 in
theorem rmLaw (l : Launch) (Z : State) (a0 : Array Value) (hw : ∀ d ∈ tables_1, d.before a0 Z = true) (hEL : EW Z a0 consts_1) (p1 p2 p3 p4 p5 p6 zc : Int32) (fm : Value) (dO dT : Addr) (kO kT : ClassId) (h0 : Heap) (n0 : Nat) (Z0 : n0 ≤ h0.size) (gO : dO < n0) (gT : dT < n0) (TSO : Sta Z h0 "java/lang/Integer" "DigitOnes" "[B" (.ref dO)) (TAO : Arv Z h0 dO kO .byte (100 : Int32) onesV (.int (0 : Int32))) (TST : Sta Z h0 "java/lang/Integer" "DigitTens" "[B" (.ref dT)) (TAT : Arv Z h0 dT kT .byte (100 : Int32) tensV (.int (0 : Int32))) (SC : Sta Z h0 "java/lang/String" "COMPACT_STRINGS" "Z" (.int zc)) (hz : ¬ zc = 0) (SF : Sta Z h0 "jdk/internal/util/Preconditions" "SIOOBE_FORMATTER" "Ljava/util/function/BiFunction;" fm) (rfm : fm.isRef = true) :
    WM l x code maxLocals ret tables_1 room_1 Z consts_1 n0 #[(.int p1), (.int p2), (.int p3), (.int p4), (.int p5), (.int p6)] h0 [] (fun v h => v = some (.int 1) ∧ True) := by
  refine WM.walk (Ls := #[.val (.int p1), .val (.int p2), .val (.int p3), .val (.int p4), .val (.int p5), .val (.int p6), .unset, .unset, .unset, .unset, .unset, .unset, .unset, .unset, .unset, .unset, .unset, .unset, .unset, .unset, .unset, .unset, .unset, .unset, .unset, .unset]) pn_Law Z0 (fun m => by first | (simp [entryFrame, mkF, argsToLocals, Value.category, maxLocals]; done) | rfl) ?_
  intro p e s m below meth c s₁ hby hml hret hnm W0
  have hwS : ∀ d ∈ Bundle.stringAtoms, d.before a0 Z = true := fun d hd => hw d (hwAtoms d hd)
  refine W0.1.iload (hb hby at_0) rfl (pc' := 2) rfl ?_
  refine W0.1.iconst (3 : Int32) (hb hby at_2) rfl (pc' := 3) rfl ?_
  refine W0.1.iand (hb hby at_3) (pc' := 4) rfl ?_
  refine W0.1.iconst (3 : Int32) (hb hby at_4) rfl (pc' := 5) rfl ?_
  refine W0.1.irem (hb hby at_5) (by decide) (pc' := 6) rfl ?_
  refine lets (P := fun z => Go _ _ _ _ _ (mkF m 6 #[.val (.int p1), .val (.int p2), .val (.int p3), .val (.int p4), .val (.int p5), .val (.int p6), .unset, .unset, .unset, .unset, .unset, .unset, .unset, .unset, .unset, .unset, .unset, .unset, .unset, .unset, .unset, .unset, .unset, .unset, .unset, .unset] [(.int z)])) ((p6 &&& (3 : Int32)) % (3 : Int32)) ?_
  intro lt hlt
  refine W0.1.istore (Ls' := #[.val (.int p1), .val (.int p2), .val (.int p3), .val (.int p4), .val (.int p5), .val (.int p6), .val (.int lt), .unset, .unset, .unset, .unset, .unset, .unset, .unset, .unset, .unset, .unset, .unset, .unset, .unset, .unset, .unset, .unset, .unset, .unset, .unset]) (hb hby at_6) rfl (pc' := 8) rfl ?_
  refine W0.1.iload (hb hby at_8) rfl (pc' := 10) rfl ?_
  refine W0.1.iconst (2 : Int32) (hb hby at_10) rfl (pc' := 11) rfl ?_
  refine W0.1.iushr (hb hby at_11) (pc' := 12) rfl ?_
  refine W0.1.iconst (3 : Int32) (hb hby at_12) rfl (pc' := 13) rfl ?_
  refine W0.1.iand (hb hby at_13) (pc' := 14) rfl ?_
  refine W0.1.iconst (3 : Int32) (hb hby at_14) rfl (pc' := 15) rfl ?_
  refine W0.1.irem (hb hby at_15) (by decide) (pc' := 16) rfl ?_
  refine lets (P := fun z => Go _ _ _ _ _ (mkF m 16 #[.val (.int p1), .val (.int p2), .val (.int p3), .val (.int p4), .val (.int p5), .val (.int p6), .val (.int lt), .unset, .unset, .unset, .unset, .unset, .unset, .unset, .unset, .unset, .unset, .unset, .unset, .unset, .unset, .unset, .unset, .unset, .unset, .unset] [(.int z)])) (((XT.ushr p6 (2 : Int32)) &&& (3 : Int32)) % (3 : Int32)) ?_
  intro ld hld
  refine W0.1.istore (Ls' := #[.val (.int p1), .val (.int p2), .val (.int p3), .val (.int p4), .val (.int p5), .val (.int p6), .val (.int lt), .val (.int ld), .unset, .unset, .unset, .unset, .unset, .unset, .unset, .unset, .unset, .unset, .unset, .unset, .unset, .unset, .unset, .unset, .unset, .unset]) (hb hby at_16) rfl (pc' := 18) rfl ?_
  refine W0.1.iload (hb hby at_18) rfl (pc' := 20) rfl ?_
  refine W0.1.iconst (4 : Int32) (hb hby at_20) rfl (pc' := 21) rfl ?_
  refine W0.1.iushr (hb hby at_21) (pc' := 22) rfl ?_
  refine W0.1.iconst (3 : Int32) (hb hby at_22) rfl (pc' := 23) rfl ?_
  refine W0.1.iand (hb hby at_23) (pc' := 24) rfl ?_
  refine W0.1.iconst (3 : Int32) (hb hby at_24) rfl (pc' := 25) rfl ?_
  refine W0.1.irem (hb hby at_25) (by decide) (pc' := 26) rfl ?_
  refine lets (P := fun z => Go _ _ _ _ _ (mkF m 26 #[.val (.int p1), .val (.int p2), .val (.int p3), .val (.int p4), .val (.int p5), .val (.int p6), .val (.int lt), .val (.int ld), .unset, .unset, .unset, .unset, .unset, .unset, .unset, .unset, .unset, .unset, .unset, .unset, .unset, .unset, .unset, .unset, .unset, .unset] [(.int z)])) (((XT.ushr p6 (4 : Int32)) &&& (3 : Int32)) % (3 : Int32)) ?_
  intro ls hls
  refine W0.1.istore (Ls' := #[.val (.int p1), .val (.int p2), .val (.int p3), .val (.int p4), .val (.int p5), .val (.int p6), .val (.int lt), .val (.int ld), .val (.int ls), .unset, .unset, .unset, .unset, .unset, .unset, .unset, .unset, .unset, .unset, .unset, .unset, .unset, .unset, .unset, .unset, .unset]) (hb hby at_26) rfl (pc' := 28) rfl ?_
  refine W0.1.iload (hb hby at_28) rfl (pc' := 30) rfl ?_
  refine W0.1.bipush (6 : Int32) (hb hby at_30) rfl (pc' := 32) rfl ?_
  refine W0.1.iushr (hb hby at_32) (pc' := 33) rfl ?_
  refine W0.1.iconst (3 : Int32) (hb hby at_33) rfl (pc' := 34) rfl ?_
  refine W0.1.iand (hb hby at_34) (pc' := 35) rfl ?_
  refine W0.1.iconst (3 : Int32) (hb hby at_35) rfl (pc' := 36) rfl ?_
  refine W0.1.irem (hb hby at_36) (by decide) (pc' := 37) rfl ?_
  refine lets (P := fun z => Go _ _ _ _ _ (mkF m 37 #[.val (.int p1), .val (.int p2), .val (.int p3), .val (.int p4), .val (.int p5), .val (.int p6), .val (.int lt), .val (.int ld), .val (.int ls), .unset, .unset, .unset, .unset, .unset, .unset, .unset, .unset, .unset, .unset, .unset, .unset, .unset, .unset, .unset, .unset, .unset] [(.int z)])) (((XT.ushr p6 (6 : Int32)) &&& (3 : Int32)) % (3 : Int32)) ?_
  intro lg hlg
  refine W0.1.istore (Ls' := #[.val (.int p1), .val (.int p2), .val (.int p3), .val (.int p4), .val (.int p5), .val (.int p6), .val (.int lt), .val (.int ld), .val (.int ls), .val (.int lg), .unset, .unset, .unset, .unset, .unset, .unset, .unset, .unset, .unset, .unset, .unset, .unset, .unset, .unset, .unset, .unset]) (hb hby at_37) rfl (pc' := 39) rfl ?_
  obtain ⟨nT, hnT, rfl⟩ := rem_nat 3 3 (by decide) (by decide) (by decide) hlt
  have sT := strF_all p1 hnT
  have slT := sT.1
  obtain ⟨nD, hnD, rfl⟩ := rem_nat 3 3 (by decide) (by decide) (by decide) hld
  have sD := strF_all p2 hnD
  have slD := sD.1
  obtain ⟨nS, hnS, rfl⟩ := rem_nat 3 3 (by decide) (by decide) (by decide) hls
  have sS := strF_all p4 hnS
  have slS := sS.1
  obtain ⟨nG, hnG, rfl⟩ := rem_nat 3 3 (by decide) (by decide) (by decide) hlg
  have sG := strF_all p5 hnG
  have slG := sG.1
  have hil := itx_len p3
  have hdp := SBG.digits_pos (mag p3)
  have hil2 := itx_le p3
  have hll := linT_len (c1 := (strF p1 (Int32.ofNat nT))) (c2 := (strF p2 (Int32.ofNat nD))) (q := p3) (c3 := (strF p4 (Int32.ofNat nS))) (c4 := (strF p5 (Int32.ofNat nG)))
  refine W0.1.iloadN (hb hby at_39) rfl (pc' := 40) rfl ?_
  refine W0.1.iload (hb hby at_40) rfl (pc' := 42) rfl ?_
  refine W0.callS (hw _ (List.mem_of_getElem? (i := 0) rfl)) (hw _ (List.mem_of_getElem? (i := 1) rfl)) (hw _ (List.mem_of_getElem? (i := 2) rfl)) (hw _ (List.mem_of_getElem? (i := 3) rfl)) (by decide) (WM.bk (wd := 0) (rmSTR l Z a0 hw hEL p1 (Int32.ofNat nT) zc h0 n0 W0.1.n0h SC hz) W0.1.2.2.2.1 (hw _ (List.mem_of_getElem? (i := 3) rfl)) (hw _ (List.mem_of_getElem? (i := 2) rfl)) (by decide) (by decide) hEL W0.2.2.1) (hb hby at_42) (pc' := 45) rfl hml (argsL := [(.int p1), (.int (Int32.ofNat nT))]) rfl (lenOf pd_6bdac434 rfl) rfl (Nat.le_of_ble_eq_true rfl) (by decide) (by decide) (ws' := []) (fun _ _ _ q => ⟨q.2.2, q.2.1⟩) all0 ?_
  intro v1 T1 h1 vm1 L1' L1 W1 Q1 K1 C1
  have z1 := K1.1
  obtain ⟨⟨a1, rfl, S1⟩, -, -⟩ := Q1
  show Go p e below _ T1 (mkF m 45 #[.val (.int p1), .val (.int p2), .val (.int p3), .val (.int p4), .val (.int p5), .val (.int p6), .val (.int (Int32.ofNat nT)), .val (.int (Int32.ofNat nD)), .val (.int (Int32.ofNat nS)), .val (.int (Int32.ofNat nG)), .unset, .unset, .unset, .unset, .unset, .unset, .unset, .unset, .unset, .unset, .unset, .unset, .unset, .unset, .unset, .unset] [(.ref a1)])
  refine W1.1.astore (Ls' := #[.val (.int p1), .val (.int p2), .val (.int p3), .val (.int p4), .val (.int p5), .val (.int p6), .val (.int (Int32.ofNat nT)), .val (.int (Int32.ofNat nD)), .val (.int (Int32.ofNat nS)), .val (.int (Int32.ofNat nG)), .val (.ref a1), .unset, .unset, .unset, .unset, .unset, .unset, .unset, .unset, .unset, .unset, .unset, .unset, .unset, .unset, .unset]) (hb hby at_45) rfl rfl (pc' := 47) rfl ?_
  refine W1.1.iloadN (hb hby at_47) rfl (pc' := 48) rfl ?_
  refine W1.1.iload (hb hby at_48) rfl (pc' := 50) rfl ?_
  have F3 := Sta.ext (Keep.toExt K1) SC
  refine W1.callS (hw _ (List.mem_of_getElem? (i := 0) rfl)) (hw _ (List.mem_of_getElem? (i := 1) rfl)) (hw _ (List.mem_of_getElem? (i := 2) rfl)) (hw _ (List.mem_of_getElem? (i := 3) rfl)) (by decide) (WM.bk (wd := 0) (rmSTR l Z a0 hw hEL p2 (Int32.ofNat nD) zc h1 n0 W1.1.n0h F3 hz) W1.1.2.2.2.1 (hw _ (List.mem_of_getElem? (i := 3) rfl)) (hw _ (List.mem_of_getElem? (i := 2) rfl)) (by decide) (by decide) hEL W1.2.2.1) (hb hby at_50) (pc' := 53) rfl hml (argsL := [(.int p2), (.int (Int32.ofNat nD))]) rfl (lenOf pd_6bdac434 rfl) rfl (Nat.le_of_ble_eq_true rfl) (by decide) (by decide) (ws' := []) (fun _ _ _ q => ⟨q.2.2, q.2.1⟩) all0 ?_
  intro v2 T2 h2 vm2 L2' L2 W2 Q2 K2 C2
  have z2 := K2.1
  obtain ⟨⟨a2, rfl, S2⟩, -, -⟩ := Q2
  show Go p e below _ T2 (mkF m 53 #[.val (.int p1), .val (.int p2), .val (.int p3), .val (.int p4), .val (.int p5), .val (.int p6), .val (.int (Int32.ofNat nT)), .val (.int (Int32.ofNat nD)), .val (.int (Int32.ofNat nS)), .val (.int (Int32.ofNat nG)), .val (.ref a1), .unset, .unset, .unset, .unset, .unset, .unset, .unset, .unset, .unset, .unset, .unset, .unset, .unset, .unset, .unset] [(.ref a2)])
  refine W2.1.astore (Ls' := #[.val (.int p1), .val (.int p2), .val (.int p3), .val (.int p4), .val (.int p5), .val (.int p6), .val (.int (Int32.ofNat nT)), .val (.int (Int32.ofNat nD)), .val (.int (Int32.ofNat nS)), .val (.int (Int32.ofNat nG)), .val (.ref a1), .val (.ref a2), .unset, .unset, .unset, .unset, .unset, .unset, .unset, .unset, .unset, .unset, .unset, .unset, .unset, .unset]) (hb hby at_53) rfl rfl (pc' := 55) rfl ?_
  refine W2.1.iloadN (hb hby at_55) rfl (pc' := 56) rfl ?_
  refine W2.1.iload (hb hby at_56) rfl (pc' := 58) rfl ?_
  have X0_2_5 : Ext h0 h2 := Keep.toExt (((Keep.refl h0 []).trans K1 all0).trans K2 all0)
  have zX0_2_5 := X0_2_5.1
  have F6 := Sta.ext X0_2_5 SC
  refine W2.callS (hw _ (List.mem_of_getElem? (i := 0) rfl)) (hw _ (List.mem_of_getElem? (i := 1) rfl)) (hw _ (List.mem_of_getElem? (i := 2) rfl)) (hw _ (List.mem_of_getElem? (i := 3) rfl)) (by decide) (WM.bk (wd := 0) (rmSTR l Z a0 hw hEL p4 (Int32.ofNat nS) zc h2 n0 W2.1.n0h F6 hz) W2.1.2.2.2.1 (hw _ (List.mem_of_getElem? (i := 3) rfl)) (hw _ (List.mem_of_getElem? (i := 2) rfl)) (by decide) (by decide) hEL W2.2.2.1) (hb hby at_58) (pc' := 61) rfl hml (argsL := [(.int p4), (.int (Int32.ofNat nS))]) rfl (lenOf pd_6bdac434 rfl) rfl (Nat.le_of_ble_eq_true rfl) (by decide) (by decide) (ws' := []) (fun _ _ _ q => ⟨q.2.2, q.2.1⟩) all0 ?_
  intro v4 T4 h4 vm4 L4' L4 W4 Q4 K4 C4
  have z4 := K4.1
  obtain ⟨⟨a4, rfl, S4⟩, -, -⟩ := Q4
  show Go p e below _ T4 (mkF m 61 #[.val (.int p1), .val (.int p2), .val (.int p3), .val (.int p4), .val (.int p5), .val (.int p6), .val (.int (Int32.ofNat nT)), .val (.int (Int32.ofNat nD)), .val (.int (Int32.ofNat nS)), .val (.int (Int32.ofNat nG)), .val (.ref a1), .val (.ref a2), .unset, .unset, .unset, .unset, .unset, .unset, .unset, .unset, .unset, .unset, .unset, .unset, .unset, .unset] [(.ref a4)])
  refine W4.1.astore (Ls' := #[.val (.int p1), .val (.int p2), .val (.int p3), .val (.int p4), .val (.int p5), .val (.int p6), .val (.int (Int32.ofNat nT)), .val (.int (Int32.ofNat nD)), .val (.int (Int32.ofNat nS)), .val (.int (Int32.ofNat nG)), .val (.ref a1), .val (.ref a2), .val (.ref a4), .unset, .unset, .unset, .unset, .unset, .unset, .unset, .unset, .unset, .unset, .unset, .unset, .unset]) (hb hby at_61) rfl rfl (pc' := 63) rfl ?_
  refine W4.1.iload (hb hby at_63) rfl (pc' := 65) rfl ?_
  refine W4.1.iload (hb hby at_65) rfl (pc' := 67) rfl ?_
  have X0_3_8 : Ext h0 h4 := Keep.toExt ((((Keep.refl h0 []).trans K1 all0).trans K2 all0).trans K4 all0)
  have zX0_3_8 := X0_3_8.1
  have F9 := Sta.ext X0_3_8 SC
  refine W4.callS (hw _ (List.mem_of_getElem? (i := 0) rfl)) (hw _ (List.mem_of_getElem? (i := 1) rfl)) (hw _ (List.mem_of_getElem? (i := 2) rfl)) (hw _ (List.mem_of_getElem? (i := 3) rfl)) (by decide) (WM.bk (wd := 0) (rmSTR l Z a0 hw hEL p5 (Int32.ofNat nG) zc h4 n0 W4.1.n0h F9 hz) W4.1.2.2.2.1 (hw _ (List.mem_of_getElem? (i := 3) rfl)) (hw _ (List.mem_of_getElem? (i := 2) rfl)) (by decide) (by decide) hEL W4.2.2.1) (hb hby at_67) (pc' := 70) rfl hml (argsL := [(.int p5), (.int (Int32.ofNat nG))]) rfl (lenOf pd_6bdac434 rfl) rfl (Nat.le_of_ble_eq_true rfl) (by decide) (by decide) (ws' := []) (fun _ _ _ q => ⟨q.2.2, q.2.1⟩) all0 ?_
  intro v7 T7 h7 vm7 L7' L7 W7 Q7 K7 C7
  have z7 := K7.1
  obtain ⟨⟨a7, rfl, S7⟩, -, -⟩ := Q7
  show Go p e below _ T7 (mkF m 70 #[.val (.int p1), .val (.int p2), .val (.int p3), .val (.int p4), .val (.int p5), .val (.int p6), .val (.int (Int32.ofNat nT)), .val (.int (Int32.ofNat nD)), .val (.int (Int32.ofNat nS)), .val (.int (Int32.ofNat nG)), .val (.ref a1), .val (.ref a2), .val (.ref a4), .unset, .unset, .unset, .unset, .unset, .unset, .unset, .unset, .unset, .unset, .unset, .unset, .unset] [(.ref a7)])
  refine W7.1.astore (Ls' := #[.val (.int p1), .val (.int p2), .val (.int p3), .val (.int p4), .val (.int p5), .val (.int p6), .val (.int (Int32.ofNat nT)), .val (.int (Int32.ofNat nD)), .val (.int (Int32.ofNat nS)), .val (.int (Int32.ofNat nG)), .val (.ref a1), .val (.ref a2), .val (.ref a4), .val (.ref a7), .unset, .unset, .unset, .unset, .unset, .unset, .unset, .unset, .unset, .unset, .unset, .unset]) (hb hby at_70) rfl rfl (pc' := 72) rfl ?_
  refine W7.1.aload (hb hby at_72) rfl rfl (pc' := 74) rfl ?_
  refine W7.1.aload (hb hby at_74) rfl rfl (pc' := 76) rfl ?_
  refine W7.1.iloadN (hb hby at_76) rfl (pc' := 77) rfl ?_
  refine W7.1.aload (hb hby at_77) rfl rfl (pc' := 79) rfl ?_
  refine W7.1.aload (hb hby at_79) rfl rfl (pc' := 81) rfl ?_
  have X1_4_11 : Ext h1 h7 := Keep.toExt ((((Keep.refl h1 []).trans K2 all0).trans K4 all0).trans K7 all0)
  have zX1_4_11 := X1_4_11.1
  have F12 := StrA.ext S1 X1_4_11
  have X2_4_13 : Ext h2 h7 := Keep.toExt (((Keep.refl h2 []).trans K4 all0).trans K7 all0)
  have zX2_4_13 := X2_4_13.1
  have F14 := StrA.ext S2 X2_4_13
  have F15 := StrA.ext S4 (Keep.toExt K7)
  have X0_4_16 : Ext h0 h7 := Keep.toExt (((((Keep.refl h0 []).trans K1 all0).trans K2 all0).trans K4 all0).trans K7 all0)
  have zX0_4_16 := X0_4_16.1
  have F17 := Sta.ext X0_4_16 TSO
  have F18 := Arv.ext TAO X0_4_16
  have F19 := Sta.ext X0_4_16 TST
  have F20 := Arv.ext TAT X0_4_16
  have F21 := Sta.ext X0_4_16 SC
  refine W7.callS (hw _ (List.mem_of_getElem? (i := 26) rfl)) (hw _ (List.mem_of_getElem? (i := 27) rfl)) (hw _ (List.mem_of_getElem? (i := 28) rfl)) (hw _ (List.mem_of_getElem? (i := 29) rfl)) (by decide) (WM.bk (wd := 0) (rmLN l Z a0 hw hEL a1 a2 a4 a7 p3 (strF p1 (Int32.ofNat nT)) (strF p2 (Int32.ofNat nD)) (strF p4 (Int32.ofNat nS)) (strF p5 (Int32.ofNat nG)) dO dT kO kT zc h7 n0 W7.1.n0h F12 sT.2.1 (by omega) F14 sD.2.1 (by omega) F15 sS.2.1 (by omega) S7 sG.2.1 (by omega) gO gT F17 F18 F19 F20 F21 hz) W7.1.2.2.2.1 (hw _ (List.mem_of_getElem? (i := 29) rfl)) (hw _ (List.mem_of_getElem? (i := 28) rfl)) (by decide) (by decide) hEL W7.2.2.1) (hb hby at_81) (pc' := 84) rfl hml (argsL := [(.ref a1), (.ref a2), (.int p3), (.ref a4), (.ref a7)]) rfl (lenOf pd_3a369773 rfl) rfl (Nat.le_of_ble_eq_true rfl) (by decide) (by decide) (ws' := []) (fun _ _ _ q => ⟨q.2.2, q.2.1⟩) all0 ?_
  intro v10 T10 h10 vm10 L10' L10 W10 Q10 K10 C10
  have z10 := K10.1
  obtain ⟨⟨r10, rfl, S10⟩, -, -⟩ := Q10
  show Go p e below _ T10 (mkF m 84 #[.val (.int p1), .val (.int p2), .val (.int p3), .val (.int p4), .val (.int p5), .val (.int p6), .val (.int (Int32.ofNat nT)), .val (.int (Int32.ofNat nD)), .val (.int (Int32.ofNat nS)), .val (.int (Int32.ofNat nG)), .val (.ref a1), .val (.ref a2), .val (.ref a4), .val (.ref a7), .unset, .unset, .unset, .unset, .unset, .unset, .unset, .unset, .unset, .unset, .unset, .unset] [(.ref r10)])
  refine W10.1.astore (Ls' := #[.val (.int p1), .val (.int p2), .val (.int p3), .val (.int p4), .val (.int p5), .val (.int p6), .val (.int (Int32.ofNat nT)), .val (.int (Int32.ofNat nD)), .val (.int (Int32.ofNat nS)), .val (.int (Int32.ofNat nG)), .val (.ref a1), .val (.ref a2), .val (.ref a4), .val (.ref a7), .val (.ref r10), .unset, .unset, .unset, .unset, .unset, .unset, .unset, .unset, .unset, .unset, .unset]) (hb hby at_84) rfl rfl (pc' := 86) rfl ?_
  refine W10.1.iloadN (hb hby at_86) rfl (pc' := 87) rfl ?_
  refine W10.1.i2l (hb hby at_87) (pc' := 88) rfl ?_
  refine W10.1.callSP (hw _ (List.mem_of_getElem? (i := 161) rfl)) (hw _ (List.mem_of_getElem? (i := 162) rfl)) (hw _ (List.mem_of_getElem? (i := 158) rfl)) (hw _ (List.mem_of_getElem? (i := 163) rfl)) (by decide) (NM.bk (wd := 0) (rmAB l Z a0 hw p3.toInt64 h10 n0 W10.1.n0h ) W10.1.2.2.2.1 (hw _ (List.mem_of_getElem? (i := 163) rfl)) (hw _ (List.mem_of_getElem? (i := 158) rfl)) (by decide) (by decide)) (hb hby at_88) (pc' := 91) rfl hml (argsL := [(.long p3.toInt64)]) rfl (lenOf pd_251770d4 rfl) rfl (Nat.le_of_ble_eq_true rfl) (by decide) (by decide) (fun _ _ _ q => pu_of q) ?_
  intro T22 L22 N22
  have W22 := W10.same N22
  show Go p e below _ T22 (mkF m 91 #[.val (.int p1), .val (.int p2), .val (.int p3), .val (.int p4), .val (.int p5), .val (.int p6), .val (.int (Int32.ofNat nT)), .val (.int (Int32.ofNat nD)), .val (.int (Int32.ofNat nS)), .val (.int (Int32.ofNat nG)), .val (.ref a1), .val (.ref a2), .val (.ref a4), .val (.ref a7), .val (.ref r10), .unset, .unset, .unset, .unset, .unset, .unset, .unset, .unset, .unset, .unset, .unset] [(.long (ablF p3.toInt64))])
  rw [ablF, abs_mag]
  refine W22.1.lstore (Ls' := #[.val (.int p1), .val (.int p2), .val (.int p3), .val (.int p4), .val (.int p5), .val (.int p6), .val (.int (Int32.ofNat nT)), .val (.int (Int32.ofNat nD)), .val (.int (Int32.ofNat nS)), .val (.int (Int32.ofNat nG)), .val (.ref a1), .val (.ref a2), .val (.ref a4), .val (.ref a7), .val (.ref r10), .val (.long (Int64.ofNat (mag p3))), .second, .unset, .unset, .unset, .unset, .unset, .unset, .unset, .unset, .unset]) (hb hby at_91) rfl (pc' := 93) rfl ?_
  refine W22.1.iconst (1 : Int32) (hb hby at_93) rfl (pc' := 94) rfl ?_
  suffices kk23 : ∀ (T' : State) (L' : List Loc), WK consts_1 p l e room_1 s m #[(.int p1), (.int p2), (.int p3), (.int p4), (.int p5), (.int p6)] below meth c Z "com/example/frugal_ranker/frugalranker/TrecRunLinePinLaw" n0 h0 [] T' h10 vm10 L' 45 772 → Go p e below _ T' (mkF m 108 #[.val (.int p1), .val (.int p2), .val (.int p3), .val (.int p4), .val (.int p5), .val (.int p6), .val (.int (Int32.ofNat nT)), .val (.int (Int32.ofNat nD)), .val (.int (Int32.ofNat nS)), .val (.int (Int32.ofNat nG)), .val (.ref a1), .val (.ref a2), .val (.ref a4), .val (.ref a7), .val (.ref r10), .val (.long (Int64.ofNat (mag p3))), .second, .unset, .unset, .unset, .unset, .unset, .unset, .unset, .unset, .unset] [(.int (geF1 p3)), (.int (1 : Int32))]) by
    refine W22.1.lload (hb hby at_94) rfl (pc' := 96) rfl ?_
    refine W22.1.ldc2J (hb hby at_96) (hw _ (List.mem_of_getElem? (i := 164) rfl)) (pc' := 99) rfl ?_
    refine W22.1.lcmp (hb hby at_99) (pc' := 100) rfl ?_
    by_cases hc24 : (Int64.ofNat (mag p3)) < (10 : Int64)
    · refine W22.1.ifYes (hb hby at_100) (XT.ll_lt_t hc24) (by decide) (pc' := 107) (by decide) ?_
      refine W22.1.iconst (0 : Int32) (hb hby at_107) rfl (pc' := 108) rfl ?_
      have q23 := kk23 _ _ W22
      rw [show (geF1 p3) = (0 : Int32) from by rw [geF1, if_pos hc24]] at q23
      exact q23
    · refine W22.1.ifNo (hb hby at_100) (XT.ll_lt_f hc24) (pc' := 103) rfl ?_
      refine W22.1.iconst (1 : Int32) (hb hby at_103) rfl (pc' := 104) rfl ?_
      refine W22.1.goto (hb hby at_104) (by decide) (pc' := 108) (by decide) ?_
      have q23 := kk23 _ _ W22
      rw [show (geF1 p3) = (1 : Int32) from by rw [geF1, if_neg hc24]] at q23
      exact q23
  intro T23 L23 W23
  refine W23.1.iadd (hb hby at_108) (pc' := 109) rfl ?_
  suffices kk25 : ∀ (T' : State) (L' : List Loc), WK consts_1 p l e room_1 s m #[(.int p1), (.int p2), (.int p3), (.int p4), (.int p5), (.int p6)] below meth c Z "com/example/frugal_ranker/frugalranker/TrecRunLinePinLaw" n0 h0 [] T' h10 vm10 L' 45 772 → Go p e below _ T' (mkF m 123 #[.val (.int p1), .val (.int p2), .val (.int p3), .val (.int p4), .val (.int p5), .val (.int p6), .val (.int (Int32.ofNat nT)), .val (.int (Int32.ofNat nD)), .val (.int (Int32.ofNat nS)), .val (.int (Int32.ofNat nG)), .val (.ref a1), .val (.ref a2), .val (.ref a4), .val (.ref a7), .val (.ref r10), .val (.long (Int64.ofNat (mag p3))), .second, .unset, .unset, .unset, .unset, .unset, .unset, .unset, .unset, .unset] [(.int (geF2 p3)), (.int ((1 : Int32) + (geF1 p3)))]) by
    refine W23.1.lload (hb hby at_109) rfl (pc' := 111) rfl ?_
    refine W23.1.ldc2J (hb hby at_111) (hw _ (List.mem_of_getElem? (i := 165) rfl)) (pc' := 114) rfl ?_
    refine W23.1.lcmp (hb hby at_114) (pc' := 115) rfl ?_
    by_cases hc26 : (Int64.ofNat (mag p3)) < (100 : Int64)
    · refine W23.1.ifYes (hb hby at_115) (XT.ll_lt_t hc26) (by decide) (pc' := 122) (by decide) ?_
      refine W23.1.iconst (0 : Int32) (hb hby at_122) rfl (pc' := 123) rfl ?_
      have q25 := kk25 _ _ W23
      rw [show (geF2 p3) = (0 : Int32) from by rw [geF2, if_pos hc26]] at q25
      exact q25
    · refine W23.1.ifNo (hb hby at_115) (XT.ll_lt_f hc26) (pc' := 118) rfl ?_
      refine W23.1.iconst (1 : Int32) (hb hby at_118) rfl (pc' := 119) rfl ?_
      refine W23.1.goto (hb hby at_119) (by decide) (pc' := 123) (by decide) ?_
      have q25 := kk25 _ _ W23
      rw [show (geF2 p3) = (1 : Int32) from by rw [geF2, if_neg hc26]] at q25
      exact q25
  intro T25 L25 W25
  refine W25.1.iadd (hb hby at_123) (pc' := 124) rfl ?_
  suffices kk27 : ∀ (T' : State) (L' : List Loc), WK consts_1 p l e room_1 s m #[(.int p1), (.int p2), (.int p3), (.int p4), (.int p5), (.int p6)] below meth c Z "com/example/frugal_ranker/frugalranker/TrecRunLinePinLaw" n0 h0 [] T' h10 vm10 L' 45 772 → Go p e below _ T' (mkF m 138 #[.val (.int p1), .val (.int p2), .val (.int p3), .val (.int p4), .val (.int p5), .val (.int p6), .val (.int (Int32.ofNat nT)), .val (.int (Int32.ofNat nD)), .val (.int (Int32.ofNat nS)), .val (.int (Int32.ofNat nG)), .val (.ref a1), .val (.ref a2), .val (.ref a4), .val (.ref a7), .val (.ref r10), .val (.long (Int64.ofNat (mag p3))), .second, .unset, .unset, .unset, .unset, .unset, .unset, .unset, .unset, .unset] [(.int (geF3 p3)), (.int (((1 : Int32) + (geF1 p3)) + (geF2 p3)))]) by
    refine W25.1.lload (hb hby at_124) rfl (pc' := 126) rfl ?_
    refine W25.1.ldc2J (hb hby at_126) (hw _ (List.mem_of_getElem? (i := 166) rfl)) (pc' := 129) rfl ?_
    refine W25.1.lcmp (hb hby at_129) (pc' := 130) rfl ?_
    by_cases hc28 : (Int64.ofNat (mag p3)) < (1000 : Int64)
    · refine W25.1.ifYes (hb hby at_130) (XT.ll_lt_t hc28) (by decide) (pc' := 137) (by decide) ?_
      refine W25.1.iconst (0 : Int32) (hb hby at_137) rfl (pc' := 138) rfl ?_
      have q27 := kk27 _ _ W25
      rw [show (geF3 p3) = (0 : Int32) from by rw [geF3, if_pos hc28]] at q27
      exact q27
    · refine W25.1.ifNo (hb hby at_130) (XT.ll_lt_f hc28) (pc' := 133) rfl ?_
      refine W25.1.iconst (1 : Int32) (hb hby at_133) rfl (pc' := 134) rfl ?_
      refine W25.1.goto (hb hby at_134) (by decide) (pc' := 138) (by decide) ?_
      have q27 := kk27 _ _ W25
      rw [show (geF3 p3) = (1 : Int32) from by rw [geF3, if_neg hc28]] at q27
      exact q27
  intro T27 L27 W27
  refine W27.1.iadd (hb hby at_138) (pc' := 139) rfl ?_
  suffices kk29 : ∀ (T' : State) (L' : List Loc), WK consts_1 p l e room_1 s m #[(.int p1), (.int p2), (.int p3), (.int p4), (.int p5), (.int p6)] below meth c Z "com/example/frugal_ranker/frugalranker/TrecRunLinePinLaw" n0 h0 [] T' h10 vm10 L' 45 772 → Go p e below _ T' (mkF m 153 #[.val (.int p1), .val (.int p2), .val (.int p3), .val (.int p4), .val (.int p5), .val (.int p6), .val (.int (Int32.ofNat nT)), .val (.int (Int32.ofNat nD)), .val (.int (Int32.ofNat nS)), .val (.int (Int32.ofNat nG)), .val (.ref a1), .val (.ref a2), .val (.ref a4), .val (.ref a7), .val (.ref r10), .val (.long (Int64.ofNat (mag p3))), .second, .unset, .unset, .unset, .unset, .unset, .unset, .unset, .unset, .unset] [(.int (geF4 p3)), (.int ((((1 : Int32) + (geF1 p3)) + (geF2 p3)) + (geF3 p3)))]) by
    refine W27.1.lload (hb hby at_139) rfl (pc' := 141) rfl ?_
    refine W27.1.ldc2J (hb hby at_141) (hw _ (List.mem_of_getElem? (i := 167) rfl)) (pc' := 144) rfl ?_
    refine W27.1.lcmp (hb hby at_144) (pc' := 145) rfl ?_
    by_cases hc30 : (Int64.ofNat (mag p3)) < (10000 : Int64)
    · refine W27.1.ifYes (hb hby at_145) (XT.ll_lt_t hc30) (by decide) (pc' := 152) (by decide) ?_
      refine W27.1.iconst (0 : Int32) (hb hby at_152) rfl (pc' := 153) rfl ?_
      have q29 := kk29 _ _ W27
      rw [show (geF4 p3) = (0 : Int32) from by rw [geF4, if_pos hc30]] at q29
      exact q29
    · refine W27.1.ifNo (hb hby at_145) (XT.ll_lt_f hc30) (pc' := 148) rfl ?_
      refine W27.1.iconst (1 : Int32) (hb hby at_148) rfl (pc' := 149) rfl ?_
      refine W27.1.goto (hb hby at_149) (by decide) (pc' := 153) (by decide) ?_
      have q29 := kk29 _ _ W27
      rw [show (geF4 p3) = (1 : Int32) from by rw [geF4, if_neg hc30]] at q29
      exact q29
  intro T29 L29 W29
  refine W29.1.iadd (hb hby at_153) (pc' := 154) rfl ?_
  suffices kk31 : ∀ (T' : State) (L' : List Loc), WK consts_1 p l e room_1 s m #[(.int p1), (.int p2), (.int p3), (.int p4), (.int p5), (.int p6)] below meth c Z "com/example/frugal_ranker/frugalranker/TrecRunLinePinLaw" n0 h0 [] T' h10 vm10 L' 45 772 → Go p e below _ T' (mkF m 168 #[.val (.int p1), .val (.int p2), .val (.int p3), .val (.int p4), .val (.int p5), .val (.int p6), .val (.int (Int32.ofNat nT)), .val (.int (Int32.ofNat nD)), .val (.int (Int32.ofNat nS)), .val (.int (Int32.ofNat nG)), .val (.ref a1), .val (.ref a2), .val (.ref a4), .val (.ref a7), .val (.ref r10), .val (.long (Int64.ofNat (mag p3))), .second, .unset, .unset, .unset, .unset, .unset, .unset, .unset, .unset, .unset] [(.int (geF5 p3)), (.int (((((1 : Int32) + (geF1 p3)) + (geF2 p3)) + (geF3 p3)) + (geF4 p3)))]) by
    refine W29.1.lload (hb hby at_154) rfl (pc' := 156) rfl ?_
    refine W29.1.ldc2J (hb hby at_156) (hw _ (List.mem_of_getElem? (i := 168) rfl)) (pc' := 159) rfl ?_
    refine W29.1.lcmp (hb hby at_159) (pc' := 160) rfl ?_
    by_cases hc32 : (Int64.ofNat (mag p3)) < (100000 : Int64)
    · refine W29.1.ifYes (hb hby at_160) (XT.ll_lt_t hc32) (by decide) (pc' := 167) (by decide) ?_
      refine W29.1.iconst (0 : Int32) (hb hby at_167) rfl (pc' := 168) rfl ?_
      have q31 := kk31 _ _ W29
      rw [show (geF5 p3) = (0 : Int32) from by rw [geF5, if_pos hc32]] at q31
      exact q31
    · refine W29.1.ifNo (hb hby at_160) (XT.ll_lt_f hc32) (pc' := 163) rfl ?_
      refine W29.1.iconst (1 : Int32) (hb hby at_163) rfl (pc' := 164) rfl ?_
      refine W29.1.goto (hb hby at_164) (by decide) (pc' := 168) (by decide) ?_
      have q31 := kk31 _ _ W29
      rw [show (geF5 p3) = (1 : Int32) from by rw [geF5, if_neg hc32]] at q31
      exact q31
  intro T31 L31 W31
  refine W31.1.iadd (hb hby at_168) (pc' := 169) rfl ?_
  suffices kk33 : ∀ (T' : State) (L' : List Loc), WK consts_1 p l e room_1 s m #[(.int p1), (.int p2), (.int p3), (.int p4), (.int p5), (.int p6)] below meth c Z "com/example/frugal_ranker/frugalranker/TrecRunLinePinLaw" n0 h0 [] T' h10 vm10 L' 45 772 → Go p e below _ T' (mkF m 183 #[.val (.int p1), .val (.int p2), .val (.int p3), .val (.int p4), .val (.int p5), .val (.int p6), .val (.int (Int32.ofNat nT)), .val (.int (Int32.ofNat nD)), .val (.int (Int32.ofNat nS)), .val (.int (Int32.ofNat nG)), .val (.ref a1), .val (.ref a2), .val (.ref a4), .val (.ref a7), .val (.ref r10), .val (.long (Int64.ofNat (mag p3))), .second, .unset, .unset, .unset, .unset, .unset, .unset, .unset, .unset, .unset] [(.int (geF6 p3)), (.int ((((((1 : Int32) + (geF1 p3)) + (geF2 p3)) + (geF3 p3)) + (geF4 p3)) + (geF5 p3)))]) by
    refine W31.1.lload (hb hby at_169) rfl (pc' := 171) rfl ?_
    refine W31.1.ldc2J (hb hby at_171) (hw _ (List.mem_of_getElem? (i := 169) rfl)) (pc' := 174) rfl ?_
    refine W31.1.lcmp (hb hby at_174) (pc' := 175) rfl ?_
    by_cases hc34 : (Int64.ofNat (mag p3)) < (1000000 : Int64)
    · refine W31.1.ifYes (hb hby at_175) (XT.ll_lt_t hc34) (by decide) (pc' := 182) (by decide) ?_
      refine W31.1.iconst (0 : Int32) (hb hby at_182) rfl (pc' := 183) rfl ?_
      have q33 := kk33 _ _ W31
      rw [show (geF6 p3) = (0 : Int32) from by rw [geF6, if_pos hc34]] at q33
      exact q33
    · refine W31.1.ifNo (hb hby at_175) (XT.ll_lt_f hc34) (pc' := 178) rfl ?_
      refine W31.1.iconst (1 : Int32) (hb hby at_178) rfl (pc' := 179) rfl ?_
      refine W31.1.goto (hb hby at_179) (by decide) (pc' := 183) (by decide) ?_
      have q33 := kk33 _ _ W31
      rw [show (geF6 p3) = (1 : Int32) from by rw [geF6, if_neg hc34]] at q33
      exact q33
  intro T33 L33 W33
  refine W33.1.iadd (hb hby at_183) (pc' := 184) rfl ?_
  suffices kk35 : ∀ (T' : State) (L' : List Loc), WK consts_1 p l e room_1 s m #[(.int p1), (.int p2), (.int p3), (.int p4), (.int p5), (.int p6)] below meth c Z "com/example/frugal_ranker/frugalranker/TrecRunLinePinLaw" n0 h0 [] T' h10 vm10 L' 45 772 → Go p e below _ T' (mkF m 198 #[.val (.int p1), .val (.int p2), .val (.int p3), .val (.int p4), .val (.int p5), .val (.int p6), .val (.int (Int32.ofNat nT)), .val (.int (Int32.ofNat nD)), .val (.int (Int32.ofNat nS)), .val (.int (Int32.ofNat nG)), .val (.ref a1), .val (.ref a2), .val (.ref a4), .val (.ref a7), .val (.ref r10), .val (.long (Int64.ofNat (mag p3))), .second, .unset, .unset, .unset, .unset, .unset, .unset, .unset, .unset, .unset] [(.int (geF7 p3)), (.int (((((((1 : Int32) + (geF1 p3)) + (geF2 p3)) + (geF3 p3)) + (geF4 p3)) + (geF5 p3)) + (geF6 p3)))]) by
    refine W33.1.lload (hb hby at_184) rfl (pc' := 186) rfl ?_
    refine W33.1.ldc2J (hb hby at_186) (hw _ (List.mem_of_getElem? (i := 170) rfl)) (pc' := 189) rfl ?_
    refine W33.1.lcmp (hb hby at_189) (pc' := 190) rfl ?_
    by_cases hc36 : (Int64.ofNat (mag p3)) < (10000000 : Int64)
    · refine W33.1.ifYes (hb hby at_190) (XT.ll_lt_t hc36) (by decide) (pc' := 197) (by decide) ?_
      refine W33.1.iconst (0 : Int32) (hb hby at_197) rfl (pc' := 198) rfl ?_
      have q35 := kk35 _ _ W33
      rw [show (geF7 p3) = (0 : Int32) from by rw [geF7, if_pos hc36]] at q35
      exact q35
    · refine W33.1.ifNo (hb hby at_190) (XT.ll_lt_f hc36) (pc' := 193) rfl ?_
      refine W33.1.iconst (1 : Int32) (hb hby at_193) rfl (pc' := 194) rfl ?_
      refine W33.1.goto (hb hby at_194) (by decide) (pc' := 198) (by decide) ?_
      have q35 := kk35 _ _ W33
      rw [show (geF7 p3) = (1 : Int32) from by rw [geF7, if_neg hc36]] at q35
      exact q35
  intro T35 L35 W35
  refine W35.1.iadd (hb hby at_198) (pc' := 199) rfl ?_
  suffices kk37 : ∀ (T' : State) (L' : List Loc), WK consts_1 p l e room_1 s m #[(.int p1), (.int p2), (.int p3), (.int p4), (.int p5), (.int p6)] below meth c Z "com/example/frugal_ranker/frugalranker/TrecRunLinePinLaw" n0 h0 [] T' h10 vm10 L' 45 772 → Go p e below _ T' (mkF m 213 #[.val (.int p1), .val (.int p2), .val (.int p3), .val (.int p4), .val (.int p5), .val (.int p6), .val (.int (Int32.ofNat nT)), .val (.int (Int32.ofNat nD)), .val (.int (Int32.ofNat nS)), .val (.int (Int32.ofNat nG)), .val (.ref a1), .val (.ref a2), .val (.ref a4), .val (.ref a7), .val (.ref r10), .val (.long (Int64.ofNat (mag p3))), .second, .unset, .unset, .unset, .unset, .unset, .unset, .unset, .unset, .unset] [(.int (geF8 p3)), (.int ((((((((1 : Int32) + (geF1 p3)) + (geF2 p3)) + (geF3 p3)) + (geF4 p3)) + (geF5 p3)) + (geF6 p3)) + (geF7 p3)))]) by
    refine W35.1.lload (hb hby at_199) rfl (pc' := 201) rfl ?_
    refine W35.1.ldc2J (hb hby at_201) (hw _ (List.mem_of_getElem? (i := 171) rfl)) (pc' := 204) rfl ?_
    refine W35.1.lcmp (hb hby at_204) (pc' := 205) rfl ?_
    by_cases hc38 : (Int64.ofNat (mag p3)) < (100000000 : Int64)
    · refine W35.1.ifYes (hb hby at_205) (XT.ll_lt_t hc38) (by decide) (pc' := 212) (by decide) ?_
      refine W35.1.iconst (0 : Int32) (hb hby at_212) rfl (pc' := 213) rfl ?_
      have q37 := kk37 _ _ W35
      rw [show (geF8 p3) = (0 : Int32) from by rw [geF8, if_pos hc38]] at q37
      exact q37
    · refine W35.1.ifNo (hb hby at_205) (XT.ll_lt_f hc38) (pc' := 208) rfl ?_
      refine W35.1.iconst (1 : Int32) (hb hby at_208) rfl (pc' := 209) rfl ?_
      refine W35.1.goto (hb hby at_209) (by decide) (pc' := 213) (by decide) ?_
      have q37 := kk37 _ _ W35
      rw [show (geF8 p3) = (1 : Int32) from by rw [geF8, if_neg hc38]] at q37
      exact q37
  intro T37 L37 W37
  refine W37.1.iadd (hb hby at_213) (pc' := 214) rfl ?_
  suffices kk39 : ∀ (T' : State) (L' : List Loc), WK consts_1 p l e room_1 s m #[(.int p1), (.int p2), (.int p3), (.int p4), (.int p5), (.int p6)] below meth c Z "com/example/frugal_ranker/frugalranker/TrecRunLinePinLaw" n0 h0 [] T' h10 vm10 L' 45 772 → Go p e below _ T' (mkF m 228 #[.val (.int p1), .val (.int p2), .val (.int p3), .val (.int p4), .val (.int p5), .val (.int p6), .val (.int (Int32.ofNat nT)), .val (.int (Int32.ofNat nD)), .val (.int (Int32.ofNat nS)), .val (.int (Int32.ofNat nG)), .val (.ref a1), .val (.ref a2), .val (.ref a4), .val (.ref a7), .val (.ref r10), .val (.long (Int64.ofNat (mag p3))), .second, .unset, .unset, .unset, .unset, .unset, .unset, .unset, .unset, .unset] [(.int (geF9 p3)), (.int (((((((((1 : Int32) + (geF1 p3)) + (geF2 p3)) + (geF3 p3)) + (geF4 p3)) + (geF5 p3)) + (geF6 p3)) + (geF7 p3)) + (geF8 p3)))]) by
    refine W37.1.lload (hb hby at_214) rfl (pc' := 216) rfl ?_
    refine W37.1.ldc2J (hb hby at_216) (hw _ (List.mem_of_getElem? (i := 172) rfl)) (pc' := 219) rfl ?_
    refine W37.1.lcmp (hb hby at_219) (pc' := 220) rfl ?_
    by_cases hc40 : (Int64.ofNat (mag p3)) < (1000000000 : Int64)
    · refine W37.1.ifYes (hb hby at_220) (XT.ll_lt_t hc40) (by decide) (pc' := 227) (by decide) ?_
      refine W37.1.iconst (0 : Int32) (hb hby at_227) rfl (pc' := 228) rfl ?_
      have q39 := kk39 _ _ W37
      rw [show (geF9 p3) = (0 : Int32) from by rw [geF9, if_pos hc40]] at q39
      exact q39
    · refine W37.1.ifNo (hb hby at_220) (XT.ll_lt_f hc40) (pc' := 223) rfl ?_
      refine W37.1.iconst (1 : Int32) (hb hby at_223) rfl (pc' := 224) rfl ?_
      refine W37.1.goto (hb hby at_224) (by decide) (pc' := 228) (by decide) ?_
      have q39 := kk39 _ _ W37
      rw [show (geF9 p3) = (1 : Int32) from by rw [geF9, if_neg hc40]] at q39
      exact q39
  intro T39 L39 W39
  refine W39.1.iadd (hb hby at_228) (pc' := 229) rfl ?_
  rw [nd_mag p3]
  refine W39.1.istore (Ls' := #[.val (.int p1), .val (.int p2), .val (.int p3), .val (.int p4), .val (.int p5), .val (.int p6), .val (.int (Int32.ofNat nT)), .val (.int (Int32.ofNat nD)), .val (.int (Int32.ofNat nS)), .val (.int (Int32.ofNat nG)), .val (.ref a1), .val (.ref a2), .val (.ref a4), .val (.ref a7), .val (.ref r10), .val (.long (Int64.ofNat (mag p3))), .second, .val (.int (Int32.ofNat (SBG.digits (mag p3)))), .unset, .unset, .unset, .unset, .unset, .unset, .unset, .unset]) (hb hby at_229) rfl (pc' := 231) rfl ?_
  refine W39.1.iloadN (hb hby at_231) rfl (pc' := 232) rfl ?_
  by_cases hc41 : p3 < (0 : Int32)
  · refine W39.1.ifNo (hb hby at_232) (XT.i0_ge_f hc41) (pc' := 235) rfl ?_
    refine W39.1.iconst (1 : Int32) (hb hby at_235) rfl (pc' := 236) rfl ?_
    refine W39.1.goto (hb hby at_236) (by decide) (pc' := 240) (by decide) ?_
    refine W39.1.istore (Ls' := #[.val (.int p1), .val (.int p2), .val (.int p3), .val (.int p4), .val (.int p5), .val (.int p6), .val (.int (Int32.ofNat nT)), .val (.int (Int32.ofNat nD)), .val (.int (Int32.ofNat nS)), .val (.int (Int32.ofNat nG)), .val (.ref a1), .val (.ref a2), .val (.ref a4), .val (.ref a7), .val (.ref r10), .val (.long (Int64.ofNat (mag p3))), .second, .val (.int (Int32.ofNat (SBG.digits (mag p3)))), .val (.int (1 : Int32)), .unset, .unset, .unset, .unset, .unset, .unset, .unset]) (hb hby at_240) rfl (pc' := 242) rfl ?_
    have hsg := sgn_pos hc41
    refine W39.1.iload (hb hby at_242) rfl (pc' := 244) rfl ?_
    refine W39.1.iconst (4 : Int32) (hb hby at_244) rfl (pc' := 245) rfl ?_
    refine W39.1.iadd (hb hby at_245) (pc' := 246) rfl ?_
    rw [show (Int32.ofNat nT) + (4 : Int32) = Int32.ofNat (nT + 4) from ofNat_add (nT) (4)]
    refine W39.1.iload (hb hby at_246) rfl (pc' := 248) rfl ?_
    refine W39.1.iadd (hb hby at_248) (pc' := 249) rfl ?_
    rw [show (Int32.ofNat (nT + 4)) + (Int32.ofNat nD) = Int32.ofNat ((nT + 4) + nD) from ofNat_add ((nT + 4)) (nD)]
    refine W39.1.iconst (1 : Int32) (hb hby at_249) rfl (pc' := 250) rfl ?_
    refine W39.1.iadd (hb hby at_250) (pc' := 251) rfl ?_
    rw [show (Int32.ofNat ((nT + 4) + nD)) + (1 : Int32) = Int32.ofNat (((nT + 4) + nD) + 1) from ofNat_add (((nT + 4) + nD)) (1)]
    refine W39.1.iload (hb hby at_251) rfl (pc' := 253) rfl ?_
    refine W39.1.iadd (hb hby at_253) (pc' := 254) rfl ?_
    rw [show (Int32.ofNat (((nT + 4) + nD) + 1)) + (1 : Int32) = Int32.ofNat ((((nT + 4) + nD) + 1) + 1) from ofNat_add ((((nT + 4) + nD) + 1)) (1)]
    refine W39.1.iload (hb hby at_254) rfl (pc' := 256) rfl ?_
    refine W39.1.iadd (hb hby at_256) (pc' := 257) rfl ?_
    rw [show (Int32.ofNat ((((nT + 4) + nD) + 1) + 1)) + (Int32.ofNat (SBG.digits (mag p3))) = Int32.ofNat (((((nT + 4) + nD) + 1) + 1) + (SBG.digits (mag p3))) from ofNat_add (((((nT + 4) + nD) + 1) + 1)) ((SBG.digits (mag p3)))]
    refine W39.1.iconst (1 : Int32) (hb hby at_257) rfl (pc' := 258) rfl ?_
    refine W39.1.iadd (hb hby at_258) (pc' := 259) rfl ?_
    rw [show (Int32.ofNat (((((nT + 4) + nD) + 1) + 1) + (SBG.digits (mag p3)))) + (1 : Int32) = Int32.ofNat ((((((nT + 4) + nD) + 1) + 1) + (SBG.digits (mag p3))) + 1) from ofNat_add ((((((nT + 4) + nD) + 1) + 1) + (SBG.digits (mag p3)))) (1)]
    refine W39.1.iload (hb hby at_259) rfl (pc' := 261) rfl ?_
    refine W39.1.iadd (hb hby at_261) (pc' := 262) rfl ?_
    rw [show (Int32.ofNat ((((((nT + 4) + nD) + 1) + 1) + (SBG.digits (mag p3))) + 1)) + (Int32.ofNat nS) = Int32.ofNat (((((((nT + 4) + nD) + 1) + 1) + (SBG.digits (mag p3))) + 1) + nS) from ofNat_add (((((((nT + 4) + nD) + 1) + 1) + (SBG.digits (mag p3))) + 1)) (nS)]
    refine W39.1.iconst (1 : Int32) (hb hby at_262) rfl (pc' := 263) rfl ?_
    refine W39.1.iadd (hb hby at_263) (pc' := 264) rfl ?_
    rw [show (Int32.ofNat (((((((nT + 4) + nD) + 1) + 1) + (SBG.digits (mag p3))) + 1) + nS)) + (1 : Int32) = Int32.ofNat ((((((((nT + 4) + nD) + 1) + 1) + (SBG.digits (mag p3))) + 1) + nS) + 1) from ofNat_add ((((((((nT + 4) + nD) + 1) + 1) + (SBG.digits (mag p3))) + 1) + nS)) (1)]
    refine W39.1.iload (hb hby at_264) rfl (pc' := 266) rfl ?_
    refine W39.1.iadd (hb hby at_266) (pc' := 267) rfl ?_
    rw [show (Int32.ofNat ((((((((nT + 4) + nD) + 1) + 1) + (SBG.digits (mag p3))) + 1) + nS) + 1)) + (Int32.ofNat nG) = Int32.ofNat (((((((((nT + 4) + nD) + 1) + 1) + (SBG.digits (mag p3))) + 1) + nS) + 1) + nG) from ofNat_add (((((((((nT + 4) + nD) + 1) + 1) + (SBG.digits (mag p3))) + 1) + nS) + 1)) (nG)]
    refine W39.1.istore (Ls' := #[.val (.int p1), .val (.int p2), .val (.int p3), .val (.int p4), .val (.int p5), .val (.int p6), .val (.int (Int32.ofNat nT)), .val (.int (Int32.ofNat nD)), .val (.int (Int32.ofNat nS)), .val (.int (Int32.ofNat nG)), .val (.ref a1), .val (.ref a2), .val (.ref a4), .val (.ref a7), .val (.ref r10), .val (.long (Int64.ofNat (mag p3))), .second, .val (.int (Int32.ofNat (SBG.digits (mag p3)))), .val (.int (1 : Int32)), .val (.int (Int32.ofNat (((((((((nT + 4) + nD) + 1) + 1) + (SBG.digits (mag p3))) + 1) + nS) + 1) + nG))), .unset, .unset, .unset, .unset, .unset, .unset]) (hb hby at_267) rfl (pc' := 269) rfl ?_
    refine W39.1.aload (hb hby at_269) rfl rfl (pc' := 271) rfl ?_
    have X0_5_43 : Ext h0 h10 := Keep.toExt ((((((Keep.refl h0 []).trans K1 all0).trans K2 all0).trans K4 all0).trans K7 all0).trans K10 all0)
    have zX0_5_43 := X0_5_43.1
    have F44 := Sta.ext X0_5_43 SC
    refine W39.1.callVP (y := (⟨"java/lang/String", "length", "()I"⟩ : MethodName)) (z := (⟨"java/lang/String", "length", "()I"⟩ : MethodName)) (hw _ (List.mem_of_getElem? (i := 173) rfl)) (hw _ (List.mem_of_getElem? (i := 59) rfl)) (hw _ (List.mem_of_getElem? (i := 61) rfl)) (hw _ (List.mem_of_getElem? (i := 61) rfl)) (hw _ (List.mem_of_getElem? (i := 60) rfl)) (by decide) (StrA.lenB (wd := 0) S10 W39.1.2.2.2.1 hw (hw _ (List.mem_of_getElem? (i := 5) rfl)) F44 hz (by decide) (by decide)) S10.1 (hb hby at_271) (pc' := 274) rfl hml (argsL := []) rfl (lenOf pd_368a4b19 rfl) rfl (Nat.le_of_ble_eq_true rfl) (by decide) (by decide) (fun _ _ _ q => pu_nil q) ?_
    intro T42 L42 N42
    have W42 := W39.same N42
    show Go p e below _ T42 (mkF m 274 #[.val (.int p1), .val (.int p2), .val (.int p3), .val (.int p4), .val (.int p5), .val (.int p6), .val (.int (Int32.ofNat nT)), .val (.int (Int32.ofNat nD)), .val (.int (Int32.ofNat nS)), .val (.int (Int32.ofNat nG)), .val (.ref a1), .val (.ref a2), .val (.ref a4), .val (.ref a7), .val (.ref r10), .val (.long (Int64.ofNat (mag p3))), .second, .val (.int (Int32.ofNat (SBG.digits (mag p3)))), .val (.int (1 : Int32)), .val (.int (Int32.ofNat (((((((((nT + 4) + nD) + 1) + 1) + (SBG.digits (mag p3))) + 1) + nS) + 1) + nG))), .unset, .unset, .unset, .unset, .unset, .unset] [(.int (Int32.ofNat (linT (strF p1 (Int32.ofNat nT)) (strF p2 (Int32.ofNat nD)) p3 (strF p4 (Int32.ofNat nS)) (strF p5 (Int32.ofNat nG))).length))])
    refine W42.1.iload (hb hby at_274) rfl (pc' := 276) rfl ?_
    refine W42.1.icmpYes (hb hby at_276) (XT.ii_eq_t (congrArg Int32.ofNat (by omega))) (by decide) (pc' := 281) (by decide) ?_
    refine W42.1.aload (hb hby at_281) rfl rfl (pc' := 283) rfl ?_
    refine W42.1.iconst (0 : Int32) (hb hby at_283) rfl (pc' := 284) rfl ?_
    refine W42.1.iloadN (hb hby at_284) rfl (pc' := 285) rfl ?_
    refine W42.1.iload (hb hby at_285) rfl (pc' := 287) rfl ?_
    have F46 := Sta.ext X0_5_43 SF
    refine W42.1.callSP (hw _ (List.mem_of_getElem? (i := 174) rfl)) (hw _ (List.mem_of_getElem? (i := 175) rfl)) (hw _ (List.mem_of_getElem? (i := 2) rfl)) (hw _ (List.mem_of_getElem? (i := 176) rfl)) (by decide) (NM.bk (wd := 0) (rmSM l Z a0 hw r10 (linT (strF p1 (Int32.ofNat nT)) (strF p2 (Int32.ofNat nD)) p3 (strF p4 (Int32.ofNat nS)) (strF p5 (Int32.ofNat nG))) 0 nT p1 zc fm h10 n0 W42.1.n0h S10 (linT_lat sT.2.1 sD.2.1 sS.2.1 sG.2.1) hnT (by omega) (by omega) (fun h => (lin_1 (by omega)).trans (sT.2.2.1 h)) (fun h => (lin_1 (by omega)).trans (sT.2.2.2 h)) F44 hz F46 rfm) W42.1.2.2.2.1 (hw _ (List.mem_of_getElem? (i := 176) rfl)) (hw _ (List.mem_of_getElem? (i := 2) rfl)) (by decide) (by decide)) (hb hby at_287) (pc' := 290) rfl hml (argsL := [(.ref r10), (.int (0 : Int32)), (.int p1), (.int (Int32.ofNat nT))]) rfl (lenOf pd_79bde991 rfl) rfl (Nat.le_of_ble_eq_true rfl) (by decide) (by decide) (fun _ _ _ q => pu_of q) ?_
    intro T45 L45 N45
    have W45 := W42.same N45
    show Go p e below _ T45 (mkF m 290 #[.val (.int p1), .val (.int p2), .val (.int p3), .val (.int p4), .val (.int p5), .val (.int p6), .val (.int (Int32.ofNat nT)), .val (.int (Int32.ofNat nD)), .val (.int (Int32.ofNat nS)), .val (.int (Int32.ofNat nG)), .val (.ref a1), .val (.ref a2), .val (.ref a4), .val (.ref a7), .val (.ref r10), .val (.long (Int64.ofNat (mag p3))), .second, .val (.int (Int32.ofNat (SBG.digits (mag p3)))), .val (.int (1 : Int32)), .val (.int (Int32.ofNat (((((((((nT + 4) + nD) + 1) + 1) + (SBG.digits (mag p3))) + 1) + nS) + 1) + nG))), .unset, .unset, .unset, .unset, .unset, .unset] [(.int (1 : Int32))])
    refine W45.1.istore (Ls' := #[.val (.int p1), .val (.int p2), .val (.int p3), .val (.int p4), .val (.int p5), .val (.int p6), .val (.int (Int32.ofNat nT)), .val (.int (Int32.ofNat nD)), .val (.int (Int32.ofNat nS)), .val (.int (Int32.ofNat nG)), .val (.ref a1), .val (.ref a2), .val (.ref a4), .val (.ref a7), .val (.ref r10), .val (.long (Int64.ofNat (mag p3))), .second, .val (.int (Int32.ofNat (SBG.digits (mag p3)))), .val (.int (1 : Int32)), .val (.int (Int32.ofNat (((((((((nT + 4) + nD) + 1) + 1) + (SBG.digits (mag p3))) + 1) + nS) + 1) + nG))), .val (.int (1 : Int32)), .unset, .unset, .unset, .unset, .unset]) (hb hby at_290) rfl (pc' := 292) rfl ?_
    refine W45.1.iload (hb hby at_292) rfl (pc' := 294) rfl ?_
    refine W45.1.ifNo (hb hby at_294) (XT.i0_eq_f (by decide)) (pc' := 297) rfl ?_
    refine W45.1.aload (hb hby at_297) rfl rfl (pc' := 299) rfl ?_
    refine W45.1.iload (hb hby at_299) rfl (pc' := 301) rfl ?_
    refine W45.1.callVP (y := (⟨"java/lang/String", "charAt", "(I)C"⟩ : MethodName)) (z := (⟨"java/lang/String", "charAt", "(I)C"⟩ : MethodName)) (hw _ (List.mem_of_getElem? (i := 177) rfl)) (hw _ (List.mem_of_getElem? (i := 178) rfl)) (hw _ (List.mem_of_getElem? (i := 180) rfl)) (hw _ (List.mem_of_getElem? (i := 180) rfl)) (hw _ (List.mem_of_getElem? (i := 179) rfl)) (by decide) (StrA.chr (wd := 0) S10 (linT_lat sT.2.1 sD.2.1 sS.2.1 sG.2.1) W45.1.2.2.2.1 hw (hw _ (List.mem_of_getElem? (i := 5) rfl)) F44 hz F46 rfm (by decide) (by decide) (i := (nT)) (j := (Int32.ofNat nT)) (by omega) rfl) S10.1 (hb hby at_301) (pc' := 304) rfl hml (argsL := [(.int (Int32.ofNat nT))]) rfl (lenOf pd_32dd484b rfl) rfl (Nat.le_of_ble_eq_true rfl) (by decide) (by decide) (fun _ _ _ q => pu_nil q) ?_
    intro T47 L47 N47
    have W47 := W45.same N47
    show Go p e below _ T47 (mkF m 304 #[.val (.int p1), .val (.int p2), .val (.int p3), .val (.int p4), .val (.int p5), .val (.int p6), .val (.int (Int32.ofNat nT)), .val (.int (Int32.ofNat nD)), .val (.int (Int32.ofNat nS)), .val (.int (Int32.ofNat nG)), .val (.ref a1), .val (.ref a2), .val (.ref a4), .val (.ref a7), .val (.ref r10), .val (.long (Int64.ofNat (mag p3))), .second, .val (.int (Int32.ofNat (SBG.digits (mag p3)))), .val (.int (1 : Int32)), .val (.int (Int32.ofNat (((((((((nT + 4) + nD) + 1) + 1) + (SBG.digits (mag p3))) + 1) + nS) + 1) + nG))), .val (.int (1 : Int32)), .unset, .unset, .unset, .unset, .unset] [(.int ((linT (strF p1 (Int32.ofNat nT)) (strF p2 (Int32.ofNat nD)) p3 (strF p4 (Int32.ofNat nS)) (strF p5 (Int32.ofNat nG))).getD (nT) 0))])
    refine W47.1.bipush (32 : Int32) (hb hby at_304) rfl (pc' := 306) rfl ?_
    refine W47.1.icmpNo (hb hby at_306) (XT.ii_ne_f (lin_2 0 (by omega) (by decide))) (pc' := 309) rfl ?_
    refine W47.1.aload (hb hby at_309) rfl rfl (pc' := 311) rfl ?_
    refine W47.1.iload (hb hby at_311) rfl (pc' := 313) rfl ?_
    refine W47.1.iconst (1 : Int32) (hb hby at_313) rfl (pc' := 314) rfl ?_
    refine W47.1.iadd (hb hby at_314) (pc' := 315) rfl ?_
    rw [show (Int32.ofNat nT) + (1 : Int32) = Int32.ofNat (nT + 1) from ofNat_add (nT) (1)]
    refine W47.1.callVP (y := (⟨"java/lang/String", "charAt", "(I)C"⟩ : MethodName)) (z := (⟨"java/lang/String", "charAt", "(I)C"⟩ : MethodName)) (hw _ (List.mem_of_getElem? (i := 177) rfl)) (hw _ (List.mem_of_getElem? (i := 178) rfl)) (hw _ (List.mem_of_getElem? (i := 180) rfl)) (hw _ (List.mem_of_getElem? (i := 180) rfl)) (hw _ (List.mem_of_getElem? (i := 179) rfl)) (by decide) (StrA.chr (wd := 0) S10 (linT_lat sT.2.1 sD.2.1 sS.2.1 sG.2.1) W47.1.2.2.2.1 hw (hw _ (List.mem_of_getElem? (i := 5) rfl)) F44 hz F46 rfm (by decide) (by decide) (i := ((nT + 1))) (j := (Int32.ofNat (nT + 1))) (by omega) rfl) S10.1 (hb hby at_315) (pc' := 318) rfl hml (argsL := [(.int (Int32.ofNat (nT + 1)))]) rfl (lenOf pd_32dd484b rfl) rfl (Nat.le_of_ble_eq_true rfl) (by decide) (by decide) (fun _ _ _ q => pu_nil q) ?_
    intro T48 L48 N48
    have W48 := W47.same N48
    show Go p e below _ T48 (mkF m 318 #[.val (.int p1), .val (.int p2), .val (.int p3), .val (.int p4), .val (.int p5), .val (.int p6), .val (.int (Int32.ofNat nT)), .val (.int (Int32.ofNat nD)), .val (.int (Int32.ofNat nS)), .val (.int (Int32.ofNat nG)), .val (.ref a1), .val (.ref a2), .val (.ref a4), .val (.ref a7), .val (.ref r10), .val (.long (Int64.ofNat (mag p3))), .second, .val (.int (Int32.ofNat (SBG.digits (mag p3)))), .val (.int (1 : Int32)), .val (.int (Int32.ofNat (((((((((nT + 4) + nD) + 1) + 1) + (SBG.digits (mag p3))) + 1) + nS) + 1) + nG))), .val (.int (1 : Int32)), .unset, .unset, .unset, .unset, .unset] [(.int ((linT (strF p1 (Int32.ofNat nT)) (strF p2 (Int32.ofNat nD)) p3 (strF p4 (Int32.ofNat nS)) (strF p5 (Int32.ofNat nG))).getD ((nT + 1)) 0))])
    refine W48.1.bipush (81 : Int32) (hb hby at_318) rfl (pc' := 320) rfl ?_
    refine W48.1.icmpNo (hb hby at_320) (XT.ii_ne_f (lin_2 1 (by omega) (by decide))) (pc' := 323) rfl ?_
    refine W48.1.aload (hb hby at_323) rfl rfl (pc' := 325) rfl ?_
    refine W48.1.iload (hb hby at_325) rfl (pc' := 327) rfl ?_
    refine W48.1.iconst (2 : Int32) (hb hby at_327) rfl (pc' := 328) rfl ?_
    refine W48.1.iadd (hb hby at_328) (pc' := 329) rfl ?_
    rw [show (Int32.ofNat nT) + (2 : Int32) = Int32.ofNat (nT + 2) from ofNat_add (nT) (2)]
    refine W48.1.callVP (y := (⟨"java/lang/String", "charAt", "(I)C"⟩ : MethodName)) (z := (⟨"java/lang/String", "charAt", "(I)C"⟩ : MethodName)) (hw _ (List.mem_of_getElem? (i := 177) rfl)) (hw _ (List.mem_of_getElem? (i := 178) rfl)) (hw _ (List.mem_of_getElem? (i := 180) rfl)) (hw _ (List.mem_of_getElem? (i := 180) rfl)) (hw _ (List.mem_of_getElem? (i := 179) rfl)) (by decide) (StrA.chr (wd := 0) S10 (linT_lat sT.2.1 sD.2.1 sS.2.1 sG.2.1) W48.1.2.2.2.1 hw (hw _ (List.mem_of_getElem? (i := 5) rfl)) F44 hz F46 rfm (by decide) (by decide) (i := ((nT + 2))) (j := (Int32.ofNat (nT + 2))) (by omega) rfl) S10.1 (hb hby at_329) (pc' := 332) rfl hml (argsL := [(.int (Int32.ofNat (nT + 2)))]) rfl (lenOf pd_32dd484b rfl) rfl (Nat.le_of_ble_eq_true rfl) (by decide) (by decide) (fun _ _ _ q => pu_nil q) ?_
    intro T49 L49 N49
    have W49 := W48.same N49
    show Go p e below _ T49 (mkF m 332 #[.val (.int p1), .val (.int p2), .val (.int p3), .val (.int p4), .val (.int p5), .val (.int p6), .val (.int (Int32.ofNat nT)), .val (.int (Int32.ofNat nD)), .val (.int (Int32.ofNat nS)), .val (.int (Int32.ofNat nG)), .val (.ref a1), .val (.ref a2), .val (.ref a4), .val (.ref a7), .val (.ref r10), .val (.long (Int64.ofNat (mag p3))), .second, .val (.int (Int32.ofNat (SBG.digits (mag p3)))), .val (.int (1 : Int32)), .val (.int (Int32.ofNat (((((((((nT + 4) + nD) + 1) + 1) + (SBG.digits (mag p3))) + 1) + nS) + 1) + nG))), .val (.int (1 : Int32)), .unset, .unset, .unset, .unset, .unset] [(.int ((linT (strF p1 (Int32.ofNat nT)) (strF p2 (Int32.ofNat nD)) p3 (strF p4 (Int32.ofNat nS)) (strF p5 (Int32.ofNat nG))).getD ((nT + 2)) 0))])
    refine W49.1.bipush (48 : Int32) (hb hby at_332) rfl (pc' := 334) rfl ?_
    refine W49.1.icmpNo (hb hby at_334) (XT.ii_ne_f (lin_2 2 (by omega) (by decide))) (pc' := 337) rfl ?_
    refine W49.1.aload (hb hby at_337) rfl rfl (pc' := 339) rfl ?_
    refine W49.1.iload (hb hby at_339) rfl (pc' := 341) rfl ?_
    refine W49.1.iconst (3 : Int32) (hb hby at_341) rfl (pc' := 342) rfl ?_
    refine W49.1.iadd (hb hby at_342) (pc' := 343) rfl ?_
    rw [show (Int32.ofNat nT) + (3 : Int32) = Int32.ofNat (nT + 3) from ofNat_add (nT) (3)]
    refine W49.1.callVP (y := (⟨"java/lang/String", "charAt", "(I)C"⟩ : MethodName)) (z := (⟨"java/lang/String", "charAt", "(I)C"⟩ : MethodName)) (hw _ (List.mem_of_getElem? (i := 177) rfl)) (hw _ (List.mem_of_getElem? (i := 178) rfl)) (hw _ (List.mem_of_getElem? (i := 180) rfl)) (hw _ (List.mem_of_getElem? (i := 180) rfl)) (hw _ (List.mem_of_getElem? (i := 179) rfl)) (by decide) (StrA.chr (wd := 0) S10 (linT_lat sT.2.1 sD.2.1 sS.2.1 sG.2.1) W49.1.2.2.2.1 hw (hw _ (List.mem_of_getElem? (i := 5) rfl)) F44 hz F46 rfm (by decide) (by decide) (i := ((nT + 3))) (j := (Int32.ofNat (nT + 3))) (by omega) rfl) S10.1 (hb hby at_343) (pc' := 346) rfl hml (argsL := [(.int (Int32.ofNat (nT + 3)))]) rfl (lenOf pd_32dd484b rfl) rfl (Nat.le_of_ble_eq_true rfl) (by decide) (by decide) (fun _ _ _ q => pu_nil q) ?_
    intro T50 L50 N50
    have W50 := W49.same N50
    show Go p e below _ T50 (mkF m 346 #[.val (.int p1), .val (.int p2), .val (.int p3), .val (.int p4), .val (.int p5), .val (.int p6), .val (.int (Int32.ofNat nT)), .val (.int (Int32.ofNat nD)), .val (.int (Int32.ofNat nS)), .val (.int (Int32.ofNat nG)), .val (.ref a1), .val (.ref a2), .val (.ref a4), .val (.ref a7), .val (.ref r10), .val (.long (Int64.ofNat (mag p3))), .second, .val (.int (Int32.ofNat (SBG.digits (mag p3)))), .val (.int (1 : Int32)), .val (.int (Int32.ofNat (((((((((nT + 4) + nD) + 1) + 1) + (SBG.digits (mag p3))) + 1) + nS) + 1) + nG))), .val (.int (1 : Int32)), .unset, .unset, .unset, .unset, .unset] [(.int ((linT (strF p1 (Int32.ofNat nT)) (strF p2 (Int32.ofNat nD)) p3 (strF p4 (Int32.ofNat nS)) (strF p5 (Int32.ofNat nG))).getD ((nT + 3)) 0))])
    refine W50.1.bipush (32 : Int32) (hb hby at_346) rfl (pc' := 348) rfl ?_
    refine W50.1.icmpNo (hb hby at_348) (XT.ii_ne_f (lin_2 3 (by omega) (by decide))) (pc' := 351) rfl ?_
    refine W50.1.iconst (1 : Int32) (hb hby at_351) rfl (pc' := 352) rfl ?_
    refine W50.1.goto (hb hby at_352) (by decide) (pc' := 356) (by decide) ?_
    refine W50.1.istore (Ls' := #[.val (.int p1), .val (.int p2), .val (.int p3), .val (.int p4), .val (.int p5), .val (.int p6), .val (.int (Int32.ofNat nT)), .val (.int (Int32.ofNat nD)), .val (.int (Int32.ofNat nS)), .val (.int (Int32.ofNat nG)), .val (.ref a1), .val (.ref a2), .val (.ref a4), .val (.ref a7), .val (.ref r10), .val (.long (Int64.ofNat (mag p3))), .second, .val (.int (Int32.ofNat (SBG.digits (mag p3)))), .val (.int (1 : Int32)), .val (.int (Int32.ofNat (((((((((nT + 4) + nD) + 1) + 1) + (SBG.digits (mag p3))) + 1) + nS) + 1) + nG))), .val (.int (1 : Int32)), .unset, .unset, .unset, .unset, .unset]) (hb hby at_356) rfl (pc' := 358) rfl ?_
    refine W50.1.iload (hb hby at_358) rfl (pc' := 360) rfl ?_
    refine W50.1.iconst (4 : Int32) (hb hby at_360) rfl (pc' := 361) rfl ?_
    refine W50.1.iadd (hb hby at_361) (pc' := 362) rfl ?_
    rw [show (Int32.ofNat nT) + (4 : Int32) = Int32.ofNat (nT + 4) from ofNat_add (nT) (4)]
    refine W50.1.istore (Ls' := #[.val (.int p1), .val (.int p2), .val (.int p3), .val (.int p4), .val (.int p5), .val (.int p6), .val (.int (Int32.ofNat nT)), .val (.int (Int32.ofNat nD)), .val (.int (Int32.ofNat nS)), .val (.int (Int32.ofNat nG)), .val (.ref a1), .val (.ref a2), .val (.ref a4), .val (.ref a7), .val (.ref r10), .val (.long (Int64.ofNat (mag p3))), .second, .val (.int (Int32.ofNat (SBG.digits (mag p3)))), .val (.int (1 : Int32)), .val (.int (Int32.ofNat (((((((((nT + 4) + nD) + 1) + 1) + (SBG.digits (mag p3))) + 1) + nS) + 1) + nG))), .val (.int (1 : Int32)), .val (.int (Int32.ofNat (nT + 4))), .unset, .unset, .unset, .unset]) (hb hby at_362) rfl (pc' := 364) rfl ?_
    refine W50.1.iload (hb hby at_364) rfl (pc' := 366) rfl ?_
    refine W50.1.ifNo (hb hby at_366) (XT.i0_eq_f (by decide)) (pc' := 369) rfl ?_
    refine W50.1.aload (hb hby at_369) rfl rfl (pc' := 371) rfl ?_
    refine W50.1.iload (hb hby at_371) rfl (pc' := 373) rfl ?_
    refine W50.1.iloadN (hb hby at_373) rfl (pc' := 374) rfl ?_
    refine W50.1.iload (hb hby at_374) rfl (pc' := 376) rfl ?_
    refine W50.1.callSP (hw _ (List.mem_of_getElem? (i := 174) rfl)) (hw _ (List.mem_of_getElem? (i := 175) rfl)) (hw _ (List.mem_of_getElem? (i := 2) rfl)) (hw _ (List.mem_of_getElem? (i := 176) rfl)) (by decide) (NM.bk (wd := 0) (rmSM l Z a0 hw r10 (linT (strF p1 (Int32.ofNat nT)) (strF p2 (Int32.ofNat nD)) p3 (strF p4 (Int32.ofNat nS)) (strF p5 (Int32.ofNat nG))) ((nT + 4)) nD p2 zc fm h10 n0 W50.1.n0h S10 (linT_lat sT.2.1 sD.2.1 sS.2.1 sG.2.1) hnD (by omega) (by omega) (fun h => (lin_3 0 (by omega) (by omega)).trans (sD.2.2.1 h)) (fun h => (lin_3 1 (by omega) (by omega)).trans (sD.2.2.2 h)) F44 hz F46 rfm) W50.1.2.2.2.1 (hw _ (List.mem_of_getElem? (i := 176) rfl)) (hw _ (List.mem_of_getElem? (i := 2) rfl)) (by decide) (by decide)) (hb hby at_376) (pc' := 379) rfl hml (argsL := [(.ref r10), (.int (Int32.ofNat (nT + 4))), (.int p2), (.int (Int32.ofNat nD))]) rfl (lenOf pd_79bde991 rfl) rfl (Nat.le_of_ble_eq_true rfl) (by decide) (by decide) (fun _ _ _ q => pu_of q) ?_
    intro T51 L51 N51
    have W51 := W50.same N51
    show Go p e below _ T51 (mkF m 379 #[.val (.int p1), .val (.int p2), .val (.int p3), .val (.int p4), .val (.int p5), .val (.int p6), .val (.int (Int32.ofNat nT)), .val (.int (Int32.ofNat nD)), .val (.int (Int32.ofNat nS)), .val (.int (Int32.ofNat nG)), .val (.ref a1), .val (.ref a2), .val (.ref a4), .val (.ref a7), .val (.ref r10), .val (.long (Int64.ofNat (mag p3))), .second, .val (.int (Int32.ofNat (SBG.digits (mag p3)))), .val (.int (1 : Int32)), .val (.int (Int32.ofNat (((((((((nT + 4) + nD) + 1) + 1) + (SBG.digits (mag p3))) + 1) + nS) + 1) + nG))), .val (.int (1 : Int32)), .val (.int (Int32.ofNat (nT + 4))), .unset, .unset, .unset, .unset] [(.int (1 : Int32))])
    refine W51.1.ifNo (hb hby at_379) (XT.i0_eq_f (by decide)) (pc' := 382) rfl ?_
    refine W51.1.aload (hb hby at_382) rfl rfl (pc' := 384) rfl ?_
    refine W51.1.iload (hb hby at_384) rfl (pc' := 386) rfl ?_
    refine W51.1.iload (hb hby at_386) rfl (pc' := 388) rfl ?_
    refine W51.1.iadd (hb hby at_388) (pc' := 389) rfl ?_
    rw [show (Int32.ofNat (nT + 4)) + (Int32.ofNat nD) = Int32.ofNat ((nT + 4) + nD) from ofNat_add ((nT + 4)) (nD)]
    refine W51.1.callVP (y := (⟨"java/lang/String", "charAt", "(I)C"⟩ : MethodName)) (z := (⟨"java/lang/String", "charAt", "(I)C"⟩ : MethodName)) (hw _ (List.mem_of_getElem? (i := 177) rfl)) (hw _ (List.mem_of_getElem? (i := 178) rfl)) (hw _ (List.mem_of_getElem? (i := 180) rfl)) (hw _ (List.mem_of_getElem? (i := 180) rfl)) (hw _ (List.mem_of_getElem? (i := 179) rfl)) (by decide) (StrA.chr (wd := 0) S10 (linT_lat sT.2.1 sD.2.1 sS.2.1 sG.2.1) W51.1.2.2.2.1 hw (hw _ (List.mem_of_getElem? (i := 5) rfl)) F44 hz F46 rfm (by decide) (by decide) (i := (((nT + 4) + nD))) (j := (Int32.ofNat ((nT + 4) + nD))) (by omega) rfl) S10.1 (hb hby at_389) (pc' := 392) rfl hml (argsL := [(.int (Int32.ofNat ((nT + 4) + nD)))]) rfl (lenOf pd_32dd484b rfl) rfl (Nat.le_of_ble_eq_true rfl) (by decide) (by decide) (fun _ _ _ q => pu_nil q) ?_
    intro T52 L52 N52
    have W52 := W51.same N52
    show Go p e below _ T52 (mkF m 392 #[.val (.int p1), .val (.int p2), .val (.int p3), .val (.int p4), .val (.int p5), .val (.int p6), .val (.int (Int32.ofNat nT)), .val (.int (Int32.ofNat nD)), .val (.int (Int32.ofNat nS)), .val (.int (Int32.ofNat nG)), .val (.ref a1), .val (.ref a2), .val (.ref a4), .val (.ref a7), .val (.ref r10), .val (.long (Int64.ofNat (mag p3))), .second, .val (.int (Int32.ofNat (SBG.digits (mag p3)))), .val (.int (1 : Int32)), .val (.int (Int32.ofNat (((((((((nT + 4) + nD) + 1) + 1) + (SBG.digits (mag p3))) + 1) + nS) + 1) + nG))), .val (.int (1 : Int32)), .val (.int (Int32.ofNat (nT + 4))), .unset, .unset, .unset, .unset] [(.int ((linT (strF p1 (Int32.ofNat nT)) (strF p2 (Int32.ofNat nD)) p3 (strF p4 (Int32.ofNat nS)) (strF p5 (Int32.ofNat nG))).getD (((nT + 4) + nD)) 0))])
    refine W52.1.bipush (32 : Int32) (hb hby at_392) rfl (pc' := 394) rfl ?_
    refine W52.1.icmpNo (hb hby at_394) (XT.ii_ne_f (lin_4 (by omega))) (pc' := 397) rfl ?_
    refine W52.1.iconst (1 : Int32) (hb hby at_397) rfl (pc' := 398) rfl ?_
    refine W52.1.goto (hb hby at_398) (by decide) (pc' := 402) (by decide) ?_
    refine W52.1.istore (Ls' := #[.val (.int p1), .val (.int p2), .val (.int p3), .val (.int p4), .val (.int p5), .val (.int p6), .val (.int (Int32.ofNat nT)), .val (.int (Int32.ofNat nD)), .val (.int (Int32.ofNat nS)), .val (.int (Int32.ofNat nG)), .val (.ref a1), .val (.ref a2), .val (.ref a4), .val (.ref a7), .val (.ref r10), .val (.long (Int64.ofNat (mag p3))), .second, .val (.int (Int32.ofNat (SBG.digits (mag p3)))), .val (.int (1 : Int32)), .val (.int (Int32.ofNat (((((((((nT + 4) + nD) + 1) + 1) + (SBG.digits (mag p3))) + 1) + nS) + 1) + nG))), .val (.int (1 : Int32)), .val (.int (Int32.ofNat (nT + 4))), .unset, .unset, .unset, .unset]) (hb hby at_402) rfl (pc' := 404) rfl ?_
    refine W52.1.iload (hb hby at_404) rfl (pc' := 406) rfl ?_
    refine W52.1.iload (hb hby at_406) rfl (pc' := 408) rfl ?_
    refine W52.1.iadd (hb hby at_408) (pc' := 409) rfl ?_
    rw [show (Int32.ofNat (nT + 4)) + (Int32.ofNat nD) = Int32.ofNat ((nT + 4) + nD) from ofNat_add ((nT + 4)) (nD)]
    refine W52.1.iconst (1 : Int32) (hb hby at_409) rfl (pc' := 410) rfl ?_
    refine W52.1.iadd (hb hby at_410) (pc' := 411) rfl ?_
    rw [show (Int32.ofNat ((nT + 4) + nD)) + (1 : Int32) = Int32.ofNat (((nT + 4) + nD) + 1) from ofNat_add (((nT + 4) + nD)) (1)]
    refine W52.1.istore (Ls' := #[.val (.int p1), .val (.int p2), .val (.int p3), .val (.int p4), .val (.int p5), .val (.int p6), .val (.int (Int32.ofNat nT)), .val (.int (Int32.ofNat nD)), .val (.int (Int32.ofNat nS)), .val (.int (Int32.ofNat nG)), .val (.ref a1), .val (.ref a2), .val (.ref a4), .val (.ref a7), .val (.ref r10), .val (.long (Int64.ofNat (mag p3))), .second, .val (.int (Int32.ofNat (SBG.digits (mag p3)))), .val (.int (1 : Int32)), .val (.int (Int32.ofNat (((((((((nT + 4) + nD) + 1) + 1) + (SBG.digits (mag p3))) + 1) + nS) + 1) + nG))), .val (.int (1 : Int32)), .val (.int (Int32.ofNat (nT + 4))), .val (.int (Int32.ofNat (((nT + 4) + nD) + 1))), .unset, .unset, .unset]) (hb hby at_411) rfl (pc' := 413) rfl ?_
    refine W52.1.iload (hb hby at_413) rfl (pc' := 415) rfl ?_
    refine W52.1.ifNo (hb hby at_415) (XT.i0_eq_f (by decide)) (pc' := 418) rfl ?_
    refine W52.1.iload (hb hby at_418) rfl (pc' := 420) rfl ?_
    refine W52.1.ifNo (hb hby at_420) (XT.i0_eq_f (by decide)) (pc' := 423) rfl ?_
    refine W52.1.aload (hb hby at_423) rfl rfl (pc' := 425) rfl ?_
    refine W52.1.iload (hb hby at_425) rfl (pc' := 427) rfl ?_
    refine W52.1.callVP (y := (⟨"java/lang/String", "charAt", "(I)C"⟩ : MethodName)) (z := (⟨"java/lang/String", "charAt", "(I)C"⟩ : MethodName)) (hw _ (List.mem_of_getElem? (i := 177) rfl)) (hw _ (List.mem_of_getElem? (i := 178) rfl)) (hw _ (List.mem_of_getElem? (i := 180) rfl)) (hw _ (List.mem_of_getElem? (i := 180) rfl)) (hw _ (List.mem_of_getElem? (i := 179) rfl)) (by decide) (StrA.chr (wd := 0) S10 (linT_lat sT.2.1 sD.2.1 sS.2.1 sG.2.1) W52.1.2.2.2.1 hw (hw _ (List.mem_of_getElem? (i := 5) rfl)) F44 hz F46 rfm (by decide) (by decide) (i := ((((nT + 4) + nD) + 1))) (j := (Int32.ofNat (((nT + 4) + nD) + 1))) (by omega) rfl) S10.1 (hb hby at_427) (pc' := 430) rfl hml (argsL := [(.int (Int32.ofNat (((nT + 4) + nD) + 1)))]) rfl (lenOf pd_32dd484b rfl) rfl (Nat.le_of_ble_eq_true rfl) (by decide) (by decide) (fun _ _ _ q => pu_nil q) ?_
    intro T53 L53 N53
    have W53 := W52.same N53
    show Go p e below _ T53 (mkF m 430 #[.val (.int p1), .val (.int p2), .val (.int p3), .val (.int p4), .val (.int p5), .val (.int p6), .val (.int (Int32.ofNat nT)), .val (.int (Int32.ofNat nD)), .val (.int (Int32.ofNat nS)), .val (.int (Int32.ofNat nG)), .val (.ref a1), .val (.ref a2), .val (.ref a4), .val (.ref a7), .val (.ref r10), .val (.long (Int64.ofNat (mag p3))), .second, .val (.int (Int32.ofNat (SBG.digits (mag p3)))), .val (.int (1 : Int32)), .val (.int (Int32.ofNat (((((((((nT + 4) + nD) + 1) + 1) + (SBG.digits (mag p3))) + 1) + nS) + 1) + nG))), .val (.int (1 : Int32)), .val (.int (Int32.ofNat (nT + 4))), .val (.int (Int32.ofNat (((nT + 4) + nD) + 1))), .unset, .unset, .unset] [(.int ((linT (strF p1 (Int32.ofNat nT)) (strF p2 (Int32.ofNat nD)) p3 (strF p4 (Int32.ofNat nS)) (strF p5 (Int32.ofNat nG))).getD ((((nT + 4) + nD) + 1)) 0))])
    refine W53.1.bipush (45 : Int32) (hb hby at_430) rfl (pc' := 432) rfl ?_
    refine W53.1.icmpNo (hb hby at_432) (XT.ii_ne_f ((lin_5 0 (by omega) (by omega)).trans (itx_sign hc41))) (pc' := 435) rfl ?_
    refine W53.1.iconst (1 : Int32) (hb hby at_435) rfl (pc' := 436) rfl ?_
    refine W53.1.goto (hb hby at_436) (by decide) (pc' := 440) (by decide) ?_
    refine W53.1.istore (Ls' := #[.val (.int p1), .val (.int p2), .val (.int p3), .val (.int p4), .val (.int p5), .val (.int p6), .val (.int (Int32.ofNat nT)), .val (.int (Int32.ofNat nD)), .val (.int (Int32.ofNat nS)), .val (.int (Int32.ofNat nG)), .val (.ref a1), .val (.ref a2), .val (.ref a4), .val (.ref a7), .val (.ref r10), .val (.long (Int64.ofNat (mag p3))), .second, .val (.int (Int32.ofNat (SBG.digits (mag p3)))), .val (.int (1 : Int32)), .val (.int (Int32.ofNat (((((((((nT + 4) + nD) + 1) + 1) + (SBG.digits (mag p3))) + 1) + nS) + 1) + nG))), .val (.int (1 : Int32)), .val (.int (Int32.ofNat (nT + 4))), .val (.int (Int32.ofNat (((nT + 4) + nD) + 1))), .unset, .unset, .unset]) (hb hby at_440) rfl (pc' := 442) rfl ?_
    refine W53.1.iload (hb hby at_442) rfl (pc' := 444) rfl ?_
    refine W53.1.iload (hb hby at_444) rfl (pc' := 446) rfl ?_
    refine W53.1.iadd (hb hby at_446) (pc' := 447) rfl ?_
    rw [show (Int32.ofNat (((nT + 4) + nD) + 1)) + (1 : Int32) = Int32.ofNat ((((nT + 4) + nD) + 1) + 1) from ofNat_add ((((nT + 4) + nD) + 1)) (1)]
    refine W53.1.iload (hb hby at_447) rfl (pc' := 449) rfl ?_
    refine W53.1.iadd (hb hby at_449) (pc' := 450) rfl ?_
    rw [show (Int32.ofNat ((((nT + 4) + nD) + 1) + 1)) + (Int32.ofNat (SBG.digits (mag p3))) = Int32.ofNat (((((nT + 4) + nD) + 1) + 1) + (SBG.digits (mag p3))) from ofNat_add (((((nT + 4) + nD) + 1) + 1)) ((SBG.digits (mag p3)))]
    refine W53.1.istore (Ls' := #[.val (.int p1), .val (.int p2), .val (.int p3), .val (.int p4), .val (.int p5), .val (.int p6), .val (.int (Int32.ofNat nT)), .val (.int (Int32.ofNat nD)), .val (.int (Int32.ofNat nS)), .val (.int (Int32.ofNat nG)), .val (.ref a1), .val (.ref a2), .val (.ref a4), .val (.ref a7), .val (.ref r10), .val (.long (Int64.ofNat (mag p3))), .second, .val (.int (Int32.ofNat (SBG.digits (mag p3)))), .val (.int (1 : Int32)), .val (.int (Int32.ofNat (((((((((nT + 4) + nD) + 1) + 1) + (SBG.digits (mag p3))) + 1) + nS) + 1) + nG))), .val (.int (1 : Int32)), .val (.int (Int32.ofNat (nT + 4))), .val (.int (Int32.ofNat (((nT + 4) + nD) + 1))), .val (.int (Int32.ofNat (((((nT + 4) + nD) + 1) + 1) + (SBG.digits (mag p3))))), .unset, .unset]) (hb hby at_450) rfl (pc' := 452) rfl ?_
    refine W53.1.iload (hb hby at_452) rfl (pc' := 454) rfl ?_
    refine W53.1.ifNo (hb hby at_454) (XT.i0_eq_f (by decide)) (pc' := 457) rfl ?_
    refine W53.1.aload (hb hby at_457) rfl rfl (pc' := 459) rfl ?_
    refine W53.1.iload (hb hby at_459) rfl (pc' := 461) rfl ?_
    refine W53.1.lload (hb hby at_461) rfl (pc' := 463) rfl ?_
    refine W53.1.iload (hb hby at_463) rfl (pc' := 465) rfl ?_
    refine W53.1.iconst (0 : Int32) (hb hby at_465) rfl (pc' := 466) rfl ?_
    refine W53.1.lconst (1 : Int64) (hb hby at_466) rfl (pc' := 467) rfl ?_
    refine W53.1.callSP (hw _ (List.mem_of_getElem? (i := 199) rfl)) (hw _ (List.mem_of_getElem? (i := 200) rfl)) (hw _ (List.mem_of_getElem? (i := 2) rfl)) (hw _ (List.mem_of_getElem? (i := 201) rfl)) (by decide) (NM.bk (wd := 0) (rmDK l Z a0 hw r10 (linT (strF p1 (Int32.ofNat nT)) (strF p2 (Int32.ofNat nD)) p3 (strF p4 (Int32.ofNat nS)) (strF p5 (Int32.ofNat nG))) ((((((nT + 4) + nD) + 1) + 1) + (SBG.digits (mag p3)))) (SBG.digits (mag p3)) 0 (mag p3) zc fm h10 n0 W53.1.n0h S10 (linT_lat sT.2.1 sD.2.1 sS.2.1 sG.2.1) (mag_le p3) (by omega) (by decide) (by omega) (by omega) (by omega) (fun h => (lin_5 ((itx p3).length - 1 - 0) (by omega) (by omega)).trans (itx_end h)) F44 hz F46 rfm) W53.1.2.2.2.1 (hw _ (List.mem_of_getElem? (i := 201) rfl)) (hw _ (List.mem_of_getElem? (i := 2) rfl)) (by decide) (by decide)) (hb hby at_467) (pc' := 470) rfl hml (argsL := [(.ref r10), (.int (Int32.ofNat (((((nT + 4) + nD) + 1) + 1) + (SBG.digits (mag p3))))), (.long (Int64.ofNat (mag p3))), (.int (Int32.ofNat (SBG.digits (mag p3)))), (.int (0 : Int32)), (.long (1 : Int64))]) rfl (lenOf pd_27029474 rfl) rfl (Nat.le_of_ble_eq_true rfl) (by decide) (by decide) (fun _ _ _ q => pu_of q) ?_
    intro T54 L54 N54
    have W54 := W53.same N54
    show Go p e below _ T54 (mkF m 470 #[.val (.int p1), .val (.int p2), .val (.int p3), .val (.int p4), .val (.int p5), .val (.int p6), .val (.int (Int32.ofNat nT)), .val (.int (Int32.ofNat nD)), .val (.int (Int32.ofNat nS)), .val (.int (Int32.ofNat nG)), .val (.ref a1), .val (.ref a2), .val (.ref a4), .val (.ref a7), .val (.ref r10), .val (.long (Int64.ofNat (mag p3))), .second, .val (.int (Int32.ofNat (SBG.digits (mag p3)))), .val (.int (1 : Int32)), .val (.int (Int32.ofNat (((((((((nT + 4) + nD) + 1) + 1) + (SBG.digits (mag p3))) + 1) + nS) + 1) + nG))), .val (.int (1 : Int32)), .val (.int (Int32.ofNat (nT + 4))), .val (.int (Int32.ofNat (((nT + 4) + nD) + 1))), .val (.int (Int32.ofNat (((((nT + 4) + nD) + 1) + 1) + (SBG.digits (mag p3))))), .unset, .unset] [(.int (1 : Int32))])
    refine W54.1.ifNo (hb hby at_470) (XT.i0_eq_f (by decide)) (pc' := 473) rfl ?_
    refine W54.1.aload (hb hby at_473) rfl rfl (pc' := 475) rfl ?_
    refine W54.1.iload (hb hby at_475) rfl (pc' := 477) rfl ?_
    refine W54.1.lload (hb hby at_477) rfl (pc' := 479) rfl ?_
    refine W54.1.iload (hb hby at_479) rfl (pc' := 481) rfl ?_
    refine W54.1.iconst (1 : Int32) (hb hby at_481) rfl (pc' := 482) rfl ?_
    refine W54.1.ldc2J (hb hby at_482) (hw _ (List.mem_of_getElem? (i := 164) rfl)) (pc' := 485) rfl ?_
    refine W54.1.callSP (hw _ (List.mem_of_getElem? (i := 199) rfl)) (hw _ (List.mem_of_getElem? (i := 200) rfl)) (hw _ (List.mem_of_getElem? (i := 2) rfl)) (hw _ (List.mem_of_getElem? (i := 201) rfl)) (by decide) (NM.bk (wd := 0) (rmDK l Z a0 hw r10 (linT (strF p1 (Int32.ofNat nT)) (strF p2 (Int32.ofNat nD)) p3 (strF p4 (Int32.ofNat nS)) (strF p5 (Int32.ofNat nG))) ((((((nT + 4) + nD) + 1) + 1) + (SBG.digits (mag p3)))) (SBG.digits (mag p3)) 1 (mag p3) zc fm h10 n0 W54.1.n0h S10 (linT_lat sT.2.1 sD.2.1 sS.2.1 sG.2.1) (mag_le p3) (by omega) (by decide) (by omega) (by omega) (by omega) (fun h => (lin_5 ((itx p3).length - 1 - 1) (by omega) (by omega)).trans (itx_end h)) F44 hz F46 rfm) W54.1.2.2.2.1 (hw _ (List.mem_of_getElem? (i := 201) rfl)) (hw _ (List.mem_of_getElem? (i := 2) rfl)) (by decide) (by decide)) (hb hby at_485) (pc' := 488) rfl hml (argsL := [(.ref r10), (.int (Int32.ofNat (((((nT + 4) + nD) + 1) + 1) + (SBG.digits (mag p3))))), (.long (Int64.ofNat (mag p3))), (.int (Int32.ofNat (SBG.digits (mag p3)))), (.int (1 : Int32)), (.long (10 : Int64))]) rfl (lenOf pd_27029474 rfl) rfl (Nat.le_of_ble_eq_true rfl) (by decide) (by decide) (fun _ _ _ q => pu_of q) ?_
    intro T55 L55 N55
    have W55 := W54.same N55
    show Go p e below _ T55 (mkF m 488 #[.val (.int p1), .val (.int p2), .val (.int p3), .val (.int p4), .val (.int p5), .val (.int p6), .val (.int (Int32.ofNat nT)), .val (.int (Int32.ofNat nD)), .val (.int (Int32.ofNat nS)), .val (.int (Int32.ofNat nG)), .val (.ref a1), .val (.ref a2), .val (.ref a4), .val (.ref a7), .val (.ref r10), .val (.long (Int64.ofNat (mag p3))), .second, .val (.int (Int32.ofNat (SBG.digits (mag p3)))), .val (.int (1 : Int32)), .val (.int (Int32.ofNat (((((((((nT + 4) + nD) + 1) + 1) + (SBG.digits (mag p3))) + 1) + nS) + 1) + nG))), .val (.int (1 : Int32)), .val (.int (Int32.ofNat (nT + 4))), .val (.int (Int32.ofNat (((nT + 4) + nD) + 1))), .val (.int (Int32.ofNat (((((nT + 4) + nD) + 1) + 1) + (SBG.digits (mag p3))))), .unset, .unset] [(.int (1 : Int32))])
    refine W55.1.ifNo (hb hby at_488) (XT.i0_eq_f (by decide)) (pc' := 491) rfl ?_
    refine W55.1.aload (hb hby at_491) rfl rfl (pc' := 493) rfl ?_
    refine W55.1.iload (hb hby at_493) rfl (pc' := 495) rfl ?_
    refine W55.1.lload (hb hby at_495) rfl (pc' := 497) rfl ?_
    refine W55.1.iload (hb hby at_497) rfl (pc' := 499) rfl ?_
    refine W55.1.iconst (2 : Int32) (hb hby at_499) rfl (pc' := 500) rfl ?_
    refine W55.1.ldc2J (hb hby at_500) (hw _ (List.mem_of_getElem? (i := 165) rfl)) (pc' := 503) rfl ?_
    refine W55.1.callSP (hw _ (List.mem_of_getElem? (i := 199) rfl)) (hw _ (List.mem_of_getElem? (i := 200) rfl)) (hw _ (List.mem_of_getElem? (i := 2) rfl)) (hw _ (List.mem_of_getElem? (i := 201) rfl)) (by decide) (NM.bk (wd := 0) (rmDK l Z a0 hw r10 (linT (strF p1 (Int32.ofNat nT)) (strF p2 (Int32.ofNat nD)) p3 (strF p4 (Int32.ofNat nS)) (strF p5 (Int32.ofNat nG))) ((((((nT + 4) + nD) + 1) + 1) + (SBG.digits (mag p3)))) (SBG.digits (mag p3)) 2 (mag p3) zc fm h10 n0 W55.1.n0h S10 (linT_lat sT.2.1 sD.2.1 sS.2.1 sG.2.1) (mag_le p3) (by omega) (by decide) (by omega) (by omega) (by omega) (fun h => (lin_5 ((itx p3).length - 1 - 2) (by omega) (by omega)).trans (itx_end h)) F44 hz F46 rfm) W55.1.2.2.2.1 (hw _ (List.mem_of_getElem? (i := 201) rfl)) (hw _ (List.mem_of_getElem? (i := 2) rfl)) (by decide) (by decide)) (hb hby at_503) (pc' := 506) rfl hml (argsL := [(.ref r10), (.int (Int32.ofNat (((((nT + 4) + nD) + 1) + 1) + (SBG.digits (mag p3))))), (.long (Int64.ofNat (mag p3))), (.int (Int32.ofNat (SBG.digits (mag p3)))), (.int (2 : Int32)), (.long (100 : Int64))]) rfl (lenOf pd_27029474 rfl) rfl (Nat.le_of_ble_eq_true rfl) (by decide) (by decide) (fun _ _ _ q => pu_of q) ?_
    intro T56 L56 N56
    have W56 := W55.same N56
    show Go p e below _ T56 (mkF m 506 #[.val (.int p1), .val (.int p2), .val (.int p3), .val (.int p4), .val (.int p5), .val (.int p6), .val (.int (Int32.ofNat nT)), .val (.int (Int32.ofNat nD)), .val (.int (Int32.ofNat nS)), .val (.int (Int32.ofNat nG)), .val (.ref a1), .val (.ref a2), .val (.ref a4), .val (.ref a7), .val (.ref r10), .val (.long (Int64.ofNat (mag p3))), .second, .val (.int (Int32.ofNat (SBG.digits (mag p3)))), .val (.int (1 : Int32)), .val (.int (Int32.ofNat (((((((((nT + 4) + nD) + 1) + 1) + (SBG.digits (mag p3))) + 1) + nS) + 1) + nG))), .val (.int (1 : Int32)), .val (.int (Int32.ofNat (nT + 4))), .val (.int (Int32.ofNat (((nT + 4) + nD) + 1))), .val (.int (Int32.ofNat (((((nT + 4) + nD) + 1) + 1) + (SBG.digits (mag p3))))), .unset, .unset] [(.int (1 : Int32))])
    refine W56.1.ifNo (hb hby at_506) (XT.i0_eq_f (by decide)) (pc' := 509) rfl ?_
    refine W56.1.aload (hb hby at_509) rfl rfl (pc' := 511) rfl ?_
    refine W56.1.iload (hb hby at_511) rfl (pc' := 513) rfl ?_
    refine W56.1.lload (hb hby at_513) rfl (pc' := 515) rfl ?_
    refine W56.1.iload (hb hby at_515) rfl (pc' := 517) rfl ?_
    refine W56.1.iconst (3 : Int32) (hb hby at_517) rfl (pc' := 518) rfl ?_
    refine W56.1.ldc2J (hb hby at_518) (hw _ (List.mem_of_getElem? (i := 166) rfl)) (pc' := 521) rfl ?_
    refine W56.1.callSP (hw _ (List.mem_of_getElem? (i := 199) rfl)) (hw _ (List.mem_of_getElem? (i := 200) rfl)) (hw _ (List.mem_of_getElem? (i := 2) rfl)) (hw _ (List.mem_of_getElem? (i := 201) rfl)) (by decide) (NM.bk (wd := 0) (rmDK l Z a0 hw r10 (linT (strF p1 (Int32.ofNat nT)) (strF p2 (Int32.ofNat nD)) p3 (strF p4 (Int32.ofNat nS)) (strF p5 (Int32.ofNat nG))) ((((((nT + 4) + nD) + 1) + 1) + (SBG.digits (mag p3)))) (SBG.digits (mag p3)) 3 (mag p3) zc fm h10 n0 W56.1.n0h S10 (linT_lat sT.2.1 sD.2.1 sS.2.1 sG.2.1) (mag_le p3) (by omega) (by decide) (by omega) (by omega) (by omega) (fun h => (lin_5 ((itx p3).length - 1 - 3) (by omega) (by omega)).trans (itx_end h)) F44 hz F46 rfm) W56.1.2.2.2.1 (hw _ (List.mem_of_getElem? (i := 201) rfl)) (hw _ (List.mem_of_getElem? (i := 2) rfl)) (by decide) (by decide)) (hb hby at_521) (pc' := 524) rfl hml (argsL := [(.ref r10), (.int (Int32.ofNat (((((nT + 4) + nD) + 1) + 1) + (SBG.digits (mag p3))))), (.long (Int64.ofNat (mag p3))), (.int (Int32.ofNat (SBG.digits (mag p3)))), (.int (3 : Int32)), (.long (1000 : Int64))]) rfl (lenOf pd_27029474 rfl) rfl (Nat.le_of_ble_eq_true rfl) (by decide) (by decide) (fun _ _ _ q => pu_of q) ?_
    intro T57 L57 N57
    have W57 := W56.same N57
    show Go p e below _ T57 (mkF m 524 #[.val (.int p1), .val (.int p2), .val (.int p3), .val (.int p4), .val (.int p5), .val (.int p6), .val (.int (Int32.ofNat nT)), .val (.int (Int32.ofNat nD)), .val (.int (Int32.ofNat nS)), .val (.int (Int32.ofNat nG)), .val (.ref a1), .val (.ref a2), .val (.ref a4), .val (.ref a7), .val (.ref r10), .val (.long (Int64.ofNat (mag p3))), .second, .val (.int (Int32.ofNat (SBG.digits (mag p3)))), .val (.int (1 : Int32)), .val (.int (Int32.ofNat (((((((((nT + 4) + nD) + 1) + 1) + (SBG.digits (mag p3))) + 1) + nS) + 1) + nG))), .val (.int (1 : Int32)), .val (.int (Int32.ofNat (nT + 4))), .val (.int (Int32.ofNat (((nT + 4) + nD) + 1))), .val (.int (Int32.ofNat (((((nT + 4) + nD) + 1) + 1) + (SBG.digits (mag p3))))), .unset, .unset] [(.int (1 : Int32))])
    refine W57.1.ifNo (hb hby at_524) (XT.i0_eq_f (by decide)) (pc' := 527) rfl ?_
    refine W57.1.aload (hb hby at_527) rfl rfl (pc' := 529) rfl ?_
    refine W57.1.iload (hb hby at_529) rfl (pc' := 531) rfl ?_
    refine W57.1.lload (hb hby at_531) rfl (pc' := 533) rfl ?_
    refine W57.1.iload (hb hby at_533) rfl (pc' := 535) rfl ?_
    refine W57.1.iconst (4 : Int32) (hb hby at_535) rfl (pc' := 536) rfl ?_
    refine W57.1.ldc2J (hb hby at_536) (hw _ (List.mem_of_getElem? (i := 167) rfl)) (pc' := 539) rfl ?_
    refine W57.1.callSP (hw _ (List.mem_of_getElem? (i := 199) rfl)) (hw _ (List.mem_of_getElem? (i := 200) rfl)) (hw _ (List.mem_of_getElem? (i := 2) rfl)) (hw _ (List.mem_of_getElem? (i := 201) rfl)) (by decide) (NM.bk (wd := 0) (rmDK l Z a0 hw r10 (linT (strF p1 (Int32.ofNat nT)) (strF p2 (Int32.ofNat nD)) p3 (strF p4 (Int32.ofNat nS)) (strF p5 (Int32.ofNat nG))) ((((((nT + 4) + nD) + 1) + 1) + (SBG.digits (mag p3)))) (SBG.digits (mag p3)) 4 (mag p3) zc fm h10 n0 W57.1.n0h S10 (linT_lat sT.2.1 sD.2.1 sS.2.1 sG.2.1) (mag_le p3) (by omega) (by decide) (by omega) (by omega) (by omega) (fun h => (lin_5 ((itx p3).length - 1 - 4) (by omega) (by omega)).trans (itx_end h)) F44 hz F46 rfm) W57.1.2.2.2.1 (hw _ (List.mem_of_getElem? (i := 201) rfl)) (hw _ (List.mem_of_getElem? (i := 2) rfl)) (by decide) (by decide)) (hb hby at_539) (pc' := 542) rfl hml (argsL := [(.ref r10), (.int (Int32.ofNat (((((nT + 4) + nD) + 1) + 1) + (SBG.digits (mag p3))))), (.long (Int64.ofNat (mag p3))), (.int (Int32.ofNat (SBG.digits (mag p3)))), (.int (4 : Int32)), (.long (10000 : Int64))]) rfl (lenOf pd_27029474 rfl) rfl (Nat.le_of_ble_eq_true rfl) (by decide) (by decide) (fun _ _ _ q => pu_of q) ?_
    intro T58 L58 N58
    have W58 := W57.same N58
    show Go p e below _ T58 (mkF m 542 #[.val (.int p1), .val (.int p2), .val (.int p3), .val (.int p4), .val (.int p5), .val (.int p6), .val (.int (Int32.ofNat nT)), .val (.int (Int32.ofNat nD)), .val (.int (Int32.ofNat nS)), .val (.int (Int32.ofNat nG)), .val (.ref a1), .val (.ref a2), .val (.ref a4), .val (.ref a7), .val (.ref r10), .val (.long (Int64.ofNat (mag p3))), .second, .val (.int (Int32.ofNat (SBG.digits (mag p3)))), .val (.int (1 : Int32)), .val (.int (Int32.ofNat (((((((((nT + 4) + nD) + 1) + 1) + (SBG.digits (mag p3))) + 1) + nS) + 1) + nG))), .val (.int (1 : Int32)), .val (.int (Int32.ofNat (nT + 4))), .val (.int (Int32.ofNat (((nT + 4) + nD) + 1))), .val (.int (Int32.ofNat (((((nT + 4) + nD) + 1) + 1) + (SBG.digits (mag p3))))), .unset, .unset] [(.int (1 : Int32))])
    refine W58.1.ifNo (hb hby at_542) (XT.i0_eq_f (by decide)) (pc' := 545) rfl ?_
    refine W58.1.aload (hb hby at_545) rfl rfl (pc' := 547) rfl ?_
    refine W58.1.iload (hb hby at_547) rfl (pc' := 549) rfl ?_
    refine W58.1.lload (hb hby at_549) rfl (pc' := 551) rfl ?_
    refine W58.1.iload (hb hby at_551) rfl (pc' := 553) rfl ?_
    refine W58.1.iconst (5 : Int32) (hb hby at_553) rfl (pc' := 554) rfl ?_
    refine W58.1.ldc2J (hb hby at_554) (hw _ (List.mem_of_getElem? (i := 168) rfl)) (pc' := 557) rfl ?_
    refine W58.1.callSP (hw _ (List.mem_of_getElem? (i := 199) rfl)) (hw _ (List.mem_of_getElem? (i := 200) rfl)) (hw _ (List.mem_of_getElem? (i := 2) rfl)) (hw _ (List.mem_of_getElem? (i := 201) rfl)) (by decide) (NM.bk (wd := 0) (rmDK l Z a0 hw r10 (linT (strF p1 (Int32.ofNat nT)) (strF p2 (Int32.ofNat nD)) p3 (strF p4 (Int32.ofNat nS)) (strF p5 (Int32.ofNat nG))) ((((((nT + 4) + nD) + 1) + 1) + (SBG.digits (mag p3)))) (SBG.digits (mag p3)) 5 (mag p3) zc fm h10 n0 W58.1.n0h S10 (linT_lat sT.2.1 sD.2.1 sS.2.1 sG.2.1) (mag_le p3) (by omega) (by decide) (by omega) (by omega) (by omega) (fun h => (lin_5 ((itx p3).length - 1 - 5) (by omega) (by omega)).trans (itx_end h)) F44 hz F46 rfm) W58.1.2.2.2.1 (hw _ (List.mem_of_getElem? (i := 201) rfl)) (hw _ (List.mem_of_getElem? (i := 2) rfl)) (by decide) (by decide)) (hb hby at_557) (pc' := 560) rfl hml (argsL := [(.ref r10), (.int (Int32.ofNat (((((nT + 4) + nD) + 1) + 1) + (SBG.digits (mag p3))))), (.long (Int64.ofNat (mag p3))), (.int (Int32.ofNat (SBG.digits (mag p3)))), (.int (5 : Int32)), (.long (100000 : Int64))]) rfl (lenOf pd_27029474 rfl) rfl (Nat.le_of_ble_eq_true rfl) (by decide) (by decide) (fun _ _ _ q => pu_of q) ?_
    intro T59 L59 N59
    have W59 := W58.same N59
    show Go p e below _ T59 (mkF m 560 #[.val (.int p1), .val (.int p2), .val (.int p3), .val (.int p4), .val (.int p5), .val (.int p6), .val (.int (Int32.ofNat nT)), .val (.int (Int32.ofNat nD)), .val (.int (Int32.ofNat nS)), .val (.int (Int32.ofNat nG)), .val (.ref a1), .val (.ref a2), .val (.ref a4), .val (.ref a7), .val (.ref r10), .val (.long (Int64.ofNat (mag p3))), .second, .val (.int (Int32.ofNat (SBG.digits (mag p3)))), .val (.int (1 : Int32)), .val (.int (Int32.ofNat (((((((((nT + 4) + nD) + 1) + 1) + (SBG.digits (mag p3))) + 1) + nS) + 1) + nG))), .val (.int (1 : Int32)), .val (.int (Int32.ofNat (nT + 4))), .val (.int (Int32.ofNat (((nT + 4) + nD) + 1))), .val (.int (Int32.ofNat (((((nT + 4) + nD) + 1) + 1) + (SBG.digits (mag p3))))), .unset, .unset] [(.int (1 : Int32))])
    refine W59.1.ifNo (hb hby at_560) (XT.i0_eq_f (by decide)) (pc' := 563) rfl ?_
    refine W59.1.aload (hb hby at_563) rfl rfl (pc' := 565) rfl ?_
    refine W59.1.iload (hb hby at_565) rfl (pc' := 567) rfl ?_
    refine W59.1.lload (hb hby at_567) rfl (pc' := 569) rfl ?_
    refine W59.1.iload (hb hby at_569) rfl (pc' := 571) rfl ?_
    refine W59.1.bipush (6 : Int32) (hb hby at_571) rfl (pc' := 573) rfl ?_
    refine W59.1.ldc2J (hb hby at_573) (hw _ (List.mem_of_getElem? (i := 169) rfl)) (pc' := 576) rfl ?_
    refine W59.1.callSP (hw _ (List.mem_of_getElem? (i := 199) rfl)) (hw _ (List.mem_of_getElem? (i := 200) rfl)) (hw _ (List.mem_of_getElem? (i := 2) rfl)) (hw _ (List.mem_of_getElem? (i := 201) rfl)) (by decide) (NM.bk (wd := 0) (rmDK l Z a0 hw r10 (linT (strF p1 (Int32.ofNat nT)) (strF p2 (Int32.ofNat nD)) p3 (strF p4 (Int32.ofNat nS)) (strF p5 (Int32.ofNat nG))) ((((((nT + 4) + nD) + 1) + 1) + (SBG.digits (mag p3)))) (SBG.digits (mag p3)) 6 (mag p3) zc fm h10 n0 W59.1.n0h S10 (linT_lat sT.2.1 sD.2.1 sS.2.1 sG.2.1) (mag_le p3) (by omega) (by decide) (by omega) (by omega) (by omega) (fun h => (lin_5 ((itx p3).length - 1 - 6) (by omega) (by omega)).trans (itx_end h)) F44 hz F46 rfm) W59.1.2.2.2.1 (hw _ (List.mem_of_getElem? (i := 201) rfl)) (hw _ (List.mem_of_getElem? (i := 2) rfl)) (by decide) (by decide)) (hb hby at_576) (pc' := 579) rfl hml (argsL := [(.ref r10), (.int (Int32.ofNat (((((nT + 4) + nD) + 1) + 1) + (SBG.digits (mag p3))))), (.long (Int64.ofNat (mag p3))), (.int (Int32.ofNat (SBG.digits (mag p3)))), (.int (6 : Int32)), (.long (1000000 : Int64))]) rfl (lenOf pd_27029474 rfl) rfl (Nat.le_of_ble_eq_true rfl) (by decide) (by decide) (fun _ _ _ q => pu_of q) ?_
    intro T60 L60 N60
    have W60 := W59.same N60
    show Go p e below _ T60 (mkF m 579 #[.val (.int p1), .val (.int p2), .val (.int p3), .val (.int p4), .val (.int p5), .val (.int p6), .val (.int (Int32.ofNat nT)), .val (.int (Int32.ofNat nD)), .val (.int (Int32.ofNat nS)), .val (.int (Int32.ofNat nG)), .val (.ref a1), .val (.ref a2), .val (.ref a4), .val (.ref a7), .val (.ref r10), .val (.long (Int64.ofNat (mag p3))), .second, .val (.int (Int32.ofNat (SBG.digits (mag p3)))), .val (.int (1 : Int32)), .val (.int (Int32.ofNat (((((((((nT + 4) + nD) + 1) + 1) + (SBG.digits (mag p3))) + 1) + nS) + 1) + nG))), .val (.int (1 : Int32)), .val (.int (Int32.ofNat (nT + 4))), .val (.int (Int32.ofNat (((nT + 4) + nD) + 1))), .val (.int (Int32.ofNat (((((nT + 4) + nD) + 1) + 1) + (SBG.digits (mag p3))))), .unset, .unset] [(.int (1 : Int32))])
    refine W60.1.ifNo (hb hby at_579) (XT.i0_eq_f (by decide)) (pc' := 582) rfl ?_
    refine W60.1.aload (hb hby at_582) rfl rfl (pc' := 584) rfl ?_
    refine W60.1.iload (hb hby at_584) rfl (pc' := 586) rfl ?_
    refine W60.1.lload (hb hby at_586) rfl (pc' := 588) rfl ?_
    refine W60.1.iload (hb hby at_588) rfl (pc' := 590) rfl ?_
    refine W60.1.bipush (7 : Int32) (hb hby at_590) rfl (pc' := 592) rfl ?_
    refine W60.1.ldc2J (hb hby at_592) (hw _ (List.mem_of_getElem? (i := 170) rfl)) (pc' := 595) rfl ?_
    refine W60.1.callSP (hw _ (List.mem_of_getElem? (i := 199) rfl)) (hw _ (List.mem_of_getElem? (i := 200) rfl)) (hw _ (List.mem_of_getElem? (i := 2) rfl)) (hw _ (List.mem_of_getElem? (i := 201) rfl)) (by decide) (NM.bk (wd := 0) (rmDK l Z a0 hw r10 (linT (strF p1 (Int32.ofNat nT)) (strF p2 (Int32.ofNat nD)) p3 (strF p4 (Int32.ofNat nS)) (strF p5 (Int32.ofNat nG))) ((((((nT + 4) + nD) + 1) + 1) + (SBG.digits (mag p3)))) (SBG.digits (mag p3)) 7 (mag p3) zc fm h10 n0 W60.1.n0h S10 (linT_lat sT.2.1 sD.2.1 sS.2.1 sG.2.1) (mag_le p3) (by omega) (by decide) (by omega) (by omega) (by omega) (fun h => (lin_5 ((itx p3).length - 1 - 7) (by omega) (by omega)).trans (itx_end h)) F44 hz F46 rfm) W60.1.2.2.2.1 (hw _ (List.mem_of_getElem? (i := 201) rfl)) (hw _ (List.mem_of_getElem? (i := 2) rfl)) (by decide) (by decide)) (hb hby at_595) (pc' := 598) rfl hml (argsL := [(.ref r10), (.int (Int32.ofNat (((((nT + 4) + nD) + 1) + 1) + (SBG.digits (mag p3))))), (.long (Int64.ofNat (mag p3))), (.int (Int32.ofNat (SBG.digits (mag p3)))), (.int (7 : Int32)), (.long (10000000 : Int64))]) rfl (lenOf pd_27029474 rfl) rfl (Nat.le_of_ble_eq_true rfl) (by decide) (by decide) (fun _ _ _ q => pu_of q) ?_
    intro T61 L61 N61
    have W61 := W60.same N61
    show Go p e below _ T61 (mkF m 598 #[.val (.int p1), .val (.int p2), .val (.int p3), .val (.int p4), .val (.int p5), .val (.int p6), .val (.int (Int32.ofNat nT)), .val (.int (Int32.ofNat nD)), .val (.int (Int32.ofNat nS)), .val (.int (Int32.ofNat nG)), .val (.ref a1), .val (.ref a2), .val (.ref a4), .val (.ref a7), .val (.ref r10), .val (.long (Int64.ofNat (mag p3))), .second, .val (.int (Int32.ofNat (SBG.digits (mag p3)))), .val (.int (1 : Int32)), .val (.int (Int32.ofNat (((((((((nT + 4) + nD) + 1) + 1) + (SBG.digits (mag p3))) + 1) + nS) + 1) + nG))), .val (.int (1 : Int32)), .val (.int (Int32.ofNat (nT + 4))), .val (.int (Int32.ofNat (((nT + 4) + nD) + 1))), .val (.int (Int32.ofNat (((((nT + 4) + nD) + 1) + 1) + (SBG.digits (mag p3))))), .unset, .unset] [(.int (1 : Int32))])
    refine W61.1.ifNo (hb hby at_598) (XT.i0_eq_f (by decide)) (pc' := 601) rfl ?_
    refine W61.1.aload (hb hby at_601) rfl rfl (pc' := 603) rfl ?_
    refine W61.1.iload (hb hby at_603) rfl (pc' := 605) rfl ?_
    refine W61.1.lload (hb hby at_605) rfl (pc' := 607) rfl ?_
    refine W61.1.iload (hb hby at_607) rfl (pc' := 609) rfl ?_
    refine W61.1.bipush (8 : Int32) (hb hby at_609) rfl (pc' := 611) rfl ?_
    refine W61.1.ldc2J (hb hby at_611) (hw _ (List.mem_of_getElem? (i := 171) rfl)) (pc' := 614) rfl ?_
    refine W61.1.callSP (hw _ (List.mem_of_getElem? (i := 199) rfl)) (hw _ (List.mem_of_getElem? (i := 200) rfl)) (hw _ (List.mem_of_getElem? (i := 2) rfl)) (hw _ (List.mem_of_getElem? (i := 201) rfl)) (by decide) (NM.bk (wd := 0) (rmDK l Z a0 hw r10 (linT (strF p1 (Int32.ofNat nT)) (strF p2 (Int32.ofNat nD)) p3 (strF p4 (Int32.ofNat nS)) (strF p5 (Int32.ofNat nG))) ((((((nT + 4) + nD) + 1) + 1) + (SBG.digits (mag p3)))) (SBG.digits (mag p3)) 8 (mag p3) zc fm h10 n0 W61.1.n0h S10 (linT_lat sT.2.1 sD.2.1 sS.2.1 sG.2.1) (mag_le p3) (by omega) (by decide) (by omega) (by omega) (by omega) (fun h => (lin_5 ((itx p3).length - 1 - 8) (by omega) (by omega)).trans (itx_end h)) F44 hz F46 rfm) W61.1.2.2.2.1 (hw _ (List.mem_of_getElem? (i := 201) rfl)) (hw _ (List.mem_of_getElem? (i := 2) rfl)) (by decide) (by decide)) (hb hby at_614) (pc' := 617) rfl hml (argsL := [(.ref r10), (.int (Int32.ofNat (((((nT + 4) + nD) + 1) + 1) + (SBG.digits (mag p3))))), (.long (Int64.ofNat (mag p3))), (.int (Int32.ofNat (SBG.digits (mag p3)))), (.int (8 : Int32)), (.long (100000000 : Int64))]) rfl (lenOf pd_27029474 rfl) rfl (Nat.le_of_ble_eq_true rfl) (by decide) (by decide) (fun _ _ _ q => pu_of q) ?_
    intro T62 L62 N62
    have W62 := W61.same N62
    show Go p e below _ T62 (mkF m 617 #[.val (.int p1), .val (.int p2), .val (.int p3), .val (.int p4), .val (.int p5), .val (.int p6), .val (.int (Int32.ofNat nT)), .val (.int (Int32.ofNat nD)), .val (.int (Int32.ofNat nS)), .val (.int (Int32.ofNat nG)), .val (.ref a1), .val (.ref a2), .val (.ref a4), .val (.ref a7), .val (.ref r10), .val (.long (Int64.ofNat (mag p3))), .second, .val (.int (Int32.ofNat (SBG.digits (mag p3)))), .val (.int (1 : Int32)), .val (.int (Int32.ofNat (((((((((nT + 4) + nD) + 1) + 1) + (SBG.digits (mag p3))) + 1) + nS) + 1) + nG))), .val (.int (1 : Int32)), .val (.int (Int32.ofNat (nT + 4))), .val (.int (Int32.ofNat (((nT + 4) + nD) + 1))), .val (.int (Int32.ofNat (((((nT + 4) + nD) + 1) + 1) + (SBG.digits (mag p3))))), .unset, .unset] [(.int (1 : Int32))])
    refine W62.1.ifNo (hb hby at_617) (XT.i0_eq_f (by decide)) (pc' := 620) rfl ?_
    refine W62.1.aload (hb hby at_620) rfl rfl (pc' := 622) rfl ?_
    refine W62.1.iload (hb hby at_622) rfl (pc' := 624) rfl ?_
    refine W62.1.lload (hb hby at_624) rfl (pc' := 626) rfl ?_
    refine W62.1.iload (hb hby at_626) rfl (pc' := 628) rfl ?_
    refine W62.1.bipush (9 : Int32) (hb hby at_628) rfl (pc' := 630) rfl ?_
    refine W62.1.ldc2J (hb hby at_630) (hw _ (List.mem_of_getElem? (i := 172) rfl)) (pc' := 633) rfl ?_
    refine W62.1.callSP (hw _ (List.mem_of_getElem? (i := 199) rfl)) (hw _ (List.mem_of_getElem? (i := 200) rfl)) (hw _ (List.mem_of_getElem? (i := 2) rfl)) (hw _ (List.mem_of_getElem? (i := 201) rfl)) (by decide) (NM.bk (wd := 0) (rmDK l Z a0 hw r10 (linT (strF p1 (Int32.ofNat nT)) (strF p2 (Int32.ofNat nD)) p3 (strF p4 (Int32.ofNat nS)) (strF p5 (Int32.ofNat nG))) ((((((nT + 4) + nD) + 1) + 1) + (SBG.digits (mag p3)))) (SBG.digits (mag p3)) 9 (mag p3) zc fm h10 n0 W62.1.n0h S10 (linT_lat sT.2.1 sD.2.1 sS.2.1 sG.2.1) (mag_le p3) (by omega) (by decide) (by omega) (by omega) (by omega) (fun h => (lin_5 ((itx p3).length - 1 - 9) (by omega) (by omega)).trans (itx_end h)) F44 hz F46 rfm) W62.1.2.2.2.1 (hw _ (List.mem_of_getElem? (i := 201) rfl)) (hw _ (List.mem_of_getElem? (i := 2) rfl)) (by decide) (by decide)) (hb hby at_633) (pc' := 636) rfl hml (argsL := [(.ref r10), (.int (Int32.ofNat (((((nT + 4) + nD) + 1) + 1) + (SBG.digits (mag p3))))), (.long (Int64.ofNat (mag p3))), (.int (Int32.ofNat (SBG.digits (mag p3)))), (.int (9 : Int32)), (.long (1000000000 : Int64))]) rfl (lenOf pd_27029474 rfl) rfl (Nat.le_of_ble_eq_true rfl) (by decide) (by decide) (fun _ _ _ q => pu_of q) ?_
    intro T63 L63 N63
    have W63 := W62.same N63
    show Go p e below _ T63 (mkF m 636 #[.val (.int p1), .val (.int p2), .val (.int p3), .val (.int p4), .val (.int p5), .val (.int p6), .val (.int (Int32.ofNat nT)), .val (.int (Int32.ofNat nD)), .val (.int (Int32.ofNat nS)), .val (.int (Int32.ofNat nG)), .val (.ref a1), .val (.ref a2), .val (.ref a4), .val (.ref a7), .val (.ref r10), .val (.long (Int64.ofNat (mag p3))), .second, .val (.int (Int32.ofNat (SBG.digits (mag p3)))), .val (.int (1 : Int32)), .val (.int (Int32.ofNat (((((((((nT + 4) + nD) + 1) + 1) + (SBG.digits (mag p3))) + 1) + nS) + 1) + nG))), .val (.int (1 : Int32)), .val (.int (Int32.ofNat (nT + 4))), .val (.int (Int32.ofNat (((nT + 4) + nD) + 1))), .val (.int (Int32.ofNat (((((nT + 4) + nD) + 1) + 1) + (SBG.digits (mag p3))))), .unset, .unset] [(.int (1 : Int32))])
    refine W63.1.ifNo (hb hby at_636) (XT.i0_eq_f (by decide)) (pc' := 639) rfl ?_
    refine W63.1.iconst (1 : Int32) (hb hby at_639) rfl (pc' := 640) rfl ?_
    refine W63.1.goto (hb hby at_640) (by decide) (pc' := 644) (by decide) ?_
    refine W63.1.istore (Ls' := #[.val (.int p1), .val (.int p2), .val (.int p3), .val (.int p4), .val (.int p5), .val (.int p6), .val (.int (Int32.ofNat nT)), .val (.int (Int32.ofNat nD)), .val (.int (Int32.ofNat nS)), .val (.int (Int32.ofNat nG)), .val (.ref a1), .val (.ref a2), .val (.ref a4), .val (.ref a7), .val (.ref r10), .val (.long (Int64.ofNat (mag p3))), .second, .val (.int (Int32.ofNat (SBG.digits (mag p3)))), .val (.int (1 : Int32)), .val (.int (Int32.ofNat (((((((((nT + 4) + nD) + 1) + 1) + (SBG.digits (mag p3))) + 1) + nS) + 1) + nG))), .val (.int (1 : Int32)), .val (.int (Int32.ofNat (nT + 4))), .val (.int (Int32.ofNat (((nT + 4) + nD) + 1))), .val (.int (Int32.ofNat (((((nT + 4) + nD) + 1) + 1) + (SBG.digits (mag p3))))), .unset, .unset]) (hb hby at_644) rfl (pc' := 646) rfl ?_
    refine W63.1.iload (hb hby at_646) rfl (pc' := 648) rfl ?_
    refine W63.1.ifNo (hb hby at_648) (XT.i0_eq_f (by decide)) (pc' := 651) rfl ?_
    refine W63.1.aload (hb hby at_651) rfl rfl (pc' := 653) rfl ?_
    refine W63.1.iload (hb hby at_653) rfl (pc' := 655) rfl ?_
    refine W63.1.callVP (y := (⟨"java/lang/String", "charAt", "(I)C"⟩ : MethodName)) (z := (⟨"java/lang/String", "charAt", "(I)C"⟩ : MethodName)) (hw _ (List.mem_of_getElem? (i := 177) rfl)) (hw _ (List.mem_of_getElem? (i := 178) rfl)) (hw _ (List.mem_of_getElem? (i := 180) rfl)) (hw _ (List.mem_of_getElem? (i := 180) rfl)) (hw _ (List.mem_of_getElem? (i := 179) rfl)) (by decide) (StrA.chr (wd := 0) S10 (linT_lat sT.2.1 sD.2.1 sS.2.1 sG.2.1) W63.1.2.2.2.1 hw (hw _ (List.mem_of_getElem? (i := 5) rfl)) F44 hz F46 rfm (by decide) (by decide) (i := ((((((nT + 4) + nD) + 1) + 1) + (SBG.digits (mag p3))))) (j := (Int32.ofNat (((((nT + 4) + nD) + 1) + 1) + (SBG.digits (mag p3))))) (by omega) rfl) S10.1 (hb hby at_655) (pc' := 658) rfl hml (argsL := [(.int (Int32.ofNat (((((nT + 4) + nD) + 1) + 1) + (SBG.digits (mag p3)))))]) rfl (lenOf pd_32dd484b rfl) rfl (Nat.le_of_ble_eq_true rfl) (by decide) (by decide) (fun _ _ _ q => pu_nil q) ?_
    intro T64 L64 N64
    have W64 := W63.same N64
    show Go p e below _ T64 (mkF m 658 #[.val (.int p1), .val (.int p2), .val (.int p3), .val (.int p4), .val (.int p5), .val (.int p6), .val (.int (Int32.ofNat nT)), .val (.int (Int32.ofNat nD)), .val (.int (Int32.ofNat nS)), .val (.int (Int32.ofNat nG)), .val (.ref a1), .val (.ref a2), .val (.ref a4), .val (.ref a7), .val (.ref r10), .val (.long (Int64.ofNat (mag p3))), .second, .val (.int (Int32.ofNat (SBG.digits (mag p3)))), .val (.int (1 : Int32)), .val (.int (Int32.ofNat (((((((((nT + 4) + nD) + 1) + 1) + (SBG.digits (mag p3))) + 1) + nS) + 1) + nG))), .val (.int (1 : Int32)), .val (.int (Int32.ofNat (nT + 4))), .val (.int (Int32.ofNat (((nT + 4) + nD) + 1))), .val (.int (Int32.ofNat (((((nT + 4) + nD) + 1) + 1) + (SBG.digits (mag p3))))), .unset, .unset] [(.int ((linT (strF p1 (Int32.ofNat nT)) (strF p2 (Int32.ofNat nD)) p3 (strF p4 (Int32.ofNat nS)) (strF p5 (Int32.ofNat nG))).getD ((((((nT + 4) + nD) + 1) + 1) + (SBG.digits (mag p3)))) 0))])
    refine W64.1.bipush (32 : Int32) (hb hby at_658) rfl (pc' := 660) rfl ?_
    refine W64.1.icmpNo (hb hby at_660) (XT.ii_ne_f (lin_6 (by omega))) (pc' := 663) rfl ?_
    refine W64.1.iconst (1 : Int32) (hb hby at_663) rfl (pc' := 664) rfl ?_
    refine W64.1.goto (hb hby at_664) (by decide) (pc' := 668) (by decide) ?_
    refine W64.1.istore (Ls' := #[.val (.int p1), .val (.int p2), .val (.int p3), .val (.int p4), .val (.int p5), .val (.int p6), .val (.int (Int32.ofNat nT)), .val (.int (Int32.ofNat nD)), .val (.int (Int32.ofNat nS)), .val (.int (Int32.ofNat nG)), .val (.ref a1), .val (.ref a2), .val (.ref a4), .val (.ref a7), .val (.ref r10), .val (.long (Int64.ofNat (mag p3))), .second, .val (.int (Int32.ofNat (SBG.digits (mag p3)))), .val (.int (1 : Int32)), .val (.int (Int32.ofNat (((((((((nT + 4) + nD) + 1) + 1) + (SBG.digits (mag p3))) + 1) + nS) + 1) + nG))), .val (.int (1 : Int32)), .val (.int (Int32.ofNat (nT + 4))), .val (.int (Int32.ofNat (((nT + 4) + nD) + 1))), .val (.int (Int32.ofNat (((((nT + 4) + nD) + 1) + 1) + (SBG.digits (mag p3))))), .unset, .unset]) (hb hby at_668) rfl (pc' := 670) rfl ?_
    refine W64.1.iload (hb hby at_670) rfl (pc' := 672) rfl ?_
    refine W64.1.iconst (1 : Int32) (hb hby at_672) rfl (pc' := 673) rfl ?_
    refine W64.1.iadd (hb hby at_673) (pc' := 674) rfl ?_
    rw [show (Int32.ofNat (((((nT + 4) + nD) + 1) + 1) + (SBG.digits (mag p3)))) + (1 : Int32) = Int32.ofNat ((((((nT + 4) + nD) + 1) + 1) + (SBG.digits (mag p3))) + 1) from ofNat_add ((((((nT + 4) + nD) + 1) + 1) + (SBG.digits (mag p3)))) (1)]
    refine W64.1.istore (Ls' := #[.val (.int p1), .val (.int p2), .val (.int p3), .val (.int p4), .val (.int p5), .val (.int p6), .val (.int (Int32.ofNat nT)), .val (.int (Int32.ofNat nD)), .val (.int (Int32.ofNat nS)), .val (.int (Int32.ofNat nG)), .val (.ref a1), .val (.ref a2), .val (.ref a4), .val (.ref a7), .val (.ref r10), .val (.long (Int64.ofNat (mag p3))), .second, .val (.int (Int32.ofNat (SBG.digits (mag p3)))), .val (.int (1 : Int32)), .val (.int (Int32.ofNat (((((((((nT + 4) + nD) + 1) + 1) + (SBG.digits (mag p3))) + 1) + nS) + 1) + nG))), .val (.int (1 : Int32)), .val (.int (Int32.ofNat (nT + 4))), .val (.int (Int32.ofNat (((nT + 4) + nD) + 1))), .val (.int (Int32.ofNat (((((nT + 4) + nD) + 1) + 1) + (SBG.digits (mag p3))))), .val (.int (Int32.ofNat ((((((nT + 4) + nD) + 1) + 1) + (SBG.digits (mag p3))) + 1))), .unset]) (hb hby at_674) rfl (pc' := 676) rfl ?_
    refine W64.1.iload (hb hby at_676) rfl (pc' := 678) rfl ?_
    refine W64.1.ifNo (hb hby at_678) (XT.i0_eq_f (by decide)) (pc' := 681) rfl ?_
    refine W64.1.aload (hb hby at_681) rfl rfl (pc' := 683) rfl ?_
    refine W64.1.iload (hb hby at_683) rfl (pc' := 685) rfl ?_
    refine W64.1.iloadN (hb hby at_685) rfl (pc' := 686) rfl ?_
    refine W64.1.iload (hb hby at_686) rfl (pc' := 688) rfl ?_
    refine W64.1.callSP (hw _ (List.mem_of_getElem? (i := 174) rfl)) (hw _ (List.mem_of_getElem? (i := 175) rfl)) (hw _ (List.mem_of_getElem? (i := 2) rfl)) (hw _ (List.mem_of_getElem? (i := 176) rfl)) (by decide) (NM.bk (wd := 0) (rmSM l Z a0 hw r10 (linT (strF p1 (Int32.ofNat nT)) (strF p2 (Int32.ofNat nD)) p3 (strF p4 (Int32.ofNat nS)) (strF p5 (Int32.ofNat nG))) (((((((nT + 4) + nD) + 1) + 1) + (SBG.digits (mag p3))) + 1)) nS p4 zc fm h10 n0 W64.1.n0h S10 (linT_lat sT.2.1 sD.2.1 sS.2.1 sG.2.1) hnS (by omega) (by omega) (fun h => (lin_7 0 (by omega) (by omega)).trans (sS.2.2.1 h)) (fun h => (lin_7 1 (by omega) (by omega)).trans (sS.2.2.2 h)) F44 hz F46 rfm) W64.1.2.2.2.1 (hw _ (List.mem_of_getElem? (i := 176) rfl)) (hw _ (List.mem_of_getElem? (i := 2) rfl)) (by decide) (by decide)) (hb hby at_688) (pc' := 691) rfl hml (argsL := [(.ref r10), (.int (Int32.ofNat ((((((nT + 4) + nD) + 1) + 1) + (SBG.digits (mag p3))) + 1))), (.int p4), (.int (Int32.ofNat nS))]) rfl (lenOf pd_79bde991 rfl) rfl (Nat.le_of_ble_eq_true rfl) (by decide) (by decide) (fun _ _ _ q => pu_of q) ?_
    intro T65 L65 N65
    have W65 := W64.same N65
    show Go p e below _ T65 (mkF m 691 #[.val (.int p1), .val (.int p2), .val (.int p3), .val (.int p4), .val (.int p5), .val (.int p6), .val (.int (Int32.ofNat nT)), .val (.int (Int32.ofNat nD)), .val (.int (Int32.ofNat nS)), .val (.int (Int32.ofNat nG)), .val (.ref a1), .val (.ref a2), .val (.ref a4), .val (.ref a7), .val (.ref r10), .val (.long (Int64.ofNat (mag p3))), .second, .val (.int (Int32.ofNat (SBG.digits (mag p3)))), .val (.int (1 : Int32)), .val (.int (Int32.ofNat (((((((((nT + 4) + nD) + 1) + 1) + (SBG.digits (mag p3))) + 1) + nS) + 1) + nG))), .val (.int (1 : Int32)), .val (.int (Int32.ofNat (nT + 4))), .val (.int (Int32.ofNat (((nT + 4) + nD) + 1))), .val (.int (Int32.ofNat (((((nT + 4) + nD) + 1) + 1) + (SBG.digits (mag p3))))), .val (.int (Int32.ofNat ((((((nT + 4) + nD) + 1) + 1) + (SBG.digits (mag p3))) + 1))), .unset] [(.int (1 : Int32))])
    refine W65.1.ifNo (hb hby at_691) (XT.i0_eq_f (by decide)) (pc' := 694) rfl ?_
    refine W65.1.aload (hb hby at_694) rfl rfl (pc' := 696) rfl ?_
    refine W65.1.iload (hb hby at_696) rfl (pc' := 698) rfl ?_
    refine W65.1.iload (hb hby at_698) rfl (pc' := 700) rfl ?_
    refine W65.1.iadd (hb hby at_700) (pc' := 701) rfl ?_
    rw [show (Int32.ofNat ((((((nT + 4) + nD) + 1) + 1) + (SBG.digits (mag p3))) + 1)) + (Int32.ofNat nS) = Int32.ofNat (((((((nT + 4) + nD) + 1) + 1) + (SBG.digits (mag p3))) + 1) + nS) from ofNat_add (((((((nT + 4) + nD) + 1) + 1) + (SBG.digits (mag p3))) + 1)) (nS)]
    refine W65.1.callVP (y := (⟨"java/lang/String", "charAt", "(I)C"⟩ : MethodName)) (z := (⟨"java/lang/String", "charAt", "(I)C"⟩ : MethodName)) (hw _ (List.mem_of_getElem? (i := 177) rfl)) (hw _ (List.mem_of_getElem? (i := 178) rfl)) (hw _ (List.mem_of_getElem? (i := 180) rfl)) (hw _ (List.mem_of_getElem? (i := 180) rfl)) (hw _ (List.mem_of_getElem? (i := 179) rfl)) (by decide) (StrA.chr (wd := 0) S10 (linT_lat sT.2.1 sD.2.1 sS.2.1 sG.2.1) W65.1.2.2.2.1 hw (hw _ (List.mem_of_getElem? (i := 5) rfl)) F44 hz F46 rfm (by decide) (by decide) (i := ((((((((nT + 4) + nD) + 1) + 1) + (SBG.digits (mag p3))) + 1) + nS))) (j := (Int32.ofNat (((((((nT + 4) + nD) + 1) + 1) + (SBG.digits (mag p3))) + 1) + nS))) (by omega) rfl) S10.1 (hb hby at_701) (pc' := 704) rfl hml (argsL := [(.int (Int32.ofNat (((((((nT + 4) + nD) + 1) + 1) + (SBG.digits (mag p3))) + 1) + nS)))]) rfl (lenOf pd_32dd484b rfl) rfl (Nat.le_of_ble_eq_true rfl) (by decide) (by decide) (fun _ _ _ q => pu_nil q) ?_
    intro T66 L66 N66
    have W66 := W65.same N66
    show Go p e below _ T66 (mkF m 704 #[.val (.int p1), .val (.int p2), .val (.int p3), .val (.int p4), .val (.int p5), .val (.int p6), .val (.int (Int32.ofNat nT)), .val (.int (Int32.ofNat nD)), .val (.int (Int32.ofNat nS)), .val (.int (Int32.ofNat nG)), .val (.ref a1), .val (.ref a2), .val (.ref a4), .val (.ref a7), .val (.ref r10), .val (.long (Int64.ofNat (mag p3))), .second, .val (.int (Int32.ofNat (SBG.digits (mag p3)))), .val (.int (1 : Int32)), .val (.int (Int32.ofNat (((((((((nT + 4) + nD) + 1) + 1) + (SBG.digits (mag p3))) + 1) + nS) + 1) + nG))), .val (.int (1 : Int32)), .val (.int (Int32.ofNat (nT + 4))), .val (.int (Int32.ofNat (((nT + 4) + nD) + 1))), .val (.int (Int32.ofNat (((((nT + 4) + nD) + 1) + 1) + (SBG.digits (mag p3))))), .val (.int (Int32.ofNat ((((((nT + 4) + nD) + 1) + 1) + (SBG.digits (mag p3))) + 1))), .unset] [(.int ((linT (strF p1 (Int32.ofNat nT)) (strF p2 (Int32.ofNat nD)) p3 (strF p4 (Int32.ofNat nS)) (strF p5 (Int32.ofNat nG))).getD ((((((((nT + 4) + nD) + 1) + 1) + (SBG.digits (mag p3))) + 1) + nS)) 0))])
    refine W66.1.bipush (32 : Int32) (hb hby at_704) rfl (pc' := 706) rfl ?_
    refine W66.1.icmpNo (hb hby at_706) (XT.ii_ne_f (lin_8 (by omega))) (pc' := 709) rfl ?_
    refine W66.1.iconst (1 : Int32) (hb hby at_709) rfl (pc' := 710) rfl ?_
    refine W66.1.goto (hb hby at_710) (by decide) (pc' := 714) (by decide) ?_
    refine W66.1.istore (Ls' := #[.val (.int p1), .val (.int p2), .val (.int p3), .val (.int p4), .val (.int p5), .val (.int p6), .val (.int (Int32.ofNat nT)), .val (.int (Int32.ofNat nD)), .val (.int (Int32.ofNat nS)), .val (.int (Int32.ofNat nG)), .val (.ref a1), .val (.ref a2), .val (.ref a4), .val (.ref a7), .val (.ref r10), .val (.long (Int64.ofNat (mag p3))), .second, .val (.int (Int32.ofNat (SBG.digits (mag p3)))), .val (.int (1 : Int32)), .val (.int (Int32.ofNat (((((((((nT + 4) + nD) + 1) + 1) + (SBG.digits (mag p3))) + 1) + nS) + 1) + nG))), .val (.int (1 : Int32)), .val (.int (Int32.ofNat (nT + 4))), .val (.int (Int32.ofNat (((nT + 4) + nD) + 1))), .val (.int (Int32.ofNat (((((nT + 4) + nD) + 1) + 1) + (SBG.digits (mag p3))))), .val (.int (Int32.ofNat ((((((nT + 4) + nD) + 1) + 1) + (SBG.digits (mag p3))) + 1))), .unset]) (hb hby at_714) rfl (pc' := 716) rfl ?_
    refine W66.1.iload (hb hby at_716) rfl (pc' := 718) rfl ?_
    refine W66.1.iload (hb hby at_718) rfl (pc' := 720) rfl ?_
    refine W66.1.iadd (hb hby at_720) (pc' := 721) rfl ?_
    rw [show (Int32.ofNat ((((((nT + 4) + nD) + 1) + 1) + (SBG.digits (mag p3))) + 1)) + (Int32.ofNat nS) = Int32.ofNat (((((((nT + 4) + nD) + 1) + 1) + (SBG.digits (mag p3))) + 1) + nS) from ofNat_add (((((((nT + 4) + nD) + 1) + 1) + (SBG.digits (mag p3))) + 1)) (nS)]
    refine W66.1.iconst (1 : Int32) (hb hby at_721) rfl (pc' := 722) rfl ?_
    refine W66.1.iadd (hb hby at_722) (pc' := 723) rfl ?_
    rw [show (Int32.ofNat (((((((nT + 4) + nD) + 1) + 1) + (SBG.digits (mag p3))) + 1) + nS)) + (1 : Int32) = Int32.ofNat ((((((((nT + 4) + nD) + 1) + 1) + (SBG.digits (mag p3))) + 1) + nS) + 1) from ofNat_add ((((((((nT + 4) + nD) + 1) + 1) + (SBG.digits (mag p3))) + 1) + nS)) (1)]
    refine W66.1.istore (Ls' := #[.val (.int p1), .val (.int p2), .val (.int p3), .val (.int p4), .val (.int p5), .val (.int p6), .val (.int (Int32.ofNat nT)), .val (.int (Int32.ofNat nD)), .val (.int (Int32.ofNat nS)), .val (.int (Int32.ofNat nG)), .val (.ref a1), .val (.ref a2), .val (.ref a4), .val (.ref a7), .val (.ref r10), .val (.long (Int64.ofNat (mag p3))), .second, .val (.int (Int32.ofNat (SBG.digits (mag p3)))), .val (.int (1 : Int32)), .val (.int (Int32.ofNat (((((((((nT + 4) + nD) + 1) + 1) + (SBG.digits (mag p3))) + 1) + nS) + 1) + nG))), .val (.int (1 : Int32)), .val (.int (Int32.ofNat (nT + 4))), .val (.int (Int32.ofNat (((nT + 4) + nD) + 1))), .val (.int (Int32.ofNat (((((nT + 4) + nD) + 1) + 1) + (SBG.digits (mag p3))))), .val (.int (Int32.ofNat ((((((nT + 4) + nD) + 1) + 1) + (SBG.digits (mag p3))) + 1))), .val (.int (Int32.ofNat ((((((((nT + 4) + nD) + 1) + 1) + (SBG.digits (mag p3))) + 1) + nS) + 1)))]) (hb hby at_723) rfl (pc' := 725) rfl ?_
    refine W66.1.iload (hb hby at_725) rfl (pc' := 727) rfl ?_
    refine W66.1.ifNo (hb hby at_727) (XT.i0_eq_f (by decide)) (pc' := 730) rfl ?_
    refine W66.1.aload (hb hby at_730) rfl rfl (pc' := 732) rfl ?_
    refine W66.1.iload (hb hby at_732) rfl (pc' := 734) rfl ?_
    refine W66.1.iload (hb hby at_734) rfl (pc' := 736) rfl ?_
    refine W66.1.iload (hb hby at_736) rfl (pc' := 738) rfl ?_
    refine W66.1.callSP (hw _ (List.mem_of_getElem? (i := 174) rfl)) (hw _ (List.mem_of_getElem? (i := 175) rfl)) (hw _ (List.mem_of_getElem? (i := 2) rfl)) (hw _ (List.mem_of_getElem? (i := 176) rfl)) (by decide) (NM.bk (wd := 0) (rmSM l Z a0 hw r10 (linT (strF p1 (Int32.ofNat nT)) (strF p2 (Int32.ofNat nD)) p3 (strF p4 (Int32.ofNat nS)) (strF p5 (Int32.ofNat nG))) (((((((((nT + 4) + nD) + 1) + 1) + (SBG.digits (mag p3))) + 1) + nS) + 1)) nG p5 zc fm h10 n0 W66.1.n0h S10 (linT_lat sT.2.1 sD.2.1 sS.2.1 sG.2.1) hnG (by omega) (by omega) (fun h => (lin_9 0 (by omega)).trans (sG.2.2.1 h)) (fun h => (lin_9 1 (by omega)).trans (sG.2.2.2 h)) F44 hz F46 rfm) W66.1.2.2.2.1 (hw _ (List.mem_of_getElem? (i := 176) rfl)) (hw _ (List.mem_of_getElem? (i := 2) rfl)) (by decide) (by decide)) (hb hby at_738) (pc' := 741) rfl hml (argsL := [(.ref r10), (.int (Int32.ofNat ((((((((nT + 4) + nD) + 1) + 1) + (SBG.digits (mag p3))) + 1) + nS) + 1))), (.int p5), (.int (Int32.ofNat nG))]) rfl (lenOf pd_79bde991 rfl) rfl (Nat.le_of_ble_eq_true rfl) (by decide) (by decide) (fun _ _ _ q => pu_of q) ?_
    intro T67 L67 N67
    have W67 := W66.same N67
    show Go p e below _ T67 (mkF m 741 #[.val (.int p1), .val (.int p2), .val (.int p3), .val (.int p4), .val (.int p5), .val (.int p6), .val (.int (Int32.ofNat nT)), .val (.int (Int32.ofNat nD)), .val (.int (Int32.ofNat nS)), .val (.int (Int32.ofNat nG)), .val (.ref a1), .val (.ref a2), .val (.ref a4), .val (.ref a7), .val (.ref r10), .val (.long (Int64.ofNat (mag p3))), .second, .val (.int (Int32.ofNat (SBG.digits (mag p3)))), .val (.int (1 : Int32)), .val (.int (Int32.ofNat (((((((((nT + 4) + nD) + 1) + 1) + (SBG.digits (mag p3))) + 1) + nS) + 1) + nG))), .val (.int (1 : Int32)), .val (.int (Int32.ofNat (nT + 4))), .val (.int (Int32.ofNat (((nT + 4) + nD) + 1))), .val (.int (Int32.ofNat (((((nT + 4) + nD) + 1) + 1) + (SBG.digits (mag p3))))), .val (.int (Int32.ofNat ((((((nT + 4) + nD) + 1) + 1) + (SBG.digits (mag p3))) + 1))), .val (.int (Int32.ofNat ((((((((nT + 4) + nD) + 1) + 1) + (SBG.digits (mag p3))) + 1) + nS) + 1)))] [(.int (1 : Int32))])
    refine W67.1.ifNo (hb hby at_741) (XT.i0_eq_f (by decide)) (pc' := 744) rfl ?_
    refine W67.1.iconst (1 : Int32) (hb hby at_744) rfl (pc' := 745) rfl ?_
    refine W67.1.goto (hb hby at_745) (by decide) (pc' := 749) (by decide) ?_
    refine W67.1.istore (Ls' := #[.val (.int p1), .val (.int p2), .val (.int p3), .val (.int p4), .val (.int p5), .val (.int p6), .val (.int (Int32.ofNat nT)), .val (.int (Int32.ofNat nD)), .val (.int (Int32.ofNat nS)), .val (.int (Int32.ofNat nG)), .val (.ref a1), .val (.ref a2), .val (.ref a4), .val (.ref a7), .val (.ref r10), .val (.long (Int64.ofNat (mag p3))), .second, .val (.int (Int32.ofNat (SBG.digits (mag p3)))), .val (.int (1 : Int32)), .val (.int (Int32.ofNat (((((((((nT + 4) + nD) + 1) + 1) + (SBG.digits (mag p3))) + 1) + nS) + 1) + nG))), .val (.int (1 : Int32)), .val (.int (Int32.ofNat (nT + 4))), .val (.int (Int32.ofNat (((nT + 4) + nD) + 1))), .val (.int (Int32.ofNat (((((nT + 4) + nD) + 1) + 1) + (SBG.digits (mag p3))))), .val (.int (Int32.ofNat ((((((nT + 4) + nD) + 1) + 1) + (SBG.digits (mag p3))) + 1))), .val (.int (Int32.ofNat ((((((((nT + 4) + nD) + 1) + 1) + (SBG.digits (mag p3))) + 1) + nS) + 1)))]) (hb hby at_749) rfl (pc' := 751) rfl ?_
    refine W67.1.iload (hb hby at_751) rfl (pc' := 753) rfl ?_
    exact W67.retZ hEL hret (hb hby at_753) (by decide) (by decide) (by decide) ⟨rfl, trivial⟩
  · refine W39.1.ifYes (hb hby at_232) (XT.i0_ge_t hc41) (by decide) (pc' := 239) (by decide) ?_
    refine W39.1.iconst (0 : Int32) (hb hby at_239) rfl (pc' := 240) rfl ?_
    refine W39.1.istore (Ls' := #[.val (.int p1), .val (.int p2), .val (.int p3), .val (.int p4), .val (.int p5), .val (.int p6), .val (.int (Int32.ofNat nT)), .val (.int (Int32.ofNat nD)), .val (.int (Int32.ofNat nS)), .val (.int (Int32.ofNat nG)), .val (.ref a1), .val (.ref a2), .val (.ref a4), .val (.ref a7), .val (.ref r10), .val (.long (Int64.ofNat (mag p3))), .second, .val (.int (Int32.ofNat (SBG.digits (mag p3)))), .val (.int (0 : Int32)), .unset, .unset, .unset, .unset, .unset, .unset, .unset]) (hb hby at_240) rfl (pc' := 242) rfl ?_
    have hsg := sgn_neg hc41
    refine W39.1.iload (hb hby at_242) rfl (pc' := 244) rfl ?_
    refine W39.1.iconst (4 : Int32) (hb hby at_244) rfl (pc' := 245) rfl ?_
    refine W39.1.iadd (hb hby at_245) (pc' := 246) rfl ?_
    rw [show (Int32.ofNat nT) + (4 : Int32) = Int32.ofNat (nT + 4) from ofNat_add (nT) (4)]
    refine W39.1.iload (hb hby at_246) rfl (pc' := 248) rfl ?_
    refine W39.1.iadd (hb hby at_248) (pc' := 249) rfl ?_
    rw [show (Int32.ofNat (nT + 4)) + (Int32.ofNat nD) = Int32.ofNat ((nT + 4) + nD) from ofNat_add ((nT + 4)) (nD)]
    refine W39.1.iconst (1 : Int32) (hb hby at_249) rfl (pc' := 250) rfl ?_
    refine W39.1.iadd (hb hby at_250) (pc' := 251) rfl ?_
    rw [show (Int32.ofNat ((nT + 4) + nD)) + (1 : Int32) = Int32.ofNat (((nT + 4) + nD) + 1) from ofNat_add (((nT + 4) + nD)) (1)]
    refine W39.1.iload (hb hby at_251) rfl (pc' := 253) rfl ?_
    refine W39.1.iadd (hb hby at_253) (pc' := 254) rfl ?_
    rw [show (Int32.ofNat (((nT + 4) + nD) + 1)) + (0 : Int32) = Int32.ofNat ((((nT + 4) + nD) + 1) + 0) from ofNat_add ((((nT + 4) + nD) + 1)) (0)]
    refine W39.1.iload (hb hby at_254) rfl (pc' := 256) rfl ?_
    refine W39.1.iadd (hb hby at_256) (pc' := 257) rfl ?_
    rw [show (Int32.ofNat ((((nT + 4) + nD) + 1) + 0)) + (Int32.ofNat (SBG.digits (mag p3))) = Int32.ofNat (((((nT + 4) + nD) + 1) + 0) + (SBG.digits (mag p3))) from ofNat_add (((((nT + 4) + nD) + 1) + 0)) ((SBG.digits (mag p3)))]
    refine W39.1.iconst (1 : Int32) (hb hby at_257) rfl (pc' := 258) rfl ?_
    refine W39.1.iadd (hb hby at_258) (pc' := 259) rfl ?_
    rw [show (Int32.ofNat (((((nT + 4) + nD) + 1) + 0) + (SBG.digits (mag p3)))) + (1 : Int32) = Int32.ofNat ((((((nT + 4) + nD) + 1) + 0) + (SBG.digits (mag p3))) + 1) from ofNat_add ((((((nT + 4) + nD) + 1) + 0) + (SBG.digits (mag p3)))) (1)]
    refine W39.1.iload (hb hby at_259) rfl (pc' := 261) rfl ?_
    refine W39.1.iadd (hb hby at_261) (pc' := 262) rfl ?_
    rw [show (Int32.ofNat ((((((nT + 4) + nD) + 1) + 0) + (SBG.digits (mag p3))) + 1)) + (Int32.ofNat nS) = Int32.ofNat (((((((nT + 4) + nD) + 1) + 0) + (SBG.digits (mag p3))) + 1) + nS) from ofNat_add (((((((nT + 4) + nD) + 1) + 0) + (SBG.digits (mag p3))) + 1)) (nS)]
    refine W39.1.iconst (1 : Int32) (hb hby at_262) rfl (pc' := 263) rfl ?_
    refine W39.1.iadd (hb hby at_263) (pc' := 264) rfl ?_
    rw [show (Int32.ofNat (((((((nT + 4) + nD) + 1) + 0) + (SBG.digits (mag p3))) + 1) + nS)) + (1 : Int32) = Int32.ofNat ((((((((nT + 4) + nD) + 1) + 0) + (SBG.digits (mag p3))) + 1) + nS) + 1) from ofNat_add ((((((((nT + 4) + nD) + 1) + 0) + (SBG.digits (mag p3))) + 1) + nS)) (1)]
    refine W39.1.iload (hb hby at_264) rfl (pc' := 266) rfl ?_
    refine W39.1.iadd (hb hby at_266) (pc' := 267) rfl ?_
    rw [show (Int32.ofNat ((((((((nT + 4) + nD) + 1) + 0) + (SBG.digits (mag p3))) + 1) + nS) + 1)) + (Int32.ofNat nG) = Int32.ofNat (((((((((nT + 4) + nD) + 1) + 0) + (SBG.digits (mag p3))) + 1) + nS) + 1) + nG) from ofNat_add (((((((((nT + 4) + nD) + 1) + 0) + (SBG.digits (mag p3))) + 1) + nS) + 1)) (nG)]
    refine W39.1.istore (Ls' := #[.val (.int p1), .val (.int p2), .val (.int p3), .val (.int p4), .val (.int p5), .val (.int p6), .val (.int (Int32.ofNat nT)), .val (.int (Int32.ofNat nD)), .val (.int (Int32.ofNat nS)), .val (.int (Int32.ofNat nG)), .val (.ref a1), .val (.ref a2), .val (.ref a4), .val (.ref a7), .val (.ref r10), .val (.long (Int64.ofNat (mag p3))), .second, .val (.int (Int32.ofNat (SBG.digits (mag p3)))), .val (.int (0 : Int32)), .val (.int (Int32.ofNat (((((((((nT + 4) + nD) + 1) + 0) + (SBG.digits (mag p3))) + 1) + nS) + 1) + nG))), .unset, .unset, .unset, .unset, .unset, .unset]) (hb hby at_267) rfl (pc' := 269) rfl ?_
    refine W39.1.aload (hb hby at_269) rfl rfl (pc' := 271) rfl ?_
    have X0_5_69 : Ext h0 h10 := Keep.toExt ((((((Keep.refl h0 []).trans K1 all0).trans K2 all0).trans K4 all0).trans K7 all0).trans K10 all0)
    have zX0_5_69 := X0_5_69.1
    have F70 := Sta.ext X0_5_69 SC
    refine W39.1.callVP (y := (⟨"java/lang/String", "length", "()I"⟩ : MethodName)) (z := (⟨"java/lang/String", "length", "()I"⟩ : MethodName)) (hw _ (List.mem_of_getElem? (i := 173) rfl)) (hw _ (List.mem_of_getElem? (i := 59) rfl)) (hw _ (List.mem_of_getElem? (i := 61) rfl)) (hw _ (List.mem_of_getElem? (i := 61) rfl)) (hw _ (List.mem_of_getElem? (i := 60) rfl)) (by decide) (StrA.lenB (wd := 0) S10 W39.1.2.2.2.1 hw (hw _ (List.mem_of_getElem? (i := 5) rfl)) F70 hz (by decide) (by decide)) S10.1 (hb hby at_271) (pc' := 274) rfl hml (argsL := []) rfl (lenOf pd_368a4b19 rfl) rfl (Nat.le_of_ble_eq_true rfl) (by decide) (by decide) (fun _ _ _ q => pu_nil q) ?_
    intro T68 L68 N68
    have W68 := W39.same N68
    show Go p e below _ T68 (mkF m 274 #[.val (.int p1), .val (.int p2), .val (.int p3), .val (.int p4), .val (.int p5), .val (.int p6), .val (.int (Int32.ofNat nT)), .val (.int (Int32.ofNat nD)), .val (.int (Int32.ofNat nS)), .val (.int (Int32.ofNat nG)), .val (.ref a1), .val (.ref a2), .val (.ref a4), .val (.ref a7), .val (.ref r10), .val (.long (Int64.ofNat (mag p3))), .second, .val (.int (Int32.ofNat (SBG.digits (mag p3)))), .val (.int (0 : Int32)), .val (.int (Int32.ofNat (((((((((nT + 4) + nD) + 1) + 0) + (SBG.digits (mag p3))) + 1) + nS) + 1) + nG))), .unset, .unset, .unset, .unset, .unset, .unset] [(.int (Int32.ofNat (linT (strF p1 (Int32.ofNat nT)) (strF p2 (Int32.ofNat nD)) p3 (strF p4 (Int32.ofNat nS)) (strF p5 (Int32.ofNat nG))).length))])
    refine W68.1.iload (hb hby at_274) rfl (pc' := 276) rfl ?_
    refine W68.1.icmpYes (hb hby at_276) (XT.ii_eq_t (congrArg Int32.ofNat (by omega))) (by decide) (pc' := 281) (by decide) ?_
    refine W68.1.aload (hb hby at_281) rfl rfl (pc' := 283) rfl ?_
    refine W68.1.iconst (0 : Int32) (hb hby at_283) rfl (pc' := 284) rfl ?_
    refine W68.1.iloadN (hb hby at_284) rfl (pc' := 285) rfl ?_
    refine W68.1.iload (hb hby at_285) rfl (pc' := 287) rfl ?_
    have F72 := Sta.ext X0_5_69 SF
    refine W68.1.callSP (hw _ (List.mem_of_getElem? (i := 174) rfl)) (hw _ (List.mem_of_getElem? (i := 175) rfl)) (hw _ (List.mem_of_getElem? (i := 2) rfl)) (hw _ (List.mem_of_getElem? (i := 176) rfl)) (by decide) (NM.bk (wd := 0) (rmSM l Z a0 hw r10 (linT (strF p1 (Int32.ofNat nT)) (strF p2 (Int32.ofNat nD)) p3 (strF p4 (Int32.ofNat nS)) (strF p5 (Int32.ofNat nG))) 0 nT p1 zc fm h10 n0 W68.1.n0h S10 (linT_lat sT.2.1 sD.2.1 sS.2.1 sG.2.1) hnT (by omega) (by omega) (fun h => (lin_1 (by omega)).trans (sT.2.2.1 h)) (fun h => (lin_1 (by omega)).trans (sT.2.2.2 h)) F70 hz F72 rfm) W68.1.2.2.2.1 (hw _ (List.mem_of_getElem? (i := 176) rfl)) (hw _ (List.mem_of_getElem? (i := 2) rfl)) (by decide) (by decide)) (hb hby at_287) (pc' := 290) rfl hml (argsL := [(.ref r10), (.int (0 : Int32)), (.int p1), (.int (Int32.ofNat nT))]) rfl (lenOf pd_79bde991 rfl) rfl (Nat.le_of_ble_eq_true rfl) (by decide) (by decide) (fun _ _ _ q => pu_of q) ?_
    intro T71 L71 N71
    have W71 := W68.same N71
    show Go p e below _ T71 (mkF m 290 #[.val (.int p1), .val (.int p2), .val (.int p3), .val (.int p4), .val (.int p5), .val (.int p6), .val (.int (Int32.ofNat nT)), .val (.int (Int32.ofNat nD)), .val (.int (Int32.ofNat nS)), .val (.int (Int32.ofNat nG)), .val (.ref a1), .val (.ref a2), .val (.ref a4), .val (.ref a7), .val (.ref r10), .val (.long (Int64.ofNat (mag p3))), .second, .val (.int (Int32.ofNat (SBG.digits (mag p3)))), .val (.int (0 : Int32)), .val (.int (Int32.ofNat (((((((((nT + 4) + nD) + 1) + 0) + (SBG.digits (mag p3))) + 1) + nS) + 1) + nG))), .unset, .unset, .unset, .unset, .unset, .unset] [(.int (1 : Int32))])
    refine W71.1.istore (Ls' := #[.val (.int p1), .val (.int p2), .val (.int p3), .val (.int p4), .val (.int p5), .val (.int p6), .val (.int (Int32.ofNat nT)), .val (.int (Int32.ofNat nD)), .val (.int (Int32.ofNat nS)), .val (.int (Int32.ofNat nG)), .val (.ref a1), .val (.ref a2), .val (.ref a4), .val (.ref a7), .val (.ref r10), .val (.long (Int64.ofNat (mag p3))), .second, .val (.int (Int32.ofNat (SBG.digits (mag p3)))), .val (.int (0 : Int32)), .val (.int (Int32.ofNat (((((((((nT + 4) + nD) + 1) + 0) + (SBG.digits (mag p3))) + 1) + nS) + 1) + nG))), .val (.int (1 : Int32)), .unset, .unset, .unset, .unset, .unset]) (hb hby at_290) rfl (pc' := 292) rfl ?_
    refine W71.1.iload (hb hby at_292) rfl (pc' := 294) rfl ?_
    refine W71.1.ifNo (hb hby at_294) (XT.i0_eq_f (by decide)) (pc' := 297) rfl ?_
    refine W71.1.aload (hb hby at_297) rfl rfl (pc' := 299) rfl ?_
    refine W71.1.iload (hb hby at_299) rfl (pc' := 301) rfl ?_
    refine W71.1.callVP (y := (⟨"java/lang/String", "charAt", "(I)C"⟩ : MethodName)) (z := (⟨"java/lang/String", "charAt", "(I)C"⟩ : MethodName)) (hw _ (List.mem_of_getElem? (i := 177) rfl)) (hw _ (List.mem_of_getElem? (i := 178) rfl)) (hw _ (List.mem_of_getElem? (i := 180) rfl)) (hw _ (List.mem_of_getElem? (i := 180) rfl)) (hw _ (List.mem_of_getElem? (i := 179) rfl)) (by decide) (StrA.chr (wd := 0) S10 (linT_lat sT.2.1 sD.2.1 sS.2.1 sG.2.1) W71.1.2.2.2.1 hw (hw _ (List.mem_of_getElem? (i := 5) rfl)) F70 hz F72 rfm (by decide) (by decide) (i := (nT)) (j := (Int32.ofNat nT)) (by omega) rfl) S10.1 (hb hby at_301) (pc' := 304) rfl hml (argsL := [(.int (Int32.ofNat nT))]) rfl (lenOf pd_32dd484b rfl) rfl (Nat.le_of_ble_eq_true rfl) (by decide) (by decide) (fun _ _ _ q => pu_nil q) ?_
    intro T73 L73 N73
    have W73 := W71.same N73
    show Go p e below _ T73 (mkF m 304 #[.val (.int p1), .val (.int p2), .val (.int p3), .val (.int p4), .val (.int p5), .val (.int p6), .val (.int (Int32.ofNat nT)), .val (.int (Int32.ofNat nD)), .val (.int (Int32.ofNat nS)), .val (.int (Int32.ofNat nG)), .val (.ref a1), .val (.ref a2), .val (.ref a4), .val (.ref a7), .val (.ref r10), .val (.long (Int64.ofNat (mag p3))), .second, .val (.int (Int32.ofNat (SBG.digits (mag p3)))), .val (.int (0 : Int32)), .val (.int (Int32.ofNat (((((((((nT + 4) + nD) + 1) + 0) + (SBG.digits (mag p3))) + 1) + nS) + 1) + nG))), .val (.int (1 : Int32)), .unset, .unset, .unset, .unset, .unset] [(.int ((linT (strF p1 (Int32.ofNat nT)) (strF p2 (Int32.ofNat nD)) p3 (strF p4 (Int32.ofNat nS)) (strF p5 (Int32.ofNat nG))).getD (nT) 0))])
    refine W73.1.bipush (32 : Int32) (hb hby at_304) rfl (pc' := 306) rfl ?_
    refine W73.1.icmpNo (hb hby at_306) (XT.ii_ne_f (lin_2 0 (by omega) (by decide))) (pc' := 309) rfl ?_
    refine W73.1.aload (hb hby at_309) rfl rfl (pc' := 311) rfl ?_
    refine W73.1.iload (hb hby at_311) rfl (pc' := 313) rfl ?_
    refine W73.1.iconst (1 : Int32) (hb hby at_313) rfl (pc' := 314) rfl ?_
    refine W73.1.iadd (hb hby at_314) (pc' := 315) rfl ?_
    rw [show (Int32.ofNat nT) + (1 : Int32) = Int32.ofNat (nT + 1) from ofNat_add (nT) (1)]
    refine W73.1.callVP (y := (⟨"java/lang/String", "charAt", "(I)C"⟩ : MethodName)) (z := (⟨"java/lang/String", "charAt", "(I)C"⟩ : MethodName)) (hw _ (List.mem_of_getElem? (i := 177) rfl)) (hw _ (List.mem_of_getElem? (i := 178) rfl)) (hw _ (List.mem_of_getElem? (i := 180) rfl)) (hw _ (List.mem_of_getElem? (i := 180) rfl)) (hw _ (List.mem_of_getElem? (i := 179) rfl)) (by decide) (StrA.chr (wd := 0) S10 (linT_lat sT.2.1 sD.2.1 sS.2.1 sG.2.1) W73.1.2.2.2.1 hw (hw _ (List.mem_of_getElem? (i := 5) rfl)) F70 hz F72 rfm (by decide) (by decide) (i := ((nT + 1))) (j := (Int32.ofNat (nT + 1))) (by omega) rfl) S10.1 (hb hby at_315) (pc' := 318) rfl hml (argsL := [(.int (Int32.ofNat (nT + 1)))]) rfl (lenOf pd_32dd484b rfl) rfl (Nat.le_of_ble_eq_true rfl) (by decide) (by decide) (fun _ _ _ q => pu_nil q) ?_
    intro T74 L74 N74
    have W74 := W73.same N74
    show Go p e below _ T74 (mkF m 318 #[.val (.int p1), .val (.int p2), .val (.int p3), .val (.int p4), .val (.int p5), .val (.int p6), .val (.int (Int32.ofNat nT)), .val (.int (Int32.ofNat nD)), .val (.int (Int32.ofNat nS)), .val (.int (Int32.ofNat nG)), .val (.ref a1), .val (.ref a2), .val (.ref a4), .val (.ref a7), .val (.ref r10), .val (.long (Int64.ofNat (mag p3))), .second, .val (.int (Int32.ofNat (SBG.digits (mag p3)))), .val (.int (0 : Int32)), .val (.int (Int32.ofNat (((((((((nT + 4) + nD) + 1) + 0) + (SBG.digits (mag p3))) + 1) + nS) + 1) + nG))), .val (.int (1 : Int32)), .unset, .unset, .unset, .unset, .unset] [(.int ((linT (strF p1 (Int32.ofNat nT)) (strF p2 (Int32.ofNat nD)) p3 (strF p4 (Int32.ofNat nS)) (strF p5 (Int32.ofNat nG))).getD ((nT + 1)) 0))])
    refine W74.1.bipush (81 : Int32) (hb hby at_318) rfl (pc' := 320) rfl ?_
    refine W74.1.icmpNo (hb hby at_320) (XT.ii_ne_f (lin_2 1 (by omega) (by decide))) (pc' := 323) rfl ?_
    refine W74.1.aload (hb hby at_323) rfl rfl (pc' := 325) rfl ?_
    refine W74.1.iload (hb hby at_325) rfl (pc' := 327) rfl ?_
    refine W74.1.iconst (2 : Int32) (hb hby at_327) rfl (pc' := 328) rfl ?_
    refine W74.1.iadd (hb hby at_328) (pc' := 329) rfl ?_
    rw [show (Int32.ofNat nT) + (2 : Int32) = Int32.ofNat (nT + 2) from ofNat_add (nT) (2)]
    refine W74.1.callVP (y := (⟨"java/lang/String", "charAt", "(I)C"⟩ : MethodName)) (z := (⟨"java/lang/String", "charAt", "(I)C"⟩ : MethodName)) (hw _ (List.mem_of_getElem? (i := 177) rfl)) (hw _ (List.mem_of_getElem? (i := 178) rfl)) (hw _ (List.mem_of_getElem? (i := 180) rfl)) (hw _ (List.mem_of_getElem? (i := 180) rfl)) (hw _ (List.mem_of_getElem? (i := 179) rfl)) (by decide) (StrA.chr (wd := 0) S10 (linT_lat sT.2.1 sD.2.1 sS.2.1 sG.2.1) W74.1.2.2.2.1 hw (hw _ (List.mem_of_getElem? (i := 5) rfl)) F70 hz F72 rfm (by decide) (by decide) (i := ((nT + 2))) (j := (Int32.ofNat (nT + 2))) (by omega) rfl) S10.1 (hb hby at_329) (pc' := 332) rfl hml (argsL := [(.int (Int32.ofNat (nT + 2)))]) rfl (lenOf pd_32dd484b rfl) rfl (Nat.le_of_ble_eq_true rfl) (by decide) (by decide) (fun _ _ _ q => pu_nil q) ?_
    intro T75 L75 N75
    have W75 := W74.same N75
    show Go p e below _ T75 (mkF m 332 #[.val (.int p1), .val (.int p2), .val (.int p3), .val (.int p4), .val (.int p5), .val (.int p6), .val (.int (Int32.ofNat nT)), .val (.int (Int32.ofNat nD)), .val (.int (Int32.ofNat nS)), .val (.int (Int32.ofNat nG)), .val (.ref a1), .val (.ref a2), .val (.ref a4), .val (.ref a7), .val (.ref r10), .val (.long (Int64.ofNat (mag p3))), .second, .val (.int (Int32.ofNat (SBG.digits (mag p3)))), .val (.int (0 : Int32)), .val (.int (Int32.ofNat (((((((((nT + 4) + nD) + 1) + 0) + (SBG.digits (mag p3))) + 1) + nS) + 1) + nG))), .val (.int (1 : Int32)), .unset, .unset, .unset, .unset, .unset] [(.int ((linT (strF p1 (Int32.ofNat nT)) (strF p2 (Int32.ofNat nD)) p3 (strF p4 (Int32.ofNat nS)) (strF p5 (Int32.ofNat nG))).getD ((nT + 2)) 0))])
    refine W75.1.bipush (48 : Int32) (hb hby at_332) rfl (pc' := 334) rfl ?_
    refine W75.1.icmpNo (hb hby at_334) (XT.ii_ne_f (lin_2 2 (by omega) (by decide))) (pc' := 337) rfl ?_
    refine W75.1.aload (hb hby at_337) rfl rfl (pc' := 339) rfl ?_
    refine W75.1.iload (hb hby at_339) rfl (pc' := 341) rfl ?_
    refine W75.1.iconst (3 : Int32) (hb hby at_341) rfl (pc' := 342) rfl ?_
    refine W75.1.iadd (hb hby at_342) (pc' := 343) rfl ?_
    rw [show (Int32.ofNat nT) + (3 : Int32) = Int32.ofNat (nT + 3) from ofNat_add (nT) (3)]
    refine W75.1.callVP (y := (⟨"java/lang/String", "charAt", "(I)C"⟩ : MethodName)) (z := (⟨"java/lang/String", "charAt", "(I)C"⟩ : MethodName)) (hw _ (List.mem_of_getElem? (i := 177) rfl)) (hw _ (List.mem_of_getElem? (i := 178) rfl)) (hw _ (List.mem_of_getElem? (i := 180) rfl)) (hw _ (List.mem_of_getElem? (i := 180) rfl)) (hw _ (List.mem_of_getElem? (i := 179) rfl)) (by decide) (StrA.chr (wd := 0) S10 (linT_lat sT.2.1 sD.2.1 sS.2.1 sG.2.1) W75.1.2.2.2.1 hw (hw _ (List.mem_of_getElem? (i := 5) rfl)) F70 hz F72 rfm (by decide) (by decide) (i := ((nT + 3))) (j := (Int32.ofNat (nT + 3))) (by omega) rfl) S10.1 (hb hby at_343) (pc' := 346) rfl hml (argsL := [(.int (Int32.ofNat (nT + 3)))]) rfl (lenOf pd_32dd484b rfl) rfl (Nat.le_of_ble_eq_true rfl) (by decide) (by decide) (fun _ _ _ q => pu_nil q) ?_
    intro T76 L76 N76
    have W76 := W75.same N76
    show Go p e below _ T76 (mkF m 346 #[.val (.int p1), .val (.int p2), .val (.int p3), .val (.int p4), .val (.int p5), .val (.int p6), .val (.int (Int32.ofNat nT)), .val (.int (Int32.ofNat nD)), .val (.int (Int32.ofNat nS)), .val (.int (Int32.ofNat nG)), .val (.ref a1), .val (.ref a2), .val (.ref a4), .val (.ref a7), .val (.ref r10), .val (.long (Int64.ofNat (mag p3))), .second, .val (.int (Int32.ofNat (SBG.digits (mag p3)))), .val (.int (0 : Int32)), .val (.int (Int32.ofNat (((((((((nT + 4) + nD) + 1) + 0) + (SBG.digits (mag p3))) + 1) + nS) + 1) + nG))), .val (.int (1 : Int32)), .unset, .unset, .unset, .unset, .unset] [(.int ((linT (strF p1 (Int32.ofNat nT)) (strF p2 (Int32.ofNat nD)) p3 (strF p4 (Int32.ofNat nS)) (strF p5 (Int32.ofNat nG))).getD ((nT + 3)) 0))])
    refine W76.1.bipush (32 : Int32) (hb hby at_346) rfl (pc' := 348) rfl ?_
    refine W76.1.icmpNo (hb hby at_348) (XT.ii_ne_f (lin_2 3 (by omega) (by decide))) (pc' := 351) rfl ?_
    refine W76.1.iconst (1 : Int32) (hb hby at_351) rfl (pc' := 352) rfl ?_
    refine W76.1.goto (hb hby at_352) (by decide) (pc' := 356) (by decide) ?_
    refine W76.1.istore (Ls' := #[.val (.int p1), .val (.int p2), .val (.int p3), .val (.int p4), .val (.int p5), .val (.int p6), .val (.int (Int32.ofNat nT)), .val (.int (Int32.ofNat nD)), .val (.int (Int32.ofNat nS)), .val (.int (Int32.ofNat nG)), .val (.ref a1), .val (.ref a2), .val (.ref a4), .val (.ref a7), .val (.ref r10), .val (.long (Int64.ofNat (mag p3))), .second, .val (.int (Int32.ofNat (SBG.digits (mag p3)))), .val (.int (0 : Int32)), .val (.int (Int32.ofNat (((((((((nT + 4) + nD) + 1) + 0) + (SBG.digits (mag p3))) + 1) + nS) + 1) + nG))), .val (.int (1 : Int32)), .unset, .unset, .unset, .unset, .unset]) (hb hby at_356) rfl (pc' := 358) rfl ?_
    refine W76.1.iload (hb hby at_358) rfl (pc' := 360) rfl ?_
    refine W76.1.iconst (4 : Int32) (hb hby at_360) rfl (pc' := 361) rfl ?_
    refine W76.1.iadd (hb hby at_361) (pc' := 362) rfl ?_
    rw [show (Int32.ofNat nT) + (4 : Int32) = Int32.ofNat (nT + 4) from ofNat_add (nT) (4)]
    refine W76.1.istore (Ls' := #[.val (.int p1), .val (.int p2), .val (.int p3), .val (.int p4), .val (.int p5), .val (.int p6), .val (.int (Int32.ofNat nT)), .val (.int (Int32.ofNat nD)), .val (.int (Int32.ofNat nS)), .val (.int (Int32.ofNat nG)), .val (.ref a1), .val (.ref a2), .val (.ref a4), .val (.ref a7), .val (.ref r10), .val (.long (Int64.ofNat (mag p3))), .second, .val (.int (Int32.ofNat (SBG.digits (mag p3)))), .val (.int (0 : Int32)), .val (.int (Int32.ofNat (((((((((nT + 4) + nD) + 1) + 0) + (SBG.digits (mag p3))) + 1) + nS) + 1) + nG))), .val (.int (1 : Int32)), .val (.int (Int32.ofNat (nT + 4))), .unset, .unset, .unset, .unset]) (hb hby at_362) rfl (pc' := 364) rfl ?_
    refine W76.1.iload (hb hby at_364) rfl (pc' := 366) rfl ?_
    refine W76.1.ifNo (hb hby at_366) (XT.i0_eq_f (by decide)) (pc' := 369) rfl ?_
    refine W76.1.aload (hb hby at_369) rfl rfl (pc' := 371) rfl ?_
    refine W76.1.iload (hb hby at_371) rfl (pc' := 373) rfl ?_
    refine W76.1.iloadN (hb hby at_373) rfl (pc' := 374) rfl ?_
    refine W76.1.iload (hb hby at_374) rfl (pc' := 376) rfl ?_
    refine W76.1.callSP (hw _ (List.mem_of_getElem? (i := 174) rfl)) (hw _ (List.mem_of_getElem? (i := 175) rfl)) (hw _ (List.mem_of_getElem? (i := 2) rfl)) (hw _ (List.mem_of_getElem? (i := 176) rfl)) (by decide) (NM.bk (wd := 0) (rmSM l Z a0 hw r10 (linT (strF p1 (Int32.ofNat nT)) (strF p2 (Int32.ofNat nD)) p3 (strF p4 (Int32.ofNat nS)) (strF p5 (Int32.ofNat nG))) ((nT + 4)) nD p2 zc fm h10 n0 W76.1.n0h S10 (linT_lat sT.2.1 sD.2.1 sS.2.1 sG.2.1) hnD (by omega) (by omega) (fun h => (lin_3 0 (by omega) (by omega)).trans (sD.2.2.1 h)) (fun h => (lin_3 1 (by omega) (by omega)).trans (sD.2.2.2 h)) F70 hz F72 rfm) W76.1.2.2.2.1 (hw _ (List.mem_of_getElem? (i := 176) rfl)) (hw _ (List.mem_of_getElem? (i := 2) rfl)) (by decide) (by decide)) (hb hby at_376) (pc' := 379) rfl hml (argsL := [(.ref r10), (.int (Int32.ofNat (nT + 4))), (.int p2), (.int (Int32.ofNat nD))]) rfl (lenOf pd_79bde991 rfl) rfl (Nat.le_of_ble_eq_true rfl) (by decide) (by decide) (fun _ _ _ q => pu_of q) ?_
    intro T77 L77 N77
    have W77 := W76.same N77
    show Go p e below _ T77 (mkF m 379 #[.val (.int p1), .val (.int p2), .val (.int p3), .val (.int p4), .val (.int p5), .val (.int p6), .val (.int (Int32.ofNat nT)), .val (.int (Int32.ofNat nD)), .val (.int (Int32.ofNat nS)), .val (.int (Int32.ofNat nG)), .val (.ref a1), .val (.ref a2), .val (.ref a4), .val (.ref a7), .val (.ref r10), .val (.long (Int64.ofNat (mag p3))), .second, .val (.int (Int32.ofNat (SBG.digits (mag p3)))), .val (.int (0 : Int32)), .val (.int (Int32.ofNat (((((((((nT + 4) + nD) + 1) + 0) + (SBG.digits (mag p3))) + 1) + nS) + 1) + nG))), .val (.int (1 : Int32)), .val (.int (Int32.ofNat (nT + 4))), .unset, .unset, .unset, .unset] [(.int (1 : Int32))])
    refine W77.1.ifNo (hb hby at_379) (XT.i0_eq_f (by decide)) (pc' := 382) rfl ?_
    refine W77.1.aload (hb hby at_382) rfl rfl (pc' := 384) rfl ?_
    refine W77.1.iload (hb hby at_384) rfl (pc' := 386) rfl ?_
    refine W77.1.iload (hb hby at_386) rfl (pc' := 388) rfl ?_
    refine W77.1.iadd (hb hby at_388) (pc' := 389) rfl ?_
    rw [show (Int32.ofNat (nT + 4)) + (Int32.ofNat nD) = Int32.ofNat ((nT + 4) + nD) from ofNat_add ((nT + 4)) (nD)]
    refine W77.1.callVP (y := (⟨"java/lang/String", "charAt", "(I)C"⟩ : MethodName)) (z := (⟨"java/lang/String", "charAt", "(I)C"⟩ : MethodName)) (hw _ (List.mem_of_getElem? (i := 177) rfl)) (hw _ (List.mem_of_getElem? (i := 178) rfl)) (hw _ (List.mem_of_getElem? (i := 180) rfl)) (hw _ (List.mem_of_getElem? (i := 180) rfl)) (hw _ (List.mem_of_getElem? (i := 179) rfl)) (by decide) (StrA.chr (wd := 0) S10 (linT_lat sT.2.1 sD.2.1 sS.2.1 sG.2.1) W77.1.2.2.2.1 hw (hw _ (List.mem_of_getElem? (i := 5) rfl)) F70 hz F72 rfm (by decide) (by decide) (i := (((nT + 4) + nD))) (j := (Int32.ofNat ((nT + 4) + nD))) (by omega) rfl) S10.1 (hb hby at_389) (pc' := 392) rfl hml (argsL := [(.int (Int32.ofNat ((nT + 4) + nD)))]) rfl (lenOf pd_32dd484b rfl) rfl (Nat.le_of_ble_eq_true rfl) (by decide) (by decide) (fun _ _ _ q => pu_nil q) ?_
    intro T78 L78 N78
    have W78 := W77.same N78
    show Go p e below _ T78 (mkF m 392 #[.val (.int p1), .val (.int p2), .val (.int p3), .val (.int p4), .val (.int p5), .val (.int p6), .val (.int (Int32.ofNat nT)), .val (.int (Int32.ofNat nD)), .val (.int (Int32.ofNat nS)), .val (.int (Int32.ofNat nG)), .val (.ref a1), .val (.ref a2), .val (.ref a4), .val (.ref a7), .val (.ref r10), .val (.long (Int64.ofNat (mag p3))), .second, .val (.int (Int32.ofNat (SBG.digits (mag p3)))), .val (.int (0 : Int32)), .val (.int (Int32.ofNat (((((((((nT + 4) + nD) + 1) + 0) + (SBG.digits (mag p3))) + 1) + nS) + 1) + nG))), .val (.int (1 : Int32)), .val (.int (Int32.ofNat (nT + 4))), .unset, .unset, .unset, .unset] [(.int ((linT (strF p1 (Int32.ofNat nT)) (strF p2 (Int32.ofNat nD)) p3 (strF p4 (Int32.ofNat nS)) (strF p5 (Int32.ofNat nG))).getD (((nT + 4) + nD)) 0))])
    refine W78.1.bipush (32 : Int32) (hb hby at_392) rfl (pc' := 394) rfl ?_
    refine W78.1.icmpNo (hb hby at_394) (XT.ii_ne_f (lin_4 (by omega))) (pc' := 397) rfl ?_
    refine W78.1.iconst (1 : Int32) (hb hby at_397) rfl (pc' := 398) rfl ?_
    refine W78.1.goto (hb hby at_398) (by decide) (pc' := 402) (by decide) ?_
    refine W78.1.istore (Ls' := #[.val (.int p1), .val (.int p2), .val (.int p3), .val (.int p4), .val (.int p5), .val (.int p6), .val (.int (Int32.ofNat nT)), .val (.int (Int32.ofNat nD)), .val (.int (Int32.ofNat nS)), .val (.int (Int32.ofNat nG)), .val (.ref a1), .val (.ref a2), .val (.ref a4), .val (.ref a7), .val (.ref r10), .val (.long (Int64.ofNat (mag p3))), .second, .val (.int (Int32.ofNat (SBG.digits (mag p3)))), .val (.int (0 : Int32)), .val (.int (Int32.ofNat (((((((((nT + 4) + nD) + 1) + 0) + (SBG.digits (mag p3))) + 1) + nS) + 1) + nG))), .val (.int (1 : Int32)), .val (.int (Int32.ofNat (nT + 4))), .unset, .unset, .unset, .unset]) (hb hby at_402) rfl (pc' := 404) rfl ?_
    refine W78.1.iload (hb hby at_404) rfl (pc' := 406) rfl ?_
    refine W78.1.iload (hb hby at_406) rfl (pc' := 408) rfl ?_
    refine W78.1.iadd (hb hby at_408) (pc' := 409) rfl ?_
    rw [show (Int32.ofNat (nT + 4)) + (Int32.ofNat nD) = Int32.ofNat ((nT + 4) + nD) from ofNat_add ((nT + 4)) (nD)]
    refine W78.1.iconst (1 : Int32) (hb hby at_409) rfl (pc' := 410) rfl ?_
    refine W78.1.iadd (hb hby at_410) (pc' := 411) rfl ?_
    rw [show (Int32.ofNat ((nT + 4) + nD)) + (1 : Int32) = Int32.ofNat (((nT + 4) + nD) + 1) from ofNat_add (((nT + 4) + nD)) (1)]
    refine W78.1.istore (Ls' := #[.val (.int p1), .val (.int p2), .val (.int p3), .val (.int p4), .val (.int p5), .val (.int p6), .val (.int (Int32.ofNat nT)), .val (.int (Int32.ofNat nD)), .val (.int (Int32.ofNat nS)), .val (.int (Int32.ofNat nG)), .val (.ref a1), .val (.ref a2), .val (.ref a4), .val (.ref a7), .val (.ref r10), .val (.long (Int64.ofNat (mag p3))), .second, .val (.int (Int32.ofNat (SBG.digits (mag p3)))), .val (.int (0 : Int32)), .val (.int (Int32.ofNat (((((((((nT + 4) + nD) + 1) + 0) + (SBG.digits (mag p3))) + 1) + nS) + 1) + nG))), .val (.int (1 : Int32)), .val (.int (Int32.ofNat (nT + 4))), .val (.int (Int32.ofNat (((nT + 4) + nD) + 1))), .unset, .unset, .unset]) (hb hby at_411) rfl (pc' := 413) rfl ?_
    refine W78.1.iload (hb hby at_413) rfl (pc' := 415) rfl ?_
    refine W78.1.ifNo (hb hby at_415) (XT.i0_eq_f (by decide)) (pc' := 418) rfl ?_
    refine W78.1.iload (hb hby at_418) rfl (pc' := 420) rfl ?_
    refine W78.1.ifYes (hb hby at_420) (XT.i0_eq_t (by decide)) (by decide) (pc' := 435) (by decide) ?_
    refine W78.1.iconst (1 : Int32) (hb hby at_435) rfl (pc' := 436) rfl ?_
    refine W78.1.goto (hb hby at_436) (by decide) (pc' := 440) (by decide) ?_
    refine W78.1.istore (Ls' := #[.val (.int p1), .val (.int p2), .val (.int p3), .val (.int p4), .val (.int p5), .val (.int p6), .val (.int (Int32.ofNat nT)), .val (.int (Int32.ofNat nD)), .val (.int (Int32.ofNat nS)), .val (.int (Int32.ofNat nG)), .val (.ref a1), .val (.ref a2), .val (.ref a4), .val (.ref a7), .val (.ref r10), .val (.long (Int64.ofNat (mag p3))), .second, .val (.int (Int32.ofNat (SBG.digits (mag p3)))), .val (.int (0 : Int32)), .val (.int (Int32.ofNat (((((((((nT + 4) + nD) + 1) + 0) + (SBG.digits (mag p3))) + 1) + nS) + 1) + nG))), .val (.int (1 : Int32)), .val (.int (Int32.ofNat (nT + 4))), .val (.int (Int32.ofNat (((nT + 4) + nD) + 1))), .unset, .unset, .unset]) (hb hby at_440) rfl (pc' := 442) rfl ?_
    refine W78.1.iload (hb hby at_442) rfl (pc' := 444) rfl ?_
    refine W78.1.iload (hb hby at_444) rfl (pc' := 446) rfl ?_
    refine W78.1.iadd (hb hby at_446) (pc' := 447) rfl ?_
    rw [show (Int32.ofNat (((nT + 4) + nD) + 1)) + (0 : Int32) = Int32.ofNat ((((nT + 4) + nD) + 1) + 0) from ofNat_add ((((nT + 4) + nD) + 1)) (0)]
    refine W78.1.iload (hb hby at_447) rfl (pc' := 449) rfl ?_
    refine W78.1.iadd (hb hby at_449) (pc' := 450) rfl ?_
    rw [show (Int32.ofNat ((((nT + 4) + nD) + 1) + 0)) + (Int32.ofNat (SBG.digits (mag p3))) = Int32.ofNat (((((nT + 4) + nD) + 1) + 0) + (SBG.digits (mag p3))) from ofNat_add (((((nT + 4) + nD) + 1) + 0)) ((SBG.digits (mag p3)))]
    refine W78.1.istore (Ls' := #[.val (.int p1), .val (.int p2), .val (.int p3), .val (.int p4), .val (.int p5), .val (.int p6), .val (.int (Int32.ofNat nT)), .val (.int (Int32.ofNat nD)), .val (.int (Int32.ofNat nS)), .val (.int (Int32.ofNat nG)), .val (.ref a1), .val (.ref a2), .val (.ref a4), .val (.ref a7), .val (.ref r10), .val (.long (Int64.ofNat (mag p3))), .second, .val (.int (Int32.ofNat (SBG.digits (mag p3)))), .val (.int (0 : Int32)), .val (.int (Int32.ofNat (((((((((nT + 4) + nD) + 1) + 0) + (SBG.digits (mag p3))) + 1) + nS) + 1) + nG))), .val (.int (1 : Int32)), .val (.int (Int32.ofNat (nT + 4))), .val (.int (Int32.ofNat (((nT + 4) + nD) + 1))), .val (.int (Int32.ofNat (((((nT + 4) + nD) + 1) + 0) + (SBG.digits (mag p3))))), .unset, .unset]) (hb hby at_450) rfl (pc' := 452) rfl ?_
    refine W78.1.iload (hb hby at_452) rfl (pc' := 454) rfl ?_
    refine W78.1.ifNo (hb hby at_454) (XT.i0_eq_f (by decide)) (pc' := 457) rfl ?_
    refine W78.1.aload (hb hby at_457) rfl rfl (pc' := 459) rfl ?_
    refine W78.1.iload (hb hby at_459) rfl (pc' := 461) rfl ?_
    refine W78.1.lload (hb hby at_461) rfl (pc' := 463) rfl ?_
    refine W78.1.iload (hb hby at_463) rfl (pc' := 465) rfl ?_
    refine W78.1.iconst (0 : Int32) (hb hby at_465) rfl (pc' := 466) rfl ?_
    refine W78.1.lconst (1 : Int64) (hb hby at_466) rfl (pc' := 467) rfl ?_
    refine W78.1.callSP (hw _ (List.mem_of_getElem? (i := 199) rfl)) (hw _ (List.mem_of_getElem? (i := 200) rfl)) (hw _ (List.mem_of_getElem? (i := 2) rfl)) (hw _ (List.mem_of_getElem? (i := 201) rfl)) (by decide) (NM.bk (wd := 0) (rmDK l Z a0 hw r10 (linT (strF p1 (Int32.ofNat nT)) (strF p2 (Int32.ofNat nD)) p3 (strF p4 (Int32.ofNat nS)) (strF p5 (Int32.ofNat nG))) ((((((nT + 4) + nD) + 1) + 0) + (SBG.digits (mag p3)))) (SBG.digits (mag p3)) 0 (mag p3) zc fm h10 n0 W78.1.n0h S10 (linT_lat sT.2.1 sD.2.1 sS.2.1 sG.2.1) (mag_le p3) (by omega) (by decide) (by omega) (by omega) (by omega) (fun h => (lin_5 ((itx p3).length - 1 - 0) (by omega) (by omega)).trans (itx_end h)) F70 hz F72 rfm) W78.1.2.2.2.1 (hw _ (List.mem_of_getElem? (i := 201) rfl)) (hw _ (List.mem_of_getElem? (i := 2) rfl)) (by decide) (by decide)) (hb hby at_467) (pc' := 470) rfl hml (argsL := [(.ref r10), (.int (Int32.ofNat (((((nT + 4) + nD) + 1) + 0) + (SBG.digits (mag p3))))), (.long (Int64.ofNat (mag p3))), (.int (Int32.ofNat (SBG.digits (mag p3)))), (.int (0 : Int32)), (.long (1 : Int64))]) rfl (lenOf pd_27029474 rfl) rfl (Nat.le_of_ble_eq_true rfl) (by decide) (by decide) (fun _ _ _ q => pu_of q) ?_
    intro T79 L79 N79
    have W79 := W78.same N79
    show Go p e below _ T79 (mkF m 470 #[.val (.int p1), .val (.int p2), .val (.int p3), .val (.int p4), .val (.int p5), .val (.int p6), .val (.int (Int32.ofNat nT)), .val (.int (Int32.ofNat nD)), .val (.int (Int32.ofNat nS)), .val (.int (Int32.ofNat nG)), .val (.ref a1), .val (.ref a2), .val (.ref a4), .val (.ref a7), .val (.ref r10), .val (.long (Int64.ofNat (mag p3))), .second, .val (.int (Int32.ofNat (SBG.digits (mag p3)))), .val (.int (0 : Int32)), .val (.int (Int32.ofNat (((((((((nT + 4) + nD) + 1) + 0) + (SBG.digits (mag p3))) + 1) + nS) + 1) + nG))), .val (.int (1 : Int32)), .val (.int (Int32.ofNat (nT + 4))), .val (.int (Int32.ofNat (((nT + 4) + nD) + 1))), .val (.int (Int32.ofNat (((((nT + 4) + nD) + 1) + 0) + (SBG.digits (mag p3))))), .unset, .unset] [(.int (1 : Int32))])
    refine W79.1.ifNo (hb hby at_470) (XT.i0_eq_f (by decide)) (pc' := 473) rfl ?_
    refine W79.1.aload (hb hby at_473) rfl rfl (pc' := 475) rfl ?_
    refine W79.1.iload (hb hby at_475) rfl (pc' := 477) rfl ?_
    refine W79.1.lload (hb hby at_477) rfl (pc' := 479) rfl ?_
    refine W79.1.iload (hb hby at_479) rfl (pc' := 481) rfl ?_
    refine W79.1.iconst (1 : Int32) (hb hby at_481) rfl (pc' := 482) rfl ?_
    refine W79.1.ldc2J (hb hby at_482) (hw _ (List.mem_of_getElem? (i := 164) rfl)) (pc' := 485) rfl ?_
    refine W79.1.callSP (hw _ (List.mem_of_getElem? (i := 199) rfl)) (hw _ (List.mem_of_getElem? (i := 200) rfl)) (hw _ (List.mem_of_getElem? (i := 2) rfl)) (hw _ (List.mem_of_getElem? (i := 201) rfl)) (by decide) (NM.bk (wd := 0) (rmDK l Z a0 hw r10 (linT (strF p1 (Int32.ofNat nT)) (strF p2 (Int32.ofNat nD)) p3 (strF p4 (Int32.ofNat nS)) (strF p5 (Int32.ofNat nG))) ((((((nT + 4) + nD) + 1) + 0) + (SBG.digits (mag p3)))) (SBG.digits (mag p3)) 1 (mag p3) zc fm h10 n0 W79.1.n0h S10 (linT_lat sT.2.1 sD.2.1 sS.2.1 sG.2.1) (mag_le p3) (by omega) (by decide) (by omega) (by omega) (by omega) (fun h => (lin_5 ((itx p3).length - 1 - 1) (by omega) (by omega)).trans (itx_end h)) F70 hz F72 rfm) W79.1.2.2.2.1 (hw _ (List.mem_of_getElem? (i := 201) rfl)) (hw _ (List.mem_of_getElem? (i := 2) rfl)) (by decide) (by decide)) (hb hby at_485) (pc' := 488) rfl hml (argsL := [(.ref r10), (.int (Int32.ofNat (((((nT + 4) + nD) + 1) + 0) + (SBG.digits (mag p3))))), (.long (Int64.ofNat (mag p3))), (.int (Int32.ofNat (SBG.digits (mag p3)))), (.int (1 : Int32)), (.long (10 : Int64))]) rfl (lenOf pd_27029474 rfl) rfl (Nat.le_of_ble_eq_true rfl) (by decide) (by decide) (fun _ _ _ q => pu_of q) ?_
    intro T80 L80 N80
    have W80 := W79.same N80
    show Go p e below _ T80 (mkF m 488 #[.val (.int p1), .val (.int p2), .val (.int p3), .val (.int p4), .val (.int p5), .val (.int p6), .val (.int (Int32.ofNat nT)), .val (.int (Int32.ofNat nD)), .val (.int (Int32.ofNat nS)), .val (.int (Int32.ofNat nG)), .val (.ref a1), .val (.ref a2), .val (.ref a4), .val (.ref a7), .val (.ref r10), .val (.long (Int64.ofNat (mag p3))), .second, .val (.int (Int32.ofNat (SBG.digits (mag p3)))), .val (.int (0 : Int32)), .val (.int (Int32.ofNat (((((((((nT + 4) + nD) + 1) + 0) + (SBG.digits (mag p3))) + 1) + nS) + 1) + nG))), .val (.int (1 : Int32)), .val (.int (Int32.ofNat (nT + 4))), .val (.int (Int32.ofNat (((nT + 4) + nD) + 1))), .val (.int (Int32.ofNat (((((nT + 4) + nD) + 1) + 0) + (SBG.digits (mag p3))))), .unset, .unset] [(.int (1 : Int32))])
    refine W80.1.ifNo (hb hby at_488) (XT.i0_eq_f (by decide)) (pc' := 491) rfl ?_
    refine W80.1.aload (hb hby at_491) rfl rfl (pc' := 493) rfl ?_
    refine W80.1.iload (hb hby at_493) rfl (pc' := 495) rfl ?_
    refine W80.1.lload (hb hby at_495) rfl (pc' := 497) rfl ?_
    refine W80.1.iload (hb hby at_497) rfl (pc' := 499) rfl ?_
    refine W80.1.iconst (2 : Int32) (hb hby at_499) rfl (pc' := 500) rfl ?_
    refine W80.1.ldc2J (hb hby at_500) (hw _ (List.mem_of_getElem? (i := 165) rfl)) (pc' := 503) rfl ?_
    refine W80.1.callSP (hw _ (List.mem_of_getElem? (i := 199) rfl)) (hw _ (List.mem_of_getElem? (i := 200) rfl)) (hw _ (List.mem_of_getElem? (i := 2) rfl)) (hw _ (List.mem_of_getElem? (i := 201) rfl)) (by decide) (NM.bk (wd := 0) (rmDK l Z a0 hw r10 (linT (strF p1 (Int32.ofNat nT)) (strF p2 (Int32.ofNat nD)) p3 (strF p4 (Int32.ofNat nS)) (strF p5 (Int32.ofNat nG))) ((((((nT + 4) + nD) + 1) + 0) + (SBG.digits (mag p3)))) (SBG.digits (mag p3)) 2 (mag p3) zc fm h10 n0 W80.1.n0h S10 (linT_lat sT.2.1 sD.2.1 sS.2.1 sG.2.1) (mag_le p3) (by omega) (by decide) (by omega) (by omega) (by omega) (fun h => (lin_5 ((itx p3).length - 1 - 2) (by omega) (by omega)).trans (itx_end h)) F70 hz F72 rfm) W80.1.2.2.2.1 (hw _ (List.mem_of_getElem? (i := 201) rfl)) (hw _ (List.mem_of_getElem? (i := 2) rfl)) (by decide) (by decide)) (hb hby at_503) (pc' := 506) rfl hml (argsL := [(.ref r10), (.int (Int32.ofNat (((((nT + 4) + nD) + 1) + 0) + (SBG.digits (mag p3))))), (.long (Int64.ofNat (mag p3))), (.int (Int32.ofNat (SBG.digits (mag p3)))), (.int (2 : Int32)), (.long (100 : Int64))]) rfl (lenOf pd_27029474 rfl) rfl (Nat.le_of_ble_eq_true rfl) (by decide) (by decide) (fun _ _ _ q => pu_of q) ?_
    intro T81 L81 N81
    have W81 := W80.same N81
    show Go p e below _ T81 (mkF m 506 #[.val (.int p1), .val (.int p2), .val (.int p3), .val (.int p4), .val (.int p5), .val (.int p6), .val (.int (Int32.ofNat nT)), .val (.int (Int32.ofNat nD)), .val (.int (Int32.ofNat nS)), .val (.int (Int32.ofNat nG)), .val (.ref a1), .val (.ref a2), .val (.ref a4), .val (.ref a7), .val (.ref r10), .val (.long (Int64.ofNat (mag p3))), .second, .val (.int (Int32.ofNat (SBG.digits (mag p3)))), .val (.int (0 : Int32)), .val (.int (Int32.ofNat (((((((((nT + 4) + nD) + 1) + 0) + (SBG.digits (mag p3))) + 1) + nS) + 1) + nG))), .val (.int (1 : Int32)), .val (.int (Int32.ofNat (nT + 4))), .val (.int (Int32.ofNat (((nT + 4) + nD) + 1))), .val (.int (Int32.ofNat (((((nT + 4) + nD) + 1) + 0) + (SBG.digits (mag p3))))), .unset, .unset] [(.int (1 : Int32))])
    refine W81.1.ifNo (hb hby at_506) (XT.i0_eq_f (by decide)) (pc' := 509) rfl ?_
    refine W81.1.aload (hb hby at_509) rfl rfl (pc' := 511) rfl ?_
    refine W81.1.iload (hb hby at_511) rfl (pc' := 513) rfl ?_
    refine W81.1.lload (hb hby at_513) rfl (pc' := 515) rfl ?_
    refine W81.1.iload (hb hby at_515) rfl (pc' := 517) rfl ?_
    refine W81.1.iconst (3 : Int32) (hb hby at_517) rfl (pc' := 518) rfl ?_
    refine W81.1.ldc2J (hb hby at_518) (hw _ (List.mem_of_getElem? (i := 166) rfl)) (pc' := 521) rfl ?_
    refine W81.1.callSP (hw _ (List.mem_of_getElem? (i := 199) rfl)) (hw _ (List.mem_of_getElem? (i := 200) rfl)) (hw _ (List.mem_of_getElem? (i := 2) rfl)) (hw _ (List.mem_of_getElem? (i := 201) rfl)) (by decide) (NM.bk (wd := 0) (rmDK l Z a0 hw r10 (linT (strF p1 (Int32.ofNat nT)) (strF p2 (Int32.ofNat nD)) p3 (strF p4 (Int32.ofNat nS)) (strF p5 (Int32.ofNat nG))) ((((((nT + 4) + nD) + 1) + 0) + (SBG.digits (mag p3)))) (SBG.digits (mag p3)) 3 (mag p3) zc fm h10 n0 W81.1.n0h S10 (linT_lat sT.2.1 sD.2.1 sS.2.1 sG.2.1) (mag_le p3) (by omega) (by decide) (by omega) (by omega) (by omega) (fun h => (lin_5 ((itx p3).length - 1 - 3) (by omega) (by omega)).trans (itx_end h)) F70 hz F72 rfm) W81.1.2.2.2.1 (hw _ (List.mem_of_getElem? (i := 201) rfl)) (hw _ (List.mem_of_getElem? (i := 2) rfl)) (by decide) (by decide)) (hb hby at_521) (pc' := 524) rfl hml (argsL := [(.ref r10), (.int (Int32.ofNat (((((nT + 4) + nD) + 1) + 0) + (SBG.digits (mag p3))))), (.long (Int64.ofNat (mag p3))), (.int (Int32.ofNat (SBG.digits (mag p3)))), (.int (3 : Int32)), (.long (1000 : Int64))]) rfl (lenOf pd_27029474 rfl) rfl (Nat.le_of_ble_eq_true rfl) (by decide) (by decide) (fun _ _ _ q => pu_of q) ?_
    intro T82 L82 N82
    have W82 := W81.same N82
    show Go p e below _ T82 (mkF m 524 #[.val (.int p1), .val (.int p2), .val (.int p3), .val (.int p4), .val (.int p5), .val (.int p6), .val (.int (Int32.ofNat nT)), .val (.int (Int32.ofNat nD)), .val (.int (Int32.ofNat nS)), .val (.int (Int32.ofNat nG)), .val (.ref a1), .val (.ref a2), .val (.ref a4), .val (.ref a7), .val (.ref r10), .val (.long (Int64.ofNat (mag p3))), .second, .val (.int (Int32.ofNat (SBG.digits (mag p3)))), .val (.int (0 : Int32)), .val (.int (Int32.ofNat (((((((((nT + 4) + nD) + 1) + 0) + (SBG.digits (mag p3))) + 1) + nS) + 1) + nG))), .val (.int (1 : Int32)), .val (.int (Int32.ofNat (nT + 4))), .val (.int (Int32.ofNat (((nT + 4) + nD) + 1))), .val (.int (Int32.ofNat (((((nT + 4) + nD) + 1) + 0) + (SBG.digits (mag p3))))), .unset, .unset] [(.int (1 : Int32))])
    refine W82.1.ifNo (hb hby at_524) (XT.i0_eq_f (by decide)) (pc' := 527) rfl ?_
    refine W82.1.aload (hb hby at_527) rfl rfl (pc' := 529) rfl ?_
    refine W82.1.iload (hb hby at_529) rfl (pc' := 531) rfl ?_
    refine W82.1.lload (hb hby at_531) rfl (pc' := 533) rfl ?_
    refine W82.1.iload (hb hby at_533) rfl (pc' := 535) rfl ?_
    refine W82.1.iconst (4 : Int32) (hb hby at_535) rfl (pc' := 536) rfl ?_
    refine W82.1.ldc2J (hb hby at_536) (hw _ (List.mem_of_getElem? (i := 167) rfl)) (pc' := 539) rfl ?_
    refine W82.1.callSP (hw _ (List.mem_of_getElem? (i := 199) rfl)) (hw _ (List.mem_of_getElem? (i := 200) rfl)) (hw _ (List.mem_of_getElem? (i := 2) rfl)) (hw _ (List.mem_of_getElem? (i := 201) rfl)) (by decide) (NM.bk (wd := 0) (rmDK l Z a0 hw r10 (linT (strF p1 (Int32.ofNat nT)) (strF p2 (Int32.ofNat nD)) p3 (strF p4 (Int32.ofNat nS)) (strF p5 (Int32.ofNat nG))) ((((((nT + 4) + nD) + 1) + 0) + (SBG.digits (mag p3)))) (SBG.digits (mag p3)) 4 (mag p3) zc fm h10 n0 W82.1.n0h S10 (linT_lat sT.2.1 sD.2.1 sS.2.1 sG.2.1) (mag_le p3) (by omega) (by decide) (by omega) (by omega) (by omega) (fun h => (lin_5 ((itx p3).length - 1 - 4) (by omega) (by omega)).trans (itx_end h)) F70 hz F72 rfm) W82.1.2.2.2.1 (hw _ (List.mem_of_getElem? (i := 201) rfl)) (hw _ (List.mem_of_getElem? (i := 2) rfl)) (by decide) (by decide)) (hb hby at_539) (pc' := 542) rfl hml (argsL := [(.ref r10), (.int (Int32.ofNat (((((nT + 4) + nD) + 1) + 0) + (SBG.digits (mag p3))))), (.long (Int64.ofNat (mag p3))), (.int (Int32.ofNat (SBG.digits (mag p3)))), (.int (4 : Int32)), (.long (10000 : Int64))]) rfl (lenOf pd_27029474 rfl) rfl (Nat.le_of_ble_eq_true rfl) (by decide) (by decide) (fun _ _ _ q => pu_of q) ?_
    intro T83 L83 N83
    have W83 := W82.same N83
    show Go p e below _ T83 (mkF m 542 #[.val (.int p1), .val (.int p2), .val (.int p3), .val (.int p4), .val (.int p5), .val (.int p6), .val (.int (Int32.ofNat nT)), .val (.int (Int32.ofNat nD)), .val (.int (Int32.ofNat nS)), .val (.int (Int32.ofNat nG)), .val (.ref a1), .val (.ref a2), .val (.ref a4), .val (.ref a7), .val (.ref r10), .val (.long (Int64.ofNat (mag p3))), .second, .val (.int (Int32.ofNat (SBG.digits (mag p3)))), .val (.int (0 : Int32)), .val (.int (Int32.ofNat (((((((((nT + 4) + nD) + 1) + 0) + (SBG.digits (mag p3))) + 1) + nS) + 1) + nG))), .val (.int (1 : Int32)), .val (.int (Int32.ofNat (nT + 4))), .val (.int (Int32.ofNat (((nT + 4) + nD) + 1))), .val (.int (Int32.ofNat (((((nT + 4) + nD) + 1) + 0) + (SBG.digits (mag p3))))), .unset, .unset] [(.int (1 : Int32))])
    refine W83.1.ifNo (hb hby at_542) (XT.i0_eq_f (by decide)) (pc' := 545) rfl ?_
    refine W83.1.aload (hb hby at_545) rfl rfl (pc' := 547) rfl ?_
    refine W83.1.iload (hb hby at_547) rfl (pc' := 549) rfl ?_
    refine W83.1.lload (hb hby at_549) rfl (pc' := 551) rfl ?_
    refine W83.1.iload (hb hby at_551) rfl (pc' := 553) rfl ?_
    refine W83.1.iconst (5 : Int32) (hb hby at_553) rfl (pc' := 554) rfl ?_
    refine W83.1.ldc2J (hb hby at_554) (hw _ (List.mem_of_getElem? (i := 168) rfl)) (pc' := 557) rfl ?_
    refine W83.1.callSP (hw _ (List.mem_of_getElem? (i := 199) rfl)) (hw _ (List.mem_of_getElem? (i := 200) rfl)) (hw _ (List.mem_of_getElem? (i := 2) rfl)) (hw _ (List.mem_of_getElem? (i := 201) rfl)) (by decide) (NM.bk (wd := 0) (rmDK l Z a0 hw r10 (linT (strF p1 (Int32.ofNat nT)) (strF p2 (Int32.ofNat nD)) p3 (strF p4 (Int32.ofNat nS)) (strF p5 (Int32.ofNat nG))) ((((((nT + 4) + nD) + 1) + 0) + (SBG.digits (mag p3)))) (SBG.digits (mag p3)) 5 (mag p3) zc fm h10 n0 W83.1.n0h S10 (linT_lat sT.2.1 sD.2.1 sS.2.1 sG.2.1) (mag_le p3) (by omega) (by decide) (by omega) (by omega) (by omega) (fun h => (lin_5 ((itx p3).length - 1 - 5) (by omega) (by omega)).trans (itx_end h)) F70 hz F72 rfm) W83.1.2.2.2.1 (hw _ (List.mem_of_getElem? (i := 201) rfl)) (hw _ (List.mem_of_getElem? (i := 2) rfl)) (by decide) (by decide)) (hb hby at_557) (pc' := 560) rfl hml (argsL := [(.ref r10), (.int (Int32.ofNat (((((nT + 4) + nD) + 1) + 0) + (SBG.digits (mag p3))))), (.long (Int64.ofNat (mag p3))), (.int (Int32.ofNat (SBG.digits (mag p3)))), (.int (5 : Int32)), (.long (100000 : Int64))]) rfl (lenOf pd_27029474 rfl) rfl (Nat.le_of_ble_eq_true rfl) (by decide) (by decide) (fun _ _ _ q => pu_of q) ?_
    intro T84 L84 N84
    have W84 := W83.same N84
    show Go p e below _ T84 (mkF m 560 #[.val (.int p1), .val (.int p2), .val (.int p3), .val (.int p4), .val (.int p5), .val (.int p6), .val (.int (Int32.ofNat nT)), .val (.int (Int32.ofNat nD)), .val (.int (Int32.ofNat nS)), .val (.int (Int32.ofNat nG)), .val (.ref a1), .val (.ref a2), .val (.ref a4), .val (.ref a7), .val (.ref r10), .val (.long (Int64.ofNat (mag p3))), .second, .val (.int (Int32.ofNat (SBG.digits (mag p3)))), .val (.int (0 : Int32)), .val (.int (Int32.ofNat (((((((((nT + 4) + nD) + 1) + 0) + (SBG.digits (mag p3))) + 1) + nS) + 1) + nG))), .val (.int (1 : Int32)), .val (.int (Int32.ofNat (nT + 4))), .val (.int (Int32.ofNat (((nT + 4) + nD) + 1))), .val (.int (Int32.ofNat (((((nT + 4) + nD) + 1) + 0) + (SBG.digits (mag p3))))), .unset, .unset] [(.int (1 : Int32))])
    refine W84.1.ifNo (hb hby at_560) (XT.i0_eq_f (by decide)) (pc' := 563) rfl ?_
    refine W84.1.aload (hb hby at_563) rfl rfl (pc' := 565) rfl ?_
    refine W84.1.iload (hb hby at_565) rfl (pc' := 567) rfl ?_
    refine W84.1.lload (hb hby at_567) rfl (pc' := 569) rfl ?_
    refine W84.1.iload (hb hby at_569) rfl (pc' := 571) rfl ?_
    refine W84.1.bipush (6 : Int32) (hb hby at_571) rfl (pc' := 573) rfl ?_
    refine W84.1.ldc2J (hb hby at_573) (hw _ (List.mem_of_getElem? (i := 169) rfl)) (pc' := 576) rfl ?_
    refine W84.1.callSP (hw _ (List.mem_of_getElem? (i := 199) rfl)) (hw _ (List.mem_of_getElem? (i := 200) rfl)) (hw _ (List.mem_of_getElem? (i := 2) rfl)) (hw _ (List.mem_of_getElem? (i := 201) rfl)) (by decide) (NM.bk (wd := 0) (rmDK l Z a0 hw r10 (linT (strF p1 (Int32.ofNat nT)) (strF p2 (Int32.ofNat nD)) p3 (strF p4 (Int32.ofNat nS)) (strF p5 (Int32.ofNat nG))) ((((((nT + 4) + nD) + 1) + 0) + (SBG.digits (mag p3)))) (SBG.digits (mag p3)) 6 (mag p3) zc fm h10 n0 W84.1.n0h S10 (linT_lat sT.2.1 sD.2.1 sS.2.1 sG.2.1) (mag_le p3) (by omega) (by decide) (by omega) (by omega) (by omega) (fun h => (lin_5 ((itx p3).length - 1 - 6) (by omega) (by omega)).trans (itx_end h)) F70 hz F72 rfm) W84.1.2.2.2.1 (hw _ (List.mem_of_getElem? (i := 201) rfl)) (hw _ (List.mem_of_getElem? (i := 2) rfl)) (by decide) (by decide)) (hb hby at_576) (pc' := 579) rfl hml (argsL := [(.ref r10), (.int (Int32.ofNat (((((nT + 4) + nD) + 1) + 0) + (SBG.digits (mag p3))))), (.long (Int64.ofNat (mag p3))), (.int (Int32.ofNat (SBG.digits (mag p3)))), (.int (6 : Int32)), (.long (1000000 : Int64))]) rfl (lenOf pd_27029474 rfl) rfl (Nat.le_of_ble_eq_true rfl) (by decide) (by decide) (fun _ _ _ q => pu_of q) ?_
    intro T85 L85 N85
    have W85 := W84.same N85
    show Go p e below _ T85 (mkF m 579 #[.val (.int p1), .val (.int p2), .val (.int p3), .val (.int p4), .val (.int p5), .val (.int p6), .val (.int (Int32.ofNat nT)), .val (.int (Int32.ofNat nD)), .val (.int (Int32.ofNat nS)), .val (.int (Int32.ofNat nG)), .val (.ref a1), .val (.ref a2), .val (.ref a4), .val (.ref a7), .val (.ref r10), .val (.long (Int64.ofNat (mag p3))), .second, .val (.int (Int32.ofNat (SBG.digits (mag p3)))), .val (.int (0 : Int32)), .val (.int (Int32.ofNat (((((((((nT + 4) + nD) + 1) + 0) + (SBG.digits (mag p3))) + 1) + nS) + 1) + nG))), .val (.int (1 : Int32)), .val (.int (Int32.ofNat (nT + 4))), .val (.int (Int32.ofNat (((nT + 4) + nD) + 1))), .val (.int (Int32.ofNat (((((nT + 4) + nD) + 1) + 0) + (SBG.digits (mag p3))))), .unset, .unset] [(.int (1 : Int32))])
    refine W85.1.ifNo (hb hby at_579) (XT.i0_eq_f (by decide)) (pc' := 582) rfl ?_
    refine W85.1.aload (hb hby at_582) rfl rfl (pc' := 584) rfl ?_
    refine W85.1.iload (hb hby at_584) rfl (pc' := 586) rfl ?_
    refine W85.1.lload (hb hby at_586) rfl (pc' := 588) rfl ?_
    refine W85.1.iload (hb hby at_588) rfl (pc' := 590) rfl ?_
    refine W85.1.bipush (7 : Int32) (hb hby at_590) rfl (pc' := 592) rfl ?_
    refine W85.1.ldc2J (hb hby at_592) (hw _ (List.mem_of_getElem? (i := 170) rfl)) (pc' := 595) rfl ?_
    refine W85.1.callSP (hw _ (List.mem_of_getElem? (i := 199) rfl)) (hw _ (List.mem_of_getElem? (i := 200) rfl)) (hw _ (List.mem_of_getElem? (i := 2) rfl)) (hw _ (List.mem_of_getElem? (i := 201) rfl)) (by decide) (NM.bk (wd := 0) (rmDK l Z a0 hw r10 (linT (strF p1 (Int32.ofNat nT)) (strF p2 (Int32.ofNat nD)) p3 (strF p4 (Int32.ofNat nS)) (strF p5 (Int32.ofNat nG))) ((((((nT + 4) + nD) + 1) + 0) + (SBG.digits (mag p3)))) (SBG.digits (mag p3)) 7 (mag p3) zc fm h10 n0 W85.1.n0h S10 (linT_lat sT.2.1 sD.2.1 sS.2.1 sG.2.1) (mag_le p3) (by omega) (by decide) (by omega) (by omega) (by omega) (fun h => (lin_5 ((itx p3).length - 1 - 7) (by omega) (by omega)).trans (itx_end h)) F70 hz F72 rfm) W85.1.2.2.2.1 (hw _ (List.mem_of_getElem? (i := 201) rfl)) (hw _ (List.mem_of_getElem? (i := 2) rfl)) (by decide) (by decide)) (hb hby at_595) (pc' := 598) rfl hml (argsL := [(.ref r10), (.int (Int32.ofNat (((((nT + 4) + nD) + 1) + 0) + (SBG.digits (mag p3))))), (.long (Int64.ofNat (mag p3))), (.int (Int32.ofNat (SBG.digits (mag p3)))), (.int (7 : Int32)), (.long (10000000 : Int64))]) rfl (lenOf pd_27029474 rfl) rfl (Nat.le_of_ble_eq_true rfl) (by decide) (by decide) (fun _ _ _ q => pu_of q) ?_
    intro T86 L86 N86
    have W86 := W85.same N86
    show Go p e below _ T86 (mkF m 598 #[.val (.int p1), .val (.int p2), .val (.int p3), .val (.int p4), .val (.int p5), .val (.int p6), .val (.int (Int32.ofNat nT)), .val (.int (Int32.ofNat nD)), .val (.int (Int32.ofNat nS)), .val (.int (Int32.ofNat nG)), .val (.ref a1), .val (.ref a2), .val (.ref a4), .val (.ref a7), .val (.ref r10), .val (.long (Int64.ofNat (mag p3))), .second, .val (.int (Int32.ofNat (SBG.digits (mag p3)))), .val (.int (0 : Int32)), .val (.int (Int32.ofNat (((((((((nT + 4) + nD) + 1) + 0) + (SBG.digits (mag p3))) + 1) + nS) + 1) + nG))), .val (.int (1 : Int32)), .val (.int (Int32.ofNat (nT + 4))), .val (.int (Int32.ofNat (((nT + 4) + nD) + 1))), .val (.int (Int32.ofNat (((((nT + 4) + nD) + 1) + 0) + (SBG.digits (mag p3))))), .unset, .unset] [(.int (1 : Int32))])
    refine W86.1.ifNo (hb hby at_598) (XT.i0_eq_f (by decide)) (pc' := 601) rfl ?_
    refine W86.1.aload (hb hby at_601) rfl rfl (pc' := 603) rfl ?_
    refine W86.1.iload (hb hby at_603) rfl (pc' := 605) rfl ?_
    refine W86.1.lload (hb hby at_605) rfl (pc' := 607) rfl ?_
    refine W86.1.iload (hb hby at_607) rfl (pc' := 609) rfl ?_
    refine W86.1.bipush (8 : Int32) (hb hby at_609) rfl (pc' := 611) rfl ?_
    refine W86.1.ldc2J (hb hby at_611) (hw _ (List.mem_of_getElem? (i := 171) rfl)) (pc' := 614) rfl ?_
    refine W86.1.callSP (hw _ (List.mem_of_getElem? (i := 199) rfl)) (hw _ (List.mem_of_getElem? (i := 200) rfl)) (hw _ (List.mem_of_getElem? (i := 2) rfl)) (hw _ (List.mem_of_getElem? (i := 201) rfl)) (by decide) (NM.bk (wd := 0) (rmDK l Z a0 hw r10 (linT (strF p1 (Int32.ofNat nT)) (strF p2 (Int32.ofNat nD)) p3 (strF p4 (Int32.ofNat nS)) (strF p5 (Int32.ofNat nG))) ((((((nT + 4) + nD) + 1) + 0) + (SBG.digits (mag p3)))) (SBG.digits (mag p3)) 8 (mag p3) zc fm h10 n0 W86.1.n0h S10 (linT_lat sT.2.1 sD.2.1 sS.2.1 sG.2.1) (mag_le p3) (by omega) (by decide) (by omega) (by omega) (by omega) (fun h => (lin_5 ((itx p3).length - 1 - 8) (by omega) (by omega)).trans (itx_end h)) F70 hz F72 rfm) W86.1.2.2.2.1 (hw _ (List.mem_of_getElem? (i := 201) rfl)) (hw _ (List.mem_of_getElem? (i := 2) rfl)) (by decide) (by decide)) (hb hby at_614) (pc' := 617) rfl hml (argsL := [(.ref r10), (.int (Int32.ofNat (((((nT + 4) + nD) + 1) + 0) + (SBG.digits (mag p3))))), (.long (Int64.ofNat (mag p3))), (.int (Int32.ofNat (SBG.digits (mag p3)))), (.int (8 : Int32)), (.long (100000000 : Int64))]) rfl (lenOf pd_27029474 rfl) rfl (Nat.le_of_ble_eq_true rfl) (by decide) (by decide) (fun _ _ _ q => pu_of q) ?_
    intro T87 L87 N87
    have W87 := W86.same N87
    show Go p e below _ T87 (mkF m 617 #[.val (.int p1), .val (.int p2), .val (.int p3), .val (.int p4), .val (.int p5), .val (.int p6), .val (.int (Int32.ofNat nT)), .val (.int (Int32.ofNat nD)), .val (.int (Int32.ofNat nS)), .val (.int (Int32.ofNat nG)), .val (.ref a1), .val (.ref a2), .val (.ref a4), .val (.ref a7), .val (.ref r10), .val (.long (Int64.ofNat (mag p3))), .second, .val (.int (Int32.ofNat (SBG.digits (mag p3)))), .val (.int (0 : Int32)), .val (.int (Int32.ofNat (((((((((nT + 4) + nD) + 1) + 0) + (SBG.digits (mag p3))) + 1) + nS) + 1) + nG))), .val (.int (1 : Int32)), .val (.int (Int32.ofNat (nT + 4))), .val (.int (Int32.ofNat (((nT + 4) + nD) + 1))), .val (.int (Int32.ofNat (((((nT + 4) + nD) + 1) + 0) + (SBG.digits (mag p3))))), .unset, .unset] [(.int (1 : Int32))])
    refine W87.1.ifNo (hb hby at_617) (XT.i0_eq_f (by decide)) (pc' := 620) rfl ?_
    refine W87.1.aload (hb hby at_620) rfl rfl (pc' := 622) rfl ?_
    refine W87.1.iload (hb hby at_622) rfl (pc' := 624) rfl ?_
    refine W87.1.lload (hb hby at_624) rfl (pc' := 626) rfl ?_
    refine W87.1.iload (hb hby at_626) rfl (pc' := 628) rfl ?_
    refine W87.1.bipush (9 : Int32) (hb hby at_628) rfl (pc' := 630) rfl ?_
    refine W87.1.ldc2J (hb hby at_630) (hw _ (List.mem_of_getElem? (i := 172) rfl)) (pc' := 633) rfl ?_
    refine W87.1.callSP (hw _ (List.mem_of_getElem? (i := 199) rfl)) (hw _ (List.mem_of_getElem? (i := 200) rfl)) (hw _ (List.mem_of_getElem? (i := 2) rfl)) (hw _ (List.mem_of_getElem? (i := 201) rfl)) (by decide) (NM.bk (wd := 0) (rmDK l Z a0 hw r10 (linT (strF p1 (Int32.ofNat nT)) (strF p2 (Int32.ofNat nD)) p3 (strF p4 (Int32.ofNat nS)) (strF p5 (Int32.ofNat nG))) ((((((nT + 4) + nD) + 1) + 0) + (SBG.digits (mag p3)))) (SBG.digits (mag p3)) 9 (mag p3) zc fm h10 n0 W87.1.n0h S10 (linT_lat sT.2.1 sD.2.1 sS.2.1 sG.2.1) (mag_le p3) (by omega) (by decide) (by omega) (by omega) (by omega) (fun h => (lin_5 ((itx p3).length - 1 - 9) (by omega) (by omega)).trans (itx_end h)) F70 hz F72 rfm) W87.1.2.2.2.1 (hw _ (List.mem_of_getElem? (i := 201) rfl)) (hw _ (List.mem_of_getElem? (i := 2) rfl)) (by decide) (by decide)) (hb hby at_633) (pc' := 636) rfl hml (argsL := [(.ref r10), (.int (Int32.ofNat (((((nT + 4) + nD) + 1) + 0) + (SBG.digits (mag p3))))), (.long (Int64.ofNat (mag p3))), (.int (Int32.ofNat (SBG.digits (mag p3)))), (.int (9 : Int32)), (.long (1000000000 : Int64))]) rfl (lenOf pd_27029474 rfl) rfl (Nat.le_of_ble_eq_true rfl) (by decide) (by decide) (fun _ _ _ q => pu_of q) ?_
    intro T88 L88 N88
    have W88 := W87.same N88
    show Go p e below _ T88 (mkF m 636 #[.val (.int p1), .val (.int p2), .val (.int p3), .val (.int p4), .val (.int p5), .val (.int p6), .val (.int (Int32.ofNat nT)), .val (.int (Int32.ofNat nD)), .val (.int (Int32.ofNat nS)), .val (.int (Int32.ofNat nG)), .val (.ref a1), .val (.ref a2), .val (.ref a4), .val (.ref a7), .val (.ref r10), .val (.long (Int64.ofNat (mag p3))), .second, .val (.int (Int32.ofNat (SBG.digits (mag p3)))), .val (.int (0 : Int32)), .val (.int (Int32.ofNat (((((((((nT + 4) + nD) + 1) + 0) + (SBG.digits (mag p3))) + 1) + nS) + 1) + nG))), .val (.int (1 : Int32)), .val (.int (Int32.ofNat (nT + 4))), .val (.int (Int32.ofNat (((nT + 4) + nD) + 1))), .val (.int (Int32.ofNat (((((nT + 4) + nD) + 1) + 0) + (SBG.digits (mag p3))))), .unset, .unset] [(.int (1 : Int32))])
    refine W88.1.ifNo (hb hby at_636) (XT.i0_eq_f (by decide)) (pc' := 639) rfl ?_
    refine W88.1.iconst (1 : Int32) (hb hby at_639) rfl (pc' := 640) rfl ?_
    refine W88.1.goto (hb hby at_640) (by decide) (pc' := 644) (by decide) ?_
    refine W88.1.istore (Ls' := #[.val (.int p1), .val (.int p2), .val (.int p3), .val (.int p4), .val (.int p5), .val (.int p6), .val (.int (Int32.ofNat nT)), .val (.int (Int32.ofNat nD)), .val (.int (Int32.ofNat nS)), .val (.int (Int32.ofNat nG)), .val (.ref a1), .val (.ref a2), .val (.ref a4), .val (.ref a7), .val (.ref r10), .val (.long (Int64.ofNat (mag p3))), .second, .val (.int (Int32.ofNat (SBG.digits (mag p3)))), .val (.int (0 : Int32)), .val (.int (Int32.ofNat (((((((((nT + 4) + nD) + 1) + 0) + (SBG.digits (mag p3))) + 1) + nS) + 1) + nG))), .val (.int (1 : Int32)), .val (.int (Int32.ofNat (nT + 4))), .val (.int (Int32.ofNat (((nT + 4) + nD) + 1))), .val (.int (Int32.ofNat (((((nT + 4) + nD) + 1) + 0) + (SBG.digits (mag p3))))), .unset, .unset]) (hb hby at_644) rfl (pc' := 646) rfl ?_
    refine W88.1.iload (hb hby at_646) rfl (pc' := 648) rfl ?_
    refine W88.1.ifNo (hb hby at_648) (XT.i0_eq_f (by decide)) (pc' := 651) rfl ?_
    refine W88.1.aload (hb hby at_651) rfl rfl (pc' := 653) rfl ?_
    refine W88.1.iload (hb hby at_653) rfl (pc' := 655) rfl ?_
    refine W88.1.callVP (y := (⟨"java/lang/String", "charAt", "(I)C"⟩ : MethodName)) (z := (⟨"java/lang/String", "charAt", "(I)C"⟩ : MethodName)) (hw _ (List.mem_of_getElem? (i := 177) rfl)) (hw _ (List.mem_of_getElem? (i := 178) rfl)) (hw _ (List.mem_of_getElem? (i := 180) rfl)) (hw _ (List.mem_of_getElem? (i := 180) rfl)) (hw _ (List.mem_of_getElem? (i := 179) rfl)) (by decide) (StrA.chr (wd := 0) S10 (linT_lat sT.2.1 sD.2.1 sS.2.1 sG.2.1) W88.1.2.2.2.1 hw (hw _ (List.mem_of_getElem? (i := 5) rfl)) F70 hz F72 rfm (by decide) (by decide) (i := ((((((nT + 4) + nD) + 1) + 0) + (SBG.digits (mag p3))))) (j := (Int32.ofNat (((((nT + 4) + nD) + 1) + 0) + (SBG.digits (mag p3))))) (by omega) rfl) S10.1 (hb hby at_655) (pc' := 658) rfl hml (argsL := [(.int (Int32.ofNat (((((nT + 4) + nD) + 1) + 0) + (SBG.digits (mag p3)))))]) rfl (lenOf pd_32dd484b rfl) rfl (Nat.le_of_ble_eq_true rfl) (by decide) (by decide) (fun _ _ _ q => pu_nil q) ?_
    intro T89 L89 N89
    have W89 := W88.same N89
    show Go p e below _ T89 (mkF m 658 #[.val (.int p1), .val (.int p2), .val (.int p3), .val (.int p4), .val (.int p5), .val (.int p6), .val (.int (Int32.ofNat nT)), .val (.int (Int32.ofNat nD)), .val (.int (Int32.ofNat nS)), .val (.int (Int32.ofNat nG)), .val (.ref a1), .val (.ref a2), .val (.ref a4), .val (.ref a7), .val (.ref r10), .val (.long (Int64.ofNat (mag p3))), .second, .val (.int (Int32.ofNat (SBG.digits (mag p3)))), .val (.int (0 : Int32)), .val (.int (Int32.ofNat (((((((((nT + 4) + nD) + 1) + 0) + (SBG.digits (mag p3))) + 1) + nS) + 1) + nG))), .val (.int (1 : Int32)), .val (.int (Int32.ofNat (nT + 4))), .val (.int (Int32.ofNat (((nT + 4) + nD) + 1))), .val (.int (Int32.ofNat (((((nT + 4) + nD) + 1) + 0) + (SBG.digits (mag p3))))), .unset, .unset] [(.int ((linT (strF p1 (Int32.ofNat nT)) (strF p2 (Int32.ofNat nD)) p3 (strF p4 (Int32.ofNat nS)) (strF p5 (Int32.ofNat nG))).getD ((((((nT + 4) + nD) + 1) + 0) + (SBG.digits (mag p3)))) 0))])
    refine W89.1.bipush (32 : Int32) (hb hby at_658) rfl (pc' := 660) rfl ?_
    refine W89.1.icmpNo (hb hby at_660) (XT.ii_ne_f (lin_6 (by omega))) (pc' := 663) rfl ?_
    refine W89.1.iconst (1 : Int32) (hb hby at_663) rfl (pc' := 664) rfl ?_
    refine W89.1.goto (hb hby at_664) (by decide) (pc' := 668) (by decide) ?_
    refine W89.1.istore (Ls' := #[.val (.int p1), .val (.int p2), .val (.int p3), .val (.int p4), .val (.int p5), .val (.int p6), .val (.int (Int32.ofNat nT)), .val (.int (Int32.ofNat nD)), .val (.int (Int32.ofNat nS)), .val (.int (Int32.ofNat nG)), .val (.ref a1), .val (.ref a2), .val (.ref a4), .val (.ref a7), .val (.ref r10), .val (.long (Int64.ofNat (mag p3))), .second, .val (.int (Int32.ofNat (SBG.digits (mag p3)))), .val (.int (0 : Int32)), .val (.int (Int32.ofNat (((((((((nT + 4) + nD) + 1) + 0) + (SBG.digits (mag p3))) + 1) + nS) + 1) + nG))), .val (.int (1 : Int32)), .val (.int (Int32.ofNat (nT + 4))), .val (.int (Int32.ofNat (((nT + 4) + nD) + 1))), .val (.int (Int32.ofNat (((((nT + 4) + nD) + 1) + 0) + (SBG.digits (mag p3))))), .unset, .unset]) (hb hby at_668) rfl (pc' := 670) rfl ?_
    refine W89.1.iload (hb hby at_670) rfl (pc' := 672) rfl ?_
    refine W89.1.iconst (1 : Int32) (hb hby at_672) rfl (pc' := 673) rfl ?_
    refine W89.1.iadd (hb hby at_673) (pc' := 674) rfl ?_
    rw [show (Int32.ofNat (((((nT + 4) + nD) + 1) + 0) + (SBG.digits (mag p3)))) + (1 : Int32) = Int32.ofNat ((((((nT + 4) + nD) + 1) + 0) + (SBG.digits (mag p3))) + 1) from ofNat_add ((((((nT + 4) + nD) + 1) + 0) + (SBG.digits (mag p3)))) (1)]
    refine W89.1.istore (Ls' := #[.val (.int p1), .val (.int p2), .val (.int p3), .val (.int p4), .val (.int p5), .val (.int p6), .val (.int (Int32.ofNat nT)), .val (.int (Int32.ofNat nD)), .val (.int (Int32.ofNat nS)), .val (.int (Int32.ofNat nG)), .val (.ref a1), .val (.ref a2), .val (.ref a4), .val (.ref a7), .val (.ref r10), .val (.long (Int64.ofNat (mag p3))), .second, .val (.int (Int32.ofNat (SBG.digits (mag p3)))), .val (.int (0 : Int32)), .val (.int (Int32.ofNat (((((((((nT + 4) + nD) + 1) + 0) + (SBG.digits (mag p3))) + 1) + nS) + 1) + nG))), .val (.int (1 : Int32)), .val (.int (Int32.ofNat (nT + 4))), .val (.int (Int32.ofNat (((nT + 4) + nD) + 1))), .val (.int (Int32.ofNat (((((nT + 4) + nD) + 1) + 0) + (SBG.digits (mag p3))))), .val (.int (Int32.ofNat ((((((nT + 4) + nD) + 1) + 0) + (SBG.digits (mag p3))) + 1))), .unset]) (hb hby at_674) rfl (pc' := 676) rfl ?_
    refine W89.1.iload (hb hby at_676) rfl (pc' := 678) rfl ?_
    refine W89.1.ifNo (hb hby at_678) (XT.i0_eq_f (by decide)) (pc' := 681) rfl ?_
    refine W89.1.aload (hb hby at_681) rfl rfl (pc' := 683) rfl ?_
    refine W89.1.iload (hb hby at_683) rfl (pc' := 685) rfl ?_
    refine W89.1.iloadN (hb hby at_685) rfl (pc' := 686) rfl ?_
    refine W89.1.iload (hb hby at_686) rfl (pc' := 688) rfl ?_
    refine W89.1.callSP (hw _ (List.mem_of_getElem? (i := 174) rfl)) (hw _ (List.mem_of_getElem? (i := 175) rfl)) (hw _ (List.mem_of_getElem? (i := 2) rfl)) (hw _ (List.mem_of_getElem? (i := 176) rfl)) (by decide) (NM.bk (wd := 0) (rmSM l Z a0 hw r10 (linT (strF p1 (Int32.ofNat nT)) (strF p2 (Int32.ofNat nD)) p3 (strF p4 (Int32.ofNat nS)) (strF p5 (Int32.ofNat nG))) (((((((nT + 4) + nD) + 1) + 0) + (SBG.digits (mag p3))) + 1)) nS p4 zc fm h10 n0 W89.1.n0h S10 (linT_lat sT.2.1 sD.2.1 sS.2.1 sG.2.1) hnS (by omega) (by omega) (fun h => (lin_7 0 (by omega) (by omega)).trans (sS.2.2.1 h)) (fun h => (lin_7 1 (by omega) (by omega)).trans (sS.2.2.2 h)) F70 hz F72 rfm) W89.1.2.2.2.1 (hw _ (List.mem_of_getElem? (i := 176) rfl)) (hw _ (List.mem_of_getElem? (i := 2) rfl)) (by decide) (by decide)) (hb hby at_688) (pc' := 691) rfl hml (argsL := [(.ref r10), (.int (Int32.ofNat ((((((nT + 4) + nD) + 1) + 0) + (SBG.digits (mag p3))) + 1))), (.int p4), (.int (Int32.ofNat nS))]) rfl (lenOf pd_79bde991 rfl) rfl (Nat.le_of_ble_eq_true rfl) (by decide) (by decide) (fun _ _ _ q => pu_of q) ?_
    intro T90 L90 N90
    have W90 := W89.same N90
    show Go p e below _ T90 (mkF m 691 #[.val (.int p1), .val (.int p2), .val (.int p3), .val (.int p4), .val (.int p5), .val (.int p6), .val (.int (Int32.ofNat nT)), .val (.int (Int32.ofNat nD)), .val (.int (Int32.ofNat nS)), .val (.int (Int32.ofNat nG)), .val (.ref a1), .val (.ref a2), .val (.ref a4), .val (.ref a7), .val (.ref r10), .val (.long (Int64.ofNat (mag p3))), .second, .val (.int (Int32.ofNat (SBG.digits (mag p3)))), .val (.int (0 : Int32)), .val (.int (Int32.ofNat (((((((((nT + 4) + nD) + 1) + 0) + (SBG.digits (mag p3))) + 1) + nS) + 1) + nG))), .val (.int (1 : Int32)), .val (.int (Int32.ofNat (nT + 4))), .val (.int (Int32.ofNat (((nT + 4) + nD) + 1))), .val (.int (Int32.ofNat (((((nT + 4) + nD) + 1) + 0) + (SBG.digits (mag p3))))), .val (.int (Int32.ofNat ((((((nT + 4) + nD) + 1) + 0) + (SBG.digits (mag p3))) + 1))), .unset] [(.int (1 : Int32))])
    refine W90.1.ifNo (hb hby at_691) (XT.i0_eq_f (by decide)) (pc' := 694) rfl ?_
    refine W90.1.aload (hb hby at_694) rfl rfl (pc' := 696) rfl ?_
    refine W90.1.iload (hb hby at_696) rfl (pc' := 698) rfl ?_
    refine W90.1.iload (hb hby at_698) rfl (pc' := 700) rfl ?_
    refine W90.1.iadd (hb hby at_700) (pc' := 701) rfl ?_
    rw [show (Int32.ofNat ((((((nT + 4) + nD) + 1) + 0) + (SBG.digits (mag p3))) + 1)) + (Int32.ofNat nS) = Int32.ofNat (((((((nT + 4) + nD) + 1) + 0) + (SBG.digits (mag p3))) + 1) + nS) from ofNat_add (((((((nT + 4) + nD) + 1) + 0) + (SBG.digits (mag p3))) + 1)) (nS)]
    refine W90.1.callVP (y := (⟨"java/lang/String", "charAt", "(I)C"⟩ : MethodName)) (z := (⟨"java/lang/String", "charAt", "(I)C"⟩ : MethodName)) (hw _ (List.mem_of_getElem? (i := 177) rfl)) (hw _ (List.mem_of_getElem? (i := 178) rfl)) (hw _ (List.mem_of_getElem? (i := 180) rfl)) (hw _ (List.mem_of_getElem? (i := 180) rfl)) (hw _ (List.mem_of_getElem? (i := 179) rfl)) (by decide) (StrA.chr (wd := 0) S10 (linT_lat sT.2.1 sD.2.1 sS.2.1 sG.2.1) W90.1.2.2.2.1 hw (hw _ (List.mem_of_getElem? (i := 5) rfl)) F70 hz F72 rfm (by decide) (by decide) (i := ((((((((nT + 4) + nD) + 1) + 0) + (SBG.digits (mag p3))) + 1) + nS))) (j := (Int32.ofNat (((((((nT + 4) + nD) + 1) + 0) + (SBG.digits (mag p3))) + 1) + nS))) (by omega) rfl) S10.1 (hb hby at_701) (pc' := 704) rfl hml (argsL := [(.int (Int32.ofNat (((((((nT + 4) + nD) + 1) + 0) + (SBG.digits (mag p3))) + 1) + nS)))]) rfl (lenOf pd_32dd484b rfl) rfl (Nat.le_of_ble_eq_true rfl) (by decide) (by decide) (fun _ _ _ q => pu_nil q) ?_
    intro T91 L91 N91
    have W91 := W90.same N91
    show Go p e below _ T91 (mkF m 704 #[.val (.int p1), .val (.int p2), .val (.int p3), .val (.int p4), .val (.int p5), .val (.int p6), .val (.int (Int32.ofNat nT)), .val (.int (Int32.ofNat nD)), .val (.int (Int32.ofNat nS)), .val (.int (Int32.ofNat nG)), .val (.ref a1), .val (.ref a2), .val (.ref a4), .val (.ref a7), .val (.ref r10), .val (.long (Int64.ofNat (mag p3))), .second, .val (.int (Int32.ofNat (SBG.digits (mag p3)))), .val (.int (0 : Int32)), .val (.int (Int32.ofNat (((((((((nT + 4) + nD) + 1) + 0) + (SBG.digits (mag p3))) + 1) + nS) + 1) + nG))), .val (.int (1 : Int32)), .val (.int (Int32.ofNat (nT + 4))), .val (.int (Int32.ofNat (((nT + 4) + nD) + 1))), .val (.int (Int32.ofNat (((((nT + 4) + nD) + 1) + 0) + (SBG.digits (mag p3))))), .val (.int (Int32.ofNat ((((((nT + 4) + nD) + 1) + 0) + (SBG.digits (mag p3))) + 1))), .unset] [(.int ((linT (strF p1 (Int32.ofNat nT)) (strF p2 (Int32.ofNat nD)) p3 (strF p4 (Int32.ofNat nS)) (strF p5 (Int32.ofNat nG))).getD ((((((((nT + 4) + nD) + 1) + 0) + (SBG.digits (mag p3))) + 1) + nS)) 0))])
    refine W91.1.bipush (32 : Int32) (hb hby at_704) rfl (pc' := 706) rfl ?_
    refine W91.1.icmpNo (hb hby at_706) (XT.ii_ne_f (lin_8 (by omega))) (pc' := 709) rfl ?_
    refine W91.1.iconst (1 : Int32) (hb hby at_709) rfl (pc' := 710) rfl ?_
    refine W91.1.goto (hb hby at_710) (by decide) (pc' := 714) (by decide) ?_
    refine W91.1.istore (Ls' := #[.val (.int p1), .val (.int p2), .val (.int p3), .val (.int p4), .val (.int p5), .val (.int p6), .val (.int (Int32.ofNat nT)), .val (.int (Int32.ofNat nD)), .val (.int (Int32.ofNat nS)), .val (.int (Int32.ofNat nG)), .val (.ref a1), .val (.ref a2), .val (.ref a4), .val (.ref a7), .val (.ref r10), .val (.long (Int64.ofNat (mag p3))), .second, .val (.int (Int32.ofNat (SBG.digits (mag p3)))), .val (.int (0 : Int32)), .val (.int (Int32.ofNat (((((((((nT + 4) + nD) + 1) + 0) + (SBG.digits (mag p3))) + 1) + nS) + 1) + nG))), .val (.int (1 : Int32)), .val (.int (Int32.ofNat (nT + 4))), .val (.int (Int32.ofNat (((nT + 4) + nD) + 1))), .val (.int (Int32.ofNat (((((nT + 4) + nD) + 1) + 0) + (SBG.digits (mag p3))))), .val (.int (Int32.ofNat ((((((nT + 4) + nD) + 1) + 0) + (SBG.digits (mag p3))) + 1))), .unset]) (hb hby at_714) rfl (pc' := 716) rfl ?_
    refine W91.1.iload (hb hby at_716) rfl (pc' := 718) rfl ?_
    refine W91.1.iload (hb hby at_718) rfl (pc' := 720) rfl ?_
    refine W91.1.iadd (hb hby at_720) (pc' := 721) rfl ?_
    rw [show (Int32.ofNat ((((((nT + 4) + nD) + 1) + 0) + (SBG.digits (mag p3))) + 1)) + (Int32.ofNat nS) = Int32.ofNat (((((((nT + 4) + nD) + 1) + 0) + (SBG.digits (mag p3))) + 1) + nS) from ofNat_add (((((((nT + 4) + nD) + 1) + 0) + (SBG.digits (mag p3))) + 1)) (nS)]
    refine W91.1.iconst (1 : Int32) (hb hby at_721) rfl (pc' := 722) rfl ?_
    refine W91.1.iadd (hb hby at_722) (pc' := 723) rfl ?_
    rw [show (Int32.ofNat (((((((nT + 4) + nD) + 1) + 0) + (SBG.digits (mag p3))) + 1) + nS)) + (1 : Int32) = Int32.ofNat ((((((((nT + 4) + nD) + 1) + 0) + (SBG.digits (mag p3))) + 1) + nS) + 1) from ofNat_add ((((((((nT + 4) + nD) + 1) + 0) + (SBG.digits (mag p3))) + 1) + nS)) (1)]
    refine W91.1.istore (Ls' := #[.val (.int p1), .val (.int p2), .val (.int p3), .val (.int p4), .val (.int p5), .val (.int p6), .val (.int (Int32.ofNat nT)), .val (.int (Int32.ofNat nD)), .val (.int (Int32.ofNat nS)), .val (.int (Int32.ofNat nG)), .val (.ref a1), .val (.ref a2), .val (.ref a4), .val (.ref a7), .val (.ref r10), .val (.long (Int64.ofNat (mag p3))), .second, .val (.int (Int32.ofNat (SBG.digits (mag p3)))), .val (.int (0 : Int32)), .val (.int (Int32.ofNat (((((((((nT + 4) + nD) + 1) + 0) + (SBG.digits (mag p3))) + 1) + nS) + 1) + nG))), .val (.int (1 : Int32)), .val (.int (Int32.ofNat (nT + 4))), .val (.int (Int32.ofNat (((nT + 4) + nD) + 1))), .val (.int (Int32.ofNat (((((nT + 4) + nD) + 1) + 0) + (SBG.digits (mag p3))))), .val (.int (Int32.ofNat ((((((nT + 4) + nD) + 1) + 0) + (SBG.digits (mag p3))) + 1))), .val (.int (Int32.ofNat ((((((((nT + 4) + nD) + 1) + 0) + (SBG.digits (mag p3))) + 1) + nS) + 1)))]) (hb hby at_723) rfl (pc' := 725) rfl ?_
    refine W91.1.iload (hb hby at_725) rfl (pc' := 727) rfl ?_
    refine W91.1.ifNo (hb hby at_727) (XT.i0_eq_f (by decide)) (pc' := 730) rfl ?_
    refine W91.1.aload (hb hby at_730) rfl rfl (pc' := 732) rfl ?_
    refine W91.1.iload (hb hby at_732) rfl (pc' := 734) rfl ?_
    refine W91.1.iload (hb hby at_734) rfl (pc' := 736) rfl ?_
    refine W91.1.iload (hb hby at_736) rfl (pc' := 738) rfl ?_
    refine W91.1.callSP (hw _ (List.mem_of_getElem? (i := 174) rfl)) (hw _ (List.mem_of_getElem? (i := 175) rfl)) (hw _ (List.mem_of_getElem? (i := 2) rfl)) (hw _ (List.mem_of_getElem? (i := 176) rfl)) (by decide) (NM.bk (wd := 0) (rmSM l Z a0 hw r10 (linT (strF p1 (Int32.ofNat nT)) (strF p2 (Int32.ofNat nD)) p3 (strF p4 (Int32.ofNat nS)) (strF p5 (Int32.ofNat nG))) (((((((((nT + 4) + nD) + 1) + 0) + (SBG.digits (mag p3))) + 1) + nS) + 1)) nG p5 zc fm h10 n0 W91.1.n0h S10 (linT_lat sT.2.1 sD.2.1 sS.2.1 sG.2.1) hnG (by omega) (by omega) (fun h => (lin_9 0 (by omega)).trans (sG.2.2.1 h)) (fun h => (lin_9 1 (by omega)).trans (sG.2.2.2 h)) F70 hz F72 rfm) W91.1.2.2.2.1 (hw _ (List.mem_of_getElem? (i := 176) rfl)) (hw _ (List.mem_of_getElem? (i := 2) rfl)) (by decide) (by decide)) (hb hby at_738) (pc' := 741) rfl hml (argsL := [(.ref r10), (.int (Int32.ofNat ((((((((nT + 4) + nD) + 1) + 0) + (SBG.digits (mag p3))) + 1) + nS) + 1))), (.int p5), (.int (Int32.ofNat nG))]) rfl (lenOf pd_79bde991 rfl) rfl (Nat.le_of_ble_eq_true rfl) (by decide) (by decide) (fun _ _ _ q => pu_of q) ?_
    intro T92 L92 N92
    have W92 := W91.same N92
    show Go p e below _ T92 (mkF m 741 #[.val (.int p1), .val (.int p2), .val (.int p3), .val (.int p4), .val (.int p5), .val (.int p6), .val (.int (Int32.ofNat nT)), .val (.int (Int32.ofNat nD)), .val (.int (Int32.ofNat nS)), .val (.int (Int32.ofNat nG)), .val (.ref a1), .val (.ref a2), .val (.ref a4), .val (.ref a7), .val (.ref r10), .val (.long (Int64.ofNat (mag p3))), .second, .val (.int (Int32.ofNat (SBG.digits (mag p3)))), .val (.int (0 : Int32)), .val (.int (Int32.ofNat (((((((((nT + 4) + nD) + 1) + 0) + (SBG.digits (mag p3))) + 1) + nS) + 1) + nG))), .val (.int (1 : Int32)), .val (.int (Int32.ofNat (nT + 4))), .val (.int (Int32.ofNat (((nT + 4) + nD) + 1))), .val (.int (Int32.ofNat (((((nT + 4) + nD) + 1) + 0) + (SBG.digits (mag p3))))), .val (.int (Int32.ofNat ((((((nT + 4) + nD) + 1) + 0) + (SBG.digits (mag p3))) + 1))), .val (.int (Int32.ofNat ((((((((nT + 4) + nD) + 1) + 0) + (SBG.digits (mag p3))) + 1) + nS) + 1)))] [(.int (1 : Int32))])
    refine W92.1.ifNo (hb hby at_741) (XT.i0_eq_f (by decide)) (pc' := 744) rfl ?_
    refine W92.1.iconst (1 : Int32) (hb hby at_744) rfl (pc' := 745) rfl ?_
    refine W92.1.goto (hb hby at_745) (by decide) (pc' := 749) (by decide) ?_
    refine W92.1.istore (Ls' := #[.val (.int p1), .val (.int p2), .val (.int p3), .val (.int p4), .val (.int p5), .val (.int p6), .val (.int (Int32.ofNat nT)), .val (.int (Int32.ofNat nD)), .val (.int (Int32.ofNat nS)), .val (.int (Int32.ofNat nG)), .val (.ref a1), .val (.ref a2), .val (.ref a4), .val (.ref a7), .val (.ref r10), .val (.long (Int64.ofNat (mag p3))), .second, .val (.int (Int32.ofNat (SBG.digits (mag p3)))), .val (.int (0 : Int32)), .val (.int (Int32.ofNat (((((((((nT + 4) + nD) + 1) + 0) + (SBG.digits (mag p3))) + 1) + nS) + 1) + nG))), .val (.int (1 : Int32)), .val (.int (Int32.ofNat (nT + 4))), .val (.int (Int32.ofNat (((nT + 4) + nD) + 1))), .val (.int (Int32.ofNat (((((nT + 4) + nD) + 1) + 0) + (SBG.digits (mag p3))))), .val (.int (Int32.ofNat ((((((nT + 4) + nD) + 1) + 0) + (SBG.digits (mag p3))) + 1))), .val (.int (Int32.ofNat ((((((((nT + 4) + nD) + 1) + 0) + (SBG.digits (mag p3))) + 1) + nS) + 1)))]) (hb hby at_749) rfl (pc' := 751) rfl ?_
    refine W92.1.iload (hb hby at_751) rfl (pc' := 753) rfl ?_
    exact W92.retZ hEL hret (hb hby at_753) (by decide) (by decide) (by decide) ⟨rfl, trivial⟩
set_option maxRecDepth 65536 in
set_option maxHeartbeats 40000000 in
theorem comes_1 {Post : Tables → Env → Array Value → State → Outcome → State → Prop} (hpost : ∀ tb e args s v u, (limb_1_1.after args s (.returned v) u = true ∧ limb_1_2.after args s (.returned v) u = true) → ReturnedEndW s (.returned v) u (Jvm.fieldLocs frame_1_writes args s ++ Jvm.arrayLocs frame_1_arrays args s ++ Jvm.staticLocs frame_1_statics s) 48 3392 → Post tb e args s (.returned v) u) :
    ArmFor flags0 classFile x code maxLocals ret World_1 tables_1 room_1 Calls_1 rest_1 Pre_1 Post := by
  intro l hfl _ _ p e ha hc hk s m args below hf hA hF happ hP
  obtain ⟨hcalls, hrest, hpre⟩ := hP
  obtain ⟨-, -, -, hnamed, -, -, -, hat⟩ := (Spec.applies_iff hf).mp happ
  obtain ⟨hg, hn⟩ := and_e (Cond.before_iff.mp (show (Jvm.Cond.and given_1 narrow_1).before args s = true from hpre))
  obtain ⟨gA1, gB1⟩ := and_e hg
  obtain ⟨gA2, gB2⟩ := and_e gB1
  obtain ⟨gA3, gB3⟩ := and_e gB2
  obtain ⟨gA4, gB4⟩ := and_e gB3
  obtain ⟨gA5, gB5⟩ := and_e gB4
  obtain ⟨gA6, gB6⟩ := and_e gB5
  obtain ⟨w0, w1, w2, w3, w4, w5, rfl⟩ : ∃ w0 w1 w2 w3 w4 w5 : Value, args = #[w0, w1, w2, w3, w4, w5] := by
    have hs : args.size = 6 := by simpa [Cond.value, given_1] using gA1
    obtain ⟨L⟩ := args
    match L, hs with
    | [w0, w1, w2, w3, w4, w5], _ => exact ⟨w0, w1, w2, w3, w4, w5, rfl⟩
  have hw := fun d (hd : d ∈ tables_1) => atoms_spec (ws := Jvm.Cond.code x code maxLocals ret :: tables_1) hat d (List.mem_cons_of_mem _ hd)
  have hfit : Fit s := fun {y c} hc i hi => by
    obtain ⟨ha, rfl⟩ := Array.getElem?_eq_some_iff.mp hc
    have q := List.all_eq_true.mp ((Array.all_eq_true_iff_forall_mem.mp hF) _ (Array.getElem_mem ha)) i (List.mem_range.mpr hi)
    simpa [Array.getElem?_eq_getElem hi] using q
  obtain ⟨hsets, hown0⟩ := atoms_of _ (rest_1_c_eq ▸ (show rest_1_c.before _ s = true from hrest))
  have hr0 := Cond.before_iff.mp hown0
  obtain ⟨i0, ei0⟩ := is_v gA2
  obtain rfl : w0 = (.int i0) := Option.some.inj ei0
  obtain ⟨i1, ei1⟩ := is_v gA3
  obtain rfl : w1 = (.int i1) := Option.some.inj ei1
  obtain ⟨i2, ei2⟩ := is_v gA4
  obtain rfl : w2 = (.int i2) := Option.some.inj ei2
  obtain ⟨i3, ei3⟩ := is_v gA5
  obtain rfl : w3 = (.int i3) := Option.some.inj ei3
  obtain ⟨i4, ei4⟩ := is_v gA6
  obtain rfl : w4 = (.int i4) := Option.some.inj ei4
  obtain ⟨i5, ei5⟩ := is_v gB6
  obtain rfl : w5 = (.int i5) := Option.some.inj ei5
  obtain ⟨dO, kO, TSO, TAO, gO⟩ := tab_start (F := fun r => Int32.ofNat (48 + r % 10)) hfit (hsets _ (List.mem_of_getElem? (i := 11) rfl)) (Cond.before_iff.mp (hsets _ (List.mem_of_getElem? (i := 12) rfl))) (Cond.before_iff.mp (hsets _ (List.mem_of_getElem? (i := 13) rfl))) (Cond.before_iff.mp (hsets _ (List.mem_of_getElem? (i := 14) rfl))) (hw _ (List.mem_of_getElem? (i := 19) rfl)) (fun r hr => by rw [← ones_num r hr]; rfl)
  obtain ⟨dT, kT, TST, TAT, gT⟩ := tab_start (F := fun r => Int32.ofNat (48 + r / 10)) hfit (hsets _ (List.mem_of_getElem? (i := 16) rfl)) (Cond.before_iff.mp (hsets _ (List.mem_of_getElem? (i := 17) rfl))) (Cond.before_iff.mp (hsets _ (List.mem_of_getElem? (i := 18) rfl))) (Cond.before_iff.mp (hsets _ (List.mem_of_getElem? (i := 19) rfl))) (hw _ (List.mem_of_getElem? (i := 19) rfl)) (fun r hr => by rw [← tens_num r hr]; rfl)
  have n5 := not_v (Cond.before_iff.mp (hsets _ (List.mem_of_getElem? (i := 2) rfl)))
  obtain ⟨zc, ezc⟩ := is_v (Cond.before_iff.mp (hsets _ (List.mem_of_getElem? (i := 1) rfl)))
  have SC : Sta s s.heap "java/lang/String" "COMPACT_STRINGS" "Z" (.int zc) := Sta.start ezc (Or.inl (hsets _ (List.mem_of_getElem? (i := 0) rfl)))
  have hz : ¬ (zc = (0 : Int32)) := gotF (Cond.eq_ints ezc (Term.int_eval (0))) n5
  obtain ⟨fm, efm, rfm⟩ := isR_v (Cond.before_iff.mp (hsets _ (List.mem_of_getElem? (i := 8) rfl)))
  have SF : Sta s s.heap "jdk/internal/util/Preconditions" "SIOOBE_FORMATTER" "Ljava/util/function/BiFunction;" fm := Sta.start efm (Or.inl (hsets _ (List.mem_of_getElem? (i := 7) rfl)))
  have hELs : EW s _ consts_1 := (EW.cons (hw _ (List.mem_of_getElem? (i := 96) rfl)) (by decide) (EW.cons (hw _ (List.mem_of_getElem? (i := 97) rfl)) (by decide) (EW.cons (hw _ (List.mem_of_getElem? (i := 18) rfl)) (by decide) EW.nil)))
  have hCH : CHv s consts_1 s.vm s.heap := CHv.start hELs (fun q hq => constHeld_of (hcalls.1 q hq)) (hsets _ (List.mem_of_getElem? (i := 2) rfl)) (hw _ (List.mem_of_getElem? (i := 19) rfl)) (hw _ (List.mem_of_getElem? (i := 5) rfl))
  obtain ⟨n, o, h1, h2, h3, _, L, rfl, ⟨⟨rfl, -⟩, -, N⟩, -, hq⟩ := rmLaw l s _ hw hELs i0 i1 i2 i3 i4 i5 zc fm dO dT kO kT s.heap s.heap.size (Nat.le_refl _) gO gT TSO TAO TST TAT SC hz SF rfm p e ha hc hk s m _ below hf ((Spec.applies_iff_loose hf).mp happ).1 ⟨rfl, State.Warmed39.refl s, rfl, hCH⟩ trivial
  exact ⟨n, _, h1, h2, h3, hpost _ _ _ _ _ _ ⟨Cond.after_iff.mpr rfl, Cond.after_iff.mpr (eq_i res_at (Term.int_eval (1)) rfl)⟩ ⟨hq.1, hq.2.1, hq.2.2.1, (hq.2.2.2.sift fun y hy => Or.inr (N y hy)).mono (by decide) (by decide)⟩⟩
theorem main_1_1 : Claimed_1_1 := comes_1 fun _ _ _ _ _ _ h hF => ⟨h.1, hF⟩
theorem main_1_2 : Claimed_1_2 := comes_1 fun _ _ _ _ _ _ h hF => ⟨h.2, hF⟩
end Jvm.Pilot.@@N@@
namespace Jvm.Pilot.@@N@@
open Jvm Jvm.ClassFile Sem Op Lib Jvm.Free Jvm.Stand Jvm.Pilot.@@N@@.Jvm.D
/-! MADE BY PROGRAM (witnessworld.py) out of the Statement's table words and the real class files: 28 classes; the members and pool entries that the words name. The judged class is class 1, her method 1. -/
namespace start1
open Jvm.ClassFile
def u (s : String) : CpInfo := .utf8 (stringToUtf16 s)
/-- a pool by its gaps: so many unusable entries, then the entry; so many at the end -/
def gap : Nat → List CpInfo → List CpInfo
  | 0, r => r
  | n + 1, r => .unusable :: gap n r
def poolList (es : List (Nat × CpInfo)) (last : Nat) : List CpInfo := es.foldr (fun e r => gap e.1 (e.2 :: r)) (gap last [])
def pool (es : List (Nat × CpInfo)) (last : Nat) : Array CpInfo := ⟨poolList es last⟩
def fileOf (pool : Array CpInfo) (this : Nat) (attrs : Array Attribute := #[]) (ms : Array MethodInfo := #[]) (fl : Nat := 33) (sup : Nat := 0) (ifs : Array Nat := #[]) (fds : Array FieldInfo := #[]) : ClassFile where
  minorVersion := 0
  majorVersion := 65
  constantPool := pool
  accessFlags := fl
  thisClass := this
  superClass := sup
  interfaces := ifs
  fields := fds
  methods := ms
  attributes := attrs
def plain (name : String) (sup : Option ClassId) : Class where
  name := name
  kind := .ordinary
  loader := none
  accessFlags := 33
  super := sup
  interfaces := #[]
  cf := none
  fields := #[]
  methods := #[]
  instanceTypes := #[]
  staticTypes := #[]
  resolved := #[]
  callSites := []
  init := .initialized
  statics := none
  mirror := none

def pool0 : Array CpInfo := pool [(5, u "<init>"), (0, u "()V"), (1, .class_ 10), (1, u "java/lang/Object"), (85, u "clone"), (0, u "()Ljava/lang/Object;")] 26

def k0c0 : Code := { maxStack := 0, maxLocals := 1, code := object_method_1_code, exceptionTable := #[], attributes := #[] }
def k0m0 : Method := { name := "<init>", desc := "()V", sig := { parameters := [], returnType := none }, accessFlags := 1, code := some k0c0 }
def k0m1 : Method := { name := "clone", desc := "()Ljava/lang/Object;", sig := { parameters := [], returnType := some (.object "java/lang/Object") }, accessFlags := 260, code := none }
/-- java/lang/Object -/
def k0 : Class := { plain "java/lang/Object" none with
  accessFlags := 33
  interfaces := #[]
  cf := some (fileOf pool0 8 #[] #[{ accessFlags := 1, nameIndex := 5, descriptorIndex := 6, attributes := #[] }, { accessFlags := 260, nameIndex := 96, descriptorIndex := 97, attributes := #[] }] 33 0 #[] #[])
  fields := #[]
  methods := #[k0m0, k0m1]
  instanceTypes := #[]
  staticTypes := #[]
  resolved := Array.replicate 124 none
  statics := none }

def pool1 : Array CpInfo := pool [(2, .class_ 4), (1, u "java/lang/Object"), (0, u "<init>"), (0, u "()V"), (0, .methodref 8 9), (0, .class_ 10), (0, .nameAndType 11 12), (0, u "com/example/frugal_ranker/frugalranker/TrecRunLinePinLaw"), (0, u "str"), (0, u "(II)Ljava/lang/String;"), (0, .methodref 14 15), (0, .class_ 16), (0, .nameAndType 17 18), (0, u "com/example/frugal_ranker/frugalranker/TrecRun"), (0, u "line"), (0, u "(Ljava/lang/String;Ljava/lang/String;ILjava/lang/String;Ljava/lang/String;)Ljava/lang/String;"), (0, .methodref 20 21), (0, .class_ 22), (0, .nameAndType 23 24), (0, u "java/lang/Math"), (0, u "abs"), (0, u "(J)J"), (0, .long 10), (1, .long 100), (1, .long 1000), (1, .long 10000), (1, .long 100000), (1, .long 1000000), (1, .long 10000000), (1, .long 100000000), (1, .long 1000000000), (1, .methodref 44 45), (0, .class_ 46), (0, .nameAndType 47 48), (0, u "java/lang/String"), (0, u "length"), (0, u "()I"), (0, .methodref 8 50), (0, .nameAndType 51 52), (0, u "same"), (0, u "(Ljava/lang/String;III)Z"), (0, .methodref 44 54), (0, .nameAndType 55 56), (0, u "charAt"), (0, u "(I)C"), (0, .methodref 8 58), (0, .nameAndType 59 60), (0, u "digit"), (0, u "(Ljava/lang/String;IJIIJ)Z"), (0, .methodref 44 62), (0, .nameAndType 5 63), (0, u "([C)V"), (2, u "law"), (0, u "(IIIIII)Z")] 3

def k1m0 : Method := { name := "<init>", desc := "()V", sig := { parameters := [], returnType := none }, accessFlags := 2, code := none }
def k1c1 : Code := { maxStack := 8, maxLocals := 26, code := code, exceptionTable := #[], attributes := #[] }
def k1m1 : Method := { name := "law", desc := "(IIIIII)Z", sig := { parameters := [.int, .int, .int, .int, .int, .int], returnType := some .boolean }, accessFlags := 9, code := some k1c1 }
def k1c2 : Code := { maxStack := 6, maxLocals := 4, code := method_3_code, exceptionTable := #[], attributes := #[] }
def k1m2 : Method := { name := "str", desc := "(II)Ljava/lang/String;", sig := { parameters := [.int, .int], returnType := some (.object "java/lang/String") }, accessFlags := 10, code := some k1c2 }
def k1c3 : Code := { maxStack := 3, maxLocals := 6, code := method_4_code, exceptionTable := #[], attributes := #[] }
def k1m3 : Method := { name := "same", desc := "(Ljava/lang/String;III)Z", sig := { parameters := [(.object "java/lang/String"), .int, .int, .int], returnType := some .boolean }, accessFlags := 10, code := some k1c3 }
def k1c4 : Code := { maxStack := 6, maxLocals := 8, code := method_5_code, exceptionTable := #[], attributes := #[] }
def k1m4 : Method := { name := "digit", desc := "(Ljava/lang/String;IJIIJ)Z", sig := { parameters := [(.object "java/lang/String"), .int, .long, .int, .int, .long], returnType := some .boolean }, accessFlags := 10, code := some k1c4 }
/-- com/example/frugal_ranker/frugalranker/TrecRunLinePinLaw -/
def k1 : Class := { plain "com/example/frugal_ranker/frugalranker/TrecRunLinePinLaw" (some 0) with
  accessFlags := 49
  interfaces := #[]
  cf := some (fileOf pool1 8 #[] #[{ accessFlags := 2, nameIndex := 5, descriptorIndex := 6, attributes := #[] }, { accessFlags := 9, nameIndex := 66, descriptorIndex := 67, attributes := #[] }, { accessFlags := 10, nameIndex := 11, descriptorIndex := 12, attributes := #[] }, { accessFlags := 10, nameIndex := 51, descriptorIndex := 52, attributes := #[] }, { accessFlags := 10, nameIndex := 59, descriptorIndex := 60, attributes := #[] }] 49 2 #[] #[])
  fields := #[]
  methods := #[k1m0, k1m1, k1m2, k1m3, k1m4]
  instanceTypes := #[]
  staticTypes := #[]
  resolved := Array.replicate 71 none
  statics := none }

def pool2 : Array CpInfo := pool [(1, .class_ 2), (0, u "java/io/Serializable"), (0, .class_ 4), (0, u "java/lang/Object")] 2

/-- java/io/Serializable -/
def k2 : Class := { plain "java/io/Serializable" (some 0) with
  accessFlags := 1537
  interfaces := #[]
  cf := some (fileOf pool2 1 #[] #[] 1537 3 #[] #[])
  fields := #[]
  methods := #[]
  instanceTypes := #[]
  staticTypes := #[]
  resolved := Array.replicate 7 none
  statics := none }

def pool3 : Array CpInfo := pool [(1, .class_ 2), (0, u "java/lang/Comparable"), (0, .class_ 4), (0, u "java/lang/Object")] 7

/-- java/lang/Comparable -/
def k3 : Class := { plain "java/lang/Comparable" (some 0) with
  accessFlags := 1537
  interfaces := #[]
  cf := some (fileOf pool3 1 #[] #[] 1537 3 #[] #[])
  fields := #[]
  methods := #[]
  instanceTypes := #[]
  staticTypes := #[]
  resolved := Array.replicate 12 none
  statics := none }

def pool4 : Array CpInfo := pool [(2, .class_ 4), (1, u "java/lang/CharSequence"), (42, .class_ 48), (0, u "java/lang/CharSequence$1CodePointIterator"), (10, .class_ 60), (0, u "java/lang/CharSequence$1CharIterator"), (5, .class_ 67), (0, u "java/lang/Object")] 63

/-- java/lang/CharSequence -/
def k4 : Class := { plain "java/lang/CharSequence" (some 0) with
  accessFlags := 1537
  interfaces := #[]
  cf := some (fileOf pool4 2 #[.nestMembers #[47, 59]] #[] 1537 66 #[] #[])
  fields := #[]
  methods := #[]
  instanceTypes := #[]
  staticTypes := #[]
  resolved := Array.replicate 131 none
  statics := none }

def pool5 : Array CpInfo := pool [(1, .class_ 2), (0, u "java/lang/constant/Constable"), (0, .class_ 4), (0, u "java/lang/Object")] 6

/-- java/lang/constant/Constable -/
def k5 : Class := { plain "java/lang/constant/Constable" (some 0) with
  accessFlags := 1537
  interfaces := #[]
  cf := some (fileOf pool5 1 #[] #[] 1537 3 #[] #[])
  fields := #[]
  methods := #[]
  instanceTypes := #[]
  staticTypes := #[]
  resolved := Array.replicate 11 none
  statics := none }

def pool6 : Array CpInfo := pool [(1, .class_ 2), (0, u "java/lang/constant/ConstantDesc"), (0, .class_ 4), (0, u "java/lang/Object")] 32

/-- java/lang/constant/ConstantDesc -/
def k6 : Class := { plain "java/lang/constant/ConstantDesc" (some 0) with
  accessFlags := 1537
  interfaces := #[]
  cf := some (fileOf pool6 1 #[] #[] 1537 3 #[] #[])
  fields := #[]
  methods := #[]
  instanceTypes := #[]
  staticTypes := #[]
  resolved := Array.replicate 37 none
  statics := none }

def pool7 : Array CpInfo := pool [(1, .methodref 2 3), (0, .class_ 4), (0, .nameAndType 5 6), (0, u "java/lang/Object"), (0, u "<init>"), (0, u "()V"), (0, .string 8), (0, u ""), (0, .fieldref 10 11), (0, .class_ 12), (0, .nameAndType 13 14), (0, u "java/lang/String"), (0, u "value"), (0, u "[B"), (0, .fieldref 10 16), (0, .nameAndType 17 18), (0, u "coder"), (0, u "B"), (2, u "hash"), (0, u "I"), (2, u "hashIsZero"), (0, u "Z"), (0, .methodref 10 28), (0, .nameAndType 5 29), (0, u "([CIILjava/lang/Void;)V"), (8, .fieldref 10 39), (0, .nameAndType 40 26), (0, u "COMPACT_STRINGS"), (1, .class_ 44), (1, u "java/lang/StringUTF16"), (0, u "compress"), (1, .methodref 42 48), (0, .nameAndType 49 50), (0, u "coderFromArrayLen"), (0, u "([BI)B"), (3, .methodref 55 56), (0, .class_ 57), (0, .nameAndType 58 59), (0, u "java/util/Arrays"), (0, u "copyOfRange"), (0, u "([BII)[B"), (47, .class_ 109), (1, u "java/lang/StringLatin1"), (32, u "()Z"), (34, .methodref 42 178), (0, .nameAndType 45 179), (0, u "([CII)[B"), (13, .class_ 195), (1, u "java/lang/System"), (16, .methodref 193 213), (0, .nameAndType 214 215), (0, u "arraycopy"), (0, u "(Ljava/lang/Object;ILjava/lang/Object;II)V"), (118, u "()I"), (0, .methodref 10 336), (0, .nameAndType 17 337), (0, u "()B"), (2, u "()[B"), (22, u "([BI)C"), (27, u "(II)V"), (35, u "(I)C"), (61, .methodref 10 490), (0, .nameAndType 5 491), (0, u "(Ljava/lang/AbstractStringBuilder;Ljava/lang/Void;)V"), (0, .methodref 10 493), (0, .nameAndType 494 142), (0, u "isLatin1"), (0, .methodref 107 496), (0, .nameAndType 497 363), (0, u "charAt"), (3, u "checkIndex"), (4, .nameAndType 507 334), (0, u "length"), (24, u "getBytes"), (16, .methodref 550 506), (0, .class_ 551), (0, u "java/lang/AbstractStringBuilder"), (0, .methodref 550 553), (0, .nameAndType 554 340), (0, u "getValue"), (20, .class_ 576), (0, u "java/lang/CharSequence"), (22, u "CASE_INSENSITIVE_ORDER"), (0, u "Ljava/util/Comparator;"), (220, u "([BIB)V"), (188, u "([C)V"), (36, .methodref 550 493), (5, .fieldref 1054 1055), (0, .class_ 1056), (0, .nameAndType 1057 1058), (0, u "jdk/internal/util/Preconditions"), (0, u "SIOOBE_FORMATTER"), (0, u "Ljava/util/function/BiFunction;"), (0, .methodref 1054 1060), (0, .nameAndType 501 1061), (0, u "(IILjava/util/function/BiFunction;)I"), (39, u "serialPersistentFields"), (0, u "[Ljava/io/ObjectStreamField;"), (0, .class_ 1104), (0, u "java/lang/String$CaseInsensitiveComparator"), (1, .class_ 1107), (0, u "java/io/Serializable"), (0, .class_ 1109), (0, u "java/lang/Comparable"), (0, .class_ 1111), (0, u "java/lang/constant/Constable"), (0, .class_ 1113), (0, u "java/lang/constant/ConstantDesc"), (2, u "serialVersionUID"), (0, u "J"), (3, u "REPL"), (0, u "C"), (2, u "LATIN1"), (1, u "UTF16"), (105, u "(Ljava/lang/StringBuilder;)V")] 217

def k7m0 : Method := { name := "<init>", desc := "()V", sig := { parameters := [], returnType := none }, accessFlags := 1, code := none }
def k7c1 : Code := { maxStack := 5, maxLocals := 2, code := jdk_42_method_3_code, exceptionTable := #[], attributes := #[] }
def k7m1 : Method := { name := "<init>", desc := "([C)V", sig := { parameters := [(.array .char)], returnType := none }, accessFlags := 1, code := some k7c1 }
def k7c2 : Code := { maxStack := 3, maxLocals := 2, code := jdk_42_method_53_code, exceptionTable := #[], attributes := #[] }
def k7m2 : Method := { name := "<init>", desc := "(Ljava/lang/StringBuilder;)V", sig := { parameters := [(.object "java/lang/StringBuilder")], returnType := none }, accessFlags := 1, code := some k7c2 }
def k7c3 : Code := { maxStack := 2, maxLocals := 1, code := jdk_42_method_54_code, exceptionTable := #[], attributes := #[] }
def k7m3 : Method := { name := "length", desc := "()I", sig := { parameters := [], returnType := some .int }, accessFlags := 1, code := some k7c3 }
def k7c4 : Code := { maxStack := 2, maxLocals := 2, code := jdk_42_method_56_code, exceptionTable := #[], attributes := #[] }
def k7m4 : Method := { name := "charAt", desc := "(I)C", sig := { parameters := [.int], returnType := some .char }, accessFlags := 1, code := some k7c4 }
def k7c5 : Code := { maxStack := 5, maxLocals := 4, code := jdk_42_method_147_code, exceptionTable := #[], attributes := #[] }
def k7m5 : Method := { name := "getBytes", desc := "([BIB)V", sig := { parameters := [(.array .byte), .int, .byte], returnType := none }, accessFlags := 0, code := some k7c5 }
def k7c6 : Code := { maxStack := 4, maxLocals := 6, code := jdk_42_method_149_code, exceptionTable := #[], attributes := #[] }
def k7m6 : Method := { name := "<init>", desc := "([CIILjava/lang/Void;)V", sig := { parameters := [(.array .char), .int, .int, (.object "java/lang/Void")], returnType := none }, accessFlags := 2, code := some k7c6 }
def k7c7 : Code := { maxStack := 5, maxLocals := 5, code := jdk_42_method_150_code, exceptionTable := #[], attributes := #[] }
def k7m7 : Method := { name := "<init>", desc := "(Ljava/lang/AbstractStringBuilder;Ljava/lang/Void;)V", sig := { parameters := [(.object "java/lang/AbstractStringBuilder"), (.object "java/lang/Void")], returnType := none }, accessFlags := 0, code := some k7c7 }
def k7c8 : Code := { maxStack := 1, maxLocals := 1, code := jdk_42_method_152_code, exceptionTable := #[], attributes := #[] }
def k7m8 : Method := { name := "coder", desc := "()B", sig := { parameters := [], returnType := some .byte }, accessFlags := 0, code := some k7c8 }
def k7c9 : Code := { maxStack := 1, maxLocals := 1, code := jdk_42_method_154_code, exceptionTable := #[], attributes := #[] }
def k7m9 : Method := { name := "isLatin1", desc := "()Z", sig := { parameters := [], returnType := some .boolean }, accessFlags := 0, code := some k7c9 }
def k7c10 : Code := { maxStack := 3, maxLocals := 2, code := jdk_42_method_155_code, exceptionTable := #[], attributes := #[] }
def k7m10 : Method := { name := "checkIndex", desc := "(II)V", sig := { parameters := [.int, .int], returnType := none }, accessFlags := 8, code := some k7c10 }
/-- java/lang/String -/
def k7 : Class := { plain "java/lang/String" (some 0) with
  accessFlags := 49
  interfaces := #[2, 3, 4, 5, 6]
  cf := some (fileOf pool7 10 #[.nestMembers #[1103]] #[{ accessFlags := 1, nameIndex := 5, descriptorIndex := 6, attributes := #[] }, { accessFlags := 1, nameIndex := 5, descriptorIndex := 1010, attributes := #[] }, { accessFlags := 1, nameIndex := 5, descriptorIndex := 1233, attributes := #[] }, { accessFlags := 1, nameIndex := 507, descriptorIndex := 334, attributes := #[] }, { accessFlags := 1, nameIndex := 497, descriptorIndex := 427, attributes := #[] }, { accessFlags := 0, nameIndex := 532, descriptorIndex := 821, attributes := #[] }, { accessFlags := 2, nameIndex := 5, descriptorIndex := 29, attributes := #[] }, { accessFlags := 0, nameIndex := 5, descriptorIndex := 491, attributes := #[] }, { accessFlags := 0, nameIndex := 17, descriptorIndex := 337, attributes := #[] }, { accessFlags := 0, nameIndex := 494, descriptorIndex := 142, attributes := #[] }, { accessFlags := 8, nameIndex := 501, descriptorIndex := 391, attributes := #[] }] 49 2 #[1106, 1108, 575, 1110, 1112] #[{ accessFlags := 18, nameIndex := 13, descriptorIndex := 14, attributes := #[] }, { accessFlags := 18, nameIndex := 17, descriptorIndex := 18, attributes := #[] }, { accessFlags := 2, nameIndex := 21, descriptorIndex := 22, attributes := #[] }, { accessFlags := 2, nameIndex := 25, descriptorIndex := 26, attributes := #[] }, { accessFlags := 26, nameIndex := 1116, descriptorIndex := 1117, attributes := #[] }, { accessFlags := 24, nameIndex := 40, descriptorIndex := 26, attributes := #[] }, { accessFlags := 26, nameIndex := 1101, descriptorIndex := 1102, attributes := #[] }, { accessFlags := 26, nameIndex := 1121, descriptorIndex := 1122, attributes := #[] }, { accessFlags := 25, nameIndex := 599, descriptorIndex := 600, attributes := #[] }, { accessFlags := 24, nameIndex := 1125, descriptorIndex := 18, attributes := #[] }, { accessFlags := 24, nameIndex := 1127, descriptorIndex := 18, attributes := #[] }])
  fields := #[{ name := "value", type := (.array .byte), accessFlags := 18, slot := 0, constantValue := 0 }, { name := "coder", type := .byte, accessFlags := 18, slot := 1, constantValue := 0 }, { name := "hash", type := .int, accessFlags := 2, slot := 2, constantValue := 0 }, { name := "hashIsZero", type := .boolean, accessFlags := 2, slot := 3, constantValue := 0 }, { name := "serialVersionUID", type := .long, accessFlags := 26, slot := 0, constantValue := 0 }, { name := "COMPACT_STRINGS", type := .boolean, accessFlags := 24, slot := 1, constantValue := 0 }, { name := "serialPersistentFields", type := (.array (.object "java/io/ObjectStreamField")), accessFlags := 26, slot := 2, constantValue := 0 }, { name := "REPL", type := .char, accessFlags := 26, slot := 3, constantValue := 0 }, { name := "CASE_INSENSITIVE_ORDER", type := (.object "java/util/Comparator"), accessFlags := 25, slot := 4, constantValue := 0 }, { name := "LATIN1", type := .byte, accessFlags := 24, slot := 5, constantValue := 0 }, { name := "UTF16", type := .byte, accessFlags := 24, slot := 6, constantValue := 0 }]
  methods := #[k7m0, k7m1, k7m2, k7m3, k7m4, k7m5, k7m6, k7m7, k7m8, k7m9, k7m10]
  instanceTypes := #[(.array .byte), .byte, .int, .boolean]
  staticTypes := #[.long, .boolean, (.array (.object "java/io/ObjectStreamField")), .char, (.object "java/util/Comparator"), .byte, .byte]
  resolved := Array.replicate 1451 none
  statics := some 0 }

def pool8 : Array CpInfo := pool [(2, .class_ 4), (0, .nameAndType 5 6), (0, u "java/lang/Object"), (0, u "<init>"), (0, u "()V"), (1, .class_ 10), (1, u "com/example/frugal_ranker/frugalranker/TrecRun"), (0, u "FIELD"), (0, u "Ljava/util/regex/Pattern;"), (12, .class_ 26), (0, u "java/lang/StringBuilder"), (0, .methodref 25 3), (0, .methodref 25 29), (0, .nameAndType 30 31), (0, u "append"), (0, u "(Ljava/lang/String;)Ljava/lang/StringBuilder;"), (0, .string 33), (0, u " Q0 "), (0, .string 35), (0, u " "), (0, .methodref 25 37), (0, .nameAndType 30 38), (0, u "(I)Ljava/lang/StringBuilder;"), (0, .methodref 25 40), (0, .nameAndType 41 42), (0, u "toString"), (0, u "()Ljava/lang/String;"), (2, u "SEPARATOR"), (82, .class_ 129), (0, u "com/example/frugal_ranker/frugalranker/TrecRun$Entry"), (15, u "NUMBER"), (24, u "FIELDS"), (0, u "I"), (6, u "line"), (0, u "(Ljava/lang/String;Ljava/lang/String;ILjava/lang/String;Ljava/lang/String;)Ljava/lang/String;")] 45

def k8m0 : Method := { name := "<init>", desc := "()V", sig := { parameters := [], returnType := none }, accessFlags := 2, code := none }
def k8c1 : Code := { maxStack := 2, maxLocals := 5, code := prog_88_method_3_code, exceptionTable := #[], attributes := #[] }
def k8m1 : Method := { name := "line", desc := "(Ljava/lang/String;Ljava/lang/String;ILjava/lang/String;Ljava/lang/String;)Ljava/lang/String;", sig := { parameters := [(.object "java/lang/String"), (.object "java/lang/String"), .int, (.object "java/lang/String"), (.object "java/lang/String")], returnType := some (.object "java/lang/String") }, accessFlags := 8, code := some k8c1 }
/-- com/example/frugal_ranker/frugalranker/TrecRun -/
def k8 : Class := { plain "com/example/frugal_ranker/frugalranker/TrecRun" (some 0) with
  accessFlags := 32
  interfaces := #[]
  cf := some (fileOf pool8 8 #[.nestMembers #[128]] #[{ accessFlags := 2, nameIndex := 5, descriptorIndex := 6, attributes := #[] }, { accessFlags := 8, nameIndex := 178, descriptorIndex := 179, attributes := #[] }] 32 2 #[] #[{ accessFlags := 26, nameIndex := 11, descriptorIndex := 12, attributes := #[] }, { accessFlags := 26, nameIndex := 45, descriptorIndex := 12, attributes := #[] }, { accessFlags := 26, nameIndex := 145, descriptorIndex := 12, attributes := #[] }, { accessFlags := 26, nameIndex := 170, descriptorIndex := 171, attributes := #[] }])
  fields := #[{ name := "FIELD", type := (.object "java/util/regex/Pattern"), accessFlags := 26, slot := 0, constantValue := 0 }, { name := "SEPARATOR", type := (.object "java/util/regex/Pattern"), accessFlags := 26, slot := 1, constantValue := 0 }, { name := "NUMBER", type := (.object "java/util/regex/Pattern"), accessFlags := 26, slot := 2, constantValue := 0 }, { name := "FIELDS", type := .int, accessFlags := 26, slot := 3, constantValue := 0 }]
  methods := #[k8m0, k8m1]
  instanceTypes := #[]
  staticTypes := #[(.object "java/util/regex/Pattern"), (.object "java/util/regex/Pattern"), (.object "java/util/regex/Pattern"), .int]
  resolved := Array.replicate 225 none
  statics := none }

def pool9 : Array CpInfo := pool [(1, .class_ 2), (0, u "java/lang/Appendable"), (0, .class_ 4), (0, u "java/lang/Object")] 9

/-- java/lang/Appendable -/
def k9 : Class := { plain "java/lang/Appendable" (some 0) with
  accessFlags := 1537
  interfaces := #[]
  cf := some (fileOf pool9 1 #[] #[] 1537 3 #[] #[])
  fields := #[]
  methods := #[]
  instanceTypes := #[]
  staticTypes := #[]
  resolved := Array.replicate 14 none
  statics := none }

def pool10 : Array CpInfo := pool [(1, .class_ 2), (0, u "java/lang/String"), (0, .methodref 4 5), (0, .class_ 6), (0, .nameAndType 7 8), (0, u "java/lang/Object"), (0, u "<init>"), (0, u "()V"), (1, .class_ 12), (1, u "java/lang/AbstractStringBuilder"), (0, u "EMPTYVALUE"), (0, u "[B"), (0, .fieldref 10 16), (0, .nameAndType 17 14), (0, u "value"), (0, .fieldref 1 19), (0, .nameAndType 20 21), (0, u "COMPACT_STRINGS"), (0, u "Z"), (0, .fieldref 10 23), (0, .nameAndType 24 25), (0, u "coder"), (0, u "B"), (6, .methodref 1 33), (0, .nameAndType 34 35), (0, u "length"), (0, u "()I"), (0, .class_ 37), (0, u "java/lang/Integer"), (1, .integer 2147483647), (0, .methodref 1 41), (0, .nameAndType 24 42), (0, u "()B"), (2, u "append"), (0, u "(Ljava/lang/String;)Ljava/lang/AbstractStringBuilder;"), (1, .class_ 49), (0, u "java/lang/CharSequence"), (19, u "(Ljava/lang/String;)V"), (5, u "maybeLatin1"), (3, .fieldref 10 80), (0, .nameAndType 81 82), (0, u "count"), (0, u "I"), (0, .methodref 10 84), (0, .nameAndType 85 86), (0, u "isLatin1"), (0, u "()Z"), (13, .methodref 10 101), (0, .nameAndType 102 103), (0, u "ensureCapacityInternal"), (0, u "(I)V"), (0, .methodref 10 105), (0, .nameAndType 106 107), (0, u "newCapacity"), (0, u "(I)I"), (0, .methodref 109 110), (0, .class_ 111), (0, .nameAndType 112 113), (0, u "java/util/Arrays"), (0, u "copyOf"), (0, u "([BI)[B"), (0, .methodref 115 116), (0, .class_ 117), (0, .nameAndType 118 119), (0, u "jdk/internal/util/ArraysSupport"), (0, u "newLength"), (0, u "(III)I"), (68, u "getChars"), (19, .methodref 10 209), (0, .nameAndType 210 211), (0, u "putStringAt"), (0, u "(ILjava/lang/String;)V"), (5, u "inflateIfNeededFor"), (2, .nameAndType 221 222), (0, u "getBytes"), (0, u "([BIB)V"), (22, .methodref 36 246), (0, .nameAndType 247 107), (0, u "stringSize"), (0, .methodref 36 249), (0, .nameAndType 188 250), (0, u "(II[B)I"), (146, .methodref 10 398), (0, .nameAndType 217 69), (0, .methodref 1 220), (3, u "()[B"), (40, .class_ 445), (0, u "java/lang/Appendable"), (65, u "(I)Ljava/lang/AbstractStringBuilder;"), (40, u "getValue")] 56

def k10m0 : Method := { name := "<init>", desc := "()V", sig := { parameters := [], returnType := none }, accessFlags := 0, code := none }
def k10c1 : Code := { maxStack := 2, maxLocals := 2, code := jdk_68_method_2_code, exceptionTable := #[], attributes := #[] }
def k10m1 : Method := { name := "<init>", desc := "(I)V", sig := { parameters := [.int], returnType := none }, accessFlags := 0, code := some k10c1 }
def k10c2 : Code := { maxStack := 1, maxLocals := 1, code := jdk_68_method_6_code, exceptionTable := #[], attributes := #[] }
def k10m2 : Method := { name := "length", desc := "()I", sig := { parameters := [], returnType := some .int }, accessFlags := 1, code := some k10c2 }
def k10c3 : Code := { maxStack := 4, maxLocals := 3, code := jdk_68_method_9_code, exceptionTable := #[], attributes := #[] }
def k10m3 : Method := { name := "ensureCapacityInternal", desc := "(I)V", sig := { parameters := [.int], returnType := none }, accessFlags := 2, code := some k10c3 }
def k10c4 : Code := { maxStack := 5, maxLocals := 6, code := jdk_68_method_10_code, exceptionTable := #[], attributes := #[] }
def k10m4 : Method := { name := "newCapacity", desc := "(I)I", sig := { parameters := [.int], returnType := some .int }, accessFlags := 2, code := some k10c4 }
def k10c5 : Code := { maxStack := 3, maxLocals := 3, code := jdk_68_method_22_code, exceptionTable := #[], attributes := #[] }
def k10m5 : Method := { name := "append", desc := "(Ljava/lang/String;)Ljava/lang/AbstractStringBuilder;", sig := { parameters := [(.object "java/lang/String")], returnType := some (.object "java/lang/AbstractStringBuilder") }, accessFlags := 1, code := some k10c5 }
def k10c6 : Code := { maxStack := 4, maxLocals := 4, code := jdk_68_method_32_code, exceptionTable := #[], attributes := #[] }
def k10m6 : Method := { name := "append", desc := "(I)Ljava/lang/AbstractStringBuilder;", sig := { parameters := [.int], returnType := some (.object "java/lang/AbstractStringBuilder") }, accessFlags := 1, code := some k10c6 }
def k10c7 : Code := { maxStack := 1, maxLocals := 1, code := jdk_68_method_64_code, exceptionTable := #[], attributes := #[] }
def k10m7 : Method := { name := "getValue", desc := "()[B", sig := { parameters := [], returnType := some (.array .byte) }, accessFlags := 16, code := some k10c7 }
def k10c8 : Code := { maxStack := 1, maxLocals := 1, code := jdk_68_method_68_code, exceptionTable := #[], attributes := #[] }
def k10m8 : Method := { name := "isLatin1", desc := "()Z", sig := { parameters := [], returnType := some .boolean }, accessFlags := 16, code := some k10c8 }
def k10c9 : Code := { maxStack := 2, maxLocals := 2, code := jdk_68_method_71_code, exceptionTable := #[], attributes := #[] }
def k10m9 : Method := { name := "inflateIfNeededFor", desc := "(Ljava/lang/String;)V", sig := { parameters := [(.object "java/lang/String")], returnType := none }, accessFlags := 2, code := some k10c9 }
def k10c10 : Code := { maxStack := 4, maxLocals := 3, code := jdk_68_method_73_code, exceptionTable := #[], attributes := #[] }
def k10m10 : Method := { name := "putStringAt", desc := "(ILjava/lang/String;)V", sig := { parameters := [.int, (.object "java/lang/String")], returnType := none }, accessFlags := 2, code := some k10c10 }
/-- java/lang/AbstractStringBuilder -/
def k10 : Class := { plain "java/lang/AbstractStringBuilder" (some 0) with
  accessFlags := 1056
  interfaces := #[9, 4]
  cf := some (fileOf pool10 10 #[] #[{ accessFlags := 0, nameIndex := 7, descriptorIndex := 8, attributes := #[] }, { accessFlags := 0, nameIndex := 7, descriptorIndex := 103, attributes := #[] }, { accessFlags := 1, nameIndex := 34, descriptorIndex := 35, attributes := #[] }, { accessFlags := 2, nameIndex := 102, descriptorIndex := 103, attributes := #[] }, { accessFlags := 2, nameIndex := 106, descriptorIndex := 107, attributes := #[] }, { accessFlags := 1, nameIndex := 45, descriptorIndex := 46, attributes := #[] }, { accessFlags := 1, nameIndex := 45, descriptorIndex := 511, attributes := #[] }, { accessFlags := 16, nameIndex := 552, descriptorIndex := 403, attributes := #[] }, { accessFlags := 16, nameIndex := 85, descriptorIndex := 86, attributes := #[] }, { accessFlags := 2, nameIndex := 217, descriptorIndex := 69, attributes := #[] }, { accessFlags := 2, nameIndex := 210, descriptorIndex := 211, attributes := #[] }] 1056 4 #[444, 48] #[{ accessFlags := 0, nameIndex := 17, descriptorIndex := 14, attributes := #[] }, { accessFlags := 0, nameIndex := 24, descriptorIndex := 25, attributes := #[] }, { accessFlags := 0, nameIndex := 75, descriptorIndex := 21, attributes := #[] }, { accessFlags := 0, nameIndex := 81, descriptorIndex := 82, attributes := #[] }, { accessFlags := 26, nameIndex := 13, descriptorIndex := 14, attributes := #[] }])
  fields := #[{ name := "value", type := (.array .byte), accessFlags := 0, slot := 0, constantValue := 0 }, { name := "coder", type := .byte, accessFlags := 0, slot := 1, constantValue := 0 }, { name := "maybeLatin1", type := .boolean, accessFlags := 0, slot := 2, constantValue := 0 }, { name := "count", type := .int, accessFlags := 0, slot := 3, constantValue := 0 }, { name := "EMPTYVALUE", type := (.array .byte), accessFlags := 26, slot := 0, constantValue := 0 }]
  methods := #[k10m0, k10m1, k10m2, k10m3, k10m4, k10m5, k10m6, k10m7, k10m8, k10m9, k10m10]
  instanceTypes := #[(.array .byte), .byte, .boolean, .int]
  staticTypes := #[(.array .byte)]
  resolved := Array.replicate 609 none
  statics := none }

def pool11 : Array CpInfo := pool [(1, .methodref 2 3), (0, .class_ 4), (0, .nameAndType 5 6), (0, u "java/lang/AbstractStringBuilder"), (0, u "<init>"), (0, u "(I)V"), (11, .class_ 20), (1, u "java/lang/String"), (3, .class_ 26), (1, u "java/lang/StringBuilder"), (0, u "append"), (0, u "(Ljava/lang/String;)Ljava/lang/StringBuilder;"), (0, .methodref 2 30), (0, .nameAndType 27 31), (0, u "(Ljava/lang/String;)Ljava/lang/AbstractStringBuilder;"), (21, .methodref 2 54), (0, .nameAndType 27 55), (0, u "(I)Ljava/lang/AbstractStringBuilder;"), (81, .methodref 18 138), (0, .nameAndType 5 139), (0, u "(Ljava/lang/StringBuilder;)V"), (5, u "()V"), (10, u "()I"), (111, u "(I)Ljava/lang/StringBuilder;"), (74, .methodref 2 344), (0, .nameAndType 345 156), (0, u "length"), (3, .class_ 350), (0, u "java/lang/Appendable"), (0, .class_ 352), (0, u "java/io/Serializable"), (0, .class_ 354), (0, u "java/lang/Comparable"), (0, .class_ 356), (0, u "java/lang/CharSequence"), (0, u "serialVersionUID"), (0, u "J"), (40, u "toString"), (0, u "()Ljava/lang/String;")] 21

def k11c0 : Code := { maxStack := 2, maxLocals := 1, code := jdk_67_method_1_code, exceptionTable := #[], attributes := #[] }
def k11m0 : Method := { name := "<init>", desc := "()V", sig := { parameters := [], returnType := none }, accessFlags := 1, code := some k11c0 }
def k11c1 : Code := { maxStack := 2, maxLocals := 2, code := jdk_67_method_7_code, exceptionTable := #[], attributes := #[] }
def k11m1 : Method := { name := "append", desc := "(Ljava/lang/String;)Ljava/lang/StringBuilder;", sig := { parameters := [(.object "java/lang/String")], returnType := some (.object "java/lang/StringBuilder") }, accessFlags := 1, code := some k11c1 }
def k11c2 : Code := { maxStack := 2, maxLocals := 2, code := jdk_67_method_15_code, exceptionTable := #[], attributes := #[] }
def k11m2 : Method := { name := "append", desc := "(I)Ljava/lang/StringBuilder;", sig := { parameters := [.int], returnType := some (.object "java/lang/StringBuilder") }, accessFlags := 1, code := some k11c2 }
def k11c3 : Code := { maxStack := 3, maxLocals := 1, code := jdk_67_method_42_code, exceptionTable := #[], attributes := #[] }
def k11m3 : Method := { name := "toString", desc := "()Ljava/lang/String;", sig := { parameters := [], returnType := some (.object "java/lang/String") }, accessFlags := 1, code := some k11c3 }
def k11c4 : Code := { maxStack := 1, maxLocals := 1, code := jdk_67_method_93_code, exceptionTable := #[], attributes := #[] }
def k11m4 : Method := { name := "length", desc := "()I", sig := { parameters := [], returnType := some .int }, accessFlags := 4161, code := some k11c4 }
/-- java/lang/StringBuilder -/
def k11 : Class := { plain "java/lang/StringBuilder" (some 10) with
  accessFlags := 49
  interfaces := #[9, 2, 3, 4]
  cf := some (fileOf pool11 24 #[] #[{ accessFlags := 1, nameIndex := 5, descriptorIndex := 145, attributes := #[] }, { accessFlags := 1, nameIndex := 27, descriptorIndex := 28, attributes := #[] }, { accessFlags := 1, nameIndex := 27, descriptorIndex := 268, attributes := #[] }, { accessFlags := 1, nameIndex := 399, descriptorIndex := 400, attributes := #[] }, { accessFlags := 4161, nameIndex := 345, descriptorIndex := 156, attributes := #[] }] 49 2 #[349, 351, 353, 355] #[{ accessFlags := 24, nameIndex := 357, descriptorIndex := 358, attributes := #[] }])
  fields := #[{ name := "serialVersionUID", type := .long, accessFlags := 24, slot := 0, constantValue := 0 }]
  methods := #[k11m0, k11m1, k11m2, k11m3, k11m4]
  instanceTypes := #[(.array .byte), .byte, .boolean, .int]
  staticTypes := #[.long]
  resolved := Array.replicate 422 none
  statics := none }

def pool12 : Array CpInfo := pool [(2, .class_ 4), (1, u "java/lang/Object"), (0, u "<init>"), (0, u "()V"), (1, .class_ 10), (1, u "java/lang/System"), (0, u "allowSecurityManager"), (0, u "I"), (16, u "cons"), (0, u "Ljava/io/Console;"), (77, .class_ 110), (1, u "java/lang/System$CallersHolder"), (43, u "initialErrStream"), (0, u "Ljava/io/PrintStream;"), (19, u "security"), (0, u "Ljava/lang/SecurityManager;"), (31, .class_ 209), (0, u "java/lang/System$1"), (7, u "props"), (0, u "Ljava/util/Properties;"), (2, u "lineSeparator"), (0, u "Ljava/lang/String;"), (96, .class_ 321), (1, u "java/lang/System$LoggerFinder"), (5, .class_ 328), (0, u "java/lang/System$Logger"), (67, u "err"), (2, u "out"), (91, u "notSupportedJnuEncoding"), (15, u "in"), (17, u "initialIn"), (0, u "Ljava/io/InputStream;"), (35, u "bootLayer"), (0, u "Ljava/lang/ModuleLayer;"), (99, .class_ 664), (0, u "java/lang/System$2"), (9, u "NEVER"), (2, u "MAYBE"), (49, u "arraycopy"), (0, u "(Ljava/lang/Object;ILjava/lang/Object;II)V"), (72, .class_ 802), (0, u "java/lang/System$Logger$Level")] 31

def k12m0 : Method := { name := "<init>", desc := "()V", sig := { parameters := [], returnType := none }, accessFlags := 2, code := none }
def k12m1 : Method := { name := "arraycopy", desc := "(Ljava/lang/Object;ILjava/lang/Object;II)V", sig := { parameters := [(.object "java/lang/Object"), .int, (.object "java/lang/Object"), .int, .int], returnType := none }, accessFlags := 265, code := none }
/-- java/lang/System -/
def k12 : Class := { plain "java/lang/System" (some 0) with
  accessFlags := 49
  interfaces := #[]
  cf := some (fileOf pool12 8 #[.nestMembers #[319, 327, 801, 108, 663, 208]] #[{ accessFlags := 2, nameIndex := 5, descriptorIndex := 6, attributes := #[] }, { accessFlags := 265, nameIndex := 727, descriptorIndex := 728, attributes := #[] }] 49 2 #[] #[{ accessFlags := 25, nameIndex := 507, descriptorIndex := 526, attributes := #[] }, { accessFlags := 25, nameIndex := 399, descriptorIndex := 155, attributes := #[] }, { accessFlags := 25, nameIndex := 396, descriptorIndex := 155, attributes := #[] }, { accessFlags := 10, nameIndex := 525, descriptorIndex := 526, attributes := #[] }, { accessFlags := 26, nameIndex := 674, descriptorIndex := 12, attributes := #[] }, { accessFlags := 26, nameIndex := 677, descriptorIndex := 12, attributes := #[] }, { accessFlags := 10, nameIndex := 11, descriptorIndex := 12, attributes := #[] }, { accessFlags := 74, nameIndex := 175, descriptorIndex := 176, attributes := #[] }, { accessFlags := 10, nameIndex := 491, descriptorIndex := 222, attributes := #[] }, { accessFlags := 74, nameIndex := 29, descriptorIndex := 30, attributes := #[] }, { accessFlags := 74, nameIndex := 154, descriptorIndex := 155, attributes := #[] }, { accessFlags := 10, nameIndex := 217, descriptorIndex := 218, attributes := #[] }, { accessFlags := 10, nameIndex := 221, descriptorIndex := 222, attributes := #[] }, { accessFlags := 8, nameIndex := 562, descriptorIndex := 563, attributes := #[] }])
  fields := #[{ name := "in", type := (.object "java/io/InputStream"), accessFlags := 25, slot := 0, constantValue := 0 }, { name := "out", type := (.object "java/io/PrintStream"), accessFlags := 25, slot := 1, constantValue := 0 }, { name := "err", type := (.object "java/io/PrintStream"), accessFlags := 25, slot := 2, constantValue := 0 }, { name := "initialIn", type := (.object "java/io/InputStream"), accessFlags := 10, slot := 3, constantValue := 0 }, { name := "NEVER", type := .int, accessFlags := 26, slot := 4, constantValue := 0 }, { name := "MAYBE", type := .int, accessFlags := 26, slot := 5, constantValue := 0 }, { name := "allowSecurityManager", type := .int, accessFlags := 10, slot := 6, constantValue := 0 }, { name := "security", type := (.object "java/lang/SecurityManager"), accessFlags := 74, slot := 7, constantValue := 0 }, { name := "notSupportedJnuEncoding", type := (.object "java/lang/String"), accessFlags := 10, slot := 8, constantValue := 0 }, { name := "cons", type := (.object "java/io/Console"), accessFlags := 74, slot := 9, constantValue := 0 }, { name := "initialErrStream", type := (.object "java/io/PrintStream"), accessFlags := 74, slot := 10, constantValue := 0 }, { name := "props", type := (.object "java/util/Properties"), accessFlags := 10, slot := 11, constantValue := 0 }, { name := "lineSeparator", type := (.object "java/lang/String"), accessFlags := 10, slot := 12, constantValue := 0 }, { name := "bootLayer", type := (.object "java/lang/ModuleLayer"), accessFlags := 8, slot := 13, constantValue := 0 }]
  methods := #[k12m0, k12m1]
  instanceTypes := #[]
  staticTypes := #[(.object "java/io/InputStream"), (.object "java/io/PrintStream"), (.object "java/io/PrintStream"), (.object "java/io/InputStream"), .int, .int, .int, (.object "java/lang/SecurityManager"), (.object "java/lang/String"), (.object "java/io/Console"), (.object "java/io/PrintStream"), (.object "java/util/Properties"), (.object "java/lang/String"), (.object "java/lang/ModuleLayer")]
  resolved := Array.replicate 834 none
  statics := none }

def pool13 : Array CpInfo := pool [(2, .class_ 4), (1, u "java/lang/Object"), (0, u "<init>"), (0, u "()V"), (1, .class_ 10), (1, u "java/lang/Number"), (2, .class_ 14), (0, u "java/io/Serializable"), (0, u "serialVersionUID"), (0, u "J")] 20

def k13m0 : Method := { name := "<init>", desc := "()V", sig := { parameters := [], returnType := none }, accessFlags := 1, code := none }
/-- java/lang/Number -/
def k13 : Class := { plain "java/lang/Number" (some 0) with
  accessFlags := 1057
  interfaces := #[2]
  cf := some (fileOf pool13 8 #[] #[{ accessFlags := 1, nameIndex := 5, descriptorIndex := 6, attributes := #[] }] 1057 2 #[13] #[{ accessFlags := 26, nameIndex := 15, descriptorIndex := 16, attributes := #[] }])
  fields := #[{ name := "serialVersionUID", type := .long, accessFlags := 26, slot := 0, constantValue := 0 }]
  methods := #[k13m0]
  instanceTypes := #[]
  staticTypes := #[.long]
  resolved := Array.replicate 37 none
  statics := none }

def pool14 : Array CpInfo := pool [(1, .class_ 2), (0, u "java/lang/Integer"), (16, u "digits"), (0, u "[C"), (33, u "(I)I"), (19, u "stringSize"), (2, u "getChars"), (0, u "(II[B)I"), (4, .fieldref 1 84), (0, .nameAndType 85 86), (0, u "DigitOnes"), (0, u "[B"), (0, .fieldref 1 88), (0, .nameAndType 89 86), (0, u "DigitTens"), (99, .class_ 190), (0, u "java/lang/Integer$IntegerCache"), (3, u "I"), (8, .class_ 204), (0, u "java/lang/Number"), (2, u "value"), (94, u "TYPE"), (0, u "Ljava/lang/Class;"), (0, .class_ 305), (0, u "java/lang/Comparable"), (0, .class_ 307), (0, u "java/lang/constant/Constable"), (0, .class_ 309), (0, u "java/lang/constant/ConstantDesc"), (0, u "MIN_VALUE"), (1, u "MAX_VALUE"), (3, u "SIZE"), (1, u "BYTES"), (1, u "serialVersionUID"), (0, u "J")] 131

def k14c0 : Code := { maxStack := 4, maxLocals := 7, code := jdk_33_method_12_code, exceptionTable := #[], attributes := #[] }
def k14m0 : Method := { name := "getChars", desc := "(II[B)I", sig := { parameters := [.int, .int, (.array .byte)], returnType := some .int }, accessFlags := 8, code := some k14c0 }
def k14c1 : Code := { maxStack := 2, maxLocals := 4, code := jdk_33_method_13_code, exceptionTable := #[], attributes := #[] }
def k14m1 : Method := { name := "stringSize", desc := "(I)I", sig := { parameters := [.int], returnType := some .int }, accessFlags := 8, code := some k14c1 }
/-- java/lang/Integer -/
def k14 : Class := { plain "java/lang/Integer" (some 13) with
  accessFlags := 49
  interfaces := #[3, 5, 6]
  cf := some (fileOf pool14 1 #[.nestMembers #[189]] #[{ accessFlags := 8, nameIndex := 77, descriptorIndex := 78, attributes := #[] }, { accessFlags := 8, nameIndex := 74, descriptorIndex := 54, attributes := #[] }] 49 203 #[304, 306, 308] #[{ accessFlags := 25, nameIndex := 310, descriptorIndex := 194, attributes := #[] }, { accessFlags := 25, nameIndex := 312, descriptorIndex := 194, attributes := #[] }, { accessFlags := 25, nameIndex := 302, descriptorIndex := 303, attributes := #[] }, { accessFlags := 24, nameIndex := 19, descriptorIndex := 20, attributes := #[] }, { accessFlags := 24, nameIndex := 89, descriptorIndex := 86, attributes := #[] }, { accessFlags := 24, nameIndex := 85, descriptorIndex := 86, attributes := #[] }, { accessFlags := 18, nameIndex := 207, descriptorIndex := 194, attributes := #[] }, { accessFlags := 25, nameIndex := 316, descriptorIndex := 194, attributes := #[] }, { accessFlags := 25, nameIndex := 318, descriptorIndex := 194, attributes := #[] }, { accessFlags := 26, nameIndex := 320, descriptorIndex := 321, attributes := #[] }])
  fields := #[{ name := "MIN_VALUE", type := .int, accessFlags := 25, slot := 0, constantValue := 0 }, { name := "MAX_VALUE", type := .int, accessFlags := 25, slot := 1, constantValue := 0 }, { name := "TYPE", type := (.object "java/lang/Class"), accessFlags := 25, slot := 2, constantValue := 0 }, { name := "digits", type := (.array .char), accessFlags := 24, slot := 3, constantValue := 0 }, { name := "DigitTens", type := (.array .byte), accessFlags := 24, slot := 4, constantValue := 0 }, { name := "DigitOnes", type := (.array .byte), accessFlags := 24, slot := 5, constantValue := 0 }, { name := "value", type := .int, accessFlags := 18, slot := 0, constantValue := 0 }, { name := "SIZE", type := .int, accessFlags := 25, slot := 6, constantValue := 0 }, { name := "BYTES", type := .int, accessFlags := 25, slot := 7, constantValue := 0 }, { name := "serialVersionUID", type := .long, accessFlags := 26, slot := 8, constantValue := 0 }]
  methods := #[k14m0, k14m1]
  instanceTypes := #[.int]
  staticTypes := #[.int, .int, (.object "java/lang/Class"), (.array .char), (.array .byte), (.array .byte), .int, .int, .long]
  resolved := Array.replicate 453 none
  statics := some 1 }

def pool15 : Array CpInfo := pool [(2, .class_ 4), (1, u "java/lang/Object"), (0, u "<init>"), (0, u "()V"), (7, .class_ 16), (1, u "java/util/Arrays"), (57, .class_ 76), (1, u "java/util/Arrays$NaturalOrder"), (32, u "()Ljava/lang/Object;"), (3, .class_ 115), (1, u "java/util/Arrays$LegacyMergeSort"), (1, u "Z"), (10, .nameAndType 129 109), (0, u "clone"), (9, u "copyOfRange"), (10, .methodref 151 152), (0, .class_ 153), (0, .nameAndType 154 155), (0, u "java/lang/System"), (0, u "arraycopy"), (0, u "(Ljava/lang/Object;ILjava/lang/Object;II)V"), (146, u "copyOf"), (1, .methodref 305 306), (0, .class_ 307), (0, .nameAndType 308 309), (0, u "java/lang/Math"), (0, u "min"), (0, u "(II)I"), (0, .methodref 311 128), (0, .class_ 312), (0, u "[B"), (26, .methodref 14 340), (0, .nameAndType 341 342), (0, u "copyOfRangeByte"), (0, u "([BII)[B"), (0, .methodref 14 344), (0, .nameAndType 345 346), (0, u "checkLength"), (0, u "(II)V"), (28, .class_ 376), (0, u "java/util/Arrays$ArrayList"), (68, u "$assertionsDisabled"), (269, u "MIN_ARRAY_SORT_GRAN"), (0, u "I"), (2, u "INSERTIONSORT_THRESHOLD"), (149, u "([BI)[B"), (105, .class_ 976), (0, u "java/util/Arrays$ArrayItr")] 52

def k15m0 : Method := { name := "<init>", desc := "()V", sig := { parameters := [], returnType := none }, accessFlags := 2, code := none }
def k15c1 : Code := { maxStack := 6, maxLocals := 3, code := jdk_65_method_121_code, exceptionTable := #[], attributes := #[] }
def k15m1 : Method := { name := "copyOf", desc := "([BI)[B", sig := { parameters := [(.array .byte), .int], returnType := some (.array .byte) }, accessFlags := 9, code := some k15c1 }
def k15c2 : Code := { maxStack := 4, maxLocals := 2, code := jdk_65_method_131_code, exceptionTable := #[], attributes := #[] }
def k15m2 : Method := { name := "checkLength", desc := "(II)V", sig := { parameters := [.int, .int], returnType := none }, accessFlags := 10, code := some k15c2 }
def k15c3 : Code := { maxStack := 3, maxLocals := 3, code := jdk_65_method_132_code, exceptionTable := #[], attributes := #[] }
def k15m3 : Method := { name := "copyOfRange", desc := "([BII)[B", sig := { parameters := [(.array .byte), .int, .int], returnType := some (.array .byte) }, accessFlags := 9, code := some k15c3 }
def k15c4 : Code := { maxStack := 6, maxLocals := 5, code := jdk_65_method_133_code, exceptionTable := #[], attributes := #[] }
def k15m4 : Method := { name := "copyOfRangeByte", desc := "([BII)[B", sig := { parameters := [(.array .byte), .int, .int], returnType := some (.array .byte) }, accessFlags := 10, code := some k15c4 }
/-- java/util/Arrays -/
def k15 : Class := { plain "java/util/Arrays" (some 0) with
  accessFlags := 49
  interfaces := #[]
  cf := some (fileOf pool15 14 #[.nestMembers #[975, 375, 113, 74]] #[{ accessFlags := 2, nameIndex := 5, descriptorIndex := 6, attributes := #[] }, { accessFlags := 9, nameIndex := 302, descriptorIndex := 869, attributes := #[] }, { accessFlags := 10, nameIndex := 345, descriptorIndex := 346, attributes := #[] }, { accessFlags := 9, nameIndex := 139, descriptorIndex := 342, attributes := #[] }, { accessFlags := 10, nameIndex := 341, descriptorIndex := 342, attributes := #[] }] 49 2 #[] #[{ accessFlags := 26, nameIndex := 715, descriptorIndex := 716, attributes := #[] }, { accessFlags := 26, nameIndex := 719, descriptorIndex := 716, attributes := #[] }, { accessFlags := 4120, nameIndex := 445, descriptorIndex := 117, attributes := #[] }])
  fields := #[{ name := "MIN_ARRAY_SORT_GRAN", type := .int, accessFlags := 26, slot := 0, constantValue := 0 }, { name := "INSERTIONSORT_THRESHOLD", type := .int, accessFlags := 26, slot := 1, constantValue := 0 }, { name := "$assertionsDisabled", type := .boolean, accessFlags := 4120, slot := 2, constantValue := 0 }]
  methods := #[k15m0, k15m1, k15m2, k15m3, k15m4]
  instanceTypes := #[]
  staticTypes := #[.int, .int, .boolean]
  resolved := Array.replicate 1029 none
  statics := none }

def pool16 : Array CpInfo := pool [(1, .class_ 2), (0, u "java/lang/Math"), (1, .class_ 6), (1, u "java/lang/Object"), (0, u "<init>"), (0, u "()V"), (89, .class_ 100), (1, u "java/lang/Math$RandomNumberGeneratorHolder"), (23, u "abs"), (0, u "(J)J"), (46, u "negativeZeroFloatBits"), (0, u "J"), (2, u "negativeZeroDoubleBits"), (21, u "max"), (2, u "min"), (43, u "$assertionsDisabled"), (0, u "Z"), (88, u "(II)I"), (2, u "twoToTheDoubleScaleDown"), (0, u "D"), (4, u "twoToTheDoubleScaleUp"), (9, u "E"), (3, u "PI"), (2, u "TAU"), (2, u "DEGREES_TO_RADIANS"), (0, u "RADIANS_TO_DEGREES")] 94

def k16m0 : Method := { name := "<init>", desc := "()V", sig := { parameters := [], returnType := none }, accessFlags := 2, code := none }
def k16c1 : Code := { maxStack := 4, maxLocals := 2, code := jdk_29_method_61_code, exceptionTable := #[], attributes := #[] }
def k16m1 : Method := { name := "abs", desc := "(J)J", sig := { parameters := [.long], returnType := some .long }, accessFlags := 9, code := some k16c1 }
def k16c2 : Code := { maxStack := 2, maxLocals := 2, code := jdk_29_method_65_code, exceptionTable := #[], attributes := #[] }
def k16m2 : Method := { name := "max", desc := "(II)I", sig := { parameters := [.int, .int], returnType := some .int }, accessFlags := 9, code := some k16c2 }
def k16c3 : Code := { maxStack := 2, maxLocals := 2, code := jdk_29_method_69_code, exceptionTable := #[], attributes := #[] }
def k16m3 : Method := { name := "min", desc := "(II)I", sig := { parameters := [.int, .int], returnType := some .int }, accessFlags := 9, code := some k16c3 }
/-- java/lang/Math -/
def k16 : Class := { plain "java/lang/Math" (some 0) with
  accessFlags := 49
  interfaces := #[]
  cf := some (fileOf pool16 1 #[.nestMembers #[98]] #[{ accessFlags := 2, nameIndex := 7, descriptorIndex := 8, attributes := #[] }, { accessFlags := 9, nameIndex := 124, descriptorIndex := 125, attributes := #[] }, { accessFlags := 9, nameIndex := 198, descriptorIndex := 335, attributes := #[] }, { accessFlags := 9, nameIndex := 201, descriptorIndex := 335, attributes := #[] }] 49 4 #[] #[{ accessFlags := 25, nameIndex := 354, descriptorIndex := 339, attributes := #[] }, { accessFlags := 25, nameIndex := 358, descriptorIndex := 339, attributes := #[] }, { accessFlags := 25, nameIndex := 361, descriptorIndex := 339, attributes := #[] }, { accessFlags := 26, nameIndex := 364, descriptorIndex := 339, attributes := #[] }, { accessFlags := 26, nameIndex := 365, descriptorIndex := 339, attributes := #[] }, { accessFlags := 26, nameIndex := 172, descriptorIndex := 173, attributes := #[] }, { accessFlags := 26, nameIndex := 176, descriptorIndex := 173, attributes := #[] }, { accessFlags := 8, nameIndex := 344, descriptorIndex := 339, attributes := #[] }, { accessFlags := 8, nameIndex := 338, descriptorIndex := 339, attributes := #[] }, { accessFlags := 4120, nameIndex := 245, descriptorIndex := 246, attributes := #[] }])
  fields := #[{ name := "E", type := .double, accessFlags := 25, slot := 0, constantValue := 0 }, { name := "PI", type := .double, accessFlags := 25, slot := 1, constantValue := 0 }, { name := "TAU", type := .double, accessFlags := 25, slot := 2, constantValue := 0 }, { name := "DEGREES_TO_RADIANS", type := .double, accessFlags := 26, slot := 3, constantValue := 0 }, { name := "RADIANS_TO_DEGREES", type := .double, accessFlags := 26, slot := 4, constantValue := 0 }, { name := "negativeZeroFloatBits", type := .long, accessFlags := 26, slot := 5, constantValue := 0 }, { name := "negativeZeroDoubleBits", type := .long, accessFlags := 26, slot := 6, constantValue := 0 }, { name := "twoToTheDoubleScaleUp", type := .double, accessFlags := 8, slot := 7, constantValue := 0 }, { name := "twoToTheDoubleScaleDown", type := .double, accessFlags := 8, slot := 8, constantValue := 0 }, { name := "$assertionsDisabled", type := .boolean, accessFlags := 4120, slot := 9, constantValue := 0 }]
  methods := #[k16m0, k16m1, k16m2, k16m3]
  instanceTypes := #[]
  staticTypes := #[.double, .double, .double, .double, .double, .long, .long, .double, .double, .boolean]
  resolved := Array.replicate 460 none
  statics := none }

def pool17 : Array CpInfo := pool [(1, .class_ 2), (0, u "java/lang/String"), (1, .class_ 6), (1, u "java/lang/Object"), (0, u "<init>"), (0, u "()V"), (0, .methodref 1 10), (0, .nameAndType 11 12), (0, u "checkIndex"), (0, u "(II)V"), (1, .class_ 16), (1, u "java/lang/StringLatin1"), (36, u "([BI)C"), (67, u "$assertionsDisabled"), (0, u "Z"), (98, .class_ 223), (1, u "java/lang/StringLatin1$LinesSpliterator"), (28, u "charAt"), (137, .class_ 391), (0, u "java/lang/StringLatin1$CharsSpliterator")] 3

def k17m0 : Method := { name := "<init>", desc := "()V", sig := { parameters := [], returnType := none }, accessFlags := 0, code := none }
def k17c1 : Code := { maxStack := 2, maxLocals := 2, code := jdk_43_method_2_code, exceptionTable := #[], attributes := #[] }
def k17m1 : Method := { name := "charAt", desc := "([BI)C", sig := { parameters := [(.array .byte), .int], returnType := some .char }, accessFlags := 9, code := some k17c1 }
/-- java/lang/StringLatin1 -/
def k17 : Class := { plain "java/lang/StringLatin1" (some 0) with
  accessFlags := 48
  interfaces := #[]
  cf := some (fileOf pool17 14 #[.nestMembers #[390, 221]] #[{ accessFlags := 0, nameIndex := 7, descriptorIndex := 8, attributes := #[] }, { accessFlags := 9, nameIndex := 252, descriptorIndex := 53, attributes := #[] }] 48 4 #[] #[{ accessFlags := 4120, nameIndex := 121, descriptorIndex := 122, attributes := #[] }])
  fields := #[{ name := "$assertionsDisabled", type := .boolean, accessFlags := 4120, slot := 0, constantValue := 0 }]
  methods := #[k17m0, k17m1]
  instanceTypes := #[]
  staticTypes := #[.boolean]
  resolved := Array.replicate 395 none
  statics := none }

def pool18 : Array CpInfo := pool [(2, .class_ 4), (1, u "java/lang/Object"), (0, u "<init>"), (0, u "()V"), (17, .class_ 26), (1, u "jdk/internal/util/Preconditions"), (6, u "checkIndex"), (21, .class_ 56), (0, u "jdk/internal/util/Preconditions$4"), (57, .class_ 115), (0, u "jdk/internal/util/Preconditions$1"), (7, u "SIOOBE_FORMATTER"), (0, u "Ljava/util/function/BiFunction;"), (0, .class_ 126), (0, u "jdk/internal/util/Preconditions$2"), (3, u "AIOOBE_FORMATTER"), (0, .class_ 132), (0, u "jdk/internal/util/Preconditions$3"), (3, u "IOOBE_FORMATTER"), (41, u "(IILjava/util/function/BiFunction;)I")] 15

def k18m0 : Method := { name := "<init>", desc := "()V", sig := { parameters := [], returnType := none }, accessFlags := 1, code := none }
def k18c1 : Code := { maxStack := 3, maxLocals := 3, code := jdk_41_method_11_code, exceptionTable := #[], attributes := #[] }
def k18m1 : Method := { name := "checkIndex", desc := "(IILjava/util/function/BiFunction;)I", sig := { parameters := [.int, .int, (.object "java/util/function/BiFunction")], returnType := some .int }, accessFlags := 9, code := some k18c1 }
/-- jdk/internal/util/Preconditions -/
def k18 : Class := { plain "jdk/internal/util/Preconditions" (some 0) with
  accessFlags := 33
  interfaces := #[]
  cf := some (fileOf pool18 24 #[.nestMembers #[55, 131, 125, 114]] #[{ accessFlags := 1, nameIndex := 5, descriptorIndex := 6, attributes := #[] }, { accessFlags := 9, nameIndex := 33, descriptorIndex := 178, attributes := #[] }] 33 2 #[] #[{ accessFlags := 25, nameIndex := 123, descriptorIndex := 124, attributes := #[] }, { accessFlags := 25, nameIndex := 130, descriptorIndex := 124, attributes := #[] }, { accessFlags := 25, nameIndex := 136, descriptorIndex := 124, attributes := #[] }])
  fields := #[{ name := "SIOOBE_FORMATTER", type := (.object "java/util/function/BiFunction"), accessFlags := 25, slot := 0, constantValue := 0 }, { name := "AIOOBE_FORMATTER", type := (.object "java/util/function/BiFunction"), accessFlags := 25, slot := 1, constantValue := 0 }, { name := "IOOBE_FORMATTER", type := (.object "java/util/function/BiFunction"), accessFlags := 25, slot := 2, constantValue := 0 }]
  methods := #[k18m0, k18m1]
  instanceTypes := #[]
  staticTypes := #[(.object "java/util/function/BiFunction"), (.object "java/util/function/BiFunction"), (.object "java/util/function/BiFunction")]
  resolved := Array.replicate 194 none
  statics := some 2 }

def pool19 : Array CpInfo := pool [(6, .class_ 8), (1, u "java/lang/Object"), (0, u "<init>"), (0, u "()V"), (1, .class_ 14), (1, u "java/lang/StringUTF16"), (31, u "$assertionsDisabled"), (0, u "Z"), (13, u "HI_BYTE_SHIFT"), (0, u "I"), (2, u "LO_BYTE_SHIFT"), (49, .methodref 12 116), (0, .nameAndType 117 118), (0, u "compress"), (0, u "([CI[BII)I"), (3, u "([CII)[B"), (138, u "coderFromArrayLen"), (0, u "([BI)B"), (106, .class_ 371), (1, u "java/lang/StringUTF16$LinesSpliterator"), (58, u "MAX_LENGTH"), (196, .class_ 628), (0, u "java/lang/StringUTF16$CodePointsSpliterator"), (0, .class_ 630), (0, u "java/lang/StringUTF16$CharsSpliterator")] 4

def k19m0 : Method := { name := "<init>", desc := "()V", sig := { parameters := [], returnType := none }, accessFlags := 0, code := none }
def k19c1 : Code := { maxStack := 2, maxLocals := 2, code := jdk_52_method_15_code, exceptionTable := #[], attributes := #[] }
def k19m1 : Method := { name := "coderFromArrayLen", desc := "([BI)B", sig := { parameters := [(.array .byte), .int], returnType := some .byte }, accessFlags := 8, code := some k19c1 }
def k19c2 : Code := { maxStack := 5, maxLocals := 6, code := jdk_52_method_16_code, exceptionTable := #[], attributes := #[] }
def k19m2 : Method := { name := "compress", desc := "([CII)[B", sig := { parameters := [(.array .char), .int, .int], returnType := some (.array .byte) }, accessFlags := 9, code := some k19c2 }
def k19c3 : Code := { maxStack := 3, maxLocals := 7, code := jdk_52_method_21_code, exceptionTable := #[], attributes := #[] }
def k19m3 : Method := { name := "compress", desc := "([CI[BII)I", sig := { parameters := [(.array .char), .int, (.array .byte), .int, .int], returnType := some .int }, accessFlags := 9, code := some k19c3 }
/-- java/lang/StringUTF16 -/
def k19 : Class := { plain "java/lang/StringUTF16" (some 0) with
  accessFlags := 48
  interfaces := #[]
  cf := some (fileOf pool19 12 #[.nestMembers #[627, 629, 369]] #[{ accessFlags := 0, nameIndex := 9, descriptorIndex := 10, attributes := #[] }, { accessFlags := 8, nameIndex := 261, descriptorIndex := 262, attributes := #[] }, { accessFlags := 9, nameIndex := 117, descriptorIndex := 122, attributes := #[] }, { accessFlags := 9, nameIndex := 117, descriptorIndex := 118, attributes := #[] }] 48 6 #[] #[{ accessFlags := 26, nameIndex := 61, descriptorIndex := 62, attributes := #[] }, { accessFlags := 26, nameIndex := 65, descriptorIndex := 62, attributes := #[] }, { accessFlags := 24, nameIndex := 430, descriptorIndex := 62, attributes := #[] }, { accessFlags := 4120, nameIndex := 46, descriptorIndex := 47, attributes := #[] }])
  fields := #[{ name := "HI_BYTE_SHIFT", type := .int, accessFlags := 26, slot := 0, constantValue := 0 }, { name := "LO_BYTE_SHIFT", type := .int, accessFlags := 26, slot := 1, constantValue := 0 }, { name := "MAX_LENGTH", type := .int, accessFlags := 24, slot := 2, constantValue := 0 }, { name := "$assertionsDisabled", type := .boolean, accessFlags := 4120, slot := 3, constantValue := 0 }]
  methods := #[k19m0, k19m1, k19m2, k19m3]
  instanceTypes := #[]
  staticTypes := #[.int, .int, .int, .boolean]
  resolved := Array.replicate 635 none
  statics := none }

def pool20 : Array CpInfo := pool [(9, u "<init>"), (6, .class_ 18), (1, u "java/lang/Object"), (0, u "()V"), (1, .class_ 23), (1, u "jdk/internal/util/ArraysSupport"), (0, u "LOG2_ARRAY_LONG_INDEX_SCALE"), (0, u "I"), (2, u "U"), (0, u "Ljdk/internal/misc/Unsafe;"), (8, u "BIG_ENDIAN"), (0, u "Z"), (8, u "LOG2_BYTE_BIT_SIZE"), (4, u "LOG2_ARRAY_INT_INDEX_SCALE"), (54, u "JLA"), (0, u "Ljdk/internal/access/JavaLangAccess;"), (11, u "LOG2_ARRAY_BOOLEAN_INDEX_SCALE"), (9, u "LOG2_ARRAY_BYTE_INDEX_SCALE"), (5, u "LOG2_ARRAY_CHAR_INDEX_SCALE"), (5, u "LOG2_ARRAY_SHORT_INDEX_SCALE"), (18, u "LOG2_ARRAY_FLOAT_INDEX_SCALE"), (24, u "LOG2_ARRAY_DOUBLE_INDEX_SCALE"), (6, .methodref 195 196), (0, .class_ 197), (0, .nameAndType 198 199), (0, u "java/lang/Math"), (0, u "max"), (0, u "(II)I"), (0, .integer 2147483639), (76, u "T_BOOLEAN"), (2, u "T_CHAR"), (1, u "T_FLOAT"), (1, u "T_DOUBLE"), (1, u "T_BYTE"), (1, u "T_SHORT"), (1, u "T_INT"), (1, u "T_LONG"), (1, u "SOFT_MAX_ARRAY_LENGTH"), (56, u "newLength"), (0, u "(III)I")] 25

def k20m0 : Method := { name := "<init>", desc := "()V", sig := { parameters := [], returnType := none }, accessFlags := 2, code := none }
def k20c1 : Code := { maxStack := 3, maxLocals := 4, code := jdk_48_method_27_code, exceptionTable := #[], attributes := #[] }
def k20m1 : Method := { name := "newLength", desc := "(III)I", sig := { parameters := [.int, .int, .int], returnType := some .int }, accessFlags := 9, code := some k20c1 }
/-- jdk/internal/util/ArraysSupport -/
def k20 : Class := { plain "jdk/internal/util/ArraysSupport" (some 0) with
  accessFlags := 33
  interfaces := #[]
  cf := some (fileOf pool20 21 #[] #[{ accessFlags := 2, nameIndex := 9, descriptorIndex := 19, attributes := #[] }, { accessFlags := 9, nameIndex := 351, descriptorIndex := 352, attributes := #[] }] 33 16 #[] #[{ accessFlags := 24, nameIndex := 28, descriptorIndex := 29, attributes := #[] }, { accessFlags := 26, nameIndex := 38, descriptorIndex := 39, attributes := #[] }, { accessFlags := 25, nameIndex := 121, descriptorIndex := 25, attributes := #[] }, { accessFlags := 25, nameIndex := 131, descriptorIndex := 25, attributes := #[] }, { accessFlags := 25, nameIndex := 137, descriptorIndex := 25, attributes := #[] }, { accessFlags := 25, nameIndex := 143, descriptorIndex := 25, attributes := #[] }, { accessFlags := 25, nameIndex := 53, descriptorIndex := 25, attributes := #[] }, { accessFlags := 25, nameIndex := 24, descriptorIndex := 25, attributes := #[] }, { accessFlags := 25, nameIndex := 162, descriptorIndex := 25, attributes := #[] }, { accessFlags := 25, nameIndex := 187, descriptorIndex := 25, attributes := #[] }, { accessFlags := 26, nameIndex := 48, descriptorIndex := 25, attributes := #[] }, { accessFlags := 25, nameIndex := 277, descriptorIndex := 25, attributes := #[] }, { accessFlags := 25, nameIndex := 280, descriptorIndex := 25, attributes := #[] }, { accessFlags := 25, nameIndex := 282, descriptorIndex := 25, attributes := #[] }, { accessFlags := 25, nameIndex := 284, descriptorIndex := 25, attributes := #[] }, { accessFlags := 25, nameIndex := 286, descriptorIndex := 25, attributes := #[] }, { accessFlags := 25, nameIndex := 288, descriptorIndex := 25, attributes := #[] }, { accessFlags := 25, nameIndex := 290, descriptorIndex := 25, attributes := #[] }, { accessFlags := 25, nameIndex := 292, descriptorIndex := 25, attributes := #[] }, { accessFlags := 26, nameIndex := 108, descriptorIndex := 109, attributes := #[] }, { accessFlags := 25, nameIndex := 294, descriptorIndex := 25, attributes := #[] }])
  fields := #[{ name := "U", type := (.object "jdk/internal/misc/Unsafe"), accessFlags := 24, slot := 0, constantValue := 0 }, { name := "BIG_ENDIAN", type := .boolean, accessFlags := 26, slot := 1, constantValue := 0 }, { name := "LOG2_ARRAY_BOOLEAN_INDEX_SCALE", type := .int, accessFlags := 25, slot := 2, constantValue := 0 }, { name := "LOG2_ARRAY_BYTE_INDEX_SCALE", type := .int, accessFlags := 25, slot := 3, constantValue := 0 }, { name := "LOG2_ARRAY_CHAR_INDEX_SCALE", type := .int, accessFlags := 25, slot := 4, constantValue := 0 }, { name := "LOG2_ARRAY_SHORT_INDEX_SCALE", type := .int, accessFlags := 25, slot := 5, constantValue := 0 }, { name := "LOG2_ARRAY_INT_INDEX_SCALE", type := .int, accessFlags := 25, slot := 6, constantValue := 0 }, { name := "LOG2_ARRAY_LONG_INDEX_SCALE", type := .int, accessFlags := 25, slot := 7, constantValue := 0 }, { name := "LOG2_ARRAY_FLOAT_INDEX_SCALE", type := .int, accessFlags := 25, slot := 8, constantValue := 0 }, { name := "LOG2_ARRAY_DOUBLE_INDEX_SCALE", type := .int, accessFlags := 25, slot := 9, constantValue := 0 }, { name := "LOG2_BYTE_BIT_SIZE", type := .int, accessFlags := 26, slot := 10, constantValue := 0 }, { name := "T_BOOLEAN", type := .int, accessFlags := 25, slot := 11, constantValue := 0 }, { name := "T_CHAR", type := .int, accessFlags := 25, slot := 12, constantValue := 0 }, { name := "T_FLOAT", type := .int, accessFlags := 25, slot := 13, constantValue := 0 }, { name := "T_DOUBLE", type := .int, accessFlags := 25, slot := 14, constantValue := 0 }, { name := "T_BYTE", type := .int, accessFlags := 25, slot := 15, constantValue := 0 }, { name := "T_SHORT", type := .int, accessFlags := 25, slot := 16, constantValue := 0 }, { name := "T_INT", type := .int, accessFlags := 25, slot := 17, constantValue := 0 }, { name := "T_LONG", type := .int, accessFlags := 25, slot := 18, constantValue := 0 }, { name := "JLA", type := (.object "jdk/internal/access/JavaLangAccess"), accessFlags := 26, slot := 19, constantValue := 0 }, { name := "SOFT_MAX_ARRAY_LENGTH", type := .int, accessFlags := 25, slot := 20, constantValue := 0 }]
  methods := #[k20m0, k20m1]
  instanceTypes := #[]
  staticTypes := #[(.object "jdk/internal/misc/Unsafe"), .boolean, .int, .int, .int, .int, .int, .int, .int, .int, .int, .int, .int, .int, .int, .int, .int, .int, .int, (.object "jdk/internal/access/JavaLangAccess"), .int]
  resolved := Array.replicate 378 none
  statics := none }

def pool21 : Array CpInfo := pool [(1, .class_ 2), (0, u "java/lang/Cloneable"), (0, .class_ 4), (0, u "java/lang/Object")] 2

/-- java/lang/Cloneable -/
def k21 : Class := { plain "java/lang/Cloneable" (some 0) with
  accessFlags := 1537
  interfaces := #[]
  cf := some (fileOf pool21 1 #[] #[] 1537 3 #[] #[])
  fields := #[]
  methods := #[]
  instanceTypes := #[]
  staticTypes := #[]
  resolved := Array.replicate 7 none
  statics := none }

/-- the primitive byte -/
def k22 : Class := { plain "byte" none with kind := .primitive 'B', accessFlags := 0x411 }
/-- [B -/
def k23 : Class := { plain "[B" (some 0) with kind := .array 22 .byte, interfaces := #[21, 2], accessFlags := 1041 }

/-- the primitive char -/
def k24 : Class := { plain "char" none with kind := .primitive 'C', accessFlags := 0x411 }
/-- [C -/
def k25 : Class := { plain "[C" (some 0) with kind := .array 24 .char, interfaces := #[21, 2], accessFlags := 1041 }

/-- the primitive int -/
def k26 : Class := { plain "int" none with kind := .primitive 'I', accessFlags := 0x411 }
/-- [I -/
def k27 : Class := { plain "[I" (some 0) with kind := .array 26 .int, interfaces := #[21, 2], accessFlags := 1041 }

def heap : Heap := #[{ cls := 7, slots := #[.long 0, .int 1, .null, .int 0, .null, .int 0, .int 0], vm := .statics 7 },
  { cls := 14, slots := #[.int 0, .int 0, .null, .null, .ref 4, .ref 3, .int 0, .int 0, .long 0], vm := .statics 14 },
  { cls := 18, slots := #[.null, .null, .null], vm := .statics 18 },
  { cls := 23, slots := #[.int 48, .int 49, .int 50, .int 51, .int 52, .int 53, .int 54, .int 55, .int 56, .int 57, .int 48, .int 49, .int 50, .int 51, .int 52, .int 53, .int 54, .int 55, .int 56, .int 57, .int 48, .int 49, .int 50, .int 51, .int 52, .int 53, .int 54, .int 55, .int 56, .int 57, .int 48, .int 49, .int 50, .int 51, .int 52, .int 53, .int 54, .int 55, .int 56, .int 57, .int 48, .int 49, .int 50, .int 51, .int 52, .int 53, .int 54, .int 55, .int 56, .int 57, .int 48, .int 49, .int 50, .int 51, .int 52, .int 53, .int 54, .int 55, .int 56, .int 57, .int 48, .int 49, .int 50, .int 51, .int 52, .int 53, .int 54, .int 55, .int 56, .int 57, .int 48, .int 49, .int 50, .int 51, .int 52, .int 53, .int 54, .int 55, .int 56, .int 57, .int 48, .int 49, .int 50, .int 51, .int 52, .int 53, .int 54, .int 55, .int 56, .int 57, .int 48, .int 49, .int 50, .int 51, .int 52, .int 53, .int 54, .int 55, .int 56, .int 57], vm := .none },
  { cls := 23, slots := #[.int 48, .int 48, .int 48, .int 48, .int 48, .int 48, .int 48, .int 48, .int 48, .int 48, .int 49, .int 49, .int 49, .int 49, .int 49, .int 49, .int 49, .int 49, .int 49, .int 49, .int 50, .int 50, .int 50, .int 50, .int 50, .int 50, .int 50, .int 50, .int 50, .int 50, .int 51, .int 51, .int 51, .int 51, .int 51, .int 51, .int 51, .int 51, .int 51, .int 51, .int 52, .int 52, .int 52, .int 52, .int 52, .int 52, .int 52, .int 52, .int 52, .int 52, .int 53, .int 53, .int 53, .int 53, .int 53, .int 53, .int 53, .int 53, .int 53, .int 53, .int 54, .int 54, .int 54, .int 54, .int 54, .int 54, .int 54, .int 54, .int 54, .int 54, .int 55, .int 55, .int 55, .int 55, .int 55, .int 55, .int 55, .int 55, .int 55, .int 55, .int 56, .int 56, .int 56, .int 56, .int 56, .int 56, .int 56, .int 56, .int 56, .int 56, .int 57, .int 57, .int 57, .int 57, .int 57, .int 57, .int 57, .int 57, .int 57, .int 57], vm := .none }]
def classes : Array Class := #[k0, k1, k2, k3, k4, k5, k6, k7, k8, k9, k10, k11, k12, k13, k14, k15, k16, k17, k18, k19, k20, k21, k22, k23, k24, k25, k26, k27]
def interned : List (Array UInt16 × Addr) := []
def slotsUsed : Nat := 219
def theMethod : MethodId := ⟨1, 1⟩
def args0 : Array Value := #[.int 5, .int 7, .int 300, .int 9, .int 120, .int 77]
def aboutOver (below : List Frame) : State where
  vm := { classes := classes, interned := interned.toArray }
  heap := heap
  slotsUsed := slotsUsed
  threads := #[{ frames := .invoking theMethod args0 :: below }]
def below0 : List Frame := [.native { method := ⟨0, 0⟩, args := #[] }]
def about1 : State := aboutOver below0
def p0 : Program := .bare "" "" ""
def e0 : Env := launch0.env 0 0 0
theorem w_frames : about1.frames = Frame.invoking theMethod args0 :: below0 := rfl
set_option maxRecDepth 65536 in
theorem w_args : argsFit about1.vm theMethod args0 = true := by decide +kernel
set_option maxRecDepth 65536 in
theorem w_heap : heapFits about1 = true := by decide +kernel
set_option maxRecDepth 65536 in
theorem w_runnable : about1.curStatus? = some .runnable := by decide +kernel
set_option maxRecDepth 65536 in
theorem w_alone : about1.alone = true := by decide +kernel
set_option maxRecDepth 65536 in
theorem w_named : about1.methodNamed? x = some theMethod := by decide +kernel
set_option maxRecDepth 65536 in
theorem w_hears : about1.hears theMethod below0 = true := by decide +kernel
set_option maxRecDepth 65536 in
theorem w_ripe : about1.ripe theMethod args0 below0 = true := by decide +kernel
theorem w_running : about1.status = .running := rfl
set_option maxRecDepth 65536 in
theorem w_room : about1.hasRoom e0.platform room_1 = true :=
  launch0.hasRoom_least _ room_1 (by decide +kernel) (by decide +kernel) (by decide +kernel) (by decide +kernel) (by decide +kernel) (by decide +kernel)
theorem allAtoms_all (ts : List Jvm.Cond) (a : Array Jvm.Value) (st : Jvm.State) : (allAtoms ts).before a st = ts.all (fun c => c.before a st) := by
  induction ts with
  | nil => rfl
  | cons c t ih =>
    show (Jvm.Cond.and c (allAtoms t)).before a st = _
    rw [Jvm.Cond.before_and, ih, List.all_cons]
def words1 : List Jvm.Cond := Jvm.Cond.code x code maxLocals ret :: tables_1
/-- a 'code' word, met by the world's own term for the bytes: nothing is compared byte by byte -/
theorem code_word {y : MethodName} {bytes : ByteArray} {mx : Nat} {rt : Option FieldType} {a : Array Value} {s : State} {m : MethodId} {meth : Method} {c : Code} (h1 : s.methodNamed? y = some m) (h2 : s.vm.method? m = some meth) (h3 : meth.code = some c) (h4 : c.code = bytes)
    (h5 : (c.maxLocals == mx && c.exceptionTable.isEmpty && decide (c.maxStack ≤ mostOperands) && decide (meth.sig.returnType = rt) && !meth.locks && decide (parseMethodDescriptor y.desc = some meth.sig)) = true) : (Jvm.Cond.code y bytes mx rt).before a s = true := by
  simp only [Bool.and_eq_true, beq_iff_eq, Bool.not_eq_true', decide_eq_true_eq] at h5
  obtain ⟨⟨⟨⟨⟨g1, g2⟩, g3⟩, g4⟩, g5⟩, g6⟩ := h5
  simp [Cond.before, Cond.holds, Cond.value, h1, h2, h3, h4, g1, g2, g3, g4, g5, g6]
def isCode : Jvm.Cond → Bool
  | .code _ _ _ _ => true
  | _ => false
theorem all_split {L : List Jvm.Cond} {P : Jvm.Cond → Bool} (h1 : L.all (fun c => isCode c || P c) = true) (h2 : ∀ c ∈ L.filter isCode, P c = true) : L.all P = true := by
  refine List.all_eq_true.mpr fun c hc => ?_
  have h := List.all_eq_true.mp h1 c hc
  rcases Bool.eq_false_or_eq_true (isCode c) with hi | hi
  · exact h2 c (List.mem_filter.mpr ⟨hc, hi⟩)
  · simpa [hi] using h
set_option maxRecDepth 65536 in
theorem w_c0 : (Jvm.Cond.code x code maxLocals ret).before args0 about1 = true := code_word (m := ⟨1, 1⟩) (meth := k1m1) (c := k1c1) (by decide +kernel) rfl rfl rfl (by decide +kernel)
set_option maxRecDepth 65536 in
theorem w_c1 : (Jvm.Cond.code ({ cls := "com/example/frugal_ranker/frugalranker/TrecRunLinePinLaw", name := "str", desc := "(II)Ljava/lang/String;" } : Jvm.MethodName) method_3_code (4 : Nat) (Option.some (Jvm.ClassFile.FieldType.object "java/lang/String"))).before args0 about1 = true := code_word (m := ⟨1, 2⟩) (meth := k1m2) (c := k1c2) (by decide +kernel) rfl rfl rfl (by decide +kernel)
set_option maxRecDepth 65536 in
theorem w_c2 : (Jvm.Cond.code ({ cls := "java/lang/String", name := "<init>", desc := "([C)V" } : Jvm.MethodName) jdk_42_method_3_code (2 : Nat) (Option.none : Option Jvm.ClassFile.FieldType)).before args0 about1 = true := code_word (m := ⟨7, 1⟩) (meth := k7m1) (c := k7c1) (by decide +kernel) rfl rfl rfl (by decide +kernel)
set_option maxRecDepth 65536 in
theorem w_c3 : (Jvm.Cond.code ({ cls := "java/lang/String", name := "<init>", desc := "([CIILjava/lang/Void;)V" } : Jvm.MethodName) jdk_42_method_149_code (6 : Nat) (Option.none : Option Jvm.ClassFile.FieldType)).before args0 about1 = true := code_word (m := ⟨7, 6⟩) (meth := k7m6) (c := k7c6) (by decide +kernel) rfl rfl rfl (by decide +kernel)
set_option maxRecDepth 65536 in
theorem w_c4 : (Jvm.Cond.code ({ cls := "java/lang/Object", name := "<init>", desc := "()V" } : Jvm.MethodName) object_method_1_code (1 : Nat) (Option.none : Option Jvm.ClassFile.FieldType)).before args0 about1 = true := code_word (m := ⟨0, 0⟩) (meth := k0m0) (c := k0c0) (by decide +kernel) rfl rfl rfl (by decide +kernel)
set_option maxRecDepth 65536 in
theorem w_c5 : (Jvm.Cond.code ({ cls := "com/example/frugal_ranker/frugalranker/TrecRun", name := "line", desc := "(Ljava/lang/String;Ljava/lang/String;ILjava/lang/String;Ljava/lang/String;)Ljava/lang/String;" } : Jvm.MethodName) prog_88_method_3_code (5 : Nat) (Option.some (Jvm.ClassFile.FieldType.object "java/lang/String"))).before args0 about1 = true := code_word (m := ⟨8, 1⟩) (meth := k8m1) (c := k8c1) (by decide +kernel) rfl rfl rfl (by decide +kernel)
set_option maxRecDepth 65536 in
theorem w_c6 : (Jvm.Cond.code ({ cls := "java/lang/StringBuilder", name := "<init>", desc := "()V" } : Jvm.MethodName) jdk_67_method_1_code (1 : Nat) (Option.none : Option Jvm.ClassFile.FieldType)).before args0 about1 = true := code_word (m := ⟨11, 0⟩) (meth := k11m0) (c := k11c0) (by decide +kernel) rfl rfl rfl (by decide +kernel)
set_option maxRecDepth 65536 in
theorem w_c7 : (Jvm.Cond.code ({ cls := "java/lang/AbstractStringBuilder", name := "<init>", desc := "(I)V" } : Jvm.MethodName) jdk_68_method_2_code (2 : Nat) (Option.none : Option Jvm.ClassFile.FieldType)).before args0 about1 = true := code_word (m := ⟨10, 1⟩) (meth := k10m1) (c := k10c1) (by decide +kernel) rfl rfl rfl (by decide +kernel)
set_option maxRecDepth 65536 in
theorem w_c8 : (Jvm.Cond.code ({ cls := "java/lang/StringBuilder", name := "append", desc := "(Ljava/lang/String;)Ljava/lang/StringBuilder;" } : Jvm.MethodName) jdk_67_method_7_code (2 : Nat) (Option.some (Jvm.ClassFile.FieldType.object "java/lang/StringBuilder"))).before args0 about1 = true := code_word (m := ⟨11, 1⟩) (meth := k11m1) (c := k11c1) (by decide +kernel) rfl rfl rfl (by decide +kernel)
set_option maxRecDepth 65536 in
theorem w_c9 : (Jvm.Cond.code ({ cls := "java/lang/AbstractStringBuilder", name := "append", desc := "(Ljava/lang/String;)Ljava/lang/AbstractStringBuilder;" } : Jvm.MethodName) jdk_68_method_22_code (3 : Nat) (Option.some (Jvm.ClassFile.FieldType.object "java/lang/AbstractStringBuilder"))).before args0 about1 = true := code_word (m := ⟨10, 5⟩) (meth := k10m5) (c := k10c5) (by decide +kernel) rfl rfl rfl (by decide +kernel)
set_option maxRecDepth 65536 in
theorem w_c10 : (Jvm.Cond.code ({ cls := "java/lang/String", name := "length", desc := "()I" } : Jvm.MethodName) jdk_42_method_54_code (1 : Nat) (Option.some Jvm.ClassFile.FieldType.int)).before args0 about1 = true := code_word (m := ⟨7, 3⟩) (meth := k7m3) (c := k7c3) (by decide +kernel) rfl rfl rfl (by decide +kernel)
set_option maxRecDepth 65536 in
theorem w_c11 : (Jvm.Cond.code ({ cls := "java/lang/String", name := "coder", desc := "()B" } : Jvm.MethodName) jdk_42_method_152_code (1 : Nat) (Option.some Jvm.ClassFile.FieldType.byte)).before args0 about1 = true := code_word (m := ⟨7, 8⟩) (meth := k7m8) (c := k7c8) (by decide +kernel) rfl rfl rfl (by decide +kernel)
set_option maxRecDepth 65536 in
theorem w_c12 : (Jvm.Cond.code ({ cls := "java/lang/AbstractStringBuilder", name := "ensureCapacityInternal", desc := "(I)V" } : Jvm.MethodName) jdk_68_method_9_code (3 : Nat) (Option.none : Option Jvm.ClassFile.FieldType)).before args0 about1 = true := code_word (m := ⟨10, 3⟩) (meth := k10m3) (c := k10c3) (by decide +kernel) rfl rfl rfl (by decide +kernel)
set_option maxRecDepth 65536 in
theorem w_c13 : (Jvm.Cond.code ({ cls := "java/lang/AbstractStringBuilder", name := "putStringAt", desc := "(ILjava/lang/String;)V" } : Jvm.MethodName) jdk_68_method_73_code (3 : Nat) (Option.none : Option Jvm.ClassFile.FieldType)).before args0 about1 = true := code_word (m := ⟨10, 10⟩) (meth := k10m10) (c := k10c10) (by decide +kernel) rfl rfl rfl (by decide +kernel)
set_option maxRecDepth 65536 in
theorem w_c14 : (Jvm.Cond.code ({ cls := "java/lang/AbstractStringBuilder", name := "inflateIfNeededFor", desc := "(Ljava/lang/String;)V" } : Jvm.MethodName) jdk_68_method_71_code (2 : Nat) (Option.none : Option Jvm.ClassFile.FieldType)).before args0 about1 = true := code_word (m := ⟨10, 9⟩) (meth := k10m9) (c := k10c9) (by decide +kernel) rfl rfl rfl (by decide +kernel)
set_option maxRecDepth 65536 in
theorem w_c15 : (Jvm.Cond.code ({ cls := "java/lang/String", name := "getBytes", desc := "([BIB)V" } : Jvm.MethodName) jdk_42_method_147_code (4 : Nat) (Option.none : Option Jvm.ClassFile.FieldType)).before args0 about1 = true := code_word (m := ⟨7, 5⟩) (meth := k7m5) (c := k7c5) (by decide +kernel) rfl rfl rfl (by decide +kernel)
set_option maxRecDepth 65536 in
theorem w_c16 : (Jvm.Cond.code ({ cls := "java/lang/StringBuilder", name := "append", desc := "(I)Ljava/lang/StringBuilder;" } : Jvm.MethodName) jdk_67_method_15_code (2 : Nat) (Option.some (Jvm.ClassFile.FieldType.object "java/lang/StringBuilder"))).before args0 about1 = true := code_word (m := ⟨11, 2⟩) (meth := k11m2) (c := k11c2) (by decide +kernel) rfl rfl rfl (by decide +kernel)
set_option maxRecDepth 65536 in
theorem w_c17 : (Jvm.Cond.code ({ cls := "java/lang/AbstractStringBuilder", name := "append", desc := "(I)Ljava/lang/AbstractStringBuilder;" } : Jvm.MethodName) jdk_68_method_32_code (4 : Nat) (Option.some (Jvm.ClassFile.FieldType.object "java/lang/AbstractStringBuilder"))).before args0 about1 = true := code_word (m := ⟨10, 6⟩) (meth := k10m6) (c := k10c6) (by decide +kernel) rfl rfl rfl (by decide +kernel)
set_option maxRecDepth 65536 in
theorem w_c18 : (Jvm.Cond.code ({ cls := "java/lang/Integer", name := "stringSize", desc := "(I)I" } : Jvm.MethodName) jdk_33_method_13_code (4 : Nat) (Option.some Jvm.ClassFile.FieldType.int)).before args0 about1 = true := code_word (m := ⟨14, 1⟩) (meth := k14m1) (c := k14c1) (by decide +kernel) rfl rfl rfl (by decide +kernel)
set_option maxRecDepth 65536 in
theorem w_c19 : (Jvm.Cond.code ({ cls := "java/lang/AbstractStringBuilder", name := "isLatin1", desc := "()Z" } : Jvm.MethodName) jdk_68_method_68_code (1 : Nat) (Option.some Jvm.ClassFile.FieldType.boolean)).before args0 about1 = true := code_word (m := ⟨10, 8⟩) (meth := k10m8) (c := k10c8) (by decide +kernel) rfl rfl rfl (by decide +kernel)
set_option maxRecDepth 65536 in
theorem w_c20 : (Jvm.Cond.code ({ cls := "java/lang/Integer", name := "getChars", desc := "(II[B)I" } : Jvm.MethodName) jdk_33_method_12_code (7 : Nat) (Option.some Jvm.ClassFile.FieldType.int)).before args0 about1 = true := code_word (m := ⟨14, 0⟩) (meth := k14m0) (c := k14c0) (by decide +kernel) rfl rfl rfl (by decide +kernel)
set_option maxRecDepth 65536 in
theorem w_c21 : (Jvm.Cond.code ({ cls := "java/lang/StringBuilder", name := "toString", desc := "()Ljava/lang/String;" } : Jvm.MethodName) jdk_67_method_42_code (1 : Nat) (Option.some (Jvm.ClassFile.FieldType.object "java/lang/String"))).before args0 about1 = true := code_word (m := ⟨11, 3⟩) (meth := k11m3) (c := k11c3) (by decide +kernel) rfl rfl rfl (by decide +kernel)
set_option maxRecDepth 65536 in
theorem w_c22 : (Jvm.Cond.code ({ cls := "java/lang/String", name := "<init>", desc := "(Ljava/lang/StringBuilder;)V" } : Jvm.MethodName) jdk_42_method_53_code (2 : Nat) (Option.none : Option Jvm.ClassFile.FieldType)).before args0 about1 = true := code_word (m := ⟨7, 2⟩) (meth := k7m2) (c := k7c2) (by decide +kernel) rfl rfl rfl (by decide +kernel)
set_option maxRecDepth 65536 in
theorem w_c23 : (Jvm.Cond.code ({ cls := "java/lang/String", name := "<init>", desc := "(Ljava/lang/AbstractStringBuilder;Ljava/lang/Void;)V" } : Jvm.MethodName) jdk_42_method_150_code (5 : Nat) (Option.none : Option Jvm.ClassFile.FieldType)).before args0 about1 = true := code_word (m := ⟨7, 7⟩) (meth := k7m7) (c := k7c7) (by decide +kernel) rfl rfl rfl (by decide +kernel)
set_option maxRecDepth 65536 in
theorem w_c24 : (Jvm.Cond.code ({ cls := "java/lang/AbstractStringBuilder", name := "getValue", desc := "()[B" } : Jvm.MethodName) jdk_68_method_64_code (1 : Nat) (Option.some (Jvm.ClassFile.FieldType.array Jvm.ClassFile.FieldType.byte))).before args0 about1 = true := code_word (m := ⟨10, 7⟩) (meth := k10m7) (c := k10c7) (by decide +kernel) rfl rfl rfl (by decide +kernel)
set_option maxRecDepth 65536 in
theorem w_c25 : (Jvm.Cond.code ({ cls := "java/lang/StringBuilder", name := "length", desc := "()I" } : Jvm.MethodName) jdk_67_method_93_code (1 : Nat) (Option.some Jvm.ClassFile.FieldType.int)).before args0 about1 = true := code_word (m := ⟨11, 4⟩) (meth := k11m4) (c := k11c4) (by decide +kernel) rfl rfl rfl (by decide +kernel)
set_option maxRecDepth 65536 in
theorem w_c26 : (Jvm.Cond.code ({ cls := "java/lang/AbstractStringBuilder", name := "length", desc := "()I" } : Jvm.MethodName) jdk_68_method_6_code (1 : Nat) (Option.some Jvm.ClassFile.FieldType.int)).before args0 about1 = true := code_word (m := ⟨10, 2⟩) (meth := k10m2) (c := k10c2) (by decide +kernel) rfl rfl rfl (by decide +kernel)
set_option maxRecDepth 65536 in
theorem w_c27 : (Jvm.Cond.code ({ cls := "java/util/Arrays", name := "copyOfRange", desc := "([BII)[B" } : Jvm.MethodName) jdk_65_method_132_code (3 : Nat) (Option.some (Jvm.ClassFile.FieldType.array Jvm.ClassFile.FieldType.byte))).before args0 about1 = true := code_word (m := ⟨15, 3⟩) (meth := k15m3) (c := k15c3) (by decide +kernel) rfl rfl rfl (by decide +kernel)
set_option maxRecDepth 65536 in
theorem w_c28 : (Jvm.Cond.code ({ cls := "java/util/Arrays", name := "copyOfRangeByte", desc := "([BII)[B" } : Jvm.MethodName) jdk_65_method_133_code (5 : Nat) (Option.some (Jvm.ClassFile.FieldType.array Jvm.ClassFile.FieldType.byte))).before args0 about1 = true := code_word (m := ⟨15, 4⟩) (meth := k15m4) (c := k15c4) (by decide +kernel) rfl rfl rfl (by decide +kernel)
set_option maxRecDepth 65536 in
theorem w_c29 : (Jvm.Cond.code ({ cls := "java/util/Arrays", name := "checkLength", desc := "(II)V" } : Jvm.MethodName) jdk_65_method_131_code (2 : Nat) (Option.none : Option Jvm.ClassFile.FieldType)).before args0 about1 = true := code_word (m := ⟨15, 2⟩) (meth := k15m2) (c := k15c2) (by decide +kernel) rfl rfl rfl (by decide +kernel)
set_option maxRecDepth 65536 in
theorem w_c30 : (Jvm.Cond.code ({ cls := "java/lang/Math", name := "min", desc := "(II)I" } : Jvm.MethodName) jdk_29_method_69_code (2 : Nat) (Option.some Jvm.ClassFile.FieldType.int)).before args0 about1 = true := code_word (m := ⟨16, 3⟩) (meth := k16m3) (c := k16c3) (by decide +kernel) rfl rfl rfl (by decide +kernel)
set_option maxRecDepth 65536 in
theorem w_c31 : (Jvm.Cond.code ({ cls := "java/lang/Math", name := "abs", desc := "(J)J" } : Jvm.MethodName) jdk_29_method_61_code (2 : Nat) (Option.some Jvm.ClassFile.FieldType.long)).before args0 about1 = true := code_word (m := ⟨16, 1⟩) (meth := k16m1) (c := k16c1) (by decide +kernel) rfl rfl rfl (by decide +kernel)
set_option maxRecDepth 65536 in
theorem w_c32 : (Jvm.Cond.code ({ cls := "com/example/frugal_ranker/frugalranker/TrecRunLinePinLaw", name := "same", desc := "(Ljava/lang/String;III)Z" } : Jvm.MethodName) method_4_code (6 : Nat) (Option.some Jvm.ClassFile.FieldType.boolean)).before args0 about1 = true := code_word (m := ⟨1, 3⟩) (meth := k1m3) (c := k1c3) (by decide +kernel) rfl rfl rfl (by decide +kernel)
set_option maxRecDepth 65536 in
theorem w_c33 : (Jvm.Cond.code ({ cls := "java/lang/String", name := "charAt", desc := "(I)C" } : Jvm.MethodName) jdk_42_method_56_code (2 : Nat) (Option.some Jvm.ClassFile.FieldType.char)).before args0 about1 = true := code_word (m := ⟨7, 4⟩) (meth := k7m4) (c := k7c4) (by decide +kernel) rfl rfl rfl (by decide +kernel)
set_option maxRecDepth 65536 in
theorem w_c34 : (Jvm.Cond.code ({ cls := "java/lang/String", name := "isLatin1", desc := "()Z" } : Jvm.MethodName) jdk_42_method_154_code (1 : Nat) (Option.some Jvm.ClassFile.FieldType.boolean)).before args0 about1 = true := code_word (m := ⟨7, 9⟩) (meth := k7m9) (c := k7c9) (by decide +kernel) rfl rfl rfl (by decide +kernel)
set_option maxRecDepth 65536 in
theorem w_c35 : (Jvm.Cond.code ({ cls := "java/lang/StringLatin1", name := "charAt", desc := "([BI)C" } : Jvm.MethodName) jdk_43_method_2_code (2 : Nat) (Option.some Jvm.ClassFile.FieldType.char)).before args0 about1 = true := code_word (m := ⟨17, 1⟩) (meth := k17m1) (c := k17c1) (by decide +kernel) rfl rfl rfl (by decide +kernel)
set_option maxRecDepth 65536 in
theorem w_c36 : (Jvm.Cond.code ({ cls := "java/lang/String", name := "checkIndex", desc := "(II)V" } : Jvm.MethodName) jdk_42_method_155_code (2 : Nat) (Option.none : Option Jvm.ClassFile.FieldType)).before args0 about1 = true := code_word (m := ⟨7, 10⟩) (meth := k7m10) (c := k7c10) (by decide +kernel) rfl rfl rfl (by decide +kernel)
set_option maxRecDepth 65536 in
theorem w_c37 : (Jvm.Cond.code ({ cls := "jdk/internal/util/Preconditions", name := "checkIndex", desc := "(IILjava/util/function/BiFunction;)I" } : Jvm.MethodName) jdk_41_method_11_code (3 : Nat) (Option.some Jvm.ClassFile.FieldType.int)).before args0 about1 = true := code_word (m := ⟨18, 1⟩) (meth := k18m1) (c := k18c1) (by decide +kernel) rfl rfl rfl (by decide +kernel)
set_option maxRecDepth 65536 in
theorem w_c38 : (Jvm.Cond.code ({ cls := "com/example/frugal_ranker/frugalranker/TrecRunLinePinLaw", name := "digit", desc := "(Ljava/lang/String;IJIIJ)Z" } : Jvm.MethodName) method_5_code (8 : Nat) (Option.some Jvm.ClassFile.FieldType.boolean)).before args0 about1 = true := code_word (m := ⟨1, 4⟩) (meth := k1m4) (c := k1c4) (by decide +kernel) rfl rfl rfl (by decide +kernel)
set_option maxRecDepth 65536 in
theorem w_c39 : (Jvm.Cond.code ({ cls := "java/lang/StringUTF16", name := "compress", desc := "([CII)[B" } : Jvm.MethodName) jdk_52_method_16_code (6 : Nat) (Option.some (Jvm.ClassFile.FieldType.array Jvm.ClassFile.FieldType.byte))).before args0 about1 = true := code_word (m := ⟨19, 2⟩) (meth := k19m2) (c := k19c2) (by decide +kernel) rfl rfl rfl (by decide +kernel)
set_option maxRecDepth 65536 in
theorem w_c40 : (Jvm.Cond.code ({ cls := "java/lang/StringUTF16", name := "compress", desc := "([CI[BII)I" } : Jvm.MethodName) jdk_52_method_21_code (7 : Nat) (Option.some Jvm.ClassFile.FieldType.int)).before args0 about1 = true := code_word (m := ⟨19, 3⟩) (meth := k19m3) (c := k19c3) (by decide +kernel) rfl rfl rfl (by decide +kernel)
set_option maxRecDepth 65536 in
theorem w_c41 : (Jvm.Cond.code ({ cls := "java/lang/StringUTF16", name := "coderFromArrayLen", desc := "([BI)B" } : Jvm.MethodName) jdk_52_method_15_code (2 : Nat) (Option.some Jvm.ClassFile.FieldType.byte)).before args0 about1 = true := code_word (m := ⟨19, 1⟩) (meth := k19m1) (c := k19c1) (by decide +kernel) rfl rfl rfl (by decide +kernel)
set_option maxRecDepth 65536 in
theorem w_c42 : (Jvm.Cond.code ({ cls := "java/lang/AbstractStringBuilder", name := "newCapacity", desc := "(I)I" } : Jvm.MethodName) jdk_68_method_10_code (6 : Nat) (Option.some Jvm.ClassFile.FieldType.int)).before args0 about1 = true := code_word (m := ⟨10, 4⟩) (meth := k10m4) (c := k10c4) (by decide +kernel) rfl rfl rfl (by decide +kernel)
set_option maxRecDepth 65536 in
theorem w_c43 : (Jvm.Cond.code ({ cls := "jdk/internal/util/ArraysSupport", name := "newLength", desc := "(III)I" } : Jvm.MethodName) jdk_48_method_27_code (4 : Nat) (Option.some Jvm.ClassFile.FieldType.int)).before args0 about1 = true := code_word (m := ⟨20, 1⟩) (meth := k20m1) (c := k20c1) (by decide +kernel) rfl rfl rfl (by decide +kernel)
set_option maxRecDepth 65536 in
theorem w_c44 : (Jvm.Cond.code ({ cls := "java/lang/Math", name := "max", desc := "(II)I" } : Jvm.MethodName) jdk_29_method_65_code (2 : Nat) (Option.some Jvm.ClassFile.FieldType.int)).before args0 about1 = true := code_word (m := ⟨16, 2⟩) (meth := k16m2) (c := k16c2) (by decide +kernel) rfl rfl rfl (by decide +kernel)
set_option maxRecDepth 65536 in
theorem w_c45 : (Jvm.Cond.code ({ cls := "java/util/Arrays", name := "copyOf", desc := "([BI)[B" } : Jvm.MethodName) jdk_65_method_121_code (3 : Nat) (Option.some (Jvm.ClassFile.FieldType.array Jvm.ClassFile.FieldType.byte))).before args0 about1 = true := code_word (m := ⟨15, 1⟩) (meth := k15m1) (c := k15c1) (by decide +kernel) rfl rfl rfl (by decide +kernel)
def codes1 : List Jvm.Cond := [Jvm.Cond.code x code maxLocals ret, Jvm.Cond.code ({ cls := "com/example/frugal_ranker/frugalranker/TrecRunLinePinLaw", name := "str", desc := "(II)Ljava/lang/String;" } : Jvm.MethodName) method_3_code (4 : Nat) (Option.some (Jvm.ClassFile.FieldType.object "java/lang/String")), Jvm.Cond.code ({ cls := "java/lang/String", name := "<init>", desc := "([C)V" } : Jvm.MethodName) jdk_42_method_3_code (2 : Nat) (Option.none : Option Jvm.ClassFile.FieldType), Jvm.Cond.code ({ cls := "java/lang/String", name := "<init>", desc := "([CIILjava/lang/Void;)V" } : Jvm.MethodName) jdk_42_method_149_code (6 : Nat) (Option.none : Option Jvm.ClassFile.FieldType), Jvm.Cond.code ({ cls := "java/lang/Object", name := "<init>", desc := "()V" } : Jvm.MethodName) object_method_1_code (1 : Nat) (Option.none : Option Jvm.ClassFile.FieldType), Jvm.Cond.code ({ cls := "com/example/frugal_ranker/frugalranker/TrecRun", name := "line", desc := "(Ljava/lang/String;Ljava/lang/String;ILjava/lang/String;Ljava/lang/String;)Ljava/lang/String;" } : Jvm.MethodName) prog_88_method_3_code (5 : Nat) (Option.some (Jvm.ClassFile.FieldType.object "java/lang/String")), Jvm.Cond.code ({ cls := "java/lang/StringBuilder", name := "<init>", desc := "()V" } : Jvm.MethodName) jdk_67_method_1_code (1 : Nat) (Option.none : Option Jvm.ClassFile.FieldType), Jvm.Cond.code ({ cls := "java/lang/AbstractStringBuilder", name := "<init>", desc := "(I)V" } : Jvm.MethodName) jdk_68_method_2_code (2 : Nat) (Option.none : Option Jvm.ClassFile.FieldType), Jvm.Cond.code ({ cls := "java/lang/StringBuilder", name := "append", desc := "(Ljava/lang/String;)Ljava/lang/StringBuilder;" } : Jvm.MethodName) jdk_67_method_7_code (2 : Nat) (Option.some (Jvm.ClassFile.FieldType.object "java/lang/StringBuilder")), Jvm.Cond.code ({ cls := "java/lang/AbstractStringBuilder", name := "append", desc := "(Ljava/lang/String;)Ljava/lang/AbstractStringBuilder;" } : Jvm.MethodName) jdk_68_method_22_code (3 : Nat) (Option.some (Jvm.ClassFile.FieldType.object "java/lang/AbstractStringBuilder")), Jvm.Cond.code ({ cls := "java/lang/String", name := "length", desc := "()I" } : Jvm.MethodName) jdk_42_method_54_code (1 : Nat) (Option.some Jvm.ClassFile.FieldType.int), Jvm.Cond.code ({ cls := "java/lang/String", name := "coder", desc := "()B" } : Jvm.MethodName) jdk_42_method_152_code (1 : Nat) (Option.some Jvm.ClassFile.FieldType.byte), Jvm.Cond.code ({ cls := "java/lang/AbstractStringBuilder", name := "ensureCapacityInternal", desc := "(I)V" } : Jvm.MethodName) jdk_68_method_9_code (3 : Nat) (Option.none : Option Jvm.ClassFile.FieldType), Jvm.Cond.code ({ cls := "java/lang/AbstractStringBuilder", name := "putStringAt", desc := "(ILjava/lang/String;)V" } : Jvm.MethodName) jdk_68_method_73_code (3 : Nat) (Option.none : Option Jvm.ClassFile.FieldType), Jvm.Cond.code ({ cls := "java/lang/AbstractStringBuilder", name := "inflateIfNeededFor", desc := "(Ljava/lang/String;)V" } : Jvm.MethodName) jdk_68_method_71_code (2 : Nat) (Option.none : Option Jvm.ClassFile.FieldType), Jvm.Cond.code ({ cls := "java/lang/String", name := "getBytes", desc := "([BIB)V" } : Jvm.MethodName) jdk_42_method_147_code (4 : Nat) (Option.none : Option Jvm.ClassFile.FieldType), Jvm.Cond.code ({ cls := "java/lang/StringBuilder", name := "append", desc := "(I)Ljava/lang/StringBuilder;" } : Jvm.MethodName) jdk_67_method_15_code (2 : Nat) (Option.some (Jvm.ClassFile.FieldType.object "java/lang/StringBuilder")), Jvm.Cond.code ({ cls := "java/lang/AbstractStringBuilder", name := "append", desc := "(I)Ljava/lang/AbstractStringBuilder;" } : Jvm.MethodName) jdk_68_method_32_code (4 : Nat) (Option.some (Jvm.ClassFile.FieldType.object "java/lang/AbstractStringBuilder")), Jvm.Cond.code ({ cls := "java/lang/Integer", name := "stringSize", desc := "(I)I" } : Jvm.MethodName) jdk_33_method_13_code (4 : Nat) (Option.some Jvm.ClassFile.FieldType.int), Jvm.Cond.code ({ cls := "java/lang/AbstractStringBuilder", name := "isLatin1", desc := "()Z" } : Jvm.MethodName) jdk_68_method_68_code (1 : Nat) (Option.some Jvm.ClassFile.FieldType.boolean), Jvm.Cond.code ({ cls := "java/lang/Integer", name := "getChars", desc := "(II[B)I" } : Jvm.MethodName) jdk_33_method_12_code (7 : Nat) (Option.some Jvm.ClassFile.FieldType.int), Jvm.Cond.code ({ cls := "java/lang/StringBuilder", name := "toString", desc := "()Ljava/lang/String;" } : Jvm.MethodName) jdk_67_method_42_code (1 : Nat) (Option.some (Jvm.ClassFile.FieldType.object "java/lang/String")), Jvm.Cond.code ({ cls := "java/lang/String", name := "<init>", desc := "(Ljava/lang/StringBuilder;)V" } : Jvm.MethodName) jdk_42_method_53_code (2 : Nat) (Option.none : Option Jvm.ClassFile.FieldType), Jvm.Cond.code ({ cls := "java/lang/String", name := "<init>", desc := "(Ljava/lang/AbstractStringBuilder;Ljava/lang/Void;)V" } : Jvm.MethodName) jdk_42_method_150_code (5 : Nat) (Option.none : Option Jvm.ClassFile.FieldType), Jvm.Cond.code ({ cls := "java/lang/AbstractStringBuilder", name := "getValue", desc := "()[B" } : Jvm.MethodName) jdk_68_method_64_code (1 : Nat) (Option.some (Jvm.ClassFile.FieldType.array Jvm.ClassFile.FieldType.byte)), Jvm.Cond.code ({ cls := "java/lang/StringBuilder", name := "length", desc := "()I" } : Jvm.MethodName) jdk_67_method_93_code (1 : Nat) (Option.some Jvm.ClassFile.FieldType.int), Jvm.Cond.code ({ cls := "java/lang/AbstractStringBuilder", name := "length", desc := "()I" } : Jvm.MethodName) jdk_68_method_6_code (1 : Nat) (Option.some Jvm.ClassFile.FieldType.int), Jvm.Cond.code ({ cls := "java/util/Arrays", name := "copyOfRange", desc := "([BII)[B" } : Jvm.MethodName) jdk_65_method_132_code (3 : Nat) (Option.some (Jvm.ClassFile.FieldType.array Jvm.ClassFile.FieldType.byte)), Jvm.Cond.code ({ cls := "java/util/Arrays", name := "copyOfRangeByte", desc := "([BII)[B" } : Jvm.MethodName) jdk_65_method_133_code (5 : Nat) (Option.some (Jvm.ClassFile.FieldType.array Jvm.ClassFile.FieldType.byte)), Jvm.Cond.code ({ cls := "java/util/Arrays", name := "checkLength", desc := "(II)V" } : Jvm.MethodName) jdk_65_method_131_code (2 : Nat) (Option.none : Option Jvm.ClassFile.FieldType), Jvm.Cond.code ({ cls := "java/lang/Math", name := "min", desc := "(II)I" } : Jvm.MethodName) jdk_29_method_69_code (2 : Nat) (Option.some Jvm.ClassFile.FieldType.int), Jvm.Cond.code ({ cls := "java/lang/Math", name := "abs", desc := "(J)J" } : Jvm.MethodName) jdk_29_method_61_code (2 : Nat) (Option.some Jvm.ClassFile.FieldType.long), Jvm.Cond.code ({ cls := "com/example/frugal_ranker/frugalranker/TrecRunLinePinLaw", name := "same", desc := "(Ljava/lang/String;III)Z" } : Jvm.MethodName) method_4_code (6 : Nat) (Option.some Jvm.ClassFile.FieldType.boolean), Jvm.Cond.code ({ cls := "java/lang/String", name := "charAt", desc := "(I)C" } : Jvm.MethodName) jdk_42_method_56_code (2 : Nat) (Option.some Jvm.ClassFile.FieldType.char), Jvm.Cond.code ({ cls := "java/lang/String", name := "isLatin1", desc := "()Z" } : Jvm.MethodName) jdk_42_method_154_code (1 : Nat) (Option.some Jvm.ClassFile.FieldType.boolean), Jvm.Cond.code ({ cls := "java/lang/StringLatin1", name := "charAt", desc := "([BI)C" } : Jvm.MethodName) jdk_43_method_2_code (2 : Nat) (Option.some Jvm.ClassFile.FieldType.char), Jvm.Cond.code ({ cls := "java/lang/String", name := "checkIndex", desc := "(II)V" } : Jvm.MethodName) jdk_42_method_155_code (2 : Nat) (Option.none : Option Jvm.ClassFile.FieldType), Jvm.Cond.code ({ cls := "jdk/internal/util/Preconditions", name := "checkIndex", desc := "(IILjava/util/function/BiFunction;)I" } : Jvm.MethodName) jdk_41_method_11_code (3 : Nat) (Option.some Jvm.ClassFile.FieldType.int), Jvm.Cond.code ({ cls := "com/example/frugal_ranker/frugalranker/TrecRunLinePinLaw", name := "digit", desc := "(Ljava/lang/String;IJIIJ)Z" } : Jvm.MethodName) method_5_code (8 : Nat) (Option.some Jvm.ClassFile.FieldType.boolean), Jvm.Cond.code ({ cls := "java/lang/StringUTF16", name := "compress", desc := "([CII)[B" } : Jvm.MethodName) jdk_52_method_16_code (6 : Nat) (Option.some (Jvm.ClassFile.FieldType.array Jvm.ClassFile.FieldType.byte)), Jvm.Cond.code ({ cls := "java/lang/StringUTF16", name := "compress", desc := "([CI[BII)I" } : Jvm.MethodName) jdk_52_method_21_code (7 : Nat) (Option.some Jvm.ClassFile.FieldType.int), Jvm.Cond.code ({ cls := "java/lang/StringUTF16", name := "coderFromArrayLen", desc := "([BI)B" } : Jvm.MethodName) jdk_52_method_15_code (2 : Nat) (Option.some Jvm.ClassFile.FieldType.byte), Jvm.Cond.code ({ cls := "java/lang/AbstractStringBuilder", name := "newCapacity", desc := "(I)I" } : Jvm.MethodName) jdk_68_method_10_code (6 : Nat) (Option.some Jvm.ClassFile.FieldType.int), Jvm.Cond.code ({ cls := "jdk/internal/util/ArraysSupport", name := "newLength", desc := "(III)I" } : Jvm.MethodName) jdk_48_method_27_code (4 : Nat) (Option.some Jvm.ClassFile.FieldType.int), Jvm.Cond.code ({ cls := "java/lang/Math", name := "max", desc := "(II)I" } : Jvm.MethodName) jdk_29_method_65_code (2 : Nat) (Option.some Jvm.ClassFile.FieldType.int), Jvm.Cond.code ({ cls := "java/util/Arrays", name := "copyOf", desc := "([BI)[B" } : Jvm.MethodName) jdk_65_method_121_code (3 : Nat) (Option.some (Jvm.ClassFile.FieldType.array Jvm.ClassFile.FieldType.byte))]
set_option maxRecDepth 65536 in
theorem codes_eq : words1.filter isCode = codes1 := rfl
theorem w_codes : ∀ c ∈ words1.filter isCode, c.before args0 about1 = true := by
  rw [codes_eq]
  intro c hc
  simp only [codes1, List.mem_cons, List.not_mem_nil, or_false] at hc
  rcases hc with rfl | rfl | rfl | rfl | rfl | rfl | rfl | rfl | rfl | rfl | rfl | rfl | rfl | rfl | rfl | rfl | rfl | rfl | rfl | rfl | rfl | rfl | rfl | rfl | rfl | rfl | rfl | rfl | rfl | rfl | rfl | rfl | rfl | rfl | rfl | rfl | rfl | rfl | rfl | rfl | rfl | rfl | rfl | rfl | rfl | rfl
  · exact w_c0
  · exact w_c1
  · exact w_c2
  · exact w_c3
  · exact w_c4
  · exact w_c5
  · exact w_c6
  · exact w_c7
  · exact w_c8
  · exact w_c9
  · exact w_c10
  · exact w_c11
  · exact w_c12
  · exact w_c13
  · exact w_c14
  · exact w_c15
  · exact w_c16
  · exact w_c17
  · exact w_c18
  · exact w_c19
  · exact w_c20
  · exact w_c21
  · exact w_c22
  · exact w_c23
  · exact w_c24
  · exact w_c25
  · exact w_c26
  · exact w_c27
  · exact w_c28
  · exact w_c29
  · exact w_c30
  · exact w_c31
  · exact w_c32
  · exact w_c33
  · exact w_c34
  · exact w_c35
  · exact w_c36
  · exact w_c37
  · exact w_c38
  · exact w_c39
  · exact w_c40
  · exact w_c41
  · exact w_c42
  · exact w_c43
  · exact w_c44
  · exact w_c45
set_option maxRecDepth 65536 in
theorem w_t1 : (words1.take 24).all (fun c => isCode c || c.before args0 about1) = true := by decide +kernel
set_option maxRecDepth 65536 in
theorem w_t2 : ((words1.drop 24).take 24).all (fun c => isCode c || c.before args0 about1) = true := by decide +kernel
set_option maxRecDepth 65536 in
theorem w_t3 : (((words1.drop 24).drop 24).take 24).all (fun c => isCode c || c.before args0 about1) = true := by decide +kernel
set_option maxRecDepth 65536 in
theorem w_t4 : ((((words1.drop 24).drop 24).drop 24).take 24).all (fun c => isCode c || c.before args0 about1) = true := by decide +kernel
set_option maxRecDepth 65536 in
theorem w_t5 : (((((words1.drop 24).drop 24).drop 24).drop 24).take 24).all (fun c => isCode c || c.before args0 about1) = true := by decide +kernel
set_option maxRecDepth 65536 in
theorem w_t6 : ((((((words1.drop 24).drop 24).drop 24).drop 24).drop 24).take 24).all (fun c => isCode c || c.before args0 about1) = true := by decide +kernel
set_option maxRecDepth 65536 in
theorem w_t7 : (((((((words1.drop 24).drop 24).drop 24).drop 24).drop 24).drop 24).take 24).all (fun c => isCode c || c.before args0 about1) = true := by decide +kernel
set_option maxRecDepth 65536 in
theorem w_t8 : ((((((((words1.drop 24).drop 24).drop 24).drop 24).drop 24).drop 24).drop 24).take 24).all (fun c => isCode c || c.before args0 about1) = true := by decide +kernel
set_option maxRecDepth 65536 in
theorem w_t9 : (((((((((words1.drop 24).drop 24).drop 24).drop 24).drop 24).drop 24).drop 24).drop 24).take 24).all (fun c => isCode c || c.before args0 about1) = true := by decide +kernel
set_option maxRecDepth 65536 in
theorem w_t10 : (((((((((words1.drop 24).drop 24).drop 24).drop 24).drop 24).drop 24).drop 24).drop 24).drop 24).all (fun c => isCode c || c.before args0 about1) = true := by decide +kernel
theorem w_tables : (allAtoms (Jvm.Cond.code x code maxLocals ret :: tables_1)).before args0 about1 = true := by
  rw [allAtoms_all]
  show words1.all (fun c => c.before args0 about1) = true
  refine all_split ?_ w_codes
  rw [← List.take_append_drop 24 words1, List.all_append, w_t1, ← List.take_append_drop 24 (words1.drop 24), List.all_append, w_t2, ← List.take_append_drop 24 ((words1.drop 24).drop 24), List.all_append, w_t3, ← List.take_append_drop 24 (((words1.drop 24).drop 24).drop 24), List.all_append, w_t4, ← List.take_append_drop 24 ((((words1.drop 24).drop 24).drop 24).drop 24), List.all_append, w_t5, ← List.take_append_drop 24 (((((words1.drop 24).drop 24).drop 24).drop 24).drop 24), List.all_append, w_t6, ← List.take_append_drop 24 ((((((words1.drop 24).drop 24).drop 24).drop 24).drop 24).drop 24), List.all_append, w_t7, ← List.take_append_drop 24 (((((((words1.drop 24).drop 24).drop 24).drop 24).drop 24).drop 24).drop 24), List.all_append, w_t8, ← List.take_append_drop 24 ((((((((words1.drop 24).drop 24).drop 24).drop 24).drop 24).drop 24).drop 24).drop 24), List.all_append, w_t9, w_t10]
  rfl
set_option maxRecDepth 65536 in
theorem w_rest : rest_1_c.before args0 about1 = true := by decide +kernel
set_option maxRecDepth 65536 in
theorem w_case : (Jvm.Cond.and given_1 narrow_1).before args0 about1 = true := by decide +kernel
set_option maxRecDepth 65536 in
theorem w_consts : constsHeld consts_1 about1 := Jvm.Lit.constsHeldB_iff.mp (by decide +kernel)
theorem w_applies : (headSpec (Jvm.Cond.code x code maxLocals ret :: tables_1) room_1).applies x e0.platform about1 = true :=
  (Spec.applies_iff w_frames).mpr ⟨w_running, w_runnable, w_alone, w_named, w_hears, w_ripe, w_room, w_tables⟩
theorem atStart : AtStart classFile x code maxLocals ret World_1 tables_1 room_1 Calls_1 rest_1 Pre_1 launch0 p0 e0 about1 theMethod args0 below0 :=
  ⟨lists_1, trivial, launch0.admits_env _ _ _, launch0.least_env, fairChoices_fair.cas, fairChoices_fair.clock, w_frames, w_args, w_heap, w_applies, ⟨w_consts, trivial⟩, w_rest, w_case⟩
end start1
theorem witness_1 : WitnessClaimed_1 := ⟨start1.p0, start1.e0, start1.about1, start1.theMethod, start1.args0, start1.below0, start1.atStart⟩
end Jvm.Pilot.@@N@@
