import JvmDerived
import JvmDerived.Pilot.@@N@@Statement
import JvmDerived.Pilot.@@N@@Code
set_option linter.unusedVariables false
set_option linter.unusedSimpArgs false
/- laws to paste: Road.backV, Road.lenW, Road.chN, Road.eqW, Road.codOf, shr0, shr1, Road.wide_lo, Road.wide_hi, lo8_mask (cut by pick.py; bodies as the Statement names them) -/
namespace Jvm.Pilot.@@N@@
namespace StrChars
open Jvm Sem ClassFile Op Lib Jvm.Stand Jvm.Free.XT Jvm.Free.ALB Jvm.Free.JM Jvm.Free
open Jvm.Lib.Cold (StaticIs)
/-- a char array whose places are chars -/
def Ch (a : Addr) (A : Cell) (U : State) : Prop := Arr .char a A U ∧ Typed .char A
theorem Ch.mv {a : Addr} {A : Cell} {U U' : State} (h : Ch a A U) (hal : U.vm.Alike U'.vm) (hh : U'.heap = U.heap) : Ch a A U' := ⟨h.1.mv hal hh, h.2⟩
theorem Ch.keep {a : Addr} {A : Cell} {U U' : State} (h : Ch a A U) (hal : U.vm.Alike U'.vm) (hk : U'.heap[a]? = some A) : Ch a A U' := ⟨h.1.keep hal hk, h.2⟩
/-- what place i of a char[]'s cell holds -/
def cv (A : Cell) (i : Nat) : Int32 := match A.slots[i]? with | some (.int x) => x | _ => 0
theorem Ch.get {a : Addr} {A : Cell} {U : State} (h : Ch a A U) {i : Nat} (hi : i < A.slots.size) : A.slots[i]? = some (.int (cv A i)) := by
  have e := Array.getElem?_eq_getElem hi
  have f := h.2 i _ e
  unfold cv; rw [e]
  generalize A.slots[i] = v at f
  cases v <;> simp [fits] at f ⊢
/-- the byte that i2b leaves of a char -/
def lo8 (x : Int32) : Int32 := x.toInt8.toInt32
theorem fits_lo8 (y : Int32) : fits .byte (.int (lo8 y)) = true := by
  have h1 := y.toInt8.le_toInt
  have h2 := y.toInt8.toInt_lt
  simp only [lo8, fits, Bool.and_eq_true, decide_eq_true_eq, Int32.le_iff_toInt_le, Int8.toInt_toInt32, show (-128 : Int32).toInt = -128 from by decide, show (127 : Int32).toInt = 127 from by decide]
  omega
/-- A' is A but that each place j of lo .. hi - 1 holds f j -/
def Laid (A A' : Cell) (lo hi : Nat) (f : Nat → Value) : Prop := A'.cls = A.cls ∧ A'.vm = A.vm ∧ A'.slots.size = A.slots.size ∧ ∀ i, A'.slots[i]? = if lo ≤ i ∧ i < hi then some (f i) else A.slots[i]?
theorem Laid.zero (A : Cell) (lo : Nat) (f : Nat → Value) : Laid A A lo (lo + 0) f := ⟨rfl, rfl, rfl, fun i => by rw [if_neg (by omega)]⟩
theorem Laid.step {A Ak : Cell} {lo k : Nat} {f : Nat → Value} {v : Value} (h : Laid A Ak lo k f) (hlo : lo ≤ k) (hk : k < Ak.slots.size) (hv : v = f k) : Laid A (Ak.setSlot k v) lo (k + 1) f := by
  refine ⟨h.1, h.2.1, by simpa [Cell.setSlot] using h.2.2.1, fun i => ?_⟩
  by_cases e : k = i
  · subst e; rw [Cell.slots_setSlot_self v hk, if_pos (by omega), hv]
  · rw [Cell.slots_setSlot_ne v e, h.2.2.2 i]
    by_cases q : lo ≤ i ∧ i < k
    · rw [if_pos q, if_pos (by omega)]
    · rw [if_neg q, if_neg (by omega)]
def U16 : String := "java/lang/StringUTF16"
namespace Cmp5
def yN : MethodName := ⟨"java/lang/StringUTF16", "compress", "([CI[BII)I"⟩
abbrev yB : ByteArray := jdk_52_method_21_code
theorem d0 : decode yB 0 = .ok (.iconst 0, 1) := by decide +kernel
theorem d1 : decode yB 1 = .ok (.istore 5, 2) := by decide +kernel
theorem d3 : decode yB 3 = .ok (.iload 5, 2) := by decide +kernel
theorem d5 : decode yB 5 = .ok (.iload 4, 2) := by decide +kernel
theorem d7 : decode yB 7 = .ok (.if_icmp (.ge) 37, 3) := by decide +kernel
theorem d10 : decode yB 10 = .ok (.aload_n 0, 1) := by decide +kernel
theorem d11 : decode yB 11 = .ok (.iload_n 1, 1) := by decide +kernel
theorem d12 : decode yB 12 = .ok (.caload, 1) := by decide +kernel
theorem d13 : decode yB 13 = .ok (.istore 6, 2) := by decide +kernel
theorem d15 : decode yB 15 = .ok (.iload 6, 2) := by decide +kernel
theorem d17 : decode yB 17 = .ok (.sipush 255, 3) := by decide +kernel
theorem d20 : decode yB 20 = .ok (.if_icmp (.le) 6, 3) := by decide +kernel
theorem d26 : decode yB 26 = .ok (.aload_n 2, 1) := by decide +kernel
theorem d27 : decode yB 27 = .ok (.iload_n 3, 1) := by decide +kernel
theorem d28 : decode yB 28 = .ok (.iload 6, 2) := by decide +kernel
theorem d30 : decode yB 30 = .ok (.i2b, 1) := by decide +kernel
theorem d31 : decode yB 31 = .ok (.bastore, 1) := by decide +kernel
theorem d32 : decode yB 32 = .ok (.iinc 1 1, 3) := by decide +kernel
theorem d35 : decode yB 35 = .ok (.iinc 3 1, 3) := by decide +kernel
theorem d38 : decode yB 38 = .ok (.iinc 5 1, 3) := by decide +kernel
theorem d41 : decode yB 41 = .ok (.goto (-38), 3) := by decide +kernel
theorem d44 : decode yB 44 = .ok (.iload 4, 2) := by decide +kernel
theorem d46 : decode yB 46 = .ok (.ireturn, 1) := by decide +kernel
def site : List Cond := []
def tab : Cond := tabOf yN yB 7 (some .int) site
def P (b : Addr) (A : Cell) (d : Addr) (B : Cell) (o q len : Nat) (args : Array Value) (s : State) : Prop := args = #[.ref b, .int (Int32.ofNat o), .ref d, .int (Int32.ofNat q), .int (Int32.ofNat len)] ∧ Ch b A s ∧ Arr .byte d B s ∧ b ≠ d ∧ o + len ≤ A.slots.size ∧ q + len ≤ B.slots.size ∧ ∀ i, i < len → ¬ 255 < cv A (o + i)
def E (b : Addr) (A : Cell) (d : Addr) (B : Cell) (o q len : Nat) (r : Option Value) (s u : State) : Prop := r = some (.int (Int32.ofNat len)) ∧ ∃ B', Put d B' s u ∧ Laid B B' q (q + len) (fun j => Value.int (lo8 (cv A (o + (j - q)))))
/-- no char of the range above 255: len; the places written hold each char's low byte -/
theorem law (l : Launch) (b : Addr) (A : Cell) (d : Addr) (B : Cell) (o q len : Nat) : Law l yN 5 5 0 0 yB 7 (some .int) site (P b A d B o q len) (E b A d B o q len) (copyLocs d q len) 0 0 := by
  refine Law.of_walk (plainFor_of_name (by decide +kernel)) (by decide +kernel) (by decide +kernel) (by decide) (fun _ _ h => by rw [h.1]; rfl) (fun _ U U' hal hh h => ⟨h.1, h.2.1.mv hal hh, h.2.2.1.mv hal hh, h.2.2.2⟩) (fun r U U' V V' h1 hal h2 h => ⟨h.1, h.2.elim fun B' q => ⟨B', q.1.mv h1 h2, q.2⟩⟩) ?_
  intro p e s m args below meth c s₁ X0 hexec hbytes hml hret hlk hnm hown hh0 W hP
  obtain ⟨rfl, hA, hB, hne, l1, l2, hp⟩ := hP
  have c1 : Steps p.tables e below (s₁.setTop (entryFrame m #[.ref b, .int (Int32.ofNat o), .ref d, .int (Int32.ofNat q), .int (Int32.ofNat len)] 7)) (s₁.setTop (mkF m 0 #[.val (.ref b), .val (.int (Int32.ofNat o)), .val (.ref d), .val (.int (Int32.ofNat q)), .val (.int (Int32.ofNat len)), .unset, .unset] [])) := entry rfl
  have hA0 := hA.1.mv X0.warmed.alike hh0
  have hB0 := hB.mv X0.warmed.alike hh0
  have a31 := hA.1.2.2.2
  have c2 : Steps p.tables e below (s₁.setTop (entryFrame m #[.ref b, .int (Int32.ofNat o), .ref d, .int (Int32.ofNat q), .int (Int32.ofNat len)] 7)) (s₁.setTop (mkF m 3 #[.val (.ref b), .val (.int (Int32.ofNat o)), .val (.ref d), .val (.int (Int32.ofNat q)), .val (.int (Int32.ofNat len)), .val (.int 0), .unset] [])) := c1.trans (by
    refine iconstV X0.here hexec rfl 0 (hb hbytes d0) (by decide) ?_
    refine XS.istore X0.here hexec rfl (hb hbytes d1) rfl rfl ?_
    exact Steps.refl _)
  have loop : ∀ (r i : Nat), i + r = len → ∀ (z : Slot), (z = .unset ∨ ∃ w, z = .val w ∧ w.category = 1) → ∀ (Tl : State) (Bk : Cell), Stand p l e { frames := 0, locals := 0, cells := 0, slots := 0 } s m #[.ref b, .int (Int32.ofNat o), .ref d, .int (Int32.ofNat q), .int (Int32.ofNat len)] below meth c Tl ([] ++ copyLocs d q i) 0 0 → Put d Bk s₁ Tl → Laid B Bk q (q + i) (fun j => Value.int (lo8 (cv A (o + (j - q))))) →
      Steps p.tables e below (s₁.setTop (entryFrame m #[.ref b, .int (Int32.ofNat o), .ref d, .int (Int32.ofNat q), .int (Int32.ofNat len)] 7)) (Tl.setTop (mkF m 3 #[.val (.ref b), .val (.int (Int32.ofNat (o + i))), .val (.ref d), .val (.int (Int32.ofNat (q + i))), .val (.int (Int32.ofNat len)), .val (.int (Int32.ofNat i)), z] [])) → ∃ (T' : State) (B' : Cell) (z' : Slot), Stand p l e { frames := 0, locals := 0, cells := 0, slots := 0 } s m #[.ref b, .int (Int32.ofNat o), .ref d, .int (Int32.ofNat q), .int (Int32.ofNat len)] below meth c T' ([] ++ copyLocs d q len) 0 0 ∧ Put d B' s₁ T' ∧ Laid B B' q (q + len) (fun j => Value.int (lo8 (cv A (o + (j - q))))) ∧
      Steps p.tables e below (s₁.setTop (entryFrame m #[.ref b, .int (Int32.ofNat o), .ref d, .int (Int32.ofNat q), .int (Int32.ofNat len)] 7)) (T'.setTop (mkF m 3 #[.val (.ref b), .val (.int (Int32.ofNat (o + len))), .val (.ref d), .val (.int (Int32.ofNat (q + len))), .val (.int (Int32.ofNat len)), .val (.int (Int32.ofNat len)), z'] [])) := by
    intro r
    induction r with
    | zero =>
      intro i hi z hz Tl Bk Xl pl fl cl
      have hil : i = len := by omega
      rw [hil] at Xl fl cl
      exact ⟨Tl, Bk, z, Xl, pl, fl, cl⟩
    | succ r ih =>
      intro i hi z hz Tl Bk Xl pl fl cl
      have all := X0.warmed.alike.symm.trans Xl.warmed.alike
      have hAl := hA0.keep all (pl.other hne hA0.1)
      have hBk := hB0.like all pl.1 fl.1 fl.2.1 fl.2.2.1
      have hlt : q + i < Bk.slots.size := by rw [fl.2.2.1]; omega
      have c3 : Steps p.tables e below (s₁.setTop (entryFrame m #[.ref b, .int (Int32.ofNat o), .ref d, .int (Int32.ofNat q), .int (Int32.ofNat len)] 7)) (Tl.setTop (mkF m 12 #[.val (.ref b), .val (.int (Int32.ofNat (o + i))), .val (.ref d), .val (.int (Int32.ofNat (q + i))), .val (.int (Int32.ofNat len)), .val (.int (Int32.ofNat i)), z] [.int (Int32.ofNat (o + i)), .ref b])) := cl.trans (by
        refine XS.iload Xl.here hexec rfl (hb hbytes d3) rfl ?_
        refine XS.iload Xl.here hexec rfl (hb hbytes d5) rfl ?_
        refine XS.icmpNo Xl.here hexec rfl (hb hbytes d7) rfl (ii_ge_f (lt32 (by omega) (by omega))) ?_
        refine XS.aloadN Xl.here hexec rfl (hb hbytes d10) rfl rfl ?_
        refine XS.iloadN Xl.here hexec rfl (hb hbytes d11) rfl ?_
        exact Steps.refl _)
      have c4 : Steps p.tables e below (s₁.setTop (entryFrame m #[.ref b, .int (Int32.ofNat o), .ref d, .int (Int32.ofNat q), .int (Int32.ofNat len)] 7)) (Tl.setTop (mkF m 13 #[.val (.ref b), .val (.int (Int32.ofNat (o + i))), .val (.ref d), .val (.int (Int32.ofNat (q + i))), .val (.int (Int32.ofNat len)), .val (.int (Int32.ofNat i)), z] [.int (cv A (o + i))])) := c3.trans (by
        refine Xl.aget hexec hAl rfl (hA.get (i := o + i) (by omega)) rfl rfl (hb hbytes d12) ?_
        exact Steps.refl _)
      have c5 : Steps p.tables e below (s₁.setTop (entryFrame m #[.ref b, .int (Int32.ofNat o), .ref d, .int (Int32.ofNat q), .int (Int32.ofNat len)] 7)) (Tl.setTop (mkF m 15 #[.val (.ref b), .val (.int (Int32.ofNat (o + i))), .val (.ref d), .val (.int (Int32.ofNat (q + i))), .val (.int (Int32.ofNat len)), .val (.int (Int32.ofNat i)), .val (.int (cv A (o + i)))] [])) := c4.trans (by
        refine XS.istoreS Xl.here hexec rfl (hb hbytes d13) rfl rfl hz ?_
        exact Steps.refl _)
      have c6 : Steps p.tables e below (s₁.setTop (entryFrame m #[.ref b, .int (Int32.ofNat o), .ref d, .int (Int32.ofNat q), .int (Int32.ofNat len)] 7)) (Tl.setTop (mkF m 31 #[.val (.ref b), .val (.int (Int32.ofNat (o + i))), .val (.ref d), .val (.int (Int32.ofNat (q + i))), .val (.int (Int32.ofNat len)), .val (.int (Int32.ofNat i)), .val (.int (cv A (o + i)))] [.int (lo8 (cv A (o + i))), .int (Int32.ofNat (q + i)), .ref d])) := c5.trans (by
        refine XS.iload Xl.here hexec rfl (hb hbytes d15) rfl ?_
        refine sipushV Xl.here hexec rfl 255 (hb hbytes d17) (by decide) ?_
        refine XS.icmpYes Xl.here hexec rfl (pc0 := 20) rfl (hb hbytes d20) rfl (ii_le_t (hp i (by omega))) (by decide) rfl ?_
        refine XS.aloadN Xl.here hexec rfl (hb hbytes d26) rfl rfl ?_
        refine XS.iloadN Xl.here hexec rfl (hb hbytes d27) rfl ?_
        refine XS.iload Xl.here hexec rfl (hb hbytes d28) rfl ?_
        refine i2b Xl.here hexec rfl (hb hbytes d30) rfl ?_
        exact Steps.refl _)
      obtain ⟨T7, X7, p7, st7⟩ := Xl.aput hexec hBk rfl hlt rfl (fits_lo8 (cv A (o + i))) (g := (mkF m 31 #[.val (.ref b), .val (.int (Int32.ofNat (o + i))), .val (.ref d), .val (.int (Int32.ofNat (q + i))), .val (.int (Int32.ofNat len)), .val (.int (Int32.ofNat i)), .val (.int (cv A (o + i)))] [.int (lo8 (cv A (o + i))), .int (Int32.ofNat (q + i)), .ref d])) rfl (rest := []) rfl (hb hbytes d31)
      have c8 : Steps p.tables e below (s₁.setTop (entryFrame m #[.ref b, .int (Int32.ofNat o), .ref d, .int (Int32.ofNat q), .int (Int32.ofNat len)] 7)) (T7.setTop (mkF m 32 #[.val (.ref b), .val (.int (Int32.ofNat (o + i))), .val (.ref d), .val (.int (Int32.ofNat (q + i))), .val (.int (Int32.ofNat len)), .val (.int (Int32.ofNat i)), .val (.int (cv A (o + i)))] [])) := c6.trans (st7 _ (Steps.refl _))
      have c9 : Steps p.tables e below (s₁.setTop (entryFrame m #[.ref b, .int (Int32.ofNat o), .ref d, .int (Int32.ofNat q), .int (Int32.ofNat len)] 7)) (T7.setTop (mkF m 3 #[.val (.ref b), .val (.int (Int32.ofNat (o + i) + 1)), .val (.ref d), .val (.int (Int32.ofNat (q + i) + 1)), .val (.int (Int32.ofNat len)), .val (.int (Int32.ofNat i + 1)), .val (.int (cv A (o + i)))] [])) := c8.trans (by
        refine iincV X7.here hexec rfl 1 (hb hbytes d32) (by decide) rfl rfl ?_
        refine iincV X7.here hexec rfl 1 (hb hbytes d35) (by decide) rfl rfl ?_
        refine iincV X7.here hexec rfl 1 (hb hbytes d38) (by decide) rfl rfl ?_
        refine XS.goto X7.here hexec rfl (pc0 := 41) rfl (hb hbytes d41) (by decide) rfl ?_
        exact Steps.refl _)
      have c10 : Steps p.tables e below (s₁.setTop (entryFrame m #[.ref b, .int (Int32.ofNat o), .ref d, .int (Int32.ofNat q), .int (Int32.ofNat len)] 7)) (T7.setTop (mkF m 3 #[.val (.ref b), .val (.int (Int32.ofNat (o + (i + 1)))), .val (.ref d), .val (.int (Int32.ofNat (q + (i + 1)))), .val (.int (Int32.ofNat len)), .val (.int (Int32.ofNat (i + 1))), .val (.int (cv A (o + i)))] [])) := by
        have := c9
        rw [succ32, succ32, succ32] at this
        exact this
      exact ih (i + 1) (by omega) _ (Or.inr ⟨_, rfl, rfl⟩) T7 _ (by rw [copyLocs_step, ← List.append_assoc]; exact X7) (pl.trans p7) (fl.step (by omega) hlt (by simp)) c10
  obtain ⟨T9, B9, z9, X9, p9, f9, g9⟩ := loop len 0 (by omega) .unset (Or.inl rfl) s₁ B (by simpa [copyLocs] using X0) ⟨hB0.1, fun _ _ => rfl, rfl⟩ (Laid.zero _ _ _) c2
  have c11 : Steps p.tables e below (s₁.setTop (entryFrame m #[.ref b, .int (Int32.ofNat o), .ref d, .int (Int32.ofNat q), .int (Int32.ofNat len)] 7)) (T9.setTop (mkF m 46 #[.val (.ref b), .val (.int (Int32.ofNat (o + len))), .val (.ref d), .val (.int (Int32.ofNat (q + len))), .val (.int (Int32.ofNat len)), .val (.int (Int32.ofNat len)), z9] [.int (Int32.ofNat len)])) := g9.trans (by
    refine XS.iload X9.here hexec rfl (hb hbytes d3) rfl ?_
    refine XS.iload X9.here hexec rfl (hb hbytes d5) rfl ?_
    refine XS.icmpYes X9.here hexec rfl (pc0 := 7) rfl (hb hbytes d7) rfl (ii_ge_t (nlt32 (by omega) (Nat.le_refl _))) (by decide) rfl ?_
    refine XS.iload X9.here hexec rfl (hb hbytes d44) rfl ?_
    exact Steps.refl _)
  exact ⟨T9, some (.int (Int32.ofNat len)), _, _, _, X9, by simp, rfl, rfl, (fun h => by cases h), ⟨rfl, B9, p9.from hh0, f9⟩, fun fs hl => c11.trans (X9.ireturnOut hexec hret rfl (Or.inl rfl) (hb hbytes d46) hl)⟩
end Cmp5
namespace Cmp3
def yN : MethodName := ⟨"java/lang/StringUTF16", "compress", "([CII)[B"⟩
abbrev yB : ByteArray := jdk_52_method_16_code
theorem d0 : decode yB 0 = .ok (.iload_n 2, 1) := by decide +kernel
theorem d1 : decode yB 1 = .ok (.newarray .byte, 2) := by decide +kernel
theorem d3 : decode yB 3 = .ok (.astore_n 3, 1) := by decide +kernel
theorem d4 : decode yB 4 = .ok (.aload_n 0, 1) := by decide +kernel
theorem d5 : decode yB 5 = .ok (.iload_n 1, 1) := by decide +kernel
theorem d6 : decode yB 6 = .ok (.aload_n 3, 1) := by decide +kernel
theorem d7 : decode yB 7 = .ok (.iconst 0, 1) := by decide +kernel
theorem d8 : decode yB 8 = .ok (.iload_n 2, 1) := by decide +kernel
theorem d9 : decode yB 9 = .ok (.invokestatic 115, 3) := by decide +kernel
theorem d12 : decode yB 12 = .ok (.istore 4, 2) := by decide +kernel
theorem d14 : decode yB 14 = .ok (.iload 4, 2) := by decide +kernel
theorem d16 : decode yB 16 = .ok (.iload_n 2, 1) := by decide +kernel
theorem d17 : decode yB 17 = .ok (.if_icmp (.eq) 40, 3) := by decide +kernel
theorem d57 : decode yB 57 = .ok (.aload_n 3, 1) := by decide +kernel
theorem d58 : decode yB 58 = .ok (.areturn, 1) := by decide +kernel
def site : List Cond := [.arrayClass .byte, Cmp5.tab] ++ staticW U16 115 Cmp5.yN
def tab : Cond := tabOf yN yB 6 (some (.array .byte)) site
def P (b : Addr) (A : Cell) (o len : Nat) (args : Array Value) (s : State) : Prop := args = #[.ref b, .int (Int32.ofNat o), .int (Int32.ofNat len)] ∧ Ch b A s ∧ o + len ≤ A.slots.size ∧ len ≤ 536870912 ∧ ∀ i, i < len → ¬ 255 < cv A (o + i)
def E (b : Addr) (A : Cell) (o len : Nat) (r : Option Value) (s u : State) : Prop := NewArr .byte "[B" len (fun j => .int (lo8 (cv A (o + j)))) r s u ∧ u.heap.size = s.heap.size + 1
/-- no char of the range above 255: a new byte[] of their low bytes -/
theorem law (l : Launch) (b : Addr) (A : Cell) (o len : Nat) : Law l yN 3 3 1 18 yB 6 (some (.array .byte)) site (P b A o len) (E b A o len) [] 1 len := by
  refine Law.of_walk (plainFor_of_name (by decide +kernel)) (by decide +kernel) (by decide +kernel) (by decide) (fun _ _ h => by rw [h.1]; rfl) (fun _ U U' hal hh h => ⟨h.1, h.2.1.mv hal hh, h.2.2⟩) (fun r U U' V V' h1 hal h2 h => ⟨NewArr.mv r U U' V V' h1 hal h2 h.1, by rw [h1, h2]; exact h.2⟩) ?_
  intro p e s m args below meth c s₁ X0 hexec hbytes hml hret hlk hnm hown hh0 W hP
  obtain ⟨rfl, hA, l1, l2, hp⟩ := hP
  have a31 := hA.1.2.2.2
  have c1 : Steps p.tables e below (s₁.setTop (entryFrame m #[.ref b, .int (Int32.ofNat o), .int (Int32.ofNat len)] 6)) (s₁.setTop (mkF m 0 #[.val (.ref b), .val (.int (Int32.ofNat o)), .val (.int (Int32.ofNat len)), .unset, .unset, .unset] [])) := entry rfl
  have c2 : Steps p.tables e below (s₁.setTop (entryFrame m #[.ref b, .int (Int32.ofNat o), .int (Int32.ofNat len)] 6)) (s₁.setTop (mkF m 1 #[.val (.ref b), .val (.int (Int32.ofNat o)), .val (.int (Int32.ofNat len)), .unset, .unset, .unset] [.int (Int32.ofNat len)])) := c1.trans (by
    refine XS.iloadN X0.here hexec rfl (hb hbytes d0) rfl ?_
    exact Steps.refl _)
  obtain ⟨T3, B3, X3, ba3, bs3, bv3, bh3, bf3, st3⟩ := X0.anew hexec (atype := .byte) (wk W (.arrayClass .byte)) rfl (by show len * 1 ≤ _; omega) (by omega) (g := (mkF m 1 #[.val (.ref b), .val (.int (Int32.ofNat o)), .val (.int (Int32.ofNat len)), .unset, .unset, .unset] [.int (Int32.ofNat len)])) rfl (hb hbytes d1) (rest := []) rfl (Nat.le_refl _) (by show 0 + len ≤ len; omega)
  rw [hh0] at ba3 st3
  have kp3 : XT.Kept s T3 := (XT.Kept.of_eq hh0).push bh3
  have hA3 := hA.keep X3.warmed.alike (kp3 _ _ hA.1.1)
  have hne : b ≠ s.heap.size := hA.1.ne
  have c4 : Steps p.tables e below (s₁.setTop (entryFrame m #[.ref b, .int (Int32.ofNat o), .int (Int32.ofNat len)] 6)) (T3.setTop (mkF m 3 #[.val (.ref b), .val (.int (Int32.ofNat o)), .val (.int (Int32.ofNat len)), .unset, .unset, .unset] [.ref s.heap.size])) := c2.trans (st3 _ (Steps.refl _))
  have c5 : Steps p.tables e below (s₁.setTop (entryFrame m #[.ref b, .int (Int32.ofNat o), .int (Int32.ofNat len)] 6)) (T3.setTop (mkF m 9 #[.val (.ref b), .val (.int (Int32.ofNat o)), .val (.int (Int32.ofNat len)), .val (.ref s.heap.size), .unset, .unset] [.int (Int32.ofNat len), .int 0, .ref s.heap.size, .int (Int32.ofNat o), .ref b])) := c4.trans (by
    refine XS.astoreN X3.here hexec rfl (hb hbytes d3) rfl rfl rfl ?_
    refine XS.aloadN X3.here hexec rfl (hb hbytes d4) rfl rfl ?_
    refine XS.iloadN X3.here hexec rfl (hb hbytes d5) rfl ?_
    refine XS.aloadN X3.here hexec rfl (hb hbytes d6) rfl rfl ?_
    refine iconstV X3.here hexec rfl 0 (hb hbytes d7) (by decide) ?_
    refine XS.iloadN X3.here hexec rfl (hb hbytes d8) rfl ?_
    exact Steps.refl _)
  obtain ⟨v6, T6, X6, E6, g6⟩ := X3.callS hexec (Cmp5.law l b A s.heap.size B3 o 0 len) hown (wks W (staticW U16 115 Cmp5.yN)) (wk W Cmp5.tab) (W := 0) (Nat.le_of_ble_eq_true rfl) (Nat.le_of_ble_eq_true rfl) (Nat.le_refl _) (by show 0 + len + 0 ≤ len; omega) (g := (mkF m 9 #[.val (.ref b), .val (.int (Int32.ofNat o)), .val (.int (Int32.ofNat len)), .val (.ref s.heap.size), .unset, .unset] [.int (Int32.ofNat len), .int (Int32.ofNat 0), .ref s.heap.size, .int (Int32.ofNat o), .ref b])) rfl (by rw [hml]; rfl) c5 (argsL := [.ref b, .int (Int32.ofNat o), .ref s.heap.size, .int (Int32.ofNat 0), .int (Int32.ofNat len)]) (rest := []) rfl rfl (by show 2 * 0 + 0 ≤ _; decide) (hb hbytes d9) (⟨rfl, hA3, ba3, hne, l1, by rw [bs3]; simp, hp⟩)
  obtain ⟨rfl, B6, p6, f6⟩ := E6
  have c7 : Steps p.tables e below (s₁.setTop (entryFrame m #[.ref b, .int (Int32.ofNat o), .int (Int32.ofNat len)] 6)) (T6.setTop (mkF m 12 #[.val (.ref b), .val (.int (Int32.ofNat o)), .val (.int (Int32.ofNat len)), .val (.ref s.heap.size), .unset, .unset] [.int (Int32.ofNat len)])) := g6
  have c8 : Steps p.tables e below (s₁.setTop (entryFrame m #[.ref b, .int (Int32.ofNat o), .int (Int32.ofNat len)] 6)) (T6.setTop (mkF m 58 #[.val (.ref b), .val (.int (Int32.ofNat o)), .val (.int (Int32.ofNat len)), .val (.ref s.heap.size), .val (.int (Int32.ofNat len)), .unset] [.ref s.heap.size])) := c7.trans (by
    refine XS.istore X6.here hexec rfl (hb hbytes d12) rfl rfl ?_
    refine XS.iload X6.here hexec rfl (hb hbytes d14) rfl ?_
    refine XS.iloadN X6.here hexec rfl (hb hbytes d16) rfl ?_
    refine XS.icmpYes X6.here hexec rfl (pc0 := 17) rfl (hb hbytes d17) rfl (ii_eq_t rfl) (by decide) rfl ?_
    refine XS.aloadN X6.here hexec rfl (hb hbytes d57) rfl rfl ?_
    exact Steps.refl _)
  have X8 := X6.wide (L' := []) (cells' := 1) (slots' := len) (fun x hx hlt => by
    simp only [List.nil_append, copyLocs, List.mem_map, List.mem_range] at hx
    obtain ⟨i, -, rfl⟩ := hx
    exact absurd hlt (Nat.lt_irrefl _)) (Nat.le_refl _) (by omega)
  exact ⟨T6, some (.ref s.heap.size), _, _, _, X8, rfl, rfl, rfl, (fun h => by cases h), ⟨⟨rfl, B6, ba3.like (X3.warmed.alike.symm.trans X6.warmed.alike) p6.1 f6.1 f6.2.1 f6.2.2.1, f6.2.1.trans bv3, by rw [X6.warmed.alike.findClass, f6.1]; exact bf3, by rw [f6.2.2.1, bs3]; simp, fun j hj => by rw [f6.2.2.2 j, if_pos (by omega)]; rfl, kp3.put p6 (Nat.le_refl _)⟩, by rw [p6.2.2, bh3, hh0]; simp⟩, fun fs hl => c8.trans (X8.areturnOut hexec rfl hret rfl (hb hbytes d58) hl)⟩
end Cmp3
namespace CodL
def yN : MethodName := ⟨"java/lang/StringUTF16", "coderFromArrayLen", "([BI)B"⟩
abbrev yB : ByteArray := jdk_52_method_15_code
theorem d0 : decode yB 0 = .ok (.iload_n 1, 1) := by decide +kernel
theorem d1 : decode yB 1 = .ok (.aload_n 0, 1) := by decide +kernel
theorem d2 : decode yB 2 = .ok (.arraylength, 1) := by decide +kernel
theorem d3 : decode yB 3 = .ok (.isub, 1) := by decide +kernel
theorem d4 : decode yB 4 = .ok (.bipush 31, 2) := by decide +kernel
theorem d6 : decode yB 6 = .ok (.iushr, 1) := by decide +kernel
theorem d7 : decode yB 7 = .ok (.i2b, 1) := by decide +kernel
theorem d8 : decode yB 8 = .ok (.ireturn, 1) := by decide +kernel
def site : List Cond := []
def tab : Cond := tabOf yN yB 2 (some .byte) site
def P (d : Addr) (B : Cell) (args : Array Value) (s : State) : Prop := args = #[.ref d, .int (Int32.ofNat B.slots.size)] ∧ Arr .byte d B s
def E (r : Option Value) (s u : State) : Prop := XT.PureE (some (.int 0)) r s u
/-- an array as long as the number of chars: LATIN1 -/
theorem law (l : Launch) (d : Addr) (B : Cell) : Law l yN 2 2 0 0 yB 2 (some .byte) site (P d B) E [] 0 0 := by
  refine Law.of_walk (plainFor_of_name (by decide +kernel)) (by decide +kernel) (by decide +kernel) (by decide) (fun _ _ h => by rw [h.1]; rfl) (fun _ U U' hal hh h => ⟨h.1, h.2.mv hal hh⟩) (fun r U U' V V' h1 hal h2 h => XT.PureE.mv r U U' V V' h1 hal h2 h) ?_
  intro p e s m args below meth c s₁ X0 hexec hbytes hml hret hlk hnm hown hh0 W hP
  obtain ⟨rfl, hB⟩ := hP
  have hB0 := hB.mv X0.warmed.alike hh0
  have c1 : Steps p.tables e below (s₁.setTop (entryFrame m #[.ref d, .int (Int32.ofNat B.slots.size)] 2)) (s₁.setTop (mkF m 0 #[.val (.ref d), .val (.int (Int32.ofNat B.slots.size))] [])) := entry rfl
  have c2 : Steps p.tables e below (s₁.setTop (entryFrame m #[.ref d, .int (Int32.ofNat B.slots.size)] 2)) (s₁.setTop (mkF m 2 #[.val (.ref d), .val (.int (Int32.ofNat B.slots.size))] [.ref d, .int (Int32.ofNat B.slots.size)])) := c1.trans (by
    refine XS.iloadN X0.here hexec rfl (hb hbytes d0) rfl ?_
    refine XS.aloadN X0.here hexec rfl (hb hbytes d1) rfl rfl ?_
    exact Steps.refl _)
  have c3 : Steps p.tables e below (s₁.setTop (entryFrame m #[.ref d, .int (Int32.ofNat B.slots.size)] 2)) (s₁.setTop (mkF m 8 #[.val (.ref d), .val (.int (Int32.ofNat B.slots.size))] [.int (lo8 (ushr (Int32.ofNat B.slots.size - Int32.ofNat B.slots.size) 31))])) := c2.trans (by
    refine X0.alen hexec hB0 rfl rfl (hb hbytes d2) ?_
    refine XS.isub X0.here hexec rfl (hb hbytes d3) rfl ?_
    refine bipushV X0.here hexec rfl 31 (hb hbytes d4) (by decide) ?_
    refine iushr X0.here hexec rfl (hb hbytes d6) rfl ?_
    refine i2b X0.here hexec rfl (hb hbytes d7) rfl ?_
    exact Steps.refl _)
  have e0 : lo8 (ushr (Int32.ofNat B.slots.size - Int32.ofNat B.slots.size) 31) = 0 := by rw [Int32.sub_self]; decide
  rw [e0] at c3
  exact ⟨s₁, some (.int 0), _, _, _, X0, rfl, rfl, rfl, (fun h => by cases h), ⟨rfl, hh0⟩, fun fs hl => c3.trans (X0.ireturnOut hexec hret rfl (Or.inr (Or.inr (Or.inl rfl))) (hb hbytes d8) hl)⟩
end CodL
/-- the String at a is Latin-1 over a new byte[] (the heap's one new cell): the low bytes of the len chars of A from o on; every cell but a is kept -/
def Got (a : Addr) (D : Cell) (fV fC : Field) (A : Cell) (o len : Nat) (r : Option Value) (s u : State) : Prop := r = none ∧ ∃ D' V : Cell, Blank "java/lang/String" a D' u ∧ Same D D' [fV.slot, fC.slot] ∧ D'.slots[fV.slot]? = some (.ref s.heap.size) ∧ D'.slots[fC.slot]? = some (.int 0) ∧ Arr .byte s.heap.size V u ∧ V.vm = .none ∧ u.vm.findClass "[B" = some V.cls ∧ V.slots.size = len ∧ (∀ j, j < len → V.slots[j]? = some (.int (lo8 (cv A (o + j))))) ∧ (∀ (y : Addr) (c : Cell), y ≠ a → s.heap[y]? = some c → u.heap[y]? = some c) ∧ u.heap.size = s.heap.size + 1
theorem Got.mv {a : Addr} {D A : Cell} {fV fC : Field} {o len : Nat} : ∀ r (U U' V V' : State), U'.heap = U.heap → V.vm.Alike V'.vm → V'.heap = V.heap → Got a D fV fC A o len r U V → Got a D fV fC A o len r U' V' :=
  fun r U U' V V' h1 hal h2 ⟨e0, D', X, a1, a2, a3, a4, a5, a6, a7, a8, a9, a10, a11⟩ => ⟨e0, D', X, a1.mv hal h2, a2, by rw [h1]; exact a3, a4, by rw [h1]; exact a5.mv hal h2, a6, by rw [hal.findClass]; exact a7, a8, a9, by rw [h1, h2]; exact a10, by rw [h1, h2]; exact a11⟩
namespace New4
def yN : MethodName := ⟨"java/lang/String", "<init>", "([CIILjava/lang/Void;)V"⟩
abbrev yB : ByteArray := jdk_42_method_149_code
theorem d0 : decode yB 0 = .ok (.aload_n 0, 1) := by decide +kernel
theorem d1 : decode yB 1 = .ok (.invokespecial 1, 3) := by decide +kernel
theorem d4 : decode yB 4 = .ok (.iload_n 3, 1) := by decide +kernel
theorem d5 : decode yB 5 = .ok (.ifCond (.ne) 22, 3) := by decide +kernel
theorem d27 : decode yB 27 = .ok (.getstatic 38, 3) := by decide +kernel
theorem d30 : decode yB 30 = .ok (.ifCond (.eq) 28, 3) := by decide +kernel
theorem d33 : decode yB 33 = .ok (.aload_n 1, 1) := by decide +kernel
theorem d34 : decode yB 34 = .ok (.iload_n 2, 1) := by decide +kernel
theorem d35 : decode yB 35 = .ok (.iload_n 3, 1) := by decide +kernel
theorem d36 : decode yB 36 = .ok (.invokestatic 177, 3) := by decide +kernel
theorem d39 : decode yB 39 = .ok (.astore 5, 2) := by decide +kernel
theorem d41 : decode yB 41 = .ok (.aload_n 0, 1) := by decide +kernel
theorem d42 : decode yB 42 = .ok (.aload 5, 2) := by decide +kernel
theorem d44 : decode yB 44 = .ok (.iload_n 3, 1) := by decide +kernel
theorem d45 : decode yB 45 = .ok (.invokestatic 47, 3) := by decide +kernel
theorem d48 : decode yB 48 = .ok (.putfield 15, 3) := by decide +kernel
theorem d51 : decode yB 51 = .ok (.aload_n 0, 1) := by decide +kernel
theorem d52 : decode yB 52 = .ok (.aload 5, 2) := by decide +kernel
theorem d54 : decode yB 54 = .ok (.putfield 9, 3) := by decide +kernel
theorem d57 : decode yB 57 = .ok (.return_, 1) := by decide +kernel
def site : List Cond := [.fieldLink "java/lang/String" 38 "java/lang/String" "COMPACT_STRINGS" "Z", Cmp3.tab, CodL.tab, .laysFinal "java/lang/String" "java/lang/String" "value" "[B", .fieldLink "java/lang/String" 9 "java/lang/String" "value" "[B", .laysFinal "java/lang/String" "java/lang/String" "coder" "B", .fieldLink "java/lang/String" 15 "java/lang/String" "coder" "B"] ++ objW "java/lang/String" 1 ++ staticW "java/lang/String" 177 Cmp3.yN ++ staticW "java/lang/String" 47 CodL.yN
def tab : Cond := tabOf yN yB 6 none site
def P (a : Addr) (D : Cell) (fV fC : Field) (b : Addr) (A : Cell) (z : Int32) (o len : Nat) (args : Array Value) (s : State) : Prop := args = #[.ref a, .ref b, .int (Int32.ofNat o), .int (Int32.ofNat len), .null] ∧ Blank "java/lang/String" a D s ∧ Found "java/lang/String" "value" "[B" fV s ∧ Found "java/lang/String" "coder" "B" fC s ∧ Ch b A s ∧ StaticIs s "java/lang/String" "COMPACT_STRINGS" "Z" (.int z) ∧ ¬ z = 0 ∧ 0 < len ∧ o + len ≤ A.slots.size ∧ len ≤ 536870912 ∧ ∀ i, i < len → ¬ 255 < cv A (o + i)
def E (a : Addr) (D : Cell) (fV fC : Field) (A : Cell) (o len : Nat) (r : Option Value) (s u : State) : Prop := Got a D fV fC A o len r s u
/-- len > 0, no char of the range above 255: a Latin-1 String of their low bytes -/
theorem law (l : Launch) (a : Addr) (D : Cell) (fV fC : Field) (b : Addr) (A : Cell) (z : Int32) (o len : Nat) : Law l yN 5 4 2 35 yB 6 none site (P a D fV fC b A z o len) (E a D fV fC A o len) [⟨a, fC.slot⟩, ⟨a, fV.slot⟩] 1 len := by
  refine Law.of_walk (plainFor_of_name (by decide +kernel)) (by decide +kernel) (by decide +kernel) (by decide) (fun _ _ h => by rw [h.1]; rfl) (fun _ U U' hal hh h => ⟨h.1, h.2.1.mv hal hh, h.2.2.1.al hal, h.2.2.2.1.al hal, h.2.2.2.2.1.mv hal hh, h.2.2.2.2.2.1.there hal hh, h.2.2.2.2.2.2⟩) (fun r U U' V V' h1 hal h2 h => Got.mv r U U' V V' h1 hal h2 h) ?_
  intro p e s m args below meth c s₁ X0 hexec hbytes hml hret hlk hnm hown hh0 W hP
  obtain ⟨rfl, hB, f1, f2, hA, s1, hz, l0, l1, l2, hp⟩ := hP
  have a31 := hA.1.2.2.2
  have c1 : Steps p.tables e below (s₁.setTop (entryFrame m #[.ref a, .ref b, .int (Int32.ofNat o), .int (Int32.ofNat len), .null] 6)) (s₁.setTop (mkF m 0 #[.val (.ref a), .val (.ref b), .val (.int (Int32.ofNat o)), .val (.int (Int32.ofNat len)), .val .null, .unset] [])) := entry rfl
  have c2 : Steps p.tables e below (s₁.setTop (entryFrame m #[.ref a, .ref b, .int (Int32.ofNat o), .int (Int32.ofNat len), .null] 6)) (s₁.setTop (mkF m 1 #[.val (.ref a), .val (.ref b), .val (.int (Int32.ofNat o)), .val (.int (Int32.ofNat len)), .val .null, .unset] [.ref a])) := c1.trans (by
    refine XS.aloadN X0.here hexec rfl (hb hbytes d0) rfl rfl ?_
    exact Steps.refl _)
  obtain ⟨T3, X3, q3, st3⟩ := X0.oinit hexec hown (wks W (objW "java/lang/String" 1)) (g := (mkF m 1 #[.val (.ref a), .val (.ref b), .val (.int (Int32.ofNat o)), .val (.int (Int32.ofNat len)), .val .null, .unset] [.ref a])) rfl (by rw [hml]; rfl) (rest := []) rfl (hb hbytes d1) (W := 0) (by show 2 * 0 + 0 ≤ _; decide) (Nat.le_of_ble_eq_true rfl) (Nat.le_of_ble_eq_true rfl)
  have hh3 := q3.trans hh0
  have c4 : Steps p.tables e below (s₁.setTop (entryFrame m #[.ref a, .ref b, .int (Int32.ofNat o), .int (Int32.ofNat len), .null] 6)) (T3.setTop (mkF m 27 #[.val (.ref a), .val (.ref b), .val (.int (Int32.ofNat o)), .val (.int (Int32.ofNat len)), .val .null, .unset] [])) := (c2.trans (st3 _ (Steps.refl _))).trans (by
    refine XS.iloadN X3.here hexec rfl (hb hbytes d4) rfl ?_
    refine XS.ifYes X3.here hexec rfl (pc0 := 5) rfl (hb hbytes d5) rfl (i0_ne_t (nz32 (by omega) l0)) (by decide) rfl ?_
    exact Steps.refl _)
  obtain ⟨T5, X5, q5, st5⟩ := X3.sget hexec hown (wk W (.fieldLink "java/lang/String" 38 "java/lang/String" "COMPACT_STRINGS" "Z")) s1 (fun _ _ h => by rw [hh3]; exact h) (g := (mkF m 27 #[.val (.ref a), .val (.ref b), .val (.int (Int32.ofNat o)), .val (.int (Int32.ofNat len)), .val .null, .unset] [])) rfl (hb hbytes d27)
  have hh5 := q5.trans hh3
  have c6 : Steps p.tables e below (s₁.setTop (entryFrame m #[.ref a, .ref b, .int (Int32.ofNat o), .int (Int32.ofNat len), .null] 6)) (T5.setTop (mkF m 30 #[.val (.ref a), .val (.ref b), .val (.int (Int32.ofNat o)), .val (.int (Int32.ofNat len)), .val .null, .unset] [.int z])) := c4.trans (st5 _ (Steps.refl _))
  have c7 : Steps p.tables e below (s₁.setTop (entryFrame m #[.ref a, .ref b, .int (Int32.ofNat o), .int (Int32.ofNat len), .null] 6)) (T5.setTop (mkF m 36 #[.val (.ref a), .val (.ref b), .val (.int (Int32.ofNat o)), .val (.int (Int32.ofNat len)), .val .null, .unset] [.int (Int32.ofNat len), .int (Int32.ofNat o), .ref b])) := c6.trans (by
    refine XS.ifNo X5.here hexec rfl (hb hbytes d30) rfl (i0_eq_f hz) ?_
    refine XS.aloadN X5.here hexec rfl (hb hbytes d33) rfl rfl ?_
    refine XS.iloadN X5.here hexec rfl (hb hbytes d34) rfl ?_
    refine XS.iloadN X5.here hexec rfl (hb hbytes d35) rfl ?_
    exact Steps.refl _)
  obtain ⟨v8, T8, X8, E8, g8⟩ := X5.callS hexec (Cmp3.law l b A o len) hown (wks W (staticW "java/lang/String" 177 Cmp3.yN)) (wk W Cmp3.tab) (W := 0) (Nat.le_of_ble_eq_true rfl) (Nat.le_of_ble_eq_true rfl) (Nat.le_refl _) (by show 0 + len ≤ len; omega) (g := (mkF m 36 #[.val (.ref a), .val (.ref b), .val (.int (Int32.ofNat o)), .val (.int (Int32.ofNat len)), .val .null, .unset] [.int (Int32.ofNat len), .int (Int32.ofNat o), .ref b])) rfl (by rw [hml]; rfl) c7 (argsL := [.ref b, .int (Int32.ofNat o), .int (Int32.ofNat len)]) (rest := []) rfl rfl (by show 2 * 0 + 0 ≤ _; decide) (hb hbytes d36) (⟨rfl, hA.mv X5.warmed.alike hh5, l1, l2, hp⟩)
  obtain ⟨e8, z8⟩ := E8
  obtain ⟨rfl, N, n1, n2, n3, n4, n5, n6⟩ := NewArr.mv _ T5 s _ _ hh5.symm (Vm.Alike.refl _) rfl e8
  rw [hh5] at z8
  have hB1 := hB.keep X8.warmed.alike (n6 _ _ hB.1)
  have hne : s.heap.size ≠ a := (Nat.ne_of_lt (Array.getElem?_eq_some_iff.mp hB.1).1).symm
  have c9 : Steps p.tables e below (s₁.setTop (entryFrame m #[.ref a, .ref b, .int (Int32.ofNat o), .int (Int32.ofNat len), .null] 6)) (T8.setTop (mkF m 39 #[.val (.ref a), .val (.ref b), .val (.int (Int32.ofNat o)), .val (.int (Int32.ofNat len)), .val .null, .unset] [.ref s.heap.size])) := g8
  have c10 : Steps p.tables e below (s₁.setTop (entryFrame m #[.ref a, .ref b, .int (Int32.ofNat o), .int (Int32.ofNat len), .null] 6)) (T8.setTop (mkF m 45 #[.val (.ref a), .val (.ref b), .val (.int (Int32.ofNat o)), .val (.int (Int32.ofNat len)), .val .null, .val (.ref s.heap.size)] [.int (Int32.ofNat N.slots.size), .ref s.heap.size, .ref a])) := by
    have hc : Steps p.tables e below (s₁.setTop (entryFrame m #[.ref a, .ref b, .int (Int32.ofNat o), .int (Int32.ofNat len), .null] 6)) (T8.setTop (mkF m 45 #[.val (.ref a), .val (.ref b), .val (.int (Int32.ofNat o)), .val (.int (Int32.ofNat len)), .val .null, .val (.ref s.heap.size)] [.int (Int32.ofNat len), .ref s.heap.size, .ref a])) := c9.trans (by
      refine XS.astore X8.here hexec rfl (hb hbytes d39) rfl rfl rfl ?_
      refine XS.aloadN X8.here hexec rfl (hb hbytes d41) rfl rfl ?_
      refine XS.aload X8.here hexec rfl (hb hbytes d42) rfl rfl ?_
      refine XS.iloadN X8.here hexec rfl (hb hbytes d44) rfl ?_
      exact Steps.refl _)
    rw [n4]; exact hc
  obtain ⟨v11, T11, X11, E11, g11⟩ := X8.callS hexec (CodL.law l s.heap.size N) hown (wks W (staticW "java/lang/String" 47 CodL.yN)) (wk W CodL.tab) (W := 1) (Nat.le_of_ble_eq_true rfl) (Nat.le_of_ble_eq_true rfl) (Nat.le_refl _) (by show 0 + len + 0 ≤ len; omega) (g := (mkF m 45 #[.val (.ref a), .val (.ref b), .val (.int (Int32.ofNat o)), .val (.int (Int32.ofNat len)), .val .null, .val (.ref s.heap.size)] [.int (Int32.ofNat N.slots.size), .ref s.heap.size, .ref a])) rfl (by rw [hml]; rfl) c10 (argsL := [.ref s.heap.size, .int (Int32.ofNat N.slots.size)]) (rest := [.ref a]) rfl rfl (by show 2 * 0 + (1 + 0) ≤ _; decide) (hb hbytes d45) (⟨rfl, n1⟩)
  obtain ⟨rfl, q11⟩ := E11
  have hB11 := hB1.mv (X8.warmed.alike.symm.trans X11.warmed.alike) q11
  have c12 : Steps p.tables e below (s₁.setTop (entryFrame m #[.ref a, .ref b, .int (Int32.ofNat o), .int (Int32.ofNat len), .null] 6)) (T11.setTop (mkF m 48 #[.val (.ref a), .val (.ref b), .val (.int (Int32.ofNat o)), .val (.int (Int32.ofNat len)), .val .null, .val (.ref s.heap.size)] [.int 0, .ref a])) := g11
  obtain ⟨T13, X13, p13, bl13, sl13, st13⟩ := X11.finit hexec hown (wk W (.fieldLink "java/lang/String" 15 "java/lang/String" "coder" "B")) (Or.inr ⟨_, (wk W (.laysFinal "java/lang/String" "java/lang/String" "coder" "B"))⟩) (Or.inl ⟨rfl, hnm⟩) f2 (Or.inl rfl) hB11 (t := .byte) (by decide +kernel) rfl (g := (mkF m 48 #[.val (.ref a), .val (.ref b), .val (.int (Int32.ofNat o)), .val (.int (Int32.ofNat len)), .val .null, .val (.ref s.heap.size)] [.int 0, .ref a])) rfl (rest := []) rfl (hb hbytes d48)
  have c14 : Steps p.tables e below (s₁.setTop (entryFrame m #[.ref a, .ref b, .int (Int32.ofNat o), .int (Int32.ofNat len), .null] 6)) (T13.setTop (mkF m 54 #[.val (.ref a), .val (.ref b), .val (.int (Int32.ofNat o)), .val (.int (Int32.ofNat len)), .val .null, .val (.ref s.heap.size)] [.ref s.heap.size, .ref a])) := (c12.trans (st13 _ (Steps.refl _))).trans (by
    refine XS.aloadN X13.here hexec rfl (hb hbytes d51) rfl rfl ?_
    refine XS.aload X13.here hexec rfl (hb hbytes d52) rfl rfl ?_
    exact Steps.refl _)
  obtain ⟨T15, X15, p15, bl15, sl15, st15⟩ := X13.finit hexec hown (wk W (.fieldLink "java/lang/String" 9 "java/lang/String" "value" "[B")) (Or.inr ⟨_, (wk W (.laysFinal "java/lang/String" "java/lang/String" "value" "[B"))⟩) (Or.inl ⟨rfl, hnm⟩) f1 (Or.inl rfl) bl13 (t := (.array .byte)) (by decide +kernel) rfl (g := (mkF m 54 #[.val (.ref a), .val (.ref b), .val (.int (Int32.ofNat o)), .val (.int (Int32.ofNat len)), .val .null, .val (.ref s.heap.size)] [.ref s.heap.size, .ref a])) rfl (rest := []) rfl (hb hbytes d54)
  have c16 : Steps p.tables e below (s₁.setTop (entryFrame m #[.ref a, .ref b, .int (Int32.ofNat o), .int (Int32.ofNat len), .null] 6)) (T15.setTop (mkF m 57 #[.val (.ref a), .val (.ref b), .val (.int (Int32.ofNat o)), .val (.int (Int32.ofNat len)), .val .null, .val (.ref s.heap.size)] [])) := c14.trans (st15 _ (Steps.refl _))
  have ap := apart (Or.inr ⟨_, (wk W (.laysFinal "java/lang/String" "java/lang/String" "value" "[B"))⟩) (Or.inr ⟨_, (wk W (.laysFinal "java/lang/String" "java/lang/String" "coder" "B"))⟩) f1 f2 (t₁ := .array .byte) (t₂ := .byte) (by decide +kernel) (by decide +kernel) (by decide)
  have al := X8.warmed.alike.symm.trans X15.warmed.alike
  have n7 : T11.heap[s.heap.size]? = some N := by rw [q11]; exact n1.1
  exact ⟨T15, none, _, _, _, X15, by simp, rfl, by omega, (fun _ => rfl), ⟨rfl, _, N, bl15, ((Same.refl D _).set _ (by simp)).set _ (by simp), sl15, (Cell.slots_setSlot_ne _ ap).trans sl13, n1.keep al (p15.other hne (p13.other hne n7)), n2, by rw [al.findClass]; exact n3, n4, n5, fun y c h1 h2 => p15.other h1 (p13.other h1 (by rw [q11]; exact n6 y c h2)), by rw [p15.2.2, p13.2.2, q11]; exact z8⟩, fun fs hl => c16.trans (X15.returnOut hexec hret (hb hbytes d57) hl)⟩
end New4
namespace New1
def yN : MethodName := ⟨"java/lang/String", "<init>", "([C)V"⟩
abbrev yB : ByteArray := jdk_42_method_3_code
theorem d0 : decode yB 0 = .ok (.aload_n 0, 1) := by decide +kernel
theorem d1 : decode yB 1 = .ok (.aload_n 1, 1) := by decide +kernel
theorem d2 : decode yB 2 = .ok (.iconst 0, 1) := by decide +kernel
theorem d3 : decode yB 3 = .ok (.aload_n 1, 1) := by decide +kernel
theorem d4 : decode yB 4 = .ok (.arraylength, 1) := by decide +kernel
theorem d5 : decode yB 5 = .ok (.aconst_null, 1) := by decide +kernel
theorem d6 : decode yB 6 = .ok (.invokespecial 27, 3) := by decide +kernel
theorem d9 : decode yB 9 = .ok (.return_, 1) := by decide +kernel
def site : List Cond := [New4.tab] ++ initW "java/lang/String" 27 New4.yN
def tab : Cond := tabOf yN yB 2 none site
def P (a : Addr) (D : Cell) (fV fC : Field) (b : Addr) (A : Cell) (z : Int32) (args : Array Value) (s : State) : Prop := args = #[.ref a, .ref b] ∧ Blank "java/lang/String" a D s ∧ Found "java/lang/String" "value" "[B" fV s ∧ Found "java/lang/String" "coder" "B" fC s ∧ Ch b A s ∧ StaticIs s "java/lang/String" "COMPACT_STRINGS" "Z" (.int z) ∧ ¬ z = 0 ∧ 0 < A.slots.size ∧ A.slots.size ≤ 536870912 ∧ ∀ i, i < A.slots.size → ¬ 255 < cv A i
def E (a : Addr) (D : Cell) (fV fC : Field) (A : Cell) (r : Option Value) (s u : State) : Prop := Got a D fV fC A 0 A.slots.size r s u
/-- new String(chars), not empty, no char above 255: a Latin-1 String of their low bytes -/
theorem law (l : Launch) (a : Addr) (D : Cell) (fV fC : Field) (b : Addr) (A : Cell) (z : Int32) : Law l yN 2 1 3 52 yB 2 none site (P a D fV fC b A z) (E a D fV fC A) [⟨a, fC.slot⟩, ⟨a, fV.slot⟩] 1 A.slots.size := by
  refine Law.of_walk (plainFor_of_name (by decide +kernel)) (by decide +kernel) (by decide +kernel) (by decide) (fun _ _ h => by rw [h.1]; rfl) (fun _ U U' hal hh h => ⟨h.1, h.2.1.mv hal hh, h.2.2.1.al hal, h.2.2.2.1.al hal, h.2.2.2.2.1.mv hal hh, h.2.2.2.2.2.1.there hal hh, h.2.2.2.2.2.2⟩) (fun r U U' V V' h1 hal h2 h => Got.mv r U U' V V' h1 hal h2 h) ?_
  intro p e s m args below meth c s₁ X0 hexec hbytes hml hret hlk hnm hown hh0 W hP
  obtain ⟨rfl, hB, f1, f2, hA, s1, hz, l0, l2, hp⟩ := hP
  have c1 : Steps p.tables e below (s₁.setTop (entryFrame m #[.ref a, .ref b] 2)) (s₁.setTop (mkF m 0 #[.val (.ref a), .val (.ref b)] [])) := entry rfl
  have c2 : Steps p.tables e below (s₁.setTop (entryFrame m #[.ref a, .ref b] 2)) (s₁.setTop (mkF m 6 #[.val (.ref a), .val (.ref b)] [.null, .int (Int32.ofNat A.slots.size), .int 0, .ref b, .ref a])) := c1.trans (by
    refine XS.aloadN X0.here hexec rfl (hb hbytes d0) rfl rfl ?_
    refine XS.aloadN X0.here hexec rfl (hb hbytes d1) rfl rfl ?_
    refine iconstV X0.here hexec rfl 0 (hb hbytes d2) (by decide) ?_
    refine XS.aloadN X0.here hexec rfl (hb hbytes d3) rfl rfl ?_
    refine X0.alen hexec (hA.1.mv X0.warmed.alike hh0) rfl rfl (hb hbytes d4) ?_
    refine XS.aconstNull X0.here hexec rfl (hb hbytes d5) ?_
    exact Steps.refl _)
  obtain ⟨v3, T3, X3, E3, g3⟩ := X0.callN hexec (New4.law l a D fV fC b A z 0 A.slots.size) rfl hown (wks W (initW "java/lang/String" 27 New4.yN)) (W New4.tab (by simp only [site, List.mem_cons, List.mem_append, true_or, or_true])) (W := 0) (Nat.le_of_ble_eq_true rfl) (Nat.le_of_ble_eq_true rfl) (Nat.le_refl _) (by show 0 + A.slots.size ≤ A.slots.size; omega) (g := (mkF m 6 #[.val (.ref a), .val (.ref b)] [.null, .int (Int32.ofNat A.slots.size), .int (Int32.ofNat 0), .ref b, .ref a])) rfl (by rw [hml]; rfl) c2 (argsL := [.ref b, .int (Int32.ofNat 0), .int (Int32.ofNat A.slots.size), .null]) (rest := []) rfl rfl (by show 2 * 0 + 0 ≤ _; decide) (hb hbytes d6) (⟨rfl, hB.mv X0.warmed.alike hh0, f1.al X0.warmed.alike, f2.al X0.warmed.alike, hA.mv X0.warmed.alike hh0, s1.there X0.warmed.alike hh0, hz, l0, by omega, l2, fun i hi => by rw [Nat.zero_add]; exact hp i hi⟩)
  have e0 := Got.mv _ s₁ s _ _ hh0.symm (Vm.Alike.refl _) rfl E3
  obtain rfl := e0.1
  have c4 : Steps p.tables e below (s₁.setTop (entryFrame m #[.ref a, .ref b] 2)) (T3.setTop (mkF m 9 #[.val (.ref a), .val (.ref b)] [])) := g3
  exact ⟨T3, none, _, _, _, X3, by simp, rfl, by omega, (fun _ => rfl), e0, fun fs hl => c4.trans (X3.returnOut hexec hret (hb hbytes d9) hl)⟩
theorem pays {l : Launch} {R : Room} {p : Program} {e : Env} {below : List Frame} {s : State} {sargs : Array Value} {len W : Nat} (a : Addr) (D : Cell) (fV fC : Field) (b : Addr) (A : Cell) (z : Int32) (htab : tab.before sargs s = true) (hfr : 4 ≤ R.frames) (hlo : W + 65 ≤ R.locals) :
    Back l R p e below s sargs yN len W (fun A₁ a₁ => A₁.cells + 1 ≤ R.cells ∧ A₁.slots + A.slots.size ≤ R.slots ∧ P a D fV fC b A z a₁ A₁.U) (fun A₁ _ v₁ B₁ => E a D fV fC A v₁ A₁.U B₁.U ∧ B₁.locs = A₁.locs ++ [⟨a, fC.slot⟩, ⟨a, fV.slot⟩] ∧ B₁.cells = A₁.cells + 1 ∧ B₁.slots = A₁.slots + A.slots.size) :=
  (law l a D fV fC b A z).pays htab hfr (by omega)
end New1
/-- the byte, read back as charAt reads it, is the char -/
theorem lo8_mask {x : Int32} (h0 : ¬ x < 0) (h1 : ¬ 255 < x) : lo8 x &&& 255 = x := by
  have t : ∀ k : Fin 256, lo8 (Int32.ofNat k.val) &&& 255 = Int32.ofNat k.val := by decide +kernel
  rw [Int32.lt_iff_toInt_lt] at h0 h1
  have e0 : (0 : Int32).toInt = 0 := rfl
  have e1 : (255 : Int32).toInt = 255 := rfl
  obtain ⟨k, hk⟩ : ∃ k : Nat, x.toInt = k := ⟨x.toInt.toNat, by omega⟩
  have hx : x = Int32.ofNat k := Int32.toInt_inj.mp (by rw [hk, Int32.toInt_ofNat_small (by omega)])
  rw [hx]
  exact t ⟨k, by omega⟩
end StrChars
namespace StrChars.Road
open Jvm Sem ClassFile Op Lib Jvm.Stand Jvm.Free Jvm.Free.XT
open Jvm.Lib.Cold (StaticIs)
abbrev ST : String := "java/lang/String"
/-- every table word that New1's law asks, flat -/
abbrev words : List Jvm.Cond := [.code New1.yN New1.yB 2 none, .initialized ST, .methodLink ST 27 New4.yN, .instanceMethod New4.yN,
  .code New4.yN New4.yB 6 none, .fieldLink ST 38 ST "COMPACT_STRINGS" "Z", .laysFinal ST ST "value" "[B", .fieldLink ST 9 ST "value" "[B", .laysFinal ST ST "coder" "B", .fieldLink ST 15 ST "coder" "B",
  .methodLink ST 1 Lib.objectInit, .instanceMethod Lib.objectInit, .code Lib.objectInit ⟨#[0xb1]⟩ 1 none, .methodLink ST 177 Cmp3.yN, .static Cmp3.yN, .methodLink ST 47 CodL.yN, .static CodL.yN,
  .code Cmp3.yN Cmp3.yB 6 (some (.array .byte)), .initialized U16, .arrayClass .byte, .methodLink U16 115 Cmp5.yN, .static Cmp5.yN, .code Cmp5.yN Cmp5.yB 7 (some .int), .code CodL.yN CodL.yB 2 (some .byte)]
theorem tab_of {a : Array Value} {s : State} (h : ∀ w ∈ words, w.before a s = true) : New1.tab.before a s = true := by
  have h5 : Cmp5.tab.before a s = true := unparts (wk h (.code Cmp5.yN Cmp5.yB 7 (some .int))) (wks h (.initialized Cmp5.yN.cls :: Cmp5.site))
  have hc : CodL.tab.before a s = true := unparts (wk h (.code CodL.yN CodL.yB 2 (some .byte))) (wks h (.initialized CodL.yN.cls :: CodL.site))
  have q5 : ∀ w ∈ Cmp5.tab :: words, w.before a s = true := fun w hw => (List.mem_cons.mp hw).elim (fun e => e ▸ h5) (h w)
  have h3 : Cmp3.tab.before a s = true := unparts (wk q5 (.code Cmp3.yN Cmp3.yB 6 (some (.array .byte)))) (wks q5 (.initialized Cmp3.yN.cls :: Cmp3.site))
  have q3 : ∀ w ∈ Cmp3.tab :: CodL.tab :: words, w.before a s = true := fun w hw => (List.mem_cons.mp hw).elim (fun e => e ▸ h3) fun hw => (List.mem_cons.mp hw).elim (fun e => e ▸ hc) (h w)
  have h4 : New4.tab.before a s = true := unparts (wk q3 (.code New4.yN New4.yB 6 none)) (wks q3 (.initialized New4.yN.cls :: New4.site))
  have q4 : ∀ w ∈ New4.tab :: words, w.before a s = true := fun w hw => (List.mem_cons.mp hw).elim (fun e => e ▸ h4) (h w)
  exact unparts (wk q4 (.code New1.yN New1.yB 2 none)) (wks q4 (.initialized New1.yN.cls :: New1.site))
/-- the words ride from the start Z to the walk's own state -/
theorem moved {Z s : State} {a0 args : Array Value} (hZ : Z.Warmed39 s.vm) (hw : ∀ d ∈ words, d.before a0 Z = true) : ∀ d ∈ words, d.before args s = true := fun d hd => by
  have q := hw d hd
  have t : ∀ d ∈ words, d = .arrayClass .byte ∨ (d.onTables && d.keepsFace) = true := by decide +kernel
  rcases t d hd with rfl | t
  · exact RoadKit.mvA hZ q
  · exact RoadKit.mv hZ q t
/-- WHAT COMES BACK, over the tables of the start Z: h the heap at the call, h' behind it -/
def Q (Z : State) (x : Addr) (A : Cell) (h : Heap) (v : Option Value) (h' : Heap) (L : List Loc) : Prop := v = none ∧ (∀ y ∈ L, y.base = x) ∧ RoadKit.Keep h h' [x] ∧ h'.size = h.size + 1 ∧ RoadKit.Exa Z h' x ST ∧ RoadKit.Fld Z h' x ST "value" "[B" (.ref h.size) ∧ RoadKit.Fld Z h' x ST "coder" "B" (.int 0) ∧
  (∃ V : Cell, RoadKit.Arr Z h' h.size V .byte ∧ V.vm = .none ∧ Z.vm.findClass "[B" = some V.cls ∧ V.slots.size = A.slots.size ∧ ∀ j, j < A.slots.size → V.slots[j]? = some (.int (lo8 (cv A j)))) ∧
  ∀ (O n d : String) (w : Value), RoadKit.Fld Z h x O n d w → RoadKit.slotOf Z O n d ≠ RoadKit.slotOf Z ST "value" "[B" → RoadKit.slotOf Z O n d ≠ RoadKit.slotOf Z ST "coder" "B" → RoadKit.Fld Z h' x O n d w
/-- **new String(chars) AT A CALL, IN THE ROAD'S FORM**: for specialBack behind newO: x the fresh String, b the char[] with the cell A -/
theorem back {p : Program} {l : Launch} {e : Env} {R : Room} {s : State} {args : Array Value} {below : List Frame} {len W : Nat} {Z : State} {a0 : Array Value} {h : Heap} (hZ : Z.Warmed39 s.vm) (hw : ∀ d ∈ words, d.before a0 Z = true) {kI : Nat} (wi : (Jvm.Cond.instantiable ST kI).before a0 Z = true)
    {x b : Addr} {A : Cell} {z : Int32} {v0 c0 : Value} (E : RoadKit.Exa Z h x ST) (V : RoadKit.Fld Z h x ST "value" "[B" v0) (C : RoadKit.Fld Z h x ST "coder" "B" c0) (K : RoadKit.Arr Z h b A .char) (hty : Typed .char A) (S : RoadKit.Sta Z h ST "COMPACT_STRINGS" "Z" (.int z)) (hz : ¬ z = 0)
    (l0 : 0 < A.slots.size) (l2 : A.slots.size ≤ 536870912) (hp : ∀ i, i < A.slots.size → ¬ 255 < cv A i) (hfr : 4 ≤ R.frames) (hlo : W + 65 ≤ R.locals) :
    Back l R p e below s args New1.yN len W (fun P a => a = #[.ref x, .ref b] ∧ P.U.heap = h ∧ P.cells + 1 ≤ R.cells ∧ P.slots + A.slots.size ≤ R.slots)
      (fun P _ v B => ∃ L, Q Z x A h v B.U.heap L ∧ B.locs = P.locs ++ L ∧ B.cells = P.cells + 1 ∧ B.slots = P.slots + A.slots.size) := by
  intro m meth c P g ig mk a X hg hsize hdg hW hn hp'
  obtain ⟨rfl, rfl, r1, r2⟩ := hp'
  have al : Z.vm.Alike P.U.vm := hZ.alike.trans X.warmed.alike
  obtain ⟨D, cfV, kV, iV, fV, hD, gV, stV, knV, obV, asV, slV⟩ := id V
  obtain ⟨D', cfC, kC, iC, fC, hD', gC, stC, -, -, asC, slC⟩ := id C
  cases hD.symm.trans hD'
  obtain ⟨D2, kD, e1, e2, e3, e4, e5⟩ := id E
  cases hD.symm.trans e1
  obtain ⟨c2, k2, i1, i2, i3, -⟩ := Cond.instantiable_spec wi
  cases e2.symm.trans i1
  cases e3.symm.trans i2
  obtain ⟨kU, u1, u2⟩ := al.2.2 _ _ e3
  have hB : Blank ST x D P.U := ⟨hD, ⟨knV, fun q hq => by rw [hq] at obV; cases obV⟩, by rw [al.findClass]; exact e2, kU, u1, by rw [u2]; exact i3, by rw [u2]; exact e5 i3⟩
  have F1 : Found ST "value" "[B" fV P.U := ⟨SBG.found_only al ⟨cfV, kV, iV, gV⟩, stV⟩
  have F2 : Found ST "coder" "B" fC P.U := ⟨SBG.found_only al ⟨cfC, kC, iC, gC⟩, stC⟩
  have hA : Ch b A P.U := ⟨⟨K.1, State.isArrayOf_alike al K.2.1, K.2.2, by omega⟩, hty⟩
  have hS : StaticIs P.U ST "COMPACT_STRINGS" "Z" (.int z) := by
    obtain ⟨cfS, iS, kS, fS, st, cS, t1, t2, t3, t4, t5, t6, t7⟩ := S
    exact StaticIs.there (s := { Z with heap := P.U.heap }) ⟨cfS, iS, kS, fS, st, cS, t1, t2, t3, t4, t5, (fun q => by rw [q] at t6; cases t6), t7⟩ al rfl
  obtain ⟨v, B, X', ⟨⟨hv, E', V', q1, q2, q3, q4, q5, q6, q7, q8, q9, q10, q11⟩, hl, hc, hs⟩, st⟩ := New1.pays x D fV fC b A z (tab_of (moved hZ hw)) hfr hlo m meth c P g ig mk _ X hg hsize hdg hW hn ⟨r1, r2, rfl, hB, F1, F2, hA, hS, hz, l0, l2, hp⟩
  have al' : Z.vm.Alike B.U.vm := hZ.alike.trans X'.warmed.alike
  have hsz : E'.slots.size = D.slots.size := by
    obtain ⟨-, -, -, kB, w1, w2, w3⟩ := q1
    obtain ⟨kB', y1, y2⟩ := al'.2.2 _ _ e3
    rw [q2.2.1] at w1
    cases w1.symm.trans y1
    rw [w3, e5 i3, y2]
  refine ⟨v, B, X', ⟨_, ⟨hv, ?_, ⟨by omega, fun y cy hy hn' => q10 y cy (by simpa using hn') hy, fun y cy hy => ?_⟩, q11, ⟨E', _, q1.1, by rw [q2.2.1]; exact e2, by rw [q2.2.1]; exact e3, by rw [q2.1]; exact obV, fun _ => by rw [hsz]; exact e5 i3⟩,
    ⟨E', cfV, kV, iV, fV, q1.1, gV, stV, by rw [q2.1]; exact knV, by rw [q2.1]; exact obV, by rw [q2.2.1]; exact asV, q3⟩, ⟨E', cfC, kC, iC, fC, q1.1, gC, stC, by rw [q2.1]; exact knV, by rw [q2.1]; exact obV, by rw [q2.2.1]; exact asC, q4⟩,
    ⟨V', ⟨q5.1, State.isArrayOf_alike al'.symm q5.2.1, q5.2.2.1⟩, q6, by rw [← al'.findClass]; exact q7, q8, fun j hj => by have := q9 j hj; rwa [Nat.zero_add] at this⟩, fun O n d w F n1 n2 => ?_⟩, hl, hc, hs⟩, st⟩
  · intro y hy
    simp only [List.mem_cons, List.not_mem_nil, or_false] at hy
    rcases hy with rfl | rfl <;> rfl
  · by_cases q : y = x
    · subst q
      cases hD.symm.trans hy
      exact ⟨E', q1.1, q2.2.1, q2.1, hsz⟩
    · exact ⟨cy, q10 y cy q hy, rfl, rfl, rfl⟩
  · obtain ⟨D3, cf, k, i, f, g1, g2, g3, g4, g5, g6, g7⟩ := F
    cases hD.symm.trans g1
    simp only [RoadKit.slotOf, g2, gV, gC, Option.map_some, Option.getD_some] at n1 n2
    exact ⟨E', cf, k, i, f, q1.1, g2, g3, by rw [q2.1]; exact g4, by rw [q2.1]; exact g5, by rw [q2.2.1]; exact g6, by rw [q2.2.2 f.slot (by simp [n1, n2])]; exact g7⟩
end StrChars.Road
namespace StrChars.Road
open Jvm Sem ClassFile Op Lib Jvm.Stand Jvm.Free Jvm.Free.XT
/-- WHAT COMES BACK, the byte[] as a list of values -/
def QA (Z : State) (x : Addr) (zn : Int32) (cs : List Int32) (h : Heap) (v : Option Value) (h' : Heap) (L : List Loc) : Prop := v = none ∧ (∀ y ∈ L, y.base = x) ∧ RoadKit.Keep h h' [x] ∧ h'.size = h.size + 1 ∧ RoadKit.Exa Z h' x ST ∧ RoadKit.Fld Z h' x ST "value" "[B" (.ref h.size) ∧ RoadKit.Fld Z h' x ST "coder" "B" (.int 0) ∧
  (∃ kb, Z.vm.findClass "[B" = some kb ∧ RoadKit.Arv Z h' h.size kb .byte zn (cs.map fun c => .int (lo8 c)) (.int 0)) ∧
  ∀ (O n d : String) (w : Value), RoadKit.Fld Z h x O n d w → RoadKit.slotOf Z O n d ≠ RoadKit.slotOf Z ST "value" "[B" → RoadKit.slotOf Z O n d ≠ RoadKit.slotOf Z ST "coder" "B" → RoadKit.Fld Z h' x O n d w
/-- **new String(chars) AT A CALL, THE ARRAYS AS LISTS**: the char[] at b holds cs, not empty, no char above 255 -/
theorem backArv {p : Program} {l : Launch} {e : Env} {R : Room} {s : State} {args : Array Value} {below : List Frame} {len W : Nat} {Z : State} {a0 : Array Value} {h : Heap} (hZ : Z.Warmed39 s.vm) (hw : ∀ d ∈ words, d.before a0 Z = true) {kI : Nat} (wi : (Jvm.Cond.instantiable ST kI).before a0 Z = true)
    {x b : Addr} {k : ClassId} {zn z : Int32} {cs : List Int32} {dv v0 c0 : Value} (E : RoadKit.Exa Z h x ST) (V : RoadKit.Fld Z h x ST "value" "[B" v0) (C : RoadKit.Fld Z h x ST "coder" "B" c0) (K : RoadKit.Arv Z h b k .char zn (cs.map Value.int) dv) (S : RoadKit.Sta Z h ST "COMPACT_STRINGS" "Z" (.int z)) (hz : ¬ z = 0)
    (hlen : zn.toNatClampNeg = cs.length) (h0 : 0 < cs.length) (hbig : cs.length ≤ 536870912) (hall : ∀ c ∈ cs, ¬ 255 < c) (hfr : 4 ≤ R.frames) (hlo : W + 65 ≤ R.locals) :
    Back l R p e below s args New1.yN len W (fun P a => a = #[.ref x, .ref b] ∧ P.U.heap = h ∧ P.cells + 1 ≤ R.cells ∧ P.slots + cs.length ≤ R.slots)
      (fun P _ v B => ∃ L, QA Z x zn cs h v B.U.heap L ∧ B.locs = P.locs ++ L ∧ B.cells = P.cells + 1 ∧ B.slots = P.slots + cs.length) := by
  obtain ⟨A, K1, K2, K3, K4, K5, K6⟩ := K
  have e : A.slots.size = cs.length := K3.trans hlen
  have hat : ∀ (i : Nat) (hi : i < cs.length), A.slots[i]? = some (.int cs[i]) := fun i hi => by rw [K5 i (by omega)]; simp [List.getD_eq_getElem?_getD, hi]
  have hcv : ∀ (i : Nat) (hi : i < cs.length), cv A i = cs[i] := fun i hi => by unfold cv; rw [hat i hi]
  have hty : Typed .char A := fun i v hv => by
    have hi : i < A.slots.size := (Array.getElem?_eq_some_iff.mp hv).1
    have q := K5 i hi
    rw [hv] at q
    rw [Option.some.inj q]
    exact K6 i hi
  refine Back.mono (back hZ hw wi E V C K1 hty S hz (by omega) (by omega) (fun i hi => by rw [hcv i (by omega)]; exact hall _ (List.getElem_mem _)) hfr hlo) (fun P a hp => ⟨hp.1, hp.2.1, hp.2.2.1, by rw [e]; exact hp.2.2.2⟩) (fun P a v B hp hq => ?_)
  obtain ⟨L, ⟨q1, q2, q3, q4, q5, q6, q7, ⟨V', v1, v2, v3, v4, v5⟩, q9⟩, hl, hc, hs⟩ := hq
  refine ⟨L, ⟨q1, q2, q3, q4, q5, q6, q7, ⟨V'.cls, v3, V', v1, rfl, by rw [v4, e, hlen], K4, fun i hi => ?_, fun i hi => ?_⟩, q9⟩, hl, hc, by rw [hs, e]⟩
  · have hi' : i < cs.length := by omega
    rw [v5 i (by omega), hcv i hi']; simp [List.getD_eq_getElem?_getD, hi']
  · have hi' : i < cs.length := by omega
    simp only [List.getD_eq_getElem?_getD, List.getElem?_map, List.getElem?_eq_getElem hi', Option.map_some, Option.getD_some]
    exact fits_lo8 _
end StrChars.Road
namespace StrChars.Road
open Jvm Sem ClassFile Op Lib Jvm.Stand Jvm.Free Jvm.Free.XT
/-- WHAT COMES BACK, in the writer's own shape -/
def QV (Z : State) (x : Addr) (N : Int32) (bs : List Int32) (h : Heap) (n0 : Nat) (v : Option Value) (h' : Heap) (L : List Loc) : Prop := v = none ∧ RoadKit.Fr n0 L ∧ RoadKit.Keep h h' [x] ∧ RoadKit.Exa Z h' x ST ∧ RoadKit.Fld Z h' x ST "coder" "B" (.int 0) ∧
  ∃ (t : Addr) (kb : ClassId), n0 ≤ t ∧ h.size ≤ t ∧ ¬ t = x ∧ RoadKit.Fld Z h' x ST "value" "[B" (.ref t) ∧ RoadKit.Arv Z h' t kb .byte N (bs.map Value.int) (.int 0)
/-- **new String(chars) AT A CALL, FOR THE WRITER**: a char[] of n known ints, each 0 to 255 -/
theorem backV {p : Program} {l : Launch} {e : Env} {R : Room} {s : State} {args : Array Value} {below : List Frame} {len W : Nat} {Z : State} {a0 : Array Value} {h : Heap} (hZ : Z.Warmed39 s.vm) (hw : ∀ d ∈ words, d.before a0 Z = true) {kI : Nat} (wi : (Jvm.Cond.instantiable ST kI).before a0 Z = true)
    {x b : Addr} {kC : ClassId} {cs bs : List Int32} {d v0 c0 : Value} {z N : Int32} {n n0 : Nat} (hx0 : n0 ≤ x) (hh0 : n0 ≤ h.size) (E : RoadKit.Exa Z h x ST) (V : RoadKit.Fld Z h x ST "value" "[B" v0) (C : RoadKit.Fld Z h x ST "coder" "B" c0) (K : RoadKit.Arv Z h b kC .char N (cs.map Value.int) d) (S : RoadKit.Sta Z h ST "COMPACT_STRINGS" "Z" (.int z)) (hz : ¬ z = 0)
    (hn : cs.length = n) (hN : N = Int32.ofNat n) (l0 : 0 < n) (l2 : n ≤ 4000) (hp : ∀ c ∈ cs, ¬ c < 0 ∧ ¬ (255 : Int32) < c) (hb : bs = cs.map (fun c => c.toInt8.toInt32)) (hfr : 4 ≤ R.frames) (hlo : W + 65 ≤ R.locals) :
    Back l R p e below s args (⟨"java/lang/String", "<init>", "([C)V"⟩ : MethodName) len W (fun P a => a = #[.ref x, .ref b] ∧ P.U.heap = h ∧ P.cells + 1 ≤ R.cells ∧ P.slots + n ≤ R.slots)
      (fun P _ v B => ∃ L, QV Z x N bs h n0 v B.U.heap L ∧ B.locs = P.locs ++ L ∧ B.cells = P.cells + 1 ∧ B.slots = P.slots + n) := by
  subst hn hN hb
  refine Back.mono (backArv hZ hw wi E V C K S hz (n32 (by omega)) l0 (by omega) (fun c hc => (hp c hc).2) hfr hlo) (fun P a hp => hp) (fun P a v B hp hq => ?_)
  obtain ⟨L, ⟨q1, q2, q3, q4, q5, q6, q7, ⟨kb, v1, v2⟩, q9⟩, hl, hc, hs⟩ := hq
  exact ⟨L, ⟨q1, fun y hy => by rw [q2 y hy]; exact hx0, q3, q5, q7, h.size, kb, hh0, Nat.le_refl _, Nat.ne_of_gt E.lt, q6, by rw [List.map_map]; exact v2⟩, hl, hc, hs⟩
end StrChars.Road
namespace StrChars
open Jvm Sem ClassFile Op Lib Jvm.Stand Jvm.Free.XT Jvm.Free.ALB Jvm.Free.JM Jvm.Free
open Jvm.Lib.Cold (StaticIs)
def hi8 (x : Int32) : Int32 := lo8 (x >>> ((8 : Int32) &&& 31))
/-- what StringUTF16.getChar makes of two bytes -/
def pairCh (u v : Int32) : Int32 := (((u &&& 255) <<< ((0 : Int32) &&& 31)) ||| ((v &&& 255) <<< ((8 : Int32) &&& 31))).toUInt32.toUInt16.toUInt32.toInt32
theorem shr0 (c : Int32) : c >>> ((0 : Int32) &&& 31) = c := by
  have e : ((0 : Int32) &&& 31) = 0 := by decide
  rw [e]
  apply Int32.toBitVec_inj.mp
  rw [Int32.toBitVec_shiftRight]
  have e1 : ((0 : Int32).toBitVec.smod 32) = 0#32 := by decide
  rw [e1, BitVec.sshiftRight_eq']
  exact BitVec.sshiftRight_zero
theorem lo8_and (x : Int32) : (lo8 x &&& 255).toBitVec.toNat = x.toBitVec.toNat % 256 := by
  have h : (lo8 x).toBitVec = (x.toBitVec.signExtend 8).signExtend 32 := by rw [lo8, Int8.toBitVec_toInt32, Int32.toBitVec_toInt8]
  rw [Int32.toBitVec_and, BitVec.toNat_and, h]
  have e : ((x.toBitVec.signExtend 8).signExtend 32).toNat % 256 = x.toBitVec.toNat % 256 := by
    rw [BitVec.toNat_signExtend]
    have hlt := x.toBitVec.isLt
    simp only [BitVec.toNat_setWidth, BitVec.toNat_signExtend]
    split <;> split <;> omega
  rw [← e]
  exact Nat.and_two_pow_sub_one_eq_mod _ 8
theorem pair_says {c : Int32} (h0 : ¬ c < 0) (h1 : ¬ 65535 < c) : pairCh (lo8 c) (hi8 c) = c := by
  rw [Int32.lt_iff_toInt_lt] at h0 h1
  have e0 : (0 : Int32).toInt = 0 := rfl
  have e1 : (65535 : Int32).toInt = 65535 := rfl
  have hc : c.toInt = c.toBitVec.toNat := by
    have := c.toBitVec.isLt
    have e : c.toInt = c.toBitVec.toInt := rfl
    rw [e] at h0 h1
    rw [e]
    rw [BitVec.toInt_eq_toNat_cond] at h0 h1 ⊢
    split at h0 <;> split <;> omega
  have hn : c.toBitVec.toNat < 65536 := by omega
  have a1 := lo8_and c
  have a2 : (hi8 c &&& 255).toBitVec.toNat = c.toBitVec.toNat / 256 := by
    rw [hi8, lo8_and]
    have e : ((8 : Int32) &&& 31) = 8 := by decide
    rw [e, Int32.toBitVec_shiftRight]
    have e2 : ((8 : Int32).toBitVec.smod 32) = 8#32 := by decide
    rw [e2, BitVec.sshiftRight_eq', BitVec.toNat_sshiftRight_of_msb_false (by rw [BitVec.msb_eq_false_iff_two_mul_lt]; omega)]
    show c.toBitVec.toNat >>> 8 % 256 = _
    rw [Nat.shiftRight_eq_div_pow]
    omega
  unfold pairCh
  apply Int32.toBitVec_inj.mp
  apply BitVec.eq_of_toNat_eq
  have f0 : ((0 : Int32) &&& 31) = 0 := by decide
  have f8 : ((8 : Int32) &&& 31) = 8 := by decide
  rw [f0, f8]
  have g : (((lo8 c &&& 255) <<< (0 : Int32)) ||| ((hi8 c &&& 255) <<< (8 : Int32))).toBitVec.toNat = c.toBitVec.toNat := by
    rw [Int32.toBitVec_or, Int32.toBitVec_shiftLeft, Int32.toBitVec_shiftLeft]
    have s0 : ((0 : Int32).toBitVec.smod 32) = 0#32 := by decide
    have s8 : ((8 : Int32).toBitVec.smod 32) = 8#32 := by decide
    rw [s0, s8, BitVec.toNat_or]
    simp only [BitVec.shiftLeft_eq', BitVec.toNat_shiftLeft, a1, a2]
    show (c.toBitVec.toNat % 256) <<< 0 % 2 ^ 32 ||| (c.toBitVec.toNat / 256) <<< 8 % 2 ^ 32 = _
    rw [Nat.shiftLeft_zero, Nat.mod_eq_of_lt (show c.toBitVec.toNat % 256 < 2 ^ 32 by omega), Nat.mod_eq_of_lt (show (c.toBitVec.toNat / 256) <<< 8 < 2 ^ 32 by rw [Nat.shiftLeft_eq]; omega), Nat.or_comm, ← Nat.shiftLeft_add_eq_or_of_lt (by omega), Nat.shiftLeft_eq]
    omega
  show BitVec.toNat (((((lo8 c &&& 255) <<< (0 : Int32)) ||| ((hi8 c &&& 255) <<< (8 : Int32))).toBitVec.setWidth 16).setWidth 32) = _
  rw [BitVec.toNat_setWidth, BitVec.toNat_setWidth, g]
  omega
end StrChars
namespace StrChars
open Jvm Sem ClassFile Op Lib Jvm.Stand Jvm.Free.XT Jvm.Free.ALB Jvm.Free.JM Jvm.Free
open Jvm.Lib.Cold (StaticIs)
theorem shr1 {n : Nat} (h : 2 * n < 2 ^ 31) : Int32.ofNat (2 * n) >>> ((1 : Int32) &&& 31) = Int32.ofNat n := by
  have e : ((1 : Int32) &&& 31) = 1 := by decide
  rw [e]
  apply Int32.toBitVec_inj.mp
  rw [Int32.toBitVec_shiftRight]
  have e1 : ((1 : Int32).toBitVec.smod 32) = 1#32 := by decide
  have hm : (BitVec.ofNat 32 (2 * n)).toNat = 2 * n := by rw [BitVec.toNat_ofNat, Nat.mod_eq_of_lt (by omega)]
  rw [e1, BitVec.sshiftRight_eq']
  apply BitVec.eq_of_toNat_eq
  show ((BitVec.ofNat 32 (2 * n)).sshiftRight 1).toNat = (BitVec.ofNat 32 n).toNat
  rw [BitVec.toNat_sshiftRight_of_msb_false (by rw [BitVec.msb_eq_false_iff_two_mul_lt, hm]; omega), hm, BitVec.toNat_ofNat, Nat.shiftRight_eq_div_pow]
  omega
/-- charAt's cast of a byte read back -/
def chr8 (u : Int32) : Int32 := (u &&& 255).toUInt32.toUInt16.toUInt32.toInt32
theorem chr8_lo8 {c : Int32} (h0 : ¬ c < 0) (h1 : ¬ 255 < c) : chr8 (lo8 c) = c := by
  have t : ∀ k : Fin 256, (Int32.ofNat k.val).toUInt32.toUInt16.toUInt32.toInt32 = Int32.ofNat k.val := by decide +kernel
  unfold chr8
  rw [lo8_mask h0 h1]
  rw [Int32.lt_iff_toInt_lt] at h0 h1
  have e0 : (0 : Int32).toInt = 0 := rfl
  have e1 : (255 : Int32).toInt = 255 := rfl
  obtain ⟨k, hk⟩ : ∃ k : Nat, c.toInt = k := ⟨c.toInt.toNat, by omega⟩
  have hx : c = Int32.ofNat k := Int32.toInt_inj.mp (by rw [hk, Int32.toInt_ofNat_small (by omega)])
  rw [hx]
  exact t ⟨k, by omega⟩
theorem narrow_ch {c : Int32} (h0 : ¬ c < 0) (h1 : ¬ 65535 < c) : narrow .char (.int c) = .int c := by
  have q : narrow .char (.int (pairCh (lo8 c) (hi8 c))) = .int (pairCh (lo8 c) (hi8 c)) := narrow_c _
  rwa [pair_says h0 h1] at q
/-- the array's cell V codes the n chars f 0 .. f (n - 1) by the coder cd, as the JDK does: coder 1 just where some char is above 255 -/
def Cod (cd : Int32) (n : Nat) (f : Nat → Int32) (V : Cell) : Prop := (cd = 0 ∧ V.slots.size = n ∧ ∀ j, j < n → V.slots[j]? = some (.int (lo8 (f j))) ∧ ¬ 255 < f j) ∨ (cd = 1 ∧ V.slots.size = 2 * n ∧ (∀ j, j < n → V.slots[2 * j]? = some (.int (lo8 (f j))) ∧ V.slots[2 * j + 1]? = some (.int (hi8 (f j)))) ∧ ∃ j, j < n ∧ 255 < f j)
theorem Cod.cd {cd : Int32} {n : Nat} {f : Nat → Int32} {V : Cell} (h : Cod cd n f V) : cd = 0 ∨ cd = 1 := h.imp (fun q => q.1) fun q => q.1
theorem Cod.len {cd : Int32} {n : Nat} {f : Nat → Int32} {V : Cell} (h : Cod cd n f V) (hs : V.slots.size < 2 ^ 31) : Int32.ofNat V.slots.size >>> (cd &&& 31) = Int32.ofNat n := by
  rcases h with ⟨rfl, h, -⟩ | ⟨rfl, h, -⟩
  · rw [shr0, h]
  · rw [h, shr1 (by omega)]
/-- **x is a String of the n chars f 0 .. f (n - 1)**, Latin-1 or UTF-16; its array at t has the cell V -/
def Txt (x t : Addr) (V : Cell) (cd : Int32) (n : Nat) (f : Nat → Int32) (U : State) : Prop := Exact "java/lang/String" x U ∧ Has x "java/lang/String" "value" "[B" (.ref t) U ∧ Has x "java/lang/String" "coder" "B" (.int cd) U ∧ XT.Arr .byte t V U ∧ Cod cd n f V ∧ ∀ j, j < n → ¬ f j < 0 ∧ ¬ 65535 < f j
theorem Txt.mv {x t : Addr} {V : Cell} {cd : Int32} {n : Nat} {f : Nat → Int32} {U U' : State} (h : Txt x t V cd n f U) (hal : U.vm.Alike U'.vm) (hh : U'.heap = U.heap) : Txt x t V cd n f U' := ⟨h.1.mv hal hh, h.2.1.mv hal hh, h.2.2.1.mv hal hh, h.2.2.2.1.mv hal hh, h.2.2.2.2⟩
namespace Cdr
def yN : MethodName := ⟨"java/lang/String", "coder", "()B"⟩
abbrev yB : ByteArray := jdk_42_method_152_code
theorem d0 : decode yB 0 = .ok (.getstatic 38, 3) := by decide +kernel
theorem d3 : decode yB 3 = .ok (.ifCond (.eq) 10, 3) := by decide +kernel
theorem d6 : decode yB 6 = .ok (.aload_n 0, 1) := by decide +kernel
theorem d7 : decode yB 7 = .ok (.getfield 15, 3) := by decide +kernel
theorem d10 : decode yB 10 = .ok (.goto 4, 3) := by decide +kernel
theorem d14 : decode yB 14 = .ok (.ireturn, 1) := by decide +kernel
def site : List Cond := [.fieldLink "java/lang/String" 38 "java/lang/String" "COMPACT_STRINGS" "Z", .fieldLink "java/lang/String" 15 "java/lang/String" "coder" "B"]
def tab : Cond := tabOf yN yB 1 (some .byte) site
def P (x : Addr) (cd z : Int32) (args : Array Value) (s : State) : Prop := args = #[.ref x] ∧ Has x "java/lang/String" "coder" "B" (.int cd) s ∧ (cd = 0 ∨ cd = 1) ∧ StaticIs s "java/lang/String" "COMPACT_STRINGS" "Z" (.int z) ∧ ¬ z = 0
def E (cd : Int32) (r : Option Value) (s u : State) : Prop := XT.PureE (some (.int cd)) r s u
theorem law (l : Launch) (x : Addr) (cd z : Int32) : Law l yN 1 0 0 0 yB 1 (some .byte) site (P x cd z) (E cd) [] 0 0 := by
  refine Law.of_walk (plainFor_of_name (by decide +kernel)) (by decide +kernel) (by decide +kernel) (by decide) (fun _ _ h => by rw [h.1]; rfl) (fun _ U U' hal hh h => ⟨h.1, h.2.1.mv hal hh, h.2.2.1, h.2.2.2.1.there hal hh, h.2.2.2.2⟩) (fun r U U' V V' h1 hal h2 h => XT.PureE.mv r U U' V V' h1 hal h2 h) ?_
  intro p e s m args below meth c s₁ X0 hexec hbytes hml hret hlk hnm hown hh0 W hP
  obtain ⟨rfl, hx, hc, s1, hz⟩ := hP
  have c1 : Steps p.tables e below (s₁.setTop (entryFrame m #[.ref x] 1)) (s₁.setTop (mkF m 0 #[.val (.ref x)] [])) := entry rfl
  obtain ⟨T2, X2, q2, st2⟩ := X0.sget hexec hown (wk W (.fieldLink "java/lang/String" 38 "java/lang/String" "COMPACT_STRINGS" "Z")) s1 (fun _ _ h => by rw [hh0]; exact h) (g := (mkF m 0 #[.val (.ref x)] [])) rfl (hb hbytes d0)
  have hh2 := q2.trans hh0
  have c3 : Steps p.tables e below (s₁.setTop (entryFrame m #[.ref x] 1)) (T2.setTop (mkF m 7 #[.val (.ref x)] [.ref x])) := (c1.trans (st2 _ (Steps.refl _))).trans (by
    refine XS.ifNo X2.here hexec rfl (hb hbytes d3) rfl (i0_eq_f hz) ?_
    refine XS.aloadN X2.here hexec rfl (hb hbytes d6) rfl rfl ?_
    exact Steps.refl _)
  obtain ⟨T4, X4, q4, st4⟩ := X2.hget hexec hown (wk W (.fieldLink "java/lang/String" 15 "java/lang/String" "coder" "B")) (hx.mv X2.warmed.alike hh2) (g := (mkF m 7 #[.val (.ref x)] [.ref x])) rfl (rest := []) rfl (hb hbytes d7)
  have c5 : Steps p.tables e below (s₁.setTop (entryFrame m #[.ref x] 1)) (T4.setTop (mkF m 14 #[.val (.ref x)] [.int cd])) := (c3.trans (st4 _ (Steps.refl _))).trans (by
    refine XS.goto X4.here hexec rfl (pc0 := 10) rfl (hb hbytes d10) (by decide) rfl ?_
    exact Steps.refl _)
  exact ⟨T4, some (.int cd), _, _, _, X4, rfl, rfl, rfl, (fun h => by cases h), ⟨rfl, q4.trans hh2⟩, fun fs hl => c5.trans (X4.ireturnOut hexec hret (by rcases hc with rfl | rfl <;> rfl) (Or.inr (Or.inr (Or.inl rfl))) (hb hbytes d14) hl)⟩
end Cdr
namespace Len
def yN : MethodName := ⟨"java/lang/String", "length", "()I"⟩
abbrev yB : ByteArray := jdk_42_method_54_code
theorem d0 : decode yB 0 = .ok (.aload_n 0, 1) := by decide +kernel
theorem d1 : decode yB 1 = .ok (.getfield 9, 3) := by decide +kernel
theorem d4 : decode yB 4 = .ok (.arraylength, 1) := by decide +kernel
theorem d5 : decode yB 5 = .ok (.aload_n 0, 1) := by decide +kernel
theorem d6 : decode yB 6 = .ok (.invokevirtual 335, 3) := by decide +kernel
theorem d9 : decode yB 9 = .ok (.ishr, 1) := by decide +kernel
theorem d10 : decode yB 10 = .ok (.ireturn, 1) := by decide +kernel
def site : List Cond := [.fieldLink "java/lang/String" 9 "java/lang/String" "value" "[B", Cdr.tab] ++ virtW "java/lang/String" 335 "java/lang/String" Cdr.yN Cdr.yN
def tab : Cond := tabOf yN yB 1 (some .int) site
def P (x t : Addr) (V : Cell) (cd : Int32) (n : Nat) (f : Nat → Int32) (z : Int32) (args : Array Value) (s : State) : Prop := args = #[.ref x] ∧ Txt x t V cd n f s ∧ StaticIs s "java/lang/String" "COMPACT_STRINGS" "Z" (.int z) ∧ ¬ z = 0
def E (n : Nat) (r : Option Value) (s u : State) : Prop := XT.PureE (some (.int (Int32.ofNat n))) r s u
/-- length() of a String of n chars, in either coding -/
theorem law (l : Launch) (x t : Addr) (V : Cell) (cd : Int32) (n : Nat) (f : Nat → Int32) (z : Int32) : Law l yN 1 0 1 13 yB 1 (some .int) site (P x t V cd n f z) (E n) [] 0 0 := by
  refine Law.of_walk (plainFor_of_name (by decide +kernel)) (by decide +kernel) (by decide +kernel) (by decide) (fun _ _ h => by rw [h.1]; rfl) (fun _ U U' hal hh h => ⟨h.1, h.2.1.mv hal hh, h.2.2.1.there hal hh, h.2.2.2⟩) (fun r U U' V V' h1 hal h2 h => XT.PureE.mv r U U' V V' h1 hal h2 h) ?_
  intro p e s m args below meth c s₁ X0 hexec hbytes hml hret hlk hnm hown hh0 W hP
  obtain ⟨rfl, hx, s1, hz⟩ := hP
  have v31 := hx.2.2.2.1.2.2.2
  have c1 : Steps p.tables e below (s₁.setTop (entryFrame m #[.ref x] 1)) (s₁.setTop (mkF m 1 #[.val (.ref x)] [.ref x])) := Steps.trans (entry rfl) (by
    show Steps p.tables e below (s₁.setTop (mkF m 0 #[.val (.ref x)] [])) _
    refine XS.aloadN X0.here hexec rfl (hb hbytes d0) rfl rfl ?_
    exact Steps.refl _)
  obtain ⟨T2, X2, q2, st2⟩ := X0.hget hexec hown (wk W (.fieldLink "java/lang/String" 9 "java/lang/String" "value" "[B")) (hx.mv X0.warmed.alike hh0).2.1 (g := (mkF m 1 #[.val (.ref x)] [.ref x])) rfl (rest := []) rfl (hb hbytes d1)
  have hh2 := q2.trans hh0
  have hx2 := hx.mv X2.warmed.alike hh2
  have c3 : Steps p.tables e below (s₁.setTop (entryFrame m #[.ref x] 1)) (T2.setTop (mkF m 6 #[.val (.ref x)] [.ref x, .int (Int32.ofNat V.slots.size)])) := (c1.trans (st2 _ (Steps.refl _))).trans (by
    refine X2.alen hexec hx2.2.2.2.1 rfl rfl (hb hbytes d4) ?_
    refine XS.aloadN X2.here hexec rfl (hb hbytes d5) rfl rfl ?_
    exact Steps.refl _)
  obtain ⟨v4, T4, X4, E4, g4⟩ := X2.callV hexec (Cdr.law l x cd z) hown (wks W (virtW "java/lang/String" 335 "java/lang/String" Cdr.yN Cdr.yN)) rfl (by decide) (wk W Cdr.tab) (W := 1) (Nat.le_of_ble_eq_true rfl) (Nat.le_of_ble_eq_true rfl) (Nat.le_refl _) (Nat.le_refl _) (hx2.1.fc X2.warmed.alike) hx2.1.is (g := (mkF m 6 #[.val (.ref x)] [.ref x, .int (Int32.ofNat V.slots.size)])) rfl (by rw [hml]; rfl) c3 (argsL := []) (rest := [.int (Int32.ofNat V.slots.size)]) rfl rfl (by show 2 * 0 + (1 + 0) ≤ _; decide) (hb hbytes d6) (⟨rfl, hx2.2.2.1, hx.2.2.2.2.1.cd, s1.there X2.warmed.alike hh2, hz⟩)
  obtain ⟨rfl, q4⟩ := E4
  have c5 : Steps p.tables e below (s₁.setTop (entryFrame m #[.ref x] 1)) (T4.setTop (mkF m 10 #[.val (.ref x)] [.int (Int32.ofNat V.slots.size >>> (cd &&& 31))])) := Steps.trans g4 (by
    refine ishr X4.here hexec rfl (hb hbytes d9) rfl ?_
    exact Steps.refl _)
  rw [hx.2.2.2.2.1.len v31] at c5
  exact ⟨T4, some (.int (Int32.ofNat n)), _, _, _, X4, rfl, rfl, rfl, (fun h => by cases h), ⟨rfl, q4.trans hh2⟩, fun fs hl => c5.trans (X4.ireturnOut hexec hret rfl (Or.inl rfl) (hb hbytes d10) hl)⟩
theorem pays {l : Launch} {R : Room} {p : Program} {e : Env} {below : List Frame} {s : State} {sargs : Array Value} {len W : Nat} (x t : Addr) (V : Cell) (cd : Int32) (n : Nat) (f : Nat → Int32) (z : Int32) (htab : tab.before sargs s = true) (hfr : 2 ≤ R.frames) (hlo : W + 25 ≤ R.locals) :
    Back l R p e below s sargs yN len W (fun A₁ a₁ => A₁.cells + 0 ≤ R.cells ∧ A₁.slots + 0 ≤ R.slots ∧ P x t V cd n f z a₁ A₁.U) (fun A₁ _ v₁ B₁ => E n v₁ A₁.U B₁.U ∧ B₁.locs = A₁.locs ++ [] ∧ B₁.cells = A₁.cells + 0 ∧ B₁.slots = A₁.slots + 0) :=
  (law l x t V cd n f z).pays htab hfr (by omega)
end Len
namespace IsL
def yN : MethodName := ⟨"java/lang/String", "isLatin1", "()Z"⟩
abbrev yB : ByteArray := jdk_42_method_154_code
theorem d0 : decode yB 0 = .ok (.getstatic 38, 3) := by decide +kernel
theorem d3 : decode yB 3 = .ok (.ifCond (.eq) 14, 3) := by decide +kernel
theorem d6 : decode yB 6 = .ok (.aload_n 0, 1) := by decide +kernel
theorem d7 : decode yB 7 = .ok (.getfield 15, 3) := by decide +kernel
theorem d10 : decode yB 10 = .ok (.ifCond (.ne) 7, 3) := by decide +kernel
theorem d13 : decode yB 13 = .ok (.iconst 1, 1) := by decide +kernel
theorem d14 : decode yB 14 = .ok (.goto 4, 3) := by decide +kernel
theorem d17 : decode yB 17 = .ok (.iconst 0, 1) := by decide +kernel
theorem d18 : decode yB 18 = .ok (.ireturn, 1) := by decide +kernel
def site : List Cond := [.fieldLink "java/lang/String" 38 "java/lang/String" "COMPACT_STRINGS" "Z", .fieldLink "java/lang/String" 15 "java/lang/String" "coder" "B"]
def tab : Cond := tabOf yN yB 1 (some .boolean) site
def P (x : Addr) (cd z : Int32) (args : Array Value) (s : State) : Prop := args = #[.ref x] ∧ Has x "java/lang/String" "coder" "B" (.int cd) s ∧ (cd = 0 ∨ cd = 1) ∧ StaticIs s "java/lang/String" "COMPACT_STRINGS" "Z" (.int z) ∧ ¬ z = 0
def E (cd : Int32) (r : Option Value) (s u : State) : Prop := XT.PureE (some (.int (1 - cd))) r s u
theorem law (l : Launch) (x : Addr) (cd z : Int32) : Law l yN 1 0 0 0 yB 1 (some .boolean) site (P x cd z) (E cd) [] 0 0 := by
  refine Law.of_walk (plainFor_of_name (by decide +kernel)) (by decide +kernel) (by decide +kernel) (by decide) (fun _ _ h => by rw [h.1]; rfl) (fun _ U U' hal hh h => ⟨h.1, h.2.1.mv hal hh, h.2.2.1, h.2.2.2.1.there hal hh, h.2.2.2.2⟩) (fun r U U' V V' h1 hal h2 h => XT.PureE.mv r U U' V V' h1 hal h2 h) ?_
  intro p e s m args below meth c s₁ X0 hexec hbytes hml hret hlk hnm hown hh0 W hP
  obtain ⟨rfl, hx, hc, s1, hz⟩ := hP
  have c1 : Steps p.tables e below (s₁.setTop (entryFrame m #[.ref x] 1)) (s₁.setTop (mkF m 0 #[.val (.ref x)] [])) := entry rfl
  obtain ⟨T2, X2, q2, st2⟩ := X0.sget hexec hown (wk W (.fieldLink "java/lang/String" 38 "java/lang/String" "COMPACT_STRINGS" "Z")) s1 (fun _ _ h => by rw [hh0]; exact h) (g := (mkF m 0 #[.val (.ref x)] [])) rfl (hb hbytes d0)
  have hh2 := q2.trans hh0
  have c3 : Steps p.tables e below (s₁.setTop (entryFrame m #[.ref x] 1)) (T2.setTop (mkF m 7 #[.val (.ref x)] [.ref x])) := (c1.trans (st2 _ (Steps.refl _))).trans (by
    refine XS.ifNo X2.here hexec rfl (hb hbytes d3) rfl (i0_eq_f hz) ?_
    refine XS.aloadN X2.here hexec rfl (hb hbytes d6) rfl rfl ?_
    exact Steps.refl _)
  obtain ⟨T4, X4, q4, st4⟩ := X2.hget hexec hown (wk W (.fieldLink "java/lang/String" 15 "java/lang/String" "coder" "B")) (hx.mv X2.warmed.alike hh2) (g := (mkF m 7 #[.val (.ref x)] [.ref x])) rfl (rest := []) rfl (hb hbytes d7)
  have c5 : Steps p.tables e below (s₁.setTop (entryFrame m #[.ref x] 1)) (T4.setTop (mkF m 10 #[.val (.ref x)] [.int cd])) := c3.trans (st4 _ (Steps.refl _))
  have c6 : Steps p.tables e below (s₁.setTop (entryFrame m #[.ref x] 1)) (T4.setTop (mkF m 18 #[.val (.ref x)] [.int (1 - cd)])) := by
    rcases hc with rfl | rfl
    · exact c5.trans (by
        refine XS.ifNo X4.here hexec rfl (hb hbytes d10) rfl (i0_ne_f rfl) ?_
        refine iconstV X4.here hexec rfl 1 (hb hbytes d13) (by decide) ?_
        refine XS.goto X4.here hexec rfl (pc0 := 14) rfl (hb hbytes d14) (by decide) rfl ?_
        exact Steps.refl _)
    · exact c5.trans (by
        refine XS.ifYes X4.here hexec rfl (pc0 := 10) rfl (hb hbytes d10) rfl (i0_ne_t (by decide)) (by decide) rfl ?_
        refine iconstV X4.here hexec rfl 0 (hb hbytes d17) (by decide) ?_
        exact Steps.refl _)
  exact ⟨T4, some (.int (1 - cd)), _, _, _, X4, rfl, rfl, rfl, (fun h => by cases h), ⟨rfl, q4.trans hh2⟩, fun fs hl => c6.trans (X4.ireturnOut hexec hret (by rcases hc with rfl | rfl <;> rfl) (Or.inr (Or.inl rfl)) (hb hbytes d18) hl)⟩
end IsL
namespace LChA
def yN : MethodName := ⟨"java/lang/StringLatin1", "charAt", "([BI)C"⟩
abbrev yB : ByteArray := jdk_43_method_2_code
theorem d0 : decode yB 0 = .ok (.iload_n 1, 1) := by decide +kernel
theorem d1 : decode yB 1 = .ok (.aload_n 0, 1) := by decide +kernel
theorem d2 : decode yB 2 = .ok (.arraylength, 1) := by decide +kernel
theorem d3 : decode yB 3 = .ok (.invokestatic 9, 3) := by decide +kernel
theorem d6 : decode yB 6 = .ok (.aload_n 0, 1) := by decide +kernel
theorem d7 : decode yB 7 = .ok (.iload_n 1, 1) := by decide +kernel
theorem d8 : decode yB 8 = .ok (.baload, 1) := by decide +kernel
theorem d9 : decode yB 9 = .ok (.sipush 255, 3) := by decide +kernel
theorem d12 : decode yB 12 = .ok (.iand, 1) := by decide +kernel
theorem d13 : decode yB 13 = .ok (.i2c, 1) := by decide +kernel
theorem d14 : decode yB 14 = .ok (.ireturn, 1) := by decide +kernel
def site : List Cond := [JO.Str_checkIndex.tab] ++ staticW "java/lang/StringLatin1" 9 JO.Str_checkIndex.yN
def tab : Cond := tabOf yN yB 2 (some .char) site
def P (t : Addr) (V : Cell) (i : Nat) (u : Int32) (fm : Value) (args : Array Value) (s : State) : Prop := args = #[.ref t, .int (Int32.ofNat i)] ∧ XT.Arr .byte t V s ∧ V.slots[i]? = some (.int u) ∧ (StaticIs s "jdk/internal/util/Preconditions" "SIOOBE_FORMATTER" "Ljava/util/function/BiFunction;" fm ∧ fm.isRef = true)
def E (u : Int32) (r : Option Value) (s w : State) : Prop := XT.PureE (some (.int (chr8 u))) r s w
theorem law (l : Launch) (t : Addr) (V : Cell) (i : Nat) (u : Int32) (fm : Value) : Law l yN 2 2 2 27 yB 2 (some .char) site (P t V i u fm) (E u) [] 0 0 := by
  refine Law.of_walk (plainFor_of_name (by decide +kernel)) (by decide +kernel) (by decide +kernel) (by decide) (fun _ _ h => by rw [h.1]; rfl) (fun _ U U' hal hh h => ⟨h.1, h.2.1.mv hal hh, h.2.2.1, h.2.2.2.1.there hal hh, h.2.2.2.2⟩) (fun r U U' V V' h1 hal h2 h => XT.PureE.mv r U U' V V' h1 hal h2 h) ?_
  intro p e s m args below meth c s₁ X0 hexec hbytes hml hret hlk hnm hown hh0 W hP
  obtain ⟨rfl, hV, hu, s1, rf⟩ := hP
  have v31 := hV.2.2.2
  have hi : i < V.slots.size := (Array.getElem?_eq_some_iff.mp hu).1
  have c1 : Steps p.tables e below (s₁.setTop (entryFrame m #[.ref t, .int (Int32.ofNat i)] 2)) (s₁.setTop (mkF m 0 #[.val (.ref t), .val (.int (Int32.ofNat i))] [])) := entry rfl
  have c2 : Steps p.tables e below (s₁.setTop (entryFrame m #[.ref t, .int (Int32.ofNat i)] 2)) (s₁.setTop (mkF m 3 #[.val (.ref t), .val (.int (Int32.ofNat i))] [.int (Int32.ofNat V.slots.size), .int (Int32.ofNat i)])) := c1.trans (by
    refine XS.iloadN X0.here hexec rfl (hb hbytes d0) rfl ?_
    refine XS.aloadN X0.here hexec rfl (hb hbytes d1) rfl rfl ?_
    refine X0.alen hexec (hV.mv X0.warmed.alike hh0) rfl rfl (hb hbytes d2) ?_
    exact Steps.refl _)
  obtain ⟨v3, T3, X3, E3, g3⟩ := X0.callS hexec (JO.Str_checkIndex.law l (Int32.ofNat i) (Int32.ofNat V.slots.size) fm) hown (wks W (staticW "java/lang/StringLatin1" 9 JO.Str_checkIndex.yN)) (wk W JO.Str_checkIndex.tab) (W := 0) (Nat.le_of_ble_eq_true rfl) (Nat.le_of_ble_eq_true rfl) (Nat.le_refl _) (Nat.le_refl _) (g := (mkF m 3 #[.val (.ref t), .val (.int (Int32.ofNat i))] [.int (Int32.ofNat V.slots.size), .int (Int32.ofNat i)])) rfl (by rw [hml]; rfl) c2 (argsL := [.int (Int32.ofNat i), .int (Int32.ofNat V.slots.size)]) (rest := []) rfl rfl (by show 2 * 0 + 0 ≤ _; decide) (hb hbytes d3) (⟨rfl, rf, s1.there X0.warmed.alike hh0, Int32.ofNat_not_neg (by omega), lt32 v31 hi⟩)
  obtain ⟨rfl, q3⟩ := E3
  have hh3 := q3.trans hh0
  have c4 : Steps p.tables e below (s₁.setTop (entryFrame m #[.ref t, .int (Int32.ofNat i)] 2)) (T3.setTop (mkF m 14 #[.val (.ref t), .val (.int (Int32.ofNat i))] [.int (chr8 u)])) := Steps.trans g3 (by
    refine XS.aloadN X3.here hexec rfl (hb hbytes d6) rfl rfl ?_
    refine XS.iloadN X3.here hexec rfl (hb hbytes d7) rfl ?_
    refine X3.aget hexec (hV.mv X3.warmed.alike hh3) rfl hu rfl rfl (hb hbytes d8) ?_
    refine sipushV X3.here hexec rfl 255 (hb hbytes d9) (by decide) ?_
    refine XS.iand X3.here hexec rfl (hb hbytes d12) rfl ?_
    refine i2c X3.here hexec rfl (hb hbytes d13) rfl ?_
    exact Steps.refl _)
  exact ⟨T3, some (.int (chr8 u)), _, _, _, X3, rfl, rfl, rfl, (fun h => by cases h), ⟨rfl, hh3⟩, fun fs hl => c4.trans (X3.ireturnOut hexec hret (narrow_c _) (Or.inr (Or.inr (Or.inr (Or.inl rfl)))) (hb hbytes d14) hl)⟩
end LChA
end StrChars
namespace StrChars.Road
open Jvm Sem ClassFile Op Lib Jvm.Stand Jvm.Free Jvm.Free.XT
open Jvm.Lib.Cold (StaticIs)
theorem consq {a : Array Value} {s : State} {c : Jvm.Cond} {L : List Jvm.Cond} (h0 : c.before a s = true) (h : ∀ w ∈ L, w.before a s = true) : ∀ w ∈ c :: L, w.before a s = true := fun w hw => (List.mem_cons.mp hw).elim (fun e => e ▸ h0) (h w)
/-- the words of String.length(), either coding -/
abbrev wordsLen : List Jvm.Cond := [.code Len.yN Len.yB 1 (some .int), .initialized ST, .fieldLink ST 9 ST "value" "[B", .fieldLink ST 38 ST "COMPACT_STRINGS" "Z", .fieldLink ST 15 ST "coder" "B", .code Cdr.yN Cdr.yB 1 (some .byte), .methodLink ST 335 Cdr.yN, .declares Cdr.yN, .selects ST Cdr.yN Cdr.yN, .instanceMethod Cdr.yN]
theorem tabLen_of {a : Array Value} {s : State} (h : ∀ w ∈ wordsLen, w.before a s = true) : Len.tab.before a s = true := by
  have hc : Cdr.tab.before a s = true := unparts (wk h (.code Cdr.yN Cdr.yB 1 (some .byte))) (wks h (.initialized Cdr.yN.cls :: Cdr.site))
  have q := consq hc h
  exact unparts (wk q (.code Len.yN Len.yB 1 (some .int))) (wks q (.initialized Len.yN.cls :: Len.site))
theorem movedLen {Z s : State} {a0 args : Array Value} (hZ : Z.Warmed39 s.vm) (hw : ∀ d ∈ wordsLen, d.before a0 Z = true) : ∀ d ∈ wordsLen, d.before args s = true := fun d hd => by
  have q := hw d hd
  have t : ∀ d ∈ wordsLen, d = .arrayClass .byte ∨ (d.onTables && d.keepsFace) = true := by decide +kernel
  rcases t d hd with rfl | t
  · exact RoadKit.mvA hZ q
  · exact RoadKit.mv hZ q t
/-- the bytes of the chars cs, low before high -/
def wideBytes : List Int32 → List Value
  | [] => []
  | c :: cs => .int (lo8 c) :: .int (hi8 c) :: wideBytes cs
theorem wide_lo (d : Value) : ∀ (cs : List Int32) (j : Nat), j < cs.length → (wideBytes cs).getD (2 * j) d = .int (lo8 (cs.getD j 0))
  | [], j, h => absurd h (Nat.not_lt_zero j)
  | c :: cs, 0, _ => rfl
  | c :: cs, j + 1, h => by
    have q := wide_lo d cs j (by simpa using h)
    rw [show 2 * (j + 1) = 2 * j + 1 + 1 from by omega]
    simpa [wideBytes] using q
theorem wide_hi (d : Value) : ∀ (cs : List Int32) (j : Nat), j < cs.length → (wideBytes cs).getD (2 * j + 1) d = .int (hi8 (cs.getD j 0))
  | [], j, h => absurd h (Nat.not_lt_zero j)
  | c :: cs, 0, _ => rfl
  | c :: cs, j + 1, h => by
    have q := wide_hi d cs j (by simpa using h)
    rw [show 2 * (j + 1) + 1 = 2 * j + 1 + 1 + 1 from by omega]
    simpa [wideBytes] using q
theorem low_at (d : Value) (cs : List Int32) (j : Nat) (h : j < cs.length) : (cs.map fun c => Value.int (lo8 c)).getD j d = .int (lo8 (cs.getD j 0)) := by
  simp [List.getD_eq_getElem?_getD, h]
/-- an array of N2 bytes vs codes the chars cs by the coder cd -/
def CodA (cs : List Int32) (cd N2 : Int32) (vs : List Value) : Prop := (cd = 0 ∧ N2 = Int32.ofNat cs.length ∧ vs = (cs.map fun c => Value.int (lo8 c)) ∧ ∀ c ∈ cs, ¬ 255 < c) ∨ (cd = 1 ∧ N2 = Int32.ofNat (2 * cs.length) ∧ vs = wideBytes cs ∧ ∃ c ∈ cs, 255 < c)
theorem CodA.cod {cs : List Int32} {cd N2 : Int32} {vs : List Value} {V : Cell} (h : CodA cs cd N2 vs) (hn : 2 * cs.length < 2 ^ 31) (hs : V.slots.size = N2.toNatClampNeg) (hv : RoadKit.Has V vs (.int 0)) : Cod cd cs.length (fun j => cs.getD j 0) V := by
  rcases h with ⟨rfl, rfl, rfl, h⟩ | ⟨rfl, rfl, rfl, c, hc, hw⟩
  · rw [n32 (by omega)] at hs
    exact Or.inl ⟨rfl, hs, fun j hj => ⟨by rw [hv j (by omega), low_at _ _ _ hj], by
      have e : cs.getD j 0 = cs[j] := by simp [List.getD_eq_getElem?_getD, hj]
      show ¬ 255 < cs.getD j 0
      rw [e]; exact h _ (List.getElem_mem _)⟩⟩
  · rw [n32 (by omega)] at hs
    obtain ⟨j, hj, rfl⟩ := List.getElem_of_mem hc
    exact Or.inr ⟨rfl, hs, fun j hj => ⟨by rw [hv _ (by omega), wide_lo _ _ _ hj], by rw [hv _ (by omega), wide_hi _ _ _ hj]⟩, j, hj, by
      have e : cs.getD j 0 = cs[j] := by simp [List.getD_eq_getElem?_getD, hj]
      show 255 < cs.getD j 0
      rw [e]; exact hw⟩
/-- an object of exactly java/lang/String, its two fields found: as the laws ask it -/
theorem strObj {Z U : State} {a0 : Array Value} {kI : Nat} (wi : (Jvm.Cond.instantiable ST kI).before a0 Z = true) (al : Z.vm.Alike U.vm) {x : Addr} {v0 c0 : Value} (E : RoadKit.Exa Z U.heap x ST) (V : RoadKit.Fld Z U.heap x ST "value" "[B" v0) (C : RoadKit.Fld Z U.heap x ST "coder" "B" c0) :
    ∃ (D : Cell) (fV fC : Field), Blank ST x D U ∧ Found ST "value" "[B" fV U ∧ Found ST "coder" "B" fC U ∧ D.slots[fV.slot]? = some v0 ∧ D.slots[fC.slot]? = some c0 ∧ RoadKit.slotOf Z ST "value" "[B" = fV.slot ∧ RoadKit.slotOf Z ST "coder" "B" = fC.slot := by
  obtain ⟨D, cfV, kV, iV, fV, hD, gV, stV, knV, obV, asV, slV⟩ := V
  obtain ⟨D', cfC, kC, iC, fC, hD', gC, stC, -, -, asC, slC⟩ := C
  cases hD.symm.trans hD'
  obtain ⟨D2, kD, e1, e2, e3, e4, e5⟩ := E
  cases hD.symm.trans e1
  obtain ⟨c2, k2, i1, i2, i3, -⟩ := Cond.instantiable_spec wi
  cases e2.symm.trans i1
  cases e3.symm.trans i2
  obtain ⟨kU, u1, u2⟩ := al.2.2 _ _ e3
  exact ⟨D, fV, fC, ⟨hD, ⟨knV, fun q hq => by rw [hq] at obV; cases obV⟩, by rw [al.findClass]; exact e2, kU, u1, by rw [u2]; exact i3, by rw [u2]; exact e5 i3⟩, ⟨SBG.found_only al ⟨cfV, kV, iV, gV⟩, stV⟩, ⟨SBG.found_only al ⟨cfC, kC, iC, gC⟩, stC⟩, slV, slC, by simp [RoadKit.slotOf, gV], by simp [RoadKit.slotOf, gC]⟩
theorem sta_is {Z U : State} (al : Z.vm.Alike U.vm) {C n d : String} {v : Value} (S : RoadKit.Sta Z U.heap C n d v) : StaticIs U C n d v := by
  obtain ⟨cfS, iS, kS, fS, st, cS, t1, t2, t3, t4, t5, t6, t7⟩ := S
  exact StaticIs.there (s := { Z with heap := U.heap }) ⟨cfS, iS, kS, fS, st, cS, t1, t2, t3, t4, t5, (fun q => by rw [q] at t6; cases t6), t7⟩ al rfl
/-- **length() OF SUCH A STRING** -/
theorem lenW {p : Program} {l : Launch} {e : Env} {R : Room} {s : State} {args : Array Value} {below : List Frame} {len W : Nat} {Z : State} {a0 : Array Value} {h : Heap} (hZ : Z.Warmed39 s.vm) (hw : ∀ d ∈ wordsLen, d.before a0 Z = true) {kI : Nat} (wi : (Jvm.Cond.instantiable ST kI).before a0 Z = true)
    {x t : Addr} {kb : ClassId} {cs : List Int32} {cd N2 z : Int32} {vs : List Value} (E : RoadKit.Exa Z h x ST) (V : RoadKit.Fld Z h x ST "value" "[B" (.ref t)) (C : RoadKit.Fld Z h x ST "coder" "B" (.int cd)) (K : RoadKit.Arv Z h t kb .byte N2 vs (.int 0)) (hc : CodA cs cd N2 vs) (hb : ∀ c ∈ cs, ¬ c < 0 ∧ ¬ (65535 : Int32) < c)
    (S : RoadKit.Sta Z h ST "COMPACT_STRINGS" "Z" (.int z)) (hz : ¬ z = 0) (l2 : cs.length ≤ 4000) (hfr : 2 ≤ R.frames) (hlo : W + 25 ≤ R.locals) :
    Back l R p e below s args (⟨"java/lang/String", "length", "()I"⟩ : MethodName) len W (fun P a => a = #[.ref x] ∧ P.U.heap = h ∧ P.cells + 0 ≤ R.cells ∧ P.slots + 0 ≤ R.slots)
      (fun P _ v B => ∃ L, (v = some (.int (Int32.ofNat cs.length)) ∧ L = [] ∧ B.U.heap = h) ∧ B.locs = P.locs ++ L ∧ B.cells = P.cells + 0 ∧ B.slots = P.slots + 0) := by
  obtain ⟨A, K1, K2, K3, K4, K5, K6⟩ := K
  have hcod := hc.cod (by omega) K3 K5
  intro m meth c P g ig mk a X hg hsize hdg hW hn hp'
  obtain ⟨rfl, rfl, r1, r2⟩ := hp'
  have al : Z.vm.Alike P.U.vm := hZ.alike.trans X.warmed.alike
  obtain ⟨D, fV, fC, hB, F1, F2, g1, g2, -, -⟩ := strObj wi al E V C
  have hx : Txt x t A cd cs.length (fun j => cs.getD j 0) P.U := ⟨⟨_, hB.2.2.1, D, hB.1, rfl, by cases q : D.vm <;> first | rfl | exact absurd q (hB.2.1.2 _)⟩, Has.of hB F1 g1, Has.of hB F2 g2, ⟨K1.1, State.isArrayOf_alike al K1.2.1, K1.2.2, by rcases hcod with ⟨-, q, -⟩ | ⟨-, q, -⟩ <;> omega⟩, hcod, fun j hj => by
    have e : cs.getD j 0 = cs[j] := by simp [List.getD_eq_getElem?_getD, hj]
    show ¬ cs.getD j 0 < 0 ∧ ¬ 65535 < cs.getD j 0
    rw [e]; exact hb _ (List.getElem_mem _)⟩
  obtain ⟨v, B, X', ⟨⟨hv, hh⟩, hl, hk, hs⟩, st⟩ := Len.pays x t A cd cs.length (fun j => cs.getD j 0) z (tabLen_of (movedLen hZ hw)) hfr hlo m meth c P g ig mk _ X hg hsize hdg hW hn ⟨r1, r2, rfl, hx, sta_is al S, hz⟩
  exact ⟨v, B, X', ⟨[], ⟨hv, rfl, hh⟩, hl, hk, hs⟩, st⟩
end StrChars.Road
namespace StrChars
open Jvm Sem ClassFile Op Lib Jvm.Stand Jvm.Free.XT Jvm.Free.ALB Jvm.Free.JM Jvm.Free
open Jvm.Lib.Cold (StaticIs)
/-- what place i of a byte[]'s cell holds -/
def yv (A : Cell) (i : Nat) : Int32 := match A.slots[i]? with | some (.int x) => x | _ => 0
theorem yv_get {a : Addr} {A : Cell} {U : State} (h : XT.Arr .byte a A U) (ht : Typed .byte A) {i : Nat} (hi : i < A.slots.size) : A.slots[i]? = some (.int (yv A i)) := by
  have e := Array.getElem?_eq_getElem hi
  have f := ht i _ e
  unfold yv; rw [e]
  generalize A.slots[i] = v at f
  cases v <;> simp [fits] at f ⊢
/-- the two arrays are equal, place for place -/
def EqC (A B : Cell) : Prop := A.slots.size = B.slots.size ∧ ∀ i, i < A.slots.size → yv A i = yv B i
/-- a boolean that says whether p -/
def Says01 (q : Prop) (r : Option Value) (s u : State) : Prop := ∃ v : Int32, r = some (.int v) ∧ u.heap = s.heap ∧ ((v = 1 ∧ q) ∨ (v = 0 ∧ ¬ q))
theorem Says01.mv {q : Prop} : ∀ r (U U' V V' : State), U'.heap = U.heap → V.vm.Alike V'.vm → V'.heap = V.heap → Says01 q r U V → Says01 q r U' V' :=
  fun r U U' V V' h1 _ h2 ⟨v, a, b, c⟩ => ⟨v, a, by rw [h1, h2]; exact b, c⟩
namespace LEq
def yN : MethodName := ⟨"java/lang/StringLatin1", "equals", "([B[B)Z"⟩
abbrev yB : ByteArray := jdk_43_method_13_code
theorem d0 : decode yB 0 = .ok (.aload_n 0, 1) := by decide +kernel
theorem d1 : decode yB 1 = .ok (.arraylength, 1) := by decide +kernel
theorem d2 : decode yB 2 = .ok (.aload_n 1, 1) := by decide +kernel
theorem d3 : decode yB 3 = .ok (.arraylength, 1) := by decide +kernel
theorem d4 : decode yB 4 = .ok (.if_icmp (.ne) 30, 3) := by decide +kernel
theorem d7 : decode yB 7 = .ok (.iconst 0, 1) := by decide +kernel
theorem d8 : decode yB 8 = .ok (.istore_n 2, 1) := by decide +kernel
theorem d9 : decode yB 9 = .ok (.iload_n 2, 1) := by decide +kernel
theorem d10 : decode yB 10 = .ok (.aload_n 0, 1) := by decide +kernel
theorem d11 : decode yB 11 = .ok (.arraylength, 1) := by decide +kernel
theorem d12 : decode yB 12 = .ok (.if_icmp (.ge) 20, 3) := by decide +kernel
theorem d15 : decode yB 15 = .ok (.aload_n 0, 1) := by decide +kernel
theorem d16 : decode yB 16 = .ok (.iload_n 2, 1) := by decide +kernel
theorem d17 : decode yB 17 = .ok (.baload, 1) := by decide +kernel
theorem d18 : decode yB 18 = .ok (.aload_n 1, 1) := by decide +kernel
theorem d19 : decode yB 19 = .ok (.iload_n 2, 1) := by decide +kernel
theorem d20 : decode yB 20 = .ok (.baload, 1) := by decide +kernel
theorem d21 : decode yB 21 = .ok (.if_icmp (.eq) 5, 3) := by decide +kernel
theorem d24 : decode yB 24 = .ok (.iconst 0, 1) := by decide +kernel
theorem d25 : decode yB 25 = .ok (.ireturn, 1) := by decide +kernel
theorem d26 : decode yB 26 = .ok (.iinc 2 1, 3) := by decide +kernel
theorem d29 : decode yB 29 = .ok (.goto (-20), 3) := by decide +kernel
theorem d32 : decode yB 32 = .ok (.iconst 1, 1) := by decide +kernel
theorem d33 : decode yB 33 = .ok (.ireturn, 1) := by decide +kernel
theorem d34 : decode yB 34 = .ok (.iconst 0, 1) := by decide +kernel
theorem d35 : decode yB 35 = .ok (.ireturn, 1) := by decide +kernel
def site : List Cond := []
def tab : Cond := tabOf yN yB 3 (some .boolean) site
def P (a : Addr) (A : Cell) (b : Addr) (B : Cell) (args : Array Value) (s : State) : Prop := args = #[.ref a, .ref b] ∧ XT.Arr .byte a A s ∧ Typed .byte A ∧ XT.Arr .byte b B s ∧ Typed .byte B
/-- whether two byte[] are equal, place for place -/
theorem law (l : Launch) (a : Addr) (A : Cell) (b : Addr) (B : Cell) : Law l yN 2 2 0 0 yB 3 (some .boolean) site (P a A b B) (Says01 (EqC A B)) [] 0 0 := by
  refine Law.of_walk (plainFor_of_name (by decide +kernel)) (by decide +kernel) (by decide +kernel) (by decide) (fun _ _ h => by rw [h.1]; rfl) (fun _ U U' hal hh h => ⟨h.1, h.2.1.mv hal hh, h.2.2.1, h.2.2.2.1.mv hal hh, h.2.2.2.2⟩) (fun r U U' V V' h1 hal h2 h => Says01.mv r U U' V V' h1 hal h2 h) ?_
  intro p e s m args below meth c s₁ X0 hexec hbytes hml hret hlk hnm hown hh0 W hP
  obtain ⟨rfl, hA, tA, hB, tB⟩ := hP
  have a31 := hA.2.2.2
  have b31 := hB.2.2.2
  have hA0 := hA.mv X0.warmed.alike hh0
  have hB0 := hB.mv X0.warmed.alike hh0
  have c1 : Steps p.tables e below (s₁.setTop (entryFrame m #[.ref a, .ref b] 3)) (s₁.setTop (mkF m 0 #[.val (.ref a), .val (.ref b), .unset] [])) := entry rfl
  have c2 : Steps p.tables e below (s₁.setTop (entryFrame m #[.ref a, .ref b] 3)) (s₁.setTop (mkF m 4 #[.val (.ref a), .val (.ref b), .unset] [.int (Int32.ofNat B.slots.size), .int (Int32.ofNat A.slots.size)])) := c1.trans (by
    refine XS.aloadN X0.here hexec rfl (hb hbytes d0) rfl rfl ?_
    refine X0.alen hexec hA0 rfl rfl (hb hbytes d1) ?_
    refine XS.aloadN X0.here hexec rfl (hb hbytes d2) rfl rfl ?_
    refine X0.alen hexec hB0 rfl rfl (hb hbytes d3) ?_
    exact Steps.refl _)
  by_cases hs : A.slots.size = B.slots.size
  · have c3 : Steps p.tables e below (s₁.setTop (entryFrame m #[.ref a, .ref b] 3)) (s₁.setTop (mkF m 9 #[.val (.ref a), .val (.ref b), .val (.int 0)] [])) := c2.trans (by
      refine XS.icmpNo X0.here hexec rfl (hb hbytes d4) rfl (ii_ne_f (by rw [hs])) ?_
      refine iconstV X0.here hexec rfl 0 (hb hbytes d7) (by decide) ?_
      refine XS.istoreN X0.here hexec rfl (hb hbytes d8) rfl rfl ?_
      exact Steps.refl _)
    have loop : ∀ (r i : Nat), i + r = A.slots.size → (∀ j, j < i → yv A j = yv B j) → Steps p.tables e below (s₁.setTop (entryFrame m #[.ref a, .ref b] 3)) (s₁.setTop (mkF m 9 #[.val (.ref a), .val (.ref b), .val (.int (Int32.ofNat i))] [])) → ∃ (pc : Nat) (Ls : Array Slot) (v : Int32), (pc = 25 ∨ pc = 33) ∧ ((v = 1 ∧ EqC A B) ∨ (v = 0 ∧ ¬ EqC A B)) ∧ Steps p.tables e below (s₁.setTop (entryFrame m #[.ref a, .ref b] 3)) (s₁.setTop (mkF m pc Ls [.int v])) := by
      intro r
      induction r with
      | zero =>
        intro i hi he cl
        exact ⟨33, _, 1, Or.inr rfl, Or.inl ⟨rfl, hs, fun j hj => he j (by omega)⟩, cl.trans (by
          refine XS.iloadN X0.here hexec rfl (hb hbytes d9) rfl ?_
          refine XS.aloadN X0.here hexec rfl (hb hbytes d10) rfl rfl ?_
          refine X0.alen hexec hA0 rfl rfl (hb hbytes d11) ?_
          refine XS.icmpYes X0.here hexec rfl (pc0 := 12) rfl (hb hbytes d12) rfl (ii_ge_t (nlt32 (by omega) (by omega))) (by decide) rfl ?_
          refine iconstV X0.here hexec rfl 1 (hb hbytes d32) (by decide) ?_
          exact Steps.refl _)⟩
      | succ r ih =>
        intro i hi he cl
        have c4 : Steps p.tables e below (s₁.setTop (entryFrame m #[.ref a, .ref b] 3)) (s₁.setTop (mkF m 21 #[.val (.ref a), .val (.ref b), .val (.int (Int32.ofNat i))] [.int (yv B i), .int (yv A i)])) := cl.trans (by
          refine XS.iloadN X0.here hexec rfl (hb hbytes d9) rfl ?_
          refine XS.aloadN X0.here hexec rfl (hb hbytes d10) rfl rfl ?_
          refine X0.alen hexec hA0 rfl rfl (hb hbytes d11) ?_
          refine XS.icmpNo X0.here hexec rfl (hb hbytes d12) rfl (ii_ge_f (lt32 (by omega) (by omega))) ?_
          refine XS.aloadN X0.here hexec rfl (hb hbytes d15) rfl rfl ?_
          refine XS.iloadN X0.here hexec rfl (hb hbytes d16) rfl ?_
          refine X0.aget hexec hA0 rfl (yv_get hA tA (i := i) (by omega)) rfl rfl (hb hbytes d17) ?_
          refine XS.aloadN X0.here hexec rfl (hb hbytes d18) rfl rfl ?_
          refine XS.iloadN X0.here hexec rfl (hb hbytes d19) rfl ?_
          refine X0.aget hexec hB0 rfl (yv_get hB tB (i := i) (by omega)) rfl rfl (hb hbytes d20) ?_
          exact Steps.refl _)
        by_cases hv : yv A i = yv B i
        · have c5 : Steps p.tables e below (s₁.setTop (entryFrame m #[.ref a, .ref b] 3)) (s₁.setTop (mkF m 9 #[.val (.ref a), .val (.ref b), .val (.int (Int32.ofNat i + 1))] [])) := c4.trans (by
            refine XS.icmpYes X0.here hexec rfl (pc0 := 21) rfl (hb hbytes d21) rfl (ii_eq_t hv) (by decide) rfl ?_
            refine iincV X0.here hexec rfl 1 (hb hbytes d26) (by decide) rfl rfl ?_
            refine XS.goto X0.here hexec rfl (pc0 := 29) rfl (hb hbytes d29) (by decide) rfl ?_
            exact Steps.refl _)
          rw [succ32] at c5
          exact ih (i + 1) (by omega) (fun j hj => by
            by_cases e : j = i
            · rw [e]; exact hv
            · exact he j (by omega)) c5
        · exact ⟨25, _, 0, Or.inl rfl, Or.inr ⟨rfl, fun q => hv (q.2 i (by omega))⟩, c4.trans (by
            refine XS.icmpNo X0.here hexec rfl (hb hbytes d21) rfl (ii_eq_f hv) ?_
            refine iconstV X0.here hexec rfl 0 (hb hbytes d24) (by decide) ?_
            exact Steps.refl _)⟩
    obtain ⟨pc, Ls, v, hpc, hv, cz⟩ := loop A.slots.size 0 (by omega) (fun j hj => absurd hj (Nat.not_lt_zero j)) c3
    have nv : narrow .boolean (.int v) = .int v := by rcases hv with ⟨rfl, -⟩ | ⟨rfl, -⟩ <;> rfl
    rcases hpc with rfl | rfl
    · exact ⟨s₁, some (.int v), _, _, _, X0, rfl, rfl, rfl, (fun h => by cases h), ⟨v, rfl, hh0, hv⟩, fun fs hl => cz.trans (X0.ireturnOut hexec hret nv (Or.inr (Or.inl rfl)) (hb hbytes d25) hl)⟩
    · exact ⟨s₁, some (.int v), _, _, _, X0, rfl, rfl, rfl, (fun h => by cases h), ⟨v, rfl, hh0, hv⟩, fun fs hl => cz.trans (X0.ireturnOut hexec hret nv (Or.inr (Or.inl rfl)) (hb hbytes d33) hl)⟩
  · have c3 : Steps p.tables e below (s₁.setTop (entryFrame m #[.ref a, .ref b] 3)) (s₁.setTop (mkF m 35 #[.val (.ref a), .val (.ref b), .unset] [.int 0])) := c2.trans (by
      refine XS.icmpYes X0.here hexec rfl (pc0 := 4) rfl (hb hbytes d4) rfl (ii_ne_t (ne32 a31 b31 hs)) (by decide) rfl ?_
      refine iconstV X0.here hexec rfl 0 (hb hbytes d34) (by decide) ?_
      exact Steps.refl _)
    exact ⟨s₁, some (.int 0), _, _, _, X0, rfl, rfl, rfl, (fun h => by cases h), ⟨0, rfl, hh0, Or.inr ⟨rfl, fun q => hs q.1⟩⟩, fun fs hl => c3.trans (X0.ireturnOut hexec hret rfl (Or.inr (Or.inl rfl)) (hb hbytes d35) hl)⟩
end LEq
theorem Cod.ty {cd : Int32} {n : Nat} {f : Nat → Int32} {V : Cell} (h : Cod cd n f V) : Typed .byte V := fun i v hv => by
  have hi : i < V.slots.size := (Array.getElem?_eq_some_iff.mp hv).1
  rcases h with ⟨-, k1, k2⟩ | ⟨-, k1, k2, -⟩
  · rw [(k2 i (by omega)).1] at hv; cases hv; exact fits_lo8 _
  · rcases Nat.mod_two_eq_zero_or_one i with e | e
    · obtain ⟨j, rfl⟩ : ∃ j, i = 2 * j := ⟨i / 2, by omega⟩
      rw [(k2 j (by omega)).1] at hv; cases hv; exact fits_lo8 _
    · obtain ⟨j, rfl⟩ : ∃ j, i = 2 * j + 1 := ⟨i / 2, by omega⟩
      rw [(k2 j (by omega)).2] at hv; cases hv; exact fits_lo8 _
/-- the same text -/
def SameT (n : Nat) (f : Nat → Int32) (k : Nat) (g : Nat → Int32) : Prop := n = k ∧ ∀ j, j < n → f j = g j
theorem lo8_inj {x y : Int32} (h0 : ¬ x < 0) (h1 : ¬ 255 < x) (k0 : ¬ y < 0) (k1 : ¬ 255 < y) (h : lo8 x = lo8 y) : x = y := by
  rw [← lo8_mask h0 h1, ← lo8_mask k0 k1, h]
/-- arrays coded by one coder are equal just where the texts are -/
theorem Cod.eqv {cd : Int32} {n k : Nat} {f g : Nat → Int32} {V V' : Cell} (h : Cod cd n f V) (h' : Cod cd k g V') (hf : ∀ j, j < n → ¬ f j < 0 ∧ ¬ 65535 < f j) (hg : ∀ j, j < k → ¬ g j < 0 ∧ ¬ 65535 < g j) : EqC V V' ↔ SameT n f k g := by
  have yvv : ∀ {W : Cell} {i : Nat} {x : Int32}, W.slots[i]? = some (.int x) → yv W i = x := fun q => by unfold yv; rw [q]
  rcases h with ⟨rfl, k1, k2⟩ | ⟨rfl, k1, k2, -⟩
  · rcases h' with ⟨-, m1, m2⟩ | ⟨e, -⟩
    · constructor
      · rintro ⟨e1, e2⟩
        refine ⟨by omega, fun j hj => ?_⟩
        have q := e2 j (by omega)
        rw [yvv (k2 j hj).1, yvv (m2 j (by omega)).1] at q
        exact lo8_inj (hf j hj).1 (k2 j hj).2 (hg j (by omega)).1 (m2 j (by omega)).2 q
      · rintro ⟨rfl, e2⟩
        refine ⟨by omega, fun j hj => ?_⟩
        rw [yvv (k2 j (by omega)).1, yvv (m2 j (by omega)).1, e2 j (by omega)]
    · exact absurd e (by decide)
  · rcases h' with ⟨e, -⟩ | ⟨-, m1, m2, -⟩
    · exact absurd e (by decide)
    · constructor
      · rintro ⟨e1, e2⟩
        refine ⟨by omega, fun j hj => ?_⟩
        have q1 := e2 (2 * j) (by omega)
        have q2 := e2 (2 * j + 1) (by omega)
        rw [yvv (k2 j hj).1, yvv (m2 j (by omega)).1] at q1
        rw [yvv (k2 j hj).2, yvv (m2 j (by omega)).2] at q2
        rw [← pair_says (hf j hj).1 (hf j hj).2, ← pair_says (hg j (by omega)).1 (hg j (by omega)).2, q1, q2]
      · rintro ⟨rfl, e2⟩
        refine ⟨by omega, fun i hi => ?_⟩
        rcases Nat.mod_two_eq_zero_or_one i with e | e
        · obtain ⟨j, rfl⟩ : ∃ j, i = 2 * j := ⟨i / 2, by omega⟩
          rw [yvv (k2 j (by omega)).1, yvv (m2 j (by omega)).1, e2 j (by omega)]
        · obtain ⟨j, rfl⟩ : ∃ j, i = 2 * j + 1 := ⟨i / 2, by omega⟩
          rw [yvv (k2 j (by omega)).2, yvv (m2 j (by omega)).2, e2 j (by omega)]
/-- two codings differ: so do the texts -/
theorem Cod.dif {cd cd' : Int32} {n k : Nat} {f g : Nat → Int32} {V V' : Cell} (h : Cod cd n f V) (h' : Cod cd' k g V') (hne : ¬ cd = cd') : ¬ SameT n f k g := by
  rintro ⟨rfl, e⟩
  rcases h with ⟨rfl, -, k2⟩ | ⟨rfl, -, -, j, hj, hw⟩
  · rcases h' with ⟨rfl, -⟩ | ⟨-, -, -, j, hj, hw⟩
    · exact hne rfl
    · exact (k2 j hj).2 (by rw [e j hj]; exact hw)
  · rcases h' with ⟨-, -, m2⟩ | ⟨rfl, -⟩
    · exact (m2 j hj).2 (by rw [← e j hj]; exact hw)
    · exact hne rfl
/-- an object of exactly C is an instance of C -/
theorem cinst {p : Program} {l : Launch} {e : Env} {R : Room} {s : State} {m : MethodId} {args : Array Value} {below : List Frame} {meth : Method} {c : Code} {T : State} {locs : List Loc} {cells slots : Nat} (X : Stand p l e R s m args below meth c T locs cells slots) (hexec : p.tables.exec = Jvm.exec) {own C : String} {index : Nat} (hown : s.vm.findClass own = some m.cls) (hlink : (Cond.classLink own index C).before args s = true) {a : Addr} (hE : Exact C a T)
    {g : JFrame} (hg : g.method = m) {rest : List Value} (hstack : g.stack = .ref a :: rest) (hdg : decode c.code g.pc = .ok (.instanceof index, 3)) :
    ∃ T', Stand p l e R s m args below meth c T' locs cells slots ∧ T'.heap = T.heap ∧ ∀ target, Steps p.tables e below (T'.setTop { g with pc := g.pc + 3, stack := .int 1 :: rest }) target → Steps p.tables e below (T.setTop g) target := by
  obtain ⟨cB, h1, D, h2, h3, h4⟩ := hE
  have h1' : s.vm.findClass C = some cB := by rw [← X.warmed.alike.findClass]; exact h1
  obtain ⟨vm', X', st⟩ := X.instanceofYes hexec hown hlink h2 h4 h1' (by rw [h3]; exact Jvm.Free.SB.assignable_self _ _) hg hstack hdg
  exact ⟨_, X', rfl, st⟩
theorem cself {p : Program} {l : Launch} {e : Env} {R : Room} {s : State} {m : MethodId} {args : Array Value} {below : List Frame} {meth : Method} {c : Code} {T : State} {locs : List Loc} {cells slots : Nat} (X : Stand p l e R s m args below meth c T locs cells slots) (hexec : p.tables.exec = Jvm.exec) {own C : String} {index : Nat} (hown : s.vm.findClass own = some m.cls) (hlink : (Cond.classLink own index C).before args s = true) {a : Addr} (hE : Exact C a T)
    {g : JFrame} (hg : g.method = m) {rest : List Value} (hstack : g.stack = .ref a :: rest) (hdg : decode c.code g.pc = .ok (.checkcast index, 3)) :
    ∃ T', Stand p l e R s m args below meth c T' locs cells slots ∧ T'.heap = T.heap ∧ ∀ target, Steps p.tables e below (T'.setTop { g with pc := g.pc + 3, stack := .ref a :: rest }) target → Steps p.tables e below (T.setTop g) target := by
  obtain ⟨cB, h1, D, h2, h3, h4⟩ := hE
  have h1' : s.vm.findClass C = some cB := by rw [← X.warmed.alike.findClass]; exact h1
  obtain ⟨vm', X', st⟩ := X.checkcastYes hexec hown hlink h2 h4 h1' (by rw [h3]; exact Jvm.Free.SB.assignable_self _ _) hg hstack hdg
  exact ⟨_, X', rfl, fun t h => st t (by rw [← hstack] at h; exact h)⟩
namespace SEq
def yN : MethodName := ⟨"java/lang/String", "equals", "(Ljava/lang/Object;)Z"⟩
abbrev yB : ByteArray := jdk_42_method_66_code
theorem d0 : decode yB 0 = .ok (.aload_n 0, 1) := by decide +kernel
theorem d1 : decode yB 1 = .ok (.aload_n 1, 1) := by decide +kernel
theorem d2 : decode yB 2 = .ok (.if_acmp (.ne) 5, 3) := by decide +kernel
theorem d5 : decode yB 5 = .ok (.iconst 1, 1) := by decide +kernel
theorem d6 : decode yB 6 = .ok (.ireturn, 1) := by decide +kernel
theorem d7 : decode yB 7 = .ok (.aload_n 1, 1) := by decide +kernel
theorem d8 : decode yB 8 = .ok (.instanceof 10, 3) := by decide +kernel
theorem d11 : decode yB 11 = .ok (.ifCond (.eq) 43, 3) := by decide +kernel
theorem d14 : decode yB 14 = .ok (.aload_n 1, 1) := by decide +kernel
theorem d15 : decode yB 15 = .ok (.checkcast 10, 3) := by decide +kernel
theorem d18 : decode yB 18 = .ok (.astore_n 2, 1) := by decide +kernel
theorem d19 : decode yB 19 = .ok (.getstatic 38, 3) := by decide +kernel
theorem d22 : decode yB 22 = .ok (.ifCond (.eq) 14, 3) := by decide +kernel
theorem d25 : decode yB 25 = .ok (.aload_n 0, 1) := by decide +kernel
theorem d26 : decode yB 26 = .ok (.getfield 15, 3) := by decide +kernel
theorem d29 : decode yB 29 = .ok (.aload_n 2, 1) := by decide +kernel
theorem d30 : decode yB 30 = .ok (.getfield 15, 3) := by decide +kernel
theorem d33 : decode yB 33 = .ok (.if_icmp (.ne) 21, 3) := by decide +kernel
theorem d36 : decode yB 36 = .ok (.aload_n 0, 1) := by decide +kernel
theorem d37 : decode yB 37 = .ok (.getfield 9, 3) := by decide +kernel
theorem d40 : decode yB 40 = .ok (.aload_n 2, 1) := by decide +kernel
theorem d41 : decode yB 41 = .ok (.getfield 9, 3) := by decide +kernel
theorem d44 : decode yB 44 = .ok (.invokestatic 541, 3) := by decide +kernel
theorem d47 : decode yB 47 = .ok (.ifCond (.eq) 7, 3) := by decide +kernel
theorem d50 : decode yB 50 = .ok (.iconst 1, 1) := by decide +kernel
theorem d51 : decode yB 51 = .ok (.goto 4, 3) := by decide +kernel
theorem d54 : decode yB 54 = .ok (.iconst 0, 1) := by decide +kernel
theorem d55 : decode yB 55 = .ok (.ireturn, 1) := by decide +kernel
def site : List Cond := [.classLink "java/lang/String" 10 "java/lang/String", .fieldLink "java/lang/String" 38 "java/lang/String" "COMPACT_STRINGS" "Z", .fieldLink "java/lang/String" 15 "java/lang/String" "coder" "B", .fieldLink "java/lang/String" 9 "java/lang/String" "value" "[B", LEq.tab] ++ staticW "java/lang/String" 541 LEq.yN
def tab : Cond := tabOf yN yB 3 (some .boolean) site
def P (x t : Addr) (V : Cell) (cd : Int32) (n : Nat) (f : Nat → Int32) (y t' : Addr) (V' : Cell) (cd' : Int32) (k : Nat) (g : Nat → Int32) (z : Int32) (args : Array Value) (s : State) : Prop := args = #[.ref x, .ref y] ∧ Txt x t V cd n f s ∧ Txt y t' V' cd' k g s ∧ StaticIs s "java/lang/String" "COMPACT_STRINGS" "Z" (.int z) ∧ ¬ z = 0
/-- equals(Object) of two Strings: whether the texts are the same -/
theorem law (l : Launch) (x t : Addr) (V : Cell) (cd : Int32) (n : Nat) (f : Nat → Int32) (y t' : Addr) (V' : Cell) (cd' : Int32) (k : Nat) (g : Nat → Int32) (z : Int32) : Law l yN 2 1 1 14 yB 3 (some .boolean) site (P x t V cd n f y t' V' cd' k g z) (Says01 (SameT n f k g)) [] 0 0 := by
  refine Law.of_walk (plainFor_of_name (by decide +kernel)) (by decide +kernel) (by decide +kernel) (by decide) (fun _ _ h => by rw [h.1]; rfl) (fun _ U U' hal hh h => ⟨h.1, h.2.1.mv hal hh, h.2.2.1.mv hal hh, h.2.2.2.1.there hal hh, h.2.2.2.2⟩) (fun r U U' V V' h1 hal h2 h => Says01.mv r U U' V V' h1 hal h2 h) ?_
  intro p e s m args below meth c s₁ X0 hexec hbytes hml hret hlk hnm hown hh0 W hP
  obtain ⟨rfl, hx, hy, s1, hz⟩ := hP
  have c1 : Steps p.tables e below (s₁.setTop (entryFrame m #[.ref x, .ref y] 3)) (s₁.setTop (mkF m 2 #[.val (.ref x), .val (.ref y), .unset] [.ref y, .ref x])) := Steps.trans (entry rfl) (by
    show Steps p.tables e below (s₁.setTop (mkF m 0 #[.val (.ref x), .val (.ref y), .unset] [])) _
    refine XS.aloadN X0.here hexec rfl (hb hbytes d0) rfl rfl ?_
    refine XS.aloadN X0.here hexec rfl (hb hbytes d1) rfl rfl ?_
    exact Steps.refl _)
  by_cases hxy : x = y
  · have c2 : Steps p.tables e below (s₁.setTop (entryFrame m #[.ref x, .ref y] 3)) (s₁.setTop (mkF m 6 #[.val (.ref x), .val (.ref y), .unset] [.int 1])) := c1.trans (by
      refine acmpNo X0.here hexec rfl (hb hbytes d2) rfl rfl rfl (by simp [acmp, hxy]) ?_
      refine iconstV X0.here hexec rfl 1 (hb hbytes d5) (by decide) ?_
      exact Steps.refl _)
    subst hxy
    have ec : cd = cd' := by
      obtain ⟨D, fd, a1, a2, a3⟩ := hx.2.2.1
      obtain ⟨D', fd', b1, b2, b3⟩ := hy.2.2.1
      cases a1.symm.trans b1
      obtain ⟨q1, q2, q3, q4⟩ := a2.1
      obtain ⟨r1, r2, r3, r4⟩ := b2.1
      cases q4.symm.trans r4
      cases a3.symm.trans b3; rfl
    have et : t = t' := by
      obtain ⟨D, fd, a1, a2, a3⟩ := hx.2.1
      obtain ⟨D', fd', b1, b2, b3⟩ := hy.2.1
      cases a1.symm.trans b1
      obtain ⟨q1, q2, q3, q4⟩ := a2.1
      obtain ⟨r1, r2, r3, r4⟩ := b2.1
      cases q4.symm.trans r4
      cases a3.symm.trans b3; rfl
    subst ec et
    have ev : V = V' := by cases hx.2.2.2.1.1.symm.trans hy.2.2.2.1.1; rfl
    subst ev
    have hs : SameT n f k g := (Cod.eqv hx.2.2.2.2.1 hy.2.2.2.2.1 hx.2.2.2.2.2 hy.2.2.2.2.2).mp ⟨rfl, fun _ _ => rfl⟩
    exact ⟨s₁, some (.int 1), _, _, _, X0, rfl, rfl, rfl, (fun h => by cases h), ⟨1, rfl, hh0, Or.inl ⟨rfl, hs⟩⟩, fun fs hl => c2.trans (X0.ireturnOut hexec hret rfl (Or.inr (Or.inl rfl)) (hb hbytes d6) hl)⟩
  · have c2 : Steps p.tables e below (s₁.setTop (entryFrame m #[.ref x, .ref y] 3)) (s₁.setTop (mkF m 8 #[.val (.ref x), .val (.ref y), .unset] [.ref y])) := c1.trans (by
      refine acmpYes X0.here hexec rfl (pc0 := 2) rfl (hb hbytes d2) rfl rfl rfl (by simp [acmp, hxy]) (by decide) rfl ?_
      refine XS.aloadN X0.here hexec rfl (hb hbytes d7) rfl rfl ?_
      exact Steps.refl _)
    obtain ⟨T3, X3, q3, st3⟩ := cinst X0 hexec hown (wk W (.classLink "java/lang/String" 10 "java/lang/String")) (hy.mv X0.warmed.alike hh0).1 (g := (mkF m 8 #[.val (.ref x), .val (.ref y), .unset] [.ref y])) rfl (rest := []) rfl (hb hbytes d8)
    have hh3 := q3.trans hh0
    have c4 : Steps p.tables e below (s₁.setTop (entryFrame m #[.ref x, .ref y] 3)) (T3.setTop (mkF m 15 #[.val (.ref x), .val (.ref y), .unset] [.ref y])) := (c2.trans (st3 _ (Steps.refl _))).trans (by
      refine XS.ifNo X3.here hexec rfl (hb hbytes d11) rfl (i0_eq_f (by decide)) ?_
      refine XS.aloadN X3.here hexec rfl (hb hbytes d14) rfl rfl ?_
      exact Steps.refl _)
    obtain ⟨T5, X5, q5, st5⟩ := cself X3 hexec hown (wk W (.classLink "java/lang/String" 10 "java/lang/String")) (hy.mv X3.warmed.alike hh3).1 (g := (mkF m 15 #[.val (.ref x), .val (.ref y), .unset] [.ref y])) rfl (rest := []) rfl (hb hbytes d15)
    have hh5 := q5.trans hh3
    have c6 : Steps p.tables e below (s₁.setTop (entryFrame m #[.ref x, .ref y] 3)) (T5.setTop (mkF m 19 #[.val (.ref x), .val (.ref y), .val (.ref y)] [])) := (c4.trans (st5 _ (Steps.refl _))).trans (by
      refine XS.astoreN X5.here hexec rfl (hb hbytes d18) rfl rfl rfl ?_
      exact Steps.refl _)
    obtain ⟨T7, X7, q7, st7⟩ := X5.sget hexec hown (wk W (.fieldLink "java/lang/String" 38 "java/lang/String" "COMPACT_STRINGS" "Z")) s1 (fun _ _ h => by rw [hh5]; exact h) (g := (mkF m 19 #[.val (.ref x), .val (.ref y), .val (.ref y)] [])) rfl (hb hbytes d19)
    have hh7 := q7.trans hh5
    have c8 : Steps p.tables e below (s₁.setTop (entryFrame m #[.ref x, .ref y] 3)) (T7.setTop (mkF m 26 #[.val (.ref x), .val (.ref y), .val (.ref y)] [.ref x])) := (c6.trans (st7 _ (Steps.refl _))).trans (by
      refine XS.ifNo X7.here hexec rfl (hb hbytes d22) rfl (i0_eq_f hz) ?_
      refine XS.aloadN X7.here hexec rfl (hb hbytes d25) rfl rfl ?_
      exact Steps.refl _)
    obtain ⟨T9, X9, q9, st9⟩ := X7.hget hexec hown (wk W (.fieldLink "java/lang/String" 15 "java/lang/String" "coder" "B")) (hx.mv X7.warmed.alike hh7).2.2.1 (g := (mkF m 26 #[.val (.ref x), .val (.ref y), .val (.ref y)] [.ref x])) rfl (rest := []) rfl (hb hbytes d26)
    have hh9 := q9.trans hh7
    have c10 : Steps p.tables e below (s₁.setTop (entryFrame m #[.ref x, .ref y] 3)) (T9.setTop (mkF m 30 #[.val (.ref x), .val (.ref y), .val (.ref y)] [.ref y, .int cd])) := (c8.trans (st9 _ (Steps.refl _))).trans (by
      refine XS.aloadN X9.here hexec rfl (hb hbytes d29) rfl rfl ?_
      exact Steps.refl _)
    obtain ⟨T11, X11, q11, st11⟩ := X9.hget hexec hown (wk W (.fieldLink "java/lang/String" 15 "java/lang/String" "coder" "B")) (hy.mv X9.warmed.alike hh9).2.2.1 (g := (mkF m 30 #[.val (.ref x), .val (.ref y), .val (.ref y)] [.ref y, .int cd])) rfl (rest := [.int cd]) rfl (hb hbytes d30)
    have hh11 := q11.trans hh9
    have c12 : Steps p.tables e below (s₁.setTop (entryFrame m #[.ref x, .ref y] 3)) (T11.setTop (mkF m 33 #[.val (.ref x), .val (.ref y), .val (.ref y)] [.int cd', .int cd])) := c10.trans (st11 _ (Steps.refl _))
    by_cases hcd : cd = cd'
    · subst hcd
      have c13 : Steps p.tables e below (s₁.setTop (entryFrame m #[.ref x, .ref y] 3)) (T11.setTop (mkF m 37 #[.val (.ref x), .val (.ref y), .val (.ref y)] [.ref x])) := c12.trans (by
        refine XS.icmpNo X11.here hexec rfl (hb hbytes d33) rfl (ii_ne_f rfl) ?_
        refine XS.aloadN X11.here hexec rfl (hb hbytes d36) rfl rfl ?_
        exact Steps.refl _)
      obtain ⟨T14, X14, q14, st14⟩ := X11.hget hexec hown (wk W (.fieldLink "java/lang/String" 9 "java/lang/String" "value" "[B")) (hx.mv X11.warmed.alike hh11).2.1 (g := (mkF m 37 #[.val (.ref x), .val (.ref y), .val (.ref y)] [.ref x])) rfl (rest := []) rfl (hb hbytes d37)
      have hh14 := q14.trans hh11
      have c15 : Steps p.tables e below (s₁.setTop (entryFrame m #[.ref x, .ref y] 3)) (T14.setTop (mkF m 41 #[.val (.ref x), .val (.ref y), .val (.ref y)] [.ref y, .ref t])) := (c13.trans (st14 _ (Steps.refl _))).trans (by
        refine XS.aloadN X14.here hexec rfl (hb hbytes d40) rfl rfl ?_
        exact Steps.refl _)
      obtain ⟨T16, X16, q16, st16⟩ := X14.hget hexec hown (wk W (.fieldLink "java/lang/String" 9 "java/lang/String" "value" "[B")) (hy.mv X14.warmed.alike hh14).2.1 (g := (mkF m 41 #[.val (.ref x), .val (.ref y), .val (.ref y)] [.ref y, .ref t])) rfl (rest := [.ref t]) rfl (hb hbytes d41)
      have hh16 := q16.trans hh14
      have c17 : Steps p.tables e below (s₁.setTop (entryFrame m #[.ref x, .ref y] 3)) (T16.setTop (mkF m 44 #[.val (.ref x), .val (.ref y), .val (.ref y)] [.ref t', .ref t])) := c15.trans (st16 _ (Steps.refl _))
      obtain ⟨v18, T18, X18, E18, g18⟩ := X16.callS hexec (LEq.law l t V t' V') hown (wks W (staticW "java/lang/String" 541 LEq.yN)) (wk W LEq.tab) (W := 0) (Nat.le_of_ble_eq_true rfl) (Nat.le_of_ble_eq_true rfl) (Nat.le_refl _) (Nat.le_refl _) (g := (mkF m 44 #[.val (.ref x), .val (.ref y), .val (.ref y)] [.ref t', .ref t])) rfl (by rw [hml]; rfl) c17 (argsL := [.ref t, .ref t']) (rest := []) rfl rfl (by show 2 * 0 + 0 ≤ _; decide) (hb hbytes d44) (⟨rfl, hx.2.2.2.1.mv X16.warmed.alike hh16, hx.2.2.2.2.1.ty, hy.2.2.2.1.mv X16.warmed.alike hh16, hy.2.2.2.2.1.ty⟩)
      obtain ⟨v, rfl, q18, hv⟩ := E18
      have iff := Cod.eqv hx.2.2.2.2.1 hy.2.2.2.2.1 hx.2.2.2.2.2 hy.2.2.2.2.2
      rcases hv with ⟨rfl, he⟩ | ⟨rfl, he⟩
      · have c19 : Steps p.tables e below (s₁.setTop (entryFrame m #[.ref x, .ref y] 3)) (T18.setTop (mkF m 55 #[.val (.ref x), .val (.ref y), .val (.ref y)] [.int 1])) := Steps.trans g18 (by
          refine XS.ifNo X18.here hexec rfl (hb hbytes d47) rfl (i0_eq_f (by decide)) ?_
          refine iconstV X18.here hexec rfl 1 (hb hbytes d50) (by decide) ?_
          refine XS.goto X18.here hexec rfl (pc0 := 51) rfl (hb hbytes d51) (by decide) rfl ?_
          exact Steps.refl _)
        exact ⟨T18, some (.int 1), _, _, _, X18, rfl, rfl, rfl, (fun h => by cases h), ⟨1, rfl, q18.trans hh16, Or.inl ⟨rfl, iff.mp he⟩⟩, fun fs hl => c19.trans (X18.ireturnOut hexec hret rfl (Or.inr (Or.inl rfl)) (hb hbytes d55) hl)⟩
      · have c19 : Steps p.tables e below (s₁.setTop (entryFrame m #[.ref x, .ref y] 3)) (T18.setTop (mkF m 55 #[.val (.ref x), .val (.ref y), .val (.ref y)] [.int 0])) := Steps.trans g18 (by
          refine XS.ifYes X18.here hexec rfl (pc0 := 47) rfl (hb hbytes d47) rfl (i0_eq_t rfl) (by decide) rfl ?_
          refine iconstV X18.here hexec rfl 0 (hb hbytes d54) (by decide) ?_
          exact Steps.refl _)
        exact ⟨T18, some (.int 0), _, _, _, X18, rfl, rfl, rfl, (fun h => by cases h), ⟨0, rfl, q18.trans hh16, Or.inr ⟨rfl, fun q => he (iff.mpr q)⟩⟩, fun fs hl => c19.trans (X18.ireturnOut hexec hret rfl (Or.inr (Or.inl rfl)) (hb hbytes d55) hl)⟩
    · have c13 : Steps p.tables e below (s₁.setTop (entryFrame m #[.ref x, .ref y] 3)) (T11.setTop (mkF m 55 #[.val (.ref x), .val (.ref y), .val (.ref y)] [.int 0])) := c12.trans (by
        refine XS.icmpYes X11.here hexec rfl (pc0 := 33) rfl (hb hbytes d33) rfl (ii_ne_t hcd) (by decide) rfl ?_
        refine iconstV X11.here hexec rfl 0 (hb hbytes d54) (by decide) ?_
        exact Steps.refl _)
      exact ⟨T11, some (.int 0), _, _, _, X11, rfl, rfl, rfl, (fun h => by cases h), ⟨0, rfl, hh11, Or.inr ⟨rfl, Cod.dif hx.2.2.2.2.1 hy.2.2.2.2.1 hcd⟩⟩, fun fs hl => c13.trans (X11.ireturnOut hexec hret rfl (Or.inr (Or.inl rfl)) (hb hbytes d55) hl)⟩
theorem pays {l : Launch} {R : Room} {p : Program} {e : Env} {below : List Frame} {s : State} {sargs : Array Value} {len W : Nat} (x t : Addr) (V : Cell) (cd : Int32) (n : Nat) (f : Nat → Int32) (y t' : Addr) (V' : Cell) (cd' : Int32) (k : Nat) (g : Nat → Int32) (z : Int32) (htab : tab.before sargs s = true) (hfr : 2 ≤ R.frames) (hlo : W + 28 ≤ R.locals) :
    Back l R p e below s sargs yN len W (fun A₁ a₁ => A₁.cells + 0 ≤ R.cells ∧ A₁.slots + 0 ≤ R.slots ∧ P x t V cd n f y t' V' cd' k g z a₁ A₁.U) (fun A₁ _ v₁ B₁ => Says01 (SameT n f k g) v₁ A₁.U B₁.U ∧ B₁.locs = A₁.locs ++ [] ∧ B₁.cells = A₁.cells + 0 ∧ B₁.slots = A₁.slots + 0) :=
  (law l x t V cd n f y t' V' cd' k g z).pays htab hfr (by omega)
end SEq
end StrChars
namespace StrChars.Road
open Jvm Sem ClassFile Op Lib Jvm.Stand Jvm.Free Jvm.Free.XT
open Jvm.Lib.Cold (StaticIs)
/-- the words of String.equals(Object) -/
abbrev wordsEq : List Jvm.Cond := [.code SEq.yN SEq.yB 3 (some .boolean), .initialized ST, .classLink ST 10 ST, .fieldLink ST 38 ST "COMPACT_STRINGS" "Z", .fieldLink ST 15 ST "coder" "B", .fieldLink ST 9 ST "value" "[B", .methodLink ST 541 LEq.yN, .static LEq.yN, .code LEq.yN LEq.yB 3 (some .boolean), .initialized "java/lang/StringLatin1"]
theorem tabEq_of {a : Array Value} {s : State} (h : ∀ w ∈ wordsEq, w.before a s = true) : SEq.tab.before a s = true := by
  have hl : LEq.tab.before a s = true := unparts (wk h (.code LEq.yN LEq.yB 3 (some .boolean))) (wks h (.initialized LEq.yN.cls :: LEq.site))
  have q := consq hl h
  exact unparts (wk q (.code SEq.yN SEq.yB 3 (some .boolean))) (wks q (.initialized SEq.yN.cls :: SEq.site))
theorem movedEq {Z s : State} {a0 args : Array Value} (hZ : Z.Warmed39 s.vm) (hw : ∀ d ∈ wordsEq, d.before a0 Z = true) : ∀ d ∈ wordsEq, d.before args s = true := fun d hd => by
  have t : ∀ d ∈ wordsEq, (d.onTables && d.keepsFace) = true := by decide +kernel
  exact RoadKit.mv hZ (hw d hd) (t d hd)
/-- the road's facts of a String, as the laws ask it -/
theorem txt_of {Z U : State} {a0 : Array Value} {kI : Nat} (wi : (Jvm.Cond.instantiable ST kI).before a0 Z = true) (al : Z.vm.Alike U.vm) {x t : Addr} {kb : ClassId} {cs : List Int32} {cd N2 : Int32} {vs : List Value} (E : RoadKit.Exa Z U.heap x ST) (V : RoadKit.Fld Z U.heap x ST "value" "[B" (.ref t)) (C : RoadKit.Fld Z U.heap x ST "coder" "B" (.int cd)) (K : RoadKit.Arv Z U.heap t kb .byte N2 vs (.int 0)) (hc : CodA cs cd N2 vs) (hb : ∀ c ∈ cs, ¬ c < 0 ∧ ¬ (65535 : Int32) < c) (l2 : cs.length ≤ 4000) :
    ∃ A, Txt x t A cd cs.length (fun j => cs.getD j 0) U := by
  obtain ⟨A, K1, K2, K3, K4, K5, K6⟩ := K
  have hcod := hc.cod (by omega) K3 K5
  obtain ⟨D, fV, fC, hB, F1, F2, g1, g2, -, -⟩ := strObj wi al E V C
  exact ⟨A, ⟨_, hB.2.2.1, D, hB.1, rfl, by cases q : D.vm <;> first | rfl | exact absurd q (hB.2.1.2 _)⟩, Has.of hB F1 g1, Has.of hB F2 g2, ⟨K1.1, State.isArrayOf_alike al K1.2.1, K1.2.2, by rcases hcod with ⟨-, q, -⟩ | ⟨-, q, -⟩ <;> omega⟩, hcod, fun j hj => by
    have e : cs.getD j 0 = cs[j] := by simp [List.getD_eq_getElem?_getD, hj]
    show ¬ cs.getD j 0 < 0 ∧ ¬ 65535 < cs.getD j 0
    rw [e]; exact hb _ (List.getElem_mem _)⟩
theorem same_list (cs ds : List Int32) : SameT cs.length (fun j => cs.getD j 0) ds.length (fun j => ds.getD j 0) ↔ cs = ds := by
  constructor
  · rintro ⟨e, q⟩
    refine List.ext_getElem e fun j h1 h2 => ?_
    have := q j h1
    simpa [List.getD_eq_getElem?_getD, h1, h2] using this
  · rintro rfl
    exact ⟨rfl, fun _ _ => rfl⟩
/-- **equals(Object) OF TWO SUCH STRINGS**: 1 just where the chars are the same -/
theorem eqW {p : Program} {l : Launch} {e : Env} {R : Room} {s : State} {args : Array Value} {below : List Frame} {len W : Nat} {Z : State} {a0 : Array Value} {h : Heap} (hZ : Z.Warmed39 s.vm) (hw : ∀ d ∈ wordsEq, d.before a0 Z = true) {kI : Nat} (wi : (Jvm.Cond.instantiable ST kI).before a0 Z = true)
    {x t : Addr} {kb : ClassId} {cs : List Int32} {cd N2 : Int32} {vs : List Value} (E : RoadKit.Exa Z h x ST) (V : RoadKit.Fld Z h x ST "value" "[B" (.ref t)) (C : RoadKit.Fld Z h x ST "coder" "B" (.int cd)) (K : RoadKit.Arv Z h t kb .byte N2 vs (.int 0)) (hc : CodA cs cd N2 vs) (hb : ∀ c ∈ cs, ¬ c < 0 ∧ ¬ (65535 : Int32) < c) (l2 : cs.length ≤ 4000)
    {y t' : Addr} {kb' : ClassId} {ds : List Int32} {cd' N2' : Int32} {vs' : List Value} (E' : RoadKit.Exa Z h y ST) (V' : RoadKit.Fld Z h y ST "value" "[B" (.ref t')) (C' : RoadKit.Fld Z h y ST "coder" "B" (.int cd')) (K' : RoadKit.Arv Z h t' kb' .byte N2' vs' (.int 0)) (hc' : CodA ds cd' N2' vs') (hb' : ∀ c ∈ ds, ¬ c < 0 ∧ ¬ (65535 : Int32) < c) (l2' : ds.length ≤ 4000)
    {z : Int32} (S : RoadKit.Sta Z h ST "COMPACT_STRINGS" "Z" (.int z)) (hz : ¬ z = 0) (hfr : 2 ≤ R.frames) (hlo : W + 28 ≤ R.locals) :
    Back l R p e below s args (⟨"java/lang/String", "equals", "(Ljava/lang/Object;)Z"⟩ : MethodName) len W (fun P a => a = #[.ref x, .ref y] ∧ P.U.heap = h ∧ P.cells + 0 ≤ R.cells ∧ P.slots + 0 ≤ R.slots)
      (fun P _ v B => ∃ L, (((v = some (.int 1) ∧ cs = ds) ∨ (v = some (.int 0) ∧ ¬ cs = ds)) ∧ L = [] ∧ B.U.heap = h) ∧ B.locs = P.locs ++ L ∧ B.cells = P.cells + 0 ∧ B.slots = P.slots + 0) := by
  intro m meth c P g ig mk a X hg hsize hdg hW hn hp'
  obtain ⟨rfl, rfl, r1, r2⟩ := hp'
  have al : Z.vm.Alike P.U.vm := hZ.alike.trans X.warmed.alike
  obtain ⟨A, hx⟩ := txt_of wi al E V C K hc hb l2
  obtain ⟨A', hy⟩ := txt_of wi al E' V' C' K' hc' hb' l2'
  obtain ⟨v, B, X', ⟨⟨w, hv, hh, hq⟩, hl, hk, hs⟩, st⟩ := SEq.pays x t A cd cs.length (fun j => cs.getD j 0) y t' A' cd' ds.length (fun j => ds.getD j 0) z (tabEq_of (movedEq hZ hw)) hfr hlo m meth c P g ig mk _ X hg hsize hdg hW hn ⟨r1, r2, rfl, hx, hy, sta_is al S, hz⟩
  refine ⟨v, B, X', ⟨[], ⟨?_, rfl, hh⟩, hl, hk, hs⟩, st⟩
  rcases hq with ⟨rfl, q⟩ | ⟨rfl, q⟩
  · exact Or.inl ⟨hv, (same_list cs ds).mp q⟩
  · exact Or.inr ⟨hv, fun e => q ((same_list cs ds).mpr e)⟩
end StrChars.Road
namespace StrChars
open Jvm Sem ClassFile Op Lib Jvm.Stand Jvm.Free.XT Jvm.Free.ALB Jvm.Free.JM Jvm.Free
open Jvm.Lib.Cold (StaticIs)
namespace ChN
def yN : MethodName := ⟨"java/lang/String", "charAt", "(I)C"⟩
abbrev yB : ByteArray := jdk_42_method_56_code
theorem d0 : decode yB 0 = .ok (.aload_n 0, 1) := by decide +kernel
theorem d1 : decode yB 1 = .ok (.invokevirtual 492, 3) := by decide +kernel
theorem d4 : decode yB 4 = .ok (.ifCond (.eq) 12, 3) := by decide +kernel
theorem d7 : decode yB 7 = .ok (.aload_n 0, 1) := by decide +kernel
theorem d8 : decode yB 8 = .ok (.getfield 9, 3) := by decide +kernel
theorem d11 : decode yB 11 = .ok (.iload_n 1, 1) := by decide +kernel
theorem d12 : decode yB 12 = .ok (.invokestatic 495, 3) := by decide +kernel
theorem d15 : decode yB 15 = .ok (.ireturn, 1) := by decide +kernel
def site : List Cond := [.fieldLink "java/lang/String" 9 "java/lang/String" "value" "[B", IsL.tab, LChA.tab] ++ virtW "java/lang/String" 492 "java/lang/String" IsL.yN IsL.yN ++ staticW "java/lang/String" 495 LChA.yN
def tab : Cond := tabOf yN yB 2 (some .char) site
def P (x t : Addr) (V : Cell) (n : Nat) (f : Nat → Int32) (z : Int32) (fm : Value) (i : Nat) (args : Array Value) (s : State) : Prop := args = #[.ref x, .int (Int32.ofNat i)] ∧ Txt x t V 0 n f s ∧ i < n ∧ StaticIs s "java/lang/String" "COMPACT_STRINGS" "Z" (.int z) ∧ ¬ z = 0 ∧ StaticIs s "jdk/internal/util/Preconditions" "SIOOBE_FORMATTER" "Ljava/util/function/BiFunction;" fm ∧ fm.isRef = true
def E (f : Nat → Int32) (i : Nat) (r : Option Value) (s u : State) : Prop := XT.PureE (some (.int (f i))) r s u
/-- charAt(i) of a Latin-1 String of n chars, i < n: f i -/
theorem law (l : Launch) (x t : Addr) (V : Cell) (n : Nat) (f : Nat → Int32) (z : Int32) (fm : Value) (i : Nat) : Law l yN 2 1 3 40 yB 2 (some .char) site (P x t V n f z fm i) (E f i) [] 0 0 := by
  refine Law.of_walk (plainFor_of_name (by decide +kernel)) (by decide +kernel) (by decide +kernel) (by decide) (fun _ _ h => by rw [h.1]; rfl) (fun _ U U' hal hh h => ⟨h.1, h.2.1.mv hal hh, h.2.2.1, h.2.2.2.1.there hal hh, h.2.2.2.2.1, h.2.2.2.2.2.1.there hal hh, h.2.2.2.2.2.2⟩) (fun r U U' V V' h1 hal h2 h => XT.PureE.mv r U U' V V' h1 hal h2 h) ?_
  intro p e s m args below meth c s₁ X0 hexec hbytes hml hret hlk hnm hown hh0 W hP
  obtain ⟨rfl, hx, hi, s1, hz, s3, rf⟩ := hP
  have v31 := hx.2.2.2.1.2.2.2
  have hr := hx.2.2.2.2.2 i hi
  have hx0 := hx.mv X0.warmed.alike hh0
  have c1 : Steps p.tables e below (s₁.setTop (entryFrame m #[.ref x, .int (Int32.ofNat i)] 2)) (s₁.setTop (mkF m 1 #[.val (.ref x), .val (.int (Int32.ofNat i))] [.ref x])) := Steps.trans (entry rfl) (by
    show Steps p.tables e below (s₁.setTop (mkF m 0 #[.val (.ref x), .val (.int (Int32.ofNat i))] [])) _
    refine XS.aloadN X0.here hexec rfl (hb hbytes d0) rfl rfl ?_
    exact Steps.refl _)
  obtain ⟨v2, T2, X2, E2, g2⟩ := X0.callV hexec (IsL.law l x 0 z) hown (wks W (virtW "java/lang/String" 492 "java/lang/String" IsL.yN IsL.yN)) rfl (by decide) (wk W IsL.tab) (W := 0) (Nat.le_of_ble_eq_true rfl) (Nat.le_of_ble_eq_true rfl) (Nat.le_refl _) (Nat.le_refl _) (hx0.1.fc X0.warmed.alike) hx0.1.is (g := (mkF m 1 #[.val (.ref x), .val (.int (Int32.ofNat i))] [.ref x])) rfl (by rw [hml]; rfl) c1 (argsL := []) (rest := []) rfl rfl (by show 2 * 0 + 0 ≤ _; decide) (hb hbytes d1) (⟨rfl, hx0.2.2.1, hx.2.2.2.2.1.cd, s1.there X0.warmed.alike hh0, hz⟩)
  obtain ⟨rfl, q2⟩ := E2
  have hh2 := q2.trans hh0
  have hx2 := hx.mv X2.warmed.alike hh2
  obtain ⟨-, k1, k2⟩ | ⟨k0, -⟩ := hx.2.2.2.2.1
  · have c3 : Steps p.tables e below (s₁.setTop (entryFrame m #[.ref x, .int (Int32.ofNat i)] 2)) (T2.setTop (mkF m 8 #[.val (.ref x), .val (.int (Int32.ofNat i))] [.ref x])) := Steps.trans g2 (by
      refine XS.ifNo X2.here hexec rfl (hb hbytes d4) rfl (i0_eq_f (by decide)) ?_
      refine XS.aloadN X2.here hexec rfl (hb hbytes d7) rfl rfl ?_
      exact Steps.refl _)
    obtain ⟨T4, X4, q4, st4⟩ := X2.hget hexec hown (wk W (.fieldLink "java/lang/String" 9 "java/lang/String" "value" "[B")) hx2.2.1 (g := (mkF m 8 #[.val (.ref x), .val (.int (Int32.ofNat i))] [.ref x])) rfl (rest := []) rfl (hb hbytes d8)
    have hh4 := q4.trans hh2
    have c5 : Steps p.tables e below (s₁.setTop (entryFrame m #[.ref x, .int (Int32.ofNat i)] 2)) (T4.setTop (mkF m 12 #[.val (.ref x), .val (.int (Int32.ofNat i))] [.int (Int32.ofNat i), .ref t])) := (c3.trans (st4 _ (Steps.refl _))).trans (by
      refine XS.iloadN X4.here hexec rfl (hb hbytes d11) rfl ?_
      exact Steps.refl _)
    obtain ⟨v6, T6, X6, E6, g6⟩ := X4.callS hexec (LChA.law l t V i (lo8 (f i)) fm) hown (wks W (staticW "java/lang/String" 495 LChA.yN)) (wk W LChA.tab) (W := 0) (Nat.le_of_ble_eq_true rfl) (Nat.le_of_ble_eq_true rfl) (Nat.le_refl _) (Nat.le_refl _) (g := (mkF m 12 #[.val (.ref x), .val (.int (Int32.ofNat i))] [.int (Int32.ofNat i), .ref t])) rfl (by rw [hml]; rfl) c5 (argsL := [.ref t, .int (Int32.ofNat i)]) (rest := []) rfl rfl (by show 2 * 0 + 0 ≤ _; decide) (hb hbytes d12) (⟨rfl, hx.2.2.2.1.mv X4.warmed.alike hh4, (k2 i hi).1, s3.there X4.warmed.alike hh4, rf⟩)
    obtain ⟨rfl, q6⟩ := E6
    rw [chr8_lo8 hr.1 (k2 i hi).2] at g6
    exact ⟨T6, some (.int (f i)), _, _, _, X6, rfl, rfl, rfl, (fun h => by cases h), ⟨rfl, q6.trans hh4⟩, fun fs hl => Steps.trans g6 (X6.ireturnOut hexec hret (narrow_ch hr.1 hr.2) (Or.inr (Or.inr (Or.inr (Or.inl rfl)))) (hb hbytes d15) hl)⟩
  · exact absurd k0 (by decide)
theorem pays {l : Launch} {R : Room} {p : Program} {e : Env} {below : List Frame} {s : State} {sargs : Array Value} {len W : Nat} (x t : Addr) (V : Cell) (n : Nat) (f : Nat → Int32) (z : Int32) (fm : Value) (i : Nat) (htab : tab.before sargs s = true) (hfr : 4 ≤ R.frames) (hlo : W + 53 ≤ R.locals) :
    Back l R p e below s sargs yN len W (fun A₁ a₁ => A₁.cells + 0 ≤ R.cells ∧ A₁.slots + 0 ≤ R.slots ∧ P x t V n f z fm i a₁ A₁.U) (fun A₁ _ v₁ B₁ => E f i v₁ A₁.U B₁.U ∧ B₁.locs = A₁.locs ++ [] ∧ B₁.cells = A₁.cells + 0 ∧ B₁.slots = A₁.slots + 0) :=
  (law l x t V n f z fm i).pays htab hfr (by omega)
end ChN
end StrChars
namespace StrChars.Road
open Jvm Sem ClassFile Op Lib Jvm.Stand Jvm.Free Jvm.Free.XT
open Jvm.Lib.Cold (StaticIs)
/-- the words of String.charAt(int), the Latin-1 road alone -/
abbrev wordsChN : List Jvm.Cond := [.code ChN.yN ChN.yB 2 (some .char), .initialized ST, .fieldLink ST 9 ST "value" "[B", .fieldLink ST 38 ST "COMPACT_STRINGS" "Z", .fieldLink ST 15 ST "coder" "B", .code IsL.yN IsL.yB 1 (some .boolean), .methodLink ST 492 IsL.yN, .declares IsL.yN, .selects ST IsL.yN IsL.yN, .instanceMethod IsL.yN,
  .methodLink ST 495 LChA.yN, .static LChA.yN, .code LChA.yN LChA.yB 2 (some .char), .initialized "java/lang/StringLatin1", .methodLink "java/lang/StringLatin1" 9 JO.Str_checkIndex.yN, .static JO.Str_checkIndex.yN, .code JO.Str_checkIndex.yN JO.Str_checkIndex.yB 2 none,
  .fieldLink ST 1053 "jdk/internal/util/Preconditions" "SIOOBE_FORMATTER" "Ljava/util/function/BiFunction;", .methodLink ST 1059 JC.PreCheck.yN, .static JC.PreCheck.yN, .code JC.PreCheck.yN JC.PreCheck.yB 3 (some .int), .initialized "jdk/internal/util/Preconditions"]
theorem tabChN_of {a : Array Value} {s : State} (h : ∀ w ∈ wordsChN, w.before a s = true) : ChN.tab.before a s = true := by
  have hp : JC.PreCheck.tab.before a s = true := unparts (wk h (.code JC.PreCheck.yN JC.PreCheck.yB 3 (some .int))) (wks h (.initialized JC.PreCheck.yN.cls :: JC.PreCheck.site))
  have qk := consq hp h
  have hk : JO.Str_checkIndex.tab.before a s = true := unparts (wk qk (.code JO.Str_checkIndex.yN JO.Str_checkIndex.yB 2 none)) (wks qk (.initialized JO.Str_checkIndex.yN.cls :: JO.Str_checkIndex.site))
  have ql := consq hk h
  have hl : LChA.tab.before a s = true := unparts (wk ql (.code LChA.yN LChA.yB 2 (some .char))) (wks ql (.initialized LChA.yN.cls :: LChA.site))
  have hi : IsL.tab.before a s = true := unparts (wk h (.code IsL.yN IsL.yB 1 (some .boolean))) (wks h (.initialized IsL.yN.cls :: IsL.site))
  have q := consq hi (consq hl h)
  exact unparts (wk q (.code ChN.yN ChN.yB 2 (some .char))) (wks q (.initialized ChN.yN.cls :: ChN.site))
theorem movedChN {Z s : State} {a0 args : Array Value} (hZ : Z.Warmed39 s.vm) (hw : ∀ d ∈ wordsChN, d.before a0 Z = true) : ∀ d ∈ wordsChN, d.before args s = true := fun d hd => by
  have t : ∀ d ∈ wordsChN, (d.onTables && d.keepsFace) = true := by decide +kernel
  exact RoadKit.mv hZ (hw d hd) (t d hd)
/-- **charAt(i) OF A LATIN-1 STRING**, i < n: the char -/
theorem chN {p : Program} {l : Launch} {e : Env} {R : Room} {s : State} {args : Array Value} {below : List Frame} {len W : Nat} {Z : State} {a0 : Array Value} {h : Heap} (hZ : Z.Warmed39 s.vm) (hw : ∀ d ∈ wordsChN, d.before a0 Z = true) {kI : Nat} (wi : (Jvm.Cond.instantiable ST kI).before a0 Z = true)
    {x t : Addr} {kb : ClassId} {cs : List Int32} {N2 z : Int32} {vs : List Value} {fm : Value} {i : Nat} {j : Int32} (E : RoadKit.Exa Z h x ST) (V : RoadKit.Fld Z h x ST "value" "[B" (.ref t)) (C : RoadKit.Fld Z h x ST "coder" "B" (.int 0)) (K : RoadKit.Arv Z h t kb .byte N2 vs (.int 0)) (hc : CodA cs 0 N2 vs) (hb : ∀ c ∈ cs, ¬ c < 0 ∧ ¬ (65535 : Int32) < c)
    (S : RoadKit.Sta Z h ST "COMPACT_STRINGS" "Z" (.int z)) (hz : ¬ z = 0) (F : RoadKit.Sta Z h "jdk/internal/util/Preconditions" "SIOOBE_FORMATTER" "Ljava/util/function/BiFunction;" fm) (rf : fm.isRef = true) (l2 : cs.length ≤ 4000) (hi : i < cs.length) (hj : j = Int32.ofNat i) (hfr : 4 ≤ R.frames) (hlo : W + 53 ≤ R.locals) :
    Back l R p e below s args (⟨"java/lang/String", "charAt", "(I)C"⟩ : MethodName) len W (fun P a => a = #[.ref x, .int j] ∧ P.U.heap = h ∧ P.cells + 0 ≤ R.cells ∧ P.slots + 0 ≤ R.slots)
      (fun P _ v B => ∃ L, (v = some (.int (cs.getD i 0)) ∧ L = [] ∧ B.U.heap = h) ∧ B.locs = P.locs ++ L ∧ B.cells = P.cells + 0 ∧ B.slots = P.slots + 0) := by
  subst hj
  intro m meth c P g ig mk a X hg hsize hdg hW hn hp'
  obtain ⟨rfl, rfl, r1, r2⟩ := hp'
  have al : Z.vm.Alike P.U.vm := hZ.alike.trans X.warmed.alike
  obtain ⟨A, hx⟩ := txt_of wi al E V C K hc hb l2
  obtain ⟨v, B, X', ⟨⟨hv, hh⟩, hl, hk, hs⟩, st⟩ := ChN.pays x t A cs.length (fun j => cs.getD j 0) z fm i (tabChN_of (movedChN hZ hw)) hfr hlo m meth c P g ig mk _ X hg hsize hdg hW hn ⟨r1, r2, rfl, hx, hi, sta_is al S, hz, sta_is al F, rf⟩
  exact ⟨v, B, X', ⟨[], ⟨hv, rfl, hh⟩, hl, hk, hs⟩, st⟩
/-- what backV says of its String, as the contracts of this text ask it: cs's low bytes, coder 0 -/
theorem codOf {cs : List Int32} {n : Nat} (hn : cs.length = n) (hb : ∀ c ∈ cs, ¬ 255 < c) : CodA cs 0 (Int32.ofNat n) ((cs.map lo8).map Value.int) := Or.inl ⟨rfl, by rw [hn], by simp [List.map_map, Function.comp_def], hb⟩
end StrChars.Road
end Jvm.Pilot.@@N@@
namespace Jvm.Pilot.@@N@@
open Jvm Jvm.ClassFile Sem Op Lib Jvm.Free Jvm.Stand Jvm.LawKit Jvm.RoadKit Bundle Jvm.Pilot.@@N@@.Jvm.D
namespace Own
open Jvm Jvm.ClassFile Sem Op Lib Jvm.Free Jvm.Stand Jvm.LawKit Jvm.RoadKit Bundle
abbrev i2c (x : Int32) : Int32 := x.toUInt32.toUInt16.toUInt32.toInt32
/-- from the frame g of T the run comes to an end of which G speaks -/
def Go (p : Program) (e : Env) (below : List Frame) (G : State → Prop) (T : State) (g : JFrame) : Prop := ∃ t, Steps p.tables e below (T.setTop g) t ∧ G t
/-- where a walk stands: Stand, the run's own machine, the heap, the tables, its class, what was written, what was kept -/
def NK (p : Program) (l : Launch) (e : Env) (R : Room) (s : State) (m : MethodId) (args : Array Value) (below : List Frame) (meth : Method) (c : Code) (Z : State) (own : String) (n0 : Nat) (h0 : Heap) (ws : List Addr) (T : State) (h : Heap) (locs : List Loc) (cells slots : Nat) : Prop :=
  Stand p l e R s m args below meth c T locs cells slots ∧ p.tables.exec = Jvm.exec ∧ T.heap = h ∧ Z.Warmed39 s.vm ∧ s.vm.findClass own = some m.cls ∧ Fr n0 locs ∧ Keep h0 h ws ∧ n0 ≤ h0.size ∧ meth.locks = false
theorem Keep.toExt {h h' : Heap} (K : Keep h h' []) : Ext h h' := ⟨K.1, fun a c q => K.2.1 a c q nin0⟩
theorem Keep.ofExt {h h' : Heap} (E : Ext h h') (ws : List Addr) : Keep h h' ws := (Keep.refl h ws).ext E
theorem Ext.rfl' (h : Heap) : Ext h h := ⟨Nat.le_refl _, fun _ _ q => q⟩
theorem Ext.tr {h h' h2 : Heap} (E : Ext h h') (E' : Ext h' h2) : Ext h h2 := ⟨Nat.le_trans E.1 E'.1, fun a c q => E'.2 a c (E.2 a c q)⟩
section Steps1
variable {p : Program} {l : Launch} {e : Env} {R : Room} {s : State} {m : MethodId} {args : Array Value} {below : List Frame} {meth : Method} {c : Code} {Z : State} {own : String} {n0 : Nat} {h0 : Heap} {ws : List Addr} {T T' : State} {h h' : Heap} {locs : List Loc} {cells slots : Nat} {G : State → Prop} {g g' : JFrame} {a0 : Array Value} {pc pc' : Nat} {Ls Ls' : Array Slot} {st rest : List Value}
theorem Go.by1 (f : ∀ t, Steps p.tables e below (T'.setTop g') t → Steps p.tables e below (T.setTop g) t) (k : Go p e below G T' g') : Go p e below G T g := by
  obtain ⟨t, a, b⟩ := k
  exact ⟨t, f t a, b⟩
theorem Go.tr (f : Steps p.tables e below (T.setTop g) (T'.setTop g')) (k : Go p e below G T' g') : Go p e below G T g := by
  obtain ⟨t, a, b⟩ := k
  exact ⟨t, f.trans a, b⟩
/-- a value gets a name -/
theorem lets {α : Type} {P : α → Prop} (x : α) (k : ∀ y, y = x → P y) : P x := k x rfl
theorem NK.iloadN (W : NK p l e R s m args below meth c Z own n0 h0 ws T h locs cells slots) {k : Fin 4} {v : Int32} (hd : decode c.code pc = .ok (.iload_n k, 1)) (hl : Ls[k.val]? = some (.val (.int v))) (hp : pc + 1 = pc') (k' : Go p e below G T (mkF m pc' Ls (.int v :: st))) : Go p e below G T (mkF m pc Ls (st)) := by
  subst hp; exact Go.by1 (fun t q => XS.iloadN W.1.here W.2.1 rfl hd hl q) k'
theorem NK.iload (W : NK p l e R s m args below meth c Z own n0 h0 ws T h locs cells slots) {k : Nat} {v : Int32} (hd : decode c.code pc = .ok (.iload k, 2)) (hl : Ls[k]? = some (.val (.int v))) (hp : pc + 2 = pc') (k' : Go p e below G T (mkF m pc' Ls (.int v :: st))) : Go p e below G T (mkF m pc Ls (st)) := by
  subst hp; exact Go.by1 (fun t q => XS.iload W.1.here W.2.1 rfl hd hl q) k'
theorem NK.istoreN (W : NK p l e R s m args below meth c Z own n0 h0 ws T h locs cells slots) {k : Fin 4} {x : Int32} (hd : decode c.code pc = .ok (.istore_n k, 1)) (hl : storeLocals Ls k.val (.int x) = some Ls') (hp : pc + 1 = pc') (k' : Go p e below G T (mkF m pc' Ls' (rest))) : Go p e below G T (mkF m pc Ls (.int x :: rest)) := by
  subst hp; exact Go.by1 (fun t q => XS.istoreN W.1.here W.2.1 rfl hd rfl hl q) k'
theorem NK.istore (W : NK p l e R s m args below meth c Z own n0 h0 ws T h locs cells slots) {k : Nat} {x : Int32} (hd : decode c.code pc = .ok (.istore k, 2)) (hl : storeLocals Ls k (.int x) = some Ls') (hp : pc + 2 = pc') (k' : Go p e below G T (mkF m pc' Ls' (rest))) : Go p e below G T (mkF m pc Ls (.int x :: rest)) := by
  subst hp; exact Go.by1 (fun t q => XS.istore W.1.here W.2.1 rfl hd rfl hl q) k'
theorem NK.lloadN (W : NK p l e R s m args below meth c Z own n0 h0 ws T h locs cells slots) {k : Fin 4} {v : Int64} (hd : decode c.code pc = .ok (.lload_n k, 1)) (hl : Ls[k.val]? = some (.val (.long v))) (hp : pc + 1 = pc') (k' : Go p e below G T (mkF m pc' Ls (.long v :: st))) : Go p e below G T (mkF m pc Ls (st)) := by
  subst hp; exact Go.by1 (fun t q => XT.lloadN W.1.here W.2.1 rfl hd hl q) k'
theorem NK.lload (W : NK p l e R s m args below meth c Z own n0 h0 ws T h locs cells slots) {k : Nat} {v : Int64} (hd : decode c.code pc = .ok (.lload k, 2)) (hl : Ls[k]? = some (.val (.long v))) (hp : pc + 2 = pc') (k' : Go p e below G T (mkF m pc' Ls (.long v :: st))) : Go p e below G T (mkF m pc Ls (st)) := by
  subst hp; exact Go.by1 (fun t q => XT.lload W.1.here W.2.1 rfl hd hl q) k'
theorem NK.lstoreN (W : NK p l e R s m args below meth c Z own n0 h0 ws T h locs cells slots) {k : Fin 4} {x : Int64} (hd : decode c.code pc = .ok (.lstore_n k, 1)) (hl : storeLocals Ls k.val (.long x) = some Ls') (hp : pc + 1 = pc') (k' : Go p e below G T (mkF m pc' Ls' (rest))) : Go p e below G T (mkF m pc Ls (.long x :: rest)) := by
  subst hp; exact Go.by1 (fun t q => XT.lstoreN W.1.here W.2.1 rfl hd rfl hl q) k'
theorem NK.lstore (W : NK p l e R s m args below meth c Z own n0 h0 ws T h locs cells slots) {k : Nat} {x : Int64} (hd : decode c.code pc = .ok (.lstore k, 2)) (hl : storeLocals Ls k (.long x) = some Ls') (hp : pc + 2 = pc') (k' : Go p e below G T (mkF m pc' Ls' (rest))) : Go p e below G T (mkF m pc Ls (.long x :: rest)) := by
  subst hp; exact Go.by1 (fun t q => XT.lstore W.1.here W.2.1 rfl hd rfl hl q) k'
theorem NK.aloadN (W : NK p l e R s m args below meth c Z own n0 h0 ws T h locs cells slots) {k : Fin 4} {v : Value} (hd : decode c.code pc = .ok (.aload_n k, 1)) (hl : Ls[k.val]? = some (.val v)) (hv : v.isRef = true) (hp : pc + 1 = pc') (k' : Go p e below G T (mkF m pc' Ls (v :: st))) : Go p e below G T (mkF m pc Ls (st)) := by
  subst hp; exact Go.by1 (fun t q => XS.aloadN W.1.here W.2.1 rfl hd hl hv q) k'
theorem NK.aload (W : NK p l e R s m args below meth c Z own n0 h0 ws T h locs cells slots) {k : Nat} {v : Value} (hd : decode c.code pc = .ok (.aload k, 2)) (hl : Ls[k]? = some (.val v)) (hv : v.isRef = true) (hp : pc + 2 = pc') (k' : Go p e below G T (mkF m pc' Ls (v :: st))) : Go p e below G T (mkF m pc Ls (st)) := by
  subst hp; exact Go.by1 (fun t q => XS.aload W.1.here W.2.1 rfl hd hl hv q) k'
theorem NK.astoreN (W : NK p l e R s m args below meth c Z own n0 h0 ws T h locs cells slots) {k : Fin 4} {x : Value} (hd : decode c.code pc = .ok (.astore_n k, 1)) (hv : x.isRef = true) (hl : storeLocals Ls k.val x = some Ls') (hp : pc + 1 = pc') (k' : Go p e below G T (mkF m pc' Ls' (rest))) : Go p e below G T (mkF m pc Ls (x :: rest)) := by
  subst hp; exact Go.by1 (fun t q => XS.astoreN W.1.here W.2.1 rfl hd rfl hv hl q) k'
theorem NK.astore (W : NK p l e R s m args below meth c Z own n0 h0 ws T h locs cells slots) {k : Nat} {x : Value} (hd : decode c.code pc = .ok (.astore k, 2)) (hv : x.isRef = true) (hl : storeLocals Ls k x = some Ls') (hp : pc + 2 = pc') (k' : Go p e below G T (mkF m pc' Ls' (rest))) : Go p e below G T (mkF m pc Ls (x :: rest)) := by
  subst hp; exact Go.by1 (fun t q => XS.astore W.1.here W.2.1 rfl hd rfl hv hl q) k'
theorem NK.iconst (W : NK p l e R s m args below meth c Z own n0 h0 ws T h locs cells slots) {i : Int} (v : Int32) (hd : decode c.code pc = .ok (.iconst i, 1)) (hv : Int32.ofInt i = v) (hp : pc + 1 = pc') (k' : Go p e below G T (mkF m pc' Ls (.int v :: st))) : Go p e below G T (mkF m pc Ls (st)) := by
  subst hp; exact Go.by1 (fun t q => XT.iconstV W.1.here W.2.1 rfl v hd hv q) k'
theorem NK.bipush (W : NK p l e R s m args below meth c Z own n0 h0 ws T h locs cells slots) {i : Int} (v : Int32) (hd : decode c.code pc = .ok (.bipush i, 2)) (hv : (Int8.ofInt i).toInt32 = v) (hp : pc + 2 = pc') (k' : Go p e below G T (mkF m pc' Ls (.int v :: st))) : Go p e below G T (mkF m pc Ls (st)) := by
  subst hp; exact Go.by1 (fun t q => XT.bipushV W.1.here W.2.1 rfl v hd hv q) k'
theorem NK.sipush (W : NK p l e R s m args below meth c Z own n0 h0 ws T h locs cells slots) {i : Int} (v : Int32) (hd : decode c.code pc = .ok (.sipush i, 3)) (hv : (Int16.ofInt i).toInt32 = v) (hp : pc + 3 = pc') (k' : Go p e below G T (mkF m pc' Ls (.int v :: st))) : Go p e below G T (mkF m pc Ls (st)) := by
  subst hp; exact Go.by1 (fun t q => XT.sipushV W.1.here W.2.1 rfl v hd hv q) k'
theorem NK.lconst (W : NK p l e R s m args below meth c Z own n0 h0 ws T h locs cells slots) {k : Fin 2} (v : Int64) (hd : decode c.code pc = .ok (.lconst k, 1)) (hv : Int64.ofNat k = v) (hp : pc + 1 = pc') (k' : Go p e below G T (mkF m pc' Ls (.long v :: st))) : Go p e below G T (mkF m pc Ls (st)) := by
  subst hp; exact Go.by1 (fun t q => XT.lconstV W.1.here W.2.1 rfl v hd hv q) k'
theorem NK.aconstNull (W : NK p l e R s m args below meth c Z own n0 h0 ws T h locs cells slots)  (hd : decode c.code pc = .ok (.aconst_null, 1))  (hp : pc + 1 = pc') (k' : Go p e below G T (mkF m pc' Ls (.null :: st))) : Go p e below G T (mkF m pc Ls (st)) := by
  subst hp; exact Go.by1 (fun t q => XS.aconstNull W.1.here W.2.1 rfl hd q) k'
theorem NK.iadd (W : NK p l e R s m args below meth c Z own n0 h0 ws T h locs cells slots) {x y : Int32} (hd : decode c.code pc = .ok (.iadd, 1))  (hp : pc + 1 = pc') (k' : Go p e below G T (mkF m pc' Ls (.int (x + y) :: rest))) : Go p e below G T (mkF m pc Ls (.int y :: .int x :: rest)) := by
  subst hp; exact Go.by1 (fun t q => XS.iadd W.1.here W.2.1 rfl hd rfl q) k'
theorem NK.isub (W : NK p l e R s m args below meth c Z own n0 h0 ws T h locs cells slots) {x y : Int32} (hd : decode c.code pc = .ok (.isub, 1))  (hp : pc + 1 = pc') (k' : Go p e below G T (mkF m pc' Ls (.int (x - y) :: rest))) : Go p e below G T (mkF m pc Ls (.int y :: .int x :: rest)) := by
  subst hp; exact Go.by1 (fun t q => XS.isub W.1.here W.2.1 rfl hd rfl q) k'
theorem NK.iand (W : NK p l e R s m args below meth c Z own n0 h0 ws T h locs cells slots) {x y : Int32} (hd : decode c.code pc = .ok (.iand, 1))  (hp : pc + 1 = pc') (k' : Go p e below G T (mkF m pc' Ls (.int (x &&& y) :: rest))) : Go p e below G T (mkF m pc Ls (.int y :: .int x :: rest)) := by
  subst hp; exact Go.by1 (fun t q => XS.iand W.1.here W.2.1 rfl hd rfl q) k'
theorem NK.imul (W : NK p l e R s m args below meth c Z own n0 h0 ws T h locs cells slots) {x y : Int32} (hd : decode c.code pc = .ok (.imul, 1))  (hp : pc + 1 = pc') (k' : Go p e below G T (mkF m pc' Ls (.int (x * y) :: rest))) : Go p e below G T (mkF m pc Ls (.int y :: .int x :: rest)) := by
  subst hp; exact Go.by1 (fun t q => XS.imul W.1.here W.2.1 rfl hd rfl q) k'
theorem NK.ixor (W : NK p l e R s m args below meth c Z own n0 h0 ws T h locs cells slots) {x y : Int32} (hd : decode c.code pc = .ok (.ixor, 1))  (hp : pc + 1 = pc') (k' : Go p e below G T (mkF m pc' Ls (.int (x ^^^ y) :: rest))) : Go p e below G T (mkF m pc Ls (.int y :: .int x :: rest)) := by
  subst hp; exact Go.by1 (fun t q => XT.ixor W.1.here W.2.1 rfl hd rfl q) k'
theorem NK.ior (W : NK p l e R s m args below meth c Z own n0 h0 ws T h locs cells slots) {x y : Int32} (hd : decode c.code pc = .ok (.ior, 1))  (hp : pc + 1 = pc') (k' : Go p e below G T (mkF m pc' Ls (.int (x ||| y) :: rest))) : Go p e below G T (mkF m pc Ls (.int y :: .int x :: rest)) := by
  subst hp; exact Go.by1 (fun t q => XT.ior W.1.here W.2.1 rfl hd rfl q) k'
theorem NK.ishl (W : NK p l e R s m args below meth c Z own n0 h0 ws T h locs cells slots) {x y : Int32} (hd : decode c.code pc = .ok (.ishl, 1))  (hp : pc + 1 = pc') (k' : Go p e below G T (mkF m pc' Ls (.int (x <<< (y &&& 31)) :: rest))) : Go p e below G T (mkF m pc Ls (.int y :: .int x :: rest)) := by
  subst hp; exact Go.by1 (fun t q => XT.ishl W.1.here W.2.1 rfl hd rfl q) k'
theorem NK.ishr (W : NK p l e R s m args below meth c Z own n0 h0 ws T h locs cells slots) {x y : Int32} (hd : decode c.code pc = .ok (.ishr, 1))  (hp : pc + 1 = pc') (k' : Go p e below G T (mkF m pc' Ls (.int (x >>> (y &&& 31)) :: rest))) : Go p e below G T (mkF m pc Ls (.int y :: .int x :: rest)) := by
  subst hp; exact Go.by1 (fun t q => XT.ishr W.1.here W.2.1 rfl hd rfl q) k'
theorem NK.iushr (W : NK p l e R s m args below meth c Z own n0 h0 ws T h locs cells slots) {x y : Int32} (hd : decode c.code pc = .ok (.iushr, 1))  (hp : pc + 1 = pc') (k' : Go p e below G T (mkF m pc' Ls (.int (XT.ushr x y) :: rest))) : Go p e below G T (mkF m pc Ls (.int y :: .int x :: rest)) := by
  subst hp; exact Go.by1 (fun t q => XT.iushr W.1.here W.2.1 rfl hd rfl q) k'
theorem NK.ladd (W : NK p l e R s m args below meth c Z own n0 h0 ws T h locs cells slots) {x y : Int64} (hd : decode c.code pc = .ok (.ladd, 1))  (hp : pc + 1 = pc') (k' : Go p e below G T (mkF m pc' Ls (.long (x + y) :: rest))) : Go p e below G T (mkF m pc Ls (.long y :: .long x :: rest)) := by
  subst hp; exact Go.by1 (fun t q => XT.ladd W.1.here W.2.1 rfl hd rfl q) k'
theorem NK.lsub (W : NK p l e R s m args below meth c Z own n0 h0 ws T h locs cells slots) {x y : Int64} (hd : decode c.code pc = .ok (.lsub, 1))  (hp : pc + 1 = pc') (k' : Go p e below G T (mkF m pc' Ls (.long (x - y) :: rest))) : Go p e below G T (mkF m pc Ls (.long y :: .long x :: rest)) := by
  subst hp; exact Go.by1 (fun t q => XT.lsub W.1.here W.2.1 rfl hd rfl q) k'
theorem NK.lmul (W : NK p l e R s m args below meth c Z own n0 h0 ws T h locs cells slots) {x y : Int64} (hd : decode c.code pc = .ok (.lmul, 1))  (hp : pc + 1 = pc') (k' : Go p e below G T (mkF m pc' Ls (.long (x * y) :: rest))) : Go p e below G T (mkF m pc Ls (.long y :: .long x :: rest)) := by
  subst hp; exact Go.by1 (fun t q => XT.lmul W.1.here W.2.1 rfl hd rfl q) k'
theorem NK.land (W : NK p l e R s m args below meth c Z own n0 h0 ws T h locs cells slots) {x y : Int64} (hd : decode c.code pc = .ok (.land, 1))  (hp : pc + 1 = pc') (k' : Go p e below G T (mkF m pc' Ls (.long (x &&& y) :: rest))) : Go p e below G T (mkF m pc Ls (.long y :: .long x :: rest)) := by
  subst hp; exact Go.by1 (fun t q => XT.land W.1.here W.2.1 rfl hd rfl q) k'
theorem NK.lor (W : NK p l e R s m args below meth c Z own n0 h0 ws T h locs cells slots) {x y : Int64} (hd : decode c.code pc = .ok (.lor, 1))  (hp : pc + 1 = pc') (k' : Go p e below G T (mkF m pc' Ls (.long (x ||| y) :: rest))) : Go p e below G T (mkF m pc Ls (.long y :: .long x :: rest)) := by
  subst hp; exact Go.by1 (fun t q => XT.lor W.1.here W.2.1 rfl hd rfl q) k'
theorem NK.lxor (W : NK p l e R s m args below meth c Z own n0 h0 ws T h locs cells slots) {x y : Int64} (hd : decode c.code pc = .ok (.lxor, 1))  (hp : pc + 1 = pc') (k' : Go p e below G T (mkF m pc' Ls (.long (x ^^^ y) :: rest))) : Go p e below G T (mkF m pc Ls (.long y :: .long x :: rest)) := by
  subst hp; exact Go.by1 (fun t q => XT.lxor W.1.here W.2.1 rfl hd rfl q) k'
theorem NK.lshl (W : NK p l e R s m args below meth c Z own n0 h0 ws T h locs cells slots) {x : Int64} {y : Int32} (hd : decode c.code pc = .ok (.lshl, 1))  (hp : pc + 1 = pc') (k' : Go p e below G T (mkF m pc' Ls (.long (x <<< (y.toInt64 &&& 63)) :: rest))) : Go p e below G T (mkF m pc Ls (.int y :: .long x :: rest)) := by
  subst hp; exact Go.by1 (fun t q => XT.lshl W.1.here W.2.1 rfl hd rfl q) k'
theorem NK.lshr (W : NK p l e R s m args below meth c Z own n0 h0 ws T h locs cells slots) {x : Int64} {y : Int32} (hd : decode c.code pc = .ok (.lshr, 1))  (hp : pc + 1 = pc') (k' : Go p e below G T (mkF m pc' Ls (.long (x >>> (y.toInt64 &&& 63)) :: rest))) : Go p e below G T (mkF m pc Ls (.int y :: .long x :: rest)) := by
  subst hp; exact Go.by1 (fun t q => XT.lshr W.1.here W.2.1 rfl hd rfl q) k'
theorem NK.lushr (W : NK p l e R s m args below meth c Z own n0 h0 ws T h locs cells slots) {x : Int64} {y : Int32} (hd : decode c.code pc = .ok (.lushr, 1))  (hp : pc + 1 = pc') (k' : Go p e below G T (mkF m pc' Ls (.long (XT.ushrL x y) :: rest))) : Go p e below G T (mkF m pc Ls (.int y :: .long x :: rest)) := by
  subst hp; exact Go.by1 (fun t q => XT.lushr W.1.here W.2.1 rfl hd rfl q) k'
theorem NK.ldiv (W : NK p l e R s m args below meth c Z own n0 h0 ws T h locs cells slots) {x y : Int64} (hd : decode c.code pc = .ok (.ldiv, 1)) (hy : y ≠ 0) (hp : pc + 1 = pc') (k' : Go p e below G T (mkF m pc' Ls (.long (x / y) :: rest))) : Go p e below G T (mkF m pc Ls (.long y :: .long x :: rest)) := by
  subst hp; exact Go.by1 (fun t q => XT.ldiv W.1.here W.2.1 rfl hd rfl hy q) k'
theorem NK.lrem (W : NK p l e R s m args below meth c Z own n0 h0 ws T h locs cells slots) {x y : Int64} (hd : decode c.code pc = .ok (.lrem, 1)) (hy : y ≠ 0) (hp : pc + 1 = pc') (k' : Go p e below G T (mkF m pc' Ls (.long (x - (x / y) * y) :: rest))) : Go p e below G T (mkF m pc Ls (.long y :: .long x :: rest)) := by
  subst hp; exact Go.by1 (fun t q => XT.lrem W.1.here W.2.1 rfl hd rfl hy q) k'
theorem NK.idiv (W : NK p l e R s m args below meth c Z own n0 h0 ws T h locs cells slots) {x y : Int32} (hd : decode c.code pc = .ok (.idiv, 1)) (hy : y ≠ 0) (hp : pc + 1 = pc') (k' : Go p e below G T (mkF m pc' Ls (.int (x / y) :: rest))) : Go p e below G T (mkF m pc Ls (.int y :: .int x :: rest)) := by
  subst hp; exact Go.by1 (fun t q => XS.idiv W.1.here W.2.1 rfl hd rfl hy q) k'
theorem NK.irem (W : NK p l e R s m args below meth c Z own n0 h0 ws T h locs cells slots) {x y : Int32} (hd : decode c.code pc = .ok (.irem, 1)) (hy : y ≠ 0) (hp : pc + 1 = pc') (k' : Go p e below G T (mkF m pc' Ls (.int (x % y) :: rest))) : Go p e below G T (mkF m pc Ls (.int y :: .int x :: rest)) := by
  subst hp; exact Go.by1 (fun t q => iremM W.1 W.2.1 rfl hd rfl hy q) k'
theorem NK.ineg (W : NK p l e R s m args below meth c Z own n0 h0 ws T h locs cells slots) {x : Int32} (hd : decode c.code pc = .ok (.ineg, 1))  (hp : pc + 1 = pc') (k' : Go p e below G T (mkF m pc' Ls (.int (-x) :: rest))) : Go p e below G T (mkF m pc Ls (.int x :: rest)) := by
  subst hp; exact Go.by1 (fun t q => XS.ineg W.1.here W.2.1 rfl hd rfl q) k'
theorem NK.lneg (W : NK p l e R s m args below meth c Z own n0 h0 ws T h locs cells slots) {x : Int64} (hd : decode c.code pc = .ok (.lneg, 1))  (hp : pc + 1 = pc') (k' : Go p e below G T (mkF m pc' Ls (.long (-x) :: rest))) : Go p e below G T (mkF m pc Ls (.long x :: rest)) := by
  subst hp; exact Go.by1 (fun t q => XT.lneg W.1.here W.2.1 rfl hd rfl q) k'
theorem NK.i2l (W : NK p l e R s m args below meth c Z own n0 h0 ws T h locs cells slots) {x : Int32} (hd : decode c.code pc = .ok (.i2l, 1))  (hp : pc + 1 = pc') (k' : Go p e below G T (mkF m pc' Ls (.long x.toInt64 :: rest))) : Go p e below G T (mkF m pc Ls (.int x :: rest)) := by
  subst hp; exact Go.by1 (fun t q => XT.i2l W.1.here W.2.1 rfl hd rfl q) k'
theorem NK.l2i (W : NK p l e R s m args below meth c Z own n0 h0 ws T h locs cells slots) {x : Int64} (hd : decode c.code pc = .ok (.l2i, 1))  (hp : pc + 1 = pc') (k' : Go p e below G T (mkF m pc' Ls (.int x.toInt32 :: rest))) : Go p e below G T (mkF m pc Ls (.long x :: rest)) := by
  subst hp; exact Go.by1 (fun t q => XT.l2i W.1.here W.2.1 rfl hd rfl q) k'
theorem NK.i2b (W : NK p l e R s m args below meth c Z own n0 h0 ws T h locs cells slots) {x : Int32} (hd : decode c.code pc = .ok (.i2b, 1))  (hp : pc + 1 = pc') (k' : Go p e below G T (mkF m pc' Ls (.int x.toInt8.toInt32 :: rest))) : Go p e below G T (mkF m pc Ls (.int x :: rest)) := by
  subst hp; exact Go.by1 (fun t q => XT.i2b W.1.here W.2.1 rfl hd rfl q) k'
theorem NK.i2c (W : NK p l e R s m args below meth c Z own n0 h0 ws T h locs cells slots) {x : Int32} (hd : decode c.code pc = .ok (.i2c, 1))  (hp : pc + 1 = pc') (k' : Go p e below G T (mkF m pc' Ls (.int (i2c x) :: rest))) : Go p e below G T (mkF m pc Ls (.int x :: rest)) := by
  subst hp; exact Go.by1 (fun t q => XT.i2c W.1.here W.2.1 rfl hd rfl q) k'
theorem NK.lcmp (W : NK p l e R s m args below meth c Z own n0 h0 ws T h locs cells slots) {x y : Int64} (hd : decode c.code pc = .ok (.lcmp, 1))  (hp : pc + 1 = pc') (k' : Go p e below G T (mkF m pc' Ls (.int (XT.cmpL x y) :: rest))) : Go p e below G T (mkF m pc Ls (.long y :: .long x :: rest)) := by
  subst hp; exact Go.by1 (fun t q => XT.lcmp W.1.here W.2.1 rfl hd rfl q) k'
theorem NK.iinc (W : NK p l e R s m args below meth c Z own n0 h0 ws T h locs cells slots) {k : Nat} {i : Int} {x : Int32} (v : Int32) (hd : decode c.code pc = .ok (.iinc k i, 3)) (hv : Int32.ofInt i = v) (hl : Ls[k]? = some (.val (.int x))) (hl' : storeLocals Ls k (.int (x + v)) = some Ls') (hp : pc + 3 = pc') (k' : Go p e below G T (mkF m pc' Ls' (st))) : Go p e below G T (mkF m pc Ls (st)) := by
  subst hp; exact Go.by1 (fun t q => XT.iincV W.1.here W.2.1 rfl v hd hv hl hl' q) k'
theorem NK.dup (W : NK p l e R s m args below meth c Z own n0 h0 ws T h locs cells slots) {x : Value} (hd : decode c.code pc = .ok (.dup, 1)) (hc : x.category = 1) (hp : pc + 1 = pc') (k' : Go p e below G T (mkF m pc' Ls (x :: x :: rest))) : Go p e below G T (mkF m pc Ls (x :: rest)) := by
  subst hp; exact Go.by1 (fun t q => XS.dup W.1.here W.2.1 rfl hd rfl hc q) k'
theorem NK.pop (W : NK p l e R s m args below meth c Z own n0 h0 ws T h locs cells slots) {x : Value} (hd : decode c.code pc = .ok (.pop, 1)) (hc : x.category = 1) (hp : pc + 1 = pc') (k' : Go p e below G T (mkF m pc' Ls (rest))) : Go p e below G T (mkF m pc Ls (x :: rest)) := by
  subst hp; exact Go.by1 (fun t q => XT.pop W.1.here W.2.1 rfl hd rfl hc q) k'
theorem NK.dupX1 (W : NK p l e R s m args below meth c Z own n0 h0 ws T h locs cells slots) {x y : Value} (hd : decode c.code pc = .ok (.dup_x1, 1)) (hc : x.category = 1) (hc' : y.category = 1) (hp : pc + 1 = pc') (k' : Go p e below G T (mkF m pc' Ls (x :: y :: x :: rest))) : Go p e below G T (mkF m pc Ls (x :: y :: rest)) := by
  subst hp; exact Go.by1 (fun t q => XT.dupX1 W.1.here W.2.1 rfl hd rfl hc hc' q) k'
theorem NK.dup2 (W : NK p l e R s m args below meth c Z own n0 h0 ws T h locs cells slots) {x y : Value} (hd : decode c.code pc = .ok (.dup2, 1)) (hc : x.category = 1) (hc' : y.category = 1) (hp : pc + 1 = pc') (k' : Go p e below G T (mkF m pc' Ls (x :: y :: x :: y :: rest))) : Go p e below G T (mkF m pc Ls (x :: y :: rest)) := by
  subst hp; exact Go.by1 (fun t q => XT.dup2 W.1.here W.2.1 rfl hd rfl hc hc' q) k'
theorem NK.goto (W : NK p l e R s m args below meth c Z own n0 h0 ws T h locs cells slots)  {o : Int} (hd : decode c.code pc = .ok (.goto o, 3))  (ho : 0 ≤ (pc : Int) + o) (hp : ((pc : Int) + o).toNat = pc') (k' : Go p e below G T (mkF m pc' Ls (rest))) : Go p e below G T (mkF m pc Ls (rest)) := by
  exact Go.by1 (fun t q => XS.goto W.1.here W.2.1 rfl rfl hd ho hp q) k'
theorem NK.ifYes (W : NK p l e R s m args below meth c Z own n0 h0 ws T h locs cells slots) {cd : ClassFile.Cond} {x : Int32} {o : Int} (hd : decode c.code pc = .ok (.ifCond cd o, 3)) (hc : ifCond.holds cd x = true) (ho : 0 ≤ (pc : Int) + o) (hp : ((pc : Int) + o).toNat = pc') (k' : Go p e below G T (mkF m pc' Ls (rest))) : Go p e below G T (mkF m pc Ls (.int x :: rest)) := by
  exact Go.by1 (fun t q => XS.ifYes W.1.here W.2.1 rfl rfl hd rfl hc ho hp q) k'
theorem NK.icmpYes (W : NK p l e R s m args below meth c Z own n0 h0 ws T h locs cells slots) {cd : ClassFile.Cond} {x y : Int32} {o : Int} (hd : decode c.code pc = .ok (.if_icmp cd o, 3)) (hc : if_icmp.holds cd x y = true) (ho : 0 ≤ (pc : Int) + o) (hp : ((pc : Int) + o).toNat = pc') (k' : Go p e below G T (mkF m pc' Ls (rest))) : Go p e below G T (mkF m pc Ls (.int y :: .int x :: rest)) := by
  exact Go.by1 (fun t q => XS.icmpYes W.1.here W.2.1 rfl rfl hd rfl hc ho hp q) k'
theorem NK.ifNo (W : NK p l e R s m args below meth c Z own n0 h0 ws T h locs cells slots) {cd : ClassFile.Cond} {x : Int32} {o : Int} (hd : decode c.code pc = .ok (.ifCond cd o, 3)) (hc : ifCond.holds cd x = false) (hp : pc + 3 = pc') (k' : Go p e below G T (mkF m pc' Ls (rest))) : Go p e below G T (mkF m pc Ls (.int x :: rest)) := by
  subst hp; exact Go.by1 (fun t q => XS.ifNo W.1.here W.2.1 rfl hd rfl hc q) k'
theorem NK.icmpNo (W : NK p l e R s m args below meth c Z own n0 h0 ws T h locs cells slots) {cd : ClassFile.Cond} {x y : Int32} {o : Int} (hd : decode c.code pc = .ok (.if_icmp cd o, 3)) (hc : if_icmp.holds cd x y = false) (hp : pc + 3 = pc') (k' : Go p e below G T (mkF m pc' Ls (rest))) : Go p e below G T (mkF m pc Ls (.int y :: .int x :: rest)) := by
  subst hp; exact Go.by1 (fun t q => XS.icmpNo W.1.here W.2.1 rfl hd rfl hc q) k'
theorem NK.ifnullYes (W : NK p l e R s m args below meth c Z own n0 h0 ws T h locs cells slots)  {o : Int} (hd : decode c.code pc = .ok (.ifnull o, 3))  (ho : 0 ≤ (pc : Int) + o) (hp : ((pc : Int) + o).toNat = pc') (k' : Go p e below G T (mkF m pc' Ls (rest))) : Go p e below G T (mkF m pc Ls (.null :: rest)) := by
  exact Go.by1 (fun t q => XS.ifnullYes W.1.here W.2.1 rfl rfl hd rfl ho hp q) k'
theorem NK.ifnonnullYes (W : NK p l e R s m args below meth c Z own n0 h0 ws T h locs cells slots) {b : Addr} {o : Int} (hd : decode c.code pc = .ok (.ifnonnull o, 3))  (ho : 0 ≤ (pc : Int) + o) (hp : ((pc : Int) + o).toNat = pc') (k' : Go p e below G T (mkF m pc' Ls (rest))) : Go p e below G T (mkF m pc Ls (.ref b :: rest)) := by
  exact Go.by1 (fun t q => XT.ifnonnullYes W.1.here W.2.1 rfl rfl hd rfl ho hp q) k'
theorem NK.ifnullNo (W : NK p l e R s m args below meth c Z own n0 h0 ws T h locs cells slots) {b : Addr} {o : Int} (hd : decode c.code pc = .ok (.ifnull o, 3))  (hp : pc + 3 = pc') (k' : Go p e below G T (mkF m pc' Ls (rest))) : Go p e below G T (mkF m pc Ls (.ref b :: rest)) := by
  subst hp; exact Go.by1 (fun t q => XS.ifnullNo W.1.here W.2.1 rfl hd rfl q) k'
theorem NK.ifnonnullNo (W : NK p l e R s m args below meth c Z own n0 h0 ws T h locs cells slots) {o : Int} (hd : decode c.code pc = .ok (.ifnonnull o, 3))  (hp : pc + 3 = pc') (k' : Go p e below G T (mkF m pc' Ls (rest))) : Go p e below G T (mkF m pc Ls (.null :: rest)) := by
  subst hp; exact Go.by1 (fun t q => XT.ifnonnullNo W.1.here W.2.1 rfl hd rfl q) k'
theorem NK.acmpYes (W : NK p l e R s m args below meth c Z own n0 h0 ws T h locs cells slots) {cd : ClassFile.ACond} {x y : Value} {o : Int} (hd : decode c.code pc = .ok (.if_acmp cd o, 3)) (h1 : x.isRef = true) (h2 : y.isRef = true) (hc : XT.acmp cd x y = true) (ho : 0 ≤ (pc : Int) + o) (hp : ((pc : Int) + o).toNat = pc') (k' : Go p e below G T (mkF m pc' Ls (rest))) : Go p e below G T (mkF m pc Ls (y :: x :: rest)) := by
  exact Go.by1 (fun t q => XT.acmpYes W.1.here W.2.1 rfl rfl hd rfl h1 h2 hc ho hp q) k'
theorem NK.acmpNo (W : NK p l e R s m args below meth c Z own n0 h0 ws T h locs cells slots) {cd : ClassFile.ACond} {x y : Value} {o : Int} (hd : decode c.code pc = .ok (.if_acmp cd o, 3)) (h1 : x.isRef = true) (h2 : y.isRef = true) (hc : XT.acmp cd x y = false) (hp : pc + 3 = pc') (k' : Go p e below G T (mkF m pc' Ls (rest))) : Go p e below G T (mkF m pc Ls (y :: x :: rest)) := by
  subst hp; exact Go.by1 (fun t q => XT.acmpNo W.1.here W.2.1 rfl hd rfl h1 h2 hc q) k'
theorem NK.ldcI (W : NK p l e R s m args below meth c Z own n0 h0 ws T h locs cells slots) {index : Nat} {v : Int32} (hd : decode c.code pc = .ok (.ldc index, 2)) (w : (Cond.constant own index v).before a0 Z = true) (hp : pc + 2 = pc') (k' : Go p e below G T (mkF m pc' Ls (.int v :: st))) : Go p e below G T (mkF m pc Ls (st)) := by
  subst hp; exact Go.by1 (fun t q => W.1.ldcI W.2.1 W.2.2.2.2.1 (mv W.2.2.2.1 w) rfl hd q) k'
theorem NK.ldcWI (W : NK p l e R s m args below meth c Z own n0 h0 ws T h locs cells slots) {index : Nat} {v : Int32} (hd : decode c.code pc = .ok (.ldc_w index, 3)) (w : (Cond.constant own index v).before a0 Z = true) (hp : pc + 3 = pc') (k' : Go p e below G T (mkF m pc' Ls (.int v :: st))) : Go p e below G T (mkF m pc Ls (st)) := by
  subst hp; exact Go.by1 (fun t q => W.1.ldcWI W.2.1 W.2.2.2.2.1 (mv W.2.2.2.1 w) rfl hd q) k'
theorem NK.ldc2J (W : NK p l e R s m args below meth c Z own n0 h0 ws T h locs cells slots) {index : Nat} {v : Int64} (hd : decode c.code pc = .ok (.ldc2_w index, 3)) (w : (Cond.constantLong own index v).before a0 Z = true) (hp : pc + 3 = pc') (k' : Go p e below G T (mkF m pc' Ls (.long v :: st))) : Go p e below G T (mkF m pc Ls (st)) := by
  subst hp; exact Go.by1 (fun t q => W.1.ldc2J W.2.1 W.2.2.2.2.1 (mv W.2.2.2.1 w) rfl hd q) k'
end Steps1
section Nums1
theorem i2c_i2c (x : Int32) : i2c (i2c x) = i2c x := by simp only [i2c, UInt32.toUInt32_toInt32, UInt16.toUInt16_toUInt32]
theorem i2c_toInt (x : Int32) : (i2c x).toInt = x.toInt % 65536 := by
  have h1 : (i2c x).toBitVec = (x.toBitVec.setWidth 16).setWidth 32 := rfl
  have h2 : x.toInt = x.toBitVec.toInt := rfl
  have h3 : (i2c x).toInt = (i2c x).toBitVec.toInt := rfl
  rw [h2, h3, h1, BitVec.toInt_eq_toNat_cond, BitVec.toInt_eq_toNat_cond]
  have := x.toBitVec.isLt
  simp only [BitVec.toNat_setWidth]
  omega
theorem i2c_id {c : Int32} (h0 : ¬ c < 0) (h1 : ¬ 65535 < c) : i2c c = c := by
  apply Int32.toInt_inj.mp
  rw [i2c_toInt]
  simp only [Int32.lt_iff_toInt_lt, Int32.reduceToInt] at h0 h1
  omega
theorem i2c_lo (x : Int32) : ¬ i2c x < 0 ∧ ¬ 65535 < i2c x := by
  simp only [Int32.lt_iff_toInt_lt, Int32.reduceToInt, i2c_toInt]
  omega
theorem and_toInt (x : Int32) (k : Nat) (hk : k < 2^31): (x &&& Int32.ofNat k).toInt = ((x.toBitVec.toNat &&& k : Nat) : Int) := by
  have h3 : (x &&& Int32.ofNat k).toInt = (x.toBitVec &&& (Int32.ofNat k).toBitVec).toInt := rfl
  rw [h3, BitVec.toInt_eq_toNat_cond, BitVec.toNat_and]
  have e : (Int32.ofNat k).toBitVec.toNat = k := by
    show (BitVec.ofNat 32 k).toNat = k
    simp; omega
  rw [e]
  have : (x.toBitVec.toNat &&& k) ≤ k := Nat.and_le_right
  omega
theorem and255_lat (x : Int32) : ¬ (x &&& 255) < 0 ∧ ¬ 255 < (x &&& 255) := by
  have := and_toInt x 255 (by decide)
  have h : (x.toBitVec.toNat &&& 255) ≤ 255 := Nat.and_le_right
  have e : (Int32.ofNat 255) = (255 : Int32) := rfl
  rw [e] at this
  simp only [Int32.lt_iff_toInt_lt, Int32.reduceToInt, this]
  omega
theorem and_nonneg (x : Int32) : ¬ (x &&& 2147483647) < 0 := by
  have := and_toInt x 2147483647 (by decide)
  have e : (Int32.ofNat 2147483647) = (2147483647 : Int32) := rfl
  rw [e] at this
  simp only [Int32.lt_iff_toInt_lt, Int32.reduceToInt, this]
  omega
theorem rem_range {x : Int32} (k : Nat) (hk : 0 < k) (hk2 : k < 2^31) (hx : ¬ x < 0) : ∃ n : Nat, n < k ∧ x % Int32.ofNat k = Int32.ofNat n := by
  have e : (Int32.ofNat k).toInt = k := by
    have hz : Int32.size = 4294967296 := rfl
    rw [Int32.toInt_ofNat', Int.bmod_eq_of_le] <;> omega
  simp only [Int32.lt_iff_toInt_lt, Int32.reduceToInt] at hx
  refine ⟨(x.toInt % k).toNat, ?_, ?_⟩
  · have := Int.emod_lt_of_pos x.toInt (show (0:Int) < k by omega)
    have := Int.emod_nonneg x.toInt (show (k:Int) ≠ 0 by omega)
    omega
  · apply Int32.toInt_inj.mp
    rw [Int32.toInt_mod, e, Int32.toInt_ofNat']
    have := Int.emod_lt_of_pos x.toInt (show (0:Int) < k by omega)
    have := Int.emod_nonneg x.toInt (show (k:Int) ≠ 0 by omega)
    have hz : Int32.size = 4294967296 := rfl
    rw [Int.tmod_eq_emod_of_nonneg (by omega), Int.bmod_eq_of_le] <;> omega

theorem i2c_and255 (x : Int32) : i2c (x &&& 255) = x &&& 255 := i2c_id (and255_lat x).1 (by
  have := (and255_lat x).2
  simp only [Int32.lt_iff_toInt_lt, Int32.reduceToInt] at *; omega)
theorem lat_i2c {c : Int32} (h : ¬ c < 0 ∧ ¬ 255 < c) : i2c c = c := i2c_id h.1 (by
  have := h.2
  simp only [Int32.lt_iff_toInt_lt, Int32.reduceToInt] at *; omega)
theorem lat_and (x : Int32) : ¬ i2c (x &&& 255) < 0 ∧ ¬ 255 < i2c (x &&& 255) := by rw [i2c_and255]; exact and255_lat x
theorem nar_i2c (x : Int32) : nar .char (i2c x) = i2c x := i2c_i2c x
theorem nar_lat {c : Int32} (h : ¬ c < 0 ∧ ¬ 255 < c) : nar .char c = c := lat_i2c h
theorem nar_chr {c : Int32} (h : ¬ c < 0 ∧ ¬ 65535 < c) : nar .char c = c := i2c_id h.1 h.2
theorem nar_ret {z : Int32} (h : nar .char z = z) : narrow .char (.int z) = .int z := congrArg Value.int h
end Nums1
section Nums2
theorem getD_int (cs : List Int32) (i : Nat) : (cs.map Value.int).getD i (.int (0 : Int32)) = .int (cs.getD i 0) := by
  simp only [List.getD_eq_getElem?_getD, List.getElem?_map]
  cases cs[i]? <;> rfl
theorem getD_all {P : Int32 → Prop} {cs : List Int32} (h : ∀ c ∈ cs, P c) (h0 : P 0) (i : Nat) : P (cs.getD i 0) := by
  rw [List.getD_eq_getElem?_getD]
  cases hq : cs[i]? with
  | none => exact h0
  | some v => exact h v (List.mem_of_getElem? hq)
theorem and_le (x : Int32) (k : Nat) (hk : k < 2 ^ 31) : ¬ (x &&& Int32.ofNat k) < 0 ∧ (x &&& Int32.ofNat k).toInt ≤ k := by
  have := and_toInt x k hk
  have h : (x.toBitVec.toNat &&& k) ≤ k := Nat.and_le_right
  simp only [Int32.lt_iff_toInt_lt, Int32.reduceToInt, this]
  omega
theorem rem_nat {x : Int32} (k : Nat) (m : Nat) (hm : m < 2 ^ 31) (hk : 0 < k) (hk2 : k < 2 ^ 31) {i : Int32} (h : i = (x &&& Int32.ofNat m) % Int32.ofNat k) : ∃ n : Nat, n < k ∧ i = Int32.ofNat n := by
  obtain ⟨n, h1, h2⟩ := rem_range (x := x &&& Int32.ofNat m) k hk hk2 (and_le x m hm).1
  exact ⟨n, h1, h.trans h2⟩
theorem ofNat_toInt {n : Nat} (h : n < 2 ^ 31) : (Int32.ofNat n).toInt = n := by
  have hz : Int32.size = 4294967296 := rfl
  rw [Int32.toInt_ofNat', Int.bmod_eq_of_le] <;> omega
theorem ofNat_lt {n k : Nat} (h : n < 2 ^ 31) (h' : k < 2 ^ 31) : Int32.ofNat n < Int32.ofNat k ↔ n < k := by
  rw [Int32.lt_iff_toInt_lt, ofNat_toInt h, ofNat_toInt h']; omega
theorem ofNat_sub {n k : Nat} (h : k ≤ n) : Int32.ofNat n - Int32.ofNat k = Int32.ofNat (n - k) := by
  apply Int32.toBitVec_inj.mp
  apply BitVec.eq_of_toNat_eq
  show (BitVec.ofNat 32 n - BitVec.ofNat 32 k).toNat = (BitVec.ofNat 32 (n - k)).toNat
  simp only [BitVec.toNat_sub, BitVec.toNat_ofNat]
  omega
theorem ofNat_succ (n : Nat) : Int32.ofNat n + 1 = Int32.ofNat (n + 1) := by
  apply Int32.toBitVec_inj.mp
  apply BitVec.eq_of_toNat_eq
  show (BitVec.ofNat 32 n + 1#32).toNat = (BitVec.ofNat 32 (n + 1)).toNat
  simp only [BitVec.toNat_add, BitVec.toNat_ofNat]
  omega
end Nums2
section Heap1
variable {p : Program} {l : Launch} {e : Env} {R : Room} {s : State} {m : MethodId} {args : Array Value} {below : List Frame} {meth : Method} {c : Code} {Z : State} {own : String} {n0 : Nat} {h0 : Heap} {ws ws' : List Addr} {T T' : State} {h h' : Heap} {locs : List Loc} {cells slots : Nat} {G : State → Prop} {g g' : JFrame} {a0 : Array Value} {pc pc' : Nat} {Ls Ls' : Array Slot} {st rest : List Value}
theorem NK.newP (W : NK p l e R s m args below meth c Z own n0 h0 ws T h locs cells slots) {aty : ArrayType} (w : (Cond.arrayClass (newarray.typeOf aty)).before a0 Z = true) {n : Int32} (hd : decode c.code pc = .ok (.newarray aty, 2)) (hp : pc + 2 = pc') (hn : ¬ n < 0) {cap : Nat} (hcap : n.toNatClampNeg ≤ cap) (hb : cap * 8 ≤ 536870912) (hc : cells + 1 ≤ R.cells) (hl : slots + cap ≤ R.slots)
    (k' : ∀ (T' : State) (h' : Heap) (a : Addr) (ka : ClassId), a = h.size → h0.size ≤ a → n0 ≤ a → NK p l e R s m args below meth c Z own n0 h0 ws T' h' locs (cells + 1) (slots + cap) → Ext h h' → Arv Z h' a ka (newarray.typeOf aty) n (List.replicate cap (defaultValue (newarray.typeOf aty))) (defaultValue (newarray.typeOf aty)) → Go p e below G T' (mkF m pc' Ls (.ref a :: rest))) : Go p e below G T (mkF m pc Ls (.int n :: rest)) := by
  obtain ⟨X, hx, eT, hZ, hown, N, K, hn0, hlk⟩ := W
  obtain ⟨T', h', cA, X', e', E, A, st⟩ := RoadKit.newP X hx hZ w eT (g := mkF m pc Ls (.int n :: rest)) rfl hd rfl hn hcap hb hc hl
  subst hp
  exact Go.by1 (fun t q => st t q) (k' T' h' _ cA rfl K.1 (Nat.le_trans hn0 K.1) ⟨X', hx, e', hZ, hown, N, K.ext E, hn0, hlk⟩ E ((Arv.new A hn).pad (by simpa using pad_rep [] _ cap)))
theorem NK.newO (W : NK p l e R s m args below meth c Z own n0 h0 ws T h locs cells slots) {C : String} {index n : Nat} (w : (Cond.classLink own index C).before a0 Z = true) (wi : (Cond.instantiable C n).before a0 Z = true) (wz : (Cond.initialized C).before a0 Z = true) (hd : decode c.code pc = .ok (.new index, 3)) (hp : pc + 3 = pc') (hc : cells + 1 ≤ R.cells) (hl : slots + n ≤ R.slots)
    (k' : ∀ (T' : State) (h' : Heap) (a : Addr), a = h.size → h0.size ≤ a → n0 ≤ a → NK p l e R s m args below meth c Z own n0 h0 ws T' h' locs (cells + 1) (slots + n) → Ext h h' → Exa Z h' a C → (∀ {O nm d : String} {ty : FieldType}, Laid Z a0 C O nm d → parseFieldDescriptor d = some ty → Fld Z h' a O nm d (defaultValue ty)) → Go p e below G T' (mkF m pc' Ls (.ref a :: st))) : Go p e below G T (mkF m pc Ls st) := by
  obtain ⟨X, hx, eT, hZ, hown, N, K, hn0, hlk⟩ := W
  obtain ⟨T', h', X', e', E, A, D, -, stp⟩ := RoadKit.newO X hx hZ hown w wi wz eT (g := mkF m pc Ls st) rfl hd hc hl
  subst hp
  exact Go.by1 (fun t q => stp t q) (k' T' h' _ rfl K.1 (Nat.le_trans hn0 K.1) ⟨X', hx, e', hZ, hown, N, K.ext E, hn0, hlk⟩ E A D)
theorem NK.wrote (W : NK p l e R s m args below meth c Z own n0 h0 ws T h locs cells slots) {a : Addr} {sl : Nat} {v : Value} (X' : Stand p l e R s m args below meth c T' (locs ++ [⟨a, sl⟩]) cells slots) (e' : T'.heap = h') (Wr' : Wr h h' a sl v) (hge : a ∈ ws ∨ h0.size ≤ a) (hn : n0 ≤ a) : NK p l e R s m args below meth c Z own n0 h0 ws T' h' (locs ++ [⟨a, sl⟩]) cells slots := by
  obtain ⟨X, hx, eT, hZ, hown, N, K, hn0, hlk⟩ := W
  exact ⟨X', hx, e', hZ, hown, Fr.snoc X' N hn, K.wr Wr' hge, hn0, hlk⟩
theorem NK.stC (W : NK p l e R s m args below meth c Z own n0 h0 ws T h locs cells slots) {a : Addr} {ka : ClassId} {z : Int32} {vs : List Value} {dv : Value} (A : Arv Z h a ka .char z vs dv) {j x : Int32} (hd : decode c.code pc = .ok (.castore, 1)) (hp : pc + 1 = pc') (hx' : nar .char x = x) (i : Nat) (hj : j.toNatClampNeg = i) (hi : i < vs.length) (hb : ¬ j < 0 ∧ j < z) (hge : a ∈ ws ∨ h0.size ≤ a) (hn : n0 ≤ a)
    (k' : ∀ (T' : State) (h' : Heap) (L : List Loc), NK p l e R s m args below meth c Z own n0 h0 ws T' h' L cells slots → Keep h h' [a] → Arv Z h' a ka .char z (vs.set i (.int x)) dv → Go p e below G T' (mkF m pc' Ls rest)) : Go p e below G T (mkF m pc Ls (.int x :: .int j :: .ref a :: rest)) := by
  obtain ⟨cl, A1, q1, S1, M1, H1, U1⟩ := id A
  obtain ⟨T', h', X', e', Wr', stp⟩ := RoadKit.stC W.1 W.2.1 W.2.2.2.1 W.2.2.1 A1 (j := j) (inb_of S1 hb) (g := mkF m pc Ls (.int x :: .int j :: .ref a :: rest)) rfl rfl hd
  subst hp
  rw [hx'] at Wr'
  exact Go.by1 (fun t q => stp t q) (k' T' h' _ (W.wrote X' e' Wr' hge hn) (Keep.of_wr Wr') (Arv.set A1 q1 S1 M1 H1 U1 (hx' ▸ fits_nar_char x) Wr' i hj hi))
theorem NK.stB (W : NK p l e R s m args below meth c Z own n0 h0 ws T h locs cells slots) {a : Addr} {ka : ClassId} {z : Int32} {vs : List Value} {dv : Value} (A : Arv Z h a ka .byte z vs dv) {j x : Int32} (hd : decode c.code pc = .ok (.bastore, 1)) (hp : pc + 1 = pc') (i : Nat) (hj : j.toNatClampNeg = i) (hi : i < vs.length) (hb : ¬ j < 0 ∧ j < z) (hge : a ∈ ws ∨ h0.size ≤ a) (hn : n0 ≤ a)
    (k' : ∀ (T' : State) (h' : Heap) (L : List Loc), NK p l e R s m args below meth c Z own n0 h0 ws T' h' L cells slots → Keep h h' [a] → Arv Z h' a ka .byte z (vs.set i (.int x.toInt8.toInt32)) dv → Go p e below G T' (mkF m pc' Ls rest)) : Go p e below G T (mkF m pc Ls (.int x :: .int j :: .ref a :: rest)) := by
  obtain ⟨cl, A1, q1, S1, M1, H1, U1⟩ := id A
  obtain ⟨T', h', X', e', Wr', stp⟩ := RoadKit.stB W.1 W.2.1 W.2.2.2.1 W.2.2.1 A1 (j := j) (inb_of S1 hb) (g := mkF m pc Ls (.int x :: .int j :: .ref a :: rest)) rfl rfl hd
  subst hp
  exact Go.by1 (fun t q => stp t q) (k' T' h' _ (W.wrote X' e' Wr' hge hn) (Keep.of_wr Wr') (Arv.set A1 q1 S1 M1 H1 U1 (fits_nar_byte x) Wr' i hj hi))
theorem NK.stI (W : NK p l e R s m args below meth c Z own n0 h0 ws T h locs cells slots) {a : Addr} {ka : ClassId} {z : Int32} {vs : List Value} {dv : Value} (A : Arv Z h a ka .int z vs dv) {j x : Int32} (hd : decode c.code pc = .ok (.iastore, 1)) (hp : pc + 1 = pc') (i : Nat) (hj : j.toNatClampNeg = i) (hi : i < vs.length) (hb : ¬ j < 0 ∧ j < z) (hge : a ∈ ws ∨ h0.size ≤ a) (hn : n0 ≤ a)
    (k' : ∀ (T' : State) (h' : Heap) (L : List Loc), NK p l e R s m args below meth c Z own n0 h0 ws T' h' L cells slots → Keep h h' [a] → Arv Z h' a ka .int z (vs.set i (.int x)) dv → Go p e below G T' (mkF m pc' Ls rest)) : Go p e below G T (mkF m pc Ls (.int x :: .int j :: .ref a :: rest)) := by
  obtain ⟨cl, A1, q1, S1, M1, H1, U1⟩ := id A
  obtain ⟨T', h', X', e', Wr', stp⟩ := RoadKit.stI W.1 W.2.1 W.2.2.2.1 W.2.2.1 A1 (j := j) (inb_of S1 hb) (g := mkF m pc Ls (.int x :: .int j :: .ref a :: rest)) rfl rfl hd
  subst hp
  exact Go.by1 (fun t q => stp t q) (k' T' h' _ (W.wrote X' e' Wr' hge hn) (Keep.of_wr Wr') (Arv.set A1 q1 S1 M1 H1 U1 rfl Wr' i hj hi))
theorem NK.stJ (W : NK p l e R s m args below meth c Z own n0 h0 ws T h locs cells slots) {a : Addr} {ka : ClassId} {z : Int32} {vs : List Value} {dv : Value} (A : Arv Z h a ka .long z vs dv) {j : Int32} {x : Int64} (hd : decode c.code pc = .ok (.lastore, 1)) (hp : pc + 1 = pc') (i : Nat) (hj : j.toNatClampNeg = i) (hi : i < vs.length) (hb : ¬ j < 0 ∧ j < z) (hge : a ∈ ws ∨ h0.size ≤ a) (hn : n0 ≤ a)
    (k' : ∀ (T' : State) (h' : Heap) (L : List Loc), NK p l e R s m args below meth c Z own n0 h0 ws T' h' L cells slots → Keep h h' [a] → Arv Z h' a ka .long z (vs.set i (.long x)) dv → Go p e below G T' (mkF m pc' Ls rest)) : Go p e below G T (mkF m pc Ls (.long x :: .int j :: .ref a :: rest)) := by
  obtain ⟨cl, A1, q1, S1, M1, H1, U1⟩ := id A
  obtain ⟨T', h', X', e', Wr', stp⟩ := RoadKit.stJ W.1 W.2.1 W.2.2.2.1 W.2.2.1 A1 (j := j) (inb_of S1 hb) (g := mkF m pc Ls (.long x :: .int j :: .ref a :: rest)) rfl rfl hd
  subst hp
  exact Go.by1 (fun t q => stp t q) (k' T' h' _ (W.wrote X' e' Wr' hge hn) (Keep.of_wr Wr') (Arv.set A1 q1 S1 M1 H1 U1 rfl Wr' i hj hi))
theorem NK.caload (W : NK p l e R s m args below meth c Z own n0 h0 ws T h locs cells slots) {a : Addr} {ka : ClassId} {z : Int32} {vs : List Value} {dv : Value} (A : Arv Z h a ka .char z vs dv) {j : Int32} (v : Value) (hd : decode c.code pc = .ok (.caload, 1)) (hp : pc + 1 = pc') (hb : ¬ j < 0 ∧ j < z) (hv : vs.getD j.toNatClampNeg dv = v)
    (k' : Go p e below G T (mkF m pc' Ls (v :: rest))) : Go p e below G T (mkF m pc Ls (.int j :: .ref a :: rest)) := by
  obtain ⟨cl, A1, q1, S1, M1, H1, U1⟩ := id A
  subst hp
  exact Go.by1 (fun t q => W.1.caload W.2.1 (by rw [W.2.2.1]; exact A1.1) (State.isArrayOf_alike W.2.2.2.1.alike A1.2.1) A1.2.2 (inb_of S1 hb) (H1.at (inb_of S1 hb) hv) (g := mkF m pc Ls (.int j :: .ref a :: rest)) rfl rfl hd t q) k'
theorem NK.baload (W : NK p l e R s m args below meth c Z own n0 h0 ws T h locs cells slots) {a : Addr} {ka : ClassId} {z : Int32} {vs : List Value} {dv : Value} (A : Arv Z h a ka .byte z vs dv) {j : Int32} (v : Value) (hd : decode c.code pc = .ok (.baload, 1)) (hp : pc + 1 = pc') (hb : ¬ j < 0 ∧ j < z) (hv : vs.getD j.toNatClampNeg dv = v)
    (k' : Go p e below G T (mkF m pc' Ls (v :: rest))) : Go p e below G T (mkF m pc Ls (.int j :: .ref a :: rest)) := by
  obtain ⟨cl, A1, q1, S1, M1, H1, U1⟩ := id A
  subst hp
  exact Go.by1 (fun t q => W.1.baloadBytes W.2.1 (by rw [W.2.2.1]; exact A1.1) (State.isArrayOf_alike W.2.2.2.1.alike A1.2.1) A1.2.2 (inb_of S1 hb) (H1.at (inb_of S1 hb) hv) (g := mkF m pc Ls (.int j :: .ref a :: rest)) rfl rfl hd t q) k'
theorem NK.iaload (W : NK p l e R s m args below meth c Z own n0 h0 ws T h locs cells slots) {a : Addr} {ka : ClassId} {z : Int32} {vs : List Value} {dv : Value} (A : Arv Z h a ka .int z vs dv) {j : Int32} (v : Value) (hd : decode c.code pc = .ok (.iaload, 1)) (hp : pc + 1 = pc') (hb : ¬ j < 0 ∧ j < z) (hv : vs.getD j.toNatClampNeg dv = v)
    (k' : Go p e below G T (mkF m pc' Ls (v :: rest))) : Go p e below G T (mkF m pc Ls (.int j :: .ref a :: rest)) := by
  obtain ⟨cl, A1, q1, S1, M1, H1, U1⟩ := id A
  subst hp
  exact Go.by1 (fun t q => W.1.iaload W.2.1 (by rw [W.2.2.1]; exact A1.1) (State.isArrayOf_alike W.2.2.2.1.alike A1.2.1) A1.2.2 (inb_of S1 hb) (H1.at (inb_of S1 hb) hv) (g := mkF m pc Ls (.int j :: .ref a :: rest)) rfl rfl hd t q) k'
theorem NK.laload (W : NK p l e R s m args below meth c Z own n0 h0 ws T h locs cells slots) {a : Addr} {ka : ClassId} {z : Int32} {vs : List Value} {dv : Value} (A : Arv Z h a ka .long z vs dv) {j : Int32} (v : Value) (hd : decode c.code pc = .ok (.laload, 1)) (hp : pc + 1 = pc') (hb : ¬ j < 0 ∧ j < z) (hv : vs.getD j.toNatClampNeg dv = v)
    (k' : Go p e below G T (mkF m pc' Ls (v :: rest))) : Go p e below G T (mkF m pc Ls (.int j :: .ref a :: rest)) := by
  obtain ⟨cl, A1, q1, S1, M1, H1, U1⟩ := id A
  subst hp
  exact Go.by1 (fun t q => W.1.laload W.2.1 (by rw [W.2.2.1]; exact A1.1) (State.isArrayOf_alike W.2.2.2.1.alike A1.2.1) A1.2.2 (inb_of S1 hb) (H1.at (inb_of S1 hb) hv) (g := mkF m pc Ls (.int j :: .ref a :: rest)) rfl rfl hd t q) k'
theorem NK.arraylength (W : NK p l e R s m args below meth c Z own n0 h0 ws T h locs cells slots) {a : Addr} {ka : ClassId} {ty : FieldType} {z : Int32} {vs : List Value} {dv : Value} (A : Arv Z h a ka ty z vs dv) (hd : decode c.code pc = .ok (.arraylength, 1)) (hp : pc + 1 = pc')
    (k' : Go p e below G T (mkF m pc' Ls (.int z :: rest))) : Go p e below G T (mkF m pc Ls (.ref a :: rest)) := by
  obtain ⟨cl, A1, q1, S1, M1, H1, U1⟩ := id A
  subst hp
  exact Go.by1 (fun t q => W.1.arraylength W.2.1 (by rw [W.2.2.1]; exact A1.1) (State.isArrayOf_alike W.2.2.2.1.alike A1.2.1) (g := mkF m pc Ls (.ref a :: rest)) rfl rfl hd t (by rw [len_of S1 M1]; exact q)) k'
theorem NK.moved (W : NK p l e R s m args below meth c Z own n0 h0 ws T h locs cells slots) (X' : Stand p l e R s m args below meth c T' locs cells slots) (e' : T'.heap = h) : NK p l e R s m args below meth c Z own n0 h0 ws T' h locs cells slots := ⟨X', W.2.1, e', W.2.2.2⟩
theorem NK.getF (W : NK p l e R s m args below meth c Z own n0 h0 ws T h locs cells slots) {R0 O n d host : String} {index : Nat} (w : (Cond.fieldLink own index R0 n d).before a0 Z = true ∨ (Cond.fieldLinkNest own index R0 n d host).before a0 Z = true) (via : Via Z R0 O n d) {a : Addr} {v : Value} (F : Fld Z h a O n d v) (hd : decode c.code pc = .ok (.getfield index, 3)) (hp : pc + 3 = pc')
    (k' : ∀ T' : State, NK p l e R s m args below meth c Z own n0 h0 ws T' h locs cells slots → Go p e below G T' (mkF m pc' Ls (v :: rest))) : Go p e below G T (mkF m pc Ls (.ref a :: rest)) := by
  obtain ⟨T', X', e', stp⟩ := RoadKit.getF W.1 W.2.1 W.2.2.2.1 W.2.2.2.2.1 w via W.2.2.1 F (g := mkF m pc Ls (.ref a :: rest)) rfl rfl hd
  subst hp
  exact Go.by1 (fun t q => stp t q) (k' T' (W.moved X' e'))
theorem NK.getS (W : NK p l e R s m args below meth c Z own n0 h0 ws T h locs cells slots) {R0 O n d host : String} {index : Nat} (w : (Cond.fieldLink own index R0 n d).before a0 Z = true ∨ (Cond.fieldLinkNest own index R0 n d host).before a0 Z = true) (via : Via Z R0 O n d) {v : Value} (F : Sta Z h O n d v) (hd : decode c.code pc = .ok (.getstatic index, 3)) (hp : pc + 3 = pc')
    (k' : ∀ T' : State, NK p l e R s m args below meth c Z own n0 h0 ws T' h locs cells slots → Go p e below G T' (mkF m pc' Ls (v :: st))) : Go p e below G T (mkF m pc Ls st) := by
  obtain ⟨T', X', e', stp⟩ := RoadKit.getS2 W.1 W.2.1 W.2.2.2.1 W.2.2.2.2.1 w via W.2.2.1 F (g := mkF m pc Ls st) rfl hd
  subst hp
  exact Go.by1 (fun t q => stp t q) (k' T' (W.moved X' e'))
theorem NK.putF (W : NK p l e R s m args below meth c Z own n0 h0 ws T h locs cells slots) {R0 O n d host C : String} {index kk : Nat} {ty : FieldType} (w : (Cond.fieldLink own index R0 n d).before a0 Z = true ∨ (Cond.fieldLinkNest own index R0 n d host).before a0 Z = true) (via : Via Z R0 O n d) {a : Addr} {v old : Value} (F : Fld Z h a O n d old) (E : Exa Z h a C)
    (L : (Cond.lays C O n d).before a0 Z = true ∨ ((Cond.laysFinal C O n d).before a0 Z = true ∧ own = O ∧ meth.name = "<init>")) (wi : (Cond.instantiable C kk).before a0 Z = true) (hty : parseFieldDescriptor d = some ty) (hn : narrow ty v = v) (hf : fits ty v = true) (hd : decode c.code pc = .ok (.putfield index, 3)) (hp : pc + 3 = pc') (hge : a ∈ ws ∨ h0.size ≤ a) (hn0 : n0 ≤ a)
    (k' : ∀ (T' : State) (h' : Heap) (L' : List Loc), NK p l e R s m args below meth c Z own n0 h0 ws T' h' L' cells slots → Wr h h' a (RoadKit.slotOf Z O n d) v → Go p e below G T' (mkF m pc' Ls rest)) : Go p e below G T (mkF m pc Ls (v :: .ref a :: rest)) := by
  obtain ⟨T', h', X', e', Wr', stp⟩ := RoadKit.putF W.1 W.2.1 W.2.2.2.1 W.2.2.2.2.1 w via W.2.2.1 F E L wi hty hn hf (g := mkF m pc Ls (v :: .ref a :: rest)) rfl rfl hd
  subst hp
  exact Go.by1 (fun t q => stp t q) (k' T' h' _ (W.wrote X' e' Wr' hge hn0) Wr')
theorem NK.initO (W : NK p l e R s m args below meth c Z own n0 h0 ws T h locs cells slots) {idx : Nat} (w1 : (Cond.methodLink own idx Lib.objectInit).before a0 Z = true) (w2 : (Cond.instanceMethod Lib.objectInit).before a0 Z = true) (w3 : (Cond.code Lib.objectInit ⟨#[0xb1]⟩ 1 none).before a0 Z = true) {a : Addr} (hd : decode c.code pc = .ok (.invokespecial idx, 3)) (hp : pc + 3 = pc') (hml : c.maxLocals = Ls.size) (hf : 1 ≤ R.frames) {wd : Nat} (hW : (rest.map fun v => v.category).sum ≤ wd) (hl : wd + 12 ≤ R.locals)
    (k' : ∀ T' : State, NK p l e R s m args below meth c Z own n0 h0 ws T' h locs cells slots → Go p e below G T' (mkF m pc' Ls rest)) : Go p e below G T (mkF m pc Ls (.ref a :: rest)) := by
  obtain ⟨T', X', e', stp⟩ := RoadKit.initO W.1 W.2.1 W.2.2.2.1 W.2.2.2.2.1 w1 w2 w3 W.2.2.1 (g := mkF m pc Ls (.ref a :: rest)) rfl hml.symm rfl hd hf (W := wd) (by show 2 * 0 + _ ≤ _; omega) hl
  subst hp
  exact Go.by1 (fun t q => stp t q) (k' T' (W.moved X' e'))
/-- what a payer says, in backOf's shape -/
abbrev BK (l : Launch) (R : Room) (p : Program) (e : Env) (below : List Frame) (s : State) (args : Array Value) (y : MethodName) (len wd : Nat) (as' : Array Value) (h : Heap) (rc rs : Nat) (Q : Option Value → Heap → List Loc → Prop) : Prop :=
  Back l R p e below s args y len wd (fun A a => a = as' ∧ A.U.heap = h ∧ A.cells + rc ≤ R.cells ∧ A.slots + rs ≤ R.slots) (fun A _ v B => ∃ L, Q v B.U.heap L ∧ B.locs = A.locs ++ L ∧ B.cells = A.cells + rc ∧ B.slots = A.slots + rs)
/-- a callee's contract -/
def NM (l : Launch) (y : MethodName) (bytes : ByteArray) (maxL : Nat) (ret : Option FieldType) (xs : List Cond) (R : Room) (Z : State) (n0 : Nat) (as' : Array Value) (h0 : Heap) (ws : List Addr) (P : Option Value → Heap → Prop) : Prop :=
  MetFree l y (head1 (Cond.code y bytes maxL ret :: xs) R) (fun a U => a = as' ∧ Z.Warmed39 U.vm ∧ U.heap = h0) (fun _ _ _ _ _ => True) (fun _ U o U' => ∃ v L, o = .returned v ∧ (P v U'.heap ∧ Keep h0 U'.heap ws ∧ Fr n0 L) ∧ FrameEnd U o U' L R.cells R.slots)
def EndN (n0 : Nat) (R : Room) (s : State) (below : List Frame) (P : Option Value → Heap → Prop) (h0 : Heap) (ws : List Addr) (t : State) : Prop :=
  ∃ o, t.status = .running ∧ Ended t below o ∧ ∃ v L, o = .returned v ∧ (P v t.heap ∧ Keep h0 t.heap ws ∧ Fr n0 L) ∧ FrameEnd s o t L R.cells R.slots
theorem NM.walk {y : MethodName} {bytes : ByteArray} {maxL : Nat} {ret : Option FieldType} {xs : List Cond} {as' : Array Value} {P : Option Value → Heap → Prop} (hpl : plainFor y = true) (hn : n0 ≤ h0.size) (ef : ∀ m, entryFrame m as' maxL = mkF m 0 Ls [])
    (body : ∀ (p : Program) (e : Env) (s : State) (m : MethodId) (below : List Frame) (meth : Method) (c : Code) (s₁ : State), c.code = bytes → c.maxLocals = maxL → meth.sig.returnType = ret → meth.name = y.name → NK p l e R s m as' below meth c Z y.cls n0 h0 ws s₁ h0 [] 0 0 → Go p e below (EndN n0 R s below P h0 ws) s₁ (mkF m 0 Ls [])) : NM l y bytes maxL ret xs R Z n0 as' h0 ws P := by
  refine MetFree.of_bodySF hpl hisR ?_
  intro p e s m args below meth c s₁ Bd hml0 hP hK
  obtain ⟨rfl, hZ, hh⟩ := hP
  have X0 : Stand p l e R s m args below meth c s₁ [] 0 0 := Stand.of_body Bd
  have e0 : s₁.heap = h0 := by rw [← hh, Bd.state]; rfl
  obtain ⟨t, a, o, r1, r2, q⟩ := body p e s m below meth c s₁ Bd.bytes hml0 Bd.returns (name_of_methodNamed Bd.named Bd.method).1 ⟨X0, Bd.exec, e0, hZ, findClass_of_methodNamed Bd.named, Fr.nil n0, Keep.refl _ _, hn, BodyLoose.notSynchronized Bd⟩
  exact ⟨t, o, castTop (ef m) a, r1, r2, q⟩
theorem NK.ret (W : NK p l e R s m args below meth c Z own n0 h0 ws T h locs cells slots) {P : Option Value → Heap → Prop} {w : Value} {t : FieldType} {i : Instr} (hret : meth.sig.returnType = some t) (hn : narrow t w = w)
    (hi : (i = .ireturn ∧ (t = .int ∨ t = .boolean ∨ t = .byte ∨ t = .char ∨ t = .short) ∧ ∃ z, w = .int z) ∨ (i = .lreturn ∧ t = .long ∧ ∃ z, w = .long z) ∨ (i = .dreturn ∧ t = .double ∧ ∃ z, w = .double z) ∨ (i = .freturn ∧ t = .float ∧ ∃ z, w = .float z) ∨ (i = .areturn ∧ t.isReference = true ∧ w.isRef = true))
    (hd : decode c.code pc = .ok (i, 1)) (hc : cells ≤ R.cells) (hs : slots ≤ R.slots) (hP : P (some w) h) : Go p e below (EndN n0 R s below P h0 ws) T (mkF m pc Ls (w :: rest)) := by
  obtain ⟨X, hx, eT, hZ, hown, N, K, hn0, hlk⟩ := W
  obtain ⟨fs, hr, hrun, hended, hW, hsame⟩ := X.leave (v := some w) (fun h => by rw [hret] at h; cases h) hlk
  refine ⟨_, retOut X hx hret hn hi hd hr, _, hrun, hended, _, _, rfl, ?_, ⟨_, rfl⟩, hW, hsame.mono hc hs⟩
  have e1 : (T.setFrames fs).heap = h := eT
  rw [e1]
  exact ⟨hP, K, N⟩
theorem NK.retI (W : NK p l e R s m args below meth c Z own n0 h0 ws T h locs cells slots) {P : Option Value → Heap → Prop} {z : Int32} (hret : meth.sig.returnType = some .int) (hd : decode c.code pc = .ok (.ireturn, 1)) (hc : cells ≤ R.cells) (hs : slots ≤ R.slots) (hP : P (some (.int z)) h) : Go p e below (EndN n0 R s below P h0 ws) T (mkF m pc Ls (.int z :: rest)) :=
  W.ret hret rfl (Or.inl ⟨rfl, Or.inl rfl, _, rfl⟩) hd hc hs hP
theorem NK.retZ (W : NK p l e R s m args below meth c Z own n0 h0 ws T h locs cells slots) {P : Option Value → Heap → Prop} {z : Int32} (hret : meth.sig.returnType = some .boolean) (hd : decode c.code pc = .ok (.ireturn, 1)) (hz : z = 0 ∨ z = 1) (hc : cells ≤ R.cells) (hs : slots ≤ R.slots) (hP : P (some (.int z)) h) : Go p e below (EndN n0 R s below P h0 ws) T (mkF m pc Ls (.int z :: rest)) :=
  W.ret hret (by rcases hz with rfl | rfl <;> rfl) (Or.inl ⟨rfl, Or.inr (Or.inl rfl), _, rfl⟩) hd hc hs hP
theorem NK.retC (W : NK p l e R s m args below meth c Z own n0 h0 ws T h locs cells slots) {P : Option Value → Heap → Prop} {z : Int32} (hret : meth.sig.returnType = some .char) (hd : decode c.code pc = .ok (.ireturn, 1)) (hz : narrow .char (.int z) = .int z) (hc : cells ≤ R.cells) (hs : slots ≤ R.slots) (hP : P (some (.int z)) h) : Go p e below (EndN n0 R s below P h0 ws) T (mkF m pc Ls (.int z :: rest)) :=
  W.ret hret hz (Or.inl ⟨rfl, Or.inr (Or.inr (Or.inr (Or.inl rfl))), _, rfl⟩) hd hc hs hP
theorem NK.retB (W : NK p l e R s m args below meth c Z own n0 h0 ws T h locs cells slots) {P : Option Value → Heap → Prop} {z : Int32} (hret : meth.sig.returnType = some .byte) (hd : decode c.code pc = .ok (.ireturn, 1)) (hz : narrow .byte (.int z) = .int z) (hc : cells ≤ R.cells) (hs : slots ≤ R.slots) (hP : P (some (.int z)) h) : Go p e below (EndN n0 R s below P h0 ws) T (mkF m pc Ls (.int z :: rest)) :=
  W.ret hret hz (Or.inl ⟨rfl, Or.inr (Or.inr (Or.inl rfl)), _, rfl⟩) hd hc hs hP
theorem NK.retJ (W : NK p l e R s m args below meth c Z own n0 h0 ws T h locs cells slots) {P : Option Value → Heap → Prop} {z : Int64} (hret : meth.sig.returnType = some .long) (hd : decode c.code pc = .ok (.lreturn, 1)) (hc : cells ≤ R.cells) (hs : slots ≤ R.slots) (hP : P (some (.long z)) h) : Go p e below (EndN n0 R s below P h0 ws) T (mkF m pc Ls (.long z :: rest)) :=
  W.ret hret rfl (Or.inr (Or.inl ⟨rfl, rfl, _, rfl⟩)) hd hc hs hP
theorem NK.retA (W : NK p l e R s m args below meth c Z own n0 h0 ws T h locs cells slots) {P : Option Value → Heap → Prop} {w : Value} {t : FieldType} (hret : meth.sig.returnType = some t) (ht : t.isReference = true) (hw : w.isRef = true) (hd : decode c.code pc = .ok (.areturn, 1)) (hc : cells ≤ R.cells) (hs : slots ≤ R.slots) (hP : P (some w) h) : Go p e below (EndN n0 R s below P h0 ws) T (mkF m pc Ls (w :: rest)) :=
  W.ret hret (by cases t <;> cases w <;> first | rfl | (simp [FieldType.isReference, Value.isRef] at ht hw)) (Or.inr (Or.inr (Or.inr (Or.inr ⟨rfl, ht, hw⟩)))) hd hc hs hP
theorem NK.retV (W : NK p l e R s m args below meth c Z own n0 h0 ws T h locs cells slots) {P : Option Value → Heap → Prop} (hret : meth.sig.returnType = none) (hd : decode c.code pc = .ok (.return_, 1)) (hc : cells ≤ R.cells) (hs : slots ≤ R.slots) (hP : P none h) : Go p e below (EndN n0 R s below P h0 ws) T (mkF m pc Ls []) := by
  obtain ⟨X, hx, eT, hZ, hown, N, K, hn0, hlk⟩ := W
  obtain ⟨fs, hr, hrun, hended, hW, hsame⟩ := X.leave (v := none) (fun _ => rfl) hlk
  refine ⟨_, X.returnOut hx hret hd hr, _, hrun, hended, _, _, rfl, ?_, ⟨_, rfl⟩, hW, hsame.mono hc hs⟩
  have e1 : (T.setFrames fs).heap = h := eT
  rw [e1]
  exact ⟨hP, K, N⟩
theorem NM.bk {y : MethodName} {bytes : ByteArray} {maxL : Nat} {ret : Option FieldType} {rm : Room} {as' : Array Value} {P : Option Value → Heap → Prop} {len wd : Nat} (hM : NM l y bytes maxL ret [] rm Z n0 as' h ws' P) (hZ : Z.Warmed39 s.vm) (wc : (Cond.code y bytes maxL ret).before a0 Z = true) (wz : (Cond.initialized y.cls).before a0 Z = true) (hf : rm.frames + 1 ≤ R.frames) (hl : wd + (maxL + 11) + rm.locals ≤ R.locals) :
    BK l R p e below s args y len wd as' h rm.cells rm.slots (fun v h' L => P v h' ∧ Keep h h' ws' ∧ Fr n0 L) := backOf (Q := fun v h' L => P v h' ∧ Keep h h' ws' ∧ Fr n0 L) hM hZ wc wz hf hl
theorem NK.called (W : NK p l e R s m args below meth c Z own n0 h0 ws T h locs cells slots) {L : List Loc} {T' : State} {c2 s2 : Nat} (X' : Stand p l e R s m args below meth c T' (locs ++ L) c2 s2) (N : Fr n0 L) (K : Keep h T'.heap ws') (hws : ∀ x ∈ ws', x ∈ ws ∨ h0.size ≤ x) : NK p l e R s m args below meth c Z own n0 h0 ws T' T'.heap (locs ++ L) c2 s2 := by
  obtain ⟨X, hx, eT, hZ, hown, N0, K0, hn0, hlk⟩ := W
  exact ⟨X', hx, rfl, hZ, hown, Fr.app N0 N, K0.trans K hws, hn0, hlk⟩
theorem NK.callS (W : NK p l e R s m args below meth c Z own n0 h0 ws T h locs cells slots) {index : Nat} {y : MethodName} {bytes : ByteArray} {maxL : Nat} {ret : Option FieldType} (w1 : (Cond.methodLink own index y).before a0 Z = true) (w2 : (Cond.static y).before a0 Z = true) (w3 : (Cond.initialized y.cls).before a0 Z = true) (w4 : (Cond.code y bytes maxL ret).before a0 Z = true)
    (hy : y.cls ≠ "java/lang/invoke/MethodHandle" ∧ y.cls ≠ "java/lang/invoke/VarHandle") {wd rc rs : Nat} {as' : Array Value} {Q : Option Value → Heap → List Loc → Prop} (hK : BK l R p e below s args y 3 wd as' h rc rs Q) (hd : decode c.code pc = .ok (.invokestatic index, 3)) (hp : pc + 3 = pc') (hml : c.maxLocals = Ls.size) {argsL : List Value} (has : argsL.toArray = as') (hlen : ∀ sig, parseMethodDescriptor y.desc = some sig → argsL.length = sig.parameters.length) (hst : st = argsL.reverse ++ rest) (hW : (rest.map fun v => v.category).sum ≤ wd) (hc : cells + rc ≤ R.cells) (hs : slots + rs ≤ R.slots)
    (hq : ∀ v h' L, Q v h' L → Fr n0 L ∧ Keep h h' ws') (hws : ∀ x ∈ ws', x ∈ ws ∨ h0.size ≤ x)
    (k' : ∀ (v : Option Value) (T' : State) (h' : Heap) (L L' : List Loc), NK p l e R s m args below meth c Z own n0 h0 ws T' h' L' (cells + rc) (slots + rs) → Q v h' L → Keep h h' ws' → Go p e below G T' (mkF m pc' Ls (v.toList ++ rest))) : Go p e below G T (mkF m pc Ls st) := by
  subst hst has hp
  obtain ⟨v, vm1, ⟨T', L1, k1, n1⟩, -, X', ⟨L, hQ, e1, e2, e3⟩, stp⟩ := Jvm.LawKit.callS W.1 W.2.1 W.2.2.2.2.1 (mvT W.2.2.2.1 w1) (mvT W.2.2.2.1 w2) (mvT W.2.2.2.1 w3) (mvT W.2.2.2.1 w4) hy hK (g := mkF m pc Ls (argsL.reverse ++ rest)) rfl hml.symm (argsL := argsL) (rest := rest) hlen rfl (by show 2 * 0 + _ ≤ _; omega) hd (fun _ _ => ⟨rfl, W.2.2.1, hc, hs⟩)
  dsimp only [Pt.U, Pt.locs, Pt.cells, Pt.slots] at X' hQ e1 e2 e3 stp
  subst e1 e2 e3
  obtain ⟨N, K⟩ := hq _ _ _ hQ
  exact Go.by1 (fun t q => stp t q) (k' v T' _ L _ (W.called X' N K hws) hQ K)
theorem NK.callI (W : NK p l e R s m args below meth c Z own n0 h0 ws T h locs cells slots) {index : Nat} {y : MethodName} {bytes : ByteArray} {maxL : Nat} (hy1 : y.name = "<init>") (w1 : (Cond.methodLink own index y).before a0 Z = true) (w2 : (Cond.instanceMethod y).before a0 Z = true) (w4 : (Cond.code y bytes maxL none).before a0 Z = true)
    (hy : y.cls ≠ "java/lang/invoke/MethodHandle" ∧ y.cls ≠ "java/lang/invoke/VarHandle") {wd rc rs : Nat} {as' : Array Value} {Q : Option Value → Heap → List Loc → Prop} (hK : BK l R p e below s args y 3 wd as' h rc rs Q) (hd : decode c.code pc = .ok (.invokespecial index, 3)) (hp : pc + 3 = pc') (hml : c.maxLocals = Ls.size) {a : Addr} {argsL : List Value} (has : (Value.ref a :: argsL).toArray = as') (hlen : ∀ sig, parseMethodDescriptor y.desc = some sig → argsL.length = sig.parameters.length) (hst : st = argsL.reverse ++ .ref a :: rest) (hW : (rest.map fun v => v.category).sum ≤ wd) (hc : cells + rc ≤ R.cells) (hs : slots + rs ≤ R.slots)
    (hq : ∀ v h' L, Q v h' L → Fr n0 L ∧ Keep h h' ws') (hws : ∀ x ∈ ws', x ∈ ws ∨ h0.size ≤ x)
    (k' : ∀ (v : Option Value) (T' : State) (h' : Heap) (L L' : List Loc), NK p l e R s m args below meth c Z own n0 h0 ws T' h' L' (cells + rc) (slots + rs) → Q v h' L → Keep h h' ws' → Go p e below G T' (mkF m pc' Ls (v.toList ++ rest))) : Go p e below G T (mkF m pc Ls st) := by
  subst hst has hp
  obtain ⟨v, vm1, ⟨T', L1, k1, n1⟩, -, X', ⟨L, hQ, e1, e2, e3⟩, stp⟩ := W.1.specialBack W.2.1 hy1 W.2.2.2.2.1 (mvT W.2.2.2.1 w1) (mvT W.2.2.2.1 w2) (mvT W.2.2.2.1 w4) hy hK (g := mkF m pc Ls (argsL.reverse ++ .ref a :: rest)) rfl hml.symm (Steps.refl _) (a := a) (argsL := argsL) (rest := rest) hlen rfl (by show 2 * 0 + _ ≤ _; omega) hd (fun _ _ => ⟨rfl, W.2.2.1, hc, hs⟩)
  dsimp only [Pt.U, Pt.locs, Pt.cells, Pt.slots] at X' hQ e1 e2 e3 stp
  subst e1 e2 e3
  obtain ⟨N, K⟩ := hq _ _ _ hQ
  exact Go.tr stp (k' v T' _ L _ (W.called X' N K hws) hQ K)
theorem NK.callV (W : NK p l e R s m args below meth c Z own n0 h0 ws T h locs cells slots) {index : Nat} {C : String} {y z : MethodName} (w1 : (Cond.methodLink own index y).before a0 Z = true) (w2 : (Cond.declares y).before a0 Z = true) (w3 : (Cond.selects C y z).before a0 Z = true) {C' : String} (w3' : (Cond.selects C' y y).before a0 Z = true) (w4 : (Cond.instanceMethod z).before a0 Z = true)
    (hy : y.cls ≠ "java/lang/invoke/MethodHandle" ∧ y.cls ≠ "java/lang/invoke/VarHandle") {wd rc rs : Nat} {as' : Array Value} {Q : Option Value → Heap → List Loc → Prop} (hK : BK l R p e below s args z 3 wd as' h rc rs Q) {a : Addr} (E : Exa Z h a C) (hd : decode c.code pc = .ok (.invokevirtual index, 3)) (hp : pc + 3 = pc') (hml : c.maxLocals = Ls.size) {argsL : List Value} (has : (Value.ref a :: argsL).toArray = as') (hlen : ∀ sig, parseMethodDescriptor y.desc = some sig → argsL.length = sig.parameters.length) (hst : st = argsL.reverse ++ .ref a :: rest) (hW : (rest.map fun v => v.category).sum ≤ wd) (hc : cells + rc ≤ R.cells) (hs : slots + rs ≤ R.slots)
    (hq : ∀ v h' L, Q v h' L → Fr n0 L ∧ Keep h h' ws') (hws : ∀ x ∈ ws', x ∈ ws ∨ h0.size ≤ x)
    (k' : ∀ (v : Option Value) (T' : State) (h' : Heap) (L L' : List Loc), NK p l e R s m args below meth c Z own n0 h0 ws T' h' L' (cells + rc) (slots + rs) → Q v h' L → Keep h h' ws' → Go p e below G T' (mkF m pc' Ls (v.toList ++ rest))) : Go p e below G T (mkF m pc Ls st) := by
  subst hst has hp
  obtain ⟨cq, kq, qa, qb, qc⟩ := isOf W.2.2.2.1 W.2.2.1 E
  obtain ⟨v, vm1, ⟨T', L1, k1, n1⟩, -, X', ⟨L, hQ, e1, e2, e3⟩, stp⟩ := W.1.virtualBack W.2.1 (y := y) (z := z) W.2.2.2.2.1 (mvT W.2.2.2.1 w1) (mvT W.2.2.2.1 w2) (notFace_of_selects (args := #[]) (mvT W.2.2.2.1 w3')) (mvT W.2.2.2.1 w3) (mvT W.2.2.2.1 w4) hy hK qa qc (g := mkF m pc Ls (argsL.reverse ++ .ref a :: rest)) rfl hml.symm (Steps.refl _) (argsL := argsL) (rest := rest) hlen rfl (by show 2 * 0 + _ ≤ _; omega) hd (fun _ _ => ⟨rfl, W.2.2.1, hc, hs⟩)
  dsimp only [Pt.U, Pt.locs, Pt.cells, Pt.slots] at X' hQ e1 e2 e3 stp
  subst e1 e2 e3
  obtain ⟨N, K⟩ := hq _ _ _ hQ
  exact Go.tr stp (k' v T' _ L _ (W.called X' N K hws) hQ K)
end Heap1
section Pure1
variable {p : Program} {l : Launch} {e : Env} {R : Room} {s : State} {m : MethodId} {args : Array Value} {below : List Frame} {meth : Method} {c : Code} {Z : State} {own : String} {n0 : Nat} {h0 : Heap} {ws ws' : List Addr} {T T' : State} {h h' : Heap} {locs : List Loc} {cells slots : Nat} {G : State → Prop} {g g' : JFrame} {a0 : Array Value} {pc pc' : Nat} {Ls Ls' : Array Slot} {st rest : List Value}
/-- it returns w and leaves the heap as it was -/
abbrev Pu (w : Option Value) (h0 : Heap) : Option Value → Heap → Prop := fun v h' => v = w ∧ h' = h0
theorem NK.callSP (W : NK p l e R s m args below meth c Z own n0 h0 ws T h locs cells slots) {index : Nat} {y : MethodName} {bytes : ByteArray} {maxL : Nat} {ret : Option FieldType} (w1 : (Cond.methodLink own index y).before a0 Z = true) (w2 : (Cond.static y).before a0 Z = true) (w3 : (Cond.initialized y.cls).before a0 Z = true) (w4 : (Cond.code y bytes maxL ret).before a0 Z = true)
    (hy : y.cls ≠ "java/lang/invoke/MethodHandle" ∧ y.cls ≠ "java/lang/invoke/VarHandle") {wd rc rs : Nat} {as' : Array Value} {Q : Option Value → Heap → List Loc → Prop} (hK : BK l R p e below s args y 3 wd as' h rc rs Q) (hd : decode c.code pc = .ok (.invokestatic index, 3)) (hp : pc + 3 = pc') (hml : c.maxLocals = Ls.size) {argsL : List Value} (has : argsL.toArray = as') (hlen : ∀ sig, parseMethodDescriptor y.desc = some sig → argsL.length = sig.parameters.length) (hst : st = argsL.reverse ++ rest) (hW : (rest.map fun v => v.category).sum ≤ wd) (hc : cells + rc ≤ R.cells) (hs : slots + rs ≤ R.slots)
    {w : Option Value} (hq : ∀ v h' L, Q v h' L → Fr n0 L ∧ Pu w h v h')
    (k' : ∀ (T' : State) (L' : List Loc), NK p l e R s m args below meth c Z own n0 h0 ws T' h L' (cells + rc) (slots + rs) → Go p e below G T' (mkF m pc' Ls (w.toList ++ rest))) : Go p e below G T (mkF m pc Ls st) :=
  W.callS w1 w2 w3 w4 hy hK hd hp hml has hlen hst hW hc hs (ws' := []) (fun v h' L q => ⟨(hq v h' L q).1, by rw [(hq v h' L q).2.2]; exact Keep.refl _ _⟩) all0 (fun v T' h' L L' W' q _ => by
    obtain ⟨-, rfl, rfl⟩ := hq v h' L q
    exact k' T' L' W')
theorem NK.callIP (W : NK p l e R s m args below meth c Z own n0 h0 ws T h locs cells slots) {index : Nat} {y : MethodName} {bytes : ByteArray} {maxL : Nat} (hy1 : y.name = "<init>") (w1 : (Cond.methodLink own index y).before a0 Z = true) (w2 : (Cond.instanceMethod y).before a0 Z = true) (w4 : (Cond.code y bytes maxL none).before a0 Z = true)
    (hy : y.cls ≠ "java/lang/invoke/MethodHandle" ∧ y.cls ≠ "java/lang/invoke/VarHandle") {wd rc rs : Nat} {as' : Array Value} {Q : Option Value → Heap → List Loc → Prop} (hK : BK l R p e below s args y 3 wd as' h rc rs Q) (hd : decode c.code pc = .ok (.invokespecial index, 3)) (hp : pc + 3 = pc') (hml : c.maxLocals = Ls.size) {a : Addr} {argsL : List Value} (has : (Value.ref a :: argsL).toArray = as') (hlen : ∀ sig, parseMethodDescriptor y.desc = some sig → argsL.length = sig.parameters.length) (hst : st = argsL.reverse ++ .ref a :: rest) (hW : (rest.map fun v => v.category).sum ≤ wd) (hc : cells + rc ≤ R.cells) (hs : slots + rs ≤ R.slots)
    {w : Option Value} (hq : ∀ v h' L, Q v h' L → Fr n0 L ∧ Pu w h v h')
    (k' : ∀ (T' : State) (L' : List Loc), NK p l e R s m args below meth c Z own n0 h0 ws T' h L' (cells + rc) (slots + rs) → Go p e below G T' (mkF m pc' Ls (w.toList ++ rest))) : Go p e below G T (mkF m pc Ls st) :=
  W.callI hy1 w1 w2 w4 hy hK hd hp hml has hlen hst hW hc hs (ws' := []) (fun v h' L q => ⟨(hq v h' L q).1, by rw [(hq v h' L q).2.2]; exact Keep.refl _ _⟩) all0 (fun v T' h' L L' W' q _ => by
    obtain ⟨-, rfl, rfl⟩ := hq v h' L q
    exact k' T' L' W')
theorem NK.callVP (W : NK p l e R s m args below meth c Z own n0 h0 ws T h locs cells slots) {index : Nat} {C : String} {y z : MethodName} (w1 : (Cond.methodLink own index y).before a0 Z = true) (w2 : (Cond.declares y).before a0 Z = true) (w3 : (Cond.selects C y z).before a0 Z = true) {C' : String} (w3' : (Cond.selects C' y y).before a0 Z = true) (w4 : (Cond.instanceMethod z).before a0 Z = true)
    (hy : y.cls ≠ "java/lang/invoke/MethodHandle" ∧ y.cls ≠ "java/lang/invoke/VarHandle") {wd rc rs : Nat} {as' : Array Value} {Q : Option Value → Heap → List Loc → Prop} (hK : BK l R p e below s args z 3 wd as' h rc rs Q) {a : Addr} (E : Exa Z h a C) (hd : decode c.code pc = .ok (.invokevirtual index, 3)) (hp : pc + 3 = pc') (hml : c.maxLocals = Ls.size) {argsL : List Value} (has : (Value.ref a :: argsL).toArray = as') (hlen : ∀ sig, parseMethodDescriptor y.desc = some sig → argsL.length = sig.parameters.length) (hst : st = argsL.reverse ++ .ref a :: rest) (hW : (rest.map fun v => v.category).sum ≤ wd) (hc : cells + rc ≤ R.cells) (hs : slots + rs ≤ R.slots)
    {w : Option Value} (hq : ∀ v h' L, Q v h' L → Fr n0 L ∧ Pu w h v h')
    (k' : ∀ (T' : State) (L' : List Loc), NK p l e R s m args below meth c Z own n0 h0 ws T' h L' (cells + rc) (slots + rs) → Go p e below G T' (mkF m pc' Ls (w.toList ++ rest))) : Go p e below G T (mkF m pc Ls st) :=
  W.callV w1 w2 w3 w3' w4 hy hK E hd hp hml has hlen hst hW hc hs (ws' := []) (fun v h' L q => ⟨(hq v h' L q).1, by rw [(hq v h' L q).2.2]; exact Keep.refl _ _⟩) all0 (fun v T' h' L L' W' q _ => by
    obtain ⟨-, rfl, rfl⟩ := hq v h' L q
    exact k' T' L' W')
/-- what a pure contract's payer says -/
theorem pu_of {w : Option Value} {L : List Loc} {v : Option Value} (q : Pu w h v h' ∧ Keep h h' [] ∧ Fr n0 L) : Fr n0 L ∧ Pu w h v h' := ⟨q.2.2, q.1⟩
theorem pu_nil {w : Option Value} {L : List Loc} {v : Option Value} (q : v = w ∧ L = [] ∧ h' = h) : Fr n0 L ∧ Pu w h v h' := ⟨by rw [q.2.1]; exact Fr.nil n0, q.1, q.2.2⟩
end Pure1
section Small1
variable {p : Program} {l : Launch} {e : Env} {R : Room} {s : State} {m : MethodId} {args : Array Value} {below : List Frame} {meth : Method} {c : Code} {Z : State} {own : String} {n0 : Nat} {h0 : Heap} {ws : List Addr} {T : State} {h : Heap} {locs : List Loc} {cells slots : Nat}
theorem NK.n0h (W : NK p l e R s m args below meth c Z own n0 h0 ws T h locs cells slots) : n0 ≤ h.size := Nat.le_trans W.2.2.2.2.2.2.2.1 W.2.2.2.2.2.2.1.1
theorem mem0 {P : Int32 → Prop} : ∀ x ∈ ([] : List Int32), P x := fun _ q => nomatch q
theorem memS {P : Int32 → Prop} {y : Int32} {L : List Int32} (q : P y) (r : ∀ x ∈ L, P x) : ∀ x ∈ y :: L, P x := fun x z => (List.mem_cons.mp z).elim (fun u => u ▸ q) (r x)
variable {G : State → Prop} {a0 : Array Value} {pc pc' : Nat} {Ls : Array Slot} {rest : List Value}
theorem NK.instNull (W : NK p l e R s m args below meth c Z own n0 h0 ws T h locs cells slots) {index : Nat} (hd : decode c.code pc = .ok (.instanceof index, 3)) (hp : pc + 3 = pc') (k' : Go p e below G T (mkF m pc' Ls (.int 0 :: rest))) : Go p e below G T (mkF m pc Ls (.null :: rest)) := by
  subst hp
  exact Go.by1 (fun t q => W.1.instanceofNull W.2.1 (g := mkF m pc Ls (.null :: rest)) rfl rfl hd t q) k'
theorem NK.castNull (W : NK p l e R s m args below meth c Z own n0 h0 ws T h locs cells slots) {index : Nat} (hd : decode c.code pc = .ok (.checkcast index, 3)) (hp : pc + 3 = pc') (k' : Go p e below G T (mkF m pc' Ls (.null :: rest))) : Go p e below G T (mkF m pc Ls (.null :: rest)) := by
  subst hp
  exact Go.by1 (fun t q => W.1.checkcastNull W.2.1 (g := mkF m pc Ls (.null :: rest)) rfl rfl hd t q) k'
theorem NK.castY (W : NK p l e R s m args below meth c Z own n0 h0 ws T h locs cells slots) {K : String} {index : Nat} (w : (Cond.classLink own index K).before a0 Z = true) {a : Addr} (F : Ins Z h a K true) (hd : decode c.code pc = .ok (.checkcast index, 3)) (hp : pc + 3 = pc')
    (k' : ∀ T' : State, NK p l e R s m args below meth c Z own n0 h0 ws T' h locs cells slots → Go p e below G T' (mkF m pc' Ls (.ref a :: rest))) : Go p e below G T (mkF m pc Ls (.ref a :: rest)) := by
  obtain ⟨T', X', e', stp⟩ := RoadKit.castY W.1 W.2.1 W.2.2.2.1 W.2.2.2.2.1 w W.2.2.1 F (g := mkF m pc Ls (.ref a :: rest)) rfl rfl hd
  subst hp
  exact Go.by1 (fun t q => stp t q) (k' T' (W.moved X' e'))
theorem NK.instY (W : NK p l e R s m args below meth c Z own n0 h0 ws T h locs cells slots) {K : String} {index : Nat} (w : (Cond.classLink own index K).before a0 Z = true) {a : Addr} (F : Ins Z h a K true) (hd : decode c.code pc = .ok (.instanceof index, 3)) (hp : pc + 3 = pc')
    (k' : ∀ T' : State, NK p l e R s m args below meth c Z own n0 h0 ws T' h locs cells slots → Go p e below G T' (mkF m pc' Ls (.int 1 :: rest))) : Go p e below G T (mkF m pc Ls (.ref a :: rest)) := by
  obtain ⟨T', X', e', stp⟩ := RoadKit.instY W.1 W.2.1 W.2.2.2.1 W.2.2.2.2.1 w W.2.2.1 F (g := mkF m pc Ls (.ref a :: rest)) rfl rfl hd
  subst hp
  exact Go.by1 (fun t q => stp t q) (k' T' (W.moved X' e'))
end Small1
section Wide1
variable {p : Program} {l : Launch} {e : Env} {R : Room} {s : State} {m : MethodId} {args : Array Value} {below : List Frame} {meth : Method} {c : Code} {Z : State} {EL : List (String × Nat)} {own : String} {n0 : Nat} {h0 : Heap} {ws ws' : List Addr} {T T' : State} {h h' : Heap} {vm : Vm} {locs locs' : List Loc} {cells slots cells' slots' : Nat} {G : State → Prop} {g g' : JFrame} {a0 : Array Value} {pc pc' : Nat} {Ls Ls' : Array Slot} {st rest : List Value}
/-- the wide walk: NK over the start with the tables vm, which may have interned since -/
def WK (EL : List (String × Nat)) (p : Program) (l : Launch) (e : Env) (R : Room) (s : State) (m : MethodId) (args : Array Value) (below : List Frame) (meth : Method) (c : Code) (Z : State) (own : String) (n0 : Nat) (h0 : Heap) (ws : List Addr) (T : State) (h : Heap) (vm : Vm) (locs : List Loc) (cells slots : Nat) : Prop :=
  NK p l e R (s.setVm vm) m args below meth c Z own n0 h0 ws T h locs cells slots ∧ s.Since vm h.size ∧ CHr Z EL s.vm h0 vm h
theorem since_grow {n n' : Nat} (S : s.Since vm n) (q : n ≤ n') : s.Since vm n' := ⟨S.1, fun j p hj hp => ⟨(S.2 j p hj hp).1, Nat.lt_of_lt_of_le (S.2 j p hj hp).2 q⟩⟩
theorem WK.up (W : WK EL p l e R s m args below meth c Z own n0 h0 ws T h vm locs cells slots) (N : NK p l e R (s.setVm vm) m args below meth c Z own n0 h0 ws T' h' locs' cells' slots') (K : Keep h h' ws') (S : ∀ x ∈ ws', Safe Z EL vm h x) : WK EL p l e R s m args below meth c Z own n0 h0 ws T' h' vm locs' cells' slots' :=
  ⟨N, since_grow W.2.1 K.1, W.2.2.trans (CHr.keep K S W.2.2.1)⟩
theorem WK.upE (W : WK EL p l e R s m args below meth c Z own n0 h0 ws T h vm locs cells slots) (N : NK p l e R (s.setVm vm) m args below meth c Z own n0 h0 ws T' h' locs' cells' slots') (E : Ext h h') : WK EL p l e R s m args below meth c Z own n0 h0 ws T' h' vm locs' cells' slots' :=
  ⟨N, since_grow W.2.1 E.1, W.2.2.trans (CHr.ext E W.2.2.1)⟩
theorem WK.same (W : WK EL p l e R s m args below meth c Z own n0 h0 ws T h vm locs cells slots) (N : NK p l e R (s.setVm vm) m args below meth c Z own n0 h0 ws T' h locs' cells' slots') : WK EL p l e R s m args below meth c Z own n0 h0 ws T' h vm locs' cells' slots' := ⟨N, W.2⟩
/-- a fresh cell is no booked one -/
theorem WK.safeNew (W : WK EL p l e R s m args below meth c Z own n0 h0 ws T h vm locs cells slots) {a : Addr} (ha : a = h.size) (E : Ext h h') : Safe Z EL vm h' a := Safe.ext E W.2.2.1 (Safe.new (Nat.le_of_eq ha.symm))
theorem WK.safeE (W : WK EL p l e R s m args below meth c Z own n0 h0 ws T h vm locs cells slots) {a : Addr} (S : Safe Z EL vm h a) (E : Ext h h') : Safe Z EL vm h' a := Safe.ext E W.2.2.1 S
theorem WK.safeK (W : WK EL p l e R s m args below meth c Z own n0 h0 ws T h vm locs cells slots) {a : Addr} (S : Safe Z EL vm h a) (K : Keep h h' ws') (hs : ∀ x ∈ ws', Safe Z EL vm h x) : Safe Z EL vm h' a := Safe.keep K hs W.2.2.1 S
def WM (l : Launch) (y : MethodName) (bytes : ByteArray) (maxL : Nat) (ret : Option FieldType) (xs : List Cond) (R : Room) (Z : State) (EL : List (String × Nat)) (n0 : Nat) (as' : Array Value) (h0 : Heap) (ws : List Addr) (P : Option Value → Heap → Prop) : Prop :=
  MetFree l y (head1 (Cond.code y bytes maxL ret :: xs) R) (fun a U => a = as' ∧ Z.Warmed39 U.vm ∧ U.heap = h0 ∧ CHv Z EL U.vm h0) (fun _ _ _ _ _ => True) (fun _ U o U' => ∃ v L, o = .returned v ∧ (P v U'.heap ∧ Keep h0 U'.heap ws ∧ Fr n0 L) ∧ CHr Z EL U.vm U.heap U'.vm U'.heap ∧ ReturnedEndW U o U' L R.cells R.slots)
def EndW (Z : State) (EL : List (String × Nat)) (n0 : Nat) (R : Room) (s : State) (below : List Frame) (P : Option Value → Heap → Prop) (h0 : Heap) (ws : List Addr) (t : State) : Prop :=
  ∃ o, t.status = .running ∧ Ended t below o ∧ ∃ v L, o = .returned v ∧ (P v t.heap ∧ Keep h0 t.heap ws ∧ Fr n0 L) ∧ CHr Z EL s.vm h0 t.vm t.heap ∧ ReturnedEndW s o t L R.cells R.slots
theorem WM.walk {y : MethodName} {bytes : ByteArray} {maxL : Nat} {ret : Option FieldType} {xs : List Cond} {as' : Array Value} {P : Option Value → Heap → Prop} (hpl : plainFor y = true) (hn : n0 ≤ h0.size) (ef : ∀ m, entryFrame m as' maxL = mkF m 0 Ls [])
    (body : ∀ (p : Program) (e : Env) (s : State) (m : MethodId) (below : List Frame) (meth : Method) (c : Code) (s₁ : State), c.code = bytes → c.maxLocals = maxL → meth.sig.returnType = ret → meth.name = y.name → WK EL p l e R s m as' below meth c Z y.cls n0 h0 ws s₁ h0 s.vm [] 0 0 → Go p e below (EndW Z EL n0 R s below P h0 ws) s₁ (mkF m 0 Ls [])) : WM l y bytes maxL ret xs R Z EL n0 as' h0 ws P := by
  refine MetFree.of_bodySF hpl hisR ?_
  intro p e s m args below meth c s₁ Bd hml0 hP hK
  obtain ⟨rfl, hZ, hh, hC⟩ := hP
  have X0 : Stand p l e R s m args below meth c s₁ [] 0 0 := Stand.of_body Bd
  have e0 : s₁.heap = h0 := by rw [← hh, Bd.state]; rfl
  have N0 : NK p l e R (s.setVm s.vm) m args below meth c Z y.cls n0 h0 ws s₁ h0 [] 0 0 := ⟨X0, Bd.exec, e0, hZ, findClass_of_methodNamed Bd.named, Fr.nil n0, Keep.refl _ _, hn, BodyLoose.notSynchronized Bd⟩
  obtain ⟨t, a, o, r1, r2, v, L, q1, q2, q3, q4⟩ := body p e s m below meth c s₁ Bd.bytes hml0 Bd.returns (name_of_methodNamed Bd.named Bd.method).1 ⟨N0, (State.WarmedH.refl s).since _, CHr.refl hC⟩
  exact ⟨t, o, castTop (ef m) a, r1, r2, v, L, q1, q2, by rw [hh]; exact q3, q4⟩
theorem WK.ends (W : WK EL p l e R s m args below meth c Z own n0 h0 ws T h vm locs cells slots) (hEL : EW Z a0 EL) {P : Option Value → Heap → Prop} {v : Option Value} (hv : meth.sig.returnType = none → v = none) (hc : cells ≤ R.cells) (hs : slots ≤ R.slots) (hP : P v h)
    (stp : ∀ fs, (∀ (f : JFrame) (acts : List Action), f.method = m → f.locked = none → f.entered = [] → (doReturn e (T.setTop f) acts v).1 = T.setFrames fs) → Steps p.tables e below (T.setTop g) (T.setFrames fs)) : Go p e below (EndW Z EL n0 R s below P h0 ws) T g := by
  obtain ⟨⟨X, hx, eT, hZ, hown, N, K, hn0, hlk⟩, S, C⟩ := W
  obtain ⟨fs, hr, hrun, hended, hW, hsame⟩ := X.leave hv hlk
  have e1 : (T.setFrames fs).heap = h := eT
  obtain ⟨q1, q2, q3⟩ := S.ended hW (by rw [e1]; exact Nat.le_refl _) hsame
  refine ⟨_, stp fs hr, _, hrun, hended, _, _, rfl, ?_, ?_, ⟨_, rfl⟩, q1, q2, q3.mono hc hs⟩
  · rw [e1]; exact ⟨hP, K, N⟩
  · rw [e1]
    have A := CHv.at X hZ hEL C.1
    exact C.trans A
theorem WK.ret (W : WK EL p l e R s m args below meth c Z own n0 h0 ws T h vm locs cells slots) (hEL : EW Z a0 EL) {P : Option Value → Heap → Prop} {w : Value} {t : FieldType} {i : Instr} (hret : meth.sig.returnType = some t) (hn : narrow t w = w)
    (hi : (i = .ireturn ∧ (t = .int ∨ t = .boolean ∨ t = .byte ∨ t = .char ∨ t = .short) ∧ ∃ z, w = .int z) ∨ (i = .lreturn ∧ t = .long ∧ ∃ z, w = .long z) ∨ (i = .dreturn ∧ t = .double ∧ ∃ z, w = .double z) ∨ (i = .freturn ∧ t = .float ∧ ∃ z, w = .float z) ∨ (i = .areturn ∧ t.isReference = true ∧ w.isRef = true))
    (hd : decode c.code pc = .ok (i, 1)) (hc : cells ≤ R.cells) (hs : slots ≤ R.slots) (hP : P (some w) h) : Go p e below (EndW Z EL n0 R s below P h0 ws) T (mkF m pc Ls (w :: rest)) :=
  W.ends hEL (fun h => by rw [hret] at h; cases h) hc hs hP (fun fs hr => retOut W.1.1 W.1.2.1 hret hn hi hd hr)
theorem WK.retI (W : WK EL p l e R s m args below meth c Z own n0 h0 ws T h vm locs cells slots) (hEL : EW Z a0 EL) {P : Option Value → Heap → Prop} {z : Int32} (hret : meth.sig.returnType = some .int) (hd : decode c.code pc = .ok (.ireturn, 1)) (hc : cells ≤ R.cells) (hs : slots ≤ R.slots) (hP : P (some (.int z)) h) : Go p e below (EndW Z EL n0 R s below P h0 ws) T (mkF m pc Ls (.int z :: rest)) :=
  W.ret hEL hret rfl (Or.inl ⟨rfl, Or.inl rfl, _, rfl⟩) hd hc hs hP
theorem WK.retZ (W : WK EL p l e R s m args below meth c Z own n0 h0 ws T h vm locs cells slots) (hEL : EW Z a0 EL) {P : Option Value → Heap → Prop} {z : Int32} (hret : meth.sig.returnType = some .boolean) (hd : decode c.code pc = .ok (.ireturn, 1)) (hz : z = 0 ∨ z = 1) (hc : cells ≤ R.cells) (hs : slots ≤ R.slots) (hP : P (some (.int z)) h) : Go p e below (EndW Z EL n0 R s below P h0 ws) T (mkF m pc Ls (.int z :: rest)) :=
  W.ret hEL hret (by rcases hz with rfl | rfl <;> rfl) (Or.inl ⟨rfl, Or.inr (Or.inl rfl), _, rfl⟩) hd hc hs hP
theorem WK.retC (W : WK EL p l e R s m args below meth c Z own n0 h0 ws T h vm locs cells slots) (hEL : EW Z a0 EL) {P : Option Value → Heap → Prop} {z : Int32} (hret : meth.sig.returnType = some .char) (hd : decode c.code pc = .ok (.ireturn, 1)) (hz : narrow .char (.int z) = .int z) (hc : cells ≤ R.cells) (hs : slots ≤ R.slots) (hP : P (some (.int z)) h) : Go p e below (EndW Z EL n0 R s below P h0 ws) T (mkF m pc Ls (.int z :: rest)) :=
  W.ret hEL hret hz (Or.inl ⟨rfl, Or.inr (Or.inr (Or.inr (Or.inl rfl))), _, rfl⟩) hd hc hs hP
theorem WK.retJ (W : WK EL p l e R s m args below meth c Z own n0 h0 ws T h vm locs cells slots) (hEL : EW Z a0 EL) {P : Option Value → Heap → Prop} {z : Int64} (hret : meth.sig.returnType = some .long) (hd : decode c.code pc = .ok (.lreturn, 1)) (hc : cells ≤ R.cells) (hs : slots ≤ R.slots) (hP : P (some (.long z)) h) : Go p e below (EndW Z EL n0 R s below P h0 ws) T (mkF m pc Ls (.long z :: rest)) :=
  W.ret hEL hret rfl (Or.inr (Or.inl ⟨rfl, rfl, _, rfl⟩)) hd hc hs hP
theorem WK.retA (W : WK EL p l e R s m args below meth c Z own n0 h0 ws T h vm locs cells slots) (hEL : EW Z a0 EL) {P : Option Value → Heap → Prop} {w : Value} {t : FieldType} (hret : meth.sig.returnType = some t) (ht : t.isReference = true) (hw : w.isRef = true) (hd : decode c.code pc = .ok (.areturn, 1)) (hc : cells ≤ R.cells) (hs : slots ≤ R.slots) (hP : P (some w) h) : Go p e below (EndW Z EL n0 R s below P h0 ws) T (mkF m pc Ls (w :: rest)) :=
  W.ret hEL hret (by cases t <;> cases w <;> first | rfl | (simp [FieldType.isReference, Value.isRef] at ht hw)) (Or.inr (Or.inr (Or.inr (Or.inr ⟨rfl, ht, hw⟩)))) hd hc hs hP
theorem WK.retV (W : WK EL p l e R s m args below meth c Z own n0 h0 ws T h vm locs cells slots) (hEL : EW Z a0 EL) {P : Option Value → Heap → Prop} (hret : meth.sig.returnType = none) (hd : decode c.code pc = .ok (.return_, 1)) (hc : cells ≤ R.cells) (hs : slots ≤ R.slots) (hP : P none h) : Go p e below (EndW Z EL n0 R s below P h0 ws) T (mkF m pc Ls []) :=
  W.ends hEL (fun _ => rfl) hc hs hP (fun fs hr => W.1.1.returnOut W.1.2.1 hret hd hr)
/-- a wide payer -/
abbrev BKS (EL : List (String × Nat)) (l : Launch) (R : Room) (p : Program) (e : Env) (below : List Frame) (s : State) (args : Array Value) (Z : State) (vm : Vm) (y : MethodName) (len wd : Nat) (as' : Array Value) (h : Heap) (rc rs : Nat) (Q : Option Value → Heap → List Loc → Prop) : Prop :=
  BackS l R p e below (s.setVm vm) args y len wd (fun A a => a = as' ∧ A.U.heap = h ∧ A.cells + rc ≤ R.cells ∧ A.slots + rs ≤ R.slots) (fun A _ v B => ∃ L, Q v B.U.heap L ∧ B.locs = A.locs ++ L ∧ B.cells = A.cells + rc ∧ B.slots = A.slots + rs ∧ CHr Z EL vm h B.U.vm B.U.heap)
theorem WM.bk {y : MethodName} {bytes : ByteArray} {maxL : Nat} {ret : Option FieldType} {rm : Room} {as' : Array Value} {P : Option Value → Heap → Prop} {len wd : Nat} (hM : WM l y bytes maxL ret [] rm Z EL n0 as' h ws' P) (hZ : Z.Warmed39 vm) (wc : (Cond.code y bytes maxL ret).before a0 Z = true) (wz : (Cond.initialized y.cls).before a0 Z = true) (hf : rm.frames + 1 ≤ R.frames) (hl : wd + (maxL + 11) + rm.locals ≤ R.locals) (hEL : EW Z a0 EL) (H : CHv Z EL vm h) :
    BKS EL l R p e below s args Z vm y len wd as' h rm.cells rm.slots (fun v h' L => P v h' ∧ Keep h h' ws' ∧ Fr n0 L) := backOfSH (Q := fun v h' L => P v h' ∧ Keep h h' ws' ∧ Fr n0 L) hM hZ wc wz hf hl hEL H
theorem WK.called (W : WK EL p l e R s m args below meth c Z own n0 h0 ws T h vm locs cells slots) {L : List Loc} {T' : State} {c2 s2 : Nat} (X' : Stand p l e R ((s.setVm vm).setVm T'.vm) m args below meth c T' (locs ++ L) c2 s2) (S' : (s.setVm vm).Since T'.vm T'.heap.size) (gr : h.size ≤ T'.heap.size) (C' : CHr Z EL vm h T'.vm T'.heap) (N : Fr n0 L) (K : Keep h T'.heap ws') (hws : ∀ x ∈ ws', x ∈ ws ∨ h0.size ≤ x) :
    WK EL p l e R s m args below meth c Z own n0 h0 ws T' T'.heap T'.vm (locs ++ L) c2 s2 := by
  obtain ⟨⟨X, hx, eT, hZ, hown, N0, K0, hn0, hlk⟩, S, C⟩ := W
  have hZ' : Z.Warmed39 T'.vm := State.Warmed39.trans (t := s.setVm vm) hZ S'.1
  have ho : T'.vm.findClass own = some m.cls := by rw [S'.1.alike.findClass]; exact hown
  exact ⟨⟨X', hx, rfl, hZ', ho, Fr.app N0 N, K0.trans K hws, hn0, hlk⟩, S.trans S' gr, C.trans C'⟩
theorem WK.callS (W : WK EL p l e R s m args below meth c Z own n0 h0 ws T h vm locs cells slots) {index : Nat} {y : MethodName} {bytes : ByteArray} {maxL : Nat} {ret : Option FieldType} (w1 : (Cond.methodLink own index y).before a0 Z = true) (w2 : (Cond.static y).before a0 Z = true) (w3 : (Cond.initialized y.cls).before a0 Z = true) (w4 : (Cond.code y bytes maxL ret).before a0 Z = true)
    (hy : y.cls ≠ "java/lang/invoke/MethodHandle" ∧ y.cls ≠ "java/lang/invoke/VarHandle") {wd rc rs : Nat} {as' : Array Value} {Q : Option Value → Heap → List Loc → Prop} (hK : BKS EL l R p e below s args Z vm y 3 wd as' h rc rs Q) (hd : decode c.code pc = .ok (.invokestatic index, 3)) (hp : pc + 3 = pc') (hml : c.maxLocals = Ls.size) {argsL : List Value} (has : argsL.toArray = as') (hlen : ∀ sig, parseMethodDescriptor y.desc = some sig → argsL.length = sig.parameters.length) (hst : st = argsL.reverse ++ rest) (hW : (rest.map fun v => v.category).sum ≤ wd) (hc : cells + rc ≤ R.cells) (hs : slots + rs ≤ R.slots)
    (hq : ∀ v h' L, Q v h' L → Fr n0 L ∧ Keep h h' ws') (hws : ∀ x ∈ ws', x ∈ ws ∨ h0.size ≤ x)
    (k' : ∀ (v : Option Value) (T' : State) (h' : Heap) (vm' : Vm) (L L' : List Loc), WK EL p l e R s m args below meth c Z own n0 h0 ws T' h' vm' L' (cells + rc) (slots + rs) → Q v h' L → Keep h h' ws' → CHr Z EL vm h vm' h' → Go p e below G T' (mkF m pc' Ls (v.toList ++ rest))) : Go p e below G T (mkF m pc Ls st) := by
  subst hst has hp
  obtain ⟨v, vm1, ⟨T', L1, k1, n1⟩, -, X', S', gr, ⟨L, hQ, e1, e2, e3, C'⟩, stp⟩ := callSS W.1.1 W.1.2.1 W.1.2.2.2.2.1 (mvT W.1.2.2.2.1 w1) (mvT W.1.2.2.2.1 w2) (mvT W.1.2.2.2.1 w3) (mvT W.1.2.2.2.1 w4) hy hK (g := mkF m pc Ls (argsL.reverse ++ rest)) rfl hml.symm (argsL := argsL) (rest := rest) hlen rfl (by show 2 * 0 + _ ≤ _; omega) hd (fun _ _ => ⟨rfl, W.1.2.2.1, hc, hs⟩)
  dsimp only [Pt.U, Pt.locs, Pt.cells, Pt.slots] at X' hQ e1 e2 e3 stp S' gr C'
  subst e1 e2 e3
  obtain ⟨N, K⟩ := hq _ _ _ hQ
  exact Go.tr stp (k' v T' _ _ L _ (W.called X' S' K.1 C' N K hws) hQ K C')
theorem WK.callI (W : WK EL p l e R s m args below meth c Z own n0 h0 ws T h vm locs cells slots) {index : Nat} {y : MethodName} {bytes : ByteArray} {maxL : Nat} (hy1 : y.name = "<init>") (w1 : (Cond.methodLink own index y).before a0 Z = true) (w2 : (Cond.instanceMethod y).before a0 Z = true) (w4 : (Cond.code y bytes maxL none).before a0 Z = true)
    (hy : y.cls ≠ "java/lang/invoke/MethodHandle" ∧ y.cls ≠ "java/lang/invoke/VarHandle") {wd rc rs : Nat} {as' : Array Value} {Q : Option Value → Heap → List Loc → Prop} (hK : BKS EL l R p e below s args Z vm y 3 wd as' h rc rs Q) (hd : decode c.code pc = .ok (.invokespecial index, 3)) (hp : pc + 3 = pc') (hml : c.maxLocals = Ls.size) {a : Addr} {argsL : List Value} (has : (Value.ref a :: argsL).toArray = as') (hlen : ∀ sig, parseMethodDescriptor y.desc = some sig → argsL.length = sig.parameters.length) (hst : st = argsL.reverse ++ .ref a :: rest) (hW : (rest.map fun v => v.category).sum ≤ wd) (hc : cells + rc ≤ R.cells) (hs : slots + rs ≤ R.slots)
    (hq : ∀ v h' L, Q v h' L → Fr n0 L ∧ Keep h h' ws') (hws : ∀ x ∈ ws', x ∈ ws ∨ h0.size ≤ x)
    (k' : ∀ (v : Option Value) (T' : State) (h' : Heap) (vm' : Vm) (L L' : List Loc), WK EL p l e R s m args below meth c Z own n0 h0 ws T' h' vm' L' (cells + rc) (slots + rs) → Q v h' L → Keep h h' ws' → CHr Z EL vm h vm' h' → Go p e below G T' (mkF m pc' Ls (v.toList ++ rest))) : Go p e below G T (mkF m pc Ls st) := by
  subst hst has hp
  obtain ⟨v, vm1, ⟨T', L1, k1, n1⟩, -, X', S', gr, ⟨L, hQ, e1, e2, e3, C'⟩, stp⟩ := W.1.1.specialBackS W.1.2.1 hy1 W.1.2.2.2.2.1 (mvT W.1.2.2.2.1 w1) (mvT W.1.2.2.2.1 w2) (mvT W.1.2.2.2.1 w4) hy hK (g := mkF m pc Ls (argsL.reverse ++ .ref a :: rest)) rfl hml.symm (Steps.refl _) (a := a) (argsL := argsL) (rest := rest) hlen rfl (by show 2 * 0 + _ ≤ _; omega) hd (fun _ _ => ⟨rfl, W.1.2.2.1, hc, hs⟩)
  dsimp only [Pt.U, Pt.locs, Pt.cells, Pt.slots] at X' hQ e1 e2 e3 stp S' gr C'
  subst e1 e2 e3
  obtain ⟨N, K⟩ := hq _ _ _ hQ
  exact Go.tr stp (k' v T' _ _ L _ (W.called X' S' K.1 C' N K hws) hQ K C')
theorem WK.callV (W : WK EL p l e R s m args below meth c Z own n0 h0 ws T h vm locs cells slots) {index : Nat} {C : String} {y z : MethodName} (w1 : (Cond.methodLink own index y).before a0 Z = true) (w2 : (Cond.declares y).before a0 Z = true) (w3 : (Cond.selects C y z).before a0 Z = true) {C' : String} (w3' : (Cond.selects C' y y).before a0 Z = true) (w4 : (Cond.instanceMethod z).before a0 Z = true)
    (hy : y.cls ≠ "java/lang/invoke/MethodHandle" ∧ y.cls ≠ "java/lang/invoke/VarHandle") {wd rc rs : Nat} {as' : Array Value} {Q : Option Value → Heap → List Loc → Prop} (hK : BKS EL l R p e below s args Z vm z 3 wd as' h rc rs Q) {a : Addr} (E : Exa Z h a C) (hd : decode c.code pc = .ok (.invokevirtual index, 3)) (hp : pc + 3 = pc') (hml : c.maxLocals = Ls.size) {argsL : List Value} (has : (Value.ref a :: argsL).toArray = as') (hlen : ∀ sig, parseMethodDescriptor y.desc = some sig → argsL.length = sig.parameters.length) (hst : st = argsL.reverse ++ .ref a :: rest) (hW : (rest.map fun v => v.category).sum ≤ wd) (hc : cells + rc ≤ R.cells) (hs : slots + rs ≤ R.slots)
    (hq : ∀ v h' L, Q v h' L → Fr n0 L ∧ Keep h h' ws') (hws : ∀ x ∈ ws', x ∈ ws ∨ h0.size ≤ x)
    (k' : ∀ (v : Option Value) (T' : State) (h' : Heap) (vm' : Vm) (L L' : List Loc), WK EL p l e R s m args below meth c Z own n0 h0 ws T' h' vm' L' (cells + rc) (slots + rs) → Q v h' L → Keep h h' ws' → CHr Z EL vm h vm' h' → Go p e below G T' (mkF m pc' Ls (v.toList ++ rest))) : Go p e below G T (mkF m pc Ls st) := by
  subst hst has hp
  obtain ⟨cq, kq, qa, qb, qc⟩ := isOf W.1.2.2.2.1 W.1.2.2.1 E
  obtain ⟨v, vm1, ⟨T', L1, k1, n1⟩, -, X', S', gr, ⟨L, hQ, e1, e2, e3, C'⟩, stp⟩ := W.1.1.virtualBackS W.1.2.1 (y := y) (z := z) W.1.2.2.2.2.1 (mvT W.1.2.2.2.1 w1) (mvT W.1.2.2.2.1 w2) (notFace_of_selects (args := #[]) (mvT W.1.2.2.2.1 w3')) (mvT W.1.2.2.2.1 w3) (mvT W.1.2.2.2.1 w4) hy hK qa qc (g := mkF m pc Ls (argsL.reverse ++ .ref a :: rest)) rfl hml.symm (Steps.refl _) (argsL := argsL) (rest := rest) hlen rfl (by show 2 * 0 + _ ≤ _; omega) hd (fun _ _ => ⟨rfl, W.1.2.2.1, hc, hs⟩)
  dsimp only [Pt.U, Pt.locs, Pt.cells, Pt.slots] at X' hQ e1 e2 e3 stp S' gr C'
  subst e1 e2 e3
  obtain ⟨N, K⟩ := hq _ _ _ hQ
  exact Go.tr stp (k' v T' _ _ L _ (W.called X' S' K.1 C' N K hws) hQ K C')
/-- a String whose value is null is no booked one -/
theorem safe_null {x : Addr} (hal : Z.vm.Alike vm) (E : Exa Z h x "java/lang/String") (F : Fld Z h x "java/lang/String" "value" "[B" .null) : Safe Z EL vm h x := fun B => by
  obtain ⟨q0, -, u, a, -, q, -, S, rfl | rfl⟩ := B
  · obtain ⟨cell, cf, k, i, f, f1, f2, -, -, -, -, f7⟩ := F
    cases (show h[q.sa]? = some q.sC from S.ha).symm.trans f1
    obtain ⟨cS, ⟨⟨-, -, -, ⟨c1, k1, i1, g1, -⟩, -, -, -, v1, -⟩, -⟩, -⟩ := S
    obtain ⟨k3, e3⟩ := ff_back (U := Wst Z vm h) hal g1
    cases f2.symm.trans e3
    rw [f7] at v1; cases v1
  · obtain ⟨cell, k, e1, e2, e3, -, -⟩ := E
    cases (show h[q.sd]? = some q.SA from S.hd).symm.trans e1
    obtain ⟨cS, -, -, f, -⟩ := S
    have f' : vm.findClass "[B" = some q.SA.cls := f
    rw [hal.findClass] at f'
    obtain ⟨k1, q1, q2⟩ := Vm.findClass_spec f'
    obtain ⟨k2, q3, q4⟩ := Vm.findClass_spec e2
    cases q1.symm.trans q3
    exact absurd (q2.symm.trans q4) (by decide)
/-- ldc of a String constant of EL -/
theorem WK.ldcS (W : WK EL p l e R s m args below meth c Z own n0 h0 ws T h vm locs cells slots) (hEL : EW Z a0 EL) {text : String} {index : Nat} (w : (Cond.stringLink own index text).before a0 Z = true) (wS : ∀ a ∈ Bundle.stringAtoms, a.before a0 Z = true) (hmem : (own, index) ∈ EL) {vs : List Value} {z : Int32} (ht : (∀ c ∈ text.toList, c.toNat < 256) ∧ text.toList.map (fun c => Value.int (Jvm.Lit.byteI c.toNat.toUInt16)) = vs) (hz : ¬ z < 0) (hl : z.toNatClampNeg = vs.length)
    (hd : decode c.code pc = .ok (.ldc index, 2)) (hp : pc + 2 = pc') {n : Nat} (hn : 4 * text.toList.length ≤ n) (hbig : n ≤ 536870912) (hc : cells + 2 ≤ R.cells) (hs : slots + (n + 4) ≤ R.slots)
    (k' : ∀ (T' : State) (h' : Heap) (vm' : Vm) (a b : Addr) (kb : ClassId), WK EL p l e R s m args below meth c Z own n0 h0 ws T' h' vm' locs (cells + 2) (slots + (n + 4)) → Ext h h' → CHr Z EL vm h vm' h' → Exa Z h' a "java/lang/String" → Fld Z h' a "java/lang/String" "coder" "B" (.int 0) → Fld Z h' a "java/lang/String" "value" "[B" (.ref b) → Arv Z h' b kb .byte z vs (.int 0) → (∀ x, Safe Z EL vm' h' x → x ≠ a ∧ x ≠ b) → Go p e below G T' (mkF m pc' Ls (.ref a :: st))) : Go p e below G T (mkF m pc Ls st) := by
  obtain ⟨⟨X, hx, eT, hZ, hown, N0, K0, hn0, hlk⟩, S, C⟩ := W
  obtain ⟨a, T', h', k1, b, kb, X', e', E, S', hk, hZ', ho, F1, F2, F3, F4, -, -, C', -, hne, stp⟩ := ldcCH X hx hZ hown w wS eT S (Nat.le_refl _) hEL hmem C.1 ht hz hl (g := mkF m pc Ls st) rfl hd hn hbig hc hs
  subst hp
  exact Go.by1 (fun t q => stp t q) (k' T' h' T'.vm a b kb ⟨⟨X', hx, e', hZ', ho, N0, K0.ext E, hn0, hlk⟩, since_grow S' hk, C.trans C'⟩ E C' F1 F2 F3 F4 hne)
end Wide1
section Str1
variable {p : Program} {l : Launch} {e : Env} {R : Room} {s : State} {args : Array Value} {below : List Frame} {Z : State} {h h' : Heap} {a : Addr} {cs : List Int32} {a0 : Array Value} {len wd : Nat}
/-- the object at a is a String whose chars are cs -/
def StrA (Z : State) (h : Heap) (a : Addr) (cs : List Int32) : Prop := Exa Z h a "java/lang/String" ∧ (∀ c ∈ cs, ¬ c < 0 ∧ ¬ (65535 : Int32) < c) ∧ cs.length ≤ 4000 ∧ ∃ (t : Addr) (kb : ClassId) (cd N2 : Int32) (vs : List Value), Fld Z h a "java/lang/String" "value" "[B" (.ref t) ∧ Fld Z h a "java/lang/String" "coder" "B" (.int cd) ∧ Arv Z h t kb .byte N2 vs (.int 0) ∧ StrChars.Road.CodA cs cd N2 vs
theorem StrA.ext (F : StrA Z h a cs) (E : Ext h h') : StrA Z h' a cs := by
  obtain ⟨f, b, n, t, kb, cd, N2, vs, v, c, k, q⟩ := F
  exact ⟨f.ext E, b, n, t, kb, cd, N2, vs, v.ext E, c.ext E, k.ext E, q⟩
theorem lat_up {c : Int32} (q : ¬ c < 0 ∧ ¬ (255 : Int32) < c) : ¬ c < 0 ∧ ¬ (65535 : Int32) < c := ⟨q.1, fun z => q.2 (Int32.lt_trans (by decide) z)⟩
theorem StrA.make {t : Addr} {kb : ClassId} {N : Int32} (A : Exa Z h a "java/lang/String") (B : Fld Z h a "java/lang/String" "coder" "B" (.int 0)) (V : Fld Z h a "java/lang/String" "value" "[B" (.ref t)) (K : Arv Z h t kb .byte N ((cs.map (fun c => c.toInt8.toInt32)).map Value.int) (.int 0)) (hN : N = Int32.ofNat cs.length) (hl : cs.length ≤ 4000) (hp : ∀ c ∈ cs, ¬ c < 0 ∧ ¬ (255 : Int32) < c) : StrA Z h a cs :=
  ⟨A, fun c hc => lat_up (hp c hc), hl, t, kb, 0, N, _, V, B, K, by rw [hN]; exact StrChars.Road.codOf rfl (fun c hc => (hp c hc).2)⟩
theorem StrA.keepExa {x : Addr} {C : String} {k : Nat} (F : StrA Z h a cs) (K : Keep h h' [x]) (X : Exa Z h x C) (hC : C ≠ "java/lang/String") (wi : (Jvm.Cond.instantiable C k).before a0 Z = true) : StrA Z h' a cs := by
  obtain ⟨f, b, n, t, kb, cd, N2, vs, v, c, q, r⟩ := F
  have n1 : a ≠ x := ne_exa f X (fun z => hC z.symm)
  have n2 : t ≠ x := fun z => Exa.neArv X q wi z.symm
  exact ⟨f.keep K, b, n, t, kb, cd, N2, vs, v.keep K (ninS n1 nin0), c.keep K (ninS n1 nin0), q.keep K (ninS n2 nin0), r⟩
theorem Sta.keepExa {x : Addr} {C O n d : String} {v : Value} (F : Sta Z h O n d v) (K : Keep h h' [x]) (X : Exa Z h x C) : Sta Z h' O n d v := by
  obtain ⟨cf, i, k, f, st, cell, h1, h2, h3, h4, h5, h6, h7⟩ := F
  obtain ⟨cx, kx, x1, -, -, x4, -⟩ := X
  have ne : st ≠ x := fun z => by
    subst z
    cases h5.symm.trans x1
    rw [h6] at x4; cases x4
  exact ⟨cf, i, k, f, st, cell, h1, h2, h3, h4, K.2.1 _ _ h5 (ninS ne nin0), h6, h7⟩
end Str1
section Str1b
theorem Sta.keepArv {Z : State} {h h' : Heap} {x : Addr} {O n d : String} {v : Value} {k : ClassId} {ty : FieldType} {z : Int32} {vs : List Value} {dv : Value} (F : Sta Z h O n d v) (K : Keep h h' [x]) (X : Arv Z h x k ty z vs dv) : Sta Z h' O n d v := by
  obtain ⟨cf, i, kk, f, st, cell, h1, h2, h3, h4, h5, h6, h7⟩ := F
  have ne : st ≠ x := fun q => by
    subst q
    have := X.nostat cell h5
    rw [h6] at this; cases this
  exact ⟨cf, i, kk, f, st, cell, h1, h2, h3, h4, K.2.1 _ _ h5 (ninS ne nin0), h6, h7⟩
end Str1b
section Str2
variable {p : Program} {l : Launch} {e : Env} {R : Room} {s : State} {args : Array Value} {below : List Frame} {Z : State} {h h' : Heap} {a : Addr} {cs : List Int32} {a0 : Array Value} {len wd : Nat} {z : Int32}
theorem hwLen : ∀ d ∈ StrChars.Road.wordsLen, d ∈ tables_1 := by decide +kernel
theorem StrA.lenB (F : StrA Z h a cs) (hZ : Z.Warmed39 s.vm) (hw : ∀ d ∈ tables_1, d.before a0 Z = true) (wi : (Jvm.Cond.instantiable "java/lang/String" 4).before a0 Z = true) (S : Sta Z h "java/lang/String" "COMPACT_STRINGS" "Z" (.int z)) (hz : ¬ z = 0) (hfr : 2 ≤ R.frames) (hlo : wd + 25 ≤ R.locals) :
    BK l R p e below s args (⟨"java/lang/String", "length", "()I"⟩ : MethodName) len wd #[.ref a] h 0 0 (fun v h' L => v = some (.int (Int32.ofNat cs.length)) ∧ L = [] ∧ h' = h) := by
  obtain ⟨f, b, n, t, kb, cd, N2, vs, v, c, k, q⟩ := F
  exact StrChars.Road.lenW hZ (fun d hd => hw d (hwLen d hd)) (kI := 4) wi f v c k q b S hz n hfr hlo
end Str2
section Str3
variable {p : Program} {l : Launch} {e : Env} {R : Room} {s : State} {args : Array Value} {below : List Frame} {Z : State} {h h' : Heap} {a : Addr} {cs : List Int32} {a0 : Array Value} {len wd : Nat} {z : Int32} {fm : Value}
theorem hwChr : ∀ d ∈ StrChars.Road.wordsChN, d ∈ tables_1 := by decide +kernel
theorem StrA.chr (F : StrA Z h a cs) (hlat : ∀ c ∈ cs, ¬ (255 : Int32) < c) (hZ : Z.Warmed39 s.vm) (hw : ∀ d ∈ tables_1, d.before a0 Z = true) (wi : (Jvm.Cond.instantiable "java/lang/String" 4).before a0 Z = true) (S : Sta Z h "java/lang/String" "COMPACT_STRINGS" "Z" (.int z)) (hz : ¬ z = 0) (S2 : Sta Z h "jdk/internal/util/Preconditions" "SIOOBE_FORMATTER" "Ljava/util/function/BiFunction;" fm) (rf : fm.isRef = true) (hfr : 4 ≤ R.frames) (hlo : wd + 53 ≤ R.locals) {i : Nat} {j : Int32} (hi : i < cs.length) (hj : j = Int32.ofNat i) :
    BK l R p e below s args (⟨"java/lang/String", "charAt", "(I)C"⟩ : MethodName) len wd #[.ref a, .int j] h 0 0 (fun v h' L => v = some (.int (cs.getD i 0)) ∧ L = [] ∧ h' = h) := by
  obtain ⟨f, b, n, t, kb, cd, N2, vs, v, c, k, q⟩ := F
  have hcd : cd = 0 := by
    rcases q with ⟨q1, -⟩ | ⟨-, -, -, c1, q2, q3⟩
    · exact q1
    · exact absurd q3 (hlat c1 q2)
  subst hcd
  exact StrChars.Road.chN hZ (fun d hd => hw d (hwChr d hd)) (kI := 4) wi f v c k q b S hz S2 rf n hi hj hfr hlo
end Str3
section Str4
variable {p : Program} {l : Launch} {e : Env} {R : Room} {s : State} {args : Array Value} {below : List Frame} {Z : State} {h h' : Heap} {a b : Addr} {cs ds : List Int32} {a0 : Array Value} {len wd : Nat} {z : Int32}
theorem hwEq : ∀ d ∈ StrChars.Road.wordsEq, d ∈ tables_1 := by decide +kernel
theorem StrA.eq (F : StrA Z h a cs) (F' : StrA Z h b ds) (hZ : Z.Warmed39 s.vm) (hw : ∀ d ∈ tables_1, d.before a0 Z = true) (wi : (Jvm.Cond.instantiable "java/lang/String" 4).before a0 Z = true) (S : Sta Z h "java/lang/String" "COMPACT_STRINGS" "Z" (.int z)) (hz : ¬ z = 0) (hfr : 2 ≤ R.frames) (hlo : wd + 28 ≤ R.locals) :
    BK l R p e below s args (⟨"java/lang/String", "equals", "(Ljava/lang/Object;)Z"⟩ : MethodName) len wd #[.ref a, .ref b] h 0 0 (fun v h' L => v = some (.int (if cs = ds then 1 else 0)) ∧ L = [] ∧ h' = h) := by
  obtain ⟨f, q, n, t, kb, cd, N2, vs, v, c, k, r⟩ := F
  obtain ⟨f', q', n', t', kb', cd', N2', vs', v', c', k', r'⟩ := F'
  refine Back.mono (StrChars.Road.eqW hZ (fun d hd => hw d (hwEq d hd)) (kI := 4) wi f v c k r q n f' v' c' k' r' q' n' S hz hfr hlo) (fun A a hp => hp) (fun A a v B hp hq => ?_)
  obtain ⟨L, ⟨h1, h2, h3⟩, h4⟩ := hq
  refine ⟨L, ⟨?_, h2, h3⟩, h4⟩
  rcases h1 with ⟨e1, e2⟩ | ⟨e1, e2⟩
  · rw [e1, if_pos e2]
  · rw [e1, if_neg e2]
end Str4
section Utf1
open StrChars StrChars.Road
theorem clN {n : Nat} (h : n < 2 ^ 31) : (Int32.ofNat n).toNatClampNeg = n := by
  rw [Int32.toNatClampNeg, ofNat_toInt h]; rfl
theorem ofNat_nn {n : Nat} (h : n < 2 ^ 31) : ¬ Int32.ofNat n < 0 := by
  rw [Int32.lt_iff_toInt_lt, ofNat_toInt h]
  show ¬ (n : Int) < 0
  omega
theorem shl1 (n : Nat) : Int32.ofNat n <<< ((1 : Int32) &&& 31) = Int32.ofNat (2 * n) := by
  apply Int32.toBitVec_inj.mp
  apply BitVec.eq_of_toNat_eq
  show (BitVec.ofNat 32 n <<< (1#32)).toNat = (BitVec.ofNat 32 (2 * n)).toNat
  simp only [BitVec.shiftLeft_eq', BitVec.toNat_shiftLeft, BitVec.toNat_ofNat, Nat.shiftLeft_eq, show 2 ^ (1 % 2 ^ 32) = 2 from rfl]
  omega
theorem getD_rep (n i : Nat) (v : Value) : (List.replicate n v).getD i v = v := by
  rw [List.getD_eq_getElem?_getD, List.getElem?_replicate]; split <;> rfl
theorem b8 (x : Int32) : x.toInt8.toInt32.toInt8.toInt32 = x.toInt8.toInt32 := by rw [Int8.toInt8_toInt32]
/-- the bytes of cs laid one char after the other -/
def fw (cs : List Int32) : Nat → Nat → List Value → List Value
  | _, 0, vs => vs
  | i, k + 1, vs => fw cs (i + 1) k ((vs.set (2 * i) (.int (lo8 (cs.getD i 0)))).set (2 * i + 1) (.int (hi8 (cs.getD i 0))))
theorem wide_len : ∀ cs : List Int32, (wideBytes cs).length = 2 * cs.length
  | [] => rfl
  | c :: cs => by simp only [wideBytes, List.length_cons, wide_len cs]; omega
theorem wide_app : ∀ (cs ds : List Int32), wideBytes (cs ++ ds) = wideBytes cs ++ wideBytes ds
  | [], ds => rfl
  | c :: cs, ds => by simp only [List.cons_append, wideBytes, wide_app cs ds]
theorem fw_go (z : Value) : ∀ (r pre : List Int32), fw (pre ++ r) pre.length r.length (wideBytes pre ++ List.replicate (2 * r.length) z) = wideBytes (pre ++ r)
  | [], pre => by simp [fw]
  | c :: r, pre => by
    have e1 : (pre ++ c :: r).getD pre.length 0 = c := by simp [List.getD_eq_getElem?_getD]
    have e2 : List.replicate (2 * (c :: r).length) z = z :: z :: List.replicate (2 * r.length) z := by
      rw [List.length_cons, show 2 * (r.length + 1) = 2 * r.length + 1 + 1 from by omega]; rfl
    have e3 : ∀ (A B : List Value) (x y u v : Value), ((A ++ u :: v :: B).set A.length x).set (A.length + 1) y = A ++ x :: y :: B := by
      intro A B x y u v
      rw [List.set_append_right _ _ (Nat.le_refl _), List.set_append_right _ _ (by omega), Nat.sub_self, Nat.add_sub_cancel_left]; rfl
    have ih := fw_go z r (pre ++ [c])
    rw [List.length_append, List.append_assoc] at ih
    show fw (pre ++ c :: r) pre.length (r.length + 1) _ = _
    rw [fw, e1, e2, ← wide_len pre, e3]
    have e4 : wideBytes (pre ++ [c]) ++ List.replicate (2 * r.length) z = wideBytes pre ++ .int (lo8 c) :: .int (hi8 c) :: List.replicate (2 * r.length) z := by
      rw [wide_app, List.append_assoc]; rfl
    rw [e4] at ih
    exact ih
theorem fw_all (z : Value) (cs : List Int32) : fw cs 0 cs.length (List.replicate (2 * cs.length) z) = wideBytes cs := by
  have := fw_go z cs []
  simpa [wideBytes] using this
theorem set2_len (vs : List Value) (a b : Nat) (x y : Value) : ((vs.set a x).set b y).length = vs.length := by simp
theorem codL {n : Nat} (h0 : 0 < n) (h : n ≤ 4000) : (XT.ushr (Int32.ofNat n - Int32.ofNat (2 * n)) (31 : Int32)).toInt8.toInt32 = 1 := by
  have e : XT.ushr (Int32.ofNat n - Int32.ofNat (2 * n)) (31 : Int32) = 1 := by
    apply Int32.toBitVec_inj.mp
    apply BitVec.eq_of_toNat_eq
    show ((BitVec.ofNat 32 n - BitVec.ofNat 32 (2 * n)) >>> (31#32)).toNat = (1#32).toNat
    simp only [BitVec.ushiftRight_eq', BitVec.toNat_ushiftRight, BitVec.toNat_sub, BitVec.toNat_ofNat, Nat.shiftRight_eq_div_pow, show 2 ^ (31 % 2 ^ 32) = 2147483648 from rfl]
    omega
  rw [e]; rfl
theorem big_mem {cs : List Int32} (h : ∃ j, j < cs.length ∧ (255 : Int32) < cs.getD j 0) : ∃ c ∈ cs, (255 : Int32) < c := by
  obtain ⟨j, j1, j2⟩ := h
  rw [List.getD_eq_getElem?_getD, List.getElem?_eq_getElem j1] at j2
  exact ⟨cs[j], List.getElem_mem j1, j2⟩
end Utf1
section Ref1
variable {p : Program} {l : Launch} {e : Env} {R : Room} {s : State} {m : MethodId} {args : Array Value} {below : List Frame} {meth : Method} {c : Code} {Z : State} {EL : List (String × Nat)} {own : String} {n0 : Nat} {h0 : Heap} {ws : List Addr} {T : State} {h : Heap} {vm : Vm} {locs : List Loc} {cells slots cells' slots' : Nat} {G : State → Prop} {a0 : Array Value} {pc pc' : Nat} {Ls : Array Slot} {rest : List Value}
theorem NK.aaload (W : NK p l e R s m args below meth c Z own n0 h0 ws T h locs cells slots) {a : Addr} {ka : ClassId} {ty : FieldType} {z : Int32} {vs : List Value} {dv : Value} (A : Arv Z h a ka ty z vs dv) (hty : ty.isReference = true) {j : Int32} (v : Value) (hd : decode c.code pc = .ok (.aaload, 1)) (hp : pc + 1 = pc') (hb : ¬ j < 0 ∧ j < z) (hv : vs.getD j.toNatClampNeg dv = v)
    (k' : Go p e below G T (mkF m pc' Ls (v :: rest))) : Go p e below G T (mkF m pc Ls (.int j :: .ref a :: rest)) := by
  obtain ⟨cl, A1, q1, S1, M1, H1, U1⟩ := id A
  subst hp
  exact Go.by1 (fun t q => W.1.aaload W.2.1 (by rw [W.2.2.1]; exact A1.1) (State.isArrayOf_alike W.2.2.2.1.alike A1.2.1) hty A1.2.2 (inb_of S1 hb) (H1.at (inb_of S1 hb) hv) (g := mkF m pc Ls (.int j :: .ref a :: rest)) rfl rfl hd t q) k'
theorem NK.cloneA (W : NK p l e R s m args below meth c Z own n0 h0 ws T h locs cells slots) {ad : String} {index : Nat}
    (w1 : (Cond.methodLink own index ⟨ad, "clone", "()Ljava/lang/Object;"⟩).before a0 Z = true) (w2 : (Cond.sameMethod ad "java/lang/Object" "clone" "()Ljava/lang/Object;").before a0 Z = true) (w3 : (Cond.native ⟨"java/lang/Object", "clone", "()Ljava/lang/Object;"⟩).before a0 Z = true)
    (w4 : (Cond.instanceMethod ⟨"java/lang/Object", "clone", "()Ljava/lang/Object;"⟩).before a0 Z = true) (w5 : (Cond.selects ad ⟨ad, "clone", "()Ljava/lang/Object;"⟩ ⟨"java/lang/Object", "clone", "()Ljava/lang/Object;"⟩).before a0 Z = true) (w6 : (Cond.castable ad "java/lang/Cloneable").before a0 Z = true)
    {a : Addr} {ka : ClassId} {ty : FieldType} {z : Int32} {vs : List Value} {dv : Value} (A : Arv Z h a ka ty z vs dv) (E : Exa Z h a ad) (hd : decode c.code pc = .ok (.invokevirtual index, 3)) (hp : pc + 3 = pc') (hml : c.maxLocals = Ls.size) (hf : 1 ≤ R.frames) {wd cap : Nat} (hW : (rest.map fun v => v.category).sum ≤ wd) (hlo : wd + 14 ≤ R.locals) (hcap : z.toNatClampNeg ≤ cap) (hc : cells + 1 ≤ R.cells) (hsl : slots + cap ≤ R.slots)
    (k' : ∀ (T' : State) (h' : Heap) (b : Addr), b = h.size → h0.size ≤ b → n0 ≤ b → NK p l e R s m args below meth c Z own n0 h0 ws T' h' locs (cells + 1) (slots + cap) → Ext h h' → Arv Z h' b ka ty z vs dv → Exa Z h' b ad → Go p e below G T' (mkF m pc' Ls (.ref b :: rest))) : Go p e below G T (mkF m pc Ls (.ref a :: rest)) := by
  obtain ⟨X, hx, eT, hZ, hown, N, K, hn0, hlk⟩ := W
  obtain ⟨T', h', X', e', E', F, E2, stp⟩ := RoadKit.cloneH X hx hZ hown w1 w2 w3 w4 w5 w6 eT (Arv.arh A) E (g := mkF m pc Ls (.ref a :: rest)) rfl hml.symm rfl hd hf (W := wd) (cap := cap) (by show 2 * 0 + _ ≤ _; omega) hlo hcap hc hsl
  subst hp
  exact Go.by1 (fun t q => stp t q) (k' T' h' _ rfl K.1 (Nat.le_trans hn0 K.1) ⟨X', hx, e', hZ, hown, N, K.ext E', hn0, hlk⟩ E' F E2)
theorem WK.mono (W : WK EL p l e R s m args below meth c Z own n0 h0 ws T h vm locs cells slots) (hc : cells ≤ cells') (hs : slots ≤ slots') : WK EL p l e R s m args below meth c Z own n0 h0 ws T h vm locs cells' slots' := ⟨⟨W.1.1.mono hc hs, W.1.2⟩, W.2⟩
theorem hasL_of {c : Cell} {dv : Value} : ∀ (vs : List Value) (i : Nat), (∀ j, j < vs.length → c.slots[i + j]? = some (vs.getD j dv)) → HasL c i vs
  | [], _, _ => trivial
  | v :: r, i, H => ⟨H 0 (Nat.succ_pos _), hasL_of r (i + 1) fun j hj => by have := H (j + 1) (Nat.succ_lt_succ hj); rw [show i + 1 + j = i + (j + 1) by omega]; exact this⟩
/-- an array that stood before -/
theorem arr_start {args : Array Value} (hf : Fit s) {t : Term} {x : Addr} {ty : FieldType} {n : Nat} {vs : List Value} {dv : Value} (ev : t.eval args s none [] s = some (.ref x)) (hA : (Cond.arrayOf t ty).value args s none s [] = some true) (hlen : (Cond.eq (Term.length t) (Term.int (Int32.ofNat n))).value args s none s [] = some true) (hn : n ≤ 4000) (hl : vs.length = n)
    (H : ∀ j, j < n → (Term.elem t (Term.int (Int32.ofNat j))).eval args s none [] s = some (vs.getD j dv)) : ∃ k, Arv s s.heap x k ty (Int32.ofNat n) vs dv := by
  obtain ⟨c, A⟩ := Arr.start ev hA
  have q := eqv_i (Term.int_eval _) hlen
  have ha : s.arrayAt? x = some c := IntBox.arrayAt_of A.1 A.2.1 A.2.2
  have e3 : c.slots.size < 2 ^ 31 := Classical.byContradiction fun hn => by
    simp only [Term.eval, ev, ha, Option.bind_eq_bind, Option.bind_some] at q
    rw [if_neg hn] at q; cases q
  rw [len_f ev ha e3] at q
  have e4 := Value.int.inj (Option.some.inj q)
  refine ⟨_, Arv.start hf A e3 e4 (ofNat_nn (by omega)) (by rw [clN (by omega), hl]) (hasL_of (dv := dv) vs 0 fun j hj => ?_)⟩
  have := (elem_in (H j (by omega)) ev (Term.int_eval _) A.1).2
  rw [clN (by omega)] at this
  rw [Nat.zero_add]; exact this
theorem eqv_ref {args : Array Value} {X F : Term} {y : Value} (hF : F.eval args s none [] s = some y) (hy : y.isRef = true) (h : (Cond.eq X F).value args s none s [] = some true) : X.eval args s none [] s = some y := (Cond.eq_refs (Cond.before_iff.mpr h) hF hy)
end Ref1
end Own
open Own
--CUT base
theorem constHeld_of {s : State} {own : String} {index : Nat} (h : constHeld s own index) : Jvm.Lit.constHeld s own index := h
theorem hwAtoms : ∀ d ∈ Bundle.stringAtoms, d ∈ tables_1 := by decide +kernel
theorem hwords : ∀ d ∈ StrChars.Road.words, d ∈ tables_1 := by decide +kernel
section StrNewL
variable {p : Program} {l : Launch} {e : Env} {R : Room} {s : State} {args : Array Value} {below : List Frame} {Z : State} {h : Heap} {a0 : Array Value} {len wd : Nat} {n0 : Nat}
theorem BK.padL {y : MethodName} {as' : Array Value} {rc rs rc' rs' : Nat} {Q : Option Value → Heap → List Loc → Prop} (hK : BK l R p e below s args y len wd as' h rc rs Q) (h1 : rc ≤ rc') (h2 : rs ≤ rs') : BK l R p e below s args y len wd as' h rc' rs' Q := by
  intro m meth c A g ig mk a X hg hsize hdg hW hn hp
  obtain ⟨v, B, X', ⟨L, q, e1, e2, e3⟩, st⟩ := hK m meth c A g ig mk a X hg hsize hdg hW hn ⟨hp.1, hp.2.1, Nat.le_trans (Nat.add_le_add_left h1 _) hp.2.2.1, Nat.le_trans (Nat.add_le_add_left h2 _) hp.2.2.2⟩
  exact ⟨v, ⟨B.U, B.locs, A.cells + rc', A.slots + rs'⟩, X'.mono (by rw [e2]; exact Nat.add_le_add_left h1 _) (by rw [e3]; exact Nat.add_le_add_left h2 _), ⟨L, q, e1, rfl, rfl⟩, st⟩
/-- new String(chars), of 1 to 8 chars, each 0 to 255; the chars need not be known -/
theorem newStrL (hZ : Z.Warmed39 s.vm) (hw : ∀ d ∈ tables_1, d.before a0 Z = true) {x b : Addr} {kb : ClassId} {cs : List Int32} {zc : Int32} (wi : (Jvm.Cond.instantiable "java/lang/String" 4).before a0 Z = true)
    (gx : n0 ≤ x) (hn0 : n0 ≤ h.size) (EX : Exa Z h x "java/lang/String") (FV : Fld Z h x "java/lang/String" "value" "[B" .null) (FC : Fld Z h x "java/lang/String" "coder" "B" (.int (0 : Int32))) (AB : Arv Z h b kb .char (Int32.ofNat cs.length) (cs.map Value.int) (.int (0 : Int32))) (hn8 : cs.length ≤ 8) (h1 : 0 < cs.length) (hp : ∀ c ∈ cs, ¬ c < 0 ∧ ¬ (255 : Int32) < c)
    (SC : Sta Z h "java/lang/String" "COMPACT_STRINGS" "Z" (.int zc)) (hz : ¬ zc = 0) (hfr : 5 ≤ R.frames) (hlo : wd + 80 ≤ R.locals) :
    BK l R p e below s args (⟨"java/lang/String", "<init>", "([C)V"⟩ : MethodName) len wd #[.ref x, .ref b] h 1 8 (fun v h' L => (v = none ∧ StrA Z h' x cs) ∧ Keep h h' [x] ∧ Fr n0 L) := by
  refine BK.padL (rc := 1) (rs := cs.length) (Back.mono (StrChars.Road.backV (W := wd) (len := len) hZ (fun d hd => hw d (hwords d hd)) (kI := 4) wi (cs := cs) (bs := cs.map (fun c => c.toInt8.toInt32)) (n := cs.length) gx hn0 EX FV FC AB SC hz rfl rfl h1 (by omega) hp rfl (by omega) (by omega)) (fun A a hp => hp) (fun A a v B hp' hq => ?_)) (by omega) (by omega)
  obtain ⟨L, ⟨q1, q2, q3, q4, q5, t, kb', -, -, -, q6, q7⟩, r⟩ := hq
  exact ⟨L, ⟨⟨q1, StrA.make q4 q5 q6 q7 rfl (by omega) hp⟩, q3, q2⟩, r⟩
end StrNewL
theorem dE4_0 : decode jdk_42_method_149_code 0 = .ok (.aload_n 0, 1) := by decide +kernel
theorem dE4_1 : decode jdk_42_method_149_code 1 = .ok (.invokespecial 1, 3) := by decide +kernel
theorem dE4_4 : decode jdk_42_method_149_code 4 = .ok (.iload_n 3, 1) := by decide +kernel
theorem dE4_5 : decode jdk_42_method_149_code 5 = .ok (.ifCond .ne 22, 3) := by decide +kernel
theorem dE4_8 : decode jdk_42_method_149_code 8 = .ok (.aload_n 0, 1) := by decide +kernel
theorem dE4_9 : decode jdk_42_method_149_code 9 = .ok (.ldc 7, 2) := by decide +kernel
theorem dE4_11 : decode jdk_42_method_149_code 11 = .ok (.getfield 9, 3) := by decide +kernel
theorem dE4_14 : decode jdk_42_method_149_code 14 = .ok (.putfield 9, 3) := by decide +kernel
theorem dE4_17 : decode jdk_42_method_149_code 17 = .ok (.aload_n 0, 1) := by decide +kernel
theorem dE4_18 : decode jdk_42_method_149_code 18 = .ok (.ldc 7, 2) := by decide +kernel
theorem dE4_20 : decode jdk_42_method_149_code 20 = .ok (.getfield 15, 3) := by decide +kernel
theorem dE4_23 : decode jdk_42_method_149_code 23 = .ok (.putfield 15, 3) := by decide +kernel
theorem dE4_26 : decode jdk_42_method_149_code 26 = .ok (.return_, 1) := by decide +kernel
theorem pn_E4 : plainFor (⟨"java/lang/String", "<init>", "([CIILjava/lang/Void;)V"⟩ : MethodName) = true := by first | exact plainFor_of_name (by first | (simp [plainName, overriddenIn]; done) | decide +kernel) | decide +kernel
set_option maxRecDepth 65536 in
set_option maxHeartbeats 40000000 in
theorem rmE4 (l : Launch) (Z : State) (a0 : Array Value) (hw : ∀ d ∈ tables_1, d.before a0 Z = true) (hEL : EW Z a0 consts_1) (a b : Addr) (h0 : Heap) (n0 : Nat) (Z0 : n0 ≤ h0.size) (ga : n0 ≤ a) (EX : Exa Z h0 a "java/lang/String") (FV : Fld Z h0 a "java/lang/String" "value" "[B" .null) (FC : Fld Z h0 a "java/lang/String" "coder" "B" (.int (0 : Int32))) :
    WM l (⟨"java/lang/String", "<init>", "([CIILjava/lang/Void;)V"⟩ : MethodName) jdk_42_method_149_code 6 none [] ({ frames := 1, cells := 4, slots := 8, locals := 13 } : Room) Z consts_1 n0 #[(.ref a), (.ref b), (.int (0 : Int32)), (.int (0 : Int32)), .null] h0 [a] (fun v h => v = none ∧ StrA Z h a []) := by
  refine WM.walk (Ls := #[.val (.ref a), .val (.ref b), .val (.int (0 : Int32)), .val (.int (0 : Int32)), .val .null, .unset]) pn_E4 Z0 (fun m => by first | (simp [entryFrame, mkF, argsToLocals, Value.category]; done) | rfl) ?_
  intro p e s m below meth c s₁ hby hml hret hnm W0
  have hwS : ∀ d ∈ Bundle.stringAtoms, d.before a0 Z = true := fun d hd => hw d (hwAtoms d hd)
  refine W0.1.aloadN (hb hby dE4_0) rfl rfl (pc' := 1) rfl ?_
  refine W0.1.initO (hw _ (List.mem_of_getElem? (i := 61) rfl)) (hw _ (List.mem_of_getElem? (i := 62) rfl)) (hw _ (List.mem_of_getElem? (i := 63) rfl)) (hb hby dE4_1) (pc' := 4) rfl hml (by decide) (wd := 0) (Nat.le_of_ble_eq_true rfl) (by decide) ?_
  intro T1 N1
  have W1 := W0.same N1
  refine W1.1.iloadN (hb hby dE4_4) rfl (pc' := 5) rfl ?_
  refine W1.1.ifNo (hb hby dE4_5) (XT.i0_ne_f (by decide)) (pc' := 8) rfl ?_
  refine W1.1.aloadN (hb hby dE4_8) rfl rfl (pc' := 9) rfl ?_
  refine W1.ldcS hEL (hw _ (List.mem_of_getElem? (i := 145) rfl)) hwS (by decide) (vs := []) (z := (0 : Int32)) ⟨by decide, by decide⟩ (by decide) rfl (hb hby dE4_9) (pc' := 11) rfl (n := 0) (by decide) (by decide) (by decide) (by decide) ?_
  intro T2 h2 vm2 a2 b2 k2 W2 E2 C2 A2 B2 D2 V2 hne2
  have z2 := E2.1
  have F3 := Exa.ext E2 EX
  have F4 := Fld.ext E2 FV
  have Sf2_a := (safe_null (EL := consts_1) W2.1.2.2.2.1.alike F3 F4)
  refine W2.1.getF (host := "") (Or.inl (hw _ (List.mem_of_getElem? (i := 14) rfl))) Via.refl D2 (hb hby dE4_11) (pc' := 14) rfl ?_
  intro T5 N5
  have W5 := W2.same N5
  have F7 := Fld.ext E2 FC
  refine W5.1.putF (host := "") (Or.inl (hw _ (List.mem_of_getElem? (i := 14) rfl))) Via.refl F4 F3 (Or.inr ⟨(hw _ (List.mem_of_getElem? (i := 5) rfl)), rfl, hnm⟩) (hw _ (List.mem_of_getElem? (i := 3) rfl)) (ty := (.array .byte)) (by decide) rfl rfl (hb hby dE4_14) (pc' := 17) rfl (Or.inl (List.mem_of_getElem? (i := 0) rfl)) ga ?_
  intro T6 h6 L6 N6 Q6
  have K6 := Keep.of_wr Q6
  have z6 := K6.1
  have W6 := W5.up N6 K6 (sfS Sf2_a sf0)
  have Sf6 := W5.safeK Sf2_a K6 (sfS Sf2_a sf0)
  have A6 := Exa.wr Q6 F3
  have B6 := Fld.same Q6 F4
  have B6_coder := Fld.other Q6 F7 (Or.inr (slot_ne (Or.inr (hw _ (List.mem_of_getElem? (i := 6) rfl))) (Or.inr (hw _ (List.mem_of_getElem? (i := 5) rfl))) (by decide) (t := .byte) (t' := (.array .byte)) (by decide) (by decide)))
  refine W6.1.aloadN (hb hby dE4_17) rfl rfl (pc' := 18) rfl ?_
  refine W6.ldcS hEL (hw _ (List.mem_of_getElem? (i := 145) rfl)) hwS (by decide) (vs := []) (z := (0 : Int32)) ⟨by decide, by decide⟩ (by decide) rfl (hb hby dE4_18) (pc' := 20) rfl (n := 0) (by decide) (by decide) (by decide) (by decide) ?_
  intro T8 h8 vm8 a8 b8 k8 W8 E8 C8 A8 B8 D8 V8 hne8
  have z8 := E8.1
  have Sf8_a := C8.safe A6.lt Sf6
  refine W8.1.getF (host := "") (Or.inl (hw _ (List.mem_of_getElem? (i := 21) rfl))) Via.refl B8 (hb hby dE4_20) (pc' := 23) rfl ?_
  intro T9 N9
  have W9 := W8.same N9
  have F11 := Fld.ext E8 B6_coder
  have F12 := Exa.ext E8 A6
  have F13 := Fld.ext E8 B6
  refine W9.1.putF (host := "") (Or.inl (hw _ (List.mem_of_getElem? (i := 21) rfl))) Via.refl F11 F12 (Or.inr ⟨(hw _ (List.mem_of_getElem? (i := 6) rfl)), rfl, hnm⟩) (hw _ (List.mem_of_getElem? (i := 3) rfl)) (ty := .byte) (by decide) rfl rfl (hb hby dE4_23) (pc' := 26) rfl (Or.inl (List.mem_of_getElem? (i := 0) rfl)) ga ?_
  intro T10 h10 L10 N10 Q10
  have K10 := Keep.of_wr Q10
  have z10 := K10.1
  have W10 := W9.up N10 K10 (sfS Sf8_a sf0)
  have Sf10 := W9.safeK Sf8_a K10 (sfS Sf8_a sf0)
  have A10 := Exa.wr Q10 F12
  have B10 := Fld.same Q10 F11
  have B10_value := Fld.other Q10 F13 (Or.inr (slot_ne (Or.inr (hw _ (List.mem_of_getElem? (i := 5) rfl))) (Or.inr (hw _ (List.mem_of_getElem? (i := 6) rfl))) (by decide) (t := (.array .byte)) (t' := .byte) (by decide) (by decide)))
  have F14 := (((V2.keep K6 (ninS (Ne.symm (Exa.neArv F3 V2 (hw _ (List.mem_of_getElem? (i := 3) rfl)))) nin0)).ext E8).keep K10 (ninS (Ne.symm (Exa.neArv F12 ((V2.keep K6 (ninS (Ne.symm (Exa.neArv F3 V2 (hw _ (List.mem_of_getElem? (i := 3) rfl)))) nin0)).ext E8) (hw _ (List.mem_of_getElem? (i := 3) rfl)))) nin0))
  exact W10.retV hEL hret (hb hby dE4_26) (by decide) (by decide) ⟨rfl, StrA.make A10 B10 B10_value F14 rfl (by decide) mem0⟩
theorem dE1_0 : decode jdk_42_method_3_code 0 = .ok (.aload_n 0, 1) := by decide +kernel
theorem dE1_1 : decode jdk_42_method_3_code 1 = .ok (.aload_n 1, 1) := by decide +kernel
theorem dE1_2 : decode jdk_42_method_3_code 2 = .ok (.iconst 0, 1) := by decide +kernel
theorem dE1_3 : decode jdk_42_method_3_code 3 = .ok (.aload_n 1, 1) := by decide +kernel
theorem dE1_4 : decode jdk_42_method_3_code 4 = .ok (.arraylength, 1) := by decide +kernel
theorem dE1_5 : decode jdk_42_method_3_code 5 = .ok (.aconst_null, 1) := by decide +kernel
theorem dE1_6 : decode jdk_42_method_3_code 6 = .ok (.invokespecial 27, 3) := by decide +kernel
theorem pd_2d3984e9 : parseMethodDescriptor "([CIILjava/lang/Void;)V" = some ⟨[(.array .char), .int, .int, (.object "java/lang/Void")], none⟩ := by decide +kernel
theorem dE1_9 : decode jdk_42_method_3_code 9 = .ok (.return_, 1) := by decide +kernel
theorem pn_E1 : plainFor (⟨"java/lang/String", "<init>", "([C)V"⟩ : MethodName) = true := by first | exact plainFor_of_name (by first | (simp [plainName, overriddenIn]; done) | decide +kernel) | decide +kernel
set_option maxRecDepth 65536 in
set_option maxHeartbeats 40000000 in
theorem rmE1 (l : Launch) (Z : State) (a0 : Array Value) (hw : ∀ d ∈ tables_1, d.before a0 Z = true) (hEL : EW Z a0 consts_1) (a b : Addr) (kb : ClassId) (h0 : Heap) (n0 : Nat) (Z0 : n0 ≤ h0.size) (ga : n0 ≤ a) (EX : Exa Z h0 a "java/lang/String") (FV : Fld Z h0 a "java/lang/String" "value" "[B" .null) (FC : Fld Z h0 a "java/lang/String" "coder" "B" (.int (0 : Int32))) (AB : Arv Z h0 b kb .char (0 : Int32) [] (.int (0 : Int32))) :
    WM l (⟨"java/lang/String", "<init>", "([C)V"⟩ : MethodName) jdk_42_method_3_code 2 none [] ({ frames := 2, cells := 4, slots := 8, locals := 30 } : Room) Z consts_1 n0 #[(.ref a), (.ref b)] h0 [a] (fun v h => v = none ∧ StrA Z h a []) := by
  refine WM.walk (Ls := #[.val (.ref a), .val (.ref b)]) pn_E1 Z0 (fun m => by first | (simp [entryFrame, mkF, argsToLocals, Value.category]; done) | rfl) ?_
  intro p e s m below meth c s₁ hby hml hret hnm W0
  refine W0.1.aloadN (hb hby dE1_0) rfl rfl (pc' := 1) rfl ?_
  refine W0.1.aloadN (hb hby dE1_1) rfl rfl (pc' := 2) rfl ?_
  refine W0.1.iconst (0 : Int32) (hb hby dE1_2) rfl (pc' := 3) rfl ?_
  refine W0.1.aloadN (hb hby dE1_3) rfl rfl (pc' := 4) rfl ?_
  refine W0.1.arraylength AB (hb hby dE1_4) (pc' := 5) rfl ?_
  refine W0.1.aconstNull (hb hby dE1_5) (pc' := 6) rfl ?_
  refine W0.callI (y := (⟨"java/lang/String", "<init>", "([CIILjava/lang/Void;)V"⟩ : MethodName)) rfl (hw _ (List.mem_of_getElem? (i := 57) rfl)) (hw _ (List.mem_of_getElem? (i := 58) rfl)) (hw _ (List.mem_of_getElem? (i := 60) rfl)) (by decide) (WM.bk (wd := 0) (rmE4 l Z a0 hw hEL a b h0 n0 W0.1.n0h ga EX FV FC) W0.1.2.2.2.1 (hw _ (List.mem_of_getElem? (i := 60) rfl)) (hw _ (List.mem_of_getElem? (i := 2) rfl)) (by decide) (by decide) hEL W0.2.2.1) (hb hby dE1_6) (pc' := 9) rfl hml (a := a) (argsL := [(.ref b), (.int (0 : Int32)), (.int (0 : Int32)), .null]) rfl (lenOf pd_2d3984e9 rfl) rfl (Nat.le_of_ble_eq_true rfl) (by decide) (by decide) (ws' := [a]) (fun _ _ _ q => ⟨q.2.2, q.2.1⟩) (allS (Or.inl (List.mem_of_getElem? (i := 0) rfl)) all0) ?_
  intro v1 T1 h1 vm1 L1' L1 W1 Q1 K1 C1
  have z1 := K1.1
  obtain ⟨⟨rfl, S1⟩, -, -⟩ := Q1
  show Go p e below _ T1 (mkF m 9 #[.val (.ref a), .val (.ref b)] [])
  exact W1.retV hEL hret (hb hby dE1_9) (by decide) (by decide) ⟨rfl, S1⟩
--CUT own
def pkF (cs : List Int32) (i : Nat) (x : Int64) : Int32 := (if (Int32.ofNat i) < (Int32.ofNat cs.length) then (cs.getD i 0) else (i2c ((XT.ushrL x ((8 : Int32) * (Int32.ofNat i))) &&& (255 : Int64)).toInt32))
theorem dPK_0 : decode method_3_code 0 = .ok (.iload_n 1, 1) := by decide +kernel
theorem dPK_1 : decode method_3_code 1 = .ok (.aload_n 0, 1) := by decide +kernel
theorem dPK_2 : decode method_3_code 2 = .ok (.invokevirtual 16, 3) := by decide +kernel
theorem pd_368a4b19 : parseMethodDescriptor "()I" = some ⟨[], some .int⟩ := by decide +kernel
theorem dPK_5 : decode method_3_code 5 = .ok (.if_icmp .ge 9, 3) := by decide +kernel
theorem dPK_8 : decode method_3_code 8 = .ok (.aload_n 0, 1) := by decide +kernel
theorem dPK_9 : decode method_3_code 9 = .ok (.iload_n 1, 1) := by decide +kernel
theorem dPK_10 : decode method_3_code 10 = .ok (.invokevirtual 61, 3) := by decide +kernel
theorem pd_32dd484b : parseMethodDescriptor "(I)C" = some ⟨[.int], some .char⟩ := by decide +kernel
theorem dPK_13 : decode method_3_code 13 = .ok (.ireturn, 1) := by decide +kernel
theorem dPK_14 : decode method_3_code 14 = .ok (.lload_n 2, 1) := by decide +kernel
theorem dPK_15 : decode method_3_code 15 = .ok (.bipush 8, 2) := by decide +kernel
theorem dPK_17 : decode method_3_code 17 = .ok (.iload_n 1, 1) := by decide +kernel
theorem dPK_18 : decode method_3_code 18 = .ok (.imul, 1) := by decide +kernel
theorem dPK_19 : decode method_3_code 19 = .ok (.lushr, 1) := by decide +kernel
theorem dPK_20 : decode method_3_code 20 = .ok (.ldc2_w 65, 3) := by decide +kernel
theorem dPK_23 : decode method_3_code 23 = .ok (.land, 1) := by decide +kernel
theorem dPK_24 : decode method_3_code 24 = .ok (.l2i, 1) := by decide +kernel
theorem dPK_25 : decode method_3_code 25 = .ok (.i2c, 1) := by decide +kernel
theorem dPK_26 : decode method_3_code 26 = .ok (.ireturn, 1) := by decide +kernel
theorem pn_PK : plainFor (⟨"dev/rolegate/model/DecisionOfWordPinLaw", "pick", "(Ljava/lang/String;IJ)C"⟩ : MethodName) = true := by first | exact plainFor_of_name (by first | (simp [plainName, overriddenIn]; done) | decide +kernel) | decide +kernel
set_option maxRecDepth 65536 in
set_option maxHeartbeats 40000000 in
theorem rmPK (l : Launch) (Z : State) (a0 : Array Value) (hw : ∀ d ∈ tables_1, d.before a0 Z = true) (a : Addr) (cs : List Int32) (i : Nat) (x : Int64) (zc : Int32) (fm : Value) (h0 : Heap) (n0 : Nat) (Z0 : n0 ≤ h0.size) (TS : StrA Z h0 a cs) (HL : ∀ c ∈ cs, ¬ (255 : Int32) < c) (hi : i ≤ 8) (SC : Sta Z h0 "java/lang/String" "COMPACT_STRINGS" "Z" (.int zc)) (hz : ¬ zc = 0) (SF : Sta Z h0 "jdk/internal/util/Preconditions" "SIOOBE_FORMATTER" "Ljava/util/function/BiFunction;" fm) (rfm : fm.isRef = true) :
    NM l (⟨"dev/rolegate/model/DecisionOfWordPinLaw", "pick", "(Ljava/lang/String;IJ)C"⟩ : MethodName) method_3_code 4 (some .char) [] ({ frames := 4, cells := 0, slots := 0, locals := 56 } : Room) Z n0 #[(.ref a), (.int (Int32.ofNat i)), (.long x)] h0 [] (Pu (some (.int (pkF cs i x))) h0) := by
  refine NM.walk (Ls := #[.val (.ref a), .val (.int (Int32.ofNat i)), .val (.long x), .second]) pn_PK Z0 (fun m => by first | (simp [entryFrame, mkF, argsToLocals, Value.category]; done) | rfl) ?_
  intro p e s m below meth c s₁ hby hml hret hnm W0
  refine W0.iloadN (hb hby dPK_0) rfl (pc' := 1) rfl ?_
  refine W0.aloadN (hb hby dPK_1) rfl rfl (pc' := 2) rfl ?_
  refine W0.callVP (y := (⟨"java/lang/String", "length", "()I"⟩ : MethodName)) (z := (⟨"java/lang/String", "length", "()I"⟩ : MethodName)) (hw _ (List.mem_of_getElem? (i := 9) rfl)) (hw _ (List.mem_of_getElem? (i := 10) rfl)) (hw _ (List.mem_of_getElem? (i := 12) rfl)) (hw _ (List.mem_of_getElem? (i := 12) rfl)) (hw _ (List.mem_of_getElem? (i := 11) rfl)) (by decide) (StrA.lenB (wd := 1) TS W0.2.2.2.1 hw (hw _ (List.mem_of_getElem? (i := 3) rfl)) SC hz (by decide) (by decide)) TS.1 (hb hby dPK_2) (pc' := 5) rfl hml (argsL := []) rfl (lenOf pd_368a4b19 rfl) rfl (Nat.le_of_ble_eq_true rfl) (by decide) (by decide) (fun _ _ _ q => pu_nil q) ?_
  intro T1 L1 W1
  show Go p e below _ T1 (mkF m 5 #[.val (.ref a), .val (.int (Int32.ofNat i)), .val (.long x), .second] [(.int (Int32.ofNat cs.length)), (.int (Int32.ofNat i))])
  by_cases hc2 : (Int32.ofNat i) < (Int32.ofNat cs.length)
  · refine W1.icmpNo (hb hby dPK_5) (XT.ii_ge_f hc2) (pc' := 8) rfl ?_
    refine W1.aloadN (hb hby dPK_8) rfl rfl (pc' := 9) rfl ?_
    refine W1.iloadN (hb hby dPK_9) rfl (pc' := 10) rfl ?_
    refine W1.callVP (y := (⟨"java/lang/String", "charAt", "(I)C"⟩ : MethodName)) (z := (⟨"java/lang/String", "charAt", "(I)C"⟩ : MethodName)) (hw _ (List.mem_of_getElem? (i := 27) rfl)) (hw _ (List.mem_of_getElem? (i := 28) rfl)) (hw _ (List.mem_of_getElem? (i := 30) rfl)) (hw _ (List.mem_of_getElem? (i := 30) rfl)) (hw _ (List.mem_of_getElem? (i := 29) rfl)) (by decide) (StrA.chr (wd := 0) TS HL W1.2.2.2.1 hw (hw _ (List.mem_of_getElem? (i := 3) rfl)) SC hz SF rfm (by decide) (by decide) (i := i) (j := (Int32.ofNat i)) ((ofNat_lt (by omega) (by have := TS.2.2.1; omega)).mp hc2) rfl) TS.1 (hb hby dPK_10) (pc' := 13) rfl hml (argsL := [(.int (Int32.ofNat i))]) rfl (lenOf pd_32dd484b rfl) rfl (Nat.le_of_ble_eq_true rfl) (by decide) (by decide) (fun _ _ _ q => pu_nil q) ?_
    intro T3 L3 W3
    show Go p e below _ T3 (mkF m 13 #[.val (.ref a), .val (.int (Int32.ofNat i)), .val (.long x), .second] [(.int (cs.getD i 0))])
    exact W3.retC hret (hb hby dPK_13) (nar_ret (nar_lat (getD_all (P := fun c => ¬ c < 0 ∧ ¬ (255 : Int32) < c) (fun c hc => ⟨(TS.2.1 c hc).1, HL c hc⟩) (by decide) i))) (by decide) (by decide) ⟨congrArg (fun z => some (Value.int z)) (by rw [pkF, if_pos hc2]), rfl⟩
  · refine W1.icmpYes (hb hby dPK_5) (XT.ii_ge_t hc2) (by decide) (pc' := 14) (by decide) ?_
    refine W1.lloadN (hb hby dPK_14) rfl (pc' := 15) rfl ?_
    refine W1.bipush (8 : Int32) (hb hby dPK_15) rfl (pc' := 17) rfl ?_
    refine W1.iloadN (hb hby dPK_17) rfl (pc' := 18) rfl ?_
    refine W1.imul (hb hby dPK_18) (pc' := 19) rfl ?_
    refine W1.lushr (hb hby dPK_19) (pc' := 20) rfl ?_
    refine W1.ldc2J (hb hby dPK_20) (hw _ (List.mem_of_getElem? (i := 49) rfl)) (pc' := 23) rfl ?_
    refine W1.land (hb hby dPK_23) (pc' := 24) rfl ?_
    refine W1.l2i (hb hby dPK_24) (pc' := 25) rfl ?_
    refine W1.i2c (hb hby dPK_25) (pc' := 26) rfl ?_
    exact W1.retC hret (hb hby dPK_26) (nar_ret (nar_i2c _)) (by decide) (by decide) ⟨congrArg (fun z => some (Value.int z)) (by rw [pkF, if_neg hc2]), rfl⟩
def pxF (n : Int32) (bl : List Int32) : List Int32 := (if (0 : Int32) < n then (if n = (1 : Int32) then ([(bl.getD 0 0)] : List Int32) else (if n = (2 : Int32) then ([(bl.getD 0 0), (bl.getD 1 0)] : List Int32) else (if n = (3 : Int32) then ([(bl.getD 0 0), (bl.getD 1 0), (bl.getD 2 0)] : List Int32) else (if n = (4 : Int32) then ([(bl.getD 0 0), (bl.getD 1 0), (bl.getD 2 0), (bl.getD 3 0)] : List Int32) else (if n = (5 : Int32) then ([(bl.getD 0 0), (bl.getD 1 0), (bl.getD 2 0), (bl.getD 3 0), (bl.getD 4 0)] : List Int32) else (if n = (6 : Int32) then ([(bl.getD 0 0), (bl.getD 1 0), (bl.getD 2 0), (bl.getD 3 0), (bl.getD 4 0), (bl.getD 5 0)] : List Int32) else (if n = (7 : Int32) then ([(bl.getD 0 0), (bl.getD 1 0), (bl.getD 2 0), (bl.getD 3 0), (bl.getD 4 0), (bl.getD 5 0), (bl.getD 6 0)] : List Int32) else ([(bl.getD 0 0), (bl.getD 1 0), (bl.getD 2 0), (bl.getD 3 0), (bl.getD 4 0), (bl.getD 5 0), (bl.getD 6 0), (bl.getD 7 0)] : List Int32)))))))) else ([] : List Int32))
theorem dPX_0 : decode method_4_code 0 = .ok (.iload_n 1, 1) := by decide +kernel
theorem dPX_1 : decode method_4_code 1 = .ok (.ifCond .gt 7, 3) := by decide +kernel
theorem dPX_8 : decode method_4_code 8 = .ok (.iload_n 1, 1) := by decide +kernel
theorem dPX_9 : decode method_4_code 9 = .ok (.iconst 1, 1) := by decide +kernel
theorem dPX_10 : decode method_4_code 10 = .ok (.if_icmp .ne 13, 3) := by decide +kernel
theorem dPX_13 : decode method_4_code 13 = .ok (.iconst 1, 1) := by decide +kernel
theorem dPX_14 : decode method_4_code 14 = .ok (.newarray .char, 2) := by decide +kernel
theorem dPX_16 : decode method_4_code 16 = .ok (.dup, 1) := by decide +kernel
theorem dPX_17 : decode method_4_code 17 = .ok (.iconst 0, 1) := by decide +kernel
theorem dPX_18 : decode method_4_code 18 = .ok (.aload_n 0, 1) := by decide +kernel
theorem dPX_19 : decode method_4_code 19 = .ok (.iconst 0, 1) := by decide +kernel
theorem dPX_20 : decode method_4_code 20 = .ok (.caload, 1) := by decide +kernel
theorem dPX_21 : decode method_4_code 21 = .ok (.castore, 1) := by decide +kernel
theorem dPX_22 : decode method_4_code 22 = .ok (.areturn, 1) := by decide +kernel
theorem dPX_23 : decode method_4_code 23 = .ok (.iload_n 1, 1) := by decide +kernel
theorem dPX_24 : decode method_4_code 24 = .ok (.iconst 2, 1) := by decide +kernel
theorem dPX_25 : decode method_4_code 25 = .ok (.if_icmp .ne 19, 3) := by decide +kernel
theorem dPX_28 : decode method_4_code 28 = .ok (.iconst 2, 1) := by decide +kernel
theorem dPX_29 : decode method_4_code 29 = .ok (.newarray .char, 2) := by decide +kernel
theorem dPX_31 : decode method_4_code 31 = .ok (.dup, 1) := by decide +kernel
theorem dPX_32 : decode method_4_code 32 = .ok (.iconst 0, 1) := by decide +kernel
theorem dPX_33 : decode method_4_code 33 = .ok (.aload_n 0, 1) := by decide +kernel
theorem dPX_34 : decode method_4_code 34 = .ok (.iconst 0, 1) := by decide +kernel
theorem dPX_35 : decode method_4_code 35 = .ok (.caload, 1) := by decide +kernel
theorem dPX_36 : decode method_4_code 36 = .ok (.castore, 1) := by decide +kernel
theorem dPX_37 : decode method_4_code 37 = .ok (.dup, 1) := by decide +kernel
theorem dPX_38 : decode method_4_code 38 = .ok (.iconst 1, 1) := by decide +kernel
theorem dPX_39 : decode method_4_code 39 = .ok (.aload_n 0, 1) := by decide +kernel
theorem dPX_40 : decode method_4_code 40 = .ok (.iconst 1, 1) := by decide +kernel
theorem dPX_41 : decode method_4_code 41 = .ok (.caload, 1) := by decide +kernel
theorem dPX_42 : decode method_4_code 42 = .ok (.castore, 1) := by decide +kernel
theorem dPX_43 : decode method_4_code 43 = .ok (.areturn, 1) := by decide +kernel
theorem dPX_44 : decode method_4_code 44 = .ok (.iload_n 1, 1) := by decide +kernel
theorem dPX_45 : decode method_4_code 45 = .ok (.iconst 3, 1) := by decide +kernel
theorem dPX_46 : decode method_4_code 46 = .ok (.if_icmp .ne 25, 3) := by decide +kernel
theorem dPX_49 : decode method_4_code 49 = .ok (.iconst 3, 1) := by decide +kernel
theorem dPX_50 : decode method_4_code 50 = .ok (.newarray .char, 2) := by decide +kernel
theorem dPX_52 : decode method_4_code 52 = .ok (.dup, 1) := by decide +kernel
theorem dPX_53 : decode method_4_code 53 = .ok (.iconst 0, 1) := by decide +kernel
theorem dPX_54 : decode method_4_code 54 = .ok (.aload_n 0, 1) := by decide +kernel
theorem dPX_55 : decode method_4_code 55 = .ok (.iconst 0, 1) := by decide +kernel
theorem dPX_56 : decode method_4_code 56 = .ok (.caload, 1) := by decide +kernel
theorem dPX_57 : decode method_4_code 57 = .ok (.castore, 1) := by decide +kernel
theorem dPX_58 : decode method_4_code 58 = .ok (.dup, 1) := by decide +kernel
theorem dPX_59 : decode method_4_code 59 = .ok (.iconst 1, 1) := by decide +kernel
theorem dPX_60 : decode method_4_code 60 = .ok (.aload_n 0, 1) := by decide +kernel
theorem dPX_61 : decode method_4_code 61 = .ok (.iconst 1, 1) := by decide +kernel
theorem dPX_62 : decode method_4_code 62 = .ok (.caload, 1) := by decide +kernel
theorem dPX_63 : decode method_4_code 63 = .ok (.castore, 1) := by decide +kernel
theorem dPX_64 : decode method_4_code 64 = .ok (.dup, 1) := by decide +kernel
theorem dPX_65 : decode method_4_code 65 = .ok (.iconst 2, 1) := by decide +kernel
theorem dPX_66 : decode method_4_code 66 = .ok (.aload_n 0, 1) := by decide +kernel
theorem dPX_67 : decode method_4_code 67 = .ok (.iconst 2, 1) := by decide +kernel
theorem dPX_68 : decode method_4_code 68 = .ok (.caload, 1) := by decide +kernel
theorem dPX_69 : decode method_4_code 69 = .ok (.castore, 1) := by decide +kernel
theorem dPX_70 : decode method_4_code 70 = .ok (.areturn, 1) := by decide +kernel
theorem dPX_71 : decode method_4_code 71 = .ok (.iload_n 1, 1) := by decide +kernel
theorem dPX_72 : decode method_4_code 72 = .ok (.iconst 4, 1) := by decide +kernel
theorem dPX_73 : decode method_4_code 73 = .ok (.if_icmp .ne 31, 3) := by decide +kernel
theorem dPX_76 : decode method_4_code 76 = .ok (.iconst 4, 1) := by decide +kernel
theorem dPX_77 : decode method_4_code 77 = .ok (.newarray .char, 2) := by decide +kernel
theorem dPX_79 : decode method_4_code 79 = .ok (.dup, 1) := by decide +kernel
theorem dPX_80 : decode method_4_code 80 = .ok (.iconst 0, 1) := by decide +kernel
theorem dPX_81 : decode method_4_code 81 = .ok (.aload_n 0, 1) := by decide +kernel
theorem dPX_82 : decode method_4_code 82 = .ok (.iconst 0, 1) := by decide +kernel
theorem dPX_83 : decode method_4_code 83 = .ok (.caload, 1) := by decide +kernel
theorem dPX_84 : decode method_4_code 84 = .ok (.castore, 1) := by decide +kernel
theorem dPX_85 : decode method_4_code 85 = .ok (.dup, 1) := by decide +kernel
theorem dPX_86 : decode method_4_code 86 = .ok (.iconst 1, 1) := by decide +kernel
theorem dPX_87 : decode method_4_code 87 = .ok (.aload_n 0, 1) := by decide +kernel
theorem dPX_88 : decode method_4_code 88 = .ok (.iconst 1, 1) := by decide +kernel
theorem dPX_89 : decode method_4_code 89 = .ok (.caload, 1) := by decide +kernel
theorem dPX_90 : decode method_4_code 90 = .ok (.castore, 1) := by decide +kernel
theorem dPX_91 : decode method_4_code 91 = .ok (.dup, 1) := by decide +kernel
theorem dPX_92 : decode method_4_code 92 = .ok (.iconst 2, 1) := by decide +kernel
theorem dPX_93 : decode method_4_code 93 = .ok (.aload_n 0, 1) := by decide +kernel
theorem dPX_94 : decode method_4_code 94 = .ok (.iconst 2, 1) := by decide +kernel
theorem dPX_95 : decode method_4_code 95 = .ok (.caload, 1) := by decide +kernel
theorem dPX_96 : decode method_4_code 96 = .ok (.castore, 1) := by decide +kernel
theorem dPX_97 : decode method_4_code 97 = .ok (.dup, 1) := by decide +kernel
theorem dPX_98 : decode method_4_code 98 = .ok (.iconst 3, 1) := by decide +kernel
theorem dPX_99 : decode method_4_code 99 = .ok (.aload_n 0, 1) := by decide +kernel
theorem dPX_100 : decode method_4_code 100 = .ok (.iconst 3, 1) := by decide +kernel
theorem dPX_101 : decode method_4_code 101 = .ok (.caload, 1) := by decide +kernel
theorem dPX_102 : decode method_4_code 102 = .ok (.castore, 1) := by decide +kernel
theorem dPX_103 : decode method_4_code 103 = .ok (.areturn, 1) := by decide +kernel
theorem dPX_104 : decode method_4_code 104 = .ok (.iload_n 1, 1) := by decide +kernel
theorem dPX_105 : decode method_4_code 105 = .ok (.iconst 5, 1) := by decide +kernel
theorem dPX_106 : decode method_4_code 106 = .ok (.if_icmp .ne 37, 3) := by decide +kernel
theorem dPX_109 : decode method_4_code 109 = .ok (.iconst 5, 1) := by decide +kernel
theorem dPX_110 : decode method_4_code 110 = .ok (.newarray .char, 2) := by decide +kernel
theorem dPX_112 : decode method_4_code 112 = .ok (.dup, 1) := by decide +kernel
theorem dPX_113 : decode method_4_code 113 = .ok (.iconst 0, 1) := by decide +kernel
theorem dPX_114 : decode method_4_code 114 = .ok (.aload_n 0, 1) := by decide +kernel
theorem dPX_115 : decode method_4_code 115 = .ok (.iconst 0, 1) := by decide +kernel
theorem dPX_116 : decode method_4_code 116 = .ok (.caload, 1) := by decide +kernel
theorem dPX_117 : decode method_4_code 117 = .ok (.castore, 1) := by decide +kernel
theorem dPX_118 : decode method_4_code 118 = .ok (.dup, 1) := by decide +kernel
theorem dPX_119 : decode method_4_code 119 = .ok (.iconst 1, 1) := by decide +kernel
theorem dPX_120 : decode method_4_code 120 = .ok (.aload_n 0, 1) := by decide +kernel
theorem dPX_121 : decode method_4_code 121 = .ok (.iconst 1, 1) := by decide +kernel
theorem dPX_122 : decode method_4_code 122 = .ok (.caload, 1) := by decide +kernel
theorem dPX_123 : decode method_4_code 123 = .ok (.castore, 1) := by decide +kernel
theorem dPX_124 : decode method_4_code 124 = .ok (.dup, 1) := by decide +kernel
theorem dPX_125 : decode method_4_code 125 = .ok (.iconst 2, 1) := by decide +kernel
theorem dPX_126 : decode method_4_code 126 = .ok (.aload_n 0, 1) := by decide +kernel
theorem dPX_127 : decode method_4_code 127 = .ok (.iconst 2, 1) := by decide +kernel
theorem dPX_128 : decode method_4_code 128 = .ok (.caload, 1) := by decide +kernel
theorem dPX_129 : decode method_4_code 129 = .ok (.castore, 1) := by decide +kernel
theorem dPX_130 : decode method_4_code 130 = .ok (.dup, 1) := by decide +kernel
theorem dPX_131 : decode method_4_code 131 = .ok (.iconst 3, 1) := by decide +kernel
theorem dPX_132 : decode method_4_code 132 = .ok (.aload_n 0, 1) := by decide +kernel
theorem dPX_133 : decode method_4_code 133 = .ok (.iconst 3, 1) := by decide +kernel
theorem dPX_134 : decode method_4_code 134 = .ok (.caload, 1) := by decide +kernel
theorem dPX_135 : decode method_4_code 135 = .ok (.castore, 1) := by decide +kernel
theorem dPX_136 : decode method_4_code 136 = .ok (.dup, 1) := by decide +kernel
theorem dPX_137 : decode method_4_code 137 = .ok (.iconst 4, 1) := by decide +kernel
theorem dPX_138 : decode method_4_code 138 = .ok (.aload_n 0, 1) := by decide +kernel
theorem dPX_139 : decode method_4_code 139 = .ok (.iconst 4, 1) := by decide +kernel
theorem dPX_140 : decode method_4_code 140 = .ok (.caload, 1) := by decide +kernel
theorem dPX_141 : decode method_4_code 141 = .ok (.castore, 1) := by decide +kernel
theorem dPX_142 : decode method_4_code 142 = .ok (.areturn, 1) := by decide +kernel
theorem dPX_143 : decode method_4_code 143 = .ok (.iload_n 1, 1) := by decide +kernel
theorem dPX_144 : decode method_4_code 144 = .ok (.bipush 6, 2) := by decide +kernel
theorem dPX_146 : decode method_4_code 146 = .ok (.if_icmp .ne 44, 3) := by decide +kernel
theorem dPX_149 : decode method_4_code 149 = .ok (.bipush 6, 2) := by decide +kernel
theorem dPX_151 : decode method_4_code 151 = .ok (.newarray .char, 2) := by decide +kernel
theorem dPX_153 : decode method_4_code 153 = .ok (.dup, 1) := by decide +kernel
theorem dPX_154 : decode method_4_code 154 = .ok (.iconst 0, 1) := by decide +kernel
theorem dPX_155 : decode method_4_code 155 = .ok (.aload_n 0, 1) := by decide +kernel
theorem dPX_156 : decode method_4_code 156 = .ok (.iconst 0, 1) := by decide +kernel
theorem dPX_157 : decode method_4_code 157 = .ok (.caload, 1) := by decide +kernel
theorem dPX_158 : decode method_4_code 158 = .ok (.castore, 1) := by decide +kernel
theorem dPX_159 : decode method_4_code 159 = .ok (.dup, 1) := by decide +kernel
theorem dPX_160 : decode method_4_code 160 = .ok (.iconst 1, 1) := by decide +kernel
theorem dPX_161 : decode method_4_code 161 = .ok (.aload_n 0, 1) := by decide +kernel
theorem dPX_162 : decode method_4_code 162 = .ok (.iconst 1, 1) := by decide +kernel
theorem dPX_163 : decode method_4_code 163 = .ok (.caload, 1) := by decide +kernel
theorem dPX_164 : decode method_4_code 164 = .ok (.castore, 1) := by decide +kernel
theorem dPX_165 : decode method_4_code 165 = .ok (.dup, 1) := by decide +kernel
theorem dPX_166 : decode method_4_code 166 = .ok (.iconst 2, 1) := by decide +kernel
theorem dPX_167 : decode method_4_code 167 = .ok (.aload_n 0, 1) := by decide +kernel
theorem dPX_168 : decode method_4_code 168 = .ok (.iconst 2, 1) := by decide +kernel
theorem dPX_169 : decode method_4_code 169 = .ok (.caload, 1) := by decide +kernel
theorem dPX_170 : decode method_4_code 170 = .ok (.castore, 1) := by decide +kernel
theorem dPX_171 : decode method_4_code 171 = .ok (.dup, 1) := by decide +kernel
theorem dPX_172 : decode method_4_code 172 = .ok (.iconst 3, 1) := by decide +kernel
theorem dPX_173 : decode method_4_code 173 = .ok (.aload_n 0, 1) := by decide +kernel
theorem dPX_174 : decode method_4_code 174 = .ok (.iconst 3, 1) := by decide +kernel
theorem dPX_175 : decode method_4_code 175 = .ok (.caload, 1) := by decide +kernel
theorem dPX_176 : decode method_4_code 176 = .ok (.castore, 1) := by decide +kernel
theorem dPX_177 : decode method_4_code 177 = .ok (.dup, 1) := by decide +kernel
theorem dPX_178 : decode method_4_code 178 = .ok (.iconst 4, 1) := by decide +kernel
theorem dPX_179 : decode method_4_code 179 = .ok (.aload_n 0, 1) := by decide +kernel
theorem dPX_180 : decode method_4_code 180 = .ok (.iconst 4, 1) := by decide +kernel
theorem dPX_181 : decode method_4_code 181 = .ok (.caload, 1) := by decide +kernel
theorem dPX_182 : decode method_4_code 182 = .ok (.castore, 1) := by decide +kernel
theorem dPX_183 : decode method_4_code 183 = .ok (.dup, 1) := by decide +kernel
theorem dPX_184 : decode method_4_code 184 = .ok (.iconst 5, 1) := by decide +kernel
theorem dPX_185 : decode method_4_code 185 = .ok (.aload_n 0, 1) := by decide +kernel
theorem dPX_186 : decode method_4_code 186 = .ok (.iconst 5, 1) := by decide +kernel
theorem dPX_187 : decode method_4_code 187 = .ok (.caload, 1) := by decide +kernel
theorem dPX_188 : decode method_4_code 188 = .ok (.castore, 1) := by decide +kernel
theorem dPX_189 : decode method_4_code 189 = .ok (.areturn, 1) := by decide +kernel
theorem dPX_190 : decode method_4_code 190 = .ok (.iload_n 1, 1) := by decide +kernel
theorem dPX_191 : decode method_4_code 191 = .ok (.bipush 7, 2) := by decide +kernel
theorem dPX_193 : decode method_4_code 193 = .ok (.if_icmp .ne 52, 3) := by decide +kernel
theorem dPX_196 : decode method_4_code 196 = .ok (.bipush 7, 2) := by decide +kernel
theorem dPX_198 : decode method_4_code 198 = .ok (.newarray .char, 2) := by decide +kernel
theorem dPX_200 : decode method_4_code 200 = .ok (.dup, 1) := by decide +kernel
theorem dPX_201 : decode method_4_code 201 = .ok (.iconst 0, 1) := by decide +kernel
theorem dPX_202 : decode method_4_code 202 = .ok (.aload_n 0, 1) := by decide +kernel
theorem dPX_203 : decode method_4_code 203 = .ok (.iconst 0, 1) := by decide +kernel
theorem dPX_204 : decode method_4_code 204 = .ok (.caload, 1) := by decide +kernel
theorem dPX_205 : decode method_4_code 205 = .ok (.castore, 1) := by decide +kernel
theorem dPX_206 : decode method_4_code 206 = .ok (.dup, 1) := by decide +kernel
theorem dPX_207 : decode method_4_code 207 = .ok (.iconst 1, 1) := by decide +kernel
theorem dPX_208 : decode method_4_code 208 = .ok (.aload_n 0, 1) := by decide +kernel
theorem dPX_209 : decode method_4_code 209 = .ok (.iconst 1, 1) := by decide +kernel
theorem dPX_210 : decode method_4_code 210 = .ok (.caload, 1) := by decide +kernel
theorem dPX_211 : decode method_4_code 211 = .ok (.castore, 1) := by decide +kernel
theorem dPX_212 : decode method_4_code 212 = .ok (.dup, 1) := by decide +kernel
theorem dPX_213 : decode method_4_code 213 = .ok (.iconst 2, 1) := by decide +kernel
theorem dPX_214 : decode method_4_code 214 = .ok (.aload_n 0, 1) := by decide +kernel
theorem dPX_215 : decode method_4_code 215 = .ok (.iconst 2, 1) := by decide +kernel
theorem dPX_216 : decode method_4_code 216 = .ok (.caload, 1) := by decide +kernel
theorem dPX_217 : decode method_4_code 217 = .ok (.castore, 1) := by decide +kernel
theorem dPX_218 : decode method_4_code 218 = .ok (.dup, 1) := by decide +kernel
theorem dPX_219 : decode method_4_code 219 = .ok (.iconst 3, 1) := by decide +kernel
theorem dPX_220 : decode method_4_code 220 = .ok (.aload_n 0, 1) := by decide +kernel
theorem dPX_221 : decode method_4_code 221 = .ok (.iconst 3, 1) := by decide +kernel
theorem dPX_222 : decode method_4_code 222 = .ok (.caload, 1) := by decide +kernel
theorem dPX_223 : decode method_4_code 223 = .ok (.castore, 1) := by decide +kernel
theorem dPX_224 : decode method_4_code 224 = .ok (.dup, 1) := by decide +kernel
theorem dPX_225 : decode method_4_code 225 = .ok (.iconst 4, 1) := by decide +kernel
theorem dPX_226 : decode method_4_code 226 = .ok (.aload_n 0, 1) := by decide +kernel
theorem dPX_227 : decode method_4_code 227 = .ok (.iconst 4, 1) := by decide +kernel
theorem dPX_228 : decode method_4_code 228 = .ok (.caload, 1) := by decide +kernel
theorem dPX_229 : decode method_4_code 229 = .ok (.castore, 1) := by decide +kernel
theorem dPX_230 : decode method_4_code 230 = .ok (.dup, 1) := by decide +kernel
theorem dPX_231 : decode method_4_code 231 = .ok (.iconst 5, 1) := by decide +kernel
theorem dPX_232 : decode method_4_code 232 = .ok (.aload_n 0, 1) := by decide +kernel
theorem dPX_233 : decode method_4_code 233 = .ok (.iconst 5, 1) := by decide +kernel
theorem dPX_234 : decode method_4_code 234 = .ok (.caload, 1) := by decide +kernel
theorem dPX_235 : decode method_4_code 235 = .ok (.castore, 1) := by decide +kernel
theorem dPX_236 : decode method_4_code 236 = .ok (.dup, 1) := by decide +kernel
theorem dPX_237 : decode method_4_code 237 = .ok (.bipush 6, 2) := by decide +kernel
theorem dPX_239 : decode method_4_code 239 = .ok (.aload_n 0, 1) := by decide +kernel
theorem dPX_240 : decode method_4_code 240 = .ok (.bipush 6, 2) := by decide +kernel
theorem dPX_242 : decode method_4_code 242 = .ok (.caload, 1) := by decide +kernel
theorem dPX_243 : decode method_4_code 243 = .ok (.castore, 1) := by decide +kernel
theorem dPX_244 : decode method_4_code 244 = .ok (.areturn, 1) := by decide +kernel
theorem dPX_245 : decode method_4_code 245 = .ok (.bipush 8, 2) := by decide +kernel
theorem dPX_247 : decode method_4_code 247 = .ok (.newarray .char, 2) := by decide +kernel
theorem dPX_249 : decode method_4_code 249 = .ok (.dup, 1) := by decide +kernel
theorem dPX_250 : decode method_4_code 250 = .ok (.iconst 0, 1) := by decide +kernel
theorem dPX_251 : decode method_4_code 251 = .ok (.aload_n 0, 1) := by decide +kernel
theorem dPX_252 : decode method_4_code 252 = .ok (.iconst 0, 1) := by decide +kernel
theorem dPX_253 : decode method_4_code 253 = .ok (.caload, 1) := by decide +kernel
theorem dPX_254 : decode method_4_code 254 = .ok (.castore, 1) := by decide +kernel
theorem dPX_255 : decode method_4_code 255 = .ok (.dup, 1) := by decide +kernel
theorem dPX_256 : decode method_4_code 256 = .ok (.iconst 1, 1) := by decide +kernel
theorem dPX_257 : decode method_4_code 257 = .ok (.aload_n 0, 1) := by decide +kernel
theorem dPX_258 : decode method_4_code 258 = .ok (.iconst 1, 1) := by decide +kernel
theorem dPX_259 : decode method_4_code 259 = .ok (.caload, 1) := by decide +kernel
theorem dPX_260 : decode method_4_code 260 = .ok (.castore, 1) := by decide +kernel
theorem dPX_261 : decode method_4_code 261 = .ok (.dup, 1) := by decide +kernel
theorem dPX_262 : decode method_4_code 262 = .ok (.iconst 2, 1) := by decide +kernel
theorem dPX_263 : decode method_4_code 263 = .ok (.aload_n 0, 1) := by decide +kernel
theorem dPX_264 : decode method_4_code 264 = .ok (.iconst 2, 1) := by decide +kernel
theorem dPX_265 : decode method_4_code 265 = .ok (.caload, 1) := by decide +kernel
theorem dPX_266 : decode method_4_code 266 = .ok (.castore, 1) := by decide +kernel
theorem dPX_267 : decode method_4_code 267 = .ok (.dup, 1) := by decide +kernel
theorem dPX_268 : decode method_4_code 268 = .ok (.iconst 3, 1) := by decide +kernel
theorem dPX_269 : decode method_4_code 269 = .ok (.aload_n 0, 1) := by decide +kernel
theorem dPX_270 : decode method_4_code 270 = .ok (.iconst 3, 1) := by decide +kernel
theorem dPX_271 : decode method_4_code 271 = .ok (.caload, 1) := by decide +kernel
theorem dPX_272 : decode method_4_code 272 = .ok (.castore, 1) := by decide +kernel
theorem dPX_273 : decode method_4_code 273 = .ok (.dup, 1) := by decide +kernel
theorem dPX_274 : decode method_4_code 274 = .ok (.iconst 4, 1) := by decide +kernel
theorem dPX_275 : decode method_4_code 275 = .ok (.aload_n 0, 1) := by decide +kernel
theorem dPX_276 : decode method_4_code 276 = .ok (.iconst 4, 1) := by decide +kernel
theorem dPX_277 : decode method_4_code 277 = .ok (.caload, 1) := by decide +kernel
theorem dPX_278 : decode method_4_code 278 = .ok (.castore, 1) := by decide +kernel
theorem dPX_279 : decode method_4_code 279 = .ok (.dup, 1) := by decide +kernel
theorem dPX_280 : decode method_4_code 280 = .ok (.iconst 5, 1) := by decide +kernel
theorem dPX_281 : decode method_4_code 281 = .ok (.aload_n 0, 1) := by decide +kernel
theorem dPX_282 : decode method_4_code 282 = .ok (.iconst 5, 1) := by decide +kernel
theorem dPX_283 : decode method_4_code 283 = .ok (.caload, 1) := by decide +kernel
theorem dPX_284 : decode method_4_code 284 = .ok (.castore, 1) := by decide +kernel
theorem dPX_285 : decode method_4_code 285 = .ok (.dup, 1) := by decide +kernel
theorem dPX_286 : decode method_4_code 286 = .ok (.bipush 6, 2) := by decide +kernel
theorem dPX_288 : decode method_4_code 288 = .ok (.aload_n 0, 1) := by decide +kernel
theorem dPX_289 : decode method_4_code 289 = .ok (.bipush 6, 2) := by decide +kernel
theorem dPX_291 : decode method_4_code 291 = .ok (.caload, 1) := by decide +kernel
theorem dPX_292 : decode method_4_code 292 = .ok (.castore, 1) := by decide +kernel
theorem dPX_293 : decode method_4_code 293 = .ok (.dup, 1) := by decide +kernel
theorem dPX_294 : decode method_4_code 294 = .ok (.bipush 7, 2) := by decide +kernel
theorem dPX_296 : decode method_4_code 296 = .ok (.aload_n 0, 1) := by decide +kernel
theorem dPX_297 : decode method_4_code 297 = .ok (.bipush 7, 2) := by decide +kernel
theorem dPX_299 : decode method_4_code 299 = .ok (.caload, 1) := by decide +kernel
theorem dPX_300 : decode method_4_code 300 = .ok (.castore, 1) := by decide +kernel
theorem dPX_301 : decode method_4_code 301 = .ok (.areturn, 1) := by decide +kernel
theorem dPX_4 : decode method_4_code 4 = .ok (.iconst 0, 1) := by decide +kernel
theorem dPX_5 : decode method_4_code 5 = .ok (.newarray .char, 2) := by decide +kernel
theorem dPX_7 : decode method_4_code 7 = .ok (.areturn, 1) := by decide +kernel
theorem pn_PX : plainFor (⟨"dev/rolegate/model/DecisionOfWordPinLaw", "prefix", "([CI)[C"⟩ : MethodName) = true := by first | exact plainFor_of_name (by first | (simp [plainName, overriddenIn]; done) | decide +kernel) | decide +kernel
set_option maxRecDepth 65536 in
set_option maxHeartbeats 40000000 in
theorem rmPX (l : Launch) (Z : State) (a0 : Array Value) (hw : ∀ d ∈ tables_1, d.before a0 Z = true) (arr : Addr) (ka : ClassId) (n : Int32) (bl : List Int32) (h0 : Heap) (n0 : Nat) (Z0 : n0 ≤ h0.size) (AR : Arv Z h0 arr ka .char (8 : Int32) (bl.map Value.int) (.int (0 : Int32))) (HB : ∀ c ∈ bl, ¬ c < 0 ∧ ¬ (255 : Int32) < c) :
    NM l (⟨"dev/rolegate/model/DecisionOfWordPinLaw", "prefix", "([CI)[C"⟩ : MethodName) method_4_code 2 (some (.array .char)) [] ({ frames := 0, cells := 1, slots := 8, locals := 0 } : Room) Z n0 #[(.ref arr), (.int n)] h0 [] (fun v h => ∃ b kb, v = some (.ref b) ∧ h0.size ≤ b ∧ Arv Z h b kb .char (Int32.ofNat (pxF n bl).length) ((pxF n bl).map Value.int) (.int (0 : Int32))) := by
  refine NM.walk (Ls := #[.val (.ref arr), .val (.int n)]) pn_PX Z0 (fun m => by first | (simp [entryFrame, mkF, argsToLocals, Value.category]; done) | rfl) ?_
  intro p e s m below meth c s₁ hby hml hret hnm W0
  refine W0.iloadN (hb hby dPX_0) rfl (pc' := 1) rfl ?_
  by_cases hc1 : (0 : Int32) < n
  · refine W0.ifYes (hb hby dPX_1) (XT.i0_gt_t hc1) (by decide) (pc' := 8) (by decide) ?_
    refine W0.iloadN (hb hby dPX_8) rfl (pc' := 9) rfl ?_
    refine W0.iconst (1 : Int32) (hb hby dPX_9) rfl (pc' := 10) rfl ?_
    by_cases hc2 : n = (1 : Int32)
    · refine W0.icmpNo (hb hby dPX_10) (XT.ii_ne_f hc2) (pc' := 13) rfl ?_
      refine W0.iconst (1 : Int32) (hb hby dPX_13) rfl (pc' := 14) rfl ?_
      refine W0.newP (hw _ (List.mem_of_getElem? (i := 22) rfl)) (hb hby dPX_14) (pc' := 16) rfl (by decide) (cap := 1) (by decide) (by decide) (by decide) (by decide) ?_
      intro T3 h3 a3 k3 g3 ge3 gn3 W3 E3 V3'
      have V3 : Arv Z h3 a3 k3 .char (1 : Int32) [(.int (0 : Int32))] (.int (0 : Int32)) := V3'
      have z3 := E3.1
      have y3 := Nat.le_of_eq g3.symm
      refine W3.dup (hb hby dPX_16) rfl (pc' := 17) rfl ?_
      refine W3.iconst (0 : Int32) (hb hby dPX_17) rfl (pc' := 18) rfl ?_
      refine W3.aloadN (hb hby dPX_18) rfl rfl (pc' := 19) rfl ?_
      refine W3.iconst (0 : Int32) (hb hby dPX_19) rfl (pc' := 20) rfl ?_
      have F4 := Arv.ext AR E3
      refine W3.caload F4 (.int (bl.getD 0 0)) (hb hby dPX_20) (pc' := 21) rfl (by decide) (getD_int bl 0) ?_
      refine W3.stC V3 (hb hby dPX_21) (pc' := 22) rfl (nar_lat (getD_all (P := fun c => ¬ c < 0 ∧ ¬ (255 : Int32) < c) HB (by decide) _)) 0 rfl (Nat.le_of_ble_eq_true rfl) (by decide) (Or.inr ge3) gn3 ?_
      intro T5 h5 L5 W5 K5 V5'
      have V5 : Arv Z h5 a3 k3 .char (1 : Int32) [(.int (bl.getD 0 0))] (.int (0 : Int32)) := V5'
      have z5 := K5.1
      exact W5.retA hret rfl rfl (hb hby dPX_22) (by decide) (by decide) ⟨a3, k3, rfl, ge3, by rw [pxF, if_pos hc1, if_pos hc2]; exact V5⟩
    · refine W0.icmpYes (hb hby dPX_10) (XT.ii_ne_t hc2) (by decide) (pc' := 23) (by decide) ?_
      refine W0.iloadN (hb hby dPX_23) rfl (pc' := 24) rfl ?_
      refine W0.iconst (2 : Int32) (hb hby dPX_24) rfl (pc' := 25) rfl ?_
      by_cases hc6 : n = (2 : Int32)
      · refine W0.icmpNo (hb hby dPX_25) (XT.ii_ne_f hc6) (pc' := 28) rfl ?_
        refine W0.iconst (2 : Int32) (hb hby dPX_28) rfl (pc' := 29) rfl ?_
        refine W0.newP (hw _ (List.mem_of_getElem? (i := 22) rfl)) (hb hby dPX_29) (pc' := 31) rfl (by decide) (cap := 2) (by decide) (by decide) (by decide) (by decide) ?_
        intro T7 h7 a7 k7 g7 ge7 gn7 W7 E7 V7'
        have V7 : Arv Z h7 a7 k7 .char (2 : Int32) [(.int (0 : Int32)), (.int (0 : Int32))] (.int (0 : Int32)) := V7'
        have z7 := E7.1
        have y7 := Nat.le_of_eq g7.symm
        refine W7.dup (hb hby dPX_31) rfl (pc' := 32) rfl ?_
        refine W7.iconst (0 : Int32) (hb hby dPX_32) rfl (pc' := 33) rfl ?_
        refine W7.aloadN (hb hby dPX_33) rfl rfl (pc' := 34) rfl ?_
        refine W7.iconst (0 : Int32) (hb hby dPX_34) rfl (pc' := 35) rfl ?_
        have F8 := Arv.ext AR E7
        refine W7.caload F8 (.int (bl.getD 0 0)) (hb hby dPX_35) (pc' := 36) rfl (by decide) (getD_int bl 0) ?_
        refine W7.stC V7 (hb hby dPX_36) (pc' := 37) rfl (nar_lat (getD_all (P := fun c => ¬ c < 0 ∧ ¬ (255 : Int32) < c) HB (by decide) _)) 0 rfl (Nat.le_of_ble_eq_true rfl) (by decide) (Or.inr ge7) gn7 ?_
        intro T9 h9 L9 W9 K9 V9'
        have V9 : Arv Z h9 a7 k7 .char (2 : Int32) [(.int (bl.getD 0 0)), (.int (0 : Int32))] (.int (0 : Int32)) := V9'
        have z9 := K9.1
        refine W9.dup (hb hby dPX_37) rfl (pc' := 38) rfl ?_
        refine W9.iconst (1 : Int32) (hb hby dPX_38) rfl (pc' := 39) rfl ?_
        refine W9.aloadN (hb hby dPX_39) rfl rfl (pc' := 40) rfl ?_
        refine W9.iconst (1 : Int32) (hb hby dPX_40) rfl (pc' := 41) rfl ?_
        have X0_2_10 : Ext h0 h9 := Keep.toExt (((Keep.refl h0 []).ext E7).trans K9 (allS (Or.inr (by have := y7; omega)) all0))
        have zX0_2_10 := X0_2_10.1
        have F11 := Arv.ext AR X0_2_10
        refine W9.caload F11 (.int (bl.getD 1 0)) (hb hby dPX_41) (pc' := 42) rfl (by decide) (getD_int bl 1) ?_
        refine W9.stC V9 (hb hby dPX_42) (pc' := 43) rfl (nar_lat (getD_all (P := fun c => ¬ c < 0 ∧ ¬ (255 : Int32) < c) HB (by decide) _)) 1 rfl (Nat.le_of_ble_eq_true rfl) (by decide) (Or.inr ge7) gn7 ?_
        intro T12 h12 L12 W12 K12 V12'
        have V12 : Arv Z h12 a7 k7 .char (2 : Int32) [(.int (bl.getD 0 0)), (.int (bl.getD 1 0))] (.int (0 : Int32)) := V12'
        have z12 := K12.1
        exact W12.retA hret rfl rfl (hb hby dPX_43) (by decide) (by decide) ⟨a7, k7, rfl, ge7, by rw [pxF, if_pos hc1, if_neg hc2, if_pos hc6]; exact V12⟩
      · refine W0.icmpYes (hb hby dPX_25) (XT.ii_ne_t hc6) (by decide) (pc' := 44) (by decide) ?_
        refine W0.iloadN (hb hby dPX_44) rfl (pc' := 45) rfl ?_
        refine W0.iconst (3 : Int32) (hb hby dPX_45) rfl (pc' := 46) rfl ?_
        by_cases hc13 : n = (3 : Int32)
        · refine W0.icmpNo (hb hby dPX_46) (XT.ii_ne_f hc13) (pc' := 49) rfl ?_
          refine W0.iconst (3 : Int32) (hb hby dPX_49) rfl (pc' := 50) rfl ?_
          refine W0.newP (hw _ (List.mem_of_getElem? (i := 22) rfl)) (hb hby dPX_50) (pc' := 52) rfl (by decide) (cap := 3) (by decide) (by decide) (by decide) (by decide) ?_
          intro T14 h14 a14 k14 g14 ge14 gn14 W14 E14 V14'
          have V14 : Arv Z h14 a14 k14 .char (3 : Int32) [(.int (0 : Int32)), (.int (0 : Int32)), (.int (0 : Int32))] (.int (0 : Int32)) := V14'
          have z14 := E14.1
          have y14 := Nat.le_of_eq g14.symm
          refine W14.dup (hb hby dPX_52) rfl (pc' := 53) rfl ?_
          refine W14.iconst (0 : Int32) (hb hby dPX_53) rfl (pc' := 54) rfl ?_
          refine W14.aloadN (hb hby dPX_54) rfl rfl (pc' := 55) rfl ?_
          refine W14.iconst (0 : Int32) (hb hby dPX_55) rfl (pc' := 56) rfl ?_
          have F15 := Arv.ext AR E14
          refine W14.caload F15 (.int (bl.getD 0 0)) (hb hby dPX_56) (pc' := 57) rfl (by decide) (getD_int bl 0) ?_
          refine W14.stC V14 (hb hby dPX_57) (pc' := 58) rfl (nar_lat (getD_all (P := fun c => ¬ c < 0 ∧ ¬ (255 : Int32) < c) HB (by decide) _)) 0 rfl (Nat.le_of_ble_eq_true rfl) (by decide) (Or.inr ge14) gn14 ?_
          intro T16 h16 L16 W16 K16 V16'
          have V16 : Arv Z h16 a14 k14 .char (3 : Int32) [(.int (bl.getD 0 0)), (.int (0 : Int32)), (.int (0 : Int32))] (.int (0 : Int32)) := V16'
          have z16 := K16.1
          refine W16.dup (hb hby dPX_58) rfl (pc' := 59) rfl ?_
          refine W16.iconst (1 : Int32) (hb hby dPX_59) rfl (pc' := 60) rfl ?_
          refine W16.aloadN (hb hby dPX_60) rfl rfl (pc' := 61) rfl ?_
          refine W16.iconst (1 : Int32) (hb hby dPX_61) rfl (pc' := 62) rfl ?_
          have X0_2_17 : Ext h0 h16 := Keep.toExt (((Keep.refl h0 []).ext E14).trans K16 (allS (Or.inr (by have := y14; omega)) all0))
          have zX0_2_17 := X0_2_17.1
          have F18 := Arv.ext AR X0_2_17
          refine W16.caload F18 (.int (bl.getD 1 0)) (hb hby dPX_62) (pc' := 63) rfl (by decide) (getD_int bl 1) ?_
          refine W16.stC V16 (hb hby dPX_63) (pc' := 64) rfl (nar_lat (getD_all (P := fun c => ¬ c < 0 ∧ ¬ (255 : Int32) < c) HB (by decide) _)) 1 rfl (Nat.le_of_ble_eq_true rfl) (by decide) (Or.inr ge14) gn14 ?_
          intro T19 h19 L19 W19 K19 V19'
          have V19 : Arv Z h19 a14 k14 .char (3 : Int32) [(.int (bl.getD 0 0)), (.int (bl.getD 1 0)), (.int (0 : Int32))] (.int (0 : Int32)) := V19'
          have z19 := K19.1
          refine W19.dup (hb hby dPX_64) rfl (pc' := 65) rfl ?_
          refine W19.iconst (2 : Int32) (hb hby dPX_65) rfl (pc' := 66) rfl ?_
          refine W19.aloadN (hb hby dPX_66) rfl rfl (pc' := 67) rfl ?_
          refine W19.iconst (2 : Int32) (hb hby dPX_67) rfl (pc' := 68) rfl ?_
          have X0_3_20 : Ext h0 h19 := Keep.toExt ((((Keep.refl h0 []).ext E14).trans K16 (allS (Or.inr (by have := y14; omega)) all0)).trans K19 (allS (Or.inr (by have := y14; omega)) all0))
          have zX0_3_20 := X0_3_20.1
          have F21 := Arv.ext AR X0_3_20
          refine W19.caload F21 (.int (bl.getD 2 0)) (hb hby dPX_68) (pc' := 69) rfl (by decide) (getD_int bl 2) ?_
          refine W19.stC V19 (hb hby dPX_69) (pc' := 70) rfl (nar_lat (getD_all (P := fun c => ¬ c < 0 ∧ ¬ (255 : Int32) < c) HB (by decide) _)) 2 rfl (Nat.le_of_ble_eq_true rfl) (by decide) (Or.inr ge14) gn14 ?_
          intro T22 h22 L22 W22 K22 V22'
          have V22 : Arv Z h22 a14 k14 .char (3 : Int32) [(.int (bl.getD 0 0)), (.int (bl.getD 1 0)), (.int (bl.getD 2 0))] (.int (0 : Int32)) := V22'
          have z22 := K22.1
          exact W22.retA hret rfl rfl (hb hby dPX_70) (by decide) (by decide) ⟨a14, k14, rfl, ge14, by rw [pxF, if_pos hc1, if_neg hc2, if_neg hc6, if_pos hc13]; exact V22⟩
        · refine W0.icmpYes (hb hby dPX_46) (XT.ii_ne_t hc13) (by decide) (pc' := 71) (by decide) ?_
          refine W0.iloadN (hb hby dPX_71) rfl (pc' := 72) rfl ?_
          refine W0.iconst (4 : Int32) (hb hby dPX_72) rfl (pc' := 73) rfl ?_
          by_cases hc23 : n = (4 : Int32)
          · refine W0.icmpNo (hb hby dPX_73) (XT.ii_ne_f hc23) (pc' := 76) rfl ?_
            refine W0.iconst (4 : Int32) (hb hby dPX_76) rfl (pc' := 77) rfl ?_
            refine W0.newP (hw _ (List.mem_of_getElem? (i := 22) rfl)) (hb hby dPX_77) (pc' := 79) rfl (by decide) (cap := 4) (by decide) (by decide) (by decide) (by decide) ?_
            intro T24 h24 a24 k24 g24 ge24 gn24 W24 E24 V24'
            have V24 : Arv Z h24 a24 k24 .char (4 : Int32) [(.int (0 : Int32)), (.int (0 : Int32)), (.int (0 : Int32)), (.int (0 : Int32))] (.int (0 : Int32)) := V24'
            have z24 := E24.1
            have y24 := Nat.le_of_eq g24.symm
            refine W24.dup (hb hby dPX_79) rfl (pc' := 80) rfl ?_
            refine W24.iconst (0 : Int32) (hb hby dPX_80) rfl (pc' := 81) rfl ?_
            refine W24.aloadN (hb hby dPX_81) rfl rfl (pc' := 82) rfl ?_
            refine W24.iconst (0 : Int32) (hb hby dPX_82) rfl (pc' := 83) rfl ?_
            have F25 := Arv.ext AR E24
            refine W24.caload F25 (.int (bl.getD 0 0)) (hb hby dPX_83) (pc' := 84) rfl (by decide) (getD_int bl 0) ?_
            refine W24.stC V24 (hb hby dPX_84) (pc' := 85) rfl (nar_lat (getD_all (P := fun c => ¬ c < 0 ∧ ¬ (255 : Int32) < c) HB (by decide) _)) 0 rfl (Nat.le_of_ble_eq_true rfl) (by decide) (Or.inr ge24) gn24 ?_
            intro T26 h26 L26 W26 K26 V26'
            have V26 : Arv Z h26 a24 k24 .char (4 : Int32) [(.int (bl.getD 0 0)), (.int (0 : Int32)), (.int (0 : Int32)), (.int (0 : Int32))] (.int (0 : Int32)) := V26'
            have z26 := K26.1
            refine W26.dup (hb hby dPX_85) rfl (pc' := 86) rfl ?_
            refine W26.iconst (1 : Int32) (hb hby dPX_86) rfl (pc' := 87) rfl ?_
            refine W26.aloadN (hb hby dPX_87) rfl rfl (pc' := 88) rfl ?_
            refine W26.iconst (1 : Int32) (hb hby dPX_88) rfl (pc' := 89) rfl ?_
            have X0_2_27 : Ext h0 h26 := Keep.toExt (((Keep.refl h0 []).ext E24).trans K26 (allS (Or.inr (by have := y24; omega)) all0))
            have zX0_2_27 := X0_2_27.1
            have F28 := Arv.ext AR X0_2_27
            refine W26.caload F28 (.int (bl.getD 1 0)) (hb hby dPX_89) (pc' := 90) rfl (by decide) (getD_int bl 1) ?_
            refine W26.stC V26 (hb hby dPX_90) (pc' := 91) rfl (nar_lat (getD_all (P := fun c => ¬ c < 0 ∧ ¬ (255 : Int32) < c) HB (by decide) _)) 1 rfl (Nat.le_of_ble_eq_true rfl) (by decide) (Or.inr ge24) gn24 ?_
            intro T29 h29 L29 W29 K29 V29'
            have V29 : Arv Z h29 a24 k24 .char (4 : Int32) [(.int (bl.getD 0 0)), (.int (bl.getD 1 0)), (.int (0 : Int32)), (.int (0 : Int32))] (.int (0 : Int32)) := V29'
            have z29 := K29.1
            refine W29.dup (hb hby dPX_91) rfl (pc' := 92) rfl ?_
            refine W29.iconst (2 : Int32) (hb hby dPX_92) rfl (pc' := 93) rfl ?_
            refine W29.aloadN (hb hby dPX_93) rfl rfl (pc' := 94) rfl ?_
            refine W29.iconst (2 : Int32) (hb hby dPX_94) rfl (pc' := 95) rfl ?_
            have X0_3_30 : Ext h0 h29 := Keep.toExt ((((Keep.refl h0 []).ext E24).trans K26 (allS (Or.inr (by have := y24; omega)) all0)).trans K29 (allS (Or.inr (by have := y24; omega)) all0))
            have zX0_3_30 := X0_3_30.1
            have F31 := Arv.ext AR X0_3_30
            refine W29.caload F31 (.int (bl.getD 2 0)) (hb hby dPX_95) (pc' := 96) rfl (by decide) (getD_int bl 2) ?_
            refine W29.stC V29 (hb hby dPX_96) (pc' := 97) rfl (nar_lat (getD_all (P := fun c => ¬ c < 0 ∧ ¬ (255 : Int32) < c) HB (by decide) _)) 2 rfl (Nat.le_of_ble_eq_true rfl) (by decide) (Or.inr ge24) gn24 ?_
            intro T32 h32 L32 W32 K32 V32'
            have V32 : Arv Z h32 a24 k24 .char (4 : Int32) [(.int (bl.getD 0 0)), (.int (bl.getD 1 0)), (.int (bl.getD 2 0)), (.int (0 : Int32))] (.int (0 : Int32)) := V32'
            have z32 := K32.1
            refine W32.dup (hb hby dPX_97) rfl (pc' := 98) rfl ?_
            refine W32.iconst (3 : Int32) (hb hby dPX_98) rfl (pc' := 99) rfl ?_
            refine W32.aloadN (hb hby dPX_99) rfl rfl (pc' := 100) rfl ?_
            refine W32.iconst (3 : Int32) (hb hby dPX_100) rfl (pc' := 101) rfl ?_
            have X0_4_33 : Ext h0 h32 := Keep.toExt (((((Keep.refl h0 []).ext E24).trans K26 (allS (Or.inr (by have := y24; omega)) all0)).trans K29 (allS (Or.inr (by have := y24; omega)) all0)).trans K32 (allS (Or.inr (by have := y24; omega)) all0))
            have zX0_4_33 := X0_4_33.1
            have F34 := Arv.ext AR X0_4_33
            refine W32.caload F34 (.int (bl.getD 3 0)) (hb hby dPX_101) (pc' := 102) rfl (by decide) (getD_int bl 3) ?_
            refine W32.stC V32 (hb hby dPX_102) (pc' := 103) rfl (nar_lat (getD_all (P := fun c => ¬ c < 0 ∧ ¬ (255 : Int32) < c) HB (by decide) _)) 3 rfl (Nat.le_of_ble_eq_true rfl) (by decide) (Or.inr ge24) gn24 ?_
            intro T35 h35 L35 W35 K35 V35'
            have V35 : Arv Z h35 a24 k24 .char (4 : Int32) [(.int (bl.getD 0 0)), (.int (bl.getD 1 0)), (.int (bl.getD 2 0)), (.int (bl.getD 3 0))] (.int (0 : Int32)) := V35'
            have z35 := K35.1
            exact W35.retA hret rfl rfl (hb hby dPX_103) (by decide) (by decide) ⟨a24, k24, rfl, ge24, by rw [pxF, if_pos hc1, if_neg hc2, if_neg hc6, if_neg hc13, if_pos hc23]; exact V35⟩
          · refine W0.icmpYes (hb hby dPX_73) (XT.ii_ne_t hc23) (by decide) (pc' := 104) (by decide) ?_
            refine W0.iloadN (hb hby dPX_104) rfl (pc' := 105) rfl ?_
            refine W0.iconst (5 : Int32) (hb hby dPX_105) rfl (pc' := 106) rfl ?_
            by_cases hc36 : n = (5 : Int32)
            · refine W0.icmpNo (hb hby dPX_106) (XT.ii_ne_f hc36) (pc' := 109) rfl ?_
              refine W0.iconst (5 : Int32) (hb hby dPX_109) rfl (pc' := 110) rfl ?_
              refine W0.newP (hw _ (List.mem_of_getElem? (i := 22) rfl)) (hb hby dPX_110) (pc' := 112) rfl (by decide) (cap := 5) (by decide) (by decide) (by decide) (by decide) ?_
              intro T37 h37 a37 k37 g37 ge37 gn37 W37 E37 V37'
              have V37 : Arv Z h37 a37 k37 .char (5 : Int32) [(.int (0 : Int32)), (.int (0 : Int32)), (.int (0 : Int32)), (.int (0 : Int32)), (.int (0 : Int32))] (.int (0 : Int32)) := V37'
              have z37 := E37.1
              have y37 := Nat.le_of_eq g37.symm
              refine W37.dup (hb hby dPX_112) rfl (pc' := 113) rfl ?_
              refine W37.iconst (0 : Int32) (hb hby dPX_113) rfl (pc' := 114) rfl ?_
              refine W37.aloadN (hb hby dPX_114) rfl rfl (pc' := 115) rfl ?_
              refine W37.iconst (0 : Int32) (hb hby dPX_115) rfl (pc' := 116) rfl ?_
              have F38 := Arv.ext AR E37
              refine W37.caload F38 (.int (bl.getD 0 0)) (hb hby dPX_116) (pc' := 117) rfl (by decide) (getD_int bl 0) ?_
              refine W37.stC V37 (hb hby dPX_117) (pc' := 118) rfl (nar_lat (getD_all (P := fun c => ¬ c < 0 ∧ ¬ (255 : Int32) < c) HB (by decide) _)) 0 rfl (Nat.le_of_ble_eq_true rfl) (by decide) (Or.inr ge37) gn37 ?_
              intro T39 h39 L39 W39 K39 V39'
              have V39 : Arv Z h39 a37 k37 .char (5 : Int32) [(.int (bl.getD 0 0)), (.int (0 : Int32)), (.int (0 : Int32)), (.int (0 : Int32)), (.int (0 : Int32))] (.int (0 : Int32)) := V39'
              have z39 := K39.1
              refine W39.dup (hb hby dPX_118) rfl (pc' := 119) rfl ?_
              refine W39.iconst (1 : Int32) (hb hby dPX_119) rfl (pc' := 120) rfl ?_
              refine W39.aloadN (hb hby dPX_120) rfl rfl (pc' := 121) rfl ?_
              refine W39.iconst (1 : Int32) (hb hby dPX_121) rfl (pc' := 122) rfl ?_
              have X0_2_40 : Ext h0 h39 := Keep.toExt (((Keep.refl h0 []).ext E37).trans K39 (allS (Or.inr (by have := y37; omega)) all0))
              have zX0_2_40 := X0_2_40.1
              have F41 := Arv.ext AR X0_2_40
              refine W39.caload F41 (.int (bl.getD 1 0)) (hb hby dPX_122) (pc' := 123) rfl (by decide) (getD_int bl 1) ?_
              refine W39.stC V39 (hb hby dPX_123) (pc' := 124) rfl (nar_lat (getD_all (P := fun c => ¬ c < 0 ∧ ¬ (255 : Int32) < c) HB (by decide) _)) 1 rfl (Nat.le_of_ble_eq_true rfl) (by decide) (Or.inr ge37) gn37 ?_
              intro T42 h42 L42 W42 K42 V42'
              have V42 : Arv Z h42 a37 k37 .char (5 : Int32) [(.int (bl.getD 0 0)), (.int (bl.getD 1 0)), (.int (0 : Int32)), (.int (0 : Int32)), (.int (0 : Int32))] (.int (0 : Int32)) := V42'
              have z42 := K42.1
              refine W42.dup (hb hby dPX_124) rfl (pc' := 125) rfl ?_
              refine W42.iconst (2 : Int32) (hb hby dPX_125) rfl (pc' := 126) rfl ?_
              refine W42.aloadN (hb hby dPX_126) rfl rfl (pc' := 127) rfl ?_
              refine W42.iconst (2 : Int32) (hb hby dPX_127) rfl (pc' := 128) rfl ?_
              have X0_3_43 : Ext h0 h42 := Keep.toExt ((((Keep.refl h0 []).ext E37).trans K39 (allS (Or.inr (by have := y37; omega)) all0)).trans K42 (allS (Or.inr (by have := y37; omega)) all0))
              have zX0_3_43 := X0_3_43.1
              have F44 := Arv.ext AR X0_3_43
              refine W42.caload F44 (.int (bl.getD 2 0)) (hb hby dPX_128) (pc' := 129) rfl (by decide) (getD_int bl 2) ?_
              refine W42.stC V42 (hb hby dPX_129) (pc' := 130) rfl (nar_lat (getD_all (P := fun c => ¬ c < 0 ∧ ¬ (255 : Int32) < c) HB (by decide) _)) 2 rfl (Nat.le_of_ble_eq_true rfl) (by decide) (Or.inr ge37) gn37 ?_
              intro T45 h45 L45 W45 K45 V45'
              have V45 : Arv Z h45 a37 k37 .char (5 : Int32) [(.int (bl.getD 0 0)), (.int (bl.getD 1 0)), (.int (bl.getD 2 0)), (.int (0 : Int32)), (.int (0 : Int32))] (.int (0 : Int32)) := V45'
              have z45 := K45.1
              refine W45.dup (hb hby dPX_130) rfl (pc' := 131) rfl ?_
              refine W45.iconst (3 : Int32) (hb hby dPX_131) rfl (pc' := 132) rfl ?_
              refine W45.aloadN (hb hby dPX_132) rfl rfl (pc' := 133) rfl ?_
              refine W45.iconst (3 : Int32) (hb hby dPX_133) rfl (pc' := 134) rfl ?_
              have X0_4_46 : Ext h0 h45 := Keep.toExt (((((Keep.refl h0 []).ext E37).trans K39 (allS (Or.inr (by have := y37; omega)) all0)).trans K42 (allS (Or.inr (by have := y37; omega)) all0)).trans K45 (allS (Or.inr (by have := y37; omega)) all0))
              have zX0_4_46 := X0_4_46.1
              have F47 := Arv.ext AR X0_4_46
              refine W45.caload F47 (.int (bl.getD 3 0)) (hb hby dPX_134) (pc' := 135) rfl (by decide) (getD_int bl 3) ?_
              refine W45.stC V45 (hb hby dPX_135) (pc' := 136) rfl (nar_lat (getD_all (P := fun c => ¬ c < 0 ∧ ¬ (255 : Int32) < c) HB (by decide) _)) 3 rfl (Nat.le_of_ble_eq_true rfl) (by decide) (Or.inr ge37) gn37 ?_
              intro T48 h48 L48 W48 K48 V48'
              have V48 : Arv Z h48 a37 k37 .char (5 : Int32) [(.int (bl.getD 0 0)), (.int (bl.getD 1 0)), (.int (bl.getD 2 0)), (.int (bl.getD 3 0)), (.int (0 : Int32))] (.int (0 : Int32)) := V48'
              have z48 := K48.1
              refine W48.dup (hb hby dPX_136) rfl (pc' := 137) rfl ?_
              refine W48.iconst (4 : Int32) (hb hby dPX_137) rfl (pc' := 138) rfl ?_
              refine W48.aloadN (hb hby dPX_138) rfl rfl (pc' := 139) rfl ?_
              refine W48.iconst (4 : Int32) (hb hby dPX_139) rfl (pc' := 140) rfl ?_
              have X0_5_49 : Ext h0 h48 := Keep.toExt ((((((Keep.refl h0 []).ext E37).trans K39 (allS (Or.inr (by have := y37; omega)) all0)).trans K42 (allS (Or.inr (by have := y37; omega)) all0)).trans K45 (allS (Or.inr (by have := y37; omega)) all0)).trans K48 (allS (Or.inr (by have := y37; omega)) all0))
              have zX0_5_49 := X0_5_49.1
              have F50 := Arv.ext AR X0_5_49
              refine W48.caload F50 (.int (bl.getD 4 0)) (hb hby dPX_140) (pc' := 141) rfl (by decide) (getD_int bl 4) ?_
              refine W48.stC V48 (hb hby dPX_141) (pc' := 142) rfl (nar_lat (getD_all (P := fun c => ¬ c < 0 ∧ ¬ (255 : Int32) < c) HB (by decide) _)) 4 rfl (Nat.le_of_ble_eq_true rfl) (by decide) (Or.inr ge37) gn37 ?_
              intro T51 h51 L51 W51 K51 V51'
              have V51 : Arv Z h51 a37 k37 .char (5 : Int32) [(.int (bl.getD 0 0)), (.int (bl.getD 1 0)), (.int (bl.getD 2 0)), (.int (bl.getD 3 0)), (.int (bl.getD 4 0))] (.int (0 : Int32)) := V51'
              have z51 := K51.1
              exact W51.retA hret rfl rfl (hb hby dPX_142) (by decide) (by decide) ⟨a37, k37, rfl, ge37, by rw [pxF, if_pos hc1, if_neg hc2, if_neg hc6, if_neg hc13, if_neg hc23, if_pos hc36]; exact V51⟩
            · refine W0.icmpYes (hb hby dPX_106) (XT.ii_ne_t hc36) (by decide) (pc' := 143) (by decide) ?_
              refine W0.iloadN (hb hby dPX_143) rfl (pc' := 144) rfl ?_
              refine W0.bipush (6 : Int32) (hb hby dPX_144) rfl (pc' := 146) rfl ?_
              by_cases hc52 : n = (6 : Int32)
              · refine W0.icmpNo (hb hby dPX_146) (XT.ii_ne_f hc52) (pc' := 149) rfl ?_
                refine W0.bipush (6 : Int32) (hb hby dPX_149) rfl (pc' := 151) rfl ?_
                refine W0.newP (hw _ (List.mem_of_getElem? (i := 22) rfl)) (hb hby dPX_151) (pc' := 153) rfl (by decide) (cap := 6) (by decide) (by decide) (by decide) (by decide) ?_
                intro T53 h53 a53 k53 g53 ge53 gn53 W53 E53 V53'
                have V53 : Arv Z h53 a53 k53 .char (6 : Int32) [(.int (0 : Int32)), (.int (0 : Int32)), (.int (0 : Int32)), (.int (0 : Int32)), (.int (0 : Int32)), (.int (0 : Int32))] (.int (0 : Int32)) := V53'
                have z53 := E53.1
                have y53 := Nat.le_of_eq g53.symm
                refine W53.dup (hb hby dPX_153) rfl (pc' := 154) rfl ?_
                refine W53.iconst (0 : Int32) (hb hby dPX_154) rfl (pc' := 155) rfl ?_
                refine W53.aloadN (hb hby dPX_155) rfl rfl (pc' := 156) rfl ?_
                refine W53.iconst (0 : Int32) (hb hby dPX_156) rfl (pc' := 157) rfl ?_
                have F54 := Arv.ext AR E53
                refine W53.caload F54 (.int (bl.getD 0 0)) (hb hby dPX_157) (pc' := 158) rfl (by decide) (getD_int bl 0) ?_
                refine W53.stC V53 (hb hby dPX_158) (pc' := 159) rfl (nar_lat (getD_all (P := fun c => ¬ c < 0 ∧ ¬ (255 : Int32) < c) HB (by decide) _)) 0 rfl (Nat.le_of_ble_eq_true rfl) (by decide) (Or.inr ge53) gn53 ?_
                intro T55 h55 L55 W55 K55 V55'
                have V55 : Arv Z h55 a53 k53 .char (6 : Int32) [(.int (bl.getD 0 0)), (.int (0 : Int32)), (.int (0 : Int32)), (.int (0 : Int32)), (.int (0 : Int32)), (.int (0 : Int32))] (.int (0 : Int32)) := V55'
                have z55 := K55.1
                refine W55.dup (hb hby dPX_159) rfl (pc' := 160) rfl ?_
                refine W55.iconst (1 : Int32) (hb hby dPX_160) rfl (pc' := 161) rfl ?_
                refine W55.aloadN (hb hby dPX_161) rfl rfl (pc' := 162) rfl ?_
                refine W55.iconst (1 : Int32) (hb hby dPX_162) rfl (pc' := 163) rfl ?_
                have X0_2_56 : Ext h0 h55 := Keep.toExt (((Keep.refl h0 []).ext E53).trans K55 (allS (Or.inr (by have := y53; omega)) all0))
                have zX0_2_56 := X0_2_56.1
                have F57 := Arv.ext AR X0_2_56
                refine W55.caload F57 (.int (bl.getD 1 0)) (hb hby dPX_163) (pc' := 164) rfl (by decide) (getD_int bl 1) ?_
                refine W55.stC V55 (hb hby dPX_164) (pc' := 165) rfl (nar_lat (getD_all (P := fun c => ¬ c < 0 ∧ ¬ (255 : Int32) < c) HB (by decide) _)) 1 rfl (Nat.le_of_ble_eq_true rfl) (by decide) (Or.inr ge53) gn53 ?_
                intro T58 h58 L58 W58 K58 V58'
                have V58 : Arv Z h58 a53 k53 .char (6 : Int32) [(.int (bl.getD 0 0)), (.int (bl.getD 1 0)), (.int (0 : Int32)), (.int (0 : Int32)), (.int (0 : Int32)), (.int (0 : Int32))] (.int (0 : Int32)) := V58'
                have z58 := K58.1
                refine W58.dup (hb hby dPX_165) rfl (pc' := 166) rfl ?_
                refine W58.iconst (2 : Int32) (hb hby dPX_166) rfl (pc' := 167) rfl ?_
                refine W58.aloadN (hb hby dPX_167) rfl rfl (pc' := 168) rfl ?_
                refine W58.iconst (2 : Int32) (hb hby dPX_168) rfl (pc' := 169) rfl ?_
                have X0_3_59 : Ext h0 h58 := Keep.toExt ((((Keep.refl h0 []).ext E53).trans K55 (allS (Or.inr (by have := y53; omega)) all0)).trans K58 (allS (Or.inr (by have := y53; omega)) all0))
                have zX0_3_59 := X0_3_59.1
                have F60 := Arv.ext AR X0_3_59
                refine W58.caload F60 (.int (bl.getD 2 0)) (hb hby dPX_169) (pc' := 170) rfl (by decide) (getD_int bl 2) ?_
                refine W58.stC V58 (hb hby dPX_170) (pc' := 171) rfl (nar_lat (getD_all (P := fun c => ¬ c < 0 ∧ ¬ (255 : Int32) < c) HB (by decide) _)) 2 rfl (Nat.le_of_ble_eq_true rfl) (by decide) (Or.inr ge53) gn53 ?_
                intro T61 h61 L61 W61 K61 V61'
                have V61 : Arv Z h61 a53 k53 .char (6 : Int32) [(.int (bl.getD 0 0)), (.int (bl.getD 1 0)), (.int (bl.getD 2 0)), (.int (0 : Int32)), (.int (0 : Int32)), (.int (0 : Int32))] (.int (0 : Int32)) := V61'
                have z61 := K61.1
                refine W61.dup (hb hby dPX_171) rfl (pc' := 172) rfl ?_
                refine W61.iconst (3 : Int32) (hb hby dPX_172) rfl (pc' := 173) rfl ?_
                refine W61.aloadN (hb hby dPX_173) rfl rfl (pc' := 174) rfl ?_
                refine W61.iconst (3 : Int32) (hb hby dPX_174) rfl (pc' := 175) rfl ?_
                have X0_4_62 : Ext h0 h61 := Keep.toExt (((((Keep.refl h0 []).ext E53).trans K55 (allS (Or.inr (by have := y53; omega)) all0)).trans K58 (allS (Or.inr (by have := y53; omega)) all0)).trans K61 (allS (Or.inr (by have := y53; omega)) all0))
                have zX0_4_62 := X0_4_62.1
                have F63 := Arv.ext AR X0_4_62
                refine W61.caload F63 (.int (bl.getD 3 0)) (hb hby dPX_175) (pc' := 176) rfl (by decide) (getD_int bl 3) ?_
                refine W61.stC V61 (hb hby dPX_176) (pc' := 177) rfl (nar_lat (getD_all (P := fun c => ¬ c < 0 ∧ ¬ (255 : Int32) < c) HB (by decide) _)) 3 rfl (Nat.le_of_ble_eq_true rfl) (by decide) (Or.inr ge53) gn53 ?_
                intro T64 h64 L64 W64 K64 V64'
                have V64 : Arv Z h64 a53 k53 .char (6 : Int32) [(.int (bl.getD 0 0)), (.int (bl.getD 1 0)), (.int (bl.getD 2 0)), (.int (bl.getD 3 0)), (.int (0 : Int32)), (.int (0 : Int32))] (.int (0 : Int32)) := V64'
                have z64 := K64.1
                refine W64.dup (hb hby dPX_177) rfl (pc' := 178) rfl ?_
                refine W64.iconst (4 : Int32) (hb hby dPX_178) rfl (pc' := 179) rfl ?_
                refine W64.aloadN (hb hby dPX_179) rfl rfl (pc' := 180) rfl ?_
                refine W64.iconst (4 : Int32) (hb hby dPX_180) rfl (pc' := 181) rfl ?_
                have X0_5_65 : Ext h0 h64 := Keep.toExt ((((((Keep.refl h0 []).ext E53).trans K55 (allS (Or.inr (by have := y53; omega)) all0)).trans K58 (allS (Or.inr (by have := y53; omega)) all0)).trans K61 (allS (Or.inr (by have := y53; omega)) all0)).trans K64 (allS (Or.inr (by have := y53; omega)) all0))
                have zX0_5_65 := X0_5_65.1
                have F66 := Arv.ext AR X0_5_65
                refine W64.caload F66 (.int (bl.getD 4 0)) (hb hby dPX_181) (pc' := 182) rfl (by decide) (getD_int bl 4) ?_
                refine W64.stC V64 (hb hby dPX_182) (pc' := 183) rfl (nar_lat (getD_all (P := fun c => ¬ c < 0 ∧ ¬ (255 : Int32) < c) HB (by decide) _)) 4 rfl (Nat.le_of_ble_eq_true rfl) (by decide) (Or.inr ge53) gn53 ?_
                intro T67 h67 L67 W67 K67 V67'
                have V67 : Arv Z h67 a53 k53 .char (6 : Int32) [(.int (bl.getD 0 0)), (.int (bl.getD 1 0)), (.int (bl.getD 2 0)), (.int (bl.getD 3 0)), (.int (bl.getD 4 0)), (.int (0 : Int32))] (.int (0 : Int32)) := V67'
                have z67 := K67.1
                refine W67.dup (hb hby dPX_183) rfl (pc' := 184) rfl ?_
                refine W67.iconst (5 : Int32) (hb hby dPX_184) rfl (pc' := 185) rfl ?_
                refine W67.aloadN (hb hby dPX_185) rfl rfl (pc' := 186) rfl ?_
                refine W67.iconst (5 : Int32) (hb hby dPX_186) rfl (pc' := 187) rfl ?_
                have X0_6_68 : Ext h0 h67 := Keep.toExt (((((((Keep.refl h0 []).ext E53).trans K55 (allS (Or.inr (by have := y53; omega)) all0)).trans K58 (allS (Or.inr (by have := y53; omega)) all0)).trans K61 (allS (Or.inr (by have := y53; omega)) all0)).trans K64 (allS (Or.inr (by have := y53; omega)) all0)).trans K67 (allS (Or.inr (by have := y53; omega)) all0))
                have zX0_6_68 := X0_6_68.1
                have F69 := Arv.ext AR X0_6_68
                refine W67.caload F69 (.int (bl.getD 5 0)) (hb hby dPX_187) (pc' := 188) rfl (by decide) (getD_int bl 5) ?_
                refine W67.stC V67 (hb hby dPX_188) (pc' := 189) rfl (nar_lat (getD_all (P := fun c => ¬ c < 0 ∧ ¬ (255 : Int32) < c) HB (by decide) _)) 5 rfl (Nat.le_of_ble_eq_true rfl) (by decide) (Or.inr ge53) gn53 ?_
                intro T70 h70 L70 W70 K70 V70'
                have V70 : Arv Z h70 a53 k53 .char (6 : Int32) [(.int (bl.getD 0 0)), (.int (bl.getD 1 0)), (.int (bl.getD 2 0)), (.int (bl.getD 3 0)), (.int (bl.getD 4 0)), (.int (bl.getD 5 0))] (.int (0 : Int32)) := V70'
                have z70 := K70.1
                exact W70.retA hret rfl rfl (hb hby dPX_189) (by decide) (by decide) ⟨a53, k53, rfl, ge53, by rw [pxF, if_pos hc1, if_neg hc2, if_neg hc6, if_neg hc13, if_neg hc23, if_neg hc36, if_pos hc52]; exact V70⟩
              · refine W0.icmpYes (hb hby dPX_146) (XT.ii_ne_t hc52) (by decide) (pc' := 190) (by decide) ?_
                refine W0.iloadN (hb hby dPX_190) rfl (pc' := 191) rfl ?_
                refine W0.bipush (7 : Int32) (hb hby dPX_191) rfl (pc' := 193) rfl ?_
                by_cases hc71 : n = (7 : Int32)
                · refine W0.icmpNo (hb hby dPX_193) (XT.ii_ne_f hc71) (pc' := 196) rfl ?_
                  refine W0.bipush (7 : Int32) (hb hby dPX_196) rfl (pc' := 198) rfl ?_
                  refine W0.newP (hw _ (List.mem_of_getElem? (i := 22) rfl)) (hb hby dPX_198) (pc' := 200) rfl (by decide) (cap := 7) (by decide) (by decide) (by decide) (by decide) ?_
                  intro T72 h72 a72 k72 g72 ge72 gn72 W72 E72 V72'
                  have V72 : Arv Z h72 a72 k72 .char (7 : Int32) [(.int (0 : Int32)), (.int (0 : Int32)), (.int (0 : Int32)), (.int (0 : Int32)), (.int (0 : Int32)), (.int (0 : Int32)), (.int (0 : Int32))] (.int (0 : Int32)) := V72'
                  have z72 := E72.1
                  have y72 := Nat.le_of_eq g72.symm
                  refine W72.dup (hb hby dPX_200) rfl (pc' := 201) rfl ?_
                  refine W72.iconst (0 : Int32) (hb hby dPX_201) rfl (pc' := 202) rfl ?_
                  refine W72.aloadN (hb hby dPX_202) rfl rfl (pc' := 203) rfl ?_
                  refine W72.iconst (0 : Int32) (hb hby dPX_203) rfl (pc' := 204) rfl ?_
                  have F73 := Arv.ext AR E72
                  refine W72.caload F73 (.int (bl.getD 0 0)) (hb hby dPX_204) (pc' := 205) rfl (by decide) (getD_int bl 0) ?_
                  refine W72.stC V72 (hb hby dPX_205) (pc' := 206) rfl (nar_lat (getD_all (P := fun c => ¬ c < 0 ∧ ¬ (255 : Int32) < c) HB (by decide) _)) 0 rfl (Nat.le_of_ble_eq_true rfl) (by decide) (Or.inr ge72) gn72 ?_
                  intro T74 h74 L74 W74 K74 V74'
                  have V74 : Arv Z h74 a72 k72 .char (7 : Int32) [(.int (bl.getD 0 0)), (.int (0 : Int32)), (.int (0 : Int32)), (.int (0 : Int32)), (.int (0 : Int32)), (.int (0 : Int32)), (.int (0 : Int32))] (.int (0 : Int32)) := V74'
                  have z74 := K74.1
                  refine W74.dup (hb hby dPX_206) rfl (pc' := 207) rfl ?_
                  refine W74.iconst (1 : Int32) (hb hby dPX_207) rfl (pc' := 208) rfl ?_
                  refine W74.aloadN (hb hby dPX_208) rfl rfl (pc' := 209) rfl ?_
                  refine W74.iconst (1 : Int32) (hb hby dPX_209) rfl (pc' := 210) rfl ?_
                  have X0_2_75 : Ext h0 h74 := Keep.toExt (((Keep.refl h0 []).ext E72).trans K74 (allS (Or.inr (by have := y72; omega)) all0))
                  have zX0_2_75 := X0_2_75.1
                  have F76 := Arv.ext AR X0_2_75
                  refine W74.caload F76 (.int (bl.getD 1 0)) (hb hby dPX_210) (pc' := 211) rfl (by decide) (getD_int bl 1) ?_
                  refine W74.stC V74 (hb hby dPX_211) (pc' := 212) rfl (nar_lat (getD_all (P := fun c => ¬ c < 0 ∧ ¬ (255 : Int32) < c) HB (by decide) _)) 1 rfl (Nat.le_of_ble_eq_true rfl) (by decide) (Or.inr ge72) gn72 ?_
                  intro T77 h77 L77 W77 K77 V77'
                  have V77 : Arv Z h77 a72 k72 .char (7 : Int32) [(.int (bl.getD 0 0)), (.int (bl.getD 1 0)), (.int (0 : Int32)), (.int (0 : Int32)), (.int (0 : Int32)), (.int (0 : Int32)), (.int (0 : Int32))] (.int (0 : Int32)) := V77'
                  have z77 := K77.1
                  refine W77.dup (hb hby dPX_212) rfl (pc' := 213) rfl ?_
                  refine W77.iconst (2 : Int32) (hb hby dPX_213) rfl (pc' := 214) rfl ?_
                  refine W77.aloadN (hb hby dPX_214) rfl rfl (pc' := 215) rfl ?_
                  refine W77.iconst (2 : Int32) (hb hby dPX_215) rfl (pc' := 216) rfl ?_
                  have X0_3_78 : Ext h0 h77 := Keep.toExt ((((Keep.refl h0 []).ext E72).trans K74 (allS (Or.inr (by have := y72; omega)) all0)).trans K77 (allS (Or.inr (by have := y72; omega)) all0))
                  have zX0_3_78 := X0_3_78.1
                  have F79 := Arv.ext AR X0_3_78
                  refine W77.caload F79 (.int (bl.getD 2 0)) (hb hby dPX_216) (pc' := 217) rfl (by decide) (getD_int bl 2) ?_
                  refine W77.stC V77 (hb hby dPX_217) (pc' := 218) rfl (nar_lat (getD_all (P := fun c => ¬ c < 0 ∧ ¬ (255 : Int32) < c) HB (by decide) _)) 2 rfl (Nat.le_of_ble_eq_true rfl) (by decide) (Or.inr ge72) gn72 ?_
                  intro T80 h80 L80 W80 K80 V80'
                  have V80 : Arv Z h80 a72 k72 .char (7 : Int32) [(.int (bl.getD 0 0)), (.int (bl.getD 1 0)), (.int (bl.getD 2 0)), (.int (0 : Int32)), (.int (0 : Int32)), (.int (0 : Int32)), (.int (0 : Int32))] (.int (0 : Int32)) := V80'
                  have z80 := K80.1
                  refine W80.dup (hb hby dPX_218) rfl (pc' := 219) rfl ?_
                  refine W80.iconst (3 : Int32) (hb hby dPX_219) rfl (pc' := 220) rfl ?_
                  refine W80.aloadN (hb hby dPX_220) rfl rfl (pc' := 221) rfl ?_
                  refine W80.iconst (3 : Int32) (hb hby dPX_221) rfl (pc' := 222) rfl ?_
                  have X0_4_81 : Ext h0 h80 := Keep.toExt (((((Keep.refl h0 []).ext E72).trans K74 (allS (Or.inr (by have := y72; omega)) all0)).trans K77 (allS (Or.inr (by have := y72; omega)) all0)).trans K80 (allS (Or.inr (by have := y72; omega)) all0))
                  have zX0_4_81 := X0_4_81.1
                  have F82 := Arv.ext AR X0_4_81
                  refine W80.caload F82 (.int (bl.getD 3 0)) (hb hby dPX_222) (pc' := 223) rfl (by decide) (getD_int bl 3) ?_
                  refine W80.stC V80 (hb hby dPX_223) (pc' := 224) rfl (nar_lat (getD_all (P := fun c => ¬ c < 0 ∧ ¬ (255 : Int32) < c) HB (by decide) _)) 3 rfl (Nat.le_of_ble_eq_true rfl) (by decide) (Or.inr ge72) gn72 ?_
                  intro T83 h83 L83 W83 K83 V83'
                  have V83 : Arv Z h83 a72 k72 .char (7 : Int32) [(.int (bl.getD 0 0)), (.int (bl.getD 1 0)), (.int (bl.getD 2 0)), (.int (bl.getD 3 0)), (.int (0 : Int32)), (.int (0 : Int32)), (.int (0 : Int32))] (.int (0 : Int32)) := V83'
                  have z83 := K83.1
                  refine W83.dup (hb hby dPX_224) rfl (pc' := 225) rfl ?_
                  refine W83.iconst (4 : Int32) (hb hby dPX_225) rfl (pc' := 226) rfl ?_
                  refine W83.aloadN (hb hby dPX_226) rfl rfl (pc' := 227) rfl ?_
                  refine W83.iconst (4 : Int32) (hb hby dPX_227) rfl (pc' := 228) rfl ?_
                  have X0_5_84 : Ext h0 h83 := Keep.toExt ((((((Keep.refl h0 []).ext E72).trans K74 (allS (Or.inr (by have := y72; omega)) all0)).trans K77 (allS (Or.inr (by have := y72; omega)) all0)).trans K80 (allS (Or.inr (by have := y72; omega)) all0)).trans K83 (allS (Or.inr (by have := y72; omega)) all0))
                  have zX0_5_84 := X0_5_84.1
                  have F85 := Arv.ext AR X0_5_84
                  refine W83.caload F85 (.int (bl.getD 4 0)) (hb hby dPX_228) (pc' := 229) rfl (by decide) (getD_int bl 4) ?_
                  refine W83.stC V83 (hb hby dPX_229) (pc' := 230) rfl (nar_lat (getD_all (P := fun c => ¬ c < 0 ∧ ¬ (255 : Int32) < c) HB (by decide) _)) 4 rfl (Nat.le_of_ble_eq_true rfl) (by decide) (Or.inr ge72) gn72 ?_
                  intro T86 h86 L86 W86 K86 V86'
                  have V86 : Arv Z h86 a72 k72 .char (7 : Int32) [(.int (bl.getD 0 0)), (.int (bl.getD 1 0)), (.int (bl.getD 2 0)), (.int (bl.getD 3 0)), (.int (bl.getD 4 0)), (.int (0 : Int32)), (.int (0 : Int32))] (.int (0 : Int32)) := V86'
                  have z86 := K86.1
                  refine W86.dup (hb hby dPX_230) rfl (pc' := 231) rfl ?_
                  refine W86.iconst (5 : Int32) (hb hby dPX_231) rfl (pc' := 232) rfl ?_
                  refine W86.aloadN (hb hby dPX_232) rfl rfl (pc' := 233) rfl ?_
                  refine W86.iconst (5 : Int32) (hb hby dPX_233) rfl (pc' := 234) rfl ?_
                  have X0_6_87 : Ext h0 h86 := Keep.toExt (((((((Keep.refl h0 []).ext E72).trans K74 (allS (Or.inr (by have := y72; omega)) all0)).trans K77 (allS (Or.inr (by have := y72; omega)) all0)).trans K80 (allS (Or.inr (by have := y72; omega)) all0)).trans K83 (allS (Or.inr (by have := y72; omega)) all0)).trans K86 (allS (Or.inr (by have := y72; omega)) all0))
                  have zX0_6_87 := X0_6_87.1
                  have F88 := Arv.ext AR X0_6_87
                  refine W86.caload F88 (.int (bl.getD 5 0)) (hb hby dPX_234) (pc' := 235) rfl (by decide) (getD_int bl 5) ?_
                  refine W86.stC V86 (hb hby dPX_235) (pc' := 236) rfl (nar_lat (getD_all (P := fun c => ¬ c < 0 ∧ ¬ (255 : Int32) < c) HB (by decide) _)) 5 rfl (Nat.le_of_ble_eq_true rfl) (by decide) (Or.inr ge72) gn72 ?_
                  intro T89 h89 L89 W89 K89 V89'
                  have V89 : Arv Z h89 a72 k72 .char (7 : Int32) [(.int (bl.getD 0 0)), (.int (bl.getD 1 0)), (.int (bl.getD 2 0)), (.int (bl.getD 3 0)), (.int (bl.getD 4 0)), (.int (bl.getD 5 0)), (.int (0 : Int32))] (.int (0 : Int32)) := V89'
                  have z89 := K89.1
                  refine W89.dup (hb hby dPX_236) rfl (pc' := 237) rfl ?_
                  refine W89.bipush (6 : Int32) (hb hby dPX_237) rfl (pc' := 239) rfl ?_
                  refine W89.aloadN (hb hby dPX_239) rfl rfl (pc' := 240) rfl ?_
                  refine W89.bipush (6 : Int32) (hb hby dPX_240) rfl (pc' := 242) rfl ?_
                  have X0_7_90 : Ext h0 h89 := Keep.toExt ((((((((Keep.refl h0 []).ext E72).trans K74 (allS (Or.inr (by have := y72; omega)) all0)).trans K77 (allS (Or.inr (by have := y72; omega)) all0)).trans K80 (allS (Or.inr (by have := y72; omega)) all0)).trans K83 (allS (Or.inr (by have := y72; omega)) all0)).trans K86 (allS (Or.inr (by have := y72; omega)) all0)).trans K89 (allS (Or.inr (by have := y72; omega)) all0))
                  have zX0_7_90 := X0_7_90.1
                  have F91 := Arv.ext AR X0_7_90
                  refine W89.caload F91 (.int (bl.getD 6 0)) (hb hby dPX_242) (pc' := 243) rfl (by decide) (getD_int bl 6) ?_
                  refine W89.stC V89 (hb hby dPX_243) (pc' := 244) rfl (nar_lat (getD_all (P := fun c => ¬ c < 0 ∧ ¬ (255 : Int32) < c) HB (by decide) _)) 6 rfl (Nat.le_of_ble_eq_true rfl) (by decide) (Or.inr ge72) gn72 ?_
                  intro T92 h92 L92 W92 K92 V92'
                  have V92 : Arv Z h92 a72 k72 .char (7 : Int32) [(.int (bl.getD 0 0)), (.int (bl.getD 1 0)), (.int (bl.getD 2 0)), (.int (bl.getD 3 0)), (.int (bl.getD 4 0)), (.int (bl.getD 5 0)), (.int (bl.getD 6 0))] (.int (0 : Int32)) := V92'
                  have z92 := K92.1
                  exact W92.retA hret rfl rfl (hb hby dPX_244) (by decide) (by decide) ⟨a72, k72, rfl, ge72, by rw [pxF, if_pos hc1, if_neg hc2, if_neg hc6, if_neg hc13, if_neg hc23, if_neg hc36, if_neg hc52, if_pos hc71]; exact V92⟩
                · refine W0.icmpYes (hb hby dPX_193) (XT.ii_ne_t hc71) (by decide) (pc' := 245) (by decide) ?_
                  refine W0.bipush (8 : Int32) (hb hby dPX_245) rfl (pc' := 247) rfl ?_
                  refine W0.newP (hw _ (List.mem_of_getElem? (i := 22) rfl)) (hb hby dPX_247) (pc' := 249) rfl (by decide) (cap := 8) (by decide) (by decide) (by decide) (by decide) ?_
                  intro T93 h93 a93 k93 g93 ge93 gn93 W93 E93 V93'
                  have V93 : Arv Z h93 a93 k93 .char (8 : Int32) [(.int (0 : Int32)), (.int (0 : Int32)), (.int (0 : Int32)), (.int (0 : Int32)), (.int (0 : Int32)), (.int (0 : Int32)), (.int (0 : Int32)), (.int (0 : Int32))] (.int (0 : Int32)) := V93'
                  have z93 := E93.1
                  have y93 := Nat.le_of_eq g93.symm
                  refine W93.dup (hb hby dPX_249) rfl (pc' := 250) rfl ?_
                  refine W93.iconst (0 : Int32) (hb hby dPX_250) rfl (pc' := 251) rfl ?_
                  refine W93.aloadN (hb hby dPX_251) rfl rfl (pc' := 252) rfl ?_
                  refine W93.iconst (0 : Int32) (hb hby dPX_252) rfl (pc' := 253) rfl ?_
                  have F94 := Arv.ext AR E93
                  refine W93.caload F94 (.int (bl.getD 0 0)) (hb hby dPX_253) (pc' := 254) rfl (by decide) (getD_int bl 0) ?_
                  refine W93.stC V93 (hb hby dPX_254) (pc' := 255) rfl (nar_lat (getD_all (P := fun c => ¬ c < 0 ∧ ¬ (255 : Int32) < c) HB (by decide) _)) 0 rfl (Nat.le_of_ble_eq_true rfl) (by decide) (Or.inr ge93) gn93 ?_
                  intro T95 h95 L95 W95 K95 V95'
                  have V95 : Arv Z h95 a93 k93 .char (8 : Int32) [(.int (bl.getD 0 0)), (.int (0 : Int32)), (.int (0 : Int32)), (.int (0 : Int32)), (.int (0 : Int32)), (.int (0 : Int32)), (.int (0 : Int32)), (.int (0 : Int32))] (.int (0 : Int32)) := V95'
                  have z95 := K95.1
                  refine W95.dup (hb hby dPX_255) rfl (pc' := 256) rfl ?_
                  refine W95.iconst (1 : Int32) (hb hby dPX_256) rfl (pc' := 257) rfl ?_
                  refine W95.aloadN (hb hby dPX_257) rfl rfl (pc' := 258) rfl ?_
                  refine W95.iconst (1 : Int32) (hb hby dPX_258) rfl (pc' := 259) rfl ?_
                  have X0_2_96 : Ext h0 h95 := Keep.toExt (((Keep.refl h0 []).ext E93).trans K95 (allS (Or.inr (by have := y93; omega)) all0))
                  have zX0_2_96 := X0_2_96.1
                  have F97 := Arv.ext AR X0_2_96
                  refine W95.caload F97 (.int (bl.getD 1 0)) (hb hby dPX_259) (pc' := 260) rfl (by decide) (getD_int bl 1) ?_
                  refine W95.stC V95 (hb hby dPX_260) (pc' := 261) rfl (nar_lat (getD_all (P := fun c => ¬ c < 0 ∧ ¬ (255 : Int32) < c) HB (by decide) _)) 1 rfl (Nat.le_of_ble_eq_true rfl) (by decide) (Or.inr ge93) gn93 ?_
                  intro T98 h98 L98 W98 K98 V98'
                  have V98 : Arv Z h98 a93 k93 .char (8 : Int32) [(.int (bl.getD 0 0)), (.int (bl.getD 1 0)), (.int (0 : Int32)), (.int (0 : Int32)), (.int (0 : Int32)), (.int (0 : Int32)), (.int (0 : Int32)), (.int (0 : Int32))] (.int (0 : Int32)) := V98'
                  have z98 := K98.1
                  refine W98.dup (hb hby dPX_261) rfl (pc' := 262) rfl ?_
                  refine W98.iconst (2 : Int32) (hb hby dPX_262) rfl (pc' := 263) rfl ?_
                  refine W98.aloadN (hb hby dPX_263) rfl rfl (pc' := 264) rfl ?_
                  refine W98.iconst (2 : Int32) (hb hby dPX_264) rfl (pc' := 265) rfl ?_
                  have X0_3_99 : Ext h0 h98 := Keep.toExt ((((Keep.refl h0 []).ext E93).trans K95 (allS (Or.inr (by have := y93; omega)) all0)).trans K98 (allS (Or.inr (by have := y93; omega)) all0))
                  have zX0_3_99 := X0_3_99.1
                  have F100 := Arv.ext AR X0_3_99
                  refine W98.caload F100 (.int (bl.getD 2 0)) (hb hby dPX_265) (pc' := 266) rfl (by decide) (getD_int bl 2) ?_
                  refine W98.stC V98 (hb hby dPX_266) (pc' := 267) rfl (nar_lat (getD_all (P := fun c => ¬ c < 0 ∧ ¬ (255 : Int32) < c) HB (by decide) _)) 2 rfl (Nat.le_of_ble_eq_true rfl) (by decide) (Or.inr ge93) gn93 ?_
                  intro T101 h101 L101 W101 K101 V101'
                  have V101 : Arv Z h101 a93 k93 .char (8 : Int32) [(.int (bl.getD 0 0)), (.int (bl.getD 1 0)), (.int (bl.getD 2 0)), (.int (0 : Int32)), (.int (0 : Int32)), (.int (0 : Int32)), (.int (0 : Int32)), (.int (0 : Int32))] (.int (0 : Int32)) := V101'
                  have z101 := K101.1
                  refine W101.dup (hb hby dPX_267) rfl (pc' := 268) rfl ?_
                  refine W101.iconst (3 : Int32) (hb hby dPX_268) rfl (pc' := 269) rfl ?_
                  refine W101.aloadN (hb hby dPX_269) rfl rfl (pc' := 270) rfl ?_
                  refine W101.iconst (3 : Int32) (hb hby dPX_270) rfl (pc' := 271) rfl ?_
                  have X0_4_102 : Ext h0 h101 := Keep.toExt (((((Keep.refl h0 []).ext E93).trans K95 (allS (Or.inr (by have := y93; omega)) all0)).trans K98 (allS (Or.inr (by have := y93; omega)) all0)).trans K101 (allS (Or.inr (by have := y93; omega)) all0))
                  have zX0_4_102 := X0_4_102.1
                  have F103 := Arv.ext AR X0_4_102
                  refine W101.caload F103 (.int (bl.getD 3 0)) (hb hby dPX_271) (pc' := 272) rfl (by decide) (getD_int bl 3) ?_
                  refine W101.stC V101 (hb hby dPX_272) (pc' := 273) rfl (nar_lat (getD_all (P := fun c => ¬ c < 0 ∧ ¬ (255 : Int32) < c) HB (by decide) _)) 3 rfl (Nat.le_of_ble_eq_true rfl) (by decide) (Or.inr ge93) gn93 ?_
                  intro T104 h104 L104 W104 K104 V104'
                  have V104 : Arv Z h104 a93 k93 .char (8 : Int32) [(.int (bl.getD 0 0)), (.int (bl.getD 1 0)), (.int (bl.getD 2 0)), (.int (bl.getD 3 0)), (.int (0 : Int32)), (.int (0 : Int32)), (.int (0 : Int32)), (.int (0 : Int32))] (.int (0 : Int32)) := V104'
                  have z104 := K104.1
                  refine W104.dup (hb hby dPX_273) rfl (pc' := 274) rfl ?_
                  refine W104.iconst (4 : Int32) (hb hby dPX_274) rfl (pc' := 275) rfl ?_
                  refine W104.aloadN (hb hby dPX_275) rfl rfl (pc' := 276) rfl ?_
                  refine W104.iconst (4 : Int32) (hb hby dPX_276) rfl (pc' := 277) rfl ?_
                  have X0_5_105 : Ext h0 h104 := Keep.toExt ((((((Keep.refl h0 []).ext E93).trans K95 (allS (Or.inr (by have := y93; omega)) all0)).trans K98 (allS (Or.inr (by have := y93; omega)) all0)).trans K101 (allS (Or.inr (by have := y93; omega)) all0)).trans K104 (allS (Or.inr (by have := y93; omega)) all0))
                  have zX0_5_105 := X0_5_105.1
                  have F106 := Arv.ext AR X0_5_105
                  refine W104.caload F106 (.int (bl.getD 4 0)) (hb hby dPX_277) (pc' := 278) rfl (by decide) (getD_int bl 4) ?_
                  refine W104.stC V104 (hb hby dPX_278) (pc' := 279) rfl (nar_lat (getD_all (P := fun c => ¬ c < 0 ∧ ¬ (255 : Int32) < c) HB (by decide) _)) 4 rfl (Nat.le_of_ble_eq_true rfl) (by decide) (Or.inr ge93) gn93 ?_
                  intro T107 h107 L107 W107 K107 V107'
                  have V107 : Arv Z h107 a93 k93 .char (8 : Int32) [(.int (bl.getD 0 0)), (.int (bl.getD 1 0)), (.int (bl.getD 2 0)), (.int (bl.getD 3 0)), (.int (bl.getD 4 0)), (.int (0 : Int32)), (.int (0 : Int32)), (.int (0 : Int32))] (.int (0 : Int32)) := V107'
                  have z107 := K107.1
                  refine W107.dup (hb hby dPX_279) rfl (pc' := 280) rfl ?_
                  refine W107.iconst (5 : Int32) (hb hby dPX_280) rfl (pc' := 281) rfl ?_
                  refine W107.aloadN (hb hby dPX_281) rfl rfl (pc' := 282) rfl ?_
                  refine W107.iconst (5 : Int32) (hb hby dPX_282) rfl (pc' := 283) rfl ?_
                  have X0_6_108 : Ext h0 h107 := Keep.toExt (((((((Keep.refl h0 []).ext E93).trans K95 (allS (Or.inr (by have := y93; omega)) all0)).trans K98 (allS (Or.inr (by have := y93; omega)) all0)).trans K101 (allS (Or.inr (by have := y93; omega)) all0)).trans K104 (allS (Or.inr (by have := y93; omega)) all0)).trans K107 (allS (Or.inr (by have := y93; omega)) all0))
                  have zX0_6_108 := X0_6_108.1
                  have F109 := Arv.ext AR X0_6_108
                  refine W107.caload F109 (.int (bl.getD 5 0)) (hb hby dPX_283) (pc' := 284) rfl (by decide) (getD_int bl 5) ?_
                  refine W107.stC V107 (hb hby dPX_284) (pc' := 285) rfl (nar_lat (getD_all (P := fun c => ¬ c < 0 ∧ ¬ (255 : Int32) < c) HB (by decide) _)) 5 rfl (Nat.le_of_ble_eq_true rfl) (by decide) (Or.inr ge93) gn93 ?_
                  intro T110 h110 L110 W110 K110 V110'
                  have V110 : Arv Z h110 a93 k93 .char (8 : Int32) [(.int (bl.getD 0 0)), (.int (bl.getD 1 0)), (.int (bl.getD 2 0)), (.int (bl.getD 3 0)), (.int (bl.getD 4 0)), (.int (bl.getD 5 0)), (.int (0 : Int32)), (.int (0 : Int32))] (.int (0 : Int32)) := V110'
                  have z110 := K110.1
                  refine W110.dup (hb hby dPX_285) rfl (pc' := 286) rfl ?_
                  refine W110.bipush (6 : Int32) (hb hby dPX_286) rfl (pc' := 288) rfl ?_
                  refine W110.aloadN (hb hby dPX_288) rfl rfl (pc' := 289) rfl ?_
                  refine W110.bipush (6 : Int32) (hb hby dPX_289) rfl (pc' := 291) rfl ?_
                  have X0_7_111 : Ext h0 h110 := Keep.toExt ((((((((Keep.refl h0 []).ext E93).trans K95 (allS (Or.inr (by have := y93; omega)) all0)).trans K98 (allS (Or.inr (by have := y93; omega)) all0)).trans K101 (allS (Or.inr (by have := y93; omega)) all0)).trans K104 (allS (Or.inr (by have := y93; omega)) all0)).trans K107 (allS (Or.inr (by have := y93; omega)) all0)).trans K110 (allS (Or.inr (by have := y93; omega)) all0))
                  have zX0_7_111 := X0_7_111.1
                  have F112 := Arv.ext AR X0_7_111
                  refine W110.caload F112 (.int (bl.getD 6 0)) (hb hby dPX_291) (pc' := 292) rfl (by decide) (getD_int bl 6) ?_
                  refine W110.stC V110 (hb hby dPX_292) (pc' := 293) rfl (nar_lat (getD_all (P := fun c => ¬ c < 0 ∧ ¬ (255 : Int32) < c) HB (by decide) _)) 6 rfl (Nat.le_of_ble_eq_true rfl) (by decide) (Or.inr ge93) gn93 ?_
                  intro T113 h113 L113 W113 K113 V113'
                  have V113 : Arv Z h113 a93 k93 .char (8 : Int32) [(.int (bl.getD 0 0)), (.int (bl.getD 1 0)), (.int (bl.getD 2 0)), (.int (bl.getD 3 0)), (.int (bl.getD 4 0)), (.int (bl.getD 5 0)), (.int (bl.getD 6 0)), (.int (0 : Int32))] (.int (0 : Int32)) := V113'
                  have z113 := K113.1
                  refine W113.dup (hb hby dPX_293) rfl (pc' := 294) rfl ?_
                  refine W113.bipush (7 : Int32) (hb hby dPX_294) rfl (pc' := 296) rfl ?_
                  refine W113.aloadN (hb hby dPX_296) rfl rfl (pc' := 297) rfl ?_
                  refine W113.bipush (7 : Int32) (hb hby dPX_297) rfl (pc' := 299) rfl ?_
                  have X0_8_114 : Ext h0 h113 := Keep.toExt (((((((((Keep.refl h0 []).ext E93).trans K95 (allS (Or.inr (by have := y93; omega)) all0)).trans K98 (allS (Or.inr (by have := y93; omega)) all0)).trans K101 (allS (Or.inr (by have := y93; omega)) all0)).trans K104 (allS (Or.inr (by have := y93; omega)) all0)).trans K107 (allS (Or.inr (by have := y93; omega)) all0)).trans K110 (allS (Or.inr (by have := y93; omega)) all0)).trans K113 (allS (Or.inr (by have := y93; omega)) all0))
                  have zX0_8_114 := X0_8_114.1
                  have F115 := Arv.ext AR X0_8_114
                  refine W113.caload F115 (.int (bl.getD 7 0)) (hb hby dPX_299) (pc' := 300) rfl (by decide) (getD_int bl 7) ?_
                  refine W113.stC V113 (hb hby dPX_300) (pc' := 301) rfl (nar_lat (getD_all (P := fun c => ¬ c < 0 ∧ ¬ (255 : Int32) < c) HB (by decide) _)) 7 rfl (Nat.le_of_ble_eq_true rfl) (by decide) (Or.inr ge93) gn93 ?_
                  intro T116 h116 L116 W116 K116 V116'
                  have V116 : Arv Z h116 a93 k93 .char (8 : Int32) [(.int (bl.getD 0 0)), (.int (bl.getD 1 0)), (.int (bl.getD 2 0)), (.int (bl.getD 3 0)), (.int (bl.getD 4 0)), (.int (bl.getD 5 0)), (.int (bl.getD 6 0)), (.int (bl.getD 7 0))] (.int (0 : Int32)) := V116'
                  have z116 := K116.1
                  exact W116.retA hret rfl rfl (hb hby dPX_301) (by decide) (by decide) ⟨a93, k93, rfl, ge93, by rw [pxF, if_pos hc1, if_neg hc2, if_neg hc6, if_neg hc13, if_neg hc23, if_neg hc36, if_neg hc52, if_neg hc71]; exact V116⟩
  · refine W0.ifNo (hb hby dPX_1) (XT.i0_gt_f hc1) (pc' := 4) rfl ?_
    refine W0.iconst (0 : Int32) (hb hby dPX_4) rfl (pc' := 5) rfl ?_
    refine W0.newP (hw _ (List.mem_of_getElem? (i := 22) rfl)) (hb hby dPX_5) (pc' := 7) rfl (by decide) (cap := 0) (by decide) (by decide) (by decide) (by decide) ?_
    intro T117 h117 a117 k117 g117 ge117 gn117 W117 E117 V117'
    have V117 : Arv Z h117 a117 k117 .char (0 : Int32) [] (.int (0 : Int32)) := V117'
    have z117 := E117.1
    have y117 := Nat.le_of_eq g117.symm
    exact W117.retA hret rfl rfl (hb hby dPX_7) (by decide) (by decide) ⟨a117, k117, rfl, ge117, by rw [pxF, if_neg hc1]; exact V117⟩
theorem dVA_0 : decode prog_17_method_1_code 0 = .ok (.getstatic 13, 3) := by decide +kernel
theorem dVA_3 : decode prog_17_method_1_code 3 = .ok (.invokevirtual 17, 3) := by decide +kernel
theorem dVA_6 : decode prog_17_method_1_code 6 = .ok (.checkcast 18, 3) := by decide +kernel
theorem dVA_9 : decode prog_17_method_1_code 9 = .ok (.areturn, 1) := by decide +kernel
theorem pn_VA : plainFor (⟨"dev/rolegate/model/Decision", "values", "()[Ldev/rolegate/model/Decision;"⟩ : MethodName) = true := by first | exact plainFor_of_name (by first | (simp [plainName, overriddenIn]; done) | decide +kernel) | decide +kernel
set_option maxRecDepth 65536 in
set_option maxHeartbeats 40000000 in
theorem rmVA (l : Launch) (Z : State) (a0 : Array Value) (hw : ∀ d ∈ tables_1, d.before a0 Z = true) (va al de re : Addr) (kv : ClassId) (h0 : Heap) (n0 : Nat) (Z0 : n0 ≤ h0.size) (SV : Sta Z h0 "dev/rolegate/model/Decision" "$VALUES" "[Ldev/rolegate/model/Decision;" (.ref va)) (AV : Arv Z h0 va kv (.object "dev/rolegate/model/Decision") (3 : Int32) [(.ref al), (.ref de), (.ref re)] .null) (EV : Exa Z h0 va "[Ldev/rolegate/model/Decision;") :
    NM l (⟨"dev/rolegate/model/Decision", "values", "()[Ldev/rolegate/model/Decision;"⟩ : MethodName) prog_17_method_1_code 0 (some (.array (.object "dev/rolegate/model/Decision"))) [] ({ frames := 1, cells := 1, slots := 3, locals := 16 } : Room) Z n0 #[] h0 [] (fun v h => ∃ b kb, v = some (.ref b) ∧ Arv Z h b kb (.object "dev/rolegate/model/Decision") (3 : Int32) [(.ref al), (.ref de), (.ref re)] .null) := by
  refine NM.walk (Ls := #[]) pn_VA Z0 (fun m => by first | (simp [entryFrame, mkF, argsToLocals, Value.category]; done) | rfl) ?_
  intro p e s m below meth c s₁ hby hml hret hnm W0
  refine W0.getS (host := "") (Or.inl (hw _ (List.mem_of_getElem? (i := 92) rfl))) Via.refl SV (hb hby dVA_0) (pc' := 3) rfl ?_
  intro T1 W1
  refine W1.cloneA (hw _ (List.mem_of_getElem? (i := 94) rfl)) (hw _ (List.mem_of_getElem? (i := 95) rfl)) (hw _ (List.mem_of_getElem? (i := 99) rfl)) (hw _ (List.mem_of_getElem? (i := 97) rfl)) (hw _ (List.mem_of_getElem? (i := 98) rfl)) (hw _ (List.mem_of_getElem? (i := 100) rfl)) AV EV (hb hby dVA_3) (pc' := 6) rfl hml (by decide) (wd := 0) (cap := 3) (Nat.le_of_ble_eq_true rfl) (by decide) (by decide) (by decide) (by decide) ?_
  intro T2 h2 b2 g2 ge2 gn2 W2 E2 V2 X2
  have z2 := E2.1
  have y2 := Nat.le_of_eq g2.symm
  refine W2.castY (hw _ (List.mem_of_getElem? (i := 105) rfl)) (Ins.self X2) (hb hby dVA_6) (pc' := 9) rfl ?_
  intro T3 W3
  exact W3.retA hret rfl rfl (hb hby dVA_9) (by decide) (by decide) ⟨b2, kv, rfl, V2⟩
theorem dWO_0 : decode prog_17_method_4_code 0 = .ok (.aload_n 0, 1) := by decide +kernel
theorem dWO_1 : decode prog_17_method_4_code 1 = .ok (.getfield 48, 3) := by decide +kernel
theorem dWO_4 : decode prog_17_method_4_code 4 = .ok (.areturn, 1) := by decide +kernel
theorem pn_WO : plainFor (⟨"dev/rolegate/model/Decision", "word", "()Ljava/lang/String;"⟩ : MethodName) = true := by first | exact plainFor_of_name (by first | (simp [plainName, overriddenIn]; done) | decide +kernel) | decide +kernel
set_option maxRecDepth 65536 in
set_option maxHeartbeats 40000000 in
theorem rmWO (l : Launch) (Z : State) (a0 : Array Value) (hw : ∀ d ∈ tables_1, d.before a0 Z = true) (a s1 : Addr) (h0 : Heap) (n0 : Nat) (Z0 : n0 ≤ h0.size) (FW : Fld Z h0 a "dev/rolegate/model/Decision" "word" "Ljava/lang/String;" (.ref s1)) :
    NM l (⟨"dev/rolegate/model/Decision", "word", "()Ljava/lang/String;"⟩ : MethodName) prog_17_method_4_code 1 (some (.object "java/lang/String")) [] ({ frames := 0, cells := 0, slots := 0, locals := 0 } : Room) Z n0 #[(.ref a)] h0 [] (Pu (some (.ref s1)) h0) := by
  refine NM.walk (Ls := #[.val (.ref a)]) pn_WO Z0 (fun m => by first | (simp [entryFrame, mkF, argsToLocals, Value.category]; done) | rfl) ?_
  intro p e s m below meth c s₁ hby hml hret hnm W0
  refine W0.aloadN (hb hby dWO_0) rfl rfl (pc' := 1) rfl ?_
  refine W0.getF (host := "") (Or.inl (hw _ (List.mem_of_getElem? (i := 112) rfl))) Via.refl FW (hb hby dWO_1) (pc' := 4) rfl ?_
  intro T1 W1
  exact W1.retA hret rfl rfl (hb hby dWO_4) (by decide) (by decide) ⟨rfl, rfl⟩
theorem dRN_0 : decode jdk_31_method_10_code 0 = .ok (.aload_n 0, 1) := by decide +kernel
theorem dRN_1 : decode jdk_31_method_10_code 1 = .ok (.ifnonnull 11, 3) := by decide +kernel
theorem dRN_12 : decode jdk_31_method_10_code 12 = .ok (.aload_n 0, 1) := by decide +kernel
theorem dRN_13 : decode jdk_31_method_10_code 13 = .ok (.areturn, 1) := by decide +kernel
theorem pn_RN : plainFor (⟨"java/util/Objects", "requireNonNull", "(Ljava/lang/Object;)Ljava/lang/Object;"⟩ : MethodName) = true := by first | exact plainFor_of_name (by first | (simp [plainName, overriddenIn]; done) | decide +kernel) | decide +kernel
set_option maxRecDepth 65536 in
set_option maxHeartbeats 40000000 in
theorem rmRN (l : Launch) (Z : State) (a0 : Array Value) (hw : ∀ d ∈ tables_1, d.before a0 Z = true) (a : Addr) (h0 : Heap) (n0 : Nat) (Z0 : n0 ≤ h0.size)  :
    NM l (⟨"java/util/Objects", "requireNonNull", "(Ljava/lang/Object;)Ljava/lang/Object;"⟩ : MethodName) jdk_31_method_10_code 1 (some (.object "java/lang/Object")) [] ({ frames := 0, cells := 0, slots := 0, locals := 0 } : Room) Z n0 #[(.ref a)] h0 [] (Pu (some (.ref a)) h0) := by
  refine NM.walk (Ls := #[.val (.ref a)]) pn_RN Z0 (fun m => by first | (simp [entryFrame, mkF, argsToLocals, Value.category]; done) | rfl) ?_
  intro p e s m below meth c s₁ hby hml hret hnm W0
  refine W0.aloadN (hb hby dRN_0) rfl rfl (pc' := 1) rfl ?_
  refine W0.ifnonnullYes (hb hby dRN_1) (by decide) (pc' := 12) (by decide) ?_
  refine W0.aloadN (hb hby dRN_12) rfl rfl (pc' := 13) rfl ?_
  exact W0.retA hret rfl rfl (hb hby dRN_13) (by decide) (by decide) ⟨rfl, rfl⟩
theorem dOI_0 : decode jdk_32_method_2_code 0 = .ok (.aload_n 0, 1) := by decide +kernel
theorem dOI_1 : decode jdk_32_method_2_code 1 = .ok (.invokespecial 7, 3) := by decide +kernel
theorem dOI_4 : decode jdk_32_method_2_code 4 = .ok (.aload_n 0, 1) := by decide +kernel
theorem dOI_5 : decode jdk_32_method_2_code 5 = .ok (.aload_n 1, 1) := by decide +kernel
theorem dOI_6 : decode jdk_32_method_2_code 6 = .ok (.putfield 13, 3) := by decide +kernel
theorem dOI_9 : decode jdk_32_method_2_code 9 = .ok (.return_, 1) := by decide +kernel
theorem pn_OI : plainFor (⟨"java/util/Optional", "<init>", "(Ljava/lang/Object;)V"⟩ : MethodName) = true := by first | exact plainFor_of_name (by first | (simp [plainName, overriddenIn]; done) | decide +kernel) | decide +kernel
set_option maxRecDepth 65536 in
set_option maxHeartbeats 40000000 in
theorem rmOI (l : Launch) (Z : State) (a0 : Array Value) (hw : ∀ d ∈ tables_1, d.before a0 Z = true) (a x : Addr) (h0 : Heap) (n0 : Nat) (Z0 : n0 ≤ h0.size) (ga : n0 ≤ a) (EX : Exa Z h0 a "java/util/Optional") (FV : Fld Z h0 a "java/util/Optional" "value" "Ljava/lang/Object;" .null) :
    NM l (⟨"java/util/Optional", "<init>", "(Ljava/lang/Object;)V"⟩ : MethodName) jdk_32_method_2_code 2 none [] ({ frames := 1, cells := 0, slots := 0, locals := 12 } : Room) Z n0 #[(.ref a), (.ref x)] h0 [a] (fun v h => v = none ∧ Exa Z h a "java/util/Optional" ∧ Fld Z h a "java/util/Optional" "value" "Ljava/lang/Object;" (.ref x)) := by
  refine NM.walk (Ls := #[.val (.ref a), .val (.ref x)]) pn_OI Z0 (fun m => by first | (simp [entryFrame, mkF, argsToLocals, Value.category]; done) | rfl) ?_
  intro p e s m below meth c s₁ hby hml hret hnm W0
  refine W0.aloadN (hb hby dOI_0) rfl rfl (pc' := 1) rfl ?_
  refine W0.initO (hw _ (List.mem_of_getElem? (i := 142) rfl)) (hw _ (List.mem_of_getElem? (i := 62) rfl)) (hw _ (List.mem_of_getElem? (i := 63) rfl)) (hb hby dOI_1) (pc' := 4) rfl hml (by decide) (wd := 0) (Nat.le_of_ble_eq_true rfl) (by decide) ?_
  intro T1 W1
  refine W1.aloadN (hb hby dOI_4) rfl rfl (pc' := 5) rfl ?_
  refine W1.aloadN (hb hby dOI_5) rfl rfl (pc' := 6) rfl ?_
  refine W1.putF (host := "") (Or.inl (hw _ (List.mem_of_getElem? (i := 125) rfl))) Via.refl FV EX (Or.inr ⟨(hw _ (List.mem_of_getElem? (i := 126) rfl)), rfl, hnm⟩) (hw _ (List.mem_of_getElem? (i := 133) rfl)) (ty := (.object "java/lang/Object")) (by decide) rfl rfl (hb hby dOI_6) (pc' := 9) rfl (Or.inl (List.mem_of_getElem? (i := 0) rfl)) ga ?_
  intro T2 h2 L2 W2 Q2
  have K2 := Keep.of_wr Q2
  have z2 := K2.1
  have A2 := Exa.wr Q2 EX
  have B2 := Fld.same Q2 FV
  exact W2.retV hret (hb hby dOI_9) (by decide) (by decide) ⟨rfl, A2, B2⟩
theorem dOO_0 : decode jdk_32_method_3_code 0 = .ok (.new 2, 3) := by decide +kernel
theorem dOO_3 : decode jdk_32_method_3_code 3 = .ok (.dup, 1) := by decide +kernel
theorem dOO_4 : decode jdk_32_method_3_code 4 = .ok (.aload_n 0, 1) := by decide +kernel
theorem dOO_5 : decode jdk_32_method_3_code 5 = .ok (.invokestatic 17, 3) := by decide +kernel
theorem pd_c2743d7f : parseMethodDescriptor "(Ljava/lang/Object;)Ljava/lang/Object;" = some ⟨[(.object "java/lang/Object")], some (.object "java/lang/Object")⟩ := by decide +kernel
theorem dOO_8 : decode jdk_32_method_3_code 8 = .ok (.invokespecial 23, 3) := by decide +kernel
theorem pd_c90bfb1b : parseMethodDescriptor "(Ljava/lang/Object;)V" = some ⟨[(.object "java/lang/Object")], none⟩ := by decide +kernel
theorem dOO_11 : decode jdk_32_method_3_code 11 = .ok (.areturn, 1) := by decide +kernel
theorem pn_OO : plainFor (⟨"java/util/Optional", "of", "(Ljava/lang/Object;)Ljava/util/Optional;"⟩ : MethodName) = true := by first | exact plainFor_of_name (by first | (simp [plainName, overriddenIn]; done) | decide +kernel) | decide +kernel
set_option maxRecDepth 65536 in
set_option maxHeartbeats 40000000 in
theorem rmOO (l : Launch) (Z : State) (a0 : Array Value) (hw : ∀ d ∈ tables_1, d.before a0 Z = true) (x : Addr) (h0 : Heap) (n0 : Nat) (Z0 : n0 ≤ h0.size)  :
    NM l (⟨"java/util/Optional", "of", "(Ljava/lang/Object;)Ljava/util/Optional;"⟩ : MethodName) jdk_32_method_3_code 1 (some (.object "java/util/Optional")) [] ({ frames := 2, cells := 1, slots := 4, locals := 30 } : Room) Z n0 #[(.ref x)] h0 [] (fun v h => ∃ o, v = some (.ref o) ∧ Exa Z h o "java/util/Optional" ∧ Fld Z h o "java/util/Optional" "value" "Ljava/lang/Object;" (.ref x)) := by
  refine NM.walk (Ls := #[.val (.ref x)]) pn_OO Z0 (fun m => by first | (simp [entryFrame, mkF, argsToLocals, Value.category]; done) | rfl) ?_
  intro p e s m below meth c s₁ hby hml hret hnm W0
  refine W0.newO (hw _ (List.mem_of_getElem? (i := 132) rfl)) (hw _ (List.mem_of_getElem? (i := 133) rfl)) (hw _ (List.mem_of_getElem? (i := 117) rfl)) (hb hby dOO_0) (pc' := 3) rfl (by decide) (by decide) ?_
  intro T1 h1 a1 g1 ge1 gn1 W1 E1 A1 D1
  have z1 := E1.1
  have y1 := Nat.le_of_eq g1.symm
  have D1_value := D1 (Or.inr (hw _ (List.mem_of_getElem? (i := 126) rfl))) (ty := (.object "java/lang/Object")) (by decide)
  refine W1.dup (hb hby dOO_3) rfl (pc' := 4) rfl ?_
  refine W1.aloadN (hb hby dOO_4) rfl rfl (pc' := 5) rfl ?_
  refine W1.callSP (hw _ (List.mem_of_getElem? (i := 134) rfl)) (hw _ (List.mem_of_getElem? (i := 135) rfl)) (hw _ (List.mem_of_getElem? (i := 136) rfl)) (hw _ (List.mem_of_getElem? (i := 137) rfl)) (by decide) (NM.bk (wd := 2) (rmRN l Z a0 hw x h1 n0 W1.n0h ) W1.2.2.2.1 (hw _ (List.mem_of_getElem? (i := 137) rfl)) (hw _ (List.mem_of_getElem? (i := 136) rfl)) (by decide) (by decide)) (hb hby dOO_5) (pc' := 8) rfl hml (argsL := [(.ref x)]) rfl (lenOf pd_c2743d7f rfl) rfl (Nat.le_of_ble_eq_true rfl) (by decide) (by decide) (fun _ _ _ q => pu_of q) ?_
  intro T2 L2 W2
  show Go p e below _ T2 (mkF m 8 #[.val (.ref x)] [(.ref x), (.ref a1), (.ref a1)])
  refine W2.callI (y := (⟨"java/util/Optional", "<init>", "(Ljava/lang/Object;)V"⟩ : MethodName)) rfl (hw _ (List.mem_of_getElem? (i := 138) rfl)) (hw _ (List.mem_of_getElem? (i := 139) rfl)) (hw _ (List.mem_of_getElem? (i := 141) rfl)) (by decide) (NM.bk (wd := 1) (rmOI l Z a0 hw a1 x h1 n0 W2.n0h gn1 A1 D1_value) W2.2.2.2.1 (hw _ (List.mem_of_getElem? (i := 141) rfl)) (hw _ (List.mem_of_getElem? (i := 117) rfl)) (by decide) (by decide)) (hb hby dOO_8) (pc' := 11) rfl hml (a := a1) (argsL := [(.ref x)]) rfl (lenOf pd_c90bfb1b rfl) rfl (Nat.le_of_ble_eq_true rfl) (by decide) (by decide) (ws' := [a1]) (fun _ _ _ q => ⟨q.2.2, q.2.1⟩) (allS (Or.inr ge1) all0) ?_
  intro v3 T3 h3 L3' L3 W3 Q3 K3
  have z3 := K3.1
  obtain ⟨⟨rfl, A3, B3⟩, -, -⟩ := Q3
  show Go p e below _ T3 (mkF m 11 #[.val (.ref x)] [(.ref a1)])
  exact W3.retA hret rfl rfl (hb hby dOO_11) (by decide) (by decide) ⟨a1, rfl, A3, B3⟩
theorem dOE_0 : decode jdk_32_method_1_code 0 = .ok (.getstatic 1, 3) := by decide +kernel
theorem dOE_3 : decode jdk_32_method_1_code 3 = .ok (.astore_n 0, 1) := by decide +kernel
theorem dOE_4 : decode jdk_32_method_1_code 4 = .ok (.aload_n 0, 1) := by decide +kernel
theorem dOE_5 : decode jdk_32_method_1_code 5 = .ok (.areturn, 1) := by decide +kernel
theorem pn_OE : plainFor (⟨"java/util/Optional", "empty", "()Ljava/util/Optional;"⟩ : MethodName) = true := by first | exact plainFor_of_name (by first | (simp [plainName, overriddenIn]; done) | decide +kernel) | decide +kernel
set_option maxRecDepth 65536 in
set_option maxHeartbeats 40000000 in
theorem rmOE (l : Launch) (Z : State) (a0 : Array Value) (hw : ∀ d ∈ tables_1, d.before a0 Z = true) (em : Addr) (h0 : Heap) (n0 : Nat) (Z0 : n0 ≤ h0.size) (SE : Sta Z h0 "java/util/Optional" "EMPTY" "Ljava/util/Optional;" (.ref em)) :
    NM l (⟨"java/util/Optional", "empty", "()Ljava/util/Optional;"⟩ : MethodName) jdk_32_method_1_code 1 (some (.object "java/util/Optional")) [] ({ frames := 0, cells := 0, slots := 0, locals := 0 } : Room) Z n0 #[] h0 [] (Pu (some (.ref em)) h0) := by
  refine NM.walk (Ls := #[.unset]) pn_OE Z0 (fun m => by first | (simp [entryFrame, mkF, argsToLocals, Value.category]; done) | rfl) ?_
  intro p e s m below meth c s₁ hby hml hret hnm W0
  refine W0.getS (host := "") (Or.inl (hw _ (List.mem_of_getElem? (i := 119) rfl))) Via.refl SE (hb hby dOE_0) (pc' := 3) rfl ?_
  intro T1 W1
  refine W1.astoreN (Ls' := #[.val (.ref em)]) (hb hby dOE_3) rfl rfl (pc' := 4) rfl ?_
  refine W1.aloadN (hb hby dOE_4) rfl rfl (pc' := 5) rfl ?_
  exact W1.retA hret rfl rfl (hb hby dOE_5) (by decide) (by decide) ⟨rfl, rfl⟩
theorem dOR1_0 : decode jdk_32_method_15_code 0 = .ok (.aload_n 0, 1) := by decide +kernel
theorem dOR1_1 : decode jdk_32_method_15_code 1 = .ok (.getfield 13, 3) := by decide +kernel
theorem dOR1_4 : decode jdk_32_method_15_code 4 = .ok (.ifnull 10, 3) := by decide +kernel
theorem dOR1_7 : decode jdk_32_method_15_code 7 = .ok (.aload_n 0, 1) := by decide +kernel
theorem dOR1_8 : decode jdk_32_method_15_code 8 = .ok (.getfield 13, 3) := by decide +kernel
theorem dOR1_11 : decode jdk_32_method_15_code 11 = .ok (.goto 4, 3) := by decide +kernel
theorem dOR1_15 : decode jdk_32_method_15_code 15 = .ok (.areturn, 1) := by decide +kernel
theorem pn_OR1 : plainFor (⟨"java/util/Optional", "orElse", "(Ljava/lang/Object;)Ljava/lang/Object;"⟩ : MethodName) = true := by first | exact plainFor_of_name (by first | (simp [plainName, overriddenIn]; done) | decide +kernel) | decide +kernel
set_option maxRecDepth 65536 in
set_option maxHeartbeats 40000000 in
theorem rmOR1 (l : Launch) (Z : State) (a0 : Array Value) (hw : ∀ d ∈ tables_1, d.before a0 Z = true) (o r : Addr) (h0 : Heap) (n0 : Nat) (Z0 : n0 ≤ h0.size) (FV : Fld Z h0 o "java/util/Optional" "value" "Ljava/lang/Object;" (.ref r)) :
    NM l (⟨"java/util/Optional", "orElse", "(Ljava/lang/Object;)Ljava/lang/Object;"⟩ : MethodName) jdk_32_method_15_code 2 (some (.object "java/lang/Object")) [] ({ frames := 0, cells := 0, slots := 0, locals := 0 } : Room) Z n0 #[(.ref o), .null] h0 [] (Pu (some (.ref r)) h0) := by
  refine NM.walk (Ls := #[.val (.ref o), .val .null]) pn_OR1 Z0 (fun m => by first | (simp [entryFrame, mkF, argsToLocals, Value.category]; done) | rfl) ?_
  intro p e s m below meth c s₁ hby hml hret hnm W0
  refine W0.aloadN (hb hby dOR1_0) rfl rfl (pc' := 1) rfl ?_
  refine W0.getF (host := "") (Or.inl (hw _ (List.mem_of_getElem? (i := 125) rfl))) Via.refl FV (hb hby dOR1_1) (pc' := 4) rfl ?_
  intro T1 W1
  refine W1.ifnullNo (hb hby dOR1_4) (pc' := 7) rfl ?_
  refine W1.aloadN (hb hby dOR1_7) rfl rfl (pc' := 8) rfl ?_
  refine W1.getF (host := "") (Or.inl (hw _ (List.mem_of_getElem? (i := 125) rfl))) Via.refl FV (hb hby dOR1_8) (pc' := 11) rfl ?_
  intro T2 W2
  refine W2.goto (hb hby dOR1_11) (by decide) (pc' := 15) (by decide) ?_
  exact W2.retA hret rfl rfl (hb hby dOR1_15) (by decide) (by decide) ⟨rfl, rfl⟩
theorem dOR0_0 : decode jdk_32_method_15_code 0 = .ok (.aload_n 0, 1) := by decide +kernel
theorem dOR0_1 : decode jdk_32_method_15_code 1 = .ok (.getfield 13, 3) := by decide +kernel
theorem dOR0_4 : decode jdk_32_method_15_code 4 = .ok (.ifnull 10, 3) := by decide +kernel
theorem dOR0_14 : decode jdk_32_method_15_code 14 = .ok (.aload_n 1, 1) := by decide +kernel
theorem dOR0_15 : decode jdk_32_method_15_code 15 = .ok (.areturn, 1) := by decide +kernel
theorem pn_OR0 : plainFor (⟨"java/util/Optional", "orElse", "(Ljava/lang/Object;)Ljava/lang/Object;"⟩ : MethodName) = true := by first | exact plainFor_of_name (by first | (simp [plainName, overriddenIn]; done) | decide +kernel) | decide +kernel
set_option maxRecDepth 65536 in
set_option maxHeartbeats 40000000 in
theorem rmOR0 (l : Launch) (Z : State) (a0 : Array Value) (hw : ∀ d ∈ tables_1, d.before a0 Z = true) (o : Addr) (h0 : Heap) (n0 : Nat) (Z0 : n0 ≤ h0.size) (FV : Fld Z h0 o "java/util/Optional" "value" "Ljava/lang/Object;" .null) :
    NM l (⟨"java/util/Optional", "orElse", "(Ljava/lang/Object;)Ljava/lang/Object;"⟩ : MethodName) jdk_32_method_15_code 2 (some (.object "java/lang/Object")) [] ({ frames := 0, cells := 0, slots := 0, locals := 0 } : Room) Z n0 #[(.ref o), .null] h0 [] (Pu (some .null) h0) := by
  refine NM.walk (Ls := #[.val (.ref o), .val .null]) pn_OR0 Z0 (fun m => by first | (simp [entryFrame, mkF, argsToLocals, Value.category]; done) | rfl) ?_
  intro p e s m below meth c s₁ hby hml hret hnm W0
  refine W0.aloadN (hb hby dOR0_0) rfl rfl (pc' := 1) rfl ?_
  refine W0.getF (host := "") (Or.inl (hw _ (List.mem_of_getElem? (i := 125) rfl))) Via.refl FV (hb hby dOR0_1) (pc' := 4) rfl ?_
  intro T1 W1
  refine W1.ifnullYes (hb hby dOR0_4) (by decide) (pc' := 14) (by decide) ?_
  refine W1.aloadN (hb hby dOR0_14) rfl rfl (pc' := 15) rfl ?_
  exact W1.retA hret rfl rfl (hb hby dOR0_15) (by decide) (by decide) ⟨rfl, rfl⟩
def ovF (cs : List Int32) (al de re : Addr) : Value := (if (if ([97, 108, 108, 111, 119] : List Int32) = cs then (1 : Int32) else 0) = (0 : Int32) then (if (if ([100, 101, 110, 121] : List Int32) = cs then (1 : Int32) else 0) = (0 : Int32) then (if (if ([114, 101, 106, 101, 99, 116] : List Int32) = cs then (1 : Int32) else 0) = (0 : Int32) then .null else (.ref re)) else (.ref de)) else (.ref al))
theorem dOW_0 : decode prog_17_method_5_code 0 = .ok (.invokestatic 52, 3) := by decide +kernel
theorem pd_2fe203f1 : parseMethodDescriptor "()[Ldev/rolegate/model/Decision;" = some ⟨[], some (.array (.object "dev/rolegate/model/Decision"))⟩ := by decide +kernel
theorem dOW_3 : decode prog_17_method_5_code 3 = .ok (.astore_n 1, 1) := by decide +kernel
theorem dOW_4 : decode prog_17_method_5_code 4 = .ok (.aload_n 1, 1) := by decide +kernel
theorem dOW_5 : decode prog_17_method_5_code 5 = .ok (.arraylength, 1) := by decide +kernel
theorem dOW_6 : decode prog_17_method_5_code 6 = .ok (.istore_n 2, 1) := by decide +kernel
theorem dOW_7 : decode prog_17_method_5_code 7 = .ok (.iconst 0, 1) := by decide +kernel
theorem dOW_8 : decode prog_17_method_5_code 8 = .ok (.istore_n 3, 1) := by decide +kernel
theorem dOW_9 : decode prog_17_method_5_code 9 = .ok (.iload_n 3, 1) := by decide +kernel
theorem dOW_10 : decode prog_17_method_5_code 10 = .ok (.iload_n 2, 1) := by decide +kernel
theorem dOW_11 : decode prog_17_method_5_code 11 = .ok (.if_icmp .ge 32, 3) := by decide +kernel
theorem dOW_14 : decode prog_17_method_5_code 14 = .ok (.aload_n 1, 1) := by decide +kernel
theorem dOW_15 : decode prog_17_method_5_code 15 = .ok (.iload_n 3, 1) := by decide +kernel
theorem dOW_16 : decode prog_17_method_5_code 16 = .ok (.aaload, 1) := by decide +kernel
theorem dOW_17 : decode prog_17_method_5_code 17 = .ok (.astore 4, 2) := by decide +kernel
theorem dOW_19 : decode prog_17_method_5_code 19 = .ok (.aload 4, 2) := by decide +kernel
theorem dOW_21 : decode prog_17_method_5_code 21 = .ok (.invokevirtual 56, 3) := by decide +kernel
theorem pd_af964ff8 : parseMethodDescriptor "()Ljava/lang/String;" = some ⟨[], some (.object "java/lang/String")⟩ := by decide +kernel
theorem dOW_24 : decode prog_17_method_5_code 24 = .ok (.aload_n 0, 1) := by decide +kernel
theorem dOW_25 : decode prog_17_method_5_code 25 = .ok (.invokevirtual 58, 3) := by decide +kernel
theorem pd_67f3b2e8 : parseMethodDescriptor "(Ljava/lang/Object;)Z" = some ⟨[(.object "java/lang/Object")], some .boolean⟩ := by decide +kernel
theorem dOW_28 : decode prog_17_method_5_code 28 = .ok (.ifCond .eq 9, 3) := by decide +kernel
theorem dOW_37 : decode prog_17_method_5_code 37 = .ok (.iinc 3 1, 3) := by decide +kernel
theorem dOW_40 : decode prog_17_method_5_code 40 = .ok (.goto (-31), 3) := by decide +kernel
theorem dOW_43 : decode prog_17_method_5_code 43 = .ok (.invokestatic 68, 3) := by decide +kernel
theorem pd_7dc93861 : parseMethodDescriptor "()Ljava/util/Optional;" = some ⟨[], some (.object "java/util/Optional")⟩ := by decide +kernel
theorem dOW_46 : decode prog_17_method_5_code 46 = .ok (.areturn, 1) := by decide +kernel
theorem dOW_31 : decode prog_17_method_5_code 31 = .ok (.aload 4, 2) := by decide +kernel
theorem dOW_33 : decode prog_17_method_5_code 33 = .ok (.invokestatic 62, 3) := by decide +kernel
theorem pd_36035141 : parseMethodDescriptor "(Ljava/lang/Object;)Ljava/util/Optional;" = some ⟨[(.object "java/lang/Object")], some (.object "java/util/Optional")⟩ := by decide +kernel
theorem dOW_36 : decode prog_17_method_5_code 36 = .ok (.areturn, 1) := by decide +kernel
theorem pn_OW : plainFor (⟨"dev/rolegate/model/Decision", "ofWord", "(Ljava/lang/String;)Ljava/util/Optional;"⟩ : MethodName) = true := by first | exact plainFor_of_name (by first | (simp [plainName, overriddenIn]; done) | decide +kernel) | decide +kernel
set_option maxRecDepth 65536 in
set_option maxHeartbeats 40000000 in
theorem rmOW (l : Launch) (Z : State) (a0 : Array Value) (hw : ∀ d ∈ tables_1, d.before a0 Z = true) (a : Addr) (cs : List Int32) (va al de re s1 s2 s3 em : Addr) (kv : ClassId) (zc : Int32) (h0 : Heap) (n0 : Nat) (Z0 : n0 ≤ h0.size) (TS : StrA Z h0 a cs) (SV : Sta Z h0 "dev/rolegate/model/Decision" "$VALUES" "[Ldev/rolegate/model/Decision;" (.ref va)) (AV : Arv Z h0 va kv (.object "dev/rolegate/model/Decision") (3 : Int32) [(.ref al), (.ref de), (.ref re)] .null) (EV : Exa Z h0 va "[Ldev/rolegate/model/Decision;") (DX1 : Exa Z h0 al "dev/rolegate/model/Decision") (FX1 : Fld Z h0 al "dev/rolegate/model/Decision" "word" "Ljava/lang/String;" (.ref s1)) (TW1 : StrA Z h0 s1 ([97, 108, 108, 111, 119] : List Int32)) (DX2 : Exa Z h0 de "dev/rolegate/model/Decision") (FX2 : Fld Z h0 de "dev/rolegate/model/Decision" "word" "Ljava/lang/String;" (.ref s2)) (TW2 : StrA Z h0 s2 ([100, 101, 110, 121] : List Int32)) (DX3 : Exa Z h0 re "dev/rolegate/model/Decision") (FX3 : Fld Z h0 re "dev/rolegate/model/Decision" "word" "Ljava/lang/String;" (.ref s3)) (TW3 : StrA Z h0 s3 ([114, 101, 106, 101, 99, 116] : List Int32)) (SE : Sta Z h0 "java/util/Optional" "EMPTY" "Ljava/util/Optional;" (.ref em)) (EE : Exa Z h0 em "java/util/Optional") (FE : Fld Z h0 em "java/util/Optional" "value" "Ljava/lang/Object;" .null) (SC : Sta Z h0 "java/lang/String" "COMPACT_STRINGS" "Z" (.int zc)) (hz : ¬ zc = 0) :
    NM l (⟨"dev/rolegate/model/Decision", "ofWord", "(Ljava/lang/String;)Ljava/util/Optional;"⟩ : MethodName) prog_17_method_5_code 5 (some (.object "java/util/Optional")) [] ({ frames := 3, cells := 2, slots := 8, locals := 48 } : Room) Z n0 #[(.ref a)] h0 [] (fun v h => ∃ o, v = some (.ref o) ∧ Exa Z h o "java/util/Optional" ∧ Fld Z h o "java/util/Optional" "value" "Ljava/lang/Object;" (ovF cs al de re)) := by
  refine NM.walk (Ls := #[.val (.ref a), .unset, .unset, .unset, .unset]) pn_OW Z0 (fun m => by first | (simp [entryFrame, mkF, argsToLocals, Value.category]; done) | rfl) ?_
  intro p e s m below meth c s₁ hby hml hret hnm W0
  refine W0.callS (hw _ (List.mem_of_getElem? (i := 89) rfl)) (hw _ (List.mem_of_getElem? (i := 90) rfl)) (hw _ (List.mem_of_getElem? (i := 87) rfl)) (hw _ (List.mem_of_getElem? (i := 91) rfl)) (by decide) (NM.bk (wd := 0) (rmVA l Z a0 hw va al de re kv h0 n0 W0.n0h SV AV EV) W0.2.2.2.1 (hw _ (List.mem_of_getElem? (i := 91) rfl)) (hw _ (List.mem_of_getElem? (i := 87) rfl)) (by decide) (by decide)) (hb hby dOW_0) (pc' := 3) rfl hml (argsL := []) rfl (lenOf pd_2fe203f1 rfl) rfl (Nat.le_of_ble_eq_true rfl) (by decide) (by decide) (ws' := []) (fun _ _ _ q => ⟨q.2.2, q.2.1⟩) all0 ?_
  intro v1 T1 h1 L1' L1 W1 Q1 K1
  have z1 := K1.1
  obtain ⟨⟨b1, kb1, rfl, V1⟩, -, -⟩ := Q1
  show Go p e below _ T1 (mkF m 3 #[.val (.ref a), .unset, .unset, .unset, .unset] [(.ref b1)])
  refine W1.astoreN (Ls' := #[.val (.ref a), .val (.ref b1), .unset, .unset, .unset]) (hb hby dOW_3) rfl rfl (pc' := 4) rfl ?_
  refine W1.aloadN (hb hby dOW_4) rfl rfl (pc' := 5) rfl ?_
  refine W1.arraylength V1 (hb hby dOW_5) (pc' := 6) rfl ?_
  refine W1.istoreN (Ls' := #[.val (.ref a), .val (.ref b1), .val (.int (3 : Int32)), .unset, .unset]) (hb hby dOW_6) rfl (pc' := 7) rfl ?_
  refine W1.iconst (0 : Int32) (hb hby dOW_7) rfl (pc' := 8) rfl ?_
  refine W1.istoreN (Ls' := #[.val (.ref a), .val (.ref b1), .val (.int (3 : Int32)), .val (.int (0 : Int32)), .unset]) (hb hby dOW_8) rfl (pc' := 9) rfl ?_
  refine W1.iloadN (hb hby dOW_9) rfl (pc' := 10) rfl ?_
  refine W1.iloadN (hb hby dOW_10) rfl (pc' := 11) rfl ?_
  refine W1.icmpNo (hb hby dOW_11) (XT.ii_ge_f (by decide)) (pc' := 14) rfl ?_
  refine W1.aloadN (hb hby dOW_14) rfl rfl (pc' := 15) rfl ?_
  refine W1.iloadN (hb hby dOW_15) rfl (pc' := 16) rfl ?_
  refine W1.aaload V1 rfl (.ref al) (hb hby dOW_16) (pc' := 17) rfl (by decide) rfl ?_
  refine W1.astore (Ls' := #[.val (.ref a), .val (.ref b1), .val (.int (3 : Int32)), .val (.int (0 : Int32)), .val (.ref al)]) (hb hby dOW_17) rfl rfl (pc' := 19) rfl ?_
  refine W1.aload (hb hby dOW_19) rfl rfl (pc' := 21) rfl ?_
  have F3 := Fld.ext (Keep.toExt K1) FX1
  have F4 := Exa.ext (Keep.toExt K1) DX1
  refine W1.callVP (y := (⟨"dev/rolegate/model/Decision", "word", "()Ljava/lang/String;"⟩ : MethodName)) (z := (⟨"dev/rolegate/model/Decision", "word", "()Ljava/lang/String;"⟩ : MethodName)) (hw _ (List.mem_of_getElem? (i := 107) rfl)) (hw _ (List.mem_of_getElem? (i := 108) rfl)) (hw _ (List.mem_of_getElem? (i := 110) rfl)) (hw _ (List.mem_of_getElem? (i := 110) rfl)) (hw _ (List.mem_of_getElem? (i := 109) rfl)) (by decide) (NM.bk (wd := 0) (rmWO l Z a0 hw al s1 h1 n0 W1.n0h F3) W1.2.2.2.1 (hw _ (List.mem_of_getElem? (i := 111) rfl)) (hw _ (List.mem_of_getElem? (i := 87) rfl)) (by decide) (by decide)) F4 (hb hby dOW_21) (pc' := 24) rfl hml (argsL := []) rfl (lenOf pd_af964ff8 rfl) rfl (Nat.le_of_ble_eq_true rfl) (by decide) (by decide) (fun _ _ _ q => pu_of q) ?_
  intro T2 L2 W2
  show Go p e below _ T2 (mkF m 24 #[.val (.ref a), .val (.ref b1), .val (.int (3 : Int32)), .val (.int (0 : Int32)), .val (.ref al)] [(.ref s1)])
  refine W2.aloadN (hb hby dOW_24) rfl rfl (pc' := 25) rfl ?_
  have F6 := StrA.ext TW1 (Keep.toExt K1)
  have F7 := StrA.ext TS (Keep.toExt K1)
  have F8 := Sta.ext (Keep.toExt K1) SC
  refine W2.callVP (y := (⟨"java/lang/String", "equals", "(Ljava/lang/Object;)Z"⟩ : MethodName)) (z := (⟨"java/lang/String", "equals", "(Ljava/lang/Object;)Z"⟩ : MethodName)) (hw _ (List.mem_of_getElem? (i := 114) rfl)) (hw _ (List.mem_of_getElem? (i := 75) rfl)) (hw _ (List.mem_of_getElem? (i := 77) rfl)) (hw _ (List.mem_of_getElem? (i := 77) rfl)) (hw _ (List.mem_of_getElem? (i := 76) rfl)) (by decide) (StrA.eq (wd := 0) F6 F7 W2.2.2.2.1 hw (hw _ (List.mem_of_getElem? (i := 3) rfl)) F8 hz (by decide) (by decide)) F6.1 (hb hby dOW_25) (pc' := 28) rfl hml (argsL := [(.ref a)]) rfl (lenOf pd_67f3b2e8 rfl) rfl (Nat.le_of_ble_eq_true rfl) (by decide) (by decide) (fun _ _ _ q => pu_nil q) ?_
  intro T5 L5 W5
  show Go p e below _ T5 (mkF m 28 #[.val (.ref a), .val (.ref b1), .val (.int (3 : Int32)), .val (.int (0 : Int32)), .val (.ref al)] [(.int (if ([97, 108, 108, 111, 119] : List Int32) = cs then (1 : Int32) else 0))])
  by_cases hc9 : (if ([97, 108, 108, 111, 119] : List Int32) = cs then (1 : Int32) else 0) = (0 : Int32)
  · refine W5.ifYes (hb hby dOW_28) (XT.i0_eq_t hc9) (by decide) (pc' := 37) (by decide) ?_
    refine W5.iinc (Ls' := #[.val (.ref a), .val (.ref b1), .val (.int (3 : Int32)), .val (.int ((0 : Int32) + (1 : Int32))), .val (.ref al)]) (1 : Int32) (hb hby dOW_37) rfl rfl rfl (pc' := 40) rfl ?_
    show Go p e below _ _ (mkF m 40 #[.val (.ref a), .val (.ref b1), .val (.int (3 : Int32)), .val (.int (1 : Int32)), .val (.ref al)] [])
    refine W5.goto (hb hby dOW_40) (by decide) (pc' := 9) (by decide) ?_
    refine W5.iloadN (hb hby dOW_9) rfl (pc' := 10) rfl ?_
    refine W5.iloadN (hb hby dOW_10) rfl (pc' := 11) rfl ?_
    refine W5.icmpNo (hb hby dOW_11) (XT.ii_ge_f (by decide)) (pc' := 14) rfl ?_
    refine W5.aloadN (hb hby dOW_14) rfl rfl (pc' := 15) rfl ?_
    refine W5.iloadN (hb hby dOW_15) rfl (pc' := 16) rfl ?_
    refine W5.aaload V1 rfl (.ref de) (hb hby dOW_16) (pc' := 17) rfl (by decide) rfl ?_
    refine W5.astore (Ls' := #[.val (.ref a), .val (.ref b1), .val (.int (3 : Int32)), .val (.int (1 : Int32)), .val (.ref de)]) (hb hby dOW_17) rfl rfl (pc' := 19) rfl ?_
    refine W5.aload (hb hby dOW_19) rfl rfl (pc' := 21) rfl ?_
    have F11 := Fld.ext (Keep.toExt K1) FX2
    have F12 := Exa.ext (Keep.toExt K1) DX2
    refine W5.callVP (y := (⟨"dev/rolegate/model/Decision", "word", "()Ljava/lang/String;"⟩ : MethodName)) (z := (⟨"dev/rolegate/model/Decision", "word", "()Ljava/lang/String;"⟩ : MethodName)) (hw _ (List.mem_of_getElem? (i := 107) rfl)) (hw _ (List.mem_of_getElem? (i := 108) rfl)) (hw _ (List.mem_of_getElem? (i := 110) rfl)) (hw _ (List.mem_of_getElem? (i := 110) rfl)) (hw _ (List.mem_of_getElem? (i := 109) rfl)) (by decide) (NM.bk (wd := 0) (rmWO l Z a0 hw de s2 h1 n0 W5.n0h F11) W5.2.2.2.1 (hw _ (List.mem_of_getElem? (i := 111) rfl)) (hw _ (List.mem_of_getElem? (i := 87) rfl)) (by decide) (by decide)) F12 (hb hby dOW_21) (pc' := 24) rfl hml (argsL := []) rfl (lenOf pd_af964ff8 rfl) rfl (Nat.le_of_ble_eq_true rfl) (by decide) (by decide) (fun _ _ _ q => pu_of q) ?_
    intro T10 L10 W10
    show Go p e below _ T10 (mkF m 24 #[.val (.ref a), .val (.ref b1), .val (.int (3 : Int32)), .val (.int (1 : Int32)), .val (.ref de)] [(.ref s2)])
    refine W10.aloadN (hb hby dOW_24) rfl rfl (pc' := 25) rfl ?_
    have F14 := StrA.ext TW2 (Keep.toExt K1)
    refine W10.callVP (y := (⟨"java/lang/String", "equals", "(Ljava/lang/Object;)Z"⟩ : MethodName)) (z := (⟨"java/lang/String", "equals", "(Ljava/lang/Object;)Z"⟩ : MethodName)) (hw _ (List.mem_of_getElem? (i := 114) rfl)) (hw _ (List.mem_of_getElem? (i := 75) rfl)) (hw _ (List.mem_of_getElem? (i := 77) rfl)) (hw _ (List.mem_of_getElem? (i := 77) rfl)) (hw _ (List.mem_of_getElem? (i := 76) rfl)) (by decide) (StrA.eq (wd := 0) F14 F7 W10.2.2.2.1 hw (hw _ (List.mem_of_getElem? (i := 3) rfl)) F8 hz (by decide) (by decide)) F14.1 (hb hby dOW_25) (pc' := 28) rfl hml (argsL := [(.ref a)]) rfl (lenOf pd_67f3b2e8 rfl) rfl (Nat.le_of_ble_eq_true rfl) (by decide) (by decide) (fun _ _ _ q => pu_nil q) ?_
    intro T13 L13 W13
    show Go p e below _ T13 (mkF m 28 #[.val (.ref a), .val (.ref b1), .val (.int (3 : Int32)), .val (.int (1 : Int32)), .val (.ref de)] [(.int (if ([100, 101, 110, 121] : List Int32) = cs then (1 : Int32) else 0))])
    by_cases hc15 : (if ([100, 101, 110, 121] : List Int32) = cs then (1 : Int32) else 0) = (0 : Int32)
    · refine W13.ifYes (hb hby dOW_28) (XT.i0_eq_t hc15) (by decide) (pc' := 37) (by decide) ?_
      refine W13.iinc (Ls' := #[.val (.ref a), .val (.ref b1), .val (.int (3 : Int32)), .val (.int ((1 : Int32) + (1 : Int32))), .val (.ref de)]) (1 : Int32) (hb hby dOW_37) rfl rfl rfl (pc' := 40) rfl ?_
      show Go p e below _ _ (mkF m 40 #[.val (.ref a), .val (.ref b1), .val (.int (3 : Int32)), .val (.int (2 : Int32)), .val (.ref de)] [])
      refine W13.goto (hb hby dOW_40) (by decide) (pc' := 9) (by decide) ?_
      refine W13.iloadN (hb hby dOW_9) rfl (pc' := 10) rfl ?_
      refine W13.iloadN (hb hby dOW_10) rfl (pc' := 11) rfl ?_
      refine W13.icmpNo (hb hby dOW_11) (XT.ii_ge_f (by decide)) (pc' := 14) rfl ?_
      refine W13.aloadN (hb hby dOW_14) rfl rfl (pc' := 15) rfl ?_
      refine W13.iloadN (hb hby dOW_15) rfl (pc' := 16) rfl ?_
      refine W13.aaload V1 rfl (.ref re) (hb hby dOW_16) (pc' := 17) rfl (by decide) rfl ?_
      refine W13.astore (Ls' := #[.val (.ref a), .val (.ref b1), .val (.int (3 : Int32)), .val (.int (2 : Int32)), .val (.ref re)]) (hb hby dOW_17) rfl rfl (pc' := 19) rfl ?_
      refine W13.aload (hb hby dOW_19) rfl rfl (pc' := 21) rfl ?_
      have F17 := Fld.ext (Keep.toExt K1) FX3
      have F18 := Exa.ext (Keep.toExt K1) DX3
      refine W13.callVP (y := (⟨"dev/rolegate/model/Decision", "word", "()Ljava/lang/String;"⟩ : MethodName)) (z := (⟨"dev/rolegate/model/Decision", "word", "()Ljava/lang/String;"⟩ : MethodName)) (hw _ (List.mem_of_getElem? (i := 107) rfl)) (hw _ (List.mem_of_getElem? (i := 108) rfl)) (hw _ (List.mem_of_getElem? (i := 110) rfl)) (hw _ (List.mem_of_getElem? (i := 110) rfl)) (hw _ (List.mem_of_getElem? (i := 109) rfl)) (by decide) (NM.bk (wd := 0) (rmWO l Z a0 hw re s3 h1 n0 W13.n0h F17) W13.2.2.2.1 (hw _ (List.mem_of_getElem? (i := 111) rfl)) (hw _ (List.mem_of_getElem? (i := 87) rfl)) (by decide) (by decide)) F18 (hb hby dOW_21) (pc' := 24) rfl hml (argsL := []) rfl (lenOf pd_af964ff8 rfl) rfl (Nat.le_of_ble_eq_true rfl) (by decide) (by decide) (fun _ _ _ q => pu_of q) ?_
      intro T16 L16 W16
      show Go p e below _ T16 (mkF m 24 #[.val (.ref a), .val (.ref b1), .val (.int (3 : Int32)), .val (.int (2 : Int32)), .val (.ref re)] [(.ref s3)])
      refine W16.aloadN (hb hby dOW_24) rfl rfl (pc' := 25) rfl ?_
      have F20 := StrA.ext TW3 (Keep.toExt K1)
      refine W16.callVP (y := (⟨"java/lang/String", "equals", "(Ljava/lang/Object;)Z"⟩ : MethodName)) (z := (⟨"java/lang/String", "equals", "(Ljava/lang/Object;)Z"⟩ : MethodName)) (hw _ (List.mem_of_getElem? (i := 114) rfl)) (hw _ (List.mem_of_getElem? (i := 75) rfl)) (hw _ (List.mem_of_getElem? (i := 77) rfl)) (hw _ (List.mem_of_getElem? (i := 77) rfl)) (hw _ (List.mem_of_getElem? (i := 76) rfl)) (by decide) (StrA.eq (wd := 0) F20 F7 W16.2.2.2.1 hw (hw _ (List.mem_of_getElem? (i := 3) rfl)) F8 hz (by decide) (by decide)) F20.1 (hb hby dOW_25) (pc' := 28) rfl hml (argsL := [(.ref a)]) rfl (lenOf pd_67f3b2e8 rfl) rfl (Nat.le_of_ble_eq_true rfl) (by decide) (by decide) (fun _ _ _ q => pu_nil q) ?_
      intro T19 L19 W19
      show Go p e below _ T19 (mkF m 28 #[.val (.ref a), .val (.ref b1), .val (.int (3 : Int32)), .val (.int (2 : Int32)), .val (.ref re)] [(.int (if ([114, 101, 106, 101, 99, 116] : List Int32) = cs then (1 : Int32) else 0))])
      by_cases hc21 : (if ([114, 101, 106, 101, 99, 116] : List Int32) = cs then (1 : Int32) else 0) = (0 : Int32)
      · refine W19.ifYes (hb hby dOW_28) (XT.i0_eq_t hc21) (by decide) (pc' := 37) (by decide) ?_
        refine W19.iinc (Ls' := #[.val (.ref a), .val (.ref b1), .val (.int (3 : Int32)), .val (.int ((2 : Int32) + (1 : Int32))), .val (.ref re)]) (1 : Int32) (hb hby dOW_37) rfl rfl rfl (pc' := 40) rfl ?_
        show Go p e below _ _ (mkF m 40 #[.val (.ref a), .val (.ref b1), .val (.int (3 : Int32)), .val (.int (3 : Int32)), .val (.ref re)] [])
        refine W19.goto (hb hby dOW_40) (by decide) (pc' := 9) (by decide) ?_
        refine W19.iloadN (hb hby dOW_9) rfl (pc' := 10) rfl ?_
        refine W19.iloadN (hb hby dOW_10) rfl (pc' := 11) rfl ?_
        refine W19.icmpYes (hb hby dOW_11) (XT.ii_ge_t (by decide)) (by decide) (pc' := 43) (by decide) ?_
        have F23 := Sta.ext (Keep.toExt K1) SE
        refine W19.callSP (hw _ (List.mem_of_getElem? (i := 115) rfl)) (hw _ (List.mem_of_getElem? (i := 116) rfl)) (hw _ (List.mem_of_getElem? (i := 117) rfl)) (hw _ (List.mem_of_getElem? (i := 118) rfl)) (by decide) (NM.bk (wd := 0) (rmOE l Z a0 hw em h1 n0 W19.n0h F23) W19.2.2.2.1 (hw _ (List.mem_of_getElem? (i := 118) rfl)) (hw _ (List.mem_of_getElem? (i := 117) rfl)) (by decide) (by decide)) (hb hby dOW_43) (pc' := 46) rfl hml (argsL := []) rfl (lenOf pd_7dc93861 rfl) rfl (Nat.le_of_ble_eq_true rfl) (by decide) (by decide) (fun _ _ _ q => pu_of q) ?_
        intro T22 L22 W22
        show Go p e below _ T22 (mkF m 46 #[.val (.ref a), .val (.ref b1), .val (.int (3 : Int32)), .val (.int (3 : Int32)), .val (.ref re)] [(.ref em)])
        have F24 := Exa.ext (Keep.toExt K1) EE
        have F25 := Fld.ext (Keep.toExt K1) FE
        exact W22.retA hret rfl rfl (hb hby dOW_46) (by decide) (by decide) ⟨em, rfl, F24, by rw [ovF, if_pos hc9, if_pos hc15, if_pos hc21]; exact F25⟩
      · refine W19.ifNo (hb hby dOW_28) (XT.i0_eq_f hc21) (pc' := 31) rfl ?_
        refine W19.aload (hb hby dOW_31) rfl rfl (pc' := 33) rfl ?_
        refine W19.callS (hw _ (List.mem_of_getElem? (i := 129) rfl)) (hw _ (List.mem_of_getElem? (i := 130) rfl)) (hw _ (List.mem_of_getElem? (i := 117) rfl)) (hw _ (List.mem_of_getElem? (i := 131) rfl)) (by decide) (NM.bk (wd := 0) (rmOO l Z a0 hw re h1 n0 W19.n0h ) W19.2.2.2.1 (hw _ (List.mem_of_getElem? (i := 131) rfl)) (hw _ (List.mem_of_getElem? (i := 117) rfl)) (by decide) (by decide)) (hb hby dOW_33) (pc' := 36) rfl hml (argsL := [(.ref re)]) rfl (lenOf pd_36035141 rfl) rfl (Nat.le_of_ble_eq_true rfl) (by decide) (by decide) (ws' := []) (fun _ _ _ q => ⟨q.2.2, q.2.1⟩) all0 ?_
        intro v26 T26 h26 L26' L26 W26 Q26 K26
        have z26 := K26.1
        obtain ⟨⟨o26, rfl, A26, B26⟩, -, -⟩ := Q26
        show Go p e below _ T26 (mkF m 36 #[.val (.ref a), .val (.ref b1), .val (.int (3 : Int32)), .val (.int (2 : Int32)), .val (.ref re)] [(.ref o26)])
        exact W26.retA hret rfl rfl (hb hby dOW_36) (by decide) (by decide) ⟨o26, rfl, A26, by rw [ovF, if_pos hc9, if_pos hc15, if_neg hc21]; exact B26⟩
    · refine W13.ifNo (hb hby dOW_28) (XT.i0_eq_f hc15) (pc' := 31) rfl ?_
      refine W13.aload (hb hby dOW_31) rfl rfl (pc' := 33) rfl ?_
      refine W13.callS (hw _ (List.mem_of_getElem? (i := 129) rfl)) (hw _ (List.mem_of_getElem? (i := 130) rfl)) (hw _ (List.mem_of_getElem? (i := 117) rfl)) (hw _ (List.mem_of_getElem? (i := 131) rfl)) (by decide) (NM.bk (wd := 0) (rmOO l Z a0 hw de h1 n0 W13.n0h ) W13.2.2.2.1 (hw _ (List.mem_of_getElem? (i := 131) rfl)) (hw _ (List.mem_of_getElem? (i := 117) rfl)) (by decide) (by decide)) (hb hby dOW_33) (pc' := 36) rfl hml (argsL := [(.ref de)]) rfl (lenOf pd_36035141 rfl) rfl (Nat.le_of_ble_eq_true rfl) (by decide) (by decide) (ws' := []) (fun _ _ _ q => ⟨q.2.2, q.2.1⟩) all0 ?_
      intro v27 T27 h27 L27' L27 W27 Q27 K27
      have z27 := K27.1
      obtain ⟨⟨o27, rfl, A27, B27⟩, -, -⟩ := Q27
      show Go p e below _ T27 (mkF m 36 #[.val (.ref a), .val (.ref b1), .val (.int (3 : Int32)), .val (.int (1 : Int32)), .val (.ref de)] [(.ref o27)])
      exact W27.retA hret rfl rfl (hb hby dOW_36) (by decide) (by decide) ⟨o27, rfl, A27, by rw [ovF, if_pos hc9, if_neg hc15]; exact B27⟩
  · refine W5.ifNo (hb hby dOW_28) (XT.i0_eq_f hc9) (pc' := 31) rfl ?_
    refine W5.aload (hb hby dOW_31) rfl rfl (pc' := 33) rfl ?_
    refine W5.callS (hw _ (List.mem_of_getElem? (i := 129) rfl)) (hw _ (List.mem_of_getElem? (i := 130) rfl)) (hw _ (List.mem_of_getElem? (i := 117) rfl)) (hw _ (List.mem_of_getElem? (i := 131) rfl)) (by decide) (NM.bk (wd := 0) (rmOO l Z a0 hw al h1 n0 W5.n0h ) W5.2.2.2.1 (hw _ (List.mem_of_getElem? (i := 131) rfl)) (hw _ (List.mem_of_getElem? (i := 117) rfl)) (by decide) (by decide)) (hb hby dOW_33) (pc' := 36) rfl hml (argsL := [(.ref al)]) rfl (lenOf pd_36035141 rfl) rfl (Nat.le_of_ble_eq_true rfl) (by decide) (by decide) (ws' := []) (fun _ _ _ q => ⟨q.2.2, q.2.1⟩) all0 ?_
    intro v28 T28 h28 L28' L28 W28 Q28 K28
    have z28 := K28.1
    obtain ⟨⟨o28, rfl, A28, B28⟩, -, -⟩ := Q28
    show Go p e below _ T28 (mkF m 36 #[.val (.ref a), .val (.ref b1), .val (.int (3 : Int32)), .val (.int (0 : Int32)), .val (.ref al)] [(.ref o28)])
    exact W28.retA hret rfl rfl (hb hby dOW_36) (by decide) (by decide) ⟨o28, rfl, A28, by rw [ovF, if_neg hc9]; exact B28⟩
def baseF (k : Int32) : List Int32 := (if k = (0 : Int32) then ([(97 : Int32), (108 : Int32), (108 : Int32), (111 : Int32), (119 : Int32)] : List Int32) else (if k = (1 : Int32) then ([(100 : Int32), (101 : Int32), (110 : Int32), (121 : Int32)] : List Int32) else (if k = (2 : Int32) then ([(114 : Int32), (101 : Int32), (106 : Int32), (101 : Int32), (99 : Int32), (116 : Int32)] : List Int32) else ([] : List Int32))))
def lenF (k p1 : Int32) : Int32 := (if k = (3 : Int32) then ((XT.ushr p1 (4 : Int32)) &&& (7 : Int32)) else (Int32.ofNat (baseF k).length))
def modeF (md pp cx ln : Int32) (xs : List Int32) : Int32 × List Int32 := (if md = (1 : Int32) then (if pp < ln then (ln, (xs.set pp.toNatClampNeg cx)) else (ln, xs)) else (if md = (2 : Int32) then (if (0 : Int32) < ln then ((ln - (1 : Int32)), xs) else (ln, xs)) else (if md = (3 : Int32) then ((ln + (1 : Int32)), (xs.set ln.toNatClampNeg cx)) else (ln, xs))))
--CUT plain
theorem base_nn (k : Int32) : ∀ c ∈ baseF k, ¬ c < 0 := by
  rw [baseF]; split
  · decide
  · split
    · decide
    · split <;> decide
theorem base_lat (k : Int32) : ∀ c ∈ baseF k, ¬ (255 : Int32) < c := by
  rw [baseF]; split
  · decide
  · split
    · decide
    · split <;> decide
theorem pk_lat {cs : List Int32} (H1 : ∀ c ∈ cs, ¬ (255 : Int32) < c) (H0 : ∀ c ∈ cs, ¬ c < 0) (i : Nat) (x : Int64) : ¬ pkF cs i x < 0 ∧ ¬ (255 : Int32) < pkF cs i x := by
  rw [pkF]; split
  · exact getD_all (P := fun c => ¬ c < 0 ∧ ¬ (255 : Int32) < c) (fun c hc => ⟨H0 c hc, H1 c hc⟩) (by decide) i
  · generalize XT.ushrL x _ = y
    have e : i2c ((y &&& (255 : Int64)).toInt32) = i2c (y.toInt32 &&& 255) := by
      rw [Int64.toInt32_and]; rfl
    rw [e]; exact lat_and _
theorem pk8_lat (k : Int32) (x : Int64) : ∀ c ∈ [pkF (baseF k) 0 x, pkF (baseF k) 1 x, pkF (baseF k) 2 x, pkF (baseF k) 3 x, pkF (baseF k) 4 x, pkF (baseF k) 5 x, pkF (baseF k) 6 x, pkF (baseF k) 7 x], ¬ c < 0 ∧ ¬ (255 : Int32) < c := by
  intro c hc
  simp only [List.mem_cons, List.not_mem_nil, or_false] at hc
  rcases hc with rfl | rfl | rfl | rfl | rfl | rfl | rfl | rfl <;> exact pk_lat (base_lat k) (base_nn k) _ _
theorem set_lat {xs : List Int32} {P : Int32 → Prop} (H : ∀ c ∈ xs, P c) {x : Int32} (hx : P x) (i : Nat) : ∀ c ∈ xs.set i x, P c := fun c hc => (List.mem_or_eq_of_mem_set hc).elim (H c) (fun e => e ▸ hx)
theorem mode_lat {md pp cx ln : Int32} {xs : List Int32} (hx : ¬ cx < 0 ∧ ¬ (255 : Int32) < cx) (H : ∀ c ∈ xs, ¬ c < 0 ∧ ¬ (255 : Int32) < c) : ∀ c ∈ (modeF md pp cx ln xs).2, ¬ c < 0 ∧ ¬ (255 : Int32) < c := by
  rw [modeF]
  repeat' split
  all_goals first | exact H | exact set_lat H hx _
theorem nat_of_and {x : Int32} {m : Nat} (hm : m < 2 ^ 31) : ∃ k : Nat, k ≤ m ∧ x &&& Int32.ofNat m = Int32.ofNat k := by
  have h1 := and_toInt x m hm
  have h2 : (x.toBitVec.toNat &&& m) ≤ m := Nat.and_le_right
  refine ⟨x.toBitVec.toNat &&& m, h2, ?_⟩
  apply Int32.toInt_inj.mp
  rw [ofNat_toInt (by omega)]; exact h1
theorem in8 {k : Nat} (h : k ≤ 7) : (¬ Int32.ofNat k < 0 ∧ Int32.ofNat k < (8 : Int32)) ∧ (Int32.ofNat k).toNatClampNeg < 8 :=
  ⟨⟨ofNat_nn (by omega), (ofNat_lt (k := 8) (by omega) (by omega)).mpr (by omega)⟩, by rw [clN (by omega)]; omega⟩
theorem pp_in {p3 pp : Int32} (h : pp = (p3 &&& (7 : Int32))) : (¬ pp < 0 ∧ pp < (8 : Int32)) ∧ pp.toNatClampNeg < 8 := by
  obtain ⟨k, h1, h2⟩ := nat_of_and (x := p3) (m := 7) (by decide)
  rw [h, show (7 : Int32) = Int32.ofNat 7 from rfl, h2]; exact in8 h1
theorem ln_le {k p1 ln : Int32} (hk : ∃ n : Nat, n < 4 ∧ k = Int32.ofNat n) (h : ln = lenF k p1) : ∃ n : Nat, n ≤ 7 ∧ ln = Int32.ofNat n := by
  rw [h, lenF]; split
  · exact nat_of_and (m := 7) (by decide)
  · refine ⟨(baseF k).length, ?_, rfl⟩
    rw [baseF]; split
    · decide
    · split
      · decide
      · split <;> decide
theorem ln_in {ln : Int32} (h : ∃ n : Nat, n ≤ 7 ∧ ln = Int32.ofNat n) : (¬ ln < 0 ∧ ln < (8 : Int32)) ∧ ln.toNatClampNeg < 8 := by
  obtain ⟨n, h1, rfl⟩ := h; exact in8 h1
theorem px_len (n : Int32) (bl : List Int32) : (pxF n bl).length ≤ 8 := by
  rw [pxF]; repeat' split
  all_goals simp
theorem px_lat {n : Int32} {bl : List Int32} (H : ∀ c ∈ bl, ¬ c < 0 ∧ ¬ (255 : Int32) < c) : ∀ c ∈ pxF n bl, ¬ c < 0 ∧ ¬ (255 : Int32) < c := by
  have A : ∀ i, ¬ bl.getD i 0 < 0 ∧ ¬ (255 : Int32) < bl.getD i 0 := fun i => getD_all (P := fun c => ¬ c < 0 ∧ ¬ (255 : Int32) < c) H (by decide) i
  rw [pxF]; repeat' split
  all_goals first | exact mem0 | exact (memS (A 0) mem0) | exact (memS (A 0) (memS (A 1) mem0)) | exact (memS (A 0) (memS (A 1) (memS (A 2) mem0))) | exact (memS (A 0) (memS (A 1) (memS (A 2) (memS (A 3) mem0)))) | exact (memS (A 0) (memS (A 1) (memS (A 2) (memS (A 3) (memS (A 4) mem0))))) | exact (memS (A 0) (memS (A 1) (memS (A 2) (memS (A 3) (memS (A 4) (memS (A 5) mem0)))))) | exact (memS (A 0) (memS (A 1) (memS (A 2) (memS (A 3) (memS (A 4) (memS (A 5) (memS (A 6) mem0))))))) | exact (memS (A 0) (memS (A 1) (memS (A 2) (memS (A 3) (memS (A 4) (memS (A 5) (memS (A 6) (memS (A 7) mem0))))))))
theorem ite1 {p : Prop} [Decidable p] (h : ¬ (if p then (1 : Int32) else 0) = 0) : p := Classical.byContradiction fun q => h (by rw [if_neg q])
theorem ite0 {p : Prop} [Decidable p] (h : (if p then (1 : Int32) else 0) = 0) : ¬ p := fun q => by rw [if_pos q] at h; exact absurd h (by decide)
theorem fl {cs ds : List Int32} (h : (if cs = ds then (1 : Int32) else 0) = 0) : (if ds = cs then (1 : Int32) else 0) = 0 := by rw [if_neg (fun q => ite0 h q.symm)]
theorem ov_al {cs : List Int32} {al de re : Addr} (h1 : ¬ (if cs = ([97, 108, 108, 111, 119] : List Int32) then (1 : Int32) else 0) = 0) : ovF cs al de re = .ref al := by
  rw [ite1 h1]; simp +decide [ovF]
theorem ov_de {cs : List Int32} {al de re : Addr} (h1 : (if cs = ([97, 108, 108, 111, 119] : List Int32) then (1 : Int32) else 0) = 0) (h2 : ¬ (if cs = ([100, 101, 110, 121] : List Int32) then (1 : Int32) else 0) = 0) : ovF cs al de re = .ref de := by
  rw [ite1 h2]; simp +decide [ovF]
theorem ov_re {cs : List Int32} {al de re : Addr} (h1 : (if cs = ([97, 108, 108, 111, 119] : List Int32) then (1 : Int32) else 0) = 0) (h2 : (if cs = ([100, 101, 110, 121] : List Int32) then (1 : Int32) else 0) = 0) (h3 : ¬ (if cs = ([114, 101, 106, 101, 99, 116] : List Int32) then (1 : Int32) else 0) = 0) : ovF cs al de re = .ref re := by
  rw [ite1 h3]; simp +decide [ovF]
theorem ov_no {cs : List Int32} {al de re : Addr} (h1 : (if cs = ([97, 108, 108, 111, 119] : List Int32) then (1 : Int32) else 0) = 0) (h2 : (if cs = ([100, 101, 110, 121] : List Int32) then (1 : Int32) else 0) = 0) (h3 : (if cs = ([114, 101, 106, 101, 99, 116] : List Int32) then (1 : Int32) else 0) = 0) : ovF cs al de re = .null := by
  rw [ovF, if_pos (fl h1), if_pos (fl h2), if_pos (fl h3)]
--CUT law
theorem pd_bd27faa8 : parseMethodDescriptor "(Ljava/lang/String;IJ)C" = some ⟨[(.object "java/lang/String"), .int, .long], some .char⟩ := by decide +kernel
theorem pd_b007beee : parseMethodDescriptor "([CI)[C" = some ⟨[(.array .char), .int], some (.array .char)⟩ := by decide +kernel
theorem pd_827e2587 : parseMethodDescriptor "([C)V" = some ⟨[(.array .char)], none⟩ := by decide +kernel
theorem pd_f4991ca4 : parseMethodDescriptor "(Ljava/lang/String;)Ljava/util/Optional;" = some ⟨[(.object "java/lang/String")], some (.object "java/util/Optional")⟩ := by decide +kernel
theorem pn_Law : plainFor (⟨"dev/rolegate/model/DecisionOfWordPinLaw", "law", "(IIIJ)Z"⟩ : MethodName) = true := by first | exact plainFor_of_name (by first | (simp [plainName, overriddenIn]; done) | decide +kernel) | decide +kernel
set_option maxRecDepth 65536 in
set_option maxHeartbeats 40000000 in
theorem rmLaw (l : Launch) (Z : State) (a0 : Array Value) (hw : ∀ d ∈ tables_1, d.before a0 Z = true) (hEL : EW Z a0 consts_1) (p1 p2 p3 zc : Int32) (p4 : Int64) (fm : Value) (va al de re s1 s2 s3 em : Addr) (kv : ClassId) (h0 : Heap) (n0 : Nat) (Z0 : n0 ≤ h0.size) (STal : Sta Z h0 "dev/rolegate/model/Decision" "ALLOW" "Ldev/rolegate/model/Decision;" (.ref al)) (STde : Sta Z h0 "dev/rolegate/model/Decision" "DENY" "Ldev/rolegate/model/Decision;" (.ref de)) (STre : Sta Z h0 "dev/rolegate/model/Decision" "REJECT" "Ldev/rolegate/model/Decision;" (.ref re)) (SV : Sta Z h0 "dev/rolegate/model/Decision" "$VALUES" "[Ldev/rolegate/model/Decision;" (.ref va)) (AV : Arv Z h0 va kv (.object "dev/rolegate/model/Decision") (3 : Int32) [(.ref al), (.ref de), (.ref re)] .null) (EV : Exa Z h0 va "[Ldev/rolegate/model/Decision;") (DX1 : Exa Z h0 al "dev/rolegate/model/Decision") (FX1 : Fld Z h0 al "dev/rolegate/model/Decision" "word" "Ljava/lang/String;" (.ref s1)) (TW1 : StrA Z h0 s1 ([97, 108, 108, 111, 119] : List Int32)) (DX2 : Exa Z h0 de "dev/rolegate/model/Decision") (FX2 : Fld Z h0 de "dev/rolegate/model/Decision" "word" "Ljava/lang/String;" (.ref s2)) (TW2 : StrA Z h0 s2 ([100, 101, 110, 121] : List Int32)) (DX3 : Exa Z h0 re "dev/rolegate/model/Decision") (FX3 : Fld Z h0 re "dev/rolegate/model/Decision" "word" "Ljava/lang/String;" (.ref s3)) (TW3 : StrA Z h0 s3 ([114, 101, 106, 101, 99, 116] : List Int32)) (SE : Sta Z h0 "java/util/Optional" "EMPTY" "Ljava/util/Optional;" (.ref em)) (EE : Exa Z h0 em "java/util/Optional") (FE : Fld Z h0 em "java/util/Optional" "value" "Ljava/lang/Object;" .null) (SC : Sta Z h0 "java/lang/String" "COMPACT_STRINGS" "Z" (.int zc)) (hz : ¬ zc = 0) (SF : Sta Z h0 "jdk/internal/util/Preconditions" "SIOOBE_FORMATTER" "Ljava/util/function/BiFunction;" fm) (rfm : fm.isRef = true) :
    WM l x code maxLocals ret tables_1 room_1 Z consts_1 n0 #[(.int p1), (.int p2), (.int p3), (.long p4)] h0 [] (fun v h => v = some (.int 1) ∧ True) := by
  refine WM.walk (Ls := #[.val (.int p1), .val (.int p2), .val (.int p3), .val (.long p4), .second, .unset, .unset, .unset, .unset, .unset, .unset, .unset, .unset, .unset, .unset, .unset]) pn_Law Z0 (fun m => by first | (simp [entryFrame, mkF, argsToLocals, Value.category, maxLocals]; done) | rfl) ?_
  intro p e s m below meth c s₁ hby hml hret hnm W0
  have hwS : ∀ d ∈ Bundle.stringAtoms, d.before a0 Z = true := fun d hd => hw d (hwAtoms d hd)
  refine W0.1.iloadN (hb hby at_0) rfl (pc' := 1) rfl ?_
  refine W0.1.ldcI (hb hby at_1) (hw _ (List.mem_of_getElem? (i := 0) rfl)) (pc' := 3) rfl ?_
  refine W0.1.iand (hb hby at_3) (pc' := 4) rfl ?_
  refine W0.1.iconst (4 : Int32) (hb hby at_4) rfl (pc' := 5) rfl ?_
  refine W0.1.irem (hb hby at_5) (by decide) (pc' := 6) rfl ?_
  refine lets (P := fun z => Go _ _ _ _ _ (mkF m 6 #[.val (.int p1), .val (.int p2), .val (.int p3), .val (.long p4), .second, .unset, .unset, .unset, .unset, .unset, .unset, .unset, .unset, .unset, .unset, .unset] [(.int z)])) ((p1 &&& (2147483647 : Int32)) % (4 : Int32)) ?_
  intro k hk
  refine W0.1.istore (Ls' := #[.val (.int p1), .val (.int p2), .val (.int p3), .val (.long p4), .second, .val (.int k), .unset, .unset, .unset, .unset, .unset, .unset, .unset, .unset, .unset, .unset]) (hb hby at_6) rfl (pc' := 8) rfl ?_
  suffices kk1 : ∀ (T' : State) (L' : List Loc) (h' : Heap) (vm' : Vm) (bs : Addr), Ext h0 h' → StrA Z h' bs (baseF k) → WK consts_1 p l e room_1 s m #[(.int p1), (.int p2), (.int p3), (.long p4)] below meth c Z "dev/rolegate/model/DecisionOfWordPinLaw" n0 h0 [] T' h' vm' L' 2 28 → Go p e below _ T' (mkF m 42 #[.val (.int p1), .val (.int p2), .val (.int p3), .val (.long p4), .second, .val (.int k), .unset, .unset, .unset, .unset, .unset, .unset, .unset, .unset, .unset, .unset] [(.ref bs)]) by
    refine W0.1.iload (hb hby at_8) rfl (pc' := 10) rfl ?_
    by_cases hc2 : k = (0 : Int32)
    · refine W0.1.ifNo (hb hby at_10) (XT.i0_ne_f hc2) (pc' := 13) rfl ?_
      refine W0.ldcS hEL (hw _ (List.mem_of_getElem? (i := 1) rfl)) hwS (by decide) (vs := [(.int (97 : Int32)), (.int (108 : Int32)), (.int (108 : Int32)), (.int (111 : Int32)), (.int (119 : Int32))]) (z := (5 : Int32)) ⟨by decide, by decide⟩ (by decide) rfl (hb hby at_13) (pc' := 15) rfl (n := 20) (by decide) (by decide) (by decide) (by decide) ?_
      intro T3 h3 vm3 a3 b3 k3 W3 E3 C3 A3 B3 D3 V3 hne3
      have z3 := E3.1
      have S3 : StrA Z h3 a3 ([(97 : Int32), (108 : Int32), (108 : Int32), (111 : Int32), (119 : Int32)] : List Int32) := StrA.make A3 B3 D3 V3 rfl (Nat.le_of_ble_eq_true rfl) (by decide)
      refine W3.1.goto (hb hby at_15) (by decide) (pc' := 42) (by decide) ?_
      exact kk1 _ _ _ _ a3 E3 (by rw [baseF, if_pos hc2]; exact S3) (WK.mono W3 (by decide) (by decide))
    · refine W0.1.ifYes (hb hby at_10) (XT.i0_ne_t hc2) (by decide) (pc' := 18) (by decide) ?_
      refine W0.1.iload (hb hby at_18) rfl (pc' := 20) rfl ?_
      refine W0.1.iconst (1 : Int32) (hb hby at_20) rfl (pc' := 21) rfl ?_
      by_cases hc4 : k = (1 : Int32)
      · refine W0.1.icmpNo (hb hby at_21) (XT.ii_ne_f hc4) (pc' := 24) rfl ?_
        refine W0.ldcS hEL (hw _ (List.mem_of_getElem? (i := 83) rfl)) hwS (by decide) (vs := [(.int (100 : Int32)), (.int (101 : Int32)), (.int (110 : Int32)), (.int (121 : Int32))]) (z := (4 : Int32)) ⟨by decide, by decide⟩ (by decide) rfl (hb hby at_24) (pc' := 26) rfl (n := 16) (by decide) (by decide) (by decide) (by decide) ?_
        intro T5 h5 vm5 a5 b5 k5 W5 E5 C5 A5 B5 D5 V5 hne5
        have z5 := E5.1
        have S5 : StrA Z h5 a5 ([(100 : Int32), (101 : Int32), (110 : Int32), (121 : Int32)] : List Int32) := StrA.make A5 B5 D5 V5 rfl (Nat.le_of_ble_eq_true rfl) (by decide)
        refine W5.1.goto (hb hby at_26) (by decide) (pc' := 42) (by decide) ?_
        exact kk1 _ _ _ _ a5 E5 (by rw [baseF, if_neg hc2, if_pos hc4]; exact S5) (WK.mono W5 (by decide) (by decide))
      · refine W0.1.icmpYes (hb hby at_21) (XT.ii_ne_t hc4) (by decide) (pc' := 29) (by decide) ?_
        refine W0.1.iload (hb hby at_29) rfl (pc' := 31) rfl ?_
        refine W0.1.iconst (2 : Int32) (hb hby at_31) rfl (pc' := 32) rfl ?_
        by_cases hc6 : k = (2 : Int32)
        · refine W0.1.icmpNo (hb hby at_32) (XT.ii_ne_f hc6) (pc' := 35) rfl ?_
          refine W0.ldcS hEL (hw _ (List.mem_of_getElem? (i := 84) rfl)) hwS (by decide) (vs := [(.int (114 : Int32)), (.int (101 : Int32)), (.int (106 : Int32)), (.int (101 : Int32)), (.int (99 : Int32)), (.int (116 : Int32))]) (z := (6 : Int32)) ⟨by decide, by decide⟩ (by decide) rfl (hb hby at_35) (pc' := 37) rfl (n := 24) (by decide) (by decide) (by decide) (by decide) ?_
          intro T7 h7 vm7 a7 b7 k7 W7 E7 C7 A7 B7 D7 V7 hne7
          have z7 := E7.1
          have S7 : StrA Z h7 a7 ([(114 : Int32), (101 : Int32), (106 : Int32), (101 : Int32), (99 : Int32), (116 : Int32)] : List Int32) := StrA.make A7 B7 D7 V7 rfl (Nat.le_of_ble_eq_true rfl) (by decide)
          refine W7.1.goto (hb hby at_37) (by decide) (pc' := 42) (by decide) ?_
          exact kk1 _ _ _ _ a7 E7 (by rw [baseF, if_neg hc2, if_neg hc4, if_pos hc6]; exact S7) (WK.mono W7 (by decide) (by decide))
        · refine W0.1.icmpYes (hb hby at_32) (XT.ii_ne_t hc6) (by decide) (pc' := 40) (by decide) ?_
          refine W0.ldcS hEL (hw _ (List.mem_of_getElem? (i := 127) rfl)) hwS (by decide) (vs := []) (z := (0 : Int32)) ⟨by decide, by decide⟩ (by decide) rfl (hb hby at_40) (pc' := 42) rfl (n := 0) (by decide) (by decide) (by decide) (by decide) ?_
          intro T8 h8 vm8 a8 b8 k8 W8 E8 C8 A8 B8 D8 V8 hne8
          have z8 := E8.1
          have S8 : StrA Z h8 a8 ([] : List Int32) := StrA.make A8 B8 D8 V8 rfl (Nat.le_of_ble_eq_true rfl) (by decide)
          exact kk1 _ _ _ _ a8 E8 (by rw [baseF, if_neg hc2, if_neg hc4, if_neg hc6]; exact S8) (WK.mono W8 (by decide) (by decide))
  intro T1 L1 h1 vm1 bs E1 S1 W1
  have z1 := E1.1
  refine W1.1.astore (Ls' := #[.val (.int p1), .val (.int p2), .val (.int p3), .val (.long p4), .second, .val (.int k), .val (.ref bs), .unset, .unset, .unset, .unset, .unset, .unset, .unset, .unset, .unset]) (hb hby at_42) rfl rfl (pc' := 44) rfl ?_
  suffices kk9 : ∀ (T' : State) (L' : List Loc), WK consts_1 p l e room_1 s m #[(.int p1), (.int p2), (.int p3), (.long p4)] below meth c Z "dev/rolegate/model/DecisionOfWordPinLaw" n0 h0 [] T' h1 vm1 L' 2 28 → Go p e below _ T' (mkF m 64 #[.val (.int p1), .val (.int p2), .val (.int p3), .val (.long p4), .second, .val (.int k), .val (.ref bs), .unset, .unset, .unset, .unset, .unset, .unset, .unset, .unset, .unset] [(.int (lenF k p1))]) by
    refine W1.1.iload (hb hby at_44) rfl (pc' := 46) rfl ?_
    refine W1.1.iconst (3 : Int32) (hb hby at_46) rfl (pc' := 47) rfl ?_
    by_cases hc10 : k = (3 : Int32)
    · refine W1.1.icmpNo (hb hby at_47) (XT.ii_ne_f hc10) (pc' := 50) rfl ?_
      refine W1.1.iloadN (hb hby at_50) rfl (pc' := 51) rfl ?_
      refine W1.1.iconst (4 : Int32) (hb hby at_51) rfl (pc' := 52) rfl ?_
      refine W1.1.iushr (hb hby at_52) (pc' := 53) rfl ?_
      refine W1.1.bipush (7 : Int32) (hb hby at_53) rfl (pc' := 55) rfl ?_
      refine W1.1.iand (hb hby at_55) (pc' := 56) rfl ?_
      refine W1.1.goto (hb hby at_56) (by decide) (pc' := 64) (by decide) ?_
      have q9 := kk9 _ _ W1
      rw [show (lenF k p1) = ((XT.ushr p1 (4 : Int32)) &&& (7 : Int32)) from by rw [lenF, if_pos hc10]] at q9
      exact q9
    · refine W1.1.icmpYes (hb hby at_47) (XT.ii_ne_t hc10) (by decide) (pc' := 59) (by decide) ?_
      refine W1.1.aload (hb hby at_59) rfl rfl (pc' := 61) rfl ?_
      have F12 := Sta.ext E1 SC
      refine W1.1.callVP (y := (⟨"java/lang/String", "length", "()I"⟩ : MethodName)) (z := (⟨"java/lang/String", "length", "()I"⟩ : MethodName)) (hw _ (List.mem_of_getElem? (i := 9) rfl)) (hw _ (List.mem_of_getElem? (i := 10) rfl)) (hw _ (List.mem_of_getElem? (i := 12) rfl)) (hw _ (List.mem_of_getElem? (i := 12) rfl)) (hw _ (List.mem_of_getElem? (i := 11) rfl)) (by decide) (StrA.lenB (wd := 0) S1 W1.1.2.2.2.1 hw (hw _ (List.mem_of_getElem? (i := 3) rfl)) F12 hz (by decide) (by decide)) S1.1 (hb hby at_61) (pc' := 64) rfl hml (argsL := []) rfl (lenOf pd_368a4b19 rfl) rfl (Nat.le_of_ble_eq_true rfl) (by decide) (by decide) (fun _ _ _ q => pu_nil q) ?_
      intro T11 L11 N11
      have W11 := W1.same N11
      show Go p e below _ T11 (mkF m 64 #[.val (.int p1), .val (.int p2), .val (.int p3), .val (.long p4), .second, .val (.int k), .val (.ref bs), .unset, .unset, .unset, .unset, .unset, .unset, .unset, .unset, .unset] [(.int (Int32.ofNat (baseF k).length))])
      have q9 := kk9 _ _ W11
      rw [show (lenF k p1) = (Int32.ofNat (baseF k).length) from by rw [lenF, if_neg hc10]] at q9
      exact q9
  intro T9 L9 W9
  refine lets (P := fun z => Go _ _ _ _ _ (mkF m 64 #[.val (.int p1), .val (.int p2), .val (.int p3), .val (.long p4), .second, .val (.int k), .val (.ref bs), .unset, .unset, .unset, .unset, .unset, .unset, .unset, .unset, .unset] [(.int z)])) (lenF k p1) ?_
  intro ln hln
  refine W9.1.istore (Ls' := #[.val (.int p1), .val (.int p2), .val (.int p3), .val (.long p4), .second, .val (.int k), .val (.ref bs), .val (.int ln), .unset, .unset, .unset, .unset, .unset, .unset, .unset, .unset]) (hb hby at_64) rfl (pc' := 66) rfl ?_
  refine W9.1.bipush (8 : Int32) (hb hby at_66) rfl (pc' := 68) rfl ?_
  refine W9.1.newP (hw _ (List.mem_of_getElem? (i := 22) rfl)) (hb hby at_68) (pc' := 70) rfl (by decide) (cap := 8) (by decide) (by decide) (by decide) (by decide) ?_
  intro T13 h13 a13 k13 g13 ge13 gn13 N13 E13 V13'
  have V13 : Arv Z h13 a13 k13 .char (8 : Int32) [(.int (0 : Int32)), (.int (0 : Int32)), (.int (0 : Int32)), (.int (0 : Int32)), (.int (0 : Int32)), (.int (0 : Int32)), (.int (0 : Int32)), (.int (0 : Int32))] (.int (0 : Int32)) := V13'
  have z13 := E13.1
  have y13 := Nat.le_of_eq g13.symm
  have W13 := W9.upE N13 E13
  refine W13.1.astore (Ls' := #[.val (.int p1), .val (.int p2), .val (.int p3), .val (.long p4), .second, .val (.int k), .val (.ref bs), .val (.int ln), .val (.ref a13), .unset, .unset, .unset, .unset, .unset, .unset, .unset]) (hb hby at_70) rfl rfl (pc' := 72) rfl ?_
  refine W13.1.aload (hb hby at_72) rfl rfl (pc' := 74) rfl ?_
  refine W13.1.iconst (0 : Int32) (hb hby at_74) rfl (pc' := 75) rfl ?_
  refine W13.1.aload (hb hby at_75) rfl rfl (pc' := 77) rfl ?_
  refine W13.1.iconst (0 : Int32) (hb hby at_77) rfl (pc' := 78) rfl ?_
  refine W13.1.lloadN (hb hby at_78) rfl (pc' := 79) rfl ?_
  have F15 := StrA.ext S1 E13
  have X0_2_16 : Ext h0 h13 := Keep.toExt (((Keep.refl h0 []).ext E1).ext E13)
  have zX0_2_16 := X0_2_16.1
  have F17 := Sta.ext X0_2_16 SC
  have F18 := Sta.ext X0_2_16 SF
  refine W13.1.callSP (hw _ (List.mem_of_getElem? (i := 23) rfl)) (hw _ (List.mem_of_getElem? (i := 24) rfl)) (hw _ (List.mem_of_getElem? (i := 25) rfl)) (hw _ (List.mem_of_getElem? (i := 26) rfl)) (by decide) (NM.bk (wd := 2) (rmPK l Z a0 hw bs (baseF k) 0 p4 zc fm h13 n0 W13.1.n0h F15 (base_lat k) (by decide) F17 hz F18 rfm) W13.1.2.2.2.1 (hw _ (List.mem_of_getElem? (i := 26) rfl)) (hw _ (List.mem_of_getElem? (i := 25) rfl)) (by decide) (by decide)) (hb hby at_79) (pc' := 82) rfl hml (argsL := [(.ref bs), (.int (0 : Int32)), (.long p4)]) rfl (lenOf pd_bd27faa8 rfl) rfl (Nat.le_of_ble_eq_true rfl) (by decide) (by decide) (fun _ _ _ q => pu_of q) ?_
  intro T14 L14 N14
  have W14 := W13.same N14
  show Go p e below _ T14 (mkF m 82 #[.val (.int p1), .val (.int p2), .val (.int p3), .val (.long p4), .second, .val (.int k), .val (.ref bs), .val (.int ln), .val (.ref a13), .unset, .unset, .unset, .unset, .unset, .unset, .unset] [(.int (pkF (baseF k) 0 p4)), (.int (0 : Int32)), (.ref a13)])
  refine W14.1.stC V13 (hb hby at_82) (pc' := 83) rfl (nar_lat (pk_lat (base_lat k) (base_nn k) _ _)) 0 rfl (Nat.le_of_ble_eq_true rfl) (by decide) (Or.inr ge13) gn13 ?_
  intro T19 h19 L19 N19 K19 V19'
  have V19 : Arv Z h19 a13 k13 .char (8 : Int32) [(.int (pkF (baseF k) 0 p4)), (.int (0 : Int32)), (.int (0 : Int32)), (.int (0 : Int32)), (.int (0 : Int32)), (.int (0 : Int32)), (.int (0 : Int32)), (.int (0 : Int32))] (.int (0 : Int32)) := V19'
  have z19 := K19.1
  have W19 := W14.up N19 K19 (sfS (Safe.arv (EL := consts_1) W14.1.2.2.2.1.alike V13 (by decide)) sf0)
  refine W19.1.aload (hb hby at_83) rfl rfl (pc' := 85) rfl ?_
  refine W19.1.iconst (1 : Int32) (hb hby at_85) rfl (pc' := 86) rfl ?_
  refine W19.1.aload (hb hby at_86) rfl rfl (pc' := 88) rfl ?_
  refine W19.1.iconst (1 : Int32) (hb hby at_88) rfl (pc' := 89) rfl ?_
  refine W19.1.lloadN (hb hby at_89) rfl (pc' := 90) rfl ?_
  have X1_3_21 : Ext h1 h19 := Keep.toExt (((Keep.refl h1 []).ext E13).trans K19 (allS (Or.inr (by have := y13; omega)) all0))
  have zX1_3_21 := X1_3_21.1
  have F22 := StrA.ext S1 X1_3_21
  have X0_3_23 : Ext h0 h19 := Keep.toExt ((((Keep.refl h0 []).ext E1).ext E13).trans K19 (allS (Or.inr (by have := y13; omega)) all0))
  have zX0_3_23 := X0_3_23.1
  have F24 := Sta.ext X0_3_23 SC
  have F25 := Sta.ext X0_3_23 SF
  refine W19.1.callSP (hw _ (List.mem_of_getElem? (i := 23) rfl)) (hw _ (List.mem_of_getElem? (i := 24) rfl)) (hw _ (List.mem_of_getElem? (i := 25) rfl)) (hw _ (List.mem_of_getElem? (i := 26) rfl)) (by decide) (NM.bk (wd := 2) (rmPK l Z a0 hw bs (baseF k) 1 p4 zc fm h19 n0 W19.1.n0h F22 (base_lat k) (by decide) F24 hz F25 rfm) W19.1.2.2.2.1 (hw _ (List.mem_of_getElem? (i := 26) rfl)) (hw _ (List.mem_of_getElem? (i := 25) rfl)) (by decide) (by decide)) (hb hby at_90) (pc' := 93) rfl hml (argsL := [(.ref bs), (.int (1 : Int32)), (.long p4)]) rfl (lenOf pd_bd27faa8 rfl) rfl (Nat.le_of_ble_eq_true rfl) (by decide) (by decide) (fun _ _ _ q => pu_of q) ?_
  intro T20 L20 N20
  have W20 := W19.same N20
  show Go p e below _ T20 (mkF m 93 #[.val (.int p1), .val (.int p2), .val (.int p3), .val (.long p4), .second, .val (.int k), .val (.ref bs), .val (.int ln), .val (.ref a13), .unset, .unset, .unset, .unset, .unset, .unset, .unset] [(.int (pkF (baseF k) 1 p4)), (.int (1 : Int32)), (.ref a13)])
  refine W20.1.stC V19 (hb hby at_93) (pc' := 94) rfl (nar_lat (pk_lat (base_lat k) (base_nn k) _ _)) 1 rfl (Nat.le_of_ble_eq_true rfl) (by decide) (Or.inr ge13) gn13 ?_
  intro T26 h26 L26 N26 K26 V26'
  have V26 : Arv Z h26 a13 k13 .char (8 : Int32) [(.int (pkF (baseF k) 0 p4)), (.int (pkF (baseF k) 1 p4)), (.int (0 : Int32)), (.int (0 : Int32)), (.int (0 : Int32)), (.int (0 : Int32)), (.int (0 : Int32)), (.int (0 : Int32))] (.int (0 : Int32)) := V26'
  have z26 := K26.1
  have W26 := W20.up N26 K26 (sfS (Safe.arv (EL := consts_1) W20.1.2.2.2.1.alike V19 (by decide)) sf0)
  refine W26.1.aload (hb hby at_94) rfl rfl (pc' := 96) rfl ?_
  refine W26.1.iconst (2 : Int32) (hb hby at_96) rfl (pc' := 97) rfl ?_
  refine W26.1.aload (hb hby at_97) rfl rfl (pc' := 99) rfl ?_
  refine W26.1.iconst (2 : Int32) (hb hby at_99) rfl (pc' := 100) rfl ?_
  refine W26.1.lloadN (hb hby at_100) rfl (pc' := 101) rfl ?_
  have X1_4_28 : Ext h1 h26 := Keep.toExt ((((Keep.refl h1 []).ext E13).trans K19 (allS (Or.inr (by have := y13; omega)) all0)).trans K26 (allS (Or.inr (by have := y13; omega)) all0))
  have zX1_4_28 := X1_4_28.1
  have F29 := StrA.ext S1 X1_4_28
  have X0_4_30 : Ext h0 h26 := Keep.toExt (((((Keep.refl h0 []).ext E1).ext E13).trans K19 (allS (Or.inr (by have := y13; omega)) all0)).trans K26 (allS (Or.inr (by have := y13; omega)) all0))
  have zX0_4_30 := X0_4_30.1
  have F31 := Sta.ext X0_4_30 SC
  have F32 := Sta.ext X0_4_30 SF
  refine W26.1.callSP (hw _ (List.mem_of_getElem? (i := 23) rfl)) (hw _ (List.mem_of_getElem? (i := 24) rfl)) (hw _ (List.mem_of_getElem? (i := 25) rfl)) (hw _ (List.mem_of_getElem? (i := 26) rfl)) (by decide) (NM.bk (wd := 2) (rmPK l Z a0 hw bs (baseF k) 2 p4 zc fm h26 n0 W26.1.n0h F29 (base_lat k) (by decide) F31 hz F32 rfm) W26.1.2.2.2.1 (hw _ (List.mem_of_getElem? (i := 26) rfl)) (hw _ (List.mem_of_getElem? (i := 25) rfl)) (by decide) (by decide)) (hb hby at_101) (pc' := 104) rfl hml (argsL := [(.ref bs), (.int (2 : Int32)), (.long p4)]) rfl (lenOf pd_bd27faa8 rfl) rfl (Nat.le_of_ble_eq_true rfl) (by decide) (by decide) (fun _ _ _ q => pu_of q) ?_
  intro T27 L27 N27
  have W27 := W26.same N27
  show Go p e below _ T27 (mkF m 104 #[.val (.int p1), .val (.int p2), .val (.int p3), .val (.long p4), .second, .val (.int k), .val (.ref bs), .val (.int ln), .val (.ref a13), .unset, .unset, .unset, .unset, .unset, .unset, .unset] [(.int (pkF (baseF k) 2 p4)), (.int (2 : Int32)), (.ref a13)])
  refine W27.1.stC V26 (hb hby at_104) (pc' := 105) rfl (nar_lat (pk_lat (base_lat k) (base_nn k) _ _)) 2 rfl (Nat.le_of_ble_eq_true rfl) (by decide) (Or.inr ge13) gn13 ?_
  intro T33 h33 L33 N33 K33 V33'
  have V33 : Arv Z h33 a13 k13 .char (8 : Int32) [(.int (pkF (baseF k) 0 p4)), (.int (pkF (baseF k) 1 p4)), (.int (pkF (baseF k) 2 p4)), (.int (0 : Int32)), (.int (0 : Int32)), (.int (0 : Int32)), (.int (0 : Int32)), (.int (0 : Int32))] (.int (0 : Int32)) := V33'
  have z33 := K33.1
  have W33 := W27.up N33 K33 (sfS (Safe.arv (EL := consts_1) W27.1.2.2.2.1.alike V26 (by decide)) sf0)
  refine W33.1.aload (hb hby at_105) rfl rfl (pc' := 107) rfl ?_
  refine W33.1.iconst (3 : Int32) (hb hby at_107) rfl (pc' := 108) rfl ?_
  refine W33.1.aload (hb hby at_108) rfl rfl (pc' := 110) rfl ?_
  refine W33.1.iconst (3 : Int32) (hb hby at_110) rfl (pc' := 111) rfl ?_
  refine W33.1.lloadN (hb hby at_111) rfl (pc' := 112) rfl ?_
  have X1_5_35 : Ext h1 h33 := Keep.toExt (((((Keep.refl h1 []).ext E13).trans K19 (allS (Or.inr (by have := y13; omega)) all0)).trans K26 (allS (Or.inr (by have := y13; omega)) all0)).trans K33 (allS (Or.inr (by have := y13; omega)) all0))
  have zX1_5_35 := X1_5_35.1
  have F36 := StrA.ext S1 X1_5_35
  have X0_5_37 : Ext h0 h33 := Keep.toExt ((((((Keep.refl h0 []).ext E1).ext E13).trans K19 (allS (Or.inr (by have := y13; omega)) all0)).trans K26 (allS (Or.inr (by have := y13; omega)) all0)).trans K33 (allS (Or.inr (by have := y13; omega)) all0))
  have zX0_5_37 := X0_5_37.1
  have F38 := Sta.ext X0_5_37 SC
  have F39 := Sta.ext X0_5_37 SF
  refine W33.1.callSP (hw _ (List.mem_of_getElem? (i := 23) rfl)) (hw _ (List.mem_of_getElem? (i := 24) rfl)) (hw _ (List.mem_of_getElem? (i := 25) rfl)) (hw _ (List.mem_of_getElem? (i := 26) rfl)) (by decide) (NM.bk (wd := 2) (rmPK l Z a0 hw bs (baseF k) 3 p4 zc fm h33 n0 W33.1.n0h F36 (base_lat k) (by decide) F38 hz F39 rfm) W33.1.2.2.2.1 (hw _ (List.mem_of_getElem? (i := 26) rfl)) (hw _ (List.mem_of_getElem? (i := 25) rfl)) (by decide) (by decide)) (hb hby at_112) (pc' := 115) rfl hml (argsL := [(.ref bs), (.int (3 : Int32)), (.long p4)]) rfl (lenOf pd_bd27faa8 rfl) rfl (Nat.le_of_ble_eq_true rfl) (by decide) (by decide) (fun _ _ _ q => pu_of q) ?_
  intro T34 L34 N34
  have W34 := W33.same N34
  show Go p e below _ T34 (mkF m 115 #[.val (.int p1), .val (.int p2), .val (.int p3), .val (.long p4), .second, .val (.int k), .val (.ref bs), .val (.int ln), .val (.ref a13), .unset, .unset, .unset, .unset, .unset, .unset, .unset] [(.int (pkF (baseF k) 3 p4)), (.int (3 : Int32)), (.ref a13)])
  refine W34.1.stC V33 (hb hby at_115) (pc' := 116) rfl (nar_lat (pk_lat (base_lat k) (base_nn k) _ _)) 3 rfl (Nat.le_of_ble_eq_true rfl) (by decide) (Or.inr ge13) gn13 ?_
  intro T40 h40 L40 N40 K40 V40'
  have V40 : Arv Z h40 a13 k13 .char (8 : Int32) [(.int (pkF (baseF k) 0 p4)), (.int (pkF (baseF k) 1 p4)), (.int (pkF (baseF k) 2 p4)), (.int (pkF (baseF k) 3 p4)), (.int (0 : Int32)), (.int (0 : Int32)), (.int (0 : Int32)), (.int (0 : Int32))] (.int (0 : Int32)) := V40'
  have z40 := K40.1
  have W40 := W34.up N40 K40 (sfS (Safe.arv (EL := consts_1) W34.1.2.2.2.1.alike V33 (by decide)) sf0)
  refine W40.1.aload (hb hby at_116) rfl rfl (pc' := 118) rfl ?_
  refine W40.1.iconst (4 : Int32) (hb hby at_118) rfl (pc' := 119) rfl ?_
  refine W40.1.aload (hb hby at_119) rfl rfl (pc' := 121) rfl ?_
  refine W40.1.iconst (4 : Int32) (hb hby at_121) rfl (pc' := 122) rfl ?_
  refine W40.1.lloadN (hb hby at_122) rfl (pc' := 123) rfl ?_
  have X1_6_42 : Ext h1 h40 := Keep.toExt ((((((Keep.refl h1 []).ext E13).trans K19 (allS (Or.inr (by have := y13; omega)) all0)).trans K26 (allS (Or.inr (by have := y13; omega)) all0)).trans K33 (allS (Or.inr (by have := y13; omega)) all0)).trans K40 (allS (Or.inr (by have := y13; omega)) all0))
  have zX1_6_42 := X1_6_42.1
  have F43 := StrA.ext S1 X1_6_42
  have X0_6_44 : Ext h0 h40 := Keep.toExt (((((((Keep.refl h0 []).ext E1).ext E13).trans K19 (allS (Or.inr (by have := y13; omega)) all0)).trans K26 (allS (Or.inr (by have := y13; omega)) all0)).trans K33 (allS (Or.inr (by have := y13; omega)) all0)).trans K40 (allS (Or.inr (by have := y13; omega)) all0))
  have zX0_6_44 := X0_6_44.1
  have F45 := Sta.ext X0_6_44 SC
  have F46 := Sta.ext X0_6_44 SF
  refine W40.1.callSP (hw _ (List.mem_of_getElem? (i := 23) rfl)) (hw _ (List.mem_of_getElem? (i := 24) rfl)) (hw _ (List.mem_of_getElem? (i := 25) rfl)) (hw _ (List.mem_of_getElem? (i := 26) rfl)) (by decide) (NM.bk (wd := 2) (rmPK l Z a0 hw bs (baseF k) 4 p4 zc fm h40 n0 W40.1.n0h F43 (base_lat k) (by decide) F45 hz F46 rfm) W40.1.2.2.2.1 (hw _ (List.mem_of_getElem? (i := 26) rfl)) (hw _ (List.mem_of_getElem? (i := 25) rfl)) (by decide) (by decide)) (hb hby at_123) (pc' := 126) rfl hml (argsL := [(.ref bs), (.int (4 : Int32)), (.long p4)]) rfl (lenOf pd_bd27faa8 rfl) rfl (Nat.le_of_ble_eq_true rfl) (by decide) (by decide) (fun _ _ _ q => pu_of q) ?_
  intro T41 L41 N41
  have W41 := W40.same N41
  show Go p e below _ T41 (mkF m 126 #[.val (.int p1), .val (.int p2), .val (.int p3), .val (.long p4), .second, .val (.int k), .val (.ref bs), .val (.int ln), .val (.ref a13), .unset, .unset, .unset, .unset, .unset, .unset, .unset] [(.int (pkF (baseF k) 4 p4)), (.int (4 : Int32)), (.ref a13)])
  refine W41.1.stC V40 (hb hby at_126) (pc' := 127) rfl (nar_lat (pk_lat (base_lat k) (base_nn k) _ _)) 4 rfl (Nat.le_of_ble_eq_true rfl) (by decide) (Or.inr ge13) gn13 ?_
  intro T47 h47 L47 N47 K47 V47'
  have V47 : Arv Z h47 a13 k13 .char (8 : Int32) [(.int (pkF (baseF k) 0 p4)), (.int (pkF (baseF k) 1 p4)), (.int (pkF (baseF k) 2 p4)), (.int (pkF (baseF k) 3 p4)), (.int (pkF (baseF k) 4 p4)), (.int (0 : Int32)), (.int (0 : Int32)), (.int (0 : Int32))] (.int (0 : Int32)) := V47'
  have z47 := K47.1
  have W47 := W41.up N47 K47 (sfS (Safe.arv (EL := consts_1) W41.1.2.2.2.1.alike V40 (by decide)) sf0)
  refine W47.1.aload (hb hby at_127) rfl rfl (pc' := 129) rfl ?_
  refine W47.1.iconst (5 : Int32) (hb hby at_129) rfl (pc' := 130) rfl ?_
  refine W47.1.aload (hb hby at_130) rfl rfl (pc' := 132) rfl ?_
  refine W47.1.iconst (5 : Int32) (hb hby at_132) rfl (pc' := 133) rfl ?_
  refine W47.1.lloadN (hb hby at_133) rfl (pc' := 134) rfl ?_
  have X1_7_49 : Ext h1 h47 := Keep.toExt (((((((Keep.refl h1 []).ext E13).trans K19 (allS (Or.inr (by have := y13; omega)) all0)).trans K26 (allS (Or.inr (by have := y13; omega)) all0)).trans K33 (allS (Or.inr (by have := y13; omega)) all0)).trans K40 (allS (Or.inr (by have := y13; omega)) all0)).trans K47 (allS (Or.inr (by have := y13; omega)) all0))
  have zX1_7_49 := X1_7_49.1
  have F50 := StrA.ext S1 X1_7_49
  have X0_7_51 : Ext h0 h47 := Keep.toExt ((((((((Keep.refl h0 []).ext E1).ext E13).trans K19 (allS (Or.inr (by have := y13; omega)) all0)).trans K26 (allS (Or.inr (by have := y13; omega)) all0)).trans K33 (allS (Or.inr (by have := y13; omega)) all0)).trans K40 (allS (Or.inr (by have := y13; omega)) all0)).trans K47 (allS (Or.inr (by have := y13; omega)) all0))
  have zX0_7_51 := X0_7_51.1
  have F52 := Sta.ext X0_7_51 SC
  have F53 := Sta.ext X0_7_51 SF
  refine W47.1.callSP (hw _ (List.mem_of_getElem? (i := 23) rfl)) (hw _ (List.mem_of_getElem? (i := 24) rfl)) (hw _ (List.mem_of_getElem? (i := 25) rfl)) (hw _ (List.mem_of_getElem? (i := 26) rfl)) (by decide) (NM.bk (wd := 2) (rmPK l Z a0 hw bs (baseF k) 5 p4 zc fm h47 n0 W47.1.n0h F50 (base_lat k) (by decide) F52 hz F53 rfm) W47.1.2.2.2.1 (hw _ (List.mem_of_getElem? (i := 26) rfl)) (hw _ (List.mem_of_getElem? (i := 25) rfl)) (by decide) (by decide)) (hb hby at_134) (pc' := 137) rfl hml (argsL := [(.ref bs), (.int (5 : Int32)), (.long p4)]) rfl (lenOf pd_bd27faa8 rfl) rfl (Nat.le_of_ble_eq_true rfl) (by decide) (by decide) (fun _ _ _ q => pu_of q) ?_
  intro T48 L48 N48
  have W48 := W47.same N48
  show Go p e below _ T48 (mkF m 137 #[.val (.int p1), .val (.int p2), .val (.int p3), .val (.long p4), .second, .val (.int k), .val (.ref bs), .val (.int ln), .val (.ref a13), .unset, .unset, .unset, .unset, .unset, .unset, .unset] [(.int (pkF (baseF k) 5 p4)), (.int (5 : Int32)), (.ref a13)])
  refine W48.1.stC V47 (hb hby at_137) (pc' := 138) rfl (nar_lat (pk_lat (base_lat k) (base_nn k) _ _)) 5 rfl (Nat.le_of_ble_eq_true rfl) (by decide) (Or.inr ge13) gn13 ?_
  intro T54 h54 L54 N54 K54 V54'
  have V54 : Arv Z h54 a13 k13 .char (8 : Int32) [(.int (pkF (baseF k) 0 p4)), (.int (pkF (baseF k) 1 p4)), (.int (pkF (baseF k) 2 p4)), (.int (pkF (baseF k) 3 p4)), (.int (pkF (baseF k) 4 p4)), (.int (pkF (baseF k) 5 p4)), (.int (0 : Int32)), (.int (0 : Int32))] (.int (0 : Int32)) := V54'
  have z54 := K54.1
  have W54 := W48.up N54 K54 (sfS (Safe.arv (EL := consts_1) W48.1.2.2.2.1.alike V47 (by decide)) sf0)
  refine W54.1.aload (hb hby at_138) rfl rfl (pc' := 140) rfl ?_
  refine W54.1.bipush (6 : Int32) (hb hby at_140) rfl (pc' := 142) rfl ?_
  refine W54.1.aload (hb hby at_142) rfl rfl (pc' := 144) rfl ?_
  refine W54.1.bipush (6 : Int32) (hb hby at_144) rfl (pc' := 146) rfl ?_
  refine W54.1.lloadN (hb hby at_146) rfl (pc' := 147) rfl ?_
  have X1_8_56 : Ext h1 h54 := Keep.toExt ((((((((Keep.refl h1 []).ext E13).trans K19 (allS (Or.inr (by have := y13; omega)) all0)).trans K26 (allS (Or.inr (by have := y13; omega)) all0)).trans K33 (allS (Or.inr (by have := y13; omega)) all0)).trans K40 (allS (Or.inr (by have := y13; omega)) all0)).trans K47 (allS (Or.inr (by have := y13; omega)) all0)).trans K54 (allS (Or.inr (by have := y13; omega)) all0))
  have zX1_8_56 := X1_8_56.1
  have F57 := StrA.ext S1 X1_8_56
  have X0_8_58 : Ext h0 h54 := Keep.toExt (((((((((Keep.refl h0 []).ext E1).ext E13).trans K19 (allS (Or.inr (by have := y13; omega)) all0)).trans K26 (allS (Or.inr (by have := y13; omega)) all0)).trans K33 (allS (Or.inr (by have := y13; omega)) all0)).trans K40 (allS (Or.inr (by have := y13; omega)) all0)).trans K47 (allS (Or.inr (by have := y13; omega)) all0)).trans K54 (allS (Or.inr (by have := y13; omega)) all0))
  have zX0_8_58 := X0_8_58.1
  have F59 := Sta.ext X0_8_58 SC
  have F60 := Sta.ext X0_8_58 SF
  refine W54.1.callSP (hw _ (List.mem_of_getElem? (i := 23) rfl)) (hw _ (List.mem_of_getElem? (i := 24) rfl)) (hw _ (List.mem_of_getElem? (i := 25) rfl)) (hw _ (List.mem_of_getElem? (i := 26) rfl)) (by decide) (NM.bk (wd := 2) (rmPK l Z a0 hw bs (baseF k) 6 p4 zc fm h54 n0 W54.1.n0h F57 (base_lat k) (by decide) F59 hz F60 rfm) W54.1.2.2.2.1 (hw _ (List.mem_of_getElem? (i := 26) rfl)) (hw _ (List.mem_of_getElem? (i := 25) rfl)) (by decide) (by decide)) (hb hby at_147) (pc' := 150) rfl hml (argsL := [(.ref bs), (.int (6 : Int32)), (.long p4)]) rfl (lenOf pd_bd27faa8 rfl) rfl (Nat.le_of_ble_eq_true rfl) (by decide) (by decide) (fun _ _ _ q => pu_of q) ?_
  intro T55 L55 N55
  have W55 := W54.same N55
  show Go p e below _ T55 (mkF m 150 #[.val (.int p1), .val (.int p2), .val (.int p3), .val (.long p4), .second, .val (.int k), .val (.ref bs), .val (.int ln), .val (.ref a13), .unset, .unset, .unset, .unset, .unset, .unset, .unset] [(.int (pkF (baseF k) 6 p4)), (.int (6 : Int32)), (.ref a13)])
  refine W55.1.stC V54 (hb hby at_150) (pc' := 151) rfl (nar_lat (pk_lat (base_lat k) (base_nn k) _ _)) 6 rfl (Nat.le_of_ble_eq_true rfl) (by decide) (Or.inr ge13) gn13 ?_
  intro T61 h61 L61 N61 K61 V61'
  have V61 : Arv Z h61 a13 k13 .char (8 : Int32) [(.int (pkF (baseF k) 0 p4)), (.int (pkF (baseF k) 1 p4)), (.int (pkF (baseF k) 2 p4)), (.int (pkF (baseF k) 3 p4)), (.int (pkF (baseF k) 4 p4)), (.int (pkF (baseF k) 5 p4)), (.int (pkF (baseF k) 6 p4)), (.int (0 : Int32))] (.int (0 : Int32)) := V61'
  have z61 := K61.1
  have W61 := W55.up N61 K61 (sfS (Safe.arv (EL := consts_1) W55.1.2.2.2.1.alike V54 (by decide)) sf0)
  refine W61.1.aload (hb hby at_151) rfl rfl (pc' := 153) rfl ?_
  refine W61.1.bipush (7 : Int32) (hb hby at_153) rfl (pc' := 155) rfl ?_
  refine W61.1.aload (hb hby at_155) rfl rfl (pc' := 157) rfl ?_
  refine W61.1.bipush (7 : Int32) (hb hby at_157) rfl (pc' := 159) rfl ?_
  refine W61.1.lloadN (hb hby at_159) rfl (pc' := 160) rfl ?_
  have X1_9_63 : Ext h1 h61 := Keep.toExt (((((((((Keep.refl h1 []).ext E13).trans K19 (allS (Or.inr (by have := y13; omega)) all0)).trans K26 (allS (Or.inr (by have := y13; omega)) all0)).trans K33 (allS (Or.inr (by have := y13; omega)) all0)).trans K40 (allS (Or.inr (by have := y13; omega)) all0)).trans K47 (allS (Or.inr (by have := y13; omega)) all0)).trans K54 (allS (Or.inr (by have := y13; omega)) all0)).trans K61 (allS (Or.inr (by have := y13; omega)) all0))
  have zX1_9_63 := X1_9_63.1
  have F64 := StrA.ext S1 X1_9_63
  have X0_9_65 : Ext h0 h61 := Keep.toExt ((((((((((Keep.refl h0 []).ext E1).ext E13).trans K19 (allS (Or.inr (by have := y13; omega)) all0)).trans K26 (allS (Or.inr (by have := y13; omega)) all0)).trans K33 (allS (Or.inr (by have := y13; omega)) all0)).trans K40 (allS (Or.inr (by have := y13; omega)) all0)).trans K47 (allS (Or.inr (by have := y13; omega)) all0)).trans K54 (allS (Or.inr (by have := y13; omega)) all0)).trans K61 (allS (Or.inr (by have := y13; omega)) all0))
  have zX0_9_65 := X0_9_65.1
  have F66 := Sta.ext X0_9_65 SC
  have F67 := Sta.ext X0_9_65 SF
  refine W61.1.callSP (hw _ (List.mem_of_getElem? (i := 23) rfl)) (hw _ (List.mem_of_getElem? (i := 24) rfl)) (hw _ (List.mem_of_getElem? (i := 25) rfl)) (hw _ (List.mem_of_getElem? (i := 26) rfl)) (by decide) (NM.bk (wd := 2) (rmPK l Z a0 hw bs (baseF k) 7 p4 zc fm h61 n0 W61.1.n0h F64 (base_lat k) (by decide) F66 hz F67 rfm) W61.1.2.2.2.1 (hw _ (List.mem_of_getElem? (i := 26) rfl)) (hw _ (List.mem_of_getElem? (i := 25) rfl)) (by decide) (by decide)) (hb hby at_160) (pc' := 163) rfl hml (argsL := [(.ref bs), (.int (7 : Int32)), (.long p4)]) rfl (lenOf pd_bd27faa8 rfl) rfl (Nat.le_of_ble_eq_true rfl) (by decide) (by decide) (fun _ _ _ q => pu_of q) ?_
  intro T62 L62 N62
  have W62 := W61.same N62
  show Go p e below _ T62 (mkF m 163 #[.val (.int p1), .val (.int p2), .val (.int p3), .val (.long p4), .second, .val (.int k), .val (.ref bs), .val (.int ln), .val (.ref a13), .unset, .unset, .unset, .unset, .unset, .unset, .unset] [(.int (pkF (baseF k) 7 p4)), (.int (7 : Int32)), (.ref a13)])
  refine W62.1.stC V61 (hb hby at_163) (pc' := 164) rfl (nar_lat (pk_lat (base_lat k) (base_nn k) _ _)) 7 rfl (Nat.le_of_ble_eq_true rfl) (by decide) (Or.inr ge13) gn13 ?_
  intro T68 h68 L68 N68 K68 V68'
  have V68 : Arv Z h68 a13 k13 .char (8 : Int32) [(.int (pkF (baseF k) 0 p4)), (.int (pkF (baseF k) 1 p4)), (.int (pkF (baseF k) 2 p4)), (.int (pkF (baseF k) 3 p4)), (.int (pkF (baseF k) 4 p4)), (.int (pkF (baseF k) 5 p4)), (.int (pkF (baseF k) 6 p4)), (.int (pkF (baseF k) 7 p4))] (.int (0 : Int32)) := V68'
  have z68 := K68.1
  have W68 := W62.up N68 K68 (sfS (Safe.arv (EL := consts_1) W62.1.2.2.2.1.alike V61 (by decide)) sf0)
  refine W68.1.iloadN (hb hby at_164) rfl (pc' := 165) rfl ?_
  refine W68.1.iconst (3 : Int32) (hb hby at_165) rfl (pc' := 166) rfl ?_
  refine W68.1.iand (hb hby at_166) (pc' := 167) rfl ?_
  refine lets (P := fun z => Go _ _ _ _ _ (mkF m 167 #[.val (.int p1), .val (.int p2), .val (.int p3), .val (.long p4), .second, .val (.int k), .val (.ref bs), .val (.int ln), .val (.ref a13), .unset, .unset, .unset, .unset, .unset, .unset, .unset] [(.int z)])) (p2 &&& (3 : Int32)) ?_
  intro md hmd
  refine W68.1.istore (Ls' := #[.val (.int p1), .val (.int p2), .val (.int p3), .val (.long p4), .second, .val (.int k), .val (.ref bs), .val (.int ln), .val (.ref a13), .val (.int md), .unset, .unset, .unset, .unset, .unset, .unset]) (hb hby at_167) rfl (pc' := 169) rfl ?_
  refine W68.1.iloadN (hb hby at_169) rfl (pc' := 170) rfl ?_
  refine W68.1.bipush (7 : Int32) (hb hby at_170) rfl (pc' := 172) rfl ?_
  refine W68.1.iand (hb hby at_172) (pc' := 173) rfl ?_
  refine lets (P := fun z => Go _ _ _ _ _ (mkF m 173 #[.val (.int p1), .val (.int p2), .val (.int p3), .val (.long p4), .second, .val (.int k), .val (.ref bs), .val (.int ln), .val (.ref a13), .val (.int md), .unset, .unset, .unset, .unset, .unset, .unset] [(.int z)])) (p3 &&& (7 : Int32)) ?_
  intro pp hpp
  refine W68.1.istore (Ls' := #[.val (.int p1), .val (.int p2), .val (.int p3), .val (.long p4), .second, .val (.int k), .val (.ref bs), .val (.int ln), .val (.ref a13), .val (.int md), .val (.int pp), .unset, .unset, .unset, .unset, .unset]) (hb hby at_173) rfl (pc' := 175) rfl ?_
  refine W68.1.iloadN (hb hby at_175) rfl (pc' := 176) rfl ?_
  refine W68.1.iconst (3 : Int32) (hb hby at_176) rfl (pc' := 177) rfl ?_
  refine W68.1.iushr (hb hby at_177) (pc' := 178) rfl ?_
  refine W68.1.sipush (255 : Int32) (hb hby at_178) rfl (pc' := 181) rfl ?_
  refine W68.1.iand (hb hby at_181) (pc' := 182) rfl ?_
  refine W68.1.i2c (hb hby at_182) (pc' := 183) rfl ?_
  refine lets (P := fun z => Go _ _ _ _ _ (mkF m 183 #[.val (.int p1), .val (.int p2), .val (.int p3), .val (.long p4), .second, .val (.int k), .val (.ref bs), .val (.int ln), .val (.ref a13), .val (.int md), .val (.int pp), .unset, .unset, .unset, .unset, .unset] [(.int z)])) (i2c ((XT.ushr p3 (3 : Int32)) &&& (255 : Int32))) ?_
  intro cx hcx
  refine W68.1.istore (Ls' := #[.val (.int p1), .val (.int p2), .val (.int p3), .val (.long p4), .second, .val (.int k), .val (.ref bs), .val (.int ln), .val (.ref a13), .val (.int md), .val (.int pp), .val (.int cx), .unset, .unset, .unset, .unset]) (hb hby at_183) rfl (pc' := 185) rfl ?_
  refine W68.1.iload (hb hby at_185) rfl (pc' := 187) rfl ?_
  refine W68.1.istore (Ls' := #[.val (.int p1), .val (.int p2), .val (.int p3), .val (.long p4), .second, .val (.int k), .val (.ref bs), .val (.int ln), .val (.ref a13), .val (.int md), .val (.int pp), .val (.int cx), .val (.int ln), .unset, .unset, .unset]) (hb hby at_187) rfl (pc' := 189) rfl ?_
  have V69 : Arv Z h68 a13 k13 .char (8 : Int32) (([(pkF (baseF k) 0 p4), (pkF (baseF k) 1 p4), (pkF (baseF k) 2 p4), (pkF (baseF k) 3 p4), (pkF (baseF k) 4 p4), (pkF (baseF k) 5 p4), (pkF (baseF k) 6 p4), (pkF (baseF k) 7 p4)] : List Int32).map Value.int) (.int (0 : Int32)) := V68
  suffices kk69 : ∀ (T' : State) (L' : List Loc) (h' : Heap), Keep h68 h' [a13] → Arv Z h' a13 k13 .char (8 : Int32) ((modeF md pp cx ln ([(pkF (baseF k) 0 p4), (pkF (baseF k) 1 p4), (pkF (baseF k) 2 p4), (pkF (baseF k) 3 p4), (pkF (baseF k) 4 p4), (pkF (baseF k) 5 p4), (pkF (baseF k) 6 p4), (pkF (baseF k) 7 p4)] : List Int32)).2.map Value.int) (.int (0 : Int32)) → WK consts_1 p l e room_1 s m #[(.int p1), (.int p2), (.int p3), (.long p4)] below meth c Z "dev/rolegate/model/DecisionOfWordPinLaw" n0 h0 [] T' h' vm1 L' 3 36 → Go p e below _ T' (mkF m 251 #[.val (.int p1), .val (.int p2), .val (.int p3), .val (.long p4), .second, .val (.int k), .val (.ref bs), .val (.int ln), .val (.ref a13), .val (.int md), .val (.int pp), .val (.int cx), .val (.int (modeF md pp cx ln ([(pkF (baseF k) 0 p4), (pkF (baseF k) 1 p4), (pkF (baseF k) 2 p4), (pkF (baseF k) 3 p4), (pkF (baseF k) 4 p4), (pkF (baseF k) 5 p4), (pkF (baseF k) 6 p4), (pkF (baseF k) 7 p4)] : List Int32)).1), .unset, .unset, .unset] []) by
    refine W68.1.iload (hb hby at_189) rfl (pc' := 191) rfl ?_
    refine W68.1.iconst (1 : Int32) (hb hby at_191) rfl (pc' := 192) rfl ?_
    by_cases hc70 : md = (1 : Int32)
    · refine W68.1.icmpNo (hb hby at_192) (XT.ii_ne_f hc70) (pc' := 195) rfl ?_
      refine W68.1.iload (hb hby at_195) rfl (pc' := 197) rfl ?_
      refine W68.1.iload (hb hby at_197) rfl (pc' := 199) rfl ?_
      by_cases hc71 : pp < ln
      · refine W68.1.icmpNo (hb hby at_199) (XT.ii_ge_f hc71) (pc' := 202) rfl ?_
        refine W68.1.aload (hb hby at_202) rfl rfl (pc' := 204) rfl ?_
        refine W68.1.iload (hb hby at_204) rfl (pc' := 206) rfl ?_
        refine W68.1.iload (hb hby at_206) rfl (pc' := 208) rfl ?_
        refine W68.1.stC V69 (hb hby at_208) (pc' := 209) rfl (nar_lat (by rw [hcx]; exact lat_and _)) pp.toNatClampNeg rfl (by rw [List.length_map]; exact (pp_in hpp).2) (pp_in hpp).1 (Or.inr ge13) gn13 ?_
        intro T73 h73 L73 N73 K73 V73'
        have V73 : Arv Z h73 a13 k13 .char (8 : Int32) ((([(pkF (baseF k) 0 p4), (pkF (baseF k) 1 p4), (pkF (baseF k) 2 p4), (pkF (baseF k) 3 p4), (pkF (baseF k) 4 p4), (pkF (baseF k) 5 p4), (pkF (baseF k) 6 p4), (pkF (baseF k) 7 p4)] : List Int32).set pp.toNatClampNeg cx).map Value.int) (.int (0 : Int32)) := by rw [List.map_set]; exact V73'
        have z73 := K73.1
        have W73 := W68.up N73 K73 (sfS (Safe.arv (EL := consts_1) W68.1.2.2.2.1.alike V69 (by decide)) sf0)
        refine W73.1.goto (hb hby at_209) (by decide) (pc' := 251) (by decide) ?_
        have e69 : (modeF md pp cx ln ([(pkF (baseF k) 0 p4), (pkF (baseF k) 1 p4), (pkF (baseF k) 2 p4), (pkF (baseF k) 3 p4), (pkF (baseF k) 4 p4), (pkF (baseF k) 5 p4), (pkF (baseF k) 6 p4), (pkF (baseF k) 7 p4)] : List Int32)) = (ln, (([(pkF (baseF k) 0 p4), (pkF (baseF k) 1 p4), (pkF (baseF k) 2 p4), (pkF (baseF k) 3 p4), (pkF (baseF k) 4 p4), (pkF (baseF k) 5 p4), (pkF (baseF k) 6 p4), (pkF (baseF k) 7 p4)] : List Int32).set pp.toNatClampNeg cx)) := by rw [modeF, if_pos hc70, if_pos hc71]
        rw [e69] at kk69
        exact kk69 _ _ _ K73 V73 W73
      · refine W68.1.icmpYes (hb hby at_199) (XT.ii_ge_t hc71) (by decide) (pc' := 251) (by decide) ?_
        have e69 : (modeF md pp cx ln ([(pkF (baseF k) 0 p4), (pkF (baseF k) 1 p4), (pkF (baseF k) 2 p4), (pkF (baseF k) 3 p4), (pkF (baseF k) 4 p4), (pkF (baseF k) 5 p4), (pkF (baseF k) 6 p4), (pkF (baseF k) 7 p4)] : List Int32)) = (ln, ([(pkF (baseF k) 0 p4), (pkF (baseF k) 1 p4), (pkF (baseF k) 2 p4), (pkF (baseF k) 3 p4), (pkF (baseF k) 4 p4), (pkF (baseF k) 5 p4), (pkF (baseF k) 6 p4), (pkF (baseF k) 7 p4)] : List Int32)) := by rw [modeF, if_pos hc70, if_neg hc71]
        rw [e69] at kk69
        exact kk69 _ _ _ (Keep.refl _ _) V69 W68
    · refine W68.1.icmpYes (hb hby at_192) (XT.ii_ne_t hc70) (by decide) (pc' := 212) (by decide) ?_
      refine W68.1.iload (hb hby at_212) rfl (pc' := 214) rfl ?_
      refine W68.1.iconst (2 : Int32) (hb hby at_214) rfl (pc' := 215) rfl ?_
      by_cases hc74 : md = (2 : Int32)
      · refine W68.1.icmpNo (hb hby at_215) (XT.ii_ne_f hc74) (pc' := 218) rfl ?_
        refine W68.1.iload (hb hby at_218) rfl (pc' := 220) rfl ?_
        by_cases hc75 : (0 : Int32) < ln
        · refine W68.1.ifNo (hb hby at_220) (XT.i0_le_f hc75) (pc' := 223) rfl ?_
          refine W68.1.iload (hb hby at_223) rfl (pc' := 225) rfl ?_
          refine W68.1.iconst (1 : Int32) (hb hby at_225) rfl (pc' := 226) rfl ?_
          refine W68.1.isub (hb hby at_226) (pc' := 227) rfl ?_
          refine W68.1.istore (Ls' := #[.val (.int p1), .val (.int p2), .val (.int p3), .val (.long p4), .second, .val (.int k), .val (.ref bs), .val (.int ln), .val (.ref a13), .val (.int md), .val (.int pp), .val (.int cx), .val (.int (ln - (1 : Int32))), .unset, .unset, .unset]) (hb hby at_227) rfl (pc' := 229) rfl ?_
          refine W68.1.goto (hb hby at_229) (by decide) (pc' := 251) (by decide) ?_
          have e69 : (modeF md pp cx ln ([(pkF (baseF k) 0 p4), (pkF (baseF k) 1 p4), (pkF (baseF k) 2 p4), (pkF (baseF k) 3 p4), (pkF (baseF k) 4 p4), (pkF (baseF k) 5 p4), (pkF (baseF k) 6 p4), (pkF (baseF k) 7 p4)] : List Int32)) = ((ln - (1 : Int32)), ([(pkF (baseF k) 0 p4), (pkF (baseF k) 1 p4), (pkF (baseF k) 2 p4), (pkF (baseF k) 3 p4), (pkF (baseF k) 4 p4), (pkF (baseF k) 5 p4), (pkF (baseF k) 6 p4), (pkF (baseF k) 7 p4)] : List Int32)) := by rw [modeF, if_neg hc70, if_pos hc74, if_pos hc75]
          rw [e69] at kk69
          exact kk69 _ _ _ (Keep.refl _ _) V69 W68
        · refine W68.1.ifYes (hb hby at_220) (XT.i0_le_t hc75) (by decide) (pc' := 251) (by decide) ?_
          have e69 : (modeF md pp cx ln ([(pkF (baseF k) 0 p4), (pkF (baseF k) 1 p4), (pkF (baseF k) 2 p4), (pkF (baseF k) 3 p4), (pkF (baseF k) 4 p4), (pkF (baseF k) 5 p4), (pkF (baseF k) 6 p4), (pkF (baseF k) 7 p4)] : List Int32)) = (ln, ([(pkF (baseF k) 0 p4), (pkF (baseF k) 1 p4), (pkF (baseF k) 2 p4), (pkF (baseF k) 3 p4), (pkF (baseF k) 4 p4), (pkF (baseF k) 5 p4), (pkF (baseF k) 6 p4), (pkF (baseF k) 7 p4)] : List Int32)) := by rw [modeF, if_neg hc70, if_pos hc74, if_neg hc75]
          rw [e69] at kk69
          exact kk69 _ _ _ (Keep.refl _ _) V69 W68
      · refine W68.1.icmpYes (hb hby at_215) (XT.ii_ne_t hc74) (by decide) (pc' := 232) (by decide) ?_
        refine W68.1.iload (hb hby at_232) rfl (pc' := 234) rfl ?_
        refine W68.1.iconst (3 : Int32) (hb hby at_234) rfl (pc' := 235) rfl ?_
        by_cases hc76 : md = (3 : Int32)
        · refine W68.1.icmpNo (hb hby at_235) (XT.ii_ne_f hc76) (pc' := 238) rfl ?_
          refine W68.1.aload (hb hby at_238) rfl rfl (pc' := 240) rfl ?_
          refine W68.1.iload (hb hby at_240) rfl (pc' := 242) rfl ?_
          refine W68.1.iload (hb hby at_242) rfl (pc' := 244) rfl ?_
          refine W68.1.stC V69 (hb hby at_244) (pc' := 245) rfl (nar_lat (by rw [hcx]; exact lat_and _)) ln.toNatClampNeg rfl (by rw [List.length_map]; exact (ln_in (ln_le (rem_nat 4 2147483647 (by decide) (by decide) (by decide) hk) hln)).2) (ln_in (ln_le (rem_nat 4 2147483647 (by decide) (by decide) (by decide) hk) hln)).1 (Or.inr ge13) gn13 ?_
          intro T78 h78 L78 N78 K78 V78'
          have V78 : Arv Z h78 a13 k13 .char (8 : Int32) ((([(pkF (baseF k) 0 p4), (pkF (baseF k) 1 p4), (pkF (baseF k) 2 p4), (pkF (baseF k) 3 p4), (pkF (baseF k) 4 p4), (pkF (baseF k) 5 p4), (pkF (baseF k) 6 p4), (pkF (baseF k) 7 p4)] : List Int32).set ln.toNatClampNeg cx).map Value.int) (.int (0 : Int32)) := by rw [List.map_set]; exact V78'
          have z78 := K78.1
          have W78 := W68.up N78 K78 (sfS (Safe.arv (EL := consts_1) W68.1.2.2.2.1.alike V69 (by decide)) sf0)
          refine W78.1.iload (hb hby at_245) rfl (pc' := 247) rfl ?_
          refine W78.1.iconst (1 : Int32) (hb hby at_247) rfl (pc' := 248) rfl ?_
          refine W78.1.iadd (hb hby at_248) (pc' := 249) rfl ?_
          refine W78.1.istore (Ls' := #[.val (.int p1), .val (.int p2), .val (.int p3), .val (.long p4), .second, .val (.int k), .val (.ref bs), .val (.int ln), .val (.ref a13), .val (.int md), .val (.int pp), .val (.int cx), .val (.int (ln + (1 : Int32))), .unset, .unset, .unset]) (hb hby at_249) rfl (pc' := 251) rfl ?_
          have e69 : (modeF md pp cx ln ([(pkF (baseF k) 0 p4), (pkF (baseF k) 1 p4), (pkF (baseF k) 2 p4), (pkF (baseF k) 3 p4), (pkF (baseF k) 4 p4), (pkF (baseF k) 5 p4), (pkF (baseF k) 6 p4), (pkF (baseF k) 7 p4)] : List Int32)) = ((ln + (1 : Int32)), (([(pkF (baseF k) 0 p4), (pkF (baseF k) 1 p4), (pkF (baseF k) 2 p4), (pkF (baseF k) 3 p4), (pkF (baseF k) 4 p4), (pkF (baseF k) 5 p4), (pkF (baseF k) 6 p4), (pkF (baseF k) 7 p4)] : List Int32).set ln.toNatClampNeg cx)) := by rw [modeF, if_neg hc70, if_neg hc74, if_pos hc76]
          rw [e69] at kk69
          exact kk69 _ _ _ K78 V78 W78
        · refine W68.1.icmpYes (hb hby at_235) (XT.ii_ne_t hc76) (by decide) (pc' := 251) (by decide) ?_
          have e69 : (modeF md pp cx ln ([(pkF (baseF k) 0 p4), (pkF (baseF k) 1 p4), (pkF (baseF k) 2 p4), (pkF (baseF k) 3 p4), (pkF (baseF k) 4 p4), (pkF (baseF k) 5 p4), (pkF (baseF k) 6 p4), (pkF (baseF k) 7 p4)] : List Int32)) = (ln, ([(pkF (baseF k) 0 p4), (pkF (baseF k) 1 p4), (pkF (baseF k) 2 p4), (pkF (baseF k) 3 p4), (pkF (baseF k) 4 p4), (pkF (baseF k) 5 p4), (pkF (baseF k) 6 p4), (pkF (baseF k) 7 p4)] : List Int32)) := by rw [modeF, if_neg hc70, if_neg hc74, if_neg hc76]
          rw [e69] at kk69
          exact kk69 _ _ _ (Keep.refl _ _) V69 W68
  intro T69 L69 h69 K69 V79 W69
  have z69 := K69.1
  refine W69.1.newO (hw _ (List.mem_of_getElem? (i := 50) rfl)) (hw _ (List.mem_of_getElem? (i := 3) rfl)) (hw _ (List.mem_of_getElem? (i := 2) rfl)) (hb hby at_251) (pc' := 254) rfl (by decide) (by decide) ?_
  intro T80 h80 a80 g80 ge80 gn80 N80 E80 A80 D80
  have z80 := E80.1
  have y80 := Nat.le_of_eq g80.symm
  have W80 := W69.upE N80 E80
  have D80_value := D80 (Or.inr (hw _ (List.mem_of_getElem? (i := 5) rfl))) (ty := (.array .byte)) (by decide)
  have D80_coder := D80 (Or.inr (hw _ (List.mem_of_getElem? (i := 6) rfl))) (ty := .byte) (by decide)
  refine W80.1.dup (hb hby at_254) rfl (pc' := 255) rfl ?_
  refine W80.1.aload (hb hby at_255) rfl rfl (pc' := 257) rfl ?_
  refine W80.1.iload (hb hby at_257) rfl (pc' := 259) rfl ?_
  have F82 := Arv.ext V79 E80
  refine W80.1.callS (hw _ (List.mem_of_getElem? (i := 51) rfl)) (hw _ (List.mem_of_getElem? (i := 52) rfl)) (hw _ (List.mem_of_getElem? (i := 25) rfl)) (hw _ (List.mem_of_getElem? (i := 53) rfl)) (by decide) (NM.bk (wd := 2) (rmPX l Z a0 hw a13 k13 (modeF md pp cx ln ([(pkF (baseF k) 0 p4), (pkF (baseF k) 1 p4), (pkF (baseF k) 2 p4), (pkF (baseF k) 3 p4), (pkF (baseF k) 4 p4), (pkF (baseF k) 5 p4), (pkF (baseF k) 6 p4), (pkF (baseF k) 7 p4)] : List Int32)).1 (modeF md pp cx ln ([(pkF (baseF k) 0 p4), (pkF (baseF k) 1 p4), (pkF (baseF k) 2 p4), (pkF (baseF k) 3 p4), (pkF (baseF k) 4 p4), (pkF (baseF k) 5 p4), (pkF (baseF k) 6 p4), (pkF (baseF k) 7 p4)] : List Int32)).2 h80 n0 W80.1.n0h F82 (mode_lat (by rw [hcx]; exact lat_and _) (pk8_lat k p4))) W80.1.2.2.2.1 (hw _ (List.mem_of_getElem? (i := 53) rfl)) (hw _ (List.mem_of_getElem? (i := 25) rfl)) (by decide) (by decide)) (hb hby at_259) (pc' := 262) rfl hml (argsL := [(.ref a13), (.int (modeF md pp cx ln ([(pkF (baseF k) 0 p4), (pkF (baseF k) 1 p4), (pkF (baseF k) 2 p4), (pkF (baseF k) 3 p4), (pkF (baseF k) 4 p4), (pkF (baseF k) 5 p4), (pkF (baseF k) 6 p4), (pkF (baseF k) 7 p4)] : List Int32)).1)]) rfl (lenOf pd_b007beee rfl) rfl (Nat.le_of_ble_eq_true rfl) (by decide) (by decide) (ws' := []) (fun _ _ _ q => ⟨q.2.2, q.2.1⟩) all0 ?_
  intro v81 T81 h81 L81' L81 N81 Q81 K81
  have W81 := W80.up N81 K81 sf0
  have z81 := K81.1
  obtain ⟨⟨b81, kb81, rfl, ge81, V81⟩, -, -⟩ := Q81
  show Go p e below _ T81 (mkF m 262 #[.val (.int p1), .val (.int p2), .val (.int p3), .val (.long p4), .second, .val (.int k), .val (.ref bs), .val (.int ln), .val (.ref a13), .val (.int md), .val (.int pp), .val (.int cx), .val (.int (modeF md pp cx ln ([(pkF (baseF k) 0 p4), (pkF (baseF k) 1 p4), (pkF (baseF k) 2 p4), (pkF (baseF k) 3 p4), (pkF (baseF k) 4 p4), (pkF (baseF k) 5 p4), (pkF (baseF k) 6 p4), (pkF (baseF k) 7 p4)] : List Int32)).1), .unset, .unset, .unset] [(.ref b81), (.ref a80), (.ref a80)])
  by_cases hl83 : (pxF (modeF md pp cx ln ([(pkF (baseF k) 0 p4), (pkF (baseF k) 1 p4), (pkF (baseF k) 2 p4), (pkF (baseF k) 3 p4), (pkF (baseF k) 4 p4), (pkF (baseF k) 5 p4), (pkF (baseF k) 6 p4), (pkF (baseF k) 7 p4)] : List Int32)).1 (modeF md pp cx ln ([(pkF (baseF k) 0 p4), (pkF (baseF k) 1 p4), (pkF (baseF k) 2 p4), (pkF (baseF k) 3 p4), (pkF (baseF k) 4 p4), (pkF (baseF k) 5 p4), (pkF (baseF k) 6 p4), (pkF (baseF k) 7 p4)] : List Int32)).2) = []
  · have V84 : Arv Z h81 b81 kb81 .char (0 : Int32) [] (.int (0 : Int32)) := by have q := V81; rw [hl83] at q; exact q
    have F86 := Exa.ext (Keep.toExt K81) A80
    have F87 := Fld.ext (Keep.toExt K81) D80_value
    have F88 := Fld.ext (Keep.toExt K81) D80_coder
    refine W81.callI (y := (⟨"java/lang/String", "<init>", "([C)V"⟩ : MethodName)) rfl (hw _ (List.mem_of_getElem? (i := 54) rfl)) (hw _ (List.mem_of_getElem? (i := 55) rfl)) (hw _ (List.mem_of_getElem? (i := 56) rfl)) (by decide) (WM.bk (wd := 1) (rmE1 l Z a0 hw hEL a80 b81 kb81 h81 n0 W81.1.n0h gn80 F86 F87 F88 V84) W81.1.2.2.2.1 (hw _ (List.mem_of_getElem? (i := 56) rfl)) (hw _ (List.mem_of_getElem? (i := 2) rfl)) (by decide) (by decide) hEL W81.2.2.1) (hb hby at_262) (pc' := 265) rfl hml (a := a80) (argsL := [(.ref b81)]) rfl (lenOf pd_827e2587 rfl) rfl (Nat.le_of_ble_eq_true rfl) (by decide) (by decide) (ws' := [a80]) (fun _ _ _ q => ⟨q.2.2, q.2.1⟩) (allS (Or.inr ge80) all0) ?_
    intro v85 T85 h85 vm85 L85' L85 W85 Q85 K85 C85
    have z85 := K85.1
    obtain ⟨⟨rfl, S85⟩, -, -⟩ := Q85
    show Go p e below _ T85 (mkF m 265 #[.val (.int p1), .val (.int p2), .val (.int p3), .val (.long p4), .second, .val (.int k), .val (.ref bs), .val (.int ln), .val (.ref a13), .val (.int md), .val (.int pp), .val (.int cx), .val (.int (modeF md pp cx ln ([(pkF (baseF k) 0 p4), (pkF (baseF k) 1 p4), (pkF (baseF k) 2 p4), (pkF (baseF k) 3 p4), (pkF (baseF k) 4 p4), (pkF (baseF k) 5 p4), (pkF (baseF k) 6 p4), (pkF (baseF k) 7 p4)] : List Int32)).1), .unset, .unset, .unset] [(.ref a80)])
    have S89 : StrA Z h85 a80 (pxF (modeF md pp cx ln ([(pkF (baseF k) 0 p4), (pkF (baseF k) 1 p4), (pkF (baseF k) 2 p4), (pkF (baseF k) 3 p4), (pkF (baseF k) 4 p4), (pkF (baseF k) 5 p4), (pkF (baseF k) 6 p4), (pkF (baseF k) 7 p4)] : List Int32)).1 (modeF md pp cx ln ([(pkF (baseF k) 0 p4), (pkF (baseF k) 1 p4), (pkF (baseF k) 2 p4), (pkF (baseF k) 3 p4), (pkF (baseF k) 4 p4), (pkF (baseF k) 5 p4), (pkF (baseF k) 6 p4), (pkF (baseF k) 7 p4)] : List Int32)).2) := by rw [hl83]; exact S85
    refine W85.1.astore (Ls' := #[.val (.int p1), .val (.int p2), .val (.int p3), .val (.long p4), .second, .val (.int k), .val (.ref bs), .val (.int ln), .val (.ref a13), .val (.int md), .val (.int pp), .val (.int cx), .val (.int (modeF md pp cx ln ([(pkF (baseF k) 0 p4), (pkF (baseF k) 1 p4), (pkF (baseF k) 2 p4), (pkF (baseF k) 3 p4), (pkF (baseF k) 4 p4), (pkF (baseF k) 5 p4), (pkF (baseF k) 6 p4), (pkF (baseF k) 7 p4)] : List Int32)).1), .val (.ref a80), .unset, .unset]) (hb hby at_265) rfl rfl (pc' := 267) rfl ?_
    refine W85.1.aconstNull (hb hby at_267) (pc' := 268) rfl ?_
    refine W85.1.astore (Ls' := #[.val (.int p1), .val (.int p2), .val (.int p3), .val (.long p4), .second, .val (.int k), .val (.ref bs), .val (.int ln), .val (.ref a13), .val (.int md), .val (.int pp), .val (.int cx), .val (.int (modeF md pp cx ln ([(pkF (baseF k) 0 p4), (pkF (baseF k) 1 p4), (pkF (baseF k) 2 p4), (pkF (baseF k) 3 p4), (pkF (baseF k) 4 p4), (pkF (baseF k) 5 p4), (pkF (baseF k) 6 p4), (pkF (baseF k) 7 p4)] : List Int32)).1), .val (.ref a80), .val .null, .unset]) (hb hby at_268) rfl rfl (pc' := 270) rfl ?_
    refine W85.1.aload (hb hby at_270) rfl rfl (pc' := 272) rfl ?_
    refine W85.ldcS hEL (hw _ (List.mem_of_getElem? (i := 1) rfl)) hwS (by decide) (vs := [(.int (97 : Int32)), (.int (108 : Int32)), (.int (108 : Int32)), (.int (111 : Int32)), (.int (119 : Int32))]) (z := (5 : Int32)) ⟨by decide, by decide⟩ (by decide) rfl (hb hby at_272) (pc' := 274) rfl (n := 20) (by decide) (by decide) (by decide) (by decide) ?_
    intro T90 h90 vm90 a90 b90 k90 W90 E90 C90 A90 B90 D90 V90 hne90
    have z90 := E90.1
    have S90 : StrA Z h90 a90 ([(97 : Int32), (108 : Int32), (108 : Int32), (111 : Int32), (119 : Int32)] : List Int32) := StrA.make A90 B90 D90 V90 rfl (Nat.le_of_ble_eq_true rfl) (by decide)
    have F92 := StrA.ext S89 E90
    have X0_15_93 : Ext h0 h90 := Keep.toExt ((((((((((((((((Keep.refl h0 []).ext E1).ext E13).trans K19 (allS (Or.inr (by have := y13; omega)) all0)).trans K26 (allS (Or.inr (by have := y13; omega)) all0)).trans K33 (allS (Or.inr (by have := y13; omega)) all0)).trans K40 (allS (Or.inr (by have := y13; omega)) all0)).trans K47 (allS (Or.inr (by have := y13; omega)) all0)).trans K54 (allS (Or.inr (by have := y13; omega)) all0)).trans K61 (allS (Or.inr (by have := y13; omega)) all0)).trans K68 (allS (Or.inr (by have := y13; omega)) all0)).trans K69 (allS (Or.inr (by have := y13; omega)) all0)).ext E80).trans K81 all0).trans K85 (allS (Or.inr (by have := y80; omega)) all0)).ext E90)
    have zX0_15_93 := X0_15_93.1
    have F94 := Sta.ext X0_15_93 SC
    refine W90.1.callVP (y := (⟨"java/lang/String", "equals", "(Ljava/lang/Object;)Z"⟩ : MethodName)) (z := (⟨"java/lang/String", "equals", "(Ljava/lang/Object;)Z"⟩ : MethodName)) (hw _ (List.mem_of_getElem? (i := 74) rfl)) (hw _ (List.mem_of_getElem? (i := 75) rfl)) (hw _ (List.mem_of_getElem? (i := 77) rfl)) (hw _ (List.mem_of_getElem? (i := 77) rfl)) (hw _ (List.mem_of_getElem? (i := 76) rfl)) (by decide) (StrA.eq (wd := 0) F92 S90 W90.1.2.2.2.1 hw (hw _ (List.mem_of_getElem? (i := 3) rfl)) F94 hz (by decide) (by decide)) F92.1 (hb hby at_274) (pc' := 277) rfl hml (argsL := [(.ref a90)]) rfl (lenOf pd_67f3b2e8 rfl) rfl (Nat.le_of_ble_eq_true rfl) (by decide) (by decide) (fun _ _ _ q => pu_nil q) ?_
    intro T91 L91 N91
    have W91 := W90.same N91
    show Go p e below _ T91 (mkF m 277 #[.val (.int p1), .val (.int p2), .val (.int p3), .val (.long p4), .second, .val (.int k), .val (.ref bs), .val (.int ln), .val (.ref a13), .val (.int md), .val (.int pp), .val (.int cx), .val (.int (modeF md pp cx ln ([(pkF (baseF k) 0 p4), (pkF (baseF k) 1 p4), (pkF (baseF k) 2 p4), (pkF (baseF k) 3 p4), (pkF (baseF k) 4 p4), (pkF (baseF k) 5 p4), (pkF (baseF k) 6 p4), (pkF (baseF k) 7 p4)] : List Int32)).1), .val (.ref a80), .val .null, .unset] [(.int (if (pxF (modeF md pp cx ln ([(pkF (baseF k) 0 p4), (pkF (baseF k) 1 p4), (pkF (baseF k) 2 p4), (pkF (baseF k) 3 p4), (pkF (baseF k) 4 p4), (pkF (baseF k) 5 p4), (pkF (baseF k) 6 p4), (pkF (baseF k) 7 p4)] : List Int32)).1 (modeF md pp cx ln ([(pkF (baseF k) 0 p4), (pkF (baseF k) 1 p4), (pkF (baseF k) 2 p4), (pkF (baseF k) 3 p4), (pkF (baseF k) 4 p4), (pkF (baseF k) 5 p4), (pkF (baseF k) 6 p4), (pkF (baseF k) 7 p4)] : List Int32)).2) = ([(97 : Int32), (108 : Int32), (108 : Int32), (111 : Int32), (119 : Int32)] : List Int32) then (1 : Int32) else 0))])
    by_cases hc95 : (if (pxF (modeF md pp cx ln ([(pkF (baseF k) 0 p4), (pkF (baseF k) 1 p4), (pkF (baseF k) 2 p4), (pkF (baseF k) 3 p4), (pkF (baseF k) 4 p4), (pkF (baseF k) 5 p4), (pkF (baseF k) 6 p4), (pkF (baseF k) 7 p4)] : List Int32)).1 (modeF md pp cx ln ([(pkF (baseF k) 0 p4), (pkF (baseF k) 1 p4), (pkF (baseF k) 2 p4), (pkF (baseF k) 3 p4), (pkF (baseF k) 4 p4), (pkF (baseF k) 5 p4), (pkF (baseF k) 6 p4), (pkF (baseF k) 7 p4)] : List Int32)).2) = ([(97 : Int32), (108 : Int32), (108 : Int32), (111 : Int32), (119 : Int32)] : List Int32) then (1 : Int32) else 0) = (0 : Int32)
    · refine W91.1.ifYes (hb hby at_277) (XT.i0_eq_t hc95) (by decide) (pc' := 288) (by decide) ?_
      refine W91.1.aload (hb hby at_288) rfl rfl (pc' := 290) rfl ?_
      refine W91.ldcS hEL (hw _ (List.mem_of_getElem? (i := 83) rfl)) hwS (by decide) (vs := [(.int (100 : Int32)), (.int (101 : Int32)), (.int (110 : Int32)), (.int (121 : Int32))]) (z := (4 : Int32)) ⟨by decide, by decide⟩ (by decide) rfl (hb hby at_290) (pc' := 292) rfl (n := 16) (by decide) (by decide) (by decide) (by decide) ?_
      intro T96 h96 vm96 a96 b96 k96 W96 E96 C96 A96 B96 D96 V96 hne96
      have z96 := E96.1
      have S96 : StrA Z h96 a96 ([(100 : Int32), (101 : Int32), (110 : Int32), (121 : Int32)] : List Int32) := StrA.make A96 B96 D96 V96 rfl (Nat.le_of_ble_eq_true rfl) (by decide)
      have X14_16_98 : Ext h85 h96 := Keep.toExt (((Keep.refl h85 []).ext E90).ext E96)
      have zX14_16_98 := X14_16_98.1
      have F99 := StrA.ext S89 X14_16_98
      have X0_16_100 : Ext h0 h96 := Keep.toExt (((((((((((((((((Keep.refl h0 []).ext E1).ext E13).trans K19 (allS (Or.inr (by have := y13; omega)) all0)).trans K26 (allS (Or.inr (by have := y13; omega)) all0)).trans K33 (allS (Or.inr (by have := y13; omega)) all0)).trans K40 (allS (Or.inr (by have := y13; omega)) all0)).trans K47 (allS (Or.inr (by have := y13; omega)) all0)).trans K54 (allS (Or.inr (by have := y13; omega)) all0)).trans K61 (allS (Or.inr (by have := y13; omega)) all0)).trans K68 (allS (Or.inr (by have := y13; omega)) all0)).trans K69 (allS (Or.inr (by have := y13; omega)) all0)).ext E80).trans K81 all0).trans K85 (allS (Or.inr (by have := y80; omega)) all0)).ext E90).ext E96)
      have zX0_16_100 := X0_16_100.1
      have F101 := Sta.ext X0_16_100 SC
      refine W96.1.callVP (y := (⟨"java/lang/String", "equals", "(Ljava/lang/Object;)Z"⟩ : MethodName)) (z := (⟨"java/lang/String", "equals", "(Ljava/lang/Object;)Z"⟩ : MethodName)) (hw _ (List.mem_of_getElem? (i := 74) rfl)) (hw _ (List.mem_of_getElem? (i := 75) rfl)) (hw _ (List.mem_of_getElem? (i := 77) rfl)) (hw _ (List.mem_of_getElem? (i := 77) rfl)) (hw _ (List.mem_of_getElem? (i := 76) rfl)) (by decide) (StrA.eq (wd := 0) F99 S96 W96.1.2.2.2.1 hw (hw _ (List.mem_of_getElem? (i := 3) rfl)) F101 hz (by decide) (by decide)) F99.1 (hb hby at_292) (pc' := 295) rfl hml (argsL := [(.ref a96)]) rfl (lenOf pd_67f3b2e8 rfl) rfl (Nat.le_of_ble_eq_true rfl) (by decide) (by decide) (fun _ _ _ q => pu_nil q) ?_
      intro T97 L97 N97
      have W97 := W96.same N97
      show Go p e below _ T97 (mkF m 295 #[.val (.int p1), .val (.int p2), .val (.int p3), .val (.long p4), .second, .val (.int k), .val (.ref bs), .val (.int ln), .val (.ref a13), .val (.int md), .val (.int pp), .val (.int cx), .val (.int (modeF md pp cx ln ([(pkF (baseF k) 0 p4), (pkF (baseF k) 1 p4), (pkF (baseF k) 2 p4), (pkF (baseF k) 3 p4), (pkF (baseF k) 4 p4), (pkF (baseF k) 5 p4), (pkF (baseF k) 6 p4), (pkF (baseF k) 7 p4)] : List Int32)).1), .val (.ref a80), .val .null, .unset] [(.int (if (pxF (modeF md pp cx ln ([(pkF (baseF k) 0 p4), (pkF (baseF k) 1 p4), (pkF (baseF k) 2 p4), (pkF (baseF k) 3 p4), (pkF (baseF k) 4 p4), (pkF (baseF k) 5 p4), (pkF (baseF k) 6 p4), (pkF (baseF k) 7 p4)] : List Int32)).1 (modeF md pp cx ln ([(pkF (baseF k) 0 p4), (pkF (baseF k) 1 p4), (pkF (baseF k) 2 p4), (pkF (baseF k) 3 p4), (pkF (baseF k) 4 p4), (pkF (baseF k) 5 p4), (pkF (baseF k) 6 p4), (pkF (baseF k) 7 p4)] : List Int32)).2) = ([(100 : Int32), (101 : Int32), (110 : Int32), (121 : Int32)] : List Int32) then (1 : Int32) else 0))])
      by_cases hc102 : (if (pxF (modeF md pp cx ln ([(pkF (baseF k) 0 p4), (pkF (baseF k) 1 p4), (pkF (baseF k) 2 p4), (pkF (baseF k) 3 p4), (pkF (baseF k) 4 p4), (pkF (baseF k) 5 p4), (pkF (baseF k) 6 p4), (pkF (baseF k) 7 p4)] : List Int32)).1 (modeF md pp cx ln ([(pkF (baseF k) 0 p4), (pkF (baseF k) 1 p4), (pkF (baseF k) 2 p4), (pkF (baseF k) 3 p4), (pkF (baseF k) 4 p4), (pkF (baseF k) 5 p4), (pkF (baseF k) 6 p4), (pkF (baseF k) 7 p4)] : List Int32)).2) = ([(100 : Int32), (101 : Int32), (110 : Int32), (121 : Int32)] : List Int32) then (1 : Int32) else 0) = (0 : Int32)
      · refine W97.1.ifYes (hb hby at_295) (XT.i0_eq_t hc102) (by decide) (pc' := 306) (by decide) ?_
        refine W97.1.aload (hb hby at_306) rfl rfl (pc' := 308) rfl ?_
        refine W97.ldcS hEL (hw _ (List.mem_of_getElem? (i := 84) rfl)) hwS (by decide) (vs := [(.int (114 : Int32)), (.int (101 : Int32)), (.int (106 : Int32)), (.int (101 : Int32)), (.int (99 : Int32)), (.int (116 : Int32))]) (z := (6 : Int32)) ⟨by decide, by decide⟩ (by decide) rfl (hb hby at_308) (pc' := 310) rfl (n := 24) (by decide) (by decide) (by decide) (by decide) ?_
        intro T103 h103 vm103 a103 b103 k103 W103 E103 C103 A103 B103 D103 V103 hne103
        have z103 := E103.1
        have S103 : StrA Z h103 a103 ([(114 : Int32), (101 : Int32), (106 : Int32), (101 : Int32), (99 : Int32), (116 : Int32)] : List Int32) := StrA.make A103 B103 D103 V103 rfl (Nat.le_of_ble_eq_true rfl) (by decide)
        have X14_17_105 : Ext h85 h103 := Keep.toExt ((((Keep.refl h85 []).ext E90).ext E96).ext E103)
        have zX14_17_105 := X14_17_105.1
        have F106 := StrA.ext S89 X14_17_105
        have X0_17_107 : Ext h0 h103 := Keep.toExt ((((((((((((((((((Keep.refl h0 []).ext E1).ext E13).trans K19 (allS (Or.inr (by have := y13; omega)) all0)).trans K26 (allS (Or.inr (by have := y13; omega)) all0)).trans K33 (allS (Or.inr (by have := y13; omega)) all0)).trans K40 (allS (Or.inr (by have := y13; omega)) all0)).trans K47 (allS (Or.inr (by have := y13; omega)) all0)).trans K54 (allS (Or.inr (by have := y13; omega)) all0)).trans K61 (allS (Or.inr (by have := y13; omega)) all0)).trans K68 (allS (Or.inr (by have := y13; omega)) all0)).trans K69 (allS (Or.inr (by have := y13; omega)) all0)).ext E80).trans K81 all0).trans K85 (allS (Or.inr (by have := y80; omega)) all0)).ext E90).ext E96).ext E103)
        have zX0_17_107 := X0_17_107.1
        have F108 := Sta.ext X0_17_107 SC
        refine W103.1.callVP (y := (⟨"java/lang/String", "equals", "(Ljava/lang/Object;)Z"⟩ : MethodName)) (z := (⟨"java/lang/String", "equals", "(Ljava/lang/Object;)Z"⟩ : MethodName)) (hw _ (List.mem_of_getElem? (i := 74) rfl)) (hw _ (List.mem_of_getElem? (i := 75) rfl)) (hw _ (List.mem_of_getElem? (i := 77) rfl)) (hw _ (List.mem_of_getElem? (i := 77) rfl)) (hw _ (List.mem_of_getElem? (i := 76) rfl)) (by decide) (StrA.eq (wd := 0) F106 S103 W103.1.2.2.2.1 hw (hw _ (List.mem_of_getElem? (i := 3) rfl)) F108 hz (by decide) (by decide)) F106.1 (hb hby at_310) (pc' := 313) rfl hml (argsL := [(.ref a103)]) rfl (lenOf pd_67f3b2e8 rfl) rfl (Nat.le_of_ble_eq_true rfl) (by decide) (by decide) (fun _ _ _ q => pu_nil q) ?_
        intro T104 L104 N104
        have W104 := W103.same N104
        show Go p e below _ T104 (mkF m 313 #[.val (.int p1), .val (.int p2), .val (.int p3), .val (.long p4), .second, .val (.int k), .val (.ref bs), .val (.int ln), .val (.ref a13), .val (.int md), .val (.int pp), .val (.int cx), .val (.int (modeF md pp cx ln ([(pkF (baseF k) 0 p4), (pkF (baseF k) 1 p4), (pkF (baseF k) 2 p4), (pkF (baseF k) 3 p4), (pkF (baseF k) 4 p4), (pkF (baseF k) 5 p4), (pkF (baseF k) 6 p4), (pkF (baseF k) 7 p4)] : List Int32)).1), .val (.ref a80), .val .null, .unset] [(.int (if (pxF (modeF md pp cx ln ([(pkF (baseF k) 0 p4), (pkF (baseF k) 1 p4), (pkF (baseF k) 2 p4), (pkF (baseF k) 3 p4), (pkF (baseF k) 4 p4), (pkF (baseF k) 5 p4), (pkF (baseF k) 6 p4), (pkF (baseF k) 7 p4)] : List Int32)).1 (modeF md pp cx ln ([(pkF (baseF k) 0 p4), (pkF (baseF k) 1 p4), (pkF (baseF k) 2 p4), (pkF (baseF k) 3 p4), (pkF (baseF k) 4 p4), (pkF (baseF k) 5 p4), (pkF (baseF k) 6 p4), (pkF (baseF k) 7 p4)] : List Int32)).2) = ([(114 : Int32), (101 : Int32), (106 : Int32), (101 : Int32), (99 : Int32), (116 : Int32)] : List Int32) then (1 : Int32) else 0))])
        by_cases hc109 : (if (pxF (modeF md pp cx ln ([(pkF (baseF k) 0 p4), (pkF (baseF k) 1 p4), (pkF (baseF k) 2 p4), (pkF (baseF k) 3 p4), (pkF (baseF k) 4 p4), (pkF (baseF k) 5 p4), (pkF (baseF k) 6 p4), (pkF (baseF k) 7 p4)] : List Int32)).1 (modeF md pp cx ln ([(pkF (baseF k) 0 p4), (pkF (baseF k) 1 p4), (pkF (baseF k) 2 p4), (pkF (baseF k) 3 p4), (pkF (baseF k) 4 p4), (pkF (baseF k) 5 p4), (pkF (baseF k) 6 p4), (pkF (baseF k) 7 p4)] : List Int32)).2) = ([(114 : Int32), (101 : Int32), (106 : Int32), (101 : Int32), (99 : Int32), (116 : Int32)] : List Int32) then (1 : Int32) else 0) = (0 : Int32)
        · refine W104.1.ifYes (hb hby at_313) (XT.i0_eq_t hc109) (by decide) (pc' := 321) (by decide) ?_
          refine W104.1.aload (hb hby at_321) rfl rfl (pc' := 323) rfl ?_
          have F111 := Sta.ext X0_17_107 SV
          have F112 := Arv.ext AV X0_17_107
          have F113 := Exa.ext X0_17_107 EV
          have F114 := Exa.ext X0_17_107 DX1
          have F115 := Fld.ext X0_17_107 FX1
          have F116 := StrA.ext TW1 X0_17_107
          have F117 := Exa.ext X0_17_107 DX2
          have F118 := Fld.ext X0_17_107 FX2
          have F119 := StrA.ext TW2 X0_17_107
          have F120 := Exa.ext X0_17_107 DX3
          have F121 := Fld.ext X0_17_107 FX3
          have F122 := StrA.ext TW3 X0_17_107
          have F123 := Sta.ext X0_17_107 SE
          have F124 := Exa.ext X0_17_107 EE
          have F125 := Fld.ext X0_17_107 FE
          refine W104.1.callS (hw _ (List.mem_of_getElem? (i := 85) rfl)) (hw _ (List.mem_of_getElem? (i := 86) rfl)) (hw _ (List.mem_of_getElem? (i := 87) rfl)) (hw _ (List.mem_of_getElem? (i := 88) rfl)) (by decide) (NM.bk (wd := 0) (rmOW l Z a0 hw a80 (pxF (modeF md pp cx ln ([(pkF (baseF k) 0 p4), (pkF (baseF k) 1 p4), (pkF (baseF k) 2 p4), (pkF (baseF k) 3 p4), (pkF (baseF k) 4 p4), (pkF (baseF k) 5 p4), (pkF (baseF k) 6 p4), (pkF (baseF k) 7 p4)] : List Int32)).1 (modeF md pp cx ln ([(pkF (baseF k) 0 p4), (pkF (baseF k) 1 p4), (pkF (baseF k) 2 p4), (pkF (baseF k) 3 p4), (pkF (baseF k) 4 p4), (pkF (baseF k) 5 p4), (pkF (baseF k) 6 p4), (pkF (baseF k) 7 p4)] : List Int32)).2) va al de re s1 s2 s3 em kv zc h103 n0 W104.1.n0h F106 F111 F112 F113 F114 F115 F116 F117 F118 F119 F120 F121 F122 F123 F124 F125 F108 hz) W104.1.2.2.2.1 (hw _ (List.mem_of_getElem? (i := 88) rfl)) (hw _ (List.mem_of_getElem? (i := 87) rfl)) (by decide) (by decide)) (hb hby at_323) (pc' := 326) rfl hml (argsL := [(.ref a80)]) rfl (lenOf pd_f4991ca4 rfl) rfl (Nat.le_of_ble_eq_true rfl) (by decide) (by decide) (ws' := []) (fun _ _ _ q => ⟨q.2.2, q.2.1⟩) all0 ?_
          intro v110 T110 h110 L110' L110 N110 Q110 K110
          have W110 := W104.up N110 K110 sf0
          have z110 := K110.1
          obtain ⟨⟨o110, rfl, A110, B110'⟩, -, -⟩ := Q110
          have B110 : Fld Z h110 o110 "java/util/Optional" "value" "Ljava/lang/Object;" .null := by have q := B110'; rw [(ov_no hc95 hc102 hc109)] at q; exact q
          show Go p e below _ T110 (mkF m 326 #[.val (.int p1), .val (.int p2), .val (.int p3), .val (.long p4), .second, .val (.int k), .val (.ref bs), .val (.int ln), .val (.ref a13), .val (.int md), .val (.int pp), .val (.int cx), .val (.int (modeF md pp cx ln ([(pkF (baseF k) 0 p4), (pkF (baseF k) 1 p4), (pkF (baseF k) 2 p4), (pkF (baseF k) 3 p4), (pkF (baseF k) 4 p4), (pkF (baseF k) 5 p4), (pkF (baseF k) 6 p4), (pkF (baseF k) 7 p4)] : List Int32)).1), .val (.ref a80), .val .null, .unset] [(.ref o110)])
          refine W110.1.aconstNull (hb hby at_326) (pc' := 327) rfl ?_
          refine W110.1.callVP (y := (⟨"java/util/Optional", "orElse", "(Ljava/lang/Object;)Ljava/lang/Object;"⟩ : MethodName)) (z := (⟨"java/util/Optional", "orElse", "(Ljava/lang/Object;)Ljava/lang/Object;"⟩ : MethodName)) (hw _ (List.mem_of_getElem? (i := 120) rfl)) (hw _ (List.mem_of_getElem? (i := 121) rfl)) (hw _ (List.mem_of_getElem? (i := 123) rfl)) (hw _ (List.mem_of_getElem? (i := 123) rfl)) (hw _ (List.mem_of_getElem? (i := 122) rfl)) (by decide) (NM.bk (wd := 0) (rmOR0 l Z a0 hw o110 h110 n0 W110.1.n0h B110) W110.1.2.2.2.1 (hw _ (List.mem_of_getElem? (i := 124) rfl)) (hw _ (List.mem_of_getElem? (i := 117) rfl)) (by decide) (by decide)) A110 (hb hby at_327) (pc' := 330) rfl hml (argsL := [.null]) rfl (lenOf pd_c2743d7f rfl) rfl (Nat.le_of_ble_eq_true rfl) (by decide) (by decide) (fun _ _ _ q => pu_of q) ?_
          intro T126 L126 N126
          have W126 := W110.same N126
          show Go p e below _ T126 (mkF m 330 #[.val (.int p1), .val (.int p2), .val (.int p3), .val (.long p4), .second, .val (.int k), .val (.ref bs), .val (.int ln), .val (.ref a13), .val (.int md), .val (.int pp), .val (.int cx), .val (.int (modeF md pp cx ln ([(pkF (baseF k) 0 p4), (pkF (baseF k) 1 p4), (pkF (baseF k) 2 p4), (pkF (baseF k) 3 p4), (pkF (baseF k) 4 p4), (pkF (baseF k) 5 p4), (pkF (baseF k) 6 p4), (pkF (baseF k) 7 p4)] : List Int32)).1), .val (.ref a80), .val .null, .unset] [.null])
          refine W126.1.castNull (hb hby at_330) (pc' := 333) rfl ?_
          refine W126.1.astore (Ls' := #[.val (.int p1), .val (.int p2), .val (.int p3), .val (.long p4), .second, .val (.int k), .val (.ref bs), .val (.int ln), .val (.ref a13), .val (.int md), .val (.int pp), .val (.int cx), .val (.int (modeF md pp cx ln ([(pkF (baseF k) 0 p4), (pkF (baseF k) 1 p4), (pkF (baseF k) 2 p4), (pkF (baseF k) 3 p4), (pkF (baseF k) 4 p4), (pkF (baseF k) 5 p4), (pkF (baseF k) 6 p4), (pkF (baseF k) 7 p4)] : List Int32)).1), .val (.ref a80), .val .null, .val .null]) (hb hby at_333) rfl rfl (pc' := 335) rfl ?_
          refine W126.1.aload (hb hby at_335) rfl rfl (pc' := 337) rfl ?_
          refine W126.1.aload (hb hby at_337) rfl rfl (pc' := 339) rfl ?_
          refine W126.1.acmpNo (hb hby at_339) rfl rfl (XT.aa_ne_f rfl) (pc' := 342) rfl ?_
          refine W126.1.iconst (1 : Int32) (hb hby at_342) rfl (pc' := 343) rfl ?_
          refine W126.1.goto (hb hby at_343) (by decide) (pc' := 347) (by decide) ?_
          exact W126.retZ hEL hret (hb hby at_347) (by decide) (by decide) (by decide) ⟨rfl, trivial⟩
        · refine W104.1.ifNo (hb hby at_313) (XT.i0_eq_f hc109) (pc' := 316) rfl ?_
          have F129 := Sta.ext X0_17_107 STre
          refine W104.1.getS (host := "") (Or.inl (hw _ (List.mem_of_getElem? (i := 147) rfl))) Via.refl F129 (hb hby at_316) (pc' := 319) rfl ?_
          intro T128 N128
          have W128 := W104.same N128
          refine W128.1.astore (Ls' := #[.val (.int p1), .val (.int p2), .val (.int p3), .val (.long p4), .second, .val (.int k), .val (.ref bs), .val (.int ln), .val (.ref a13), .val (.int md), .val (.int pp), .val (.int cx), .val (.int (modeF md pp cx ln ([(pkF (baseF k) 0 p4), (pkF (baseF k) 1 p4), (pkF (baseF k) 2 p4), (pkF (baseF k) 3 p4), (pkF (baseF k) 4 p4), (pkF (baseF k) 5 p4), (pkF (baseF k) 6 p4), (pkF (baseF k) 7 p4)] : List Int32)).1), .val (.ref a80), .val (.ref re), .unset]) (hb hby at_319) rfl rfl (pc' := 321) rfl ?_
          refine W128.1.aload (hb hby at_321) rfl rfl (pc' := 323) rfl ?_
          have F131 := Sta.ext X0_17_107 SV
          have F132 := Arv.ext AV X0_17_107
          have F133 := Exa.ext X0_17_107 EV
          have F134 := Exa.ext X0_17_107 DX1
          have F135 := Fld.ext X0_17_107 FX1
          have F136 := StrA.ext TW1 X0_17_107
          have F137 := Exa.ext X0_17_107 DX2
          have F138 := Fld.ext X0_17_107 FX2
          have F139 := StrA.ext TW2 X0_17_107
          have F140 := Exa.ext X0_17_107 DX3
          have F141 := Fld.ext X0_17_107 FX3
          have F142 := StrA.ext TW3 X0_17_107
          have F143 := Sta.ext X0_17_107 SE
          have F144 := Exa.ext X0_17_107 EE
          have F145 := Fld.ext X0_17_107 FE
          refine W128.1.callS (hw _ (List.mem_of_getElem? (i := 85) rfl)) (hw _ (List.mem_of_getElem? (i := 86) rfl)) (hw _ (List.mem_of_getElem? (i := 87) rfl)) (hw _ (List.mem_of_getElem? (i := 88) rfl)) (by decide) (NM.bk (wd := 0) (rmOW l Z a0 hw a80 (pxF (modeF md pp cx ln ([(pkF (baseF k) 0 p4), (pkF (baseF k) 1 p4), (pkF (baseF k) 2 p4), (pkF (baseF k) 3 p4), (pkF (baseF k) 4 p4), (pkF (baseF k) 5 p4), (pkF (baseF k) 6 p4), (pkF (baseF k) 7 p4)] : List Int32)).1 (modeF md pp cx ln ([(pkF (baseF k) 0 p4), (pkF (baseF k) 1 p4), (pkF (baseF k) 2 p4), (pkF (baseF k) 3 p4), (pkF (baseF k) 4 p4), (pkF (baseF k) 5 p4), (pkF (baseF k) 6 p4), (pkF (baseF k) 7 p4)] : List Int32)).2) va al de re s1 s2 s3 em kv zc h103 n0 W128.1.n0h F106 F131 F132 F133 F134 F135 F136 F137 F138 F139 F140 F141 F142 F143 F144 F145 F108 hz) W128.1.2.2.2.1 (hw _ (List.mem_of_getElem? (i := 88) rfl)) (hw _ (List.mem_of_getElem? (i := 87) rfl)) (by decide) (by decide)) (hb hby at_323) (pc' := 326) rfl hml (argsL := [(.ref a80)]) rfl (lenOf pd_f4991ca4 rfl) rfl (Nat.le_of_ble_eq_true rfl) (by decide) (by decide) (ws' := []) (fun _ _ _ q => ⟨q.2.2, q.2.1⟩) all0 ?_
          intro v130 T130 h130 L130' L130 N130 Q130 K130
          have W130 := W128.up N130 K130 sf0
          have z130 := K130.1
          obtain ⟨⟨o130, rfl, A130, B130'⟩, -, -⟩ := Q130
          have B130 : Fld Z h130 o130 "java/util/Optional" "value" "Ljava/lang/Object;" (.ref re) := by have q := B130'; rw [(ov_re hc95 hc102 hc109)] at q; exact q
          show Go p e below _ T130 (mkF m 326 #[.val (.int p1), .val (.int p2), .val (.int p3), .val (.long p4), .second, .val (.int k), .val (.ref bs), .val (.int ln), .val (.ref a13), .val (.int md), .val (.int pp), .val (.int cx), .val (.int (modeF md pp cx ln ([(pkF (baseF k) 0 p4), (pkF (baseF k) 1 p4), (pkF (baseF k) 2 p4), (pkF (baseF k) 3 p4), (pkF (baseF k) 4 p4), (pkF (baseF k) 5 p4), (pkF (baseF k) 6 p4), (pkF (baseF k) 7 p4)] : List Int32)).1), .val (.ref a80), .val (.ref re), .unset] [(.ref o130)])
          refine W130.1.aconstNull (hb hby at_326) (pc' := 327) rfl ?_
          refine W130.1.callVP (y := (⟨"java/util/Optional", "orElse", "(Ljava/lang/Object;)Ljava/lang/Object;"⟩ : MethodName)) (z := (⟨"java/util/Optional", "orElse", "(Ljava/lang/Object;)Ljava/lang/Object;"⟩ : MethodName)) (hw _ (List.mem_of_getElem? (i := 120) rfl)) (hw _ (List.mem_of_getElem? (i := 121) rfl)) (hw _ (List.mem_of_getElem? (i := 123) rfl)) (hw _ (List.mem_of_getElem? (i := 123) rfl)) (hw _ (List.mem_of_getElem? (i := 122) rfl)) (by decide) (NM.bk (wd := 0) (rmOR1 l Z a0 hw o130 re h130 n0 W130.1.n0h B130) W130.1.2.2.2.1 (hw _ (List.mem_of_getElem? (i := 124) rfl)) (hw _ (List.mem_of_getElem? (i := 117) rfl)) (by decide) (by decide)) A130 (hb hby at_327) (pc' := 330) rfl hml (argsL := [.null]) rfl (lenOf pd_c2743d7f rfl) rfl (Nat.le_of_ble_eq_true rfl) (by decide) (by decide) (fun _ _ _ q => pu_of q) ?_
          intro T146 L146 N146
          have W146 := W130.same N146
          show Go p e below _ T146 (mkF m 330 #[.val (.int p1), .val (.int p2), .val (.int p3), .val (.long p4), .second, .val (.int k), .val (.ref bs), .val (.int ln), .val (.ref a13), .val (.int md), .val (.int pp), .val (.int cx), .val (.int (modeF md pp cx ln ([(pkF (baseF k) 0 p4), (pkF (baseF k) 1 p4), (pkF (baseF k) 2 p4), (pkF (baseF k) 3 p4), (pkF (baseF k) 4 p4), (pkF (baseF k) 5 p4), (pkF (baseF k) 6 p4), (pkF (baseF k) 7 p4)] : List Int32)).1), .val (.ref a80), .val (.ref re), .unset] [(.ref re)])
          have X0_18_148 : Ext h0 h130 := Keep.toExt (((((((((((((((((((Keep.refl h0 []).ext E1).ext E13).trans K19 (allS (Or.inr (by have := y13; omega)) all0)).trans K26 (allS (Or.inr (by have := y13; omega)) all0)).trans K33 (allS (Or.inr (by have := y13; omega)) all0)).trans K40 (allS (Or.inr (by have := y13; omega)) all0)).trans K47 (allS (Or.inr (by have := y13; omega)) all0)).trans K54 (allS (Or.inr (by have := y13; omega)) all0)).trans K61 (allS (Or.inr (by have := y13; omega)) all0)).trans K68 (allS (Or.inr (by have := y13; omega)) all0)).trans K69 (allS (Or.inr (by have := y13; omega)) all0)).ext E80).trans K81 all0).trans K85 (allS (Or.inr (by have := y80; omega)) all0)).ext E90).ext E96).ext E103).trans K130 all0)
          have zX0_18_148 := X0_18_148.1
          have F149 := Exa.ext X0_18_148 DX3
          refine W146.1.castY (hw _ (List.mem_of_getElem? (i := 143) rfl)) (Ins.self F149) (hb hby at_330) (pc' := 333) rfl ?_
          intro T147 N147
          have W147 := W146.same N147
          refine W147.1.astore (Ls' := #[.val (.int p1), .val (.int p2), .val (.int p3), .val (.long p4), .second, .val (.int k), .val (.ref bs), .val (.int ln), .val (.ref a13), .val (.int md), .val (.int pp), .val (.int cx), .val (.int (modeF md pp cx ln ([(pkF (baseF k) 0 p4), (pkF (baseF k) 1 p4), (pkF (baseF k) 2 p4), (pkF (baseF k) 3 p4), (pkF (baseF k) 4 p4), (pkF (baseF k) 5 p4), (pkF (baseF k) 6 p4), (pkF (baseF k) 7 p4)] : List Int32)).1), .val (.ref a80), .val (.ref re), .val (.ref re)]) (hb hby at_333) rfl rfl (pc' := 335) rfl ?_
          refine W147.1.aload (hb hby at_335) rfl rfl (pc' := 337) rfl ?_
          refine W147.1.aload (hb hby at_337) rfl rfl (pc' := 339) rfl ?_
          refine W147.1.acmpNo (hb hby at_339) rfl rfl (XT.aa_ne_f rfl) (pc' := 342) rfl ?_
          refine W147.1.iconst (1 : Int32) (hb hby at_342) rfl (pc' := 343) rfl ?_
          refine W147.1.goto (hb hby at_343) (by decide) (pc' := 347) (by decide) ?_
          exact W147.retZ hEL hret (hb hby at_347) (by decide) (by decide) (by decide) ⟨rfl, trivial⟩
      · refine W97.1.ifNo (hb hby at_295) (XT.i0_eq_f hc102) (pc' := 298) rfl ?_
        have F151 := Sta.ext X0_16_100 STde
        refine W97.1.getS (host := "") (Or.inl (hw _ (List.mem_of_getElem? (i := 146) rfl))) Via.refl F151 (hb hby at_298) (pc' := 301) rfl ?_
        intro T150 N150
        have W150 := W97.same N150
        refine W150.1.astore (Ls' := #[.val (.int p1), .val (.int p2), .val (.int p3), .val (.long p4), .second, .val (.int k), .val (.ref bs), .val (.int ln), .val (.ref a13), .val (.int md), .val (.int pp), .val (.int cx), .val (.int (modeF md pp cx ln ([(pkF (baseF k) 0 p4), (pkF (baseF k) 1 p4), (pkF (baseF k) 2 p4), (pkF (baseF k) 3 p4), (pkF (baseF k) 4 p4), (pkF (baseF k) 5 p4), (pkF (baseF k) 6 p4), (pkF (baseF k) 7 p4)] : List Int32)).1), .val (.ref a80), .val (.ref de), .unset]) (hb hby at_301) rfl rfl (pc' := 303) rfl ?_
        refine W150.1.goto (hb hby at_303) (by decide) (pc' := 321) (by decide) ?_
        refine W150.1.aload (hb hby at_321) rfl rfl (pc' := 323) rfl ?_
        have F153 := Sta.ext X0_16_100 SV
        have F154 := Arv.ext AV X0_16_100
        have F155 := Exa.ext X0_16_100 EV
        have F156 := Exa.ext X0_16_100 DX1
        have F157 := Fld.ext X0_16_100 FX1
        have F158 := StrA.ext TW1 X0_16_100
        have F159 := Exa.ext X0_16_100 DX2
        have F160 := Fld.ext X0_16_100 FX2
        have F161 := StrA.ext TW2 X0_16_100
        have F162 := Exa.ext X0_16_100 DX3
        have F163 := Fld.ext X0_16_100 FX3
        have F164 := StrA.ext TW3 X0_16_100
        have F165 := Sta.ext X0_16_100 SE
        have F166 := Exa.ext X0_16_100 EE
        have F167 := Fld.ext X0_16_100 FE
        refine W150.1.callS (hw _ (List.mem_of_getElem? (i := 85) rfl)) (hw _ (List.mem_of_getElem? (i := 86) rfl)) (hw _ (List.mem_of_getElem? (i := 87) rfl)) (hw _ (List.mem_of_getElem? (i := 88) rfl)) (by decide) (NM.bk (wd := 0) (rmOW l Z a0 hw a80 (pxF (modeF md pp cx ln ([(pkF (baseF k) 0 p4), (pkF (baseF k) 1 p4), (pkF (baseF k) 2 p4), (pkF (baseF k) 3 p4), (pkF (baseF k) 4 p4), (pkF (baseF k) 5 p4), (pkF (baseF k) 6 p4), (pkF (baseF k) 7 p4)] : List Int32)).1 (modeF md pp cx ln ([(pkF (baseF k) 0 p4), (pkF (baseF k) 1 p4), (pkF (baseF k) 2 p4), (pkF (baseF k) 3 p4), (pkF (baseF k) 4 p4), (pkF (baseF k) 5 p4), (pkF (baseF k) 6 p4), (pkF (baseF k) 7 p4)] : List Int32)).2) va al de re s1 s2 s3 em kv zc h96 n0 W150.1.n0h F99 F153 F154 F155 F156 F157 F158 F159 F160 F161 F162 F163 F164 F165 F166 F167 F101 hz) W150.1.2.2.2.1 (hw _ (List.mem_of_getElem? (i := 88) rfl)) (hw _ (List.mem_of_getElem? (i := 87) rfl)) (by decide) (by decide)) (hb hby at_323) (pc' := 326) rfl hml (argsL := [(.ref a80)]) rfl (lenOf pd_f4991ca4 rfl) rfl (Nat.le_of_ble_eq_true rfl) (by decide) (by decide) (ws' := []) (fun _ _ _ q => ⟨q.2.2, q.2.1⟩) all0 ?_
        intro v152 T152 h152 L152' L152 N152 Q152 K152
        have W152 := W150.up N152 K152 sf0
        have z152 := K152.1
        obtain ⟨⟨o152, rfl, A152, B152'⟩, -, -⟩ := Q152
        have B152 : Fld Z h152 o152 "java/util/Optional" "value" "Ljava/lang/Object;" (.ref de) := by have q := B152'; rw [(ov_de hc95 hc102)] at q; exact q
        show Go p e below _ T152 (mkF m 326 #[.val (.int p1), .val (.int p2), .val (.int p3), .val (.long p4), .second, .val (.int k), .val (.ref bs), .val (.int ln), .val (.ref a13), .val (.int md), .val (.int pp), .val (.int cx), .val (.int (modeF md pp cx ln ([(pkF (baseF k) 0 p4), (pkF (baseF k) 1 p4), (pkF (baseF k) 2 p4), (pkF (baseF k) 3 p4), (pkF (baseF k) 4 p4), (pkF (baseF k) 5 p4), (pkF (baseF k) 6 p4), (pkF (baseF k) 7 p4)] : List Int32)).1), .val (.ref a80), .val (.ref de), .unset] [(.ref o152)])
        refine W152.1.aconstNull (hb hby at_326) (pc' := 327) rfl ?_
        refine W152.1.callVP (y := (⟨"java/util/Optional", "orElse", "(Ljava/lang/Object;)Ljava/lang/Object;"⟩ : MethodName)) (z := (⟨"java/util/Optional", "orElse", "(Ljava/lang/Object;)Ljava/lang/Object;"⟩ : MethodName)) (hw _ (List.mem_of_getElem? (i := 120) rfl)) (hw _ (List.mem_of_getElem? (i := 121) rfl)) (hw _ (List.mem_of_getElem? (i := 123) rfl)) (hw _ (List.mem_of_getElem? (i := 123) rfl)) (hw _ (List.mem_of_getElem? (i := 122) rfl)) (by decide) (NM.bk (wd := 0) (rmOR1 l Z a0 hw o152 de h152 n0 W152.1.n0h B152) W152.1.2.2.2.1 (hw _ (List.mem_of_getElem? (i := 124) rfl)) (hw _ (List.mem_of_getElem? (i := 117) rfl)) (by decide) (by decide)) A152 (hb hby at_327) (pc' := 330) rfl hml (argsL := [.null]) rfl (lenOf pd_c2743d7f rfl) rfl (Nat.le_of_ble_eq_true rfl) (by decide) (by decide) (fun _ _ _ q => pu_of q) ?_
        intro T168 L168 N168
        have W168 := W152.same N168
        show Go p e below _ T168 (mkF m 330 #[.val (.int p1), .val (.int p2), .val (.int p3), .val (.long p4), .second, .val (.int k), .val (.ref bs), .val (.int ln), .val (.ref a13), .val (.int md), .val (.int pp), .val (.int cx), .val (.int (modeF md pp cx ln ([(pkF (baseF k) 0 p4), (pkF (baseF k) 1 p4), (pkF (baseF k) 2 p4), (pkF (baseF k) 3 p4), (pkF (baseF k) 4 p4), (pkF (baseF k) 5 p4), (pkF (baseF k) 6 p4), (pkF (baseF k) 7 p4)] : List Int32)).1), .val (.ref a80), .val (.ref de), .unset] [(.ref de)])
        have X0_17_170 : Ext h0 h152 := Keep.toExt ((((((((((((((((((Keep.refl h0 []).ext E1).ext E13).trans K19 (allS (Or.inr (by have := y13; omega)) all0)).trans K26 (allS (Or.inr (by have := y13; omega)) all0)).trans K33 (allS (Or.inr (by have := y13; omega)) all0)).trans K40 (allS (Or.inr (by have := y13; omega)) all0)).trans K47 (allS (Or.inr (by have := y13; omega)) all0)).trans K54 (allS (Or.inr (by have := y13; omega)) all0)).trans K61 (allS (Or.inr (by have := y13; omega)) all0)).trans K68 (allS (Or.inr (by have := y13; omega)) all0)).trans K69 (allS (Or.inr (by have := y13; omega)) all0)).ext E80).trans K81 all0).trans K85 (allS (Or.inr (by have := y80; omega)) all0)).ext E90).ext E96).trans K152 all0)
        have zX0_17_170 := X0_17_170.1
        have F171 := Exa.ext X0_17_170 DX2
        refine W168.1.castY (hw _ (List.mem_of_getElem? (i := 143) rfl)) (Ins.self F171) (hb hby at_330) (pc' := 333) rfl ?_
        intro T169 N169
        have W169 := W168.same N169
        refine W169.1.astore (Ls' := #[.val (.int p1), .val (.int p2), .val (.int p3), .val (.long p4), .second, .val (.int k), .val (.ref bs), .val (.int ln), .val (.ref a13), .val (.int md), .val (.int pp), .val (.int cx), .val (.int (modeF md pp cx ln ([(pkF (baseF k) 0 p4), (pkF (baseF k) 1 p4), (pkF (baseF k) 2 p4), (pkF (baseF k) 3 p4), (pkF (baseF k) 4 p4), (pkF (baseF k) 5 p4), (pkF (baseF k) 6 p4), (pkF (baseF k) 7 p4)] : List Int32)).1), .val (.ref a80), .val (.ref de), .val (.ref de)]) (hb hby at_333) rfl rfl (pc' := 335) rfl ?_
        refine W169.1.aload (hb hby at_335) rfl rfl (pc' := 337) rfl ?_
        refine W169.1.aload (hb hby at_337) rfl rfl (pc' := 339) rfl ?_
        refine W169.1.acmpNo (hb hby at_339) rfl rfl (XT.aa_ne_f rfl) (pc' := 342) rfl ?_
        refine W169.1.iconst (1 : Int32) (hb hby at_342) rfl (pc' := 343) rfl ?_
        refine W169.1.goto (hb hby at_343) (by decide) (pc' := 347) (by decide) ?_
        exact W169.retZ hEL hret (hb hby at_347) (by decide) (by decide) (by decide) ⟨rfl, trivial⟩
    · refine W91.1.ifNo (hb hby at_277) (XT.i0_eq_f hc95) (pc' := 280) rfl ?_
      have F173 := Sta.ext X0_15_93 STal
      refine W91.1.getS (host := "") (Or.inl (hw _ (List.mem_of_getElem? (i := 128) rfl))) Via.refl F173 (hb hby at_280) (pc' := 283) rfl ?_
      intro T172 N172
      have W172 := W91.same N172
      refine W172.1.astore (Ls' := #[.val (.int p1), .val (.int p2), .val (.int p3), .val (.long p4), .second, .val (.int k), .val (.ref bs), .val (.int ln), .val (.ref a13), .val (.int md), .val (.int pp), .val (.int cx), .val (.int (modeF md pp cx ln ([(pkF (baseF k) 0 p4), (pkF (baseF k) 1 p4), (pkF (baseF k) 2 p4), (pkF (baseF k) 3 p4), (pkF (baseF k) 4 p4), (pkF (baseF k) 5 p4), (pkF (baseF k) 6 p4), (pkF (baseF k) 7 p4)] : List Int32)).1), .val (.ref a80), .val (.ref al), .unset]) (hb hby at_283) rfl rfl (pc' := 285) rfl ?_
      refine W172.1.goto (hb hby at_285) (by decide) (pc' := 321) (by decide) ?_
      refine W172.1.aload (hb hby at_321) rfl rfl (pc' := 323) rfl ?_
      have F175 := Sta.ext X0_15_93 SV
      have F176 := Arv.ext AV X0_15_93
      have F177 := Exa.ext X0_15_93 EV
      have F178 := Exa.ext X0_15_93 DX1
      have F179 := Fld.ext X0_15_93 FX1
      have F180 := StrA.ext TW1 X0_15_93
      have F181 := Exa.ext X0_15_93 DX2
      have F182 := Fld.ext X0_15_93 FX2
      have F183 := StrA.ext TW2 X0_15_93
      have F184 := Exa.ext X0_15_93 DX3
      have F185 := Fld.ext X0_15_93 FX3
      have F186 := StrA.ext TW3 X0_15_93
      have F187 := Sta.ext X0_15_93 SE
      have F188 := Exa.ext X0_15_93 EE
      have F189 := Fld.ext X0_15_93 FE
      refine W172.1.callS (hw _ (List.mem_of_getElem? (i := 85) rfl)) (hw _ (List.mem_of_getElem? (i := 86) rfl)) (hw _ (List.mem_of_getElem? (i := 87) rfl)) (hw _ (List.mem_of_getElem? (i := 88) rfl)) (by decide) (NM.bk (wd := 0) (rmOW l Z a0 hw a80 (pxF (modeF md pp cx ln ([(pkF (baseF k) 0 p4), (pkF (baseF k) 1 p4), (pkF (baseF k) 2 p4), (pkF (baseF k) 3 p4), (pkF (baseF k) 4 p4), (pkF (baseF k) 5 p4), (pkF (baseF k) 6 p4), (pkF (baseF k) 7 p4)] : List Int32)).1 (modeF md pp cx ln ([(pkF (baseF k) 0 p4), (pkF (baseF k) 1 p4), (pkF (baseF k) 2 p4), (pkF (baseF k) 3 p4), (pkF (baseF k) 4 p4), (pkF (baseF k) 5 p4), (pkF (baseF k) 6 p4), (pkF (baseF k) 7 p4)] : List Int32)).2) va al de re s1 s2 s3 em kv zc h90 n0 W172.1.n0h F92 F175 F176 F177 F178 F179 F180 F181 F182 F183 F184 F185 F186 F187 F188 F189 F94 hz) W172.1.2.2.2.1 (hw _ (List.mem_of_getElem? (i := 88) rfl)) (hw _ (List.mem_of_getElem? (i := 87) rfl)) (by decide) (by decide)) (hb hby at_323) (pc' := 326) rfl hml (argsL := [(.ref a80)]) rfl (lenOf pd_f4991ca4 rfl) rfl (Nat.le_of_ble_eq_true rfl) (by decide) (by decide) (ws' := []) (fun _ _ _ q => ⟨q.2.2, q.2.1⟩) all0 ?_
      intro v174 T174 h174 L174' L174 N174 Q174 K174
      have W174 := W172.up N174 K174 sf0
      have z174 := K174.1
      obtain ⟨⟨o174, rfl, A174, B174'⟩, -, -⟩ := Q174
      have B174 : Fld Z h174 o174 "java/util/Optional" "value" "Ljava/lang/Object;" (.ref al) := by have q := B174'; rw [(ov_al hc95)] at q; exact q
      show Go p e below _ T174 (mkF m 326 #[.val (.int p1), .val (.int p2), .val (.int p3), .val (.long p4), .second, .val (.int k), .val (.ref bs), .val (.int ln), .val (.ref a13), .val (.int md), .val (.int pp), .val (.int cx), .val (.int (modeF md pp cx ln ([(pkF (baseF k) 0 p4), (pkF (baseF k) 1 p4), (pkF (baseF k) 2 p4), (pkF (baseF k) 3 p4), (pkF (baseF k) 4 p4), (pkF (baseF k) 5 p4), (pkF (baseF k) 6 p4), (pkF (baseF k) 7 p4)] : List Int32)).1), .val (.ref a80), .val (.ref al), .unset] [(.ref o174)])
      refine W174.1.aconstNull (hb hby at_326) (pc' := 327) rfl ?_
      refine W174.1.callVP (y := (⟨"java/util/Optional", "orElse", "(Ljava/lang/Object;)Ljava/lang/Object;"⟩ : MethodName)) (z := (⟨"java/util/Optional", "orElse", "(Ljava/lang/Object;)Ljava/lang/Object;"⟩ : MethodName)) (hw _ (List.mem_of_getElem? (i := 120) rfl)) (hw _ (List.mem_of_getElem? (i := 121) rfl)) (hw _ (List.mem_of_getElem? (i := 123) rfl)) (hw _ (List.mem_of_getElem? (i := 123) rfl)) (hw _ (List.mem_of_getElem? (i := 122) rfl)) (by decide) (NM.bk (wd := 0) (rmOR1 l Z a0 hw o174 al h174 n0 W174.1.n0h B174) W174.1.2.2.2.1 (hw _ (List.mem_of_getElem? (i := 124) rfl)) (hw _ (List.mem_of_getElem? (i := 117) rfl)) (by decide) (by decide)) A174 (hb hby at_327) (pc' := 330) rfl hml (argsL := [.null]) rfl (lenOf pd_c2743d7f rfl) rfl (Nat.le_of_ble_eq_true rfl) (by decide) (by decide) (fun _ _ _ q => pu_of q) ?_
      intro T190 L190 N190
      have W190 := W174.same N190
      show Go p e below _ T190 (mkF m 330 #[.val (.int p1), .val (.int p2), .val (.int p3), .val (.long p4), .second, .val (.int k), .val (.ref bs), .val (.int ln), .val (.ref a13), .val (.int md), .val (.int pp), .val (.int cx), .val (.int (modeF md pp cx ln ([(pkF (baseF k) 0 p4), (pkF (baseF k) 1 p4), (pkF (baseF k) 2 p4), (pkF (baseF k) 3 p4), (pkF (baseF k) 4 p4), (pkF (baseF k) 5 p4), (pkF (baseF k) 6 p4), (pkF (baseF k) 7 p4)] : List Int32)).1), .val (.ref a80), .val (.ref al), .unset] [(.ref al)])
      have X0_16_192 : Ext h0 h174 := Keep.toExt (((((((((((((((((Keep.refl h0 []).ext E1).ext E13).trans K19 (allS (Or.inr (by have := y13; omega)) all0)).trans K26 (allS (Or.inr (by have := y13; omega)) all0)).trans K33 (allS (Or.inr (by have := y13; omega)) all0)).trans K40 (allS (Or.inr (by have := y13; omega)) all0)).trans K47 (allS (Or.inr (by have := y13; omega)) all0)).trans K54 (allS (Or.inr (by have := y13; omega)) all0)).trans K61 (allS (Or.inr (by have := y13; omega)) all0)).trans K68 (allS (Or.inr (by have := y13; omega)) all0)).trans K69 (allS (Or.inr (by have := y13; omega)) all0)).ext E80).trans K81 all0).trans K85 (allS (Or.inr (by have := y80; omega)) all0)).ext E90).trans K174 all0)
      have zX0_16_192 := X0_16_192.1
      have F193 := Exa.ext X0_16_192 DX1
      refine W190.1.castY (hw _ (List.mem_of_getElem? (i := 143) rfl)) (Ins.self F193) (hb hby at_330) (pc' := 333) rfl ?_
      intro T191 N191
      have W191 := W190.same N191
      refine W191.1.astore (Ls' := #[.val (.int p1), .val (.int p2), .val (.int p3), .val (.long p4), .second, .val (.int k), .val (.ref bs), .val (.int ln), .val (.ref a13), .val (.int md), .val (.int pp), .val (.int cx), .val (.int (modeF md pp cx ln ([(pkF (baseF k) 0 p4), (pkF (baseF k) 1 p4), (pkF (baseF k) 2 p4), (pkF (baseF k) 3 p4), (pkF (baseF k) 4 p4), (pkF (baseF k) 5 p4), (pkF (baseF k) 6 p4), (pkF (baseF k) 7 p4)] : List Int32)).1), .val (.ref a80), .val (.ref al), .val (.ref al)]) (hb hby at_333) rfl rfl (pc' := 335) rfl ?_
      refine W191.1.aload (hb hby at_335) rfl rfl (pc' := 337) rfl ?_
      refine W191.1.aload (hb hby at_337) rfl rfl (pc' := 339) rfl ?_
      refine W191.1.acmpNo (hb hby at_339) rfl rfl (XT.aa_ne_f rfl) (pc' := 342) rfl ?_
      refine W191.1.iconst (1 : Int32) (hb hby at_342) rfl (pc' := 343) rfl ?_
      refine W191.1.goto (hb hby at_343) (by decide) (pc' := 347) (by decide) ?_
      exact W191.retZ hEL hret (hb hby at_347) (by decide) (by decide) (by decide) ⟨rfl, trivial⟩
  · have F195 := Exa.ext (Keep.toExt K81) A80
    have F196 := Fld.ext (Keep.toExt K81) D80_value
    have F197 := Fld.ext (Keep.toExt K81) D80_coder
    have X0_13_198 : Ext h0 h81 := Keep.toExt ((((((((((((((Keep.refl h0 []).ext E1).ext E13).trans K19 (allS (Or.inr (by have := y13; omega)) all0)).trans K26 (allS (Or.inr (by have := y13; omega)) all0)).trans K33 (allS (Or.inr (by have := y13; omega)) all0)).trans K40 (allS (Or.inr (by have := y13; omega)) all0)).trans K47 (allS (Or.inr (by have := y13; omega)) all0)).trans K54 (allS (Or.inr (by have := y13; omega)) all0)).trans K61 (allS (Or.inr (by have := y13; omega)) all0)).trans K68 (allS (Or.inr (by have := y13; omega)) all0)).trans K69 (allS (Or.inr (by have := y13; omega)) all0)).ext E80).trans K81 all0)
    have zX0_13_198 := X0_13_198.1
    have F199 := Sta.ext X0_13_198 SC
    refine W81.1.callI (y := (⟨"java/lang/String", "<init>", "([C)V"⟩ : MethodName)) rfl (hw _ (List.mem_of_getElem? (i := 54) rfl)) (hw _ (List.mem_of_getElem? (i := 55) rfl)) (hw _ (List.mem_of_getElem? (i := 56) rfl)) (by decide) (newStrL (wd := 1) (cs := (pxF (modeF md pp cx ln ([(pkF (baseF k) 0 p4), (pkF (baseF k) 1 p4), (pkF (baseF k) 2 p4), (pkF (baseF k) 3 p4), (pkF (baseF k) 4 p4), (pkF (baseF k) 5 p4), (pkF (baseF k) 6 p4), (pkF (baseF k) 7 p4)] : List Int32)).1 (modeF md pp cx ln ([(pkF (baseF k) 0 p4), (pkF (baseF k) 1 p4), (pkF (baseF k) 2 p4), (pkF (baseF k) 3 p4), (pkF (baseF k) 4 p4), (pkF (baseF k) 5 p4), (pkF (baseF k) 6 p4), (pkF (baseF k) 7 p4)] : List Int32)).2)) W81.1.2.2.2.1 hw (hw _ (List.mem_of_getElem? (i := 3) rfl)) gn80 W81.1.n0h F195 F196 F197 V81 (px_len _ _) (List.length_pos_iff.mpr hl83) (px_lat (mode_lat (by rw [hcx]; exact lat_and _) (pk8_lat k p4))) F199 hz (by decide) (by decide)) (hb hby at_262) (pc' := 265) rfl hml (a := a80) (argsL := [(.ref b81)]) rfl (lenOf pd_827e2587 rfl) rfl (Nat.le_of_ble_eq_true rfl) (by decide) (by decide) (ws' := [a80]) (fun _ _ _ q => ⟨q.2.2, q.2.1⟩) (allS (Or.inr ge80) all0) ?_
    intro v194 T194 h194 L194' L194 N194 Q194 K194
    have W194 := W81.up N194 K194 (sfS (safe_null (EL := consts_1) W81.1.2.2.2.1.alike F195 F196) sf0)
    have z194 := K194.1
    obtain ⟨⟨rfl, S194⟩, -, -⟩ := Q194
    show Go p e below _ T194 (mkF m 265 #[.val (.int p1), .val (.int p2), .val (.int p3), .val (.long p4), .second, .val (.int k), .val (.ref bs), .val (.int ln), .val (.ref a13), .val (.int md), .val (.int pp), .val (.int cx), .val (.int (modeF md pp cx ln ([(pkF (baseF k) 0 p4), (pkF (baseF k) 1 p4), (pkF (baseF k) 2 p4), (pkF (baseF k) 3 p4), (pkF (baseF k) 4 p4), (pkF (baseF k) 5 p4), (pkF (baseF k) 6 p4), (pkF (baseF k) 7 p4)] : List Int32)).1), .unset, .unset, .unset] [(.ref a80)])
    refine W194.1.astore (Ls' := #[.val (.int p1), .val (.int p2), .val (.int p3), .val (.long p4), .second, .val (.int k), .val (.ref bs), .val (.int ln), .val (.ref a13), .val (.int md), .val (.int pp), .val (.int cx), .val (.int (modeF md pp cx ln ([(pkF (baseF k) 0 p4), (pkF (baseF k) 1 p4), (pkF (baseF k) 2 p4), (pkF (baseF k) 3 p4), (pkF (baseF k) 4 p4), (pkF (baseF k) 5 p4), (pkF (baseF k) 6 p4), (pkF (baseF k) 7 p4)] : List Int32)).1), .val (.ref a80), .unset, .unset]) (hb hby at_265) rfl rfl (pc' := 267) rfl ?_
    refine W194.1.aconstNull (hb hby at_267) (pc' := 268) rfl ?_
    refine W194.1.astore (Ls' := #[.val (.int p1), .val (.int p2), .val (.int p3), .val (.long p4), .second, .val (.int k), .val (.ref bs), .val (.int ln), .val (.ref a13), .val (.int md), .val (.int pp), .val (.int cx), .val (.int (modeF md pp cx ln ([(pkF (baseF k) 0 p4), (pkF (baseF k) 1 p4), (pkF (baseF k) 2 p4), (pkF (baseF k) 3 p4), (pkF (baseF k) 4 p4), (pkF (baseF k) 5 p4), (pkF (baseF k) 6 p4), (pkF (baseF k) 7 p4)] : List Int32)).1), .val (.ref a80), .val .null, .unset]) (hb hby at_268) rfl rfl (pc' := 270) rfl ?_
    refine W194.1.aload (hb hby at_270) rfl rfl (pc' := 272) rfl ?_
    refine W194.ldcS hEL (hw _ (List.mem_of_getElem? (i := 1) rfl)) hwS (by decide) (vs := [(.int (97 : Int32)), (.int (108 : Int32)), (.int (108 : Int32)), (.int (111 : Int32)), (.int (119 : Int32))]) (z := (5 : Int32)) ⟨by decide, by decide⟩ (by decide) rfl (hb hby at_272) (pc' := 274) rfl (n := 20) (by decide) (by decide) (by decide) (by decide) ?_
    intro T200 h200 vm200 a200 b200 k200 W200 E200 C200 A200 B200 D200 V200 hne200
    have z200 := E200.1
    have S200 : StrA Z h200 a200 ([(97 : Int32), (108 : Int32), (108 : Int32), (111 : Int32), (119 : Int32)] : List Int32) := StrA.make A200 B200 D200 V200 rfl (Nat.le_of_ble_eq_true rfl) (by decide)
    have F202 := StrA.ext S194 E200
    have X0_15_203 : Ext h0 h200 := Keep.toExt ((((((((((((((((Keep.refl h0 []).ext E1).ext E13).trans K19 (allS (Or.inr (by have := y13; omega)) all0)).trans K26 (allS (Or.inr (by have := y13; omega)) all0)).trans K33 (allS (Or.inr (by have := y13; omega)) all0)).trans K40 (allS (Or.inr (by have := y13; omega)) all0)).trans K47 (allS (Or.inr (by have := y13; omega)) all0)).trans K54 (allS (Or.inr (by have := y13; omega)) all0)).trans K61 (allS (Or.inr (by have := y13; omega)) all0)).trans K68 (allS (Or.inr (by have := y13; omega)) all0)).trans K69 (allS (Or.inr (by have := y13; omega)) all0)).ext E80).trans K81 all0).trans K194 (allS (Or.inr (by have := y80; omega)) all0)).ext E200)
    have zX0_15_203 := X0_15_203.1
    have F204 := Sta.ext X0_15_203 SC
    refine W200.1.callVP (y := (⟨"java/lang/String", "equals", "(Ljava/lang/Object;)Z"⟩ : MethodName)) (z := (⟨"java/lang/String", "equals", "(Ljava/lang/Object;)Z"⟩ : MethodName)) (hw _ (List.mem_of_getElem? (i := 74) rfl)) (hw _ (List.mem_of_getElem? (i := 75) rfl)) (hw _ (List.mem_of_getElem? (i := 77) rfl)) (hw _ (List.mem_of_getElem? (i := 77) rfl)) (hw _ (List.mem_of_getElem? (i := 76) rfl)) (by decide) (StrA.eq (wd := 0) F202 S200 W200.1.2.2.2.1 hw (hw _ (List.mem_of_getElem? (i := 3) rfl)) F204 hz (by decide) (by decide)) F202.1 (hb hby at_274) (pc' := 277) rfl hml (argsL := [(.ref a200)]) rfl (lenOf pd_67f3b2e8 rfl) rfl (Nat.le_of_ble_eq_true rfl) (by decide) (by decide) (fun _ _ _ q => pu_nil q) ?_
    intro T201 L201 N201
    have W201 := W200.same N201
    show Go p e below _ T201 (mkF m 277 #[.val (.int p1), .val (.int p2), .val (.int p3), .val (.long p4), .second, .val (.int k), .val (.ref bs), .val (.int ln), .val (.ref a13), .val (.int md), .val (.int pp), .val (.int cx), .val (.int (modeF md pp cx ln ([(pkF (baseF k) 0 p4), (pkF (baseF k) 1 p4), (pkF (baseF k) 2 p4), (pkF (baseF k) 3 p4), (pkF (baseF k) 4 p4), (pkF (baseF k) 5 p4), (pkF (baseF k) 6 p4), (pkF (baseF k) 7 p4)] : List Int32)).1), .val (.ref a80), .val .null, .unset] [(.int (if (pxF (modeF md pp cx ln ([(pkF (baseF k) 0 p4), (pkF (baseF k) 1 p4), (pkF (baseF k) 2 p4), (pkF (baseF k) 3 p4), (pkF (baseF k) 4 p4), (pkF (baseF k) 5 p4), (pkF (baseF k) 6 p4), (pkF (baseF k) 7 p4)] : List Int32)).1 (modeF md pp cx ln ([(pkF (baseF k) 0 p4), (pkF (baseF k) 1 p4), (pkF (baseF k) 2 p4), (pkF (baseF k) 3 p4), (pkF (baseF k) 4 p4), (pkF (baseF k) 5 p4), (pkF (baseF k) 6 p4), (pkF (baseF k) 7 p4)] : List Int32)).2) = ([(97 : Int32), (108 : Int32), (108 : Int32), (111 : Int32), (119 : Int32)] : List Int32) then (1 : Int32) else 0))])
    by_cases hc205 : (if (pxF (modeF md pp cx ln ([(pkF (baseF k) 0 p4), (pkF (baseF k) 1 p4), (pkF (baseF k) 2 p4), (pkF (baseF k) 3 p4), (pkF (baseF k) 4 p4), (pkF (baseF k) 5 p4), (pkF (baseF k) 6 p4), (pkF (baseF k) 7 p4)] : List Int32)).1 (modeF md pp cx ln ([(pkF (baseF k) 0 p4), (pkF (baseF k) 1 p4), (pkF (baseF k) 2 p4), (pkF (baseF k) 3 p4), (pkF (baseF k) 4 p4), (pkF (baseF k) 5 p4), (pkF (baseF k) 6 p4), (pkF (baseF k) 7 p4)] : List Int32)).2) = ([(97 : Int32), (108 : Int32), (108 : Int32), (111 : Int32), (119 : Int32)] : List Int32) then (1 : Int32) else 0) = (0 : Int32)
    · refine W201.1.ifYes (hb hby at_277) (XT.i0_eq_t hc205) (by decide) (pc' := 288) (by decide) ?_
      refine W201.1.aload (hb hby at_288) rfl rfl (pc' := 290) rfl ?_
      refine W201.ldcS hEL (hw _ (List.mem_of_getElem? (i := 83) rfl)) hwS (by decide) (vs := [(.int (100 : Int32)), (.int (101 : Int32)), (.int (110 : Int32)), (.int (121 : Int32))]) (z := (4 : Int32)) ⟨by decide, by decide⟩ (by decide) rfl (hb hby at_290) (pc' := 292) rfl (n := 16) (by decide) (by decide) (by decide) (by decide) ?_
      intro T206 h206 vm206 a206 b206 k206 W206 E206 C206 A206 B206 D206 V206 hne206
      have z206 := E206.1
      have S206 : StrA Z h206 a206 ([(100 : Int32), (101 : Int32), (110 : Int32), (121 : Int32)] : List Int32) := StrA.make A206 B206 D206 V206 rfl (Nat.le_of_ble_eq_true rfl) (by decide)
      have X14_16_208 : Ext h194 h206 := Keep.toExt (((Keep.refl h194 []).ext E200).ext E206)
      have zX14_16_208 := X14_16_208.1
      have F209 := StrA.ext S194 X14_16_208
      have X0_16_210 : Ext h0 h206 := Keep.toExt (((((((((((((((((Keep.refl h0 []).ext E1).ext E13).trans K19 (allS (Or.inr (by have := y13; omega)) all0)).trans K26 (allS (Or.inr (by have := y13; omega)) all0)).trans K33 (allS (Or.inr (by have := y13; omega)) all0)).trans K40 (allS (Or.inr (by have := y13; omega)) all0)).trans K47 (allS (Or.inr (by have := y13; omega)) all0)).trans K54 (allS (Or.inr (by have := y13; omega)) all0)).trans K61 (allS (Or.inr (by have := y13; omega)) all0)).trans K68 (allS (Or.inr (by have := y13; omega)) all0)).trans K69 (allS (Or.inr (by have := y13; omega)) all0)).ext E80).trans K81 all0).trans K194 (allS (Or.inr (by have := y80; omega)) all0)).ext E200).ext E206)
      have zX0_16_210 := X0_16_210.1
      have F211 := Sta.ext X0_16_210 SC
      refine W206.1.callVP (y := (⟨"java/lang/String", "equals", "(Ljava/lang/Object;)Z"⟩ : MethodName)) (z := (⟨"java/lang/String", "equals", "(Ljava/lang/Object;)Z"⟩ : MethodName)) (hw _ (List.mem_of_getElem? (i := 74) rfl)) (hw _ (List.mem_of_getElem? (i := 75) rfl)) (hw _ (List.mem_of_getElem? (i := 77) rfl)) (hw _ (List.mem_of_getElem? (i := 77) rfl)) (hw _ (List.mem_of_getElem? (i := 76) rfl)) (by decide) (StrA.eq (wd := 0) F209 S206 W206.1.2.2.2.1 hw (hw _ (List.mem_of_getElem? (i := 3) rfl)) F211 hz (by decide) (by decide)) F209.1 (hb hby at_292) (pc' := 295) rfl hml (argsL := [(.ref a206)]) rfl (lenOf pd_67f3b2e8 rfl) rfl (Nat.le_of_ble_eq_true rfl) (by decide) (by decide) (fun _ _ _ q => pu_nil q) ?_
      intro T207 L207 N207
      have W207 := W206.same N207
      show Go p e below _ T207 (mkF m 295 #[.val (.int p1), .val (.int p2), .val (.int p3), .val (.long p4), .second, .val (.int k), .val (.ref bs), .val (.int ln), .val (.ref a13), .val (.int md), .val (.int pp), .val (.int cx), .val (.int (modeF md pp cx ln ([(pkF (baseF k) 0 p4), (pkF (baseF k) 1 p4), (pkF (baseF k) 2 p4), (pkF (baseF k) 3 p4), (pkF (baseF k) 4 p4), (pkF (baseF k) 5 p4), (pkF (baseF k) 6 p4), (pkF (baseF k) 7 p4)] : List Int32)).1), .val (.ref a80), .val .null, .unset] [(.int (if (pxF (modeF md pp cx ln ([(pkF (baseF k) 0 p4), (pkF (baseF k) 1 p4), (pkF (baseF k) 2 p4), (pkF (baseF k) 3 p4), (pkF (baseF k) 4 p4), (pkF (baseF k) 5 p4), (pkF (baseF k) 6 p4), (pkF (baseF k) 7 p4)] : List Int32)).1 (modeF md pp cx ln ([(pkF (baseF k) 0 p4), (pkF (baseF k) 1 p4), (pkF (baseF k) 2 p4), (pkF (baseF k) 3 p4), (pkF (baseF k) 4 p4), (pkF (baseF k) 5 p4), (pkF (baseF k) 6 p4), (pkF (baseF k) 7 p4)] : List Int32)).2) = ([(100 : Int32), (101 : Int32), (110 : Int32), (121 : Int32)] : List Int32) then (1 : Int32) else 0))])
      by_cases hc212 : (if (pxF (modeF md pp cx ln ([(pkF (baseF k) 0 p4), (pkF (baseF k) 1 p4), (pkF (baseF k) 2 p4), (pkF (baseF k) 3 p4), (pkF (baseF k) 4 p4), (pkF (baseF k) 5 p4), (pkF (baseF k) 6 p4), (pkF (baseF k) 7 p4)] : List Int32)).1 (modeF md pp cx ln ([(pkF (baseF k) 0 p4), (pkF (baseF k) 1 p4), (pkF (baseF k) 2 p4), (pkF (baseF k) 3 p4), (pkF (baseF k) 4 p4), (pkF (baseF k) 5 p4), (pkF (baseF k) 6 p4), (pkF (baseF k) 7 p4)] : List Int32)).2) = ([(100 : Int32), (101 : Int32), (110 : Int32), (121 : Int32)] : List Int32) then (1 : Int32) else 0) = (0 : Int32)
      · refine W207.1.ifYes (hb hby at_295) (XT.i0_eq_t hc212) (by decide) (pc' := 306) (by decide) ?_
        refine W207.1.aload (hb hby at_306) rfl rfl (pc' := 308) rfl ?_
        refine W207.ldcS hEL (hw _ (List.mem_of_getElem? (i := 84) rfl)) hwS (by decide) (vs := [(.int (114 : Int32)), (.int (101 : Int32)), (.int (106 : Int32)), (.int (101 : Int32)), (.int (99 : Int32)), (.int (116 : Int32))]) (z := (6 : Int32)) ⟨by decide, by decide⟩ (by decide) rfl (hb hby at_308) (pc' := 310) rfl (n := 24) (by decide) (by decide) (by decide) (by decide) ?_
        intro T213 h213 vm213 a213 b213 k213 W213 E213 C213 A213 B213 D213 V213 hne213
        have z213 := E213.1
        have S213 : StrA Z h213 a213 ([(114 : Int32), (101 : Int32), (106 : Int32), (101 : Int32), (99 : Int32), (116 : Int32)] : List Int32) := StrA.make A213 B213 D213 V213 rfl (Nat.le_of_ble_eq_true rfl) (by decide)
        have X14_17_215 : Ext h194 h213 := Keep.toExt ((((Keep.refl h194 []).ext E200).ext E206).ext E213)
        have zX14_17_215 := X14_17_215.1
        have F216 := StrA.ext S194 X14_17_215
        have X0_17_217 : Ext h0 h213 := Keep.toExt ((((((((((((((((((Keep.refl h0 []).ext E1).ext E13).trans K19 (allS (Or.inr (by have := y13; omega)) all0)).trans K26 (allS (Or.inr (by have := y13; omega)) all0)).trans K33 (allS (Or.inr (by have := y13; omega)) all0)).trans K40 (allS (Or.inr (by have := y13; omega)) all0)).trans K47 (allS (Or.inr (by have := y13; omega)) all0)).trans K54 (allS (Or.inr (by have := y13; omega)) all0)).trans K61 (allS (Or.inr (by have := y13; omega)) all0)).trans K68 (allS (Or.inr (by have := y13; omega)) all0)).trans K69 (allS (Or.inr (by have := y13; omega)) all0)).ext E80).trans K81 all0).trans K194 (allS (Or.inr (by have := y80; omega)) all0)).ext E200).ext E206).ext E213)
        have zX0_17_217 := X0_17_217.1
        have F218 := Sta.ext X0_17_217 SC
        refine W213.1.callVP (y := (⟨"java/lang/String", "equals", "(Ljava/lang/Object;)Z"⟩ : MethodName)) (z := (⟨"java/lang/String", "equals", "(Ljava/lang/Object;)Z"⟩ : MethodName)) (hw _ (List.mem_of_getElem? (i := 74) rfl)) (hw _ (List.mem_of_getElem? (i := 75) rfl)) (hw _ (List.mem_of_getElem? (i := 77) rfl)) (hw _ (List.mem_of_getElem? (i := 77) rfl)) (hw _ (List.mem_of_getElem? (i := 76) rfl)) (by decide) (StrA.eq (wd := 0) F216 S213 W213.1.2.2.2.1 hw (hw _ (List.mem_of_getElem? (i := 3) rfl)) F218 hz (by decide) (by decide)) F216.1 (hb hby at_310) (pc' := 313) rfl hml (argsL := [(.ref a213)]) rfl (lenOf pd_67f3b2e8 rfl) rfl (Nat.le_of_ble_eq_true rfl) (by decide) (by decide) (fun _ _ _ q => pu_nil q) ?_
        intro T214 L214 N214
        have W214 := W213.same N214
        show Go p e below _ T214 (mkF m 313 #[.val (.int p1), .val (.int p2), .val (.int p3), .val (.long p4), .second, .val (.int k), .val (.ref bs), .val (.int ln), .val (.ref a13), .val (.int md), .val (.int pp), .val (.int cx), .val (.int (modeF md pp cx ln ([(pkF (baseF k) 0 p4), (pkF (baseF k) 1 p4), (pkF (baseF k) 2 p4), (pkF (baseF k) 3 p4), (pkF (baseF k) 4 p4), (pkF (baseF k) 5 p4), (pkF (baseF k) 6 p4), (pkF (baseF k) 7 p4)] : List Int32)).1), .val (.ref a80), .val .null, .unset] [(.int (if (pxF (modeF md pp cx ln ([(pkF (baseF k) 0 p4), (pkF (baseF k) 1 p4), (pkF (baseF k) 2 p4), (pkF (baseF k) 3 p4), (pkF (baseF k) 4 p4), (pkF (baseF k) 5 p4), (pkF (baseF k) 6 p4), (pkF (baseF k) 7 p4)] : List Int32)).1 (modeF md pp cx ln ([(pkF (baseF k) 0 p4), (pkF (baseF k) 1 p4), (pkF (baseF k) 2 p4), (pkF (baseF k) 3 p4), (pkF (baseF k) 4 p4), (pkF (baseF k) 5 p4), (pkF (baseF k) 6 p4), (pkF (baseF k) 7 p4)] : List Int32)).2) = ([(114 : Int32), (101 : Int32), (106 : Int32), (101 : Int32), (99 : Int32), (116 : Int32)] : List Int32) then (1 : Int32) else 0))])
        by_cases hc219 : (if (pxF (modeF md pp cx ln ([(pkF (baseF k) 0 p4), (pkF (baseF k) 1 p4), (pkF (baseF k) 2 p4), (pkF (baseF k) 3 p4), (pkF (baseF k) 4 p4), (pkF (baseF k) 5 p4), (pkF (baseF k) 6 p4), (pkF (baseF k) 7 p4)] : List Int32)).1 (modeF md pp cx ln ([(pkF (baseF k) 0 p4), (pkF (baseF k) 1 p4), (pkF (baseF k) 2 p4), (pkF (baseF k) 3 p4), (pkF (baseF k) 4 p4), (pkF (baseF k) 5 p4), (pkF (baseF k) 6 p4), (pkF (baseF k) 7 p4)] : List Int32)).2) = ([(114 : Int32), (101 : Int32), (106 : Int32), (101 : Int32), (99 : Int32), (116 : Int32)] : List Int32) then (1 : Int32) else 0) = (0 : Int32)
        · refine W214.1.ifYes (hb hby at_313) (XT.i0_eq_t hc219) (by decide) (pc' := 321) (by decide) ?_
          refine W214.1.aload (hb hby at_321) rfl rfl (pc' := 323) rfl ?_
          have F221 := Sta.ext X0_17_217 SV
          have F222 := Arv.ext AV X0_17_217
          have F223 := Exa.ext X0_17_217 EV
          have F224 := Exa.ext X0_17_217 DX1
          have F225 := Fld.ext X0_17_217 FX1
          have F226 := StrA.ext TW1 X0_17_217
          have F227 := Exa.ext X0_17_217 DX2
          have F228 := Fld.ext X0_17_217 FX2
          have F229 := StrA.ext TW2 X0_17_217
          have F230 := Exa.ext X0_17_217 DX3
          have F231 := Fld.ext X0_17_217 FX3
          have F232 := StrA.ext TW3 X0_17_217
          have F233 := Sta.ext X0_17_217 SE
          have F234 := Exa.ext X0_17_217 EE
          have F235 := Fld.ext X0_17_217 FE
          refine W214.1.callS (hw _ (List.mem_of_getElem? (i := 85) rfl)) (hw _ (List.mem_of_getElem? (i := 86) rfl)) (hw _ (List.mem_of_getElem? (i := 87) rfl)) (hw _ (List.mem_of_getElem? (i := 88) rfl)) (by decide) (NM.bk (wd := 0) (rmOW l Z a0 hw a80 (pxF (modeF md pp cx ln ([(pkF (baseF k) 0 p4), (pkF (baseF k) 1 p4), (pkF (baseF k) 2 p4), (pkF (baseF k) 3 p4), (pkF (baseF k) 4 p4), (pkF (baseF k) 5 p4), (pkF (baseF k) 6 p4), (pkF (baseF k) 7 p4)] : List Int32)).1 (modeF md pp cx ln ([(pkF (baseF k) 0 p4), (pkF (baseF k) 1 p4), (pkF (baseF k) 2 p4), (pkF (baseF k) 3 p4), (pkF (baseF k) 4 p4), (pkF (baseF k) 5 p4), (pkF (baseF k) 6 p4), (pkF (baseF k) 7 p4)] : List Int32)).2) va al de re s1 s2 s3 em kv zc h213 n0 W214.1.n0h F216 F221 F222 F223 F224 F225 F226 F227 F228 F229 F230 F231 F232 F233 F234 F235 F218 hz) W214.1.2.2.2.1 (hw _ (List.mem_of_getElem? (i := 88) rfl)) (hw _ (List.mem_of_getElem? (i := 87) rfl)) (by decide) (by decide)) (hb hby at_323) (pc' := 326) rfl hml (argsL := [(.ref a80)]) rfl (lenOf pd_f4991ca4 rfl) rfl (Nat.le_of_ble_eq_true rfl) (by decide) (by decide) (ws' := []) (fun _ _ _ q => ⟨q.2.2, q.2.1⟩) all0 ?_
          intro v220 T220 h220 L220' L220 N220 Q220 K220
          have W220 := W214.up N220 K220 sf0
          have z220 := K220.1
          obtain ⟨⟨o220, rfl, A220, B220'⟩, -, -⟩ := Q220
          have B220 : Fld Z h220 o220 "java/util/Optional" "value" "Ljava/lang/Object;" .null := by have q := B220'; rw [(ov_no hc205 hc212 hc219)] at q; exact q
          show Go p e below _ T220 (mkF m 326 #[.val (.int p1), .val (.int p2), .val (.int p3), .val (.long p4), .second, .val (.int k), .val (.ref bs), .val (.int ln), .val (.ref a13), .val (.int md), .val (.int pp), .val (.int cx), .val (.int (modeF md pp cx ln ([(pkF (baseF k) 0 p4), (pkF (baseF k) 1 p4), (pkF (baseF k) 2 p4), (pkF (baseF k) 3 p4), (pkF (baseF k) 4 p4), (pkF (baseF k) 5 p4), (pkF (baseF k) 6 p4), (pkF (baseF k) 7 p4)] : List Int32)).1), .val (.ref a80), .val .null, .unset] [(.ref o220)])
          refine W220.1.aconstNull (hb hby at_326) (pc' := 327) rfl ?_
          refine W220.1.callVP (y := (⟨"java/util/Optional", "orElse", "(Ljava/lang/Object;)Ljava/lang/Object;"⟩ : MethodName)) (z := (⟨"java/util/Optional", "orElse", "(Ljava/lang/Object;)Ljava/lang/Object;"⟩ : MethodName)) (hw _ (List.mem_of_getElem? (i := 120) rfl)) (hw _ (List.mem_of_getElem? (i := 121) rfl)) (hw _ (List.mem_of_getElem? (i := 123) rfl)) (hw _ (List.mem_of_getElem? (i := 123) rfl)) (hw _ (List.mem_of_getElem? (i := 122) rfl)) (by decide) (NM.bk (wd := 0) (rmOR0 l Z a0 hw o220 h220 n0 W220.1.n0h B220) W220.1.2.2.2.1 (hw _ (List.mem_of_getElem? (i := 124) rfl)) (hw _ (List.mem_of_getElem? (i := 117) rfl)) (by decide) (by decide)) A220 (hb hby at_327) (pc' := 330) rfl hml (argsL := [.null]) rfl (lenOf pd_c2743d7f rfl) rfl (Nat.le_of_ble_eq_true rfl) (by decide) (by decide) (fun _ _ _ q => pu_of q) ?_
          intro T236 L236 N236
          have W236 := W220.same N236
          show Go p e below _ T236 (mkF m 330 #[.val (.int p1), .val (.int p2), .val (.int p3), .val (.long p4), .second, .val (.int k), .val (.ref bs), .val (.int ln), .val (.ref a13), .val (.int md), .val (.int pp), .val (.int cx), .val (.int (modeF md pp cx ln ([(pkF (baseF k) 0 p4), (pkF (baseF k) 1 p4), (pkF (baseF k) 2 p4), (pkF (baseF k) 3 p4), (pkF (baseF k) 4 p4), (pkF (baseF k) 5 p4), (pkF (baseF k) 6 p4), (pkF (baseF k) 7 p4)] : List Int32)).1), .val (.ref a80), .val .null, .unset] [.null])
          refine W236.1.castNull (hb hby at_330) (pc' := 333) rfl ?_
          refine W236.1.astore (Ls' := #[.val (.int p1), .val (.int p2), .val (.int p3), .val (.long p4), .second, .val (.int k), .val (.ref bs), .val (.int ln), .val (.ref a13), .val (.int md), .val (.int pp), .val (.int cx), .val (.int (modeF md pp cx ln ([(pkF (baseF k) 0 p4), (pkF (baseF k) 1 p4), (pkF (baseF k) 2 p4), (pkF (baseF k) 3 p4), (pkF (baseF k) 4 p4), (pkF (baseF k) 5 p4), (pkF (baseF k) 6 p4), (pkF (baseF k) 7 p4)] : List Int32)).1), .val (.ref a80), .val .null, .val .null]) (hb hby at_333) rfl rfl (pc' := 335) rfl ?_
          refine W236.1.aload (hb hby at_335) rfl rfl (pc' := 337) rfl ?_
          refine W236.1.aload (hb hby at_337) rfl rfl (pc' := 339) rfl ?_
          refine W236.1.acmpNo (hb hby at_339) rfl rfl (XT.aa_ne_f rfl) (pc' := 342) rfl ?_
          refine W236.1.iconst (1 : Int32) (hb hby at_342) rfl (pc' := 343) rfl ?_
          refine W236.1.goto (hb hby at_343) (by decide) (pc' := 347) (by decide) ?_
          exact W236.retZ hEL hret (hb hby at_347) (by decide) (by decide) (by decide) ⟨rfl, trivial⟩
        · refine W214.1.ifNo (hb hby at_313) (XT.i0_eq_f hc219) (pc' := 316) rfl ?_
          have F239 := Sta.ext X0_17_217 STre
          refine W214.1.getS (host := "") (Or.inl (hw _ (List.mem_of_getElem? (i := 147) rfl))) Via.refl F239 (hb hby at_316) (pc' := 319) rfl ?_
          intro T238 N238
          have W238 := W214.same N238
          refine W238.1.astore (Ls' := #[.val (.int p1), .val (.int p2), .val (.int p3), .val (.long p4), .second, .val (.int k), .val (.ref bs), .val (.int ln), .val (.ref a13), .val (.int md), .val (.int pp), .val (.int cx), .val (.int (modeF md pp cx ln ([(pkF (baseF k) 0 p4), (pkF (baseF k) 1 p4), (pkF (baseF k) 2 p4), (pkF (baseF k) 3 p4), (pkF (baseF k) 4 p4), (pkF (baseF k) 5 p4), (pkF (baseF k) 6 p4), (pkF (baseF k) 7 p4)] : List Int32)).1), .val (.ref a80), .val (.ref re), .unset]) (hb hby at_319) rfl rfl (pc' := 321) rfl ?_
          refine W238.1.aload (hb hby at_321) rfl rfl (pc' := 323) rfl ?_
          have F241 := Sta.ext X0_17_217 SV
          have F242 := Arv.ext AV X0_17_217
          have F243 := Exa.ext X0_17_217 EV
          have F244 := Exa.ext X0_17_217 DX1
          have F245 := Fld.ext X0_17_217 FX1
          have F246 := StrA.ext TW1 X0_17_217
          have F247 := Exa.ext X0_17_217 DX2
          have F248 := Fld.ext X0_17_217 FX2
          have F249 := StrA.ext TW2 X0_17_217
          have F250 := Exa.ext X0_17_217 DX3
          have F251 := Fld.ext X0_17_217 FX3
          have F252 := StrA.ext TW3 X0_17_217
          have F253 := Sta.ext X0_17_217 SE
          have F254 := Exa.ext X0_17_217 EE
          have F255 := Fld.ext X0_17_217 FE
          refine W238.1.callS (hw _ (List.mem_of_getElem? (i := 85) rfl)) (hw _ (List.mem_of_getElem? (i := 86) rfl)) (hw _ (List.mem_of_getElem? (i := 87) rfl)) (hw _ (List.mem_of_getElem? (i := 88) rfl)) (by decide) (NM.bk (wd := 0) (rmOW l Z a0 hw a80 (pxF (modeF md pp cx ln ([(pkF (baseF k) 0 p4), (pkF (baseF k) 1 p4), (pkF (baseF k) 2 p4), (pkF (baseF k) 3 p4), (pkF (baseF k) 4 p4), (pkF (baseF k) 5 p4), (pkF (baseF k) 6 p4), (pkF (baseF k) 7 p4)] : List Int32)).1 (modeF md pp cx ln ([(pkF (baseF k) 0 p4), (pkF (baseF k) 1 p4), (pkF (baseF k) 2 p4), (pkF (baseF k) 3 p4), (pkF (baseF k) 4 p4), (pkF (baseF k) 5 p4), (pkF (baseF k) 6 p4), (pkF (baseF k) 7 p4)] : List Int32)).2) va al de re s1 s2 s3 em kv zc h213 n0 W238.1.n0h F216 F241 F242 F243 F244 F245 F246 F247 F248 F249 F250 F251 F252 F253 F254 F255 F218 hz) W238.1.2.2.2.1 (hw _ (List.mem_of_getElem? (i := 88) rfl)) (hw _ (List.mem_of_getElem? (i := 87) rfl)) (by decide) (by decide)) (hb hby at_323) (pc' := 326) rfl hml (argsL := [(.ref a80)]) rfl (lenOf pd_f4991ca4 rfl) rfl (Nat.le_of_ble_eq_true rfl) (by decide) (by decide) (ws' := []) (fun _ _ _ q => ⟨q.2.2, q.2.1⟩) all0 ?_
          intro v240 T240 h240 L240' L240 N240 Q240 K240
          have W240 := W238.up N240 K240 sf0
          have z240 := K240.1
          obtain ⟨⟨o240, rfl, A240, B240'⟩, -, -⟩ := Q240
          have B240 : Fld Z h240 o240 "java/util/Optional" "value" "Ljava/lang/Object;" (.ref re) := by have q := B240'; rw [(ov_re hc205 hc212 hc219)] at q; exact q
          show Go p e below _ T240 (mkF m 326 #[.val (.int p1), .val (.int p2), .val (.int p3), .val (.long p4), .second, .val (.int k), .val (.ref bs), .val (.int ln), .val (.ref a13), .val (.int md), .val (.int pp), .val (.int cx), .val (.int (modeF md pp cx ln ([(pkF (baseF k) 0 p4), (pkF (baseF k) 1 p4), (pkF (baseF k) 2 p4), (pkF (baseF k) 3 p4), (pkF (baseF k) 4 p4), (pkF (baseF k) 5 p4), (pkF (baseF k) 6 p4), (pkF (baseF k) 7 p4)] : List Int32)).1), .val (.ref a80), .val (.ref re), .unset] [(.ref o240)])
          refine W240.1.aconstNull (hb hby at_326) (pc' := 327) rfl ?_
          refine W240.1.callVP (y := (⟨"java/util/Optional", "orElse", "(Ljava/lang/Object;)Ljava/lang/Object;"⟩ : MethodName)) (z := (⟨"java/util/Optional", "orElse", "(Ljava/lang/Object;)Ljava/lang/Object;"⟩ : MethodName)) (hw _ (List.mem_of_getElem? (i := 120) rfl)) (hw _ (List.mem_of_getElem? (i := 121) rfl)) (hw _ (List.mem_of_getElem? (i := 123) rfl)) (hw _ (List.mem_of_getElem? (i := 123) rfl)) (hw _ (List.mem_of_getElem? (i := 122) rfl)) (by decide) (NM.bk (wd := 0) (rmOR1 l Z a0 hw o240 re h240 n0 W240.1.n0h B240) W240.1.2.2.2.1 (hw _ (List.mem_of_getElem? (i := 124) rfl)) (hw _ (List.mem_of_getElem? (i := 117) rfl)) (by decide) (by decide)) A240 (hb hby at_327) (pc' := 330) rfl hml (argsL := [.null]) rfl (lenOf pd_c2743d7f rfl) rfl (Nat.le_of_ble_eq_true rfl) (by decide) (by decide) (fun _ _ _ q => pu_of q) ?_
          intro T256 L256 N256
          have W256 := W240.same N256
          show Go p e below _ T256 (mkF m 330 #[.val (.int p1), .val (.int p2), .val (.int p3), .val (.long p4), .second, .val (.int k), .val (.ref bs), .val (.int ln), .val (.ref a13), .val (.int md), .val (.int pp), .val (.int cx), .val (.int (modeF md pp cx ln ([(pkF (baseF k) 0 p4), (pkF (baseF k) 1 p4), (pkF (baseF k) 2 p4), (pkF (baseF k) 3 p4), (pkF (baseF k) 4 p4), (pkF (baseF k) 5 p4), (pkF (baseF k) 6 p4), (pkF (baseF k) 7 p4)] : List Int32)).1), .val (.ref a80), .val (.ref re), .unset] [(.ref re)])
          have X0_18_258 : Ext h0 h240 := Keep.toExt (((((((((((((((((((Keep.refl h0 []).ext E1).ext E13).trans K19 (allS (Or.inr (by have := y13; omega)) all0)).trans K26 (allS (Or.inr (by have := y13; omega)) all0)).trans K33 (allS (Or.inr (by have := y13; omega)) all0)).trans K40 (allS (Or.inr (by have := y13; omega)) all0)).trans K47 (allS (Or.inr (by have := y13; omega)) all0)).trans K54 (allS (Or.inr (by have := y13; omega)) all0)).trans K61 (allS (Or.inr (by have := y13; omega)) all0)).trans K68 (allS (Or.inr (by have := y13; omega)) all0)).trans K69 (allS (Or.inr (by have := y13; omega)) all0)).ext E80).trans K81 all0).trans K194 (allS (Or.inr (by have := y80; omega)) all0)).ext E200).ext E206).ext E213).trans K240 all0)
          have zX0_18_258 := X0_18_258.1
          have F259 := Exa.ext X0_18_258 DX3
          refine W256.1.castY (hw _ (List.mem_of_getElem? (i := 143) rfl)) (Ins.self F259) (hb hby at_330) (pc' := 333) rfl ?_
          intro T257 N257
          have W257 := W256.same N257
          refine W257.1.astore (Ls' := #[.val (.int p1), .val (.int p2), .val (.int p3), .val (.long p4), .second, .val (.int k), .val (.ref bs), .val (.int ln), .val (.ref a13), .val (.int md), .val (.int pp), .val (.int cx), .val (.int (modeF md pp cx ln ([(pkF (baseF k) 0 p4), (pkF (baseF k) 1 p4), (pkF (baseF k) 2 p4), (pkF (baseF k) 3 p4), (pkF (baseF k) 4 p4), (pkF (baseF k) 5 p4), (pkF (baseF k) 6 p4), (pkF (baseF k) 7 p4)] : List Int32)).1), .val (.ref a80), .val (.ref re), .val (.ref re)]) (hb hby at_333) rfl rfl (pc' := 335) rfl ?_
          refine W257.1.aload (hb hby at_335) rfl rfl (pc' := 337) rfl ?_
          refine W257.1.aload (hb hby at_337) rfl rfl (pc' := 339) rfl ?_
          refine W257.1.acmpNo (hb hby at_339) rfl rfl (XT.aa_ne_f rfl) (pc' := 342) rfl ?_
          refine W257.1.iconst (1 : Int32) (hb hby at_342) rfl (pc' := 343) rfl ?_
          refine W257.1.goto (hb hby at_343) (by decide) (pc' := 347) (by decide) ?_
          exact W257.retZ hEL hret (hb hby at_347) (by decide) (by decide) (by decide) ⟨rfl, trivial⟩
      · refine W207.1.ifNo (hb hby at_295) (XT.i0_eq_f hc212) (pc' := 298) rfl ?_
        have F261 := Sta.ext X0_16_210 STde
        refine W207.1.getS (host := "") (Or.inl (hw _ (List.mem_of_getElem? (i := 146) rfl))) Via.refl F261 (hb hby at_298) (pc' := 301) rfl ?_
        intro T260 N260
        have W260 := W207.same N260
        refine W260.1.astore (Ls' := #[.val (.int p1), .val (.int p2), .val (.int p3), .val (.long p4), .second, .val (.int k), .val (.ref bs), .val (.int ln), .val (.ref a13), .val (.int md), .val (.int pp), .val (.int cx), .val (.int (modeF md pp cx ln ([(pkF (baseF k) 0 p4), (pkF (baseF k) 1 p4), (pkF (baseF k) 2 p4), (pkF (baseF k) 3 p4), (pkF (baseF k) 4 p4), (pkF (baseF k) 5 p4), (pkF (baseF k) 6 p4), (pkF (baseF k) 7 p4)] : List Int32)).1), .val (.ref a80), .val (.ref de), .unset]) (hb hby at_301) rfl rfl (pc' := 303) rfl ?_
        refine W260.1.goto (hb hby at_303) (by decide) (pc' := 321) (by decide) ?_
        refine W260.1.aload (hb hby at_321) rfl rfl (pc' := 323) rfl ?_
        have F263 := Sta.ext X0_16_210 SV
        have F264 := Arv.ext AV X0_16_210
        have F265 := Exa.ext X0_16_210 EV
        have F266 := Exa.ext X0_16_210 DX1
        have F267 := Fld.ext X0_16_210 FX1
        have F268 := StrA.ext TW1 X0_16_210
        have F269 := Exa.ext X0_16_210 DX2
        have F270 := Fld.ext X0_16_210 FX2
        have F271 := StrA.ext TW2 X0_16_210
        have F272 := Exa.ext X0_16_210 DX3
        have F273 := Fld.ext X0_16_210 FX3
        have F274 := StrA.ext TW3 X0_16_210
        have F275 := Sta.ext X0_16_210 SE
        have F276 := Exa.ext X0_16_210 EE
        have F277 := Fld.ext X0_16_210 FE
        refine W260.1.callS (hw _ (List.mem_of_getElem? (i := 85) rfl)) (hw _ (List.mem_of_getElem? (i := 86) rfl)) (hw _ (List.mem_of_getElem? (i := 87) rfl)) (hw _ (List.mem_of_getElem? (i := 88) rfl)) (by decide) (NM.bk (wd := 0) (rmOW l Z a0 hw a80 (pxF (modeF md pp cx ln ([(pkF (baseF k) 0 p4), (pkF (baseF k) 1 p4), (pkF (baseF k) 2 p4), (pkF (baseF k) 3 p4), (pkF (baseF k) 4 p4), (pkF (baseF k) 5 p4), (pkF (baseF k) 6 p4), (pkF (baseF k) 7 p4)] : List Int32)).1 (modeF md pp cx ln ([(pkF (baseF k) 0 p4), (pkF (baseF k) 1 p4), (pkF (baseF k) 2 p4), (pkF (baseF k) 3 p4), (pkF (baseF k) 4 p4), (pkF (baseF k) 5 p4), (pkF (baseF k) 6 p4), (pkF (baseF k) 7 p4)] : List Int32)).2) va al de re s1 s2 s3 em kv zc h206 n0 W260.1.n0h F209 F263 F264 F265 F266 F267 F268 F269 F270 F271 F272 F273 F274 F275 F276 F277 F211 hz) W260.1.2.2.2.1 (hw _ (List.mem_of_getElem? (i := 88) rfl)) (hw _ (List.mem_of_getElem? (i := 87) rfl)) (by decide) (by decide)) (hb hby at_323) (pc' := 326) rfl hml (argsL := [(.ref a80)]) rfl (lenOf pd_f4991ca4 rfl) rfl (Nat.le_of_ble_eq_true rfl) (by decide) (by decide) (ws' := []) (fun _ _ _ q => ⟨q.2.2, q.2.1⟩) all0 ?_
        intro v262 T262 h262 L262' L262 N262 Q262 K262
        have W262 := W260.up N262 K262 sf0
        have z262 := K262.1
        obtain ⟨⟨o262, rfl, A262, B262'⟩, -, -⟩ := Q262
        have B262 : Fld Z h262 o262 "java/util/Optional" "value" "Ljava/lang/Object;" (.ref de) := by have q := B262'; rw [(ov_de hc205 hc212)] at q; exact q
        show Go p e below _ T262 (mkF m 326 #[.val (.int p1), .val (.int p2), .val (.int p3), .val (.long p4), .second, .val (.int k), .val (.ref bs), .val (.int ln), .val (.ref a13), .val (.int md), .val (.int pp), .val (.int cx), .val (.int (modeF md pp cx ln ([(pkF (baseF k) 0 p4), (pkF (baseF k) 1 p4), (pkF (baseF k) 2 p4), (pkF (baseF k) 3 p4), (pkF (baseF k) 4 p4), (pkF (baseF k) 5 p4), (pkF (baseF k) 6 p4), (pkF (baseF k) 7 p4)] : List Int32)).1), .val (.ref a80), .val (.ref de), .unset] [(.ref o262)])
        refine W262.1.aconstNull (hb hby at_326) (pc' := 327) rfl ?_
        refine W262.1.callVP (y := (⟨"java/util/Optional", "orElse", "(Ljava/lang/Object;)Ljava/lang/Object;"⟩ : MethodName)) (z := (⟨"java/util/Optional", "orElse", "(Ljava/lang/Object;)Ljava/lang/Object;"⟩ : MethodName)) (hw _ (List.mem_of_getElem? (i := 120) rfl)) (hw _ (List.mem_of_getElem? (i := 121) rfl)) (hw _ (List.mem_of_getElem? (i := 123) rfl)) (hw _ (List.mem_of_getElem? (i := 123) rfl)) (hw _ (List.mem_of_getElem? (i := 122) rfl)) (by decide) (NM.bk (wd := 0) (rmOR1 l Z a0 hw o262 de h262 n0 W262.1.n0h B262) W262.1.2.2.2.1 (hw _ (List.mem_of_getElem? (i := 124) rfl)) (hw _ (List.mem_of_getElem? (i := 117) rfl)) (by decide) (by decide)) A262 (hb hby at_327) (pc' := 330) rfl hml (argsL := [.null]) rfl (lenOf pd_c2743d7f rfl) rfl (Nat.le_of_ble_eq_true rfl) (by decide) (by decide) (fun _ _ _ q => pu_of q) ?_
        intro T278 L278 N278
        have W278 := W262.same N278
        show Go p e below _ T278 (mkF m 330 #[.val (.int p1), .val (.int p2), .val (.int p3), .val (.long p4), .second, .val (.int k), .val (.ref bs), .val (.int ln), .val (.ref a13), .val (.int md), .val (.int pp), .val (.int cx), .val (.int (modeF md pp cx ln ([(pkF (baseF k) 0 p4), (pkF (baseF k) 1 p4), (pkF (baseF k) 2 p4), (pkF (baseF k) 3 p4), (pkF (baseF k) 4 p4), (pkF (baseF k) 5 p4), (pkF (baseF k) 6 p4), (pkF (baseF k) 7 p4)] : List Int32)).1), .val (.ref a80), .val (.ref de), .unset] [(.ref de)])
        have X0_17_280 : Ext h0 h262 := Keep.toExt ((((((((((((((((((Keep.refl h0 []).ext E1).ext E13).trans K19 (allS (Or.inr (by have := y13; omega)) all0)).trans K26 (allS (Or.inr (by have := y13; omega)) all0)).trans K33 (allS (Or.inr (by have := y13; omega)) all0)).trans K40 (allS (Or.inr (by have := y13; omega)) all0)).trans K47 (allS (Or.inr (by have := y13; omega)) all0)).trans K54 (allS (Or.inr (by have := y13; omega)) all0)).trans K61 (allS (Or.inr (by have := y13; omega)) all0)).trans K68 (allS (Or.inr (by have := y13; omega)) all0)).trans K69 (allS (Or.inr (by have := y13; omega)) all0)).ext E80).trans K81 all0).trans K194 (allS (Or.inr (by have := y80; omega)) all0)).ext E200).ext E206).trans K262 all0)
        have zX0_17_280 := X0_17_280.1
        have F281 := Exa.ext X0_17_280 DX2
        refine W278.1.castY (hw _ (List.mem_of_getElem? (i := 143) rfl)) (Ins.self F281) (hb hby at_330) (pc' := 333) rfl ?_
        intro T279 N279
        have W279 := W278.same N279
        refine W279.1.astore (Ls' := #[.val (.int p1), .val (.int p2), .val (.int p3), .val (.long p4), .second, .val (.int k), .val (.ref bs), .val (.int ln), .val (.ref a13), .val (.int md), .val (.int pp), .val (.int cx), .val (.int (modeF md pp cx ln ([(pkF (baseF k) 0 p4), (pkF (baseF k) 1 p4), (pkF (baseF k) 2 p4), (pkF (baseF k) 3 p4), (pkF (baseF k) 4 p4), (pkF (baseF k) 5 p4), (pkF (baseF k) 6 p4), (pkF (baseF k) 7 p4)] : List Int32)).1), .val (.ref a80), .val (.ref de), .val (.ref de)]) (hb hby at_333) rfl rfl (pc' := 335) rfl ?_
        refine W279.1.aload (hb hby at_335) rfl rfl (pc' := 337) rfl ?_
        refine W279.1.aload (hb hby at_337) rfl rfl (pc' := 339) rfl ?_
        refine W279.1.acmpNo (hb hby at_339) rfl rfl (XT.aa_ne_f rfl) (pc' := 342) rfl ?_
        refine W279.1.iconst (1 : Int32) (hb hby at_342) rfl (pc' := 343) rfl ?_
        refine W279.1.goto (hb hby at_343) (by decide) (pc' := 347) (by decide) ?_
        exact W279.retZ hEL hret (hb hby at_347) (by decide) (by decide) (by decide) ⟨rfl, trivial⟩
    · refine W201.1.ifNo (hb hby at_277) (XT.i0_eq_f hc205) (pc' := 280) rfl ?_
      have F283 := Sta.ext X0_15_203 STal
      refine W201.1.getS (host := "") (Or.inl (hw _ (List.mem_of_getElem? (i := 128) rfl))) Via.refl F283 (hb hby at_280) (pc' := 283) rfl ?_
      intro T282 N282
      have W282 := W201.same N282
      refine W282.1.astore (Ls' := #[.val (.int p1), .val (.int p2), .val (.int p3), .val (.long p4), .second, .val (.int k), .val (.ref bs), .val (.int ln), .val (.ref a13), .val (.int md), .val (.int pp), .val (.int cx), .val (.int (modeF md pp cx ln ([(pkF (baseF k) 0 p4), (pkF (baseF k) 1 p4), (pkF (baseF k) 2 p4), (pkF (baseF k) 3 p4), (pkF (baseF k) 4 p4), (pkF (baseF k) 5 p4), (pkF (baseF k) 6 p4), (pkF (baseF k) 7 p4)] : List Int32)).1), .val (.ref a80), .val (.ref al), .unset]) (hb hby at_283) rfl rfl (pc' := 285) rfl ?_
      refine W282.1.goto (hb hby at_285) (by decide) (pc' := 321) (by decide) ?_
      refine W282.1.aload (hb hby at_321) rfl rfl (pc' := 323) rfl ?_
      have F285 := Sta.ext X0_15_203 SV
      have F286 := Arv.ext AV X0_15_203
      have F287 := Exa.ext X0_15_203 EV
      have F288 := Exa.ext X0_15_203 DX1
      have F289 := Fld.ext X0_15_203 FX1
      have F290 := StrA.ext TW1 X0_15_203
      have F291 := Exa.ext X0_15_203 DX2
      have F292 := Fld.ext X0_15_203 FX2
      have F293 := StrA.ext TW2 X0_15_203
      have F294 := Exa.ext X0_15_203 DX3
      have F295 := Fld.ext X0_15_203 FX3
      have F296 := StrA.ext TW3 X0_15_203
      have F297 := Sta.ext X0_15_203 SE
      have F298 := Exa.ext X0_15_203 EE
      have F299 := Fld.ext X0_15_203 FE
      refine W282.1.callS (hw _ (List.mem_of_getElem? (i := 85) rfl)) (hw _ (List.mem_of_getElem? (i := 86) rfl)) (hw _ (List.mem_of_getElem? (i := 87) rfl)) (hw _ (List.mem_of_getElem? (i := 88) rfl)) (by decide) (NM.bk (wd := 0) (rmOW l Z a0 hw a80 (pxF (modeF md pp cx ln ([(pkF (baseF k) 0 p4), (pkF (baseF k) 1 p4), (pkF (baseF k) 2 p4), (pkF (baseF k) 3 p4), (pkF (baseF k) 4 p4), (pkF (baseF k) 5 p4), (pkF (baseF k) 6 p4), (pkF (baseF k) 7 p4)] : List Int32)).1 (modeF md pp cx ln ([(pkF (baseF k) 0 p4), (pkF (baseF k) 1 p4), (pkF (baseF k) 2 p4), (pkF (baseF k) 3 p4), (pkF (baseF k) 4 p4), (pkF (baseF k) 5 p4), (pkF (baseF k) 6 p4), (pkF (baseF k) 7 p4)] : List Int32)).2) va al de re s1 s2 s3 em kv zc h200 n0 W282.1.n0h F202 F285 F286 F287 F288 F289 F290 F291 F292 F293 F294 F295 F296 F297 F298 F299 F204 hz) W282.1.2.2.2.1 (hw _ (List.mem_of_getElem? (i := 88) rfl)) (hw _ (List.mem_of_getElem? (i := 87) rfl)) (by decide) (by decide)) (hb hby at_323) (pc' := 326) rfl hml (argsL := [(.ref a80)]) rfl (lenOf pd_f4991ca4 rfl) rfl (Nat.le_of_ble_eq_true rfl) (by decide) (by decide) (ws' := []) (fun _ _ _ q => ⟨q.2.2, q.2.1⟩) all0 ?_
      intro v284 T284 h284 L284' L284 N284 Q284 K284
      have W284 := W282.up N284 K284 sf0
      have z284 := K284.1
      obtain ⟨⟨o284, rfl, A284, B284'⟩, -, -⟩ := Q284
      have B284 : Fld Z h284 o284 "java/util/Optional" "value" "Ljava/lang/Object;" (.ref al) := by have q := B284'; rw [(ov_al hc205)] at q; exact q
      show Go p e below _ T284 (mkF m 326 #[.val (.int p1), .val (.int p2), .val (.int p3), .val (.long p4), .second, .val (.int k), .val (.ref bs), .val (.int ln), .val (.ref a13), .val (.int md), .val (.int pp), .val (.int cx), .val (.int (modeF md pp cx ln ([(pkF (baseF k) 0 p4), (pkF (baseF k) 1 p4), (pkF (baseF k) 2 p4), (pkF (baseF k) 3 p4), (pkF (baseF k) 4 p4), (pkF (baseF k) 5 p4), (pkF (baseF k) 6 p4), (pkF (baseF k) 7 p4)] : List Int32)).1), .val (.ref a80), .val (.ref al), .unset] [(.ref o284)])
      refine W284.1.aconstNull (hb hby at_326) (pc' := 327) rfl ?_
      refine W284.1.callVP (y := (⟨"java/util/Optional", "orElse", "(Ljava/lang/Object;)Ljava/lang/Object;"⟩ : MethodName)) (z := (⟨"java/util/Optional", "orElse", "(Ljava/lang/Object;)Ljava/lang/Object;"⟩ : MethodName)) (hw _ (List.mem_of_getElem? (i := 120) rfl)) (hw _ (List.mem_of_getElem? (i := 121) rfl)) (hw _ (List.mem_of_getElem? (i := 123) rfl)) (hw _ (List.mem_of_getElem? (i := 123) rfl)) (hw _ (List.mem_of_getElem? (i := 122) rfl)) (by decide) (NM.bk (wd := 0) (rmOR1 l Z a0 hw o284 al h284 n0 W284.1.n0h B284) W284.1.2.2.2.1 (hw _ (List.mem_of_getElem? (i := 124) rfl)) (hw _ (List.mem_of_getElem? (i := 117) rfl)) (by decide) (by decide)) A284 (hb hby at_327) (pc' := 330) rfl hml (argsL := [.null]) rfl (lenOf pd_c2743d7f rfl) rfl (Nat.le_of_ble_eq_true rfl) (by decide) (by decide) (fun _ _ _ q => pu_of q) ?_
      intro T300 L300 N300
      have W300 := W284.same N300
      show Go p e below _ T300 (mkF m 330 #[.val (.int p1), .val (.int p2), .val (.int p3), .val (.long p4), .second, .val (.int k), .val (.ref bs), .val (.int ln), .val (.ref a13), .val (.int md), .val (.int pp), .val (.int cx), .val (.int (modeF md pp cx ln ([(pkF (baseF k) 0 p4), (pkF (baseF k) 1 p4), (pkF (baseF k) 2 p4), (pkF (baseF k) 3 p4), (pkF (baseF k) 4 p4), (pkF (baseF k) 5 p4), (pkF (baseF k) 6 p4), (pkF (baseF k) 7 p4)] : List Int32)).1), .val (.ref a80), .val (.ref al), .unset] [(.ref al)])
      have X0_16_302 : Ext h0 h284 := Keep.toExt (((((((((((((((((Keep.refl h0 []).ext E1).ext E13).trans K19 (allS (Or.inr (by have := y13; omega)) all0)).trans K26 (allS (Or.inr (by have := y13; omega)) all0)).trans K33 (allS (Or.inr (by have := y13; omega)) all0)).trans K40 (allS (Or.inr (by have := y13; omega)) all0)).trans K47 (allS (Or.inr (by have := y13; omega)) all0)).trans K54 (allS (Or.inr (by have := y13; omega)) all0)).trans K61 (allS (Or.inr (by have := y13; omega)) all0)).trans K68 (allS (Or.inr (by have := y13; omega)) all0)).trans K69 (allS (Or.inr (by have := y13; omega)) all0)).ext E80).trans K81 all0).trans K194 (allS (Or.inr (by have := y80; omega)) all0)).ext E200).trans K284 all0)
      have zX0_16_302 := X0_16_302.1
      have F303 := Exa.ext X0_16_302 DX1
      refine W300.1.castY (hw _ (List.mem_of_getElem? (i := 143) rfl)) (Ins.self F303) (hb hby at_330) (pc' := 333) rfl ?_
      intro T301 N301
      have W301 := W300.same N301
      refine W301.1.astore (Ls' := #[.val (.int p1), .val (.int p2), .val (.int p3), .val (.long p4), .second, .val (.int k), .val (.ref bs), .val (.int ln), .val (.ref a13), .val (.int md), .val (.int pp), .val (.int cx), .val (.int (modeF md pp cx ln ([(pkF (baseF k) 0 p4), (pkF (baseF k) 1 p4), (pkF (baseF k) 2 p4), (pkF (baseF k) 3 p4), (pkF (baseF k) 4 p4), (pkF (baseF k) 5 p4), (pkF (baseF k) 6 p4), (pkF (baseF k) 7 p4)] : List Int32)).1), .val (.ref a80), .val (.ref al), .val (.ref al)]) (hb hby at_333) rfl rfl (pc' := 335) rfl ?_
      refine W301.1.aload (hb hby at_335) rfl rfl (pc' := 337) rfl ?_
      refine W301.1.aload (hb hby at_337) rfl rfl (pc' := 339) rfl ?_
      refine W301.1.acmpNo (hb hby at_339) rfl rfl (XT.aa_ne_f rfl) (pc' := 342) rfl ?_
      refine W301.1.iconst (1 : Int32) (hb hby at_342) rfl (pc' := 343) rfl ?_
      refine W301.1.goto (hb hby at_343) (by decide) (pc' := 347) (by decide) ?_
      exact W301.retZ hEL hret (hb hby at_347) (by decide) (by decide) (by decide) ⟨rfl, trivial⟩
set_option maxRecDepth 65536 in
set_option maxHeartbeats 40000000 in
theorem comes_1 {Post : Tables → Env → Array Value → State → Outcome → State → Prop} (hpost : ∀ tb e args s v u, (limb_1_1.after args s (.returned v) u = true ∧ limb_1_2.after args s (.returned v) u = true) → ReturnedEndW s (.returned v) u (Jvm.fieldLocs frame_1_writes args s ++ Jvm.arrayLocs frame_1_arrays args s ++ Jvm.staticLocs frame_1_statics s) 32 5312 → Post tb e args s (.returned v) u) :
    ArmFor flags0 classFile x code maxLocals ret World_1 tables_1 room_1 Calls_1 rest_1 Pre_1 Post := by
  intro l hfl _ _ p e ha hc hk s m args below hf hA hF happ hP
  obtain ⟨hcalls, hrest, hpre⟩ := hP
  obtain ⟨-, -, -, hnamed, -, -, -, hat⟩ := (Spec.applies_iff hf).mp happ
  obtain ⟨hg, hn⟩ := and_e (Cond.before_iff.mp (show (Jvm.Cond.and given_1 narrow_1).before args s = true from hpre))
  obtain ⟨gA1, gB1⟩ := and_e hg
  obtain ⟨gA2, gB2⟩ := and_e gB1
  obtain ⟨gA3, gB3⟩ := and_e gB2
  obtain ⟨gA4, gB4⟩ := and_e gB3
  obtain ⟨gA5, gB5⟩ := and_e hn
  obtain ⟨gA6, gB6⟩ := and_e gB5
  obtain ⟨gA7, gB7⟩ := and_e gB6
  obtain ⟨gA8, gB8⟩ := and_e gB7
  obtain ⟨gA9, gB9⟩ := and_e gB8
  obtain ⟨gA10, gB10⟩ := and_e gB9
  obtain ⟨gA11, gB11⟩ := and_e gB10
  obtain ⟨gA12, gB12⟩ := and_e gB11
  obtain ⟨gA13, gB13⟩ := and_e gB12
  obtain ⟨gA14, gB14⟩ := and_e gB13
  obtain ⟨gA15, gB15⟩ := and_e gB14
  obtain ⟨gA16, gB16⟩ := and_e gB15
  obtain ⟨gA17, gB17⟩ := and_e gB16
  obtain ⟨gA18, gB18⟩ := and_e gB17
  obtain ⟨gA19, gB19⟩ := and_e gB18
  obtain ⟨gA20, gB20⟩ := and_e gB19
  obtain ⟨gA21, gB21⟩ := and_e gB20
  obtain ⟨gA22, gB22⟩ := and_e gB21
  obtain ⟨gA23, gB23⟩ := and_e gB22
  obtain ⟨gA24, gB24⟩ := and_e gB23
  obtain ⟨gA25, gB25⟩ := and_e gB24
  obtain ⟨gA26, gB26⟩ := and_e gB25
  obtain ⟨gA27, gB27⟩ := and_e gB26
  obtain ⟨gA28, gB28⟩ := and_e gB27
  obtain ⟨gA29, gB29⟩ := and_e gB28
  obtain ⟨gA30, gB30⟩ := and_e gB29
  obtain ⟨gA31, gB31⟩ := and_e gB30
  obtain ⟨gA32, gB32⟩ := and_e gB31
  obtain ⟨gA33, gB33⟩ := and_e gB32
  obtain ⟨gA34, gB34⟩ := and_e gB33
  obtain ⟨gA35, gB35⟩ := and_e gB34
  obtain ⟨gA36, gB36⟩ := and_e gB35
  obtain ⟨gA37, gB37⟩ := and_e gB36
  obtain ⟨gA38, gB38⟩ := and_e gB37
  obtain ⟨gA39, gB39⟩ := and_e gB38
  obtain ⟨w0, w1, w2, w3, rfl⟩ : ∃ w0 w1 w2 w3 : Value, args = #[w0, w1, w2, w3] := by
    have hs : args.size = 4 := by simpa [Cond.value, given_1] using gA1
    obtain ⟨L⟩ := args
    match L, hs with
    | [w0, w1, w2, w3], _ => exact ⟨w0, w1, w2, w3, rfl⟩
  have hw := fun d (hd : d ∈ tables_1) => atoms_spec (ws := Jvm.Cond.code x code maxLocals ret :: tables_1) hat d (List.mem_cons_of_mem _ hd)
  have hfit : Fit s := fun {y c} hc i hi => by
    obtain ⟨ha, rfl⟩ := Array.getElem?_eq_some_iff.mp hc
    have q := List.all_eq_true.mp ((Array.all_eq_true_iff_forall_mem.mp hF) _ (Array.getElem_mem ha)) i (List.mem_range.mpr hi)
    simpa [Array.getElem?_eq_getElem hi] using q
  obtain ⟨hsets, hown0⟩ := atoms_of _ (rest_1_c_eq ▸ (show rest_1_c.before _ s = true from hrest))
  have hr0 := Cond.before_iff.mp hown0
  obtain ⟨i0, ei0⟩ := is_v gA2
  obtain rfl : w0 = (.int i0) := Option.some.inj ei0
  obtain ⟨i1, ei1⟩ := is_v gA3
  obtain rfl : w1 = (.int i1) := Option.some.inj ei1
  obtain ⟨i2, ei2⟩ := is_v gA4
  obtain rfl : w2 = (.int i2) := Option.some.inj ei2
  obtain ⟨i3, ei3⟩ := isL_v gB4
  obtain rfl : w3 = (.long i3) := Option.some.inj ei3
  obtain ⟨al, -, -, -, eval, -⟩ := Cond.exactly_spec (Cond.before_iff.mpr gA8)
  have STal : Sta s s.heap "dev/rolegate/model/Decision" "ALLOW" "Ldev/rolegate/model/Decision;" (.ref al) := Sta.start eval (Or.inr ⟨(hw _ (List.mem_of_getElem? (i := 87) rfl)), (hw _ (List.mem_of_getElem? (i := 101) rfl))⟩)
  have DX1 := Exa.start eval gA8
  obtain ⟨s1, -, -, -, ew1, -⟩ := Cond.exactly_spec (Cond.before_iff.mpr gA14)
  have FX1 : Fld s s.heap al "dev/rolegate/model/Decision" "word" "Ljava/lang/String;" (.ref s1) := Fld.start (by have q := ew1; rw [fld_at eval] at q; exact q)
  have EW1 := Exa.start ew1 gA14
  have CW1 : Fld s s.heap s1 "java/lang/String" "coder" "B" (.int (0 : Int32)) := Fld.start (by have q := eqv_i (Term.int_eval _) gA15; rw [fld_at ew1] at q; exact q)
  obtain ⟨t1, ex1⟩ := arr_v gA16
  have VW1 : Fld s s.heap s1 "java/lang/String" "value" "[B" (.ref t1) := Fld.start (by have q := ex1; rw [fld_at ew1] at q; exact q)
  obtain ⟨kt1, AW1⟩ := arr_start (n := 5) (vs := (([97, 108, 108, 111, 119] : List Int32).map (fun c => c.toInt8.toInt32)).map Value.int) (dv := .int (0 : Int32)) hfit ex1 gA16 gA17 (by decide) rfl (by
    intro j hj
    obtain rfl | rfl | rfl | rfl | rfl := (by omega : j = 0 ∨ j = 1 ∨ j = 2 ∨ j = 3 ∨ j = 4)
    · exact eqv_i (Term.int_eval _) gA30
    · exact eqv_i (Term.int_eval _) gA31
    · exact eqv_i (Term.int_eval _) gA32
    · exact eqv_i (Term.int_eval _) gA33
    · exact eqv_i (Term.int_eval _) gA34)
  have TW1 : StrA s s.heap s1 ([97, 108, 108, 111, 119] : List Int32) := StrA.make EW1 CW1 VW1 AW1 rfl (by decide) (by decide)
  obtain ⟨de, -, -, -, evde, -⟩ := Cond.exactly_spec (Cond.before_iff.mpr gA10)
  have STde : Sta s s.heap "dev/rolegate/model/Decision" "DENY" "Ldev/rolegate/model/Decision;" (.ref de) := Sta.start evde (Or.inr ⟨(hw _ (List.mem_of_getElem? (i := 87) rfl)), (hw _ (List.mem_of_getElem? (i := 102) rfl))⟩)
  have DX2 := Exa.start evde gA10
  obtain ⟨s2, -, -, -, ew2, -⟩ := Cond.exactly_spec (Cond.before_iff.mpr gA18)
  have FX2 : Fld s s.heap de "dev/rolegate/model/Decision" "word" "Ljava/lang/String;" (.ref s2) := Fld.start (by have q := ew2; rw [fld_at evde] at q; exact q)
  have EW2 := Exa.start ew2 gA18
  have CW2 : Fld s s.heap s2 "java/lang/String" "coder" "B" (.int (0 : Int32)) := Fld.start (by have q := eqv_i (Term.int_eval _) gA19; rw [fld_at ew2] at q; exact q)
  obtain ⟨t2, ex2⟩ := arr_v gA20
  have VW2 : Fld s s.heap s2 "java/lang/String" "value" "[B" (.ref t2) := Fld.start (by have q := ex2; rw [fld_at ew2] at q; exact q)
  obtain ⟨kt2, AW2⟩ := arr_start (n := 4) (vs := (([100, 101, 110, 121] : List Int32).map (fun c => c.toInt8.toInt32)).map Value.int) (dv := .int (0 : Int32)) hfit ex2 gA20 gA21 (by decide) rfl (by
    intro j hj
    obtain rfl | rfl | rfl | rfl := (by omega : j = 0 ∨ j = 1 ∨ j = 2 ∨ j = 3)
    · exact eqv_i (Term.int_eval _) gA26
    · exact eqv_i (Term.int_eval _) gA27
    · exact eqv_i (Term.int_eval _) gA28
    · exact eqv_i (Term.int_eval _) gA29)
  have TW2 : StrA s s.heap s2 ([100, 101, 110, 121] : List Int32) := StrA.make EW2 CW2 VW2 AW2 rfl (by decide) (by decide)
  obtain ⟨re, -, -, -, evre, -⟩ := Cond.exactly_spec (Cond.before_iff.mpr gA12)
  have STre : Sta s s.heap "dev/rolegate/model/Decision" "REJECT" "Ldev/rolegate/model/Decision;" (.ref re) := Sta.start evre (Or.inr ⟨(hw _ (List.mem_of_getElem? (i := 87) rfl)), (hw _ (List.mem_of_getElem? (i := 103) rfl))⟩)
  have DX3 := Exa.start evre gA12
  obtain ⟨s3, -, -, -, ew3, -⟩ := Cond.exactly_spec (Cond.before_iff.mpr gA22)
  have FX3 : Fld s s.heap re "dev/rolegate/model/Decision" "word" "Ljava/lang/String;" (.ref s3) := Fld.start (by have q := ew3; rw [fld_at evre] at q; exact q)
  have EW3 := Exa.start ew3 gA22
  have CW3 : Fld s s.heap s3 "java/lang/String" "coder" "B" (.int (0 : Int32)) := Fld.start (by have q := eqv_i (Term.int_eval _) gA23; rw [fld_at ew3] at q; exact q)
  obtain ⟨t3, ex3⟩ := arr_v gA24
  have VW3 : Fld s s.heap s3 "java/lang/String" "value" "[B" (.ref t3) := Fld.start (by have q := ex3; rw [fld_at ew3] at q; exact q)
  obtain ⟨kt3, AW3⟩ := arr_start (n := 6) (vs := (([114, 101, 106, 101, 99, 116] : List Int32).map (fun c => c.toInt8.toInt32)).map Value.int) (dv := .int (0 : Int32)) hfit ex3 gA24 gA25 (by decide) rfl (by
    intro j hj
    obtain rfl | rfl | rfl | rfl | rfl | rfl := (by omega : j = 0 ∨ j = 1 ∨ j = 2 ∨ j = 3 ∨ j = 4 ∨ j = 5)
    · exact eqv_i (Term.int_eval _) gA35
    · exact eqv_i (Term.int_eval _) gA36
    · exact eqv_i (Term.int_eval _) gA37
    · exact eqv_i (Term.int_eval _) gA38
    · exact eqv_i (Term.int_eval _) gA39
    · exact eqv_i (Term.int_eval _) gB39)
  have TW3 : StrA s s.heap s3 ([114, 101, 106, 101, 99, 116] : List Int32) := StrA.make EW3 CW3 VW3 AW3 rfl (by decide) (by decide)
  obtain ⟨va, -, -, -, evv, -⟩ := Cond.exactly_spec (Cond.before_iff.mpr gA6)
  have SV : Sta s s.heap "dev/rolegate/model/Decision" "$VALUES" "[Ldev/rolegate/model/Decision;" (.ref va) := Sta.start evv (Or.inr ⟨(hw _ (List.mem_of_getElem? (i := 87) rfl)), (hw _ (List.mem_of_getElem? (i := 93) rfl))⟩)
  have EV := Exa.start evv gA6
  obtain ⟨kv, AV⟩ := arr_start (n := 3) (vs := [(.ref al), (.ref de), (.ref re)]) (dv := .null) hfit evv gA5 gA7 (by decide) rfl (by
    intro j hj
    obtain rfl | rfl | rfl := (by omega : j = 0 ∨ j = 1 ∨ j = 2)
    · exact eqv_ref eval rfl gA9
    · exact eqv_ref evde rfl gA11
    · exact eqv_ref evre rfl gA13)
  obtain ⟨em, -, -, -, eem, -⟩ := Cond.exactly_spec (hsets _ (List.mem_of_getElem? (i := 11) rfl))
  have SE : Sta s s.heap "java/util/Optional" "EMPTY" "Ljava/util/Optional;" (.ref em) := Sta.start eem (Or.inl (hsets _ (List.mem_of_getElem? (i := 10) rfl)))
  have EE := Exa.start eem (Cond.before_iff.mp (hsets _ (List.mem_of_getElem? (i := 11) rfl)))
  have FE : Fld s s.heap em "java/util/Optional" "value" "Ljava/lang/Object;" .null := Fld.start (by have q := eqv_ref (y := .null) rfl rfl (Cond.before_iff.mp (hsets _ (List.mem_of_getElem? (i := 12) rfl))); rw [fld_at eem] at q; exact q)
  have n5 := not_v (Cond.before_iff.mp (hsets _ (List.mem_of_getElem? (i := 2) rfl)))
  obtain ⟨zc, ezc⟩ := is_v (Cond.before_iff.mp (hsets _ (List.mem_of_getElem? (i := 1) rfl)))
  have SC : Sta s s.heap "java/lang/String" "COMPACT_STRINGS" "Z" (.int zc) := Sta.start ezc (Or.inl (hsets _ (List.mem_of_getElem? (i := 0) rfl)))
  have hz : ¬ (zc = (0 : Int32)) := gotF (Cond.eq_ints ezc (Term.int_eval (0))) n5
  obtain ⟨fm, efm, rfm⟩ := isR_v (Cond.before_iff.mp (hsets _ (List.mem_of_getElem? (i := 8) rfl)))
  have SF : Sta s s.heap "jdk/internal/util/Preconditions" "SIOOBE_FORMATTER" "Ljava/util/function/BiFunction;" fm := Sta.start efm (Or.inl (hsets _ (List.mem_of_getElem? (i := 7) rfl)))
  have hELs : EW s _ consts_1 := (EW.cons (hw _ (List.mem_of_getElem? (i := 1) rfl)) (by decide) (EW.cons (hw _ (List.mem_of_getElem? (i := 83) rfl)) (by decide) (EW.cons (hw _ (List.mem_of_getElem? (i := 84) rfl)) (by decide) (EW.cons (hw _ (List.mem_of_getElem? (i := 127) rfl)) (by decide) (EW.cons (hw _ (List.mem_of_getElem? (i := 145) rfl)) (by decide) EW.nil)))))
  have hCH : CHv s consts_1 s.vm s.heap := CHv.start hELs (fun q hq => constHeld_of (hcalls.1 q hq)) (hsets _ (List.mem_of_getElem? (i := 2) rfl)) (hw _ (List.mem_of_getElem? (i := 4) rfl)) (hw _ (List.mem_of_getElem? (i := 3) rfl))
  obtain ⟨n, o, h1, h2, h3, _, L, rfl, ⟨⟨rfl, -⟩, -, N⟩, -, hq⟩ := rmLaw l s _ hw hELs i0 i1 i2 zc i3 fm va al de re s1 s2 s3 em kv s.heap s.heap.size (Nat.le_refl _) STal STde STre SV AV EV DX1 FX1 TW1 DX2 FX2 TW2 DX3 FX3 TW3 SE EE FE SC hz SF rfm p e ha hc hk s m _ below hf ((Spec.applies_iff_loose hf).mp happ).1 ⟨rfl, State.Warmed39.refl s, rfl, hCH⟩ trivial
  exact ⟨n, _, h1, h2, h3, hpost _ _ _ _ _ _ ⟨Cond.after_iff.mpr rfl, Cond.after_iff.mpr (eq_i res_at (Term.int_eval (1)) rfl)⟩ ⟨hq.1, hq.2.1, hq.2.2.1, (hq.2.2.2.sift fun y hy => Or.inr (N y hy)).mono (by decide) (by decide)⟩⟩
theorem main_1_1 : Claimed_1_1 := comes_1 fun _ _ _ _ _ _ h hF => ⟨h.1, hF⟩
theorem main_1_2 : Claimed_1_2 := comes_1 fun _ _ _ _ _ _ h hF => ⟨h.2, hF⟩
end Jvm.Pilot.@@N@@
namespace Jvm.Pilot.@@N@@
open Jvm Jvm.ClassFile Sem Op Lib Jvm.Free Jvm.Stand Jvm.Pilot.@@N@@.Jvm.D
/-! MADE BY PROGRAM (witnessworld.py) out of the Statement's table words and the real class files: 24 classes; the members and pool entries that the words name. The judged class is class 1, her method 1. -/
namespace start1
open Jvm.ClassFile
def u (s : String) : CpInfo := .utf8 (stringToUtf16 s)
/-- a pool by its gaps: so many unusable entries, then the entry; so many at the end -/
def gap : Nat → List CpInfo → List CpInfo
  | 0, r => r
  | n + 1, r => .unusable :: gap n r
def poolList (es : List (Nat × CpInfo)) (last : Nat) : List CpInfo := es.foldr (fun e r => gap e.1 (e.2 :: r)) (gap last [])
def pool (es : List (Nat × CpInfo)) (last : Nat) : Array CpInfo := ⟨poolList es last⟩
def fileOf (pool : Array CpInfo) (this : Nat) (attrs : Array Attribute := #[]) (ms : Array MethodInfo := #[]) (fl : Nat := 33) (sup : Nat := 0) (ifs : Array Nat := #[]) (fds : Array FieldInfo := #[]) : ClassFile where
  minorVersion := 0
  majorVersion := 65
  constantPool := pool
  accessFlags := fl
  thisClass := this
  superClass := sup
  interfaces := ifs
  fields := fds
  methods := ms
  attributes := attrs
def plain (name : String) (sup : Option ClassId) : Class where
  name := name
  kind := .ordinary
  loader := none
  accessFlags := 33
  super := sup
  interfaces := #[]
  cf := none
  fields := #[]
  methods := #[]
  instanceTypes := #[]
  staticTypes := #[]
  resolved := #[]
  callSites := []
  init := .initialized
  statics := none
  mirror := none

def pool0 : Array CpInfo := pool [(5, u "<init>"), (0, u "()V"), (1, .class_ 10), (1, u "java/lang/Object"), (85, u "clone"), (0, u "()Ljava/lang/Object;")] 26

def k0c0 : Code := { maxStack := 0, maxLocals := 1, code := object_method_1_code, exceptionTable := #[], attributes := #[] }
def k0m0 : Method := { name := "<init>", desc := "()V", sig := { parameters := [], returnType := none }, accessFlags := 1, code := some k0c0 }
def k0m1 : Method := { name := "clone", desc := "()Ljava/lang/Object;", sig := { parameters := [], returnType := some (.object "java/lang/Object") }, accessFlags := 260, code := none }
/-- java/lang/Object -/
def k0 : Class := { plain "java/lang/Object" none with
  accessFlags := 33
  interfaces := #[]
  cf := some (fileOf pool0 8 #[] #[{ accessFlags := 1, nameIndex := 5, descriptorIndex := 6, attributes := #[] }, { accessFlags := 260, nameIndex := 96, descriptorIndex := 97, attributes := #[] }] 33 0 #[] #[])
  fields := #[]
  methods := #[k0m0, k0m1]
  instanceTypes := #[]
  staticTypes := #[]
  resolved := Array.replicate 124 none
  statics := none }

def pool1 : Array CpInfo := pool [(2, .class_ 4), (1, u "java/lang/Object"), (0, u "<init>"), (0, u "()V"), (0, .integer 2147483647), (0, .string 9), (0, u "allow"), (0, .string 11), (0, u "deny"), (0, .string 13), (0, u "reject"), (0, .string 15), (0, u ""), (0, .methodref 17 18), (0, .class_ 19), (0, .nameAndType 20 21), (0, u "java/lang/String"), (0, u "length"), (0, u "()I"), (0, .methodref 23 24), (0, .class_ 25), (0, .nameAndType 26 27), (0, u "dev/rolegate/model/DecisionOfWordPinLaw"), (0, u "pick"), (0, u "(Ljava/lang/String;IJ)C"), (0, .methodref 23 29), (0, .nameAndType 30 31), (0, u "prefix"), (0, u "([CI)[C"), (0, .methodref 17 33), (0, .nameAndType 5 34), (0, u "([C)V"), (0, .methodref 17 36), (0, .nameAndType 37 38), (0, u "equals"), (0, u "(Ljava/lang/Object;)Z"), (0, .fieldref 40 41), (0, .class_ 42), (0, .nameAndType 43 44), (0, u "dev/rolegate/model/Decision"), (0, u "ALLOW"), (0, u "Ldev/rolegate/model/Decision;"), (0, .fieldref 40 46), (0, .nameAndType 47 44), (0, u "DENY"), (0, .fieldref 40 49), (0, .nameAndType 50 44), (0, u "REJECT"), (0, .methodref 40 52), (0, .nameAndType 53 54), (0, u "ofWord"), (0, u "(Ljava/lang/String;)Ljava/util/Optional;"), (0, .methodref 56 57), (0, .class_ 58), (0, .nameAndType 59 60), (0, u "java/util/Optional"), (0, u "orElse"), (0, u "(Ljava/lang/Object;)Ljava/lang/Object;"), (0, .methodref 17 62), (0, .nameAndType 63 64), (0, u "charAt"), (0, u "(I)C"), (0, .long 255), (3, u "law"), (0, u "(IIIJ)Z")] 5

def k1m0 : Method := { name := "<init>", desc := "()V", sig := { parameters := [], returnType := none }, accessFlags := 1, code := none }
def k1c1 : Code := { maxStack := 6, maxLocals := 16, code := code, exceptionTable := #[], attributes := #[] }
def k1m1 : Method := { name := "law", desc := "(IIIJ)Z", sig := { parameters := [.int, .int, .int, .long], returnType := some .boolean }, accessFlags := 9, code := some k1c1 }
def k1c2 : Code := { maxStack := 4, maxLocals := 4, code := method_3_code, exceptionTable := #[], attributes := #[] }
def k1m2 : Method := { name := "pick", desc := "(Ljava/lang/String;IJ)C", sig := { parameters := [(.object "java/lang/String"), .int, .long], returnType := some .char }, accessFlags := 10, code := some k1c2 }
def k1c3 : Code := { maxStack := 5, maxLocals := 2, code := method_4_code, exceptionTable := #[], attributes := #[] }
def k1m3 : Method := { name := "prefix", desc := "([CI)[C", sig := { parameters := [(.array .char), .int], returnType := some (.array .char) }, accessFlags := 10, code := some k1c3 }
/-- dev/rolegate/model/DecisionOfWordPinLaw -/
def k1 : Class := { plain "dev/rolegate/model/DecisionOfWordPinLaw" (some 0) with
  accessFlags := 49
  interfaces := #[]
  cf := some (fileOf pool1 23 #[] #[{ accessFlags := 1, nameIndex := 5, descriptorIndex := 6, attributes := #[] }, { accessFlags := 9, nameIndex := 69, descriptorIndex := 70, attributes := #[] }, { accessFlags := 10, nameIndex := 26, descriptorIndex := 27, attributes := #[] }, { accessFlags := 10, nameIndex := 30, descriptorIndex := 31, attributes := #[] }] 49 2 #[] #[])
  fields := #[]
  methods := #[k1m0, k1m1, k1m2, k1m3]
  instanceTypes := #[]
  staticTypes := #[]
  resolved := Array.replicate 76 none
  statics := none }

def pool2 : Array CpInfo := pool [(1, .class_ 2), (0, u "java/io/Serializable"), (0, .class_ 4), (0, u "java/lang/Object")] 2

/-- java/io/Serializable -/
def k2 : Class := { plain "java/io/Serializable" (some 0) with
  accessFlags := 1537
  interfaces := #[]
  cf := some (fileOf pool2 1 #[] #[] 1537 3 #[] #[])
  fields := #[]
  methods := #[]
  instanceTypes := #[]
  staticTypes := #[]
  resolved := Array.replicate 7 none
  statics := none }

def pool3 : Array CpInfo := pool [(1, .class_ 2), (0, u "java/lang/Comparable"), (0, .class_ 4), (0, u "java/lang/Object")] 7

/-- java/lang/Comparable -/
def k3 : Class := { plain "java/lang/Comparable" (some 0) with
  accessFlags := 1537
  interfaces := #[]
  cf := some (fileOf pool3 1 #[] #[] 1537 3 #[] #[])
  fields := #[]
  methods := #[]
  instanceTypes := #[]
  staticTypes := #[]
  resolved := Array.replicate 12 none
  statics := none }

def pool4 : Array CpInfo := pool [(2, .class_ 4), (1, u "java/lang/CharSequence"), (42, .class_ 48), (0, u "java/lang/CharSequence$1CodePointIterator"), (10, .class_ 60), (0, u "java/lang/CharSequence$1CharIterator"), (5, .class_ 67), (0, u "java/lang/Object")] 63

/-- java/lang/CharSequence -/
def k4 : Class := { plain "java/lang/CharSequence" (some 0) with
  accessFlags := 1537
  interfaces := #[]
  cf := some (fileOf pool4 2 #[.nestMembers #[47, 59]] #[] 1537 66 #[] #[])
  fields := #[]
  methods := #[]
  instanceTypes := #[]
  staticTypes := #[]
  resolved := Array.replicate 131 none
  statics := none }

def pool5 : Array CpInfo := pool [(1, .class_ 2), (0, u "java/lang/constant/Constable"), (0, .class_ 4), (0, u "java/lang/Object")] 6

/-- java/lang/constant/Constable -/
def k5 : Class := { plain "java/lang/constant/Constable" (some 0) with
  accessFlags := 1537
  interfaces := #[]
  cf := some (fileOf pool5 1 #[] #[] 1537 3 #[] #[])
  fields := #[]
  methods := #[]
  instanceTypes := #[]
  staticTypes := #[]
  resolved := Array.replicate 11 none
  statics := none }

def pool6 : Array CpInfo := pool [(1, .class_ 2), (0, u "java/lang/constant/ConstantDesc"), (0, .class_ 4), (0, u "java/lang/Object")] 32

/-- java/lang/constant/ConstantDesc -/
def k6 : Class := { plain "java/lang/constant/ConstantDesc" (some 0) with
  accessFlags := 1537
  interfaces := #[]
  cf := some (fileOf pool6 1 #[] #[] 1537 3 #[] #[])
  fields := #[]
  methods := #[]
  instanceTypes := #[]
  staticTypes := #[]
  resolved := Array.replicate 37 none
  statics := none }

def pool7 : Array CpInfo := pool [(1, .methodref 2 3), (0, .class_ 4), (0, .nameAndType 5 6), (0, u "java/lang/Object"), (0, u "<init>"), (0, u "()V"), (0, .string 8), (0, u ""), (0, .fieldref 10 11), (0, .class_ 12), (0, .nameAndType 13 14), (0, u "java/lang/String"), (0, u "value"), (0, u "[B"), (0, .fieldref 10 16), (0, .nameAndType 17 18), (0, u "coder"), (0, u "B"), (2, u "hash"), (0, u "I"), (2, u "hashIsZero"), (0, u "Z"), (0, .methodref 10 28), (0, .nameAndType 5 29), (0, u "([CIILjava/lang/Void;)V"), (8, .fieldref 10 39), (0, .nameAndType 40 26), (0, u "COMPACT_STRINGS"), (1, .class_ 44), (1, u "java/lang/StringUTF16"), (0, u "compress"), (1, .methodref 42 48), (0, .nameAndType 49 50), (0, u "coderFromArrayLen"), (0, u "([BI)B"), (56, .class_ 109), (1, u "java/lang/StringLatin1"), (32, u "()Z"), (34, .methodref 42 178), (0, .nameAndType 45 179), (0, u "([CII)[B"), (154, u "()I"), (0, .methodref 10 336), (0, .nameAndType 17 337), (0, u "()B"), (25, u "([BI)C"), (27, u "(II)V"), (35, u "(I)C"), (64, .methodref 10 493), (0, .nameAndType 494 142), (0, u "isLatin1"), (0, .methodref 107 496), (0, .nameAndType 497 363), (0, u "charAt"), (3, u "checkIndex"), (5, u "length"), (33, .methodref 107 542), (0, .nameAndType 543 544), (0, u "equals"), (0, u "([B[B)Z"), (28, u "(Ljava/lang/Object;)Z"), (1, .class_ 576), (0, u "java/lang/CharSequence"), (22, u "CASE_INSENSITIVE_ORDER"), (0, u "Ljava/util/Comparator;"), (409, u "([C)V"), (42, .fieldref 1054 1055), (0, .class_ 1056), (0, .nameAndType 1057 1058), (0, u "jdk/internal/util/Preconditions"), (0, u "SIOOBE_FORMATTER"), (0, u "Ljava/util/function/BiFunction;"), (0, .methodref 1054 1060), (0, .nameAndType 501 1061), (0, u "(IILjava/util/function/BiFunction;)I"), (39, u "serialPersistentFields"), (0, u "[Ljava/io/ObjectStreamField;"), (0, .class_ 1104), (0, u "java/lang/String$CaseInsensitiveComparator"), (1, .class_ 1107), (0, u "java/io/Serializable"), (0, .class_ 1109), (0, u "java/lang/Comparable"), (0, .class_ 1111), (0, u "java/lang/constant/Constable"), (0, .class_ 1113), (0, u "java/lang/constant/ConstantDesc"), (2, u "serialVersionUID"), (0, u "J"), (3, u "REPL"), (0, u "C"), (2, u "LATIN1"), (1, u "UTF16")] 323

def k7m0 : Method := { name := "<init>", desc := "()V", sig := { parameters := [], returnType := none }, accessFlags := 1, code := none }
def k7c1 : Code := { maxStack := 5, maxLocals := 2, code := jdk_42_method_3_code, exceptionTable := #[], attributes := #[] }
def k7m1 : Method := { name := "<init>", desc := "([C)V", sig := { parameters := [(.array .char)], returnType := none }, accessFlags := 1, code := some k7c1 }
def k7c2 : Code := { maxStack := 2, maxLocals := 1, code := jdk_42_method_54_code, exceptionTable := #[], attributes := #[] }
def k7m2 : Method := { name := "length", desc := "()I", sig := { parameters := [], returnType := some .int }, accessFlags := 1, code := some k7c2 }
def k7c3 : Code := { maxStack := 2, maxLocals := 2, code := jdk_42_method_56_code, exceptionTable := #[], attributes := #[] }
def k7m3 : Method := { name := "charAt", desc := "(I)C", sig := { parameters := [.int], returnType := some .char }, accessFlags := 1, code := some k7c3 }
def k7c4 : Code := { maxStack := 2, maxLocals := 3, code := jdk_42_method_66_code, exceptionTable := #[], attributes := #[] }
def k7m4 : Method := { name := "equals", desc := "(Ljava/lang/Object;)Z", sig := { parameters := [(.object "java/lang/Object")], returnType := some .boolean }, accessFlags := 1, code := some k7c4 }
def k7c5 : Code := { maxStack := 4, maxLocals := 6, code := jdk_42_method_149_code, exceptionTable := #[], attributes := #[] }
def k7m5 : Method := { name := "<init>", desc := "([CIILjava/lang/Void;)V", sig := { parameters := [(.array .char), .int, .int, (.object "java/lang/Void")], returnType := none }, accessFlags := 2, code := some k7c5 }
def k7c6 : Code := { maxStack := 1, maxLocals := 1, code := jdk_42_method_152_code, exceptionTable := #[], attributes := #[] }
def k7m6 : Method := { name := "coder", desc := "()B", sig := { parameters := [], returnType := some .byte }, accessFlags := 0, code := some k7c6 }
def k7c7 : Code := { maxStack := 1, maxLocals := 1, code := jdk_42_method_154_code, exceptionTable := #[], attributes := #[] }
def k7m7 : Method := { name := "isLatin1", desc := "()Z", sig := { parameters := [], returnType := some .boolean }, accessFlags := 0, code := some k7c7 }
def k7c8 : Code := { maxStack := 3, maxLocals := 2, code := jdk_42_method_155_code, exceptionTable := #[], attributes := #[] }
def k7m8 : Method := { name := "checkIndex", desc := "(II)V", sig := { parameters := [.int, .int], returnType := none }, accessFlags := 8, code := some k7c8 }
/-- java/lang/String -/
def k7 : Class := { plain "java/lang/String" (some 0) with
  accessFlags := 49
  interfaces := #[2, 3, 4, 5, 6]
  cf := some (fileOf pool7 10 #[.nestMembers #[1103]] #[{ accessFlags := 1, nameIndex := 5, descriptorIndex := 6, attributes := #[] }, { accessFlags := 1, nameIndex := 5, descriptorIndex := 1010, attributes := #[] }, { accessFlags := 1, nameIndex := 507, descriptorIndex := 334, attributes := #[] }, { accessFlags := 1, nameIndex := 497, descriptorIndex := 427, attributes := #[] }, { accessFlags := 1, nameIndex := 543, descriptorIndex := 573, attributes := #[] }, { accessFlags := 2, nameIndex := 5, descriptorIndex := 29, attributes := #[] }, { accessFlags := 0, nameIndex := 17, descriptorIndex := 337, attributes := #[] }, { accessFlags := 0, nameIndex := 494, descriptorIndex := 142, attributes := #[] }, { accessFlags := 8, nameIndex := 501, descriptorIndex := 391, attributes := #[] }] 49 2 #[1106, 1108, 575, 1110, 1112] #[{ accessFlags := 18, nameIndex := 13, descriptorIndex := 14, attributes := #[] }, { accessFlags := 18, nameIndex := 17, descriptorIndex := 18, attributes := #[] }, { accessFlags := 2, nameIndex := 21, descriptorIndex := 22, attributes := #[] }, { accessFlags := 2, nameIndex := 25, descriptorIndex := 26, attributes := #[] }, { accessFlags := 26, nameIndex := 1116, descriptorIndex := 1117, attributes := #[] }, { accessFlags := 24, nameIndex := 40, descriptorIndex := 26, attributes := #[] }, { accessFlags := 26, nameIndex := 1101, descriptorIndex := 1102, attributes := #[] }, { accessFlags := 26, nameIndex := 1121, descriptorIndex := 1122, attributes := #[] }, { accessFlags := 25, nameIndex := 599, descriptorIndex := 600, attributes := #[] }, { accessFlags := 24, nameIndex := 1125, descriptorIndex := 18, attributes := #[] }, { accessFlags := 24, nameIndex := 1127, descriptorIndex := 18, attributes := #[] }])
  fields := #[{ name := "value", type := (.array .byte), accessFlags := 18, slot := 0, constantValue := 0 }, { name := "coder", type := .byte, accessFlags := 18, slot := 1, constantValue := 0 }, { name := "hash", type := .int, accessFlags := 2, slot := 2, constantValue := 0 }, { name := "hashIsZero", type := .boolean, accessFlags := 2, slot := 3, constantValue := 0 }, { name := "serialVersionUID", type := .long, accessFlags := 26, slot := 0, constantValue := 0 }, { name := "COMPACT_STRINGS", type := .boolean, accessFlags := 24, slot := 1, constantValue := 0 }, { name := "serialPersistentFields", type := (.array (.object "java/io/ObjectStreamField")), accessFlags := 26, slot := 2, constantValue := 0 }, { name := "REPL", type := .char, accessFlags := 26, slot := 3, constantValue := 0 }, { name := "CASE_INSENSITIVE_ORDER", type := (.object "java/util/Comparator"), accessFlags := 25, slot := 4, constantValue := 0 }, { name := "LATIN1", type := .byte, accessFlags := 24, slot := 5, constantValue := 0 }, { name := "UTF16", type := .byte, accessFlags := 24, slot := 6, constantValue := 0 }]
  methods := #[k7m0, k7m1, k7m2, k7m3, k7m4, k7m5, k7m6, k7m7, k7m8]
  instanceTypes := #[(.array .byte), .byte, .int, .boolean]
  staticTypes := #[.long, .boolean, (.array (.object "java/io/ObjectStreamField")), .char, (.object "java/util/Comparator"), .byte, .byte]
  resolved := Array.replicate 1451 none
  statics := some 0 }

def pool8 : Array CpInfo := pool [(1, .class_ 2), (0, u "java/lang/String"), (1, .class_ 6), (1, u "java/lang/Object"), (0, u "<init>"), (0, u "()V"), (0, .methodref 1 10), (0, .nameAndType 11 12), (0, u "checkIndex"), (0, u "(II)V"), (1, .class_ 16), (1, u "java/lang/StringLatin1"), (36, u "([BI)C"), (67, u "$assertionsDisabled"), (0, u "Z"), (98, .class_ 223), (1, u "java/lang/StringLatin1$LinesSpliterator"), (28, u "charAt"), (28, u "equals"), (0, u "([B[B)Z"), (107, .class_ 391), (0, u "java/lang/StringLatin1$CharsSpliterator")] 3

def k8m0 : Method := { name := "<init>", desc := "()V", sig := { parameters := [], returnType := none }, accessFlags := 0, code := none }
def k8c1 : Code := { maxStack := 2, maxLocals := 2, code := jdk_43_method_2_code, exceptionTable := #[], attributes := #[] }
def k8m1 : Method := { name := "charAt", desc := "([BI)C", sig := { parameters := [(.array .byte), .int], returnType := some .char }, accessFlags := 9, code := some k8c1 }
def k8c2 : Code := { maxStack := 3, maxLocals := 3, code := jdk_43_method_13_code, exceptionTable := #[], attributes := #[] }
def k8m2 : Method := { name := "equals", desc := "([B[B)Z", sig := { parameters := [(.array .byte), (.array .byte)], returnType := some .boolean }, accessFlags := 9, code := some k8c2 }
/-- java/lang/StringLatin1 -/
def k8 : Class := { plain "java/lang/StringLatin1" (some 0) with
  accessFlags := 48
  interfaces := #[]
  cf := some (fileOf pool8 14 #[.nestMembers #[390, 221]] #[{ accessFlags := 0, nameIndex := 7, descriptorIndex := 8, attributes := #[] }, { accessFlags := 9, nameIndex := 252, descriptorIndex := 53, attributes := #[] }, { accessFlags := 9, nameIndex := 281, descriptorIndex := 282, attributes := #[] }] 48 4 #[] #[{ accessFlags := 4120, nameIndex := 121, descriptorIndex := 122, attributes := #[] }])
  fields := #[{ name := "$assertionsDisabled", type := .boolean, accessFlags := 4120, slot := 0, constantValue := 0 }]
  methods := #[k8m0, k8m1, k8m2]
  instanceTypes := #[]
  staticTypes := #[.boolean]
  resolved := Array.replicate 395 none
  statics := none }

def pool9 : Array CpInfo := pool [(2, .class_ 4), (1, u "java/lang/Object"), (0, u "<init>"), (0, u "()V"), (17, .class_ 26), (1, u "jdk/internal/util/Preconditions"), (6, u "checkIndex"), (21, .class_ 56), (0, u "jdk/internal/util/Preconditions$4"), (57, .class_ 115), (0, u "jdk/internal/util/Preconditions$1"), (7, u "SIOOBE_FORMATTER"), (0, u "Ljava/util/function/BiFunction;"), (0, .class_ 126), (0, u "jdk/internal/util/Preconditions$2"), (3, u "AIOOBE_FORMATTER"), (0, .class_ 132), (0, u "jdk/internal/util/Preconditions$3"), (3, u "IOOBE_FORMATTER"), (41, u "(IILjava/util/function/BiFunction;)I")] 15

def k9m0 : Method := { name := "<init>", desc := "()V", sig := { parameters := [], returnType := none }, accessFlags := 1, code := none }
def k9c1 : Code := { maxStack := 3, maxLocals := 3, code := jdk_41_method_11_code, exceptionTable := #[], attributes := #[] }
def k9m1 : Method := { name := "checkIndex", desc := "(IILjava/util/function/BiFunction;)I", sig := { parameters := [.int, .int, (.object "java/util/function/BiFunction")], returnType := some .int }, accessFlags := 9, code := some k9c1 }
/-- jdk/internal/util/Preconditions -/
def k9 : Class := { plain "jdk/internal/util/Preconditions" (some 0) with
  accessFlags := 33
  interfaces := #[]
  cf := some (fileOf pool9 24 #[.nestMembers #[55, 131, 125, 114]] #[{ accessFlags := 1, nameIndex := 5, descriptorIndex := 6, attributes := #[] }, { accessFlags := 9, nameIndex := 33, descriptorIndex := 178, attributes := #[] }] 33 2 #[] #[{ accessFlags := 25, nameIndex := 123, descriptorIndex := 124, attributes := #[] }, { accessFlags := 25, nameIndex := 130, descriptorIndex := 124, attributes := #[] }, { accessFlags := 25, nameIndex := 136, descriptorIndex := 124, attributes := #[] }])
  fields := #[{ name := "SIOOBE_FORMATTER", type := (.object "java/util/function/BiFunction"), accessFlags := 25, slot := 0, constantValue := 0 }, { name := "AIOOBE_FORMATTER", type := (.object "java/util/function/BiFunction"), accessFlags := 25, slot := 1, constantValue := 0 }, { name := "IOOBE_FORMATTER", type := (.object "java/util/function/BiFunction"), accessFlags := 25, slot := 2, constantValue := 0 }]
  methods := #[k9m0, k9m1]
  instanceTypes := #[]
  staticTypes := #[(.object "java/util/function/BiFunction"), (.object "java/util/function/BiFunction"), (.object "java/util/function/BiFunction")]
  resolved := Array.replicate 194 none
  statics := some 1 }

def pool10 : Array CpInfo := pool [(6, .class_ 8), (1, u "java/lang/Object"), (0, u "<init>"), (0, u "()V"), (1, .class_ 14), (1, u "java/lang/StringUTF16"), (31, u "$assertionsDisabled"), (0, u "Z"), (13, u "HI_BYTE_SHIFT"), (0, u "I"), (2, u "LO_BYTE_SHIFT"), (49, .methodref 12 116), (0, .nameAndType 117 118), (0, u "compress"), (0, u "([CI[BII)I"), (3, u "([CII)[B"), (138, u "coderFromArrayLen"), (0, u "([BI)B"), (106, .class_ 371), (1, u "java/lang/StringUTF16$LinesSpliterator"), (58, u "MAX_LENGTH"), (196, .class_ 628), (0, u "java/lang/StringUTF16$CodePointsSpliterator"), (0, .class_ 630), (0, u "java/lang/StringUTF16$CharsSpliterator")] 4

def k10m0 : Method := { name := "<init>", desc := "()V", sig := { parameters := [], returnType := none }, accessFlags := 0, code := none }
def k10c1 : Code := { maxStack := 2, maxLocals := 2, code := jdk_52_method_15_code, exceptionTable := #[], attributes := #[] }
def k10m1 : Method := { name := "coderFromArrayLen", desc := "([BI)B", sig := { parameters := [(.array .byte), .int], returnType := some .byte }, accessFlags := 8, code := some k10c1 }
def k10c2 : Code := { maxStack := 5, maxLocals := 6, code := jdk_52_method_16_code, exceptionTable := #[], attributes := #[] }
def k10m2 : Method := { name := "compress", desc := "([CII)[B", sig := { parameters := [(.array .char), .int, .int], returnType := some (.array .byte) }, accessFlags := 9, code := some k10c2 }
def k10c3 : Code := { maxStack := 3, maxLocals := 7, code := jdk_52_method_21_code, exceptionTable := #[], attributes := #[] }
def k10m3 : Method := { name := "compress", desc := "([CI[BII)I", sig := { parameters := [(.array .char), .int, (.array .byte), .int, .int], returnType := some .int }, accessFlags := 9, code := some k10c3 }
/-- java/lang/StringUTF16 -/
def k10 : Class := { plain "java/lang/StringUTF16" (some 0) with
  accessFlags := 48
  interfaces := #[]
  cf := some (fileOf pool10 12 #[.nestMembers #[627, 629, 369]] #[{ accessFlags := 0, nameIndex := 9, descriptorIndex := 10, attributes := #[] }, { accessFlags := 8, nameIndex := 261, descriptorIndex := 262, attributes := #[] }, { accessFlags := 9, nameIndex := 117, descriptorIndex := 122, attributes := #[] }, { accessFlags := 9, nameIndex := 117, descriptorIndex := 118, attributes := #[] }] 48 6 #[] #[{ accessFlags := 26, nameIndex := 61, descriptorIndex := 62, attributes := #[] }, { accessFlags := 26, nameIndex := 65, descriptorIndex := 62, attributes := #[] }, { accessFlags := 24, nameIndex := 430, descriptorIndex := 62, attributes := #[] }, { accessFlags := 4120, nameIndex := 46, descriptorIndex := 47, attributes := #[] }])
  fields := #[{ name := "HI_BYTE_SHIFT", type := .int, accessFlags := 26, slot := 0, constantValue := 0 }, { name := "LO_BYTE_SHIFT", type := .int, accessFlags := 26, slot := 1, constantValue := 0 }, { name := "MAX_LENGTH", type := .int, accessFlags := 24, slot := 2, constantValue := 0 }, { name := "$assertionsDisabled", type := .boolean, accessFlags := 4120, slot := 3, constantValue := 0 }]
  methods := #[k10m0, k10m1, k10m2, k10m3]
  instanceTypes := #[]
  staticTypes := #[.int, .int, .int, .boolean]
  resolved := Array.replicate 635 none
  statics := none }

def pool11 : Array CpInfo := pool [(2, .class_ 4), (1, u "java/lang/Enum"), (0, u "name"), (0, u "Ljava/lang/String;"), (2, u "ordinal"), (0, u "I"), (1, .class_ 14), (1, u "java/lang/Object"), (4, u "hash"), (86, .class_ 108), (1, u "java/lang/Enum$EnumDesc"), (2, .class_ 112), (0, u "java/lang/constant/Constable"), (0, .class_ 114), (0, u "java/lang/Comparable"), (0, .class_ 116), (0, u "java/io/Serializable")] 87

/-- java/lang/Enum -/
def k11 : Class := { plain "java/lang/Enum" (some 0) with
  accessFlags := 1057
  interfaces := #[5, 3, 2]
  cf := some (fileOf pool11 2 #[.nestMembers #[106]] #[] 1057 12 #[111, 113, 115] #[{ accessFlags := 18, nameIndex := 5, descriptorIndex := 6, attributes := #[] }, { accessFlags := 18, nameIndex := 9, descriptorIndex := 10, attributes := #[] }, { accessFlags := 2, nameIndex := 19, descriptorIndex := 10, attributes := #[] }])
  fields := #[{ name := "name", type := (.object "java/lang/String"), accessFlags := 18, slot := 0, constantValue := 0 }, { name := "ordinal", type := .int, accessFlags := 18, slot := 1, constantValue := 0 }, { name := "hash", type := .int, accessFlags := 2, slot := 2, constantValue := 0 }]
  methods := #[]
  instanceTypes := #[(.object "java/lang/String"), .int, .int]
  staticTypes := #[]
  resolved := Array.replicate 204 none
  statics := none }

def pool12 : Array CpInfo := pool [(1, .class_ 2), (0, u "dev/rolegate/model/Decision"), (2, u "ALLOW"), (0, u "Ldev/rolegate/model/Decision;"), (2, u "DENY"), (2, u "REJECT"), (0, .fieldref 1 14), (0, .nameAndType 15 16), (0, u "$VALUES"), (0, u "[Ldev/rolegate/model/Decision;"), (0, .methodref 18 19), (0, .class_ 16), (0, .nameAndType 20 21), (0, u "clone"), (0, u "()Ljava/lang/Object;"), (1, .class_ 25), (1, u "java/lang/Enum"), (9, u "()Ljava/lang/String;"), (7, .class_ 45), (1, u "java/lang/String"), (2, .fieldref 1 49), (0, .nameAndType 50 51), (0, u "word"), (0, u "Ljava/lang/String;"), (0, .methodref 1 53), (0, .nameAndType 54 55), (0, u "values"), (0, u "()[Ldev/rolegate/model/Decision;"), (0, .methodref 1 57), (0, .nameAndType 50 35), (0, .methodref 43 59), (0, .nameAndType 60 61), (0, u "equals"), (0, u "(Ljava/lang/Object;)Z"), (0, .methodref 63 64), (0, .class_ 65), (0, .nameAndType 66 67), (0, u "java/util/Optional"), (0, u "of"), (0, u "(Ljava/lang/Object;)Ljava/util/Optional;"), (0, .methodref 63 69), (0, .nameAndType 70 71), (0, u "empty"), (0, u "()Ljava/util/Optional;"), (13, u "ofWord"), (0, u "(Ljava/lang/String;)Ljava/util/Optional;")] 6

def k12c0 : Code := { maxStack := 1, maxLocals := 0, code := prog_17_method_1_code, exceptionTable := #[], attributes := #[] }
def k12m0 : Method := { name := "values", desc := "()[Ldev/rolegate/model/Decision;", sig := { parameters := [], returnType := some (.array (.object "dev/rolegate/model/Decision")) }, accessFlags := 9, code := some k12c0 }
def k12c1 : Code := { maxStack := 1, maxLocals := 1, code := prog_17_method_4_code, exceptionTable := #[], attributes := #[] }
def k12m1 : Method := { name := "word", desc := "()Ljava/lang/String;", sig := { parameters := [], returnType := some (.object "java/lang/String") }, accessFlags := 1, code := some k12c1 }
def k12c2 : Code := { maxStack := 2, maxLocals := 5, code := prog_17_method_5_code, exceptionTable := #[], attributes := #[] }
def k12m2 : Method := { name := "ofWord", desc := "(Ljava/lang/String;)Ljava/util/Optional;", sig := { parameters := [(.object "java/lang/String")], returnType := some (.object "java/util/Optional") }, accessFlags := 9, code := some k12c2 }
/-- dev/rolegate/model/Decision -/
def k12 : Class := { plain "dev/rolegate/model/Decision" (some 11) with
  accessFlags := 16433
  interfaces := #[]
  cf := some (fileOf pool12 1 #[] #[{ accessFlags := 9, nameIndex := 54, descriptorIndex := 55, attributes := #[] }, { accessFlags := 1, nameIndex := 50, descriptorIndex := 35, attributes := #[] }, { accessFlags := 9, nameIndex := 85, descriptorIndex := 86, attributes := #[] }] 16433 23 #[] #[{ accessFlags := 16409, nameIndex := 5, descriptorIndex := 6, attributes := #[] }, { accessFlags := 16409, nameIndex := 9, descriptorIndex := 6, attributes := #[] }, { accessFlags := 16409, nameIndex := 12, descriptorIndex := 6, attributes := #[] }, { accessFlags := 18, nameIndex := 50, descriptorIndex := 51, attributes := #[] }, { accessFlags := 4122, nameIndex := 15, descriptorIndex := 16, attributes := #[] }])
  fields := #[{ name := "ALLOW", type := (.object "dev/rolegate/model/Decision"), accessFlags := 16409, slot := 0, constantValue := 0 }, { name := "DENY", type := (.object "dev/rolegate/model/Decision"), accessFlags := 16409, slot := 1, constantValue := 0 }, { name := "REJECT", type := (.object "dev/rolegate/model/Decision"), accessFlags := 16409, slot := 2, constantValue := 0 }, { name := "word", type := (.object "java/lang/String"), accessFlags := 18, slot := 3, constantValue := 0 }, { name := "$VALUES", type := (.array (.object "dev/rolegate/model/Decision")), accessFlags := 4122, slot := 3, constantValue := 0 }]
  methods := #[k12m0, k12m1, k12m2]
  instanceTypes := #[(.object "java/lang/String"), .int, .int, (.object "java/lang/String")]
  staticTypes := #[(.object "dev/rolegate/model/Decision"), (.object "dev/rolegate/model/Decision"), (.object "dev/rolegate/model/Decision"), (.array (.object "dev/rolegate/model/Decision"))]
  resolved := Array.replicate 93 none
  statics := some 2 }

def pool13 : Array CpInfo := pool [(1, .class_ 2), (0, u "java/lang/Cloneable"), (0, .class_ 4), (0, u "java/lang/Object")] 2

/-- java/lang/Cloneable -/
def k13 : Class := { plain "java/lang/Cloneable" (some 0) with
  accessFlags := 1537
  interfaces := #[]
  cf := some (fileOf pool13 1 #[] #[] 1537 3 #[] #[])
  fields := #[]
  methods := #[]
  instanceTypes := #[]
  staticTypes := #[]
  resolved := Array.replicate 7 none
  statics := none }

def pool14 : Array CpInfo := pool [(1, .fieldref 2 3), (0, .class_ 4), (0, .nameAndType 5 6), (0, u "java/util/Optional"), (0, u "EMPTY"), (0, u "Ljava/util/Optional;"), (0, .methodref 8 9), (0, .class_ 10), (0, .nameAndType 11 12), (0, u "java/lang/Object"), (0, u "<init>"), (0, u "()V"), (0, .fieldref 2 14), (0, .nameAndType 15 16), (0, u "value"), (0, u "Ljava/lang/Object;"), (0, .methodref 18 19), (0, .class_ 20), (0, .nameAndType 21 22), (0, u "java/util/Objects"), (0, u "requireNonNull"), (0, u "(Ljava/lang/Object;)Ljava/lang/Object;"), (0, .methodref 2 24), (0, .nameAndType 11 25), (0, u "(Ljava/lang/Object;)V"), (29, u "empty"), (0, u "()Ljava/util/Optional;"), (8, u "(Ljava/lang/Object;)Ljava/util/Optional;"), (16, u "of"), (82, u "orElse")] 21

def k14c0 : Code := { maxStack := 1, maxLocals := 1, code := jdk_32_method_1_code, exceptionTable := #[], attributes := #[] }
def k14m0 : Method := { name := "empty", desc := "()Ljava/util/Optional;", sig := { parameters := [], returnType := some (.object "java/util/Optional") }, accessFlags := 9, code := some k14c0 }
def k14c1 : Code := { maxStack := 2, maxLocals := 2, code := jdk_32_method_2_code, exceptionTable := #[], attributes := #[] }
def k14m1 : Method := { name := "<init>", desc := "(Ljava/lang/Object;)V", sig := { parameters := [(.object "java/lang/Object")], returnType := none }, accessFlags := 2, code := some k14c1 }
def k14c2 : Code := { maxStack := 3, maxLocals := 1, code := jdk_32_method_3_code, exceptionTable := #[], attributes := #[] }
def k14m2 : Method := { name := "of", desc := "(Ljava/lang/Object;)Ljava/util/Optional;", sig := { parameters := [(.object "java/lang/Object")], returnType := some (.object "java/util/Optional") }, accessFlags := 9, code := some k14c2 }
def k14c3 : Code := { maxStack := 1, maxLocals := 2, code := jdk_32_method_15_code, exceptionTable := #[], attributes := #[] }
def k14m3 : Method := { name := "orElse", desc := "(Ljava/lang/Object;)Ljava/lang/Object;", sig := { parameters := [(.object "java/lang/Object")], returnType := some (.object "java/lang/Object") }, accessFlags := 1, code := some k14c3 }
/-- java/util/Optional -/
def k14 : Class := { plain "java/util/Optional" (some 0) with
  accessFlags := 49
  interfaces := #[]
  cf := some (fileOf pool14 2 #[] #[{ accessFlags := 9, nameIndex := 55, descriptorIndex := 56, attributes := #[] }, { accessFlags := 2, nameIndex := 11, descriptorIndex := 25, attributes := #[] }, { accessFlags := 9, nameIndex := 82, descriptorIndex := 65, attributes := #[] }, { accessFlags := 1, nameIndex := 165, descriptorIndex := 22, attributes := #[] }] 49 8 #[] #[{ accessFlags := 26, nameIndex := 5, descriptorIndex := 6, attributes := #[] }, { accessFlags := 18, nameIndex := 15, descriptorIndex := 16, attributes := #[] }])
  fields := #[{ name := "EMPTY", type := (.object "java/util/Optional"), accessFlags := 26, slot := 0, constantValue := 0 }, { name := "value", type := (.object "java/lang/Object"), accessFlags := 18, slot := 0, constantValue := 0 }]
  methods := #[k14m0, k14m1, k14m2, k14m3]
  instanceTypes := #[(.object "java/lang/Object")]
  staticTypes := #[(.object "java/util/Optional")]
  resolved := Array.replicate 187 none
  statics := some 3 }

def pool15 : Array CpInfo := pool [(2, .class_ 4), (1, u "java/lang/Object"), (0, u "<init>"), (0, u "()V"), (35, .class_ 44), (1, u "java/util/Objects"), (0, u "requireNonNull"), (0, u "(Ljava/lang/Object;)Ljava/lang/Object;")] 137

def k15m0 : Method := { name := "<init>", desc := "()V", sig := { parameters := [], returnType := none }, accessFlags := 2, code := none }
def k15c1 : Code := { maxStack := 2, maxLocals := 1, code := jdk_31_method_10_code, exceptionTable := #[], attributes := #[] }
def k15m1 : Method := { name := "requireNonNull", desc := "(Ljava/lang/Object;)Ljava/lang/Object;", sig := { parameters := [(.object "java/lang/Object")], returnType := some (.object "java/lang/Object") }, accessFlags := 9, code := some k15c1 }
/-- java/util/Objects -/
def k15 : Class := { plain "java/util/Objects" (some 0) with
  accessFlags := 49
  interfaces := #[]
  cf := some (fileOf pool15 42 #[] #[{ accessFlags := 2, nameIndex := 5, descriptorIndex := 6, attributes := #[] }, { accessFlags := 9, nameIndex := 45, descriptorIndex := 46, attributes := #[] }] 49 2 #[] #[])
  fields := #[]
  methods := #[k15m0, k15m1]
  instanceTypes := #[]
  staticTypes := #[]
  resolved := Array.replicate 184 none
  statics := none }

def pool16 : Array CpInfo := pool [(9, u "<init>"), (6, .class_ 18), (1, u "java/lang/Object"), (0, u "()V"), (1, .class_ 23), (1, u "jdk/internal/util/ArraysSupport"), (0, u "LOG2_ARRAY_LONG_INDEX_SCALE"), (0, u "I"), (2, u "U"), (0, u "Ljdk/internal/misc/Unsafe;"), (8, u "BIG_ENDIAN"), (0, u "Z"), (8, u "LOG2_BYTE_BIT_SIZE"), (4, u "LOG2_ARRAY_INT_INDEX_SCALE"), (54, u "JLA"), (0, u "Ljdk/internal/access/JavaLangAccess;"), (11, u "LOG2_ARRAY_BOOLEAN_INDEX_SCALE"), (9, u "LOG2_ARRAY_BYTE_INDEX_SCALE"), (5, u "LOG2_ARRAY_CHAR_INDEX_SCALE"), (5, u "LOG2_ARRAY_SHORT_INDEX_SCALE"), (18, u "LOG2_ARRAY_FLOAT_INDEX_SCALE"), (24, u "LOG2_ARRAY_DOUBLE_INDEX_SCALE"), (89, u "T_BOOLEAN"), (2, u "T_CHAR"), (1, u "T_FLOAT"), (1, u "T_DOUBLE"), (1, u "T_BYTE"), (1, u "T_SHORT"), (1, u "T_INT"), (1, u "T_LONG"), (1, u "SOFT_MAX_ARRAY_LENGTH")] 83

def k16m0 : Method := { name := "<init>", desc := "()V", sig := { parameters := [], returnType := none }, accessFlags := 2, code := none }
/-- jdk/internal/util/ArraysSupport -/
def k16 : Class := { plain "jdk/internal/util/ArraysSupport" (some 0) with
  accessFlags := 33
  interfaces := #[]
  cf := some (fileOf pool16 21 #[] #[{ accessFlags := 2, nameIndex := 9, descriptorIndex := 19, attributes := #[] }] 33 16 #[] #[{ accessFlags := 24, nameIndex := 28, descriptorIndex := 29, attributes := #[] }, { accessFlags := 26, nameIndex := 38, descriptorIndex := 39, attributes := #[] }, { accessFlags := 25, nameIndex := 121, descriptorIndex := 25, attributes := #[] }, { accessFlags := 25, nameIndex := 131, descriptorIndex := 25, attributes := #[] }, { accessFlags := 25, nameIndex := 137, descriptorIndex := 25, attributes := #[] }, { accessFlags := 25, nameIndex := 143, descriptorIndex := 25, attributes := #[] }, { accessFlags := 25, nameIndex := 53, descriptorIndex := 25, attributes := #[] }, { accessFlags := 25, nameIndex := 24, descriptorIndex := 25, attributes := #[] }, { accessFlags := 25, nameIndex := 162, descriptorIndex := 25, attributes := #[] }, { accessFlags := 25, nameIndex := 187, descriptorIndex := 25, attributes := #[] }, { accessFlags := 26, nameIndex := 48, descriptorIndex := 25, attributes := #[] }, { accessFlags := 25, nameIndex := 277, descriptorIndex := 25, attributes := #[] }, { accessFlags := 25, nameIndex := 280, descriptorIndex := 25, attributes := #[] }, { accessFlags := 25, nameIndex := 282, descriptorIndex := 25, attributes := #[] }, { accessFlags := 25, nameIndex := 284, descriptorIndex := 25, attributes := #[] }, { accessFlags := 25, nameIndex := 286, descriptorIndex := 25, attributes := #[] }, { accessFlags := 25, nameIndex := 288, descriptorIndex := 25, attributes := #[] }, { accessFlags := 25, nameIndex := 290, descriptorIndex := 25, attributes := #[] }, { accessFlags := 25, nameIndex := 292, descriptorIndex := 25, attributes := #[] }, { accessFlags := 26, nameIndex := 108, descriptorIndex := 109, attributes := #[] }, { accessFlags := 25, nameIndex := 294, descriptorIndex := 25, attributes := #[] }])
  fields := #[{ name := "U", type := (.object "jdk/internal/misc/Unsafe"), accessFlags := 24, slot := 0, constantValue := 0 }, { name := "BIG_ENDIAN", type := .boolean, accessFlags := 26, slot := 1, constantValue := 0 }, { name := "LOG2_ARRAY_BOOLEAN_INDEX_SCALE", type := .int, accessFlags := 25, slot := 2, constantValue := 0 }, { name := "LOG2_ARRAY_BYTE_INDEX_SCALE", type := .int, accessFlags := 25, slot := 3, constantValue := 0 }, { name := "LOG2_ARRAY_CHAR_INDEX_SCALE", type := .int, accessFlags := 25, slot := 4, constantValue := 0 }, { name := "LOG2_ARRAY_SHORT_INDEX_SCALE", type := .int, accessFlags := 25, slot := 5, constantValue := 0 }, { name := "LOG2_ARRAY_INT_INDEX_SCALE", type := .int, accessFlags := 25, slot := 6, constantValue := 0 }, { name := "LOG2_ARRAY_LONG_INDEX_SCALE", type := .int, accessFlags := 25, slot := 7, constantValue := 0 }, { name := "LOG2_ARRAY_FLOAT_INDEX_SCALE", type := .int, accessFlags := 25, slot := 8, constantValue := 0 }, { name := "LOG2_ARRAY_DOUBLE_INDEX_SCALE", type := .int, accessFlags := 25, slot := 9, constantValue := 0 }, { name := "LOG2_BYTE_BIT_SIZE", type := .int, accessFlags := 26, slot := 10, constantValue := 0 }, { name := "T_BOOLEAN", type := .int, accessFlags := 25, slot := 11, constantValue := 0 }, { name := "T_CHAR", type := .int, accessFlags := 25, slot := 12, constantValue := 0 }, { name := "T_FLOAT", type := .int, accessFlags := 25, slot := 13, constantValue := 0 }, { name := "T_DOUBLE", type := .int, accessFlags := 25, slot := 14, constantValue := 0 }, { name := "T_BYTE", type := .int, accessFlags := 25, slot := 15, constantValue := 0 }, { name := "T_SHORT", type := .int, accessFlags := 25, slot := 16, constantValue := 0 }, { name := "T_INT", type := .int, accessFlags := 25, slot := 17, constantValue := 0 }, { name := "T_LONG", type := .int, accessFlags := 25, slot := 18, constantValue := 0 }, { name := "JLA", type := (.object "jdk/internal/access/JavaLangAccess"), accessFlags := 26, slot := 19, constantValue := 0 }, { name := "SOFT_MAX_ARRAY_LENGTH", type := .int, accessFlags := 25, slot := 20, constantValue := 0 }]
  methods := #[k16m0]
  instanceTypes := #[]
  staticTypes := #[(.object "jdk/internal/misc/Unsafe"), .boolean, .int, .int, .int, .int, .int, .int, .int, .int, .int, .int, .int, .int, .int, .int, .int, .int, .int, (.object "jdk/internal/access/JavaLangAccess"), .int]
  resolved := Array.replicate 378 none
  statics := none }

/-- the primitive byte -/
def k17 : Class := { plain "byte" none with kind := .primitive 'B', accessFlags := 0x411 }
/-- [B -/
def k18 : Class := { plain "[B" (some 0) with kind := .array 17 .byte, interfaces := #[13, 2], accessFlags := 1041 }

/-- the primitive char -/
def k19 : Class := { plain "char" none with kind := .primitive 'C', accessFlags := 0x411 }
/-- [C -/
def k20 : Class := { plain "[C" (some 0) with kind := .array 19 .char, interfaces := #[13, 2], accessFlags := 1041 }

/-- the primitive int -/
def k21 : Class := { plain "int" none with kind := .primitive 'I', accessFlags := 0x411 }
/-- [I -/
def k22 : Class := { plain "[I" (some 0) with kind := .array 21 .int, interfaces := #[13, 2], accessFlags := 1041 }

/-- [Ldev/rolegate/model/Decision; -/
def k23 : Class := { plain "[Ldev/rolegate/model/Decision;" (some 0) with kind := .array 12 (.object "dev/rolegate/model/Decision"), interfaces := #[13, 2], accessFlags := 1041 }

def heap : Heap := #[{ cls := 7, slots := #[.long 0, .int 1, .null, .int 0, .null, .int 0, .int 0], vm := .statics 7 },
  { cls := 9, slots := #[.null, .null, .null], vm := .statics 9 },
  { cls := 12, slots := #[.ref 11, .ref 12, .ref 13, .ref 4], vm := .statics 12 },
  { cls := 14, slots := #[.ref 14], vm := .statics 14 },
  { cls := 23, slots := #[.ref 11, .ref 12, .ref 13], vm := .none },
  { cls := 18, slots := #[.int 97, .int 108, .int 108, .int 111, .int 119], vm := .none },
  { cls := 18, slots := #[.int 100, .int 101, .int 110, .int 121], vm := .none },
  { cls := 18, slots := #[.int 114, .int 101, .int 106, .int 101, .int 99, .int 116], vm := .none },
  { cls := 7, slots := #[.ref 5, .int 0, .int 0, .int 0], vm := .none },
  { cls := 7, slots := #[.ref 6, .int 0, .int 0, .int 0], vm := .none },
  { cls := 7, slots := #[.ref 7, .int 0, .int 0, .int 0], vm := .none },
  { cls := 12, slots := #[.null, .int 0, .int 0, .ref 8], vm := .none },
  { cls := 12, slots := #[.null, .int 1, .int 0, .ref 9], vm := .none },
  { cls := 12, slots := #[.null, .int 2, .int 0, .ref 10], vm := .none },
  { cls := 14, slots := #[.null], vm := .none }]
def classes : Array Class := #[k0, k1, k2, k3, k4, k5, k6, k7, k8, k9, k10, k11, k12, k13, k14, k15, k16, k17, k18, k19, k20, k21, k22, k23]
def interned : List (Array UInt16 × Addr) := []
def slotsUsed : Nat := 58
def theMethod : MethodId := ⟨1, 1⟩
def args0 : Array Value := #[.int 5, .int 7, .int 300, .long 9]
def aboutOver (below : List Frame) : State where
  vm := { classes := classes, interned := interned.toArray }
  heap := heap
  slotsUsed := slotsUsed
  threads := #[{ frames := .invoking theMethod args0 :: below }]
def below0 : List Frame := [.native { method := ⟨0, 0⟩, args := #[] }]
def about1 : State := aboutOver below0
def p0 : Program := .bare "" "" ""
def e0 : Env := launch0.env 0 0 0
theorem w_frames : about1.frames = Frame.invoking theMethod args0 :: below0 := rfl
set_option maxRecDepth 65536 in
theorem w_args : argsFit about1.vm theMethod args0 = true := by decide +kernel
set_option maxRecDepth 65536 in
theorem w_heap : heapFits about1 = true := by decide +kernel
set_option maxRecDepth 65536 in
theorem w_runnable : about1.curStatus? = some .runnable := by decide +kernel
set_option maxRecDepth 65536 in
theorem w_alone : about1.alone = true := by decide +kernel
set_option maxRecDepth 65536 in
theorem w_named : about1.methodNamed? x = some theMethod := by decide +kernel
set_option maxRecDepth 65536 in
theorem w_hears : about1.hears theMethod below0 = true := by decide +kernel
set_option maxRecDepth 65536 in
theorem w_ripe : about1.ripe theMethod args0 below0 = true := by decide +kernel
theorem w_running : about1.status = .running := rfl
set_option maxRecDepth 65536 in
theorem w_room : about1.hasRoom e0.platform room_1 = true :=
  launch0.hasRoom_least _ room_1 (by decide +kernel) (by decide +kernel) (by decide +kernel) (by decide +kernel) (by decide +kernel) (by decide +kernel)
theorem allAtoms_all (ts : List Jvm.Cond) (a : Array Jvm.Value) (st : Jvm.State) : (allAtoms ts).before a st = ts.all (fun c => c.before a st) := by
  induction ts with
  | nil => rfl
  | cons c t ih =>
    show (Jvm.Cond.and c (allAtoms t)).before a st = _
    rw [Jvm.Cond.before_and, ih, List.all_cons]
def words1 : List Jvm.Cond := Jvm.Cond.code x code maxLocals ret :: tables_1
/-- a 'code' word, met by the world's own term for the bytes: nothing is compared byte by byte -/
theorem code_word {y : MethodName} {bytes : ByteArray} {mx : Nat} {rt : Option FieldType} {a : Array Value} {s : State} {m : MethodId} {meth : Method} {c : Code} (h1 : s.methodNamed? y = some m) (h2 : s.vm.method? m = some meth) (h3 : meth.code = some c) (h4 : c.code = bytes)
    (h5 : (c.maxLocals == mx && c.exceptionTable.isEmpty && decide (c.maxStack ≤ mostOperands) && decide (meth.sig.returnType = rt) && !meth.locks && decide (parseMethodDescriptor y.desc = some meth.sig)) = true) : (Jvm.Cond.code y bytes mx rt).before a s = true := by
  simp only [Bool.and_eq_true, beq_iff_eq, Bool.not_eq_true', decide_eq_true_eq] at h5
  obtain ⟨⟨⟨⟨⟨g1, g2⟩, g3⟩, g4⟩, g5⟩, g6⟩ := h5
  simp [Cond.before, Cond.holds, Cond.value, h1, h2, h3, h4, g1, g2, g3, g4, g5, g6]
def isCode : Jvm.Cond → Bool
  | .code _ _ _ _ => true
  | _ => false
theorem all_split {L : List Jvm.Cond} {P : Jvm.Cond → Bool} (h1 : L.all (fun c => isCode c || P c) = true) (h2 : ∀ c ∈ L.filter isCode, P c = true) : L.all P = true := by
  refine List.all_eq_true.mpr fun c hc => ?_
  have h := List.all_eq_true.mp h1 c hc
  rcases Bool.eq_false_or_eq_true (isCode c) with hi | hi
  · exact h2 c (List.mem_filter.mpr ⟨hc, hi⟩)
  · simpa [hi] using h
set_option maxRecDepth 65536 in
theorem w_c0 : (Jvm.Cond.code x code maxLocals ret).before args0 about1 = true := code_word (m := ⟨1, 1⟩) (meth := k1m1) (c := k1c1) (by decide +kernel) rfl rfl rfl (by decide +kernel)
set_option maxRecDepth 65536 in
theorem w_c1 : (Jvm.Cond.code ({ cls := "java/lang/String", name := "length", desc := "()I" } : Jvm.MethodName) jdk_42_method_54_code (1 : Nat) (Option.some Jvm.ClassFile.FieldType.int)).before args0 about1 = true := code_word (m := ⟨7, 2⟩) (meth := k7m2) (c := k7c2) (by decide +kernel) rfl rfl rfl (by decide +kernel)
set_option maxRecDepth 65536 in
theorem w_c2 : (Jvm.Cond.code ({ cls := "java/lang/String", name := "coder", desc := "()B" } : Jvm.MethodName) jdk_42_method_152_code (1 : Nat) (Option.some Jvm.ClassFile.FieldType.byte)).before args0 about1 = true := code_word (m := ⟨7, 6⟩) (meth := k7m6) (c := k7c6) (by decide +kernel) rfl rfl rfl (by decide +kernel)
set_option maxRecDepth 65536 in
theorem w_c3 : (Jvm.Cond.code ({ cls := "dev/rolegate/model/DecisionOfWordPinLaw", name := "pick", desc := "(Ljava/lang/String;IJ)C" } : Jvm.MethodName) method_3_code (4 : Nat) (Option.some Jvm.ClassFile.FieldType.char)).before args0 about1 = true := code_word (m := ⟨1, 2⟩) (meth := k1m2) (c := k1c2) (by decide +kernel) rfl rfl rfl (by decide +kernel)
set_option maxRecDepth 65536 in
theorem w_c4 : (Jvm.Cond.code ({ cls := "java/lang/String", name := "charAt", desc := "(I)C" } : Jvm.MethodName) jdk_42_method_56_code (2 : Nat) (Option.some Jvm.ClassFile.FieldType.char)).before args0 about1 = true := code_word (m := ⟨7, 3⟩) (meth := k7m3) (c := k7c3) (by decide +kernel) rfl rfl rfl (by decide +kernel)
set_option maxRecDepth 65536 in
theorem w_c5 : (Jvm.Cond.code ({ cls := "java/lang/String", name := "isLatin1", desc := "()Z" } : Jvm.MethodName) jdk_42_method_154_code (1 : Nat) (Option.some Jvm.ClassFile.FieldType.boolean)).before args0 about1 = true := code_word (m := ⟨7, 7⟩) (meth := k7m7) (c := k7c7) (by decide +kernel) rfl rfl rfl (by decide +kernel)
set_option maxRecDepth 65536 in
theorem w_c6 : (Jvm.Cond.code ({ cls := "java/lang/StringLatin1", name := "charAt", desc := "([BI)C" } : Jvm.MethodName) jdk_43_method_2_code (2 : Nat) (Option.some Jvm.ClassFile.FieldType.char)).before args0 about1 = true := code_word (m := ⟨8, 1⟩) (meth := k8m1) (c := k8c1) (by decide +kernel) rfl rfl rfl (by decide +kernel)
set_option maxRecDepth 65536 in
theorem w_c7 : (Jvm.Cond.code ({ cls := "java/lang/String", name := "checkIndex", desc := "(II)V" } : Jvm.MethodName) jdk_42_method_155_code (2 : Nat) (Option.none : Option Jvm.ClassFile.FieldType)).before args0 about1 = true := code_word (m := ⟨7, 8⟩) (meth := k7m8) (c := k7c8) (by decide +kernel) rfl rfl rfl (by decide +kernel)
set_option maxRecDepth 65536 in
theorem w_c8 : (Jvm.Cond.code ({ cls := "jdk/internal/util/Preconditions", name := "checkIndex", desc := "(IILjava/util/function/BiFunction;)I" } : Jvm.MethodName) jdk_41_method_11_code (3 : Nat) (Option.some Jvm.ClassFile.FieldType.int)).before args0 about1 = true := code_word (m := ⟨9, 1⟩) (meth := k9m1) (c := k9c1) (by decide +kernel) rfl rfl rfl (by decide +kernel)
set_option maxRecDepth 65536 in
theorem w_c9 : (Jvm.Cond.code ({ cls := "dev/rolegate/model/DecisionOfWordPinLaw", name := "prefix", desc := "([CI)[C" } : Jvm.MethodName) method_4_code (2 : Nat) (Option.some (Jvm.ClassFile.FieldType.array Jvm.ClassFile.FieldType.char))).before args0 about1 = true := code_word (m := ⟨1, 3⟩) (meth := k1m3) (c := k1c3) (by decide +kernel) rfl rfl rfl (by decide +kernel)
set_option maxRecDepth 65536 in
theorem w_c10 : (Jvm.Cond.code ({ cls := "java/lang/String", name := "<init>", desc := "([C)V" } : Jvm.MethodName) jdk_42_method_3_code (2 : Nat) (Option.none : Option Jvm.ClassFile.FieldType)).before args0 about1 = true := code_word (m := ⟨7, 1⟩) (meth := k7m1) (c := k7c1) (by decide +kernel) rfl rfl rfl (by decide +kernel)
set_option maxRecDepth 65536 in
theorem w_c11 : (Jvm.Cond.code ({ cls := "java/lang/String", name := "<init>", desc := "([CIILjava/lang/Void;)V" } : Jvm.MethodName) jdk_42_method_149_code (6 : Nat) (Option.none : Option Jvm.ClassFile.FieldType)).before args0 about1 = true := code_word (m := ⟨7, 5⟩) (meth := k7m5) (c := k7c5) (by decide +kernel) rfl rfl rfl (by decide +kernel)
set_option maxRecDepth 65536 in
theorem w_c12 : (Jvm.Cond.code ({ cls := "java/lang/Object", name := "<init>", desc := "()V" } : Jvm.MethodName) object_method_1_code (1 : Nat) (Option.none : Option Jvm.ClassFile.FieldType)).before args0 about1 = true := code_word (m := ⟨0, 0⟩) (meth := k0m0) (c := k0c0) (by decide +kernel) rfl rfl rfl (by decide +kernel)
set_option maxRecDepth 65536 in
theorem w_c13 : (Jvm.Cond.code ({ cls := "java/lang/StringUTF16", name := "compress", desc := "([CII)[B" } : Jvm.MethodName) jdk_52_method_16_code (6 : Nat) (Option.some (Jvm.ClassFile.FieldType.array Jvm.ClassFile.FieldType.byte))).before args0 about1 = true := code_word (m := ⟨10, 2⟩) (meth := k10m2) (c := k10c2) (by decide +kernel) rfl rfl rfl (by decide +kernel)
set_option maxRecDepth 65536 in
theorem w_c14 : (Jvm.Cond.code ({ cls := "java/lang/StringUTF16", name := "compress", desc := "([CI[BII)I" } : Jvm.MethodName) jdk_52_method_21_code (7 : Nat) (Option.some Jvm.ClassFile.FieldType.int)).before args0 about1 = true := code_word (m := ⟨10, 3⟩) (meth := k10m3) (c := k10c3) (by decide +kernel) rfl rfl rfl (by decide +kernel)
set_option maxRecDepth 65536 in
theorem w_c15 : (Jvm.Cond.code ({ cls := "java/lang/StringUTF16", name := "coderFromArrayLen", desc := "([BI)B" } : Jvm.MethodName) jdk_52_method_15_code (2 : Nat) (Option.some Jvm.ClassFile.FieldType.byte)).before args0 about1 = true := code_word (m := ⟨10, 1⟩) (meth := k10m1) (c := k10c1) (by decide +kernel) rfl rfl rfl (by decide +kernel)
set_option maxRecDepth 65536 in
theorem w_c16 : (Jvm.Cond.code ({ cls := "java/lang/String", name := "equals", desc := "(Ljava/lang/Object;)Z" } : Jvm.MethodName) jdk_42_method_66_code (3 : Nat) (Option.some Jvm.ClassFile.FieldType.boolean)).before args0 about1 = true := code_word (m := ⟨7, 4⟩) (meth := k7m4) (c := k7c4) (by decide +kernel) rfl rfl rfl (by decide +kernel)
set_option maxRecDepth 65536 in
theorem w_c17 : (Jvm.Cond.code ({ cls := "java/lang/StringLatin1", name := "equals", desc := "([B[B)Z" } : Jvm.MethodName) jdk_43_method_13_code (3 : Nat) (Option.some Jvm.ClassFile.FieldType.boolean)).before args0 about1 = true := code_word (m := ⟨8, 2⟩) (meth := k8m2) (c := k8c2) (by decide +kernel) rfl rfl rfl (by decide +kernel)
set_option maxRecDepth 65536 in
theorem w_c18 : (Jvm.Cond.code ({ cls := "dev/rolegate/model/Decision", name := "ofWord", desc := "(Ljava/lang/String;)Ljava/util/Optional;" } : Jvm.MethodName) prog_17_method_5_code (5 : Nat) (Option.some (Jvm.ClassFile.FieldType.object "java/util/Optional"))).before args0 about1 = true := code_word (m := ⟨12, 2⟩) (meth := k12m2) (c := k12c2) (by decide +kernel) rfl rfl rfl (by decide +kernel)
set_option maxRecDepth 65536 in
theorem w_c19 : (Jvm.Cond.code ({ cls := "dev/rolegate/model/Decision", name := "values", desc := "()[Ldev/rolegate/model/Decision;" } : Jvm.MethodName) prog_17_method_1_code (0 : Nat) (Option.some (Jvm.ClassFile.FieldType.array (Jvm.ClassFile.FieldType.object "dev/rolegate/model/Decision")))).before args0 about1 = true := code_word (m := ⟨12, 0⟩) (meth := k12m0) (c := k12c0) (by decide +kernel) rfl rfl rfl (by decide +kernel)
set_option maxRecDepth 65536 in
theorem w_c20 : (Jvm.Cond.code ({ cls := "dev/rolegate/model/Decision", name := "word", desc := "()Ljava/lang/String;" } : Jvm.MethodName) prog_17_method_4_code (1 : Nat) (Option.some (Jvm.ClassFile.FieldType.object "java/lang/String"))).before args0 about1 = true := code_word (m := ⟨12, 1⟩) (meth := k12m1) (c := k12c1) (by decide +kernel) rfl rfl rfl (by decide +kernel)
set_option maxRecDepth 65536 in
theorem w_c21 : (Jvm.Cond.code ({ cls := "java/util/Optional", name := "empty", desc := "()Ljava/util/Optional;" } : Jvm.MethodName) jdk_32_method_1_code (1 : Nat) (Option.some (Jvm.ClassFile.FieldType.object "java/util/Optional"))).before args0 about1 = true := code_word (m := ⟨14, 0⟩) (meth := k14m0) (c := k14c0) (by decide +kernel) rfl rfl rfl (by decide +kernel)
set_option maxRecDepth 65536 in
theorem w_c22 : (Jvm.Cond.code ({ cls := "java/util/Optional", name := "orElse", desc := "(Ljava/lang/Object;)Ljava/lang/Object;" } : Jvm.MethodName) jdk_32_method_15_code (2 : Nat) (Option.some (Jvm.ClassFile.FieldType.object "java/lang/Object"))).before args0 about1 = true := code_word (m := ⟨14, 3⟩) (meth := k14m3) (c := k14c3) (by decide +kernel) rfl rfl rfl (by decide +kernel)
set_option maxRecDepth 65536 in
theorem w_c23 : (Jvm.Cond.code ({ cls := "java/util/Optional", name := "of", desc := "(Ljava/lang/Object;)Ljava/util/Optional;" } : Jvm.MethodName) jdk_32_method_3_code (1 : Nat) (Option.some (Jvm.ClassFile.FieldType.object "java/util/Optional"))).before args0 about1 = true := code_word (m := ⟨14, 2⟩) (meth := k14m2) (c := k14c2) (by decide +kernel) rfl rfl rfl (by decide +kernel)
set_option maxRecDepth 65536 in
theorem w_c24 : (Jvm.Cond.code ({ cls := "java/util/Objects", name := "requireNonNull", desc := "(Ljava/lang/Object;)Ljava/lang/Object;" } : Jvm.MethodName) jdk_31_method_10_code (1 : Nat) (Option.some (Jvm.ClassFile.FieldType.object "java/lang/Object"))).before args0 about1 = true := code_word (m := ⟨15, 1⟩) (meth := k15m1) (c := k15c1) (by decide +kernel) rfl rfl rfl (by decide +kernel)
set_option maxRecDepth 65536 in
theorem w_c25 : (Jvm.Cond.code ({ cls := "java/util/Optional", name := "<init>", desc := "(Ljava/lang/Object;)V" } : Jvm.MethodName) jdk_32_method_2_code (2 : Nat) (Option.none : Option Jvm.ClassFile.FieldType)).before args0 about1 = true := code_word (m := ⟨14, 1⟩) (meth := k14m1) (c := k14c1) (by decide +kernel) rfl rfl rfl (by decide +kernel)
def codes1 : List Jvm.Cond := [Jvm.Cond.code x code maxLocals ret, Jvm.Cond.code ({ cls := "java/lang/String", name := "length", desc := "()I" } : Jvm.MethodName) jdk_42_method_54_code (1 : Nat) (Option.some Jvm.ClassFile.FieldType.int), Jvm.Cond.code ({ cls := "java/lang/String", name := "coder", desc := "()B" } : Jvm.MethodName) jdk_42_method_152_code (1 : Nat) (Option.some Jvm.ClassFile.FieldType.byte), Jvm.Cond.code ({ cls := "dev/rolegate/model/DecisionOfWordPinLaw", name := "pick", desc := "(Ljava/lang/String;IJ)C" } : Jvm.MethodName) method_3_code (4 : Nat) (Option.some Jvm.ClassFile.FieldType.char), Jvm.Cond.code ({ cls := "java/lang/String", name := "charAt", desc := "(I)C" } : Jvm.MethodName) jdk_42_method_56_code (2 : Nat) (Option.some Jvm.ClassFile.FieldType.char), Jvm.Cond.code ({ cls := "java/lang/String", name := "isLatin1", desc := "()Z" } : Jvm.MethodName) jdk_42_method_154_code (1 : Nat) (Option.some Jvm.ClassFile.FieldType.boolean), Jvm.Cond.code ({ cls := "java/lang/StringLatin1", name := "charAt", desc := "([BI)C" } : Jvm.MethodName) jdk_43_method_2_code (2 : Nat) (Option.some Jvm.ClassFile.FieldType.char), Jvm.Cond.code ({ cls := "java/lang/String", name := "checkIndex", desc := "(II)V" } : Jvm.MethodName) jdk_42_method_155_code (2 : Nat) (Option.none : Option Jvm.ClassFile.FieldType), Jvm.Cond.code ({ cls := "jdk/internal/util/Preconditions", name := "checkIndex", desc := "(IILjava/util/function/BiFunction;)I" } : Jvm.MethodName) jdk_41_method_11_code (3 : Nat) (Option.some Jvm.ClassFile.FieldType.int), Jvm.Cond.code ({ cls := "dev/rolegate/model/DecisionOfWordPinLaw", name := "prefix", desc := "([CI)[C" } : Jvm.MethodName) method_4_code (2 : Nat) (Option.some (Jvm.ClassFile.FieldType.array Jvm.ClassFile.FieldType.char)), Jvm.Cond.code ({ cls := "java/lang/String", name := "<init>", desc := "([C)V" } : Jvm.MethodName) jdk_42_method_3_code (2 : Nat) (Option.none : Option Jvm.ClassFile.FieldType), Jvm.Cond.code ({ cls := "java/lang/String", name := "<init>", desc := "([CIILjava/lang/Void;)V" } : Jvm.MethodName) jdk_42_method_149_code (6 : Nat) (Option.none : Option Jvm.ClassFile.FieldType), Jvm.Cond.code ({ cls := "java/lang/Object", name := "<init>", desc := "()V" } : Jvm.MethodName) object_method_1_code (1 : Nat) (Option.none : Option Jvm.ClassFile.FieldType), Jvm.Cond.code ({ cls := "java/lang/StringUTF16", name := "compress", desc := "([CII)[B" } : Jvm.MethodName) jdk_52_method_16_code (6 : Nat) (Option.some (Jvm.ClassFile.FieldType.array Jvm.ClassFile.FieldType.byte)), Jvm.Cond.code ({ cls := "java/lang/StringUTF16", name := "compress", desc := "([CI[BII)I" } : Jvm.MethodName) jdk_52_method_21_code (7 : Nat) (Option.some Jvm.ClassFile.FieldType.int), Jvm.Cond.code ({ cls := "java/lang/StringUTF16", name := "coderFromArrayLen", desc := "([BI)B" } : Jvm.MethodName) jdk_52_method_15_code (2 : Nat) (Option.some Jvm.ClassFile.FieldType.byte), Jvm.Cond.code ({ cls := "java/lang/String", name := "equals", desc := "(Ljava/lang/Object;)Z" } : Jvm.MethodName) jdk_42_method_66_code (3 : Nat) (Option.some Jvm.ClassFile.FieldType.boolean), Jvm.Cond.code ({ cls := "java/lang/StringLatin1", name := "equals", desc := "([B[B)Z" } : Jvm.MethodName) jdk_43_method_13_code (3 : Nat) (Option.some Jvm.ClassFile.FieldType.boolean), Jvm.Cond.code ({ cls := "dev/rolegate/model/Decision", name := "ofWord", desc := "(Ljava/lang/String;)Ljava/util/Optional;" } : Jvm.MethodName) prog_17_method_5_code (5 : Nat) (Option.some (Jvm.ClassFile.FieldType.object "java/util/Optional")), Jvm.Cond.code ({ cls := "dev/rolegate/model/Decision", name := "values", desc := "()[Ldev/rolegate/model/Decision;" } : Jvm.MethodName) prog_17_method_1_code (0 : Nat) (Option.some (Jvm.ClassFile.FieldType.array (Jvm.ClassFile.FieldType.object "dev/rolegate/model/Decision"))), Jvm.Cond.code ({ cls := "dev/rolegate/model/Decision", name := "word", desc := "()Ljava/lang/String;" } : Jvm.MethodName) prog_17_method_4_code (1 : Nat) (Option.some (Jvm.ClassFile.FieldType.object "java/lang/String")), Jvm.Cond.code ({ cls := "java/util/Optional", name := "empty", desc := "()Ljava/util/Optional;" } : Jvm.MethodName) jdk_32_method_1_code (1 : Nat) (Option.some (Jvm.ClassFile.FieldType.object "java/util/Optional")), Jvm.Cond.code ({ cls := "java/util/Optional", name := "orElse", desc := "(Ljava/lang/Object;)Ljava/lang/Object;" } : Jvm.MethodName) jdk_32_method_15_code (2 : Nat) (Option.some (Jvm.ClassFile.FieldType.object "java/lang/Object")), Jvm.Cond.code ({ cls := "java/util/Optional", name := "of", desc := "(Ljava/lang/Object;)Ljava/util/Optional;" } : Jvm.MethodName) jdk_32_method_3_code (1 : Nat) (Option.some (Jvm.ClassFile.FieldType.object "java/util/Optional")), Jvm.Cond.code ({ cls := "java/util/Objects", name := "requireNonNull", desc := "(Ljava/lang/Object;)Ljava/lang/Object;" } : Jvm.MethodName) jdk_31_method_10_code (1 : Nat) (Option.some (Jvm.ClassFile.FieldType.object "java/lang/Object")), Jvm.Cond.code ({ cls := "java/util/Optional", name := "<init>", desc := "(Ljava/lang/Object;)V" } : Jvm.MethodName) jdk_32_method_2_code (2 : Nat) (Option.none : Option Jvm.ClassFile.FieldType)]
set_option maxRecDepth 65536 in
theorem codes_eq : words1.filter isCode = codes1 := rfl
theorem w_codes : ∀ c ∈ words1.filter isCode, c.before args0 about1 = true := by
  rw [codes_eq]
  intro c hc
  simp only [codes1, List.mem_cons, List.not_mem_nil, or_false] at hc
  rcases hc with rfl | rfl | rfl | rfl | rfl | rfl | rfl | rfl | rfl | rfl | rfl | rfl | rfl | rfl | rfl | rfl | rfl | rfl | rfl | rfl | rfl | rfl | rfl | rfl | rfl | rfl
  · exact w_c0
  · exact w_c1
  · exact w_c2
  · exact w_c3
  · exact w_c4
  · exact w_c5
  · exact w_c6
  · exact w_c7
  · exact w_c8
  · exact w_c9
  · exact w_c10
  · exact w_c11
  · exact w_c12
  · exact w_c13
  · exact w_c14
  · exact w_c15
  · exact w_c16
  · exact w_c17
  · exact w_c18
  · exact w_c19
  · exact w_c20
  · exact w_c21
  · exact w_c22
  · exact w_c23
  · exact w_c24
  · exact w_c25
set_option maxRecDepth 65536 in
theorem w_t1 : (words1.take 24).all (fun c => isCode c || c.before args0 about1) = true := by decide +kernel
set_option maxRecDepth 65536 in
theorem w_t2 : ((words1.drop 24).take 24).all (fun c => isCode c || c.before args0 about1) = true := by decide +kernel
set_option maxRecDepth 65536 in
theorem w_t3 : (((words1.drop 24).drop 24).take 24).all (fun c => isCode c || c.before args0 about1) = true := by decide +kernel
set_option maxRecDepth 65536 in
theorem w_t4 : ((((words1.drop 24).drop 24).drop 24).take 24).all (fun c => isCode c || c.before args0 about1) = true := by decide +kernel
set_option maxRecDepth 65536 in
theorem w_t5 : (((((words1.drop 24).drop 24).drop 24).drop 24).take 24).all (fun c => isCode c || c.before args0 about1) = true := by decide +kernel
set_option maxRecDepth 65536 in
theorem w_t6 : ((((((words1.drop 24).drop 24).drop 24).drop 24).drop 24).take 24).all (fun c => isCode c || c.before args0 about1) = true := by decide +kernel
set_option maxRecDepth 65536 in
theorem w_t7 : ((((((words1.drop 24).drop 24).drop 24).drop 24).drop 24).drop 24).all (fun c => isCode c || c.before args0 about1) = true := by decide +kernel
theorem w_tables : (allAtoms (Jvm.Cond.code x code maxLocals ret :: tables_1)).before args0 about1 = true := by
  rw [allAtoms_all]
  show words1.all (fun c => c.before args0 about1) = true
  refine all_split ?_ w_codes
  rw [← List.take_append_drop 24 words1, List.all_append, w_t1, ← List.take_append_drop 24 (words1.drop 24), List.all_append, w_t2, ← List.take_append_drop 24 ((words1.drop 24).drop 24), List.all_append, w_t3, ← List.take_append_drop 24 (((words1.drop 24).drop 24).drop 24), List.all_append, w_t4, ← List.take_append_drop 24 ((((words1.drop 24).drop 24).drop 24).drop 24), List.all_append, w_t5, ← List.take_append_drop 24 (((((words1.drop 24).drop 24).drop 24).drop 24).drop 24), List.all_append, w_t6, w_t7]
  rfl
set_option maxRecDepth 65536 in
theorem w_rest : rest_1_c.before args0 about1 = true := by decide +kernel
set_option maxRecDepth 65536 in
theorem w_case : (Jvm.Cond.and given_1 narrow_1).before args0 about1 = true := by decide +kernel
set_option maxRecDepth 65536 in
theorem w_consts : constsHeld consts_1 about1 := Jvm.Lit.constsHeldB_iff.mp (by decide +kernel)
theorem w_applies : (headSpec (Jvm.Cond.code x code maxLocals ret :: tables_1) room_1).applies x e0.platform about1 = true :=
  (Spec.applies_iff w_frames).mpr ⟨w_running, w_runnable, w_alone, w_named, w_hears, w_ripe, w_room, w_tables⟩
theorem atStart : AtStart classFile x code maxLocals ret World_1 tables_1 room_1 Calls_1 rest_1 Pre_1 launch0 p0 e0 about1 theMethod args0 below0 :=
  ⟨lists_1, trivial, launch0.admits_env _ _ _, launch0.least_env, fairChoices_fair.cas, fairChoices_fair.clock, w_frames, w_args, w_heap, w_applies, ⟨w_consts, trivial⟩, w_rest, w_case⟩
end start1
theorem witness_1 : WitnessClaimed_1 := ⟨start1.p0, start1.e0, start1.about1, start1.theMethod, start1.args0, start1.below0, start1.atStart⟩
end Jvm.Pilot.@@N@@
