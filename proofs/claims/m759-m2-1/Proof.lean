import JvmDerived
import JvmDerived.Pilot.@@N@@Statement
import JvmDerived.Pilot.@@N@@Code
set_option linter.unusedVariables false
set_option linter.unusedSimpArgs false
/- laws to paste: Road.backV, Road.eqW, Road.codOf (cut by pick.py; bodies as the Statement names them) -/
namespace Jvm.Pilot.@@N@@
namespace StrChars
open Jvm Sem ClassFile Op Lib Jvm.Stand Jvm.Free.XT Jvm.Free.ALB Jvm.Free.JM Jvm.Free
open Jvm.Lib.Cold (StaticIs)
/-- a char array whose places are chars -/
def Ch (a : Addr) (A : Cell) (U : State) : Prop := Arr .char a A U ∧ Typed .char A
theorem Ch.mv {a : Addr} {A : Cell} {U U' : State} (h : Ch a A U) (hal : U.vm.Alike U'.vm) (hh : U'.heap = U.heap) : Ch a A U' := ⟨h.1.mv hal hh, h.2⟩
theorem Ch.keep {a : Addr} {A : Cell} {U U' : State} (h : Ch a A U) (hal : U.vm.Alike U'.vm) (hk : U'.heap[a]? = some A) : Ch a A U' := ⟨h.1.keep hal hk, h.2⟩
/-- what place i of a char[]'s cell holds -/
def cv (A : Cell) (i : Nat) : Int32 := match A.slots[i]? with | some (.int x) => x | _ => 0
theorem Ch.get {a : Addr} {A : Cell} {U : State} (h : Ch a A U) {i : Nat} (hi : i < A.slots.size) : A.slots[i]? = some (.int (cv A i)) := by
  have e := Array.getElem?_eq_getElem hi
  have f := h.2 i _ e
  unfold cv; rw [e]
  generalize A.slots[i] = v at f
  cases v <;> simp [fits] at f ⊢
/-- the byte that i2b leaves of a char -/
def lo8 (x : Int32) : Int32 := x.toInt8.toInt32
theorem fits_lo8 (y : Int32) : fits .byte (.int (lo8 y)) = true := by
  have h1 := y.toInt8.le_toInt
  have h2 := y.toInt8.toInt_lt
  simp only [lo8, fits, Bool.and_eq_true, decide_eq_true_eq, Int32.le_iff_toInt_le, Int8.toInt_toInt32, show (-128 : Int32).toInt = -128 from by decide, show (127 : Int32).toInt = 127 from by decide]
  omega
/-- A' is A but that each place j of lo .. hi - 1 holds f j -/
def Laid (A A' : Cell) (lo hi : Nat) (f : Nat → Value) : Prop := A'.cls = A.cls ∧ A'.vm = A.vm ∧ A'.slots.size = A.slots.size ∧ ∀ i, A'.slots[i]? = if lo ≤ i ∧ i < hi then some (f i) else A.slots[i]?
theorem Laid.zero (A : Cell) (lo : Nat) (f : Nat → Value) : Laid A A lo (lo + 0) f := ⟨rfl, rfl, rfl, fun i => by rw [if_neg (by omega)]⟩
theorem Laid.step {A Ak : Cell} {lo k : Nat} {f : Nat → Value} {v : Value} (h : Laid A Ak lo k f) (hlo : lo ≤ k) (hk : k < Ak.slots.size) (hv : v = f k) : Laid A (Ak.setSlot k v) lo (k + 1) f := by
  refine ⟨h.1, h.2.1, by simpa [Cell.setSlot] using h.2.2.1, fun i => ?_⟩
  by_cases e : k = i
  · subst e; rw [Cell.slots_setSlot_self v hk, if_pos (by omega), hv]
  · rw [Cell.slots_setSlot_ne v e, h.2.2.2 i]
    by_cases q : lo ≤ i ∧ i < k
    · rw [if_pos q, if_pos (by omega)]
    · rw [if_neg q, if_neg (by omega)]
def U16 : String := "java/lang/StringUTF16"
namespace Cmp5
def yN : MethodName := ⟨"java/lang/StringUTF16", "compress", "([CI[BII)I"⟩
abbrev yB : ByteArray := jdk_52_method_21_code
theorem d0 : decode yB 0 = .ok (.iconst 0, 1) := by decide +kernel
theorem d1 : decode yB 1 = .ok (.istore 5, 2) := by decide +kernel
theorem d3 : decode yB 3 = .ok (.iload 5, 2) := by decide +kernel
theorem d5 : decode yB 5 = .ok (.iload 4, 2) := by decide +kernel
theorem d7 : decode yB 7 = .ok (.if_icmp (.ge) 37, 3) := by decide +kernel
theorem d10 : decode yB 10 = .ok (.aload_n 0, 1) := by decide +kernel
theorem d11 : decode yB 11 = .ok (.iload_n 1, 1) := by decide +kernel
theorem d12 : decode yB 12 = .ok (.caload, 1) := by decide +kernel
theorem d13 : decode yB 13 = .ok (.istore 6, 2) := by decide +kernel
theorem d15 : decode yB 15 = .ok (.iload 6, 2) := by decide +kernel
theorem d17 : decode yB 17 = .ok (.sipush 255, 3) := by decide +kernel
theorem d20 : decode yB 20 = .ok (.if_icmp (.le) 6, 3) := by decide +kernel
theorem d26 : decode yB 26 = .ok (.aload_n 2, 1) := by decide +kernel
theorem d27 : decode yB 27 = .ok (.iload_n 3, 1) := by decide +kernel
theorem d28 : decode yB 28 = .ok (.iload 6, 2) := by decide +kernel
theorem d30 : decode yB 30 = .ok (.i2b, 1) := by decide +kernel
theorem d31 : decode yB 31 = .ok (.bastore, 1) := by decide +kernel
theorem d32 : decode yB 32 = .ok (.iinc 1 1, 3) := by decide +kernel
theorem d35 : decode yB 35 = .ok (.iinc 3 1, 3) := by decide +kernel
theorem d38 : decode yB 38 = .ok (.iinc 5 1, 3) := by decide +kernel
theorem d41 : decode yB 41 = .ok (.goto (-38), 3) := by decide +kernel
theorem d44 : decode yB 44 = .ok (.iload 4, 2) := by decide +kernel
theorem d46 : decode yB 46 = .ok (.ireturn, 1) := by decide +kernel
def site : List Cond := []
def tab : Cond := tabOf yN yB 7 (some .int) site
def P (b : Addr) (A : Cell) (d : Addr) (B : Cell) (o q len : Nat) (args : Array Value) (s : State) : Prop := args = #[.ref b, .int (Int32.ofNat o), .ref d, .int (Int32.ofNat q), .int (Int32.ofNat len)] ∧ Ch b A s ∧ Arr .byte d B s ∧ b ≠ d ∧ o + len ≤ A.slots.size ∧ q + len ≤ B.slots.size ∧ ∀ i, i < len → ¬ 255 < cv A (o + i)
def E (b : Addr) (A : Cell) (d : Addr) (B : Cell) (o q len : Nat) (r : Option Value) (s u : State) : Prop := r = some (.int (Int32.ofNat len)) ∧ ∃ B', Put d B' s u ∧ Laid B B' q (q + len) (fun j => Value.int (lo8 (cv A (o + (j - q)))))
/-- no char of the range above 255: len; the places written hold each char's low byte -/
theorem law (l : Launch) (b : Addr) (A : Cell) (d : Addr) (B : Cell) (o q len : Nat) : Law l yN 5 5 0 0 yB 7 (some .int) site (P b A d B o q len) (E b A d B o q len) (copyLocs d q len) 0 0 := by
  refine Law.of_walk (plainFor_of_name (by decide +kernel)) (by decide +kernel) (by decide +kernel) (by decide) (fun _ _ h => by rw [h.1]; rfl) (fun _ U U' hal hh h => ⟨h.1, h.2.1.mv hal hh, h.2.2.1.mv hal hh, h.2.2.2⟩) (fun r U U' V V' h1 hal h2 h => ⟨h.1, h.2.elim fun B' q => ⟨B', q.1.mv h1 h2, q.2⟩⟩) ?_
  intro p e s m args below meth c s₁ X0 hexec hbytes hml hret hlk hnm hown hh0 W hP
  obtain ⟨rfl, hA, hB, hne, l1, l2, hp⟩ := hP
  have c1 : Steps p.tables e below (s₁.setTop (entryFrame m #[.ref b, .int (Int32.ofNat o), .ref d, .int (Int32.ofNat q), .int (Int32.ofNat len)] 7)) (s₁.setTop (mkF m 0 #[.val (.ref b), .val (.int (Int32.ofNat o)), .val (.ref d), .val (.int (Int32.ofNat q)), .val (.int (Int32.ofNat len)), .unset, .unset] [])) := entry rfl
  have hA0 := hA.1.mv X0.warmed.alike hh0
  have hB0 := hB.mv X0.warmed.alike hh0
  have a31 := hA.1.2.2.2
  have c2 : Steps p.tables e below (s₁.setTop (entryFrame m #[.ref b, .int (Int32.ofNat o), .ref d, .int (Int32.ofNat q), .int (Int32.ofNat len)] 7)) (s₁.setTop (mkF m 3 #[.val (.ref b), .val (.int (Int32.ofNat o)), .val (.ref d), .val (.int (Int32.ofNat q)), .val (.int (Int32.ofNat len)), .val (.int 0), .unset] [])) := c1.trans (by
    refine iconstV X0.here hexec rfl 0 (hb hbytes d0) (by decide) ?_
    refine XS.istore X0.here hexec rfl (hb hbytes d1) rfl rfl ?_
    exact Steps.refl _)
  have loop : ∀ (r i : Nat), i + r = len → ∀ (z : Slot), (z = .unset ∨ ∃ w, z = .val w ∧ w.category = 1) → ∀ (Tl : State) (Bk : Cell), Stand p l e { frames := 0, locals := 0, cells := 0, slots := 0 } s m #[.ref b, .int (Int32.ofNat o), .ref d, .int (Int32.ofNat q), .int (Int32.ofNat len)] below meth c Tl ([] ++ copyLocs d q i) 0 0 → Put d Bk s₁ Tl → Laid B Bk q (q + i) (fun j => Value.int (lo8 (cv A (o + (j - q))))) →
      Steps p.tables e below (s₁.setTop (entryFrame m #[.ref b, .int (Int32.ofNat o), .ref d, .int (Int32.ofNat q), .int (Int32.ofNat len)] 7)) (Tl.setTop (mkF m 3 #[.val (.ref b), .val (.int (Int32.ofNat (o + i))), .val (.ref d), .val (.int (Int32.ofNat (q + i))), .val (.int (Int32.ofNat len)), .val (.int (Int32.ofNat i)), z] [])) → ∃ (T' : State) (B' : Cell) (z' : Slot), Stand p l e { frames := 0, locals := 0, cells := 0, slots := 0 } s m #[.ref b, .int (Int32.ofNat o), .ref d, .int (Int32.ofNat q), .int (Int32.ofNat len)] below meth c T' ([] ++ copyLocs d q len) 0 0 ∧ Put d B' s₁ T' ∧ Laid B B' q (q + len) (fun j => Value.int (lo8 (cv A (o + (j - q))))) ∧
      Steps p.tables e below (s₁.setTop (entryFrame m #[.ref b, .int (Int32.ofNat o), .ref d, .int (Int32.ofNat q), .int (Int32.ofNat len)] 7)) (T'.setTop (mkF m 3 #[.val (.ref b), .val (.int (Int32.ofNat (o + len))), .val (.ref d), .val (.int (Int32.ofNat (q + len))), .val (.int (Int32.ofNat len)), .val (.int (Int32.ofNat len)), z'] [])) := by
    intro r
    induction r with
    | zero =>
      intro i hi z hz Tl Bk Xl pl fl cl
      have hil : i = len := by omega
      rw [hil] at Xl fl cl
      exact ⟨Tl, Bk, z, Xl, pl, fl, cl⟩
    | succ r ih =>
      intro i hi z hz Tl Bk Xl pl fl cl
      have all := X0.warmed.alike.symm.trans Xl.warmed.alike
      have hAl := hA0.keep all (pl.other hne hA0.1)
      have hBk := hB0.like all pl.1 fl.1 fl.2.1 fl.2.2.1
      have hlt : q + i < Bk.slots.size := by rw [fl.2.2.1]; omega
      have c3 : Steps p.tables e below (s₁.setTop (entryFrame m #[.ref b, .int (Int32.ofNat o), .ref d, .int (Int32.ofNat q), .int (Int32.ofNat len)] 7)) (Tl.setTop (mkF m 12 #[.val (.ref b), .val (.int (Int32.ofNat (o + i))), .val (.ref d), .val (.int (Int32.ofNat (q + i))), .val (.int (Int32.ofNat len)), .val (.int (Int32.ofNat i)), z] [.int (Int32.ofNat (o + i)), .ref b])) := cl.trans (by
        refine XS.iload Xl.here hexec rfl (hb hbytes d3) rfl ?_
        refine XS.iload Xl.here hexec rfl (hb hbytes d5) rfl ?_
        refine XS.icmpNo Xl.here hexec rfl (hb hbytes d7) rfl (ii_ge_f (lt32 (by omega) (by omega))) ?_
        refine XS.aloadN Xl.here hexec rfl (hb hbytes d10) rfl rfl ?_
        refine XS.iloadN Xl.here hexec rfl (hb hbytes d11) rfl ?_
        exact Steps.refl _)
      have c4 : Steps p.tables e below (s₁.setTop (entryFrame m #[.ref b, .int (Int32.ofNat o), .ref d, .int (Int32.ofNat q), .int (Int32.ofNat len)] 7)) (Tl.setTop (mkF m 13 #[.val (.ref b), .val (.int (Int32.ofNat (o + i))), .val (.ref d), .val (.int (Int32.ofNat (q + i))), .val (.int (Int32.ofNat len)), .val (.int (Int32.ofNat i)), z] [.int (cv A (o + i))])) := c3.trans (by
        refine Xl.aget hexec hAl rfl (hA.get (i := o + i) (by omega)) rfl rfl (hb hbytes d12) ?_
        exact Steps.refl _)
      have c5 : Steps p.tables e below (s₁.setTop (entryFrame m #[.ref b, .int (Int32.ofNat o), .ref d, .int (Int32.ofNat q), .int (Int32.ofNat len)] 7)) (Tl.setTop (mkF m 15 #[.val (.ref b), .val (.int (Int32.ofNat (o + i))), .val (.ref d), .val (.int (Int32.ofNat (q + i))), .val (.int (Int32.ofNat len)), .val (.int (Int32.ofNat i)), .val (.int (cv A (o + i)))] [])) := c4.trans (by
        refine XS.istoreS Xl.here hexec rfl (hb hbytes d13) rfl rfl hz ?_
        exact Steps.refl _)
      have c6 : Steps p.tables e below (s₁.setTop (entryFrame m #[.ref b, .int (Int32.ofNat o), .ref d, .int (Int32.ofNat q), .int (Int32.ofNat len)] 7)) (Tl.setTop (mkF m 31 #[.val (.ref b), .val (.int (Int32.ofNat (o + i))), .val (.ref d), .val (.int (Int32.ofNat (q + i))), .val (.int (Int32.ofNat len)), .val (.int (Int32.ofNat i)), .val (.int (cv A (o + i)))] [.int (lo8 (cv A (o + i))), .int (Int32.ofNat (q + i)), .ref d])) := c5.trans (by
        refine XS.iload Xl.here hexec rfl (hb hbytes d15) rfl ?_
        refine sipushV Xl.here hexec rfl 255 (hb hbytes d17) (by decide) ?_
        refine XS.icmpYes Xl.here hexec rfl (pc0 := 20) rfl (hb hbytes d20) rfl (ii_le_t (hp i (by omega))) (by decide) rfl ?_
        refine XS.aloadN Xl.here hexec rfl (hb hbytes d26) rfl rfl ?_
        refine XS.iloadN Xl.here hexec rfl (hb hbytes d27) rfl ?_
        refine XS.iload Xl.here hexec rfl (hb hbytes d28) rfl ?_
        refine i2b Xl.here hexec rfl (hb hbytes d30) rfl ?_
        exact Steps.refl _)
      obtain ⟨T7, X7, p7, st7⟩ := Xl.aput hexec hBk rfl hlt rfl (fits_lo8 (cv A (o + i))) (g := (mkF m 31 #[.val (.ref b), .val (.int (Int32.ofNat (o + i))), .val (.ref d), .val (.int (Int32.ofNat (q + i))), .val (.int (Int32.ofNat len)), .val (.int (Int32.ofNat i)), .val (.int (cv A (o + i)))] [.int (lo8 (cv A (o + i))), .int (Int32.ofNat (q + i)), .ref d])) rfl (rest := []) rfl (hb hbytes d31)
      have c8 : Steps p.tables e below (s₁.setTop (entryFrame m #[.ref b, .int (Int32.ofNat o), .ref d, .int (Int32.ofNat q), .int (Int32.ofNat len)] 7)) (T7.setTop (mkF m 32 #[.val (.ref b), .val (.int (Int32.ofNat (o + i))), .val (.ref d), .val (.int (Int32.ofNat (q + i))), .val (.int (Int32.ofNat len)), .val (.int (Int32.ofNat i)), .val (.int (cv A (o + i)))] [])) := c6.trans (st7 _ (Steps.refl _))
      have c9 : Steps p.tables e below (s₁.setTop (entryFrame m #[.ref b, .int (Int32.ofNat o), .ref d, .int (Int32.ofNat q), .int (Int32.ofNat len)] 7)) (T7.setTop (mkF m 3 #[.val (.ref b), .val (.int (Int32.ofNat (o + i) + 1)), .val (.ref d), .val (.int (Int32.ofNat (q + i) + 1)), .val (.int (Int32.ofNat len)), .val (.int (Int32.ofNat i + 1)), .val (.int (cv A (o + i)))] [])) := c8.trans (by
        refine iincV X7.here hexec rfl 1 (hb hbytes d32) (by decide) rfl rfl ?_
        refine iincV X7.here hexec rfl 1 (hb hbytes d35) (by decide) rfl rfl ?_
        refine iincV X7.here hexec rfl 1 (hb hbytes d38) (by decide) rfl rfl ?_
        refine XS.goto X7.here hexec rfl (pc0 := 41) rfl (hb hbytes d41) (by decide) rfl ?_
        exact Steps.refl _)
      have c10 : Steps p.tables e below (s₁.setTop (entryFrame m #[.ref b, .int (Int32.ofNat o), .ref d, .int (Int32.ofNat q), .int (Int32.ofNat len)] 7)) (T7.setTop (mkF m 3 #[.val (.ref b), .val (.int (Int32.ofNat (o + (i + 1)))), .val (.ref d), .val (.int (Int32.ofNat (q + (i + 1)))), .val (.int (Int32.ofNat len)), .val (.int (Int32.ofNat (i + 1))), .val (.int (cv A (o + i)))] [])) := by
        have := c9
        rw [succ32, succ32, succ32] at this
        exact this
      exact ih (i + 1) (by omega) _ (Or.inr ⟨_, rfl, rfl⟩) T7 _ (by rw [copyLocs_step, ← List.append_assoc]; exact X7) (pl.trans p7) (fl.step (by omega) hlt (by simp)) c10
  obtain ⟨T9, B9, z9, X9, p9, f9, g9⟩ := loop len 0 (by omega) .unset (Or.inl rfl) s₁ B (by simpa [copyLocs] using X0) ⟨hB0.1, fun _ _ => rfl, rfl⟩ (Laid.zero _ _ _) c2
  have c11 : Steps p.tables e below (s₁.setTop (entryFrame m #[.ref b, .int (Int32.ofNat o), .ref d, .int (Int32.ofNat q), .int (Int32.ofNat len)] 7)) (T9.setTop (mkF m 46 #[.val (.ref b), .val (.int (Int32.ofNat (o + len))), .val (.ref d), .val (.int (Int32.ofNat (q + len))), .val (.int (Int32.ofNat len)), .val (.int (Int32.ofNat len)), z9] [.int (Int32.ofNat len)])) := g9.trans (by
    refine XS.iload X9.here hexec rfl (hb hbytes d3) rfl ?_
    refine XS.iload X9.here hexec rfl (hb hbytes d5) rfl ?_
    refine XS.icmpYes X9.here hexec rfl (pc0 := 7) rfl (hb hbytes d7) rfl (ii_ge_t (nlt32 (by omega) (Nat.le_refl _))) (by decide) rfl ?_
    refine XS.iload X9.here hexec rfl (hb hbytes d44) rfl ?_
    exact Steps.refl _)
  exact ⟨T9, some (.int (Int32.ofNat len)), _, _, _, X9, by simp, rfl, rfl, (fun h => by cases h), ⟨rfl, B9, p9.from hh0, f9⟩, fun fs hl => c11.trans (X9.ireturnOut hexec hret rfl (Or.inl rfl) (hb hbytes d46) hl)⟩
end Cmp5
namespace Cmp3
def yN : MethodName := ⟨"java/lang/StringUTF16", "compress", "([CII)[B"⟩
abbrev yB : ByteArray := jdk_52_method_16_code
theorem d0 : decode yB 0 = .ok (.iload_n 2, 1) := by decide +kernel
theorem d1 : decode yB 1 = .ok (.newarray .byte, 2) := by decide +kernel
theorem d3 : decode yB 3 = .ok (.astore_n 3, 1) := by decide +kernel
theorem d4 : decode yB 4 = .ok (.aload_n 0, 1) := by decide +kernel
theorem d5 : decode yB 5 = .ok (.iload_n 1, 1) := by decide +kernel
theorem d6 : decode yB 6 = .ok (.aload_n 3, 1) := by decide +kernel
theorem d7 : decode yB 7 = .ok (.iconst 0, 1) := by decide +kernel
theorem d8 : decode yB 8 = .ok (.iload_n 2, 1) := by decide +kernel
theorem d9 : decode yB 9 = .ok (.invokestatic 115, 3) := by decide +kernel
theorem d12 : decode yB 12 = .ok (.istore 4, 2) := by decide +kernel
theorem d14 : decode yB 14 = .ok (.iload 4, 2) := by decide +kernel
theorem d16 : decode yB 16 = .ok (.iload_n 2, 1) := by decide +kernel
theorem d17 : decode yB 17 = .ok (.if_icmp (.eq) 40, 3) := by decide +kernel
theorem d57 : decode yB 57 = .ok (.aload_n 3, 1) := by decide +kernel
theorem d58 : decode yB 58 = .ok (.areturn, 1) := by decide +kernel
def site : List Cond := [.arrayClass .byte, Cmp5.tab] ++ staticW U16 115 Cmp5.yN
def tab : Cond := tabOf yN yB 6 (some (.array .byte)) site
def P (b : Addr) (A : Cell) (o len : Nat) (args : Array Value) (s : State) : Prop := args = #[.ref b, .int (Int32.ofNat o), .int (Int32.ofNat len)] ∧ Ch b A s ∧ o + len ≤ A.slots.size ∧ len ≤ 536870912 ∧ ∀ i, i < len → ¬ 255 < cv A (o + i)
def E (b : Addr) (A : Cell) (o len : Nat) (r : Option Value) (s u : State) : Prop := NewArr .byte "[B" len (fun j => .int (lo8 (cv A (o + j)))) r s u ∧ u.heap.size = s.heap.size + 1
/-- no char of the range above 255: a new byte[] of their low bytes -/
theorem law (l : Launch) (b : Addr) (A : Cell) (o len : Nat) : Law l yN 3 3 1 18 yB 6 (some (.array .byte)) site (P b A o len) (E b A o len) [] 1 len := by
  refine Law.of_walk (plainFor_of_name (by decide +kernel)) (by decide +kernel) (by decide +kernel) (by decide) (fun _ _ h => by rw [h.1]; rfl) (fun _ U U' hal hh h => ⟨h.1, h.2.1.mv hal hh, h.2.2⟩) (fun r U U' V V' h1 hal h2 h => ⟨NewArr.mv r U U' V V' h1 hal h2 h.1, by rw [h1, h2]; exact h.2⟩) ?_
  intro p e s m args below meth c s₁ X0 hexec hbytes hml hret hlk hnm hown hh0 W hP
  obtain ⟨rfl, hA, l1, l2, hp⟩ := hP
  have a31 := hA.1.2.2.2
  have c1 : Steps p.tables e below (s₁.setTop (entryFrame m #[.ref b, .int (Int32.ofNat o), .int (Int32.ofNat len)] 6)) (s₁.setTop (mkF m 0 #[.val (.ref b), .val (.int (Int32.ofNat o)), .val (.int (Int32.ofNat len)), .unset, .unset, .unset] [])) := entry rfl
  have c2 : Steps p.tables e below (s₁.setTop (entryFrame m #[.ref b, .int (Int32.ofNat o), .int (Int32.ofNat len)] 6)) (s₁.setTop (mkF m 1 #[.val (.ref b), .val (.int (Int32.ofNat o)), .val (.int (Int32.ofNat len)), .unset, .unset, .unset] [.int (Int32.ofNat len)])) := c1.trans (by
    refine XS.iloadN X0.here hexec rfl (hb hbytes d0) rfl ?_
    exact Steps.refl _)
  obtain ⟨T3, B3, X3, ba3, bs3, bv3, bh3, bf3, st3⟩ := X0.anew hexec (atype := .byte) (wk W (.arrayClass .byte)) rfl (by show len * 1 ≤ _; omega) (by omega) (g := (mkF m 1 #[.val (.ref b), .val (.int (Int32.ofNat o)), .val (.int (Int32.ofNat len)), .unset, .unset, .unset] [.int (Int32.ofNat len)])) rfl (hb hbytes d1) (rest := []) rfl (Nat.le_refl _) (by show 0 + len ≤ len; omega)
  rw [hh0] at ba3 st3
  have kp3 : XT.Kept s T3 := (XT.Kept.of_eq hh0).push bh3
  have hA3 := hA.keep X3.warmed.alike (kp3 _ _ hA.1.1)
  have hne : b ≠ s.heap.size := hA.1.ne
  have c4 : Steps p.tables e below (s₁.setTop (entryFrame m #[.ref b, .int (Int32.ofNat o), .int (Int32.ofNat len)] 6)) (T3.setTop (mkF m 3 #[.val (.ref b), .val (.int (Int32.ofNat o)), .val (.int (Int32.ofNat len)), .unset, .unset, .unset] [.ref s.heap.size])) := c2.trans (st3 _ (Steps.refl _))
  have c5 : Steps p.tables e below (s₁.setTop (entryFrame m #[.ref b, .int (Int32.ofNat o), .int (Int32.ofNat len)] 6)) (T3.setTop (mkF m 9 #[.val (.ref b), .val (.int (Int32.ofNat o)), .val (.int (Int32.ofNat len)), .val (.ref s.heap.size), .unset, .unset] [.int (Int32.ofNat len), .int 0, .ref s.heap.size, .int (Int32.ofNat o), .ref b])) := c4.trans (by
    refine XS.astoreN X3.here hexec rfl (hb hbytes d3) rfl rfl rfl ?_
    refine XS.aloadN X3.here hexec rfl (hb hbytes d4) rfl rfl ?_
    refine XS.iloadN X3.here hexec rfl (hb hbytes d5) rfl ?_
    refine XS.aloadN X3.here hexec rfl (hb hbytes d6) rfl rfl ?_
    refine iconstV X3.here hexec rfl 0 (hb hbytes d7) (by decide) ?_
    refine XS.iloadN X3.here hexec rfl (hb hbytes d8) rfl ?_
    exact Steps.refl _)
  obtain ⟨v6, T6, X6, E6, g6⟩ := X3.callS hexec (Cmp5.law l b A s.heap.size B3 o 0 len) hown (wks W (staticW U16 115 Cmp5.yN)) (wk W Cmp5.tab) (W := 0) (Nat.le_of_ble_eq_true rfl) (Nat.le_of_ble_eq_true rfl) (Nat.le_refl _) (by show 0 + len + 0 ≤ len; omega) (g := (mkF m 9 #[.val (.ref b), .val (.int (Int32.ofNat o)), .val (.int (Int32.ofNat len)), .val (.ref s.heap.size), .unset, .unset] [.int (Int32.ofNat len), .int (Int32.ofNat 0), .ref s.heap.size, .int (Int32.ofNat o), .ref b])) rfl (by rw [hml]; rfl) c5 (argsL := [.ref b, .int (Int32.ofNat o), .ref s.heap.size, .int (Int32.ofNat 0), .int (Int32.ofNat len)]) (rest := []) rfl rfl (by show 2 * 0 + 0 ≤ _; decide) (hb hbytes d9) (⟨rfl, hA3, ba3, hne, l1, by rw [bs3]; simp, hp⟩)
  obtain ⟨rfl, B6, p6, f6⟩ := E6
  have c7 : Steps p.tables e below (s₁.setTop (entryFrame m #[.ref b, .int (Int32.ofNat o), .int (Int32.ofNat len)] 6)) (T6.setTop (mkF m 12 #[.val (.ref b), .val (.int (Int32.ofNat o)), .val (.int (Int32.ofNat len)), .val (.ref s.heap.size), .unset, .unset] [.int (Int32.ofNat len)])) := g6
  have c8 : Steps p.tables e below (s₁.setTop (entryFrame m #[.ref b, .int (Int32.ofNat o), .int (Int32.ofNat len)] 6)) (T6.setTop (mkF m 58 #[.val (.ref b), .val (.int (Int32.ofNat o)), .val (.int (Int32.ofNat len)), .val (.ref s.heap.size), .val (.int (Int32.ofNat len)), .unset] [.ref s.heap.size])) := c7.trans (by
    refine XS.istore X6.here hexec rfl (hb hbytes d12) rfl rfl ?_
    refine XS.iload X6.here hexec rfl (hb hbytes d14) rfl ?_
    refine XS.iloadN X6.here hexec rfl (hb hbytes d16) rfl ?_
    refine XS.icmpYes X6.here hexec rfl (pc0 := 17) rfl (hb hbytes d17) rfl (ii_eq_t rfl) (by decide) rfl ?_
    refine XS.aloadN X6.here hexec rfl (hb hbytes d57) rfl rfl ?_
    exact Steps.refl _)
  have X8 := X6.wide (L' := []) (cells' := 1) (slots' := len) (fun x hx hlt => by
    simp only [List.nil_append, copyLocs, List.mem_map, List.mem_range] at hx
    obtain ⟨i, -, rfl⟩ := hx
    exact absurd hlt (Nat.lt_irrefl _)) (Nat.le_refl _) (by omega)
  exact ⟨T6, some (.ref s.heap.size), _, _, _, X8, rfl, rfl, rfl, (fun h => by cases h), ⟨⟨rfl, B6, ba3.like (X3.warmed.alike.symm.trans X6.warmed.alike) p6.1 f6.1 f6.2.1 f6.2.2.1, f6.2.1.trans bv3, by rw [X6.warmed.alike.findClass, f6.1]; exact bf3, by rw [f6.2.2.1, bs3]; simp, fun j hj => by rw [f6.2.2.2 j, if_pos (by omega)]; rfl, kp3.put p6 (Nat.le_refl _)⟩, by rw [p6.2.2, bh3, hh0]; simp⟩, fun fs hl => c8.trans (X8.areturnOut hexec rfl hret rfl (hb hbytes d58) hl)⟩
end Cmp3
namespace CodL
def yN : MethodName := ⟨"java/lang/StringUTF16", "coderFromArrayLen", "([BI)B"⟩
abbrev yB : ByteArray := jdk_52_method_15_code
theorem d0 : decode yB 0 = .ok (.iload_n 1, 1) := by decide +kernel
theorem d1 : decode yB 1 = .ok (.aload_n 0, 1) := by decide +kernel
theorem d2 : decode yB 2 = .ok (.arraylength, 1) := by decide +kernel
theorem d3 : decode yB 3 = .ok (.isub, 1) := by decide +kernel
theorem d4 : decode yB 4 = .ok (.bipush 31, 2) := by decide +kernel
theorem d6 : decode yB 6 = .ok (.iushr, 1) := by decide +kernel
theorem d7 : decode yB 7 = .ok (.i2b, 1) := by decide +kernel
theorem d8 : decode yB 8 = .ok (.ireturn, 1) := by decide +kernel
def site : List Cond := []
def tab : Cond := tabOf yN yB 2 (some .byte) site
def P (d : Addr) (B : Cell) (args : Array Value) (s : State) : Prop := args = #[.ref d, .int (Int32.ofNat B.slots.size)] ∧ Arr .byte d B s
def E (r : Option Value) (s u : State) : Prop := XT.PureE (some (.int 0)) r s u
/-- an array as long as the number of chars: LATIN1 -/
theorem law (l : Launch) (d : Addr) (B : Cell) : Law l yN 2 2 0 0 yB 2 (some .byte) site (P d B) E [] 0 0 := by
  refine Law.of_walk (plainFor_of_name (by decide +kernel)) (by decide +kernel) (by decide +kernel) (by decide) (fun _ _ h => by rw [h.1]; rfl) (fun _ U U' hal hh h => ⟨h.1, h.2.mv hal hh⟩) (fun r U U' V V' h1 hal h2 h => XT.PureE.mv r U U' V V' h1 hal h2 h) ?_
  intro p e s m args below meth c s₁ X0 hexec hbytes hml hret hlk hnm hown hh0 W hP
  obtain ⟨rfl, hB⟩ := hP
  have hB0 := hB.mv X0.warmed.alike hh0
  have c1 : Steps p.tables e below (s₁.setTop (entryFrame m #[.ref d, .int (Int32.ofNat B.slots.size)] 2)) (s₁.setTop (mkF m 0 #[.val (.ref d), .val (.int (Int32.ofNat B.slots.size))] [])) := entry rfl
  have c2 : Steps p.tables e below (s₁.setTop (entryFrame m #[.ref d, .int (Int32.ofNat B.slots.size)] 2)) (s₁.setTop (mkF m 2 #[.val (.ref d), .val (.int (Int32.ofNat B.slots.size))] [.ref d, .int (Int32.ofNat B.slots.size)])) := c1.trans (by
    refine XS.iloadN X0.here hexec rfl (hb hbytes d0) rfl ?_
    refine XS.aloadN X0.here hexec rfl (hb hbytes d1) rfl rfl ?_
    exact Steps.refl _)
  have c3 : Steps p.tables e below (s₁.setTop (entryFrame m #[.ref d, .int (Int32.ofNat B.slots.size)] 2)) (s₁.setTop (mkF m 8 #[.val (.ref d), .val (.int (Int32.ofNat B.slots.size))] [.int (lo8 (ushr (Int32.ofNat B.slots.size - Int32.ofNat B.slots.size) 31))])) := c2.trans (by
    refine X0.alen hexec hB0 rfl rfl (hb hbytes d2) ?_
    refine XS.isub X0.here hexec rfl (hb hbytes d3) rfl ?_
    refine bipushV X0.here hexec rfl 31 (hb hbytes d4) (by decide) ?_
    refine iushr X0.here hexec rfl (hb hbytes d6) rfl ?_
    refine i2b X0.here hexec rfl (hb hbytes d7) rfl ?_
    exact Steps.refl _)
  have e0 : lo8 (ushr (Int32.ofNat B.slots.size - Int32.ofNat B.slots.size) 31) = 0 := by rw [Int32.sub_self]; decide
  rw [e0] at c3
  exact ⟨s₁, some (.int 0), _, _, _, X0, rfl, rfl, rfl, (fun h => by cases h), ⟨rfl, hh0⟩, fun fs hl => c3.trans (X0.ireturnOut hexec hret rfl (Or.inr (Or.inr (Or.inl rfl))) (hb hbytes d8) hl)⟩
end CodL
/-- the String at a is Latin-1 over a new byte[] (the heap's one new cell): the low bytes of the len chars of A from o on; every cell but a is kept -/
def Got (a : Addr) (D : Cell) (fV fC : Field) (A : Cell) (o len : Nat) (r : Option Value) (s u : State) : Prop := r = none ∧ ∃ D' V : Cell, Blank "java/lang/String" a D' u ∧ Same D D' [fV.slot, fC.slot] ∧ D'.slots[fV.slot]? = some (.ref s.heap.size) ∧ D'.slots[fC.slot]? = some (.int 0) ∧ Arr .byte s.heap.size V u ∧ V.vm = .none ∧ u.vm.findClass "[B" = some V.cls ∧ V.slots.size = len ∧ (∀ j, j < len → V.slots[j]? = some (.int (lo8 (cv A (o + j))))) ∧ (∀ (y : Addr) (c : Cell), y ≠ a → s.heap[y]? = some c → u.heap[y]? = some c) ∧ u.heap.size = s.heap.size + 1
theorem Got.mv {a : Addr} {D A : Cell} {fV fC : Field} {o len : Nat} : ∀ r (U U' V V' : State), U'.heap = U.heap → V.vm.Alike V'.vm → V'.heap = V.heap → Got a D fV fC A o len r U V → Got a D fV fC A o len r U' V' :=
  fun r U U' V V' h1 hal h2 ⟨e0, D', X, a1, a2, a3, a4, a5, a6, a7, a8, a9, a10, a11⟩ => ⟨e0, D', X, a1.mv hal h2, a2, by rw [h1]; exact a3, a4, by rw [h1]; exact a5.mv hal h2, a6, by rw [hal.findClass]; exact a7, a8, a9, by rw [h1, h2]; exact a10, by rw [h1, h2]; exact a11⟩
namespace New4
def yN : MethodName := ⟨"java/lang/String", "<init>", "([CIILjava/lang/Void;)V"⟩
abbrev yB : ByteArray := jdk_42_method_149_code
theorem d0 : decode yB 0 = .ok (.aload_n 0, 1) := by decide +kernel
theorem d1 : decode yB 1 = .ok (.invokespecial 1, 3) := by decide +kernel
theorem d4 : decode yB 4 = .ok (.iload_n 3, 1) := by decide +kernel
theorem d5 : decode yB 5 = .ok (.ifCond (.ne) 22, 3) := by decide +kernel
theorem d27 : decode yB 27 = .ok (.getstatic 38, 3) := by decide +kernel
theorem d30 : decode yB 30 = .ok (.ifCond (.eq) 28, 3) := by decide +kernel
theorem d33 : decode yB 33 = .ok (.aload_n 1, 1) := by decide +kernel
theorem d34 : decode yB 34 = .ok (.iload_n 2, 1) := by decide +kernel
theorem d35 : decode yB 35 = .ok (.iload_n 3, 1) := by decide +kernel
theorem d36 : decode yB 36 = .ok (.invokestatic 177, 3) := by decide +kernel
theorem d39 : decode yB 39 = .ok (.astore 5, 2) := by decide +kernel
theorem d41 : decode yB 41 = .ok (.aload_n 0, 1) := by decide +kernel
theorem d42 : decode yB 42 = .ok (.aload 5, 2) := by decide +kernel
theorem d44 : decode yB 44 = .ok (.iload_n 3, 1) := by decide +kernel
theorem d45 : decode yB 45 = .ok (.invokestatic 47, 3) := by decide +kernel
theorem d48 : decode yB 48 = .ok (.putfield 15, 3) := by decide +kernel
theorem d51 : decode yB 51 = .ok (.aload_n 0, 1) := by decide +kernel
theorem d52 : decode yB 52 = .ok (.aload 5, 2) := by decide +kernel
theorem d54 : decode yB 54 = .ok (.putfield 9, 3) := by decide +kernel
theorem d57 : decode yB 57 = .ok (.return_, 1) := by decide +kernel
def site : List Cond := [.fieldLink "java/lang/String" 38 "java/lang/String" "COMPACT_STRINGS" "Z", Cmp3.tab, CodL.tab, .laysFinal "java/lang/String" "java/lang/String" "value" "[B", .fieldLink "java/lang/String" 9 "java/lang/String" "value" "[B", .laysFinal "java/lang/String" "java/lang/String" "coder" "B", .fieldLink "java/lang/String" 15 "java/lang/String" "coder" "B"] ++ objW "java/lang/String" 1 ++ staticW "java/lang/String" 177 Cmp3.yN ++ staticW "java/lang/String" 47 CodL.yN
def tab : Cond := tabOf yN yB 6 none site
def P (a : Addr) (D : Cell) (fV fC : Field) (b : Addr) (A : Cell) (z : Int32) (o len : Nat) (args : Array Value) (s : State) : Prop := args = #[.ref a, .ref b, .int (Int32.ofNat o), .int (Int32.ofNat len), .null] ∧ Blank "java/lang/String" a D s ∧ Found "java/lang/String" "value" "[B" fV s ∧ Found "java/lang/String" "coder" "B" fC s ∧ Ch b A s ∧ StaticIs s "java/lang/String" "COMPACT_STRINGS" "Z" (.int z) ∧ ¬ z = 0 ∧ 0 < len ∧ o + len ≤ A.slots.size ∧ len ≤ 536870912 ∧ ∀ i, i < len → ¬ 255 < cv A (o + i)
def E (a : Addr) (D : Cell) (fV fC : Field) (A : Cell) (o len : Nat) (r : Option Value) (s u : State) : Prop := Got a D fV fC A o len r s u
/-- len > 0, no char of the range above 255: a Latin-1 String of their low bytes -/
theorem law (l : Launch) (a : Addr) (D : Cell) (fV fC : Field) (b : Addr) (A : Cell) (z : Int32) (o len : Nat) : Law l yN 5 4 2 35 yB 6 none site (P a D fV fC b A z o len) (E a D fV fC A o len) [⟨a, fC.slot⟩, ⟨a, fV.slot⟩] 1 len := by
  refine Law.of_walk (plainFor_of_name (by decide +kernel)) (by decide +kernel) (by decide +kernel) (by decide) (fun _ _ h => by rw [h.1]; rfl) (fun _ U U' hal hh h => ⟨h.1, h.2.1.mv hal hh, h.2.2.1.al hal, h.2.2.2.1.al hal, h.2.2.2.2.1.mv hal hh, h.2.2.2.2.2.1.there hal hh, h.2.2.2.2.2.2⟩) (fun r U U' V V' h1 hal h2 h => Got.mv r U U' V V' h1 hal h2 h) ?_
  intro p e s m args below meth c s₁ X0 hexec hbytes hml hret hlk hnm hown hh0 W hP
  obtain ⟨rfl, hB, f1, f2, hA, s1, hz, l0, l1, l2, hp⟩ := hP
  have a31 := hA.1.2.2.2
  have c1 : Steps p.tables e below (s₁.setTop (entryFrame m #[.ref a, .ref b, .int (Int32.ofNat o), .int (Int32.ofNat len), .null] 6)) (s₁.setTop (mkF m 0 #[.val (.ref a), .val (.ref b), .val (.int (Int32.ofNat o)), .val (.int (Int32.ofNat len)), .val .null, .unset] [])) := entry rfl
  have c2 : Steps p.tables e below (s₁.setTop (entryFrame m #[.ref a, .ref b, .int (Int32.ofNat o), .int (Int32.ofNat len), .null] 6)) (s₁.setTop (mkF m 1 #[.val (.ref a), .val (.ref b), .val (.int (Int32.ofNat o)), .val (.int (Int32.ofNat len)), .val .null, .unset] [.ref a])) := c1.trans (by
    refine XS.aloadN X0.here hexec rfl (hb hbytes d0) rfl rfl ?_
    exact Steps.refl _)
  obtain ⟨T3, X3, q3, st3⟩ := X0.oinit hexec hown (wks W (objW "java/lang/String" 1)) (g := (mkF m 1 #[.val (.ref a), .val (.ref b), .val (.int (Int32.ofNat o)), .val (.int (Int32.ofNat len)), .val .null, .unset] [.ref a])) rfl (by rw [hml]; rfl) (rest := []) rfl (hb hbytes d1) (W := 0) (by show 2 * 0 + 0 ≤ _; decide) (Nat.le_of_ble_eq_true rfl) (Nat.le_of_ble_eq_true rfl)
  have hh3 := q3.trans hh0
  have c4 : Steps p.tables e below (s₁.setTop (entryFrame m #[.ref a, .ref b, .int (Int32.ofNat o), .int (Int32.ofNat len), .null] 6)) (T3.setTop (mkF m 27 #[.val (.ref a), .val (.ref b), .val (.int (Int32.ofNat o)), .val (.int (Int32.ofNat len)), .val .null, .unset] [])) := (c2.trans (st3 _ (Steps.refl _))).trans (by
    refine XS.iloadN X3.here hexec rfl (hb hbytes d4) rfl ?_
    refine XS.ifYes X3.here hexec rfl (pc0 := 5) rfl (hb hbytes d5) rfl (i0_ne_t (nz32 (by omega) l0)) (by decide) rfl ?_
    exact Steps.refl _)
  obtain ⟨T5, X5, q5, st5⟩ := X3.sget hexec hown (wk W (.fieldLink "java/lang/String" 38 "java/lang/String" "COMPACT_STRINGS" "Z")) s1 (fun _ _ h => by rw [hh3]; exact h) (g := (mkF m 27 #[.val (.ref a), .val (.ref b), .val (.int (Int32.ofNat o)), .val (.int (Int32.ofNat len)), .val .null, .unset] [])) rfl (hb hbytes d27)
  have hh5 := q5.trans hh3
  have c6 : Steps p.tables e below (s₁.setTop (entryFrame m #[.ref a, .ref b, .int (Int32.ofNat o), .int (Int32.ofNat len), .null] 6)) (T5.setTop (mkF m 30 #[.val (.ref a), .val (.ref b), .val (.int (Int32.ofNat o)), .val (.int (Int32.ofNat len)), .val .null, .unset] [.int z])) := c4.trans (st5 _ (Steps.refl _))
  have c7 : Steps p.tables e below (s₁.setTop (entryFrame m #[.ref a, .ref b, .int (Int32.ofNat o), .int (Int32.ofNat len), .null] 6)) (T5.setTop (mkF m 36 #[.val (.ref a), .val (.ref b), .val (.int (Int32.ofNat o)), .val (.int (Int32.ofNat len)), .val .null, .unset] [.int (Int32.ofNat len), .int (Int32.ofNat o), .ref b])) := c6.trans (by
    refine XS.ifNo X5.here hexec rfl (hb hbytes d30) rfl (i0_eq_f hz) ?_
    refine XS.aloadN X5.here hexec rfl (hb hbytes d33) rfl rfl ?_
    refine XS.iloadN X5.here hexec rfl (hb hbytes d34) rfl ?_
    refine XS.iloadN X5.here hexec rfl (hb hbytes d35) rfl ?_
    exact Steps.refl _)
  obtain ⟨v8, T8, X8, E8, g8⟩ := X5.callS hexec (Cmp3.law l b A o len) hown (wks W (staticW "java/lang/String" 177 Cmp3.yN)) (wk W Cmp3.tab) (W := 0) (Nat.le_of_ble_eq_true rfl) (Nat.le_of_ble_eq_true rfl) (Nat.le_refl _) (by show 0 + len ≤ len; omega) (g := (mkF m 36 #[.val (.ref a), .val (.ref b), .val (.int (Int32.ofNat o)), .val (.int (Int32.ofNat len)), .val .null, .unset] [.int (Int32.ofNat len), .int (Int32.ofNat o), .ref b])) rfl (by rw [hml]; rfl) c7 (argsL := [.ref b, .int (Int32.ofNat o), .int (Int32.ofNat len)]) (rest := []) rfl rfl (by show 2 * 0 + 0 ≤ _; decide) (hb hbytes d36) (⟨rfl, hA.mv X5.warmed.alike hh5, l1, l2, hp⟩)
  obtain ⟨e8, z8⟩ := E8
  obtain ⟨rfl, N, n1, n2, n3, n4, n5, n6⟩ := NewArr.mv _ T5 s _ _ hh5.symm (Vm.Alike.refl _) rfl e8
  rw [hh5] at z8
  have hB1 := hB.keep X8.warmed.alike (n6 _ _ hB.1)
  have hne : s.heap.size ≠ a := (Nat.ne_of_lt (Array.getElem?_eq_some_iff.mp hB.1).1).symm
  have c9 : Steps p.tables e below (s₁.setTop (entryFrame m #[.ref a, .ref b, .int (Int32.ofNat o), .int (Int32.ofNat len), .null] 6)) (T8.setTop (mkF m 39 #[.val (.ref a), .val (.ref b), .val (.int (Int32.ofNat o)), .val (.int (Int32.ofNat len)), .val .null, .unset] [.ref s.heap.size])) := g8
  have c10 : Steps p.tables e below (s₁.setTop (entryFrame m #[.ref a, .ref b, .int (Int32.ofNat o), .int (Int32.ofNat len), .null] 6)) (T8.setTop (mkF m 45 #[.val (.ref a), .val (.ref b), .val (.int (Int32.ofNat o)), .val (.int (Int32.ofNat len)), .val .null, .val (.ref s.heap.size)] [.int (Int32.ofNat N.slots.size), .ref s.heap.size, .ref a])) := by
    have hc : Steps p.tables e below (s₁.setTop (entryFrame m #[.ref a, .ref b, .int (Int32.ofNat o), .int (Int32.ofNat len), .null] 6)) (T8.setTop (mkF m 45 #[.val (.ref a), .val (.ref b), .val (.int (Int32.ofNat o)), .val (.int (Int32.ofNat len)), .val .null, .val (.ref s.heap.size)] [.int (Int32.ofNat len), .ref s.heap.size, .ref a])) := c9.trans (by
      refine XS.astore X8.here hexec rfl (hb hbytes d39) rfl rfl rfl ?_
      refine XS.aloadN X8.here hexec rfl (hb hbytes d41) rfl rfl ?_
      refine XS.aload X8.here hexec rfl (hb hbytes d42) rfl rfl ?_
      refine XS.iloadN X8.here hexec rfl (hb hbytes d44) rfl ?_
      exact Steps.refl _)
    rw [n4]; exact hc
  obtain ⟨v11, T11, X11, E11, g11⟩ := X8.callS hexec (CodL.law l s.heap.size N) hown (wks W (staticW "java/lang/String" 47 CodL.yN)) (wk W CodL.tab) (W := 1) (Nat.le_of_ble_eq_true rfl) (Nat.le_of_ble_eq_true rfl) (Nat.le_refl _) (by show 0 + len + 0 ≤ len; omega) (g := (mkF m 45 #[.val (.ref a), .val (.ref b), .val (.int (Int32.ofNat o)), .val (.int (Int32.ofNat len)), .val .null, .val (.ref s.heap.size)] [.int (Int32.ofNat N.slots.size), .ref s.heap.size, .ref a])) rfl (by rw [hml]; rfl) c10 (argsL := [.ref s.heap.size, .int (Int32.ofNat N.slots.size)]) (rest := [.ref a]) rfl rfl (by show 2 * 0 + (1 + 0) ≤ _; decide) (hb hbytes d45) (⟨rfl, n1⟩)
  obtain ⟨rfl, q11⟩ := E11
  have hB11 := hB1.mv (X8.warmed.alike.symm.trans X11.warmed.alike) q11
  have c12 : Steps p.tables e below (s₁.setTop (entryFrame m #[.ref a, .ref b, .int (Int32.ofNat o), .int (Int32.ofNat len), .null] 6)) (T11.setTop (mkF m 48 #[.val (.ref a), .val (.ref b), .val (.int (Int32.ofNat o)), .val (.int (Int32.ofNat len)), .val .null, .val (.ref s.heap.size)] [.int 0, .ref a])) := g11
  obtain ⟨T13, X13, p13, bl13, sl13, st13⟩ := X11.finit hexec hown (wk W (.fieldLink "java/lang/String" 15 "java/lang/String" "coder" "B")) (Or.inr ⟨_, (wk W (.laysFinal "java/lang/String" "java/lang/String" "coder" "B"))⟩) (Or.inl ⟨rfl, hnm⟩) f2 (Or.inl rfl) hB11 (t := .byte) (by decide +kernel) rfl (g := (mkF m 48 #[.val (.ref a), .val (.ref b), .val (.int (Int32.ofNat o)), .val (.int (Int32.ofNat len)), .val .null, .val (.ref s.heap.size)] [.int 0, .ref a])) rfl (rest := []) rfl (hb hbytes d48)
  have c14 : Steps p.tables e below (s₁.setTop (entryFrame m #[.ref a, .ref b, .int (Int32.ofNat o), .int (Int32.ofNat len), .null] 6)) (T13.setTop (mkF m 54 #[.val (.ref a), .val (.ref b), .val (.int (Int32.ofNat o)), .val (.int (Int32.ofNat len)), .val .null, .val (.ref s.heap.size)] [.ref s.heap.size, .ref a])) := (c12.trans (st13 _ (Steps.refl _))).trans (by
    refine XS.aloadN X13.here hexec rfl (hb hbytes d51) rfl rfl ?_
    refine XS.aload X13.here hexec rfl (hb hbytes d52) rfl rfl ?_
    exact Steps.refl _)
  obtain ⟨T15, X15, p15, bl15, sl15, st15⟩ := X13.finit hexec hown (wk W (.fieldLink "java/lang/String" 9 "java/lang/String" "value" "[B")) (Or.inr ⟨_, (wk W (.laysFinal "java/lang/String" "java/lang/String" "value" "[B"))⟩) (Or.inl ⟨rfl, hnm⟩) f1 (Or.inl rfl) bl13 (t := (.array .byte)) (by decide +kernel) rfl (g := (mkF m 54 #[.val (.ref a), .val (.ref b), .val (.int (Int32.ofNat o)), .val (.int (Int32.ofNat len)), .val .null, .val (.ref s.heap.size)] [.ref s.heap.size, .ref a])) rfl (rest := []) rfl (hb hbytes d54)
  have c16 : Steps p.tables e below (s₁.setTop (entryFrame m #[.ref a, .ref b, .int (Int32.ofNat o), .int (Int32.ofNat len), .null] 6)) (T15.setTop (mkF m 57 #[.val (.ref a), .val (.ref b), .val (.int (Int32.ofNat o)), .val (.int (Int32.ofNat len)), .val .null, .val (.ref s.heap.size)] [])) := c14.trans (st15 _ (Steps.refl _))
  have ap := apart (Or.inr ⟨_, (wk W (.laysFinal "java/lang/String" "java/lang/String" "value" "[B"))⟩) (Or.inr ⟨_, (wk W (.laysFinal "java/lang/String" "java/lang/String" "coder" "B"))⟩) f1 f2 (t₁ := .array .byte) (t₂ := .byte) (by decide +kernel) (by decide +kernel) (by decide)
  have al := X8.warmed.alike.symm.trans X15.warmed.alike
  have n7 : T11.heap[s.heap.size]? = some N := by rw [q11]; exact n1.1
  exact ⟨T15, none, _, _, _, X15, by simp, rfl, by omega, (fun _ => rfl), ⟨rfl, _, N, bl15, ((Same.refl D _).set _ (by simp)).set _ (by simp), sl15, (Cell.slots_setSlot_ne _ ap).trans sl13, n1.keep al (p15.other hne (p13.other hne n7)), n2, by rw [al.findClass]; exact n3, n4, n5, fun y c h1 h2 => p15.other h1 (p13.other h1 (by rw [q11]; exact n6 y c h2)), by rw [p15.2.2, p13.2.2, q11]; exact z8⟩, fun fs hl => c16.trans (X15.returnOut hexec hret (hb hbytes d57) hl)⟩
end New4
namespace New1
def yN : MethodName := ⟨"java/lang/String", "<init>", "([C)V"⟩
abbrev yB : ByteArray := jdk_42_method_3_code
theorem d0 : decode yB 0 = .ok (.aload_n 0, 1) := by decide +kernel
theorem d1 : decode yB 1 = .ok (.aload_n 1, 1) := by decide +kernel
theorem d2 : decode yB 2 = .ok (.iconst 0, 1) := by decide +kernel
theorem d3 : decode yB 3 = .ok (.aload_n 1, 1) := by decide +kernel
theorem d4 : decode yB 4 = .ok (.arraylength, 1) := by decide +kernel
theorem d5 : decode yB 5 = .ok (.aconst_null, 1) := by decide +kernel
theorem d6 : decode yB 6 = .ok (.invokespecial 27, 3) := by decide +kernel
theorem d9 : decode yB 9 = .ok (.return_, 1) := by decide +kernel
def site : List Cond := [New4.tab] ++ initW "java/lang/String" 27 New4.yN
def tab : Cond := tabOf yN yB 2 none site
def P (a : Addr) (D : Cell) (fV fC : Field) (b : Addr) (A : Cell) (z : Int32) (args : Array Value) (s : State) : Prop := args = #[.ref a, .ref b] ∧ Blank "java/lang/String" a D s ∧ Found "java/lang/String" "value" "[B" fV s ∧ Found "java/lang/String" "coder" "B" fC s ∧ Ch b A s ∧ StaticIs s "java/lang/String" "COMPACT_STRINGS" "Z" (.int z) ∧ ¬ z = 0 ∧ 0 < A.slots.size ∧ A.slots.size ≤ 536870912 ∧ ∀ i, i < A.slots.size → ¬ 255 < cv A i
def E (a : Addr) (D : Cell) (fV fC : Field) (A : Cell) (r : Option Value) (s u : State) : Prop := Got a D fV fC A 0 A.slots.size r s u
/-- new String(chars), not empty, no char above 255: a Latin-1 String of their low bytes -/
theorem law (l : Launch) (a : Addr) (D : Cell) (fV fC : Field) (b : Addr) (A : Cell) (z : Int32) : Law l yN 2 1 3 52 yB 2 none site (P a D fV fC b A z) (E a D fV fC A) [⟨a, fC.slot⟩, ⟨a, fV.slot⟩] 1 A.slots.size := by
  refine Law.of_walk (plainFor_of_name (by decide +kernel)) (by decide +kernel) (by decide +kernel) (by decide) (fun _ _ h => by rw [h.1]; rfl) (fun _ U U' hal hh h => ⟨h.1, h.2.1.mv hal hh, h.2.2.1.al hal, h.2.2.2.1.al hal, h.2.2.2.2.1.mv hal hh, h.2.2.2.2.2.1.there hal hh, h.2.2.2.2.2.2⟩) (fun r U U' V V' h1 hal h2 h => Got.mv r U U' V V' h1 hal h2 h) ?_
  intro p e s m args below meth c s₁ X0 hexec hbytes hml hret hlk hnm hown hh0 W hP
  obtain ⟨rfl, hB, f1, f2, hA, s1, hz, l0, l2, hp⟩ := hP
  have c1 : Steps p.tables e below (s₁.setTop (entryFrame m #[.ref a, .ref b] 2)) (s₁.setTop (mkF m 0 #[.val (.ref a), .val (.ref b)] [])) := entry rfl
  have c2 : Steps p.tables e below (s₁.setTop (entryFrame m #[.ref a, .ref b] 2)) (s₁.setTop (mkF m 6 #[.val (.ref a), .val (.ref b)] [.null, .int (Int32.ofNat A.slots.size), .int 0, .ref b, .ref a])) := c1.trans (by
    refine XS.aloadN X0.here hexec rfl (hb hbytes d0) rfl rfl ?_
    refine XS.aloadN X0.here hexec rfl (hb hbytes d1) rfl rfl ?_
    refine iconstV X0.here hexec rfl 0 (hb hbytes d2) (by decide) ?_
    refine XS.aloadN X0.here hexec rfl (hb hbytes d3) rfl rfl ?_
    refine X0.alen hexec (hA.1.mv X0.warmed.alike hh0) rfl rfl (hb hbytes d4) ?_
    refine XS.aconstNull X0.here hexec rfl (hb hbytes d5) ?_
    exact Steps.refl _)
  obtain ⟨v3, T3, X3, E3, g3⟩ := X0.callN hexec (New4.law l a D fV fC b A z 0 A.slots.size) rfl hown (wks W (initW "java/lang/String" 27 New4.yN)) (W New4.tab (by simp only [site, List.mem_cons, List.mem_append, true_or, or_true])) (W := 0) (Nat.le_of_ble_eq_true rfl) (Nat.le_of_ble_eq_true rfl) (Nat.le_refl _) (by show 0 + A.slots.size ≤ A.slots.size; omega) (g := (mkF m 6 #[.val (.ref a), .val (.ref b)] [.null, .int (Int32.ofNat A.slots.size), .int (Int32.ofNat 0), .ref b, .ref a])) rfl (by rw [hml]; rfl) c2 (argsL := [.ref b, .int (Int32.ofNat 0), .int (Int32.ofNat A.slots.size), .null]) (rest := []) rfl rfl (by show 2 * 0 + 0 ≤ _; decide) (hb hbytes d6) (⟨rfl, hB.mv X0.warmed.alike hh0, f1.al X0.warmed.alike, f2.al X0.warmed.alike, hA.mv X0.warmed.alike hh0, s1.there X0.warmed.alike hh0, hz, l0, by omega, l2, fun i hi => by rw [Nat.zero_add]; exact hp i hi⟩)
  have e0 := Got.mv _ s₁ s _ _ hh0.symm (Vm.Alike.refl _) rfl E3
  obtain rfl := e0.1
  have c4 : Steps p.tables e below (s₁.setTop (entryFrame m #[.ref a, .ref b] 2)) (T3.setTop (mkF m 9 #[.val (.ref a), .val (.ref b)] [])) := g3
  exact ⟨T3, none, _, _, _, X3, by simp, rfl, by omega, (fun _ => rfl), e0, fun fs hl => c4.trans (X3.returnOut hexec hret (hb hbytes d9) hl)⟩
theorem pays {l : Launch} {R : Room} {p : Program} {e : Env} {below : List Frame} {s : State} {sargs : Array Value} {len W : Nat} (a : Addr) (D : Cell) (fV fC : Field) (b : Addr) (A : Cell) (z : Int32) (htab : tab.before sargs s = true) (hfr : 4 ≤ R.frames) (hlo : W + 65 ≤ R.locals) :
    Back l R p e below s sargs yN len W (fun A₁ a₁ => A₁.cells + 1 ≤ R.cells ∧ A₁.slots + A.slots.size ≤ R.slots ∧ P a D fV fC b A z a₁ A₁.U) (fun A₁ _ v₁ B₁ => E a D fV fC A v₁ A₁.U B₁.U ∧ B₁.locs = A₁.locs ++ [⟨a, fC.slot⟩, ⟨a, fV.slot⟩] ∧ B₁.cells = A₁.cells + 1 ∧ B₁.slots = A₁.slots + A.slots.size) :=
  (law l a D fV fC b A z).pays htab hfr (by omega)
end New1
/-- the byte, read back as charAt reads it, is the char -/
theorem lo8_mask {x : Int32} (h0 : ¬ x < 0) (h1 : ¬ 255 < x) : lo8 x &&& 255 = x := by
  have t : ∀ k : Fin 256, lo8 (Int32.ofNat k.val) &&& 255 = Int32.ofNat k.val := by decide +kernel
  rw [Int32.lt_iff_toInt_lt] at h0 h1
  have e0 : (0 : Int32).toInt = 0 := rfl
  have e1 : (255 : Int32).toInt = 255 := rfl
  obtain ⟨k, hk⟩ : ∃ k : Nat, x.toInt = k := ⟨x.toInt.toNat, by omega⟩
  have hx : x = Int32.ofNat k := Int32.toInt_inj.mp (by rw [hk, Int32.toInt_ofNat_small (by omega)])
  rw [hx]
  exact t ⟨k, by omega⟩
end StrChars
namespace StrChars.Road
open Jvm Sem ClassFile Op Lib Jvm.Stand Jvm.Free Jvm.Free.XT
open Jvm.Lib.Cold (StaticIs)
abbrev ST : String := "java/lang/String"
/-- every table word that New1's law asks, flat -/
abbrev words : List Jvm.Cond := [.code New1.yN New1.yB 2 none, .initialized ST, .methodLink ST 27 New4.yN, .instanceMethod New4.yN,
  .code New4.yN New4.yB 6 none, .fieldLink ST 38 ST "COMPACT_STRINGS" "Z", .laysFinal ST ST "value" "[B", .fieldLink ST 9 ST "value" "[B", .laysFinal ST ST "coder" "B", .fieldLink ST 15 ST "coder" "B",
  .methodLink ST 1 Lib.objectInit, .instanceMethod Lib.objectInit, .code Lib.objectInit ⟨#[0xb1]⟩ 1 none, .methodLink ST 177 Cmp3.yN, .static Cmp3.yN, .methodLink ST 47 CodL.yN, .static CodL.yN,
  .code Cmp3.yN Cmp3.yB 6 (some (.array .byte)), .initialized U16, .arrayClass .byte, .methodLink U16 115 Cmp5.yN, .static Cmp5.yN, .code Cmp5.yN Cmp5.yB 7 (some .int), .code CodL.yN CodL.yB 2 (some .byte)]
theorem tab_of {a : Array Value} {s : State} (h : ∀ w ∈ words, w.before a s = true) : New1.tab.before a s = true := by
  have h5 : Cmp5.tab.before a s = true := unparts (wk h (.code Cmp5.yN Cmp5.yB 7 (some .int))) (wks h (.initialized Cmp5.yN.cls :: Cmp5.site))
  have hc : CodL.tab.before a s = true := unparts (wk h (.code CodL.yN CodL.yB 2 (some .byte))) (wks h (.initialized CodL.yN.cls :: CodL.site))
  have q5 : ∀ w ∈ Cmp5.tab :: words, w.before a s = true := fun w hw => (List.mem_cons.mp hw).elim (fun e => e ▸ h5) (h w)
  have h3 : Cmp3.tab.before a s = true := unparts (wk q5 (.code Cmp3.yN Cmp3.yB 6 (some (.array .byte)))) (wks q5 (.initialized Cmp3.yN.cls :: Cmp3.site))
  have q3 : ∀ w ∈ Cmp3.tab :: CodL.tab :: words, w.before a s = true := fun w hw => (List.mem_cons.mp hw).elim (fun e => e ▸ h3) fun hw => (List.mem_cons.mp hw).elim (fun e => e ▸ hc) (h w)
  have h4 : New4.tab.before a s = true := unparts (wk q3 (.code New4.yN New4.yB 6 none)) (wks q3 (.initialized New4.yN.cls :: New4.site))
  have q4 : ∀ w ∈ New4.tab :: words, w.before a s = true := fun w hw => (List.mem_cons.mp hw).elim (fun e => e ▸ h4) (h w)
  exact unparts (wk q4 (.code New1.yN New1.yB 2 none)) (wks q4 (.initialized New1.yN.cls :: New1.site))
/-- the words ride from the start Z to the walk's own state -/
theorem moved {Z s : State} {a0 args : Array Value} (hZ : Z.Warmed39 s.vm) (hw : ∀ d ∈ words, d.before a0 Z = true) : ∀ d ∈ words, d.before args s = true := fun d hd => by
  have q := hw d hd
  have t : ∀ d ∈ words, d = .arrayClass .byte ∨ (d.onTables && d.keepsFace) = true := by decide +kernel
  rcases t d hd with rfl | t
  · exact RoadKit.mvA hZ q
  · exact RoadKit.mv hZ q t
/-- WHAT COMES BACK, over the tables of the start Z: h the heap at the call, h' behind it -/
def Q (Z : State) (x : Addr) (A : Cell) (h : Heap) (v : Option Value) (h' : Heap) (L : List Loc) : Prop := v = none ∧ (∀ y ∈ L, y.base = x) ∧ RoadKit.Keep h h' [x] ∧ h'.size = h.size + 1 ∧ RoadKit.Exa Z h' x ST ∧ RoadKit.Fld Z h' x ST "value" "[B" (.ref h.size) ∧ RoadKit.Fld Z h' x ST "coder" "B" (.int 0) ∧
  (∃ V : Cell, RoadKit.Arr Z h' h.size V .byte ∧ V.vm = .none ∧ Z.vm.findClass "[B" = some V.cls ∧ V.slots.size = A.slots.size ∧ ∀ j, j < A.slots.size → V.slots[j]? = some (.int (lo8 (cv A j)))) ∧
  ∀ (O n d : String) (w : Value), RoadKit.Fld Z h x O n d w → RoadKit.slotOf Z O n d ≠ RoadKit.slotOf Z ST "value" "[B" → RoadKit.slotOf Z O n d ≠ RoadKit.slotOf Z ST "coder" "B" → RoadKit.Fld Z h' x O n d w
/-- **new String(chars) AT A CALL, IN THE ROAD'S FORM**: for specialBack behind newO: x the fresh String, b the char[] with the cell A -/
theorem back {p : Program} {l : Launch} {e : Env} {R : Room} {s : State} {args : Array Value} {below : List Frame} {len W : Nat} {Z : State} {a0 : Array Value} {h : Heap} (hZ : Z.Warmed39 s.vm) (hw : ∀ d ∈ words, d.before a0 Z = true) {kI : Nat} (wi : (Jvm.Cond.instantiable ST kI).before a0 Z = true)
    {x b : Addr} {A : Cell} {z : Int32} {v0 c0 : Value} (E : RoadKit.Exa Z h x ST) (V : RoadKit.Fld Z h x ST "value" "[B" v0) (C : RoadKit.Fld Z h x ST "coder" "B" c0) (K : RoadKit.Arr Z h b A .char) (hty : Typed .char A) (S : RoadKit.Sta Z h ST "COMPACT_STRINGS" "Z" (.int z)) (hz : ¬ z = 0)
    (l0 : 0 < A.slots.size) (l2 : A.slots.size ≤ 536870912) (hp : ∀ i, i < A.slots.size → ¬ 255 < cv A i) (hfr : 4 ≤ R.frames) (hlo : W + 65 ≤ R.locals) :
    Back l R p e below s args New1.yN len W (fun P a => a = #[.ref x, .ref b] ∧ P.U.heap = h ∧ P.cells + 1 ≤ R.cells ∧ P.slots + A.slots.size ≤ R.slots)
      (fun P _ v B => ∃ L, Q Z x A h v B.U.heap L ∧ B.locs = P.locs ++ L ∧ B.cells = P.cells + 1 ∧ B.slots = P.slots + A.slots.size) := by
  intro m meth c P g ig mk a X hg hsize hdg hW hn hp'
  obtain ⟨rfl, rfl, r1, r2⟩ := hp'
  have al : Z.vm.Alike P.U.vm := hZ.alike.trans X.warmed.alike
  obtain ⟨D, cfV, kV, iV, fV, hD, gV, stV, knV, obV, asV, slV⟩ := id V
  obtain ⟨D', cfC, kC, iC, fC, hD', gC, stC, -, -, asC, slC⟩ := id C
  cases hD.symm.trans hD'
  obtain ⟨D2, kD, e1, e2, e3, e4, e5⟩ := id E
  cases hD.symm.trans e1
  obtain ⟨c2, k2, i1, i2, i3, -⟩ := Cond.instantiable_spec wi
  cases e2.symm.trans i1
  cases e3.symm.trans i2
  obtain ⟨kU, u1, u2⟩ := al.2.2 _ _ e3
  have hB : Blank ST x D P.U := ⟨hD, ⟨knV, fun q hq => by rw [hq] at obV; cases obV⟩, by rw [al.findClass]; exact e2, kU, u1, by rw [u2]; exact i3, by rw [u2]; exact e5 i3⟩
  have F1 : Found ST "value" "[B" fV P.U := ⟨SBG.found_only al ⟨cfV, kV, iV, gV⟩, stV⟩
  have F2 : Found ST "coder" "B" fC P.U := ⟨SBG.found_only al ⟨cfC, kC, iC, gC⟩, stC⟩
  have hA : Ch b A P.U := ⟨⟨K.1, State.isArrayOf_alike al K.2.1, K.2.2, by omega⟩, hty⟩
  have hS : StaticIs P.U ST "COMPACT_STRINGS" "Z" (.int z) := by
    obtain ⟨cfS, iS, kS, fS, st, cS, t1, t2, t3, t4, t5, t6, t7⟩ := S
    exact StaticIs.there (s := { Z with heap := P.U.heap }) ⟨cfS, iS, kS, fS, st, cS, t1, t2, t3, t4, t5, (fun q => by rw [q] at t6; cases t6), t7⟩ al rfl
  obtain ⟨v, B, X', ⟨⟨hv, E', V', q1, q2, q3, q4, q5, q6, q7, q8, q9, q10, q11⟩, hl, hc, hs⟩, st⟩ := New1.pays x D fV fC b A z (tab_of (moved hZ hw)) hfr hlo m meth c P g ig mk _ X hg hsize hdg hW hn ⟨r1, r2, rfl, hB, F1, F2, hA, hS, hz, l0, l2, hp⟩
  have al' : Z.vm.Alike B.U.vm := hZ.alike.trans X'.warmed.alike
  have hsz : E'.slots.size = D.slots.size := by
    obtain ⟨-, -, -, kB, w1, w2, w3⟩ := q1
    obtain ⟨kB', y1, y2⟩ := al'.2.2 _ _ e3
    rw [q2.2.1] at w1
    cases w1.symm.trans y1
    rw [w3, e5 i3, y2]
  refine ⟨v, B, X', ⟨_, ⟨hv, ?_, ⟨by omega, fun y cy hy hn' => q10 y cy (by simpa using hn') hy, fun y cy hy => ?_⟩, q11, ⟨E', _, q1.1, by rw [q2.2.1]; exact e2, by rw [q2.2.1]; exact e3, by rw [q2.1]; exact obV, fun _ => by rw [hsz]; exact e5 i3⟩,
    ⟨E', cfV, kV, iV, fV, q1.1, gV, stV, by rw [q2.1]; exact knV, by rw [q2.1]; exact obV, by rw [q2.2.1]; exact asV, q3⟩, ⟨E', cfC, kC, iC, fC, q1.1, gC, stC, by rw [q2.1]; exact knV, by rw [q2.1]; exact obV, by rw [q2.2.1]; exact asC, q4⟩,
    ⟨V', ⟨q5.1, State.isArrayOf_alike al'.symm q5.2.1, q5.2.2.1⟩, q6, by rw [← al'.findClass]; exact q7, q8, fun j hj => by have := q9 j hj; rwa [Nat.zero_add] at this⟩, fun O n d w F n1 n2 => ?_⟩, hl, hc, hs⟩, st⟩
  · intro y hy
    simp only [List.mem_cons, List.not_mem_nil, or_false] at hy
    rcases hy with rfl | rfl <;> rfl
  · by_cases q : y = x
    · subst q
      cases hD.symm.trans hy
      exact ⟨E', q1.1, q2.2.1, q2.1, hsz⟩
    · exact ⟨cy, q10 y cy q hy, rfl, rfl, rfl⟩
  · obtain ⟨D3, cf, k, i, f, g1, g2, g3, g4, g5, g6, g7⟩ := F
    cases hD.symm.trans g1
    simp only [RoadKit.slotOf, g2, gV, gC, Option.map_some, Option.getD_some] at n1 n2
    exact ⟨E', cf, k, i, f, q1.1, g2, g3, by rw [q2.1]; exact g4, by rw [q2.1]; exact g5, by rw [q2.2.1]; exact g6, by rw [q2.2.2 f.slot (by simp [n1, n2])]; exact g7⟩
end StrChars.Road
namespace StrChars.Road
open Jvm Sem ClassFile Op Lib Jvm.Stand Jvm.Free Jvm.Free.XT
/-- WHAT COMES BACK, the byte[] as a list of values -/
def QA (Z : State) (x : Addr) (zn : Int32) (cs : List Int32) (h : Heap) (v : Option Value) (h' : Heap) (L : List Loc) : Prop := v = none ∧ (∀ y ∈ L, y.base = x) ∧ RoadKit.Keep h h' [x] ∧ h'.size = h.size + 1 ∧ RoadKit.Exa Z h' x ST ∧ RoadKit.Fld Z h' x ST "value" "[B" (.ref h.size) ∧ RoadKit.Fld Z h' x ST "coder" "B" (.int 0) ∧
  (∃ kb, Z.vm.findClass "[B" = some kb ∧ RoadKit.Arv Z h' h.size kb .byte zn (cs.map fun c => .int (lo8 c)) (.int 0)) ∧
  ∀ (O n d : String) (w : Value), RoadKit.Fld Z h x O n d w → RoadKit.slotOf Z O n d ≠ RoadKit.slotOf Z ST "value" "[B" → RoadKit.slotOf Z O n d ≠ RoadKit.slotOf Z ST "coder" "B" → RoadKit.Fld Z h' x O n d w
/-- **new String(chars) AT A CALL, THE ARRAYS AS LISTS**: the char[] at b holds cs, not empty, no char above 255 -/
theorem backArv {p : Program} {l : Launch} {e : Env} {R : Room} {s : State} {args : Array Value} {below : List Frame} {len W : Nat} {Z : State} {a0 : Array Value} {h : Heap} (hZ : Z.Warmed39 s.vm) (hw : ∀ d ∈ words, d.before a0 Z = true) {kI : Nat} (wi : (Jvm.Cond.instantiable ST kI).before a0 Z = true)
    {x b : Addr} {k : ClassId} {zn z : Int32} {cs : List Int32} {dv v0 c0 : Value} (E : RoadKit.Exa Z h x ST) (V : RoadKit.Fld Z h x ST "value" "[B" v0) (C : RoadKit.Fld Z h x ST "coder" "B" c0) (K : RoadKit.Arv Z h b k .char zn (cs.map Value.int) dv) (S : RoadKit.Sta Z h ST "COMPACT_STRINGS" "Z" (.int z)) (hz : ¬ z = 0)
    (hlen : zn.toNatClampNeg = cs.length) (h0 : 0 < cs.length) (hbig : cs.length ≤ 536870912) (hall : ∀ c ∈ cs, ¬ 255 < c) (hfr : 4 ≤ R.frames) (hlo : W + 65 ≤ R.locals) :
    Back l R p e below s args New1.yN len W (fun P a => a = #[.ref x, .ref b] ∧ P.U.heap = h ∧ P.cells + 1 ≤ R.cells ∧ P.slots + cs.length ≤ R.slots)
      (fun P _ v B => ∃ L, QA Z x zn cs h v B.U.heap L ∧ B.locs = P.locs ++ L ∧ B.cells = P.cells + 1 ∧ B.slots = P.slots + cs.length) := by
  obtain ⟨A, K1, K2, K3, K4, K5, K6⟩ := K
  have e : A.slots.size = cs.length := K3.trans hlen
  have hat : ∀ (i : Nat) (hi : i < cs.length), A.slots[i]? = some (.int cs[i]) := fun i hi => by rw [K5 i (by omega)]; simp [List.getD_eq_getElem?_getD, hi]
  have hcv : ∀ (i : Nat) (hi : i < cs.length), cv A i = cs[i] := fun i hi => by unfold cv; rw [hat i hi]
  have hty : Typed .char A := fun i v hv => by
    have hi : i < A.slots.size := (Array.getElem?_eq_some_iff.mp hv).1
    have q := K5 i hi
    rw [hv] at q
    rw [Option.some.inj q]
    exact K6 i hi
  refine Back.mono (back hZ hw wi E V C K1 hty S hz (by omega) (by omega) (fun i hi => by rw [hcv i (by omega)]; exact hall _ (List.getElem_mem _)) hfr hlo) (fun P a hp => ⟨hp.1, hp.2.1, hp.2.2.1, by rw [e]; exact hp.2.2.2⟩) (fun P a v B hp hq => ?_)
  obtain ⟨L, ⟨q1, q2, q3, q4, q5, q6, q7, ⟨V', v1, v2, v3, v4, v5⟩, q9⟩, hl, hc, hs⟩ := hq
  refine ⟨L, ⟨q1, q2, q3, q4, q5, q6, q7, ⟨V'.cls, v3, V', v1, rfl, by rw [v4, e, hlen], K4, fun i hi => ?_, fun i hi => ?_⟩, q9⟩, hl, hc, by rw [hs, e]⟩
  · have hi' : i < cs.length := by omega
    rw [v5 i (by omega), hcv i hi']; simp [List.getD_eq_getElem?_getD, hi']
  · have hi' : i < cs.length := by omega
    simp only [List.getD_eq_getElem?_getD, List.getElem?_map, List.getElem?_eq_getElem hi', Option.map_some, Option.getD_some]
    exact fits_lo8 _
end StrChars.Road
namespace StrChars.Road
open Jvm Sem ClassFile Op Lib Jvm.Stand Jvm.Free Jvm.Free.XT
/-- WHAT COMES BACK, in the writer's own shape -/
def QV (Z : State) (x : Addr) (N : Int32) (bs : List Int32) (h : Heap) (n0 : Nat) (v : Option Value) (h' : Heap) (L : List Loc) : Prop := v = none ∧ RoadKit.Fr n0 L ∧ RoadKit.Keep h h' [x] ∧ RoadKit.Exa Z h' x ST ∧ RoadKit.Fld Z h' x ST "coder" "B" (.int 0) ∧
  ∃ (t : Addr) (kb : ClassId), n0 ≤ t ∧ h.size ≤ t ∧ ¬ t = x ∧ RoadKit.Fld Z h' x ST "value" "[B" (.ref t) ∧ RoadKit.Arv Z h' t kb .byte N (bs.map Value.int) (.int 0)
/-- **new String(chars) AT A CALL, FOR THE WRITER**: a char[] of n known ints, each 0 to 255 -/
theorem backV {p : Program} {l : Launch} {e : Env} {R : Room} {s : State} {args : Array Value} {below : List Frame} {len W : Nat} {Z : State} {a0 : Array Value} {h : Heap} (hZ : Z.Warmed39 s.vm) (hw : ∀ d ∈ words, d.before a0 Z = true) {kI : Nat} (wi : (Jvm.Cond.instantiable ST kI).before a0 Z = true)
    {x b : Addr} {kC : ClassId} {cs bs : List Int32} {d v0 c0 : Value} {z N : Int32} {n n0 : Nat} (hx0 : n0 ≤ x) (hh0 : n0 ≤ h.size) (E : RoadKit.Exa Z h x ST) (V : RoadKit.Fld Z h x ST "value" "[B" v0) (C : RoadKit.Fld Z h x ST "coder" "B" c0) (K : RoadKit.Arv Z h b kC .char N (cs.map Value.int) d) (S : RoadKit.Sta Z h ST "COMPACT_STRINGS" "Z" (.int z)) (hz : ¬ z = 0)
    (hn : cs.length = n) (hN : N = Int32.ofNat n) (l0 : 0 < n) (l2 : n ≤ 4000) (hp : ∀ c ∈ cs, ¬ c < 0 ∧ ¬ (255 : Int32) < c) (hb : bs = cs.map (fun c => c.toInt8.toInt32)) (hfr : 4 ≤ R.frames) (hlo : W + 65 ≤ R.locals) :
    Back l R p e below s args (⟨"java/lang/String", "<init>", "([C)V"⟩ : MethodName) len W (fun P a => a = #[.ref x, .ref b] ∧ P.U.heap = h ∧ P.cells + 1 ≤ R.cells ∧ P.slots + n ≤ R.slots)
      (fun P _ v B => ∃ L, QV Z x N bs h n0 v B.U.heap L ∧ B.locs = P.locs ++ L ∧ B.cells = P.cells + 1 ∧ B.slots = P.slots + n) := by
  subst hn hN hb
  refine Back.mono (backArv hZ hw wi E V C K S hz (n32 (by omega)) l0 (by omega) (fun c hc => (hp c hc).2) hfr hlo) (fun P a hp => hp) (fun P a v B hp hq => ?_)
  obtain ⟨L, ⟨q1, q2, q3, q4, q5, q6, q7, ⟨kb, v1, v2⟩, q9⟩, hl, hc, hs⟩ := hq
  exact ⟨L, ⟨q1, fun y hy => by rw [q2 y hy]; exact hx0, q3, q5, q7, h.size, kb, hh0, Nat.le_refl _, Nat.ne_of_gt E.lt, q6, by rw [List.map_map]; exact v2⟩, hl, hc, hs⟩
end StrChars.Road
namespace StrChars
open Jvm Sem ClassFile Op Lib Jvm.Stand Jvm.Free.XT Jvm.Free.ALB Jvm.Free.JM Jvm.Free
open Jvm.Lib.Cold (StaticIs)
def hi8 (x : Int32) : Int32 := lo8 (x >>> ((8 : Int32) &&& 31))
/-- what StringUTF16.getChar makes of two bytes -/
def pairCh (u v : Int32) : Int32 := (((u &&& 255) <<< ((0 : Int32) &&& 31)) ||| ((v &&& 255) <<< ((8 : Int32) &&& 31))).toUInt32.toUInt16.toUInt32.toInt32
theorem lo8_and (x : Int32) : (lo8 x &&& 255).toBitVec.toNat = x.toBitVec.toNat % 256 := by
  have h : (lo8 x).toBitVec = (x.toBitVec.signExtend 8).signExtend 32 := by rw [lo8, Int8.toBitVec_toInt32, Int32.toBitVec_toInt8]
  rw [Int32.toBitVec_and, BitVec.toNat_and, h]
  have e : ((x.toBitVec.signExtend 8).signExtend 32).toNat % 256 = x.toBitVec.toNat % 256 := by
    rw [BitVec.toNat_signExtend]
    have hlt := x.toBitVec.isLt
    simp only [BitVec.toNat_setWidth, BitVec.toNat_signExtend]
    split <;> split <;> omega
  rw [← e]
  exact Nat.and_two_pow_sub_one_eq_mod _ 8
theorem pair_says {c : Int32} (h0 : ¬ c < 0) (h1 : ¬ 65535 < c) : pairCh (lo8 c) (hi8 c) = c := by
  rw [Int32.lt_iff_toInt_lt] at h0 h1
  have e0 : (0 : Int32).toInt = 0 := rfl
  have e1 : (65535 : Int32).toInt = 65535 := rfl
  have hc : c.toInt = c.toBitVec.toNat := by
    have := c.toBitVec.isLt
    have e : c.toInt = c.toBitVec.toInt := rfl
    rw [e] at h0 h1
    rw [e]
    rw [BitVec.toInt_eq_toNat_cond] at h0 h1 ⊢
    split at h0 <;> split <;> omega
  have hn : c.toBitVec.toNat < 65536 := by omega
  have a1 := lo8_and c
  have a2 : (hi8 c &&& 255).toBitVec.toNat = c.toBitVec.toNat / 256 := by
    rw [hi8, lo8_and]
    have e : ((8 : Int32) &&& 31) = 8 := by decide
    rw [e, Int32.toBitVec_shiftRight]
    have e2 : ((8 : Int32).toBitVec.smod 32) = 8#32 := by decide
    rw [e2, BitVec.sshiftRight_eq', BitVec.toNat_sshiftRight_of_msb_false (by rw [BitVec.msb_eq_false_iff_two_mul_lt]; omega)]
    show c.toBitVec.toNat >>> 8 % 256 = _
    rw [Nat.shiftRight_eq_div_pow]
    omega
  unfold pairCh
  apply Int32.toBitVec_inj.mp
  apply BitVec.eq_of_toNat_eq
  have f0 : ((0 : Int32) &&& 31) = 0 := by decide
  have f8 : ((8 : Int32) &&& 31) = 8 := by decide
  rw [f0, f8]
  have g : (((lo8 c &&& 255) <<< (0 : Int32)) ||| ((hi8 c &&& 255) <<< (8 : Int32))).toBitVec.toNat = c.toBitVec.toNat := by
    rw [Int32.toBitVec_or, Int32.toBitVec_shiftLeft, Int32.toBitVec_shiftLeft]
    have s0 : ((0 : Int32).toBitVec.smod 32) = 0#32 := by decide
    have s8 : ((8 : Int32).toBitVec.smod 32) = 8#32 := by decide
    rw [s0, s8, BitVec.toNat_or]
    simp only [BitVec.shiftLeft_eq', BitVec.toNat_shiftLeft, a1, a2]
    show (c.toBitVec.toNat % 256) <<< 0 % 2 ^ 32 ||| (c.toBitVec.toNat / 256) <<< 8 % 2 ^ 32 = _
    rw [Nat.shiftLeft_zero, Nat.mod_eq_of_lt (show c.toBitVec.toNat % 256 < 2 ^ 32 by omega), Nat.mod_eq_of_lt (show (c.toBitVec.toNat / 256) <<< 8 < 2 ^ 32 by rw [Nat.shiftLeft_eq]; omega), Nat.or_comm, ← Nat.shiftLeft_add_eq_or_of_lt (by omega), Nat.shiftLeft_eq]
    omega
  show BitVec.toNat (((((lo8 c &&& 255) <<< (0 : Int32)) ||| ((hi8 c &&& 255) <<< (8 : Int32))).toBitVec.setWidth 16).setWidth 32) = _
  rw [BitVec.toNat_setWidth, BitVec.toNat_setWidth, g]
  omega
end StrChars
namespace StrChars
open Jvm Sem ClassFile Op Lib Jvm.Stand Jvm.Free.XT Jvm.Free.ALB Jvm.Free.JM Jvm.Free
open Jvm.Lib.Cold (StaticIs)
/-- the array's cell V codes the n chars f 0 .. f (n - 1) by the coder cd, as the JDK does: coder 1 just where some char is above 255 -/
def Cod (cd : Int32) (n : Nat) (f : Nat → Int32) (V : Cell) : Prop := (cd = 0 ∧ V.slots.size = n ∧ ∀ j, j < n → V.slots[j]? = some (.int (lo8 (f j))) ∧ ¬ 255 < f j) ∨ (cd = 1 ∧ V.slots.size = 2 * n ∧ (∀ j, j < n → V.slots[2 * j]? = some (.int (lo8 (f j))) ∧ V.slots[2 * j + 1]? = some (.int (hi8 (f j)))) ∧ ∃ j, j < n ∧ 255 < f j)
/-- **x is a String of the n chars f 0 .. f (n - 1)**, Latin-1 or UTF-16; its array at t has the cell V -/
def Txt (x t : Addr) (V : Cell) (cd : Int32) (n : Nat) (f : Nat → Int32) (U : State) : Prop := Exact "java/lang/String" x U ∧ Has x "java/lang/String" "value" "[B" (.ref t) U ∧ Has x "java/lang/String" "coder" "B" (.int cd) U ∧ XT.Arr .byte t V U ∧ Cod cd n f V ∧ ∀ j, j < n → ¬ f j < 0 ∧ ¬ 65535 < f j
theorem Txt.mv {x t : Addr} {V : Cell} {cd : Int32} {n : Nat} {f : Nat → Int32} {U U' : State} (h : Txt x t V cd n f U) (hal : U.vm.Alike U'.vm) (hh : U'.heap = U.heap) : Txt x t V cd n f U' := ⟨h.1.mv hal hh, h.2.1.mv hal hh, h.2.2.1.mv hal hh, h.2.2.2.1.mv hal hh, h.2.2.2.2⟩
end StrChars
namespace StrChars.Road
open Jvm Sem ClassFile Op Lib Jvm.Stand Jvm.Free Jvm.Free.XT
open Jvm.Lib.Cold (StaticIs)
theorem consq {a : Array Value} {s : State} {c : Jvm.Cond} {L : List Jvm.Cond} (h0 : c.before a s = true) (h : ∀ w ∈ L, w.before a s = true) : ∀ w ∈ c :: L, w.before a s = true := fun w hw => (List.mem_cons.mp hw).elim (fun e => e ▸ h0) (h w)
/-- the bytes of the chars cs, low before high -/
def wideBytes : List Int32 → List Value
  | [] => []
  | c :: cs => .int (lo8 c) :: .int (hi8 c) :: wideBytes cs
theorem wide_lo (d : Value) : ∀ (cs : List Int32) (j : Nat), j < cs.length → (wideBytes cs).getD (2 * j) d = .int (lo8 (cs.getD j 0))
  | [], j, h => absurd h (Nat.not_lt_zero j)
  | c :: cs, 0, _ => rfl
  | c :: cs, j + 1, h => by
    have q := wide_lo d cs j (by simpa using h)
    rw [show 2 * (j + 1) = 2 * j + 1 + 1 from by omega]
    simpa [wideBytes] using q
theorem wide_hi (d : Value) : ∀ (cs : List Int32) (j : Nat), j < cs.length → (wideBytes cs).getD (2 * j + 1) d = .int (hi8 (cs.getD j 0))
  | [], j, h => absurd h (Nat.not_lt_zero j)
  | c :: cs, 0, _ => rfl
  | c :: cs, j + 1, h => by
    have q := wide_hi d cs j (by simpa using h)
    rw [show 2 * (j + 1) + 1 = 2 * j + 1 + 1 + 1 from by omega]
    simpa [wideBytes] using q
theorem low_at (d : Value) (cs : List Int32) (j : Nat) (h : j < cs.length) : (cs.map fun c => Value.int (lo8 c)).getD j d = .int (lo8 (cs.getD j 0)) := by
  simp [List.getD_eq_getElem?_getD, h]
/-- an array of N2 bytes vs codes the chars cs by the coder cd -/
def CodA (cs : List Int32) (cd N2 : Int32) (vs : List Value) : Prop := (cd = 0 ∧ N2 = Int32.ofNat cs.length ∧ vs = (cs.map fun c => Value.int (lo8 c)) ∧ ∀ c ∈ cs, ¬ 255 < c) ∨ (cd = 1 ∧ N2 = Int32.ofNat (2 * cs.length) ∧ vs = wideBytes cs ∧ ∃ c ∈ cs, 255 < c)
theorem CodA.cod {cs : List Int32} {cd N2 : Int32} {vs : List Value} {V : Cell} (h : CodA cs cd N2 vs) (hn : 2 * cs.length < 2 ^ 31) (hs : V.slots.size = N2.toNatClampNeg) (hv : RoadKit.Has V vs (.int 0)) : Cod cd cs.length (fun j => cs.getD j 0) V := by
  rcases h with ⟨rfl, rfl, rfl, h⟩ | ⟨rfl, rfl, rfl, c, hc, hw⟩
  · rw [n32 (by omega)] at hs
    exact Or.inl ⟨rfl, hs, fun j hj => ⟨by rw [hv j (by omega), low_at _ _ _ hj], by
      have e : cs.getD j 0 = cs[j] := by simp [List.getD_eq_getElem?_getD, hj]
      show ¬ 255 < cs.getD j 0
      rw [e]; exact h _ (List.getElem_mem _)⟩⟩
  · rw [n32 (by omega)] at hs
    obtain ⟨j, hj, rfl⟩ := List.getElem_of_mem hc
    exact Or.inr ⟨rfl, hs, fun j hj => ⟨by rw [hv _ (by omega), wide_lo _ _ _ hj], by rw [hv _ (by omega), wide_hi _ _ _ hj]⟩, j, hj, by
      have e : cs.getD j 0 = cs[j] := by simp [List.getD_eq_getElem?_getD, hj]
      show 255 < cs.getD j 0
      rw [e]; exact hw⟩
/-- an object of exactly java/lang/String, its two fields found: as the laws ask it -/
theorem strObj {Z U : State} {a0 : Array Value} {kI : Nat} (wi : (Jvm.Cond.instantiable ST kI).before a0 Z = true) (al : Z.vm.Alike U.vm) {x : Addr} {v0 c0 : Value} (E : RoadKit.Exa Z U.heap x ST) (V : RoadKit.Fld Z U.heap x ST "value" "[B" v0) (C : RoadKit.Fld Z U.heap x ST "coder" "B" c0) :
    ∃ (D : Cell) (fV fC : Field), Blank ST x D U ∧ Found ST "value" "[B" fV U ∧ Found ST "coder" "B" fC U ∧ D.slots[fV.slot]? = some v0 ∧ D.slots[fC.slot]? = some c0 ∧ RoadKit.slotOf Z ST "value" "[B" = fV.slot ∧ RoadKit.slotOf Z ST "coder" "B" = fC.slot := by
  obtain ⟨D, cfV, kV, iV, fV, hD, gV, stV, knV, obV, asV, slV⟩ := V
  obtain ⟨D', cfC, kC, iC, fC, hD', gC, stC, -, -, asC, slC⟩ := C
  cases hD.symm.trans hD'
  obtain ⟨D2, kD, e1, e2, e3, e4, e5⟩ := E
  cases hD.symm.trans e1
  obtain ⟨c2, k2, i1, i2, i3, -⟩ := Cond.instantiable_spec wi
  cases e2.symm.trans i1
  cases e3.symm.trans i2
  obtain ⟨kU, u1, u2⟩ := al.2.2 _ _ e3
  exact ⟨D, fV, fC, ⟨hD, ⟨knV, fun q hq => by rw [hq] at obV; cases obV⟩, by rw [al.findClass]; exact e2, kU, u1, by rw [u2]; exact i3, by rw [u2]; exact e5 i3⟩, ⟨SBG.found_only al ⟨cfV, kV, iV, gV⟩, stV⟩, ⟨SBG.found_only al ⟨cfC, kC, iC, gC⟩, stC⟩, slV, slC, by simp [RoadKit.slotOf, gV], by simp [RoadKit.slotOf, gC]⟩
theorem sta_is {Z U : State} (al : Z.vm.Alike U.vm) {C n d : String} {v : Value} (S : RoadKit.Sta Z U.heap C n d v) : StaticIs U C n d v := by
  obtain ⟨cfS, iS, kS, fS, st, cS, t1, t2, t3, t4, t5, t6, t7⟩ := S
  exact StaticIs.there (s := { Z with heap := U.heap }) ⟨cfS, iS, kS, fS, st, cS, t1, t2, t3, t4, t5, (fun q => by rw [q] at t6; cases t6), t7⟩ al rfl
end StrChars.Road
namespace StrChars
open Jvm Sem ClassFile Op Lib Jvm.Stand Jvm.Free.XT Jvm.Free.ALB Jvm.Free.JM Jvm.Free
open Jvm.Lib.Cold (StaticIs)
/-- what place i of a byte[]'s cell holds -/
def yv (A : Cell) (i : Nat) : Int32 := match A.slots[i]? with | some (.int x) => x | _ => 0
theorem yv_get {a : Addr} {A : Cell} {U : State} (h : XT.Arr .byte a A U) (ht : Typed .byte A) {i : Nat} (hi : i < A.slots.size) : A.slots[i]? = some (.int (yv A i)) := by
  have e := Array.getElem?_eq_getElem hi
  have f := ht i _ e
  unfold yv; rw [e]
  generalize A.slots[i] = v at f
  cases v <;> simp [fits] at f ⊢
/-- the two arrays are equal, place for place -/
def EqC (A B : Cell) : Prop := A.slots.size = B.slots.size ∧ ∀ i, i < A.slots.size → yv A i = yv B i
/-- a boolean that says whether p -/
def Says01 (q : Prop) (r : Option Value) (s u : State) : Prop := ∃ v : Int32, r = some (.int v) ∧ u.heap = s.heap ∧ ((v = 1 ∧ q) ∨ (v = 0 ∧ ¬ q))
theorem Says01.mv {q : Prop} : ∀ r (U U' V V' : State), U'.heap = U.heap → V.vm.Alike V'.vm → V'.heap = V.heap → Says01 q r U V → Says01 q r U' V' :=
  fun r U U' V V' h1 _ h2 ⟨v, a, b, c⟩ => ⟨v, a, by rw [h1, h2]; exact b, c⟩
namespace LEq
def yN : MethodName := ⟨"java/lang/StringLatin1", "equals", "([B[B)Z"⟩
abbrev yB : ByteArray := jdk_43_method_13_code
theorem d0 : decode yB 0 = .ok (.aload_n 0, 1) := by decide +kernel
theorem d1 : decode yB 1 = .ok (.arraylength, 1) := by decide +kernel
theorem d2 : decode yB 2 = .ok (.aload_n 1, 1) := by decide +kernel
theorem d3 : decode yB 3 = .ok (.arraylength, 1) := by decide +kernel
theorem d4 : decode yB 4 = .ok (.if_icmp (.ne) 30, 3) := by decide +kernel
theorem d7 : decode yB 7 = .ok (.iconst 0, 1) := by decide +kernel
theorem d8 : decode yB 8 = .ok (.istore_n 2, 1) := by decide +kernel
theorem d9 : decode yB 9 = .ok (.iload_n 2, 1) := by decide +kernel
theorem d10 : decode yB 10 = .ok (.aload_n 0, 1) := by decide +kernel
theorem d11 : decode yB 11 = .ok (.arraylength, 1) := by decide +kernel
theorem d12 : decode yB 12 = .ok (.if_icmp (.ge) 20, 3) := by decide +kernel
theorem d15 : decode yB 15 = .ok (.aload_n 0, 1) := by decide +kernel
theorem d16 : decode yB 16 = .ok (.iload_n 2, 1) := by decide +kernel
theorem d17 : decode yB 17 = .ok (.baload, 1) := by decide +kernel
theorem d18 : decode yB 18 = .ok (.aload_n 1, 1) := by decide +kernel
theorem d19 : decode yB 19 = .ok (.iload_n 2, 1) := by decide +kernel
theorem d20 : decode yB 20 = .ok (.baload, 1) := by decide +kernel
theorem d21 : decode yB 21 = .ok (.if_icmp (.eq) 5, 3) := by decide +kernel
theorem d24 : decode yB 24 = .ok (.iconst 0, 1) := by decide +kernel
theorem d25 : decode yB 25 = .ok (.ireturn, 1) := by decide +kernel
theorem d26 : decode yB 26 = .ok (.iinc 2 1, 3) := by decide +kernel
theorem d29 : decode yB 29 = .ok (.goto (-20), 3) := by decide +kernel
theorem d32 : decode yB 32 = .ok (.iconst 1, 1) := by decide +kernel
theorem d33 : decode yB 33 = .ok (.ireturn, 1) := by decide +kernel
theorem d34 : decode yB 34 = .ok (.iconst 0, 1) := by decide +kernel
theorem d35 : decode yB 35 = .ok (.ireturn, 1) := by decide +kernel
def site : List Cond := []
def tab : Cond := tabOf yN yB 3 (some .boolean) site
def P (a : Addr) (A : Cell) (b : Addr) (B : Cell) (args : Array Value) (s : State) : Prop := args = #[.ref a, .ref b] ∧ XT.Arr .byte a A s ∧ Typed .byte A ∧ XT.Arr .byte b B s ∧ Typed .byte B
/-- whether two byte[] are equal, place for place -/
theorem law (l : Launch) (a : Addr) (A : Cell) (b : Addr) (B : Cell) : Law l yN 2 2 0 0 yB 3 (some .boolean) site (P a A b B) (Says01 (EqC A B)) [] 0 0 := by
  refine Law.of_walk (plainFor_of_name (by decide +kernel)) (by decide +kernel) (by decide +kernel) (by decide) (fun _ _ h => by rw [h.1]; rfl) (fun _ U U' hal hh h => ⟨h.1, h.2.1.mv hal hh, h.2.2.1, h.2.2.2.1.mv hal hh, h.2.2.2.2⟩) (fun r U U' V V' h1 hal h2 h => Says01.mv r U U' V V' h1 hal h2 h) ?_
  intro p e s m args below meth c s₁ X0 hexec hbytes hml hret hlk hnm hown hh0 W hP
  obtain ⟨rfl, hA, tA, hB, tB⟩ := hP
  have a31 := hA.2.2.2
  have b31 := hB.2.2.2
  have hA0 := hA.mv X0.warmed.alike hh0
  have hB0 := hB.mv X0.warmed.alike hh0
  have c1 : Steps p.tables e below (s₁.setTop (entryFrame m #[.ref a, .ref b] 3)) (s₁.setTop (mkF m 0 #[.val (.ref a), .val (.ref b), .unset] [])) := entry rfl
  have c2 : Steps p.tables e below (s₁.setTop (entryFrame m #[.ref a, .ref b] 3)) (s₁.setTop (mkF m 4 #[.val (.ref a), .val (.ref b), .unset] [.int (Int32.ofNat B.slots.size), .int (Int32.ofNat A.slots.size)])) := c1.trans (by
    refine XS.aloadN X0.here hexec rfl (hb hbytes d0) rfl rfl ?_
    refine X0.alen hexec hA0 rfl rfl (hb hbytes d1) ?_
    refine XS.aloadN X0.here hexec rfl (hb hbytes d2) rfl rfl ?_
    refine X0.alen hexec hB0 rfl rfl (hb hbytes d3) ?_
    exact Steps.refl _)
  by_cases hs : A.slots.size = B.slots.size
  · have c3 : Steps p.tables e below (s₁.setTop (entryFrame m #[.ref a, .ref b] 3)) (s₁.setTop (mkF m 9 #[.val (.ref a), .val (.ref b), .val (.int 0)] [])) := c2.trans (by
      refine XS.icmpNo X0.here hexec rfl (hb hbytes d4) rfl (ii_ne_f (by rw [hs])) ?_
      refine iconstV X0.here hexec rfl 0 (hb hbytes d7) (by decide) ?_
      refine XS.istoreN X0.here hexec rfl (hb hbytes d8) rfl rfl ?_
      exact Steps.refl _)
    have loop : ∀ (r i : Nat), i + r = A.slots.size → (∀ j, j < i → yv A j = yv B j) → Steps p.tables e below (s₁.setTop (entryFrame m #[.ref a, .ref b] 3)) (s₁.setTop (mkF m 9 #[.val (.ref a), .val (.ref b), .val (.int (Int32.ofNat i))] [])) → ∃ (pc : Nat) (Ls : Array Slot) (v : Int32), (pc = 25 ∨ pc = 33) ∧ ((v = 1 ∧ EqC A B) ∨ (v = 0 ∧ ¬ EqC A B)) ∧ Steps p.tables e below (s₁.setTop (entryFrame m #[.ref a, .ref b] 3)) (s₁.setTop (mkF m pc Ls [.int v])) := by
      intro r
      induction r with
      | zero =>
        intro i hi he cl
        exact ⟨33, _, 1, Or.inr rfl, Or.inl ⟨rfl, hs, fun j hj => he j (by omega)⟩, cl.trans (by
          refine XS.iloadN X0.here hexec rfl (hb hbytes d9) rfl ?_
          refine XS.aloadN X0.here hexec rfl (hb hbytes d10) rfl rfl ?_
          refine X0.alen hexec hA0 rfl rfl (hb hbytes d11) ?_
          refine XS.icmpYes X0.here hexec rfl (pc0 := 12) rfl (hb hbytes d12) rfl (ii_ge_t (nlt32 (by omega) (by omega))) (by decide) rfl ?_
          refine iconstV X0.here hexec rfl 1 (hb hbytes d32) (by decide) ?_
          exact Steps.refl _)⟩
      | succ r ih =>
        intro i hi he cl
        have c4 : Steps p.tables e below (s₁.setTop (entryFrame m #[.ref a, .ref b] 3)) (s₁.setTop (mkF m 21 #[.val (.ref a), .val (.ref b), .val (.int (Int32.ofNat i))] [.int (yv B i), .int (yv A i)])) := cl.trans (by
          refine XS.iloadN X0.here hexec rfl (hb hbytes d9) rfl ?_
          refine XS.aloadN X0.here hexec rfl (hb hbytes d10) rfl rfl ?_
          refine X0.alen hexec hA0 rfl rfl (hb hbytes d11) ?_
          refine XS.icmpNo X0.here hexec rfl (hb hbytes d12) rfl (ii_ge_f (lt32 (by omega) (by omega))) ?_
          refine XS.aloadN X0.here hexec rfl (hb hbytes d15) rfl rfl ?_
          refine XS.iloadN X0.here hexec rfl (hb hbytes d16) rfl ?_
          refine X0.aget hexec hA0 rfl (yv_get hA tA (i := i) (by omega)) rfl rfl (hb hbytes d17) ?_
          refine XS.aloadN X0.here hexec rfl (hb hbytes d18) rfl rfl ?_
          refine XS.iloadN X0.here hexec rfl (hb hbytes d19) rfl ?_
          refine X0.aget hexec hB0 rfl (yv_get hB tB (i := i) (by omega)) rfl rfl (hb hbytes d20) ?_
          exact Steps.refl _)
        by_cases hv : yv A i = yv B i
        · have c5 : Steps p.tables e below (s₁.setTop (entryFrame m #[.ref a, .ref b] 3)) (s₁.setTop (mkF m 9 #[.val (.ref a), .val (.ref b), .val (.int (Int32.ofNat i + 1))] [])) := c4.trans (by
            refine XS.icmpYes X0.here hexec rfl (pc0 := 21) rfl (hb hbytes d21) rfl (ii_eq_t hv) (by decide) rfl ?_
            refine iincV X0.here hexec rfl 1 (hb hbytes d26) (by decide) rfl rfl ?_
            refine XS.goto X0.here hexec rfl (pc0 := 29) rfl (hb hbytes d29) (by decide) rfl ?_
            exact Steps.refl _)
          rw [succ32] at c5
          exact ih (i + 1) (by omega) (fun j hj => by
            by_cases e : j = i
            · rw [e]; exact hv
            · exact he j (by omega)) c5
        · exact ⟨25, _, 0, Or.inl rfl, Or.inr ⟨rfl, fun q => hv (q.2 i (by omega))⟩, c4.trans (by
            refine XS.icmpNo X0.here hexec rfl (hb hbytes d21) rfl (ii_eq_f hv) ?_
            refine iconstV X0.here hexec rfl 0 (hb hbytes d24) (by decide) ?_
            exact Steps.refl _)⟩
    obtain ⟨pc, Ls, v, hpc, hv, cz⟩ := loop A.slots.size 0 (by omega) (fun j hj => absurd hj (Nat.not_lt_zero j)) c3
    have nv : narrow .boolean (.int v) = .int v := by rcases hv with ⟨rfl, -⟩ | ⟨rfl, -⟩ <;> rfl
    rcases hpc with rfl | rfl
    · exact ⟨s₁, some (.int v), _, _, _, X0, rfl, rfl, rfl, (fun h => by cases h), ⟨v, rfl, hh0, hv⟩, fun fs hl => cz.trans (X0.ireturnOut hexec hret nv (Or.inr (Or.inl rfl)) (hb hbytes d25) hl)⟩
    · exact ⟨s₁, some (.int v), _, _, _, X0, rfl, rfl, rfl, (fun h => by cases h), ⟨v, rfl, hh0, hv⟩, fun fs hl => cz.trans (X0.ireturnOut hexec hret nv (Or.inr (Or.inl rfl)) (hb hbytes d33) hl)⟩
  · have c3 : Steps p.tables e below (s₁.setTop (entryFrame m #[.ref a, .ref b] 3)) (s₁.setTop (mkF m 35 #[.val (.ref a), .val (.ref b), .unset] [.int 0])) := c2.trans (by
      refine XS.icmpYes X0.here hexec rfl (pc0 := 4) rfl (hb hbytes d4) rfl (ii_ne_t (ne32 a31 b31 hs)) (by decide) rfl ?_
      refine iconstV X0.here hexec rfl 0 (hb hbytes d34) (by decide) ?_
      exact Steps.refl _)
    exact ⟨s₁, some (.int 0), _, _, _, X0, rfl, rfl, rfl, (fun h => by cases h), ⟨0, rfl, hh0, Or.inr ⟨rfl, fun q => hs q.1⟩⟩, fun fs hl => c3.trans (X0.ireturnOut hexec hret rfl (Or.inr (Or.inl rfl)) (hb hbytes d35) hl)⟩
end LEq
theorem Cod.ty {cd : Int32} {n : Nat} {f : Nat → Int32} {V : Cell} (h : Cod cd n f V) : Typed .byte V := fun i v hv => by
  have hi : i < V.slots.size := (Array.getElem?_eq_some_iff.mp hv).1
  rcases h with ⟨-, k1, k2⟩ | ⟨-, k1, k2, -⟩
  · rw [(k2 i (by omega)).1] at hv; cases hv; exact fits_lo8 _
  · rcases Nat.mod_two_eq_zero_or_one i with e | e
    · obtain ⟨j, rfl⟩ : ∃ j, i = 2 * j := ⟨i / 2, by omega⟩
      rw [(k2 j (by omega)).1] at hv; cases hv; exact fits_lo8 _
    · obtain ⟨j, rfl⟩ : ∃ j, i = 2 * j + 1 := ⟨i / 2, by omega⟩
      rw [(k2 j (by omega)).2] at hv; cases hv; exact fits_lo8 _
/-- the same text -/
def SameT (n : Nat) (f : Nat → Int32) (k : Nat) (g : Nat → Int32) : Prop := n = k ∧ ∀ j, j < n → f j = g j
theorem lo8_inj {x y : Int32} (h0 : ¬ x < 0) (h1 : ¬ 255 < x) (k0 : ¬ y < 0) (k1 : ¬ 255 < y) (h : lo8 x = lo8 y) : x = y := by
  rw [← lo8_mask h0 h1, ← lo8_mask k0 k1, h]
/-- arrays coded by one coder are equal just where the texts are -/
theorem Cod.eqv {cd : Int32} {n k : Nat} {f g : Nat → Int32} {V V' : Cell} (h : Cod cd n f V) (h' : Cod cd k g V') (hf : ∀ j, j < n → ¬ f j < 0 ∧ ¬ 65535 < f j) (hg : ∀ j, j < k → ¬ g j < 0 ∧ ¬ 65535 < g j) : EqC V V' ↔ SameT n f k g := by
  have yvv : ∀ {W : Cell} {i : Nat} {x : Int32}, W.slots[i]? = some (.int x) → yv W i = x := fun q => by unfold yv; rw [q]
  rcases h with ⟨rfl, k1, k2⟩ | ⟨rfl, k1, k2, -⟩
  · rcases h' with ⟨-, m1, m2⟩ | ⟨e, -⟩
    · constructor
      · rintro ⟨e1, e2⟩
        refine ⟨by omega, fun j hj => ?_⟩
        have q := e2 j (by omega)
        rw [yvv (k2 j hj).1, yvv (m2 j (by omega)).1] at q
        exact lo8_inj (hf j hj).1 (k2 j hj).2 (hg j (by omega)).1 (m2 j (by omega)).2 q
      · rintro ⟨rfl, e2⟩
        refine ⟨by omega, fun j hj => ?_⟩
        rw [yvv (k2 j (by omega)).1, yvv (m2 j (by omega)).1, e2 j (by omega)]
    · exact absurd e (by decide)
  · rcases h' with ⟨e, -⟩ | ⟨-, m1, m2, -⟩
    · exact absurd e (by decide)
    · constructor
      · rintro ⟨e1, e2⟩
        refine ⟨by omega, fun j hj => ?_⟩
        have q1 := e2 (2 * j) (by omega)
        have q2 := e2 (2 * j + 1) (by omega)
        rw [yvv (k2 j hj).1, yvv (m2 j (by omega)).1] at q1
        rw [yvv (k2 j hj).2, yvv (m2 j (by omega)).2] at q2
        rw [← pair_says (hf j hj).1 (hf j hj).2, ← pair_says (hg j (by omega)).1 (hg j (by omega)).2, q1, q2]
      · rintro ⟨rfl, e2⟩
        refine ⟨by omega, fun i hi => ?_⟩
        rcases Nat.mod_two_eq_zero_or_one i with e | e
        · obtain ⟨j, rfl⟩ : ∃ j, i = 2 * j := ⟨i / 2, by omega⟩
          rw [yvv (k2 j (by omega)).1, yvv (m2 j (by omega)).1, e2 j (by omega)]
        · obtain ⟨j, rfl⟩ : ∃ j, i = 2 * j + 1 := ⟨i / 2, by omega⟩
          rw [yvv (k2 j (by omega)).2, yvv (m2 j (by omega)).2, e2 j (by omega)]
/-- two codings differ: so do the texts -/
theorem Cod.dif {cd cd' : Int32} {n k : Nat} {f g : Nat → Int32} {V V' : Cell} (h : Cod cd n f V) (h' : Cod cd' k g V') (hne : ¬ cd = cd') : ¬ SameT n f k g := by
  rintro ⟨rfl, e⟩
  rcases h with ⟨rfl, -, k2⟩ | ⟨rfl, -, -, j, hj, hw⟩
  · rcases h' with ⟨rfl, -⟩ | ⟨-, -, -, j, hj, hw⟩
    · exact hne rfl
    · exact (k2 j hj).2 (by rw [e j hj]; exact hw)
  · rcases h' with ⟨-, -, m2⟩ | ⟨rfl, -⟩
    · exact (m2 j hj).2 (by rw [← e j hj]; exact hw)
    · exact hne rfl
/-- an object of exactly C is an instance of C -/
theorem cinst {p : Program} {l : Launch} {e : Env} {R : Room} {s : State} {m : MethodId} {args : Array Value} {below : List Frame} {meth : Method} {c : Code} {T : State} {locs : List Loc} {cells slots : Nat} (X : Stand p l e R s m args below meth c T locs cells slots) (hexec : p.tables.exec = Jvm.exec) {own C : String} {index : Nat} (hown : s.vm.findClass own = some m.cls) (hlink : (Cond.classLink own index C).before args s = true) {a : Addr} (hE : Exact C a T)
    {g : JFrame} (hg : g.method = m) {rest : List Value} (hstack : g.stack = .ref a :: rest) (hdg : decode c.code g.pc = .ok (.instanceof index, 3)) :
    ∃ T', Stand p l e R s m args below meth c T' locs cells slots ∧ T'.heap = T.heap ∧ ∀ target, Steps p.tables e below (T'.setTop { g with pc := g.pc + 3, stack := .int 1 :: rest }) target → Steps p.tables e below (T.setTop g) target := by
  obtain ⟨cB, h1, D, h2, h3, h4⟩ := hE
  have h1' : s.vm.findClass C = some cB := by rw [← X.warmed.alike.findClass]; exact h1
  obtain ⟨vm', X', st⟩ := X.instanceofYes hexec hown hlink h2 h4 h1' (by rw [h3]; exact Jvm.Free.SB.assignable_self _ _) hg hstack hdg
  exact ⟨_, X', rfl, st⟩
theorem cself {p : Program} {l : Launch} {e : Env} {R : Room} {s : State} {m : MethodId} {args : Array Value} {below : List Frame} {meth : Method} {c : Code} {T : State} {locs : List Loc} {cells slots : Nat} (X : Stand p l e R s m args below meth c T locs cells slots) (hexec : p.tables.exec = Jvm.exec) {own C : String} {index : Nat} (hown : s.vm.findClass own = some m.cls) (hlink : (Cond.classLink own index C).before args s = true) {a : Addr} (hE : Exact C a T)
    {g : JFrame} (hg : g.method = m) {rest : List Value} (hstack : g.stack = .ref a :: rest) (hdg : decode c.code g.pc = .ok (.checkcast index, 3)) :
    ∃ T', Stand p l e R s m args below meth c T' locs cells slots ∧ T'.heap = T.heap ∧ ∀ target, Steps p.tables e below (T'.setTop { g with pc := g.pc + 3, stack := .ref a :: rest }) target → Steps p.tables e below (T.setTop g) target := by
  obtain ⟨cB, h1, D, h2, h3, h4⟩ := hE
  have h1' : s.vm.findClass C = some cB := by rw [← X.warmed.alike.findClass]; exact h1
  obtain ⟨vm', X', st⟩ := X.checkcastYes hexec hown hlink h2 h4 h1' (by rw [h3]; exact Jvm.Free.SB.assignable_self _ _) hg hstack hdg
  exact ⟨_, X', rfl, fun t h => st t (by rw [← hstack] at h; exact h)⟩
namespace SEq
def yN : MethodName := ⟨"java/lang/String", "equals", "(Ljava/lang/Object;)Z"⟩
abbrev yB : ByteArray := jdk_42_method_66_code
theorem d0 : decode yB 0 = .ok (.aload_n 0, 1) := by decide +kernel
theorem d1 : decode yB 1 = .ok (.aload_n 1, 1) := by decide +kernel
theorem d2 : decode yB 2 = .ok (.if_acmp (.ne) 5, 3) := by decide +kernel
theorem d5 : decode yB 5 = .ok (.iconst 1, 1) := by decide +kernel
theorem d6 : decode yB 6 = .ok (.ireturn, 1) := by decide +kernel
theorem d7 : decode yB 7 = .ok (.aload_n 1, 1) := by decide +kernel
theorem d8 : decode yB 8 = .ok (.instanceof 10, 3) := by decide +kernel
theorem d11 : decode yB 11 = .ok (.ifCond (.eq) 43, 3) := by decide +kernel
theorem d14 : decode yB 14 = .ok (.aload_n 1, 1) := by decide +kernel
theorem d15 : decode yB 15 = .ok (.checkcast 10, 3) := by decide +kernel
theorem d18 : decode yB 18 = .ok (.astore_n 2, 1) := by decide +kernel
theorem d19 : decode yB 19 = .ok (.getstatic 38, 3) := by decide +kernel
theorem d22 : decode yB 22 = .ok (.ifCond (.eq) 14, 3) := by decide +kernel
theorem d25 : decode yB 25 = .ok (.aload_n 0, 1) := by decide +kernel
theorem d26 : decode yB 26 = .ok (.getfield 15, 3) := by decide +kernel
theorem d29 : decode yB 29 = .ok (.aload_n 2, 1) := by decide +kernel
theorem d30 : decode yB 30 = .ok (.getfield 15, 3) := by decide +kernel
theorem d33 : decode yB 33 = .ok (.if_icmp (.ne) 21, 3) := by decide +kernel
theorem d36 : decode yB 36 = .ok (.aload_n 0, 1) := by decide +kernel
theorem d37 : decode yB 37 = .ok (.getfield 9, 3) := by decide +kernel
theorem d40 : decode yB 40 = .ok (.aload_n 2, 1) := by decide +kernel
theorem d41 : decode yB 41 = .ok (.getfield 9, 3) := by decide +kernel
theorem d44 : decode yB 44 = .ok (.invokestatic 541, 3) := by decide +kernel
theorem d47 : decode yB 47 = .ok (.ifCond (.eq) 7, 3) := by decide +kernel
theorem d50 : decode yB 50 = .ok (.iconst 1, 1) := by decide +kernel
theorem d51 : decode yB 51 = .ok (.goto 4, 3) := by decide +kernel
theorem d54 : decode yB 54 = .ok (.iconst 0, 1) := by decide +kernel
theorem d55 : decode yB 55 = .ok (.ireturn, 1) := by decide +kernel
def site : List Cond := [.classLink "java/lang/String" 10 "java/lang/String", .fieldLink "java/lang/String" 38 "java/lang/String" "COMPACT_STRINGS" "Z", .fieldLink "java/lang/String" 15 "java/lang/String" "coder" "B", .fieldLink "java/lang/String" 9 "java/lang/String" "value" "[B", LEq.tab] ++ staticW "java/lang/String" 541 LEq.yN
def tab : Cond := tabOf yN yB 3 (some .boolean) site
def P (x t : Addr) (V : Cell) (cd : Int32) (n : Nat) (f : Nat → Int32) (y t' : Addr) (V' : Cell) (cd' : Int32) (k : Nat) (g : Nat → Int32) (z : Int32) (args : Array Value) (s : State) : Prop := args = #[.ref x, .ref y] ∧ Txt x t V cd n f s ∧ Txt y t' V' cd' k g s ∧ StaticIs s "java/lang/String" "COMPACT_STRINGS" "Z" (.int z) ∧ ¬ z = 0
/-- equals(Object) of two Strings: whether the texts are the same -/
theorem law (l : Launch) (x t : Addr) (V : Cell) (cd : Int32) (n : Nat) (f : Nat → Int32) (y t' : Addr) (V' : Cell) (cd' : Int32) (k : Nat) (g : Nat → Int32) (z : Int32) : Law l yN 2 1 1 14 yB 3 (some .boolean) site (P x t V cd n f y t' V' cd' k g z) (Says01 (SameT n f k g)) [] 0 0 := by
  refine Law.of_walk (plainFor_of_name (by decide +kernel)) (by decide +kernel) (by decide +kernel) (by decide) (fun _ _ h => by rw [h.1]; rfl) (fun _ U U' hal hh h => ⟨h.1, h.2.1.mv hal hh, h.2.2.1.mv hal hh, h.2.2.2.1.there hal hh, h.2.2.2.2⟩) (fun r U U' V V' h1 hal h2 h => Says01.mv r U U' V V' h1 hal h2 h) ?_
  intro p e s m args below meth c s₁ X0 hexec hbytes hml hret hlk hnm hown hh0 W hP
  obtain ⟨rfl, hx, hy, s1, hz⟩ := hP
  have c1 : Steps p.tables e below (s₁.setTop (entryFrame m #[.ref x, .ref y] 3)) (s₁.setTop (mkF m 2 #[.val (.ref x), .val (.ref y), .unset] [.ref y, .ref x])) := Steps.trans (entry rfl) (by
    show Steps p.tables e below (s₁.setTop (mkF m 0 #[.val (.ref x), .val (.ref y), .unset] [])) _
    refine XS.aloadN X0.here hexec rfl (hb hbytes d0) rfl rfl ?_
    refine XS.aloadN X0.here hexec rfl (hb hbytes d1) rfl rfl ?_
    exact Steps.refl _)
  by_cases hxy : x = y
  · have c2 : Steps p.tables e below (s₁.setTop (entryFrame m #[.ref x, .ref y] 3)) (s₁.setTop (mkF m 6 #[.val (.ref x), .val (.ref y), .unset] [.int 1])) := c1.trans (by
      refine acmpNo X0.here hexec rfl (hb hbytes d2) rfl rfl rfl (by simp [acmp, hxy]) ?_
      refine iconstV X0.here hexec rfl 1 (hb hbytes d5) (by decide) ?_
      exact Steps.refl _)
    subst hxy
    have ec : cd = cd' := by
      obtain ⟨D, fd, a1, a2, a3⟩ := hx.2.2.1
      obtain ⟨D', fd', b1, b2, b3⟩ := hy.2.2.1
      cases a1.symm.trans b1
      obtain ⟨q1, q2, q3, q4⟩ := a2.1
      obtain ⟨r1, r2, r3, r4⟩ := b2.1
      cases q4.symm.trans r4
      cases a3.symm.trans b3; rfl
    have et : t = t' := by
      obtain ⟨D, fd, a1, a2, a3⟩ := hx.2.1
      obtain ⟨D', fd', b1, b2, b3⟩ := hy.2.1
      cases a1.symm.trans b1
      obtain ⟨q1, q2, q3, q4⟩ := a2.1
      obtain ⟨r1, r2, r3, r4⟩ := b2.1
      cases q4.symm.trans r4
      cases a3.symm.trans b3; rfl
    subst ec et
    have ev : V = V' := by cases hx.2.2.2.1.1.symm.trans hy.2.2.2.1.1; rfl
    subst ev
    have hs : SameT n f k g := (Cod.eqv hx.2.2.2.2.1 hy.2.2.2.2.1 hx.2.2.2.2.2 hy.2.2.2.2.2).mp ⟨rfl, fun _ _ => rfl⟩
    exact ⟨s₁, some (.int 1), _, _, _, X0, rfl, rfl, rfl, (fun h => by cases h), ⟨1, rfl, hh0, Or.inl ⟨rfl, hs⟩⟩, fun fs hl => c2.trans (X0.ireturnOut hexec hret rfl (Or.inr (Or.inl rfl)) (hb hbytes d6) hl)⟩
  · have c2 : Steps p.tables e below (s₁.setTop (entryFrame m #[.ref x, .ref y] 3)) (s₁.setTop (mkF m 8 #[.val (.ref x), .val (.ref y), .unset] [.ref y])) := c1.trans (by
      refine acmpYes X0.here hexec rfl (pc0 := 2) rfl (hb hbytes d2) rfl rfl rfl (by simp [acmp, hxy]) (by decide) rfl ?_
      refine XS.aloadN X0.here hexec rfl (hb hbytes d7) rfl rfl ?_
      exact Steps.refl _)
    obtain ⟨T3, X3, q3, st3⟩ := cinst X0 hexec hown (wk W (.classLink "java/lang/String" 10 "java/lang/String")) (hy.mv X0.warmed.alike hh0).1 (g := (mkF m 8 #[.val (.ref x), .val (.ref y), .unset] [.ref y])) rfl (rest := []) rfl (hb hbytes d8)
    have hh3 := q3.trans hh0
    have c4 : Steps p.tables e below (s₁.setTop (entryFrame m #[.ref x, .ref y] 3)) (T3.setTop (mkF m 15 #[.val (.ref x), .val (.ref y), .unset] [.ref y])) := (c2.trans (st3 _ (Steps.refl _))).trans (by
      refine XS.ifNo X3.here hexec rfl (hb hbytes d11) rfl (i0_eq_f (by decide)) ?_
      refine XS.aloadN X3.here hexec rfl (hb hbytes d14) rfl rfl ?_
      exact Steps.refl _)
    obtain ⟨T5, X5, q5, st5⟩ := cself X3 hexec hown (wk W (.classLink "java/lang/String" 10 "java/lang/String")) (hy.mv X3.warmed.alike hh3).1 (g := (mkF m 15 #[.val (.ref x), .val (.ref y), .unset] [.ref y])) rfl (rest := []) rfl (hb hbytes d15)
    have hh5 := q5.trans hh3
    have c6 : Steps p.tables e below (s₁.setTop (entryFrame m #[.ref x, .ref y] 3)) (T5.setTop (mkF m 19 #[.val (.ref x), .val (.ref y), .val (.ref y)] [])) := (c4.trans (st5 _ (Steps.refl _))).trans (by
      refine XS.astoreN X5.here hexec rfl (hb hbytes d18) rfl rfl rfl ?_
      exact Steps.refl _)
    obtain ⟨T7, X7, q7, st7⟩ := X5.sget hexec hown (wk W (.fieldLink "java/lang/String" 38 "java/lang/String" "COMPACT_STRINGS" "Z")) s1 (fun _ _ h => by rw [hh5]; exact h) (g := (mkF m 19 #[.val (.ref x), .val (.ref y), .val (.ref y)] [])) rfl (hb hbytes d19)
    have hh7 := q7.trans hh5
    have c8 : Steps p.tables e below (s₁.setTop (entryFrame m #[.ref x, .ref y] 3)) (T7.setTop (mkF m 26 #[.val (.ref x), .val (.ref y), .val (.ref y)] [.ref x])) := (c6.trans (st7 _ (Steps.refl _))).trans (by
      refine XS.ifNo X7.here hexec rfl (hb hbytes d22) rfl (i0_eq_f hz) ?_
      refine XS.aloadN X7.here hexec rfl (hb hbytes d25) rfl rfl ?_
      exact Steps.refl _)
    obtain ⟨T9, X9, q9, st9⟩ := X7.hget hexec hown (wk W (.fieldLink "java/lang/String" 15 "java/lang/String" "coder" "B")) (hx.mv X7.warmed.alike hh7).2.2.1 (g := (mkF m 26 #[.val (.ref x), .val (.ref y), .val (.ref y)] [.ref x])) rfl (rest := []) rfl (hb hbytes d26)
    have hh9 := q9.trans hh7
    have c10 : Steps p.tables e below (s₁.setTop (entryFrame m #[.ref x, .ref y] 3)) (T9.setTop (mkF m 30 #[.val (.ref x), .val (.ref y), .val (.ref y)] [.ref y, .int cd])) := (c8.trans (st9 _ (Steps.refl _))).trans (by
      refine XS.aloadN X9.here hexec rfl (hb hbytes d29) rfl rfl ?_
      exact Steps.refl _)
    obtain ⟨T11, X11, q11, st11⟩ := X9.hget hexec hown (wk W (.fieldLink "java/lang/String" 15 "java/lang/String" "coder" "B")) (hy.mv X9.warmed.alike hh9).2.2.1 (g := (mkF m 30 #[.val (.ref x), .val (.ref y), .val (.ref y)] [.ref y, .int cd])) rfl (rest := [.int cd]) rfl (hb hbytes d30)
    have hh11 := q11.trans hh9
    have c12 : Steps p.tables e below (s₁.setTop (entryFrame m #[.ref x, .ref y] 3)) (T11.setTop (mkF m 33 #[.val (.ref x), .val (.ref y), .val (.ref y)] [.int cd', .int cd])) := c10.trans (st11 _ (Steps.refl _))
    by_cases hcd : cd = cd'
    · subst hcd
      have c13 : Steps p.tables e below (s₁.setTop (entryFrame m #[.ref x, .ref y] 3)) (T11.setTop (mkF m 37 #[.val (.ref x), .val (.ref y), .val (.ref y)] [.ref x])) := c12.trans (by
        refine XS.icmpNo X11.here hexec rfl (hb hbytes d33) rfl (ii_ne_f rfl) ?_
        refine XS.aloadN X11.here hexec rfl (hb hbytes d36) rfl rfl ?_
        exact Steps.refl _)
      obtain ⟨T14, X14, q14, st14⟩ := X11.hget hexec hown (wk W (.fieldLink "java/lang/String" 9 "java/lang/String" "value" "[B")) (hx.mv X11.warmed.alike hh11).2.1 (g := (mkF m 37 #[.val (.ref x), .val (.ref y), .val (.ref y)] [.ref x])) rfl (rest := []) rfl (hb hbytes d37)
      have hh14 := q14.trans hh11
      have c15 : Steps p.tables e below (s₁.setTop (entryFrame m #[.ref x, .ref y] 3)) (T14.setTop (mkF m 41 #[.val (.ref x), .val (.ref y), .val (.ref y)] [.ref y, .ref t])) := (c13.trans (st14 _ (Steps.refl _))).trans (by
        refine XS.aloadN X14.here hexec rfl (hb hbytes d40) rfl rfl ?_
        exact Steps.refl _)
      obtain ⟨T16, X16, q16, st16⟩ := X14.hget hexec hown (wk W (.fieldLink "java/lang/String" 9 "java/lang/String" "value" "[B")) (hy.mv X14.warmed.alike hh14).2.1 (g := (mkF m 41 #[.val (.ref x), .val (.ref y), .val (.ref y)] [.ref y, .ref t])) rfl (rest := [.ref t]) rfl (hb hbytes d41)
      have hh16 := q16.trans hh14
      have c17 : Steps p.tables e below (s₁.setTop (entryFrame m #[.ref x, .ref y] 3)) (T16.setTop (mkF m 44 #[.val (.ref x), .val (.ref y), .val (.ref y)] [.ref t', .ref t])) := c15.trans (st16 _ (Steps.refl _))
      obtain ⟨v18, T18, X18, E18, g18⟩ := X16.callS hexec (LEq.law l t V t' V') hown (wks W (staticW "java/lang/String" 541 LEq.yN)) (wk W LEq.tab) (W := 0) (Nat.le_of_ble_eq_true rfl) (Nat.le_of_ble_eq_true rfl) (Nat.le_refl _) (Nat.le_refl _) (g := (mkF m 44 #[.val (.ref x), .val (.ref y), .val (.ref y)] [.ref t', .ref t])) rfl (by rw [hml]; rfl) c17 (argsL := [.ref t, .ref t']) (rest := []) rfl rfl (by show 2 * 0 + 0 ≤ _; decide) (hb hbytes d44) (⟨rfl, hx.2.2.2.1.mv X16.warmed.alike hh16, hx.2.2.2.2.1.ty, hy.2.2.2.1.mv X16.warmed.alike hh16, hy.2.2.2.2.1.ty⟩)
      obtain ⟨v, rfl, q18, hv⟩ := E18
      have iff := Cod.eqv hx.2.2.2.2.1 hy.2.2.2.2.1 hx.2.2.2.2.2 hy.2.2.2.2.2
      rcases hv with ⟨rfl, he⟩ | ⟨rfl, he⟩
      · have c19 : Steps p.tables e below (s₁.setTop (entryFrame m #[.ref x, .ref y] 3)) (T18.setTop (mkF m 55 #[.val (.ref x), .val (.ref y), .val (.ref y)] [.int 1])) := Steps.trans g18 (by
          refine XS.ifNo X18.here hexec rfl (hb hbytes d47) rfl (i0_eq_f (by decide)) ?_
          refine iconstV X18.here hexec rfl 1 (hb hbytes d50) (by decide) ?_
          refine XS.goto X18.here hexec rfl (pc0 := 51) rfl (hb hbytes d51) (by decide) rfl ?_
          exact Steps.refl _)
        exact ⟨T18, some (.int 1), _, _, _, X18, rfl, rfl, rfl, (fun h => by cases h), ⟨1, rfl, q18.trans hh16, Or.inl ⟨rfl, iff.mp he⟩⟩, fun fs hl => c19.trans (X18.ireturnOut hexec hret rfl (Or.inr (Or.inl rfl)) (hb hbytes d55) hl)⟩
      · have c19 : Steps p.tables e below (s₁.setTop (entryFrame m #[.ref x, .ref y] 3)) (T18.setTop (mkF m 55 #[.val (.ref x), .val (.ref y), .val (.ref y)] [.int 0])) := Steps.trans g18 (by
          refine XS.ifYes X18.here hexec rfl (pc0 := 47) rfl (hb hbytes d47) rfl (i0_eq_t rfl) (by decide) rfl ?_
          refine iconstV X18.here hexec rfl 0 (hb hbytes d54) (by decide) ?_
          exact Steps.refl _)
        exact ⟨T18, some (.int 0), _, _, _, X18, rfl, rfl, rfl, (fun h => by cases h), ⟨0, rfl, q18.trans hh16, Or.inr ⟨rfl, fun q => he (iff.mpr q)⟩⟩, fun fs hl => c19.trans (X18.ireturnOut hexec hret rfl (Or.inr (Or.inl rfl)) (hb hbytes d55) hl)⟩
    · have c13 : Steps p.tables e below (s₁.setTop (entryFrame m #[.ref x, .ref y] 3)) (T11.setTop (mkF m 55 #[.val (.ref x), .val (.ref y), .val (.ref y)] [.int 0])) := c12.trans (by
        refine XS.icmpYes X11.here hexec rfl (pc0 := 33) rfl (hb hbytes d33) rfl (ii_ne_t hcd) (by decide) rfl ?_
        refine iconstV X11.here hexec rfl 0 (hb hbytes d54) (by decide) ?_
        exact Steps.refl _)
      exact ⟨T11, some (.int 0), _, _, _, X11, rfl, rfl, rfl, (fun h => by cases h), ⟨0, rfl, hh11, Or.inr ⟨rfl, Cod.dif hx.2.2.2.2.1 hy.2.2.2.2.1 hcd⟩⟩, fun fs hl => c13.trans (X11.ireturnOut hexec hret rfl (Or.inr (Or.inl rfl)) (hb hbytes d55) hl)⟩
theorem pays {l : Launch} {R : Room} {p : Program} {e : Env} {below : List Frame} {s : State} {sargs : Array Value} {len W : Nat} (x t : Addr) (V : Cell) (cd : Int32) (n : Nat) (f : Nat → Int32) (y t' : Addr) (V' : Cell) (cd' : Int32) (k : Nat) (g : Nat → Int32) (z : Int32) (htab : tab.before sargs s = true) (hfr : 2 ≤ R.frames) (hlo : W + 28 ≤ R.locals) :
    Back l R p e below s sargs yN len W (fun A₁ a₁ => A₁.cells + 0 ≤ R.cells ∧ A₁.slots + 0 ≤ R.slots ∧ P x t V cd n f y t' V' cd' k g z a₁ A₁.U) (fun A₁ _ v₁ B₁ => Says01 (SameT n f k g) v₁ A₁.U B₁.U ∧ B₁.locs = A₁.locs ++ [] ∧ B₁.cells = A₁.cells + 0 ∧ B₁.slots = A₁.slots + 0) :=
  (law l x t V cd n f y t' V' cd' k g z).pays htab hfr (by omega)
end SEq
end StrChars
namespace StrChars.Road
open Jvm Sem ClassFile Op Lib Jvm.Stand Jvm.Free Jvm.Free.XT
open Jvm.Lib.Cold (StaticIs)
/-- the words of String.equals(Object) -/
abbrev wordsEq : List Jvm.Cond := [.code SEq.yN SEq.yB 3 (some .boolean), .initialized ST, .classLink ST 10 ST, .fieldLink ST 38 ST "COMPACT_STRINGS" "Z", .fieldLink ST 15 ST "coder" "B", .fieldLink ST 9 ST "value" "[B", .methodLink ST 541 LEq.yN, .static LEq.yN, .code LEq.yN LEq.yB 3 (some .boolean), .initialized "java/lang/StringLatin1"]
theorem tabEq_of {a : Array Value} {s : State} (h : ∀ w ∈ wordsEq, w.before a s = true) : SEq.tab.before a s = true := by
  have hl : LEq.tab.before a s = true := unparts (wk h (.code LEq.yN LEq.yB 3 (some .boolean))) (wks h (.initialized LEq.yN.cls :: LEq.site))
  have q := consq hl h
  exact unparts (wk q (.code SEq.yN SEq.yB 3 (some .boolean))) (wks q (.initialized SEq.yN.cls :: SEq.site))
theorem movedEq {Z s : State} {a0 args : Array Value} (hZ : Z.Warmed39 s.vm) (hw : ∀ d ∈ wordsEq, d.before a0 Z = true) : ∀ d ∈ wordsEq, d.before args s = true := fun d hd => by
  have t : ∀ d ∈ wordsEq, (d.onTables && d.keepsFace) = true := by decide +kernel
  exact RoadKit.mv hZ (hw d hd) (t d hd)
/-- the road's facts of a String, as the laws ask it -/
theorem txt_of {Z U : State} {a0 : Array Value} {kI : Nat} (wi : (Jvm.Cond.instantiable ST kI).before a0 Z = true) (al : Z.vm.Alike U.vm) {x t : Addr} {kb : ClassId} {cs : List Int32} {cd N2 : Int32} {vs : List Value} (E : RoadKit.Exa Z U.heap x ST) (V : RoadKit.Fld Z U.heap x ST "value" "[B" (.ref t)) (C : RoadKit.Fld Z U.heap x ST "coder" "B" (.int cd)) (K : RoadKit.Arv Z U.heap t kb .byte N2 vs (.int 0)) (hc : CodA cs cd N2 vs) (hb : ∀ c ∈ cs, ¬ c < 0 ∧ ¬ (65535 : Int32) < c) (l2 : cs.length ≤ 4000) :
    ∃ A, Txt x t A cd cs.length (fun j => cs.getD j 0) U := by
  obtain ⟨A, K1, K2, K3, K4, K5, K6⟩ := K
  have hcod := hc.cod (by omega) K3 K5
  obtain ⟨D, fV, fC, hB, F1, F2, g1, g2, -, -⟩ := strObj wi al E V C
  exact ⟨A, ⟨_, hB.2.2.1, D, hB.1, rfl, by cases q : D.vm <;> first | rfl | exact absurd q (hB.2.1.2 _)⟩, Has.of hB F1 g1, Has.of hB F2 g2, ⟨K1.1, State.isArrayOf_alike al K1.2.1, K1.2.2, by rcases hcod with ⟨-, q, -⟩ | ⟨-, q, -⟩ <;> omega⟩, hcod, fun j hj => by
    have e : cs.getD j 0 = cs[j] := by simp [List.getD_eq_getElem?_getD, hj]
    show ¬ cs.getD j 0 < 0 ∧ ¬ 65535 < cs.getD j 0
    rw [e]; exact hb _ (List.getElem_mem _)⟩
theorem same_list (cs ds : List Int32) : SameT cs.length (fun j => cs.getD j 0) ds.length (fun j => ds.getD j 0) ↔ cs = ds := by
  constructor
  · rintro ⟨e, q⟩
    refine List.ext_getElem e fun j h1 h2 => ?_
    have := q j h1
    simpa [List.getD_eq_getElem?_getD, h1, h2] using this
  · rintro rfl
    exact ⟨rfl, fun _ _ => rfl⟩
/-- **equals(Object) OF TWO SUCH STRINGS**: 1 just where the chars are the same -/
theorem eqW {p : Program} {l : Launch} {e : Env} {R : Room} {s : State} {args : Array Value} {below : List Frame} {len W : Nat} {Z : State} {a0 : Array Value} {h : Heap} (hZ : Z.Warmed39 s.vm) (hw : ∀ d ∈ wordsEq, d.before a0 Z = true) {kI : Nat} (wi : (Jvm.Cond.instantiable ST kI).before a0 Z = true)
    {x t : Addr} {kb : ClassId} {cs : List Int32} {cd N2 : Int32} {vs : List Value} (E : RoadKit.Exa Z h x ST) (V : RoadKit.Fld Z h x ST "value" "[B" (.ref t)) (C : RoadKit.Fld Z h x ST "coder" "B" (.int cd)) (K : RoadKit.Arv Z h t kb .byte N2 vs (.int 0)) (hc : CodA cs cd N2 vs) (hb : ∀ c ∈ cs, ¬ c < 0 ∧ ¬ (65535 : Int32) < c) (l2 : cs.length ≤ 4000)
    {y t' : Addr} {kb' : ClassId} {ds : List Int32} {cd' N2' : Int32} {vs' : List Value} (E' : RoadKit.Exa Z h y ST) (V' : RoadKit.Fld Z h y ST "value" "[B" (.ref t')) (C' : RoadKit.Fld Z h y ST "coder" "B" (.int cd')) (K' : RoadKit.Arv Z h t' kb' .byte N2' vs' (.int 0)) (hc' : CodA ds cd' N2' vs') (hb' : ∀ c ∈ ds, ¬ c < 0 ∧ ¬ (65535 : Int32) < c) (l2' : ds.length ≤ 4000)
    {z : Int32} (S : RoadKit.Sta Z h ST "COMPACT_STRINGS" "Z" (.int z)) (hz : ¬ z = 0) (hfr : 2 ≤ R.frames) (hlo : W + 28 ≤ R.locals) :
    Back l R p e below s args (⟨"java/lang/String", "equals", "(Ljava/lang/Object;)Z"⟩ : MethodName) len W (fun P a => a = #[.ref x, .ref y] ∧ P.U.heap = h ∧ P.cells + 0 ≤ R.cells ∧ P.slots + 0 ≤ R.slots)
      (fun P _ v B => ∃ L, (((v = some (.int 1) ∧ cs = ds) ∨ (v = some (.int 0) ∧ ¬ cs = ds)) ∧ L = [] ∧ B.U.heap = h) ∧ B.locs = P.locs ++ L ∧ B.cells = P.cells + 0 ∧ B.slots = P.slots + 0) := by
  intro m meth c P g ig mk a X hg hsize hdg hW hn hp'
  obtain ⟨rfl, rfl, r1, r2⟩ := hp'
  have al : Z.vm.Alike P.U.vm := hZ.alike.trans X.warmed.alike
  obtain ⟨A, hx⟩ := txt_of wi al E V C K hc hb l2
  obtain ⟨A', hy⟩ := txt_of wi al E' V' C' K' hc' hb' l2'
  obtain ⟨v, B, X', ⟨⟨w, hv, hh, hq⟩, hl, hk, hs⟩, st⟩ := SEq.pays x t A cd cs.length (fun j => cs.getD j 0) y t' A' cd' ds.length (fun j => ds.getD j 0) z (tabEq_of (movedEq hZ hw)) hfr hlo m meth c P g ig mk _ X hg hsize hdg hW hn ⟨r1, r2, rfl, hx, hy, sta_is al S, hz⟩
  refine ⟨v, B, X', ⟨[], ⟨?_, rfl, hh⟩, hl, hk, hs⟩, st⟩
  rcases hq with ⟨rfl, q⟩ | ⟨rfl, q⟩
  · exact Or.inl ⟨hv, (same_list cs ds).mp q⟩
  · exact Or.inr ⟨hv, fun e => q ((same_list cs ds).mpr e)⟩
end StrChars.Road
namespace StrChars.Road
open Jvm Sem ClassFile Op Lib Jvm.Stand Jvm.Free Jvm.Free.XT
open Jvm.Lib.Cold (StaticIs)
/-- what backV says of its String, as the contracts of this text ask it: cs's low bytes, coder 0 -/
theorem codOf {cs : List Int32} {n : Nat} (hn : cs.length = n) (hb : ∀ c ∈ cs, ¬ 255 < c) : CodA cs 0 (Int32.ofNat n) ((cs.map lo8).map Value.int) := Or.inl ⟨rfl, by rw [hn], by simp [List.map_map, Function.comp_def], hb⟩
end StrChars.Road
end Jvm.Pilot.@@N@@
namespace Jvm.Pilot.@@N@@
open Jvm Jvm.ClassFile Sem Op Lib Jvm.Free Jvm.Stand Jvm.LawKit Jvm.RoadKit Bundle Jvm.Pilot.@@N@@.Jvm.D
namespace Own
open Jvm Jvm.ClassFile Sem Op Lib Jvm.Free Jvm.Stand Jvm.LawKit Jvm.RoadKit Bundle
abbrev i2c (x : Int32) : Int32 := x.toUInt32.toUInt16.toUInt32.toInt32
/-- from the frame g of T the run comes to an end of which G speaks -/
def Go (p : Program) (e : Env) (below : List Frame) (G : State → Prop) (T : State) (g : JFrame) : Prop := ∃ t, Steps p.tables e below (T.setTop g) t ∧ G t
/-- where a walk stands: Stand, the run's own machine, the heap, the tables, its class, what was written, what was kept -/
def NK (p : Program) (l : Launch) (e : Env) (R : Room) (s : State) (m : MethodId) (args : Array Value) (below : List Frame) (meth : Method) (c : Code) (Z : State) (own : String) (n0 : Nat) (h0 : Heap) (ws : List Addr) (T : State) (h : Heap) (locs : List Loc) (cells slots : Nat) : Prop :=
  Stand p l e R s m args below meth c T locs cells slots ∧ p.tables.exec = Jvm.exec ∧ T.heap = h ∧ Z.Warmed39 s.vm ∧ s.vm.findClass own = some m.cls ∧ Fr n0 locs ∧ Keep h0 h ws ∧ n0 ≤ h0.size ∧ meth.locks = false
theorem Keep.toExt {h h' : Heap} (K : Keep h h' []) : Ext h h' := ⟨K.1, fun a c q => K.2.1 a c q nin0⟩
theorem Keep.ofExt {h h' : Heap} (E : Ext h h') (ws : List Addr) : Keep h h' ws := (Keep.refl h ws).ext E
theorem Ext.rfl' (h : Heap) : Ext h h := ⟨Nat.le_refl _, fun _ _ q => q⟩
theorem Ext.tr {h h' h2 : Heap} (E : Ext h h') (E' : Ext h' h2) : Ext h h2 := ⟨Nat.le_trans E.1 E'.1, fun a c q => E'.2 a c (E.2 a c q)⟩
section Steps1
variable {p : Program} {l : Launch} {e : Env} {R : Room} {s : State} {m : MethodId} {args : Array Value} {below : List Frame} {meth : Method} {c : Code} {Z : State} {own : String} {n0 : Nat} {h0 : Heap} {ws : List Addr} {T T' : State} {h h' : Heap} {locs : List Loc} {cells slots : Nat} {G : State → Prop} {g g' : JFrame} {a0 : Array Value} {pc pc' : Nat} {Ls Ls' : Array Slot} {st rest : List Value}
theorem Go.by1 (f : ∀ t, Steps p.tables e below (T'.setTop g') t → Steps p.tables e below (T.setTop g) t) (k : Go p e below G T' g') : Go p e below G T g := by
  obtain ⟨t, a, b⟩ := k
  exact ⟨t, f t a, b⟩
theorem Go.tr (f : Steps p.tables e below (T.setTop g) (T'.setTop g')) (k : Go p e below G T' g') : Go p e below G T g := by
  obtain ⟨t, a, b⟩ := k
  exact ⟨t, f.trans a, b⟩
/-- a value gets a name -/
theorem lets {α : Type} {P : α → Prop} (x : α) (k : ∀ y, y = x → P y) : P x := k x rfl
theorem NK.iloadN (W : NK p l e R s m args below meth c Z own n0 h0 ws T h locs cells slots) {k : Fin 4} {v : Int32} (hd : decode c.code pc = .ok (.iload_n k, 1)) (hl : Ls[k.val]? = some (.val (.int v))) (hp : pc + 1 = pc') (k' : Go p e below G T (mkF m pc' Ls (.int v :: st))) : Go p e below G T (mkF m pc Ls (st)) := by
  subst hp; exact Go.by1 (fun t q => XS.iloadN W.1.here W.2.1 rfl hd hl q) k'
theorem NK.iload (W : NK p l e R s m args below meth c Z own n0 h0 ws T h locs cells slots) {k : Nat} {v : Int32} (hd : decode c.code pc = .ok (.iload k, 2)) (hl : Ls[k]? = some (.val (.int v))) (hp : pc + 2 = pc') (k' : Go p e below G T (mkF m pc' Ls (.int v :: st))) : Go p e below G T (mkF m pc Ls (st)) := by
  subst hp; exact Go.by1 (fun t q => XS.iload W.1.here W.2.1 rfl hd hl q) k'
theorem NK.istoreN (W : NK p l e R s m args below meth c Z own n0 h0 ws T h locs cells slots) {k : Fin 4} {x : Int32} (hd : decode c.code pc = .ok (.istore_n k, 1)) (hl : storeLocals Ls k.val (.int x) = some Ls') (hp : pc + 1 = pc') (k' : Go p e below G T (mkF m pc' Ls' (rest))) : Go p e below G T (mkF m pc Ls (.int x :: rest)) := by
  subst hp; exact Go.by1 (fun t q => XS.istoreN W.1.here W.2.1 rfl hd rfl hl q) k'
theorem NK.istore (W : NK p l e R s m args below meth c Z own n0 h0 ws T h locs cells slots) {k : Nat} {x : Int32} (hd : decode c.code pc = .ok (.istore k, 2)) (hl : storeLocals Ls k (.int x) = some Ls') (hp : pc + 2 = pc') (k' : Go p e below G T (mkF m pc' Ls' (rest))) : Go p e below G T (mkF m pc Ls (.int x :: rest)) := by
  subst hp; exact Go.by1 (fun t q => XS.istore W.1.here W.2.1 rfl hd rfl hl q) k'
theorem NK.lloadN (W : NK p l e R s m args below meth c Z own n0 h0 ws T h locs cells slots) {k : Fin 4} {v : Int64} (hd : decode c.code pc = .ok (.lload_n k, 1)) (hl : Ls[k.val]? = some (.val (.long v))) (hp : pc + 1 = pc') (k' : Go p e below G T (mkF m pc' Ls (.long v :: st))) : Go p e below G T (mkF m pc Ls (st)) := by
  subst hp; exact Go.by1 (fun t q => XT.lloadN W.1.here W.2.1 rfl hd hl q) k'
theorem NK.lload (W : NK p l e R s m args below meth c Z own n0 h0 ws T h locs cells slots) {k : Nat} {v : Int64} (hd : decode c.code pc = .ok (.lload k, 2)) (hl : Ls[k]? = some (.val (.long v))) (hp : pc + 2 = pc') (k' : Go p e below G T (mkF m pc' Ls (.long v :: st))) : Go p e below G T (mkF m pc Ls (st)) := by
  subst hp; exact Go.by1 (fun t q => XT.lload W.1.here W.2.1 rfl hd hl q) k'
theorem NK.lstoreN (W : NK p l e R s m args below meth c Z own n0 h0 ws T h locs cells slots) {k : Fin 4} {x : Int64} (hd : decode c.code pc = .ok (.lstore_n k, 1)) (hl : storeLocals Ls k.val (.long x) = some Ls') (hp : pc + 1 = pc') (k' : Go p e below G T (mkF m pc' Ls' (rest))) : Go p e below G T (mkF m pc Ls (.long x :: rest)) := by
  subst hp; exact Go.by1 (fun t q => XT.lstoreN W.1.here W.2.1 rfl hd rfl hl q) k'
theorem NK.lstore (W : NK p l e R s m args below meth c Z own n0 h0 ws T h locs cells slots) {k : Nat} {x : Int64} (hd : decode c.code pc = .ok (.lstore k, 2)) (hl : storeLocals Ls k (.long x) = some Ls') (hp : pc + 2 = pc') (k' : Go p e below G T (mkF m pc' Ls' (rest))) : Go p e below G T (mkF m pc Ls (.long x :: rest)) := by
  subst hp; exact Go.by1 (fun t q => XT.lstore W.1.here W.2.1 rfl hd rfl hl q) k'
theorem NK.aloadN (W : NK p l e R s m args below meth c Z own n0 h0 ws T h locs cells slots) {k : Fin 4} {v : Value} (hd : decode c.code pc = .ok (.aload_n k, 1)) (hl : Ls[k.val]? = some (.val v)) (hv : v.isRef = true) (hp : pc + 1 = pc') (k' : Go p e below G T (mkF m pc' Ls (v :: st))) : Go p e below G T (mkF m pc Ls (st)) := by
  subst hp; exact Go.by1 (fun t q => XS.aloadN W.1.here W.2.1 rfl hd hl hv q) k'
theorem NK.aload (W : NK p l e R s m args below meth c Z own n0 h0 ws T h locs cells slots) {k : Nat} {v : Value} (hd : decode c.code pc = .ok (.aload k, 2)) (hl : Ls[k]? = some (.val v)) (hv : v.isRef = true) (hp : pc + 2 = pc') (k' : Go p e below G T (mkF m pc' Ls (v :: st))) : Go p e below G T (mkF m pc Ls (st)) := by
  subst hp; exact Go.by1 (fun t q => XS.aload W.1.here W.2.1 rfl hd hl hv q) k'
theorem NK.astoreN (W : NK p l e R s m args below meth c Z own n0 h0 ws T h locs cells slots) {k : Fin 4} {x : Value} (hd : decode c.code pc = .ok (.astore_n k, 1)) (hv : x.isRef = true) (hl : storeLocals Ls k.val x = some Ls') (hp : pc + 1 = pc') (k' : Go p e below G T (mkF m pc' Ls' (rest))) : Go p e below G T (mkF m pc Ls (x :: rest)) := by
  subst hp; exact Go.by1 (fun t q => XS.astoreN W.1.here W.2.1 rfl hd rfl hv hl q) k'
theorem NK.astore (W : NK p l e R s m args below meth c Z own n0 h0 ws T h locs cells slots) {k : Nat} {x : Value} (hd : decode c.code pc = .ok (.astore k, 2)) (hv : x.isRef = true) (hl : storeLocals Ls k x = some Ls') (hp : pc + 2 = pc') (k' : Go p e below G T (mkF m pc' Ls' (rest))) : Go p e below G T (mkF m pc Ls (x :: rest)) := by
  subst hp; exact Go.by1 (fun t q => XS.astore W.1.here W.2.1 rfl hd rfl hv hl q) k'
theorem NK.iconst (W : NK p l e R s m args below meth c Z own n0 h0 ws T h locs cells slots) {i : Int} (v : Int32) (hd : decode c.code pc = .ok (.iconst i, 1)) (hv : Int32.ofInt i = v) (hp : pc + 1 = pc') (k' : Go p e below G T (mkF m pc' Ls (.int v :: st))) : Go p e below G T (mkF m pc Ls (st)) := by
  subst hp; exact Go.by1 (fun t q => XT.iconstV W.1.here W.2.1 rfl v hd hv q) k'
theorem NK.bipush (W : NK p l e R s m args below meth c Z own n0 h0 ws T h locs cells slots) {i : Int} (v : Int32) (hd : decode c.code pc = .ok (.bipush i, 2)) (hv : (Int8.ofInt i).toInt32 = v) (hp : pc + 2 = pc') (k' : Go p e below G T (mkF m pc' Ls (.int v :: st))) : Go p e below G T (mkF m pc Ls (st)) := by
  subst hp; exact Go.by1 (fun t q => XT.bipushV W.1.here W.2.1 rfl v hd hv q) k'
theorem NK.sipush (W : NK p l e R s m args below meth c Z own n0 h0 ws T h locs cells slots) {i : Int} (v : Int32) (hd : decode c.code pc = .ok (.sipush i, 3)) (hv : (Int16.ofInt i).toInt32 = v) (hp : pc + 3 = pc') (k' : Go p e below G T (mkF m pc' Ls (.int v :: st))) : Go p e below G T (mkF m pc Ls (st)) := by
  subst hp; exact Go.by1 (fun t q => XT.sipushV W.1.here W.2.1 rfl v hd hv q) k'
theorem NK.lconst (W : NK p l e R s m args below meth c Z own n0 h0 ws T h locs cells slots) {k : Fin 2} (v : Int64) (hd : decode c.code pc = .ok (.lconst k, 1)) (hv : Int64.ofNat k = v) (hp : pc + 1 = pc') (k' : Go p e below G T (mkF m pc' Ls (.long v :: st))) : Go p e below G T (mkF m pc Ls (st)) := by
  subst hp; exact Go.by1 (fun t q => XT.lconstV W.1.here W.2.1 rfl v hd hv q) k'
theorem NK.aconstNull (W : NK p l e R s m args below meth c Z own n0 h0 ws T h locs cells slots)  (hd : decode c.code pc = .ok (.aconst_null, 1))  (hp : pc + 1 = pc') (k' : Go p e below G T (mkF m pc' Ls (.null :: st))) : Go p e below G T (mkF m pc Ls (st)) := by
  subst hp; exact Go.by1 (fun t q => XS.aconstNull W.1.here W.2.1 rfl hd q) k'
theorem NK.iadd (W : NK p l e R s m args below meth c Z own n0 h0 ws T h locs cells slots) {x y : Int32} (hd : decode c.code pc = .ok (.iadd, 1))  (hp : pc + 1 = pc') (k' : Go p e below G T (mkF m pc' Ls (.int (x + y) :: rest))) : Go p e below G T (mkF m pc Ls (.int y :: .int x :: rest)) := by
  subst hp; exact Go.by1 (fun t q => XS.iadd W.1.here W.2.1 rfl hd rfl q) k'
theorem NK.isub (W : NK p l e R s m args below meth c Z own n0 h0 ws T h locs cells slots) {x y : Int32} (hd : decode c.code pc = .ok (.isub, 1))  (hp : pc + 1 = pc') (k' : Go p e below G T (mkF m pc' Ls (.int (x - y) :: rest))) : Go p e below G T (mkF m pc Ls (.int y :: .int x :: rest)) := by
  subst hp; exact Go.by1 (fun t q => XS.isub W.1.here W.2.1 rfl hd rfl q) k'
theorem NK.iand (W : NK p l e R s m args below meth c Z own n0 h0 ws T h locs cells slots) {x y : Int32} (hd : decode c.code pc = .ok (.iand, 1))  (hp : pc + 1 = pc') (k' : Go p e below G T (mkF m pc' Ls (.int (x &&& y) :: rest))) : Go p e below G T (mkF m pc Ls (.int y :: .int x :: rest)) := by
  subst hp; exact Go.by1 (fun t q => XS.iand W.1.here W.2.1 rfl hd rfl q) k'
theorem NK.imul (W : NK p l e R s m args below meth c Z own n0 h0 ws T h locs cells slots) {x y : Int32} (hd : decode c.code pc = .ok (.imul, 1))  (hp : pc + 1 = pc') (k' : Go p e below G T (mkF m pc' Ls (.int (x * y) :: rest))) : Go p e below G T (mkF m pc Ls (.int y :: .int x :: rest)) := by
  subst hp; exact Go.by1 (fun t q => XS.imul W.1.here W.2.1 rfl hd rfl q) k'
theorem NK.ixor (W : NK p l e R s m args below meth c Z own n0 h0 ws T h locs cells slots) {x y : Int32} (hd : decode c.code pc = .ok (.ixor, 1))  (hp : pc + 1 = pc') (k' : Go p e below G T (mkF m pc' Ls (.int (x ^^^ y) :: rest))) : Go p e below G T (mkF m pc Ls (.int y :: .int x :: rest)) := by
  subst hp; exact Go.by1 (fun t q => XT.ixor W.1.here W.2.1 rfl hd rfl q) k'
theorem NK.ior (W : NK p l e R s m args below meth c Z own n0 h0 ws T h locs cells slots) {x y : Int32} (hd : decode c.code pc = .ok (.ior, 1))  (hp : pc + 1 = pc') (k' : Go p e below G T (mkF m pc' Ls (.int (x ||| y) :: rest))) : Go p e below G T (mkF m pc Ls (.int y :: .int x :: rest)) := by
  subst hp; exact Go.by1 (fun t q => XT.ior W.1.here W.2.1 rfl hd rfl q) k'
theorem NK.ishl (W : NK p l e R s m args below meth c Z own n0 h0 ws T h locs cells slots) {x y : Int32} (hd : decode c.code pc = .ok (.ishl, 1))  (hp : pc + 1 = pc') (k' : Go p e below G T (mkF m pc' Ls (.int (x <<< (y &&& 31)) :: rest))) : Go p e below G T (mkF m pc Ls (.int y :: .int x :: rest)) := by
  subst hp; exact Go.by1 (fun t q => XT.ishl W.1.here W.2.1 rfl hd rfl q) k'
theorem NK.ishr (W : NK p l e R s m args below meth c Z own n0 h0 ws T h locs cells slots) {x y : Int32} (hd : decode c.code pc = .ok (.ishr, 1))  (hp : pc + 1 = pc') (k' : Go p e below G T (mkF m pc' Ls (.int (x >>> (y &&& 31)) :: rest))) : Go p e below G T (mkF m pc Ls (.int y :: .int x :: rest)) := by
  subst hp; exact Go.by1 (fun t q => XT.ishr W.1.here W.2.1 rfl hd rfl q) k'
theorem NK.iushr (W : NK p l e R s m args below meth c Z own n0 h0 ws T h locs cells slots) {x y : Int32} (hd : decode c.code pc = .ok (.iushr, 1))  (hp : pc + 1 = pc') (k' : Go p e below G T (mkF m pc' Ls (.int (XT.ushr x y) :: rest))) : Go p e below G T (mkF m pc Ls (.int y :: .int x :: rest)) := by
  subst hp; exact Go.by1 (fun t q => XT.iushr W.1.here W.2.1 rfl hd rfl q) k'
theorem NK.ladd (W : NK p l e R s m args below meth c Z own n0 h0 ws T h locs cells slots) {x y : Int64} (hd : decode c.code pc = .ok (.ladd, 1))  (hp : pc + 1 = pc') (k' : Go p e below G T (mkF m pc' Ls (.long (x + y) :: rest))) : Go p e below G T (mkF m pc Ls (.long y :: .long x :: rest)) := by
  subst hp; exact Go.by1 (fun t q => XT.ladd W.1.here W.2.1 rfl hd rfl q) k'
theorem NK.lsub (W : NK p l e R s m args below meth c Z own n0 h0 ws T h locs cells slots) {x y : Int64} (hd : decode c.code pc = .ok (.lsub, 1))  (hp : pc + 1 = pc') (k' : Go p e below G T (mkF m pc' Ls (.long (x - y) :: rest))) : Go p e below G T (mkF m pc Ls (.long y :: .long x :: rest)) := by
  subst hp; exact Go.by1 (fun t q => XT.lsub W.1.here W.2.1 rfl hd rfl q) k'
theorem NK.lmul (W : NK p l e R s m args below meth c Z own n0 h0 ws T h locs cells slots) {x y : Int64} (hd : decode c.code pc = .ok (.lmul, 1))  (hp : pc + 1 = pc') (k' : Go p e below G T (mkF m pc' Ls (.long (x * y) :: rest))) : Go p e below G T (mkF m pc Ls (.long y :: .long x :: rest)) := by
  subst hp; exact Go.by1 (fun t q => XT.lmul W.1.here W.2.1 rfl hd rfl q) k'
theorem NK.land (W : NK p l e R s m args below meth c Z own n0 h0 ws T h locs cells slots) {x y : Int64} (hd : decode c.code pc = .ok (.land, 1))  (hp : pc + 1 = pc') (k' : Go p e below G T (mkF m pc' Ls (.long (x &&& y) :: rest))) : Go p e below G T (mkF m pc Ls (.long y :: .long x :: rest)) := by
  subst hp; exact Go.by1 (fun t q => XT.land W.1.here W.2.1 rfl hd rfl q) k'
theorem NK.lor (W : NK p l e R s m args below meth c Z own n0 h0 ws T h locs cells slots) {x y : Int64} (hd : decode c.code pc = .ok (.lor, 1))  (hp : pc + 1 = pc') (k' : Go p e below G T (mkF m pc' Ls (.long (x ||| y) :: rest))) : Go p e below G T (mkF m pc Ls (.long y :: .long x :: rest)) := by
  subst hp; exact Go.by1 (fun t q => XT.lor W.1.here W.2.1 rfl hd rfl q) k'
theorem NK.lxor (W : NK p l e R s m args below meth c Z own n0 h0 ws T h locs cells slots) {x y : Int64} (hd : decode c.code pc = .ok (.lxor, 1))  (hp : pc + 1 = pc') (k' : Go p e below G T (mkF m pc' Ls (.long (x ^^^ y) :: rest))) : Go p e below G T (mkF m pc Ls (.long y :: .long x :: rest)) := by
  subst hp; exact Go.by1 (fun t q => XT.lxor W.1.here W.2.1 rfl hd rfl q) k'
theorem NK.lshl (W : NK p l e R s m args below meth c Z own n0 h0 ws T h locs cells slots) {x : Int64} {y : Int32} (hd : decode c.code pc = .ok (.lshl, 1))  (hp : pc + 1 = pc') (k' : Go p e below G T (mkF m pc' Ls (.long (x <<< (y.toInt64 &&& 63)) :: rest))) : Go p e below G T (mkF m pc Ls (.int y :: .long x :: rest)) := by
  subst hp; exact Go.by1 (fun t q => XT.lshl W.1.here W.2.1 rfl hd rfl q) k'
theorem NK.lshr (W : NK p l e R s m args below meth c Z own n0 h0 ws T h locs cells slots) {x : Int64} {y : Int32} (hd : decode c.code pc = .ok (.lshr, 1))  (hp : pc + 1 = pc') (k' : Go p e below G T (mkF m pc' Ls (.long (x >>> (y.toInt64 &&& 63)) :: rest))) : Go p e below G T (mkF m pc Ls (.int y :: .long x :: rest)) := by
  subst hp; exact Go.by1 (fun t q => XT.lshr W.1.here W.2.1 rfl hd rfl q) k'
theorem NK.lushr (W : NK p l e R s m args below meth c Z own n0 h0 ws T h locs cells slots) {x : Int64} {y : Int32} (hd : decode c.code pc = .ok (.lushr, 1))  (hp : pc + 1 = pc') (k' : Go p e below G T (mkF m pc' Ls (.long (XT.ushrL x y) :: rest))) : Go p e below G T (mkF m pc Ls (.int y :: .long x :: rest)) := by
  subst hp; exact Go.by1 (fun t q => XT.lushr W.1.here W.2.1 rfl hd rfl q) k'
theorem NK.ldiv (W : NK p l e R s m args below meth c Z own n0 h0 ws T h locs cells slots) {x y : Int64} (hd : decode c.code pc = .ok (.ldiv, 1)) (hy : y ≠ 0) (hp : pc + 1 = pc') (k' : Go p e below G T (mkF m pc' Ls (.long (x / y) :: rest))) : Go p e below G T (mkF m pc Ls (.long y :: .long x :: rest)) := by
  subst hp; exact Go.by1 (fun t q => XT.ldiv W.1.here W.2.1 rfl hd rfl hy q) k'
theorem NK.lrem (W : NK p l e R s m args below meth c Z own n0 h0 ws T h locs cells slots) {x y : Int64} (hd : decode c.code pc = .ok (.lrem, 1)) (hy : y ≠ 0) (hp : pc + 1 = pc') (k' : Go p e below G T (mkF m pc' Ls (.long (x - (x / y) * y) :: rest))) : Go p e below G T (mkF m pc Ls (.long y :: .long x :: rest)) := by
  subst hp; exact Go.by1 (fun t q => XT.lrem W.1.here W.2.1 rfl hd rfl hy q) k'
theorem NK.idiv (W : NK p l e R s m args below meth c Z own n0 h0 ws T h locs cells slots) {x y : Int32} (hd : decode c.code pc = .ok (.idiv, 1)) (hy : y ≠ 0) (hp : pc + 1 = pc') (k' : Go p e below G T (mkF m pc' Ls (.int (x / y) :: rest))) : Go p e below G T (mkF m pc Ls (.int y :: .int x :: rest)) := by
  subst hp; exact Go.by1 (fun t q => XS.idiv W.1.here W.2.1 rfl hd rfl hy q) k'
theorem NK.irem (W : NK p l e R s m args below meth c Z own n0 h0 ws T h locs cells slots) {x y : Int32} (hd : decode c.code pc = .ok (.irem, 1)) (hy : y ≠ 0) (hp : pc + 1 = pc') (k' : Go p e below G T (mkF m pc' Ls (.int (x % y) :: rest))) : Go p e below G T (mkF m pc Ls (.int y :: .int x :: rest)) := by
  subst hp; exact Go.by1 (fun t q => iremM W.1 W.2.1 rfl hd rfl hy q) k'
theorem NK.ineg (W : NK p l e R s m args below meth c Z own n0 h0 ws T h locs cells slots) {x : Int32} (hd : decode c.code pc = .ok (.ineg, 1))  (hp : pc + 1 = pc') (k' : Go p e below G T (mkF m pc' Ls (.int (-x) :: rest))) : Go p e below G T (mkF m pc Ls (.int x :: rest)) := by
  subst hp; exact Go.by1 (fun t q => XS.ineg W.1.here W.2.1 rfl hd rfl q) k'
theorem NK.lneg (W : NK p l e R s m args below meth c Z own n0 h0 ws T h locs cells slots) {x : Int64} (hd : decode c.code pc = .ok (.lneg, 1))  (hp : pc + 1 = pc') (k' : Go p e below G T (mkF m pc' Ls (.long (-x) :: rest))) : Go p e below G T (mkF m pc Ls (.long x :: rest)) := by
  subst hp; exact Go.by1 (fun t q => XT.lneg W.1.here W.2.1 rfl hd rfl q) k'
theorem NK.i2l (W : NK p l e R s m args below meth c Z own n0 h0 ws T h locs cells slots) {x : Int32} (hd : decode c.code pc = .ok (.i2l, 1))  (hp : pc + 1 = pc') (k' : Go p e below G T (mkF m pc' Ls (.long x.toInt64 :: rest))) : Go p e below G T (mkF m pc Ls (.int x :: rest)) := by
  subst hp; exact Go.by1 (fun t q => XT.i2l W.1.here W.2.1 rfl hd rfl q) k'
theorem NK.l2i (W : NK p l e R s m args below meth c Z own n0 h0 ws T h locs cells slots) {x : Int64} (hd : decode c.code pc = .ok (.l2i, 1))  (hp : pc + 1 = pc') (k' : Go p e below G T (mkF m pc' Ls (.int x.toInt32 :: rest))) : Go p e below G T (mkF m pc Ls (.long x :: rest)) := by
  subst hp; exact Go.by1 (fun t q => XT.l2i W.1.here W.2.1 rfl hd rfl q) k'
theorem NK.i2b (W : NK p l e R s m args below meth c Z own n0 h0 ws T h locs cells slots) {x : Int32} (hd : decode c.code pc = .ok (.i2b, 1))  (hp : pc + 1 = pc') (k' : Go p e below G T (mkF m pc' Ls (.int x.toInt8.toInt32 :: rest))) : Go p e below G T (mkF m pc Ls (.int x :: rest)) := by
  subst hp; exact Go.by1 (fun t q => XT.i2b W.1.here W.2.1 rfl hd rfl q) k'
theorem NK.i2c (W : NK p l e R s m args below meth c Z own n0 h0 ws T h locs cells slots) {x : Int32} (hd : decode c.code pc = .ok (.i2c, 1))  (hp : pc + 1 = pc') (k' : Go p e below G T (mkF m pc' Ls (.int (i2c x) :: rest))) : Go p e below G T (mkF m pc Ls (.int x :: rest)) := by
  subst hp; exact Go.by1 (fun t q => XT.i2c W.1.here W.2.1 rfl hd rfl q) k'
theorem NK.lcmp (W : NK p l e R s m args below meth c Z own n0 h0 ws T h locs cells slots) {x y : Int64} (hd : decode c.code pc = .ok (.lcmp, 1))  (hp : pc + 1 = pc') (k' : Go p e below G T (mkF m pc' Ls (.int (XT.cmpL x y) :: rest))) : Go p e below G T (mkF m pc Ls (.long y :: .long x :: rest)) := by
  subst hp; exact Go.by1 (fun t q => XT.lcmp W.1.here W.2.1 rfl hd rfl q) k'
theorem NK.iinc (W : NK p l e R s m args below meth c Z own n0 h0 ws T h locs cells slots) {k : Nat} {i : Int} {x : Int32} (v : Int32) (hd : decode c.code pc = .ok (.iinc k i, 3)) (hv : Int32.ofInt i = v) (hl : Ls[k]? = some (.val (.int x))) (hl' : storeLocals Ls k (.int (x + v)) = some Ls') (hp : pc + 3 = pc') (k' : Go p e below G T (mkF m pc' Ls' (st))) : Go p e below G T (mkF m pc Ls (st)) := by
  subst hp; exact Go.by1 (fun t q => XT.iincV W.1.here W.2.1 rfl v hd hv hl hl' q) k'
theorem NK.dup (W : NK p l e R s m args below meth c Z own n0 h0 ws T h locs cells slots) {x : Value} (hd : decode c.code pc = .ok (.dup, 1)) (hc : x.category = 1) (hp : pc + 1 = pc') (k' : Go p e below G T (mkF m pc' Ls (x :: x :: rest))) : Go p e below G T (mkF m pc Ls (x :: rest)) := by
  subst hp; exact Go.by1 (fun t q => XS.dup W.1.here W.2.1 rfl hd rfl hc q) k'
theorem NK.pop (W : NK p l e R s m args below meth c Z own n0 h0 ws T h locs cells slots) {x : Value} (hd : decode c.code pc = .ok (.pop, 1)) (hc : x.category = 1) (hp : pc + 1 = pc') (k' : Go p e below G T (mkF m pc' Ls (rest))) : Go p e below G T (mkF m pc Ls (x :: rest)) := by
  subst hp; exact Go.by1 (fun t q => XT.pop W.1.here W.2.1 rfl hd rfl hc q) k'
theorem NK.dupX1 (W : NK p l e R s m args below meth c Z own n0 h0 ws T h locs cells slots) {x y : Value} (hd : decode c.code pc = .ok (.dup_x1, 1)) (hc : x.category = 1) (hc' : y.category = 1) (hp : pc + 1 = pc') (k' : Go p e below G T (mkF m pc' Ls (x :: y :: x :: rest))) : Go p e below G T (mkF m pc Ls (x :: y :: rest)) := by
  subst hp; exact Go.by1 (fun t q => XT.dupX1 W.1.here W.2.1 rfl hd rfl hc hc' q) k'
theorem NK.dup2 (W : NK p l e R s m args below meth c Z own n0 h0 ws T h locs cells slots) {x y : Value} (hd : decode c.code pc = .ok (.dup2, 1)) (hc : x.category = 1) (hc' : y.category = 1) (hp : pc + 1 = pc') (k' : Go p e below G T (mkF m pc' Ls (x :: y :: x :: y :: rest))) : Go p e below G T (mkF m pc Ls (x :: y :: rest)) := by
  subst hp; exact Go.by1 (fun t q => XT.dup2 W.1.here W.2.1 rfl hd rfl hc hc' q) k'
theorem NK.goto (W : NK p l e R s m args below meth c Z own n0 h0 ws T h locs cells slots)  {o : Int} (hd : decode c.code pc = .ok (.goto o, 3))  (ho : 0 ≤ (pc : Int) + o) (hp : ((pc : Int) + o).toNat = pc') (k' : Go p e below G T (mkF m pc' Ls (rest))) : Go p e below G T (mkF m pc Ls (rest)) := by
  exact Go.by1 (fun t q => XS.goto W.1.here W.2.1 rfl rfl hd ho hp q) k'
theorem NK.ifYes (W : NK p l e R s m args below meth c Z own n0 h0 ws T h locs cells slots) {cd : ClassFile.Cond} {x : Int32} {o : Int} (hd : decode c.code pc = .ok (.ifCond cd o, 3)) (hc : ifCond.holds cd x = true) (ho : 0 ≤ (pc : Int) + o) (hp : ((pc : Int) + o).toNat = pc') (k' : Go p e below G T (mkF m pc' Ls (rest))) : Go p e below G T (mkF m pc Ls (.int x :: rest)) := by
  exact Go.by1 (fun t q => XS.ifYes W.1.here W.2.1 rfl rfl hd rfl hc ho hp q) k'
theorem NK.icmpYes (W : NK p l e R s m args below meth c Z own n0 h0 ws T h locs cells slots) {cd : ClassFile.Cond} {x y : Int32} {o : Int} (hd : decode c.code pc = .ok (.if_icmp cd o, 3)) (hc : if_icmp.holds cd x y = true) (ho : 0 ≤ (pc : Int) + o) (hp : ((pc : Int) + o).toNat = pc') (k' : Go p e below G T (mkF m pc' Ls (rest))) : Go p e below G T (mkF m pc Ls (.int y :: .int x :: rest)) := by
  exact Go.by1 (fun t q => XS.icmpYes W.1.here W.2.1 rfl rfl hd rfl hc ho hp q) k'
theorem NK.ifNo (W : NK p l e R s m args below meth c Z own n0 h0 ws T h locs cells slots) {cd : ClassFile.Cond} {x : Int32} {o : Int} (hd : decode c.code pc = .ok (.ifCond cd o, 3)) (hc : ifCond.holds cd x = false) (hp : pc + 3 = pc') (k' : Go p e below G T (mkF m pc' Ls (rest))) : Go p e below G T (mkF m pc Ls (.int x :: rest)) := by
  subst hp; exact Go.by1 (fun t q => XS.ifNo W.1.here W.2.1 rfl hd rfl hc q) k'
theorem NK.icmpNo (W : NK p l e R s m args below meth c Z own n0 h0 ws T h locs cells slots) {cd : ClassFile.Cond} {x y : Int32} {o : Int} (hd : decode c.code pc = .ok (.if_icmp cd o, 3)) (hc : if_icmp.holds cd x y = false) (hp : pc + 3 = pc') (k' : Go p e below G T (mkF m pc' Ls (rest))) : Go p e below G T (mkF m pc Ls (.int y :: .int x :: rest)) := by
  subst hp; exact Go.by1 (fun t q => XS.icmpNo W.1.here W.2.1 rfl hd rfl hc q) k'
theorem NK.ifnullYes (W : NK p l e R s m args below meth c Z own n0 h0 ws T h locs cells slots)  {o : Int} (hd : decode c.code pc = .ok (.ifnull o, 3))  (ho : 0 ≤ (pc : Int) + o) (hp : ((pc : Int) + o).toNat = pc') (k' : Go p e below G T (mkF m pc' Ls (rest))) : Go p e below G T (mkF m pc Ls (.null :: rest)) := by
  exact Go.by1 (fun t q => XS.ifnullYes W.1.here W.2.1 rfl rfl hd rfl ho hp q) k'
theorem NK.ifnonnullYes (W : NK p l e R s m args below meth c Z own n0 h0 ws T h locs cells slots) {b : Addr} {o : Int} (hd : decode c.code pc = .ok (.ifnonnull o, 3))  (ho : 0 ≤ (pc : Int) + o) (hp : ((pc : Int) + o).toNat = pc') (k' : Go p e below G T (mkF m pc' Ls (rest))) : Go p e below G T (mkF m pc Ls (.ref b :: rest)) := by
  exact Go.by1 (fun t q => XT.ifnonnullYes W.1.here W.2.1 rfl rfl hd rfl ho hp q) k'
theorem NK.ifnullNo (W : NK p l e R s m args below meth c Z own n0 h0 ws T h locs cells slots) {b : Addr} {o : Int} (hd : decode c.code pc = .ok (.ifnull o, 3))  (hp : pc + 3 = pc') (k' : Go p e below G T (mkF m pc' Ls (rest))) : Go p e below G T (mkF m pc Ls (.ref b :: rest)) := by
  subst hp; exact Go.by1 (fun t q => XS.ifnullNo W.1.here W.2.1 rfl hd rfl q) k'
theorem NK.ifnonnullNo (W : NK p l e R s m args below meth c Z own n0 h0 ws T h locs cells slots) {o : Int} (hd : decode c.code pc = .ok (.ifnonnull o, 3))  (hp : pc + 3 = pc') (k' : Go p e below G T (mkF m pc' Ls (rest))) : Go p e below G T (mkF m pc Ls (.null :: rest)) := by
  subst hp; exact Go.by1 (fun t q => XT.ifnonnullNo W.1.here W.2.1 rfl hd rfl q) k'
theorem NK.acmpYes (W : NK p l e R s m args below meth c Z own n0 h0 ws T h locs cells slots) {cd : ClassFile.ACond} {x y : Value} {o : Int} (hd : decode c.code pc = .ok (.if_acmp cd o, 3)) (h1 : x.isRef = true) (h2 : y.isRef = true) (hc : XT.acmp cd x y = true) (ho : 0 ≤ (pc : Int) + o) (hp : ((pc : Int) + o).toNat = pc') (k' : Go p e below G T (mkF m pc' Ls (rest))) : Go p e below G T (mkF m pc Ls (y :: x :: rest)) := by
  exact Go.by1 (fun t q => XT.acmpYes W.1.here W.2.1 rfl rfl hd rfl h1 h2 hc ho hp q) k'
theorem NK.acmpNo (W : NK p l e R s m args below meth c Z own n0 h0 ws T h locs cells slots) {cd : ClassFile.ACond} {x y : Value} {o : Int} (hd : decode c.code pc = .ok (.if_acmp cd o, 3)) (h1 : x.isRef = true) (h2 : y.isRef = true) (hc : XT.acmp cd x y = false) (hp : pc + 3 = pc') (k' : Go p e below G T (mkF m pc' Ls (rest))) : Go p e below G T (mkF m pc Ls (y :: x :: rest)) := by
  subst hp; exact Go.by1 (fun t q => XT.acmpNo W.1.here W.2.1 rfl hd rfl h1 h2 hc q) k'
theorem NK.ldcI (W : NK p l e R s m args below meth c Z own n0 h0 ws T h locs cells slots) {index : Nat} {v : Int32} (hd : decode c.code pc = .ok (.ldc index, 2)) (w : (Cond.constant own index v).before a0 Z = true) (hp : pc + 2 = pc') (k' : Go p e below G T (mkF m pc' Ls (.int v :: st))) : Go p e below G T (mkF m pc Ls (st)) := by
  subst hp; exact Go.by1 (fun t q => W.1.ldcI W.2.1 W.2.2.2.2.1 (mv W.2.2.2.1 w) rfl hd q) k'
theorem NK.ldcWI (W : NK p l e R s m args below meth c Z own n0 h0 ws T h locs cells slots) {index : Nat} {v : Int32} (hd : decode c.code pc = .ok (.ldc_w index, 3)) (w : (Cond.constant own index v).before a0 Z = true) (hp : pc + 3 = pc') (k' : Go p e below G T (mkF m pc' Ls (.int v :: st))) : Go p e below G T (mkF m pc Ls (st)) := by
  subst hp; exact Go.by1 (fun t q => W.1.ldcWI W.2.1 W.2.2.2.2.1 (mv W.2.2.2.1 w) rfl hd q) k'
theorem NK.ldc2J (W : NK p l e R s m args below meth c Z own n0 h0 ws T h locs cells slots) {index : Nat} {v : Int64} (hd : decode c.code pc = .ok (.ldc2_w index, 3)) (w : (Cond.constantLong own index v).before a0 Z = true) (hp : pc + 3 = pc') (k' : Go p e below G T (mkF m pc' Ls (.long v :: st))) : Go p e below G T (mkF m pc Ls (st)) := by
  subst hp; exact Go.by1 (fun t q => W.1.ldc2J W.2.1 W.2.2.2.2.1 (mv W.2.2.2.1 w) rfl hd q) k'
end Steps1
section Nums1
theorem i2c_i2c (x : Int32) : i2c (i2c x) = i2c x := by simp only [i2c, UInt32.toUInt32_toInt32, UInt16.toUInt16_toUInt32]
theorem i2c_toInt (x : Int32) : (i2c x).toInt = x.toInt % 65536 := by
  have h1 : (i2c x).toBitVec = (x.toBitVec.setWidth 16).setWidth 32 := rfl
  have h2 : x.toInt = x.toBitVec.toInt := rfl
  have h3 : (i2c x).toInt = (i2c x).toBitVec.toInt := rfl
  rw [h2, h3, h1, BitVec.toInt_eq_toNat_cond, BitVec.toInt_eq_toNat_cond]
  have := x.toBitVec.isLt
  simp only [BitVec.toNat_setWidth]
  omega
theorem i2c_id {c : Int32} (h0 : ¬ c < 0) (h1 : ¬ 65535 < c) : i2c c = c := by
  apply Int32.toInt_inj.mp
  rw [i2c_toInt]
  simp only [Int32.lt_iff_toInt_lt, Int32.reduceToInt] at h0 h1
  omega
theorem i2c_lo (x : Int32) : ¬ i2c x < 0 ∧ ¬ 65535 < i2c x := by
  simp only [Int32.lt_iff_toInt_lt, Int32.reduceToInt, i2c_toInt]
  omega
theorem and_toInt (x : Int32) (k : Nat) (hk : k < 2^31): (x &&& Int32.ofNat k).toInt = ((x.toBitVec.toNat &&& k : Nat) : Int) := by
  have h3 : (x &&& Int32.ofNat k).toInt = (x.toBitVec &&& (Int32.ofNat k).toBitVec).toInt := rfl
  rw [h3, BitVec.toInt_eq_toNat_cond, BitVec.toNat_and]
  have e : (Int32.ofNat k).toBitVec.toNat = k := by
    show (BitVec.ofNat 32 k).toNat = k
    simp; omega
  rw [e]
  have : (x.toBitVec.toNat &&& k) ≤ k := Nat.and_le_right
  omega
theorem and255_lat (x : Int32) : ¬ (x &&& 255) < 0 ∧ ¬ 255 < (x &&& 255) := by
  have := and_toInt x 255 (by decide)
  have h : (x.toBitVec.toNat &&& 255) ≤ 255 := Nat.and_le_right
  have e : (Int32.ofNat 255) = (255 : Int32) := rfl
  rw [e] at this
  simp only [Int32.lt_iff_toInt_lt, Int32.reduceToInt, this]
  omega
theorem and_nonneg (x : Int32) : ¬ (x &&& 2147483647) < 0 := by
  have := and_toInt x 2147483647 (by decide)
  have e : (Int32.ofNat 2147483647) = (2147483647 : Int32) := rfl
  rw [e] at this
  simp only [Int32.lt_iff_toInt_lt, Int32.reduceToInt, this]
  omega
theorem rem_range {x : Int32} (k : Nat) (hk : 0 < k) (hk2 : k < 2^31) (hx : ¬ x < 0) : ∃ n : Nat, n < k ∧ x % Int32.ofNat k = Int32.ofNat n := by
  have e : (Int32.ofNat k).toInt = k := by
    have hz : Int32.size = 4294967296 := rfl
    rw [Int32.toInt_ofNat', Int.bmod_eq_of_le] <;> omega
  simp only [Int32.lt_iff_toInt_lt, Int32.reduceToInt] at hx
  refine ⟨(x.toInt % k).toNat, ?_, ?_⟩
  · have := Int.emod_lt_of_pos x.toInt (show (0:Int) < k by omega)
    have := Int.emod_nonneg x.toInt (show (k:Int) ≠ 0 by omega)
    omega
  · apply Int32.toInt_inj.mp
    rw [Int32.toInt_mod, e, Int32.toInt_ofNat']
    have := Int.emod_lt_of_pos x.toInt (show (0:Int) < k by omega)
    have := Int.emod_nonneg x.toInt (show (k:Int) ≠ 0 by omega)
    have hz : Int32.size = 4294967296 := rfl
    rw [Int.tmod_eq_emod_of_nonneg (by omega), Int.bmod_eq_of_le] <;> omega

theorem i2c_and255 (x : Int32) : i2c (x &&& 255) = x &&& 255 := i2c_id (and255_lat x).1 (by
  have := (and255_lat x).2
  simp only [Int32.lt_iff_toInt_lt, Int32.reduceToInt] at *; omega)
theorem lat_i2c {c : Int32} (h : ¬ c < 0 ∧ ¬ 255 < c) : i2c c = c := i2c_id h.1 (by
  have := h.2
  simp only [Int32.lt_iff_toInt_lt, Int32.reduceToInt] at *; omega)
theorem lat_and (x : Int32) : ¬ i2c (x &&& 255) < 0 ∧ ¬ 255 < i2c (x &&& 255) := by rw [i2c_and255]; exact and255_lat x
theorem nar_i2c (x : Int32) : nar .char (i2c x) = i2c x := i2c_i2c x
theorem nar_lat {c : Int32} (h : ¬ c < 0 ∧ ¬ 255 < c) : nar .char c = c := lat_i2c h
theorem nar_chr {c : Int32} (h : ¬ c < 0 ∧ ¬ 65535 < c) : nar .char c = c := i2c_id h.1 h.2
theorem nar_ret {z : Int32} (h : nar .char z = z) : narrow .char (.int z) = .int z := congrArg Value.int h
end Nums1
section Heap1
variable {p : Program} {l : Launch} {e : Env} {R : Room} {s : State} {m : MethodId} {args : Array Value} {below : List Frame} {meth : Method} {c : Code} {Z : State} {own : String} {n0 : Nat} {h0 : Heap} {ws ws' : List Addr} {T T' : State} {h h' : Heap} {locs : List Loc} {cells slots : Nat} {G : State → Prop} {g g' : JFrame} {a0 : Array Value} {pc pc' : Nat} {Ls Ls' : Array Slot} {st rest : List Value}
theorem NK.newP (W : NK p l e R s m args below meth c Z own n0 h0 ws T h locs cells slots) {aty : ArrayType} (w : (Cond.arrayClass (newarray.typeOf aty)).before a0 Z = true) {n : Int32} (hd : decode c.code pc = .ok (.newarray aty, 2)) (hp : pc + 2 = pc') (hn : ¬ n < 0) {cap : Nat} (hcap : n.toNatClampNeg ≤ cap) (hb : cap * 8 ≤ 536870912) (hc : cells + 1 ≤ R.cells) (hl : slots + cap ≤ R.slots)
    (k' : ∀ (T' : State) (h' : Heap) (a : Addr) (ka : ClassId), a = h.size → h0.size ≤ a → n0 ≤ a → NK p l e R s m args below meth c Z own n0 h0 ws T' h' locs (cells + 1) (slots + cap) → Ext h h' → Arv Z h' a ka (newarray.typeOf aty) n (List.replicate cap (defaultValue (newarray.typeOf aty))) (defaultValue (newarray.typeOf aty)) → Go p e below G T' (mkF m pc' Ls (.ref a :: rest))) : Go p e below G T (mkF m pc Ls (.int n :: rest)) := by
  obtain ⟨X, hx, eT, hZ, hown, N, K, hn0, hlk⟩ := W
  obtain ⟨T', h', cA, X', e', E, A, st⟩ := RoadKit.newP X hx hZ w eT (g := mkF m pc Ls (.int n :: rest)) rfl hd rfl hn hcap hb hc hl
  subst hp
  exact Go.by1 (fun t q => st t q) (k' T' h' _ cA rfl K.1 (Nat.le_trans hn0 K.1) ⟨X', hx, e', hZ, hown, N, K.ext E, hn0, hlk⟩ E ((Arv.new A hn).pad (by simpa using pad_rep [] _ cap)))
theorem NK.newO (W : NK p l e R s m args below meth c Z own n0 h0 ws T h locs cells slots) {C : String} {index n : Nat} (w : (Cond.classLink own index C).before a0 Z = true) (wi : (Cond.instantiable C n).before a0 Z = true) (wz : (Cond.initialized C).before a0 Z = true) (hd : decode c.code pc = .ok (.new index, 3)) (hp : pc + 3 = pc') (hc : cells + 1 ≤ R.cells) (hl : slots + n ≤ R.slots)
    (k' : ∀ (T' : State) (h' : Heap) (a : Addr), a = h.size → h0.size ≤ a → n0 ≤ a → NK p l e R s m args below meth c Z own n0 h0 ws T' h' locs (cells + 1) (slots + n) → Ext h h' → Exa Z h' a C → (∀ {O nm d : String} {ty : FieldType}, Laid Z a0 C O nm d → parseFieldDescriptor d = some ty → Fld Z h' a O nm d (defaultValue ty)) → Go p e below G T' (mkF m pc' Ls (.ref a :: st))) : Go p e below G T (mkF m pc Ls st) := by
  obtain ⟨X, hx, eT, hZ, hown, N, K, hn0, hlk⟩ := W
  obtain ⟨T', h', X', e', E, A, D, -, stp⟩ := RoadKit.newO X hx hZ hown w wi wz eT (g := mkF m pc Ls st) rfl hd hc hl
  subst hp
  exact Go.by1 (fun t q => stp t q) (k' T' h' _ rfl K.1 (Nat.le_trans hn0 K.1) ⟨X', hx, e', hZ, hown, N, K.ext E, hn0, hlk⟩ E A D)
theorem NK.wrote (W : NK p l e R s m args below meth c Z own n0 h0 ws T h locs cells slots) {a : Addr} {sl : Nat} {v : Value} (X' : Stand p l e R s m args below meth c T' (locs ++ [⟨a, sl⟩]) cells slots) (e' : T'.heap = h') (Wr' : Wr h h' a sl v) (hge : a ∈ ws ∨ h0.size ≤ a) (hn : n0 ≤ a) : NK p l e R s m args below meth c Z own n0 h0 ws T' h' (locs ++ [⟨a, sl⟩]) cells slots := by
  obtain ⟨X, hx, eT, hZ, hown, N, K, hn0, hlk⟩ := W
  exact ⟨X', hx, e', hZ, hown, Fr.snoc X' N hn, K.wr Wr' hge, hn0, hlk⟩
theorem NK.stC (W : NK p l e R s m args below meth c Z own n0 h0 ws T h locs cells slots) {a : Addr} {ka : ClassId} {z : Int32} {vs : List Value} {dv : Value} (A : Arv Z h a ka .char z vs dv) {j x : Int32} (hd : decode c.code pc = .ok (.castore, 1)) (hp : pc + 1 = pc') (hx' : nar .char x = x) (i : Nat) (hj : j.toNatClampNeg = i) (hi : i < vs.length) (hb : ¬ j < 0 ∧ j < z) (hge : a ∈ ws ∨ h0.size ≤ a) (hn : n0 ≤ a)
    (k' : ∀ (T' : State) (h' : Heap) (L : List Loc), NK p l e R s m args below meth c Z own n0 h0 ws T' h' L cells slots → Keep h h' [a] → Arv Z h' a ka .char z (vs.set i (.int x)) dv → Go p e below G T' (mkF m pc' Ls rest)) : Go p e below G T (mkF m pc Ls (.int x :: .int j :: .ref a :: rest)) := by
  obtain ⟨cl, A1, q1, S1, M1, H1, U1⟩ := id A
  obtain ⟨T', h', X', e', Wr', stp⟩ := RoadKit.stC W.1 W.2.1 W.2.2.2.1 W.2.2.1 A1 (j := j) (inb_of S1 hb) (g := mkF m pc Ls (.int x :: .int j :: .ref a :: rest)) rfl rfl hd
  subst hp
  rw [hx'] at Wr'
  exact Go.by1 (fun t q => stp t q) (k' T' h' _ (W.wrote X' e' Wr' hge hn) (Keep.of_wr Wr') (Arv.set A1 q1 S1 M1 H1 U1 (hx' ▸ fits_nar_char x) Wr' i hj hi))
theorem NK.stB (W : NK p l e R s m args below meth c Z own n0 h0 ws T h locs cells slots) {a : Addr} {ka : ClassId} {z : Int32} {vs : List Value} {dv : Value} (A : Arv Z h a ka .byte z vs dv) {j x : Int32} (hd : decode c.code pc = .ok (.bastore, 1)) (hp : pc + 1 = pc') (i : Nat) (hj : j.toNatClampNeg = i) (hi : i < vs.length) (hb : ¬ j < 0 ∧ j < z) (hge : a ∈ ws ∨ h0.size ≤ a) (hn : n0 ≤ a)
    (k' : ∀ (T' : State) (h' : Heap) (L : List Loc), NK p l e R s m args below meth c Z own n0 h0 ws T' h' L cells slots → Keep h h' [a] → Arv Z h' a ka .byte z (vs.set i (.int x.toInt8.toInt32)) dv → Go p e below G T' (mkF m pc' Ls rest)) : Go p e below G T (mkF m pc Ls (.int x :: .int j :: .ref a :: rest)) := by
  obtain ⟨cl, A1, q1, S1, M1, H1, U1⟩ := id A
  obtain ⟨T', h', X', e', Wr', stp⟩ := RoadKit.stB W.1 W.2.1 W.2.2.2.1 W.2.2.1 A1 (j := j) (inb_of S1 hb) (g := mkF m pc Ls (.int x :: .int j :: .ref a :: rest)) rfl rfl hd
  subst hp
  exact Go.by1 (fun t q => stp t q) (k' T' h' _ (W.wrote X' e' Wr' hge hn) (Keep.of_wr Wr') (Arv.set A1 q1 S1 M1 H1 U1 (fits_nar_byte x) Wr' i hj hi))
theorem NK.stI (W : NK p l e R s m args below meth c Z own n0 h0 ws T h locs cells slots) {a : Addr} {ka : ClassId} {z : Int32} {vs : List Value} {dv : Value} (A : Arv Z h a ka .int z vs dv) {j x : Int32} (hd : decode c.code pc = .ok (.iastore, 1)) (hp : pc + 1 = pc') (i : Nat) (hj : j.toNatClampNeg = i) (hi : i < vs.length) (hb : ¬ j < 0 ∧ j < z) (hge : a ∈ ws ∨ h0.size ≤ a) (hn : n0 ≤ a)
    (k' : ∀ (T' : State) (h' : Heap) (L : List Loc), NK p l e R s m args below meth c Z own n0 h0 ws T' h' L cells slots → Keep h h' [a] → Arv Z h' a ka .int z (vs.set i (.int x)) dv → Go p e below G T' (mkF m pc' Ls rest)) : Go p e below G T (mkF m pc Ls (.int x :: .int j :: .ref a :: rest)) := by
  obtain ⟨cl, A1, q1, S1, M1, H1, U1⟩ := id A
  obtain ⟨T', h', X', e', Wr', stp⟩ := RoadKit.stI W.1 W.2.1 W.2.2.2.1 W.2.2.1 A1 (j := j) (inb_of S1 hb) (g := mkF m pc Ls (.int x :: .int j :: .ref a :: rest)) rfl rfl hd
  subst hp
  exact Go.by1 (fun t q => stp t q) (k' T' h' _ (W.wrote X' e' Wr' hge hn) (Keep.of_wr Wr') (Arv.set A1 q1 S1 M1 H1 U1 rfl Wr' i hj hi))
theorem NK.stJ (W : NK p l e R s m args below meth c Z own n0 h0 ws T h locs cells slots) {a : Addr} {ka : ClassId} {z : Int32} {vs : List Value} {dv : Value} (A : Arv Z h a ka .long z vs dv) {j : Int32} {x : Int64} (hd : decode c.code pc = .ok (.lastore, 1)) (hp : pc + 1 = pc') (i : Nat) (hj : j.toNatClampNeg = i) (hi : i < vs.length) (hb : ¬ j < 0 ∧ j < z) (hge : a ∈ ws ∨ h0.size ≤ a) (hn : n0 ≤ a)
    (k' : ∀ (T' : State) (h' : Heap) (L : List Loc), NK p l e R s m args below meth c Z own n0 h0 ws T' h' L cells slots → Keep h h' [a] → Arv Z h' a ka .long z (vs.set i (.long x)) dv → Go p e below G T' (mkF m pc' Ls rest)) : Go p e below G T (mkF m pc Ls (.long x :: .int j :: .ref a :: rest)) := by
  obtain ⟨cl, A1, q1, S1, M1, H1, U1⟩ := id A
  obtain ⟨T', h', X', e', Wr', stp⟩ := RoadKit.stJ W.1 W.2.1 W.2.2.2.1 W.2.2.1 A1 (j := j) (inb_of S1 hb) (g := mkF m pc Ls (.long x :: .int j :: .ref a :: rest)) rfl rfl hd
  subst hp
  exact Go.by1 (fun t q => stp t q) (k' T' h' _ (W.wrote X' e' Wr' hge hn) (Keep.of_wr Wr') (Arv.set A1 q1 S1 M1 H1 U1 rfl Wr' i hj hi))
theorem NK.caload (W : NK p l e R s m args below meth c Z own n0 h0 ws T h locs cells slots) {a : Addr} {ka : ClassId} {z : Int32} {vs : List Value} {dv : Value} (A : Arv Z h a ka .char z vs dv) {j : Int32} (v : Value) (hd : decode c.code pc = .ok (.caload, 1)) (hp : pc + 1 = pc') (hb : ¬ j < 0 ∧ j < z) (hv : vs.getD j.toNatClampNeg dv = v)
    (k' : Go p e below G T (mkF m pc' Ls (v :: rest))) : Go p e below G T (mkF m pc Ls (.int j :: .ref a :: rest)) := by
  obtain ⟨cl, A1, q1, S1, M1, H1, U1⟩ := id A
  subst hp
  exact Go.by1 (fun t q => W.1.caload W.2.1 (by rw [W.2.2.1]; exact A1.1) (State.isArrayOf_alike W.2.2.2.1.alike A1.2.1) A1.2.2 (inb_of S1 hb) (H1.at (inb_of S1 hb) hv) (g := mkF m pc Ls (.int j :: .ref a :: rest)) rfl rfl hd t q) k'
theorem NK.baload (W : NK p l e R s m args below meth c Z own n0 h0 ws T h locs cells slots) {a : Addr} {ka : ClassId} {z : Int32} {vs : List Value} {dv : Value} (A : Arv Z h a ka .byte z vs dv) {j : Int32} (v : Value) (hd : decode c.code pc = .ok (.baload, 1)) (hp : pc + 1 = pc') (hb : ¬ j < 0 ∧ j < z) (hv : vs.getD j.toNatClampNeg dv = v)
    (k' : Go p e below G T (mkF m pc' Ls (v :: rest))) : Go p e below G T (mkF m pc Ls (.int j :: .ref a :: rest)) := by
  obtain ⟨cl, A1, q1, S1, M1, H1, U1⟩ := id A
  subst hp
  exact Go.by1 (fun t q => W.1.baloadBytes W.2.1 (by rw [W.2.2.1]; exact A1.1) (State.isArrayOf_alike W.2.2.2.1.alike A1.2.1) A1.2.2 (inb_of S1 hb) (H1.at (inb_of S1 hb) hv) (g := mkF m pc Ls (.int j :: .ref a :: rest)) rfl rfl hd t q) k'
theorem NK.iaload (W : NK p l e R s m args below meth c Z own n0 h0 ws T h locs cells slots) {a : Addr} {ka : ClassId} {z : Int32} {vs : List Value} {dv : Value} (A : Arv Z h a ka .int z vs dv) {j : Int32} (v : Value) (hd : decode c.code pc = .ok (.iaload, 1)) (hp : pc + 1 = pc') (hb : ¬ j < 0 ∧ j < z) (hv : vs.getD j.toNatClampNeg dv = v)
    (k' : Go p e below G T (mkF m pc' Ls (v :: rest))) : Go p e below G T (mkF m pc Ls (.int j :: .ref a :: rest)) := by
  obtain ⟨cl, A1, q1, S1, M1, H1, U1⟩ := id A
  subst hp
  exact Go.by1 (fun t q => W.1.iaload W.2.1 (by rw [W.2.2.1]; exact A1.1) (State.isArrayOf_alike W.2.2.2.1.alike A1.2.1) A1.2.2 (inb_of S1 hb) (H1.at (inb_of S1 hb) hv) (g := mkF m pc Ls (.int j :: .ref a :: rest)) rfl rfl hd t q) k'
theorem NK.laload (W : NK p l e R s m args below meth c Z own n0 h0 ws T h locs cells slots) {a : Addr} {ka : ClassId} {z : Int32} {vs : List Value} {dv : Value} (A : Arv Z h a ka .long z vs dv) {j : Int32} (v : Value) (hd : decode c.code pc = .ok (.laload, 1)) (hp : pc + 1 = pc') (hb : ¬ j < 0 ∧ j < z) (hv : vs.getD j.toNatClampNeg dv = v)
    (k' : Go p e below G T (mkF m pc' Ls (v :: rest))) : Go p e below G T (mkF m pc Ls (.int j :: .ref a :: rest)) := by
  obtain ⟨cl, A1, q1, S1, M1, H1, U1⟩ := id A
  subst hp
  exact Go.by1 (fun t q => W.1.laload W.2.1 (by rw [W.2.2.1]; exact A1.1) (State.isArrayOf_alike W.2.2.2.1.alike A1.2.1) A1.2.2 (inb_of S1 hb) (H1.at (inb_of S1 hb) hv) (g := mkF m pc Ls (.int j :: .ref a :: rest)) rfl rfl hd t q) k'
theorem NK.arraylength (W : NK p l e R s m args below meth c Z own n0 h0 ws T h locs cells slots) {a : Addr} {ka : ClassId} {ty : FieldType} {z : Int32} {vs : List Value} {dv : Value} (A : Arv Z h a ka ty z vs dv) (hd : decode c.code pc = .ok (.arraylength, 1)) (hp : pc + 1 = pc')
    (k' : Go p e below G T (mkF m pc' Ls (.int z :: rest))) : Go p e below G T (mkF m pc Ls (.ref a :: rest)) := by
  obtain ⟨cl, A1, q1, S1, M1, H1, U1⟩ := id A
  subst hp
  exact Go.by1 (fun t q => W.1.arraylength W.2.1 (by rw [W.2.2.1]; exact A1.1) (State.isArrayOf_alike W.2.2.2.1.alike A1.2.1) (g := mkF m pc Ls (.ref a :: rest)) rfl rfl hd t (by rw [len_of S1 M1]; exact q)) k'
theorem NK.moved (W : NK p l e R s m args below meth c Z own n0 h0 ws T h locs cells slots) (X' : Stand p l e R s m args below meth c T' locs cells slots) (e' : T'.heap = h) : NK p l e R s m args below meth c Z own n0 h0 ws T' h locs cells slots := ⟨X', W.2.1, e', W.2.2.2⟩
theorem NK.getF (W : NK p l e R s m args below meth c Z own n0 h0 ws T h locs cells slots) {R0 O n d host : String} {index : Nat} (w : (Cond.fieldLink own index R0 n d).before a0 Z = true ∨ (Cond.fieldLinkNest own index R0 n d host).before a0 Z = true) (via : Via Z R0 O n d) {a : Addr} {v : Value} (F : Fld Z h a O n d v) (hd : decode c.code pc = .ok (.getfield index, 3)) (hp : pc + 3 = pc')
    (k' : ∀ T' : State, NK p l e R s m args below meth c Z own n0 h0 ws T' h locs cells slots → Go p e below G T' (mkF m pc' Ls (v :: rest))) : Go p e below G T (mkF m pc Ls (.ref a :: rest)) := by
  obtain ⟨T', X', e', stp⟩ := RoadKit.getF W.1 W.2.1 W.2.2.2.1 W.2.2.2.2.1 w via W.2.2.1 F (g := mkF m pc Ls (.ref a :: rest)) rfl rfl hd
  subst hp
  exact Go.by1 (fun t q => stp t q) (k' T' (W.moved X' e'))
theorem NK.getS (W : NK p l e R s m args below meth c Z own n0 h0 ws T h locs cells slots) {R0 O n d host : String} {index : Nat} (w : (Cond.fieldLink own index R0 n d).before a0 Z = true ∨ (Cond.fieldLinkNest own index R0 n d host).before a0 Z = true) (via : Via Z R0 O n d) {v : Value} (F : Sta Z h O n d v) (hd : decode c.code pc = .ok (.getstatic index, 3)) (hp : pc + 3 = pc')
    (k' : ∀ T' : State, NK p l e R s m args below meth c Z own n0 h0 ws T' h locs cells slots → Go p e below G T' (mkF m pc' Ls (v :: st))) : Go p e below G T (mkF m pc Ls st) := by
  obtain ⟨T', X', e', stp⟩ := RoadKit.getS2 W.1 W.2.1 W.2.2.2.1 W.2.2.2.2.1 w via W.2.2.1 F (g := mkF m pc Ls st) rfl hd
  subst hp
  exact Go.by1 (fun t q => stp t q) (k' T' (W.moved X' e'))
theorem NK.putF (W : NK p l e R s m args below meth c Z own n0 h0 ws T h locs cells slots) {R0 O n d host C : String} {index kk : Nat} {ty : FieldType} (w : (Cond.fieldLink own index R0 n d).before a0 Z = true ∨ (Cond.fieldLinkNest own index R0 n d host).before a0 Z = true) (via : Via Z R0 O n d) {a : Addr} {v old : Value} (F : Fld Z h a O n d old) (E : Exa Z h a C)
    (L : (Cond.lays C O n d).before a0 Z = true ∨ ((Cond.laysFinal C O n d).before a0 Z = true ∧ own = O ∧ meth.name = "<init>")) (wi : (Cond.instantiable C kk).before a0 Z = true) (hty : parseFieldDescriptor d = some ty) (hn : narrow ty v = v) (hf : fits ty v = true) (hd : decode c.code pc = .ok (.putfield index, 3)) (hp : pc + 3 = pc') (hge : a ∈ ws ∨ h0.size ≤ a) (hn0 : n0 ≤ a)
    (k' : ∀ (T' : State) (h' : Heap) (L' : List Loc), NK p l e R s m args below meth c Z own n0 h0 ws T' h' L' cells slots → Wr h h' a (RoadKit.slotOf Z O n d) v → Go p e below G T' (mkF m pc' Ls rest)) : Go p e below G T (mkF m pc Ls (v :: .ref a :: rest)) := by
  obtain ⟨T', h', X', e', Wr', stp⟩ := RoadKit.putF W.1 W.2.1 W.2.2.2.1 W.2.2.2.2.1 w via W.2.2.1 F E L wi hty hn hf (g := mkF m pc Ls (v :: .ref a :: rest)) rfl rfl hd
  subst hp
  exact Go.by1 (fun t q => stp t q) (k' T' h' _ (W.wrote X' e' Wr' hge hn0) Wr')
theorem NK.initO (W : NK p l e R s m args below meth c Z own n0 h0 ws T h locs cells slots) {idx : Nat} (w1 : (Cond.methodLink own idx Lib.objectInit).before a0 Z = true) (w2 : (Cond.instanceMethod Lib.objectInit).before a0 Z = true) (w3 : (Cond.code Lib.objectInit ⟨#[0xb1]⟩ 1 none).before a0 Z = true) {a : Addr} (hd : decode c.code pc = .ok (.invokespecial idx, 3)) (hp : pc + 3 = pc') (hml : c.maxLocals = Ls.size) (hf : 1 ≤ R.frames) {wd : Nat} (hW : (rest.map fun v => v.category).sum ≤ wd) (hl : wd + 12 ≤ R.locals)
    (k' : ∀ T' : State, NK p l e R s m args below meth c Z own n0 h0 ws T' h locs cells slots → Go p e below G T' (mkF m pc' Ls rest)) : Go p e below G T (mkF m pc Ls (.ref a :: rest)) := by
  obtain ⟨T', X', e', stp⟩ := RoadKit.initO W.1 W.2.1 W.2.2.2.1 W.2.2.2.2.1 w1 w2 w3 W.2.2.1 (g := mkF m pc Ls (.ref a :: rest)) rfl hml.symm rfl hd hf (W := wd) (by show 2 * 0 + _ ≤ _; omega) hl
  subst hp
  exact Go.by1 (fun t q => stp t q) (k' T' (W.moved X' e'))
/-- what a payer says, in backOf's shape -/
abbrev BK (l : Launch) (R : Room) (p : Program) (e : Env) (below : List Frame) (s : State) (args : Array Value) (y : MethodName) (len wd : Nat) (as' : Array Value) (h : Heap) (rc rs : Nat) (Q : Option Value → Heap → List Loc → Prop) : Prop :=
  Back l R p e below s args y len wd (fun A a => a = as' ∧ A.U.heap = h ∧ A.cells + rc ≤ R.cells ∧ A.slots + rs ≤ R.slots) (fun A _ v B => ∃ L, Q v B.U.heap L ∧ B.locs = A.locs ++ L ∧ B.cells = A.cells + rc ∧ B.slots = A.slots + rs)
/-- a callee's contract -/
def NM (l : Launch) (y : MethodName) (bytes : ByteArray) (maxL : Nat) (ret : Option FieldType) (xs : List Cond) (R : Room) (Z : State) (n0 : Nat) (as' : Array Value) (h0 : Heap) (ws : List Addr) (P : Option Value → Heap → Prop) : Prop :=
  MetFree l y (head1 (Cond.code y bytes maxL ret :: xs) R) (fun a U => a = as' ∧ Z.Warmed39 U.vm ∧ U.heap = h0) (fun _ _ _ _ _ => True) (fun _ U o U' => ∃ v L, o = .returned v ∧ (P v U'.heap ∧ Keep h0 U'.heap ws ∧ Fr n0 L) ∧ FrameEnd U o U' L R.cells R.slots)
def EndN (n0 : Nat) (R : Room) (s : State) (below : List Frame) (P : Option Value → Heap → Prop) (h0 : Heap) (ws : List Addr) (t : State) : Prop :=
  ∃ o, t.status = .running ∧ Ended t below o ∧ ∃ v L, o = .returned v ∧ (P v t.heap ∧ Keep h0 t.heap ws ∧ Fr n0 L) ∧ FrameEnd s o t L R.cells R.slots
theorem NM.walk {y : MethodName} {bytes : ByteArray} {maxL : Nat} {ret : Option FieldType} {xs : List Cond} {as' : Array Value} {P : Option Value → Heap → Prop} (hpl : plainFor y = true) (hn : n0 ≤ h0.size) (ef : ∀ m, entryFrame m as' maxL = mkF m 0 Ls [])
    (body : ∀ (p : Program) (e : Env) (s : State) (m : MethodId) (below : List Frame) (meth : Method) (c : Code) (s₁ : State), c.code = bytes → c.maxLocals = maxL → meth.sig.returnType = ret → meth.name = y.name → NK p l e R s m as' below meth c Z y.cls n0 h0 ws s₁ h0 [] 0 0 → Go p e below (EndN n0 R s below P h0 ws) s₁ (mkF m 0 Ls [])) : NM l y bytes maxL ret xs R Z n0 as' h0 ws P := by
  refine MetFree.of_bodySF hpl hisR ?_
  intro p e s m args below meth c s₁ Bd hml0 hP hK
  obtain ⟨rfl, hZ, hh⟩ := hP
  have X0 : Stand p l e R s m args below meth c s₁ [] 0 0 := Stand.of_body Bd
  have e0 : s₁.heap = h0 := by rw [← hh, Bd.state]; rfl
  obtain ⟨t, a, o, r1, r2, q⟩ := body p e s m below meth c s₁ Bd.bytes hml0 Bd.returns (name_of_methodNamed Bd.named Bd.method).1 ⟨X0, Bd.exec, e0, hZ, findClass_of_methodNamed Bd.named, Fr.nil n0, Keep.refl _ _, hn, BodyLoose.notSynchronized Bd⟩
  exact ⟨t, o, castTop (ef m) a, r1, r2, q⟩
theorem NK.ret (W : NK p l e R s m args below meth c Z own n0 h0 ws T h locs cells slots) {P : Option Value → Heap → Prop} {w : Value} {t : FieldType} {i : Instr} (hret : meth.sig.returnType = some t) (hn : narrow t w = w)
    (hi : (i = .ireturn ∧ (t = .int ∨ t = .boolean ∨ t = .byte ∨ t = .char ∨ t = .short) ∧ ∃ z, w = .int z) ∨ (i = .lreturn ∧ t = .long ∧ ∃ z, w = .long z) ∨ (i = .dreturn ∧ t = .double ∧ ∃ z, w = .double z) ∨ (i = .freturn ∧ t = .float ∧ ∃ z, w = .float z) ∨ (i = .areturn ∧ t.isReference = true ∧ w.isRef = true))
    (hd : decode c.code pc = .ok (i, 1)) (hc : cells ≤ R.cells) (hs : slots ≤ R.slots) (hP : P (some w) h) : Go p e below (EndN n0 R s below P h0 ws) T (mkF m pc Ls (w :: rest)) := by
  obtain ⟨X, hx, eT, hZ, hown, N, K, hn0, hlk⟩ := W
  obtain ⟨fs, hr, hrun, hended, hW, hsame⟩ := X.leave (v := some w) (fun h => by rw [hret] at h; cases h) hlk
  refine ⟨_, retOut X hx hret hn hi hd hr, _, hrun, hended, _, _, rfl, ?_, ⟨_, rfl⟩, hW, hsame.mono hc hs⟩
  have e1 : (T.setFrames fs).heap = h := eT
  rw [e1]
  exact ⟨hP, K, N⟩
theorem NK.retI (W : NK p l e R s m args below meth c Z own n0 h0 ws T h locs cells slots) {P : Option Value → Heap → Prop} {z : Int32} (hret : meth.sig.returnType = some .int) (hd : decode c.code pc = .ok (.ireturn, 1)) (hc : cells ≤ R.cells) (hs : slots ≤ R.slots) (hP : P (some (.int z)) h) : Go p e below (EndN n0 R s below P h0 ws) T (mkF m pc Ls (.int z :: rest)) :=
  W.ret hret rfl (Or.inl ⟨rfl, Or.inl rfl, _, rfl⟩) hd hc hs hP
theorem NK.retZ (W : NK p l e R s m args below meth c Z own n0 h0 ws T h locs cells slots) {P : Option Value → Heap → Prop} {z : Int32} (hret : meth.sig.returnType = some .boolean) (hd : decode c.code pc = .ok (.ireturn, 1)) (hz : z = 0 ∨ z = 1) (hc : cells ≤ R.cells) (hs : slots ≤ R.slots) (hP : P (some (.int z)) h) : Go p e below (EndN n0 R s below P h0 ws) T (mkF m pc Ls (.int z :: rest)) :=
  W.ret hret (by rcases hz with rfl | rfl <;> rfl) (Or.inl ⟨rfl, Or.inr (Or.inl rfl), _, rfl⟩) hd hc hs hP
theorem NK.retC (W : NK p l e R s m args below meth c Z own n0 h0 ws T h locs cells slots) {P : Option Value → Heap → Prop} {z : Int32} (hret : meth.sig.returnType = some .char) (hd : decode c.code pc = .ok (.ireturn, 1)) (hz : narrow .char (.int z) = .int z) (hc : cells ≤ R.cells) (hs : slots ≤ R.slots) (hP : P (some (.int z)) h) : Go p e below (EndN n0 R s below P h0 ws) T (mkF m pc Ls (.int z :: rest)) :=
  W.ret hret hz (Or.inl ⟨rfl, Or.inr (Or.inr (Or.inr (Or.inl rfl))), _, rfl⟩) hd hc hs hP
theorem NK.retB (W : NK p l e R s m args below meth c Z own n0 h0 ws T h locs cells slots) {P : Option Value → Heap → Prop} {z : Int32} (hret : meth.sig.returnType = some .byte) (hd : decode c.code pc = .ok (.ireturn, 1)) (hz : narrow .byte (.int z) = .int z) (hc : cells ≤ R.cells) (hs : slots ≤ R.slots) (hP : P (some (.int z)) h) : Go p e below (EndN n0 R s below P h0 ws) T (mkF m pc Ls (.int z :: rest)) :=
  W.ret hret hz (Or.inl ⟨rfl, Or.inr (Or.inr (Or.inl rfl)), _, rfl⟩) hd hc hs hP
theorem NK.retJ (W : NK p l e R s m args below meth c Z own n0 h0 ws T h locs cells slots) {P : Option Value → Heap → Prop} {z : Int64} (hret : meth.sig.returnType = some .long) (hd : decode c.code pc = .ok (.lreturn, 1)) (hc : cells ≤ R.cells) (hs : slots ≤ R.slots) (hP : P (some (.long z)) h) : Go p e below (EndN n0 R s below P h0 ws) T (mkF m pc Ls (.long z :: rest)) :=
  W.ret hret rfl (Or.inr (Or.inl ⟨rfl, rfl, _, rfl⟩)) hd hc hs hP
theorem NK.retA (W : NK p l e R s m args below meth c Z own n0 h0 ws T h locs cells slots) {P : Option Value → Heap → Prop} {w : Value} {t : FieldType} (hret : meth.sig.returnType = some t) (ht : t.isReference = true) (hw : w.isRef = true) (hd : decode c.code pc = .ok (.areturn, 1)) (hc : cells ≤ R.cells) (hs : slots ≤ R.slots) (hP : P (some w) h) : Go p e below (EndN n0 R s below P h0 ws) T (mkF m pc Ls (w :: rest)) :=
  W.ret hret (by cases t <;> cases w <;> first | rfl | (simp [FieldType.isReference, Value.isRef] at ht hw)) (Or.inr (Or.inr (Or.inr (Or.inr ⟨rfl, ht, hw⟩)))) hd hc hs hP
theorem NK.retV (W : NK p l e R s m args below meth c Z own n0 h0 ws T h locs cells slots) {P : Option Value → Heap → Prop} (hret : meth.sig.returnType = none) (hd : decode c.code pc = .ok (.return_, 1)) (hc : cells ≤ R.cells) (hs : slots ≤ R.slots) (hP : P none h) : Go p e below (EndN n0 R s below P h0 ws) T (mkF m pc Ls []) := by
  obtain ⟨X, hx, eT, hZ, hown, N, K, hn0, hlk⟩ := W
  obtain ⟨fs, hr, hrun, hended, hW, hsame⟩ := X.leave (v := none) (fun _ => rfl) hlk
  refine ⟨_, X.returnOut hx hret hd hr, _, hrun, hended, _, _, rfl, ?_, ⟨_, rfl⟩, hW, hsame.mono hc hs⟩
  have e1 : (T.setFrames fs).heap = h := eT
  rw [e1]
  exact ⟨hP, K, N⟩
theorem NM.bk {y : MethodName} {bytes : ByteArray} {maxL : Nat} {ret : Option FieldType} {rm : Room} {as' : Array Value} {P : Option Value → Heap → Prop} {len wd : Nat} (hM : NM l y bytes maxL ret [] rm Z n0 as' h ws' P) (hZ : Z.Warmed39 s.vm) (wc : (Cond.code y bytes maxL ret).before a0 Z = true) (wz : (Cond.initialized y.cls).before a0 Z = true) (hf : rm.frames + 1 ≤ R.frames) (hl : wd + (maxL + 11) + rm.locals ≤ R.locals) :
    BK l R p e below s args y len wd as' h rm.cells rm.slots (fun v h' L => P v h' ∧ Keep h h' ws' ∧ Fr n0 L) := backOf (Q := fun v h' L => P v h' ∧ Keep h h' ws' ∧ Fr n0 L) hM hZ wc wz hf hl
theorem NK.called (W : NK p l e R s m args below meth c Z own n0 h0 ws T h locs cells slots) {L : List Loc} {T' : State} {c2 s2 : Nat} (X' : Stand p l e R s m args below meth c T' (locs ++ L) c2 s2) (N : Fr n0 L) (K : Keep h T'.heap ws') (hws : ∀ x ∈ ws', x ∈ ws ∨ h0.size ≤ x) : NK p l e R s m args below meth c Z own n0 h0 ws T' T'.heap (locs ++ L) c2 s2 := by
  obtain ⟨X, hx, eT, hZ, hown, N0, K0, hn0, hlk⟩ := W
  exact ⟨X', hx, rfl, hZ, hown, Fr.app N0 N, K0.trans K hws, hn0, hlk⟩
theorem NK.callS (W : NK p l e R s m args below meth c Z own n0 h0 ws T h locs cells slots) {index : Nat} {y : MethodName} {bytes : ByteArray} {maxL : Nat} {ret : Option FieldType} (w1 : (Cond.methodLink own index y).before a0 Z = true) (w2 : (Cond.static y).before a0 Z = true) (w3 : (Cond.initialized y.cls).before a0 Z = true) (w4 : (Cond.code y bytes maxL ret).before a0 Z = true)
    (hy : y.cls ≠ "java/lang/invoke/MethodHandle" ∧ y.cls ≠ "java/lang/invoke/VarHandle") {wd rc rs : Nat} {as' : Array Value} {Q : Option Value → Heap → List Loc → Prop} (hK : BK l R p e below s args y 3 wd as' h rc rs Q) (hd : decode c.code pc = .ok (.invokestatic index, 3)) (hp : pc + 3 = pc') (hml : c.maxLocals = Ls.size) {argsL : List Value} (has : argsL.toArray = as') (hlen : ∀ sig, parseMethodDescriptor y.desc = some sig → argsL.length = sig.parameters.length) (hst : st = argsL.reverse ++ rest) (hW : (rest.map fun v => v.category).sum ≤ wd) (hc : cells + rc ≤ R.cells) (hs : slots + rs ≤ R.slots)
    (hq : ∀ v h' L, Q v h' L → Fr n0 L ∧ Keep h h' ws') (hws : ∀ x ∈ ws', x ∈ ws ∨ h0.size ≤ x)
    (k' : ∀ (v : Option Value) (T' : State) (h' : Heap) (L L' : List Loc), NK p l e R s m args below meth c Z own n0 h0 ws T' h' L' (cells + rc) (slots + rs) → Q v h' L → Keep h h' ws' → Go p e below G T' (mkF m pc' Ls (v.toList ++ rest))) : Go p e below G T (mkF m pc Ls st) := by
  subst hst has hp
  obtain ⟨v, vm1, ⟨T', L1, k1, n1⟩, -, X', ⟨L, hQ, e1, e2, e3⟩, stp⟩ := Jvm.LawKit.callS W.1 W.2.1 W.2.2.2.2.1 (mvT W.2.2.2.1 w1) (mvT W.2.2.2.1 w2) (mvT W.2.2.2.1 w3) (mvT W.2.2.2.1 w4) hy hK (g := mkF m pc Ls (argsL.reverse ++ rest)) rfl hml.symm (argsL := argsL) (rest := rest) hlen rfl (by show 2 * 0 + _ ≤ _; omega) hd (fun _ _ => ⟨rfl, W.2.2.1, hc, hs⟩)
  dsimp only [Pt.U, Pt.locs, Pt.cells, Pt.slots] at X' hQ e1 e2 e3 stp
  subst e1 e2 e3
  obtain ⟨N, K⟩ := hq _ _ _ hQ
  exact Go.by1 (fun t q => stp t q) (k' v T' _ L _ (W.called X' N K hws) hQ K)
theorem NK.callI (W : NK p l e R s m args below meth c Z own n0 h0 ws T h locs cells slots) {index : Nat} {y : MethodName} {bytes : ByteArray} {maxL : Nat} (hy1 : y.name = "<init>") (w1 : (Cond.methodLink own index y).before a0 Z = true) (w2 : (Cond.instanceMethod y).before a0 Z = true) (w4 : (Cond.code y bytes maxL none).before a0 Z = true)
    (hy : y.cls ≠ "java/lang/invoke/MethodHandle" ∧ y.cls ≠ "java/lang/invoke/VarHandle") {wd rc rs : Nat} {as' : Array Value} {Q : Option Value → Heap → List Loc → Prop} (hK : BK l R p e below s args y 3 wd as' h rc rs Q) (hd : decode c.code pc = .ok (.invokespecial index, 3)) (hp : pc + 3 = pc') (hml : c.maxLocals = Ls.size) {a : Addr} {argsL : List Value} (has : (Value.ref a :: argsL).toArray = as') (hlen : ∀ sig, parseMethodDescriptor y.desc = some sig → argsL.length = sig.parameters.length) (hst : st = argsL.reverse ++ .ref a :: rest) (hW : (rest.map fun v => v.category).sum ≤ wd) (hc : cells + rc ≤ R.cells) (hs : slots + rs ≤ R.slots)
    (hq : ∀ v h' L, Q v h' L → Fr n0 L ∧ Keep h h' ws') (hws : ∀ x ∈ ws', x ∈ ws ∨ h0.size ≤ x)
    (k' : ∀ (v : Option Value) (T' : State) (h' : Heap) (L L' : List Loc), NK p l e R s m args below meth c Z own n0 h0 ws T' h' L' (cells + rc) (slots + rs) → Q v h' L → Keep h h' ws' → Go p e below G T' (mkF m pc' Ls (v.toList ++ rest))) : Go p e below G T (mkF m pc Ls st) := by
  subst hst has hp
  obtain ⟨v, vm1, ⟨T', L1, k1, n1⟩, -, X', ⟨L, hQ, e1, e2, e3⟩, stp⟩ := W.1.specialBack W.2.1 hy1 W.2.2.2.2.1 (mvT W.2.2.2.1 w1) (mvT W.2.2.2.1 w2) (mvT W.2.2.2.1 w4) hy hK (g := mkF m pc Ls (argsL.reverse ++ .ref a :: rest)) rfl hml.symm (Steps.refl _) (a := a) (argsL := argsL) (rest := rest) hlen rfl (by show 2 * 0 + _ ≤ _; omega) hd (fun _ _ => ⟨rfl, W.2.2.1, hc, hs⟩)
  dsimp only [Pt.U, Pt.locs, Pt.cells, Pt.slots] at X' hQ e1 e2 e3 stp
  subst e1 e2 e3
  obtain ⟨N, K⟩ := hq _ _ _ hQ
  exact Go.tr stp (k' v T' _ L _ (W.called X' N K hws) hQ K)
theorem NK.callV (W : NK p l e R s m args below meth c Z own n0 h0 ws T h locs cells slots) {index : Nat} {C : String} {y z : MethodName} (w1 : (Cond.methodLink own index y).before a0 Z = true) (w2 : (Cond.declares y).before a0 Z = true) (w3 : (Cond.selects C y z).before a0 Z = true) {C' : String} (w3' : (Cond.selects C' y y).before a0 Z = true) (w4 : (Cond.instanceMethod z).before a0 Z = true)
    (hy : y.cls ≠ "java/lang/invoke/MethodHandle" ∧ y.cls ≠ "java/lang/invoke/VarHandle") {wd rc rs : Nat} {as' : Array Value} {Q : Option Value → Heap → List Loc → Prop} (hK : BK l R p e below s args z 3 wd as' h rc rs Q) {a : Addr} (E : Exa Z h a C) (hd : decode c.code pc = .ok (.invokevirtual index, 3)) (hp : pc + 3 = pc') (hml : c.maxLocals = Ls.size) {argsL : List Value} (has : (Value.ref a :: argsL).toArray = as') (hlen : ∀ sig, parseMethodDescriptor y.desc = some sig → argsL.length = sig.parameters.length) (hst : st = argsL.reverse ++ .ref a :: rest) (hW : (rest.map fun v => v.category).sum ≤ wd) (hc : cells + rc ≤ R.cells) (hs : slots + rs ≤ R.slots)
    (hq : ∀ v h' L, Q v h' L → Fr n0 L ∧ Keep h h' ws') (hws : ∀ x ∈ ws', x ∈ ws ∨ h0.size ≤ x)
    (k' : ∀ (v : Option Value) (T' : State) (h' : Heap) (L L' : List Loc), NK p l e R s m args below meth c Z own n0 h0 ws T' h' L' (cells + rc) (slots + rs) → Q v h' L → Keep h h' ws' → Go p e below G T' (mkF m pc' Ls (v.toList ++ rest))) : Go p e below G T (mkF m pc Ls st) := by
  subst hst has hp
  obtain ⟨cq, kq, qa, qb, qc⟩ := isOf W.2.2.2.1 W.2.2.1 E
  obtain ⟨v, vm1, ⟨T', L1, k1, n1⟩, -, X', ⟨L, hQ, e1, e2, e3⟩, stp⟩ := W.1.virtualBack W.2.1 (y := y) (z := z) W.2.2.2.2.1 (mvT W.2.2.2.1 w1) (mvT W.2.2.2.1 w2) (notFace_of_selects (args := #[]) (mvT W.2.2.2.1 w3')) (mvT W.2.2.2.1 w3) (mvT W.2.2.2.1 w4) hy hK qa qc (g := mkF m pc Ls (argsL.reverse ++ .ref a :: rest)) rfl hml.symm (Steps.refl _) (argsL := argsL) (rest := rest) hlen rfl (by show 2 * 0 + _ ≤ _; omega) hd (fun _ _ => ⟨rfl, W.2.2.1, hc, hs⟩)
  dsimp only [Pt.U, Pt.locs, Pt.cells, Pt.slots] at X' hQ e1 e2 e3 stp
  subst e1 e2 e3
  obtain ⟨N, K⟩ := hq _ _ _ hQ
  exact Go.tr stp (k' v T' _ L _ (W.called X' N K hws) hQ K)
end Heap1
section Pure1
variable {p : Program} {l : Launch} {e : Env} {R : Room} {s : State} {m : MethodId} {args : Array Value} {below : List Frame} {meth : Method} {c : Code} {Z : State} {own : String} {n0 : Nat} {h0 : Heap} {ws ws' : List Addr} {T T' : State} {h h' : Heap} {locs : List Loc} {cells slots : Nat} {G : State → Prop} {g g' : JFrame} {a0 : Array Value} {pc pc' : Nat} {Ls Ls' : Array Slot} {st rest : List Value}
/-- it returns w and leaves the heap as it was -/
abbrev Pu (w : Option Value) (h0 : Heap) : Option Value → Heap → Prop := fun v h' => v = w ∧ h' = h0
theorem NK.callSP (W : NK p l e R s m args below meth c Z own n0 h0 ws T h locs cells slots) {index : Nat} {y : MethodName} {bytes : ByteArray} {maxL : Nat} {ret : Option FieldType} (w1 : (Cond.methodLink own index y).before a0 Z = true) (w2 : (Cond.static y).before a0 Z = true) (w3 : (Cond.initialized y.cls).before a0 Z = true) (w4 : (Cond.code y bytes maxL ret).before a0 Z = true)
    (hy : y.cls ≠ "java/lang/invoke/MethodHandle" ∧ y.cls ≠ "java/lang/invoke/VarHandle") {wd rc rs : Nat} {as' : Array Value} {Q : Option Value → Heap → List Loc → Prop} (hK : BK l R p e below s args y 3 wd as' h rc rs Q) (hd : decode c.code pc = .ok (.invokestatic index, 3)) (hp : pc + 3 = pc') (hml : c.maxLocals = Ls.size) {argsL : List Value} (has : argsL.toArray = as') (hlen : ∀ sig, parseMethodDescriptor y.desc = some sig → argsL.length = sig.parameters.length) (hst : st = argsL.reverse ++ rest) (hW : (rest.map fun v => v.category).sum ≤ wd) (hc : cells + rc ≤ R.cells) (hs : slots + rs ≤ R.slots)
    {w : Option Value} (hq : ∀ v h' L, Q v h' L → Fr n0 L ∧ Pu w h v h')
    (k' : ∀ (T' : State) (L' : List Loc), NK p l e R s m args below meth c Z own n0 h0 ws T' h L' (cells + rc) (slots + rs) → Go p e below G T' (mkF m pc' Ls (w.toList ++ rest))) : Go p e below G T (mkF m pc Ls st) :=
  W.callS w1 w2 w3 w4 hy hK hd hp hml has hlen hst hW hc hs (ws' := []) (fun v h' L q => ⟨(hq v h' L q).1, by rw [(hq v h' L q).2.2]; exact Keep.refl _ _⟩) all0 (fun v T' h' L L' W' q _ => by
    obtain ⟨-, rfl, rfl⟩ := hq v h' L q
    exact k' T' L' W')
theorem NK.callIP (W : NK p l e R s m args below meth c Z own n0 h0 ws T h locs cells slots) {index : Nat} {y : MethodName} {bytes : ByteArray} {maxL : Nat} (hy1 : y.name = "<init>") (w1 : (Cond.methodLink own index y).before a0 Z = true) (w2 : (Cond.instanceMethod y).before a0 Z = true) (w4 : (Cond.code y bytes maxL none).before a0 Z = true)
    (hy : y.cls ≠ "java/lang/invoke/MethodHandle" ∧ y.cls ≠ "java/lang/invoke/VarHandle") {wd rc rs : Nat} {as' : Array Value} {Q : Option Value → Heap → List Loc → Prop} (hK : BK l R p e below s args y 3 wd as' h rc rs Q) (hd : decode c.code pc = .ok (.invokespecial index, 3)) (hp : pc + 3 = pc') (hml : c.maxLocals = Ls.size) {a : Addr} {argsL : List Value} (has : (Value.ref a :: argsL).toArray = as') (hlen : ∀ sig, parseMethodDescriptor y.desc = some sig → argsL.length = sig.parameters.length) (hst : st = argsL.reverse ++ .ref a :: rest) (hW : (rest.map fun v => v.category).sum ≤ wd) (hc : cells + rc ≤ R.cells) (hs : slots + rs ≤ R.slots)
    {w : Option Value} (hq : ∀ v h' L, Q v h' L → Fr n0 L ∧ Pu w h v h')
    (k' : ∀ (T' : State) (L' : List Loc), NK p l e R s m args below meth c Z own n0 h0 ws T' h L' (cells + rc) (slots + rs) → Go p e below G T' (mkF m pc' Ls (w.toList ++ rest))) : Go p e below G T (mkF m pc Ls st) :=
  W.callI hy1 w1 w2 w4 hy hK hd hp hml has hlen hst hW hc hs (ws' := []) (fun v h' L q => ⟨(hq v h' L q).1, by rw [(hq v h' L q).2.2]; exact Keep.refl _ _⟩) all0 (fun v T' h' L L' W' q _ => by
    obtain ⟨-, rfl, rfl⟩ := hq v h' L q
    exact k' T' L' W')
theorem NK.callVP (W : NK p l e R s m args below meth c Z own n0 h0 ws T h locs cells slots) {index : Nat} {C : String} {y z : MethodName} (w1 : (Cond.methodLink own index y).before a0 Z = true) (w2 : (Cond.declares y).before a0 Z = true) (w3 : (Cond.selects C y z).before a0 Z = true) {C' : String} (w3' : (Cond.selects C' y y).before a0 Z = true) (w4 : (Cond.instanceMethod z).before a0 Z = true)
    (hy : y.cls ≠ "java/lang/invoke/MethodHandle" ∧ y.cls ≠ "java/lang/invoke/VarHandle") {wd rc rs : Nat} {as' : Array Value} {Q : Option Value → Heap → List Loc → Prop} (hK : BK l R p e below s args z 3 wd as' h rc rs Q) {a : Addr} (E : Exa Z h a C) (hd : decode c.code pc = .ok (.invokevirtual index, 3)) (hp : pc + 3 = pc') (hml : c.maxLocals = Ls.size) {argsL : List Value} (has : (Value.ref a :: argsL).toArray = as') (hlen : ∀ sig, parseMethodDescriptor y.desc = some sig → argsL.length = sig.parameters.length) (hst : st = argsL.reverse ++ .ref a :: rest) (hW : (rest.map fun v => v.category).sum ≤ wd) (hc : cells + rc ≤ R.cells) (hs : slots + rs ≤ R.slots)
    {w : Option Value} (hq : ∀ v h' L, Q v h' L → Fr n0 L ∧ Pu w h v h')
    (k' : ∀ (T' : State) (L' : List Loc), NK p l e R s m args below meth c Z own n0 h0 ws T' h L' (cells + rc) (slots + rs) → Go p e below G T' (mkF m pc' Ls (w.toList ++ rest))) : Go p e below G T (mkF m pc Ls st) :=
  W.callV w1 w2 w3 w3' w4 hy hK E hd hp hml has hlen hst hW hc hs (ws' := []) (fun v h' L q => ⟨(hq v h' L q).1, by rw [(hq v h' L q).2.2]; exact Keep.refl _ _⟩) all0 (fun v T' h' L L' W' q _ => by
    obtain ⟨-, rfl, rfl⟩ := hq v h' L q
    exact k' T' L' W')
/-- what a pure contract's payer says -/
theorem pu_of {w : Option Value} {L : List Loc} {v : Option Value} (q : Pu w h v h' ∧ Keep h h' [] ∧ Fr n0 L) : Fr n0 L ∧ Pu w h v h' := ⟨q.2.2, q.1⟩
theorem pu_nil {w : Option Value} {L : List Loc} {v : Option Value} (q : v = w ∧ L = [] ∧ h' = h) : Fr n0 L ∧ Pu w h v h' := ⟨by rw [q.2.1]; exact Fr.nil n0, q.1, q.2.2⟩
end Pure1
section Small1
variable {p : Program} {l : Launch} {e : Env} {R : Room} {s : State} {m : MethodId} {args : Array Value} {below : List Frame} {meth : Method} {c : Code} {Z : State} {own : String} {n0 : Nat} {h0 : Heap} {ws : List Addr} {T : State} {h : Heap} {locs : List Loc} {cells slots : Nat}
theorem NK.n0h (W : NK p l e R s m args below meth c Z own n0 h0 ws T h locs cells slots) : n0 ≤ h.size := Nat.le_trans W.2.2.2.2.2.2.2.1 W.2.2.2.2.2.2.1.1
theorem mem0 {P : Int32 → Prop} : ∀ x ∈ ([] : List Int32), P x := fun _ q => nomatch q
theorem memS {P : Int32 → Prop} {y : Int32} {L : List Int32} (q : P y) (r : ∀ x ∈ L, P x) : ∀ x ∈ y :: L, P x := fun x z => (List.mem_cons.mp z).elim (fun u => u ▸ q) (r x)
variable {G : State → Prop} {a0 : Array Value} {pc pc' : Nat} {Ls : Array Slot} {rest : List Value}
theorem NK.instNull (W : NK p l e R s m args below meth c Z own n0 h0 ws T h locs cells slots) {index : Nat} (hd : decode c.code pc = .ok (.instanceof index, 3)) (hp : pc + 3 = pc') (k' : Go p e below G T (mkF m pc' Ls (.int 0 :: rest))) : Go p e below G T (mkF m pc Ls (.null :: rest)) := by
  subst hp
  exact Go.by1 (fun t q => W.1.instanceofNull W.2.1 (g := mkF m pc Ls (.null :: rest)) rfl rfl hd t q) k'
theorem NK.castNull (W : NK p l e R s m args below meth c Z own n0 h0 ws T h locs cells slots) {index : Nat} (hd : decode c.code pc = .ok (.checkcast index, 3)) (hp : pc + 3 = pc') (k' : Go p e below G T (mkF m pc' Ls (.null :: rest))) : Go p e below G T (mkF m pc Ls (.null :: rest)) := by
  subst hp
  exact Go.by1 (fun t q => W.1.checkcastNull W.2.1 (g := mkF m pc Ls (.null :: rest)) rfl rfl hd t q) k'
theorem NK.castY (W : NK p l e R s m args below meth c Z own n0 h0 ws T h locs cells slots) {K : String} {index : Nat} (w : (Cond.classLink own index K).before a0 Z = true) {a : Addr} (F : Ins Z h a K true) (hd : decode c.code pc = .ok (.checkcast index, 3)) (hp : pc + 3 = pc')
    (k' : ∀ T' : State, NK p l e R s m args below meth c Z own n0 h0 ws T' h locs cells slots → Go p e below G T' (mkF m pc' Ls (.ref a :: rest))) : Go p e below G T (mkF m pc Ls (.ref a :: rest)) := by
  obtain ⟨T', X', e', stp⟩ := RoadKit.castY W.1 W.2.1 W.2.2.2.1 W.2.2.2.2.1 w W.2.2.1 F (g := mkF m pc Ls (.ref a :: rest)) rfl rfl hd
  subst hp
  exact Go.by1 (fun t q => stp t q) (k' T' (W.moved X' e'))
theorem NK.instY (W : NK p l e R s m args below meth c Z own n0 h0 ws T h locs cells slots) {K : String} {index : Nat} (w : (Cond.classLink own index K).before a0 Z = true) {a : Addr} (F : Ins Z h a K true) (hd : decode c.code pc = .ok (.instanceof index, 3)) (hp : pc + 3 = pc')
    (k' : ∀ T' : State, NK p l e R s m args below meth c Z own n0 h0 ws T' h locs cells slots → Go p e below G T' (mkF m pc' Ls (.int 1 :: rest))) : Go p e below G T (mkF m pc Ls (.ref a :: rest)) := by
  obtain ⟨T', X', e', stp⟩ := RoadKit.instY W.1 W.2.1 W.2.2.2.1 W.2.2.2.2.1 w W.2.2.1 F (g := mkF m pc Ls (.ref a :: rest)) rfl rfl hd
  subst hp
  exact Go.by1 (fun t q => stp t q) (k' T' (W.moved X' e'))
end Small1
section Wide1
variable {p : Program} {l : Launch} {e : Env} {R : Room} {s : State} {m : MethodId} {args : Array Value} {below : List Frame} {meth : Method} {c : Code} {Z : State} {EL : List (String × Nat)} {own : String} {n0 : Nat} {h0 : Heap} {ws ws' : List Addr} {T T' : State} {h h' : Heap} {vm : Vm} {locs locs' : List Loc} {cells slots cells' slots' : Nat} {G : State → Prop} {g g' : JFrame} {a0 : Array Value} {pc pc' : Nat} {Ls Ls' : Array Slot} {st rest : List Value}
/-- the wide walk: NK over the start with the tables vm, which may have interned since -/
def WK (EL : List (String × Nat)) (p : Program) (l : Launch) (e : Env) (R : Room) (s : State) (m : MethodId) (args : Array Value) (below : List Frame) (meth : Method) (c : Code) (Z : State) (own : String) (n0 : Nat) (h0 : Heap) (ws : List Addr) (T : State) (h : Heap) (vm : Vm) (locs : List Loc) (cells slots : Nat) : Prop :=
  NK p l e R (s.setVm vm) m args below meth c Z own n0 h0 ws T h locs cells slots ∧ s.Since vm h.size ∧ CHr Z EL s.vm h0 vm h
theorem since_grow {n n' : Nat} (S : s.Since vm n) (q : n ≤ n') : s.Since vm n' := ⟨S.1, fun j p hj hp => ⟨(S.2 j p hj hp).1, Nat.lt_of_lt_of_le (S.2 j p hj hp).2 q⟩⟩
theorem WK.up (W : WK EL p l e R s m args below meth c Z own n0 h0 ws T h vm locs cells slots) (N : NK p l e R (s.setVm vm) m args below meth c Z own n0 h0 ws T' h' locs' cells' slots') (K : Keep h h' ws') (S : ∀ x ∈ ws', Safe Z EL vm h x) : WK EL p l e R s m args below meth c Z own n0 h0 ws T' h' vm locs' cells' slots' :=
  ⟨N, since_grow W.2.1 K.1, W.2.2.trans (CHr.keep K S W.2.2.1)⟩
theorem WK.upE (W : WK EL p l e R s m args below meth c Z own n0 h0 ws T h vm locs cells slots) (N : NK p l e R (s.setVm vm) m args below meth c Z own n0 h0 ws T' h' locs' cells' slots') (E : Ext h h') : WK EL p l e R s m args below meth c Z own n0 h0 ws T' h' vm locs' cells' slots' :=
  ⟨N, since_grow W.2.1 E.1, W.2.2.trans (CHr.ext E W.2.2.1)⟩
theorem WK.same (W : WK EL p l e R s m args below meth c Z own n0 h0 ws T h vm locs cells slots) (N : NK p l e R (s.setVm vm) m args below meth c Z own n0 h0 ws T' h locs' cells' slots') : WK EL p l e R s m args below meth c Z own n0 h0 ws T' h vm locs' cells' slots' := ⟨N, W.2⟩
/-- a fresh cell is no booked one -/
theorem WK.safeNew (W : WK EL p l e R s m args below meth c Z own n0 h0 ws T h vm locs cells slots) {a : Addr} (ha : a = h.size) (E : Ext h h') : Safe Z EL vm h' a := Safe.ext E W.2.2.1 (Safe.new (Nat.le_of_eq ha.symm))
theorem WK.safeE (W : WK EL p l e R s m args below meth c Z own n0 h0 ws T h vm locs cells slots) {a : Addr} (S : Safe Z EL vm h a) (E : Ext h h') : Safe Z EL vm h' a := Safe.ext E W.2.2.1 S
theorem WK.safeK (W : WK EL p l e R s m args below meth c Z own n0 h0 ws T h vm locs cells slots) {a : Addr} (S : Safe Z EL vm h a) (K : Keep h h' ws') (hs : ∀ x ∈ ws', Safe Z EL vm h x) : Safe Z EL vm h' a := Safe.keep K hs W.2.2.1 S
def WM (l : Launch) (y : MethodName) (bytes : ByteArray) (maxL : Nat) (ret : Option FieldType) (xs : List Cond) (R : Room) (Z : State) (EL : List (String × Nat)) (n0 : Nat) (as' : Array Value) (h0 : Heap) (ws : List Addr) (P : Option Value → Heap → Prop) : Prop :=
  MetFree l y (head1 (Cond.code y bytes maxL ret :: xs) R) (fun a U => a = as' ∧ Z.Warmed39 U.vm ∧ U.heap = h0 ∧ CHv Z EL U.vm h0) (fun _ _ _ _ _ => True) (fun _ U o U' => ∃ v L, o = .returned v ∧ (P v U'.heap ∧ Keep h0 U'.heap ws ∧ Fr n0 L) ∧ CHr Z EL U.vm U.heap U'.vm U'.heap ∧ ReturnedEndW U o U' L R.cells R.slots)
def EndW (Z : State) (EL : List (String × Nat)) (n0 : Nat) (R : Room) (s : State) (below : List Frame) (P : Option Value → Heap → Prop) (h0 : Heap) (ws : List Addr) (t : State) : Prop :=
  ∃ o, t.status = .running ∧ Ended t below o ∧ ∃ v L, o = .returned v ∧ (P v t.heap ∧ Keep h0 t.heap ws ∧ Fr n0 L) ∧ CHr Z EL s.vm h0 t.vm t.heap ∧ ReturnedEndW s o t L R.cells R.slots
theorem WM.walk {y : MethodName} {bytes : ByteArray} {maxL : Nat} {ret : Option FieldType} {xs : List Cond} {as' : Array Value} {P : Option Value → Heap → Prop} (hpl : plainFor y = true) (hn : n0 ≤ h0.size) (ef : ∀ m, entryFrame m as' maxL = mkF m 0 Ls [])
    (body : ∀ (p : Program) (e : Env) (s : State) (m : MethodId) (below : List Frame) (meth : Method) (c : Code) (s₁ : State), c.code = bytes → c.maxLocals = maxL → meth.sig.returnType = ret → meth.name = y.name → WK EL p l e R s m as' below meth c Z y.cls n0 h0 ws s₁ h0 s.vm [] 0 0 → Go p e below (EndW Z EL n0 R s below P h0 ws) s₁ (mkF m 0 Ls [])) : WM l y bytes maxL ret xs R Z EL n0 as' h0 ws P := by
  refine MetFree.of_bodySF hpl hisR ?_
  intro p e s m args below meth c s₁ Bd hml0 hP hK
  obtain ⟨rfl, hZ, hh, hC⟩ := hP
  have X0 : Stand p l e R s m args below meth c s₁ [] 0 0 := Stand.of_body Bd
  have e0 : s₁.heap = h0 := by rw [← hh, Bd.state]; rfl
  have N0 : NK p l e R (s.setVm s.vm) m args below meth c Z y.cls n0 h0 ws s₁ h0 [] 0 0 := ⟨X0, Bd.exec, e0, hZ, findClass_of_methodNamed Bd.named, Fr.nil n0, Keep.refl _ _, hn, BodyLoose.notSynchronized Bd⟩
  obtain ⟨t, a, o, r1, r2, v, L, q1, q2, q3, q4⟩ := body p e s m below meth c s₁ Bd.bytes hml0 Bd.returns (name_of_methodNamed Bd.named Bd.method).1 ⟨N0, (State.WarmedH.refl s).since _, CHr.refl hC⟩
  exact ⟨t, o, castTop (ef m) a, r1, r2, v, L, q1, q2, by rw [hh]; exact q3, q4⟩
theorem WK.ends (W : WK EL p l e R s m args below meth c Z own n0 h0 ws T h vm locs cells slots) (hEL : EW Z a0 EL) {P : Option Value → Heap → Prop} {v : Option Value} (hv : meth.sig.returnType = none → v = none) (hc : cells ≤ R.cells) (hs : slots ≤ R.slots) (hP : P v h)
    (stp : ∀ fs, (∀ (f : JFrame) (acts : List Action), f.method = m → f.locked = none → f.entered = [] → (doReturn e (T.setTop f) acts v).1 = T.setFrames fs) → Steps p.tables e below (T.setTop g) (T.setFrames fs)) : Go p e below (EndW Z EL n0 R s below P h0 ws) T g := by
  obtain ⟨⟨X, hx, eT, hZ, hown, N, K, hn0, hlk⟩, S, C⟩ := W
  obtain ⟨fs, hr, hrun, hended, hW, hsame⟩ := X.leave hv hlk
  have e1 : (T.setFrames fs).heap = h := eT
  obtain ⟨q1, q2, q3⟩ := S.ended hW (by rw [e1]; exact Nat.le_refl _) hsame
  refine ⟨_, stp fs hr, _, hrun, hended, _, _, rfl, ?_, ?_, ⟨_, rfl⟩, q1, q2, q3.mono hc hs⟩
  · rw [e1]; exact ⟨hP, K, N⟩
  · rw [e1]
    have A := CHv.at X hZ hEL C.1
    exact C.trans A
theorem WK.ret (W : WK EL p l e R s m args below meth c Z own n0 h0 ws T h vm locs cells slots) (hEL : EW Z a0 EL) {P : Option Value → Heap → Prop} {w : Value} {t : FieldType} {i : Instr} (hret : meth.sig.returnType = some t) (hn : narrow t w = w)
    (hi : (i = .ireturn ∧ (t = .int ∨ t = .boolean ∨ t = .byte ∨ t = .char ∨ t = .short) ∧ ∃ z, w = .int z) ∨ (i = .lreturn ∧ t = .long ∧ ∃ z, w = .long z) ∨ (i = .dreturn ∧ t = .double ∧ ∃ z, w = .double z) ∨ (i = .freturn ∧ t = .float ∧ ∃ z, w = .float z) ∨ (i = .areturn ∧ t.isReference = true ∧ w.isRef = true))
    (hd : decode c.code pc = .ok (i, 1)) (hc : cells ≤ R.cells) (hs : slots ≤ R.slots) (hP : P (some w) h) : Go p e below (EndW Z EL n0 R s below P h0 ws) T (mkF m pc Ls (w :: rest)) :=
  W.ends hEL (fun h => by rw [hret] at h; cases h) hc hs hP (fun fs hr => retOut W.1.1 W.1.2.1 hret hn hi hd hr)
theorem WK.retI (W : WK EL p l e R s m args below meth c Z own n0 h0 ws T h vm locs cells slots) (hEL : EW Z a0 EL) {P : Option Value → Heap → Prop} {z : Int32} (hret : meth.sig.returnType = some .int) (hd : decode c.code pc = .ok (.ireturn, 1)) (hc : cells ≤ R.cells) (hs : slots ≤ R.slots) (hP : P (some (.int z)) h) : Go p e below (EndW Z EL n0 R s below P h0 ws) T (mkF m pc Ls (.int z :: rest)) :=
  W.ret hEL hret rfl (Or.inl ⟨rfl, Or.inl rfl, _, rfl⟩) hd hc hs hP
theorem WK.retZ (W : WK EL p l e R s m args below meth c Z own n0 h0 ws T h vm locs cells slots) (hEL : EW Z a0 EL) {P : Option Value → Heap → Prop} {z : Int32} (hret : meth.sig.returnType = some .boolean) (hd : decode c.code pc = .ok (.ireturn, 1)) (hz : z = 0 ∨ z = 1) (hc : cells ≤ R.cells) (hs : slots ≤ R.slots) (hP : P (some (.int z)) h) : Go p e below (EndW Z EL n0 R s below P h0 ws) T (mkF m pc Ls (.int z :: rest)) :=
  W.ret hEL hret (by rcases hz with rfl | rfl <;> rfl) (Or.inl ⟨rfl, Or.inr (Or.inl rfl), _, rfl⟩) hd hc hs hP
theorem WK.retC (W : WK EL p l e R s m args below meth c Z own n0 h0 ws T h vm locs cells slots) (hEL : EW Z a0 EL) {P : Option Value → Heap → Prop} {z : Int32} (hret : meth.sig.returnType = some .char) (hd : decode c.code pc = .ok (.ireturn, 1)) (hz : narrow .char (.int z) = .int z) (hc : cells ≤ R.cells) (hs : slots ≤ R.slots) (hP : P (some (.int z)) h) : Go p e below (EndW Z EL n0 R s below P h0 ws) T (mkF m pc Ls (.int z :: rest)) :=
  W.ret hEL hret hz (Or.inl ⟨rfl, Or.inr (Or.inr (Or.inr (Or.inl rfl))), _, rfl⟩) hd hc hs hP
theorem WK.retJ (W : WK EL p l e R s m args below meth c Z own n0 h0 ws T h vm locs cells slots) (hEL : EW Z a0 EL) {P : Option Value → Heap → Prop} {z : Int64} (hret : meth.sig.returnType = some .long) (hd : decode c.code pc = .ok (.lreturn, 1)) (hc : cells ≤ R.cells) (hs : slots ≤ R.slots) (hP : P (some (.long z)) h) : Go p e below (EndW Z EL n0 R s below P h0 ws) T (mkF m pc Ls (.long z :: rest)) :=
  W.ret hEL hret rfl (Or.inr (Or.inl ⟨rfl, rfl, _, rfl⟩)) hd hc hs hP
theorem WK.retA (W : WK EL p l e R s m args below meth c Z own n0 h0 ws T h vm locs cells slots) (hEL : EW Z a0 EL) {P : Option Value → Heap → Prop} {w : Value} {t : FieldType} (hret : meth.sig.returnType = some t) (ht : t.isReference = true) (hw : w.isRef = true) (hd : decode c.code pc = .ok (.areturn, 1)) (hc : cells ≤ R.cells) (hs : slots ≤ R.slots) (hP : P (some w) h) : Go p e below (EndW Z EL n0 R s below P h0 ws) T (mkF m pc Ls (w :: rest)) :=
  W.ret hEL hret (by cases t <;> cases w <;> first | rfl | (simp [FieldType.isReference, Value.isRef] at ht hw)) (Or.inr (Or.inr (Or.inr (Or.inr ⟨rfl, ht, hw⟩)))) hd hc hs hP
theorem WK.retV (W : WK EL p l e R s m args below meth c Z own n0 h0 ws T h vm locs cells slots) (hEL : EW Z a0 EL) {P : Option Value → Heap → Prop} (hret : meth.sig.returnType = none) (hd : decode c.code pc = .ok (.return_, 1)) (hc : cells ≤ R.cells) (hs : slots ≤ R.slots) (hP : P none h) : Go p e below (EndW Z EL n0 R s below P h0 ws) T (mkF m pc Ls []) :=
  W.ends hEL (fun _ => rfl) hc hs hP (fun fs hr => W.1.1.returnOut W.1.2.1 hret hd hr)
/-- a wide payer -/
abbrev BKS (EL : List (String × Nat)) (l : Launch) (R : Room) (p : Program) (e : Env) (below : List Frame) (s : State) (args : Array Value) (Z : State) (vm : Vm) (y : MethodName) (len wd : Nat) (as' : Array Value) (h : Heap) (rc rs : Nat) (Q : Option Value → Heap → List Loc → Prop) : Prop :=
  BackS l R p e below (s.setVm vm) args y len wd (fun A a => a = as' ∧ A.U.heap = h ∧ A.cells + rc ≤ R.cells ∧ A.slots + rs ≤ R.slots) (fun A _ v B => ∃ L, Q v B.U.heap L ∧ B.locs = A.locs ++ L ∧ B.cells = A.cells + rc ∧ B.slots = A.slots + rs ∧ CHr Z EL vm h B.U.vm B.U.heap)
theorem WM.bk {y : MethodName} {bytes : ByteArray} {maxL : Nat} {ret : Option FieldType} {rm : Room} {as' : Array Value} {P : Option Value → Heap → Prop} {len wd : Nat} (hM : WM l y bytes maxL ret [] rm Z EL n0 as' h ws' P) (hZ : Z.Warmed39 vm) (wc : (Cond.code y bytes maxL ret).before a0 Z = true) (wz : (Cond.initialized y.cls).before a0 Z = true) (hf : rm.frames + 1 ≤ R.frames) (hl : wd + (maxL + 11) + rm.locals ≤ R.locals) (hEL : EW Z a0 EL) (H : CHv Z EL vm h) :
    BKS EL l R p e below s args Z vm y len wd as' h rm.cells rm.slots (fun v h' L => P v h' ∧ Keep h h' ws' ∧ Fr n0 L) := backOfSH (Q := fun v h' L => P v h' ∧ Keep h h' ws' ∧ Fr n0 L) hM hZ wc wz hf hl hEL H
theorem WK.called (W : WK EL p l e R s m args below meth c Z own n0 h0 ws T h vm locs cells slots) {L : List Loc} {T' : State} {c2 s2 : Nat} (X' : Stand p l e R ((s.setVm vm).setVm T'.vm) m args below meth c T' (locs ++ L) c2 s2) (S' : (s.setVm vm).Since T'.vm T'.heap.size) (gr : h.size ≤ T'.heap.size) (C' : CHr Z EL vm h T'.vm T'.heap) (N : Fr n0 L) (K : Keep h T'.heap ws') (hws : ∀ x ∈ ws', x ∈ ws ∨ h0.size ≤ x) :
    WK EL p l e R s m args below meth c Z own n0 h0 ws T' T'.heap T'.vm (locs ++ L) c2 s2 := by
  obtain ⟨⟨X, hx, eT, hZ, hown, N0, K0, hn0, hlk⟩, S, C⟩ := W
  have hZ' : Z.Warmed39 T'.vm := State.Warmed39.trans (t := s.setVm vm) hZ S'.1
  have ho : T'.vm.findClass own = some m.cls := by rw [S'.1.alike.findClass]; exact hown
  exact ⟨⟨X', hx, rfl, hZ', ho, Fr.app N0 N, K0.trans K hws, hn0, hlk⟩, S.trans S' gr, C.trans C'⟩
theorem WK.callS (W : WK EL p l e R s m args below meth c Z own n0 h0 ws T h vm locs cells slots) {index : Nat} {y : MethodName} {bytes : ByteArray} {maxL : Nat} {ret : Option FieldType} (w1 : (Cond.methodLink own index y).before a0 Z = true) (w2 : (Cond.static y).before a0 Z = true) (w3 : (Cond.initialized y.cls).before a0 Z = true) (w4 : (Cond.code y bytes maxL ret).before a0 Z = true)
    (hy : y.cls ≠ "java/lang/invoke/MethodHandle" ∧ y.cls ≠ "java/lang/invoke/VarHandle") {wd rc rs : Nat} {as' : Array Value} {Q : Option Value → Heap → List Loc → Prop} (hK : BKS EL l R p e below s args Z vm y 3 wd as' h rc rs Q) (hd : decode c.code pc = .ok (.invokestatic index, 3)) (hp : pc + 3 = pc') (hml : c.maxLocals = Ls.size) {argsL : List Value} (has : argsL.toArray = as') (hlen : ∀ sig, parseMethodDescriptor y.desc = some sig → argsL.length = sig.parameters.length) (hst : st = argsL.reverse ++ rest) (hW : (rest.map fun v => v.category).sum ≤ wd) (hc : cells + rc ≤ R.cells) (hs : slots + rs ≤ R.slots)
    (hq : ∀ v h' L, Q v h' L → Fr n0 L ∧ Keep h h' ws') (hws : ∀ x ∈ ws', x ∈ ws ∨ h0.size ≤ x)
    (k' : ∀ (v : Option Value) (T' : State) (h' : Heap) (vm' : Vm) (L L' : List Loc), WK EL p l e R s m args below meth c Z own n0 h0 ws T' h' vm' L' (cells + rc) (slots + rs) → Q v h' L → Keep h h' ws' → CHr Z EL vm h vm' h' → Go p e below G T' (mkF m pc' Ls (v.toList ++ rest))) : Go p e below G T (mkF m pc Ls st) := by
  subst hst has hp
  obtain ⟨v, vm1, ⟨T', L1, k1, n1⟩, -, X', S', gr, ⟨L, hQ, e1, e2, e3, C'⟩, stp⟩ := callSS W.1.1 W.1.2.1 W.1.2.2.2.2.1 (mvT W.1.2.2.2.1 w1) (mvT W.1.2.2.2.1 w2) (mvT W.1.2.2.2.1 w3) (mvT W.1.2.2.2.1 w4) hy hK (g := mkF m pc Ls (argsL.reverse ++ rest)) rfl hml.symm (argsL := argsL) (rest := rest) hlen rfl (by show 2 * 0 + _ ≤ _; omega) hd (fun _ _ => ⟨rfl, W.1.2.2.1, hc, hs⟩)
  dsimp only [Pt.U, Pt.locs, Pt.cells, Pt.slots] at X' hQ e1 e2 e3 stp S' gr C'
  subst e1 e2 e3
  obtain ⟨N, K⟩ := hq _ _ _ hQ
  exact Go.tr stp (k' v T' _ _ L _ (W.called X' S' K.1 C' N K hws) hQ K C')
theorem WK.callI (W : WK EL p l e R s m args below meth c Z own n0 h0 ws T h vm locs cells slots) {index : Nat} {y : MethodName} {bytes : ByteArray} {maxL : Nat} (hy1 : y.name = "<init>") (w1 : (Cond.methodLink own index y).before a0 Z = true) (w2 : (Cond.instanceMethod y).before a0 Z = true) (w4 : (Cond.code y bytes maxL none).before a0 Z = true)
    (hy : y.cls ≠ "java/lang/invoke/MethodHandle" ∧ y.cls ≠ "java/lang/invoke/VarHandle") {wd rc rs : Nat} {as' : Array Value} {Q : Option Value → Heap → List Loc → Prop} (hK : BKS EL l R p e below s args Z vm y 3 wd as' h rc rs Q) (hd : decode c.code pc = .ok (.invokespecial index, 3)) (hp : pc + 3 = pc') (hml : c.maxLocals = Ls.size) {a : Addr} {argsL : List Value} (has : (Value.ref a :: argsL).toArray = as') (hlen : ∀ sig, parseMethodDescriptor y.desc = some sig → argsL.length = sig.parameters.length) (hst : st = argsL.reverse ++ .ref a :: rest) (hW : (rest.map fun v => v.category).sum ≤ wd) (hc : cells + rc ≤ R.cells) (hs : slots + rs ≤ R.slots)
    (hq : ∀ v h' L, Q v h' L → Fr n0 L ∧ Keep h h' ws') (hws : ∀ x ∈ ws', x ∈ ws ∨ h0.size ≤ x)
    (k' : ∀ (v : Option Value) (T' : State) (h' : Heap) (vm' : Vm) (L L' : List Loc), WK EL p l e R s m args below meth c Z own n0 h0 ws T' h' vm' L' (cells + rc) (slots + rs) → Q v h' L → Keep h h' ws' → CHr Z EL vm h vm' h' → Go p e below G T' (mkF m pc' Ls (v.toList ++ rest))) : Go p e below G T (mkF m pc Ls st) := by
  subst hst has hp
  obtain ⟨v, vm1, ⟨T', L1, k1, n1⟩, -, X', S', gr, ⟨L, hQ, e1, e2, e3, C'⟩, stp⟩ := W.1.1.specialBackS W.1.2.1 hy1 W.1.2.2.2.2.1 (mvT W.1.2.2.2.1 w1) (mvT W.1.2.2.2.1 w2) (mvT W.1.2.2.2.1 w4) hy hK (g := mkF m pc Ls (argsL.reverse ++ .ref a :: rest)) rfl hml.symm (Steps.refl _) (a := a) (argsL := argsL) (rest := rest) hlen rfl (by show 2 * 0 + _ ≤ _; omega) hd (fun _ _ => ⟨rfl, W.1.2.2.1, hc, hs⟩)
  dsimp only [Pt.U, Pt.locs, Pt.cells, Pt.slots] at X' hQ e1 e2 e3 stp S' gr C'
  subst e1 e2 e3
  obtain ⟨N, K⟩ := hq _ _ _ hQ
  exact Go.tr stp (k' v T' _ _ L _ (W.called X' S' K.1 C' N K hws) hQ K C')
theorem WK.callV (W : WK EL p l e R s m args below meth c Z own n0 h0 ws T h vm locs cells slots) {index : Nat} {C : String} {y z : MethodName} (w1 : (Cond.methodLink own index y).before a0 Z = true) (w2 : (Cond.declares y).before a0 Z = true) (w3 : (Cond.selects C y z).before a0 Z = true) {C' : String} (w3' : (Cond.selects C' y y).before a0 Z = true) (w4 : (Cond.instanceMethod z).before a0 Z = true)
    (hy : y.cls ≠ "java/lang/invoke/MethodHandle" ∧ y.cls ≠ "java/lang/invoke/VarHandle") {wd rc rs : Nat} {as' : Array Value} {Q : Option Value → Heap → List Loc → Prop} (hK : BKS EL l R p e below s args Z vm z 3 wd as' h rc rs Q) {a : Addr} (E : Exa Z h a C) (hd : decode c.code pc = .ok (.invokevirtual index, 3)) (hp : pc + 3 = pc') (hml : c.maxLocals = Ls.size) {argsL : List Value} (has : (Value.ref a :: argsL).toArray = as') (hlen : ∀ sig, parseMethodDescriptor y.desc = some sig → argsL.length = sig.parameters.length) (hst : st = argsL.reverse ++ .ref a :: rest) (hW : (rest.map fun v => v.category).sum ≤ wd) (hc : cells + rc ≤ R.cells) (hs : slots + rs ≤ R.slots)
    (hq : ∀ v h' L, Q v h' L → Fr n0 L ∧ Keep h h' ws') (hws : ∀ x ∈ ws', x ∈ ws ∨ h0.size ≤ x)
    (k' : ∀ (v : Option Value) (T' : State) (h' : Heap) (vm' : Vm) (L L' : List Loc), WK EL p l e R s m args below meth c Z own n0 h0 ws T' h' vm' L' (cells + rc) (slots + rs) → Q v h' L → Keep h h' ws' → CHr Z EL vm h vm' h' → Go p e below G T' (mkF m pc' Ls (v.toList ++ rest))) : Go p e below G T (mkF m pc Ls st) := by
  subst hst has hp
  obtain ⟨cq, kq, qa, qb, qc⟩ := isOf W.1.2.2.2.1 W.1.2.2.1 E
  obtain ⟨v, vm1, ⟨T', L1, k1, n1⟩, -, X', S', gr, ⟨L, hQ, e1, e2, e3, C'⟩, stp⟩ := W.1.1.virtualBackS W.1.2.1 (y := y) (z := z) W.1.2.2.2.2.1 (mvT W.1.2.2.2.1 w1) (mvT W.1.2.2.2.1 w2) (notFace_of_selects (args := #[]) (mvT W.1.2.2.2.1 w3')) (mvT W.1.2.2.2.1 w3) (mvT W.1.2.2.2.1 w4) hy hK qa qc (g := mkF m pc Ls (argsL.reverse ++ .ref a :: rest)) rfl hml.symm (Steps.refl _) (argsL := argsL) (rest := rest) hlen rfl (by show 2 * 0 + _ ≤ _; omega) hd (fun _ _ => ⟨rfl, W.1.2.2.1, hc, hs⟩)
  dsimp only [Pt.U, Pt.locs, Pt.cells, Pt.slots] at X' hQ e1 e2 e3 stp S' gr C'
  subst e1 e2 e3
  obtain ⟨N, K⟩ := hq _ _ _ hQ
  exact Go.tr stp (k' v T' _ _ L _ (W.called X' S' K.1 C' N K hws) hQ K C')
/-- a String whose value is null is no booked one -/
theorem safe_null {x : Addr} (hal : Z.vm.Alike vm) (E : Exa Z h x "java/lang/String") (F : Fld Z h x "java/lang/String" "value" "[B" .null) : Safe Z EL vm h x := fun B => by
  obtain ⟨q0, -, u, a, -, q, -, S, rfl | rfl⟩ := B
  · obtain ⟨cell, cf, k, i, f, f1, f2, -, -, -, -, f7⟩ := F
    cases (show h[q.sa]? = some q.sC from S.ha).symm.trans f1
    obtain ⟨cS, ⟨⟨-, -, -, ⟨c1, k1, i1, g1, -⟩, -, -, -, v1, -⟩, -⟩, -⟩ := S
    obtain ⟨k3, e3⟩ := ff_back (U := Wst Z vm h) hal g1
    cases f2.symm.trans e3
    rw [f7] at v1; cases v1
  · obtain ⟨cell, k, e1, e2, e3, -, -⟩ := E
    cases (show h[q.sd]? = some q.SA from S.hd).symm.trans e1
    obtain ⟨cS, -, -, f, -⟩ := S
    have f' : vm.findClass "[B" = some q.SA.cls := f
    rw [hal.findClass] at f'
    obtain ⟨k1, q1, q2⟩ := Vm.findClass_spec f'
    obtain ⟨k2, q3, q4⟩ := Vm.findClass_spec e2
    cases q1.symm.trans q3
    exact absurd (q2.symm.trans q4) (by decide)
/-- ldc of a String constant of EL -/
theorem WK.ldcS (W : WK EL p l e R s m args below meth c Z own n0 h0 ws T h vm locs cells slots) (hEL : EW Z a0 EL) {text : String} {index : Nat} (w : (Cond.stringLink own index text).before a0 Z = true) (wS : ∀ a ∈ Bundle.stringAtoms, a.before a0 Z = true) (hmem : (own, index) ∈ EL) {vs : List Value} {z : Int32} (ht : (∀ c ∈ text.toList, c.toNat < 256) ∧ text.toList.map (fun c => Value.int (Jvm.Lit.byteI c.toNat.toUInt16)) = vs) (hz : ¬ z < 0) (hl : z.toNatClampNeg = vs.length)
    (hd : decode c.code pc = .ok (.ldc index, 2)) (hp : pc + 2 = pc') {n : Nat} (hn : 4 * text.toList.length ≤ n) (hbig : n ≤ 536870912) (hc : cells + 2 ≤ R.cells) (hs : slots + (n + 4) ≤ R.slots)
    (k' : ∀ (T' : State) (h' : Heap) (vm' : Vm) (a b : Addr) (kb : ClassId), WK EL p l e R s m args below meth c Z own n0 h0 ws T' h' vm' locs (cells + 2) (slots + (n + 4)) → Ext h h' → CHr Z EL vm h vm' h' → Exa Z h' a "java/lang/String" → Fld Z h' a "java/lang/String" "coder" "B" (.int 0) → Fld Z h' a "java/lang/String" "value" "[B" (.ref b) → Arv Z h' b kb .byte z vs (.int 0) → (∀ x, Safe Z EL vm' h' x → x ≠ a ∧ x ≠ b) → Go p e below G T' (mkF m pc' Ls (.ref a :: st))) : Go p e below G T (mkF m pc Ls st) := by
  obtain ⟨⟨X, hx, eT, hZ, hown, N0, K0, hn0, hlk⟩, S, C⟩ := W
  obtain ⟨a, T', h', k1, b, kb, X', e', E, S', hk, hZ', ho, F1, F2, F3, F4, -, -, C', -, hne, stp⟩ := ldcCH X hx hZ hown w wS eT S (Nat.le_refl _) hEL hmem C.1 ht hz hl (g := mkF m pc Ls st) rfl hd hn hbig hc hs
  subst hp
  exact Go.by1 (fun t q => stp t q) (k' T' h' T'.vm a b kb ⟨⟨X', hx, e', hZ', ho, N0, K0.ext E, hn0, hlk⟩, since_grow S' hk, C.trans C'⟩ E C' F1 F2 F3 F4 hne)
end Wide1
section Str1
variable {p : Program} {l : Launch} {e : Env} {R : Room} {s : State} {args : Array Value} {below : List Frame} {Z : State} {h h' : Heap} {a : Addr} {cs : List Int32} {a0 : Array Value} {len wd : Nat}
/-- the object at a is a String whose chars are cs -/
def StrA (Z : State) (h : Heap) (a : Addr) (cs : List Int32) : Prop := Exa Z h a "java/lang/String" ∧ (∀ c ∈ cs, ¬ c < 0 ∧ ¬ (65535 : Int32) < c) ∧ cs.length ≤ 4000 ∧ ∃ (t : Addr) (kb : ClassId) (cd N2 : Int32) (vs : List Value), Fld Z h a "java/lang/String" "value" "[B" (.ref t) ∧ Fld Z h a "java/lang/String" "coder" "B" (.int cd) ∧ Arv Z h t kb .byte N2 vs (.int 0) ∧ StrChars.Road.CodA cs cd N2 vs
theorem StrA.ext (F : StrA Z h a cs) (E : Ext h h') : StrA Z h' a cs := by
  obtain ⟨f, b, n, t, kb, cd, N2, vs, v, c, k, q⟩ := F
  exact ⟨f.ext E, b, n, t, kb, cd, N2, vs, v.ext E, c.ext E, k.ext E, q⟩
theorem lat_up {c : Int32} (q : ¬ c < 0 ∧ ¬ (255 : Int32) < c) : ¬ c < 0 ∧ ¬ (65535 : Int32) < c := ⟨q.1, fun z => q.2 (Int32.lt_trans (by decide) z)⟩
theorem StrA.make {t : Addr} {kb : ClassId} {N : Int32} (A : Exa Z h a "java/lang/String") (B : Fld Z h a "java/lang/String" "coder" "B" (.int 0)) (V : Fld Z h a "java/lang/String" "value" "[B" (.ref t)) (K : Arv Z h t kb .byte N ((cs.map (fun c => c.toInt8.toInt32)).map Value.int) (.int 0)) (hN : N = Int32.ofNat cs.length) (hl : cs.length ≤ 4000) (hp : ∀ c ∈ cs, ¬ c < 0 ∧ ¬ (255 : Int32) < c) : StrA Z h a cs :=
  ⟨A, fun c hc => lat_up (hp c hc), hl, t, kb, 0, N, _, V, B, K, by rw [hN]; exact StrChars.Road.codOf rfl (fun c hc => (hp c hc).2)⟩
theorem StrA.keepExa {x : Addr} {C : String} {k : Nat} (F : StrA Z h a cs) (K : Keep h h' [x]) (X : Exa Z h x C) (hC : C ≠ "java/lang/String") (wi : (Jvm.Cond.instantiable C k).before a0 Z = true) : StrA Z h' a cs := by
  obtain ⟨f, b, n, t, kb, cd, N2, vs, v, c, q, r⟩ := F
  have n1 : a ≠ x := ne_exa f X (fun z => hC z.symm)
  have n2 : t ≠ x := fun z => Exa.neArv X q wi z.symm
  exact ⟨f.keep K, b, n, t, kb, cd, N2, vs, v.keep K (ninS n1 nin0), c.keep K (ninS n1 nin0), q.keep K (ninS n2 nin0), r⟩
theorem Sta.keepExa {x : Addr} {C O n d : String} {v : Value} (F : Sta Z h O n d v) (K : Keep h h' [x]) (X : Exa Z h x C) : Sta Z h' O n d v := by
  obtain ⟨cf, i, k, f, st, cell, h1, h2, h3, h4, h5, h6, h7⟩ := F
  obtain ⟨cx, kx, x1, -, -, x4, -⟩ := X
  have ne : st ≠ x := fun z => by
    subst z
    cases h5.symm.trans x1
    rw [h6] at x4; cases x4
  exact ⟨cf, i, k, f, st, cell, h1, h2, h3, h4, K.2.1 _ _ h5 (ninS ne nin0), h6, h7⟩
end Str1
section Str4
variable {p : Program} {l : Launch} {e : Env} {R : Room} {s : State} {args : Array Value} {below : List Frame} {Z : State} {h h' : Heap} {a b : Addr} {cs ds : List Int32} {a0 : Array Value} {len wd : Nat} {z : Int32}
theorem hwEq : ∀ d ∈ StrChars.Road.wordsEq, d ∈ tables_1 := by decide +kernel
theorem StrA.eq (F : StrA Z h a cs) (F' : StrA Z h b ds) (hZ : Z.Warmed39 s.vm) (hw : ∀ d ∈ tables_1, d.before a0 Z = true) (wi : (Jvm.Cond.instantiable "java/lang/String" 4).before a0 Z = true) (S : Sta Z h "java/lang/String" "COMPACT_STRINGS" "Z" (.int z)) (hz : ¬ z = 0) (hfr : 2 ≤ R.frames) (hlo : wd + 28 ≤ R.locals) :
    BK l R p e below s args (⟨"java/lang/String", "equals", "(Ljava/lang/Object;)Z"⟩ : MethodName) len wd #[.ref a, .ref b] h 0 0 (fun v h' L => v = some (.int (if cs = ds then 1 else 0)) ∧ L = [] ∧ h' = h) := by
  obtain ⟨f, q, n, t, kb, cd, N2, vs, v, c, k, r⟩ := F
  obtain ⟨f', q', n', t', kb', cd', N2', vs', v', c', k', r'⟩ := F'
  refine Back.mono (StrChars.Road.eqW hZ (fun d hd => hw d (hwEq d hd)) (kI := 4) wi f v c k r q n f' v' c' k' r' q' n' S hz hfr hlo) (fun A a hp => hp) (fun A a v B hp hq => ?_)
  obtain ⟨L, ⟨h1, h2, h3⟩, h4⟩ := hq
  refine ⟨L, ⟨?_, h2, h3⟩, h4⟩
  rcases h1 with ⟨e1, e2⟩ | ⟨e1, e2⟩
  · rw [e1, if_pos e2]
  · rw [e1, if_neg e2]
end Str4
end Own
open Own
--CUT base
theorem constHeld_of {s : State} {own : String} {index : Nat} (h : constHeld s own index) : Jvm.Lit.constHeld s own index := h
theorem hwAtoms : ∀ d ∈ Bundle.stringAtoms, d ∈ tables_1 := by decide +kernel
theorem hwords : ∀ d ∈ StrChars.Road.words, d ∈ tables_1 := by decide +kernel
def kindF (q : Int32) (s0 s1 s2 s3 s4 s5 s6 s7 s8 s9 s10 s11 s12 : Addr) : Addr := (if q = (0 : Int32) then s0 else (if q = (1 : Int32) then s1 else (if q = (2 : Int32) then s2 else (if q = (3 : Int32) then s3 else (if q = (4 : Int32) then s4 else (if q = (5 : Int32) then s5 else (if q = (6 : Int32) then s6 else (if q = (7 : Int32) then s7 else (if q = (8 : Int32) then s8 else (if q = (9 : Int32) then s9 else (if q = (10 : Int32) then s10 else (if q = (11 : Int32) then s11 else s12))))))))))))
theorem dK_0 : decode method_2_code 0 = .ok (.iload_n 0, 1) := by decide +kernel
theorem dK_1 : decode method_2_code 1 = .ok (.ifCond .ne 7, 3) := by decide +kernel
theorem dK_4 : decode method_2_code 4 = .ok (.getstatic 7, 3) := by decide +kernel
theorem dK_7 : decode method_2_code 7 = .ok (.areturn, 1) := by decide +kernel
theorem dK_8 : decode method_2_code 8 = .ok (.iload_n 0, 1) := by decide +kernel
theorem dK_9 : decode method_2_code 9 = .ok (.iconst 1, 1) := by decide +kernel
theorem dK_10 : decode method_2_code 10 = .ok (.if_icmp .ne 7, 3) := by decide +kernel
theorem dK_13 : decode method_2_code 13 = .ok (.getstatic 13, 3) := by decide +kernel
theorem dK_16 : decode method_2_code 16 = .ok (.areturn, 1) := by decide +kernel
theorem dK_17 : decode method_2_code 17 = .ok (.iload_n 0, 1) := by decide +kernel
theorem dK_18 : decode method_2_code 18 = .ok (.iconst 2, 1) := by decide +kernel
theorem dK_19 : decode method_2_code 19 = .ok (.if_icmp .ne 7, 3) := by decide +kernel
theorem dK_22 : decode method_2_code 22 = .ok (.getstatic 16, 3) := by decide +kernel
theorem dK_25 : decode method_2_code 25 = .ok (.areturn, 1) := by decide +kernel
theorem dK_26 : decode method_2_code 26 = .ok (.iload_n 0, 1) := by decide +kernel
theorem dK_27 : decode method_2_code 27 = .ok (.iconst 3, 1) := by decide +kernel
theorem dK_28 : decode method_2_code 28 = .ok (.if_icmp .ne 7, 3) := by decide +kernel
theorem dK_31 : decode method_2_code 31 = .ok (.getstatic 19, 3) := by decide +kernel
theorem dK_34 : decode method_2_code 34 = .ok (.areturn, 1) := by decide +kernel
theorem dK_35 : decode method_2_code 35 = .ok (.iload_n 0, 1) := by decide +kernel
theorem dK_36 : decode method_2_code 36 = .ok (.iconst 4, 1) := by decide +kernel
theorem dK_37 : decode method_2_code 37 = .ok (.if_icmp .ne 7, 3) := by decide +kernel
theorem dK_40 : decode method_2_code 40 = .ok (.getstatic 22, 3) := by decide +kernel
theorem dK_43 : decode method_2_code 43 = .ok (.areturn, 1) := by decide +kernel
theorem dK_44 : decode method_2_code 44 = .ok (.iload_n 0, 1) := by decide +kernel
theorem dK_45 : decode method_2_code 45 = .ok (.iconst 5, 1) := by decide +kernel
theorem dK_46 : decode method_2_code 46 = .ok (.if_icmp .ne 7, 3) := by decide +kernel
theorem dK_49 : decode method_2_code 49 = .ok (.getstatic 25, 3) := by decide +kernel
theorem dK_52 : decode method_2_code 52 = .ok (.areturn, 1) := by decide +kernel
theorem dK_53 : decode method_2_code 53 = .ok (.iload_n 0, 1) := by decide +kernel
theorem dK_54 : decode method_2_code 54 = .ok (.bipush 6, 2) := by decide +kernel
theorem dK_56 : decode method_2_code 56 = .ok (.if_icmp .ne 7, 3) := by decide +kernel
theorem dK_59 : decode method_2_code 59 = .ok (.getstatic 28, 3) := by decide +kernel
theorem dK_62 : decode method_2_code 62 = .ok (.areturn, 1) := by decide +kernel
theorem dK_63 : decode method_2_code 63 = .ok (.iload_n 0, 1) := by decide +kernel
theorem dK_64 : decode method_2_code 64 = .ok (.bipush 7, 2) := by decide +kernel
theorem dK_66 : decode method_2_code 66 = .ok (.if_icmp .ne 7, 3) := by decide +kernel
theorem dK_69 : decode method_2_code 69 = .ok (.getstatic 31, 3) := by decide +kernel
theorem dK_72 : decode method_2_code 72 = .ok (.areturn, 1) := by decide +kernel
theorem dK_73 : decode method_2_code 73 = .ok (.iload_n 0, 1) := by decide +kernel
theorem dK_74 : decode method_2_code 74 = .ok (.bipush 8, 2) := by decide +kernel
theorem dK_76 : decode method_2_code 76 = .ok (.if_icmp .ne 7, 3) := by decide +kernel
theorem dK_79 : decode method_2_code 79 = .ok (.getstatic 34, 3) := by decide +kernel
theorem dK_82 : decode method_2_code 82 = .ok (.areturn, 1) := by decide +kernel
theorem dK_83 : decode method_2_code 83 = .ok (.iload_n 0, 1) := by decide +kernel
theorem dK_84 : decode method_2_code 84 = .ok (.bipush 9, 2) := by decide +kernel
theorem dK_86 : decode method_2_code 86 = .ok (.if_icmp .ne 7, 3) := by decide +kernel
theorem dK_89 : decode method_2_code 89 = .ok (.getstatic 37, 3) := by decide +kernel
theorem dK_92 : decode method_2_code 92 = .ok (.areturn, 1) := by decide +kernel
theorem dK_93 : decode method_2_code 93 = .ok (.iload_n 0, 1) := by decide +kernel
theorem dK_94 : decode method_2_code 94 = .ok (.bipush 10, 2) := by decide +kernel
theorem dK_96 : decode method_2_code 96 = .ok (.if_icmp .ne 7, 3) := by decide +kernel
theorem dK_99 : decode method_2_code 99 = .ok (.getstatic 40, 3) := by decide +kernel
theorem dK_102 : decode method_2_code 102 = .ok (.areturn, 1) := by decide +kernel
theorem dK_103 : decode method_2_code 103 = .ok (.iload_n 0, 1) := by decide +kernel
theorem dK_104 : decode method_2_code 104 = .ok (.bipush 11, 2) := by decide +kernel
theorem dK_106 : decode method_2_code 106 = .ok (.if_icmp .ne 7, 3) := by decide +kernel
theorem dK_109 : decode method_2_code 109 = .ok (.getstatic 43, 3) := by decide +kernel
theorem dK_112 : decode method_2_code 112 = .ok (.areturn, 1) := by decide +kernel
theorem dK_113 : decode method_2_code 113 = .ok (.getstatic 46, 3) := by decide +kernel
theorem dK_116 : decode method_2_code 116 = .ok (.areturn, 1) := by decide +kernel
theorem pn_K : plainFor (⟨"com/example/tracewright/tracewright/compiler/TokenIsWordPinLaw", "kindOf", "(I)Lcom/example/tracewright/tracewright/compiler/Token$Kind;"⟩ : MethodName) = true := by first | exact plainFor_of_name (by first | (simp [plainName, overriddenIn]; done) | decide +kernel) | decide +kernel
set_option maxRecDepth 65536 in
set_option maxHeartbeats 40000000 in
theorem rmK (l : Launch) (Z : State) (a0 : Array Value) (hw : ∀ d ∈ tables_1, d.before a0 Z = true) (q : Int32) (s0 s1 s2 s3 s4 s5 s6 s7 s8 s9 s10 s11 s12 : Addr) (h0 : Heap) (n0 : Nat) (Z0 : n0 ≤ h0.size) (S0 : Sta Z h0 "com/example/tracewright/tracewright/compiler/Token$Kind" "WORD" "Lcom/example/tracewright/tracewright/compiler/Token$Kind;" (.ref s0)) (S1 : Sta Z h0 "com/example/tracewright/tracewright/compiler/Token$Kind" "NUMBER" "Lcom/example/tracewright/tracewright/compiler/Token$Kind;" (.ref s1)) (S2 : Sta Z h0 "com/example/tracewright/tracewright/compiler/Token$Kind" "STRING" "Lcom/example/tracewright/tracewright/compiler/Token$Kind;" (.ref s2)) (S3 : Sta Z h0 "com/example/tracewright/tracewright/compiler/Token$Kind" "COMMAND_LABEL" "Lcom/example/tracewright/tracewright/compiler/Token$Kind;" (.ref s3)) (S4 : Sta Z h0 "com/example/tracewright/tracewright/compiler/Token$Kind" "LABEL" "Lcom/example/tracewright/tracewright/compiler/Token$Kind;" (.ref s4)) (S5 : Sta Z h0 "com/example/tracewright/tracewright/compiler/Token$Kind" "LEFT_PAREN" "Lcom/example/tracewright/tracewright/compiler/Token$Kind;" (.ref s5)) (S6 : Sta Z h0 "com/example/tracewright/tracewright/compiler/Token$Kind" "RIGHT_PAREN" "Lcom/example/tracewright/tracewright/compiler/Token$Kind;" (.ref s6)) (S7 : Sta Z h0 "com/example/tracewright/tracewright/compiler/Token$Kind" "COMMA" "Lcom/example/tracewright/tracewright/compiler/Token$Kind;" (.ref s7)) (S8 : Sta Z h0 "com/example/tracewright/tracewright/compiler/Token$Kind" "COLON" "Lcom/example/tracewright/tracewright/compiler/Token$Kind;" (.ref s8)) (S9 : Sta Z h0 "com/example/tracewright/tracewright/compiler/Token$Kind" "SEMICOLON" "Lcom/example/tracewright/tracewright/compiler/Token$Kind;" (.ref s9)) (S10 : Sta Z h0 "com/example/tracewright/tracewright/compiler/Token$Kind" "EQUALS" "Lcom/example/tracewright/tracewright/compiler/Token$Kind;" (.ref s10)) (S11 : Sta Z h0 "com/example/tracewright/tracewright/compiler/Token$Kind" "ASTERISK" "Lcom/example/tracewright/tracewright/compiler/Token$Kind;" (.ref s11)) (S12 : Sta Z h0 "com/example/tracewright/tracewright/compiler/Token$Kind" "END_OF_SOURCE" "Lcom/example/tracewright/tracewright/compiler/Token$Kind;" (.ref s12)) :
    NM l (⟨"com/example/tracewright/tracewright/compiler/TokenIsWordPinLaw", "kindOf", "(I)Lcom/example/tracewright/tracewright/compiler/Token$Kind;"⟩ : MethodName) method_2_code 1 (some (.object "com/example/tracewright/tracewright/compiler/Token$Kind")) [] ({ frames := 0, cells := 0, slots := 0, locals := 0 } : Room) Z n0 #[(.int q)] h0 [] (Pu (some (.ref (kindF q s0 s1 s2 s3 s4 s5 s6 s7 s8 s9 s10 s11 s12))) h0) := by
  refine NM.walk (Ls := #[.val (.int q)]) pn_K Z0 (fun m => by first | (simp [entryFrame, mkF, argsToLocals, Value.category]; done) | rfl) ?_
  intro p e s m below meth c s₁ hby hml hret hnm W0
  refine W0.iloadN (hb hby dK_0) rfl (pc' := 1) rfl ?_
  by_cases hc1 : q = (0 : Int32)
  · refine W0.ifNo (hb hby dK_1) (XT.i0_ne_f hc1) (pc' := 4) rfl ?_
    refine W0.getS (host := "") (Or.inl (hw _ (List.mem_of_getElem? (i := 8) rfl))) Via.refl S0 (hb hby dK_4) (pc' := 7) rfl ?_
    intro T2 W2
    exact W2.retA hret rfl rfl (hb hby dK_7) (by decide) (by decide) ⟨congrArg (fun z => some (Value.ref z)) (by rw [kindF, if_pos hc1]), rfl⟩
  · refine W0.ifYes (hb hby dK_1) (XT.i0_ne_t hc1) (by decide) (pc' := 8) (by decide) ?_
    refine W0.iloadN (hb hby dK_8) rfl (pc' := 9) rfl ?_
    refine W0.iconst (1 : Int32) (hb hby dK_9) rfl (pc' := 10) rfl ?_
    by_cases hc3 : q = (1 : Int32)
    · refine W0.icmpNo (hb hby dK_10) (XT.ii_ne_f hc3) (pc' := 13) rfl ?_
      refine W0.getS (host := "") (Or.inl (hw _ (List.mem_of_getElem? (i := 77) rfl))) Via.refl S1 (hb hby dK_13) (pc' := 16) rfl ?_
      intro T4 W4
      exact W4.retA hret rfl rfl (hb hby dK_16) (by decide) (by decide) ⟨congrArg (fun z => some (Value.ref z)) (by rw [kindF, if_neg hc1, if_pos hc3]), rfl⟩
    · refine W0.icmpYes (hb hby dK_10) (XT.ii_ne_t hc3) (by decide) (pc' := 17) (by decide) ?_
      refine W0.iloadN (hb hby dK_17) rfl (pc' := 18) rfl ?_
      refine W0.iconst (2 : Int32) (hb hby dK_18) rfl (pc' := 19) rfl ?_
      by_cases hc5 : q = (2 : Int32)
      · refine W0.icmpNo (hb hby dK_19) (XT.ii_ne_f hc5) (pc' := 22) rfl ?_
        refine W0.getS (host := "") (Or.inl (hw _ (List.mem_of_getElem? (i := 79) rfl))) Via.refl S2 (hb hby dK_22) (pc' := 25) rfl ?_
        intro T6 W6
        exact W6.retA hret rfl rfl (hb hby dK_25) (by decide) (by decide) ⟨congrArg (fun z => some (Value.ref z)) (by rw [kindF, if_neg hc1, if_neg hc3, if_pos hc5]), rfl⟩
      · refine W0.icmpYes (hb hby dK_19) (XT.ii_ne_t hc5) (by decide) (pc' := 26) (by decide) ?_
        refine W0.iloadN (hb hby dK_26) rfl (pc' := 27) rfl ?_
        refine W0.iconst (3 : Int32) (hb hby dK_27) rfl (pc' := 28) rfl ?_
        by_cases hc7 : q = (3 : Int32)
        · refine W0.icmpNo (hb hby dK_28) (XT.ii_ne_f hc7) (pc' := 31) rfl ?_
          refine W0.getS (host := "") (Or.inl (hw _ (List.mem_of_getElem? (i := 70) rfl))) Via.refl S3 (hb hby dK_31) (pc' := 34) rfl ?_
          intro T8 W8
          exact W8.retA hret rfl rfl (hb hby dK_34) (by decide) (by decide) ⟨congrArg (fun z => some (Value.ref z)) (by rw [kindF, if_neg hc1, if_neg hc3, if_neg hc5, if_pos hc7]), rfl⟩
        · refine W0.icmpYes (hb hby dK_28) (XT.ii_ne_t hc7) (by decide) (pc' := 35) (by decide) ?_
          refine W0.iloadN (hb hby dK_35) rfl (pc' := 36) rfl ?_
          refine W0.iconst (4 : Int32) (hb hby dK_36) rfl (pc' := 37) rfl ?_
          by_cases hc9 : q = (4 : Int32)
          · refine W0.icmpNo (hb hby dK_37) (XT.ii_ne_f hc9) (pc' := 40) rfl ?_
            refine W0.getS (host := "") (Or.inl (hw _ (List.mem_of_getElem? (i := 89) rfl))) Via.refl S4 (hb hby dK_40) (pc' := 43) rfl ?_
            intro T10 W10
            exact W10.retA hret rfl rfl (hb hby dK_43) (by decide) (by decide) ⟨congrArg (fun z => some (Value.ref z)) (by rw [kindF, if_neg hc1, if_neg hc3, if_neg hc5, if_neg hc7, if_pos hc9]), rfl⟩
          · refine W0.icmpYes (hb hby dK_37) (XT.ii_ne_t hc9) (by decide) (pc' := 44) (by decide) ?_
            refine W0.iloadN (hb hby dK_44) rfl (pc' := 45) rfl ?_
            refine W0.iconst (5 : Int32) (hb hby dK_45) rfl (pc' := 46) rfl ?_
            by_cases hc11 : q = (5 : Int32)
            · refine W0.icmpNo (hb hby dK_46) (XT.ii_ne_f hc11) (pc' := 49) rfl ?_
              refine W0.getS (host := "") (Or.inl (hw _ (List.mem_of_getElem? (i := 91) rfl))) Via.refl S5 (hb hby dK_49) (pc' := 52) rfl ?_
              intro T12 W12
              exact W12.retA hret rfl rfl (hb hby dK_52) (by decide) (by decide) ⟨congrArg (fun z => some (Value.ref z)) (by rw [kindF, if_neg hc1, if_neg hc3, if_neg hc5, if_neg hc7, if_neg hc9, if_pos hc11]), rfl⟩
            · refine W0.icmpYes (hb hby dK_46) (XT.ii_ne_t hc11) (by decide) (pc' := 53) (by decide) ?_
              refine W0.iloadN (hb hby dK_53) rfl (pc' := 54) rfl ?_
              refine W0.bipush (6 : Int32) (hb hby dK_54) rfl (pc' := 56) rfl ?_
              by_cases hc13 : q = (6 : Int32)
              · refine W0.icmpNo (hb hby dK_56) (XT.ii_ne_f hc13) (pc' := 59) rfl ?_
                refine W0.getS (host := "") (Or.inl (hw _ (List.mem_of_getElem? (i := 87) rfl))) Via.refl S6 (hb hby dK_59) (pc' := 62) rfl ?_
                intro T14 W14
                exact W14.retA hret rfl rfl (hb hby dK_62) (by decide) (by decide) ⟨congrArg (fun z => some (Value.ref z)) (by rw [kindF, if_neg hc1, if_neg hc3, if_neg hc5, if_neg hc7, if_neg hc9, if_neg hc11, if_pos hc13]), rfl⟩
              · refine W0.icmpYes (hb hby dK_56) (XT.ii_ne_t hc13) (by decide) (pc' := 63) (by decide) ?_
                refine W0.iloadN (hb hby dK_63) rfl (pc' := 64) rfl ?_
                refine W0.bipush (7 : Int32) (hb hby dK_64) rfl (pc' := 66) rfl ?_
                by_cases hc15 : q = (7 : Int32)
                · refine W0.icmpNo (hb hby dK_66) (XT.ii_ne_f hc15) (pc' := 69) rfl ?_
                  refine W0.getS (host := "") (Or.inl (hw _ (List.mem_of_getElem? (i := 81) rfl))) Via.refl S7 (hb hby dK_69) (pc' := 72) rfl ?_
                  intro T16 W16
                  exact W16.retA hret rfl rfl (hb hby dK_72) (by decide) (by decide) ⟨congrArg (fun z => some (Value.ref z)) (by rw [kindF, if_neg hc1, if_neg hc3, if_neg hc5, if_neg hc7, if_neg hc9, if_neg hc11, if_neg hc13, if_pos hc15]), rfl⟩
                · refine W0.icmpYes (hb hby dK_66) (XT.ii_ne_t hc15) (by decide) (pc' := 73) (by decide) ?_
                  refine W0.iloadN (hb hby dK_73) rfl (pc' := 74) rfl ?_
                  refine W0.bipush (8 : Int32) (hb hby dK_74) rfl (pc' := 76) rfl ?_
                  by_cases hc17 : q = (8 : Int32)
                  · refine W0.icmpNo (hb hby dK_76) (XT.ii_ne_f hc17) (pc' := 79) rfl ?_
                    refine W0.getS (host := "") (Or.inl (hw _ (List.mem_of_getElem? (i := 100) rfl))) Via.refl S8 (hb hby dK_79) (pc' := 82) rfl ?_
                    intro T18 W18
                    exact W18.retA hret rfl rfl (hb hby dK_82) (by decide) (by decide) ⟨congrArg (fun z => some (Value.ref z)) (by rw [kindF, if_neg hc1, if_neg hc3, if_neg hc5, if_neg hc7, if_neg hc9, if_neg hc11, if_neg hc13, if_neg hc15, if_pos hc17]), rfl⟩
                  · refine W0.icmpYes (hb hby dK_76) (XT.ii_ne_t hc17) (by decide) (pc' := 83) (by decide) ?_
                    refine W0.iloadN (hb hby dK_83) rfl (pc' := 84) rfl ?_
                    refine W0.bipush (9 : Int32) (hb hby dK_84) rfl (pc' := 86) rfl ?_
                    by_cases hc19 : q = (9 : Int32)
                    · refine W0.icmpNo (hb hby dK_86) (XT.ii_ne_f hc19) (pc' := 89) rfl ?_
                      refine W0.getS (host := "") (Or.inl (hw _ (List.mem_of_getElem? (i := 75) rfl))) Via.refl S9 (hb hby dK_89) (pc' := 92) rfl ?_
                      intro T20 W20
                      exact W20.retA hret rfl rfl (hb hby dK_92) (by decide) (by decide) ⟨congrArg (fun z => some (Value.ref z)) (by rw [kindF, if_neg hc1, if_neg hc3, if_neg hc5, if_neg hc7, if_neg hc9, if_neg hc11, if_neg hc13, if_neg hc15, if_neg hc17, if_pos hc19]), rfl⟩
                    · refine W0.icmpYes (hb hby dK_86) (XT.ii_ne_t hc19) (by decide) (pc' := 93) (by decide) ?_
                      refine W0.iloadN (hb hby dK_93) rfl (pc' := 94) rfl ?_
                      refine W0.bipush (10 : Int32) (hb hby dK_94) rfl (pc' := 96) rfl ?_
                      by_cases hc21 : q = (10 : Int32)
                      · refine W0.icmpNo (hb hby dK_96) (XT.ii_ne_f hc21) (pc' := 99) rfl ?_
                        refine W0.getS (host := "") (Or.inl (hw _ (List.mem_of_getElem? (i := 83) rfl))) Via.refl S10 (hb hby dK_99) (pc' := 102) rfl ?_
                        intro T22 W22
                        exact W22.retA hret rfl rfl (hb hby dK_102) (by decide) (by decide) ⟨congrArg (fun z => some (Value.ref z)) (by rw [kindF, if_neg hc1, if_neg hc3, if_neg hc5, if_neg hc7, if_neg hc9, if_neg hc11, if_neg hc13, if_neg hc15, if_neg hc17, if_neg hc19, if_pos hc21]), rfl⟩
                      · refine W0.icmpYes (hb hby dK_96) (XT.ii_ne_t hc21) (by decide) (pc' := 103) (by decide) ?_
                        refine W0.iloadN (hb hby dK_103) rfl (pc' := 104) rfl ?_
                        refine W0.bipush (11 : Int32) (hb hby dK_104) rfl (pc' := 106) rfl ?_
                        by_cases hc23 : q = (11 : Int32)
                        · refine W0.icmpNo (hb hby dK_106) (XT.ii_ne_f hc23) (pc' := 109) rfl ?_
                          refine W0.getS (host := "") (Or.inl (hw _ (List.mem_of_getElem? (i := 85) rfl))) Via.refl S11 (hb hby dK_109) (pc' := 112) rfl ?_
                          intro T24 W24
                          exact W24.retA hret rfl rfl (hb hby dK_112) (by decide) (by decide) ⟨congrArg (fun z => some (Value.ref z)) (by rw [kindF, if_neg hc1, if_neg hc3, if_neg hc5, if_neg hc7, if_neg hc9, if_neg hc11, if_neg hc13, if_neg hc15, if_neg hc17, if_neg hc19, if_neg hc21, if_pos hc23]), rfl⟩
                        · refine W0.icmpYes (hb hby dK_106) (XT.ii_ne_t hc23) (by decide) (pc' := 113) (by decide) ?_
                          refine W0.getS (host := "") (Or.inl (hw _ (List.mem_of_getElem? (i := 93) rfl))) Via.refl S12 (hb hby dK_113) (pc' := 116) rfl ?_
                          intro T25 W25
                          exact W25.retA hret rfl rfl (hb hby dK_116) (by decide) (by decide) ⟨congrArg (fun z => some (Value.ref z)) (by rw [kindF, if_neg hc1, if_neg hc3, if_neg hc5, if_neg hc7, if_neg hc9, if_neg hc11, if_neg hc13, if_neg hc15, if_neg hc17, if_neg hc19, if_neg hc21, if_neg hc23]), rfl⟩
theorem dR_0 : decode jdk_30_method_1_code 0 = .ok (.aload_n 0, 1) := by decide +kernel
theorem dR_1 : decode jdk_30_method_1_code 1 = .ok (.invokespecial 1, 3) := by decide +kernel
theorem dR_4 : decode jdk_30_method_1_code 4 = .ok (.return_, 1) := by decide +kernel
theorem pn_R : plainFor (⟨"java/lang/Record", "<init>", "()V"⟩ : MethodName) = true := by first | exact plainFor_of_name (by first | (simp [plainName, overriddenIn]; done) | decide +kernel) | decide +kernel
set_option maxRecDepth 65536 in
set_option maxHeartbeats 40000000 in
theorem rmR (l : Launch) (Z : State) (a0 : Array Value) (hw : ∀ d ∈ tables_1, d.before a0 Z = true) (a : Addr) (h0 : Heap) (n0 : Nat) (Z0 : n0 ≤ h0.size)  :
    NM l (⟨"java/lang/Record", "<init>", "()V"⟩ : MethodName) jdk_30_method_1_code 1 none [] ({ frames := 1, cells := 0, slots := 0, locals := 12 } : Room) Z n0 #[(.ref a)] h0 [] (Pu none h0) := by
  refine NM.walk (Ls := #[.val (.ref a)]) pn_R Z0 (fun m => by first | (simp [entryFrame, mkF, argsToLocals, Value.category]; done) | rfl) ?_
  intro p e s m below meth c s₁ hby hml hret hnm W0
  refine W0.aloadN (hb hby dR_0) rfl rfl (pc' := 1) rfl ?_
  refine W0.initO (hw _ (List.mem_of_getElem? (i := 52) rfl)) (hw _ (List.mem_of_getElem? (i := 26) rfl)) (hw _ (List.mem_of_getElem? (i := 27) rfl)) (hb hby dR_1) (pc' := 4) rfl hml (by decide) (wd := 0) (Nat.le_of_ble_eq_true rfl) (by decide) ?_
  intro T1 W1
  exact W1.retV hret (hb hby dR_4) (by decide) (by decide) ⟨rfl, rfl⟩
theorem dT_0 : decode prog_8_method_1_code 0 = .ok (.aload_n 0, 1) := by decide +kernel
theorem dT_1 : decode prog_8_method_1_code 1 = .ok (.invokespecial 1, 3) := by decide +kernel
theorem pd_62febe83 : parseMethodDescriptor "()V" = some ⟨[], none⟩ := by decide +kernel
theorem dT_4 : decode prog_8_method_1_code 4 = .ok (.aload_n 0, 1) := by decide +kernel
theorem dT_5 : decode prog_8_method_1_code 5 = .ok (.aload_n 1, 1) := by decide +kernel
theorem dT_6 : decode prog_8_method_1_code 6 = .ok (.putfield 7, 3) := by decide +kernel
theorem dT_9 : decode prog_8_method_1_code 9 = .ok (.aload_n 0, 1) := by decide +kernel
theorem dT_10 : decode prog_8_method_1_code 10 = .ok (.aload_n 2, 1) := by decide +kernel
theorem dT_11 : decode prog_8_method_1_code 11 = .ok (.putfield 13, 3) := by decide +kernel
theorem dT_14 : decode prog_8_method_1_code 14 = .ok (.aload_n 0, 1) := by decide +kernel
theorem dT_15 : decode prog_8_method_1_code 15 = .ok (.iload_n 3, 1) := by decide +kernel
theorem dT_16 : decode prog_8_method_1_code 16 = .ok (.putfield 17, 3) := by decide +kernel
theorem dT_19 : decode prog_8_method_1_code 19 = .ok (.return_, 1) := by decide +kernel
theorem pn_T : plainFor (⟨"com/example/tracewright/tracewright/compiler/Token", "<init>", "(Lcom/example/tracewright/tracewright/compiler/Token$Kind;Ljava/lang/String;I)V"⟩ : MethodName) = true := by first | exact plainFor_of_name (by first | (simp [plainName, overriddenIn]; done) | decide +kernel) | decide +kernel
set_option maxRecDepth 65536 in
set_option maxHeartbeats 40000000 in
theorem rmT (l : Launch) (Z : State) (a0 : Array Value) (hw : ∀ d ∈ tables_1, d.before a0 Z = true) (a kd tx : Addr) (ln : Int32) (h0 : Heap) (n0 : Nat) (Z0 : n0 ≤ h0.size) (ga : n0 ≤ a) (EX : Exa Z h0 a "com/example/tracewright/tracewright/compiler/Token") (F1 : Fld Z h0 a "com/example/tracewright/tracewright/compiler/Token" "kind" "Lcom/example/tracewright/tracewright/compiler/Token$Kind;" .null) (F2 : Fld Z h0 a "com/example/tracewright/tracewright/compiler/Token" "text" "Ljava/lang/String;" .null) (F3 : Fld Z h0 a "com/example/tracewright/tracewright/compiler/Token" "line" "I" (.int (0 : Int32))) :
    NM l (⟨"com/example/tracewright/tracewright/compiler/Token", "<init>", "(Lcom/example/tracewright/tracewright/compiler/Token$Kind;Ljava/lang/String;I)V"⟩ : MethodName) prog_8_method_1_code 4 none [] ({ frames := 2, cells := 0, slots := 0, locals := 24 } : Room) Z n0 #[(.ref a), (.ref kd), (.ref tx), (.int ln)] h0 [a] (fun v h => v = none ∧ Exa Z h a "com/example/tracewright/tracewright/compiler/Token" ∧ Fld Z h a "com/example/tracewright/tracewright/compiler/Token" "kind" "Lcom/example/tracewright/tracewright/compiler/Token$Kind;" (.ref kd) ∧ Fld Z h a "com/example/tracewright/tracewright/compiler/Token" "text" "Ljava/lang/String;" (.ref tx)) := by
  refine NM.walk (Ls := #[.val (.ref a), .val (.ref kd), .val (.ref tx), .val (.int ln)]) pn_T Z0 (fun m => by first | (simp [entryFrame, mkF, argsToLocals, Value.category]; done) | rfl) ?_
  intro p e s m below meth c s₁ hby hml hret hnm W0
  refine W0.aloadN (hb hby dT_0) rfl rfl (pc' := 1) rfl ?_
  refine W0.callIP (y := (⟨"java/lang/Record", "<init>", "()V"⟩ : MethodName)) rfl (hw _ (List.mem_of_getElem? (i := 47) rfl)) (hw _ (List.mem_of_getElem? (i := 48) rfl)) (hw _ (List.mem_of_getElem? (i := 51) rfl)) (by decide) (NM.bk (wd := 0) (rmR l Z a0 hw a h0 n0 W0.n0h ) W0.2.2.2.1 (hw _ (List.mem_of_getElem? (i := 51) rfl)) (hw _ (List.mem_of_getElem? (i := 50) rfl)) (by decide) (by decide)) (hb hby dT_1) (pc' := 4) rfl hml (a := a) (argsL := []) rfl (lenOf pd_62febe83 rfl) rfl (Nat.le_of_ble_eq_true rfl) (by decide) (by decide) (fun _ _ _ q => pu_of q) ?_
  intro T1 L1 W1
  show Go p e below _ T1 (mkF m 4 #[.val (.ref a), .val (.ref kd), .val (.ref tx), .val (.int ln)] [])
  refine W1.aloadN (hb hby dT_4) rfl rfl (pc' := 5) rfl ?_
  refine W1.aloadN (hb hby dT_5) rfl rfl (pc' := 6) rfl ?_
  refine W1.putF (host := "") (Or.inl (hw _ (List.mem_of_getElem? (i := 53) rfl))) Via.refl F1 EX (Or.inr ⟨(hw _ (List.mem_of_getElem? (i := 54) rfl)), rfl, hnm⟩) (hw _ (List.mem_of_getElem? (i := 2) rfl)) (ty := (.object "com/example/tracewright/tracewright/compiler/Token$Kind")) (by decide) rfl rfl (hb hby dT_6) (pc' := 9) rfl (Or.inl (List.mem_of_getElem? (i := 0) rfl)) ga ?_
  intro T2 h2 L2 W2 Q2
  have K2 := Keep.of_wr Q2
  have z2 := K2.1
  have A2 := Exa.wr Q2 EX
  have B2 := Fld.same Q2 F1
  have B2_text := Fld.other Q2 F2 (Or.inr (slot_ne (Or.inr (hw _ (List.mem_of_getElem? (i := 56) rfl))) (Or.inr (hw _ (List.mem_of_getElem? (i := 54) rfl))) (by decide) (t := (.object "java/lang/String")) (t' := (.object "com/example/tracewright/tracewright/compiler/Token$Kind")) (by decide) (by decide)))
  have B2_line := Fld.other Q2 F3 (Or.inr (slot_ne (Or.inr (hw _ (List.mem_of_getElem? (i := 58) rfl))) (Or.inr (hw _ (List.mem_of_getElem? (i := 54) rfl))) (by decide) (t := .int) (t' := (.object "com/example/tracewright/tracewright/compiler/Token$Kind")) (by decide) (by decide)))
  refine W2.aloadN (hb hby dT_9) rfl rfl (pc' := 10) rfl ?_
  refine W2.aloadN (hb hby dT_10) rfl rfl (pc' := 11) rfl ?_
  refine W2.putF (host := "") (Or.inl (hw _ (List.mem_of_getElem? (i := 55) rfl))) Via.refl B2_text A2 (Or.inr ⟨(hw _ (List.mem_of_getElem? (i := 56) rfl)), rfl, hnm⟩) (hw _ (List.mem_of_getElem? (i := 2) rfl)) (ty := (.object "java/lang/String")) (by decide) rfl rfl (hb hby dT_11) (pc' := 14) rfl (Or.inl (List.mem_of_getElem? (i := 0) rfl)) ga ?_
  intro T3 h3 L3 W3 Q3
  have K3 := Keep.of_wr Q3
  have z3 := K3.1
  have A3 := Exa.wr Q3 A2
  have B3 := Fld.same Q3 B2_text
  have B3_kind := Fld.other Q3 B2 (Or.inr (slot_ne (Or.inr (hw _ (List.mem_of_getElem? (i := 54) rfl))) (Or.inr (hw _ (List.mem_of_getElem? (i := 56) rfl))) (by decide) (t := (.object "com/example/tracewright/tracewright/compiler/Token$Kind")) (t' := (.object "java/lang/String")) (by decide) (by decide)))
  have B3_line := Fld.other Q3 B2_line (Or.inr (slot_ne (Or.inr (hw _ (List.mem_of_getElem? (i := 58) rfl))) (Or.inr (hw _ (List.mem_of_getElem? (i := 56) rfl))) (by decide) (t := .int) (t' := (.object "java/lang/String")) (by decide) (by decide)))
  refine W3.aloadN (hb hby dT_14) rfl rfl (pc' := 15) rfl ?_
  refine W3.iloadN (hb hby dT_15) rfl (pc' := 16) rfl ?_
  refine W3.putF (host := "") (Or.inl (hw _ (List.mem_of_getElem? (i := 57) rfl))) Via.refl B3_line A3 (Or.inr ⟨(hw _ (List.mem_of_getElem? (i := 58) rfl)), rfl, hnm⟩) (hw _ (List.mem_of_getElem? (i := 2) rfl)) (ty := .int) (by decide) rfl rfl (hb hby dT_16) (pc' := 19) rfl (Or.inl (List.mem_of_getElem? (i := 0) rfl)) ga ?_
  intro T4 h4 L4 W4 Q4
  have K4 := Keep.of_wr Q4
  have z4 := K4.1
  have A4 := Exa.wr Q4 A3
  have B4 := Fld.same Q4 B3_line
  have B4_kind := Fld.other Q4 B3_kind (Or.inr (slot_ne (Or.inr (hw _ (List.mem_of_getElem? (i := 54) rfl))) (Or.inr (hw _ (List.mem_of_getElem? (i := 58) rfl))) (by decide) (t := (.object "com/example/tracewright/tracewright/compiler/Token$Kind")) (t' := .int) (by decide) (by decide)))
  have B4_text := Fld.other Q4 B3 (Or.inr (slot_ne (Or.inr (hw _ (List.mem_of_getElem? (i := 56) rfl))) (Or.inr (hw _ (List.mem_of_getElem? (i := 58) rfl))) (by decide) (t := (.object "java/lang/String")) (t' := .int) (by decide) (by decide)))
  exact W4.retV hret (hb hby dT_19) (by decide) (by decide) ⟨rfl, A4, B4_kind, B4_text⟩
theorem dE4_0 : decode jdk_42_method_149_code 0 = .ok (.aload_n 0, 1) := by decide +kernel
theorem dE4_1 : decode jdk_42_method_149_code 1 = .ok (.invokespecial 1, 3) := by decide +kernel
theorem dE4_4 : decode jdk_42_method_149_code 4 = .ok (.iload_n 3, 1) := by decide +kernel
theorem dE4_5 : decode jdk_42_method_149_code 5 = .ok (.ifCond .ne 22, 3) := by decide +kernel
theorem dE4_8 : decode jdk_42_method_149_code 8 = .ok (.aload_n 0, 1) := by decide +kernel
theorem dE4_9 : decode jdk_42_method_149_code 9 = .ok (.ldc 7, 2) := by decide +kernel
theorem dE4_11 : decode jdk_42_method_149_code 11 = .ok (.getfield 9, 3) := by decide +kernel
theorem dE4_14 : decode jdk_42_method_149_code 14 = .ok (.putfield 9, 3) := by decide +kernel
theorem dE4_17 : decode jdk_42_method_149_code 17 = .ok (.aload_n 0, 1) := by decide +kernel
theorem dE4_18 : decode jdk_42_method_149_code 18 = .ok (.ldc 7, 2) := by decide +kernel
theorem dE4_20 : decode jdk_42_method_149_code 20 = .ok (.getfield 15, 3) := by decide +kernel
theorem dE4_23 : decode jdk_42_method_149_code 23 = .ok (.putfield 15, 3) := by decide +kernel
theorem dE4_26 : decode jdk_42_method_149_code 26 = .ok (.return_, 1) := by decide +kernel
theorem pn_E4 : plainFor (⟨"java/lang/String", "<init>", "([CIILjava/lang/Void;)V"⟩ : MethodName) = true := by first | exact plainFor_of_name (by first | (simp [plainName, overriddenIn]; done) | decide +kernel) | decide +kernel
set_option maxRecDepth 65536 in
set_option maxHeartbeats 40000000 in
theorem rmE4 (l : Launch) (Z : State) (a0 : Array Value) (hw : ∀ d ∈ tables_1, d.before a0 Z = true) (hEL : EW Z a0 consts_1) (a b : Addr) (h0 : Heap) (n0 : Nat) (Z0 : n0 ≤ h0.size) (ga : n0 ≤ a) (EX : Exa Z h0 a "java/lang/String") (FV : Fld Z h0 a "java/lang/String" "value" "[B" .null) (FC : Fld Z h0 a "java/lang/String" "coder" "B" (.int (0 : Int32))) :
    WM l (⟨"java/lang/String", "<init>", "([CIILjava/lang/Void;)V"⟩ : MethodName) jdk_42_method_149_code 6 none [] ({ frames := 1, cells := 4, slots := 8, locals := 13 } : Room) Z consts_1 n0 #[(.ref a), (.ref b), (.int (0 : Int32)), (.int (0 : Int32)), .null] h0 [a] (fun v h => v = none ∧ StrA Z h a []) := by
  refine WM.walk (Ls := #[.val (.ref a), .val (.ref b), .val (.int (0 : Int32)), .val (.int (0 : Int32)), .val .null, .unset]) pn_E4 Z0 (fun m => by first | (simp [entryFrame, mkF, argsToLocals, Value.category]; done) | rfl) ?_
  intro p e s m below meth c s₁ hby hml hret hnm W0
  have hwS : ∀ d ∈ Bundle.stringAtoms, d.before a0 Z = true := fun d hd => hw d (hwAtoms d hd)
  refine W0.1.aloadN (hb hby dE4_0) rfl rfl (pc' := 1) rfl ?_
  refine W0.1.initO (hw _ (List.mem_of_getElem? (i := 25) rfl)) (hw _ (List.mem_of_getElem? (i := 26) rfl)) (hw _ (List.mem_of_getElem? (i := 27) rfl)) (hb hby dE4_1) (pc' := 4) rfl hml (by decide) (wd := 0) (Nat.le_of_ble_eq_true rfl) (by decide) ?_
  intro T1 N1
  have W1 := W0.same N1
  refine W1.1.iloadN (hb hby dE4_4) rfl (pc' := 5) rfl ?_
  refine W1.1.ifNo (hb hby dE4_5) (XT.i0_ne_f (by decide)) (pc' := 8) rfl ?_
  refine W1.1.aloadN (hb hby dE4_8) rfl rfl (pc' := 9) rfl ?_
  refine W1.ldcS hEL (hw _ (List.mem_of_getElem? (i := 72) rfl)) hwS (by decide) (vs := []) (z := (0 : Int32)) ⟨by decide, by decide⟩ (by decide) rfl (hb hby dE4_9) (pc' := 11) rfl (n := 0) (by decide) (by decide) (by decide) (by decide) ?_
  intro T2 h2 vm2 a2 b2 k2 W2 E2 C2 A2 B2 D2 V2 hne2
  have z2 := E2.1
  have F3 := Exa.ext E2 EX
  have F4 := Fld.ext E2 FV
  have Sf2_a := (safe_null (EL := consts_1) W2.1.2.2.2.1.alike F3 F4)
  refine W2.1.getF (host := "") (Or.inl (hw _ (List.mem_of_getElem? (i := 42) rfl))) Via.refl D2 (hb hby dE4_11) (pc' := 14) rfl ?_
  intro T5 N5
  have W5 := W2.same N5
  have F7 := Fld.ext E2 FC
  refine W5.1.putF (host := "") (Or.inl (hw _ (List.mem_of_getElem? (i := 42) rfl))) Via.refl F4 F3 (Or.inr ⟨(hw _ (List.mem_of_getElem? (i := 43) rfl)), rfl, hnm⟩) (hw _ (List.mem_of_getElem? (i := 15) rfl)) (ty := (.array .byte)) (by decide) rfl rfl (hb hby dE4_14) (pc' := 17) rfl (Or.inl (List.mem_of_getElem? (i := 0) rfl)) ga ?_
  intro T6 h6 L6 N6 Q6
  have K6 := Keep.of_wr Q6
  have z6 := K6.1
  have W6 := W5.up N6 K6 (sfS Sf2_a sf0)
  have Sf6 := W5.safeK Sf2_a K6 (sfS Sf2_a sf0)
  have A6 := Exa.wr Q6 F3
  have B6 := Fld.same Q6 F4
  have B6_coder := Fld.other Q6 F7 (Or.inr (slot_ne (Or.inr (hw _ (List.mem_of_getElem? (i := 41) rfl))) (Or.inr (hw _ (List.mem_of_getElem? (i := 43) rfl))) (by decide) (t := .byte) (t' := (.array .byte)) (by decide) (by decide)))
  refine W6.1.aloadN (hb hby dE4_17) rfl rfl (pc' := 18) rfl ?_
  refine W6.ldcS hEL (hw _ (List.mem_of_getElem? (i := 72) rfl)) hwS (by decide) (vs := []) (z := (0 : Int32)) ⟨by decide, by decide⟩ (by decide) rfl (hb hby dE4_18) (pc' := 20) rfl (n := 0) (by decide) (by decide) (by decide) (by decide) ?_
  intro T8 h8 vm8 a8 b8 k8 W8 E8 C8 A8 B8 D8 V8 hne8
  have z8 := E8.1
  have Sf8_a := C8.safe A6.lt Sf6
  refine W8.1.getF (host := "") (Or.inl (hw _ (List.mem_of_getElem? (i := 40) rfl))) Via.refl B8 (hb hby dE4_20) (pc' := 23) rfl ?_
  intro T9 N9
  have W9 := W8.same N9
  have F11 := Fld.ext E8 B6_coder
  have F12 := Exa.ext E8 A6
  have F13 := Fld.ext E8 B6
  refine W9.1.putF (host := "") (Or.inl (hw _ (List.mem_of_getElem? (i := 40) rfl))) Via.refl F11 F12 (Or.inr ⟨(hw _ (List.mem_of_getElem? (i := 41) rfl)), rfl, hnm⟩) (hw _ (List.mem_of_getElem? (i := 15) rfl)) (ty := .byte) (by decide) rfl rfl (hb hby dE4_23) (pc' := 26) rfl (Or.inl (List.mem_of_getElem? (i := 0) rfl)) ga ?_
  intro T10 h10 L10 N10 Q10
  have K10 := Keep.of_wr Q10
  have z10 := K10.1
  have W10 := W9.up N10 K10 (sfS Sf8_a sf0)
  have Sf10 := W9.safeK Sf8_a K10 (sfS Sf8_a sf0)
  have A10 := Exa.wr Q10 F12
  have B10 := Fld.same Q10 F11
  have B10_value := Fld.other Q10 F13 (Or.inr (slot_ne (Or.inr (hw _ (List.mem_of_getElem? (i := 43) rfl))) (Or.inr (hw _ (List.mem_of_getElem? (i := 41) rfl))) (by decide) (t := (.array .byte)) (t' := .byte) (by decide) (by decide)))
  have F14 := (((V2.keep K6 (ninS (Ne.symm (hne2 _ Sf2_a).2) nin0)).ext E8).keep K10 (ninS (Ne.symm (hne2 _ Sf2_a).2) nin0))
  exact W10.retV hEL hret (hb hby dE4_26) (by decide) (by decide) ⟨rfl, StrA.make A10 B10 B10_value F14 rfl (by decide) mem0⟩
theorem dE1_0 : decode jdk_42_method_3_code 0 = .ok (.aload_n 0, 1) := by decide +kernel
theorem dE1_1 : decode jdk_42_method_3_code 1 = .ok (.aload_n 1, 1) := by decide +kernel
theorem dE1_2 : decode jdk_42_method_3_code 2 = .ok (.iconst 0, 1) := by decide +kernel
theorem dE1_3 : decode jdk_42_method_3_code 3 = .ok (.aload_n 1, 1) := by decide +kernel
theorem dE1_4 : decode jdk_42_method_3_code 4 = .ok (.arraylength, 1) := by decide +kernel
theorem dE1_5 : decode jdk_42_method_3_code 5 = .ok (.aconst_null, 1) := by decide +kernel
theorem dE1_6 : decode jdk_42_method_3_code 6 = .ok (.invokespecial 27, 3) := by decide +kernel
theorem pd_2d3984e9 : parseMethodDescriptor "([CIILjava/lang/Void;)V" = some ⟨[(.array .char), .int, .int, (.object "java/lang/Void")], none⟩ := by decide +kernel
theorem dE1_9 : decode jdk_42_method_3_code 9 = .ok (.return_, 1) := by decide +kernel
theorem pn_E1 : plainFor (⟨"java/lang/String", "<init>", "([C)V"⟩ : MethodName) = true := by first | exact plainFor_of_name (by first | (simp [plainName, overriddenIn]; done) | decide +kernel) | decide +kernel
set_option maxRecDepth 65536 in
set_option maxHeartbeats 40000000 in
theorem rmE1 (l : Launch) (Z : State) (a0 : Array Value) (hw : ∀ d ∈ tables_1, d.before a0 Z = true) (hEL : EW Z a0 consts_1) (a b : Addr) (kb : ClassId) (h0 : Heap) (n0 : Nat) (Z0 : n0 ≤ h0.size) (ga : n0 ≤ a) (EX : Exa Z h0 a "java/lang/String") (FV : Fld Z h0 a "java/lang/String" "value" "[B" .null) (FC : Fld Z h0 a "java/lang/String" "coder" "B" (.int (0 : Int32))) (AB : Arv Z h0 b kb .char (0 : Int32) [] (.int (0 : Int32))) :
    WM l (⟨"java/lang/String", "<init>", "([C)V"⟩ : MethodName) jdk_42_method_3_code 2 none [] ({ frames := 2, cells := 4, slots := 8, locals := 30 } : Room) Z consts_1 n0 #[(.ref a), (.ref b)] h0 [a] (fun v h => v = none ∧ StrA Z h a []) := by
  refine WM.walk (Ls := #[.val (.ref a), .val (.ref b)]) pn_E1 Z0 (fun m => by first | (simp [entryFrame, mkF, argsToLocals, Value.category]; done) | rfl) ?_
  intro p e s m below meth c s₁ hby hml hret hnm W0
  refine W0.1.aloadN (hb hby dE1_0) rfl rfl (pc' := 1) rfl ?_
  refine W0.1.aloadN (hb hby dE1_1) rfl rfl (pc' := 2) rfl ?_
  refine W0.1.iconst (0 : Int32) (hb hby dE1_2) rfl (pc' := 3) rfl ?_
  refine W0.1.aloadN (hb hby dE1_3) rfl rfl (pc' := 4) rfl ?_
  refine W0.1.arraylength AB (hb hby dE1_4) (pc' := 5) rfl ?_
  refine W0.1.aconstNull (hb hby dE1_5) (pc' := 6) rfl ?_
  refine W0.callI (y := (⟨"java/lang/String", "<init>", "([CIILjava/lang/Void;)V"⟩ : MethodName)) rfl (hw _ (List.mem_of_getElem? (i := 21) rfl)) (hw _ (List.mem_of_getElem? (i := 22) rfl)) (hw _ (List.mem_of_getElem? (i := 24) rfl)) (by decide) (WM.bk (wd := 0) (rmE4 l Z a0 hw hEL a b h0 n0 W0.1.n0h ga EX FV FC) W0.1.2.2.2.1 (hw _ (List.mem_of_getElem? (i := 24) rfl)) (hw _ (List.mem_of_getElem? (i := 16) rfl)) (by decide) (by decide) hEL W0.2.2.1) (hb hby dE1_6) (pc' := 9) rfl hml (a := a) (argsL := [(.ref b), (.int (0 : Int32)), (.int (0 : Int32)), .null]) rfl (lenOf pd_2d3984e9 rfl) rfl (Nat.le_of_ble_eq_true rfl) (by decide) (by decide) (ws' := [a]) (fun _ _ _ q => ⟨q.2.2, q.2.1⟩) (allS (Or.inl (List.mem_of_getElem? (i := 0) rfl)) all0) ?_
  intro v1 T1 h1 vm1 L1' L1 W1 Q1 K1 C1
  have z1 := K1.1
  obtain ⟨⟨rfl, S1⟩, -, -⟩ := Q1
  show Go p e below _ T1 (mkF m 9 #[.val (.ref a), .val (.ref b)] [])
  exact W1.retV hEL hret (hb hby dE1_9) (by decide) (by decide) ⟨rfl, S1⟩
def strF (len c0 c1 : Int32) : List Int32 := (if len = (0 : Int32) then ([] : List Int32) else (if len = (1 : Int32) then ([c0] : List Int32) else ([c0, c1] : List Int32)))
theorem dS_0 : decode method_3_code 0 = .ok (.iload_n 0, 1) := by decide +kernel
theorem dS_1 : decode method_3_code 1 = .ok (.ifCond .ne 14, 3) := by decide +kernel
theorem dS_4 : decode method_3_code 4 = .ok (.new 49, 3) := by decide +kernel
theorem dS_7 : decode method_3_code 7 = .ok (.dup, 1) := by decide +kernel
theorem dS_8 : decode method_3_code 8 = .ok (.iconst 0, 1) := by decide +kernel
theorem dS_9 : decode method_3_code 9 = .ok (.newarray .char, 2) := by decide +kernel
theorem dS_11 : decode method_3_code 11 = .ok (.invokespecial 51, 3) := by decide +kernel
theorem pd_827e2587 : parseMethodDescriptor "([C)V" = some ⟨[(.array .char)], none⟩ := by decide +kernel
theorem dS_14 : decode method_3_code 14 = .ok (.areturn, 1) := by decide +kernel
theorem dS_15 : decode method_3_code 15 = .ok (.iload_n 0, 1) := by decide +kernel
theorem dS_16 : decode method_3_code 16 = .ok (.iconst 1, 1) := by decide +kernel
theorem dS_17 : decode method_3_code 17 = .ok (.if_icmp .ne 18, 3) := by decide +kernel
theorem dS_20 : decode method_3_code 20 = .ok (.new 49, 3) := by decide +kernel
theorem dS_23 : decode method_3_code 23 = .ok (.dup, 1) := by decide +kernel
theorem dS_24 : decode method_3_code 24 = .ok (.iconst 1, 1) := by decide +kernel
theorem dS_25 : decode method_3_code 25 = .ok (.newarray .char, 2) := by decide +kernel
theorem dS_27 : decode method_3_code 27 = .ok (.dup, 1) := by decide +kernel
theorem dS_28 : decode method_3_code 28 = .ok (.iconst 0, 1) := by decide +kernel
theorem dS_29 : decode method_3_code 29 = .ok (.iload_n 1, 1) := by decide +kernel
theorem dS_30 : decode method_3_code 30 = .ok (.castore, 1) := by decide +kernel
theorem dS_31 : decode method_3_code 31 = .ok (.invokespecial 51, 3) := by decide +kernel
theorem dS_34 : decode method_3_code 34 = .ok (.areturn, 1) := by decide +kernel
theorem dS_35 : decode method_3_code 35 = .ok (.new 49, 3) := by decide +kernel
theorem dS_38 : decode method_3_code 38 = .ok (.dup, 1) := by decide +kernel
theorem dS_39 : decode method_3_code 39 = .ok (.iconst 2, 1) := by decide +kernel
theorem dS_40 : decode method_3_code 40 = .ok (.newarray .char, 2) := by decide +kernel
theorem dS_42 : decode method_3_code 42 = .ok (.dup, 1) := by decide +kernel
theorem dS_43 : decode method_3_code 43 = .ok (.iconst 0, 1) := by decide +kernel
theorem dS_44 : decode method_3_code 44 = .ok (.iload_n 1, 1) := by decide +kernel
theorem dS_45 : decode method_3_code 45 = .ok (.castore, 1) := by decide +kernel
theorem dS_46 : decode method_3_code 46 = .ok (.dup, 1) := by decide +kernel
theorem dS_47 : decode method_3_code 47 = .ok (.iconst 1, 1) := by decide +kernel
theorem dS_48 : decode method_3_code 48 = .ok (.iload_n 2, 1) := by decide +kernel
theorem dS_49 : decode method_3_code 49 = .ok (.castore, 1) := by decide +kernel
theorem dS_50 : decode method_3_code 50 = .ok (.invokespecial 51, 3) := by decide +kernel
theorem dS_53 : decode method_3_code 53 = .ok (.areturn, 1) := by decide +kernel
theorem pn_S : plainFor (⟨"com/example/tracewright/tracewright/compiler/TokenIsWordPinLaw", "str", "(ICC)Ljava/lang/String;"⟩ : MethodName) = true := by first | exact plainFor_of_name (by first | (simp [plainName, overriddenIn]; done) | decide +kernel) | decide +kernel
set_option maxRecDepth 65536 in
set_option maxHeartbeats 40000000 in
theorem rmS (l : Launch) (Z : State) (a0 : Array Value) (hw : ∀ d ∈ tables_1, d.before a0 Z = true) (hEL : EW Z a0 consts_1) (len c0 c1 : Int32) (zc : Int32) (h0 : Heap) (n0 : Nat) (Z0 : n0 ≤ h0.size) (L0 : ¬ c0 < 0 ∧ ¬ (255 : Int32) < c0) (L1 : ¬ c1 < 0 ∧ ¬ (255 : Int32) < c1) (SC : Sta Z h0 "java/lang/String" "COMPACT_STRINGS" "Z" (.int zc)) (hz : ¬ zc = 0) :
    WM l (⟨"com/example/tracewright/tracewright/compiler/TokenIsWordPinLaw", "str", "(ICC)Ljava/lang/String;"⟩ : MethodName) method_3_code 3 (some (.object "java/lang/String")) [] ({ frames := 4, cells := 6, slots := 16, locals := 66 } : Room) Z consts_1 n0 #[(.int len), (.int c0), (.int c1)] h0 [] (fun v h => ∃ a, v = some (.ref a) ∧ StrA Z h a (strF len c0 c1)) := by
  refine WM.walk (Ls := #[.val (.int len), .val (.int c0), .val (.int c1)]) pn_S Z0 (fun m => by first | (simp [entryFrame, mkF, argsToLocals, Value.category]; done) | rfl) ?_
  intro p e s m below meth c s₁ hby hml hret hnm W0
  have hws : ∀ d ∈ StrChars.Road.words, d.before a0 Z = true := fun d hd => hw d (hwords d hd)
  refine W0.1.iloadN (hb hby dS_0) rfl (pc' := 1) rfl ?_
  by_cases hc1 : len = (0 : Int32)
  · refine W0.1.ifNo (hb hby dS_1) (XT.i0_ne_f hc1) (pc' := 4) rfl ?_
    refine W0.1.newO (hw _ (List.mem_of_getElem? (i := 14) rfl)) (hw _ (List.mem_of_getElem? (i := 15) rfl)) (hw _ (List.mem_of_getElem? (i := 16) rfl)) (hb hby dS_4) (pc' := 7) rfl (by decide) (by decide) ?_
    intro T2 h2 a2 g2 ge2 gn2 N2 E2 A2 D2
    have z2 := E2.1
    have y2 := Nat.le_of_eq g2.symm
    have W2 := W0.upE N2 E2
    have D2_coder := D2 (Or.inr (hw _ (List.mem_of_getElem? (i := 41) rfl))) (ty := .byte) (by decide)
    have D2_value := D2 (Or.inr (hw _ (List.mem_of_getElem? (i := 43) rfl))) (ty := (.array .byte)) (by decide)
    refine W2.1.dup (hb hby dS_7) rfl (pc' := 8) rfl ?_
    refine W2.1.iconst (0 : Int32) (hb hby dS_8) rfl (pc' := 9) rfl ?_
    refine W2.1.newP (hw _ (List.mem_of_getElem? (i := 17) rfl)) (hb hby dS_9) (pc' := 11) rfl (by decide) (cap := 0) (by decide) (by decide) (by decide) (by decide) ?_
    intro T3 h3 a3 k3 g3 ge3 gn3 N3 E3 V3'
    have V3 : Arv Z h3 a3 k3 .char (0 : Int32) [] (.int (0 : Int32)) := V3'
    have z3 := E3.1
    have y3 := Nat.le_of_eq g3.symm
    have W3 := W2.upE N3 E3
    have F5 := Exa.ext E3 A2
    have F6 := Fld.ext E3 D2_value
    have F7 := Fld.ext E3 D2_coder
    refine W3.callI (y := (⟨"java/lang/String", "<init>", "([C)V"⟩ : MethodName)) rfl (hw _ (List.mem_of_getElem? (i := 18) rfl)) (hw _ (List.mem_of_getElem? (i := 19) rfl)) (hw _ (List.mem_of_getElem? (i := 20) rfl)) (by decide) (WM.bk (wd := 1) (rmE1 l Z a0 hw hEL a2 a3 k3 h3 n0 W3.1.n0h gn2 F5 F6 F7 V3) W3.1.2.2.2.1 (hw _ (List.mem_of_getElem? (i := 20) rfl)) (hw _ (List.mem_of_getElem? (i := 16) rfl)) (by decide) (by decide) hEL W3.2.2.1) (hb hby dS_11) (pc' := 14) rfl hml (a := a2) (argsL := [(.ref a3)]) rfl (lenOf pd_827e2587 rfl) rfl (Nat.le_of_ble_eq_true rfl) (by decide) (by decide) (ws' := [a2]) (fun _ _ _ q => ⟨q.2.2, q.2.1⟩) (allS (Or.inr ge2) all0) ?_
    intro v4 T4 h4 vm4 L4' L4 W4 Q4 K4 C4
    have z4 := K4.1
    obtain ⟨⟨rfl, S4⟩, -, -⟩ := Q4
    show Go p e below _ T4 (mkF m 14 #[.val (.int len), .val (.int c0), .val (.int c1)] [(.ref a2)])
    exact W4.retA hEL hret rfl rfl (hb hby dS_14) (by decide) (by decide) ⟨a2, rfl, by rw [strF, if_pos hc1]; exact S4⟩
  · refine W0.1.ifYes (hb hby dS_1) (XT.i0_ne_t hc1) (by decide) (pc' := 15) (by decide) ?_
    refine W0.1.iloadN (hb hby dS_15) rfl (pc' := 16) rfl ?_
    refine W0.1.iconst (1 : Int32) (hb hby dS_16) rfl (pc' := 17) rfl ?_
    by_cases hc8 : len = (1 : Int32)
    · refine W0.1.icmpNo (hb hby dS_17) (XT.ii_ne_f hc8) (pc' := 20) rfl ?_
      refine W0.1.newO (hw _ (List.mem_of_getElem? (i := 14) rfl)) (hw _ (List.mem_of_getElem? (i := 15) rfl)) (hw _ (List.mem_of_getElem? (i := 16) rfl)) (hb hby dS_20) (pc' := 23) rfl (by decide) (by decide) ?_
      intro T9 h9 a9 g9 ge9 gn9 N9 E9 A9 D9
      have z9 := E9.1
      have y9 := Nat.le_of_eq g9.symm
      have W9 := W0.upE N9 E9
      have D9_coder := D9 (Or.inr (hw _ (List.mem_of_getElem? (i := 41) rfl))) (ty := .byte) (by decide)
      have D9_value := D9 (Or.inr (hw _ (List.mem_of_getElem? (i := 43) rfl))) (ty := (.array .byte)) (by decide)
      refine W9.1.dup (hb hby dS_23) rfl (pc' := 24) rfl ?_
      refine W9.1.iconst (1 : Int32) (hb hby dS_24) rfl (pc' := 25) rfl ?_
      refine W9.1.newP (hw _ (List.mem_of_getElem? (i := 17) rfl)) (hb hby dS_25) (pc' := 27) rfl (by decide) (cap := 1) (by decide) (by decide) (by decide) (by decide) ?_
      intro T10 h10 a10 k10 g10 ge10 gn10 N10 E10 V10'
      have V10 : Arv Z h10 a10 k10 .char (1 : Int32) [(.int (0 : Int32))] (.int (0 : Int32)) := V10'
      have z10 := E10.1
      have y10 := Nat.le_of_eq g10.symm
      have W10 := W9.upE N10 E10
      refine W10.1.dup (hb hby dS_27) rfl (pc' := 28) rfl ?_
      refine W10.1.iconst (0 : Int32) (hb hby dS_28) rfl (pc' := 29) rfl ?_
      refine W10.1.iloadN (hb hby dS_29) rfl (pc' := 30) rfl ?_
      refine W10.1.stC V10 (hb hby dS_30) (pc' := 31) rfl (nar_lat L0) 0 rfl (Nat.le_of_ble_eq_true rfl) (by decide) (Or.inr ge10) gn10 ?_
      intro T11 h11 L11 N11 K11 V11'
      have V11 : Arv Z h11 a10 k10 .char (1 : Int32) [(.int c0)] (.int (0 : Int32)) := V11'
      have z11 := K11.1
      have W11 := W10.up N11 K11 (sfS (Safe.arv (EL := consts_1) W10.1.2.2.2.1.alike V10 (by decide)) sf0)
      have X1_3_13 : Ext h9 h11 := Keep.toExt (((Keep.refl h9 []).ext E10).trans K11 (allS (Or.inr (by have := y10; omega)) all0))
      have zX1_3_13 := X1_3_13.1
      have F14 := Exa.ext X1_3_13 A9
      have F15 := Fld.ext X1_3_13 D9_value
      have F16 := Fld.ext X1_3_13 D9_coder
      have X0_3_17 : Ext h0 h11 := Keep.toExt ((((Keep.refl h0 []).ext E9).ext E10).trans K11 (allS (Or.inr (by have := y10; omega)) all0))
      have zX0_3_17 := X0_3_17.1
      have F18 := Sta.ext X0_3_17 SC
      refine W11.1.callI (y := (⟨"java/lang/String", "<init>", "([C)V"⟩ : MethodName)) rfl (hw _ (List.mem_of_getElem? (i := 18) rfl)) (hw _ (List.mem_of_getElem? (i := 19) rfl)) (hw _ (List.mem_of_getElem? (i := 20) rfl)) (by decide) (StrChars.Road.backV (W := 1) W11.1.2.2.2.1 hws (kI := 4) (hw _ (List.mem_of_getElem? (i := 15) rfl)) (cs := ([c0] : List Int32)) (bs := (([c0] : List Int32)).map (fun c => c.toInt8.toInt32)) (n := 1) gn9 W11.1.n0h F14 F15 F16 V11 F18 hz rfl rfl (by decide) (by decide) (memS L0 mem0) rfl (by decide) (by decide)) (hb hby dS_31) (pc' := 34) rfl hml (a := a9) (argsL := [(.ref a10)]) rfl (lenOf pd_827e2587 rfl) rfl (Nat.le_of_ble_eq_true rfl) (by decide) (by decide) (ws' := [a9]) (fun _ _ _ q => ⟨q.2.1, q.2.2.1⟩) (allS (Or.inr ge9) all0) ?_
      intro v12 T12 h12 L12' L12 N12 Q12 K12
      have W12 := W11.up N12 K12 (sfS (safe_null (EL := consts_1) W11.1.2.2.2.1.alike F14 F15) sf0)
      have z12 := K12.1
      obtain ⟨rfl, -, -, A12, B12, t12, kb12, tn12, tg12, te12, C12', V12⟩ := Q12
      have S12 : StrA Z h12 a9 ([c0] : List Int32) := StrA.make A12 B12 C12' V12 rfl (Nat.le_of_ble_eq_true rfl) (memS L0 mem0)
      show Go p e below _ T12 (mkF m 34 #[.val (.int len), .val (.int c0), .val (.int c1)] [(.ref a9)])
      exact W12.retA hEL hret rfl rfl (hb hby dS_34) (by decide) (by decide) ⟨a9, rfl, by rw [strF, if_neg hc1, if_pos hc8]; exact S12⟩
    · refine W0.1.icmpYes (hb hby dS_17) (XT.ii_ne_t hc8) (by decide) (pc' := 35) (by decide) ?_
      refine W0.1.newO (hw _ (List.mem_of_getElem? (i := 14) rfl)) (hw _ (List.mem_of_getElem? (i := 15) rfl)) (hw _ (List.mem_of_getElem? (i := 16) rfl)) (hb hby dS_35) (pc' := 38) rfl (by decide) (by decide) ?_
      intro T19 h19 a19 g19 ge19 gn19 N19 E19 A19 D19
      have z19 := E19.1
      have y19 := Nat.le_of_eq g19.symm
      have W19 := W0.upE N19 E19
      have D19_coder := D19 (Or.inr (hw _ (List.mem_of_getElem? (i := 41) rfl))) (ty := .byte) (by decide)
      have D19_value := D19 (Or.inr (hw _ (List.mem_of_getElem? (i := 43) rfl))) (ty := (.array .byte)) (by decide)
      refine W19.1.dup (hb hby dS_38) rfl (pc' := 39) rfl ?_
      refine W19.1.iconst (2 : Int32) (hb hby dS_39) rfl (pc' := 40) rfl ?_
      refine W19.1.newP (hw _ (List.mem_of_getElem? (i := 17) rfl)) (hb hby dS_40) (pc' := 42) rfl (by decide) (cap := 2) (by decide) (by decide) (by decide) (by decide) ?_
      intro T20 h20 a20 k20 g20 ge20 gn20 N20 E20 V20'
      have V20 : Arv Z h20 a20 k20 .char (2 : Int32) [(.int (0 : Int32)), (.int (0 : Int32))] (.int (0 : Int32)) := V20'
      have z20 := E20.1
      have y20 := Nat.le_of_eq g20.symm
      have W20 := W19.upE N20 E20
      refine W20.1.dup (hb hby dS_42) rfl (pc' := 43) rfl ?_
      refine W20.1.iconst (0 : Int32) (hb hby dS_43) rfl (pc' := 44) rfl ?_
      refine W20.1.iloadN (hb hby dS_44) rfl (pc' := 45) rfl ?_
      refine W20.1.stC V20 (hb hby dS_45) (pc' := 46) rfl (nar_lat L0) 0 rfl (Nat.le_of_ble_eq_true rfl) (by decide) (Or.inr ge20) gn20 ?_
      intro T21 h21 L21 N21 K21 V21'
      have V21 : Arv Z h21 a20 k20 .char (2 : Int32) [(.int c0), (.int (0 : Int32))] (.int (0 : Int32)) := V21'
      have z21 := K21.1
      have W21 := W20.up N21 K21 (sfS (Safe.arv (EL := consts_1) W20.1.2.2.2.1.alike V20 (by decide)) sf0)
      refine W21.1.dup (hb hby dS_46) rfl (pc' := 47) rfl ?_
      refine W21.1.iconst (1 : Int32) (hb hby dS_47) rfl (pc' := 48) rfl ?_
      refine W21.1.iloadN (hb hby dS_48) rfl (pc' := 49) rfl ?_
      refine W21.1.stC V21 (hb hby dS_49) (pc' := 50) rfl (nar_lat L1) 1 rfl (Nat.le_of_ble_eq_true rfl) (by decide) (Or.inr ge20) gn20 ?_
      intro T22 h22 L22 N22 K22 V22'
      have V22 : Arv Z h22 a20 k20 .char (2 : Int32) [(.int c0), (.int c1)] (.int (0 : Int32)) := V22'
      have z22 := K22.1
      have W22 := W21.up N22 K22 (sfS (Safe.arv (EL := consts_1) W21.1.2.2.2.1.alike V21 (by decide)) sf0)
      have X1_4_24 : Ext h19 h22 := Keep.toExt ((((Keep.refl h19 []).ext E20).trans K21 (allS (Or.inr (by have := y20; omega)) all0)).trans K22 (allS (Or.inr (by have := y20; omega)) all0))
      have zX1_4_24 := X1_4_24.1
      have F25 := Exa.ext X1_4_24 A19
      have F26 := Fld.ext X1_4_24 D19_value
      have F27 := Fld.ext X1_4_24 D19_coder
      have X0_4_28 : Ext h0 h22 := Keep.toExt (((((Keep.refl h0 []).ext E19).ext E20).trans K21 (allS (Or.inr (by have := y20; omega)) all0)).trans K22 (allS (Or.inr (by have := y20; omega)) all0))
      have zX0_4_28 := X0_4_28.1
      have F29 := Sta.ext X0_4_28 SC
      refine W22.1.callI (y := (⟨"java/lang/String", "<init>", "([C)V"⟩ : MethodName)) rfl (hw _ (List.mem_of_getElem? (i := 18) rfl)) (hw _ (List.mem_of_getElem? (i := 19) rfl)) (hw _ (List.mem_of_getElem? (i := 20) rfl)) (by decide) (StrChars.Road.backV (W := 1) W22.1.2.2.2.1 hws (kI := 4) (hw _ (List.mem_of_getElem? (i := 15) rfl)) (cs := ([c0, c1] : List Int32)) (bs := (([c0, c1] : List Int32)).map (fun c => c.toInt8.toInt32)) (n := 2) gn19 W22.1.n0h F25 F26 F27 V22 F29 hz rfl rfl (by decide) (by decide) (memS L0 (memS L1 mem0)) rfl (by decide) (by decide)) (hb hby dS_50) (pc' := 53) rfl hml (a := a19) (argsL := [(.ref a20)]) rfl (lenOf pd_827e2587 rfl) rfl (Nat.le_of_ble_eq_true rfl) (by decide) (by decide) (ws' := [a19]) (fun _ _ _ q => ⟨q.2.1, q.2.2.1⟩) (allS (Or.inr ge19) all0) ?_
      intro v23 T23 h23 L23' L23 N23 Q23 K23
      have W23 := W22.up N23 K23 (sfS (safe_null (EL := consts_1) W22.1.2.2.2.1.alike F25 F26) sf0)
      have z23 := K23.1
      obtain ⟨rfl, -, -, A23, B23, t23, kb23, tn23, tg23, te23, C23', V23⟩ := Q23
      have S23 : StrA Z h23 a19 ([c0, c1] : List Int32) := StrA.make A23 B23 C23' V23 rfl (Nat.le_of_ble_eq_true rfl) (memS L0 (memS L1 mem0))
      show Go p e below _ T23 (mkF m 53 #[.val (.int len), .val (.int c0), .val (.int c1)] [(.ref a19)])
      exact W23.retA hEL hret rfl rfl (hb hby dS_53) (by decide) (by decide) ⟨a19, rfl, by rw [strF, if_neg hc1, if_neg hc8]; exact S23⟩
theorem dN_0 : decode jdk_42_method_66_code 0 = .ok (.aload_n 0, 1) := by decide +kernel
theorem dN_1 : decode jdk_42_method_66_code 1 = .ok (.aload_n 1, 1) := by decide +kernel
theorem dN_2 : decode jdk_42_method_66_code 2 = .ok (.if_acmp .ne 5, 3) := by decide +kernel
theorem dN_7 : decode jdk_42_method_66_code 7 = .ok (.aload_n 1, 1) := by decide +kernel
theorem dN_8 : decode jdk_42_method_66_code 8 = .ok (.instanceof 10, 3) := by decide +kernel
theorem dN_11 : decode jdk_42_method_66_code 11 = .ok (.ifCond .eq 43, 3) := by decide +kernel
theorem dN_54 : decode jdk_42_method_66_code 54 = .ok (.iconst 0, 1) := by decide +kernel
theorem dN_55 : decode jdk_42_method_66_code 55 = .ok (.ireturn, 1) := by decide +kernel
theorem pn_N : plainFor (⟨"java/lang/String", "equals", "(Ljava/lang/Object;)Z"⟩ : MethodName) = true := by first | exact plainFor_of_name (by first | (simp [plainName, overriddenIn]; done) | decide +kernel) | decide +kernel
set_option maxRecDepth 65536 in
set_option maxHeartbeats 40000000 in
theorem rmN (l : Launch) (Z : State) (a0 : Array Value) (hw : ∀ d ∈ tables_1, d.before a0 Z = true) (a : Addr) (h0 : Heap) (n0 : Nat) (Z0 : n0 ≤ h0.size)  :
    NM l (⟨"java/lang/String", "equals", "(Ljava/lang/Object;)Z"⟩ : MethodName) jdk_42_method_66_code 3 (some .boolean) [] ({ frames := 0, cells := 0, slots := 0, locals := 0 } : Room) Z n0 #[(.ref a), .null] h0 [] (Pu (some (.int 0)) h0) := by
  refine NM.walk (Ls := #[.val (.ref a), .val .null, .unset]) pn_N Z0 (fun m => by first | (simp [entryFrame, mkF, argsToLocals, Value.category]; done) | rfl) ?_
  intro p e s m below meth c s₁ hby hml hret hnm W0
  refine W0.aloadN (hb hby dN_0) rfl rfl (pc' := 1) rfl ?_
  refine W0.aloadN (hb hby dN_1) rfl rfl (pc' := 2) rfl ?_
  refine W0.acmpYes (hb hby dN_2) rfl rfl (XT.aa_ne_t (fun q => nomatch q)) (by decide) (pc' := 7) (by decide) ?_
  refine W0.aloadN (hb hby dN_7) rfl rfl (pc' := 8) rfl ?_
  refine W0.instNull (hb hby dN_8) (pc' := 11) rfl ?_
  refine W0.ifYes (hb hby dN_11) (XT.i0_eq_t (by decide)) (by decide) (pc' := 54) (by decide) ?_
  refine W0.iconst (0 : Int32) (hb hby dN_54) rfl (pc' := 55) rfl ?_
  exact W0.retZ hret (hb hby dN_55) (by decide) (by decide) (by decide) ⟨rfl, rfl⟩
def iwF (kd s0 : Addr) (cs ds : List Int32) : Int32 := (if ((.ref kd) : Value) = (.ref s0) then (if (if cs = ds then (1 : Int32) else 0) = (0 : Int32) then (0 : Int32) else (1 : Int32)) else (0 : Int32))
theorem dI_0 : decode prog_8_method_3_code 0 = .ok (.aload_n 0, 1) := by decide +kernel
theorem dI_1 : decode prog_8_method_3_code 1 = .ok (.getfield 7, 3) := by decide +kernel
theorem dI_4 : decode prog_8_method_3_code 4 = .ok (.getstatic 21, 3) := by decide +kernel
theorem dI_7 : decode prog_8_method_3_code 7 = .ok (.if_acmp .ne 18, 3) := by decide +kernel
theorem dI_10 : decode prog_8_method_3_code 10 = .ok (.aload_n 0, 1) := by decide +kernel
theorem dI_11 : decode prog_8_method_3_code 11 = .ok (.getfield 13, 3) := by decide +kernel
theorem dI_14 : decode prog_8_method_3_code 14 = .ok (.aload_n 1, 1) := by decide +kernel
theorem dI_15 : decode prog_8_method_3_code 15 = .ok (.invokevirtual 26, 3) := by decide +kernel
theorem pd_67f3b2e8 : parseMethodDescriptor "(Ljava/lang/Object;)Z" = some ⟨[(.object "java/lang/Object")], some .boolean⟩ := by decide +kernel
theorem dI_18 : decode prog_8_method_3_code 18 = .ok (.ifCond .eq 7, 3) := by decide +kernel
theorem dI_25 : decode prog_8_method_3_code 25 = .ok (.iconst 0, 1) := by decide +kernel
theorem dI_26 : decode prog_8_method_3_code 26 = .ok (.ireturn, 1) := by decide +kernel
theorem dI_21 : decode prog_8_method_3_code 21 = .ok (.iconst 1, 1) := by decide +kernel
theorem dI_22 : decode prog_8_method_3_code 22 = .ok (.goto 4, 3) := by decide +kernel
theorem pn_I : plainFor (⟨"com/example/tracewright/tracewright/compiler/Token", "isWord", "(Ljava/lang/String;)Z"⟩ : MethodName) = true := by first | exact plainFor_of_name (by first | (simp [plainName, overriddenIn]; done) | decide +kernel) | decide +kernel
set_option maxRecDepth 65536 in
set_option maxHeartbeats 40000000 in
theorem rmI (l : Launch) (Z : State) (a0 : Array Value) (hw : ∀ d ∈ tables_1, d.before a0 Z = true) (a wd kd tx s0 : Addr) (cs ds : List Int32) (zc : Int32) (h0 : Heap) (n0 : Nat) (Z0 : n0 ≤ h0.size) (F1 : Fld Z h0 a "com/example/tracewright/tracewright/compiler/Token" "kind" "Lcom/example/tracewright/tracewright/compiler/Token$Kind;" (.ref kd)) (F2 : Fld Z h0 a "com/example/tracewright/tracewright/compiler/Token" "text" "Ljava/lang/String;" (.ref tx)) (S0 : Sta Z h0 "com/example/tracewright/tracewright/compiler/Token$Kind" "WORD" "Lcom/example/tracewright/tracewright/compiler/Token$Kind;" (.ref s0)) (TX1 : StrA Z h0 tx cs) (TX2 : StrA Z h0 wd ds) (SC : Sta Z h0 "java/lang/String" "COMPACT_STRINGS" "Z" (.int zc)) (hz : ¬ zc = 0) :
    NM l (⟨"com/example/tracewright/tracewright/compiler/Token", "isWord", "(Ljava/lang/String;)Z"⟩ : MethodName) prog_8_method_3_code 2 (some .boolean) [] ({ frames := 3, cells := 0, slots := 0, locals := 42 } : Room) Z n0 #[(.ref a), (.ref wd)] h0 [] (Pu (some (.int (iwF kd s0 cs ds))) h0) := by
  refine NM.walk (Ls := #[.val (.ref a), .val (.ref wd)]) pn_I Z0 (fun m => by first | (simp [entryFrame, mkF, argsToLocals, Value.category]; done) | rfl) ?_
  intro p e s m below meth c s₁ hby hml hret hnm W0
  refine W0.aloadN (hb hby dI_0) rfl rfl (pc' := 1) rfl ?_
  refine W0.getF (host := "") (Or.inl (hw _ (List.mem_of_getElem? (i := 53) rfl))) Via.refl F1 (hb hby dI_1) (pc' := 4) rfl ?_
  intro T1 W1
  refine W1.getS (host := "") (Or.inl (hw _ (List.mem_of_getElem? (i := 64) rfl))) Via.refl S0 (hb hby dI_4) (pc' := 7) rfl ?_
  intro T2 W2
  by_cases hc3 : ((.ref kd) : Value) = (.ref s0)
  · refine W2.acmpNo (hb hby dI_7) rfl rfl (XT.aa_ne_f hc3) (pc' := 10) rfl ?_
    refine W2.aloadN (hb hby dI_10) rfl rfl (pc' := 11) rfl ?_
    refine W2.getF (host := "") (Or.inl (hw _ (List.mem_of_getElem? (i := 55) rfl))) Via.refl F2 (hb hby dI_11) (pc' := 14) rfl ?_
    intro T4 W4
    refine W4.aloadN (hb hby dI_14) rfl rfl (pc' := 15) rfl ?_
    refine W4.callVP (y := (⟨"java/lang/String", "equals", "(Ljava/lang/Object;)Z"⟩ : MethodName)) (z := (⟨"java/lang/String", "equals", "(Ljava/lang/Object;)Z"⟩ : MethodName)) (hw _ (List.mem_of_getElem? (i := 65) rfl)) (hw _ (List.mem_of_getElem? (i := 66) rfl)) (hw _ (List.mem_of_getElem? (i := 68) rfl)) (hw _ (List.mem_of_getElem? (i := 68) rfl)) (hw _ (List.mem_of_getElem? (i := 67) rfl)) (by decide) (StrA.eq (wd := 0) TX1 TX2 W4.2.2.2.1 hw (hw _ (List.mem_of_getElem? (i := 15) rfl)) SC hz (by decide) (by decide)) TX1.1 (hb hby dI_15) (pc' := 18) rfl hml (argsL := [(.ref wd)]) rfl (lenOf pd_67f3b2e8 rfl) rfl (Nat.le_of_ble_eq_true rfl) (by decide) (by decide) (fun _ _ _ q => pu_nil q) ?_
    intro T5 L5 W5
    show Go p e below _ T5 (mkF m 18 #[.val (.ref a), .val (.ref wd)] [(.int (if cs = ds then (1 : Int32) else 0))])
    by_cases hc6 : (if cs = ds then (1 : Int32) else 0) = (0 : Int32)
    · refine W5.ifYes (hb hby dI_18) (XT.i0_eq_t hc6) (by decide) (pc' := 25) (by decide) ?_
      refine W5.iconst (0 : Int32) (hb hby dI_25) rfl (pc' := 26) rfl ?_
      exact W5.retZ hret (hb hby dI_26) (by decide) (by decide) (by decide) ⟨congrArg (fun z => some (Value.int z)) (by rw [iwF, if_pos hc3, if_pos hc6]), rfl⟩
    · refine W5.ifNo (hb hby dI_18) (XT.i0_eq_f hc6) (pc' := 21) rfl ?_
      refine W5.iconst (1 : Int32) (hb hby dI_21) rfl (pc' := 22) rfl ?_
      refine W5.goto (hb hby dI_22) (by decide) (pc' := 26) (by decide) ?_
      exact W5.retZ hret (hb hby dI_26) (by decide) (by decide) (by decide) ⟨congrArg (fun z => some (Value.int z)) (by rw [iwF, if_pos hc3, if_neg hc6]), rfl⟩
  · refine W2.acmpYes (hb hby dI_7) rfl rfl (XT.aa_ne_t hc3) (by decide) (pc' := 25) (by decide) ?_
    refine W2.iconst (0 : Int32) (hb hby dI_25) rfl (pc' := 26) rfl ?_
    exact W2.retZ hret (hb hby dI_26) (by decide) (by decide) (by decide) ⟨congrArg (fun z => some (Value.int z)) (by rw [iwF, if_neg hc3]), rfl⟩
def inF (kd s0 : Addr) : Int32 := (if ((.ref kd) : Value) = (.ref s0) then (0 : Int32) else (0 : Int32))
theorem dJ_0 : decode prog_8_method_3_code 0 = .ok (.aload_n 0, 1) := by decide +kernel
theorem dJ_1 : decode prog_8_method_3_code 1 = .ok (.getfield 7, 3) := by decide +kernel
theorem dJ_4 : decode prog_8_method_3_code 4 = .ok (.getstatic 21, 3) := by decide +kernel
theorem dJ_7 : decode prog_8_method_3_code 7 = .ok (.if_acmp .ne 18, 3) := by decide +kernel
theorem dJ_10 : decode prog_8_method_3_code 10 = .ok (.aload_n 0, 1) := by decide +kernel
theorem dJ_11 : decode prog_8_method_3_code 11 = .ok (.getfield 13, 3) := by decide +kernel
theorem dJ_14 : decode prog_8_method_3_code 14 = .ok (.aload_n 1, 1) := by decide +kernel
theorem dJ_15 : decode prog_8_method_3_code 15 = .ok (.invokevirtual 26, 3) := by decide +kernel
theorem dJ_18 : decode prog_8_method_3_code 18 = .ok (.ifCond .eq 7, 3) := by decide +kernel
theorem dJ_25 : decode prog_8_method_3_code 25 = .ok (.iconst 0, 1) := by decide +kernel
theorem dJ_26 : decode prog_8_method_3_code 26 = .ok (.ireturn, 1) := by decide +kernel
theorem pn_J : plainFor (⟨"com/example/tracewright/tracewright/compiler/Token", "isWord", "(Ljava/lang/String;)Z"⟩ : MethodName) = true := by first | exact plainFor_of_name (by first | (simp [plainName, overriddenIn]; done) | decide +kernel) | decide +kernel
set_option maxRecDepth 65536 in
set_option maxHeartbeats 40000000 in
theorem rmJ (l : Launch) (Z : State) (a0 : Array Value) (hw : ∀ d ∈ tables_1, d.before a0 Z = true) (a kd tx s0 : Addr) (cs : List Int32) (h0 : Heap) (n0 : Nat) (Z0 : n0 ≤ h0.size) (F1 : Fld Z h0 a "com/example/tracewright/tracewright/compiler/Token" "kind" "Lcom/example/tracewright/tracewright/compiler/Token$Kind;" (.ref kd)) (F2 : Fld Z h0 a "com/example/tracewright/tracewright/compiler/Token" "text" "Ljava/lang/String;" (.ref tx)) (S0 : Sta Z h0 "com/example/tracewright/tracewright/compiler/Token$Kind" "WORD" "Lcom/example/tracewright/tracewright/compiler/Token$Kind;" (.ref s0)) (TX1 : StrA Z h0 tx cs) :
    NM l (⟨"com/example/tracewright/tracewright/compiler/Token", "isWord", "(Ljava/lang/String;)Z"⟩ : MethodName) prog_8_method_3_code 2 (some .boolean) [] ({ frames := 3, cells := 0, slots := 0, locals := 42 } : Room) Z n0 #[(.ref a), .null] h0 [] (Pu (some (.int (inF kd s0))) h0) := by
  refine NM.walk (Ls := #[.val (.ref a), .val .null]) pn_J Z0 (fun m => by first | (simp [entryFrame, mkF, argsToLocals, Value.category]; done) | rfl) ?_
  intro p e s m below meth c s₁ hby hml hret hnm W0
  refine W0.aloadN (hb hby dJ_0) rfl rfl (pc' := 1) rfl ?_
  refine W0.getF (host := "") (Or.inl (hw _ (List.mem_of_getElem? (i := 53) rfl))) Via.refl F1 (hb hby dJ_1) (pc' := 4) rfl ?_
  intro T1 W1
  refine W1.getS (host := "") (Or.inl (hw _ (List.mem_of_getElem? (i := 64) rfl))) Via.refl S0 (hb hby dJ_4) (pc' := 7) rfl ?_
  intro T2 W2
  by_cases hc3 : ((.ref kd) : Value) = (.ref s0)
  · refine W2.acmpNo (hb hby dJ_7) rfl rfl (XT.aa_ne_f hc3) (pc' := 10) rfl ?_
    refine W2.aloadN (hb hby dJ_10) rfl rfl (pc' := 11) rfl ?_
    refine W2.getF (host := "") (Or.inl (hw _ (List.mem_of_getElem? (i := 55) rfl))) Via.refl F2 (hb hby dJ_11) (pc' := 14) rfl ?_
    intro T4 W4
    refine W4.aloadN (hb hby dJ_14) rfl rfl (pc' := 15) rfl ?_
    refine W4.callVP (y := (⟨"java/lang/String", "equals", "(Ljava/lang/Object;)Z"⟩ : MethodName)) (z := (⟨"java/lang/String", "equals", "(Ljava/lang/Object;)Z"⟩ : MethodName)) (hw _ (List.mem_of_getElem? (i := 65) rfl)) (hw _ (List.mem_of_getElem? (i := 66) rfl)) (hw _ (List.mem_of_getElem? (i := 68) rfl)) (hw _ (List.mem_of_getElem? (i := 68) rfl)) (hw _ (List.mem_of_getElem? (i := 67) rfl)) (by decide) (NM.bk (wd := 0) (rmN l Z a0 hw tx h0 n0 W4.n0h ) W4.2.2.2.1 (hw _ (List.mem_of_getElem? (i := 69) rfl)) (hw _ (List.mem_of_getElem? (i := 16) rfl)) (by decide) (by decide)) TX1.1 (hb hby dJ_15) (pc' := 18) rfl hml (argsL := [.null]) rfl (lenOf pd_67f3b2e8 rfl) rfl (Nat.le_of_ble_eq_true rfl) (by decide) (by decide) (fun _ _ _ q => pu_of q) ?_
    intro T5 L5 W5
    show Go p e below _ T5 (mkF m 18 #[.val (.ref a), .val .null] [(.int (0 : Int32))])
    refine W5.ifYes (hb hby dJ_18) (XT.i0_eq_t (by decide)) (by decide) (pc' := 25) (by decide) ?_
    refine W5.iconst (0 : Int32) (hb hby dJ_25) rfl (pc' := 26) rfl ?_
    exact W5.retZ hret (hb hby dJ_26) (by decide) (by decide) (by decide) ⟨congrArg (fun z => some (Value.int z)) (by rw [inF, if_pos hc3]), rfl⟩
  · refine W2.acmpYes (hb hby dJ_7) rfl rfl (XT.aa_ne_t hc3) (by decide) (pc' := 25) (by decide) ?_
    refine W2.iconst (0 : Int32) (hb hby dJ_25) rfl (pc' := 26) rfl ?_
    exact W2.retZ hret (hb hby dJ_26) (by decide) (by decide) (by decide) ⟨congrArg (fun z => some (Value.int z)) (by rw [inF, if_neg hc3]), rfl⟩
theorem kind_ord {Z : State} {h : Heap} {s0 s1 s2 s3 s4 s5 s6 s7 s8 s9 s10 s11 s12 : Addr} (O0 : Fld Z h s0 "java/lang/Enum" "ordinal" "I" (.int (0 : Int32))) (O1 : Fld Z h s1 "java/lang/Enum" "ordinal" "I" (.int (1 : Int32))) (O2 : Fld Z h s2 "java/lang/Enum" "ordinal" "I" (.int (2 : Int32))) (O3 : Fld Z h s3 "java/lang/Enum" "ordinal" "I" (.int (3 : Int32))) (O4 : Fld Z h s4 "java/lang/Enum" "ordinal" "I" (.int (4 : Int32))) (O5 : Fld Z h s5 "java/lang/Enum" "ordinal" "I" (.int (5 : Int32))) (O6 : Fld Z h s6 "java/lang/Enum" "ordinal" "I" (.int (6 : Int32))) (O7 : Fld Z h s7 "java/lang/Enum" "ordinal" "I" (.int (7 : Int32))) (O8 : Fld Z h s8 "java/lang/Enum" "ordinal" "I" (.int (8 : Int32))) (O9 : Fld Z h s9 "java/lang/Enum" "ordinal" "I" (.int (9 : Int32))) (O10 : Fld Z h s10 "java/lang/Enum" "ordinal" "I" (.int (10 : Int32))) (O11 : Fld Z h s11 "java/lang/Enum" "ordinal" "I" (.int (11 : Int32))) (O12 : Fld Z h s12 "java/lang/Enum" "ordinal" "I" (.int (12 : Int32))) {i : Int32} (hi : ∃ n : Nat, n < 13 ∧ i = Int32.ofNat n) : Fld Z h (kindF i s0 s1 s2 s3 s4 s5 s6 s7 s8 s9 s10 s11 s12) "java/lang/Enum" "ordinal" "I" (.int i) := by
  obtain ⟨n, hn, rfl⟩ := hi
  obtain rfl | rfl | rfl | rfl | rfl | rfl | rfl | rfl | rfl | rfl | rfl | rfl | rfl := (by omega : n = 0 ∨ n = 1 ∨ n = 2 ∨ n = 3 ∨ n = 4 ∨ n = 5 ∨ n = 6 ∨ n = 7 ∨ n = 8 ∨ n = 9 ∨ n = 10 ∨ n = 11 ∨ n = 12)
  · exact O0
  · exact O1
  · exact O2
  · exact O3
  · exact O4
  · exact O5
  · exact O6
  · exact O7
  · exact O8
  · exact O9
  · exact O10
  · exact O11
  · exact O12
theorem kind_no {Z : State} {h : Heap} {s0 s1 s2 s3 s4 s5 s6 s7 s8 s9 s10 s11 s12 : Addr} (O0 : Fld Z h s0 "java/lang/Enum" "ordinal" "I" (.int (0 : Int32))) (O1 : Fld Z h s1 "java/lang/Enum" "ordinal" "I" (.int (1 : Int32))) (O2 : Fld Z h s2 "java/lang/Enum" "ordinal" "I" (.int (2 : Int32))) (O3 : Fld Z h s3 "java/lang/Enum" "ordinal" "I" (.int (3 : Int32))) (O4 : Fld Z h s4 "java/lang/Enum" "ordinal" "I" (.int (4 : Int32))) (O5 : Fld Z h s5 "java/lang/Enum" "ordinal" "I" (.int (5 : Int32))) (O6 : Fld Z h s6 "java/lang/Enum" "ordinal" "I" (.int (6 : Int32))) (O7 : Fld Z h s7 "java/lang/Enum" "ordinal" "I" (.int (7 : Int32))) (O8 : Fld Z h s8 "java/lang/Enum" "ordinal" "I" (.int (8 : Int32))) (O9 : Fld Z h s9 "java/lang/Enum" "ordinal" "I" (.int (9 : Int32))) (O10 : Fld Z h s10 "java/lang/Enum" "ordinal" "I" (.int (10 : Int32))) (O11 : Fld Z h s11 "java/lang/Enum" "ordinal" "I" (.int (11 : Int32))) (O12 : Fld Z h s12 "java/lang/Enum" "ordinal" "I" (.int (12 : Int32))) {i : Int32} (hi : ∃ n : Nat, n < 13 ∧ i = Int32.ofNat n) (hne : ¬ i = 0) : ¬ ((.ref (kindF i s0 s1 s2 s3 s4 s5 s6 s7 s8 s9 s10 s11 s12)) : Value) = (.ref s0) := fun q =>
  Fld.ne (kind_ord O0 O1 O2 O3 O4 O5 O6 O7 O8 O9 O10 O11 O12 hi) O0 (fun q => hne (Value.int.inj q)) (Value.ref.inj q)
theorem rng13 {x i : Int32} (h : i = (x &&& (2147483647 : Int32)) % (13 : Int32)) : ∃ n : Nat, n < 13 ∧ i = Int32.ofNat n := by
  obtain ⟨n, h1, h2⟩ := rem_range (x := x &&& 2147483647) 13 (by decide) (by decide) (and_nonneg x)
  exact ⟨n, h1, h.trans h2⟩
theorem rng3 {x i : Int32} (h : i = (x &&& (3 : Int32)) % (3 : Int32)) : i = 0 ∨ i = 1 ∨ i = 2 := by
  obtain ⟨n, h1, h2⟩ := rem_range (x := x &&& 3) 3 (by decide) (by decide) (by
    have := and_toInt x 3 (by decide)
    have e : (Int32.ofNat 3) = (3 : Int32) := rfl
    rw [e] at this
    simp only [Int32.lt_iff_toInt_lt, Int32.reduceToInt, this]
    omega)
  have h3 : i = Int32.ofNat n := h.trans h2
  rw [h3]
  obtain rfl | rfl | rfl := (by omega : n = 0 ∨ n = 1 ∨ n = 2)
  · exact Or.inl rfl
  · exact Or.inr (Or.inl rfl)
  · exact Or.inr (Or.inr rfl)
theorem str_yes {l1 a0 a1 b0 b1 : Int32} (h0 : l1 < 1 ∨ a0 = b0) (h1 : l1 < 2 ∨ a1 = b1) (r : l1 = 0 ∨ l1 = 1 ∨ l1 = 2) : strF l1 a0 a1 = strF l1 b0 b1 := by
  rcases r with rfl | rfl | rfl
  · rfl
  · rcases h0 with h0 | rfl
    · exact absurd h0 (by decide)
    · rfl
  · rcases h0 with h0 | rfl
    · exact absurd h0 (by decide)
    · rcases h1 with h1 | rfl
      · exact absurd h1 (by decide)
      · rfl
theorem str_len {l1 a0 a1 : Int32} (r : l1 = 0 ∨ l1 = 1 ∨ l1 = 2) : Int32.ofNat (strF l1 a0 a1).length = l1 := by
  rcases r with rfl | rfl | rfl <;> rfl
theorem str_no1 {l1 l2 a0 a1 b0 b1 : Int32} (hne : ¬ l1 = l2) (r : l1 = 0 ∨ l1 = 1 ∨ l1 = 2) (r2 : l2 = 0 ∨ l2 = 1 ∨ l2 = 2) : ¬ strF l1 a0 a1 = strF l2 b0 b1 := fun q => hne (by rw [← str_len (a0 := a0) (a1 := a1) r, q, str_len r2])
theorem str_no2 {l1 a0 a1 b0 b1 : Int32} (hl : ¬ l1 < 1) (hne : ¬ a0 = b0) (r : l1 = 0 ∨ l1 = 1 ∨ l1 = 2) : ¬ strF l1 a0 a1 = strF l1 b0 b1 := by
  rcases r with rfl | rfl | rfl
  · exact absurd (by decide) hl
  · exact fun q => hne (List.head_eq_of_cons_eq q)
  · exact fun q => hne (List.head_eq_of_cons_eq q)
theorem str_no3 {l1 a0 a1 b0 b1 : Int32} (hl : ¬ l1 < 2) (hne : ¬ a1 = b1) (r : l1 = 0 ∨ l1 = 1 ∨ l1 = 2) : ¬ strF l1 a0 a1 = strF l1 b0 b1 := by
  rcases r with rfl | rfl | rfl
  · exact absurd (by decide) hl
  · exact absurd (by decide) hl
  · exact fun q => hne (List.head_eq_of_cons_eq (List.tail_eq_of_cons_eq q))
theorem iw_k {kd s0 : Addr} {cs ds : List Int32} (h : ¬ ((.ref kd) : Value) = (.ref s0)) : iwF kd s0 cs ds = 0 := by rw [iwF, if_neg h]
theorem in_k {kd s0 : Addr} : inF kd s0 = 0 := by rw [inF]; split <;> rfl
theorem iw_no {kd s0 : Addr} {cs ds : List Int32} (h : ¬ cs = ds) : iwF kd s0 cs ds = 0 := by
  rw [iwF]; simp [h]
theorem iw_yes {kd s0 : Addr} {cs ds : List Int32} (hk : kd = s0) (h : cs = ds) : iwF kd s0 cs ds = 1 := by
  subst hk h; simp [iwF]
theorem kind_w {q : Int32} {s0 s1 s2 s3 s4 s5 s6 s7 s8 s9 s10 s11 s12 : Addr} (h : q = 0) : kindF q s0 s1 s2 s3 s4 s5 s6 s7 s8 s9 s10 s11 s12 = s0 := by rw [kindF, if_pos h]
theorem pd_0262a027 : parseMethodDescriptor "(I)Lcom/example/tracewright/tracewright/compiler/Token$Kind;" = some ⟨[.int], some (.object "com/example/tracewright/tracewright/compiler/Token$Kind")⟩ := by decide +kernel
theorem pd_191a01f4 : parseMethodDescriptor "(ICC)Ljava/lang/String;" = some ⟨[.int, .char, .char], some (.object "java/lang/String")⟩ := by decide +kernel
theorem pd_83ccecf8 : parseMethodDescriptor "(Lcom/example/tracewright/tracewright/compiler/Token$Kind;Ljava/lang/String;I)V" = some ⟨[(.object "com/example/tracewright/tracewright/compiler/Token$Kind"), (.object "java/lang/String"), .int], none⟩ := by decide +kernel
theorem pd_896d4e2b : parseMethodDescriptor "(Ljava/lang/String;)Z" = some ⟨[(.object "java/lang/String")], some .boolean⟩ := by decide +kernel
theorem pn_Law : plainFor (⟨"com/example/tracewright/tracewright/compiler/TokenIsWordPinLaw", "law", "(IIIII)Z"⟩ : MethodName) = true := by first | exact plainFor_of_name (by first | (simp [plainName, overriddenIn]; done) | decide +kernel) | decide +kernel
set_option maxRecDepth 65536 in
set_option maxHeartbeats 40000000 in
theorem rmLaw (l : Launch) (Z : State) (a0 : Array Value) (hw : ∀ d ∈ tables_1, d.before a0 Z = true) (hEL : EW Z a0 consts_1) (p1 p2 p3 p4 p5 zc : Int32) (s0 s1 s2 s3 s4 s5 s6 s7 s8 s9 s10 s11 s12 : Addr) (h0 : Heap) (n0 : Nat) (Z0 : n0 ≤ h0.size) (S0 : Sta Z h0 "com/example/tracewright/tracewright/compiler/Token$Kind" "WORD" "Lcom/example/tracewright/tracewright/compiler/Token$Kind;" (.ref s0)) (S1 : Sta Z h0 "com/example/tracewright/tracewright/compiler/Token$Kind" "NUMBER" "Lcom/example/tracewright/tracewright/compiler/Token$Kind;" (.ref s1)) (S2 : Sta Z h0 "com/example/tracewright/tracewright/compiler/Token$Kind" "STRING" "Lcom/example/tracewright/tracewright/compiler/Token$Kind;" (.ref s2)) (S3 : Sta Z h0 "com/example/tracewright/tracewright/compiler/Token$Kind" "COMMAND_LABEL" "Lcom/example/tracewright/tracewright/compiler/Token$Kind;" (.ref s3)) (S4 : Sta Z h0 "com/example/tracewright/tracewright/compiler/Token$Kind" "LABEL" "Lcom/example/tracewright/tracewright/compiler/Token$Kind;" (.ref s4)) (S5 : Sta Z h0 "com/example/tracewright/tracewright/compiler/Token$Kind" "LEFT_PAREN" "Lcom/example/tracewright/tracewright/compiler/Token$Kind;" (.ref s5)) (S6 : Sta Z h0 "com/example/tracewright/tracewright/compiler/Token$Kind" "RIGHT_PAREN" "Lcom/example/tracewright/tracewright/compiler/Token$Kind;" (.ref s6)) (S7 : Sta Z h0 "com/example/tracewright/tracewright/compiler/Token$Kind" "COMMA" "Lcom/example/tracewright/tracewright/compiler/Token$Kind;" (.ref s7)) (S8 : Sta Z h0 "com/example/tracewright/tracewright/compiler/Token$Kind" "COLON" "Lcom/example/tracewright/tracewright/compiler/Token$Kind;" (.ref s8)) (S9 : Sta Z h0 "com/example/tracewright/tracewright/compiler/Token$Kind" "SEMICOLON" "Lcom/example/tracewright/tracewright/compiler/Token$Kind;" (.ref s9)) (S10 : Sta Z h0 "com/example/tracewright/tracewright/compiler/Token$Kind" "EQUALS" "Lcom/example/tracewright/tracewright/compiler/Token$Kind;" (.ref s10)) (S11 : Sta Z h0 "com/example/tracewright/tracewright/compiler/Token$Kind" "ASTERISK" "Lcom/example/tracewright/tracewright/compiler/Token$Kind;" (.ref s11)) (S12 : Sta Z h0 "com/example/tracewright/tracewright/compiler/Token$Kind" "END_OF_SOURCE" "Lcom/example/tracewright/tracewright/compiler/Token$Kind;" (.ref s12)) (O0 : Fld Z h0 s0 "java/lang/Enum" "ordinal" "I" (.int (0 : Int32))) (O1 : Fld Z h0 s1 "java/lang/Enum" "ordinal" "I" (.int (1 : Int32))) (O2 : Fld Z h0 s2 "java/lang/Enum" "ordinal" "I" (.int (2 : Int32))) (O3 : Fld Z h0 s3 "java/lang/Enum" "ordinal" "I" (.int (3 : Int32))) (O4 : Fld Z h0 s4 "java/lang/Enum" "ordinal" "I" (.int (4 : Int32))) (O5 : Fld Z h0 s5 "java/lang/Enum" "ordinal" "I" (.int (5 : Int32))) (O6 : Fld Z h0 s6 "java/lang/Enum" "ordinal" "I" (.int (6 : Int32))) (O7 : Fld Z h0 s7 "java/lang/Enum" "ordinal" "I" (.int (7 : Int32))) (O8 : Fld Z h0 s8 "java/lang/Enum" "ordinal" "I" (.int (8 : Int32))) (O9 : Fld Z h0 s9 "java/lang/Enum" "ordinal" "I" (.int (9 : Int32))) (O10 : Fld Z h0 s10 "java/lang/Enum" "ordinal" "I" (.int (10 : Int32))) (O11 : Fld Z h0 s11 "java/lang/Enum" "ordinal" "I" (.int (11 : Int32))) (O12 : Fld Z h0 s12 "java/lang/Enum" "ordinal" "I" (.int (12 : Int32))) (SC : Sta Z h0 "java/lang/String" "COMPACT_STRINGS" "Z" (.int zc)) (hz : ¬ zc = 0) :
    WM l x code maxLocals ret tables_1 room_1 Z consts_1 n0 #[(.int p1), (.int p2), (.int p3), (.int p4), (.int p5)] h0 [] (fun v h => v = some (.int 1) ∧ True) := by
  refine WM.walk (Ls := #[.val (.int p1), .val (.int p2), .val (.int p3), .val (.int p4), .val (.int p5), .unset, .unset, .unset, .unset, .unset, .unset, .unset, .unset, .unset, .unset, .unset, .unset]) pn_Law Z0 (fun m => by first | (simp [entryFrame, mkF, argsToLocals, Value.category, maxLocals]; done) | rfl) ?_
  intro p e s m below meth c s₁ hby hml hret hnm W0
  refine W0.1.iloadN (hb hby at_0) rfl (pc' := 1) rfl ?_
  refine W0.1.ldcI (hb hby at_1) (hw _ (List.mem_of_getElem? (i := 0) rfl)) (pc' := 3) rfl ?_
  refine W0.1.iand (hb hby at_3) (pc' := 4) rfl ?_
  refine W0.1.bipush (13 : Int32) (hb hby at_4) rfl (pc' := 6) rfl ?_
  refine W0.1.irem (hb hby at_6) (by decide) (pc' := 7) rfl ?_
  refine lets (P := fun z => Go _ _ _ _ _ (mkF m 7 #[.val (.int p1), .val (.int p2), .val (.int p3), .val (.int p4), .val (.int p5), .unset, .unset, .unset, .unset, .unset, .unset, .unset, .unset, .unset, .unset, .unset, .unset] [(.int z)])) ((p1 &&& (2147483647 : Int32)) % (13 : Int32)) ?_
  intro ks hks
  refine W0.1.istore (Ls' := #[.val (.int p1), .val (.int p2), .val (.int p3), .val (.int p4), .val (.int p5), .val (.int ks), .unset, .unset, .unset, .unset, .unset, .unset, .unset, .unset, .unset, .unset, .unset]) (hb hby at_7) rfl (pc' := 9) rfl ?_
  refine W0.1.iloadN (hb hby at_9) rfl (pc' := 10) rfl ?_
  refine W0.1.iconst (3 : Int32) (hb hby at_10) rfl (pc' := 11) rfl ?_
  refine W0.1.iand (hb hby at_11) (pc' := 12) rfl ?_
  refine W0.1.iconst (3 : Int32) (hb hby at_12) rfl (pc' := 13) rfl ?_
  refine W0.1.irem (hb hby at_13) (by decide) (pc' := 14) rfl ?_
  refine lets (P := fun z => Go _ _ _ _ _ (mkF m 14 #[.val (.int p1), .val (.int p2), .val (.int p3), .val (.int p4), .val (.int p5), .val (.int ks), .unset, .unset, .unset, .unset, .unset, .unset, .unset, .unset, .unset, .unset, .unset] [(.int z)])) ((p4 &&& (3 : Int32)) % (3 : Int32)) ?_
  intro tl htl
  refine W0.1.istore (Ls' := #[.val (.int p1), .val (.int p2), .val (.int p3), .val (.int p4), .val (.int p5), .val (.int ks), .val (.int tl), .unset, .unset, .unset, .unset, .unset, .unset, .unset, .unset, .unset, .unset]) (hb hby at_14) rfl (pc' := 16) rfl ?_
  refine W0.1.iloadN (hb hby at_16) rfl (pc' := 17) rfl ?_
  refine W0.1.iconst (2 : Int32) (hb hby at_17) rfl (pc' := 18) rfl ?_
  refine W0.1.iushr (hb hby at_18) (pc' := 19) rfl ?_
  refine W0.1.iconst (3 : Int32) (hb hby at_19) rfl (pc' := 20) rfl ?_
  refine W0.1.iand (hb hby at_20) (pc' := 21) rfl ?_
  refine W0.1.iconst (3 : Int32) (hb hby at_21) rfl (pc' := 22) rfl ?_
  refine W0.1.irem (hb hby at_22) (by decide) (pc' := 23) rfl ?_
  refine lets (P := fun z => Go _ _ _ _ _ (mkF m 23 #[.val (.int p1), .val (.int p2), .val (.int p3), .val (.int p4), .val (.int p5), .val (.int ks), .val (.int tl), .unset, .unset, .unset, .unset, .unset, .unset, .unset, .unset, .unset, .unset] [(.int z)])) (((XT.ushr p4 (2 : Int32)) &&& (3 : Int32)) % (3 : Int32)) ?_
  intro wl hwl
  refine W0.1.istore (Ls' := #[.val (.int p1), .val (.int p2), .val (.int p3), .val (.int p4), .val (.int p5), .val (.int ks), .val (.int tl), .val (.int wl), .unset, .unset, .unset, .unset, .unset, .unset, .unset, .unset, .unset]) (hb hby at_23) rfl (pc' := 25) rfl ?_
  refine W0.1.iloadN (hb hby at_25) rfl (pc' := 26) rfl ?_
  refine W0.1.iconst (4 : Int32) (hb hby at_26) rfl (pc' := 27) rfl ?_
  refine W0.1.iushr (hb hby at_27) (pc' := 28) rfl ?_
  refine W0.1.iconst (1 : Int32) (hb hby at_28) rfl (pc' := 29) rfl ?_
  refine W0.1.iand (hb hby at_29) (pc' := 30) rfl ?_
  by_cases hc1 : ((XT.ushr p4 (4 : Int32)) &&& (1 : Int32)) = (0 : Int32)
  · refine W0.1.ifYes (hb hby at_30) (XT.i0_eq_t hc1) (by decide) (pc' := 37) (by decide) ?_
    refine W0.1.iconst (0 : Int32) (hb hby at_37) rfl (pc' := 38) rfl ?_
    refine W0.1.istore (Ls' := #[.val (.int p1), .val (.int p2), .val (.int p3), .val (.int p4), .val (.int p5), .val (.int ks), .val (.int tl), .val (.int wl), .val (.int (0 : Int32)), .unset, .unset, .unset, .unset, .unset, .unset, .unset, .unset]) (hb hby at_38) rfl (pc' := 40) rfl ?_
    refine W0.1.iloadN (hb hby at_40) rfl (pc' := 41) rfl ?_
    refine W0.1.iconst (5 : Int32) (hb hby at_41) rfl (pc' := 42) rfl ?_
    refine W0.1.iushr (hb hby at_42) (pc' := 43) rfl ?_
    refine W0.1.bipush (7 : Int32) (hb hby at_43) rfl (pc' := 45) rfl ?_
    refine W0.1.iand (hb hby at_45) (pc' := 46) rfl ?_
    by_cases hc2 : ((XT.ushr p4 (5 : Int32)) &&& (7 : Int32)) = (0 : Int32)
    · refine W0.1.ifNo (hb hby at_46) (XT.i0_ne_f hc2) (pc' := 49) rfl ?_
      refine W0.1.iconst (1 : Int32) (hb hby at_49) rfl (pc' := 50) rfl ?_
      refine W0.1.goto (hb hby at_50) (by decide) (pc' := 54) (by decide) ?_
      refine W0.1.istore (Ls' := #[.val (.int p1), .val (.int p2), .val (.int p3), .val (.int p4), .val (.int p5), .val (.int ks), .val (.int tl), .val (.int wl), .val (.int (0 : Int32)), .val (.int (1 : Int32)), .unset, .unset, .unset, .unset, .unset, .unset, .unset]) (hb hby at_54) rfl (pc' := 56) rfl ?_
      refine W0.1.iloadN (hb hby at_56) rfl (pc' := 57) rfl ?_
      refine W0.1.sipush (255 : Int32) (hb hby at_57) rfl (pc' := 60) rfl ?_
      refine W0.1.iand (hb hby at_60) (pc' := 61) rfl ?_
      refine W0.1.i2c (hb hby at_61) (pc' := 62) rfl ?_
      refine lets (P := fun z => Go _ _ _ _ _ (mkF m 62 #[.val (.int p1), .val (.int p2), .val (.int p3), .val (.int p4), .val (.int p5), .val (.int ks), .val (.int tl), .val (.int wl), .val (.int (0 : Int32)), .val (.int (1 : Int32)), .unset, .unset, .unset, .unset, .unset, .unset, .unset] [(.int z)])) (i2c (p2 &&& (255 : Int32))) ?_
      intro t0 ht0
      refine W0.1.istore (Ls' := #[.val (.int p1), .val (.int p2), .val (.int p3), .val (.int p4), .val (.int p5), .val (.int ks), .val (.int tl), .val (.int wl), .val (.int (0 : Int32)), .val (.int (1 : Int32)), .val (.int t0), .unset, .unset, .unset, .unset, .unset, .unset]) (hb hby at_62) rfl (pc' := 64) rfl ?_
      refine W0.1.iloadN (hb hby at_64) rfl (pc' := 65) rfl ?_
      refine W0.1.bipush (8 : Int32) (hb hby at_65) rfl (pc' := 67) rfl ?_
      refine W0.1.iushr (hb hby at_67) (pc' := 68) rfl ?_
      refine W0.1.sipush (255 : Int32) (hb hby at_68) rfl (pc' := 71) rfl ?_
      refine W0.1.iand (hb hby at_71) (pc' := 72) rfl ?_
      refine W0.1.i2c (hb hby at_72) (pc' := 73) rfl ?_
      refine lets (P := fun z => Go _ _ _ _ _ (mkF m 73 #[.val (.int p1), .val (.int p2), .val (.int p3), .val (.int p4), .val (.int p5), .val (.int ks), .val (.int tl), .val (.int wl), .val (.int (0 : Int32)), .val (.int (1 : Int32)), .val (.int t0), .unset, .unset, .unset, .unset, .unset, .unset] [(.int z)])) (i2c ((XT.ushr p2 (8 : Int32)) &&& (255 : Int32))) ?_
      intro t1 ht1
      refine W0.1.istore (Ls' := #[.val (.int p1), .val (.int p2), .val (.int p3), .val (.int p4), .val (.int p5), .val (.int ks), .val (.int tl), .val (.int wl), .val (.int (0 : Int32)), .val (.int (1 : Int32)), .val (.int t0), .val (.int t1), .unset, .unset, .unset, .unset, .unset]) (hb hby at_73) rfl (pc' := 75) rfl ?_
      refine W0.1.iload (hb hby at_75) rfl (pc' := 77) rfl ?_
      refine W0.1.ifYes (hb hby at_77) (XT.i0_eq_t (by decide)) (by decide) (pc' := 85) (by decide) ?_
      refine W0.1.iloadN (hb hby at_85) rfl (pc' := 86) rfl ?_
      refine W0.1.sipush (255 : Int32) (hb hby at_86) rfl (pc' := 89) rfl ?_
      refine W0.1.iand (hb hby at_89) (pc' := 90) rfl ?_
      refine W0.1.i2c (hb hby at_90) (pc' := 91) rfl ?_
      refine lets (P := fun z => Go _ _ _ _ _ (mkF m 91 #[.val (.int p1), .val (.int p2), .val (.int p3), .val (.int p4), .val (.int p5), .val (.int ks), .val (.int tl), .val (.int wl), .val (.int (0 : Int32)), .val (.int (1 : Int32)), .val (.int t0), .val (.int t1), .unset, .unset, .unset, .unset, .unset] [(.int z)])) (i2c (p3 &&& (255 : Int32))) ?_
      intro w0 hw0
      refine W0.1.istore (Ls' := #[.val (.int p1), .val (.int p2), .val (.int p3), .val (.int p4), .val (.int p5), .val (.int ks), .val (.int tl), .val (.int wl), .val (.int (0 : Int32)), .val (.int (1 : Int32)), .val (.int t0), .val (.int t1), .val (.int w0), .unset, .unset, .unset, .unset]) (hb hby at_91) rfl (pc' := 93) rfl ?_
      refine W0.1.iload (hb hby at_93) rfl (pc' := 95) rfl ?_
      refine W0.1.ifYes (hb hby at_95) (XT.i0_eq_t (by decide)) (by decide) (pc' := 103) (by decide) ?_
      refine W0.1.iloadN (hb hby at_103) rfl (pc' := 104) rfl ?_
      refine W0.1.bipush (8 : Int32) (hb hby at_104) rfl (pc' := 106) rfl ?_
      refine W0.1.iushr (hb hby at_106) (pc' := 107) rfl ?_
      refine W0.1.sipush (255 : Int32) (hb hby at_107) rfl (pc' := 110) rfl ?_
      refine W0.1.iand (hb hby at_110) (pc' := 111) rfl ?_
      refine W0.1.i2c (hb hby at_111) (pc' := 112) rfl ?_
      refine lets (P := fun z => Go _ _ _ _ _ (mkF m 112 #[.val (.int p1), .val (.int p2), .val (.int p3), .val (.int p4), .val (.int p5), .val (.int ks), .val (.int tl), .val (.int wl), .val (.int (0 : Int32)), .val (.int (1 : Int32)), .val (.int t0), .val (.int t1), .val (.int w0), .unset, .unset, .unset, .unset] [(.int z)])) (i2c ((XT.ushr p3 (8 : Int32)) &&& (255 : Int32))) ?_
      intro w1 hw1
      refine W0.1.istore (Ls' := #[.val (.int p1), .val (.int p2), .val (.int p3), .val (.int p4), .val (.int p5), .val (.int ks), .val (.int tl), .val (.int wl), .val (.int (0 : Int32)), .val (.int (1 : Int32)), .val (.int t0), .val (.int t1), .val (.int w0), .val (.int w1), .unset, .unset, .unset]) (hb hby at_112) rfl (pc' := 114) rfl ?_
      refine W0.1.newO (hw _ (List.mem_of_getElem? (i := 1) rfl)) (hw _ (List.mem_of_getElem? (i := 2) rfl)) (hw _ (List.mem_of_getElem? (i := 3) rfl)) (hb hby at_114) (pc' := 117) rfl (by decide) (by decide) ?_
      intro T3 h3 a3 g3 ge3 gn3 N3 E3 A3 D3
      have z3 := E3.1
      have y3 := Nat.le_of_eq g3.symm
      have W3 := W0.upE N3 E3
      have D3_kind := D3 (Or.inr (hw _ (List.mem_of_getElem? (i := 54) rfl))) (ty := (.object "com/example/tracewright/tracewright/compiler/Token$Kind")) (by decide)
      have D3_text := D3 (Or.inr (hw _ (List.mem_of_getElem? (i := 56) rfl))) (ty := (.object "java/lang/String")) (by decide)
      have D3_line := D3 (Or.inr (hw _ (List.mem_of_getElem? (i := 58) rfl))) (ty := .int) (by decide)
      refine W3.1.dup (hb hby at_117) rfl (pc' := 118) rfl ?_
      refine W3.1.iload (hb hby at_118) rfl (pc' := 120) rfl ?_
      have F5 := Sta.ext E3 S0
      have F6 := Sta.ext E3 S1
      have F7 := Sta.ext E3 S2
      have F8 := Sta.ext E3 S3
      have F9 := Sta.ext E3 S4
      have F10 := Sta.ext E3 S5
      have F11 := Sta.ext E3 S6
      have F12 := Sta.ext E3 S7
      have F13 := Sta.ext E3 S8
      have F14 := Sta.ext E3 S9
      have F15 := Sta.ext E3 S10
      have F16 := Sta.ext E3 S11
      have F17 := Sta.ext E3 S12
      refine W3.1.callSP (hw _ (List.mem_of_getElem? (i := 4) rfl)) (hw _ (List.mem_of_getElem? (i := 5) rfl)) (hw _ (List.mem_of_getElem? (i := 6) rfl)) (hw _ (List.mem_of_getElem? (i := 7) rfl)) (by decide) (NM.bk (wd := 2) (rmK l Z a0 hw ks s0 s1 s2 s3 s4 s5 s6 s7 s8 s9 s10 s11 s12 h3 n0 W3.1.n0h F5 F6 F7 F8 F9 F10 F11 F12 F13 F14 F15 F16 F17) W3.1.2.2.2.1 (hw _ (List.mem_of_getElem? (i := 7) rfl)) (hw _ (List.mem_of_getElem? (i := 6) rfl)) (by decide) (by decide)) (hb hby at_120) (pc' := 123) rfl hml (argsL := [(.int ks)]) rfl (lenOf pd_0262a027 rfl) rfl (Nat.le_of_ble_eq_true rfl) (by decide) (by decide) (fun _ _ _ q => pu_of q) ?_
      intro T4 L4 N4
      have W4 := W3.same N4
      show Go p e below _ T4 (mkF m 123 #[.val (.int p1), .val (.int p2), .val (.int p3), .val (.int p4), .val (.int p5), .val (.int ks), .val (.int tl), .val (.int wl), .val (.int (0 : Int32)), .val (.int (1 : Int32)), .val (.int t0), .val (.int t1), .val (.int w0), .val (.int w1), .unset, .unset, .unset] [(.ref (kindF ks s0 s1 s2 s3 s4 s5 s6 s7 s8 s9 s10 s11 s12)), (.ref a3), (.ref a3)])
      refine W4.1.iload (hb hby at_123) rfl (pc' := 125) rfl ?_
      refine W4.1.iload (hb hby at_125) rfl (pc' := 127) rfl ?_
      refine W4.1.iload (hb hby at_127) rfl (pc' := 129) rfl ?_
      have F19 := Sta.ext E3 SC
      refine W4.callS (hw _ (List.mem_of_getElem? (i := 11) rfl)) (hw _ (List.mem_of_getElem? (i := 12) rfl)) (hw _ (List.mem_of_getElem? (i := 6) rfl)) (hw _ (List.mem_of_getElem? (i := 13) rfl)) (by decide) (WM.bk (wd := 3) (rmS l Z a0 hw hEL tl t0 t1 zc h3 n0 W4.1.n0h (ht0 ▸ lat_and _) (ht1 ▸ lat_and _) F19 hz) W4.1.2.2.2.1 (hw _ (List.mem_of_getElem? (i := 13) rfl)) (hw _ (List.mem_of_getElem? (i := 6) rfl)) (by decide) (by decide) hEL W4.2.2.1) (hb hby at_129) (pc' := 132) rfl hml (argsL := [(.int tl), (.int t0), (.int t1)]) rfl (lenOf pd_191a01f4 rfl) rfl (Nat.le_of_ble_eq_true rfl) (by decide) (by decide) (ws' := []) (fun _ _ _ q => ⟨q.2.2, q.2.1⟩) all0 ?_
      intro v18 T18 h18 vm18 L18' L18 W18 Q18 K18 C18
      have z18 := K18.1
      obtain ⟨⟨a18, rfl, S18⟩, -, -⟩ := Q18
      show Go p e below _ T18 (mkF m 132 #[.val (.int p1), .val (.int p2), .val (.int p3), .val (.int p4), .val (.int p5), .val (.int ks), .val (.int tl), .val (.int wl), .val (.int (0 : Int32)), .val (.int (1 : Int32)), .val (.int t0), .val (.int t1), .val (.int w0), .val (.int w1), .unset, .unset, .unset] [(.ref a18), (.ref (kindF ks s0 s1 s2 s3 s4 s5 s6 s7 s8 s9 s10 s11 s12)), (.ref a3), (.ref a3)])
      refine W18.1.iload (hb hby at_132) rfl (pc' := 134) rfl ?_
      have F21 := Exa.ext (Keep.toExt K18) A3
      have F22 := Fld.ext (Keep.toExt K18) D3_kind
      have F23 := Fld.ext (Keep.toExt K18) D3_text
      have F24 := Fld.ext (Keep.toExt K18) D3_line
      refine W18.1.callI (y := (⟨"com/example/tracewright/tracewright/compiler/Token", "<init>", "(Lcom/example/tracewright/tracewright/compiler/Token$Kind;Ljava/lang/String;I)V"⟩ : MethodName)) rfl (hw _ (List.mem_of_getElem? (i := 44) rfl)) (hw _ (List.mem_of_getElem? (i := 45) rfl)) (hw _ (List.mem_of_getElem? (i := 46) rfl)) (by decide) (NM.bk (wd := 1) (rmT l Z a0 hw a3 (kindF ks s0 s1 s2 s3 s4 s5 s6 s7 s8 s9 s10 s11 s12) a18 p5 h18 n0 W18.1.n0h gn3 F21 F22 F23 F24) W18.1.2.2.2.1 (hw _ (List.mem_of_getElem? (i := 46) rfl)) (hw _ (List.mem_of_getElem? (i := 3) rfl)) (by decide) (by decide)) (hb hby at_134) (pc' := 137) rfl hml (a := a3) (argsL := [(.ref (kindF ks s0 s1 s2 s3 s4 s5 s6 s7 s8 s9 s10 s11 s12)), (.ref a18), (.int p5)]) rfl (lenOf pd_83ccecf8 rfl) rfl (Nat.le_of_ble_eq_true rfl) (by decide) (by decide) (ws' := [a3]) (fun _ _ _ q => ⟨q.2.2, q.2.1⟩) (allS (Or.inr ge3) all0) ?_
      intro v20 T20 h20 L20' L20 N20 Q20 K20
      have W20 := W18.up N20 K20 (sfS (Safe.exa (EL := consts_1) W18.1.2.2.2.1.alike F21 (by decide) (by decide)) sf0)
      have z20 := K20.1
      obtain ⟨⟨rfl, A20, B20, C20⟩, -, -⟩ := Q20
      show Go p e below _ T20 (mkF m 137 #[.val (.int p1), .val (.int p2), .val (.int p3), .val (.int p4), .val (.int p5), .val (.int ks), .val (.int tl), .val (.int wl), .val (.int (0 : Int32)), .val (.int (1 : Int32)), .val (.int t0), .val (.int t1), .val (.int w0), .val (.int w1), .unset, .unset, .unset] [(.ref a3)])
      refine W20.1.astore (Ls' := #[.val (.int p1), .val (.int p2), .val (.int p3), .val (.int p4), .val (.int p5), .val (.int ks), .val (.int tl), .val (.int wl), .val (.int (0 : Int32)), .val (.int (1 : Int32)), .val (.int t0), .val (.int t1), .val (.int w0), .val (.int w1), .val (.ref a3), .unset, .unset]) (hb hby at_137) rfl rfl (pc' := 139) rfl ?_
      refine W20.1.iload (hb hby at_139) rfl (pc' := 141) rfl ?_
      refine W20.1.ifNo (hb hby at_141) (XT.i0_eq_f (by decide)) (pc' := 144) rfl ?_
      refine W20.1.aconstNull (hb hby at_144) (pc' := 145) rfl ?_
      refine W20.1.goto (hb hby at_145) (by decide) (pc' := 157) (by decide) ?_
      refine W20.1.astore (Ls' := #[.val (.int p1), .val (.int p2), .val (.int p3), .val (.int p4), .val (.int p5), .val (.int ks), .val (.int tl), .val (.int wl), .val (.int (0 : Int32)), .val (.int (1 : Int32)), .val (.int t0), .val (.int t1), .val (.int w0), .val (.int w1), .val (.ref a3), .val .null, .unset]) (hb hby at_157) rfl rfl (pc' := 159) rfl ?_
      refine W20.1.iload (hb hby at_159) rfl (pc' := 161) rfl ?_
      by_cases hc25 : ks = (0 : Int32)
      · refine W20.1.ifNo (hb hby at_161) (XT.i0_ne_f hc25) (pc' := 164) rfl ?_
        refine W20.1.iload (hb hby at_164) rfl (pc' := 166) rfl ?_
        refine W20.1.ifYes (hb hby at_166) (XT.i0_ne_t (by decide)) (by decide) (pc' := 206) (by decide) ?_
        refine W20.1.iconst (0 : Int32) (hb hby at_206) rfl (pc' := 207) rfl ?_
        refine W20.1.istore (Ls' := #[.val (.int p1), .val (.int p2), .val (.int p3), .val (.int p4), .val (.int p5), .val (.int ks), .val (.int tl), .val (.int wl), .val (.int (0 : Int32)), .val (.int (1 : Int32)), .val (.int t0), .val (.int t1), .val (.int w0), .val (.int w1), .val (.ref a3), .val .null, .val (.int (0 : Int32))]) (hb hby at_207) rfl (pc' := 209) rfl ?_
        refine W20.1.aload (hb hby at_209) rfl rfl (pc' := 211) rfl ?_
        refine W20.1.aload (hb hby at_211) rfl rfl (pc' := 213) rfl ?_
        have X0_3_26 : Ext h0 h20 := Keep.toExt ((((Keep.refl h0 []).ext E3).trans K18 all0).trans K20 (allS (Or.inr (by have := y3; omega)) all0))
        have zX0_3_26 := X0_3_26.1
        have F27 := Sta.ext X0_3_26 S0
        have F28 := (StrA.keepExa S18 K20 F21 (by decide) (hw _ (List.mem_of_getElem? (i := 2) rfl)))
        refine W20.1.callVP (y := (⟨"com/example/tracewright/tracewright/compiler/Token", "isWord", "(Ljava/lang/String;)Z"⟩ : MethodName)) (z := (⟨"com/example/tracewright/tracewright/compiler/Token", "isWord", "(Ljava/lang/String;)Z"⟩ : MethodName)) (hw _ (List.mem_of_getElem? (i := 59) rfl)) (hw _ (List.mem_of_getElem? (i := 60) rfl)) (hw _ (List.mem_of_getElem? (i := 62) rfl)) (hw _ (List.mem_of_getElem? (i := 62) rfl)) (hw _ (List.mem_of_getElem? (i := 61) rfl)) (by decide) (NM.bk (wd := 0) (rmJ l Z a0 hw a3 (kindF ks s0 s1 s2 s3 s4 s5 s6 s7 s8 s9 s10 s11 s12) a18 s0 (strF tl t0 t1) h20 n0 W20.1.n0h B20 C20 F27 F28) W20.1.2.2.2.1 (hw _ (List.mem_of_getElem? (i := 63) rfl)) (hw _ (List.mem_of_getElem? (i := 3) rfl)) (by decide) (by decide)) A20 (hb hby at_213) (pc' := 216) rfl hml (argsL := [.null]) rfl (lenOf pd_896d4e2b rfl) rfl (Nat.le_of_ble_eq_true rfl) (by decide) (by decide) (fun _ _ _ q => pu_of q) ?_
        intro T29 L29 N29
        have W29 := W20.same N29
        show Go p e below _ T29 (mkF m 216 #[.val (.int p1), .val (.int p2), .val (.int p3), .val (.int p4), .val (.int p5), .val (.int ks), .val (.int tl), .val (.int wl), .val (.int (0 : Int32)), .val (.int (1 : Int32)), .val (.int t0), .val (.int t1), .val (.int w0), .val (.int w1), .val (.ref a3), .val .null, .val (.int (0 : Int32))] [(.int (inF (kindF ks s0 s1 s2 s3 s4 s5 s6 s7 s8 s9 s10 s11 s12) s0))])
        refine W29.1.iload (hb hby at_216) rfl (pc' := 218) rfl ?_
        refine W29.1.icmpNo (hb hby at_218) (XT.ii_ne_f in_k) (pc' := 221) rfl ?_
        refine W29.1.iconst (1 : Int32) (hb hby at_221) rfl (pc' := 222) rfl ?_
        refine W29.1.goto (hb hby at_222) (by decide) (pc' := 226) (by decide) ?_
        exact W29.retZ hEL hret (hb hby at_226) (by decide) (by decide) (by decide) ⟨rfl, trivial⟩
      · refine W20.1.ifYes (hb hby at_161) (XT.i0_ne_t hc25) (by decide) (pc' := 206) (by decide) ?_
        refine W20.1.iconst (0 : Int32) (hb hby at_206) rfl (pc' := 207) rfl ?_
        refine W20.1.istore (Ls' := #[.val (.int p1), .val (.int p2), .val (.int p3), .val (.int p4), .val (.int p5), .val (.int ks), .val (.int tl), .val (.int wl), .val (.int (0 : Int32)), .val (.int (1 : Int32)), .val (.int t0), .val (.int t1), .val (.int w0), .val (.int w1), .val (.ref a3), .val .null, .val (.int (0 : Int32))]) (hb hby at_207) rfl (pc' := 209) rfl ?_
        refine W20.1.aload (hb hby at_209) rfl rfl (pc' := 211) rfl ?_
        refine W20.1.aload (hb hby at_211) rfl rfl (pc' := 213) rfl ?_
        have X0_3_30 : Ext h0 h20 := Keep.toExt ((((Keep.refl h0 []).ext E3).trans K18 all0).trans K20 (allS (Or.inr (by have := y3; omega)) all0))
        have zX0_3_30 := X0_3_30.1
        have F31 := Sta.ext X0_3_30 S0
        have F32 := (StrA.keepExa S18 K20 F21 (by decide) (hw _ (List.mem_of_getElem? (i := 2) rfl)))
        refine W20.1.callVP (y := (⟨"com/example/tracewright/tracewright/compiler/Token", "isWord", "(Ljava/lang/String;)Z"⟩ : MethodName)) (z := (⟨"com/example/tracewright/tracewright/compiler/Token", "isWord", "(Ljava/lang/String;)Z"⟩ : MethodName)) (hw _ (List.mem_of_getElem? (i := 59) rfl)) (hw _ (List.mem_of_getElem? (i := 60) rfl)) (hw _ (List.mem_of_getElem? (i := 62) rfl)) (hw _ (List.mem_of_getElem? (i := 62) rfl)) (hw _ (List.mem_of_getElem? (i := 61) rfl)) (by decide) (NM.bk (wd := 0) (rmJ l Z a0 hw a3 (kindF ks s0 s1 s2 s3 s4 s5 s6 s7 s8 s9 s10 s11 s12) a18 s0 (strF tl t0 t1) h20 n0 W20.1.n0h B20 C20 F31 F32) W20.1.2.2.2.1 (hw _ (List.mem_of_getElem? (i := 63) rfl)) (hw _ (List.mem_of_getElem? (i := 3) rfl)) (by decide) (by decide)) A20 (hb hby at_213) (pc' := 216) rfl hml (argsL := [.null]) rfl (lenOf pd_896d4e2b rfl) rfl (Nat.le_of_ble_eq_true rfl) (by decide) (by decide) (fun _ _ _ q => pu_of q) ?_
        intro T33 L33 N33
        have W33 := W20.same N33
        show Go p e below _ T33 (mkF m 216 #[.val (.int p1), .val (.int p2), .val (.int p3), .val (.int p4), .val (.int p5), .val (.int ks), .val (.int tl), .val (.int wl), .val (.int (0 : Int32)), .val (.int (1 : Int32)), .val (.int t0), .val (.int t1), .val (.int w0), .val (.int w1), .val (.ref a3), .val .null, .val (.int (0 : Int32))] [(.int (inF (kindF ks s0 s1 s2 s3 s4 s5 s6 s7 s8 s9 s10 s11 s12) s0))])
        refine W33.1.iload (hb hby at_216) rfl (pc' := 218) rfl ?_
        refine W33.1.icmpNo (hb hby at_218) (XT.ii_ne_f in_k) (pc' := 221) rfl ?_
        refine W33.1.iconst (1 : Int32) (hb hby at_221) rfl (pc' := 222) rfl ?_
        refine W33.1.goto (hb hby at_222) (by decide) (pc' := 226) (by decide) ?_
        exact W33.retZ hEL hret (hb hby at_226) (by decide) (by decide) (by decide) ⟨rfl, trivial⟩
    · refine W0.1.ifYes (hb hby at_46) (XT.i0_ne_t hc2) (by decide) (pc' := 53) (by decide) ?_
      refine W0.1.iconst (0 : Int32) (hb hby at_53) rfl (pc' := 54) rfl ?_
      refine W0.1.istore (Ls' := #[.val (.int p1), .val (.int p2), .val (.int p3), .val (.int p4), .val (.int p5), .val (.int ks), .val (.int tl), .val (.int wl), .val (.int (0 : Int32)), .val (.int (0 : Int32)), .unset, .unset, .unset, .unset, .unset, .unset, .unset]) (hb hby at_54) rfl (pc' := 56) rfl ?_
      refine W0.1.iloadN (hb hby at_56) rfl (pc' := 57) rfl ?_
      refine W0.1.sipush (255 : Int32) (hb hby at_57) rfl (pc' := 60) rfl ?_
      refine W0.1.iand (hb hby at_60) (pc' := 61) rfl ?_
      refine W0.1.i2c (hb hby at_61) (pc' := 62) rfl ?_
      refine lets (P := fun z => Go _ _ _ _ _ (mkF m 62 #[.val (.int p1), .val (.int p2), .val (.int p3), .val (.int p4), .val (.int p5), .val (.int ks), .val (.int tl), .val (.int wl), .val (.int (0 : Int32)), .val (.int (0 : Int32)), .unset, .unset, .unset, .unset, .unset, .unset, .unset] [(.int z)])) (i2c (p2 &&& (255 : Int32))) ?_
      intro t0 ht0
      refine W0.1.istore (Ls' := #[.val (.int p1), .val (.int p2), .val (.int p3), .val (.int p4), .val (.int p5), .val (.int ks), .val (.int tl), .val (.int wl), .val (.int (0 : Int32)), .val (.int (0 : Int32)), .val (.int t0), .unset, .unset, .unset, .unset, .unset, .unset]) (hb hby at_62) rfl (pc' := 64) rfl ?_
      refine W0.1.iloadN (hb hby at_64) rfl (pc' := 65) rfl ?_
      refine W0.1.bipush (8 : Int32) (hb hby at_65) rfl (pc' := 67) rfl ?_
      refine W0.1.iushr (hb hby at_67) (pc' := 68) rfl ?_
      refine W0.1.sipush (255 : Int32) (hb hby at_68) rfl (pc' := 71) rfl ?_
      refine W0.1.iand (hb hby at_71) (pc' := 72) rfl ?_
      refine W0.1.i2c (hb hby at_72) (pc' := 73) rfl ?_
      refine lets (P := fun z => Go _ _ _ _ _ (mkF m 73 #[.val (.int p1), .val (.int p2), .val (.int p3), .val (.int p4), .val (.int p5), .val (.int ks), .val (.int tl), .val (.int wl), .val (.int (0 : Int32)), .val (.int (0 : Int32)), .val (.int t0), .unset, .unset, .unset, .unset, .unset, .unset] [(.int z)])) (i2c ((XT.ushr p2 (8 : Int32)) &&& (255 : Int32))) ?_
      intro t1 ht1
      refine W0.1.istore (Ls' := #[.val (.int p1), .val (.int p2), .val (.int p3), .val (.int p4), .val (.int p5), .val (.int ks), .val (.int tl), .val (.int wl), .val (.int (0 : Int32)), .val (.int (0 : Int32)), .val (.int t0), .val (.int t1), .unset, .unset, .unset, .unset, .unset]) (hb hby at_73) rfl (pc' := 75) rfl ?_
      refine W0.1.iload (hb hby at_75) rfl (pc' := 77) rfl ?_
      refine W0.1.ifYes (hb hby at_77) (XT.i0_eq_t (by decide)) (by decide) (pc' := 85) (by decide) ?_
      refine W0.1.iloadN (hb hby at_85) rfl (pc' := 86) rfl ?_
      refine W0.1.sipush (255 : Int32) (hb hby at_86) rfl (pc' := 89) rfl ?_
      refine W0.1.iand (hb hby at_89) (pc' := 90) rfl ?_
      refine W0.1.i2c (hb hby at_90) (pc' := 91) rfl ?_
      refine lets (P := fun z => Go _ _ _ _ _ (mkF m 91 #[.val (.int p1), .val (.int p2), .val (.int p3), .val (.int p4), .val (.int p5), .val (.int ks), .val (.int tl), .val (.int wl), .val (.int (0 : Int32)), .val (.int (0 : Int32)), .val (.int t0), .val (.int t1), .unset, .unset, .unset, .unset, .unset] [(.int z)])) (i2c (p3 &&& (255 : Int32))) ?_
      intro w0 hw0
      refine W0.1.istore (Ls' := #[.val (.int p1), .val (.int p2), .val (.int p3), .val (.int p4), .val (.int p5), .val (.int ks), .val (.int tl), .val (.int wl), .val (.int (0 : Int32)), .val (.int (0 : Int32)), .val (.int t0), .val (.int t1), .val (.int w0), .unset, .unset, .unset, .unset]) (hb hby at_91) rfl (pc' := 93) rfl ?_
      refine W0.1.iload (hb hby at_93) rfl (pc' := 95) rfl ?_
      refine W0.1.ifYes (hb hby at_95) (XT.i0_eq_t (by decide)) (by decide) (pc' := 103) (by decide) ?_
      refine W0.1.iloadN (hb hby at_103) rfl (pc' := 104) rfl ?_
      refine W0.1.bipush (8 : Int32) (hb hby at_104) rfl (pc' := 106) rfl ?_
      refine W0.1.iushr (hb hby at_106) (pc' := 107) rfl ?_
      refine W0.1.sipush (255 : Int32) (hb hby at_107) rfl (pc' := 110) rfl ?_
      refine W0.1.iand (hb hby at_110) (pc' := 111) rfl ?_
      refine W0.1.i2c (hb hby at_111) (pc' := 112) rfl ?_
      refine lets (P := fun z => Go _ _ _ _ _ (mkF m 112 #[.val (.int p1), .val (.int p2), .val (.int p3), .val (.int p4), .val (.int p5), .val (.int ks), .val (.int tl), .val (.int wl), .val (.int (0 : Int32)), .val (.int (0 : Int32)), .val (.int t0), .val (.int t1), .val (.int w0), .unset, .unset, .unset, .unset] [(.int z)])) (i2c ((XT.ushr p3 (8 : Int32)) &&& (255 : Int32))) ?_
      intro w1 hw1
      refine W0.1.istore (Ls' := #[.val (.int p1), .val (.int p2), .val (.int p3), .val (.int p4), .val (.int p5), .val (.int ks), .val (.int tl), .val (.int wl), .val (.int (0 : Int32)), .val (.int (0 : Int32)), .val (.int t0), .val (.int t1), .val (.int w0), .val (.int w1), .unset, .unset, .unset]) (hb hby at_112) rfl (pc' := 114) rfl ?_
      refine W0.1.newO (hw _ (List.mem_of_getElem? (i := 1) rfl)) (hw _ (List.mem_of_getElem? (i := 2) rfl)) (hw _ (List.mem_of_getElem? (i := 3) rfl)) (hb hby at_114) (pc' := 117) rfl (by decide) (by decide) ?_
      intro T34 h34 a34 g34 ge34 gn34 N34 E34 A34 D34
      have z34 := E34.1
      have y34 := Nat.le_of_eq g34.symm
      have W34 := W0.upE N34 E34
      have D34_kind := D34 (Or.inr (hw _ (List.mem_of_getElem? (i := 54) rfl))) (ty := (.object "com/example/tracewright/tracewright/compiler/Token$Kind")) (by decide)
      have D34_text := D34 (Or.inr (hw _ (List.mem_of_getElem? (i := 56) rfl))) (ty := (.object "java/lang/String")) (by decide)
      have D34_line := D34 (Or.inr (hw _ (List.mem_of_getElem? (i := 58) rfl))) (ty := .int) (by decide)
      refine W34.1.dup (hb hby at_117) rfl (pc' := 118) rfl ?_
      refine W34.1.iload (hb hby at_118) rfl (pc' := 120) rfl ?_
      have F36 := Sta.ext E34 S0
      have F37 := Sta.ext E34 S1
      have F38 := Sta.ext E34 S2
      have F39 := Sta.ext E34 S3
      have F40 := Sta.ext E34 S4
      have F41 := Sta.ext E34 S5
      have F42 := Sta.ext E34 S6
      have F43 := Sta.ext E34 S7
      have F44 := Sta.ext E34 S8
      have F45 := Sta.ext E34 S9
      have F46 := Sta.ext E34 S10
      have F47 := Sta.ext E34 S11
      have F48 := Sta.ext E34 S12
      refine W34.1.callSP (hw _ (List.mem_of_getElem? (i := 4) rfl)) (hw _ (List.mem_of_getElem? (i := 5) rfl)) (hw _ (List.mem_of_getElem? (i := 6) rfl)) (hw _ (List.mem_of_getElem? (i := 7) rfl)) (by decide) (NM.bk (wd := 2) (rmK l Z a0 hw ks s0 s1 s2 s3 s4 s5 s6 s7 s8 s9 s10 s11 s12 h34 n0 W34.1.n0h F36 F37 F38 F39 F40 F41 F42 F43 F44 F45 F46 F47 F48) W34.1.2.2.2.1 (hw _ (List.mem_of_getElem? (i := 7) rfl)) (hw _ (List.mem_of_getElem? (i := 6) rfl)) (by decide) (by decide)) (hb hby at_120) (pc' := 123) rfl hml (argsL := [(.int ks)]) rfl (lenOf pd_0262a027 rfl) rfl (Nat.le_of_ble_eq_true rfl) (by decide) (by decide) (fun _ _ _ q => pu_of q) ?_
      intro T35 L35 N35
      have W35 := W34.same N35
      show Go p e below _ T35 (mkF m 123 #[.val (.int p1), .val (.int p2), .val (.int p3), .val (.int p4), .val (.int p5), .val (.int ks), .val (.int tl), .val (.int wl), .val (.int (0 : Int32)), .val (.int (0 : Int32)), .val (.int t0), .val (.int t1), .val (.int w0), .val (.int w1), .unset, .unset, .unset] [(.ref (kindF ks s0 s1 s2 s3 s4 s5 s6 s7 s8 s9 s10 s11 s12)), (.ref a34), (.ref a34)])
      refine W35.1.iload (hb hby at_123) rfl (pc' := 125) rfl ?_
      refine W35.1.iload (hb hby at_125) rfl (pc' := 127) rfl ?_
      refine W35.1.iload (hb hby at_127) rfl (pc' := 129) rfl ?_
      have F50 := Sta.ext E34 SC
      refine W35.callS (hw _ (List.mem_of_getElem? (i := 11) rfl)) (hw _ (List.mem_of_getElem? (i := 12) rfl)) (hw _ (List.mem_of_getElem? (i := 6) rfl)) (hw _ (List.mem_of_getElem? (i := 13) rfl)) (by decide) (WM.bk (wd := 3) (rmS l Z a0 hw hEL tl t0 t1 zc h34 n0 W35.1.n0h (ht0 ▸ lat_and _) (ht1 ▸ lat_and _) F50 hz) W35.1.2.2.2.1 (hw _ (List.mem_of_getElem? (i := 13) rfl)) (hw _ (List.mem_of_getElem? (i := 6) rfl)) (by decide) (by decide) hEL W35.2.2.1) (hb hby at_129) (pc' := 132) rfl hml (argsL := [(.int tl), (.int t0), (.int t1)]) rfl (lenOf pd_191a01f4 rfl) rfl (Nat.le_of_ble_eq_true rfl) (by decide) (by decide) (ws' := []) (fun _ _ _ q => ⟨q.2.2, q.2.1⟩) all0 ?_
      intro v49 T49 h49 vm49 L49' L49 W49 Q49 K49 C49
      have z49 := K49.1
      obtain ⟨⟨a49, rfl, S49⟩, -, -⟩ := Q49
      show Go p e below _ T49 (mkF m 132 #[.val (.int p1), .val (.int p2), .val (.int p3), .val (.int p4), .val (.int p5), .val (.int ks), .val (.int tl), .val (.int wl), .val (.int (0 : Int32)), .val (.int (0 : Int32)), .val (.int t0), .val (.int t1), .val (.int w0), .val (.int w1), .unset, .unset, .unset] [(.ref a49), (.ref (kindF ks s0 s1 s2 s3 s4 s5 s6 s7 s8 s9 s10 s11 s12)), (.ref a34), (.ref a34)])
      refine W49.1.iload (hb hby at_132) rfl (pc' := 134) rfl ?_
      have F52 := Exa.ext (Keep.toExt K49) A34
      have F53 := Fld.ext (Keep.toExt K49) D34_kind
      have F54 := Fld.ext (Keep.toExt K49) D34_text
      have F55 := Fld.ext (Keep.toExt K49) D34_line
      refine W49.1.callI (y := (⟨"com/example/tracewright/tracewright/compiler/Token", "<init>", "(Lcom/example/tracewright/tracewright/compiler/Token$Kind;Ljava/lang/String;I)V"⟩ : MethodName)) rfl (hw _ (List.mem_of_getElem? (i := 44) rfl)) (hw _ (List.mem_of_getElem? (i := 45) rfl)) (hw _ (List.mem_of_getElem? (i := 46) rfl)) (by decide) (NM.bk (wd := 1) (rmT l Z a0 hw a34 (kindF ks s0 s1 s2 s3 s4 s5 s6 s7 s8 s9 s10 s11 s12) a49 p5 h49 n0 W49.1.n0h gn34 F52 F53 F54 F55) W49.1.2.2.2.1 (hw _ (List.mem_of_getElem? (i := 46) rfl)) (hw _ (List.mem_of_getElem? (i := 3) rfl)) (by decide) (by decide)) (hb hby at_134) (pc' := 137) rfl hml (a := a34) (argsL := [(.ref (kindF ks s0 s1 s2 s3 s4 s5 s6 s7 s8 s9 s10 s11 s12)), (.ref a49), (.int p5)]) rfl (lenOf pd_83ccecf8 rfl) rfl (Nat.le_of_ble_eq_true rfl) (by decide) (by decide) (ws' := [a34]) (fun _ _ _ q => ⟨q.2.2, q.2.1⟩) (allS (Or.inr ge34) all0) ?_
      intro v51 T51 h51 L51' L51 N51 Q51 K51
      have W51 := W49.up N51 K51 (sfS (Safe.exa (EL := consts_1) W49.1.2.2.2.1.alike F52 (by decide) (by decide)) sf0)
      have z51 := K51.1
      obtain ⟨⟨rfl, A51, B51, C51⟩, -, -⟩ := Q51
      show Go p e below _ T51 (mkF m 137 #[.val (.int p1), .val (.int p2), .val (.int p3), .val (.int p4), .val (.int p5), .val (.int ks), .val (.int tl), .val (.int wl), .val (.int (0 : Int32)), .val (.int (0 : Int32)), .val (.int t0), .val (.int t1), .val (.int w0), .val (.int w1), .unset, .unset, .unset] [(.ref a34)])
      refine W51.1.astore (Ls' := #[.val (.int p1), .val (.int p2), .val (.int p3), .val (.int p4), .val (.int p5), .val (.int ks), .val (.int tl), .val (.int wl), .val (.int (0 : Int32)), .val (.int (0 : Int32)), .val (.int t0), .val (.int t1), .val (.int w0), .val (.int w1), .val (.ref a34), .unset, .unset]) (hb hby at_137) rfl rfl (pc' := 139) rfl ?_
      refine W51.1.iload (hb hby at_139) rfl (pc' := 141) rfl ?_
      refine W51.1.ifYes (hb hby at_141) (XT.i0_eq_t (by decide)) (by decide) (pc' := 148) (by decide) ?_
      refine W51.1.iload (hb hby at_148) rfl (pc' := 150) rfl ?_
      refine W51.1.iload (hb hby at_150) rfl (pc' := 152) rfl ?_
      refine W51.1.iload (hb hby at_152) rfl (pc' := 154) rfl ?_
      have X0_3_57 : Ext h0 h51 := Keep.toExt ((((Keep.refl h0 []).ext E34).trans K49 all0).trans K51 (allS (Or.inr (by have := y34; omega)) all0))
      have zX0_3_57 := X0_3_57.1
      have F58 := Sta.ext X0_3_57 SC
      refine W51.callS (hw _ (List.mem_of_getElem? (i := 11) rfl)) (hw _ (List.mem_of_getElem? (i := 12) rfl)) (hw _ (List.mem_of_getElem? (i := 6) rfl)) (hw _ (List.mem_of_getElem? (i := 13) rfl)) (by decide) (WM.bk (wd := 0) (rmS l Z a0 hw hEL wl w0 w1 zc h51 n0 W51.1.n0h (hw0 ▸ lat_and _) (hw1 ▸ lat_and _) F58 hz) W51.1.2.2.2.1 (hw _ (List.mem_of_getElem? (i := 13) rfl)) (hw _ (List.mem_of_getElem? (i := 6) rfl)) (by decide) (by decide) hEL W51.2.2.1) (hb hby at_154) (pc' := 157) rfl hml (argsL := [(.int wl), (.int w0), (.int w1)]) rfl (lenOf pd_191a01f4 rfl) rfl (Nat.le_of_ble_eq_true rfl) (by decide) (by decide) (ws' := []) (fun _ _ _ q => ⟨q.2.2, q.2.1⟩) all0 ?_
      intro v56 T56 h56 vm56 L56' L56 W56 Q56 K56 C56
      have z56 := K56.1
      obtain ⟨⟨a56, rfl, S56⟩, -, -⟩ := Q56
      show Go p e below _ T56 (mkF m 157 #[.val (.int p1), .val (.int p2), .val (.int p3), .val (.int p4), .val (.int p5), .val (.int ks), .val (.int tl), .val (.int wl), .val (.int (0 : Int32)), .val (.int (0 : Int32)), .val (.int t0), .val (.int t1), .val (.int w0), .val (.int w1), .val (.ref a34), .unset, .unset] [(.ref a56)])
      refine W56.1.astore (Ls' := #[.val (.int p1), .val (.int p2), .val (.int p3), .val (.int p4), .val (.int p5), .val (.int ks), .val (.int tl), .val (.int wl), .val (.int (0 : Int32)), .val (.int (0 : Int32)), .val (.int t0), .val (.int t1), .val (.int w0), .val (.int w1), .val (.ref a34), .val (.ref a56), .unset]) (hb hby at_157) rfl rfl (pc' := 159) rfl ?_
      refine W56.1.iload (hb hby at_159) rfl (pc' := 161) rfl ?_
      by_cases hc59 : ks = (0 : Int32)
      · refine W56.1.ifNo (hb hby at_161) (XT.i0_ne_f hc59) (pc' := 164) rfl ?_
        refine W56.1.iload (hb hby at_164) rfl (pc' := 166) rfl ?_
        refine W56.1.ifNo (hb hby at_166) (XT.i0_ne_f (by decide)) (pc' := 169) rfl ?_
        refine W56.1.iload (hb hby at_169) rfl (pc' := 171) rfl ?_
        refine W56.1.iload (hb hby at_171) rfl (pc' := 173) rfl ?_
        by_cases hc60 : tl = wl
        · refine W56.1.icmpNo (hb hby at_173) (XT.ii_ne_f hc60) (pc' := 176) rfl ?_
          refine W56.1.iload (hb hby at_176) rfl (pc' := 178) rfl ?_
          refine W56.1.iconst (1 : Int32) (hb hby at_178) rfl (pc' := 179) rfl ?_
          by_cases hc61 : tl < (1 : Int32)
          · refine W56.1.icmpYes (hb hby at_179) (XT.ii_lt_t hc61) (by decide) (pc' := 189) (by decide) ?_
            refine W56.1.iload (hb hby at_189) rfl (pc' := 191) rfl ?_
            refine W56.1.iconst (2 : Int32) (hb hby at_191) rfl (pc' := 192) rfl ?_
            by_cases hc62 : tl < (2 : Int32)
            · refine W56.1.icmpYes (hb hby at_192) (XT.ii_lt_t hc62) (by decide) (pc' := 202) (by decide) ?_
              refine W56.1.iconst (1 : Int32) (hb hby at_202) rfl (pc' := 203) rfl ?_
              refine W56.1.goto (hb hby at_203) (by decide) (pc' := 207) (by decide) ?_
              refine W56.1.istore (Ls' := #[.val (.int p1), .val (.int p2), .val (.int p3), .val (.int p4), .val (.int p5), .val (.int ks), .val (.int tl), .val (.int wl), .val (.int (0 : Int32)), .val (.int (0 : Int32)), .val (.int t0), .val (.int t1), .val (.int w0), .val (.int w1), .val (.ref a34), .val (.ref a56), .val (.int (1 : Int32))]) (hb hby at_207) rfl (pc' := 209) rfl ?_
              refine W56.1.aload (hb hby at_209) rfl rfl (pc' := 211) rfl ?_
              refine W56.1.aload (hb hby at_211) rfl rfl (pc' := 213) rfl ?_
              have F63 := Fld.ext (Keep.toExt K56) B51
              have F64 := Fld.ext (Keep.toExt K56) C51
              have X0_4_65 : Ext h0 h56 := Keep.toExt (((((Keep.refl h0 []).ext E34).trans K49 all0).trans K51 (allS (Or.inr (by have := y34; omega)) all0)).trans K56 all0)
              have zX0_4_65 := X0_4_65.1
              have F66 := Sta.ext X0_4_65 S0
              have F67 := ((StrA.keepExa S49 K51 F52 (by decide) (hw _ (List.mem_of_getElem? (i := 2) rfl))).ext (Keep.toExt K56))
              have F68 := Sta.ext X0_4_65 SC
              have F70 := Exa.ext (Keep.toExt K56) A51
              refine W56.1.callVP (y := (⟨"com/example/tracewright/tracewright/compiler/Token", "isWord", "(Ljava/lang/String;)Z"⟩ : MethodName)) (z := (⟨"com/example/tracewright/tracewright/compiler/Token", "isWord", "(Ljava/lang/String;)Z"⟩ : MethodName)) (hw _ (List.mem_of_getElem? (i := 59) rfl)) (hw _ (List.mem_of_getElem? (i := 60) rfl)) (hw _ (List.mem_of_getElem? (i := 62) rfl)) (hw _ (List.mem_of_getElem? (i := 62) rfl)) (hw _ (List.mem_of_getElem? (i := 61) rfl)) (by decide) (NM.bk (wd := 0) (rmI l Z a0 hw a34 a56 (kindF ks s0 s1 s2 s3 s4 s5 s6 s7 s8 s9 s10 s11 s12) a49 s0 (strF tl t0 t1) (strF wl w0 w1) zc h56 n0 W56.1.n0h F63 F64 F66 F67 S56 F68 hz) W56.1.2.2.2.1 (hw _ (List.mem_of_getElem? (i := 63) rfl)) (hw _ (List.mem_of_getElem? (i := 3) rfl)) (by decide) (by decide)) F70 (hb hby at_213) (pc' := 216) rfl hml (argsL := [(.ref a56)]) rfl (lenOf pd_896d4e2b rfl) rfl (Nat.le_of_ble_eq_true rfl) (by decide) (by decide) (fun _ _ _ q => pu_of q) ?_
              intro T69 L69 N69
              have W69 := W56.same N69
              show Go p e below _ T69 (mkF m 216 #[.val (.int p1), .val (.int p2), .val (.int p3), .val (.int p4), .val (.int p5), .val (.int ks), .val (.int tl), .val (.int wl), .val (.int (0 : Int32)), .val (.int (0 : Int32)), .val (.int t0), .val (.int t1), .val (.int w0), .val (.int w1), .val (.ref a34), .val (.ref a56), .val (.int (1 : Int32))] [(.int (iwF (kindF ks s0 s1 s2 s3 s4 s5 s6 s7 s8 s9 s10 s11 s12) s0 (strF tl t0 t1) (strF wl w0 w1)))])
              refine W69.1.iload (hb hby at_216) rfl (pc' := 218) rfl ?_
              refine W69.1.icmpNo (hb hby at_218) (XT.ii_ne_f (iw_yes (kind_w hc59) (by first | (rw [← hc60]; done) | (rw [← hc60]; exact str_yes (Or.inl hc61) (Or.inl hc62) (rng3 htl))))) (pc' := 221) rfl ?_
              refine W69.1.iconst (1 : Int32) (hb hby at_221) rfl (pc' := 222) rfl ?_
              refine W69.1.goto (hb hby at_222) (by decide) (pc' := 226) (by decide) ?_
              exact W69.retZ hEL hret (hb hby at_226) (by decide) (by decide) (by decide) ⟨rfl, trivial⟩
            · refine W56.1.icmpNo (hb hby at_192) (XT.ii_lt_f hc62) (pc' := 195) rfl ?_
              refine W56.1.iload (hb hby at_195) rfl (pc' := 197) rfl ?_
              refine W56.1.iload (hb hby at_197) rfl (pc' := 199) rfl ?_
              by_cases hc71 : t1 = w1
              · refine W56.1.icmpNo (hb hby at_199) (XT.ii_ne_f hc71) (pc' := 202) rfl ?_
                refine W56.1.iconst (1 : Int32) (hb hby at_202) rfl (pc' := 203) rfl ?_
                refine W56.1.goto (hb hby at_203) (by decide) (pc' := 207) (by decide) ?_
                refine W56.1.istore (Ls' := #[.val (.int p1), .val (.int p2), .val (.int p3), .val (.int p4), .val (.int p5), .val (.int ks), .val (.int tl), .val (.int wl), .val (.int (0 : Int32)), .val (.int (0 : Int32)), .val (.int t0), .val (.int t1), .val (.int w0), .val (.int w1), .val (.ref a34), .val (.ref a56), .val (.int (1 : Int32))]) (hb hby at_207) rfl (pc' := 209) rfl ?_
                refine W56.1.aload (hb hby at_209) rfl rfl (pc' := 211) rfl ?_
                refine W56.1.aload (hb hby at_211) rfl rfl (pc' := 213) rfl ?_
                have F72 := Fld.ext (Keep.toExt K56) B51
                have F73 := Fld.ext (Keep.toExt K56) C51
                have X0_4_74 : Ext h0 h56 := Keep.toExt (((((Keep.refl h0 []).ext E34).trans K49 all0).trans K51 (allS (Or.inr (by have := y34; omega)) all0)).trans K56 all0)
                have zX0_4_74 := X0_4_74.1
                have F75 := Sta.ext X0_4_74 S0
                have F76 := ((StrA.keepExa S49 K51 F52 (by decide) (hw _ (List.mem_of_getElem? (i := 2) rfl))).ext (Keep.toExt K56))
                have F77 := Sta.ext X0_4_74 SC
                have F79 := Exa.ext (Keep.toExt K56) A51
                refine W56.1.callVP (y := (⟨"com/example/tracewright/tracewright/compiler/Token", "isWord", "(Ljava/lang/String;)Z"⟩ : MethodName)) (z := (⟨"com/example/tracewright/tracewright/compiler/Token", "isWord", "(Ljava/lang/String;)Z"⟩ : MethodName)) (hw _ (List.mem_of_getElem? (i := 59) rfl)) (hw _ (List.mem_of_getElem? (i := 60) rfl)) (hw _ (List.mem_of_getElem? (i := 62) rfl)) (hw _ (List.mem_of_getElem? (i := 62) rfl)) (hw _ (List.mem_of_getElem? (i := 61) rfl)) (by decide) (NM.bk (wd := 0) (rmI l Z a0 hw a34 a56 (kindF ks s0 s1 s2 s3 s4 s5 s6 s7 s8 s9 s10 s11 s12) a49 s0 (strF tl t0 t1) (strF wl w0 w1) zc h56 n0 W56.1.n0h F72 F73 F75 F76 S56 F77 hz) W56.1.2.2.2.1 (hw _ (List.mem_of_getElem? (i := 63) rfl)) (hw _ (List.mem_of_getElem? (i := 3) rfl)) (by decide) (by decide)) F79 (hb hby at_213) (pc' := 216) rfl hml (argsL := [(.ref a56)]) rfl (lenOf pd_896d4e2b rfl) rfl (Nat.le_of_ble_eq_true rfl) (by decide) (by decide) (fun _ _ _ q => pu_of q) ?_
                intro T78 L78 N78
                have W78 := W56.same N78
                show Go p e below _ T78 (mkF m 216 #[.val (.int p1), .val (.int p2), .val (.int p3), .val (.int p4), .val (.int p5), .val (.int ks), .val (.int tl), .val (.int wl), .val (.int (0 : Int32)), .val (.int (0 : Int32)), .val (.int t0), .val (.int t1), .val (.int w0), .val (.int w1), .val (.ref a34), .val (.ref a56), .val (.int (1 : Int32))] [(.int (iwF (kindF ks s0 s1 s2 s3 s4 s5 s6 s7 s8 s9 s10 s11 s12) s0 (strF tl t0 t1) (strF wl w0 w1)))])
                refine W78.1.iload (hb hby at_216) rfl (pc' := 218) rfl ?_
                refine W78.1.icmpNo (hb hby at_218) (XT.ii_ne_f (iw_yes (kind_w hc59) (by first | (rw [← hc60]; done) | (rw [← hc60]; exact str_yes (Or.inl hc61) (Or.inr hc71) (rng3 htl))))) (pc' := 221) rfl ?_
                refine W78.1.iconst (1 : Int32) (hb hby at_221) rfl (pc' := 222) rfl ?_
                refine W78.1.goto (hb hby at_222) (by decide) (pc' := 226) (by decide) ?_
                exact W78.retZ hEL hret (hb hby at_226) (by decide) (by decide) (by decide) ⟨rfl, trivial⟩
              · refine W56.1.icmpYes (hb hby at_199) (XT.ii_ne_t hc71) (by decide) (pc' := 206) (by decide) ?_
                refine W56.1.iconst (0 : Int32) (hb hby at_206) rfl (pc' := 207) rfl ?_
                refine W56.1.istore (Ls' := #[.val (.int p1), .val (.int p2), .val (.int p3), .val (.int p4), .val (.int p5), .val (.int ks), .val (.int tl), .val (.int wl), .val (.int (0 : Int32)), .val (.int (0 : Int32)), .val (.int t0), .val (.int t1), .val (.int w0), .val (.int w1), .val (.ref a34), .val (.ref a56), .val (.int (0 : Int32))]) (hb hby at_207) rfl (pc' := 209) rfl ?_
                refine W56.1.aload (hb hby at_209) rfl rfl (pc' := 211) rfl ?_
                refine W56.1.aload (hb hby at_211) rfl rfl (pc' := 213) rfl ?_
                have F80 := Fld.ext (Keep.toExt K56) B51
                have F81 := Fld.ext (Keep.toExt K56) C51
                have X0_4_82 : Ext h0 h56 := Keep.toExt (((((Keep.refl h0 []).ext E34).trans K49 all0).trans K51 (allS (Or.inr (by have := y34; omega)) all0)).trans K56 all0)
                have zX0_4_82 := X0_4_82.1
                have F83 := Sta.ext X0_4_82 S0
                have F84 := ((StrA.keepExa S49 K51 F52 (by decide) (hw _ (List.mem_of_getElem? (i := 2) rfl))).ext (Keep.toExt K56))
                have F85 := Sta.ext X0_4_82 SC
                have F87 := Exa.ext (Keep.toExt K56) A51
                refine W56.1.callVP (y := (⟨"com/example/tracewright/tracewright/compiler/Token", "isWord", "(Ljava/lang/String;)Z"⟩ : MethodName)) (z := (⟨"com/example/tracewright/tracewright/compiler/Token", "isWord", "(Ljava/lang/String;)Z"⟩ : MethodName)) (hw _ (List.mem_of_getElem? (i := 59) rfl)) (hw _ (List.mem_of_getElem? (i := 60) rfl)) (hw _ (List.mem_of_getElem? (i := 62) rfl)) (hw _ (List.mem_of_getElem? (i := 62) rfl)) (hw _ (List.mem_of_getElem? (i := 61) rfl)) (by decide) (NM.bk (wd := 0) (rmI l Z a0 hw a34 a56 (kindF ks s0 s1 s2 s3 s4 s5 s6 s7 s8 s9 s10 s11 s12) a49 s0 (strF tl t0 t1) (strF wl w0 w1) zc h56 n0 W56.1.n0h F80 F81 F83 F84 S56 F85 hz) W56.1.2.2.2.1 (hw _ (List.mem_of_getElem? (i := 63) rfl)) (hw _ (List.mem_of_getElem? (i := 3) rfl)) (by decide) (by decide)) F87 (hb hby at_213) (pc' := 216) rfl hml (argsL := [(.ref a56)]) rfl (lenOf pd_896d4e2b rfl) rfl (Nat.le_of_ble_eq_true rfl) (by decide) (by decide) (fun _ _ _ q => pu_of q) ?_
                intro T86 L86 N86
                have W86 := W56.same N86
                show Go p e below _ T86 (mkF m 216 #[.val (.int p1), .val (.int p2), .val (.int p3), .val (.int p4), .val (.int p5), .val (.int ks), .val (.int tl), .val (.int wl), .val (.int (0 : Int32)), .val (.int (0 : Int32)), .val (.int t0), .val (.int t1), .val (.int w0), .val (.int w1), .val (.ref a34), .val (.ref a56), .val (.int (0 : Int32))] [(.int (iwF (kindF ks s0 s1 s2 s3 s4 s5 s6 s7 s8 s9 s10 s11 s12) s0 (strF tl t0 t1) (strF wl w0 w1)))])
                refine W86.1.iload (hb hby at_216) rfl (pc' := 218) rfl ?_
                refine W86.1.icmpNo (hb hby at_218) (XT.ii_ne_f (iw_no (by rw [← hc60]; exact str_no3 hc62 hc71 (rng3 htl)))) (pc' := 221) rfl ?_
                refine W86.1.iconst (1 : Int32) (hb hby at_221) rfl (pc' := 222) rfl ?_
                refine W86.1.goto (hb hby at_222) (by decide) (pc' := 226) (by decide) ?_
                exact W86.retZ hEL hret (hb hby at_226) (by decide) (by decide) (by decide) ⟨rfl, trivial⟩
          · refine W56.1.icmpNo (hb hby at_179) (XT.ii_lt_f hc61) (pc' := 182) rfl ?_
            refine W56.1.iload (hb hby at_182) rfl (pc' := 184) rfl ?_
            refine W56.1.iload (hb hby at_184) rfl (pc' := 186) rfl ?_
            by_cases hc88 : t0 = w0
            · refine W56.1.icmpNo (hb hby at_186) (XT.ii_ne_f hc88) (pc' := 189) rfl ?_
              refine W56.1.iload (hb hby at_189) rfl (pc' := 191) rfl ?_
              refine W56.1.iconst (2 : Int32) (hb hby at_191) rfl (pc' := 192) rfl ?_
              by_cases hc89 : tl < (2 : Int32)
              · refine W56.1.icmpYes (hb hby at_192) (XT.ii_lt_t hc89) (by decide) (pc' := 202) (by decide) ?_
                refine W56.1.iconst (1 : Int32) (hb hby at_202) rfl (pc' := 203) rfl ?_
                refine W56.1.goto (hb hby at_203) (by decide) (pc' := 207) (by decide) ?_
                refine W56.1.istore (Ls' := #[.val (.int p1), .val (.int p2), .val (.int p3), .val (.int p4), .val (.int p5), .val (.int ks), .val (.int tl), .val (.int wl), .val (.int (0 : Int32)), .val (.int (0 : Int32)), .val (.int t0), .val (.int t1), .val (.int w0), .val (.int w1), .val (.ref a34), .val (.ref a56), .val (.int (1 : Int32))]) (hb hby at_207) rfl (pc' := 209) rfl ?_
                refine W56.1.aload (hb hby at_209) rfl rfl (pc' := 211) rfl ?_
                refine W56.1.aload (hb hby at_211) rfl rfl (pc' := 213) rfl ?_
                have F90 := Fld.ext (Keep.toExt K56) B51
                have F91 := Fld.ext (Keep.toExt K56) C51
                have X0_4_92 : Ext h0 h56 := Keep.toExt (((((Keep.refl h0 []).ext E34).trans K49 all0).trans K51 (allS (Or.inr (by have := y34; omega)) all0)).trans K56 all0)
                have zX0_4_92 := X0_4_92.1
                have F93 := Sta.ext X0_4_92 S0
                have F94 := ((StrA.keepExa S49 K51 F52 (by decide) (hw _ (List.mem_of_getElem? (i := 2) rfl))).ext (Keep.toExt K56))
                have F95 := Sta.ext X0_4_92 SC
                have F97 := Exa.ext (Keep.toExt K56) A51
                refine W56.1.callVP (y := (⟨"com/example/tracewright/tracewright/compiler/Token", "isWord", "(Ljava/lang/String;)Z"⟩ : MethodName)) (z := (⟨"com/example/tracewright/tracewright/compiler/Token", "isWord", "(Ljava/lang/String;)Z"⟩ : MethodName)) (hw _ (List.mem_of_getElem? (i := 59) rfl)) (hw _ (List.mem_of_getElem? (i := 60) rfl)) (hw _ (List.mem_of_getElem? (i := 62) rfl)) (hw _ (List.mem_of_getElem? (i := 62) rfl)) (hw _ (List.mem_of_getElem? (i := 61) rfl)) (by decide) (NM.bk (wd := 0) (rmI l Z a0 hw a34 a56 (kindF ks s0 s1 s2 s3 s4 s5 s6 s7 s8 s9 s10 s11 s12) a49 s0 (strF tl t0 t1) (strF wl w0 w1) zc h56 n0 W56.1.n0h F90 F91 F93 F94 S56 F95 hz) W56.1.2.2.2.1 (hw _ (List.mem_of_getElem? (i := 63) rfl)) (hw _ (List.mem_of_getElem? (i := 3) rfl)) (by decide) (by decide)) F97 (hb hby at_213) (pc' := 216) rfl hml (argsL := [(.ref a56)]) rfl (lenOf pd_896d4e2b rfl) rfl (Nat.le_of_ble_eq_true rfl) (by decide) (by decide) (fun _ _ _ q => pu_of q) ?_
                intro T96 L96 N96
                have W96 := W56.same N96
                show Go p e below _ T96 (mkF m 216 #[.val (.int p1), .val (.int p2), .val (.int p3), .val (.int p4), .val (.int p5), .val (.int ks), .val (.int tl), .val (.int wl), .val (.int (0 : Int32)), .val (.int (0 : Int32)), .val (.int t0), .val (.int t1), .val (.int w0), .val (.int w1), .val (.ref a34), .val (.ref a56), .val (.int (1 : Int32))] [(.int (iwF (kindF ks s0 s1 s2 s3 s4 s5 s6 s7 s8 s9 s10 s11 s12) s0 (strF tl t0 t1) (strF wl w0 w1)))])
                refine W96.1.iload (hb hby at_216) rfl (pc' := 218) rfl ?_
                refine W96.1.icmpNo (hb hby at_218) (XT.ii_ne_f (iw_yes (kind_w hc59) (by first | (rw [← hc60]; done) | (rw [← hc60]; exact str_yes (Or.inr hc88) (Or.inl hc89) (rng3 htl))))) (pc' := 221) rfl ?_
                refine W96.1.iconst (1 : Int32) (hb hby at_221) rfl (pc' := 222) rfl ?_
                refine W96.1.goto (hb hby at_222) (by decide) (pc' := 226) (by decide) ?_
                exact W96.retZ hEL hret (hb hby at_226) (by decide) (by decide) (by decide) ⟨rfl, trivial⟩
              · refine W56.1.icmpNo (hb hby at_192) (XT.ii_lt_f hc89) (pc' := 195) rfl ?_
                refine W56.1.iload (hb hby at_195) rfl (pc' := 197) rfl ?_
                refine W56.1.iload (hb hby at_197) rfl (pc' := 199) rfl ?_
                by_cases hc98 : t1 = w1
                · refine W56.1.icmpNo (hb hby at_199) (XT.ii_ne_f hc98) (pc' := 202) rfl ?_
                  refine W56.1.iconst (1 : Int32) (hb hby at_202) rfl (pc' := 203) rfl ?_
                  refine W56.1.goto (hb hby at_203) (by decide) (pc' := 207) (by decide) ?_
                  refine W56.1.istore (Ls' := #[.val (.int p1), .val (.int p2), .val (.int p3), .val (.int p4), .val (.int p5), .val (.int ks), .val (.int tl), .val (.int wl), .val (.int (0 : Int32)), .val (.int (0 : Int32)), .val (.int t0), .val (.int t1), .val (.int w0), .val (.int w1), .val (.ref a34), .val (.ref a56), .val (.int (1 : Int32))]) (hb hby at_207) rfl (pc' := 209) rfl ?_
                  refine W56.1.aload (hb hby at_209) rfl rfl (pc' := 211) rfl ?_
                  refine W56.1.aload (hb hby at_211) rfl rfl (pc' := 213) rfl ?_
                  have F99 := Fld.ext (Keep.toExt K56) B51
                  have F100 := Fld.ext (Keep.toExt K56) C51
                  have X0_4_101 : Ext h0 h56 := Keep.toExt (((((Keep.refl h0 []).ext E34).trans K49 all0).trans K51 (allS (Or.inr (by have := y34; omega)) all0)).trans K56 all0)
                  have zX0_4_101 := X0_4_101.1
                  have F102 := Sta.ext X0_4_101 S0
                  have F103 := ((StrA.keepExa S49 K51 F52 (by decide) (hw _ (List.mem_of_getElem? (i := 2) rfl))).ext (Keep.toExt K56))
                  have F104 := Sta.ext X0_4_101 SC
                  have F106 := Exa.ext (Keep.toExt K56) A51
                  refine W56.1.callVP (y := (⟨"com/example/tracewright/tracewright/compiler/Token", "isWord", "(Ljava/lang/String;)Z"⟩ : MethodName)) (z := (⟨"com/example/tracewright/tracewright/compiler/Token", "isWord", "(Ljava/lang/String;)Z"⟩ : MethodName)) (hw _ (List.mem_of_getElem? (i := 59) rfl)) (hw _ (List.mem_of_getElem? (i := 60) rfl)) (hw _ (List.mem_of_getElem? (i := 62) rfl)) (hw _ (List.mem_of_getElem? (i := 62) rfl)) (hw _ (List.mem_of_getElem? (i := 61) rfl)) (by decide) (NM.bk (wd := 0) (rmI l Z a0 hw a34 a56 (kindF ks s0 s1 s2 s3 s4 s5 s6 s7 s8 s9 s10 s11 s12) a49 s0 (strF tl t0 t1) (strF wl w0 w1) zc h56 n0 W56.1.n0h F99 F100 F102 F103 S56 F104 hz) W56.1.2.2.2.1 (hw _ (List.mem_of_getElem? (i := 63) rfl)) (hw _ (List.mem_of_getElem? (i := 3) rfl)) (by decide) (by decide)) F106 (hb hby at_213) (pc' := 216) rfl hml (argsL := [(.ref a56)]) rfl (lenOf pd_896d4e2b rfl) rfl (Nat.le_of_ble_eq_true rfl) (by decide) (by decide) (fun _ _ _ q => pu_of q) ?_
                  intro T105 L105 N105
                  have W105 := W56.same N105
                  show Go p e below _ T105 (mkF m 216 #[.val (.int p1), .val (.int p2), .val (.int p3), .val (.int p4), .val (.int p5), .val (.int ks), .val (.int tl), .val (.int wl), .val (.int (0 : Int32)), .val (.int (0 : Int32)), .val (.int t0), .val (.int t1), .val (.int w0), .val (.int w1), .val (.ref a34), .val (.ref a56), .val (.int (1 : Int32))] [(.int (iwF (kindF ks s0 s1 s2 s3 s4 s5 s6 s7 s8 s9 s10 s11 s12) s0 (strF tl t0 t1) (strF wl w0 w1)))])
                  refine W105.1.iload (hb hby at_216) rfl (pc' := 218) rfl ?_
                  refine W105.1.icmpNo (hb hby at_218) (XT.ii_ne_f (iw_yes (kind_w hc59) (by first | (rw [← hc60]; done) | (rw [← hc60]; exact str_yes (Or.inr hc88) (Or.inr hc98) (rng3 htl))))) (pc' := 221) rfl ?_
                  refine W105.1.iconst (1 : Int32) (hb hby at_221) rfl (pc' := 222) rfl ?_
                  refine W105.1.goto (hb hby at_222) (by decide) (pc' := 226) (by decide) ?_
                  exact W105.retZ hEL hret (hb hby at_226) (by decide) (by decide) (by decide) ⟨rfl, trivial⟩
                · refine W56.1.icmpYes (hb hby at_199) (XT.ii_ne_t hc98) (by decide) (pc' := 206) (by decide) ?_
                  refine W56.1.iconst (0 : Int32) (hb hby at_206) rfl (pc' := 207) rfl ?_
                  refine W56.1.istore (Ls' := #[.val (.int p1), .val (.int p2), .val (.int p3), .val (.int p4), .val (.int p5), .val (.int ks), .val (.int tl), .val (.int wl), .val (.int (0 : Int32)), .val (.int (0 : Int32)), .val (.int t0), .val (.int t1), .val (.int w0), .val (.int w1), .val (.ref a34), .val (.ref a56), .val (.int (0 : Int32))]) (hb hby at_207) rfl (pc' := 209) rfl ?_
                  refine W56.1.aload (hb hby at_209) rfl rfl (pc' := 211) rfl ?_
                  refine W56.1.aload (hb hby at_211) rfl rfl (pc' := 213) rfl ?_
                  have F107 := Fld.ext (Keep.toExt K56) B51
                  have F108 := Fld.ext (Keep.toExt K56) C51
                  have X0_4_109 : Ext h0 h56 := Keep.toExt (((((Keep.refl h0 []).ext E34).trans K49 all0).trans K51 (allS (Or.inr (by have := y34; omega)) all0)).trans K56 all0)
                  have zX0_4_109 := X0_4_109.1
                  have F110 := Sta.ext X0_4_109 S0
                  have F111 := ((StrA.keepExa S49 K51 F52 (by decide) (hw _ (List.mem_of_getElem? (i := 2) rfl))).ext (Keep.toExt K56))
                  have F112 := Sta.ext X0_4_109 SC
                  have F114 := Exa.ext (Keep.toExt K56) A51
                  refine W56.1.callVP (y := (⟨"com/example/tracewright/tracewright/compiler/Token", "isWord", "(Ljava/lang/String;)Z"⟩ : MethodName)) (z := (⟨"com/example/tracewright/tracewright/compiler/Token", "isWord", "(Ljava/lang/String;)Z"⟩ : MethodName)) (hw _ (List.mem_of_getElem? (i := 59) rfl)) (hw _ (List.mem_of_getElem? (i := 60) rfl)) (hw _ (List.mem_of_getElem? (i := 62) rfl)) (hw _ (List.mem_of_getElem? (i := 62) rfl)) (hw _ (List.mem_of_getElem? (i := 61) rfl)) (by decide) (NM.bk (wd := 0) (rmI l Z a0 hw a34 a56 (kindF ks s0 s1 s2 s3 s4 s5 s6 s7 s8 s9 s10 s11 s12) a49 s0 (strF tl t0 t1) (strF wl w0 w1) zc h56 n0 W56.1.n0h F107 F108 F110 F111 S56 F112 hz) W56.1.2.2.2.1 (hw _ (List.mem_of_getElem? (i := 63) rfl)) (hw _ (List.mem_of_getElem? (i := 3) rfl)) (by decide) (by decide)) F114 (hb hby at_213) (pc' := 216) rfl hml (argsL := [(.ref a56)]) rfl (lenOf pd_896d4e2b rfl) rfl (Nat.le_of_ble_eq_true rfl) (by decide) (by decide) (fun _ _ _ q => pu_of q) ?_
                  intro T113 L113 N113
                  have W113 := W56.same N113
                  show Go p e below _ T113 (mkF m 216 #[.val (.int p1), .val (.int p2), .val (.int p3), .val (.int p4), .val (.int p5), .val (.int ks), .val (.int tl), .val (.int wl), .val (.int (0 : Int32)), .val (.int (0 : Int32)), .val (.int t0), .val (.int t1), .val (.int w0), .val (.int w1), .val (.ref a34), .val (.ref a56), .val (.int (0 : Int32))] [(.int (iwF (kindF ks s0 s1 s2 s3 s4 s5 s6 s7 s8 s9 s10 s11 s12) s0 (strF tl t0 t1) (strF wl w0 w1)))])
                  refine W113.1.iload (hb hby at_216) rfl (pc' := 218) rfl ?_
                  refine W113.1.icmpNo (hb hby at_218) (XT.ii_ne_f (iw_no (by rw [← hc60]; exact str_no3 hc89 hc98 (rng3 htl)))) (pc' := 221) rfl ?_
                  refine W113.1.iconst (1 : Int32) (hb hby at_221) rfl (pc' := 222) rfl ?_
                  refine W113.1.goto (hb hby at_222) (by decide) (pc' := 226) (by decide) ?_
                  exact W113.retZ hEL hret (hb hby at_226) (by decide) (by decide) (by decide) ⟨rfl, trivial⟩
            · refine W56.1.icmpYes (hb hby at_186) (XT.ii_ne_t hc88) (by decide) (pc' := 206) (by decide) ?_
              refine W56.1.iconst (0 : Int32) (hb hby at_206) rfl (pc' := 207) rfl ?_
              refine W56.1.istore (Ls' := #[.val (.int p1), .val (.int p2), .val (.int p3), .val (.int p4), .val (.int p5), .val (.int ks), .val (.int tl), .val (.int wl), .val (.int (0 : Int32)), .val (.int (0 : Int32)), .val (.int t0), .val (.int t1), .val (.int w0), .val (.int w1), .val (.ref a34), .val (.ref a56), .val (.int (0 : Int32))]) (hb hby at_207) rfl (pc' := 209) rfl ?_
              refine W56.1.aload (hb hby at_209) rfl rfl (pc' := 211) rfl ?_
              refine W56.1.aload (hb hby at_211) rfl rfl (pc' := 213) rfl ?_
              have F115 := Fld.ext (Keep.toExt K56) B51
              have F116 := Fld.ext (Keep.toExt K56) C51
              have X0_4_117 : Ext h0 h56 := Keep.toExt (((((Keep.refl h0 []).ext E34).trans K49 all0).trans K51 (allS (Or.inr (by have := y34; omega)) all0)).trans K56 all0)
              have zX0_4_117 := X0_4_117.1
              have F118 := Sta.ext X0_4_117 S0
              have F119 := ((StrA.keepExa S49 K51 F52 (by decide) (hw _ (List.mem_of_getElem? (i := 2) rfl))).ext (Keep.toExt K56))
              have F120 := Sta.ext X0_4_117 SC
              have F122 := Exa.ext (Keep.toExt K56) A51
              refine W56.1.callVP (y := (⟨"com/example/tracewright/tracewright/compiler/Token", "isWord", "(Ljava/lang/String;)Z"⟩ : MethodName)) (z := (⟨"com/example/tracewright/tracewright/compiler/Token", "isWord", "(Ljava/lang/String;)Z"⟩ : MethodName)) (hw _ (List.mem_of_getElem? (i := 59) rfl)) (hw _ (List.mem_of_getElem? (i := 60) rfl)) (hw _ (List.mem_of_getElem? (i := 62) rfl)) (hw _ (List.mem_of_getElem? (i := 62) rfl)) (hw _ (List.mem_of_getElem? (i := 61) rfl)) (by decide) (NM.bk (wd := 0) (rmI l Z a0 hw a34 a56 (kindF ks s0 s1 s2 s3 s4 s5 s6 s7 s8 s9 s10 s11 s12) a49 s0 (strF tl t0 t1) (strF wl w0 w1) zc h56 n0 W56.1.n0h F115 F116 F118 F119 S56 F120 hz) W56.1.2.2.2.1 (hw _ (List.mem_of_getElem? (i := 63) rfl)) (hw _ (List.mem_of_getElem? (i := 3) rfl)) (by decide) (by decide)) F122 (hb hby at_213) (pc' := 216) rfl hml (argsL := [(.ref a56)]) rfl (lenOf pd_896d4e2b rfl) rfl (Nat.le_of_ble_eq_true rfl) (by decide) (by decide) (fun _ _ _ q => pu_of q) ?_
              intro T121 L121 N121
              have W121 := W56.same N121
              show Go p e below _ T121 (mkF m 216 #[.val (.int p1), .val (.int p2), .val (.int p3), .val (.int p4), .val (.int p5), .val (.int ks), .val (.int tl), .val (.int wl), .val (.int (0 : Int32)), .val (.int (0 : Int32)), .val (.int t0), .val (.int t1), .val (.int w0), .val (.int w1), .val (.ref a34), .val (.ref a56), .val (.int (0 : Int32))] [(.int (iwF (kindF ks s0 s1 s2 s3 s4 s5 s6 s7 s8 s9 s10 s11 s12) s0 (strF tl t0 t1) (strF wl w0 w1)))])
              refine W121.1.iload (hb hby at_216) rfl (pc' := 218) rfl ?_
              refine W121.1.icmpNo (hb hby at_218) (XT.ii_ne_f (iw_no (by rw [← hc60]; exact str_no2 hc61 hc88 (rng3 htl)))) (pc' := 221) rfl ?_
              refine W121.1.iconst (1 : Int32) (hb hby at_221) rfl (pc' := 222) rfl ?_
              refine W121.1.goto (hb hby at_222) (by decide) (pc' := 226) (by decide) ?_
              exact W121.retZ hEL hret (hb hby at_226) (by decide) (by decide) (by decide) ⟨rfl, trivial⟩
        · refine W56.1.icmpYes (hb hby at_173) (XT.ii_ne_t hc60) (by decide) (pc' := 206) (by decide) ?_
          refine W56.1.iconst (0 : Int32) (hb hby at_206) rfl (pc' := 207) rfl ?_
          refine W56.1.istore (Ls' := #[.val (.int p1), .val (.int p2), .val (.int p3), .val (.int p4), .val (.int p5), .val (.int ks), .val (.int tl), .val (.int wl), .val (.int (0 : Int32)), .val (.int (0 : Int32)), .val (.int t0), .val (.int t1), .val (.int w0), .val (.int w1), .val (.ref a34), .val (.ref a56), .val (.int (0 : Int32))]) (hb hby at_207) rfl (pc' := 209) rfl ?_
          refine W56.1.aload (hb hby at_209) rfl rfl (pc' := 211) rfl ?_
          refine W56.1.aload (hb hby at_211) rfl rfl (pc' := 213) rfl ?_
          have F123 := Fld.ext (Keep.toExt K56) B51
          have F124 := Fld.ext (Keep.toExt K56) C51
          have X0_4_125 : Ext h0 h56 := Keep.toExt (((((Keep.refl h0 []).ext E34).trans K49 all0).trans K51 (allS (Or.inr (by have := y34; omega)) all0)).trans K56 all0)
          have zX0_4_125 := X0_4_125.1
          have F126 := Sta.ext X0_4_125 S0
          have F127 := ((StrA.keepExa S49 K51 F52 (by decide) (hw _ (List.mem_of_getElem? (i := 2) rfl))).ext (Keep.toExt K56))
          have F128 := Sta.ext X0_4_125 SC
          have F130 := Exa.ext (Keep.toExt K56) A51
          refine W56.1.callVP (y := (⟨"com/example/tracewright/tracewright/compiler/Token", "isWord", "(Ljava/lang/String;)Z"⟩ : MethodName)) (z := (⟨"com/example/tracewright/tracewright/compiler/Token", "isWord", "(Ljava/lang/String;)Z"⟩ : MethodName)) (hw _ (List.mem_of_getElem? (i := 59) rfl)) (hw _ (List.mem_of_getElem? (i := 60) rfl)) (hw _ (List.mem_of_getElem? (i := 62) rfl)) (hw _ (List.mem_of_getElem? (i := 62) rfl)) (hw _ (List.mem_of_getElem? (i := 61) rfl)) (by decide) (NM.bk (wd := 0) (rmI l Z a0 hw a34 a56 (kindF ks s0 s1 s2 s3 s4 s5 s6 s7 s8 s9 s10 s11 s12) a49 s0 (strF tl t0 t1) (strF wl w0 w1) zc h56 n0 W56.1.n0h F123 F124 F126 F127 S56 F128 hz) W56.1.2.2.2.1 (hw _ (List.mem_of_getElem? (i := 63) rfl)) (hw _ (List.mem_of_getElem? (i := 3) rfl)) (by decide) (by decide)) F130 (hb hby at_213) (pc' := 216) rfl hml (argsL := [(.ref a56)]) rfl (lenOf pd_896d4e2b rfl) rfl (Nat.le_of_ble_eq_true rfl) (by decide) (by decide) (fun _ _ _ q => pu_of q) ?_
          intro T129 L129 N129
          have W129 := W56.same N129
          show Go p e below _ T129 (mkF m 216 #[.val (.int p1), .val (.int p2), .val (.int p3), .val (.int p4), .val (.int p5), .val (.int ks), .val (.int tl), .val (.int wl), .val (.int (0 : Int32)), .val (.int (0 : Int32)), .val (.int t0), .val (.int t1), .val (.int w0), .val (.int w1), .val (.ref a34), .val (.ref a56), .val (.int (0 : Int32))] [(.int (iwF (kindF ks s0 s1 s2 s3 s4 s5 s6 s7 s8 s9 s10 s11 s12) s0 (strF tl t0 t1) (strF wl w0 w1)))])
          refine W129.1.iload (hb hby at_216) rfl (pc' := 218) rfl ?_
          refine W129.1.icmpNo (hb hby at_218) (XT.ii_ne_f (iw_no (str_no1 hc60 (rng3 htl) (rng3 hwl)))) (pc' := 221) rfl ?_
          refine W129.1.iconst (1 : Int32) (hb hby at_221) rfl (pc' := 222) rfl ?_
          refine W129.1.goto (hb hby at_222) (by decide) (pc' := 226) (by decide) ?_
          exact W129.retZ hEL hret (hb hby at_226) (by decide) (by decide) (by decide) ⟨rfl, trivial⟩
      · refine W56.1.ifYes (hb hby at_161) (XT.i0_ne_t hc59) (by decide) (pc' := 206) (by decide) ?_
        refine W56.1.iconst (0 : Int32) (hb hby at_206) rfl (pc' := 207) rfl ?_
        refine W56.1.istore (Ls' := #[.val (.int p1), .val (.int p2), .val (.int p3), .val (.int p4), .val (.int p5), .val (.int ks), .val (.int tl), .val (.int wl), .val (.int (0 : Int32)), .val (.int (0 : Int32)), .val (.int t0), .val (.int t1), .val (.int w0), .val (.int w1), .val (.ref a34), .val (.ref a56), .val (.int (0 : Int32))]) (hb hby at_207) rfl (pc' := 209) rfl ?_
        refine W56.1.aload (hb hby at_209) rfl rfl (pc' := 211) rfl ?_
        refine W56.1.aload (hb hby at_211) rfl rfl (pc' := 213) rfl ?_
        have F131 := Fld.ext (Keep.toExt K56) B51
        have F132 := Fld.ext (Keep.toExt K56) C51
        have X0_4_133 : Ext h0 h56 := Keep.toExt (((((Keep.refl h0 []).ext E34).trans K49 all0).trans K51 (allS (Or.inr (by have := y34; omega)) all0)).trans K56 all0)
        have zX0_4_133 := X0_4_133.1
        have F134 := Sta.ext X0_4_133 S0
        have F135 := ((StrA.keepExa S49 K51 F52 (by decide) (hw _ (List.mem_of_getElem? (i := 2) rfl))).ext (Keep.toExt K56))
        have F136 := Sta.ext X0_4_133 SC
        have F138 := Exa.ext (Keep.toExt K56) A51
        refine W56.1.callVP (y := (⟨"com/example/tracewright/tracewright/compiler/Token", "isWord", "(Ljava/lang/String;)Z"⟩ : MethodName)) (z := (⟨"com/example/tracewright/tracewright/compiler/Token", "isWord", "(Ljava/lang/String;)Z"⟩ : MethodName)) (hw _ (List.mem_of_getElem? (i := 59) rfl)) (hw _ (List.mem_of_getElem? (i := 60) rfl)) (hw _ (List.mem_of_getElem? (i := 62) rfl)) (hw _ (List.mem_of_getElem? (i := 62) rfl)) (hw _ (List.mem_of_getElem? (i := 61) rfl)) (by decide) (NM.bk (wd := 0) (rmI l Z a0 hw a34 a56 (kindF ks s0 s1 s2 s3 s4 s5 s6 s7 s8 s9 s10 s11 s12) a49 s0 (strF tl t0 t1) (strF wl w0 w1) zc h56 n0 W56.1.n0h F131 F132 F134 F135 S56 F136 hz) W56.1.2.2.2.1 (hw _ (List.mem_of_getElem? (i := 63) rfl)) (hw _ (List.mem_of_getElem? (i := 3) rfl)) (by decide) (by decide)) F138 (hb hby at_213) (pc' := 216) rfl hml (argsL := [(.ref a56)]) rfl (lenOf pd_896d4e2b rfl) rfl (Nat.le_of_ble_eq_true rfl) (by decide) (by decide) (fun _ _ _ q => pu_of q) ?_
        intro T137 L137 N137
        have W137 := W56.same N137
        show Go p e below _ T137 (mkF m 216 #[.val (.int p1), .val (.int p2), .val (.int p3), .val (.int p4), .val (.int p5), .val (.int ks), .val (.int tl), .val (.int wl), .val (.int (0 : Int32)), .val (.int (0 : Int32)), .val (.int t0), .val (.int t1), .val (.int w0), .val (.int w1), .val (.ref a34), .val (.ref a56), .val (.int (0 : Int32))] [(.int (iwF (kindF ks s0 s1 s2 s3 s4 s5 s6 s7 s8 s9 s10 s11 s12) s0 (strF tl t0 t1) (strF wl w0 w1)))])
        refine W137.1.iload (hb hby at_216) rfl (pc' := 218) rfl ?_
        refine W137.1.icmpNo (hb hby at_218) (XT.ii_ne_f (iw_k (kind_no O0 O1 O2 O3 O4 O5 O6 O7 O8 O9 O10 O11 O12 (rng13 hks) hc59))) (pc' := 221) rfl ?_
        refine W137.1.iconst (1 : Int32) (hb hby at_221) rfl (pc' := 222) rfl ?_
        refine W137.1.goto (hb hby at_222) (by decide) (pc' := 226) (by decide) ?_
        exact W137.retZ hEL hret (hb hby at_226) (by decide) (by decide) (by decide) ⟨rfl, trivial⟩
  · refine W0.1.ifNo (hb hby at_30) (XT.i0_eq_f hc1) (pc' := 33) rfl ?_
    refine W0.1.iconst (1 : Int32) (hb hby at_33) rfl (pc' := 34) rfl ?_
    refine W0.1.goto (hb hby at_34) (by decide) (pc' := 38) (by decide) ?_
    refine W0.1.istore (Ls' := #[.val (.int p1), .val (.int p2), .val (.int p3), .val (.int p4), .val (.int p5), .val (.int ks), .val (.int tl), .val (.int wl), .val (.int (1 : Int32)), .unset, .unset, .unset, .unset, .unset, .unset, .unset, .unset]) (hb hby at_38) rfl (pc' := 40) rfl ?_
    refine W0.1.iloadN (hb hby at_40) rfl (pc' := 41) rfl ?_
    refine W0.1.iconst (5 : Int32) (hb hby at_41) rfl (pc' := 42) rfl ?_
    refine W0.1.iushr (hb hby at_42) (pc' := 43) rfl ?_
    refine W0.1.bipush (7 : Int32) (hb hby at_43) rfl (pc' := 45) rfl ?_
    refine W0.1.iand (hb hby at_45) (pc' := 46) rfl ?_
    by_cases hc139 : ((XT.ushr p4 (5 : Int32)) &&& (7 : Int32)) = (0 : Int32)
    · refine W0.1.ifNo (hb hby at_46) (XT.i0_ne_f hc139) (pc' := 49) rfl ?_
      refine W0.1.iconst (1 : Int32) (hb hby at_49) rfl (pc' := 50) rfl ?_
      refine W0.1.goto (hb hby at_50) (by decide) (pc' := 54) (by decide) ?_
      refine W0.1.istore (Ls' := #[.val (.int p1), .val (.int p2), .val (.int p3), .val (.int p4), .val (.int p5), .val (.int ks), .val (.int tl), .val (.int wl), .val (.int (1 : Int32)), .val (.int (1 : Int32)), .unset, .unset, .unset, .unset, .unset, .unset, .unset]) (hb hby at_54) rfl (pc' := 56) rfl ?_
      refine W0.1.iloadN (hb hby at_56) rfl (pc' := 57) rfl ?_
      refine W0.1.sipush (255 : Int32) (hb hby at_57) rfl (pc' := 60) rfl ?_
      refine W0.1.iand (hb hby at_60) (pc' := 61) rfl ?_
      refine W0.1.i2c (hb hby at_61) (pc' := 62) rfl ?_
      refine lets (P := fun z => Go _ _ _ _ _ (mkF m 62 #[.val (.int p1), .val (.int p2), .val (.int p3), .val (.int p4), .val (.int p5), .val (.int ks), .val (.int tl), .val (.int wl), .val (.int (1 : Int32)), .val (.int (1 : Int32)), .unset, .unset, .unset, .unset, .unset, .unset, .unset] [(.int z)])) (i2c (p2 &&& (255 : Int32))) ?_
      intro t0 ht0
      refine W0.1.istore (Ls' := #[.val (.int p1), .val (.int p2), .val (.int p3), .val (.int p4), .val (.int p5), .val (.int ks), .val (.int tl), .val (.int wl), .val (.int (1 : Int32)), .val (.int (1 : Int32)), .val (.int t0), .unset, .unset, .unset, .unset, .unset, .unset]) (hb hby at_62) rfl (pc' := 64) rfl ?_
      refine W0.1.iloadN (hb hby at_64) rfl (pc' := 65) rfl ?_
      refine W0.1.bipush (8 : Int32) (hb hby at_65) rfl (pc' := 67) rfl ?_
      refine W0.1.iushr (hb hby at_67) (pc' := 68) rfl ?_
      refine W0.1.sipush (255 : Int32) (hb hby at_68) rfl (pc' := 71) rfl ?_
      refine W0.1.iand (hb hby at_71) (pc' := 72) rfl ?_
      refine W0.1.i2c (hb hby at_72) (pc' := 73) rfl ?_
      refine lets (P := fun z => Go _ _ _ _ _ (mkF m 73 #[.val (.int p1), .val (.int p2), .val (.int p3), .val (.int p4), .val (.int p5), .val (.int ks), .val (.int tl), .val (.int wl), .val (.int (1 : Int32)), .val (.int (1 : Int32)), .val (.int t0), .unset, .unset, .unset, .unset, .unset, .unset] [(.int z)])) (i2c ((XT.ushr p2 (8 : Int32)) &&& (255 : Int32))) ?_
      intro t1 ht1
      refine W0.1.istore (Ls' := #[.val (.int p1), .val (.int p2), .val (.int p3), .val (.int p4), .val (.int p5), .val (.int ks), .val (.int tl), .val (.int wl), .val (.int (1 : Int32)), .val (.int (1 : Int32)), .val (.int t0), .val (.int t1), .unset, .unset, .unset, .unset, .unset]) (hb hby at_73) rfl (pc' := 75) rfl ?_
      refine W0.1.iload (hb hby at_75) rfl (pc' := 77) rfl ?_
      refine W0.1.ifNo (hb hby at_77) (XT.i0_eq_f (by decide)) (pc' := 80) rfl ?_
      refine W0.1.iload (hb hby at_80) rfl (pc' := 82) rfl ?_
      refine W0.1.goto (hb hby at_82) (by decide) (pc' := 91) (by decide) ?_
      refine W0.1.istore (Ls' := #[.val (.int p1), .val (.int p2), .val (.int p3), .val (.int p4), .val (.int p5), .val (.int ks), .val (.int tl), .val (.int wl), .val (.int (1 : Int32)), .val (.int (1 : Int32)), .val (.int t0), .val (.int t1), .val (.int t0), .unset, .unset, .unset, .unset]) (hb hby at_91) rfl (pc' := 93) rfl ?_
      refine W0.1.iload (hb hby at_93) rfl (pc' := 95) rfl ?_
      refine W0.1.ifNo (hb hby at_95) (XT.i0_eq_f (by decide)) (pc' := 98) rfl ?_
      refine W0.1.iload (hb hby at_98) rfl (pc' := 100) rfl ?_
      refine W0.1.goto (hb hby at_100) (by decide) (pc' := 112) (by decide) ?_
      refine W0.1.istore (Ls' := #[.val (.int p1), .val (.int p2), .val (.int p3), .val (.int p4), .val (.int p5), .val (.int ks), .val (.int tl), .val (.int wl), .val (.int (1 : Int32)), .val (.int (1 : Int32)), .val (.int t0), .val (.int t1), .val (.int t0), .val (.int t1), .unset, .unset, .unset]) (hb hby at_112) rfl (pc' := 114) rfl ?_
      refine W0.1.newO (hw _ (List.mem_of_getElem? (i := 1) rfl)) (hw _ (List.mem_of_getElem? (i := 2) rfl)) (hw _ (List.mem_of_getElem? (i := 3) rfl)) (hb hby at_114) (pc' := 117) rfl (by decide) (by decide) ?_
      intro T140 h140 a140 g140 ge140 gn140 N140 E140 A140 D140
      have z140 := E140.1
      have y140 := Nat.le_of_eq g140.symm
      have W140 := W0.upE N140 E140
      have D140_kind := D140 (Or.inr (hw _ (List.mem_of_getElem? (i := 54) rfl))) (ty := (.object "com/example/tracewright/tracewright/compiler/Token$Kind")) (by decide)
      have D140_text := D140 (Or.inr (hw _ (List.mem_of_getElem? (i := 56) rfl))) (ty := (.object "java/lang/String")) (by decide)
      have D140_line := D140 (Or.inr (hw _ (List.mem_of_getElem? (i := 58) rfl))) (ty := .int) (by decide)
      refine W140.1.dup (hb hby at_117) rfl (pc' := 118) rfl ?_
      refine W140.1.iload (hb hby at_118) rfl (pc' := 120) rfl ?_
      have F142 := Sta.ext E140 S0
      have F143 := Sta.ext E140 S1
      have F144 := Sta.ext E140 S2
      have F145 := Sta.ext E140 S3
      have F146 := Sta.ext E140 S4
      have F147 := Sta.ext E140 S5
      have F148 := Sta.ext E140 S6
      have F149 := Sta.ext E140 S7
      have F150 := Sta.ext E140 S8
      have F151 := Sta.ext E140 S9
      have F152 := Sta.ext E140 S10
      have F153 := Sta.ext E140 S11
      have F154 := Sta.ext E140 S12
      refine W140.1.callSP (hw _ (List.mem_of_getElem? (i := 4) rfl)) (hw _ (List.mem_of_getElem? (i := 5) rfl)) (hw _ (List.mem_of_getElem? (i := 6) rfl)) (hw _ (List.mem_of_getElem? (i := 7) rfl)) (by decide) (NM.bk (wd := 2) (rmK l Z a0 hw ks s0 s1 s2 s3 s4 s5 s6 s7 s8 s9 s10 s11 s12 h140 n0 W140.1.n0h F142 F143 F144 F145 F146 F147 F148 F149 F150 F151 F152 F153 F154) W140.1.2.2.2.1 (hw _ (List.mem_of_getElem? (i := 7) rfl)) (hw _ (List.mem_of_getElem? (i := 6) rfl)) (by decide) (by decide)) (hb hby at_120) (pc' := 123) rfl hml (argsL := [(.int ks)]) rfl (lenOf pd_0262a027 rfl) rfl (Nat.le_of_ble_eq_true rfl) (by decide) (by decide) (fun _ _ _ q => pu_of q) ?_
      intro T141 L141 N141
      have W141 := W140.same N141
      show Go p e below _ T141 (mkF m 123 #[.val (.int p1), .val (.int p2), .val (.int p3), .val (.int p4), .val (.int p5), .val (.int ks), .val (.int tl), .val (.int wl), .val (.int (1 : Int32)), .val (.int (1 : Int32)), .val (.int t0), .val (.int t1), .val (.int t0), .val (.int t1), .unset, .unset, .unset] [(.ref (kindF ks s0 s1 s2 s3 s4 s5 s6 s7 s8 s9 s10 s11 s12)), (.ref a140), (.ref a140)])
      refine W141.1.iload (hb hby at_123) rfl (pc' := 125) rfl ?_
      refine W141.1.iload (hb hby at_125) rfl (pc' := 127) rfl ?_
      refine W141.1.iload (hb hby at_127) rfl (pc' := 129) rfl ?_
      have F156 := Sta.ext E140 SC
      refine W141.callS (hw _ (List.mem_of_getElem? (i := 11) rfl)) (hw _ (List.mem_of_getElem? (i := 12) rfl)) (hw _ (List.mem_of_getElem? (i := 6) rfl)) (hw _ (List.mem_of_getElem? (i := 13) rfl)) (by decide) (WM.bk (wd := 3) (rmS l Z a0 hw hEL tl t0 t1 zc h140 n0 W141.1.n0h (ht0 ▸ lat_and _) (ht1 ▸ lat_and _) F156 hz) W141.1.2.2.2.1 (hw _ (List.mem_of_getElem? (i := 13) rfl)) (hw _ (List.mem_of_getElem? (i := 6) rfl)) (by decide) (by decide) hEL W141.2.2.1) (hb hby at_129) (pc' := 132) rfl hml (argsL := [(.int tl), (.int t0), (.int t1)]) rfl (lenOf pd_191a01f4 rfl) rfl (Nat.le_of_ble_eq_true rfl) (by decide) (by decide) (ws' := []) (fun _ _ _ q => ⟨q.2.2, q.2.1⟩) all0 ?_
      intro v155 T155 h155 vm155 L155' L155 W155 Q155 K155 C155
      have z155 := K155.1
      obtain ⟨⟨a155, rfl, S155⟩, -, -⟩ := Q155
      show Go p e below _ T155 (mkF m 132 #[.val (.int p1), .val (.int p2), .val (.int p3), .val (.int p4), .val (.int p5), .val (.int ks), .val (.int tl), .val (.int wl), .val (.int (1 : Int32)), .val (.int (1 : Int32)), .val (.int t0), .val (.int t1), .val (.int t0), .val (.int t1), .unset, .unset, .unset] [(.ref a155), (.ref (kindF ks s0 s1 s2 s3 s4 s5 s6 s7 s8 s9 s10 s11 s12)), (.ref a140), (.ref a140)])
      refine W155.1.iload (hb hby at_132) rfl (pc' := 134) rfl ?_
      have F158 := Exa.ext (Keep.toExt K155) A140
      have F159 := Fld.ext (Keep.toExt K155) D140_kind
      have F160 := Fld.ext (Keep.toExt K155) D140_text
      have F161 := Fld.ext (Keep.toExt K155) D140_line
      refine W155.1.callI (y := (⟨"com/example/tracewright/tracewright/compiler/Token", "<init>", "(Lcom/example/tracewright/tracewright/compiler/Token$Kind;Ljava/lang/String;I)V"⟩ : MethodName)) rfl (hw _ (List.mem_of_getElem? (i := 44) rfl)) (hw _ (List.mem_of_getElem? (i := 45) rfl)) (hw _ (List.mem_of_getElem? (i := 46) rfl)) (by decide) (NM.bk (wd := 1) (rmT l Z a0 hw a140 (kindF ks s0 s1 s2 s3 s4 s5 s6 s7 s8 s9 s10 s11 s12) a155 p5 h155 n0 W155.1.n0h gn140 F158 F159 F160 F161) W155.1.2.2.2.1 (hw _ (List.mem_of_getElem? (i := 46) rfl)) (hw _ (List.mem_of_getElem? (i := 3) rfl)) (by decide) (by decide)) (hb hby at_134) (pc' := 137) rfl hml (a := a140) (argsL := [(.ref (kindF ks s0 s1 s2 s3 s4 s5 s6 s7 s8 s9 s10 s11 s12)), (.ref a155), (.int p5)]) rfl (lenOf pd_83ccecf8 rfl) rfl (Nat.le_of_ble_eq_true rfl) (by decide) (by decide) (ws' := [a140]) (fun _ _ _ q => ⟨q.2.2, q.2.1⟩) (allS (Or.inr ge140) all0) ?_
      intro v157 T157 h157 L157' L157 N157 Q157 K157
      have W157 := W155.up N157 K157 (sfS (Safe.exa (EL := consts_1) W155.1.2.2.2.1.alike F158 (by decide) (by decide)) sf0)
      have z157 := K157.1
      obtain ⟨⟨rfl, A157, B157, C157⟩, -, -⟩ := Q157
      show Go p e below _ T157 (mkF m 137 #[.val (.int p1), .val (.int p2), .val (.int p3), .val (.int p4), .val (.int p5), .val (.int ks), .val (.int tl), .val (.int wl), .val (.int (1 : Int32)), .val (.int (1 : Int32)), .val (.int t0), .val (.int t1), .val (.int t0), .val (.int t1), .unset, .unset, .unset] [(.ref a140)])
      refine W157.1.astore (Ls' := #[.val (.int p1), .val (.int p2), .val (.int p3), .val (.int p4), .val (.int p5), .val (.int ks), .val (.int tl), .val (.int wl), .val (.int (1 : Int32)), .val (.int (1 : Int32)), .val (.int t0), .val (.int t1), .val (.int t0), .val (.int t1), .val (.ref a140), .unset, .unset]) (hb hby at_137) rfl rfl (pc' := 139) rfl ?_
      refine W157.1.iload (hb hby at_139) rfl (pc' := 141) rfl ?_
      refine W157.1.ifNo (hb hby at_141) (XT.i0_eq_f (by decide)) (pc' := 144) rfl ?_
      refine W157.1.aconstNull (hb hby at_144) (pc' := 145) rfl ?_
      refine W157.1.goto (hb hby at_145) (by decide) (pc' := 157) (by decide) ?_
      refine W157.1.astore (Ls' := #[.val (.int p1), .val (.int p2), .val (.int p3), .val (.int p4), .val (.int p5), .val (.int ks), .val (.int tl), .val (.int wl), .val (.int (1 : Int32)), .val (.int (1 : Int32)), .val (.int t0), .val (.int t1), .val (.int t0), .val (.int t1), .val (.ref a140), .val .null, .unset]) (hb hby at_157) rfl rfl (pc' := 159) rfl ?_
      refine W157.1.iload (hb hby at_159) rfl (pc' := 161) rfl ?_
      by_cases hc162 : ks = (0 : Int32)
      · refine W157.1.ifNo (hb hby at_161) (XT.i0_ne_f hc162) (pc' := 164) rfl ?_
        refine W157.1.iload (hb hby at_164) rfl (pc' := 166) rfl ?_
        refine W157.1.ifYes (hb hby at_166) (XT.i0_ne_t (by decide)) (by decide) (pc' := 206) (by decide) ?_
        refine W157.1.iconst (0 : Int32) (hb hby at_206) rfl (pc' := 207) rfl ?_
        refine W157.1.istore (Ls' := #[.val (.int p1), .val (.int p2), .val (.int p3), .val (.int p4), .val (.int p5), .val (.int ks), .val (.int tl), .val (.int wl), .val (.int (1 : Int32)), .val (.int (1 : Int32)), .val (.int t0), .val (.int t1), .val (.int t0), .val (.int t1), .val (.ref a140), .val .null, .val (.int (0 : Int32))]) (hb hby at_207) rfl (pc' := 209) rfl ?_
        refine W157.1.aload (hb hby at_209) rfl rfl (pc' := 211) rfl ?_
        refine W157.1.aload (hb hby at_211) rfl rfl (pc' := 213) rfl ?_
        have X0_3_163 : Ext h0 h157 := Keep.toExt ((((Keep.refl h0 []).ext E140).trans K155 all0).trans K157 (allS (Or.inr (by have := y140; omega)) all0))
        have zX0_3_163 := X0_3_163.1
        have F164 := Sta.ext X0_3_163 S0
        have F165 := (StrA.keepExa S155 K157 F158 (by decide) (hw _ (List.mem_of_getElem? (i := 2) rfl)))
        refine W157.1.callVP (y := (⟨"com/example/tracewright/tracewright/compiler/Token", "isWord", "(Ljava/lang/String;)Z"⟩ : MethodName)) (z := (⟨"com/example/tracewright/tracewright/compiler/Token", "isWord", "(Ljava/lang/String;)Z"⟩ : MethodName)) (hw _ (List.mem_of_getElem? (i := 59) rfl)) (hw _ (List.mem_of_getElem? (i := 60) rfl)) (hw _ (List.mem_of_getElem? (i := 62) rfl)) (hw _ (List.mem_of_getElem? (i := 62) rfl)) (hw _ (List.mem_of_getElem? (i := 61) rfl)) (by decide) (NM.bk (wd := 0) (rmJ l Z a0 hw a140 (kindF ks s0 s1 s2 s3 s4 s5 s6 s7 s8 s9 s10 s11 s12) a155 s0 (strF tl t0 t1) h157 n0 W157.1.n0h B157 C157 F164 F165) W157.1.2.2.2.1 (hw _ (List.mem_of_getElem? (i := 63) rfl)) (hw _ (List.mem_of_getElem? (i := 3) rfl)) (by decide) (by decide)) A157 (hb hby at_213) (pc' := 216) rfl hml (argsL := [.null]) rfl (lenOf pd_896d4e2b rfl) rfl (Nat.le_of_ble_eq_true rfl) (by decide) (by decide) (fun _ _ _ q => pu_of q) ?_
        intro T166 L166 N166
        have W166 := W157.same N166
        show Go p e below _ T166 (mkF m 216 #[.val (.int p1), .val (.int p2), .val (.int p3), .val (.int p4), .val (.int p5), .val (.int ks), .val (.int tl), .val (.int wl), .val (.int (1 : Int32)), .val (.int (1 : Int32)), .val (.int t0), .val (.int t1), .val (.int t0), .val (.int t1), .val (.ref a140), .val .null, .val (.int (0 : Int32))] [(.int (inF (kindF ks s0 s1 s2 s3 s4 s5 s6 s7 s8 s9 s10 s11 s12) s0))])
        refine W166.1.iload (hb hby at_216) rfl (pc' := 218) rfl ?_
        refine W166.1.icmpNo (hb hby at_218) (XT.ii_ne_f in_k) (pc' := 221) rfl ?_
        refine W166.1.iconst (1 : Int32) (hb hby at_221) rfl (pc' := 222) rfl ?_
        refine W166.1.goto (hb hby at_222) (by decide) (pc' := 226) (by decide) ?_
        exact W166.retZ hEL hret (hb hby at_226) (by decide) (by decide) (by decide) ⟨rfl, trivial⟩
      · refine W157.1.ifYes (hb hby at_161) (XT.i0_ne_t hc162) (by decide) (pc' := 206) (by decide) ?_
        refine W157.1.iconst (0 : Int32) (hb hby at_206) rfl (pc' := 207) rfl ?_
        refine W157.1.istore (Ls' := #[.val (.int p1), .val (.int p2), .val (.int p3), .val (.int p4), .val (.int p5), .val (.int ks), .val (.int tl), .val (.int wl), .val (.int (1 : Int32)), .val (.int (1 : Int32)), .val (.int t0), .val (.int t1), .val (.int t0), .val (.int t1), .val (.ref a140), .val .null, .val (.int (0 : Int32))]) (hb hby at_207) rfl (pc' := 209) rfl ?_
        refine W157.1.aload (hb hby at_209) rfl rfl (pc' := 211) rfl ?_
        refine W157.1.aload (hb hby at_211) rfl rfl (pc' := 213) rfl ?_
        have X0_3_167 : Ext h0 h157 := Keep.toExt ((((Keep.refl h0 []).ext E140).trans K155 all0).trans K157 (allS (Or.inr (by have := y140; omega)) all0))
        have zX0_3_167 := X0_3_167.1
        have F168 := Sta.ext X0_3_167 S0
        have F169 := (StrA.keepExa S155 K157 F158 (by decide) (hw _ (List.mem_of_getElem? (i := 2) rfl)))
        refine W157.1.callVP (y := (⟨"com/example/tracewright/tracewright/compiler/Token", "isWord", "(Ljava/lang/String;)Z"⟩ : MethodName)) (z := (⟨"com/example/tracewright/tracewright/compiler/Token", "isWord", "(Ljava/lang/String;)Z"⟩ : MethodName)) (hw _ (List.mem_of_getElem? (i := 59) rfl)) (hw _ (List.mem_of_getElem? (i := 60) rfl)) (hw _ (List.mem_of_getElem? (i := 62) rfl)) (hw _ (List.mem_of_getElem? (i := 62) rfl)) (hw _ (List.mem_of_getElem? (i := 61) rfl)) (by decide) (NM.bk (wd := 0) (rmJ l Z a0 hw a140 (kindF ks s0 s1 s2 s3 s4 s5 s6 s7 s8 s9 s10 s11 s12) a155 s0 (strF tl t0 t1) h157 n0 W157.1.n0h B157 C157 F168 F169) W157.1.2.2.2.1 (hw _ (List.mem_of_getElem? (i := 63) rfl)) (hw _ (List.mem_of_getElem? (i := 3) rfl)) (by decide) (by decide)) A157 (hb hby at_213) (pc' := 216) rfl hml (argsL := [.null]) rfl (lenOf pd_896d4e2b rfl) rfl (Nat.le_of_ble_eq_true rfl) (by decide) (by decide) (fun _ _ _ q => pu_of q) ?_
        intro T170 L170 N170
        have W170 := W157.same N170
        show Go p e below _ T170 (mkF m 216 #[.val (.int p1), .val (.int p2), .val (.int p3), .val (.int p4), .val (.int p5), .val (.int ks), .val (.int tl), .val (.int wl), .val (.int (1 : Int32)), .val (.int (1 : Int32)), .val (.int t0), .val (.int t1), .val (.int t0), .val (.int t1), .val (.ref a140), .val .null, .val (.int (0 : Int32))] [(.int (inF (kindF ks s0 s1 s2 s3 s4 s5 s6 s7 s8 s9 s10 s11 s12) s0))])
        refine W170.1.iload (hb hby at_216) rfl (pc' := 218) rfl ?_
        refine W170.1.icmpNo (hb hby at_218) (XT.ii_ne_f in_k) (pc' := 221) rfl ?_
        refine W170.1.iconst (1 : Int32) (hb hby at_221) rfl (pc' := 222) rfl ?_
        refine W170.1.goto (hb hby at_222) (by decide) (pc' := 226) (by decide) ?_
        exact W170.retZ hEL hret (hb hby at_226) (by decide) (by decide) (by decide) ⟨rfl, trivial⟩
    · refine W0.1.ifYes (hb hby at_46) (XT.i0_ne_t hc139) (by decide) (pc' := 53) (by decide) ?_
      refine W0.1.iconst (0 : Int32) (hb hby at_53) rfl (pc' := 54) rfl ?_
      refine W0.1.istore (Ls' := #[.val (.int p1), .val (.int p2), .val (.int p3), .val (.int p4), .val (.int p5), .val (.int ks), .val (.int tl), .val (.int wl), .val (.int (1 : Int32)), .val (.int (0 : Int32)), .unset, .unset, .unset, .unset, .unset, .unset, .unset]) (hb hby at_54) rfl (pc' := 56) rfl ?_
      refine W0.1.iloadN (hb hby at_56) rfl (pc' := 57) rfl ?_
      refine W0.1.sipush (255 : Int32) (hb hby at_57) rfl (pc' := 60) rfl ?_
      refine W0.1.iand (hb hby at_60) (pc' := 61) rfl ?_
      refine W0.1.i2c (hb hby at_61) (pc' := 62) rfl ?_
      refine lets (P := fun z => Go _ _ _ _ _ (mkF m 62 #[.val (.int p1), .val (.int p2), .val (.int p3), .val (.int p4), .val (.int p5), .val (.int ks), .val (.int tl), .val (.int wl), .val (.int (1 : Int32)), .val (.int (0 : Int32)), .unset, .unset, .unset, .unset, .unset, .unset, .unset] [(.int z)])) (i2c (p2 &&& (255 : Int32))) ?_
      intro t0 ht0
      refine W0.1.istore (Ls' := #[.val (.int p1), .val (.int p2), .val (.int p3), .val (.int p4), .val (.int p5), .val (.int ks), .val (.int tl), .val (.int wl), .val (.int (1 : Int32)), .val (.int (0 : Int32)), .val (.int t0), .unset, .unset, .unset, .unset, .unset, .unset]) (hb hby at_62) rfl (pc' := 64) rfl ?_
      refine W0.1.iloadN (hb hby at_64) rfl (pc' := 65) rfl ?_
      refine W0.1.bipush (8 : Int32) (hb hby at_65) rfl (pc' := 67) rfl ?_
      refine W0.1.iushr (hb hby at_67) (pc' := 68) rfl ?_
      refine W0.1.sipush (255 : Int32) (hb hby at_68) rfl (pc' := 71) rfl ?_
      refine W0.1.iand (hb hby at_71) (pc' := 72) rfl ?_
      refine W0.1.i2c (hb hby at_72) (pc' := 73) rfl ?_
      refine lets (P := fun z => Go _ _ _ _ _ (mkF m 73 #[.val (.int p1), .val (.int p2), .val (.int p3), .val (.int p4), .val (.int p5), .val (.int ks), .val (.int tl), .val (.int wl), .val (.int (1 : Int32)), .val (.int (0 : Int32)), .val (.int t0), .unset, .unset, .unset, .unset, .unset, .unset] [(.int z)])) (i2c ((XT.ushr p2 (8 : Int32)) &&& (255 : Int32))) ?_
      intro t1 ht1
      refine W0.1.istore (Ls' := #[.val (.int p1), .val (.int p2), .val (.int p3), .val (.int p4), .val (.int p5), .val (.int ks), .val (.int tl), .val (.int wl), .val (.int (1 : Int32)), .val (.int (0 : Int32)), .val (.int t0), .val (.int t1), .unset, .unset, .unset, .unset, .unset]) (hb hby at_73) rfl (pc' := 75) rfl ?_
      refine W0.1.iload (hb hby at_75) rfl (pc' := 77) rfl ?_
      refine W0.1.ifNo (hb hby at_77) (XT.i0_eq_f (by decide)) (pc' := 80) rfl ?_
      refine W0.1.iload (hb hby at_80) rfl (pc' := 82) rfl ?_
      refine W0.1.goto (hb hby at_82) (by decide) (pc' := 91) (by decide) ?_
      refine W0.1.istore (Ls' := #[.val (.int p1), .val (.int p2), .val (.int p3), .val (.int p4), .val (.int p5), .val (.int ks), .val (.int tl), .val (.int wl), .val (.int (1 : Int32)), .val (.int (0 : Int32)), .val (.int t0), .val (.int t1), .val (.int t0), .unset, .unset, .unset, .unset]) (hb hby at_91) rfl (pc' := 93) rfl ?_
      refine W0.1.iload (hb hby at_93) rfl (pc' := 95) rfl ?_
      refine W0.1.ifNo (hb hby at_95) (XT.i0_eq_f (by decide)) (pc' := 98) rfl ?_
      refine W0.1.iload (hb hby at_98) rfl (pc' := 100) rfl ?_
      refine W0.1.goto (hb hby at_100) (by decide) (pc' := 112) (by decide) ?_
      refine W0.1.istore (Ls' := #[.val (.int p1), .val (.int p2), .val (.int p3), .val (.int p4), .val (.int p5), .val (.int ks), .val (.int tl), .val (.int wl), .val (.int (1 : Int32)), .val (.int (0 : Int32)), .val (.int t0), .val (.int t1), .val (.int t0), .val (.int t1), .unset, .unset, .unset]) (hb hby at_112) rfl (pc' := 114) rfl ?_
      refine W0.1.newO (hw _ (List.mem_of_getElem? (i := 1) rfl)) (hw _ (List.mem_of_getElem? (i := 2) rfl)) (hw _ (List.mem_of_getElem? (i := 3) rfl)) (hb hby at_114) (pc' := 117) rfl (by decide) (by decide) ?_
      intro T171 h171 a171 g171 ge171 gn171 N171 E171 A171 D171
      have z171 := E171.1
      have y171 := Nat.le_of_eq g171.symm
      have W171 := W0.upE N171 E171
      have D171_kind := D171 (Or.inr (hw _ (List.mem_of_getElem? (i := 54) rfl))) (ty := (.object "com/example/tracewright/tracewright/compiler/Token$Kind")) (by decide)
      have D171_text := D171 (Or.inr (hw _ (List.mem_of_getElem? (i := 56) rfl))) (ty := (.object "java/lang/String")) (by decide)
      have D171_line := D171 (Or.inr (hw _ (List.mem_of_getElem? (i := 58) rfl))) (ty := .int) (by decide)
      refine W171.1.dup (hb hby at_117) rfl (pc' := 118) rfl ?_
      refine W171.1.iload (hb hby at_118) rfl (pc' := 120) rfl ?_
      have F173 := Sta.ext E171 S0
      have F174 := Sta.ext E171 S1
      have F175 := Sta.ext E171 S2
      have F176 := Sta.ext E171 S3
      have F177 := Sta.ext E171 S4
      have F178 := Sta.ext E171 S5
      have F179 := Sta.ext E171 S6
      have F180 := Sta.ext E171 S7
      have F181 := Sta.ext E171 S8
      have F182 := Sta.ext E171 S9
      have F183 := Sta.ext E171 S10
      have F184 := Sta.ext E171 S11
      have F185 := Sta.ext E171 S12
      refine W171.1.callSP (hw _ (List.mem_of_getElem? (i := 4) rfl)) (hw _ (List.mem_of_getElem? (i := 5) rfl)) (hw _ (List.mem_of_getElem? (i := 6) rfl)) (hw _ (List.mem_of_getElem? (i := 7) rfl)) (by decide) (NM.bk (wd := 2) (rmK l Z a0 hw ks s0 s1 s2 s3 s4 s5 s6 s7 s8 s9 s10 s11 s12 h171 n0 W171.1.n0h F173 F174 F175 F176 F177 F178 F179 F180 F181 F182 F183 F184 F185) W171.1.2.2.2.1 (hw _ (List.mem_of_getElem? (i := 7) rfl)) (hw _ (List.mem_of_getElem? (i := 6) rfl)) (by decide) (by decide)) (hb hby at_120) (pc' := 123) rfl hml (argsL := [(.int ks)]) rfl (lenOf pd_0262a027 rfl) rfl (Nat.le_of_ble_eq_true rfl) (by decide) (by decide) (fun _ _ _ q => pu_of q) ?_
      intro T172 L172 N172
      have W172 := W171.same N172
      show Go p e below _ T172 (mkF m 123 #[.val (.int p1), .val (.int p2), .val (.int p3), .val (.int p4), .val (.int p5), .val (.int ks), .val (.int tl), .val (.int wl), .val (.int (1 : Int32)), .val (.int (0 : Int32)), .val (.int t0), .val (.int t1), .val (.int t0), .val (.int t1), .unset, .unset, .unset] [(.ref (kindF ks s0 s1 s2 s3 s4 s5 s6 s7 s8 s9 s10 s11 s12)), (.ref a171), (.ref a171)])
      refine W172.1.iload (hb hby at_123) rfl (pc' := 125) rfl ?_
      refine W172.1.iload (hb hby at_125) rfl (pc' := 127) rfl ?_
      refine W172.1.iload (hb hby at_127) rfl (pc' := 129) rfl ?_
      have F187 := Sta.ext E171 SC
      refine W172.callS (hw _ (List.mem_of_getElem? (i := 11) rfl)) (hw _ (List.mem_of_getElem? (i := 12) rfl)) (hw _ (List.mem_of_getElem? (i := 6) rfl)) (hw _ (List.mem_of_getElem? (i := 13) rfl)) (by decide) (WM.bk (wd := 3) (rmS l Z a0 hw hEL tl t0 t1 zc h171 n0 W172.1.n0h (ht0 ▸ lat_and _) (ht1 ▸ lat_and _) F187 hz) W172.1.2.2.2.1 (hw _ (List.mem_of_getElem? (i := 13) rfl)) (hw _ (List.mem_of_getElem? (i := 6) rfl)) (by decide) (by decide) hEL W172.2.2.1) (hb hby at_129) (pc' := 132) rfl hml (argsL := [(.int tl), (.int t0), (.int t1)]) rfl (lenOf pd_191a01f4 rfl) rfl (Nat.le_of_ble_eq_true rfl) (by decide) (by decide) (ws' := []) (fun _ _ _ q => ⟨q.2.2, q.2.1⟩) all0 ?_
      intro v186 T186 h186 vm186 L186' L186 W186 Q186 K186 C186
      have z186 := K186.1
      obtain ⟨⟨a186, rfl, S186⟩, -, -⟩ := Q186
      show Go p e below _ T186 (mkF m 132 #[.val (.int p1), .val (.int p2), .val (.int p3), .val (.int p4), .val (.int p5), .val (.int ks), .val (.int tl), .val (.int wl), .val (.int (1 : Int32)), .val (.int (0 : Int32)), .val (.int t0), .val (.int t1), .val (.int t0), .val (.int t1), .unset, .unset, .unset] [(.ref a186), (.ref (kindF ks s0 s1 s2 s3 s4 s5 s6 s7 s8 s9 s10 s11 s12)), (.ref a171), (.ref a171)])
      refine W186.1.iload (hb hby at_132) rfl (pc' := 134) rfl ?_
      have F189 := Exa.ext (Keep.toExt K186) A171
      have F190 := Fld.ext (Keep.toExt K186) D171_kind
      have F191 := Fld.ext (Keep.toExt K186) D171_text
      have F192 := Fld.ext (Keep.toExt K186) D171_line
      refine W186.1.callI (y := (⟨"com/example/tracewright/tracewright/compiler/Token", "<init>", "(Lcom/example/tracewright/tracewright/compiler/Token$Kind;Ljava/lang/String;I)V"⟩ : MethodName)) rfl (hw _ (List.mem_of_getElem? (i := 44) rfl)) (hw _ (List.mem_of_getElem? (i := 45) rfl)) (hw _ (List.mem_of_getElem? (i := 46) rfl)) (by decide) (NM.bk (wd := 1) (rmT l Z a0 hw a171 (kindF ks s0 s1 s2 s3 s4 s5 s6 s7 s8 s9 s10 s11 s12) a186 p5 h186 n0 W186.1.n0h gn171 F189 F190 F191 F192) W186.1.2.2.2.1 (hw _ (List.mem_of_getElem? (i := 46) rfl)) (hw _ (List.mem_of_getElem? (i := 3) rfl)) (by decide) (by decide)) (hb hby at_134) (pc' := 137) rfl hml (a := a171) (argsL := [(.ref (kindF ks s0 s1 s2 s3 s4 s5 s6 s7 s8 s9 s10 s11 s12)), (.ref a186), (.int p5)]) rfl (lenOf pd_83ccecf8 rfl) rfl (Nat.le_of_ble_eq_true rfl) (by decide) (by decide) (ws' := [a171]) (fun _ _ _ q => ⟨q.2.2, q.2.1⟩) (allS (Or.inr ge171) all0) ?_
      intro v188 T188 h188 L188' L188 N188 Q188 K188
      have W188 := W186.up N188 K188 (sfS (Safe.exa (EL := consts_1) W186.1.2.2.2.1.alike F189 (by decide) (by decide)) sf0)
      have z188 := K188.1
      obtain ⟨⟨rfl, A188, B188, C188⟩, -, -⟩ := Q188
      show Go p e below _ T188 (mkF m 137 #[.val (.int p1), .val (.int p2), .val (.int p3), .val (.int p4), .val (.int p5), .val (.int ks), .val (.int tl), .val (.int wl), .val (.int (1 : Int32)), .val (.int (0 : Int32)), .val (.int t0), .val (.int t1), .val (.int t0), .val (.int t1), .unset, .unset, .unset] [(.ref a171)])
      refine W188.1.astore (Ls' := #[.val (.int p1), .val (.int p2), .val (.int p3), .val (.int p4), .val (.int p5), .val (.int ks), .val (.int tl), .val (.int wl), .val (.int (1 : Int32)), .val (.int (0 : Int32)), .val (.int t0), .val (.int t1), .val (.int t0), .val (.int t1), .val (.ref a171), .unset, .unset]) (hb hby at_137) rfl rfl (pc' := 139) rfl ?_
      refine W188.1.iload (hb hby at_139) rfl (pc' := 141) rfl ?_
      refine W188.1.ifYes (hb hby at_141) (XT.i0_eq_t (by decide)) (by decide) (pc' := 148) (by decide) ?_
      refine W188.1.iload (hb hby at_148) rfl (pc' := 150) rfl ?_
      refine W188.1.iload (hb hby at_150) rfl (pc' := 152) rfl ?_
      refine W188.1.iload (hb hby at_152) rfl (pc' := 154) rfl ?_
      have X0_3_194 : Ext h0 h188 := Keep.toExt ((((Keep.refl h0 []).ext E171).trans K186 all0).trans K188 (allS (Or.inr (by have := y171; omega)) all0))
      have zX0_3_194 := X0_3_194.1
      have F195 := Sta.ext X0_3_194 SC
      refine W188.callS (hw _ (List.mem_of_getElem? (i := 11) rfl)) (hw _ (List.mem_of_getElem? (i := 12) rfl)) (hw _ (List.mem_of_getElem? (i := 6) rfl)) (hw _ (List.mem_of_getElem? (i := 13) rfl)) (by decide) (WM.bk (wd := 0) (rmS l Z a0 hw hEL wl t0 t1 zc h188 n0 W188.1.n0h (ht0 ▸ lat_and _) (ht1 ▸ lat_and _) F195 hz) W188.1.2.2.2.1 (hw _ (List.mem_of_getElem? (i := 13) rfl)) (hw _ (List.mem_of_getElem? (i := 6) rfl)) (by decide) (by decide) hEL W188.2.2.1) (hb hby at_154) (pc' := 157) rfl hml (argsL := [(.int wl), (.int t0), (.int t1)]) rfl (lenOf pd_191a01f4 rfl) rfl (Nat.le_of_ble_eq_true rfl) (by decide) (by decide) (ws' := []) (fun _ _ _ q => ⟨q.2.2, q.2.1⟩) all0 ?_
      intro v193 T193 h193 vm193 L193' L193 W193 Q193 K193 C193
      have z193 := K193.1
      obtain ⟨⟨a193, rfl, S193⟩, -, -⟩ := Q193
      show Go p e below _ T193 (mkF m 157 #[.val (.int p1), .val (.int p2), .val (.int p3), .val (.int p4), .val (.int p5), .val (.int ks), .val (.int tl), .val (.int wl), .val (.int (1 : Int32)), .val (.int (0 : Int32)), .val (.int t0), .val (.int t1), .val (.int t0), .val (.int t1), .val (.ref a171), .unset, .unset] [(.ref a193)])
      refine W193.1.astore (Ls' := #[.val (.int p1), .val (.int p2), .val (.int p3), .val (.int p4), .val (.int p5), .val (.int ks), .val (.int tl), .val (.int wl), .val (.int (1 : Int32)), .val (.int (0 : Int32)), .val (.int t0), .val (.int t1), .val (.int t0), .val (.int t1), .val (.ref a171), .val (.ref a193), .unset]) (hb hby at_157) rfl rfl (pc' := 159) rfl ?_
      refine W193.1.iload (hb hby at_159) rfl (pc' := 161) rfl ?_
      by_cases hc196 : ks = (0 : Int32)
      · refine W193.1.ifNo (hb hby at_161) (XT.i0_ne_f hc196) (pc' := 164) rfl ?_
        refine W193.1.iload (hb hby at_164) rfl (pc' := 166) rfl ?_
        refine W193.1.ifNo (hb hby at_166) (XT.i0_ne_f (by decide)) (pc' := 169) rfl ?_
        refine W193.1.iload (hb hby at_169) rfl (pc' := 171) rfl ?_
        refine W193.1.iload (hb hby at_171) rfl (pc' := 173) rfl ?_
        by_cases hc197 : tl = wl
        · refine W193.1.icmpNo (hb hby at_173) (XT.ii_ne_f hc197) (pc' := 176) rfl ?_
          refine W193.1.iload (hb hby at_176) rfl (pc' := 178) rfl ?_
          refine W193.1.iconst (1 : Int32) (hb hby at_178) rfl (pc' := 179) rfl ?_
          by_cases hc198 : tl < (1 : Int32)
          · refine W193.1.icmpYes (hb hby at_179) (XT.ii_lt_t hc198) (by decide) (pc' := 189) (by decide) ?_
            refine W193.1.iload (hb hby at_189) rfl (pc' := 191) rfl ?_
            refine W193.1.iconst (2 : Int32) (hb hby at_191) rfl (pc' := 192) rfl ?_
            by_cases hc199 : tl < (2 : Int32)
            · refine W193.1.icmpYes (hb hby at_192) (XT.ii_lt_t hc199) (by decide) (pc' := 202) (by decide) ?_
              refine W193.1.iconst (1 : Int32) (hb hby at_202) rfl (pc' := 203) rfl ?_
              refine W193.1.goto (hb hby at_203) (by decide) (pc' := 207) (by decide) ?_
              refine W193.1.istore (Ls' := #[.val (.int p1), .val (.int p2), .val (.int p3), .val (.int p4), .val (.int p5), .val (.int ks), .val (.int tl), .val (.int wl), .val (.int (1 : Int32)), .val (.int (0 : Int32)), .val (.int t0), .val (.int t1), .val (.int t0), .val (.int t1), .val (.ref a171), .val (.ref a193), .val (.int (1 : Int32))]) (hb hby at_207) rfl (pc' := 209) rfl ?_
              refine W193.1.aload (hb hby at_209) rfl rfl (pc' := 211) rfl ?_
              refine W193.1.aload (hb hby at_211) rfl rfl (pc' := 213) rfl ?_
              have F200 := Fld.ext (Keep.toExt K193) B188
              have F201 := Fld.ext (Keep.toExt K193) C188
              have X0_4_202 : Ext h0 h193 := Keep.toExt (((((Keep.refl h0 []).ext E171).trans K186 all0).trans K188 (allS (Or.inr (by have := y171; omega)) all0)).trans K193 all0)
              have zX0_4_202 := X0_4_202.1
              have F203 := Sta.ext X0_4_202 S0
              have F204 := ((StrA.keepExa S186 K188 F189 (by decide) (hw _ (List.mem_of_getElem? (i := 2) rfl))).ext (Keep.toExt K193))
              have F205 := Sta.ext X0_4_202 SC
              have F207 := Exa.ext (Keep.toExt K193) A188
              refine W193.1.callVP (y := (⟨"com/example/tracewright/tracewright/compiler/Token", "isWord", "(Ljava/lang/String;)Z"⟩ : MethodName)) (z := (⟨"com/example/tracewright/tracewright/compiler/Token", "isWord", "(Ljava/lang/String;)Z"⟩ : MethodName)) (hw _ (List.mem_of_getElem? (i := 59) rfl)) (hw _ (List.mem_of_getElem? (i := 60) rfl)) (hw _ (List.mem_of_getElem? (i := 62) rfl)) (hw _ (List.mem_of_getElem? (i := 62) rfl)) (hw _ (List.mem_of_getElem? (i := 61) rfl)) (by decide) (NM.bk (wd := 0) (rmI l Z a0 hw a171 a193 (kindF ks s0 s1 s2 s3 s4 s5 s6 s7 s8 s9 s10 s11 s12) a186 s0 (strF tl t0 t1) (strF wl t0 t1) zc h193 n0 W193.1.n0h F200 F201 F203 F204 S193 F205 hz) W193.1.2.2.2.1 (hw _ (List.mem_of_getElem? (i := 63) rfl)) (hw _ (List.mem_of_getElem? (i := 3) rfl)) (by decide) (by decide)) F207 (hb hby at_213) (pc' := 216) rfl hml (argsL := [(.ref a193)]) rfl (lenOf pd_896d4e2b rfl) rfl (Nat.le_of_ble_eq_true rfl) (by decide) (by decide) (fun _ _ _ q => pu_of q) ?_
              intro T206 L206 N206
              have W206 := W193.same N206
              show Go p e below _ T206 (mkF m 216 #[.val (.int p1), .val (.int p2), .val (.int p3), .val (.int p4), .val (.int p5), .val (.int ks), .val (.int tl), .val (.int wl), .val (.int (1 : Int32)), .val (.int (0 : Int32)), .val (.int t0), .val (.int t1), .val (.int t0), .val (.int t1), .val (.ref a171), .val (.ref a193), .val (.int (1 : Int32))] [(.int (iwF (kindF ks s0 s1 s2 s3 s4 s5 s6 s7 s8 s9 s10 s11 s12) s0 (strF tl t0 t1) (strF wl t0 t1)))])
              refine W206.1.iload (hb hby at_216) rfl (pc' := 218) rfl ?_
              refine W206.1.icmpNo (hb hby at_218) (XT.ii_ne_f (iw_yes (kind_w hc196) (by first | (rw [← hc197]; done) | (rw [← hc197]; exact str_yes (Or.inl hc198) (Or.inl hc199) (rng3 htl))))) (pc' := 221) rfl ?_
              refine W206.1.iconst (1 : Int32) (hb hby at_221) rfl (pc' := 222) rfl ?_
              refine W206.1.goto (hb hby at_222) (by decide) (pc' := 226) (by decide) ?_
              exact W206.retZ hEL hret (hb hby at_226) (by decide) (by decide) (by decide) ⟨rfl, trivial⟩
            · refine W193.1.icmpNo (hb hby at_192) (XT.ii_lt_f hc199) (pc' := 195) rfl ?_
              refine W193.1.iload (hb hby at_195) rfl (pc' := 197) rfl ?_
              refine W193.1.iload (hb hby at_197) rfl (pc' := 199) rfl ?_
              refine W193.1.icmpNo (hb hby at_199) (XT.ii_ne_f rfl) (pc' := 202) rfl ?_
              refine W193.1.iconst (1 : Int32) (hb hby at_202) rfl (pc' := 203) rfl ?_
              refine W193.1.goto (hb hby at_203) (by decide) (pc' := 207) (by decide) ?_
              refine W193.1.istore (Ls' := #[.val (.int p1), .val (.int p2), .val (.int p3), .val (.int p4), .val (.int p5), .val (.int ks), .val (.int tl), .val (.int wl), .val (.int (1 : Int32)), .val (.int (0 : Int32)), .val (.int t0), .val (.int t1), .val (.int t0), .val (.int t1), .val (.ref a171), .val (.ref a193), .val (.int (1 : Int32))]) (hb hby at_207) rfl (pc' := 209) rfl ?_
              refine W193.1.aload (hb hby at_209) rfl rfl (pc' := 211) rfl ?_
              refine W193.1.aload (hb hby at_211) rfl rfl (pc' := 213) rfl ?_
              have F208 := Fld.ext (Keep.toExt K193) B188
              have F209 := Fld.ext (Keep.toExt K193) C188
              have X0_4_210 : Ext h0 h193 := Keep.toExt (((((Keep.refl h0 []).ext E171).trans K186 all0).trans K188 (allS (Or.inr (by have := y171; omega)) all0)).trans K193 all0)
              have zX0_4_210 := X0_4_210.1
              have F211 := Sta.ext X0_4_210 S0
              have F212 := ((StrA.keepExa S186 K188 F189 (by decide) (hw _ (List.mem_of_getElem? (i := 2) rfl))).ext (Keep.toExt K193))
              have F213 := Sta.ext X0_4_210 SC
              have F215 := Exa.ext (Keep.toExt K193) A188
              refine W193.1.callVP (y := (⟨"com/example/tracewright/tracewright/compiler/Token", "isWord", "(Ljava/lang/String;)Z"⟩ : MethodName)) (z := (⟨"com/example/tracewright/tracewright/compiler/Token", "isWord", "(Ljava/lang/String;)Z"⟩ : MethodName)) (hw _ (List.mem_of_getElem? (i := 59) rfl)) (hw _ (List.mem_of_getElem? (i := 60) rfl)) (hw _ (List.mem_of_getElem? (i := 62) rfl)) (hw _ (List.mem_of_getElem? (i := 62) rfl)) (hw _ (List.mem_of_getElem? (i := 61) rfl)) (by decide) (NM.bk (wd := 0) (rmI l Z a0 hw a171 a193 (kindF ks s0 s1 s2 s3 s4 s5 s6 s7 s8 s9 s10 s11 s12) a186 s0 (strF tl t0 t1) (strF wl t0 t1) zc h193 n0 W193.1.n0h F208 F209 F211 F212 S193 F213 hz) W193.1.2.2.2.1 (hw _ (List.mem_of_getElem? (i := 63) rfl)) (hw _ (List.mem_of_getElem? (i := 3) rfl)) (by decide) (by decide)) F215 (hb hby at_213) (pc' := 216) rfl hml (argsL := [(.ref a193)]) rfl (lenOf pd_896d4e2b rfl) rfl (Nat.le_of_ble_eq_true rfl) (by decide) (by decide) (fun _ _ _ q => pu_of q) ?_
              intro T214 L214 N214
              have W214 := W193.same N214
              show Go p e below _ T214 (mkF m 216 #[.val (.int p1), .val (.int p2), .val (.int p3), .val (.int p4), .val (.int p5), .val (.int ks), .val (.int tl), .val (.int wl), .val (.int (1 : Int32)), .val (.int (0 : Int32)), .val (.int t0), .val (.int t1), .val (.int t0), .val (.int t1), .val (.ref a171), .val (.ref a193), .val (.int (1 : Int32))] [(.int (iwF (kindF ks s0 s1 s2 s3 s4 s5 s6 s7 s8 s9 s10 s11 s12) s0 (strF tl t0 t1) (strF wl t0 t1)))])
              refine W214.1.iload (hb hby at_216) rfl (pc' := 218) rfl ?_
              refine W214.1.icmpNo (hb hby at_218) (XT.ii_ne_f (iw_yes (kind_w hc196) (by first | (rw [← hc197]; done) | (rw [← hc197]; exact str_yes (Or.inl hc198) (Or.inr rfl) (rng3 htl))))) (pc' := 221) rfl ?_
              refine W214.1.iconst (1 : Int32) (hb hby at_221) rfl (pc' := 222) rfl ?_
              refine W214.1.goto (hb hby at_222) (by decide) (pc' := 226) (by decide) ?_
              exact W214.retZ hEL hret (hb hby at_226) (by decide) (by decide) (by decide) ⟨rfl, trivial⟩
          · refine W193.1.icmpNo (hb hby at_179) (XT.ii_lt_f hc198) (pc' := 182) rfl ?_
            refine W193.1.iload (hb hby at_182) rfl (pc' := 184) rfl ?_
            refine W193.1.iload (hb hby at_184) rfl (pc' := 186) rfl ?_
            refine W193.1.icmpNo (hb hby at_186) (XT.ii_ne_f rfl) (pc' := 189) rfl ?_
            refine W193.1.iload (hb hby at_189) rfl (pc' := 191) rfl ?_
            refine W193.1.iconst (2 : Int32) (hb hby at_191) rfl (pc' := 192) rfl ?_
            by_cases hc216 : tl < (2 : Int32)
            · refine W193.1.icmpYes (hb hby at_192) (XT.ii_lt_t hc216) (by decide) (pc' := 202) (by decide) ?_
              refine W193.1.iconst (1 : Int32) (hb hby at_202) rfl (pc' := 203) rfl ?_
              refine W193.1.goto (hb hby at_203) (by decide) (pc' := 207) (by decide) ?_
              refine W193.1.istore (Ls' := #[.val (.int p1), .val (.int p2), .val (.int p3), .val (.int p4), .val (.int p5), .val (.int ks), .val (.int tl), .val (.int wl), .val (.int (1 : Int32)), .val (.int (0 : Int32)), .val (.int t0), .val (.int t1), .val (.int t0), .val (.int t1), .val (.ref a171), .val (.ref a193), .val (.int (1 : Int32))]) (hb hby at_207) rfl (pc' := 209) rfl ?_
              refine W193.1.aload (hb hby at_209) rfl rfl (pc' := 211) rfl ?_
              refine W193.1.aload (hb hby at_211) rfl rfl (pc' := 213) rfl ?_
              have F217 := Fld.ext (Keep.toExt K193) B188
              have F218 := Fld.ext (Keep.toExt K193) C188
              have X0_4_219 : Ext h0 h193 := Keep.toExt (((((Keep.refl h0 []).ext E171).trans K186 all0).trans K188 (allS (Or.inr (by have := y171; omega)) all0)).trans K193 all0)
              have zX0_4_219 := X0_4_219.1
              have F220 := Sta.ext X0_4_219 S0
              have F221 := ((StrA.keepExa S186 K188 F189 (by decide) (hw _ (List.mem_of_getElem? (i := 2) rfl))).ext (Keep.toExt K193))
              have F222 := Sta.ext X0_4_219 SC
              have F224 := Exa.ext (Keep.toExt K193) A188
              refine W193.1.callVP (y := (⟨"com/example/tracewright/tracewright/compiler/Token", "isWord", "(Ljava/lang/String;)Z"⟩ : MethodName)) (z := (⟨"com/example/tracewright/tracewright/compiler/Token", "isWord", "(Ljava/lang/String;)Z"⟩ : MethodName)) (hw _ (List.mem_of_getElem? (i := 59) rfl)) (hw _ (List.mem_of_getElem? (i := 60) rfl)) (hw _ (List.mem_of_getElem? (i := 62) rfl)) (hw _ (List.mem_of_getElem? (i := 62) rfl)) (hw _ (List.mem_of_getElem? (i := 61) rfl)) (by decide) (NM.bk (wd := 0) (rmI l Z a0 hw a171 a193 (kindF ks s0 s1 s2 s3 s4 s5 s6 s7 s8 s9 s10 s11 s12) a186 s0 (strF tl t0 t1) (strF wl t0 t1) zc h193 n0 W193.1.n0h F217 F218 F220 F221 S193 F222 hz) W193.1.2.2.2.1 (hw _ (List.mem_of_getElem? (i := 63) rfl)) (hw _ (List.mem_of_getElem? (i := 3) rfl)) (by decide) (by decide)) F224 (hb hby at_213) (pc' := 216) rfl hml (argsL := [(.ref a193)]) rfl (lenOf pd_896d4e2b rfl) rfl (Nat.le_of_ble_eq_true rfl) (by decide) (by decide) (fun _ _ _ q => pu_of q) ?_
              intro T223 L223 N223
              have W223 := W193.same N223
              show Go p e below _ T223 (mkF m 216 #[.val (.int p1), .val (.int p2), .val (.int p3), .val (.int p4), .val (.int p5), .val (.int ks), .val (.int tl), .val (.int wl), .val (.int (1 : Int32)), .val (.int (0 : Int32)), .val (.int t0), .val (.int t1), .val (.int t0), .val (.int t1), .val (.ref a171), .val (.ref a193), .val (.int (1 : Int32))] [(.int (iwF (kindF ks s0 s1 s2 s3 s4 s5 s6 s7 s8 s9 s10 s11 s12) s0 (strF tl t0 t1) (strF wl t0 t1)))])
              refine W223.1.iload (hb hby at_216) rfl (pc' := 218) rfl ?_
              refine W223.1.icmpNo (hb hby at_218) (XT.ii_ne_f (iw_yes (kind_w hc196) (by first | (rw [← hc197]; done) | (rw [← hc197]; exact str_yes (Or.inr rfl) (Or.inl hc216) (rng3 htl))))) (pc' := 221) rfl ?_
              refine W223.1.iconst (1 : Int32) (hb hby at_221) rfl (pc' := 222) rfl ?_
              refine W223.1.goto (hb hby at_222) (by decide) (pc' := 226) (by decide) ?_
              exact W223.retZ hEL hret (hb hby at_226) (by decide) (by decide) (by decide) ⟨rfl, trivial⟩
            · refine W193.1.icmpNo (hb hby at_192) (XT.ii_lt_f hc216) (pc' := 195) rfl ?_
              refine W193.1.iload (hb hby at_195) rfl (pc' := 197) rfl ?_
              refine W193.1.iload (hb hby at_197) rfl (pc' := 199) rfl ?_
              refine W193.1.icmpNo (hb hby at_199) (XT.ii_ne_f rfl) (pc' := 202) rfl ?_
              refine W193.1.iconst (1 : Int32) (hb hby at_202) rfl (pc' := 203) rfl ?_
              refine W193.1.goto (hb hby at_203) (by decide) (pc' := 207) (by decide) ?_
              refine W193.1.istore (Ls' := #[.val (.int p1), .val (.int p2), .val (.int p3), .val (.int p4), .val (.int p5), .val (.int ks), .val (.int tl), .val (.int wl), .val (.int (1 : Int32)), .val (.int (0 : Int32)), .val (.int t0), .val (.int t1), .val (.int t0), .val (.int t1), .val (.ref a171), .val (.ref a193), .val (.int (1 : Int32))]) (hb hby at_207) rfl (pc' := 209) rfl ?_
              refine W193.1.aload (hb hby at_209) rfl rfl (pc' := 211) rfl ?_
              refine W193.1.aload (hb hby at_211) rfl rfl (pc' := 213) rfl ?_
              have F225 := Fld.ext (Keep.toExt K193) B188
              have F226 := Fld.ext (Keep.toExt K193) C188
              have X0_4_227 : Ext h0 h193 := Keep.toExt (((((Keep.refl h0 []).ext E171).trans K186 all0).trans K188 (allS (Or.inr (by have := y171; omega)) all0)).trans K193 all0)
              have zX0_4_227 := X0_4_227.1
              have F228 := Sta.ext X0_4_227 S0
              have F229 := ((StrA.keepExa S186 K188 F189 (by decide) (hw _ (List.mem_of_getElem? (i := 2) rfl))).ext (Keep.toExt K193))
              have F230 := Sta.ext X0_4_227 SC
              have F232 := Exa.ext (Keep.toExt K193) A188
              refine W193.1.callVP (y := (⟨"com/example/tracewright/tracewright/compiler/Token", "isWord", "(Ljava/lang/String;)Z"⟩ : MethodName)) (z := (⟨"com/example/tracewright/tracewright/compiler/Token", "isWord", "(Ljava/lang/String;)Z"⟩ : MethodName)) (hw _ (List.mem_of_getElem? (i := 59) rfl)) (hw _ (List.mem_of_getElem? (i := 60) rfl)) (hw _ (List.mem_of_getElem? (i := 62) rfl)) (hw _ (List.mem_of_getElem? (i := 62) rfl)) (hw _ (List.mem_of_getElem? (i := 61) rfl)) (by decide) (NM.bk (wd := 0) (rmI l Z a0 hw a171 a193 (kindF ks s0 s1 s2 s3 s4 s5 s6 s7 s8 s9 s10 s11 s12) a186 s0 (strF tl t0 t1) (strF wl t0 t1) zc h193 n0 W193.1.n0h F225 F226 F228 F229 S193 F230 hz) W193.1.2.2.2.1 (hw _ (List.mem_of_getElem? (i := 63) rfl)) (hw _ (List.mem_of_getElem? (i := 3) rfl)) (by decide) (by decide)) F232 (hb hby at_213) (pc' := 216) rfl hml (argsL := [(.ref a193)]) rfl (lenOf pd_896d4e2b rfl) rfl (Nat.le_of_ble_eq_true rfl) (by decide) (by decide) (fun _ _ _ q => pu_of q) ?_
              intro T231 L231 N231
              have W231 := W193.same N231
              show Go p e below _ T231 (mkF m 216 #[.val (.int p1), .val (.int p2), .val (.int p3), .val (.int p4), .val (.int p5), .val (.int ks), .val (.int tl), .val (.int wl), .val (.int (1 : Int32)), .val (.int (0 : Int32)), .val (.int t0), .val (.int t1), .val (.int t0), .val (.int t1), .val (.ref a171), .val (.ref a193), .val (.int (1 : Int32))] [(.int (iwF (kindF ks s0 s1 s2 s3 s4 s5 s6 s7 s8 s9 s10 s11 s12) s0 (strF tl t0 t1) (strF wl t0 t1)))])
              refine W231.1.iload (hb hby at_216) rfl (pc' := 218) rfl ?_
              refine W231.1.icmpNo (hb hby at_218) (XT.ii_ne_f (iw_yes (kind_w hc196) (by first | (rw [← hc197]; done) | (rw [← hc197]; exact str_yes (Or.inr rfl) (Or.inr rfl) (rng3 htl))))) (pc' := 221) rfl ?_
              refine W231.1.iconst (1 : Int32) (hb hby at_221) rfl (pc' := 222) rfl ?_
              refine W231.1.goto (hb hby at_222) (by decide) (pc' := 226) (by decide) ?_
              exact W231.retZ hEL hret (hb hby at_226) (by decide) (by decide) (by decide) ⟨rfl, trivial⟩
        · refine W193.1.icmpYes (hb hby at_173) (XT.ii_ne_t hc197) (by decide) (pc' := 206) (by decide) ?_
          refine W193.1.iconst (0 : Int32) (hb hby at_206) rfl (pc' := 207) rfl ?_
          refine W193.1.istore (Ls' := #[.val (.int p1), .val (.int p2), .val (.int p3), .val (.int p4), .val (.int p5), .val (.int ks), .val (.int tl), .val (.int wl), .val (.int (1 : Int32)), .val (.int (0 : Int32)), .val (.int t0), .val (.int t1), .val (.int t0), .val (.int t1), .val (.ref a171), .val (.ref a193), .val (.int (0 : Int32))]) (hb hby at_207) rfl (pc' := 209) rfl ?_
          refine W193.1.aload (hb hby at_209) rfl rfl (pc' := 211) rfl ?_
          refine W193.1.aload (hb hby at_211) rfl rfl (pc' := 213) rfl ?_
          have F233 := Fld.ext (Keep.toExt K193) B188
          have F234 := Fld.ext (Keep.toExt K193) C188
          have X0_4_235 : Ext h0 h193 := Keep.toExt (((((Keep.refl h0 []).ext E171).trans K186 all0).trans K188 (allS (Or.inr (by have := y171; omega)) all0)).trans K193 all0)
          have zX0_4_235 := X0_4_235.1
          have F236 := Sta.ext X0_4_235 S0
          have F237 := ((StrA.keepExa S186 K188 F189 (by decide) (hw _ (List.mem_of_getElem? (i := 2) rfl))).ext (Keep.toExt K193))
          have F238 := Sta.ext X0_4_235 SC
          have F240 := Exa.ext (Keep.toExt K193) A188
          refine W193.1.callVP (y := (⟨"com/example/tracewright/tracewright/compiler/Token", "isWord", "(Ljava/lang/String;)Z"⟩ : MethodName)) (z := (⟨"com/example/tracewright/tracewright/compiler/Token", "isWord", "(Ljava/lang/String;)Z"⟩ : MethodName)) (hw _ (List.mem_of_getElem? (i := 59) rfl)) (hw _ (List.mem_of_getElem? (i := 60) rfl)) (hw _ (List.mem_of_getElem? (i := 62) rfl)) (hw _ (List.mem_of_getElem? (i := 62) rfl)) (hw _ (List.mem_of_getElem? (i := 61) rfl)) (by decide) (NM.bk (wd := 0) (rmI l Z a0 hw a171 a193 (kindF ks s0 s1 s2 s3 s4 s5 s6 s7 s8 s9 s10 s11 s12) a186 s0 (strF tl t0 t1) (strF wl t0 t1) zc h193 n0 W193.1.n0h F233 F234 F236 F237 S193 F238 hz) W193.1.2.2.2.1 (hw _ (List.mem_of_getElem? (i := 63) rfl)) (hw _ (List.mem_of_getElem? (i := 3) rfl)) (by decide) (by decide)) F240 (hb hby at_213) (pc' := 216) rfl hml (argsL := [(.ref a193)]) rfl (lenOf pd_896d4e2b rfl) rfl (Nat.le_of_ble_eq_true rfl) (by decide) (by decide) (fun _ _ _ q => pu_of q) ?_
          intro T239 L239 N239
          have W239 := W193.same N239
          show Go p e below _ T239 (mkF m 216 #[.val (.int p1), .val (.int p2), .val (.int p3), .val (.int p4), .val (.int p5), .val (.int ks), .val (.int tl), .val (.int wl), .val (.int (1 : Int32)), .val (.int (0 : Int32)), .val (.int t0), .val (.int t1), .val (.int t0), .val (.int t1), .val (.ref a171), .val (.ref a193), .val (.int (0 : Int32))] [(.int (iwF (kindF ks s0 s1 s2 s3 s4 s5 s6 s7 s8 s9 s10 s11 s12) s0 (strF tl t0 t1) (strF wl t0 t1)))])
          refine W239.1.iload (hb hby at_216) rfl (pc' := 218) rfl ?_
          refine W239.1.icmpNo (hb hby at_218) (XT.ii_ne_f (iw_no (str_no1 hc197 (rng3 htl) (rng3 hwl)))) (pc' := 221) rfl ?_
          refine W239.1.iconst (1 : Int32) (hb hby at_221) rfl (pc' := 222) rfl ?_
          refine W239.1.goto (hb hby at_222) (by decide) (pc' := 226) (by decide) ?_
          exact W239.retZ hEL hret (hb hby at_226) (by decide) (by decide) (by decide) ⟨rfl, trivial⟩
      · refine W193.1.ifYes (hb hby at_161) (XT.i0_ne_t hc196) (by decide) (pc' := 206) (by decide) ?_
        refine W193.1.iconst (0 : Int32) (hb hby at_206) rfl (pc' := 207) rfl ?_
        refine W193.1.istore (Ls' := #[.val (.int p1), .val (.int p2), .val (.int p3), .val (.int p4), .val (.int p5), .val (.int ks), .val (.int tl), .val (.int wl), .val (.int (1 : Int32)), .val (.int (0 : Int32)), .val (.int t0), .val (.int t1), .val (.int t0), .val (.int t1), .val (.ref a171), .val (.ref a193), .val (.int (0 : Int32))]) (hb hby at_207) rfl (pc' := 209) rfl ?_
        refine W193.1.aload (hb hby at_209) rfl rfl (pc' := 211) rfl ?_
        refine W193.1.aload (hb hby at_211) rfl rfl (pc' := 213) rfl ?_
        have F241 := Fld.ext (Keep.toExt K193) B188
        have F242 := Fld.ext (Keep.toExt K193) C188
        have X0_4_243 : Ext h0 h193 := Keep.toExt (((((Keep.refl h0 []).ext E171).trans K186 all0).trans K188 (allS (Or.inr (by have := y171; omega)) all0)).trans K193 all0)
        have zX0_4_243 := X0_4_243.1
        have F244 := Sta.ext X0_4_243 S0
        have F245 := ((StrA.keepExa S186 K188 F189 (by decide) (hw _ (List.mem_of_getElem? (i := 2) rfl))).ext (Keep.toExt K193))
        have F246 := Sta.ext X0_4_243 SC
        have F248 := Exa.ext (Keep.toExt K193) A188
        refine W193.1.callVP (y := (⟨"com/example/tracewright/tracewright/compiler/Token", "isWord", "(Ljava/lang/String;)Z"⟩ : MethodName)) (z := (⟨"com/example/tracewright/tracewright/compiler/Token", "isWord", "(Ljava/lang/String;)Z"⟩ : MethodName)) (hw _ (List.mem_of_getElem? (i := 59) rfl)) (hw _ (List.mem_of_getElem? (i := 60) rfl)) (hw _ (List.mem_of_getElem? (i := 62) rfl)) (hw _ (List.mem_of_getElem? (i := 62) rfl)) (hw _ (List.mem_of_getElem? (i := 61) rfl)) (by decide) (NM.bk (wd := 0) (rmI l Z a0 hw a171 a193 (kindF ks s0 s1 s2 s3 s4 s5 s6 s7 s8 s9 s10 s11 s12) a186 s0 (strF tl t0 t1) (strF wl t0 t1) zc h193 n0 W193.1.n0h F241 F242 F244 F245 S193 F246 hz) W193.1.2.2.2.1 (hw _ (List.mem_of_getElem? (i := 63) rfl)) (hw _ (List.mem_of_getElem? (i := 3) rfl)) (by decide) (by decide)) F248 (hb hby at_213) (pc' := 216) rfl hml (argsL := [(.ref a193)]) rfl (lenOf pd_896d4e2b rfl) rfl (Nat.le_of_ble_eq_true rfl) (by decide) (by decide) (fun _ _ _ q => pu_of q) ?_
        intro T247 L247 N247
        have W247 := W193.same N247
        show Go p e below _ T247 (mkF m 216 #[.val (.int p1), .val (.int p2), .val (.int p3), .val (.int p4), .val (.int p5), .val (.int ks), .val (.int tl), .val (.int wl), .val (.int (1 : Int32)), .val (.int (0 : Int32)), .val (.int t0), .val (.int t1), .val (.int t0), .val (.int t1), .val (.ref a171), .val (.ref a193), .val (.int (0 : Int32))] [(.int (iwF (kindF ks s0 s1 s2 s3 s4 s5 s6 s7 s8 s9 s10 s11 s12) s0 (strF tl t0 t1) (strF wl t0 t1)))])
        refine W247.1.iload (hb hby at_216) rfl (pc' := 218) rfl ?_
        refine W247.1.icmpNo (hb hby at_218) (XT.ii_ne_f (iw_k (kind_no O0 O1 O2 O3 O4 O5 O6 O7 O8 O9 O10 O11 O12 (rng13 hks) hc196))) (pc' := 221) rfl ?_
        refine W247.1.iconst (1 : Int32) (hb hby at_221) rfl (pc' := 222) rfl ?_
        refine W247.1.goto (hb hby at_222) (by decide) (pc' := 226) (by decide) ?_
        exact W247.retZ hEL hret (hb hby at_226) (by decide) (by decide) (by decide) ⟨rfl, trivial⟩
theorem fld_eval {args : Array Value} {s : State} {t : Term} {C n d : String} : (Term.field t C n d).eval args s none [] s = (t.eval args s none [] s).bind fun v => match v with | .ref a => s.fieldOf? a C n d | _ => none := by
  simp only [Term.eval]
  cases t.eval args s none [] s with
  | none => rfl
  | some v => cases v <;> rfl
set_option maxRecDepth 65536 in
set_option maxHeartbeats 40000000 in
theorem comes_1 {Post : Tables → Env → Array Value → State → Outcome → State → Prop} (hpost : ∀ tb e args s v u, (limb_1_1.after args s (.returned v) u = true ∧ limb_1_2.after args s (.returned v) u = true) → ReturnedEndW s (.returned v) u (Jvm.fieldLocs frame_1_writes args s ++ Jvm.arrayLocs frame_1_arrays args s ++ Jvm.staticLocs frame_1_statics s) 24 1152 → Post tb e args s (.returned v) u) :
    ArmFor flags0 classFile x code maxLocals ret World_1 tables_1 room_1 Calls_1 rest_1 Pre_1 Post := by
  intro l hfl _ _ p e ha hc hk s m args below hf hA hF happ hP
  obtain ⟨hcalls, hrest, hpre⟩ := hP
  obtain ⟨-, -, -, hnamed, -, -, -, hat⟩ := (Spec.applies_iff hf).mp happ
  obtain ⟨hg, hn⟩ := and_e (Cond.before_iff.mp (show (Jvm.Cond.and given_1 narrow_1).before args s = true from hpre))
  obtain ⟨gA1, gB1⟩ := and_e hg
  obtain ⟨gA2, gB2⟩ := and_e gB1
  obtain ⟨gA3, gB3⟩ := and_e gB2
  obtain ⟨gA4, gB4⟩ := and_e gB3
  obtain ⟨gA5, gB5⟩ := and_e gB4
  obtain ⟨gA6, gB6⟩ := and_e hn
  obtain ⟨gA7, gB7⟩ := and_e gB6
  obtain ⟨gA8, gB8⟩ := and_e gB7
  obtain ⟨gA9, gB9⟩ := and_e gB8
  obtain ⟨gA10, gB10⟩ := and_e gB9
  obtain ⟨gA11, gB11⟩ := and_e gB10
  obtain ⟨gA12, gB12⟩ := and_e gB11
  obtain ⟨gA13, gB13⟩ := and_e gB12
  obtain ⟨gA14, gB14⟩ := and_e gB13
  obtain ⟨gA15, gB15⟩ := and_e gB14
  obtain ⟨gA16, gB16⟩ := and_e gB15
  obtain ⟨gA17, gB17⟩ := and_e gB16
  obtain ⟨gA18, gB18⟩ := and_e gB17
  obtain ⟨gA19, gB19⟩ := and_e gB18
  obtain ⟨gA20, gB20⟩ := and_e gB19
  obtain ⟨gA21, gB21⟩ := and_e gB20
  obtain ⟨gA22, gB22⟩ := and_e gB21
  obtain ⟨gA23, gB23⟩ := and_e gB22
  obtain ⟨gA24, gB24⟩ := and_e gB23
  obtain ⟨gA25, gB25⟩ := and_e gB24
  obtain ⟨gA26, gB26⟩ := and_e gB25
  obtain ⟨gA27, gB27⟩ := and_e gB26
  obtain ⟨gA28, gB28⟩ := and_e gB27
  obtain ⟨gA29, gB29⟩ := and_e gB28
  obtain ⟨gA30, gB30⟩ := and_e gB29
  obtain ⟨w0, w1, w2, w3, w4, rfl⟩ : ∃ w0 w1 w2 w3 w4 : Value, args = #[w0, w1, w2, w3, w4] := by
    have hs : args.size = 5 := by simpa [Cond.value, given_1] using gA1
    obtain ⟨L⟩ := args
    match L, hs with
    | [w0, w1, w2, w3, w4], _ => exact ⟨w0, w1, w2, w3, w4, rfl⟩
  have hw := fun d (hd : d ∈ tables_1) => atoms_spec (ws := Jvm.Cond.code x code maxLocals ret :: tables_1) hat d (List.mem_cons_of_mem _ hd)
  have hfit : Fit s := fun {y c} hc i hi => by
    obtain ⟨ha, rfl⟩ := Array.getElem?_eq_some_iff.mp hc
    have q := List.all_eq_true.mp ((Array.all_eq_true_iff_forall_mem.mp hF) _ (Array.getElem_mem ha)) i (List.mem_range.mpr hi)
    simpa [Array.getElem?_eq_getElem hi] using q
  obtain ⟨hsets, hown0⟩ := atoms_of _ (rest_1_c_eq ▸ (show rest_1_c.before _ s = true from hrest))
  have hr0 := Cond.before_iff.mp hown0
  obtain ⟨i0, ei0⟩ := is_v gA2
  obtain rfl : w0 = (.int i0) := Option.some.inj ei0
  obtain ⟨i1, ei1⟩ := is_v gA3
  obtain rfl : w1 = (.int i1) := Option.some.inj ei1
  obtain ⟨i2, ei2⟩ := is_v gA4
  obtain rfl : w2 = (.int i2) := Option.some.inj ei2
  obtain ⟨i3, ei3⟩ := is_v gA5
  obtain rfl : w3 = (.int i3) := Option.some.inj ei3
  obtain ⟨i4, ei4⟩ := is_v gB5
  obtain rfl : w4 = (.int i4) := Option.some.inj ei4
  obtain ⟨s0, -, -, -, ev0, -⟩ := Cond.exactly_spec (Cond.before_iff.mpr gA6)
  have S0 : Sta s s.heap "com/example/tracewright/tracewright/compiler/Token$Kind" "WORD" "Lcom/example/tracewright/tracewright/compiler/Token$Kind;" (.ref s0) := Sta.start ev0 (Or.inr ⟨(hw _ (List.mem_of_getElem? (i := 9) rfl)), (hw _ (List.mem_of_getElem? (i := 10) rfl))⟩)
  have O0 : Fld s s.heap s0 "java/lang/Enum" "ordinal" "I" (.int (0 : Int32)) := Fld.start (by have q := eqv_i (Term.int_eval _) gA9; rw [fld_eval, ev0] at q; exact q)
  obtain ⟨s1, -, -, -, ev1, -⟩ := Cond.exactly_spec (Cond.before_iff.mpr gA12)
  have S1 : Sta s s.heap "com/example/tracewright/tracewright/compiler/Token$Kind" "NUMBER" "Lcom/example/tracewright/tracewright/compiler/Token$Kind;" (.ref s1) := Sta.start ev1 (Or.inr ⟨(hw _ (List.mem_of_getElem? (i := 9) rfl)), (hw _ (List.mem_of_getElem? (i := 78) rfl))⟩)
  have O1 : Fld s s.heap s1 "java/lang/Enum" "ordinal" "I" (.int (1 : Int32)) := Fld.start (by have q := eqv_i (Term.int_eval _) gA13; rw [fld_eval, ev1] at q; exact q)
  obtain ⟨s2, -, -, -, ev2, -⟩ := Cond.exactly_spec (Cond.before_iff.mpr gA14)
  have S2 : Sta s s.heap "com/example/tracewright/tracewright/compiler/Token$Kind" "STRING" "Lcom/example/tracewright/tracewright/compiler/Token$Kind;" (.ref s2) := Sta.start ev2 (Or.inr ⟨(hw _ (List.mem_of_getElem? (i := 9) rfl)), (hw _ (List.mem_of_getElem? (i := 80) rfl))⟩)
  have O2 : Fld s s.heap s2 "java/lang/Enum" "ordinal" "I" (.int (2 : Int32)) := Fld.start (by have q := eqv_i (Term.int_eval _) gA15; rw [fld_eval, ev2] at q; exact q)
  obtain ⟨s3, -, -, -, ev3, -⟩ := Cond.exactly_spec (Cond.before_iff.mpr gA7)
  have S3 : Sta s s.heap "com/example/tracewright/tracewright/compiler/Token$Kind" "COMMAND_LABEL" "Lcom/example/tracewright/tracewright/compiler/Token$Kind;" (.ref s3) := Sta.start ev3 (Or.inr ⟨(hw _ (List.mem_of_getElem? (i := 9) rfl)), (hw _ (List.mem_of_getElem? (i := 71) rfl))⟩)
  have O3 : Fld s s.heap s3 "java/lang/Enum" "ordinal" "I" (.int (3 : Int32)) := Fld.start (by have q := eqv_i (Term.int_eval _) gA8; rw [fld_eval, ev3] at q; exact q)
  obtain ⟨s4, -, -, -, ev4, -⟩ := Cond.exactly_spec (Cond.before_iff.mpr gA24)
  have S4 : Sta s s.heap "com/example/tracewright/tracewright/compiler/Token$Kind" "LABEL" "Lcom/example/tracewright/tracewright/compiler/Token$Kind;" (.ref s4) := Sta.start ev4 (Or.inr ⟨(hw _ (List.mem_of_getElem? (i := 9) rfl)), (hw _ (List.mem_of_getElem? (i := 90) rfl))⟩)
  have O4 : Fld s s.heap s4 "java/lang/Enum" "ordinal" "I" (.int (4 : Int32)) := Fld.start (by have q := eqv_i (Term.int_eval _) gA25; rw [fld_eval, ev4] at q; exact q)
  obtain ⟨s5, -, -, -, ev5, -⟩ := Cond.exactly_spec (Cond.before_iff.mpr gA26)
  have S5 : Sta s s.heap "com/example/tracewright/tracewright/compiler/Token$Kind" "LEFT_PAREN" "Lcom/example/tracewright/tracewright/compiler/Token$Kind;" (.ref s5) := Sta.start ev5 (Or.inr ⟨(hw _ (List.mem_of_getElem? (i := 9) rfl)), (hw _ (List.mem_of_getElem? (i := 92) rfl))⟩)
  have O5 : Fld s s.heap s5 "java/lang/Enum" "ordinal" "I" (.int (5 : Int32)) := Fld.start (by have q := eqv_i (Term.int_eval _) gA27; rw [fld_eval, ev5] at q; exact q)
  obtain ⟨s6, -, -, -, ev6, -⟩ := Cond.exactly_spec (Cond.before_iff.mpr gA22)
  have S6 : Sta s s.heap "com/example/tracewright/tracewright/compiler/Token$Kind" "RIGHT_PAREN" "Lcom/example/tracewright/tracewright/compiler/Token$Kind;" (.ref s6) := Sta.start ev6 (Or.inr ⟨(hw _ (List.mem_of_getElem? (i := 9) rfl)), (hw _ (List.mem_of_getElem? (i := 88) rfl))⟩)
  have O6 : Fld s s.heap s6 "java/lang/Enum" "ordinal" "I" (.int (6 : Int32)) := Fld.start (by have q := eqv_i (Term.int_eval _) gA23; rw [fld_eval, ev6] at q; exact q)
  obtain ⟨s7, -, -, -, ev7, -⟩ := Cond.exactly_spec (Cond.before_iff.mpr gA16)
  have S7 : Sta s s.heap "com/example/tracewright/tracewright/compiler/Token$Kind" "COMMA" "Lcom/example/tracewright/tracewright/compiler/Token$Kind;" (.ref s7) := Sta.start ev7 (Or.inr ⟨(hw _ (List.mem_of_getElem? (i := 9) rfl)), (hw _ (List.mem_of_getElem? (i := 82) rfl))⟩)
  have O7 : Fld s s.heap s7 "java/lang/Enum" "ordinal" "I" (.int (7 : Int32)) := Fld.start (by have q := eqv_i (Term.int_eval _) gA17; rw [fld_eval, ev7] at q; exact q)
  obtain ⟨s8, -, -, -, ev8, -⟩ := Cond.exactly_spec (Cond.before_iff.mpr gA30)
  have S8 : Sta s s.heap "com/example/tracewright/tracewright/compiler/Token$Kind" "COLON" "Lcom/example/tracewright/tracewright/compiler/Token$Kind;" (.ref s8) := Sta.start ev8 (Or.inr ⟨(hw _ (List.mem_of_getElem? (i := 9) rfl)), (hw _ (List.mem_of_getElem? (i := 101) rfl))⟩)
  have O8 : Fld s s.heap s8 "java/lang/Enum" "ordinal" "I" (.int (8 : Int32)) := Fld.start (by have q := eqv_i (Term.int_eval _) gB30; rw [fld_eval, ev8] at q; exact q)
  obtain ⟨s9, -, -, -, ev9, -⟩ := Cond.exactly_spec (Cond.before_iff.mpr gA10)
  have S9 : Sta s s.heap "com/example/tracewright/tracewright/compiler/Token$Kind" "SEMICOLON" "Lcom/example/tracewright/tracewright/compiler/Token$Kind;" (.ref s9) := Sta.start ev9 (Or.inr ⟨(hw _ (List.mem_of_getElem? (i := 9) rfl)), (hw _ (List.mem_of_getElem? (i := 76) rfl))⟩)
  have O9 : Fld s s.heap s9 "java/lang/Enum" "ordinal" "I" (.int (9 : Int32)) := Fld.start (by have q := eqv_i (Term.int_eval _) gA11; rw [fld_eval, ev9] at q; exact q)
  obtain ⟨s10, -, -, -, ev10, -⟩ := Cond.exactly_spec (Cond.before_iff.mpr gA18)
  have S10 : Sta s s.heap "com/example/tracewright/tracewright/compiler/Token$Kind" "EQUALS" "Lcom/example/tracewright/tracewright/compiler/Token$Kind;" (.ref s10) := Sta.start ev10 (Or.inr ⟨(hw _ (List.mem_of_getElem? (i := 9) rfl)), (hw _ (List.mem_of_getElem? (i := 84) rfl))⟩)
  have O10 : Fld s s.heap s10 "java/lang/Enum" "ordinal" "I" (.int (10 : Int32)) := Fld.start (by have q := eqv_i (Term.int_eval _) gA19; rw [fld_eval, ev10] at q; exact q)
  obtain ⟨s11, -, -, -, ev11, -⟩ := Cond.exactly_spec (Cond.before_iff.mpr gA20)
  have S11 : Sta s s.heap "com/example/tracewright/tracewright/compiler/Token$Kind" "ASTERISK" "Lcom/example/tracewright/tracewright/compiler/Token$Kind;" (.ref s11) := Sta.start ev11 (Or.inr ⟨(hw _ (List.mem_of_getElem? (i := 9) rfl)), (hw _ (List.mem_of_getElem? (i := 86) rfl))⟩)
  have O11 : Fld s s.heap s11 "java/lang/Enum" "ordinal" "I" (.int (11 : Int32)) := Fld.start (by have q := eqv_i (Term.int_eval _) gA21; rw [fld_eval, ev11] at q; exact q)
  obtain ⟨s12, -, -, -, ev12, -⟩ := Cond.exactly_spec (Cond.before_iff.mpr gA28)
  have S12 : Sta s s.heap "com/example/tracewright/tracewright/compiler/Token$Kind" "END_OF_SOURCE" "Lcom/example/tracewright/tracewright/compiler/Token$Kind;" (.ref s12) := Sta.start ev12 (Or.inr ⟨(hw _ (List.mem_of_getElem? (i := 9) rfl)), (hw _ (List.mem_of_getElem? (i := 94) rfl))⟩)
  have O12 : Fld s s.heap s12 "java/lang/Enum" "ordinal" "I" (.int (12 : Int32)) := Fld.start (by have q := eqv_i (Term.int_eval _) gA29; rw [fld_eval, ev12] at q; exact q)
  have n5 := not_v (Cond.before_iff.mp (hsets _ (List.mem_of_getElem? (i := 2) rfl)))
  obtain ⟨zc, ezc⟩ := is_v (Cond.before_iff.mp (hsets _ (List.mem_of_getElem? (i := 1) rfl)))
  have SC : Sta s s.heap "java/lang/String" "COMPACT_STRINGS" "Z" (.int zc) := Sta.start ezc (Or.inl (hsets _ (List.mem_of_getElem? (i := 0) rfl)))
  have hz : ¬ (zc = (0 : Int32)) := gotF (Cond.eq_ints ezc (Term.int_eval (0))) n5
  have hELs : EW s _ consts_1 := (EW.cons (hw _ (List.mem_of_getElem? (i := 72) rfl)) (by decide) EW.nil)
  have hCH : CHv s consts_1 s.vm s.heap := CHv.start hELs (fun q hq => constHeld_of (hcalls.1 q hq)) (hsets _ (List.mem_of_getElem? (i := 2) rfl)) (hw _ (List.mem_of_getElem? (i := 33) rfl)) (hw _ (List.mem_of_getElem? (i := 15) rfl))
  obtain ⟨n, o, h1, h2, h3, _, L, rfl, ⟨⟨rfl, -⟩, -, N⟩, -, hq⟩ := rmLaw l s _ hw hELs i0 i1 i2 i3 i4 zc s0 s1 s2 s3 s4 s5 s6 s7 s8 s9 s10 s11 s12 s.heap s.heap.size (Nat.le_refl _) S0 S1 S2 S3 S4 S5 S6 S7 S8 S9 S10 S11 S12 O0 O1 O2 O3 O4 O5 O6 O7 O8 O9 O10 O11 O12 SC hz p e ha hc hk s m _ below hf ((Spec.applies_iff_loose hf).mp happ).1 ⟨rfl, State.Warmed39.refl s, rfl, hCH⟩ trivial
  exact ⟨n, _, h1, h2, h3, hpost _ _ _ _ _ _ ⟨Cond.after_iff.mpr rfl, Cond.after_iff.mpr (eq_i res_at (Term.int_eval (1)) rfl)⟩ ⟨hq.1, hq.2.1, hq.2.2.1, (hq.2.2.2.sift fun y hy => Or.inr (N y hy)).mono (by decide) (by decide)⟩⟩
theorem main_1_1 : Claimed_1_1 := comes_1 fun _ _ _ _ _ _ h hF => ⟨h.1, hF⟩
theorem main_1_2 : Claimed_1_2 := comes_1 fun _ _ _ _ _ _ h hF => ⟨h.2, hF⟩
end Jvm.Pilot.@@N@@
namespace Jvm.Pilot.@@N@@
open Jvm Jvm.ClassFile Sem Op Lib Jvm.Free Jvm.Stand Jvm.Pilot.@@N@@.Jvm.D
/-! MADE BY PROGRAM (witnessworld.py) out of the Statement's table words and the real class files: 23 classes; the members and pool entries that the words name. The judged class is class 1, her method 3. -/
namespace start1
open Jvm.ClassFile
def u (s : String) : CpInfo := .utf8 (stringToUtf16 s)
/-- a pool by its gaps: so many unusable entries, then the entry; so many at the end -/
def gap : Nat → List CpInfo → List CpInfo
  | 0, r => r
  | n + 1, r => .unusable :: gap n r
def poolList (es : List (Nat × CpInfo)) (last : Nat) : List CpInfo := es.foldr (fun e r => gap e.1 (e.2 :: r)) (gap last [])
def pool (es : List (Nat × CpInfo)) (last : Nat) : Array CpInfo := ⟨poolList es last⟩
def fileOf (pool : Array CpInfo) (this : Nat) (attrs : Array Attribute := #[]) (ms : Array MethodInfo := #[]) (fl : Nat := 33) (sup : Nat := 0) (ifs : Array Nat := #[]) (fds : Array FieldInfo := #[]) : ClassFile where
  minorVersion := 0
  majorVersion := 65
  constantPool := pool
  accessFlags := fl
  thisClass := this
  superClass := sup
  interfaces := ifs
  fields := fds
  methods := ms
  attributes := attrs
def plain (name : String) (sup : Option ClassId) : Class where
  name := name
  kind := .ordinary
  loader := none
  accessFlags := 33
  super := sup
  interfaces := #[]
  cf := none
  fields := #[]
  methods := #[]
  instanceTypes := #[]
  staticTypes := #[]
  resolved := #[]
  callSites := []
  init := .initialized
  statics := none
  mirror := none

def pool0 : Array CpInfo := pool [(5, u "<init>"), (0, u "()V"), (1, .class_ 10), (1, u "java/lang/Object")] 113

def k0c0 : Code := { maxStack := 0, maxLocals := 1, code := object_method_1_code, exceptionTable := #[], attributes := #[] }
def k0m0 : Method := { name := "<init>", desc := "()V", sig := { parameters := [], returnType := none }, accessFlags := 1, code := some k0c0 }
/-- java/lang/Object -/
def k0 : Class := { plain "java/lang/Object" none with
  accessFlags := 33
  interfaces := #[]
  cf := some (fileOf pool0 8 #[] #[{ accessFlags := 1, nameIndex := 5, descriptorIndex := 6, attributes := #[] }] 33 0 #[] #[])
  fields := #[]
  methods := #[k0m0]
  instanceTypes := #[]
  staticTypes := #[]
  resolved := Array.replicate 124 none
  statics := none }

def pool1 : Array CpInfo := pool [(2, .class_ 4), (1, u "java/lang/Object"), (0, u "<init>"), (0, u "()V"), (0, .fieldref 8 9), (0, .class_ 10), (0, .nameAndType 11 12), (0, u "com/example/tracewright/tracewright/compiler/Token$Kind"), (0, u "WORD"), (0, u "Lcom/example/tracewright/tracewright/compiler/Token$Kind;"), (0, .fieldref 8 14), (0, .nameAndType 15 12), (0, u "NUMBER"), (0, .fieldref 8 17), (0, .nameAndType 18 12), (0, u "STRING"), (0, .fieldref 8 20), (0, .nameAndType 21 12), (0, u "COMMAND_LABEL"), (0, .fieldref 8 23), (0, .nameAndType 24 12), (0, u "LABEL"), (0, .fieldref 8 26), (0, .nameAndType 27 12), (0, u "LEFT_PAREN"), (0, .fieldref 8 29), (0, .nameAndType 30 12), (0, u "RIGHT_PAREN"), (0, .fieldref 8 32), (0, .nameAndType 33 12), (0, u "COMMA"), (0, .fieldref 8 35), (0, .nameAndType 36 12), (0, u "COLON"), (0, .fieldref 8 38), (0, .nameAndType 39 12), (0, u "SEMICOLON"), (0, .fieldref 8 41), (0, .nameAndType 42 12), (0, u "EQUALS"), (0, .fieldref 8 44), (0, .nameAndType 45 12), (0, u "ASTERISK"), (0, .fieldref 8 47), (0, .nameAndType 48 12), (0, u "END_OF_SOURCE"), (0, .class_ 50), (0, u "java/lang/String"), (0, .methodref 49 52), (0, .nameAndType 5 53), (0, u "([C)V"), (0, .integer 2147483647), (0, .class_ 56), (0, u "com/example/tracewright/tracewright/compiler/Token"), (0, .methodref 58 59), (0, .class_ 60), (0, .nameAndType 61 62), (0, u "com/example/tracewright/tracewright/compiler/TokenIsWordPinLaw"), (0, u "kindOf"), (0, u "(I)Lcom/example/tracewright/tracewright/compiler/Token$Kind;"), (0, .methodref 58 64), (0, .nameAndType 65 66), (0, u "str"), (0, u "(ICC)Ljava/lang/String;"), (0, .methodref 55 68), (0, .nameAndType 5 69), (0, u "(Lcom/example/tracewright/tracewright/compiler/Token$Kind;Ljava/lang/String;I)V"), (0, .methodref 55 71), (0, .nameAndType 72 73), (0, u "isWord"), (0, u "(Ljava/lang/String;)Z"), (3, u "law"), (0, u "(IIIII)Z")] 4

def k1m0 : Method := { name := "<init>", desc := "()V", sig := { parameters := [], returnType := none }, accessFlags := 1, code := none }
def k1c1 : Code := { maxStack := 2, maxLocals := 1, code := method_2_code, exceptionTable := #[], attributes := #[] }
def k1m1 : Method := { name := "kindOf", desc := "(I)Lcom/example/tracewright/tracewright/compiler/Token$Kind;", sig := { parameters := [.int], returnType := some (.object "com/example/tracewright/tracewright/compiler/Token$Kind") }, accessFlags := 10, code := some k1c1 }
def k1c2 : Code := { maxStack := 6, maxLocals := 3, code := method_3_code, exceptionTable := #[], attributes := #[] }
def k1m2 : Method := { name := "str", desc := "(ICC)Ljava/lang/String;", sig := { parameters := [.int, .char, .char], returnType := some (.object "java/lang/String") }, accessFlags := 10, code := some k1c2 }
def k1c3 : Code := { maxStack := 6, maxLocals := 17, code := code, exceptionTable := #[], attributes := #[] }
def k1m3 : Method := { name := "law", desc := "(IIIII)Z", sig := { parameters := [.int, .int, .int, .int, .int], returnType := some .boolean }, accessFlags := 9, code := some k1c3 }
/-- com/example/tracewright/tracewright/compiler/TokenIsWordPinLaw -/
def k1 : Class := { plain "com/example/tracewright/tracewright/compiler/TokenIsWordPinLaw" (some 0) with
  accessFlags := 49
  interfaces := #[]
  cf := some (fileOf pool1 58 #[] #[{ accessFlags := 1, nameIndex := 5, descriptorIndex := 6, attributes := #[] }, { accessFlags := 10, nameIndex := 61, descriptorIndex := 62, attributes := #[] }, { accessFlags := 10, nameIndex := 65, descriptorIndex := 66, attributes := #[] }, { accessFlags := 9, nameIndex := 77, descriptorIndex := 78, attributes := #[] }] 49 2 #[] #[])
  fields := #[]
  methods := #[k1m0, k1m1, k1m2, k1m3]
  instanceTypes := #[]
  staticTypes := #[]
  resolved := Array.replicate 83 none
  statics := none }

def pool2 : Array CpInfo := pool [(1, .methodref 2 3), (0, .class_ 4), (0, .nameAndType 5 6), (0, u "java/lang/Object"), (0, u "<init>"), (0, u "()V"), (0, .class_ 8), (0, u "java/lang/Record")] 13

def k2c0 : Code := { maxStack := 1, maxLocals := 1, code := jdk_30_method_1_code, exceptionTable := #[], attributes := #[] }
def k2m0 : Method := { name := "<init>", desc := "()V", sig := { parameters := [], returnType := none }, accessFlags := 4, code := some k2c0 }
/-- java/lang/Record -/
def k2 : Class := { plain "java/lang/Record" (some 0) with
  accessFlags := 1057
  interfaces := #[]
  cf := some (fileOf pool2 7 #[] #[{ accessFlags := 4, nameIndex := 5, descriptorIndex := 6, attributes := #[] }] 1057 2 #[] #[])
  fields := #[]
  methods := #[k2m0]
  instanceTypes := #[]
  staticTypes := #[]
  resolved := Array.replicate 22 none
  statics := none }

def pool3 : Array CpInfo := pool [(1, .methodref 2 3), (0, .class_ 4), (0, .nameAndType 5 6), (0, u "java/lang/Record"), (0, u "<init>"), (0, u "()V"), (0, .fieldref 8 9), (0, .class_ 10), (0, .nameAndType 11 12), (0, u "com/example/tracewright/tracewright/compiler/Token"), (0, u "kind"), (0, u "Lcom/example/tracewright/tracewright/compiler/Token$Kind;"), (0, .fieldref 8 14), (0, .nameAndType 15 16), (0, u "text"), (0, u "Ljava/lang/String;"), (0, .fieldref 8 18), (0, .nameAndType 19 20), (0, u "line"), (0, u "I"), (0, .fieldref 22 23), (0, .class_ 24), (0, .nameAndType 25 12), (0, u "com/example/tracewright/tracewright/compiler/Token$Kind"), (0, u "WORD"), (0, .methodref 27 28), (0, .class_ 29), (0, .nameAndType 30 31), (0, u "java/lang/String"), (0, u "equals"), (0, u "(Ljava/lang/Object;)Z"), (24, u "(Lcom/example/tracewright/tracewright/compiler/Token$Kind;Ljava/lang/String;I)V"), (6, u "isWord"), (0, u "(Ljava/lang/String;)Z")] 39

def k3c0 : Code := { maxStack := 2, maxLocals := 4, code := prog_8_method_1_code, exceptionTable := #[], attributes := #[] }
def k3m0 : Method := { name := "<init>", desc := "(Lcom/example/tracewright/tracewright/compiler/Token$Kind;Ljava/lang/String;I)V", sig := { parameters := [(.object "com/example/tracewright/tracewright/compiler/Token$Kind"), (.object "java/lang/String"), .int], returnType := none }, accessFlags := 0, code := some k3c0 }
def k3c1 : Code := { maxStack := 2, maxLocals := 2, code := prog_8_method_3_code, exceptionTable := #[], attributes := #[] }
def k3m1 : Method := { name := "isWord", desc := "(Ljava/lang/String;)Z", sig := { parameters := [(.object "java/lang/String")], returnType := some .boolean }, accessFlags := 0, code := some k3c1 }
/-- com/example/tracewright/tracewright/compiler/Token -/
def k3 : Class := { plain "com/example/tracewright/tracewright/compiler/Token" (some 2) with
  accessFlags := 48
  interfaces := #[]
  cf := some (fileOf pool3 8 #[.nestMembers #[22]] #[{ accessFlags := 0, nameIndex := 5, descriptorIndex := 56, attributes := #[] }, { accessFlags := 0, nameIndex := 63, descriptorIndex := 64, attributes := #[] }] 48 2 #[] #[{ accessFlags := 18, nameIndex := 11, descriptorIndex := 12, attributes := #[] }, { accessFlags := 18, nameIndex := 15, descriptorIndex := 16, attributes := #[] }, { accessFlags := 18, nameIndex := 19, descriptorIndex := 20, attributes := #[] }])
  fields := #[{ name := "kind", type := (.object "com/example/tracewright/tracewright/compiler/Token$Kind"), accessFlags := 18, slot := 0, constantValue := 0 }, { name := "text", type := (.object "java/lang/String"), accessFlags := 18, slot := 1, constantValue := 0 }, { name := "line", type := .int, accessFlags := 18, slot := 2, constantValue := 0 }]
  methods := #[k3m0, k3m1]
  instanceTypes := #[(.object "com/example/tracewright/tracewright/compiler/Token$Kind"), (.object "java/lang/String"), .int]
  staticTypes := #[]
  resolved := Array.replicate 104 none
  statics := none }

def pool4 : Array CpInfo := pool [(1, .class_ 2), (0, u "java/lang/constant/Constable"), (0, .class_ 4), (0, u "java/lang/Object")] 6

/-- java/lang/constant/Constable -/
def k4 : Class := { plain "java/lang/constant/Constable" (some 0) with
  accessFlags := 1537
  interfaces := #[]
  cf := some (fileOf pool4 1 #[] #[] 1537 3 #[] #[])
  fields := #[]
  methods := #[]
  instanceTypes := #[]
  staticTypes := #[]
  resolved := Array.replicate 11 none
  statics := none }

def pool5 : Array CpInfo := pool [(1, .class_ 2), (0, u "java/lang/Comparable"), (0, .class_ 4), (0, u "java/lang/Object")] 7

/-- java/lang/Comparable -/
def k5 : Class := { plain "java/lang/Comparable" (some 0) with
  accessFlags := 1537
  interfaces := #[]
  cf := some (fileOf pool5 1 #[] #[] 1537 3 #[] #[])
  fields := #[]
  methods := #[]
  instanceTypes := #[]
  staticTypes := #[]
  resolved := Array.replicate 12 none
  statics := none }

def pool6 : Array CpInfo := pool [(1, .class_ 2), (0, u "java/io/Serializable"), (0, .class_ 4), (0, u "java/lang/Object")] 2

/-- java/io/Serializable -/
def k6 : Class := { plain "java/io/Serializable" (some 0) with
  accessFlags := 1537
  interfaces := #[]
  cf := some (fileOf pool6 1 #[] #[] 1537 3 #[] #[])
  fields := #[]
  methods := #[]
  instanceTypes := #[]
  staticTypes := #[]
  resolved := Array.replicate 7 none
  statics := none }

def pool7 : Array CpInfo := pool [(2, .class_ 4), (1, u "java/lang/Enum"), (0, u "name"), (0, u "Ljava/lang/String;"), (2, u "ordinal"), (0, u "I"), (1, .class_ 14), (1, u "java/lang/Object"), (4, u "hash"), (86, .class_ 108), (1, u "java/lang/Enum$EnumDesc"), (2, .class_ 112), (0, u "java/lang/constant/Constable"), (0, .class_ 114), (0, u "java/lang/Comparable"), (0, .class_ 116), (0, u "java/io/Serializable")] 87

/-- java/lang/Enum -/
def k7 : Class := { plain "java/lang/Enum" (some 0) with
  accessFlags := 1057
  interfaces := #[4, 5, 6]
  cf := some (fileOf pool7 2 #[.nestMembers #[106]] #[] 1057 12 #[111, 113, 115] #[{ accessFlags := 18, nameIndex := 5, descriptorIndex := 6, attributes := #[] }, { accessFlags := 18, nameIndex := 9, descriptorIndex := 10, attributes := #[] }, { accessFlags := 2, nameIndex := 19, descriptorIndex := 10, attributes := #[] }])
  fields := #[{ name := "name", type := (.object "java/lang/String"), accessFlags := 18, slot := 0, constantValue := 0 }, { name := "ordinal", type := .int, accessFlags := 18, slot := 1, constantValue := 0 }, { name := "hash", type := .int, accessFlags := 2, slot := 2, constantValue := 0 }]
  methods := #[]
  instanceTypes := #[(.object "java/lang/String"), .int, .int]
  staticTypes := #[]
  resolved := Array.replicate 204 none
  statics := none }

def pool8 : Array CpInfo := pool [(1, .class_ 2), (0, u "com/example/tracewright/tracewright/compiler/Token$Kind"), (2, u "WORD"), (0, u "Lcom/example/tracewright/tracewright/compiler/Token$Kind;"), (2, u "NUMBER"), (2, u "STRING"), (2, u "COMMAND_LABEL"), (2, u "LABEL"), (2, u "LEFT_PAREN"), (2, u "RIGHT_PAREN"), (2, u "COMMA"), (2, u "COLON"), (2, u "SEMICOLON"), (2, u "EQUALS"), (2, u "ASTERISK"), (2, u "END_OF_SOURCE"), (2, u "$VALUES"), (0, u "[Lcom/example/tracewright/tracewright/compiler/Token$Kind;"), (6, .class_ 55), (1, u "java/lang/Enum"), (8, u "description"), (0, u "Ljava/lang/String;"), (59, .class_ 126), (0, u "com/example/tracewright/tracewright/compiler/Token")] 2

/-- com/example/tracewright/tracewright/compiler/Token$Kind -/
def k8 : Class := { plain "com/example/tracewright/tracewright/compiler/Token$Kind" (some 7) with
  accessFlags := 16432
  interfaces := #[]
  cf := some (fileOf pool8 1 #[.nestHost 125] #[] 16432 53 #[] #[{ accessFlags := 16409, nameIndex := 5, descriptorIndex := 6, attributes := #[] }, { accessFlags := 16409, nameIndex := 9, descriptorIndex := 6, attributes := #[] }, { accessFlags := 16409, nameIndex := 12, descriptorIndex := 6, attributes := #[] }, { accessFlags := 16409, nameIndex := 15, descriptorIndex := 6, attributes := #[] }, { accessFlags := 16409, nameIndex := 18, descriptorIndex := 6, attributes := #[] }, { accessFlags := 16409, nameIndex := 21, descriptorIndex := 6, attributes := #[] }, { accessFlags := 16409, nameIndex := 24, descriptorIndex := 6, attributes := #[] }, { accessFlags := 16409, nameIndex := 27, descriptorIndex := 6, attributes := #[] }, { accessFlags := 16409, nameIndex := 30, descriptorIndex := 6, attributes := #[] }, { accessFlags := 16409, nameIndex := 33, descriptorIndex := 6, attributes := #[] }, { accessFlags := 16409, nameIndex := 36, descriptorIndex := 6, attributes := #[] }, { accessFlags := 16409, nameIndex := 39, descriptorIndex := 6, attributes := #[] }, { accessFlags := 16409, nameIndex := 42, descriptorIndex := 6, attributes := #[] }, { accessFlags := 16, nameIndex := 64, descriptorIndex := 65, attributes := #[] }, { accessFlags := 4122, nameIndex := 45, descriptorIndex := 46, attributes := #[] }])
  fields := #[{ name := "WORD", type := (.object "com/example/tracewright/tracewright/compiler/Token$Kind"), accessFlags := 16409, slot := 0, constantValue := 0 }, { name := "NUMBER", type := (.object "com/example/tracewright/tracewright/compiler/Token$Kind"), accessFlags := 16409, slot := 1, constantValue := 0 }, { name := "STRING", type := (.object "com/example/tracewright/tracewright/compiler/Token$Kind"), accessFlags := 16409, slot := 2, constantValue := 0 }, { name := "COMMAND_LABEL", type := (.object "com/example/tracewright/tracewright/compiler/Token$Kind"), accessFlags := 16409, slot := 3, constantValue := 0 }, { name := "LABEL", type := (.object "com/example/tracewright/tracewright/compiler/Token$Kind"), accessFlags := 16409, slot := 4, constantValue := 0 }, { name := "LEFT_PAREN", type := (.object "com/example/tracewright/tracewright/compiler/Token$Kind"), accessFlags := 16409, slot := 5, constantValue := 0 }, { name := "RIGHT_PAREN", type := (.object "com/example/tracewright/tracewright/compiler/Token$Kind"), accessFlags := 16409, slot := 6, constantValue := 0 }, { name := "COMMA", type := (.object "com/example/tracewright/tracewright/compiler/Token$Kind"), accessFlags := 16409, slot := 7, constantValue := 0 }, { name := "COLON", type := (.object "com/example/tracewright/tracewright/compiler/Token$Kind"), accessFlags := 16409, slot := 8, constantValue := 0 }, { name := "SEMICOLON", type := (.object "com/example/tracewright/tracewright/compiler/Token$Kind"), accessFlags := 16409, slot := 9, constantValue := 0 }, { name := "EQUALS", type := (.object "com/example/tracewright/tracewright/compiler/Token$Kind"), accessFlags := 16409, slot := 10, constantValue := 0 }, { name := "ASTERISK", type := (.object "com/example/tracewright/tracewright/compiler/Token$Kind"), accessFlags := 16409, slot := 11, constantValue := 0 }, { name := "END_OF_SOURCE", type := (.object "com/example/tracewright/tracewright/compiler/Token$Kind"), accessFlags := 16409, slot := 12, constantValue := 0 }, { name := "description", type := (.object "java/lang/String"), accessFlags := 16, slot := 3, constantValue := 0 }, { name := "$VALUES", type := (.array (.object "com/example/tracewright/tracewright/compiler/Token$Kind")), accessFlags := 4122, slot := 13, constantValue := 0 }]
  methods := #[]
  instanceTypes := #[(.object "java/lang/String"), .int, .int, (.object "java/lang/String")]
  staticTypes := #[(.object "com/example/tracewright/tracewright/compiler/Token$Kind"), (.object "com/example/tracewright/tracewright/compiler/Token$Kind"), (.object "com/example/tracewright/tracewright/compiler/Token$Kind"), (.object "com/example/tracewright/tracewright/compiler/Token$Kind"), (.object "com/example/tracewright/tracewright/compiler/Token$Kind"), (.object "com/example/tracewright/tracewright/compiler/Token$Kind"), (.object "com/example/tracewright/tracewright/compiler/Token$Kind"), (.object "com/example/tracewright/tracewright/compiler/Token$Kind"), (.object "com/example/tracewright/tracewright/compiler/Token$Kind"), (.object "com/example/tracewright/tracewright/compiler/Token$Kind"), (.object "com/example/tracewright/tracewright/compiler/Token$Kind"), (.object "com/example/tracewright/tracewright/compiler/Token$Kind"), (.object "com/example/tracewright/tracewright/compiler/Token$Kind"), (.array (.object "com/example/tracewright/tracewright/compiler/Token$Kind"))]
  resolved := Array.replicate 129 none
  statics := some 0 }

def pool9 : Array CpInfo := pool [(2, .class_ 4), (1, u "java/lang/CharSequence"), (42, .class_ 48), (0, u "java/lang/CharSequence$1CodePointIterator"), (10, .class_ 60), (0, u "java/lang/CharSequence$1CharIterator"), (5, .class_ 67), (0, u "java/lang/Object")] 63

/-- java/lang/CharSequence -/
def k9 : Class := { plain "java/lang/CharSequence" (some 0) with
  accessFlags := 1537
  interfaces := #[]
  cf := some (fileOf pool9 2 #[.nestMembers #[47, 59]] #[] 1537 66 #[] #[])
  fields := #[]
  methods := #[]
  instanceTypes := #[]
  staticTypes := #[]
  resolved := Array.replicate 131 none
  statics := none }

def pool10 : Array CpInfo := pool [(1, .class_ 2), (0, u "java/lang/constant/ConstantDesc"), (0, .class_ 4), (0, u "java/lang/Object")] 32

/-- java/lang/constant/ConstantDesc -/
def k10 : Class := { plain "java/lang/constant/ConstantDesc" (some 0) with
  accessFlags := 1537
  interfaces := #[]
  cf := some (fileOf pool10 1 #[] #[] 1537 3 #[] #[])
  fields := #[]
  methods := #[]
  instanceTypes := #[]
  staticTypes := #[]
  resolved := Array.replicate 37 none
  statics := none }

def pool11 : Array CpInfo := pool [(1, .methodref 2 3), (0, .class_ 4), (0, .nameAndType 5 6), (0, u "java/lang/Object"), (0, u "<init>"), (0, u "()V"), (0, .string 8), (0, u ""), (0, .fieldref 10 11), (0, .class_ 12), (0, .nameAndType 13 14), (0, u "java/lang/String"), (0, u "value"), (0, u "[B"), (0, .fieldref 10 16), (0, .nameAndType 17 18), (0, u "coder"), (0, u "B"), (2, u "hash"), (0, u "I"), (2, u "hashIsZero"), (0, u "Z"), (0, .methodref 10 28), (0, .nameAndType 5 29), (0, u "([CIILjava/lang/Void;)V"), (8, .fieldref 10 39), (0, .nameAndType 40 26), (0, u "COMPACT_STRINGS"), (1, .class_ 44), (1, u "java/lang/StringUTF16"), (0, u "compress"), (1, .methodref 42 48), (0, .nameAndType 49 50), (0, u "coderFromArrayLen"), (0, u "([BI)B"), (56, .class_ 109), (1, u "java/lang/StringLatin1"), (67, .methodref 42 178), (0, .nameAndType 45 179), (0, u "([CII)[B"), (361, .methodref 107 542), (0, .nameAndType 543 544), (0, u "equals"), (0, u "([B[B)Z"), (28, u "(Ljava/lang/Object;)Z"), (1, .class_ 576), (0, u "java/lang/CharSequence"), (22, u "CASE_INSENSITIVE_ORDER"), (0, u "Ljava/util/Comparator;"), (409, u "([C)V"), (90, u "serialPersistentFields"), (0, u "[Ljava/io/ObjectStreamField;"), (0, .class_ 1104), (0, u "java/lang/String$CaseInsensitiveComparator"), (1, .class_ 1107), (0, u "java/io/Serializable"), (0, .class_ 1109), (0, u "java/lang/Comparable"), (0, .class_ 1111), (0, u "java/lang/constant/Constable"), (0, .class_ 1113), (0, u "java/lang/constant/ConstantDesc"), (2, u "serialVersionUID"), (0, u "J"), (3, u "REPL"), (0, u "C"), (2, u "LATIN1"), (1, u "UTF16")] 323

def k11m0 : Method := { name := "<init>", desc := "()V", sig := { parameters := [], returnType := none }, accessFlags := 1, code := none }
def k11c1 : Code := { maxStack := 5, maxLocals := 2, code := jdk_42_method_3_code, exceptionTable := #[], attributes := #[] }
def k11m1 : Method := { name := "<init>", desc := "([C)V", sig := { parameters := [(.array .char)], returnType := none }, accessFlags := 1, code := some k11c1 }
def k11c2 : Code := { maxStack := 2, maxLocals := 3, code := jdk_42_method_66_code, exceptionTable := #[], attributes := #[] }
def k11m2 : Method := { name := "equals", desc := "(Ljava/lang/Object;)Z", sig := { parameters := [(.object "java/lang/Object")], returnType := some .boolean }, accessFlags := 1, code := some k11c2 }
def k11c3 : Code := { maxStack := 4, maxLocals := 6, code := jdk_42_method_149_code, exceptionTable := #[], attributes := #[] }
def k11m3 : Method := { name := "<init>", desc := "([CIILjava/lang/Void;)V", sig := { parameters := [(.array .char), .int, .int, (.object "java/lang/Void")], returnType := none }, accessFlags := 2, code := some k11c3 }
/-- java/lang/String -/
def k11 : Class := { plain "java/lang/String" (some 0) with
  accessFlags := 49
  interfaces := #[6, 5, 9, 4, 10]
  cf := some (fileOf pool11 10 #[.nestMembers #[1103]] #[{ accessFlags := 1, nameIndex := 5, descriptorIndex := 6, attributes := #[] }, { accessFlags := 1, nameIndex := 5, descriptorIndex := 1010, attributes := #[] }, { accessFlags := 1, nameIndex := 543, descriptorIndex := 573, attributes := #[] }, { accessFlags := 2, nameIndex := 5, descriptorIndex := 29, attributes := #[] }] 49 2 #[1106, 1108, 575, 1110, 1112] #[{ accessFlags := 18, nameIndex := 13, descriptorIndex := 14, attributes := #[] }, { accessFlags := 18, nameIndex := 17, descriptorIndex := 18, attributes := #[] }, { accessFlags := 2, nameIndex := 21, descriptorIndex := 22, attributes := #[] }, { accessFlags := 2, nameIndex := 25, descriptorIndex := 26, attributes := #[] }, { accessFlags := 26, nameIndex := 1116, descriptorIndex := 1117, attributes := #[] }, { accessFlags := 24, nameIndex := 40, descriptorIndex := 26, attributes := #[] }, { accessFlags := 26, nameIndex := 1101, descriptorIndex := 1102, attributes := #[] }, { accessFlags := 26, nameIndex := 1121, descriptorIndex := 1122, attributes := #[] }, { accessFlags := 25, nameIndex := 599, descriptorIndex := 600, attributes := #[] }, { accessFlags := 24, nameIndex := 1125, descriptorIndex := 18, attributes := #[] }, { accessFlags := 24, nameIndex := 1127, descriptorIndex := 18, attributes := #[] }])
  fields := #[{ name := "value", type := (.array .byte), accessFlags := 18, slot := 0, constantValue := 0 }, { name := "coder", type := .byte, accessFlags := 18, slot := 1, constantValue := 0 }, { name := "hash", type := .int, accessFlags := 2, slot := 2, constantValue := 0 }, { name := "hashIsZero", type := .boolean, accessFlags := 2, slot := 3, constantValue := 0 }, { name := "serialVersionUID", type := .long, accessFlags := 26, slot := 0, constantValue := 0 }, { name := "COMPACT_STRINGS", type := .boolean, accessFlags := 24, slot := 1, constantValue := 0 }, { name := "serialPersistentFields", type := (.array (.object "java/io/ObjectStreamField")), accessFlags := 26, slot := 2, constantValue := 0 }, { name := "REPL", type := .char, accessFlags := 26, slot := 3, constantValue := 0 }, { name := "CASE_INSENSITIVE_ORDER", type := (.object "java/util/Comparator"), accessFlags := 25, slot := 4, constantValue := 0 }, { name := "LATIN1", type := .byte, accessFlags := 24, slot := 5, constantValue := 0 }, { name := "UTF16", type := .byte, accessFlags := 24, slot := 6, constantValue := 0 }]
  methods := #[k11m0, k11m1, k11m2, k11m3]
  instanceTypes := #[(.array .byte), .byte, .int, .boolean]
  staticTypes := #[.long, .boolean, (.array (.object "java/io/ObjectStreamField")), .char, (.object "java/util/Comparator"), .byte, .byte]
  resolved := Array.replicate 1451 none
  statics := some 1 }

def pool12 : Array CpInfo := pool [(6, .class_ 8), (1, u "java/lang/Object"), (0, u "<init>"), (0, u "()V"), (1, .class_ 14), (1, u "java/lang/StringUTF16"), (31, u "$assertionsDisabled"), (0, u "Z"), (13, u "HI_BYTE_SHIFT"), (0, u "I"), (2, u "LO_BYTE_SHIFT"), (49, .methodref 12 116), (0, .nameAndType 117 118), (0, u "compress"), (0, u "([CI[BII)I"), (3, u "([CII)[B"), (138, u "coderFromArrayLen"), (0, u "([BI)B"), (106, .class_ 371), (1, u "java/lang/StringUTF16$LinesSpliterator"), (58, u "MAX_LENGTH"), (196, .class_ 628), (0, u "java/lang/StringUTF16$CodePointsSpliterator"), (0, .class_ 630), (0, u "java/lang/StringUTF16$CharsSpliterator")] 4

def k12m0 : Method := { name := "<init>", desc := "()V", sig := { parameters := [], returnType := none }, accessFlags := 0, code := none }
def k12c1 : Code := { maxStack := 2, maxLocals := 2, code := jdk_52_method_15_code, exceptionTable := #[], attributes := #[] }
def k12m1 : Method := { name := "coderFromArrayLen", desc := "([BI)B", sig := { parameters := [(.array .byte), .int], returnType := some .byte }, accessFlags := 8, code := some k12c1 }
def k12c2 : Code := { maxStack := 5, maxLocals := 6, code := jdk_52_method_16_code, exceptionTable := #[], attributes := #[] }
def k12m2 : Method := { name := "compress", desc := "([CII)[B", sig := { parameters := [(.array .char), .int, .int], returnType := some (.array .byte) }, accessFlags := 9, code := some k12c2 }
def k12c3 : Code := { maxStack := 3, maxLocals := 7, code := jdk_52_method_21_code, exceptionTable := #[], attributes := #[] }
def k12m3 : Method := { name := "compress", desc := "([CI[BII)I", sig := { parameters := [(.array .char), .int, (.array .byte), .int, .int], returnType := some .int }, accessFlags := 9, code := some k12c3 }
/-- java/lang/StringUTF16 -/
def k12 : Class := { plain "java/lang/StringUTF16" (some 0) with
  accessFlags := 48
  interfaces := #[]
  cf := some (fileOf pool12 12 #[.nestMembers #[627, 629, 369]] #[{ accessFlags := 0, nameIndex := 9, descriptorIndex := 10, attributes := #[] }, { accessFlags := 8, nameIndex := 261, descriptorIndex := 262, attributes := #[] }, { accessFlags := 9, nameIndex := 117, descriptorIndex := 122, attributes := #[] }, { accessFlags := 9, nameIndex := 117, descriptorIndex := 118, attributes := #[] }] 48 6 #[] #[{ accessFlags := 26, nameIndex := 61, descriptorIndex := 62, attributes := #[] }, { accessFlags := 26, nameIndex := 65, descriptorIndex := 62, attributes := #[] }, { accessFlags := 24, nameIndex := 430, descriptorIndex := 62, attributes := #[] }, { accessFlags := 4120, nameIndex := 46, descriptorIndex := 47, attributes := #[] }])
  fields := #[{ name := "HI_BYTE_SHIFT", type := .int, accessFlags := 26, slot := 0, constantValue := 0 }, { name := "LO_BYTE_SHIFT", type := .int, accessFlags := 26, slot := 1, constantValue := 0 }, { name := "MAX_LENGTH", type := .int, accessFlags := 24, slot := 2, constantValue := 0 }, { name := "$assertionsDisabled", type := .boolean, accessFlags := 4120, slot := 3, constantValue := 0 }]
  methods := #[k12m0, k12m1, k12m2, k12m3]
  instanceTypes := #[]
  staticTypes := #[.int, .int, .int, .boolean]
  resolved := Array.replicate 635 none
  statics := none }

def pool13 : Array CpInfo := pool [(4, .class_ 6), (1, u "java/lang/Object"), (0, u "<init>"), (0, u "()V"), (5, .class_ 16), (1, u "java/lang/StringLatin1"), (104, u "$assertionsDisabled"), (0, u "Z"), (98, .class_ 223), (1, u "java/lang/StringLatin1$LinesSpliterator"), (57, u "equals"), (0, u "([B[B)Z"), (107, .class_ 391), (0, u "java/lang/StringLatin1$CharsSpliterator")] 3

def k13m0 : Method := { name := "<init>", desc := "()V", sig := { parameters := [], returnType := none }, accessFlags := 0, code := none }
def k13c1 : Code := { maxStack := 3, maxLocals := 3, code := jdk_43_method_13_code, exceptionTable := #[], attributes := #[] }
def k13m1 : Method := { name := "equals", desc := "([B[B)Z", sig := { parameters := [(.array .byte), (.array .byte)], returnType := some .boolean }, accessFlags := 9, code := some k13c1 }
/-- java/lang/StringLatin1 -/
def k13 : Class := { plain "java/lang/StringLatin1" (some 0) with
  accessFlags := 48
  interfaces := #[]
  cf := some (fileOf pool13 14 #[.nestMembers #[390, 221]] #[{ accessFlags := 0, nameIndex := 7, descriptorIndex := 8, attributes := #[] }, { accessFlags := 9, nameIndex := 281, descriptorIndex := 282, attributes := #[] }] 48 4 #[] #[{ accessFlags := 4120, nameIndex := 121, descriptorIndex := 122, attributes := #[] }])
  fields := #[{ name := "$assertionsDisabled", type := .boolean, accessFlags := 4120, slot := 0, constantValue := 0 }]
  methods := #[k13m0, k13m1]
  instanceTypes := #[]
  staticTypes := #[.boolean]
  resolved := Array.replicate 395 none
  statics := none }

def pool14 : Array CpInfo := pool [(2, .class_ 4), (1, u "java/lang/Object"), (0, u "<init>"), (0, u "()V"), (17, .class_ 26), (1, u "jdk/internal/util/Preconditions"), (28, .class_ 56), (0, u "jdk/internal/util/Preconditions$4"), (57, .class_ 115), (0, u "jdk/internal/util/Preconditions$1"), (7, u "SIOOBE_FORMATTER"), (0, u "Ljava/util/function/BiFunction;"), (0, .class_ 126), (0, u "jdk/internal/util/Preconditions$2"), (3, u "AIOOBE_FORMATTER"), (0, .class_ 132), (0, u "jdk/internal/util/Preconditions$3"), (3, u "IOOBE_FORMATTER")] 57

def k14m0 : Method := { name := "<init>", desc := "()V", sig := { parameters := [], returnType := none }, accessFlags := 1, code := none }
/-- jdk/internal/util/Preconditions -/
def k14 : Class := { plain "jdk/internal/util/Preconditions" (some 0) with
  accessFlags := 33
  interfaces := #[]
  cf := some (fileOf pool14 24 #[.nestMembers #[55, 131, 125, 114]] #[{ accessFlags := 1, nameIndex := 5, descriptorIndex := 6, attributes := #[] }] 33 2 #[] #[{ accessFlags := 25, nameIndex := 123, descriptorIndex := 124, attributes := #[] }, { accessFlags := 25, nameIndex := 130, descriptorIndex := 124, attributes := #[] }, { accessFlags := 25, nameIndex := 136, descriptorIndex := 124, attributes := #[] }])
  fields := #[{ name := "SIOOBE_FORMATTER", type := (.object "java/util/function/BiFunction"), accessFlags := 25, slot := 0, constantValue := 0 }, { name := "AIOOBE_FORMATTER", type := (.object "java/util/function/BiFunction"), accessFlags := 25, slot := 1, constantValue := 0 }, { name := "IOOBE_FORMATTER", type := (.object "java/util/function/BiFunction"), accessFlags := 25, slot := 2, constantValue := 0 }]
  methods := #[k14m0]
  instanceTypes := #[]
  staticTypes := #[(.object "java/util/function/BiFunction"), (.object "java/util/function/BiFunction"), (.object "java/util/function/BiFunction")]
  resolved := Array.replicate 194 none
  statics := some 2 }

def pool15 : Array CpInfo := pool [(9, u "<init>"), (6, .class_ 18), (1, u "java/lang/Object"), (0, u "()V"), (1, .class_ 23), (1, u "jdk/internal/util/ArraysSupport"), (0, u "LOG2_ARRAY_LONG_INDEX_SCALE"), (0, u "I"), (2, u "U"), (0, u "Ljdk/internal/misc/Unsafe;"), (8, u "BIG_ENDIAN"), (0, u "Z"), (8, u "LOG2_BYTE_BIT_SIZE"), (4, u "LOG2_ARRAY_INT_INDEX_SCALE"), (54, u "JLA"), (0, u "Ljdk/internal/access/JavaLangAccess;"), (11, u "LOG2_ARRAY_BOOLEAN_INDEX_SCALE"), (9, u "LOG2_ARRAY_BYTE_INDEX_SCALE"), (5, u "LOG2_ARRAY_CHAR_INDEX_SCALE"), (5, u "LOG2_ARRAY_SHORT_INDEX_SCALE"), (18, u "LOG2_ARRAY_FLOAT_INDEX_SCALE"), (24, u "LOG2_ARRAY_DOUBLE_INDEX_SCALE"), (89, u "T_BOOLEAN"), (2, u "T_CHAR"), (1, u "T_FLOAT"), (1, u "T_DOUBLE"), (1, u "T_BYTE"), (1, u "T_SHORT"), (1, u "T_INT"), (1, u "T_LONG"), (1, u "SOFT_MAX_ARRAY_LENGTH")] 83

def k15m0 : Method := { name := "<init>", desc := "()V", sig := { parameters := [], returnType := none }, accessFlags := 2, code := none }
/-- jdk/internal/util/ArraysSupport -/
def k15 : Class := { plain "jdk/internal/util/ArraysSupport" (some 0) with
  accessFlags := 33
  interfaces := #[]
  cf := some (fileOf pool15 21 #[] #[{ accessFlags := 2, nameIndex := 9, descriptorIndex := 19, attributes := #[] }] 33 16 #[] #[{ accessFlags := 24, nameIndex := 28, descriptorIndex := 29, attributes := #[] }, { accessFlags := 26, nameIndex := 38, descriptorIndex := 39, attributes := #[] }, { accessFlags := 25, nameIndex := 121, descriptorIndex := 25, attributes := #[] }, { accessFlags := 25, nameIndex := 131, descriptorIndex := 25, attributes := #[] }, { accessFlags := 25, nameIndex := 137, descriptorIndex := 25, attributes := #[] }, { accessFlags := 25, nameIndex := 143, descriptorIndex := 25, attributes := #[] }, { accessFlags := 25, nameIndex := 53, descriptorIndex := 25, attributes := #[] }, { accessFlags := 25, nameIndex := 24, descriptorIndex := 25, attributes := #[] }, { accessFlags := 25, nameIndex := 162, descriptorIndex := 25, attributes := #[] }, { accessFlags := 25, nameIndex := 187, descriptorIndex := 25, attributes := #[] }, { accessFlags := 26, nameIndex := 48, descriptorIndex := 25, attributes := #[] }, { accessFlags := 25, nameIndex := 277, descriptorIndex := 25, attributes := #[] }, { accessFlags := 25, nameIndex := 280, descriptorIndex := 25, attributes := #[] }, { accessFlags := 25, nameIndex := 282, descriptorIndex := 25, attributes := #[] }, { accessFlags := 25, nameIndex := 284, descriptorIndex := 25, attributes := #[] }, { accessFlags := 25, nameIndex := 286, descriptorIndex := 25, attributes := #[] }, { accessFlags := 25, nameIndex := 288, descriptorIndex := 25, attributes := #[] }, { accessFlags := 25, nameIndex := 290, descriptorIndex := 25, attributes := #[] }, { accessFlags := 25, nameIndex := 292, descriptorIndex := 25, attributes := #[] }, { accessFlags := 26, nameIndex := 108, descriptorIndex := 109, attributes := #[] }, { accessFlags := 25, nameIndex := 294, descriptorIndex := 25, attributes := #[] }])
  fields := #[{ name := "U", type := (.object "jdk/internal/misc/Unsafe"), accessFlags := 24, slot := 0, constantValue := 0 }, { name := "BIG_ENDIAN", type := .boolean, accessFlags := 26, slot := 1, constantValue := 0 }, { name := "LOG2_ARRAY_BOOLEAN_INDEX_SCALE", type := .int, accessFlags := 25, slot := 2, constantValue := 0 }, { name := "LOG2_ARRAY_BYTE_INDEX_SCALE", type := .int, accessFlags := 25, slot := 3, constantValue := 0 }, { name := "LOG2_ARRAY_CHAR_INDEX_SCALE", type := .int, accessFlags := 25, slot := 4, constantValue := 0 }, { name := "LOG2_ARRAY_SHORT_INDEX_SCALE", type := .int, accessFlags := 25, slot := 5, constantValue := 0 }, { name := "LOG2_ARRAY_INT_INDEX_SCALE", type := .int, accessFlags := 25, slot := 6, constantValue := 0 }, { name := "LOG2_ARRAY_LONG_INDEX_SCALE", type := .int, accessFlags := 25, slot := 7, constantValue := 0 }, { name := "LOG2_ARRAY_FLOAT_INDEX_SCALE", type := .int, accessFlags := 25, slot := 8, constantValue := 0 }, { name := "LOG2_ARRAY_DOUBLE_INDEX_SCALE", type := .int, accessFlags := 25, slot := 9, constantValue := 0 }, { name := "LOG2_BYTE_BIT_SIZE", type := .int, accessFlags := 26, slot := 10, constantValue := 0 }, { name := "T_BOOLEAN", type := .int, accessFlags := 25, slot := 11, constantValue := 0 }, { name := "T_CHAR", type := .int, accessFlags := 25, slot := 12, constantValue := 0 }, { name := "T_FLOAT", type := .int, accessFlags := 25, slot := 13, constantValue := 0 }, { name := "T_DOUBLE", type := .int, accessFlags := 25, slot := 14, constantValue := 0 }, { name := "T_BYTE", type := .int, accessFlags := 25, slot := 15, constantValue := 0 }, { name := "T_SHORT", type := .int, accessFlags := 25, slot := 16, constantValue := 0 }, { name := "T_INT", type := .int, accessFlags := 25, slot := 17, constantValue := 0 }, { name := "T_LONG", type := .int, accessFlags := 25, slot := 18, constantValue := 0 }, { name := "JLA", type := (.object "jdk/internal/access/JavaLangAccess"), accessFlags := 26, slot := 19, constantValue := 0 }, { name := "SOFT_MAX_ARRAY_LENGTH", type := .int, accessFlags := 25, slot := 20, constantValue := 0 }]
  methods := #[k15m0]
  instanceTypes := #[]
  staticTypes := #[(.object "jdk/internal/misc/Unsafe"), .boolean, .int, .int, .int, .int, .int, .int, .int, .int, .int, .int, .int, .int, .int, .int, .int, .int, .int, (.object "jdk/internal/access/JavaLangAccess"), .int]
  resolved := Array.replicate 378 none
  statics := none }

def pool16 : Array CpInfo := pool [(1, u "java/lang/Cloneable"), (0, .class_ 1), (0, u "java/lang/Object"), (0, .class_ 3)] 3

/-- java/lang/Cloneable -/
def k16 : Class := { plain "java/lang/Cloneable" (some 0) with
  accessFlags := 1537
  interfaces := #[]
  cf := some (fileOf pool16 2 #[] #[] 1537 4 #[] #[])
  fields := #[]
  methods := #[]
  instanceTypes := #[]
  staticTypes := #[]
  resolved := Array.replicate 8 none
  statics := none }

/-- the primitive byte -/
def k17 : Class := { plain "byte" none with kind := .primitive 'B', accessFlags := 0x411 }
/-- [B -/
def k18 : Class := { plain "[B" (some 0) with kind := .array 17 .byte, interfaces := #[16, 6], accessFlags := 1041 }

/-- the primitive char -/
def k19 : Class := { plain "char" none with kind := .primitive 'C', accessFlags := 0x411 }
/-- [C -/
def k20 : Class := { plain "[C" (some 0) with kind := .array 19 .char, interfaces := #[16, 6], accessFlags := 1041 }

/-- the primitive int -/
def k21 : Class := { plain "int" none with kind := .primitive 'I', accessFlags := 0x411 }
/-- [I -/
def k22 : Class := { plain "[I" (some 0) with kind := .array 21 .int, interfaces := #[16, 6], accessFlags := 1041 }

def heap : Heap := #[{ cls := 8, slots := #[.ref 3, .ref 4, .ref 5, .ref 6, .ref 7, .ref 8, .ref 9, .ref 10, .ref 11, .ref 12, .ref 13, .ref 14, .ref 15, .null], vm := .statics 8 },
  { cls := 11, slots := #[.long 0, .int 1, .null, .int 0, .null, .int 0, .int 0], vm := .statics 11 },
  { cls := 14, slots := #[.null, .null, .null], vm := .statics 14 },
  { cls := 8, slots := #[.null, .int 0, .int 0, .null], vm := .none },
  { cls := 8, slots := #[.null, .int 1, .int 0, .null], vm := .none },
  { cls := 8, slots := #[.null, .int 2, .int 0, .null], vm := .none },
  { cls := 8, slots := #[.null, .int 3, .int 0, .null], vm := .none },
  { cls := 8, slots := #[.null, .int 4, .int 0, .null], vm := .none },
  { cls := 8, slots := #[.null, .int 5, .int 0, .null], vm := .none },
  { cls := 8, slots := #[.null, .int 6, .int 0, .null], vm := .none },
  { cls := 8, slots := #[.null, .int 7, .int 0, .null], vm := .none },
  { cls := 8, slots := #[.null, .int 8, .int 0, .null], vm := .none },
  { cls := 8, slots := #[.null, .int 9, .int 0, .null], vm := .none },
  { cls := 8, slots := #[.null, .int 10, .int 0, .null], vm := .none },
  { cls := 8, slots := #[.null, .int 11, .int 0, .null], vm := .none },
  { cls := 8, slots := #[.null, .int 12, .int 0, .null], vm := .none }]
def classes : Array Class := #[k0, k1, k2, k3, k4, k5, k6, k7, k8, k9, k10, k11, k12, k13, k14, k15, k16, k17, k18, k19, k20, k21, k22]
def interned : List (Array UInt16 × Addr) := []
def slotsUsed : Nat := 76
def theMethod : MethodId := ⟨1, 3⟩
def args0 : Array Value := #[.int 5, .int 7, .int 300, .int 9, .int 3]
def aboutOver (below : List Frame) : State where
  vm := { classes := classes, interned := interned.toArray }
  heap := heap
  slotsUsed := slotsUsed
  threads := #[{ frames := .invoking theMethod args0 :: below }]
def below0 : List Frame := [.native { method := ⟨0, 0⟩, args := #[] }]
def about1 : State := aboutOver below0
def p0 : Program := .bare "" "" ""
def e0 : Env := launch0.env 0 0 0
theorem w_frames : about1.frames = Frame.invoking theMethod args0 :: below0 := rfl
set_option maxRecDepth 65536 in
theorem w_args : argsFit about1.vm theMethod args0 = true := by decide +kernel
set_option maxRecDepth 65536 in
theorem w_heap : heapFits about1 = true := by decide +kernel
set_option maxRecDepth 65536 in
theorem w_runnable : about1.curStatus? = some .runnable := by decide +kernel
set_option maxRecDepth 65536 in
theorem w_alone : about1.alone = true := by decide +kernel
set_option maxRecDepth 65536 in
theorem w_named : about1.methodNamed? x = some theMethod := by decide +kernel
set_option maxRecDepth 65536 in
theorem w_hears : about1.hears theMethod below0 = true := by decide +kernel
set_option maxRecDepth 65536 in
theorem w_ripe : about1.ripe theMethod args0 below0 = true := by decide +kernel
theorem w_running : about1.status = .running := rfl
set_option maxRecDepth 65536 in
theorem w_room : about1.hasRoom e0.platform room_1 = true :=
  launch0.hasRoom_least _ room_1 (by decide +kernel) (by decide +kernel) (by decide +kernel) (by decide +kernel) (by decide +kernel) (by decide +kernel)
theorem allAtoms_all (ts : List Jvm.Cond) (a : Array Jvm.Value) (st : Jvm.State) : (allAtoms ts).before a st = ts.all (fun c => c.before a st) := by
  induction ts with
  | nil => rfl
  | cons c t ih =>
    show (Jvm.Cond.and c (allAtoms t)).before a st = _
    rw [Jvm.Cond.before_and, ih, List.all_cons]
def words1 : List Jvm.Cond := Jvm.Cond.code x code maxLocals ret :: tables_1
/-- a 'code' word, met by the world's own term for the bytes: nothing is compared byte by byte -/
theorem code_word {y : MethodName} {bytes : ByteArray} {mx : Nat} {rt : Option FieldType} {a : Array Value} {s : State} {m : MethodId} {meth : Method} {c : Code} (h1 : s.methodNamed? y = some m) (h2 : s.vm.method? m = some meth) (h3 : meth.code = some c) (h4 : c.code = bytes)
    (h5 : (c.maxLocals == mx && c.exceptionTable.isEmpty && decide (c.maxStack ≤ mostOperands) && decide (meth.sig.returnType = rt) && !meth.locks && decide (parseMethodDescriptor y.desc = some meth.sig)) = true) : (Jvm.Cond.code y bytes mx rt).before a s = true := by
  simp only [Bool.and_eq_true, beq_iff_eq, Bool.not_eq_true', decide_eq_true_eq] at h5
  obtain ⟨⟨⟨⟨⟨g1, g2⟩, g3⟩, g4⟩, g5⟩, g6⟩ := h5
  simp [Cond.before, Cond.holds, Cond.value, h1, h2, h3, h4, g1, g2, g3, g4, g5, g6]
def isCode : Jvm.Cond → Bool
  | .code _ _ _ _ => true
  | _ => false
theorem all_split {L : List Jvm.Cond} {P : Jvm.Cond → Bool} (h1 : L.all (fun c => isCode c || P c) = true) (h2 : ∀ c ∈ L.filter isCode, P c = true) : L.all P = true := by
  refine List.all_eq_true.mpr fun c hc => ?_
  have h := List.all_eq_true.mp h1 c hc
  rcases Bool.eq_false_or_eq_true (isCode c) with hi | hi
  · exact h2 c (List.mem_filter.mpr ⟨hc, hi⟩)
  · simpa [hi] using h
set_option maxRecDepth 65536 in
theorem w_c0 : (Jvm.Cond.code x code maxLocals ret).before args0 about1 = true := code_word (m := ⟨1, 3⟩) (meth := k1m3) (c := k1c3) (by decide +kernel) rfl rfl rfl (by decide +kernel)
set_option maxRecDepth 65536 in
theorem w_c1 : (Jvm.Cond.code ({ cls := "com/example/tracewright/tracewright/compiler/TokenIsWordPinLaw", name := "kindOf", desc := "(I)Lcom/example/tracewright/tracewright/compiler/Token$Kind;" } : Jvm.MethodName) method_2_code (1 : Nat) (Option.some (Jvm.ClassFile.FieldType.object "com/example/tracewright/tracewright/compiler/Token$Kind"))).before args0 about1 = true := code_word (m := ⟨1, 1⟩) (meth := k1m1) (c := k1c1) (by decide +kernel) rfl rfl rfl (by decide +kernel)
set_option maxRecDepth 65536 in
theorem w_c2 : (Jvm.Cond.code ({ cls := "com/example/tracewright/tracewright/compiler/TokenIsWordPinLaw", name := "str", desc := "(ICC)Ljava/lang/String;" } : Jvm.MethodName) method_3_code (3 : Nat) (Option.some (Jvm.ClassFile.FieldType.object "java/lang/String"))).before args0 about1 = true := code_word (m := ⟨1, 2⟩) (meth := k1m2) (c := k1c2) (by decide +kernel) rfl rfl rfl (by decide +kernel)
set_option maxRecDepth 65536 in
theorem w_c3 : (Jvm.Cond.code ({ cls := "java/lang/String", name := "<init>", desc := "([C)V" } : Jvm.MethodName) jdk_42_method_3_code (2 : Nat) (Option.none : Option Jvm.ClassFile.FieldType)).before args0 about1 = true := code_word (m := ⟨11, 1⟩) (meth := k11m1) (c := k11c1) (by decide +kernel) rfl rfl rfl (by decide +kernel)
set_option maxRecDepth 65536 in
theorem w_c4 : (Jvm.Cond.code ({ cls := "java/lang/String", name := "<init>", desc := "([CIILjava/lang/Void;)V" } : Jvm.MethodName) jdk_42_method_149_code (6 : Nat) (Option.none : Option Jvm.ClassFile.FieldType)).before args0 about1 = true := code_word (m := ⟨11, 3⟩) (meth := k11m3) (c := k11c3) (by decide +kernel) rfl rfl rfl (by decide +kernel)
set_option maxRecDepth 65536 in
theorem w_c5 : (Jvm.Cond.code ({ cls := "java/lang/Object", name := "<init>", desc := "()V" } : Jvm.MethodName) object_method_1_code (1 : Nat) (Option.none : Option Jvm.ClassFile.FieldType)).before args0 about1 = true := code_word (m := ⟨0, 0⟩) (meth := k0m0) (c := k0c0) (by decide +kernel) rfl rfl rfl (by decide +kernel)
set_option maxRecDepth 65536 in
theorem w_c6 : (Jvm.Cond.code ({ cls := "java/lang/StringUTF16", name := "compress", desc := "([CII)[B" } : Jvm.MethodName) jdk_52_method_16_code (6 : Nat) (Option.some (Jvm.ClassFile.FieldType.array Jvm.ClassFile.FieldType.byte))).before args0 about1 = true := code_word (m := ⟨12, 2⟩) (meth := k12m2) (c := k12c2) (by decide +kernel) rfl rfl rfl (by decide +kernel)
set_option maxRecDepth 65536 in
theorem w_c7 : (Jvm.Cond.code ({ cls := "java/lang/StringUTF16", name := "compress", desc := "([CI[BII)I" } : Jvm.MethodName) jdk_52_method_21_code (7 : Nat) (Option.some Jvm.ClassFile.FieldType.int)).before args0 about1 = true := code_word (m := ⟨12, 3⟩) (meth := k12m3) (c := k12c3) (by decide +kernel) rfl rfl rfl (by decide +kernel)
set_option maxRecDepth 65536 in
theorem w_c8 : (Jvm.Cond.code ({ cls := "java/lang/StringUTF16", name := "coderFromArrayLen", desc := "([BI)B" } : Jvm.MethodName) jdk_52_method_15_code (2 : Nat) (Option.some Jvm.ClassFile.FieldType.byte)).before args0 about1 = true := code_word (m := ⟨12, 1⟩) (meth := k12m1) (c := k12c1) (by decide +kernel) rfl rfl rfl (by decide +kernel)
set_option maxRecDepth 65536 in
theorem w_c9 : (Jvm.Cond.code ({ cls := "com/example/tracewright/tracewright/compiler/Token", name := "<init>", desc := "(Lcom/example/tracewright/tracewright/compiler/Token$Kind;Ljava/lang/String;I)V" } : Jvm.MethodName) prog_8_method_1_code (4 : Nat) (Option.none : Option Jvm.ClassFile.FieldType)).before args0 about1 = true := code_word (m := ⟨3, 0⟩) (meth := k3m0) (c := k3c0) (by decide +kernel) rfl rfl rfl (by decide +kernel)
set_option maxRecDepth 65536 in
theorem w_c10 : (Jvm.Cond.code ({ cls := "java/lang/Record", name := "<init>", desc := "()V" } : Jvm.MethodName) jdk_30_method_1_code (1 : Nat) (Option.none : Option Jvm.ClassFile.FieldType)).before args0 about1 = true := code_word (m := ⟨2, 0⟩) (meth := k2m0) (c := k2c0) (by decide +kernel) rfl rfl rfl (by decide +kernel)
set_option maxRecDepth 65536 in
theorem w_c11 : (Jvm.Cond.code ({ cls := "com/example/tracewright/tracewright/compiler/Token", name := "isWord", desc := "(Ljava/lang/String;)Z" } : Jvm.MethodName) prog_8_method_3_code (2 : Nat) (Option.some Jvm.ClassFile.FieldType.boolean)).before args0 about1 = true := code_word (m := ⟨3, 1⟩) (meth := k3m1) (c := k3c1) (by decide +kernel) rfl rfl rfl (by decide +kernel)
set_option maxRecDepth 65536 in
theorem w_c12 : (Jvm.Cond.code ({ cls := "java/lang/String", name := "equals", desc := "(Ljava/lang/Object;)Z" } : Jvm.MethodName) jdk_42_method_66_code (3 : Nat) (Option.some Jvm.ClassFile.FieldType.boolean)).before args0 about1 = true := code_word (m := ⟨11, 2⟩) (meth := k11m2) (c := k11c2) (by decide +kernel) rfl rfl rfl (by decide +kernel)
set_option maxRecDepth 65536 in
theorem w_c13 : (Jvm.Cond.code ({ cls := "java/lang/StringLatin1", name := "equals", desc := "([B[B)Z" } : Jvm.MethodName) jdk_43_method_13_code (3 : Nat) (Option.some Jvm.ClassFile.FieldType.boolean)).before args0 about1 = true := code_word (m := ⟨13, 1⟩) (meth := k13m1) (c := k13c1) (by decide +kernel) rfl rfl rfl (by decide +kernel)
def codes1 : List Jvm.Cond := [Jvm.Cond.code x code maxLocals ret, Jvm.Cond.code ({ cls := "com/example/tracewright/tracewright/compiler/TokenIsWordPinLaw", name := "kindOf", desc := "(I)Lcom/example/tracewright/tracewright/compiler/Token$Kind;" } : Jvm.MethodName) method_2_code (1 : Nat) (Option.some (Jvm.ClassFile.FieldType.object "com/example/tracewright/tracewright/compiler/Token$Kind")), Jvm.Cond.code ({ cls := "com/example/tracewright/tracewright/compiler/TokenIsWordPinLaw", name := "str", desc := "(ICC)Ljava/lang/String;" } : Jvm.MethodName) method_3_code (3 : Nat) (Option.some (Jvm.ClassFile.FieldType.object "java/lang/String")), Jvm.Cond.code ({ cls := "java/lang/String", name := "<init>", desc := "([C)V" } : Jvm.MethodName) jdk_42_method_3_code (2 : Nat) (Option.none : Option Jvm.ClassFile.FieldType), Jvm.Cond.code ({ cls := "java/lang/String", name := "<init>", desc := "([CIILjava/lang/Void;)V" } : Jvm.MethodName) jdk_42_method_149_code (6 : Nat) (Option.none : Option Jvm.ClassFile.FieldType), Jvm.Cond.code ({ cls := "java/lang/Object", name := "<init>", desc := "()V" } : Jvm.MethodName) object_method_1_code (1 : Nat) (Option.none : Option Jvm.ClassFile.FieldType), Jvm.Cond.code ({ cls := "java/lang/StringUTF16", name := "compress", desc := "([CII)[B" } : Jvm.MethodName) jdk_52_method_16_code (6 : Nat) (Option.some (Jvm.ClassFile.FieldType.array Jvm.ClassFile.FieldType.byte)), Jvm.Cond.code ({ cls := "java/lang/StringUTF16", name := "compress", desc := "([CI[BII)I" } : Jvm.MethodName) jdk_52_method_21_code (7 : Nat) (Option.some Jvm.ClassFile.FieldType.int), Jvm.Cond.code ({ cls := "java/lang/StringUTF16", name := "coderFromArrayLen", desc := "([BI)B" } : Jvm.MethodName) jdk_52_method_15_code (2 : Nat) (Option.some Jvm.ClassFile.FieldType.byte), Jvm.Cond.code ({ cls := "com/example/tracewright/tracewright/compiler/Token", name := "<init>", desc := "(Lcom/example/tracewright/tracewright/compiler/Token$Kind;Ljava/lang/String;I)V" } : Jvm.MethodName) prog_8_method_1_code (4 : Nat) (Option.none : Option Jvm.ClassFile.FieldType), Jvm.Cond.code ({ cls := "java/lang/Record", name := "<init>", desc := "()V" } : Jvm.MethodName) jdk_30_method_1_code (1 : Nat) (Option.none : Option Jvm.ClassFile.FieldType), Jvm.Cond.code ({ cls := "com/example/tracewright/tracewright/compiler/Token", name := "isWord", desc := "(Ljava/lang/String;)Z" } : Jvm.MethodName) prog_8_method_3_code (2 : Nat) (Option.some Jvm.ClassFile.FieldType.boolean), Jvm.Cond.code ({ cls := "java/lang/String", name := "equals", desc := "(Ljava/lang/Object;)Z" } : Jvm.MethodName) jdk_42_method_66_code (3 : Nat) (Option.some Jvm.ClassFile.FieldType.boolean), Jvm.Cond.code ({ cls := "java/lang/StringLatin1", name := "equals", desc := "([B[B)Z" } : Jvm.MethodName) jdk_43_method_13_code (3 : Nat) (Option.some Jvm.ClassFile.FieldType.boolean)]
set_option maxRecDepth 65536 in
theorem codes_eq : words1.filter isCode = codes1 := rfl
theorem w_codes : ∀ c ∈ words1.filter isCode, c.before args0 about1 = true := by
  rw [codes_eq]
  intro c hc
  simp only [codes1, List.mem_cons, List.not_mem_nil, or_false] at hc
  rcases hc with rfl | rfl | rfl | rfl | rfl | rfl | rfl | rfl | rfl | rfl | rfl | rfl | rfl | rfl
  · exact w_c0
  · exact w_c1
  · exact w_c2
  · exact w_c3
  · exact w_c4
  · exact w_c5
  · exact w_c6
  · exact w_c7
  · exact w_c8
  · exact w_c9
  · exact w_c10
  · exact w_c11
  · exact w_c12
  · exact w_c13
set_option maxRecDepth 65536 in
theorem w_t1 : (words1.take 24).all (fun c => isCode c || c.before args0 about1) = true := by decide +kernel
set_option maxRecDepth 65536 in
theorem w_t2 : ((words1.drop 24).take 24).all (fun c => isCode c || c.before args0 about1) = true := by decide +kernel
set_option maxRecDepth 65536 in
theorem w_t3 : (((words1.drop 24).drop 24).take 24).all (fun c => isCode c || c.before args0 about1) = true := by decide +kernel
set_option maxRecDepth 65536 in
theorem w_t4 : ((((words1.drop 24).drop 24).drop 24).take 24).all (fun c => isCode c || c.before args0 about1) = true := by decide +kernel
set_option maxRecDepth 65536 in
theorem w_t5 : ((((words1.drop 24).drop 24).drop 24).drop 24).all (fun c => isCode c || c.before args0 about1) = true := by decide +kernel
theorem w_tables : (allAtoms (Jvm.Cond.code x code maxLocals ret :: tables_1)).before args0 about1 = true := by
  rw [allAtoms_all]
  show words1.all (fun c => c.before args0 about1) = true
  refine all_split ?_ w_codes
  rw [← List.take_append_drop 24 words1, List.all_append, w_t1, ← List.take_append_drop 24 (words1.drop 24), List.all_append, w_t2, ← List.take_append_drop 24 ((words1.drop 24).drop 24), List.all_append, w_t3, ← List.take_append_drop 24 (((words1.drop 24).drop 24).drop 24), List.all_append, w_t4, w_t5]
  rfl
set_option maxRecDepth 65536 in
theorem w_rest : rest_1_c.before args0 about1 = true := by decide +kernel
set_option maxRecDepth 65536 in
theorem w_case : (Jvm.Cond.and given_1 narrow_1).before args0 about1 = true := by decide +kernel
set_option maxRecDepth 65536 in
theorem w_consts : constsHeld consts_1 about1 := Jvm.Lit.constsHeldB_iff.mp (by decide +kernel)
theorem w_applies : (headSpec (Jvm.Cond.code x code maxLocals ret :: tables_1) room_1).applies x e0.platform about1 = true :=
  (Spec.applies_iff w_frames).mpr ⟨w_running, w_runnable, w_alone, w_named, w_hears, w_ripe, w_room, w_tables⟩
theorem atStart : AtStart classFile x code maxLocals ret World_1 tables_1 room_1 Calls_1 rest_1 Pre_1 launch0 p0 e0 about1 theMethod args0 below0 :=
  ⟨lists_1, trivial, launch0.admits_env _ _ _, launch0.least_env, fairChoices_fair.cas, fairChoices_fair.clock, w_frames, w_args, w_heap, w_applies, ⟨w_consts, trivial⟩, w_rest, w_case⟩
end start1
theorem witness_1 : WitnessClaimed_1 := ⟨start1.p0, start1.e0, start1.about1, start1.theMethod, start1.args0, start1.below0, start1.atStart⟩
end Jvm.Pilot.@@N@@
